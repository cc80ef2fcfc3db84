import JvmDerived
import JvmDerived.Pilot.@@N@@Statement
import JvmDerived.Pilot.@@N@@Code
set_option linter.unusedVariables false
set_option linter.unusedSimpArgs false
@@BLOCK:NumsL.lean.txt@@
namespace Jvm.RoadKit
open Sem ClassFile Op Lib Jvm.Stand Jvm.Free Jvm.LawKit
section New
variable {p : Program} {l : Launch} {e : Env} {R : Room} {s : State} {m : MethodId} {args : Array Value} {below : List Frame} {meth : Method} {c : Code} {T : State} {locs : List Loc} {cells slots : Nat}
theorem retI (X : Stand p l e R s m args below meth c T locs cells slots) (hx : p.tables.exec = Jvm.exec) {pc : Nat} {Ls : Array Slot} {z : Int32} {rest : List Value} (hret : meth.sig.returnType = some .int) (hd : decode c.code pc = .ok (.ireturn, 1)) {fs : List Frame}
    (hl : ∀ (f : JFrame) (acts : List Action), f.method = m → f.locked = none → f.entered = [] → (doReturn e (T.setTop f) acts (some (.int z))).1 = T.setFrames fs) : Steps p.tables e below (T.setTop (mkF m pc Ls (.int z :: rest))) (T.setFrames fs) := by
  have hm' : T.vm.method? m = some meth := X.method'
  have hn : narrow .int (.int z) = .int z := rfl
  show Steps p.tables e below (T.setTop { method := m, pc := pc, locals := Ls, stack := _ :: rest, locked := none }) _
  jvm_step X.here [X.here.top, hx, hd, hm', hret, hn]
  first | (intro acts; rw [hl _ acts rfl rfl rfl]) | rw [hl _ _ rfl rfl rfl]
  exact Steps.refl _
end New
end Jvm.RoadKit
namespace Jvm.Pilot.@@N@@
open Jvm Jvm.ClassFile Sem Op Lib Jvm.Free Jvm.Stand Jvm.LawKit Jvm.RoadKit Bundle Jvm.Pilot.@@N@@.Jvm.D
theorem own_lwN {x y : Int64} (h : ¬ x = y) : ¬ lcmpW x y = 0 := fun q => h ((lw_eq x y).mp q)
theorem own_lwE {x y : Int64} (h : x = y) : lcmpW x y = 0 := (lw_eq x y).mpr h
theorem own_lwL {x y : Int64} (h : x < y) : lcmpW x y < 0 := (lw_lt x y).mpr h
theorem own_lwM {x y : Int64} (h : ¬ x < y) : ¬ lcmpW x y < 0 := fun q => h ((lw_lt x y).mp q)
theorem own_lwG {x y : Int64} (h : y < x) : 0 < lcmpW x y := (lw_gt x y).mpr h
theorem own_lwH {x y : Int64} (h : ¬ y < x) : ¬ 0 < lcmpW x y := fun q => h ((lw_gt x y).mp q)
theorem own_F {Z : State} {h : Heap} {a : Addr} {C n d : String} {v w : Value} (q : v = w) (F : Fld Z h a C n d v) : Fld Z h a C n d w := q ▸ F
theorem own_rI {x y : Int32} (q : x = y) : (some (Value.int x)) = some (.int y) := by rw [q]
theorem own_rJ {x y : Int64} (q : x = y) : (some (Value.long x)) = some (.long y) := by rw [q]
def own_Ar (Z : State) (h : Heap) (a : Addr) (ty : FieldType) (n : Nat) (f : Nat → Int32) : Prop := ∃ c : Cell, Arr Z h a c ty ∧ c.slots.size = n ∧ ∀ i, i < n → c.slots[i]? = some (.int (f i))
def own_up (f : Nat → Int32) (i : Nat) (x : Int32) : Nat → Int32 := fun k => if k = i then x else f k
theorem own_up_self (f : Nat → Int32) (i : Nat) (x : Int32) : own_up f i x i = x := if_pos rfl
theorem own_up_ne (f : Nat → Int32) {i k : Nat} (x : Int32) (h : k ≠ i) : own_up f i x k = f k := if_neg h
section OwnArr
variable {Z : State} {h h' : Heap} {a b : Addr} {ty : FieldType} {n : Nat} {f : Nat → Int32} {sl : Nat} {v : Value} {ws : List Addr}
theorem own_Ar.lt (F : own_Ar Z h a ty n f) : a < h.size := by obtain ⟨c, A, -⟩ := F; exact A.lt
theorem own_Ar.ext (F : own_Ar Z h a ty n f) (E : Ext h h') : own_Ar Z h' a ty n f := by obtain ⟨c, A, r⟩ := F; exact ⟨c, A.ext E, r⟩
theorem own_Ar.other (F : own_Ar Z h b ty n f) (W : Wr h h' a sl v) (q : b ≠ a) : own_Ar Z h' b ty n f := by obtain ⟨c, A, r⟩ := F; exact ⟨c, A.other W q, r⟩
theorem own_Ar.keep (F : own_Ar Z h a ty n f) (K : Keep h h' ws) (q : a ∉ ws) : own_Ar Z h' a ty n f := by obtain ⟨c, A, r⟩ := F; exact ⟨c, ⟨K.2.1 a c A.1 q, A.2⟩, r⟩
theorem own_Ar.wr {i : Nat} {x : Int32} (F : own_Ar Z h a ty n f) (W : Wr h h' a i (.int x)) (hi : i < n) : own_Ar Z h' a ty n (own_up f i x) := by
  obtain ⟨c, A, hs, H⟩ := F
  refine ⟨c.setSlot i (.int x), A.same W, by rw [sz_set]; exact hs, fun k hk => ?_⟩
  by_cases e : k = i
  · subst e; rw [own_up_self]; simp [Cell.setSlot, hs, hk]
  · rw [own_up_ne f x e]
    have q := H k hk
    simp only [Cell.setSlot]
    rw [Array.getElem?_setIfInBounds_ne (Ne.symm e)]; exact q
theorem own_Ar.mono {g : Nat → Int32} (F : own_Ar Z h a ty n f) (q : ∀ i, i < n → f i = g i) : own_Ar Z h a ty n g := by
  obtain ⟨c, A, hs, H⟩ := F
  exact ⟨c, A, hs, fun i hi => by rw [← q i hi]; exact H i hi⟩
theorem own_Ar.of {k : ClassId} {z : Int32} {vs : List Value} (F : Arv Z h a k ty z vs (.int 0)) (hz : z.toNatClampNeg = n) (q : ∀ i, i < n → vs.getD i (.int 0) = .int (f i)) : own_Ar Z h a ty n f := by
  obtain ⟨c, A, -, hs, -, H, -⟩ := F
  rw [hz] at hs
  exact ⟨c, A, hs, fun i hi => by rw [H i (by rw [hs]; exact hi), q i hi]⟩
variable {p : Program} {l : Launch} {e : Env} {R : Room} {s : State} {m : MethodId} {args : Array Value} {below : List Frame} {meth : Method} {c : Code} {T : State} {locs : List Loc} {cells slots : Nat}
theorem own_in {cl : Cell} {j : Int32} {i : Nat} (hs : cl.slots.size = n) (hj : ¬ j < 0 ∧ j.toNatClampNeg = i) (hi : i < n) : ¬ (j < 0 ∨ cl.slots.size ≤ j.toNatClampNeg) := by
  rw [hs, hj.2]; exact fun q => q.elim hj.1 (Nat.not_le.mpr hi)
theorem own_rdI (X : Stand p l e R s m args below meth c T locs cells slots) (hx : p.tables.exec = Jvm.exec) (hZ : Z.Warmed39 s.vm) (eT : T.heap = h) (F : own_Ar Z h a .int n f) {j : Int32} {i : Nat} (hj : ¬ j < 0 ∧ j.toNatClampNeg = i) (hi : i < n) {g : JFrame} (hg : g.method = m) {rest : List Value} (hs : g.stack = .int j :: .ref a :: rest) (hd : decode c.code g.pc = .ok (.iaload, 1))
    (target : State) (hr : Steps p.tables e below (T.setTop { g with pc := g.pc + 1, stack := .int (f i) :: rest }) target) : Steps p.tables e below (T.setTop g) target := by
  obtain ⟨cl, A, hsz, H⟩ := F
  exact X.iaload hx (v := .int (f i)) (by rw [eT]; exact A.1) (State.isArrayOf_alike hZ.alike A.2.1) A.2.2 (own_in hsz hj hi) (by rw [hj.2]; exact H i hi) hg hs hd target hr
theorem own_rdB (X : Stand p l e R s m args below meth c T locs cells slots) (hx : p.tables.exec = Jvm.exec) (hZ : Z.Warmed39 s.vm) (eT : T.heap = h) (F : own_Ar Z h a .byte n f) {j : Int32} {i : Nat} (hj : ¬ j < 0 ∧ j.toNatClampNeg = i) (hi : i < n) {g : JFrame} (hg : g.method = m) {rest : List Value} (hs : g.stack = .int j :: .ref a :: rest) (hd : decode c.code g.pc = .ok (.baload, 1))
    (target : State) (hr : Steps p.tables e below (T.setTop { g with pc := g.pc + 1, stack := .int (f i) :: rest }) target) : Steps p.tables e below (T.setTop g) target := by
  obtain ⟨cl, A, hsz, H⟩ := F
  exact X.baloadBytes hx (v := .int (f i)) (by rw [eT]; exact A.1) (State.isArrayOf_alike hZ.alike A.2.1) A.2.2 (own_in hsz hj hi) (by rw [hj.2]; exact H i hi) hg hs hd target hr
theorem own_len (X : Stand p l e R s m args below meth c T locs cells slots) (hx : p.tables.exec = Jvm.exec) (hZ : Z.Warmed39 s.vm) (eT : T.heap = h) (F : own_Ar Z h a ty n f) {z : Int32} (hz : n.toInt32 = z) {g : JFrame} (hg : g.method = m) {rest : List Value} (hs : g.stack = .ref a :: rest) (hd : decode c.code g.pc = .ok (.arraylength, 1))
    (target : State) (hr : Steps p.tables e below (T.setTop { g with pc := g.pc + 1, stack := .int z :: rest }) target) : Steps p.tables e below (T.setTop g) target := by
  obtain ⟨cl, A, hsz, H⟩ := F
  exact X.arraylength hx (by rw [eT]; exact A.1) (State.isArrayOf_alike hZ.alike A.2.1) hg hs hd target (by rw [hsz, hz]; exact hr)
theorem own_stI (X : Stand p l e R s m args below meth c T locs cells slots) (hx : p.tables.exec = Jvm.exec) (hZ : Z.Warmed39 s.vm) (eT : T.heap = h) (F : own_Ar Z h a .int n f) {j x : Int32} {i : Nat} (hj : ¬ j < 0 ∧ j.toNatClampNeg = i) (hi : i < n) {g : JFrame} (hg : g.method = m) {rest : List Value} (hs : g.stack = .int x :: .int j :: .ref a :: rest) (hd : decode c.code g.pc = .ok (.iastore, 1)) :
    ∃ T' h', Stand p l e R s m args below meth c T' (locs ++ [⟨a, i⟩]) cells slots ∧ T'.heap = h' ∧ Wr h h' a i (.int x) ∧ own_Ar Z h' a .int n (own_up f i x) ∧ ∀ target, Steps p.tables e below (T'.setTop { g with pc := g.pc + 1, stack := rest }) target → Steps p.tables e below (T.setTop g) target := by
  have F0 := F
  obtain ⟨cl, A, hsz, H⟩ := F
  obtain ⟨T', h', X', e', W', st⟩ := stI X hx hZ eT A (own_in hsz hj hi) hg hs hd
  rw [hj.2] at X' W'
  exact ⟨T', h', X', e', W', F0.wr W' hi, st⟩
theorem own_stB (X : Stand p l e R s m args below meth c T locs cells slots) (hx : p.tables.exec = Jvm.exec) (hZ : Z.Warmed39 s.vm) (eT : T.heap = h) (F : own_Ar Z h a .byte n f) {j x : Int32} {i : Nat} (hj : ¬ j < 0 ∧ j.toNatClampNeg = i) (hi : i < n) {g : JFrame} (hg : g.method = m) {rest : List Value} (hs : g.stack = .int x :: .int j :: .ref a :: rest) (hd : decode c.code g.pc = .ok (.bastore, 1)) :
    ∃ T' h', Stand p l e R s m args below meth c T' (locs ++ [⟨a, i⟩]) cells slots ∧ T'.heap = h' ∧ Wr h h' a i (.int (x.toInt8.toInt32)) ∧ own_Ar Z h' a .byte n (own_up f i (x.toInt8.toInt32)) ∧ ∀ target, Steps p.tables e below (T'.setTop { g with pc := g.pc + 1, stack := rest }) target → Steps p.tables e below (T.setTop g) target := by
  have F0 := F
  obtain ⟨cl, A, hsz, H⟩ := F
  obtain ⟨T', h', X', e', W', st⟩ := stB X hx hZ eT A (own_in hsz hj hi) hg hs hd
  rw [hj.2] at X' W'
  exact ⟨T', h', X', e', W', F0.wr W' hi, st⟩
end OwnArr
theorem own_idx : ∀ w : Fin 128, ¬ ((Int64.ofNat w.val) &&& ((15 : Int32).toInt64)).toInt32 < 0 ∧ (((Int64.ofNat w.val) &&& ((15 : Int32).toInt64)).toInt32).toNatClampNeg = w.val % 16 := by decide +kernel
theorem own_ix {w : Nat} (h : w < 128) : ¬ ((Int64.ofNat w) &&& ((15 : Int32).toInt64)).toInt32 < 0 ∧ (((Int64.ofNat w) &&& ((15 : Int32).toInt64)).toInt32).toNatClampNeg = w % 16 := own_idx ⟨w, h⟩
theorem own_m16 (w : Nat) : w % 16 < 16 := Nat.mod_lt _ (by decide)
theorem own_w1 (w : Nat) : Int64.ofNat w + (1 : Int64) = Int64.ofNat (w + 1) := (Int64.ofNat_add w 1).symm
def own_bc (r : Nat) : Int32 := Int32.ofInt ((r % 128 : Nat) - 128 : Int)
def own_bl (r : Nat) : Int32 := Int32.ofNat r
theorem own_n64 {r : Nat} (h : r < 2 ^ 63) : (Int64.ofNat r).toInt = r := Int64.toInt_ofNat_of_lt h
theorem own_lt128 {r : Nat} (h : r < 2 ^ 63) : Int64.ofNat r < (128 : Int64) ↔ r < 128 := by
  rw [Int64.lt_iff_toInt_lt, own_n64 h]
  show (r : Int) < 128 ↔ r < 128
  omega
theorem own_bcF : ∀ m : Fin 256, ((BitVec.ofNat 8 m.val ||| 128#8).signExtend 32) = (Int32.ofInt ((m.val % 128 : Nat) - 128 : Int)).toBitVec := by decide +kernel
theorem own_bce (r : Nat) : ((((Int64.ofNat r) ||| (128 : Int64)).toInt32).toInt8.toInt32).toInt8.toInt32 = own_bc r := by
  apply Int32.toBitVec_inj.mp
  have e1 : ((((Int64.ofNat r) ||| (128 : Int64)).toInt32).toInt8).toBitVec = BitVec.ofNat 8 r ||| 128#8 := by
    show (((BitVec.ofNat 64 r ||| 128#64).signExtend 32).signExtend 8) = _
    apply BitVec.eq_of_getLsbD_eq
    intro i hi
    simp only [BitVec.getLsbD_signExtend, BitVec.getLsbD_or, BitVec.getLsbD_ofNat]
    have q1 : i < 32 := by omega
    have q2 : i < 64 := by omega
    simp [q1, q2, hi]
  have e2 : (((((Int64.ofNat r) ||| (128 : Int64)).toInt32).toInt8).toInt32).toInt8 = (((Int64.ofNat r) ||| (128 : Int64)).toInt32).toInt8 := by simp
  rw [e2]
  show (((((Int64.ofNat r) ||| (128 : Int64)).toInt32).toInt8).toBitVec).signExtend 32 = _
  rw [e1]
  have e3 : BitVec.ofNat 8 r = BitVec.ofNat 8 (r % 256) := by
    apply BitVec.eq_of_toNat_eq
    simp
  rw [e3]
  have q := own_bcF ⟨r % 256, Nat.mod_lt _ (by decide)⟩
  rw [q]
  show _ = (Int32.ofInt ((r % 128 : Nat) - 128 : Int)).toBitVec
  have e4 : r % 256 % 128 = r % 128 := by omega
  rw [e4]
theorem own_blF : ∀ m : Fin 128, ((Int64.ofNat m.val).toInt32.toInt8.toInt32).toInt8.toInt32 = Int32.ofNat m.val := by decide +kernel
theorem own_ble {r : Nat} (h : r < 128) : ((Int64.ofNat r).toInt32.toInt8.toInt32).toInt8.toInt32 = own_bl r := own_blF ⟨r, h⟩
theorem own_shr {r : Nat} (h : r < 2 ^ 63) : (((Int64.ofNat r).toUInt64 >>> ((7 : Int32) &&& 0x3f).toInt64.toUInt64).toInt64) = Int64.ofNat (r / 128) := by
  apply Int64.toInt_inj.mp
  have n := own_n64 h
  rw [Jvm.Kit.i64_lushr (x := Int64.ofNat r) (by rw [Jvm.Kit.i64_nonneg, n]; omega) (k := 7) (by decide) (by decide), n, own_n64 (by omega)]
  omega
def own_Len : Nat → Nat → Prop
  | 0, r => r < 128
  | k + 1, r => 128 ≤ r ∧ own_Len k (r / 128)
def own_Enc (f : Nat → Int32) : Nat → Nat → Nat → Prop
  | 0, w, r => r < 128 ∧ f (w % 16) = own_bl r
  | k + 1, w, r => 128 ≤ r ∧ f (w % 16) = own_bc r ∧ own_Enc f k (w + 1) (r / 128)
theorem own_Lex : ∀ (n r : Nat), r < 2 ^ (7 * (n + 1)) → ∃ k, k ≤ n ∧ own_Len k r
  | 0, r, h => ⟨0, Nat.le_refl _, h⟩
  | n + 1, r, h => by
    by_cases q : r < 128
    · exact ⟨0, Nat.zero_le _, q⟩
    · have h2 : r / 128 < 2 ^ (7 * (n + 1)) := by
        apply Nat.div_lt_of_lt_mul
        have e : 128 * 2 ^ (7 * (n + 1)) = 2 ^ (7 * (n + 1 + 1)) := by
          rw [show 7 * (n + 1 + 1) = 7 + 7 * (n + 1) from by omega, Nat.pow_add]
        rw [e]; exact h
      obtain ⟨k, hk, hl⟩ := own_Lex n (r / 128) h2
      exact ⟨k + 1, by omega, by omega, hl⟩
theorem own_Len8 {r : Nat} (h : r < 2 ^ 63) : ∃ k, k ≤ 8 ∧ own_Len k r := own_Lex 8 r h
theorem own_or {d x sh : Nat} (hd : d < 2 ^ sh) : Int64.ofNat d ||| Int64.ofNat (x * 2 ^ sh) = Int64.ofNat (d + x * 2 ^ sh) := by
  apply Int64.toBitVec_inj.mp
  show BitVec.ofNat 64 d ||| BitVec.ofNat 64 (x * 2 ^ sh) = BitVec.ofNat 64 (d + x * 2 ^ sh)
  rw [← BitVec.ofNat_or]
  congr 1
  have q := Nat.shiftLeft_add_eq_or_of_lt hd x
  rw [Nat.shiftLeft_eq] at q
  rw [Nat.or_comm, ← q, Nat.add_comm]
theorem own_sh6 : ∀ k : Fin 64, ((((Int32.ofNat k.val) &&& 0x3f).toInt64).toBitVec.smod 64).toNat = k.val := by decide +kernel
theorem own_shl {x sh : Nat} (hsh : sh < 64) (hx : x * 2 ^ sh < 2 ^ 63) : (Int64.ofNat x <<< ((Int32.ofNat sh) &&& 0x3f).toInt64) = Int64.ofNat (x * 2 ^ sh) := by
  have hx1 : x < 2 ^ 63 := Nat.lt_of_le_of_lt (Nat.le_mul_of_pos_right x (Nat.two_pow_pos sh)) hx
  apply Int64.toInt_inj.mp
  have c : ((x : Int) * 2 ^ sh) = ((x * 2 ^ sh : Nat) : Int) := by rw [Int.natCast_mul, Int.natCast_pow]; rfl
  rw [Jvm.Kit.i64_shl (Int64.ofNat x) _ (k := sh) (own_sh6 ⟨sh, hsh⟩) (by rw [own_n64 hx1, c]; omega) (by rw [own_n64 hx1, c]; omega), own_n64 hx1, own_n64 hx, c]
theorem own_blm : ∀ m : Fin 128, ((Int32.ofNat m.val) &&& (127 : Int32)).toInt64 = Int64.ofNat m.val ∧ ¬ Int32.ofNat m.val < 0 := by decide +kernel
theorem own_bcm : ∀ m : Fin 128, ((Int32.ofInt ((m.val : Nat) - 128 : Int)) &&& (127 : Int32)).toInt64 = Int64.ofNat m.val ∧ Int32.ofInt ((m.val : Nat) - 128 : Int) < 0 := by decide +kernel
theorem own_bl127 {r : Nat} (h : r < 128) : ((own_bl r) &&& (127 : Int32)).toInt64 = Int64.ofNat r := (own_blm ⟨r, h⟩).1
theorem own_bl0 {r : Nat} (h : r < 128) : ¬ own_bl r < (0 : Int32) := (own_blm ⟨r, h⟩).2
theorem own_bc127 (r : Nat) : ((own_bc r) &&& (127 : Int32)).toInt64 = Int64.ofNat (r % 128) := (own_bcm ⟨r % 128, Nat.mod_lt _ (by decide)⟩).1
theorem own_bc0 (r : Nat) : own_bc r < (0 : Int32) := (own_bcm ⟨r % 128, Nat.mod_lt _ (by decide)⟩).2
theorem own_s7 (sh : Nat) : Int32.ofNat sh + (7 : Int32) = Int32.ofNat (sh + 7) := (Int32.ofNat_add sh 7).symm
theorem own_p7 (d r sh : Nat) : d + (r % 128) * 2 ^ sh + (r / 128) * 2 ^ (sh + 7) = d + r * 2 ^ sh := by
  have e : r = 128 * (r / 128) + r % 128 := (Nat.div_add_mod r 128).symm
  have q : (r / 128) * 2 ^ (sh + 7) = (128 * (r / 128)) * 2 ^ sh := by
    rw [Nat.pow_add, Nat.mul_comm (2 ^ sh) (2 ^ 7), ← Nat.mul_assoc, Nat.mul_comm (r / 128) (2 ^ 7)]
  rw [q, Nat.add_assoc, ← Nat.add_mul, Nat.add_comm (r % 128), ← e]
theorem own_d7 {d r sh : Nat} (hd : d < 2 ^ sh) : d + (r % 128) * 2 ^ sh < 2 ^ (sh + 7) := by
  have h1 : r % 128 ≤ 127 := by omega
  have h2 : (r % 128) * 2 ^ sh ≤ 127 * 2 ^ sh := Nat.mul_le_mul_right _ h1
  have e : 2 ^ (sh + 7) = 128 * 2 ^ sh := by rw [Nat.pow_add, Nat.mul_comm]
  omega
theorem own_lz {d r sh : Nat} (h : d + r * 2 ^ sh < 2 ^ 63) : (r % 128) * 2 ^ sh < 2 ^ 63 := by
  have h1 : (r % 128) * 2 ^ sh ≤ r * 2 ^ sh := Nat.mul_le_mul_right _ (Nat.mod_le _ _)
  omega
theorem own_os {a1 : Addr} {d : Int64} {x v : Int32} {s4 : Slot} (h : One s4) : storeLocals #[.val (.ref a1), .val (.long d), .second, .val (.int x), s4] 4 (.int v) = some #[.val (.ref a1), .val (.long d), .second, .val (.int x), .val (.int v)] := by
  rcases h with rfl | ⟨w, rfl, hw⟩
  · rfl
  · cases w <;> first | rfl | (simp [Value.category] at hw)
theorem own_r0 {r : Nat} : 0 + r * 2 ^ 0 = r := by omega
theorem own_nat (x : Int64) (h : 0 ≤ x.toInt) : ∃ r : Nat, r < 2 ^ 63 ∧ x = Int64.ofNat r := by
  have hb := x.toInt_lt
  refine ⟨x.toInt.toNat, by omega, ?_⟩
  apply Int64.toInt_inj.mp
  rw [own_n64 (by omega)]
  omega
theorem d4_0 : decode jdk_33_method_49_code 0 = .ok (.iload_n 0, 1) := by decide +kernel
theorem d4_1 : decode jdk_33_method_49_code 1 = .ok (.iload_n 0, 1) := by decide +kernel
theorem d4_2 : decode jdk_33_method_49_code 2 = .ok (.iconst 1, 1) := by decide +kernel
theorem d4_3 : decode jdk_33_method_49_code 3 = .ok (.iushr, 1) := by decide +kernel
theorem d4_4 : decode jdk_33_method_49_code 4 = .ok (.ldc_w 265, 3) := by decide +kernel
theorem d4_7 : decode jdk_33_method_49_code 7 = .ok (.iand, 1) := by decide +kernel
theorem d4_8 : decode jdk_33_method_49_code 8 = .ok (.isub, 1) := by decide +kernel
theorem d4_9 : decode jdk_33_method_49_code 9 = .ok (.istore_n 0, 1) := by decide +kernel
theorem d4_10 : decode jdk_33_method_49_code 10 = .ok (.iload_n 0, 1) := by decide +kernel
theorem d4_11 : decode jdk_33_method_49_code 11 = .ok (.ldc_w 266, 3) := by decide +kernel
theorem d4_14 : decode jdk_33_method_49_code 14 = .ok (.iand, 1) := by decide +kernel
theorem d4_15 : decode jdk_33_method_49_code 15 = .ok (.iload_n 0, 1) := by decide +kernel
theorem d4_16 : decode jdk_33_method_49_code 16 = .ok (.iconst 2, 1) := by decide +kernel
theorem d4_17 : decode jdk_33_method_49_code 17 = .ok (.iushr, 1) := by decide +kernel
theorem d4_18 : decode jdk_33_method_49_code 18 = .ok (.ldc_w 266, 3) := by decide +kernel
theorem d4_21 : decode jdk_33_method_49_code 21 = .ok (.iand, 1) := by decide +kernel
theorem d4_22 : decode jdk_33_method_49_code 22 = .ok (.iadd, 1) := by decide +kernel
theorem d4_23 : decode jdk_33_method_49_code 23 = .ok (.istore_n 0, 1) := by decide +kernel
theorem d4_24 : decode jdk_33_method_49_code 24 = .ok (.iload_n 0, 1) := by decide +kernel
theorem d4_25 : decode jdk_33_method_49_code 25 = .ok (.iload_n 0, 1) := by decide +kernel
theorem d4_26 : decode jdk_33_method_49_code 26 = .ok (.iconst 4, 1) := by decide +kernel
theorem d4_27 : decode jdk_33_method_49_code 27 = .ok (.iushr, 1) := by decide +kernel
theorem d4_28 : decode jdk_33_method_49_code 28 = .ok (.iadd, 1) := by decide +kernel
theorem d4_29 : decode jdk_33_method_49_code 29 = .ok (.ldc_w 267, 3) := by decide +kernel
theorem d4_32 : decode jdk_33_method_49_code 32 = .ok (.iand, 1) := by decide +kernel
theorem d4_33 : decode jdk_33_method_49_code 33 = .ok (.istore_n 0, 1) := by decide +kernel
theorem d4_34 : decode jdk_33_method_49_code 34 = .ok (.iload_n 0, 1) := by decide +kernel
theorem d4_35 : decode jdk_33_method_49_code 35 = .ok (.iload_n 0, 1) := by decide +kernel
theorem d4_36 : decode jdk_33_method_49_code 36 = .ok (.bipush 8, 2) := by decide +kernel
theorem d4_38 : decode jdk_33_method_49_code 38 = .ok (.iushr, 1) := by decide +kernel
theorem d4_39 : decode jdk_33_method_49_code 39 = .ok (.iadd, 1) := by decide +kernel
theorem d4_40 : decode jdk_33_method_49_code 40 = .ok (.istore_n 0, 1) := by decide +kernel
theorem d4_41 : decode jdk_33_method_49_code 41 = .ok (.iload_n 0, 1) := by decide +kernel
theorem d4_42 : decode jdk_33_method_49_code 42 = .ok (.iload_n 0, 1) := by decide +kernel
theorem d4_43 : decode jdk_33_method_49_code 43 = .ok (.bipush 16, 2) := by decide +kernel
theorem d4_45 : decode jdk_33_method_49_code 45 = .ok (.iushr, 1) := by decide +kernel
theorem d4_46 : decode jdk_33_method_49_code 46 = .ok (.iadd, 1) := by decide +kernel
theorem d4_47 : decode jdk_33_method_49_code 47 = .ok (.istore_n 0, 1) := by decide +kernel
theorem d4_48 : decode jdk_33_method_49_code 48 = .ok (.iload_n 0, 1) := by decide +kernel
theorem d4_49 : decode jdk_33_method_49_code 49 = .ok (.bipush 63, 2) := by decide +kernel
theorem d4_51 : decode jdk_33_method_49_code 51 = .ok (.iand, 1) := by decide +kernel
theorem d4_52 : decode jdk_33_method_49_code 52 = .ok (.ireturn, 1) := by decide +kernel
theorem pn11939829 : plainName "java/lang/Integer" = true := by first | (simp [plainName, overriddenIn]; done) | decide +kernel
theorem ef_4 (m : MethodId) (p0 : Int32) : entryFrame m #[(.int p0)] 1 = mkF m 0 #[.val (.int p0)] [] := by first | (simp [entryFrame, mkF, argsToLocals, Value.category]; done) | rfl
def Q4 (Z : State) (p0 : Int32) (h0 : Heap) (n0 : Nat) (v : Option Value) (h : Heap) (L : List Loc) : Prop := v = some (.int ((((((((p0 - (((p0.toUInt32 >>> ((1 : Int32) &&& 31).toUInt32).toInt32) &&& (1431655765 : Int32))) &&& (858993459 : Int32)) + ((((p0 - (((p0.toUInt32 >>> ((1 : Int32) &&& 31).toUInt32).toInt32) &&& (1431655765 : Int32))).toUInt32 >>> ((2 : Int32) &&& 31).toUInt32).toInt32) &&& (858993459 : Int32))) + (((((p0 - (((p0.toUInt32 >>> ((1 : Int32) &&& 31).toUInt32).toInt32) &&& (1431655765 : Int32))) &&& (858993459 : Int32)) + ((((p0 - (((p0.toUInt32 >>> ((1 : Int32) &&& 31).toUInt32).toInt32) &&& (1431655765 : Int32))).toUInt32 >>> ((2 : Int32) &&& 31).toUInt32).toInt32) &&& (858993459 : Int32))).toUInt32 >>> ((4 : Int32) &&& 31).toUInt32).toInt32)) &&& (252645135 : Int32)) + (((((((p0 - (((p0.toUInt32 >>> ((1 : Int32) &&& 31).toUInt32).toInt32) &&& (1431655765 : Int32))) &&& (858993459 : Int32)) + ((((p0 - (((p0.toUInt32 >>> ((1 : Int32) &&& 31).toUInt32).toInt32) &&& (1431655765 : Int32))).toUInt32 >>> ((2 : Int32) &&& 31).toUInt32).toInt32) &&& (858993459 : Int32))) + (((((p0 - (((p0.toUInt32 >>> ((1 : Int32) &&& 31).toUInt32).toInt32) &&& (1431655765 : Int32))) &&& (858993459 : Int32)) + ((((p0 - (((p0.toUInt32 >>> ((1 : Int32) &&& 31).toUInt32).toInt32) &&& (1431655765 : Int32))).toUInt32 >>> ((2 : Int32) &&& 31).toUInt32).toInt32) &&& (858993459 : Int32))).toUInt32 >>> ((4 : Int32) &&& 31).toUInt32).toInt32)) &&& (252645135 : Int32)).toUInt32 >>> ((8 : Int32) &&& 31).toUInt32).toInt32)) + ((((((((p0 - (((p0.toUInt32 >>> ((1 : Int32) &&& 31).toUInt32).toInt32) &&& (1431655765 : Int32))) &&& (858993459 : Int32)) + ((((p0 - (((p0.toUInt32 >>> ((1 : Int32) &&& 31).toUInt32).toInt32) &&& (1431655765 : Int32))).toUInt32 >>> ((2 : Int32) &&& 31).toUInt32).toInt32) &&& (858993459 : Int32))) + (((((p0 - (((p0.toUInt32 >>> ((1 : Int32) &&& 31).toUInt32).toInt32) &&& (1431655765 : Int32))) &&& (858993459 : Int32)) + ((((p0 - (((p0.toUInt32 >>> ((1 : Int32) &&& 31).toUInt32).toInt32) &&& (1431655765 : Int32))).toUInt32 >>> ((2 : Int32) &&& 31).toUInt32).toInt32) &&& (858993459 : Int32))).toUInt32 >>> ((4 : Int32) &&& 31).toUInt32).toInt32)) &&& (252645135 : Int32)) + (((((((p0 - (((p0.toUInt32 >>> ((1 : Int32) &&& 31).toUInt32).toInt32) &&& (1431655765 : Int32))) &&& (858993459 : Int32)) + ((((p0 - (((p0.toUInt32 >>> ((1 : Int32) &&& 31).toUInt32).toInt32) &&& (1431655765 : Int32))).toUInt32 >>> ((2 : Int32) &&& 31).toUInt32).toInt32) &&& (858993459 : Int32))) + (((((p0 - (((p0.toUInt32 >>> ((1 : Int32) &&& 31).toUInt32).toInt32) &&& (1431655765 : Int32))) &&& (858993459 : Int32)) + ((((p0 - (((p0.toUInt32 >>> ((1 : Int32) &&& 31).toUInt32).toInt32) &&& (1431655765 : Int32))).toUInt32 >>> ((2 : Int32) &&& 31).toUInt32).toInt32) &&& (858993459 : Int32))).toUInt32 >>> ((4 : Int32) &&& 31).toUInt32).toInt32)) &&& (252645135 : Int32)).toUInt32 >>> ((8 : Int32) &&& 31).toUInt32).toInt32)).toUInt32 >>> ((16 : Int32) &&& 31).toUInt32).toInt32)) &&& (63 : Int32))) ∧ Fr n0 L ∧ h = h0
set_option maxRecDepth 65536 in
set_option maxHeartbeats 40000000 in
theorem rm4 (l : Launch) (Z : State) (aq : Array Value) (hw : ∀ d ∈ tables_1, d.before aq Z = true) (ws : List Jvm.Cond) (p0 : Int32) (h0 : Heap) (n0 : Nat) (Z0 : n0 ≤ h0.size) :
    MetFree l (⟨"java/lang/Integer", "bitCount", "(I)I"⟩ : MethodName) (head1 (Jvm.Cond.code (⟨"java/lang/Integer", "bitCount", "(I)I"⟩ : MethodName) jdk_33_method_49_code 1 (some .int) :: ws) ({ frames := 0, cells := 0, slots := 0, locals := 0 } : Room)) (fun a U => a = #[(.int p0)] ∧ Z.Warmed39 U.vm ∧ U.heap = h0) (fun _ _ _ _ _ => True) (fun _ U o U' => ∃ v L, o = .returned v ∧ Q4 Z p0 h0 n0 v U'.heap L ∧ FrameEnd U o U' L ({ frames := 0, cells := 0, slots := 0, locals := 0 } : Room).cells ({ frames := 0, cells := 0, slots := 0, locals := 0 } : Room).slots) := by
  refine MetFree.of_bodySF (plainFor_of_name pn11939829) hisR ?_
  intro p e s m args below meth c s₁ Bd hml0 hP hK
  obtain ⟨rfl, hZ, hh⟩ := hP
  have hx := Bd.exec
  have hby := Bd.bytes
  have hml : c.maxLocals = 1 := hml0
  have hown : s.vm.findClass "java/lang/Integer" = some m.cls := findClass_of_methodNamed Bd.named
  have hnm := (name_of_methodNamed Bd.named Bd.method).1
  have X0 : Stand p l e ({ frames := 0, cells := 0, slots := 0, locals := 0 } : Room) s m #[(.int p0)] below meth c s₁ [] 0 0 := Stand.of_body Bd
  have e0 : s₁.heap = h0 := by rw [← hh, Bd.state]; rfl
  have N0 := Fr.nil n0
  have pre0 : ∀ t, Steps p.tables e below (s₁.setTop (mkF m 0 #[.val (.int p0)] [])) t → Steps p.tables e below (s₁.setTop (entryFrame m #[(.int p0)] 1)) t := fun t k => castTop (ef_4 m p0) k
  have pre1 : ∀ t, Steps p.tables e below (s₁.setTop (mkF m 52 #[.val (.int (((((((p0 - (((p0.toUInt32 >>> ((1 : Int32) &&& 31).toUInt32).toInt32) &&& (1431655765 : Int32))) &&& (858993459 : Int32)) + ((((p0 - (((p0.toUInt32 >>> ((1 : Int32) &&& 31).toUInt32).toInt32) &&& (1431655765 : Int32))).toUInt32 >>> ((2 : Int32) &&& 31).toUInt32).toInt32) &&& (858993459 : Int32))) + (((((p0 - (((p0.toUInt32 >>> ((1 : Int32) &&& 31).toUInt32).toInt32) &&& (1431655765 : Int32))) &&& (858993459 : Int32)) + ((((p0 - (((p0.toUInt32 >>> ((1 : Int32) &&& 31).toUInt32).toInt32) &&& (1431655765 : Int32))).toUInt32 >>> ((2 : Int32) &&& 31).toUInt32).toInt32) &&& (858993459 : Int32))).toUInt32 >>> ((4 : Int32) &&& 31).toUInt32).toInt32)) &&& (252645135 : Int32)) + (((((((p0 - (((p0.toUInt32 >>> ((1 : Int32) &&& 31).toUInt32).toInt32) &&& (1431655765 : Int32))) &&& (858993459 : Int32)) + ((((p0 - (((p0.toUInt32 >>> ((1 : Int32) &&& 31).toUInt32).toInt32) &&& (1431655765 : Int32))).toUInt32 >>> ((2 : Int32) &&& 31).toUInt32).toInt32) &&& (858993459 : Int32))) + (((((p0 - (((p0.toUInt32 >>> ((1 : Int32) &&& 31).toUInt32).toInt32) &&& (1431655765 : Int32))) &&& (858993459 : Int32)) + ((((p0 - (((p0.toUInt32 >>> ((1 : Int32) &&& 31).toUInt32).toInt32) &&& (1431655765 : Int32))).toUInt32 >>> ((2 : Int32) &&& 31).toUInt32).toInt32) &&& (858993459 : Int32))).toUInt32 >>> ((4 : Int32) &&& 31).toUInt32).toInt32)) &&& (252645135 : Int32)).toUInt32 >>> ((8 : Int32) &&& 31).toUInt32).toInt32)) + ((((((((p0 - (((p0.toUInt32 >>> ((1 : Int32) &&& 31).toUInt32).toInt32) &&& (1431655765 : Int32))) &&& (858993459 : Int32)) + ((((p0 - (((p0.toUInt32 >>> ((1 : Int32) &&& 31).toUInt32).toInt32) &&& (1431655765 : Int32))).toUInt32 >>> ((2 : Int32) &&& 31).toUInt32).toInt32) &&& (858993459 : Int32))) + (((((p0 - (((p0.toUInt32 >>> ((1 : Int32) &&& 31).toUInt32).toInt32) &&& (1431655765 : Int32))) &&& (858993459 : Int32)) + ((((p0 - (((p0.toUInt32 >>> ((1 : Int32) &&& 31).toUInt32).toInt32) &&& (1431655765 : Int32))).toUInt32 >>> ((2 : Int32) &&& 31).toUInt32).toInt32) &&& (858993459 : Int32))).toUInt32 >>> ((4 : Int32) &&& 31).toUInt32).toInt32)) &&& (252645135 : Int32)) + (((((((p0 - (((p0.toUInt32 >>> ((1 : Int32) &&& 31).toUInt32).toInt32) &&& (1431655765 : Int32))) &&& (858993459 : Int32)) + ((((p0 - (((p0.toUInt32 >>> ((1 : Int32) &&& 31).toUInt32).toInt32) &&& (1431655765 : Int32))).toUInt32 >>> ((2 : Int32) &&& 31).toUInt32).toInt32) &&& (858993459 : Int32))) + (((((p0 - (((p0.toUInt32 >>> ((1 : Int32) &&& 31).toUInt32).toInt32) &&& (1431655765 : Int32))) &&& (858993459 : Int32)) + ((((p0 - (((p0.toUInt32 >>> ((1 : Int32) &&& 31).toUInt32).toInt32) &&& (1431655765 : Int32))).toUInt32 >>> ((2 : Int32) &&& 31).toUInt32).toInt32) &&& (858993459 : Int32))).toUInt32 >>> ((4 : Int32) &&& 31).toUInt32).toInt32)) &&& (252645135 : Int32)).toUInt32 >>> ((8 : Int32) &&& 31).toUInt32).toInt32)).toUInt32 >>> ((16 : Int32) &&& 31).toUInt32).toInt32)))] [(.int ((((((((p0 - (((p0.toUInt32 >>> ((1 : Int32) &&& 31).toUInt32).toInt32) &&& (1431655765 : Int32))) &&& (858993459 : Int32)) + ((((p0 - (((p0.toUInt32 >>> ((1 : Int32) &&& 31).toUInt32).toInt32) &&& (1431655765 : Int32))).toUInt32 >>> ((2 : Int32) &&& 31).toUInt32).toInt32) &&& (858993459 : Int32))) + (((((p0 - (((p0.toUInt32 >>> ((1 : Int32) &&& 31).toUInt32).toInt32) &&& (1431655765 : Int32))) &&& (858993459 : Int32)) + ((((p0 - (((p0.toUInt32 >>> ((1 : Int32) &&& 31).toUInt32).toInt32) &&& (1431655765 : Int32))).toUInt32 >>> ((2 : Int32) &&& 31).toUInt32).toInt32) &&& (858993459 : Int32))).toUInt32 >>> ((4 : Int32) &&& 31).toUInt32).toInt32)) &&& (252645135 : Int32)) + (((((((p0 - (((p0.toUInt32 >>> ((1 : Int32) &&& 31).toUInt32).toInt32) &&& (1431655765 : Int32))) &&& (858993459 : Int32)) + ((((p0 - (((p0.toUInt32 >>> ((1 : Int32) &&& 31).toUInt32).toInt32) &&& (1431655765 : Int32))).toUInt32 >>> ((2 : Int32) &&& 31).toUInt32).toInt32) &&& (858993459 : Int32))) + (((((p0 - (((p0.toUInt32 >>> ((1 : Int32) &&& 31).toUInt32).toInt32) &&& (1431655765 : Int32))) &&& (858993459 : Int32)) + ((((p0 - (((p0.toUInt32 >>> ((1 : Int32) &&& 31).toUInt32).toInt32) &&& (1431655765 : Int32))).toUInt32 >>> ((2 : Int32) &&& 31).toUInt32).toInt32) &&& (858993459 : Int32))).toUInt32 >>> ((4 : Int32) &&& 31).toUInt32).toInt32)) &&& (252645135 : Int32)).toUInt32 >>> ((8 : Int32) &&& 31).toUInt32).toInt32)) + ((((((((p0 - (((p0.toUInt32 >>> ((1 : Int32) &&& 31).toUInt32).toInt32) &&& (1431655765 : Int32))) &&& (858993459 : Int32)) + ((((p0 - (((p0.toUInt32 >>> ((1 : Int32) &&& 31).toUInt32).toInt32) &&& (1431655765 : Int32))).toUInt32 >>> ((2 : Int32) &&& 31).toUInt32).toInt32) &&& (858993459 : Int32))) + (((((p0 - (((p0.toUInt32 >>> ((1 : Int32) &&& 31).toUInt32).toInt32) &&& (1431655765 : Int32))) &&& (858993459 : Int32)) + ((((p0 - (((p0.toUInt32 >>> ((1 : Int32) &&& 31).toUInt32).toInt32) &&& (1431655765 : Int32))).toUInt32 >>> ((2 : Int32) &&& 31).toUInt32).toInt32) &&& (858993459 : Int32))).toUInt32 >>> ((4 : Int32) &&& 31).toUInt32).toInt32)) &&& (252645135 : Int32)) + (((((((p0 - (((p0.toUInt32 >>> ((1 : Int32) &&& 31).toUInt32).toInt32) &&& (1431655765 : Int32))) &&& (858993459 : Int32)) + ((((p0 - (((p0.toUInt32 >>> ((1 : Int32) &&& 31).toUInt32).toInt32) &&& (1431655765 : Int32))).toUInt32 >>> ((2 : Int32) &&& 31).toUInt32).toInt32) &&& (858993459 : Int32))) + (((((p0 - (((p0.toUInt32 >>> ((1 : Int32) &&& 31).toUInt32).toInt32) &&& (1431655765 : Int32))) &&& (858993459 : Int32)) + ((((p0 - (((p0.toUInt32 >>> ((1 : Int32) &&& 31).toUInt32).toInt32) &&& (1431655765 : Int32))).toUInt32 >>> ((2 : Int32) &&& 31).toUInt32).toInt32) &&& (858993459 : Int32))).toUInt32 >>> ((4 : Int32) &&& 31).toUInt32).toInt32)) &&& (252645135 : Int32)).toUInt32 >>> ((8 : Int32) &&& 31).toUInt32).toInt32)).toUInt32 >>> ((16 : Int32) &&& 31).toUInt32).toInt32)) &&& (63 : Int32)))])) t → Steps p.tables e below (s₁.setTop (entryFrame m #[(.int p0)] 1)) t := fun t kt => by
    refine pre0 _ ?_
    show Steps p.tables e below (s₁.setTop (mkF m 0 #[.val (.int p0)] [])) _
    refine XS.iloadN X0.here hx rfl (hb hby d4_0) rfl ?_
    show Steps p.tables e below (s₁.setTop (mkF m 1 #[.val (.int p0)] [(.int p0)])) _
    refine XS.iloadN X0.here hx rfl (hb hby d4_1) rfl ?_
    show Steps p.tables e below (s₁.setTop (mkF m 2 #[.val (.int p0)] [(.int p0), (.int p0)])) _
    refine XS.iconst X0.here hx rfl (hb hby d4_2) ?_
    show Steps p.tables e below (s₁.setTop (mkF m 3 #[.val (.int p0)] [(.int (1 : Int32)), (.int p0), (.int p0)])) _
    refine XS.iushr X0.here hx rfl (hb hby d4_3) rfl ?_
    show Steps p.tables e below (s₁.setTop (mkF m 4 #[.val (.int p0)] [(.int ((p0.toUInt32 >>> ((1 : Int32) &&& 31).toUInt32).toInt32)), (.int p0)])) _
    refine X0.ldcwInt hx hown (mvT hZ (hw _ (List.mem_of_getElem? (i := 26) rfl))) (g := (mkF m 4 #[.val (.int p0)] [(.int ((p0.toUInt32 >>> ((1 : Int32) &&& 31).toUInt32).toInt32)), (.int p0)])) rfl (hb hby d4_4) _ ?_
    show Steps p.tables e below (s₁.setTop (mkF m 7 #[.val (.int p0)] [(.int (1431655765 : Int32)), (.int ((p0.toUInt32 >>> ((1 : Int32) &&& 31).toUInt32).toInt32)), (.int p0)])) _
    refine XS.iand X0.here hx rfl (hb hby d4_7) rfl ?_
    show Steps p.tables e below (s₁.setTop (mkF m 8 #[.val (.int p0)] [(.int (((p0.toUInt32 >>> ((1 : Int32) &&& 31).toUInt32).toInt32) &&& (1431655765 : Int32))), (.int p0)])) _
    refine XS.isub X0.here hx rfl (hb hby d4_8) rfl ?_
    show Steps p.tables e below (s₁.setTop (mkF m 9 #[.val (.int p0)] [(.int (p0 - (((p0.toUInt32 >>> ((1 : Int32) &&& 31).toUInt32).toInt32) &&& (1431655765 : Int32))))])) _
    refine XS.istoreN X0.here hx rfl (hb hby d4_9) rfl (l' := #[.val (.int (p0 - (((p0.toUInt32 >>> ((1 : Int32) &&& 31).toUInt32).toInt32) &&& (1431655765 : Int32))))]) rfl ?_
    show Steps p.tables e below (s₁.setTop (mkF m 10 #[.val (.int (p0 - (((p0.toUInt32 >>> ((1 : Int32) &&& 31).toUInt32).toInt32) &&& (1431655765 : Int32))))] [])) _
    refine XS.iloadN X0.here hx rfl (hb hby d4_10) rfl ?_
    show Steps p.tables e below (s₁.setTop (mkF m 11 #[.val (.int (p0 - (((p0.toUInt32 >>> ((1 : Int32) &&& 31).toUInt32).toInt32) &&& (1431655765 : Int32))))] [(.int (p0 - (((p0.toUInt32 >>> ((1 : Int32) &&& 31).toUInt32).toInt32) &&& (1431655765 : Int32))))])) _
    refine X0.ldcwInt hx hown (mvT hZ (hw _ (List.mem_of_getElem? (i := 27) rfl))) (g := (mkF m 11 #[.val (.int (p0 - (((p0.toUInt32 >>> ((1 : Int32) &&& 31).toUInt32).toInt32) &&& (1431655765 : Int32))))] [(.int (p0 - (((p0.toUInt32 >>> ((1 : Int32) &&& 31).toUInt32).toInt32) &&& (1431655765 : Int32))))])) rfl (hb hby d4_11) _ ?_
    show Steps p.tables e below (s₁.setTop (mkF m 14 #[.val (.int (p0 - (((p0.toUInt32 >>> ((1 : Int32) &&& 31).toUInt32).toInt32) &&& (1431655765 : Int32))))] [(.int (858993459 : Int32)), (.int (p0 - (((p0.toUInt32 >>> ((1 : Int32) &&& 31).toUInt32).toInt32) &&& (1431655765 : Int32))))])) _
    refine XS.iand X0.here hx rfl (hb hby d4_14) rfl ?_
    show Steps p.tables e below (s₁.setTop (mkF m 15 #[.val (.int (p0 - (((p0.toUInt32 >>> ((1 : Int32) &&& 31).toUInt32).toInt32) &&& (1431655765 : Int32))))] [(.int ((p0 - (((p0.toUInt32 >>> ((1 : Int32) &&& 31).toUInt32).toInt32) &&& (1431655765 : Int32))) &&& (858993459 : Int32)))])) _
    refine XS.iloadN X0.here hx rfl (hb hby d4_15) rfl ?_
    show Steps p.tables e below (s₁.setTop (mkF m 16 #[.val (.int (p0 - (((p0.toUInt32 >>> ((1 : Int32) &&& 31).toUInt32).toInt32) &&& (1431655765 : Int32))))] [(.int (p0 - (((p0.toUInt32 >>> ((1 : Int32) &&& 31).toUInt32).toInt32) &&& (1431655765 : Int32)))), (.int ((p0 - (((p0.toUInt32 >>> ((1 : Int32) &&& 31).toUInt32).toInt32) &&& (1431655765 : Int32))) &&& (858993459 : Int32)))])) _
    refine XS.iconst X0.here hx rfl (hb hby d4_16) ?_
    show Steps p.tables e below (s₁.setTop (mkF m 17 #[.val (.int (p0 - (((p0.toUInt32 >>> ((1 : Int32) &&& 31).toUInt32).toInt32) &&& (1431655765 : Int32))))] [(.int (2 : Int32)), (.int (p0 - (((p0.toUInt32 >>> ((1 : Int32) &&& 31).toUInt32).toInt32) &&& (1431655765 : Int32)))), (.int ((p0 - (((p0.toUInt32 >>> ((1 : Int32) &&& 31).toUInt32).toInt32) &&& (1431655765 : Int32))) &&& (858993459 : Int32)))])) _
    refine XS.iushr X0.here hx rfl (hb hby d4_17) rfl ?_
    show Steps p.tables e below (s₁.setTop (mkF m 18 #[.val (.int (p0 - (((p0.toUInt32 >>> ((1 : Int32) &&& 31).toUInt32).toInt32) &&& (1431655765 : Int32))))] [(.int (((p0 - (((p0.toUInt32 >>> ((1 : Int32) &&& 31).toUInt32).toInt32) &&& (1431655765 : Int32))).toUInt32 >>> ((2 : Int32) &&& 31).toUInt32).toInt32)), (.int ((p0 - (((p0.toUInt32 >>> ((1 : Int32) &&& 31).toUInt32).toInt32) &&& (1431655765 : Int32))) &&& (858993459 : Int32)))])) _
    refine X0.ldcwInt hx hown (mvT hZ (hw _ (List.mem_of_getElem? (i := 27) rfl))) (g := (mkF m 18 #[.val (.int (p0 - (((p0.toUInt32 >>> ((1 : Int32) &&& 31).toUInt32).toInt32) &&& (1431655765 : Int32))))] [(.int (((p0 - (((p0.toUInt32 >>> ((1 : Int32) &&& 31).toUInt32).toInt32) &&& (1431655765 : Int32))).toUInt32 >>> ((2 : Int32) &&& 31).toUInt32).toInt32)), (.int ((p0 - (((p0.toUInt32 >>> ((1 : Int32) &&& 31).toUInt32).toInt32) &&& (1431655765 : Int32))) &&& (858993459 : Int32)))])) rfl (hb hby d4_18) _ ?_
    show Steps p.tables e below (s₁.setTop (mkF m 21 #[.val (.int (p0 - (((p0.toUInt32 >>> ((1 : Int32) &&& 31).toUInt32).toInt32) &&& (1431655765 : Int32))))] [(.int (858993459 : Int32)), (.int (((p0 - (((p0.toUInt32 >>> ((1 : Int32) &&& 31).toUInt32).toInt32) &&& (1431655765 : Int32))).toUInt32 >>> ((2 : Int32) &&& 31).toUInt32).toInt32)), (.int ((p0 - (((p0.toUInt32 >>> ((1 : Int32) &&& 31).toUInt32).toInt32) &&& (1431655765 : Int32))) &&& (858993459 : Int32)))])) _
    refine XS.iand X0.here hx rfl (hb hby d4_21) rfl ?_
    show Steps p.tables e below (s₁.setTop (mkF m 22 #[.val (.int (p0 - (((p0.toUInt32 >>> ((1 : Int32) &&& 31).toUInt32).toInt32) &&& (1431655765 : Int32))))] [(.int ((((p0 - (((p0.toUInt32 >>> ((1 : Int32) &&& 31).toUInt32).toInt32) &&& (1431655765 : Int32))).toUInt32 >>> ((2 : Int32) &&& 31).toUInt32).toInt32) &&& (858993459 : Int32))), (.int ((p0 - (((p0.toUInt32 >>> ((1 : Int32) &&& 31).toUInt32).toInt32) &&& (1431655765 : Int32))) &&& (858993459 : Int32)))])) _
    refine XS.iadd X0.here hx rfl (hb hby d4_22) rfl ?_
    show Steps p.tables e below (s₁.setTop (mkF m 23 #[.val (.int (p0 - (((p0.toUInt32 >>> ((1 : Int32) &&& 31).toUInt32).toInt32) &&& (1431655765 : Int32))))] [(.int (((p0 - (((p0.toUInt32 >>> ((1 : Int32) &&& 31).toUInt32).toInt32) &&& (1431655765 : Int32))) &&& (858993459 : Int32)) + ((((p0 - (((p0.toUInt32 >>> ((1 : Int32) &&& 31).toUInt32).toInt32) &&& (1431655765 : Int32))).toUInt32 >>> ((2 : Int32) &&& 31).toUInt32).toInt32) &&& (858993459 : Int32))))])) _
    refine XS.istoreN X0.here hx rfl (hb hby d4_23) rfl (l' := #[.val (.int (((p0 - (((p0.toUInt32 >>> ((1 : Int32) &&& 31).toUInt32).toInt32) &&& (1431655765 : Int32))) &&& (858993459 : Int32)) + ((((p0 - (((p0.toUInt32 >>> ((1 : Int32) &&& 31).toUInt32).toInt32) &&& (1431655765 : Int32))).toUInt32 >>> ((2 : Int32) &&& 31).toUInt32).toInt32) &&& (858993459 : Int32))))]) rfl ?_
    show Steps p.tables e below (s₁.setTop (mkF m 24 #[.val (.int (((p0 - (((p0.toUInt32 >>> ((1 : Int32) &&& 31).toUInt32).toInt32) &&& (1431655765 : Int32))) &&& (858993459 : Int32)) + ((((p0 - (((p0.toUInt32 >>> ((1 : Int32) &&& 31).toUInt32).toInt32) &&& (1431655765 : Int32))).toUInt32 >>> ((2 : Int32) &&& 31).toUInt32).toInt32) &&& (858993459 : Int32))))] [])) _
    refine XS.iloadN X0.here hx rfl (hb hby d4_24) rfl ?_
    show Steps p.tables e below (s₁.setTop (mkF m 25 #[.val (.int (((p0 - (((p0.toUInt32 >>> ((1 : Int32) &&& 31).toUInt32).toInt32) &&& (1431655765 : Int32))) &&& (858993459 : Int32)) + ((((p0 - (((p0.toUInt32 >>> ((1 : Int32) &&& 31).toUInt32).toInt32) &&& (1431655765 : Int32))).toUInt32 >>> ((2 : Int32) &&& 31).toUInt32).toInt32) &&& (858993459 : Int32))))] [(.int (((p0 - (((p0.toUInt32 >>> ((1 : Int32) &&& 31).toUInt32).toInt32) &&& (1431655765 : Int32))) &&& (858993459 : Int32)) + ((((p0 - (((p0.toUInt32 >>> ((1 : Int32) &&& 31).toUInt32).toInt32) &&& (1431655765 : Int32))).toUInt32 >>> ((2 : Int32) &&& 31).toUInt32).toInt32) &&& (858993459 : Int32))))])) _
    refine XS.iloadN X0.here hx rfl (hb hby d4_25) rfl ?_
    show Steps p.tables e below (s₁.setTop (mkF m 26 #[.val (.int (((p0 - (((p0.toUInt32 >>> ((1 : Int32) &&& 31).toUInt32).toInt32) &&& (1431655765 : Int32))) &&& (858993459 : Int32)) + ((((p0 - (((p0.toUInt32 >>> ((1 : Int32) &&& 31).toUInt32).toInt32) &&& (1431655765 : Int32))).toUInt32 >>> ((2 : Int32) &&& 31).toUInt32).toInt32) &&& (858993459 : Int32))))] [(.int (((p0 - (((p0.toUInt32 >>> ((1 : Int32) &&& 31).toUInt32).toInt32) &&& (1431655765 : Int32))) &&& (858993459 : Int32)) + ((((p0 - (((p0.toUInt32 >>> ((1 : Int32) &&& 31).toUInt32).toInt32) &&& (1431655765 : Int32))).toUInt32 >>> ((2 : Int32) &&& 31).toUInt32).toInt32) &&& (858993459 : Int32)))), (.int (((p0 - (((p0.toUInt32 >>> ((1 : Int32) &&& 31).toUInt32).toInt32) &&& (1431655765 : Int32))) &&& (858993459 : Int32)) + ((((p0 - (((p0.toUInt32 >>> ((1 : Int32) &&& 31).toUInt32).toInt32) &&& (1431655765 : Int32))).toUInt32 >>> ((2 : Int32) &&& 31).toUInt32).toInt32) &&& (858993459 : Int32))))])) _
    refine XS.iconst X0.here hx rfl (hb hby d4_26) ?_
    show Steps p.tables e below (s₁.setTop (mkF m 27 #[.val (.int (((p0 - (((p0.toUInt32 >>> ((1 : Int32) &&& 31).toUInt32).toInt32) &&& (1431655765 : Int32))) &&& (858993459 : Int32)) + ((((p0 - (((p0.toUInt32 >>> ((1 : Int32) &&& 31).toUInt32).toInt32) &&& (1431655765 : Int32))).toUInt32 >>> ((2 : Int32) &&& 31).toUInt32).toInt32) &&& (858993459 : Int32))))] [(.int (4 : Int32)), (.int (((p0 - (((p0.toUInt32 >>> ((1 : Int32) &&& 31).toUInt32).toInt32) &&& (1431655765 : Int32))) &&& (858993459 : Int32)) + ((((p0 - (((p0.toUInt32 >>> ((1 : Int32) &&& 31).toUInt32).toInt32) &&& (1431655765 : Int32))).toUInt32 >>> ((2 : Int32) &&& 31).toUInt32).toInt32) &&& (858993459 : Int32)))), (.int (((p0 - (((p0.toUInt32 >>> ((1 : Int32) &&& 31).toUInt32).toInt32) &&& (1431655765 : Int32))) &&& (858993459 : Int32)) + ((((p0 - (((p0.toUInt32 >>> ((1 : Int32) &&& 31).toUInt32).toInt32) &&& (1431655765 : Int32))).toUInt32 >>> ((2 : Int32) &&& 31).toUInt32).toInt32) &&& (858993459 : Int32))))])) _
    refine XS.iushr X0.here hx rfl (hb hby d4_27) rfl ?_
    show Steps p.tables e below (s₁.setTop (mkF m 28 #[.val (.int (((p0 - (((p0.toUInt32 >>> ((1 : Int32) &&& 31).toUInt32).toInt32) &&& (1431655765 : Int32))) &&& (858993459 : Int32)) + ((((p0 - (((p0.toUInt32 >>> ((1 : Int32) &&& 31).toUInt32).toInt32) &&& (1431655765 : Int32))).toUInt32 >>> ((2 : Int32) &&& 31).toUInt32).toInt32) &&& (858993459 : Int32))))] [(.int (((((p0 - (((p0.toUInt32 >>> ((1 : Int32) &&& 31).toUInt32).toInt32) &&& (1431655765 : Int32))) &&& (858993459 : Int32)) + ((((p0 - (((p0.toUInt32 >>> ((1 : Int32) &&& 31).toUInt32).toInt32) &&& (1431655765 : Int32))).toUInt32 >>> ((2 : Int32) &&& 31).toUInt32).toInt32) &&& (858993459 : Int32))).toUInt32 >>> ((4 : Int32) &&& 31).toUInt32).toInt32)), (.int (((p0 - (((p0.toUInt32 >>> ((1 : Int32) &&& 31).toUInt32).toInt32) &&& (1431655765 : Int32))) &&& (858993459 : Int32)) + ((((p0 - (((p0.toUInt32 >>> ((1 : Int32) &&& 31).toUInt32).toInt32) &&& (1431655765 : Int32))).toUInt32 >>> ((2 : Int32) &&& 31).toUInt32).toInt32) &&& (858993459 : Int32))))])) _
    refine XS.iadd X0.here hx rfl (hb hby d4_28) rfl ?_
    show Steps p.tables e below (s₁.setTop (mkF m 29 #[.val (.int (((p0 - (((p0.toUInt32 >>> ((1 : Int32) &&& 31).toUInt32).toInt32) &&& (1431655765 : Int32))) &&& (858993459 : Int32)) + ((((p0 - (((p0.toUInt32 >>> ((1 : Int32) &&& 31).toUInt32).toInt32) &&& (1431655765 : Int32))).toUInt32 >>> ((2 : Int32) &&& 31).toUInt32).toInt32) &&& (858993459 : Int32))))] [(.int ((((p0 - (((p0.toUInt32 >>> ((1 : Int32) &&& 31).toUInt32).toInt32) &&& (1431655765 : Int32))) &&& (858993459 : Int32)) + ((((p0 - (((p0.toUInt32 >>> ((1 : Int32) &&& 31).toUInt32).toInt32) &&& (1431655765 : Int32))).toUInt32 >>> ((2 : Int32) &&& 31).toUInt32).toInt32) &&& (858993459 : Int32))) + (((((p0 - (((p0.toUInt32 >>> ((1 : Int32) &&& 31).toUInt32).toInt32) &&& (1431655765 : Int32))) &&& (858993459 : Int32)) + ((((p0 - (((p0.toUInt32 >>> ((1 : Int32) &&& 31).toUInt32).toInt32) &&& (1431655765 : Int32))).toUInt32 >>> ((2 : Int32) &&& 31).toUInt32).toInt32) &&& (858993459 : Int32))).toUInt32 >>> ((4 : Int32) &&& 31).toUInt32).toInt32)))])) _
    refine X0.ldcwInt hx hown (mvT hZ (hw _ (List.mem_of_getElem? (i := 28) rfl))) (g := (mkF m 29 #[.val (.int (((p0 - (((p0.toUInt32 >>> ((1 : Int32) &&& 31).toUInt32).toInt32) &&& (1431655765 : Int32))) &&& (858993459 : Int32)) + ((((p0 - (((p0.toUInt32 >>> ((1 : Int32) &&& 31).toUInt32).toInt32) &&& (1431655765 : Int32))).toUInt32 >>> ((2 : Int32) &&& 31).toUInt32).toInt32) &&& (858993459 : Int32))))] [(.int ((((p0 - (((p0.toUInt32 >>> ((1 : Int32) &&& 31).toUInt32).toInt32) &&& (1431655765 : Int32))) &&& (858993459 : Int32)) + ((((p0 - (((p0.toUInt32 >>> ((1 : Int32) &&& 31).toUInt32).toInt32) &&& (1431655765 : Int32))).toUInt32 >>> ((2 : Int32) &&& 31).toUInt32).toInt32) &&& (858993459 : Int32))) + (((((p0 - (((p0.toUInt32 >>> ((1 : Int32) &&& 31).toUInt32).toInt32) &&& (1431655765 : Int32))) &&& (858993459 : Int32)) + ((((p0 - (((p0.toUInt32 >>> ((1 : Int32) &&& 31).toUInt32).toInt32) &&& (1431655765 : Int32))).toUInt32 >>> ((2 : Int32) &&& 31).toUInt32).toInt32) &&& (858993459 : Int32))).toUInt32 >>> ((4 : Int32) &&& 31).toUInt32).toInt32)))])) rfl (hb hby d4_29) _ ?_
    show Steps p.tables e below (s₁.setTop (mkF m 32 #[.val (.int (((p0 - (((p0.toUInt32 >>> ((1 : Int32) &&& 31).toUInt32).toInt32) &&& (1431655765 : Int32))) &&& (858993459 : Int32)) + ((((p0 - (((p0.toUInt32 >>> ((1 : Int32) &&& 31).toUInt32).toInt32) &&& (1431655765 : Int32))).toUInt32 >>> ((2 : Int32) &&& 31).toUInt32).toInt32) &&& (858993459 : Int32))))] [(.int (252645135 : Int32)), (.int ((((p0 - (((p0.toUInt32 >>> ((1 : Int32) &&& 31).toUInt32).toInt32) &&& (1431655765 : Int32))) &&& (858993459 : Int32)) + ((((p0 - (((p0.toUInt32 >>> ((1 : Int32) &&& 31).toUInt32).toInt32) &&& (1431655765 : Int32))).toUInt32 >>> ((2 : Int32) &&& 31).toUInt32).toInt32) &&& (858993459 : Int32))) + (((((p0 - (((p0.toUInt32 >>> ((1 : Int32) &&& 31).toUInt32).toInt32) &&& (1431655765 : Int32))) &&& (858993459 : Int32)) + ((((p0 - (((p0.toUInt32 >>> ((1 : Int32) &&& 31).toUInt32).toInt32) &&& (1431655765 : Int32))).toUInt32 >>> ((2 : Int32) &&& 31).toUInt32).toInt32) &&& (858993459 : Int32))).toUInt32 >>> ((4 : Int32) &&& 31).toUInt32).toInt32)))])) _
    refine XS.iand X0.here hx rfl (hb hby d4_32) rfl ?_
    show Steps p.tables e below (s₁.setTop (mkF m 33 #[.val (.int (((p0 - (((p0.toUInt32 >>> ((1 : Int32) &&& 31).toUInt32).toInt32) &&& (1431655765 : Int32))) &&& (858993459 : Int32)) + ((((p0 - (((p0.toUInt32 >>> ((1 : Int32) &&& 31).toUInt32).toInt32) &&& (1431655765 : Int32))).toUInt32 >>> ((2 : Int32) &&& 31).toUInt32).toInt32) &&& (858993459 : Int32))))] [(.int (((((p0 - (((p0.toUInt32 >>> ((1 : Int32) &&& 31).toUInt32).toInt32) &&& (1431655765 : Int32))) &&& (858993459 : Int32)) + ((((p0 - (((p0.toUInt32 >>> ((1 : Int32) &&& 31).toUInt32).toInt32) &&& (1431655765 : Int32))).toUInt32 >>> ((2 : Int32) &&& 31).toUInt32).toInt32) &&& (858993459 : Int32))) + (((((p0 - (((p0.toUInt32 >>> ((1 : Int32) &&& 31).toUInt32).toInt32) &&& (1431655765 : Int32))) &&& (858993459 : Int32)) + ((((p0 - (((p0.toUInt32 >>> ((1 : Int32) &&& 31).toUInt32).toInt32) &&& (1431655765 : Int32))).toUInt32 >>> ((2 : Int32) &&& 31).toUInt32).toInt32) &&& (858993459 : Int32))).toUInt32 >>> ((4 : Int32) &&& 31).toUInt32).toInt32)) &&& (252645135 : Int32)))])) _
    refine XS.istoreN X0.here hx rfl (hb hby d4_33) rfl (l' := #[.val (.int (((((p0 - (((p0.toUInt32 >>> ((1 : Int32) &&& 31).toUInt32).toInt32) &&& (1431655765 : Int32))) &&& (858993459 : Int32)) + ((((p0 - (((p0.toUInt32 >>> ((1 : Int32) &&& 31).toUInt32).toInt32) &&& (1431655765 : Int32))).toUInt32 >>> ((2 : Int32) &&& 31).toUInt32).toInt32) &&& (858993459 : Int32))) + (((((p0 - (((p0.toUInt32 >>> ((1 : Int32) &&& 31).toUInt32).toInt32) &&& (1431655765 : Int32))) &&& (858993459 : Int32)) + ((((p0 - (((p0.toUInt32 >>> ((1 : Int32) &&& 31).toUInt32).toInt32) &&& (1431655765 : Int32))).toUInt32 >>> ((2 : Int32) &&& 31).toUInt32).toInt32) &&& (858993459 : Int32))).toUInt32 >>> ((4 : Int32) &&& 31).toUInt32).toInt32)) &&& (252645135 : Int32)))]) rfl ?_
    show Steps p.tables e below (s₁.setTop (mkF m 34 #[.val (.int (((((p0 - (((p0.toUInt32 >>> ((1 : Int32) &&& 31).toUInt32).toInt32) &&& (1431655765 : Int32))) &&& (858993459 : Int32)) + ((((p0 - (((p0.toUInt32 >>> ((1 : Int32) &&& 31).toUInt32).toInt32) &&& (1431655765 : Int32))).toUInt32 >>> ((2 : Int32) &&& 31).toUInt32).toInt32) &&& (858993459 : Int32))) + (((((p0 - (((p0.toUInt32 >>> ((1 : Int32) &&& 31).toUInt32).toInt32) &&& (1431655765 : Int32))) &&& (858993459 : Int32)) + ((((p0 - (((p0.toUInt32 >>> ((1 : Int32) &&& 31).toUInt32).toInt32) &&& (1431655765 : Int32))).toUInt32 >>> ((2 : Int32) &&& 31).toUInt32).toInt32) &&& (858993459 : Int32))).toUInt32 >>> ((4 : Int32) &&& 31).toUInt32).toInt32)) &&& (252645135 : Int32)))] [])) _
    refine XS.iloadN X0.here hx rfl (hb hby d4_34) rfl ?_
    show Steps p.tables e below (s₁.setTop (mkF m 35 #[.val (.int (((((p0 - (((p0.toUInt32 >>> ((1 : Int32) &&& 31).toUInt32).toInt32) &&& (1431655765 : Int32))) &&& (858993459 : Int32)) + ((((p0 - (((p0.toUInt32 >>> ((1 : Int32) &&& 31).toUInt32).toInt32) &&& (1431655765 : Int32))).toUInt32 >>> ((2 : Int32) &&& 31).toUInt32).toInt32) &&& (858993459 : Int32))) + (((((p0 - (((p0.toUInt32 >>> ((1 : Int32) &&& 31).toUInt32).toInt32) &&& (1431655765 : Int32))) &&& (858993459 : Int32)) + ((((p0 - (((p0.toUInt32 >>> ((1 : Int32) &&& 31).toUInt32).toInt32) &&& (1431655765 : Int32))).toUInt32 >>> ((2 : Int32) &&& 31).toUInt32).toInt32) &&& (858993459 : Int32))).toUInt32 >>> ((4 : Int32) &&& 31).toUInt32).toInt32)) &&& (252645135 : Int32)))] [(.int (((((p0 - (((p0.toUInt32 >>> ((1 : Int32) &&& 31).toUInt32).toInt32) &&& (1431655765 : Int32))) &&& (858993459 : Int32)) + ((((p0 - (((p0.toUInt32 >>> ((1 : Int32) &&& 31).toUInt32).toInt32) &&& (1431655765 : Int32))).toUInt32 >>> ((2 : Int32) &&& 31).toUInt32).toInt32) &&& (858993459 : Int32))) + (((((p0 - (((p0.toUInt32 >>> ((1 : Int32) &&& 31).toUInt32).toInt32) &&& (1431655765 : Int32))) &&& (858993459 : Int32)) + ((((p0 - (((p0.toUInt32 >>> ((1 : Int32) &&& 31).toUInt32).toInt32) &&& (1431655765 : Int32))).toUInt32 >>> ((2 : Int32) &&& 31).toUInt32).toInt32) &&& (858993459 : Int32))).toUInt32 >>> ((4 : Int32) &&& 31).toUInt32).toInt32)) &&& (252645135 : Int32)))])) _
    refine XS.iloadN X0.here hx rfl (hb hby d4_35) rfl ?_
    show Steps p.tables e below (s₁.setTop (mkF m 36 #[.val (.int (((((p0 - (((p0.toUInt32 >>> ((1 : Int32) &&& 31).toUInt32).toInt32) &&& (1431655765 : Int32))) &&& (858993459 : Int32)) + ((((p0 - (((p0.toUInt32 >>> ((1 : Int32) &&& 31).toUInt32).toInt32) &&& (1431655765 : Int32))).toUInt32 >>> ((2 : Int32) &&& 31).toUInt32).toInt32) &&& (858993459 : Int32))) + (((((p0 - (((p0.toUInt32 >>> ((1 : Int32) &&& 31).toUInt32).toInt32) &&& (1431655765 : Int32))) &&& (858993459 : Int32)) + ((((p0 - (((p0.toUInt32 >>> ((1 : Int32) &&& 31).toUInt32).toInt32) &&& (1431655765 : Int32))).toUInt32 >>> ((2 : Int32) &&& 31).toUInt32).toInt32) &&& (858993459 : Int32))).toUInt32 >>> ((4 : Int32) &&& 31).toUInt32).toInt32)) &&& (252645135 : Int32)))] [(.int (((((p0 - (((p0.toUInt32 >>> ((1 : Int32) &&& 31).toUInt32).toInt32) &&& (1431655765 : Int32))) &&& (858993459 : Int32)) + ((((p0 - (((p0.toUInt32 >>> ((1 : Int32) &&& 31).toUInt32).toInt32) &&& (1431655765 : Int32))).toUInt32 >>> ((2 : Int32) &&& 31).toUInt32).toInt32) &&& (858993459 : Int32))) + (((((p0 - (((p0.toUInt32 >>> ((1 : Int32) &&& 31).toUInt32).toInt32) &&& (1431655765 : Int32))) &&& (858993459 : Int32)) + ((((p0 - (((p0.toUInt32 >>> ((1 : Int32) &&& 31).toUInt32).toInt32) &&& (1431655765 : Int32))).toUInt32 >>> ((2 : Int32) &&& 31).toUInt32).toInt32) &&& (858993459 : Int32))).toUInt32 >>> ((4 : Int32) &&& 31).toUInt32).toInt32)) &&& (252645135 : Int32))), (.int (((((p0 - (((p0.toUInt32 >>> ((1 : Int32) &&& 31).toUInt32).toInt32) &&& (1431655765 : Int32))) &&& (858993459 : Int32)) + ((((p0 - (((p0.toUInt32 >>> ((1 : Int32) &&& 31).toUInt32).toInt32) &&& (1431655765 : Int32))).toUInt32 >>> ((2 : Int32) &&& 31).toUInt32).toInt32) &&& (858993459 : Int32))) + (((((p0 - (((p0.toUInt32 >>> ((1 : Int32) &&& 31).toUInt32).toInt32) &&& (1431655765 : Int32))) &&& (858993459 : Int32)) + ((((p0 - (((p0.toUInt32 >>> ((1 : Int32) &&& 31).toUInt32).toInt32) &&& (1431655765 : Int32))).toUInt32 >>> ((2 : Int32) &&& 31).toUInt32).toInt32) &&& (858993459 : Int32))).toUInt32 >>> ((4 : Int32) &&& 31).toUInt32).toInt32)) &&& (252645135 : Int32)))])) _
    refine XS.bipush X0.here hx rfl (hb hby d4_36) ?_
    show Steps p.tables e below (s₁.setTop (mkF m 38 #[.val (.int (((((p0 - (((p0.toUInt32 >>> ((1 : Int32) &&& 31).toUInt32).toInt32) &&& (1431655765 : Int32))) &&& (858993459 : Int32)) + ((((p0 - (((p0.toUInt32 >>> ((1 : Int32) &&& 31).toUInt32).toInt32) &&& (1431655765 : Int32))).toUInt32 >>> ((2 : Int32) &&& 31).toUInt32).toInt32) &&& (858993459 : Int32))) + (((((p0 - (((p0.toUInt32 >>> ((1 : Int32) &&& 31).toUInt32).toInt32) &&& (1431655765 : Int32))) &&& (858993459 : Int32)) + ((((p0 - (((p0.toUInt32 >>> ((1 : Int32) &&& 31).toUInt32).toInt32) &&& (1431655765 : Int32))).toUInt32 >>> ((2 : Int32) &&& 31).toUInt32).toInt32) &&& (858993459 : Int32))).toUInt32 >>> ((4 : Int32) &&& 31).toUInt32).toInt32)) &&& (252645135 : Int32)))] [(.int (8 : Int32)), (.int (((((p0 - (((p0.toUInt32 >>> ((1 : Int32) &&& 31).toUInt32).toInt32) &&& (1431655765 : Int32))) &&& (858993459 : Int32)) + ((((p0 - (((p0.toUInt32 >>> ((1 : Int32) &&& 31).toUInt32).toInt32) &&& (1431655765 : Int32))).toUInt32 >>> ((2 : Int32) &&& 31).toUInt32).toInt32) &&& (858993459 : Int32))) + (((((p0 - (((p0.toUInt32 >>> ((1 : Int32) &&& 31).toUInt32).toInt32) &&& (1431655765 : Int32))) &&& (858993459 : Int32)) + ((((p0 - (((p0.toUInt32 >>> ((1 : Int32) &&& 31).toUInt32).toInt32) &&& (1431655765 : Int32))).toUInt32 >>> ((2 : Int32) &&& 31).toUInt32).toInt32) &&& (858993459 : Int32))).toUInt32 >>> ((4 : Int32) &&& 31).toUInt32).toInt32)) &&& (252645135 : Int32))), (.int (((((p0 - (((p0.toUInt32 >>> ((1 : Int32) &&& 31).toUInt32).toInt32) &&& (1431655765 : Int32))) &&& (858993459 : Int32)) + ((((p0 - (((p0.toUInt32 >>> ((1 : Int32) &&& 31).toUInt32).toInt32) &&& (1431655765 : Int32))).toUInt32 >>> ((2 : Int32) &&& 31).toUInt32).toInt32) &&& (858993459 : Int32))) + (((((p0 - (((p0.toUInt32 >>> ((1 : Int32) &&& 31).toUInt32).toInt32) &&& (1431655765 : Int32))) &&& (858993459 : Int32)) + ((((p0 - (((p0.toUInt32 >>> ((1 : Int32) &&& 31).toUInt32).toInt32) &&& (1431655765 : Int32))).toUInt32 >>> ((2 : Int32) &&& 31).toUInt32).toInt32) &&& (858993459 : Int32))).toUInt32 >>> ((4 : Int32) &&& 31).toUInt32).toInt32)) &&& (252645135 : Int32)))])) _
    refine XS.iushr X0.here hx rfl (hb hby d4_38) rfl ?_
    show Steps p.tables e below (s₁.setTop (mkF m 39 #[.val (.int (((((p0 - (((p0.toUInt32 >>> ((1 : Int32) &&& 31).toUInt32).toInt32) &&& (1431655765 : Int32))) &&& (858993459 : Int32)) + ((((p0 - (((p0.toUInt32 >>> ((1 : Int32) &&& 31).toUInt32).toInt32) &&& (1431655765 : Int32))).toUInt32 >>> ((2 : Int32) &&& 31).toUInt32).toInt32) &&& (858993459 : Int32))) + (((((p0 - (((p0.toUInt32 >>> ((1 : Int32) &&& 31).toUInt32).toInt32) &&& (1431655765 : Int32))) &&& (858993459 : Int32)) + ((((p0 - (((p0.toUInt32 >>> ((1 : Int32) &&& 31).toUInt32).toInt32) &&& (1431655765 : Int32))).toUInt32 >>> ((2 : Int32) &&& 31).toUInt32).toInt32) &&& (858993459 : Int32))).toUInt32 >>> ((4 : Int32) &&& 31).toUInt32).toInt32)) &&& (252645135 : Int32)))] [(.int (((((((p0 - (((p0.toUInt32 >>> ((1 : Int32) &&& 31).toUInt32).toInt32) &&& (1431655765 : Int32))) &&& (858993459 : Int32)) + ((((p0 - (((p0.toUInt32 >>> ((1 : Int32) &&& 31).toUInt32).toInt32) &&& (1431655765 : Int32))).toUInt32 >>> ((2 : Int32) &&& 31).toUInt32).toInt32) &&& (858993459 : Int32))) + (((((p0 - (((p0.toUInt32 >>> ((1 : Int32) &&& 31).toUInt32).toInt32) &&& (1431655765 : Int32))) &&& (858993459 : Int32)) + ((((p0 - (((p0.toUInt32 >>> ((1 : Int32) &&& 31).toUInt32).toInt32) &&& (1431655765 : Int32))).toUInt32 >>> ((2 : Int32) &&& 31).toUInt32).toInt32) &&& (858993459 : Int32))).toUInt32 >>> ((4 : Int32) &&& 31).toUInt32).toInt32)) &&& (252645135 : Int32)).toUInt32 >>> ((8 : Int32) &&& 31).toUInt32).toInt32)), (.int (((((p0 - (((p0.toUInt32 >>> ((1 : Int32) &&& 31).toUInt32).toInt32) &&& (1431655765 : Int32))) &&& (858993459 : Int32)) + ((((p0 - (((p0.toUInt32 >>> ((1 : Int32) &&& 31).toUInt32).toInt32) &&& (1431655765 : Int32))).toUInt32 >>> ((2 : Int32) &&& 31).toUInt32).toInt32) &&& (858993459 : Int32))) + (((((p0 - (((p0.toUInt32 >>> ((1 : Int32) &&& 31).toUInt32).toInt32) &&& (1431655765 : Int32))) &&& (858993459 : Int32)) + ((((p0 - (((p0.toUInt32 >>> ((1 : Int32) &&& 31).toUInt32).toInt32) &&& (1431655765 : Int32))).toUInt32 >>> ((2 : Int32) &&& 31).toUInt32).toInt32) &&& (858993459 : Int32))).toUInt32 >>> ((4 : Int32) &&& 31).toUInt32).toInt32)) &&& (252645135 : Int32)))])) _
    refine XS.iadd X0.here hx rfl (hb hby d4_39) rfl ?_
    show Steps p.tables e below (s₁.setTop (mkF m 40 #[.val (.int (((((p0 - (((p0.toUInt32 >>> ((1 : Int32) &&& 31).toUInt32).toInt32) &&& (1431655765 : Int32))) &&& (858993459 : Int32)) + ((((p0 - (((p0.toUInt32 >>> ((1 : Int32) &&& 31).toUInt32).toInt32) &&& (1431655765 : Int32))).toUInt32 >>> ((2 : Int32) &&& 31).toUInt32).toInt32) &&& (858993459 : Int32))) + (((((p0 - (((p0.toUInt32 >>> ((1 : Int32) &&& 31).toUInt32).toInt32) &&& (1431655765 : Int32))) &&& (858993459 : Int32)) + ((((p0 - (((p0.toUInt32 >>> ((1 : Int32) &&& 31).toUInt32).toInt32) &&& (1431655765 : Int32))).toUInt32 >>> ((2 : Int32) &&& 31).toUInt32).toInt32) &&& (858993459 : Int32))).toUInt32 >>> ((4 : Int32) &&& 31).toUInt32).toInt32)) &&& (252645135 : Int32)))] [(.int ((((((p0 - (((p0.toUInt32 >>> ((1 : Int32) &&& 31).toUInt32).toInt32) &&& (1431655765 : Int32))) &&& (858993459 : Int32)) + ((((p0 - (((p0.toUInt32 >>> ((1 : Int32) &&& 31).toUInt32).toInt32) &&& (1431655765 : Int32))).toUInt32 >>> ((2 : Int32) &&& 31).toUInt32).toInt32) &&& (858993459 : Int32))) + (((((p0 - (((p0.toUInt32 >>> ((1 : Int32) &&& 31).toUInt32).toInt32) &&& (1431655765 : Int32))) &&& (858993459 : Int32)) + ((((p0 - (((p0.toUInt32 >>> ((1 : Int32) &&& 31).toUInt32).toInt32) &&& (1431655765 : Int32))).toUInt32 >>> ((2 : Int32) &&& 31).toUInt32).toInt32) &&& (858993459 : Int32))).toUInt32 >>> ((4 : Int32) &&& 31).toUInt32).toInt32)) &&& (252645135 : Int32)) + (((((((p0 - (((p0.toUInt32 >>> ((1 : Int32) &&& 31).toUInt32).toInt32) &&& (1431655765 : Int32))) &&& (858993459 : Int32)) + ((((p0 - (((p0.toUInt32 >>> ((1 : Int32) &&& 31).toUInt32).toInt32) &&& (1431655765 : Int32))).toUInt32 >>> ((2 : Int32) &&& 31).toUInt32).toInt32) &&& (858993459 : Int32))) + (((((p0 - (((p0.toUInt32 >>> ((1 : Int32) &&& 31).toUInt32).toInt32) &&& (1431655765 : Int32))) &&& (858993459 : Int32)) + ((((p0 - (((p0.toUInt32 >>> ((1 : Int32) &&& 31).toUInt32).toInt32) &&& (1431655765 : Int32))).toUInt32 >>> ((2 : Int32) &&& 31).toUInt32).toInt32) &&& (858993459 : Int32))).toUInt32 >>> ((4 : Int32) &&& 31).toUInt32).toInt32)) &&& (252645135 : Int32)).toUInt32 >>> ((8 : Int32) &&& 31).toUInt32).toInt32)))])) _
    refine XS.istoreN X0.here hx rfl (hb hby d4_40) rfl (l' := #[.val (.int ((((((p0 - (((p0.toUInt32 >>> ((1 : Int32) &&& 31).toUInt32).toInt32) &&& (1431655765 : Int32))) &&& (858993459 : Int32)) + ((((p0 - (((p0.toUInt32 >>> ((1 : Int32) &&& 31).toUInt32).toInt32) &&& (1431655765 : Int32))).toUInt32 >>> ((2 : Int32) &&& 31).toUInt32).toInt32) &&& (858993459 : Int32))) + (((((p0 - (((p0.toUInt32 >>> ((1 : Int32) &&& 31).toUInt32).toInt32) &&& (1431655765 : Int32))) &&& (858993459 : Int32)) + ((((p0 - (((p0.toUInt32 >>> ((1 : Int32) &&& 31).toUInt32).toInt32) &&& (1431655765 : Int32))).toUInt32 >>> ((2 : Int32) &&& 31).toUInt32).toInt32) &&& (858993459 : Int32))).toUInt32 >>> ((4 : Int32) &&& 31).toUInt32).toInt32)) &&& (252645135 : Int32)) + (((((((p0 - (((p0.toUInt32 >>> ((1 : Int32) &&& 31).toUInt32).toInt32) &&& (1431655765 : Int32))) &&& (858993459 : Int32)) + ((((p0 - (((p0.toUInt32 >>> ((1 : Int32) &&& 31).toUInt32).toInt32) &&& (1431655765 : Int32))).toUInt32 >>> ((2 : Int32) &&& 31).toUInt32).toInt32) &&& (858993459 : Int32))) + (((((p0 - (((p0.toUInt32 >>> ((1 : Int32) &&& 31).toUInt32).toInt32) &&& (1431655765 : Int32))) &&& (858993459 : Int32)) + ((((p0 - (((p0.toUInt32 >>> ((1 : Int32) &&& 31).toUInt32).toInt32) &&& (1431655765 : Int32))).toUInt32 >>> ((2 : Int32) &&& 31).toUInt32).toInt32) &&& (858993459 : Int32))).toUInt32 >>> ((4 : Int32) &&& 31).toUInt32).toInt32)) &&& (252645135 : Int32)).toUInt32 >>> ((8 : Int32) &&& 31).toUInt32).toInt32)))]) rfl ?_
    show Steps p.tables e below (s₁.setTop (mkF m 41 #[.val (.int ((((((p0 - (((p0.toUInt32 >>> ((1 : Int32) &&& 31).toUInt32).toInt32) &&& (1431655765 : Int32))) &&& (858993459 : Int32)) + ((((p0 - (((p0.toUInt32 >>> ((1 : Int32) &&& 31).toUInt32).toInt32) &&& (1431655765 : Int32))).toUInt32 >>> ((2 : Int32) &&& 31).toUInt32).toInt32) &&& (858993459 : Int32))) + (((((p0 - (((p0.toUInt32 >>> ((1 : Int32) &&& 31).toUInt32).toInt32) &&& (1431655765 : Int32))) &&& (858993459 : Int32)) + ((((p0 - (((p0.toUInt32 >>> ((1 : Int32) &&& 31).toUInt32).toInt32) &&& (1431655765 : Int32))).toUInt32 >>> ((2 : Int32) &&& 31).toUInt32).toInt32) &&& (858993459 : Int32))).toUInt32 >>> ((4 : Int32) &&& 31).toUInt32).toInt32)) &&& (252645135 : Int32)) + (((((((p0 - (((p0.toUInt32 >>> ((1 : Int32) &&& 31).toUInt32).toInt32) &&& (1431655765 : Int32))) &&& (858993459 : Int32)) + ((((p0 - (((p0.toUInt32 >>> ((1 : Int32) &&& 31).toUInt32).toInt32) &&& (1431655765 : Int32))).toUInt32 >>> ((2 : Int32) &&& 31).toUInt32).toInt32) &&& (858993459 : Int32))) + (((((p0 - (((p0.toUInt32 >>> ((1 : Int32) &&& 31).toUInt32).toInt32) &&& (1431655765 : Int32))) &&& (858993459 : Int32)) + ((((p0 - (((p0.toUInt32 >>> ((1 : Int32) &&& 31).toUInt32).toInt32) &&& (1431655765 : Int32))).toUInt32 >>> ((2 : Int32) &&& 31).toUInt32).toInt32) &&& (858993459 : Int32))).toUInt32 >>> ((4 : Int32) &&& 31).toUInt32).toInt32)) &&& (252645135 : Int32)).toUInt32 >>> ((8 : Int32) &&& 31).toUInt32).toInt32)))] [])) _
    refine XS.iloadN X0.here hx rfl (hb hby d4_41) rfl ?_
    show Steps p.tables e below (s₁.setTop (mkF m 42 #[.val (.int ((((((p0 - (((p0.toUInt32 >>> ((1 : Int32) &&& 31).toUInt32).toInt32) &&& (1431655765 : Int32))) &&& (858993459 : Int32)) + ((((p0 - (((p0.toUInt32 >>> ((1 : Int32) &&& 31).toUInt32).toInt32) &&& (1431655765 : Int32))).toUInt32 >>> ((2 : Int32) &&& 31).toUInt32).toInt32) &&& (858993459 : Int32))) + (((((p0 - (((p0.toUInt32 >>> ((1 : Int32) &&& 31).toUInt32).toInt32) &&& (1431655765 : Int32))) &&& (858993459 : Int32)) + ((((p0 - (((p0.toUInt32 >>> ((1 : Int32) &&& 31).toUInt32).toInt32) &&& (1431655765 : Int32))).toUInt32 >>> ((2 : Int32) &&& 31).toUInt32).toInt32) &&& (858993459 : Int32))).toUInt32 >>> ((4 : Int32) &&& 31).toUInt32).toInt32)) &&& (252645135 : Int32)) + (((((((p0 - (((p0.toUInt32 >>> ((1 : Int32) &&& 31).toUInt32).toInt32) &&& (1431655765 : Int32))) &&& (858993459 : Int32)) + ((((p0 - (((p0.toUInt32 >>> ((1 : Int32) &&& 31).toUInt32).toInt32) &&& (1431655765 : Int32))).toUInt32 >>> ((2 : Int32) &&& 31).toUInt32).toInt32) &&& (858993459 : Int32))) + (((((p0 - (((p0.toUInt32 >>> ((1 : Int32) &&& 31).toUInt32).toInt32) &&& (1431655765 : Int32))) &&& (858993459 : Int32)) + ((((p0 - (((p0.toUInt32 >>> ((1 : Int32) &&& 31).toUInt32).toInt32) &&& (1431655765 : Int32))).toUInt32 >>> ((2 : Int32) &&& 31).toUInt32).toInt32) &&& (858993459 : Int32))).toUInt32 >>> ((4 : Int32) &&& 31).toUInt32).toInt32)) &&& (252645135 : Int32)).toUInt32 >>> ((8 : Int32) &&& 31).toUInt32).toInt32)))] [(.int ((((((p0 - (((p0.toUInt32 >>> ((1 : Int32) &&& 31).toUInt32).toInt32) &&& (1431655765 : Int32))) &&& (858993459 : Int32)) + ((((p0 - (((p0.toUInt32 >>> ((1 : Int32) &&& 31).toUInt32).toInt32) &&& (1431655765 : Int32))).toUInt32 >>> ((2 : Int32) &&& 31).toUInt32).toInt32) &&& (858993459 : Int32))) + (((((p0 - (((p0.toUInt32 >>> ((1 : Int32) &&& 31).toUInt32).toInt32) &&& (1431655765 : Int32))) &&& (858993459 : Int32)) + ((((p0 - (((p0.toUInt32 >>> ((1 : Int32) &&& 31).toUInt32).toInt32) &&& (1431655765 : Int32))).toUInt32 >>> ((2 : Int32) &&& 31).toUInt32).toInt32) &&& (858993459 : Int32))).toUInt32 >>> ((4 : Int32) &&& 31).toUInt32).toInt32)) &&& (252645135 : Int32)) + (((((((p0 - (((p0.toUInt32 >>> ((1 : Int32) &&& 31).toUInt32).toInt32) &&& (1431655765 : Int32))) &&& (858993459 : Int32)) + ((((p0 - (((p0.toUInt32 >>> ((1 : Int32) &&& 31).toUInt32).toInt32) &&& (1431655765 : Int32))).toUInt32 >>> ((2 : Int32) &&& 31).toUInt32).toInt32) &&& (858993459 : Int32))) + (((((p0 - (((p0.toUInt32 >>> ((1 : Int32) &&& 31).toUInt32).toInt32) &&& (1431655765 : Int32))) &&& (858993459 : Int32)) + ((((p0 - (((p0.toUInt32 >>> ((1 : Int32) &&& 31).toUInt32).toInt32) &&& (1431655765 : Int32))).toUInt32 >>> ((2 : Int32) &&& 31).toUInt32).toInt32) &&& (858993459 : Int32))).toUInt32 >>> ((4 : Int32) &&& 31).toUInt32).toInt32)) &&& (252645135 : Int32)).toUInt32 >>> ((8 : Int32) &&& 31).toUInt32).toInt32)))])) _
    refine XS.iloadN X0.here hx rfl (hb hby d4_42) rfl ?_
    show Steps p.tables e below (s₁.setTop (mkF m 43 #[.val (.int ((((((p0 - (((p0.toUInt32 >>> ((1 : Int32) &&& 31).toUInt32).toInt32) &&& (1431655765 : Int32))) &&& (858993459 : Int32)) + ((((p0 - (((p0.toUInt32 >>> ((1 : Int32) &&& 31).toUInt32).toInt32) &&& (1431655765 : Int32))).toUInt32 >>> ((2 : Int32) &&& 31).toUInt32).toInt32) &&& (858993459 : Int32))) + (((((p0 - (((p0.toUInt32 >>> ((1 : Int32) &&& 31).toUInt32).toInt32) &&& (1431655765 : Int32))) &&& (858993459 : Int32)) + ((((p0 - (((p0.toUInt32 >>> ((1 : Int32) &&& 31).toUInt32).toInt32) &&& (1431655765 : Int32))).toUInt32 >>> ((2 : Int32) &&& 31).toUInt32).toInt32) &&& (858993459 : Int32))).toUInt32 >>> ((4 : Int32) &&& 31).toUInt32).toInt32)) &&& (252645135 : Int32)) + (((((((p0 - (((p0.toUInt32 >>> ((1 : Int32) &&& 31).toUInt32).toInt32) &&& (1431655765 : Int32))) &&& (858993459 : Int32)) + ((((p0 - (((p0.toUInt32 >>> ((1 : Int32) &&& 31).toUInt32).toInt32) &&& (1431655765 : Int32))).toUInt32 >>> ((2 : Int32) &&& 31).toUInt32).toInt32) &&& (858993459 : Int32))) + (((((p0 - (((p0.toUInt32 >>> ((1 : Int32) &&& 31).toUInt32).toInt32) &&& (1431655765 : Int32))) &&& (858993459 : Int32)) + ((((p0 - (((p0.toUInt32 >>> ((1 : Int32) &&& 31).toUInt32).toInt32) &&& (1431655765 : Int32))).toUInt32 >>> ((2 : Int32) &&& 31).toUInt32).toInt32) &&& (858993459 : Int32))).toUInt32 >>> ((4 : Int32) &&& 31).toUInt32).toInt32)) &&& (252645135 : Int32)).toUInt32 >>> ((8 : Int32) &&& 31).toUInt32).toInt32)))] [(.int ((((((p0 - (((p0.toUInt32 >>> ((1 : Int32) &&& 31).toUInt32).toInt32) &&& (1431655765 : Int32))) &&& (858993459 : Int32)) + ((((p0 - (((p0.toUInt32 >>> ((1 : Int32) &&& 31).toUInt32).toInt32) &&& (1431655765 : Int32))).toUInt32 >>> ((2 : Int32) &&& 31).toUInt32).toInt32) &&& (858993459 : Int32))) + (((((p0 - (((p0.toUInt32 >>> ((1 : Int32) &&& 31).toUInt32).toInt32) &&& (1431655765 : Int32))) &&& (858993459 : Int32)) + ((((p0 - (((p0.toUInt32 >>> ((1 : Int32) &&& 31).toUInt32).toInt32) &&& (1431655765 : Int32))).toUInt32 >>> ((2 : Int32) &&& 31).toUInt32).toInt32) &&& (858993459 : Int32))).toUInt32 >>> ((4 : Int32) &&& 31).toUInt32).toInt32)) &&& (252645135 : Int32)) + (((((((p0 - (((p0.toUInt32 >>> ((1 : Int32) &&& 31).toUInt32).toInt32) &&& (1431655765 : Int32))) &&& (858993459 : Int32)) + ((((p0 - (((p0.toUInt32 >>> ((1 : Int32) &&& 31).toUInt32).toInt32) &&& (1431655765 : Int32))).toUInt32 >>> ((2 : Int32) &&& 31).toUInt32).toInt32) &&& (858993459 : Int32))) + (((((p0 - (((p0.toUInt32 >>> ((1 : Int32) &&& 31).toUInt32).toInt32) &&& (1431655765 : Int32))) &&& (858993459 : Int32)) + ((((p0 - (((p0.toUInt32 >>> ((1 : Int32) &&& 31).toUInt32).toInt32) &&& (1431655765 : Int32))).toUInt32 >>> ((2 : Int32) &&& 31).toUInt32).toInt32) &&& (858993459 : Int32))).toUInt32 >>> ((4 : Int32) &&& 31).toUInt32).toInt32)) &&& (252645135 : Int32)).toUInt32 >>> ((8 : Int32) &&& 31).toUInt32).toInt32))), (.int ((((((p0 - (((p0.toUInt32 >>> ((1 : Int32) &&& 31).toUInt32).toInt32) &&& (1431655765 : Int32))) &&& (858993459 : Int32)) + ((((p0 - (((p0.toUInt32 >>> ((1 : Int32) &&& 31).toUInt32).toInt32) &&& (1431655765 : Int32))).toUInt32 >>> ((2 : Int32) &&& 31).toUInt32).toInt32) &&& (858993459 : Int32))) + (((((p0 - (((p0.toUInt32 >>> ((1 : Int32) &&& 31).toUInt32).toInt32) &&& (1431655765 : Int32))) &&& (858993459 : Int32)) + ((((p0 - (((p0.toUInt32 >>> ((1 : Int32) &&& 31).toUInt32).toInt32) &&& (1431655765 : Int32))).toUInt32 >>> ((2 : Int32) &&& 31).toUInt32).toInt32) &&& (858993459 : Int32))).toUInt32 >>> ((4 : Int32) &&& 31).toUInt32).toInt32)) &&& (252645135 : Int32)) + (((((((p0 - (((p0.toUInt32 >>> ((1 : Int32) &&& 31).toUInt32).toInt32) &&& (1431655765 : Int32))) &&& (858993459 : Int32)) + ((((p0 - (((p0.toUInt32 >>> ((1 : Int32) &&& 31).toUInt32).toInt32) &&& (1431655765 : Int32))).toUInt32 >>> ((2 : Int32) &&& 31).toUInt32).toInt32) &&& (858993459 : Int32))) + (((((p0 - (((p0.toUInt32 >>> ((1 : Int32) &&& 31).toUInt32).toInt32) &&& (1431655765 : Int32))) &&& (858993459 : Int32)) + ((((p0 - (((p0.toUInt32 >>> ((1 : Int32) &&& 31).toUInt32).toInt32) &&& (1431655765 : Int32))).toUInt32 >>> ((2 : Int32) &&& 31).toUInt32).toInt32) &&& (858993459 : Int32))).toUInt32 >>> ((4 : Int32) &&& 31).toUInt32).toInt32)) &&& (252645135 : Int32)).toUInt32 >>> ((8 : Int32) &&& 31).toUInt32).toInt32)))])) _
    refine XS.bipush X0.here hx rfl (hb hby d4_43) ?_
    show Steps p.tables e below (s₁.setTop (mkF m 45 #[.val (.int ((((((p0 - (((p0.toUInt32 >>> ((1 : Int32) &&& 31).toUInt32).toInt32) &&& (1431655765 : Int32))) &&& (858993459 : Int32)) + ((((p0 - (((p0.toUInt32 >>> ((1 : Int32) &&& 31).toUInt32).toInt32) &&& (1431655765 : Int32))).toUInt32 >>> ((2 : Int32) &&& 31).toUInt32).toInt32) &&& (858993459 : Int32))) + (((((p0 - (((p0.toUInt32 >>> ((1 : Int32) &&& 31).toUInt32).toInt32) &&& (1431655765 : Int32))) &&& (858993459 : Int32)) + ((((p0 - (((p0.toUInt32 >>> ((1 : Int32) &&& 31).toUInt32).toInt32) &&& (1431655765 : Int32))).toUInt32 >>> ((2 : Int32) &&& 31).toUInt32).toInt32) &&& (858993459 : Int32))).toUInt32 >>> ((4 : Int32) &&& 31).toUInt32).toInt32)) &&& (252645135 : Int32)) + (((((((p0 - (((p0.toUInt32 >>> ((1 : Int32) &&& 31).toUInt32).toInt32) &&& (1431655765 : Int32))) &&& (858993459 : Int32)) + ((((p0 - (((p0.toUInt32 >>> ((1 : Int32) &&& 31).toUInt32).toInt32) &&& (1431655765 : Int32))).toUInt32 >>> ((2 : Int32) &&& 31).toUInt32).toInt32) &&& (858993459 : Int32))) + (((((p0 - (((p0.toUInt32 >>> ((1 : Int32) &&& 31).toUInt32).toInt32) &&& (1431655765 : Int32))) &&& (858993459 : Int32)) + ((((p0 - (((p0.toUInt32 >>> ((1 : Int32) &&& 31).toUInt32).toInt32) &&& (1431655765 : Int32))).toUInt32 >>> ((2 : Int32) &&& 31).toUInt32).toInt32) &&& (858993459 : Int32))).toUInt32 >>> ((4 : Int32) &&& 31).toUInt32).toInt32)) &&& (252645135 : Int32)).toUInt32 >>> ((8 : Int32) &&& 31).toUInt32).toInt32)))] [(.int (16 : Int32)), (.int ((((((p0 - (((p0.toUInt32 >>> ((1 : Int32) &&& 31).toUInt32).toInt32) &&& (1431655765 : Int32))) &&& (858993459 : Int32)) + ((((p0 - (((p0.toUInt32 >>> ((1 : Int32) &&& 31).toUInt32).toInt32) &&& (1431655765 : Int32))).toUInt32 >>> ((2 : Int32) &&& 31).toUInt32).toInt32) &&& (858993459 : Int32))) + (((((p0 - (((p0.toUInt32 >>> ((1 : Int32) &&& 31).toUInt32).toInt32) &&& (1431655765 : Int32))) &&& (858993459 : Int32)) + ((((p0 - (((p0.toUInt32 >>> ((1 : Int32) &&& 31).toUInt32).toInt32) &&& (1431655765 : Int32))).toUInt32 >>> ((2 : Int32) &&& 31).toUInt32).toInt32) &&& (858993459 : Int32))).toUInt32 >>> ((4 : Int32) &&& 31).toUInt32).toInt32)) &&& (252645135 : Int32)) + (((((((p0 - (((p0.toUInt32 >>> ((1 : Int32) &&& 31).toUInt32).toInt32) &&& (1431655765 : Int32))) &&& (858993459 : Int32)) + ((((p0 - (((p0.toUInt32 >>> ((1 : Int32) &&& 31).toUInt32).toInt32) &&& (1431655765 : Int32))).toUInt32 >>> ((2 : Int32) &&& 31).toUInt32).toInt32) &&& (858993459 : Int32))) + (((((p0 - (((p0.toUInt32 >>> ((1 : Int32) &&& 31).toUInt32).toInt32) &&& (1431655765 : Int32))) &&& (858993459 : Int32)) + ((((p0 - (((p0.toUInt32 >>> ((1 : Int32) &&& 31).toUInt32).toInt32) &&& (1431655765 : Int32))).toUInt32 >>> ((2 : Int32) &&& 31).toUInt32).toInt32) &&& (858993459 : Int32))).toUInt32 >>> ((4 : Int32) &&& 31).toUInt32).toInt32)) &&& (252645135 : Int32)).toUInt32 >>> ((8 : Int32) &&& 31).toUInt32).toInt32))), (.int ((((((p0 - (((p0.toUInt32 >>> ((1 : Int32) &&& 31).toUInt32).toInt32) &&& (1431655765 : Int32))) &&& (858993459 : Int32)) + ((((p0 - (((p0.toUInt32 >>> ((1 : Int32) &&& 31).toUInt32).toInt32) &&& (1431655765 : Int32))).toUInt32 >>> ((2 : Int32) &&& 31).toUInt32).toInt32) &&& (858993459 : Int32))) + (((((p0 - (((p0.toUInt32 >>> ((1 : Int32) &&& 31).toUInt32).toInt32) &&& (1431655765 : Int32))) &&& (858993459 : Int32)) + ((((p0 - (((p0.toUInt32 >>> ((1 : Int32) &&& 31).toUInt32).toInt32) &&& (1431655765 : Int32))).toUInt32 >>> ((2 : Int32) &&& 31).toUInt32).toInt32) &&& (858993459 : Int32))).toUInt32 >>> ((4 : Int32) &&& 31).toUInt32).toInt32)) &&& (252645135 : Int32)) + (((((((p0 - (((p0.toUInt32 >>> ((1 : Int32) &&& 31).toUInt32).toInt32) &&& (1431655765 : Int32))) &&& (858993459 : Int32)) + ((((p0 - (((p0.toUInt32 >>> ((1 : Int32) &&& 31).toUInt32).toInt32) &&& (1431655765 : Int32))).toUInt32 >>> ((2 : Int32) &&& 31).toUInt32).toInt32) &&& (858993459 : Int32))) + (((((p0 - (((p0.toUInt32 >>> ((1 : Int32) &&& 31).toUInt32).toInt32) &&& (1431655765 : Int32))) &&& (858993459 : Int32)) + ((((p0 - (((p0.toUInt32 >>> ((1 : Int32) &&& 31).toUInt32).toInt32) &&& (1431655765 : Int32))).toUInt32 >>> ((2 : Int32) &&& 31).toUInt32).toInt32) &&& (858993459 : Int32))).toUInt32 >>> ((4 : Int32) &&& 31).toUInt32).toInt32)) &&& (252645135 : Int32)).toUInt32 >>> ((8 : Int32) &&& 31).toUInt32).toInt32)))])) _
    refine XS.iushr X0.here hx rfl (hb hby d4_45) rfl ?_
    show Steps p.tables e below (s₁.setTop (mkF m 46 #[.val (.int ((((((p0 - (((p0.toUInt32 >>> ((1 : Int32) &&& 31).toUInt32).toInt32) &&& (1431655765 : Int32))) &&& (858993459 : Int32)) + ((((p0 - (((p0.toUInt32 >>> ((1 : Int32) &&& 31).toUInt32).toInt32) &&& (1431655765 : Int32))).toUInt32 >>> ((2 : Int32) &&& 31).toUInt32).toInt32) &&& (858993459 : Int32))) + (((((p0 - (((p0.toUInt32 >>> ((1 : Int32) &&& 31).toUInt32).toInt32) &&& (1431655765 : Int32))) &&& (858993459 : Int32)) + ((((p0 - (((p0.toUInt32 >>> ((1 : Int32) &&& 31).toUInt32).toInt32) &&& (1431655765 : Int32))).toUInt32 >>> ((2 : Int32) &&& 31).toUInt32).toInt32) &&& (858993459 : Int32))).toUInt32 >>> ((4 : Int32) &&& 31).toUInt32).toInt32)) &&& (252645135 : Int32)) + (((((((p0 - (((p0.toUInt32 >>> ((1 : Int32) &&& 31).toUInt32).toInt32) &&& (1431655765 : Int32))) &&& (858993459 : Int32)) + ((((p0 - (((p0.toUInt32 >>> ((1 : Int32) &&& 31).toUInt32).toInt32) &&& (1431655765 : Int32))).toUInt32 >>> ((2 : Int32) &&& 31).toUInt32).toInt32) &&& (858993459 : Int32))) + (((((p0 - (((p0.toUInt32 >>> ((1 : Int32) &&& 31).toUInt32).toInt32) &&& (1431655765 : Int32))) &&& (858993459 : Int32)) + ((((p0 - (((p0.toUInt32 >>> ((1 : Int32) &&& 31).toUInt32).toInt32) &&& (1431655765 : Int32))).toUInt32 >>> ((2 : Int32) &&& 31).toUInt32).toInt32) &&& (858993459 : Int32))).toUInt32 >>> ((4 : Int32) &&& 31).toUInt32).toInt32)) &&& (252645135 : Int32)).toUInt32 >>> ((8 : Int32) &&& 31).toUInt32).toInt32)))] [(.int ((((((((p0 - (((p0.toUInt32 >>> ((1 : Int32) &&& 31).toUInt32).toInt32) &&& (1431655765 : Int32))) &&& (858993459 : Int32)) + ((((p0 - (((p0.toUInt32 >>> ((1 : Int32) &&& 31).toUInt32).toInt32) &&& (1431655765 : Int32))).toUInt32 >>> ((2 : Int32) &&& 31).toUInt32).toInt32) &&& (858993459 : Int32))) + (((((p0 - (((p0.toUInt32 >>> ((1 : Int32) &&& 31).toUInt32).toInt32) &&& (1431655765 : Int32))) &&& (858993459 : Int32)) + ((((p0 - (((p0.toUInt32 >>> ((1 : Int32) &&& 31).toUInt32).toInt32) &&& (1431655765 : Int32))).toUInt32 >>> ((2 : Int32) &&& 31).toUInt32).toInt32) &&& (858993459 : Int32))).toUInt32 >>> ((4 : Int32) &&& 31).toUInt32).toInt32)) &&& (252645135 : Int32)) + (((((((p0 - (((p0.toUInt32 >>> ((1 : Int32) &&& 31).toUInt32).toInt32) &&& (1431655765 : Int32))) &&& (858993459 : Int32)) + ((((p0 - (((p0.toUInt32 >>> ((1 : Int32) &&& 31).toUInt32).toInt32) &&& (1431655765 : Int32))).toUInt32 >>> ((2 : Int32) &&& 31).toUInt32).toInt32) &&& (858993459 : Int32))) + (((((p0 - (((p0.toUInt32 >>> ((1 : Int32) &&& 31).toUInt32).toInt32) &&& (1431655765 : Int32))) &&& (858993459 : Int32)) + ((((p0 - (((p0.toUInt32 >>> ((1 : Int32) &&& 31).toUInt32).toInt32) &&& (1431655765 : Int32))).toUInt32 >>> ((2 : Int32) &&& 31).toUInt32).toInt32) &&& (858993459 : Int32))).toUInt32 >>> ((4 : Int32) &&& 31).toUInt32).toInt32)) &&& (252645135 : Int32)).toUInt32 >>> ((8 : Int32) &&& 31).toUInt32).toInt32)).toUInt32 >>> ((16 : Int32) &&& 31).toUInt32).toInt32)), (.int ((((((p0 - (((p0.toUInt32 >>> ((1 : Int32) &&& 31).toUInt32).toInt32) &&& (1431655765 : Int32))) &&& (858993459 : Int32)) + ((((p0 - (((p0.toUInt32 >>> ((1 : Int32) &&& 31).toUInt32).toInt32) &&& (1431655765 : Int32))).toUInt32 >>> ((2 : Int32) &&& 31).toUInt32).toInt32) &&& (858993459 : Int32))) + (((((p0 - (((p0.toUInt32 >>> ((1 : Int32) &&& 31).toUInt32).toInt32) &&& (1431655765 : Int32))) &&& (858993459 : Int32)) + ((((p0 - (((p0.toUInt32 >>> ((1 : Int32) &&& 31).toUInt32).toInt32) &&& (1431655765 : Int32))).toUInt32 >>> ((2 : Int32) &&& 31).toUInt32).toInt32) &&& (858993459 : Int32))).toUInt32 >>> ((4 : Int32) &&& 31).toUInt32).toInt32)) &&& (252645135 : Int32)) + (((((((p0 - (((p0.toUInt32 >>> ((1 : Int32) &&& 31).toUInt32).toInt32) &&& (1431655765 : Int32))) &&& (858993459 : Int32)) + ((((p0 - (((p0.toUInt32 >>> ((1 : Int32) &&& 31).toUInt32).toInt32) &&& (1431655765 : Int32))).toUInt32 >>> ((2 : Int32) &&& 31).toUInt32).toInt32) &&& (858993459 : Int32))) + (((((p0 - (((p0.toUInt32 >>> ((1 : Int32) &&& 31).toUInt32).toInt32) &&& (1431655765 : Int32))) &&& (858993459 : Int32)) + ((((p0 - (((p0.toUInt32 >>> ((1 : Int32) &&& 31).toUInt32).toInt32) &&& (1431655765 : Int32))).toUInt32 >>> ((2 : Int32) &&& 31).toUInt32).toInt32) &&& (858993459 : Int32))).toUInt32 >>> ((4 : Int32) &&& 31).toUInt32).toInt32)) &&& (252645135 : Int32)).toUInt32 >>> ((8 : Int32) &&& 31).toUInt32).toInt32)))])) _
    refine XS.iadd X0.here hx rfl (hb hby d4_46) rfl ?_
    show Steps p.tables e below (s₁.setTop (mkF m 47 #[.val (.int ((((((p0 - (((p0.toUInt32 >>> ((1 : Int32) &&& 31).toUInt32).toInt32) &&& (1431655765 : Int32))) &&& (858993459 : Int32)) + ((((p0 - (((p0.toUInt32 >>> ((1 : Int32) &&& 31).toUInt32).toInt32) &&& (1431655765 : Int32))).toUInt32 >>> ((2 : Int32) &&& 31).toUInt32).toInt32) &&& (858993459 : Int32))) + (((((p0 - (((p0.toUInt32 >>> ((1 : Int32) &&& 31).toUInt32).toInt32) &&& (1431655765 : Int32))) &&& (858993459 : Int32)) + ((((p0 - (((p0.toUInt32 >>> ((1 : Int32) &&& 31).toUInt32).toInt32) &&& (1431655765 : Int32))).toUInt32 >>> ((2 : Int32) &&& 31).toUInt32).toInt32) &&& (858993459 : Int32))).toUInt32 >>> ((4 : Int32) &&& 31).toUInt32).toInt32)) &&& (252645135 : Int32)) + (((((((p0 - (((p0.toUInt32 >>> ((1 : Int32) &&& 31).toUInt32).toInt32) &&& (1431655765 : Int32))) &&& (858993459 : Int32)) + ((((p0 - (((p0.toUInt32 >>> ((1 : Int32) &&& 31).toUInt32).toInt32) &&& (1431655765 : Int32))).toUInt32 >>> ((2 : Int32) &&& 31).toUInt32).toInt32) &&& (858993459 : Int32))) + (((((p0 - (((p0.toUInt32 >>> ((1 : Int32) &&& 31).toUInt32).toInt32) &&& (1431655765 : Int32))) &&& (858993459 : Int32)) + ((((p0 - (((p0.toUInt32 >>> ((1 : Int32) &&& 31).toUInt32).toInt32) &&& (1431655765 : Int32))).toUInt32 >>> ((2 : Int32) &&& 31).toUInt32).toInt32) &&& (858993459 : Int32))).toUInt32 >>> ((4 : Int32) &&& 31).toUInt32).toInt32)) &&& (252645135 : Int32)).toUInt32 >>> ((8 : Int32) &&& 31).toUInt32).toInt32)))] [(.int (((((((p0 - (((p0.toUInt32 >>> ((1 : Int32) &&& 31).toUInt32).toInt32) &&& (1431655765 : Int32))) &&& (858993459 : Int32)) + ((((p0 - (((p0.toUInt32 >>> ((1 : Int32) &&& 31).toUInt32).toInt32) &&& (1431655765 : Int32))).toUInt32 >>> ((2 : Int32) &&& 31).toUInt32).toInt32) &&& (858993459 : Int32))) + (((((p0 - (((p0.toUInt32 >>> ((1 : Int32) &&& 31).toUInt32).toInt32) &&& (1431655765 : Int32))) &&& (858993459 : Int32)) + ((((p0 - (((p0.toUInt32 >>> ((1 : Int32) &&& 31).toUInt32).toInt32) &&& (1431655765 : Int32))).toUInt32 >>> ((2 : Int32) &&& 31).toUInt32).toInt32) &&& (858993459 : Int32))).toUInt32 >>> ((4 : Int32) &&& 31).toUInt32).toInt32)) &&& (252645135 : Int32)) + (((((((p0 - (((p0.toUInt32 >>> ((1 : Int32) &&& 31).toUInt32).toInt32) &&& (1431655765 : Int32))) &&& (858993459 : Int32)) + ((((p0 - (((p0.toUInt32 >>> ((1 : Int32) &&& 31).toUInt32).toInt32) &&& (1431655765 : Int32))).toUInt32 >>> ((2 : Int32) &&& 31).toUInt32).toInt32) &&& (858993459 : Int32))) + (((((p0 - (((p0.toUInt32 >>> ((1 : Int32) &&& 31).toUInt32).toInt32) &&& (1431655765 : Int32))) &&& (858993459 : Int32)) + ((((p0 - (((p0.toUInt32 >>> ((1 : Int32) &&& 31).toUInt32).toInt32) &&& (1431655765 : Int32))).toUInt32 >>> ((2 : Int32) &&& 31).toUInt32).toInt32) &&& (858993459 : Int32))).toUInt32 >>> ((4 : Int32) &&& 31).toUInt32).toInt32)) &&& (252645135 : Int32)).toUInt32 >>> ((8 : Int32) &&& 31).toUInt32).toInt32)) + ((((((((p0 - (((p0.toUInt32 >>> ((1 : Int32) &&& 31).toUInt32).toInt32) &&& (1431655765 : Int32))) &&& (858993459 : Int32)) + ((((p0 - (((p0.toUInt32 >>> ((1 : Int32) &&& 31).toUInt32).toInt32) &&& (1431655765 : Int32))).toUInt32 >>> ((2 : Int32) &&& 31).toUInt32).toInt32) &&& (858993459 : Int32))) + (((((p0 - (((p0.toUInt32 >>> ((1 : Int32) &&& 31).toUInt32).toInt32) &&& (1431655765 : Int32))) &&& (858993459 : Int32)) + ((((p0 - (((p0.toUInt32 >>> ((1 : Int32) &&& 31).toUInt32).toInt32) &&& (1431655765 : Int32))).toUInt32 >>> ((2 : Int32) &&& 31).toUInt32).toInt32) &&& (858993459 : Int32))).toUInt32 >>> ((4 : Int32) &&& 31).toUInt32).toInt32)) &&& (252645135 : Int32)) + (((((((p0 - (((p0.toUInt32 >>> ((1 : Int32) &&& 31).toUInt32).toInt32) &&& (1431655765 : Int32))) &&& (858993459 : Int32)) + ((((p0 - (((p0.toUInt32 >>> ((1 : Int32) &&& 31).toUInt32).toInt32) &&& (1431655765 : Int32))).toUInt32 >>> ((2 : Int32) &&& 31).toUInt32).toInt32) &&& (858993459 : Int32))) + (((((p0 - (((p0.toUInt32 >>> ((1 : Int32) &&& 31).toUInt32).toInt32) &&& (1431655765 : Int32))) &&& (858993459 : Int32)) + ((((p0 - (((p0.toUInt32 >>> ((1 : Int32) &&& 31).toUInt32).toInt32) &&& (1431655765 : Int32))).toUInt32 >>> ((2 : Int32) &&& 31).toUInt32).toInt32) &&& (858993459 : Int32))).toUInt32 >>> ((4 : Int32) &&& 31).toUInt32).toInt32)) &&& (252645135 : Int32)).toUInt32 >>> ((8 : Int32) &&& 31).toUInt32).toInt32)).toUInt32 >>> ((16 : Int32) &&& 31).toUInt32).toInt32)))])) _
    refine XS.istoreN X0.here hx rfl (hb hby d4_47) rfl (l' := #[.val (.int (((((((p0 - (((p0.toUInt32 >>> ((1 : Int32) &&& 31).toUInt32).toInt32) &&& (1431655765 : Int32))) &&& (858993459 : Int32)) + ((((p0 - (((p0.toUInt32 >>> ((1 : Int32) &&& 31).toUInt32).toInt32) &&& (1431655765 : Int32))).toUInt32 >>> ((2 : Int32) &&& 31).toUInt32).toInt32) &&& (858993459 : Int32))) + (((((p0 - (((p0.toUInt32 >>> ((1 : Int32) &&& 31).toUInt32).toInt32) &&& (1431655765 : Int32))) &&& (858993459 : Int32)) + ((((p0 - (((p0.toUInt32 >>> ((1 : Int32) &&& 31).toUInt32).toInt32) &&& (1431655765 : Int32))).toUInt32 >>> ((2 : Int32) &&& 31).toUInt32).toInt32) &&& (858993459 : Int32))).toUInt32 >>> ((4 : Int32) &&& 31).toUInt32).toInt32)) &&& (252645135 : Int32)) + (((((((p0 - (((p0.toUInt32 >>> ((1 : Int32) &&& 31).toUInt32).toInt32) &&& (1431655765 : Int32))) &&& (858993459 : Int32)) + ((((p0 - (((p0.toUInt32 >>> ((1 : Int32) &&& 31).toUInt32).toInt32) &&& (1431655765 : Int32))).toUInt32 >>> ((2 : Int32) &&& 31).toUInt32).toInt32) &&& (858993459 : Int32))) + (((((p0 - (((p0.toUInt32 >>> ((1 : Int32) &&& 31).toUInt32).toInt32) &&& (1431655765 : Int32))) &&& (858993459 : Int32)) + ((((p0 - (((p0.toUInt32 >>> ((1 : Int32) &&& 31).toUInt32).toInt32) &&& (1431655765 : Int32))).toUInt32 >>> ((2 : Int32) &&& 31).toUInt32).toInt32) &&& (858993459 : Int32))).toUInt32 >>> ((4 : Int32) &&& 31).toUInt32).toInt32)) &&& (252645135 : Int32)).toUInt32 >>> ((8 : Int32) &&& 31).toUInt32).toInt32)) + ((((((((p0 - (((p0.toUInt32 >>> ((1 : Int32) &&& 31).toUInt32).toInt32) &&& (1431655765 : Int32))) &&& (858993459 : Int32)) + ((((p0 - (((p0.toUInt32 >>> ((1 : Int32) &&& 31).toUInt32).toInt32) &&& (1431655765 : Int32))).toUInt32 >>> ((2 : Int32) &&& 31).toUInt32).toInt32) &&& (858993459 : Int32))) + (((((p0 - (((p0.toUInt32 >>> ((1 : Int32) &&& 31).toUInt32).toInt32) &&& (1431655765 : Int32))) &&& (858993459 : Int32)) + ((((p0 - (((p0.toUInt32 >>> ((1 : Int32) &&& 31).toUInt32).toInt32) &&& (1431655765 : Int32))).toUInt32 >>> ((2 : Int32) &&& 31).toUInt32).toInt32) &&& (858993459 : Int32))).toUInt32 >>> ((4 : Int32) &&& 31).toUInt32).toInt32)) &&& (252645135 : Int32)) + (((((((p0 - (((p0.toUInt32 >>> ((1 : Int32) &&& 31).toUInt32).toInt32) &&& (1431655765 : Int32))) &&& (858993459 : Int32)) + ((((p0 - (((p0.toUInt32 >>> ((1 : Int32) &&& 31).toUInt32).toInt32) &&& (1431655765 : Int32))).toUInt32 >>> ((2 : Int32) &&& 31).toUInt32).toInt32) &&& (858993459 : Int32))) + (((((p0 - (((p0.toUInt32 >>> ((1 : Int32) &&& 31).toUInt32).toInt32) &&& (1431655765 : Int32))) &&& (858993459 : Int32)) + ((((p0 - (((p0.toUInt32 >>> ((1 : Int32) &&& 31).toUInt32).toInt32) &&& (1431655765 : Int32))).toUInt32 >>> ((2 : Int32) &&& 31).toUInt32).toInt32) &&& (858993459 : Int32))).toUInt32 >>> ((4 : Int32) &&& 31).toUInt32).toInt32)) &&& (252645135 : Int32)).toUInt32 >>> ((8 : Int32) &&& 31).toUInt32).toInt32)).toUInt32 >>> ((16 : Int32) &&& 31).toUInt32).toInt32)))]) rfl ?_
    show Steps p.tables e below (s₁.setTop (mkF m 48 #[.val (.int (((((((p0 - (((p0.toUInt32 >>> ((1 : Int32) &&& 31).toUInt32).toInt32) &&& (1431655765 : Int32))) &&& (858993459 : Int32)) + ((((p0 - (((p0.toUInt32 >>> ((1 : Int32) &&& 31).toUInt32).toInt32) &&& (1431655765 : Int32))).toUInt32 >>> ((2 : Int32) &&& 31).toUInt32).toInt32) &&& (858993459 : Int32))) + (((((p0 - (((p0.toUInt32 >>> ((1 : Int32) &&& 31).toUInt32).toInt32) &&& (1431655765 : Int32))) &&& (858993459 : Int32)) + ((((p0 - (((p0.toUInt32 >>> ((1 : Int32) &&& 31).toUInt32).toInt32) &&& (1431655765 : Int32))).toUInt32 >>> ((2 : Int32) &&& 31).toUInt32).toInt32) &&& (858993459 : Int32))).toUInt32 >>> ((4 : Int32) &&& 31).toUInt32).toInt32)) &&& (252645135 : Int32)) + (((((((p0 - (((p0.toUInt32 >>> ((1 : Int32) &&& 31).toUInt32).toInt32) &&& (1431655765 : Int32))) &&& (858993459 : Int32)) + ((((p0 - (((p0.toUInt32 >>> ((1 : Int32) &&& 31).toUInt32).toInt32) &&& (1431655765 : Int32))).toUInt32 >>> ((2 : Int32) &&& 31).toUInt32).toInt32) &&& (858993459 : Int32))) + (((((p0 - (((p0.toUInt32 >>> ((1 : Int32) &&& 31).toUInt32).toInt32) &&& (1431655765 : Int32))) &&& (858993459 : Int32)) + ((((p0 - (((p0.toUInt32 >>> ((1 : Int32) &&& 31).toUInt32).toInt32) &&& (1431655765 : Int32))).toUInt32 >>> ((2 : Int32) &&& 31).toUInt32).toInt32) &&& (858993459 : Int32))).toUInt32 >>> ((4 : Int32) &&& 31).toUInt32).toInt32)) &&& (252645135 : Int32)).toUInt32 >>> ((8 : Int32) &&& 31).toUInt32).toInt32)) + ((((((((p0 - (((p0.toUInt32 >>> ((1 : Int32) &&& 31).toUInt32).toInt32) &&& (1431655765 : Int32))) &&& (858993459 : Int32)) + ((((p0 - (((p0.toUInt32 >>> ((1 : Int32) &&& 31).toUInt32).toInt32) &&& (1431655765 : Int32))).toUInt32 >>> ((2 : Int32) &&& 31).toUInt32).toInt32) &&& (858993459 : Int32))) + (((((p0 - (((p0.toUInt32 >>> ((1 : Int32) &&& 31).toUInt32).toInt32) &&& (1431655765 : Int32))) &&& (858993459 : Int32)) + ((((p0 - (((p0.toUInt32 >>> ((1 : Int32) &&& 31).toUInt32).toInt32) &&& (1431655765 : Int32))).toUInt32 >>> ((2 : Int32) &&& 31).toUInt32).toInt32) &&& (858993459 : Int32))).toUInt32 >>> ((4 : Int32) &&& 31).toUInt32).toInt32)) &&& (252645135 : Int32)) + (((((((p0 - (((p0.toUInt32 >>> ((1 : Int32) &&& 31).toUInt32).toInt32) &&& (1431655765 : Int32))) &&& (858993459 : Int32)) + ((((p0 - (((p0.toUInt32 >>> ((1 : Int32) &&& 31).toUInt32).toInt32) &&& (1431655765 : Int32))).toUInt32 >>> ((2 : Int32) &&& 31).toUInt32).toInt32) &&& (858993459 : Int32))) + (((((p0 - (((p0.toUInt32 >>> ((1 : Int32) &&& 31).toUInt32).toInt32) &&& (1431655765 : Int32))) &&& (858993459 : Int32)) + ((((p0 - (((p0.toUInt32 >>> ((1 : Int32) &&& 31).toUInt32).toInt32) &&& (1431655765 : Int32))).toUInt32 >>> ((2 : Int32) &&& 31).toUInt32).toInt32) &&& (858993459 : Int32))).toUInt32 >>> ((4 : Int32) &&& 31).toUInt32).toInt32)) &&& (252645135 : Int32)).toUInt32 >>> ((8 : Int32) &&& 31).toUInt32).toInt32)).toUInt32 >>> ((16 : Int32) &&& 31).toUInt32).toInt32)))] [])) _
    refine XS.iloadN X0.here hx rfl (hb hby d4_48) rfl ?_
    show Steps p.tables e below (s₁.setTop (mkF m 49 #[.val (.int (((((((p0 - (((p0.toUInt32 >>> ((1 : Int32) &&& 31).toUInt32).toInt32) &&& (1431655765 : Int32))) &&& (858993459 : Int32)) + ((((p0 - (((p0.toUInt32 >>> ((1 : Int32) &&& 31).toUInt32).toInt32) &&& (1431655765 : Int32))).toUInt32 >>> ((2 : Int32) &&& 31).toUInt32).toInt32) &&& (858993459 : Int32))) + (((((p0 - (((p0.toUInt32 >>> ((1 : Int32) &&& 31).toUInt32).toInt32) &&& (1431655765 : Int32))) &&& (858993459 : Int32)) + ((((p0 - (((p0.toUInt32 >>> ((1 : Int32) &&& 31).toUInt32).toInt32) &&& (1431655765 : Int32))).toUInt32 >>> ((2 : Int32) &&& 31).toUInt32).toInt32) &&& (858993459 : Int32))).toUInt32 >>> ((4 : Int32) &&& 31).toUInt32).toInt32)) &&& (252645135 : Int32)) + (((((((p0 - (((p0.toUInt32 >>> ((1 : Int32) &&& 31).toUInt32).toInt32) &&& (1431655765 : Int32))) &&& (858993459 : Int32)) + ((((p0 - (((p0.toUInt32 >>> ((1 : Int32) &&& 31).toUInt32).toInt32) &&& (1431655765 : Int32))).toUInt32 >>> ((2 : Int32) &&& 31).toUInt32).toInt32) &&& (858993459 : Int32))) + (((((p0 - (((p0.toUInt32 >>> ((1 : Int32) &&& 31).toUInt32).toInt32) &&& (1431655765 : Int32))) &&& (858993459 : Int32)) + ((((p0 - (((p0.toUInt32 >>> ((1 : Int32) &&& 31).toUInt32).toInt32) &&& (1431655765 : Int32))).toUInt32 >>> ((2 : Int32) &&& 31).toUInt32).toInt32) &&& (858993459 : Int32))).toUInt32 >>> ((4 : Int32) &&& 31).toUInt32).toInt32)) &&& (252645135 : Int32)).toUInt32 >>> ((8 : Int32) &&& 31).toUInt32).toInt32)) + ((((((((p0 - (((p0.toUInt32 >>> ((1 : Int32) &&& 31).toUInt32).toInt32) &&& (1431655765 : Int32))) &&& (858993459 : Int32)) + ((((p0 - (((p0.toUInt32 >>> ((1 : Int32) &&& 31).toUInt32).toInt32) &&& (1431655765 : Int32))).toUInt32 >>> ((2 : Int32) &&& 31).toUInt32).toInt32) &&& (858993459 : Int32))) + (((((p0 - (((p0.toUInt32 >>> ((1 : Int32) &&& 31).toUInt32).toInt32) &&& (1431655765 : Int32))) &&& (858993459 : Int32)) + ((((p0 - (((p0.toUInt32 >>> ((1 : Int32) &&& 31).toUInt32).toInt32) &&& (1431655765 : Int32))).toUInt32 >>> ((2 : Int32) &&& 31).toUInt32).toInt32) &&& (858993459 : Int32))).toUInt32 >>> ((4 : Int32) &&& 31).toUInt32).toInt32)) &&& (252645135 : Int32)) + (((((((p0 - (((p0.toUInt32 >>> ((1 : Int32) &&& 31).toUInt32).toInt32) &&& (1431655765 : Int32))) &&& (858993459 : Int32)) + ((((p0 - (((p0.toUInt32 >>> ((1 : Int32) &&& 31).toUInt32).toInt32) &&& (1431655765 : Int32))).toUInt32 >>> ((2 : Int32) &&& 31).toUInt32).toInt32) &&& (858993459 : Int32))) + (((((p0 - (((p0.toUInt32 >>> ((1 : Int32) &&& 31).toUInt32).toInt32) &&& (1431655765 : Int32))) &&& (858993459 : Int32)) + ((((p0 - (((p0.toUInt32 >>> ((1 : Int32) &&& 31).toUInt32).toInt32) &&& (1431655765 : Int32))).toUInt32 >>> ((2 : Int32) &&& 31).toUInt32).toInt32) &&& (858993459 : Int32))).toUInt32 >>> ((4 : Int32) &&& 31).toUInt32).toInt32)) &&& (252645135 : Int32)).toUInt32 >>> ((8 : Int32) &&& 31).toUInt32).toInt32)).toUInt32 >>> ((16 : Int32) &&& 31).toUInt32).toInt32)))] [(.int (((((((p0 - (((p0.toUInt32 >>> ((1 : Int32) &&& 31).toUInt32).toInt32) &&& (1431655765 : Int32))) &&& (858993459 : Int32)) + ((((p0 - (((p0.toUInt32 >>> ((1 : Int32) &&& 31).toUInt32).toInt32) &&& (1431655765 : Int32))).toUInt32 >>> ((2 : Int32) &&& 31).toUInt32).toInt32) &&& (858993459 : Int32))) + (((((p0 - (((p0.toUInt32 >>> ((1 : Int32) &&& 31).toUInt32).toInt32) &&& (1431655765 : Int32))) &&& (858993459 : Int32)) + ((((p0 - (((p0.toUInt32 >>> ((1 : Int32) &&& 31).toUInt32).toInt32) &&& (1431655765 : Int32))).toUInt32 >>> ((2 : Int32) &&& 31).toUInt32).toInt32) &&& (858993459 : Int32))).toUInt32 >>> ((4 : Int32) &&& 31).toUInt32).toInt32)) &&& (252645135 : Int32)) + (((((((p0 - (((p0.toUInt32 >>> ((1 : Int32) &&& 31).toUInt32).toInt32) &&& (1431655765 : Int32))) &&& (858993459 : Int32)) + ((((p0 - (((p0.toUInt32 >>> ((1 : Int32) &&& 31).toUInt32).toInt32) &&& (1431655765 : Int32))).toUInt32 >>> ((2 : Int32) &&& 31).toUInt32).toInt32) &&& (858993459 : Int32))) + (((((p0 - (((p0.toUInt32 >>> ((1 : Int32) &&& 31).toUInt32).toInt32) &&& (1431655765 : Int32))) &&& (858993459 : Int32)) + ((((p0 - (((p0.toUInt32 >>> ((1 : Int32) &&& 31).toUInt32).toInt32) &&& (1431655765 : Int32))).toUInt32 >>> ((2 : Int32) &&& 31).toUInt32).toInt32) &&& (858993459 : Int32))).toUInt32 >>> ((4 : Int32) &&& 31).toUInt32).toInt32)) &&& (252645135 : Int32)).toUInt32 >>> ((8 : Int32) &&& 31).toUInt32).toInt32)) + ((((((((p0 - (((p0.toUInt32 >>> ((1 : Int32) &&& 31).toUInt32).toInt32) &&& (1431655765 : Int32))) &&& (858993459 : Int32)) + ((((p0 - (((p0.toUInt32 >>> ((1 : Int32) &&& 31).toUInt32).toInt32) &&& (1431655765 : Int32))).toUInt32 >>> ((2 : Int32) &&& 31).toUInt32).toInt32) &&& (858993459 : Int32))) + (((((p0 - (((p0.toUInt32 >>> ((1 : Int32) &&& 31).toUInt32).toInt32) &&& (1431655765 : Int32))) &&& (858993459 : Int32)) + ((((p0 - (((p0.toUInt32 >>> ((1 : Int32) &&& 31).toUInt32).toInt32) &&& (1431655765 : Int32))).toUInt32 >>> ((2 : Int32) &&& 31).toUInt32).toInt32) &&& (858993459 : Int32))).toUInt32 >>> ((4 : Int32) &&& 31).toUInt32).toInt32)) &&& (252645135 : Int32)) + (((((((p0 - (((p0.toUInt32 >>> ((1 : Int32) &&& 31).toUInt32).toInt32) &&& (1431655765 : Int32))) &&& (858993459 : Int32)) + ((((p0 - (((p0.toUInt32 >>> ((1 : Int32) &&& 31).toUInt32).toInt32) &&& (1431655765 : Int32))).toUInt32 >>> ((2 : Int32) &&& 31).toUInt32).toInt32) &&& (858993459 : Int32))) + (((((p0 - (((p0.toUInt32 >>> ((1 : Int32) &&& 31).toUInt32).toInt32) &&& (1431655765 : Int32))) &&& (858993459 : Int32)) + ((((p0 - (((p0.toUInt32 >>> ((1 : Int32) &&& 31).toUInt32).toInt32) &&& (1431655765 : Int32))).toUInt32 >>> ((2 : Int32) &&& 31).toUInt32).toInt32) &&& (858993459 : Int32))).toUInt32 >>> ((4 : Int32) &&& 31).toUInt32).toInt32)) &&& (252645135 : Int32)).toUInt32 >>> ((8 : Int32) &&& 31).toUInt32).toInt32)).toUInt32 >>> ((16 : Int32) &&& 31).toUInt32).toInt32)))])) _
    refine XS.bipush X0.here hx rfl (hb hby d4_49) ?_
    show Steps p.tables e below (s₁.setTop (mkF m 51 #[.val (.int (((((((p0 - (((p0.toUInt32 >>> ((1 : Int32) &&& 31).toUInt32).toInt32) &&& (1431655765 : Int32))) &&& (858993459 : Int32)) + ((((p0 - (((p0.toUInt32 >>> ((1 : Int32) &&& 31).toUInt32).toInt32) &&& (1431655765 : Int32))).toUInt32 >>> ((2 : Int32) &&& 31).toUInt32).toInt32) &&& (858993459 : Int32))) + (((((p0 - (((p0.toUInt32 >>> ((1 : Int32) &&& 31).toUInt32).toInt32) &&& (1431655765 : Int32))) &&& (858993459 : Int32)) + ((((p0 - (((p0.toUInt32 >>> ((1 : Int32) &&& 31).toUInt32).toInt32) &&& (1431655765 : Int32))).toUInt32 >>> ((2 : Int32) &&& 31).toUInt32).toInt32) &&& (858993459 : Int32))).toUInt32 >>> ((4 : Int32) &&& 31).toUInt32).toInt32)) &&& (252645135 : Int32)) + (((((((p0 - (((p0.toUInt32 >>> ((1 : Int32) &&& 31).toUInt32).toInt32) &&& (1431655765 : Int32))) &&& (858993459 : Int32)) + ((((p0 - (((p0.toUInt32 >>> ((1 : Int32) &&& 31).toUInt32).toInt32) &&& (1431655765 : Int32))).toUInt32 >>> ((2 : Int32) &&& 31).toUInt32).toInt32) &&& (858993459 : Int32))) + (((((p0 - (((p0.toUInt32 >>> ((1 : Int32) &&& 31).toUInt32).toInt32) &&& (1431655765 : Int32))) &&& (858993459 : Int32)) + ((((p0 - (((p0.toUInt32 >>> ((1 : Int32) &&& 31).toUInt32).toInt32) &&& (1431655765 : Int32))).toUInt32 >>> ((2 : Int32) &&& 31).toUInt32).toInt32) &&& (858993459 : Int32))).toUInt32 >>> ((4 : Int32) &&& 31).toUInt32).toInt32)) &&& (252645135 : Int32)).toUInt32 >>> ((8 : Int32) &&& 31).toUInt32).toInt32)) + ((((((((p0 - (((p0.toUInt32 >>> ((1 : Int32) &&& 31).toUInt32).toInt32) &&& (1431655765 : Int32))) &&& (858993459 : Int32)) + ((((p0 - (((p0.toUInt32 >>> ((1 : Int32) &&& 31).toUInt32).toInt32) &&& (1431655765 : Int32))).toUInt32 >>> ((2 : Int32) &&& 31).toUInt32).toInt32) &&& (858993459 : Int32))) + (((((p0 - (((p0.toUInt32 >>> ((1 : Int32) &&& 31).toUInt32).toInt32) &&& (1431655765 : Int32))) &&& (858993459 : Int32)) + ((((p0 - (((p0.toUInt32 >>> ((1 : Int32) &&& 31).toUInt32).toInt32) &&& (1431655765 : Int32))).toUInt32 >>> ((2 : Int32) &&& 31).toUInt32).toInt32) &&& (858993459 : Int32))).toUInt32 >>> ((4 : Int32) &&& 31).toUInt32).toInt32)) &&& (252645135 : Int32)) + (((((((p0 - (((p0.toUInt32 >>> ((1 : Int32) &&& 31).toUInt32).toInt32) &&& (1431655765 : Int32))) &&& (858993459 : Int32)) + ((((p0 - (((p0.toUInt32 >>> ((1 : Int32) &&& 31).toUInt32).toInt32) &&& (1431655765 : Int32))).toUInt32 >>> ((2 : Int32) &&& 31).toUInt32).toInt32) &&& (858993459 : Int32))) + (((((p0 - (((p0.toUInt32 >>> ((1 : Int32) &&& 31).toUInt32).toInt32) &&& (1431655765 : Int32))) &&& (858993459 : Int32)) + ((((p0 - (((p0.toUInt32 >>> ((1 : Int32) &&& 31).toUInt32).toInt32) &&& (1431655765 : Int32))).toUInt32 >>> ((2 : Int32) &&& 31).toUInt32).toInt32) &&& (858993459 : Int32))).toUInt32 >>> ((4 : Int32) &&& 31).toUInt32).toInt32)) &&& (252645135 : Int32)).toUInt32 >>> ((8 : Int32) &&& 31).toUInt32).toInt32)).toUInt32 >>> ((16 : Int32) &&& 31).toUInt32).toInt32)))] [(.int (63 : Int32)), (.int (((((((p0 - (((p0.toUInt32 >>> ((1 : Int32) &&& 31).toUInt32).toInt32) &&& (1431655765 : Int32))) &&& (858993459 : Int32)) + ((((p0 - (((p0.toUInt32 >>> ((1 : Int32) &&& 31).toUInt32).toInt32) &&& (1431655765 : Int32))).toUInt32 >>> ((2 : Int32) &&& 31).toUInt32).toInt32) &&& (858993459 : Int32))) + (((((p0 - (((p0.toUInt32 >>> ((1 : Int32) &&& 31).toUInt32).toInt32) &&& (1431655765 : Int32))) &&& (858993459 : Int32)) + ((((p0 - (((p0.toUInt32 >>> ((1 : Int32) &&& 31).toUInt32).toInt32) &&& (1431655765 : Int32))).toUInt32 >>> ((2 : Int32) &&& 31).toUInt32).toInt32) &&& (858993459 : Int32))).toUInt32 >>> ((4 : Int32) &&& 31).toUInt32).toInt32)) &&& (252645135 : Int32)) + (((((((p0 - (((p0.toUInt32 >>> ((1 : Int32) &&& 31).toUInt32).toInt32) &&& (1431655765 : Int32))) &&& (858993459 : Int32)) + ((((p0 - (((p0.toUInt32 >>> ((1 : Int32) &&& 31).toUInt32).toInt32) &&& (1431655765 : Int32))).toUInt32 >>> ((2 : Int32) &&& 31).toUInt32).toInt32) &&& (858993459 : Int32))) + (((((p0 - (((p0.toUInt32 >>> ((1 : Int32) &&& 31).toUInt32).toInt32) &&& (1431655765 : Int32))) &&& (858993459 : Int32)) + ((((p0 - (((p0.toUInt32 >>> ((1 : Int32) &&& 31).toUInt32).toInt32) &&& (1431655765 : Int32))).toUInt32 >>> ((2 : Int32) &&& 31).toUInt32).toInt32) &&& (858993459 : Int32))).toUInt32 >>> ((4 : Int32) &&& 31).toUInt32).toInt32)) &&& (252645135 : Int32)).toUInt32 >>> ((8 : Int32) &&& 31).toUInt32).toInt32)) + ((((((((p0 - (((p0.toUInt32 >>> ((1 : Int32) &&& 31).toUInt32).toInt32) &&& (1431655765 : Int32))) &&& (858993459 : Int32)) + ((((p0 - (((p0.toUInt32 >>> ((1 : Int32) &&& 31).toUInt32).toInt32) &&& (1431655765 : Int32))).toUInt32 >>> ((2 : Int32) &&& 31).toUInt32).toInt32) &&& (858993459 : Int32))) + (((((p0 - (((p0.toUInt32 >>> ((1 : Int32) &&& 31).toUInt32).toInt32) &&& (1431655765 : Int32))) &&& (858993459 : Int32)) + ((((p0 - (((p0.toUInt32 >>> ((1 : Int32) &&& 31).toUInt32).toInt32) &&& (1431655765 : Int32))).toUInt32 >>> ((2 : Int32) &&& 31).toUInt32).toInt32) &&& (858993459 : Int32))).toUInt32 >>> ((4 : Int32) &&& 31).toUInt32).toInt32)) &&& (252645135 : Int32)) + (((((((p0 - (((p0.toUInt32 >>> ((1 : Int32) &&& 31).toUInt32).toInt32) &&& (1431655765 : Int32))) &&& (858993459 : Int32)) + ((((p0 - (((p0.toUInt32 >>> ((1 : Int32) &&& 31).toUInt32).toInt32) &&& (1431655765 : Int32))).toUInt32 >>> ((2 : Int32) &&& 31).toUInt32).toInt32) &&& (858993459 : Int32))) + (((((p0 - (((p0.toUInt32 >>> ((1 : Int32) &&& 31).toUInt32).toInt32) &&& (1431655765 : Int32))) &&& (858993459 : Int32)) + ((((p0 - (((p0.toUInt32 >>> ((1 : Int32) &&& 31).toUInt32).toInt32) &&& (1431655765 : Int32))).toUInt32 >>> ((2 : Int32) &&& 31).toUInt32).toInt32) &&& (858993459 : Int32))).toUInt32 >>> ((4 : Int32) &&& 31).toUInt32).toInt32)) &&& (252645135 : Int32)).toUInt32 >>> ((8 : Int32) &&& 31).toUInt32).toInt32)).toUInt32 >>> ((16 : Int32) &&& 31).toUInt32).toInt32)))])) _
    refine XS.iand X0.here hx rfl (hb hby d4_51) rfl ?_
    show Steps p.tables e below (s₁.setTop (mkF m 52 #[.val (.int (((((((p0 - (((p0.toUInt32 >>> ((1 : Int32) &&& 31).toUInt32).toInt32) &&& (1431655765 : Int32))) &&& (858993459 : Int32)) + ((((p0 - (((p0.toUInt32 >>> ((1 : Int32) &&& 31).toUInt32).toInt32) &&& (1431655765 : Int32))).toUInt32 >>> ((2 : Int32) &&& 31).toUInt32).toInt32) &&& (858993459 : Int32))) + (((((p0 - (((p0.toUInt32 >>> ((1 : Int32) &&& 31).toUInt32).toInt32) &&& (1431655765 : Int32))) &&& (858993459 : Int32)) + ((((p0 - (((p0.toUInt32 >>> ((1 : Int32) &&& 31).toUInt32).toInt32) &&& (1431655765 : Int32))).toUInt32 >>> ((2 : Int32) &&& 31).toUInt32).toInt32) &&& (858993459 : Int32))).toUInt32 >>> ((4 : Int32) &&& 31).toUInt32).toInt32)) &&& (252645135 : Int32)) + (((((((p0 - (((p0.toUInt32 >>> ((1 : Int32) &&& 31).toUInt32).toInt32) &&& (1431655765 : Int32))) &&& (858993459 : Int32)) + ((((p0 - (((p0.toUInt32 >>> ((1 : Int32) &&& 31).toUInt32).toInt32) &&& (1431655765 : Int32))).toUInt32 >>> ((2 : Int32) &&& 31).toUInt32).toInt32) &&& (858993459 : Int32))) + (((((p0 - (((p0.toUInt32 >>> ((1 : Int32) &&& 31).toUInt32).toInt32) &&& (1431655765 : Int32))) &&& (858993459 : Int32)) + ((((p0 - (((p0.toUInt32 >>> ((1 : Int32) &&& 31).toUInt32).toInt32) &&& (1431655765 : Int32))).toUInt32 >>> ((2 : Int32) &&& 31).toUInt32).toInt32) &&& (858993459 : Int32))).toUInt32 >>> ((4 : Int32) &&& 31).toUInt32).toInt32)) &&& (252645135 : Int32)).toUInt32 >>> ((8 : Int32) &&& 31).toUInt32).toInt32)) + ((((((((p0 - (((p0.toUInt32 >>> ((1 : Int32) &&& 31).toUInt32).toInt32) &&& (1431655765 : Int32))) &&& (858993459 : Int32)) + ((((p0 - (((p0.toUInt32 >>> ((1 : Int32) &&& 31).toUInt32).toInt32) &&& (1431655765 : Int32))).toUInt32 >>> ((2 : Int32) &&& 31).toUInt32).toInt32) &&& (858993459 : Int32))) + (((((p0 - (((p0.toUInt32 >>> ((1 : Int32) &&& 31).toUInt32).toInt32) &&& (1431655765 : Int32))) &&& (858993459 : Int32)) + ((((p0 - (((p0.toUInt32 >>> ((1 : Int32) &&& 31).toUInt32).toInt32) &&& (1431655765 : Int32))).toUInt32 >>> ((2 : Int32) &&& 31).toUInt32).toInt32) &&& (858993459 : Int32))).toUInt32 >>> ((4 : Int32) &&& 31).toUInt32).toInt32)) &&& (252645135 : Int32)) + (((((((p0 - (((p0.toUInt32 >>> ((1 : Int32) &&& 31).toUInt32).toInt32) &&& (1431655765 : Int32))) &&& (858993459 : Int32)) + ((((p0 - (((p0.toUInt32 >>> ((1 : Int32) &&& 31).toUInt32).toInt32) &&& (1431655765 : Int32))).toUInt32 >>> ((2 : Int32) &&& 31).toUInt32).toInt32) &&& (858993459 : Int32))) + (((((p0 - (((p0.toUInt32 >>> ((1 : Int32) &&& 31).toUInt32).toInt32) &&& (1431655765 : Int32))) &&& (858993459 : Int32)) + ((((p0 - (((p0.toUInt32 >>> ((1 : Int32) &&& 31).toUInt32).toInt32) &&& (1431655765 : Int32))).toUInt32 >>> ((2 : Int32) &&& 31).toUInt32).toInt32) &&& (858993459 : Int32))).toUInt32 >>> ((4 : Int32) &&& 31).toUInt32).toInt32)) &&& (252645135 : Int32)).toUInt32 >>> ((8 : Int32) &&& 31).toUInt32).toInt32)).toUInt32 >>> ((16 : Int32) &&& 31).toUInt32).toInt32)))] [(.int ((((((((p0 - (((p0.toUInt32 >>> ((1 : Int32) &&& 31).toUInt32).toInt32) &&& (1431655765 : Int32))) &&& (858993459 : Int32)) + ((((p0 - (((p0.toUInt32 >>> ((1 : Int32) &&& 31).toUInt32).toInt32) &&& (1431655765 : Int32))).toUInt32 >>> ((2 : Int32) &&& 31).toUInt32).toInt32) &&& (858993459 : Int32))) + (((((p0 - (((p0.toUInt32 >>> ((1 : Int32) &&& 31).toUInt32).toInt32) &&& (1431655765 : Int32))) &&& (858993459 : Int32)) + ((((p0 - (((p0.toUInt32 >>> ((1 : Int32) &&& 31).toUInt32).toInt32) &&& (1431655765 : Int32))).toUInt32 >>> ((2 : Int32) &&& 31).toUInt32).toInt32) &&& (858993459 : Int32))).toUInt32 >>> ((4 : Int32) &&& 31).toUInt32).toInt32)) &&& (252645135 : Int32)) + (((((((p0 - (((p0.toUInt32 >>> ((1 : Int32) &&& 31).toUInt32).toInt32) &&& (1431655765 : Int32))) &&& (858993459 : Int32)) + ((((p0 - (((p0.toUInt32 >>> ((1 : Int32) &&& 31).toUInt32).toInt32) &&& (1431655765 : Int32))).toUInt32 >>> ((2 : Int32) &&& 31).toUInt32).toInt32) &&& (858993459 : Int32))) + (((((p0 - (((p0.toUInt32 >>> ((1 : Int32) &&& 31).toUInt32).toInt32) &&& (1431655765 : Int32))) &&& (858993459 : Int32)) + ((((p0 - (((p0.toUInt32 >>> ((1 : Int32) &&& 31).toUInt32).toInt32) &&& (1431655765 : Int32))).toUInt32 >>> ((2 : Int32) &&& 31).toUInt32).toInt32) &&& (858993459 : Int32))).toUInt32 >>> ((4 : Int32) &&& 31).toUInt32).toInt32)) &&& (252645135 : Int32)).toUInt32 >>> ((8 : Int32) &&& 31).toUInt32).toInt32)) + ((((((((p0 - (((p0.toUInt32 >>> ((1 : Int32) &&& 31).toUInt32).toInt32) &&& (1431655765 : Int32))) &&& (858993459 : Int32)) + ((((p0 - (((p0.toUInt32 >>> ((1 : Int32) &&& 31).toUInt32).toInt32) &&& (1431655765 : Int32))).toUInt32 >>> ((2 : Int32) &&& 31).toUInt32).toInt32) &&& (858993459 : Int32))) + (((((p0 - (((p0.toUInt32 >>> ((1 : Int32) &&& 31).toUInt32).toInt32) &&& (1431655765 : Int32))) &&& (858993459 : Int32)) + ((((p0 - (((p0.toUInt32 >>> ((1 : Int32) &&& 31).toUInt32).toInt32) &&& (1431655765 : Int32))).toUInt32 >>> ((2 : Int32) &&& 31).toUInt32).toInt32) &&& (858993459 : Int32))).toUInt32 >>> ((4 : Int32) &&& 31).toUInt32).toInt32)) &&& (252645135 : Int32)) + (((((((p0 - (((p0.toUInt32 >>> ((1 : Int32) &&& 31).toUInt32).toInt32) &&& (1431655765 : Int32))) &&& (858993459 : Int32)) + ((((p0 - (((p0.toUInt32 >>> ((1 : Int32) &&& 31).toUInt32).toInt32) &&& (1431655765 : Int32))).toUInt32 >>> ((2 : Int32) &&& 31).toUInt32).toInt32) &&& (858993459 : Int32))) + (((((p0 - (((p0.toUInt32 >>> ((1 : Int32) &&& 31).toUInt32).toInt32) &&& (1431655765 : Int32))) &&& (858993459 : Int32)) + ((((p0 - (((p0.toUInt32 >>> ((1 : Int32) &&& 31).toUInt32).toInt32) &&& (1431655765 : Int32))).toUInt32 >>> ((2 : Int32) &&& 31).toUInt32).toInt32) &&& (858993459 : Int32))).toUInt32 >>> ((4 : Int32) &&& 31).toUInt32).toInt32)) &&& (252645135 : Int32)).toUInt32 >>> ((8 : Int32) &&& 31).toUInt32).toInt32)).toUInt32 >>> ((16 : Int32) &&& 31).toUInt32).toInt32)) &&& (63 : Int32)))])) _
    exact kt
  obtain ⟨fs, hr, hrun, hended, hW, hsame⟩ := X0.leave (v := some (.int ((((((((p0 - (((p0.toUInt32 >>> ((1 : Int32) &&& 31).toUInt32).toInt32) &&& (1431655765 : Int32))) &&& (858993459 : Int32)) + ((((p0 - (((p0.toUInt32 >>> ((1 : Int32) &&& 31).toUInt32).toInt32) &&& (1431655765 : Int32))).toUInt32 >>> ((2 : Int32) &&& 31).toUInt32).toInt32) &&& (858993459 : Int32))) + (((((p0 - (((p0.toUInt32 >>> ((1 : Int32) &&& 31).toUInt32).toInt32) &&& (1431655765 : Int32))) &&& (858993459 : Int32)) + ((((p0 - (((p0.toUInt32 >>> ((1 : Int32) &&& 31).toUInt32).toInt32) &&& (1431655765 : Int32))).toUInt32 >>> ((2 : Int32) &&& 31).toUInt32).toInt32) &&& (858993459 : Int32))).toUInt32 >>> ((4 : Int32) &&& 31).toUInt32).toInt32)) &&& (252645135 : Int32)) + (((((((p0 - (((p0.toUInt32 >>> ((1 : Int32) &&& 31).toUInt32).toInt32) &&& (1431655765 : Int32))) &&& (858993459 : Int32)) + ((((p0 - (((p0.toUInt32 >>> ((1 : Int32) &&& 31).toUInt32).toInt32) &&& (1431655765 : Int32))).toUInt32 >>> ((2 : Int32) &&& 31).toUInt32).toInt32) &&& (858993459 : Int32))) + (((((p0 - (((p0.toUInt32 >>> ((1 : Int32) &&& 31).toUInt32).toInt32) &&& (1431655765 : Int32))) &&& (858993459 : Int32)) + ((((p0 - (((p0.toUInt32 >>> ((1 : Int32) &&& 31).toUInt32).toInt32) &&& (1431655765 : Int32))).toUInt32 >>> ((2 : Int32) &&& 31).toUInt32).toInt32) &&& (858993459 : Int32))).toUInt32 >>> ((4 : Int32) &&& 31).toUInt32).toInt32)) &&& (252645135 : Int32)).toUInt32 >>> ((8 : Int32) &&& 31).toUInt32).toInt32)) + ((((((((p0 - (((p0.toUInt32 >>> ((1 : Int32) &&& 31).toUInt32).toInt32) &&& (1431655765 : Int32))) &&& (858993459 : Int32)) + ((((p0 - (((p0.toUInt32 >>> ((1 : Int32) &&& 31).toUInt32).toInt32) &&& (1431655765 : Int32))).toUInt32 >>> ((2 : Int32) &&& 31).toUInt32).toInt32) &&& (858993459 : Int32))) + (((((p0 - (((p0.toUInt32 >>> ((1 : Int32) &&& 31).toUInt32).toInt32) &&& (1431655765 : Int32))) &&& (858993459 : Int32)) + ((((p0 - (((p0.toUInt32 >>> ((1 : Int32) &&& 31).toUInt32).toInt32) &&& (1431655765 : Int32))).toUInt32 >>> ((2 : Int32) &&& 31).toUInt32).toInt32) &&& (858993459 : Int32))).toUInt32 >>> ((4 : Int32) &&& 31).toUInt32).toInt32)) &&& (252645135 : Int32)) + (((((((p0 - (((p0.toUInt32 >>> ((1 : Int32) &&& 31).toUInt32).toInt32) &&& (1431655765 : Int32))) &&& (858993459 : Int32)) + ((((p0 - (((p0.toUInt32 >>> ((1 : Int32) &&& 31).toUInt32).toInt32) &&& (1431655765 : Int32))).toUInt32 >>> ((2 : Int32) &&& 31).toUInt32).toInt32) &&& (858993459 : Int32))) + (((((p0 - (((p0.toUInt32 >>> ((1 : Int32) &&& 31).toUInt32).toInt32) &&& (1431655765 : Int32))) &&& (858993459 : Int32)) + ((((p0 - (((p0.toUInt32 >>> ((1 : Int32) &&& 31).toUInt32).toInt32) &&& (1431655765 : Int32))).toUInt32 >>> ((2 : Int32) &&& 31).toUInt32).toInt32) &&& (858993459 : Int32))).toUInt32 >>> ((4 : Int32) &&& 31).toUInt32).toInt32)) &&& (252645135 : Int32)).toUInt32 >>> ((8 : Int32) &&& 31).toUInt32).toInt32)).toUInt32 >>> ((16 : Int32) &&& 31).toUInt32).toInt32)) &&& (63 : Int32)))) (fun h => by rw [Bd.returns] at h; cases h)
  refine ⟨_, _, pre1 _ ?_, hrun, hended, _, _, rfl, ?_, ⟨_, rfl⟩, hW, hsame.mono (by decide) (by decide)⟩
  · exact retI X0 hx Bd.returns (hb hby d4_52) hr
  · show Q4 Z p0 h0 n0 _ s₁.heap _
    rw [e0]
    exact ⟨rfl, N0, rfl⟩
theorem d2_0 : decode prog_24_method_1_code 0 = .ok (.aload_n 0, 1) := by decide +kernel
theorem d2_1 : decode prog_24_method_1_code 1 = .ok (.invokespecial 1, 3) := by decide +kernel
theorem d2_4 : decode prog_24_method_1_code 4 = .ok (.iload_n 1, 1) := by decide +kernel
theorem d2_5 : decode prog_24_method_1_code 5 = .ok (.invokestatic 7, 3) := by decide +kernel
theorem d2_8 : decode prog_24_method_1_code 8 = .ok (.iconst 1, 1) := by decide +kernel
theorem d2_9 : decode prog_24_method_1_code 9 = .ok (.if_icmp .ne 9, 3) := by decide +kernel
theorem d2_12 : decode prog_24_method_1_code 12 = .ok (.iload_n 1, 1) := by decide +kernel
theorem d2_13 : decode prog_24_method_1_code 13 = .ok (.bipush 10, 2) := by decide +kernel
theorem d2_15 : decode prog_24_method_1_code 15 = .ok (.if_icmp .ge 17, 3) := by decide +kernel
theorem d2_18 : decode prog_24_method_1_code 18 = .ok (.new 15, 3) := by decide +kernel
theorem d2_21 : decode prog_24_method_1_code 21 = .ok (.dup, 1) := by decide +kernel
theorem d2_22 : decode prog_24_method_1_code 22 = .ok (.iload_n 1, 1) := by decide +kernel
theorem d2_28 : decode prog_24_method_1_code 28 = .ok (.invokespecial 21, 3) := by decide +kernel
theorem d2_31 : decode prog_24_method_1_code 31 = .ok (.athrow, 1) := by decide +kernel
theorem d2_32 : decode prog_24_method_1_code 32 = .ok (.aload_n 0, 1) := by decide +kernel
theorem d2_33 : decode prog_24_method_1_code 33 = .ok (.iload_n 1, 1) := by decide +kernel
theorem d2_34 : decode prog_24_method_1_code 34 = .ok (.newarray .byte, 2) := by decide +kernel
theorem d2_36 : decode prog_24_method_1_code 36 = .ok (.putfield 24, 3) := by decide +kernel
theorem d2_39 : decode prog_24_method_1_code 39 = .ok (.aload_n 0, 1) := by decide +kernel
theorem d2_40 : decode prog_24_method_1_code 40 = .ok (.iload_n 1, 1) := by decide +kernel
theorem d2_41 : decode prog_24_method_1_code 41 = .ok (.iconst 1, 1) := by decide +kernel
theorem d2_42 : decode prog_24_method_1_code 42 = .ok (.isub, 1) := by decide +kernel
theorem d2_43 : decode prog_24_method_1_code 43 = .ok (.putfield 28, 3) := by decide +kernel
theorem d2_46 : decode prog_24_method_1_code 46 = .ok (.aload_n 0, 1) := by decide +kernel
theorem d2_47 : decode prog_24_method_1_code 47 = .ok (.iload_n 1, 1) := by decide +kernel
theorem d2_48 : decode prog_24_method_1_code 48 = .ok (.i2l, 1) := by decide +kernel
theorem d2_49 : decode prog_24_method_1_code 49 = .ok (.putfield 32, 3) := by decide +kernel
theorem d2_52 : decode prog_24_method_1_code 52 = .ok (.return_, 1) := by decide +kernel
theorem pn46195025 : plainName "com/example/wee_find/weefind/HeldMatches" = true := by first | (simp [plainName, overriddenIn]; done) | decide +kernel
theorem pd87992008 : parseMethodDescriptor "(I)I" = some ⟨[.int], some .int⟩ := by decide +kernel
theorem ef_2 (m : MethodId) (a0 : Addr) : entryFrame m #[(.ref a0), (.int (16 : Int32))] 2 = mkF m 0 #[.val (.ref a0), .val (.int (16 : Int32))] [] := by first | (simp [entryFrame, mkF, argsToLocals, Value.category]; done) | rfl
def Q2 (Z : State) (a0 : Addr) (h0 : Heap) (n0 : Nat) (v : Option Value) (h : Heap) (L : List Loc) : Prop := ∃ b1 : Addr, v = none ∧ Fr n0 L ∧ Keep h0 h [a0] ∧ h0.size ≤ b1 ∧ Exa Z h a0 "com/example/wee_find/weefind/HeldMatches" ∧ Fld Z h a0 "com/example/wee_find/weefind/HeldMatches" "bytes" "[B" (.ref b1) ∧ Fld Z h a0 "com/example/wee_find/weefind/HeldMatches" "mask" "I" (.int (15 : Int32)) ∧ Fld Z h a0 "com/example/wee_find/weefind/HeldMatches" "limit" "J" (.long (16 : Int64)) ∧ Fld Z h a0 "com/example/wee_find/weefind/HeldMatches" "written" "J" (.long (Int64.ofNat 0)) ∧ Fld Z h a0 "com/example/wee_find/weefind/HeldMatches" "taking" "J" (.long (Int64.ofNat 0)) ∧ own_Ar Z h b1 .byte 16 (fun _ => (0 : Int32))
set_option maxRecDepth 65536 in
set_option maxHeartbeats 40000000 in
theorem rm2 (l : Launch) (Z : State) (aq : Array Value) (hw : ∀ d ∈ tables_1, d.before aq Z = true) (ws : List Jvm.Cond) (a0 : Addr) (h0 : Heap) (n0 : Nat) (Z0 : n0 ≤ h0.size) (E_ : Exa Z h0 a0 "com/example/wee_find/weefind/HeldMatches") (Fb_ : Fld Z h0 a0 "com/example/wee_find/weefind/HeldMatches" "bytes" "[B" .null) (Fm_ : Fld Z h0 a0 "com/example/wee_find/weefind/HeldMatches" "mask" "I" (.int (0 : Int32))) (Flimit_ : Fld Z h0 a0 "com/example/wee_find/weefind/HeldMatches" "limit" "J" (.long (0 : Int64))) (Fwritten_ : Fld Z h0 a0 "com/example/wee_find/weefind/HeldMatches" "written" "J" (.long (0 : Int64))) (Ftaking_ : Fld Z h0 a0 "com/example/wee_find/weefind/HeldMatches" "taking" "J" (.long (0 : Int64))) (g_a0 : n0 ≤ a0) :
    MetFree l (⟨"com/example/wee_find/weefind/HeldMatches", "<init>", "(I)V"⟩ : MethodName) (head1 (Jvm.Cond.code (⟨"com/example/wee_find/weefind/HeldMatches", "<init>", "(I)V"⟩ : MethodName) prog_24_method_1_code 2 none :: ws) ({ frames := 1, cells := 1, slots := 16, locals := 12 } : Room)) (fun a U => a = #[(.ref a0), (.int (16 : Int32))] ∧ Z.Warmed39 U.vm ∧ U.heap = h0) (fun _ _ _ _ _ => True) (fun _ U o U' => ∃ v L, o = .returned v ∧ Q2 Z a0 h0 n0 v U'.heap L ∧ FrameEnd U o U' L ({ frames := 1, cells := 1, slots := 16, locals := 12 } : Room).cells ({ frames := 1, cells := 1, slots := 16, locals := 12 } : Room).slots) := by
  refine MetFree.of_bodySF (plainFor_of_name pn46195025) hisR ?_
  intro p e s m args below meth c s₁ Bd hml0 hP hK
  obtain ⟨rfl, hZ, hh⟩ := hP
  have hx := Bd.exec
  have hby := Bd.bytes
  have hml : c.maxLocals = 2 := hml0
  have hown : s.vm.findClass "com/example/wee_find/weefind/HeldMatches" = some m.cls := findClass_of_methodNamed Bd.named
  have hnm := (name_of_methodNamed Bd.named Bd.method).1
  have X0 : Stand p l e ({ frames := 1, cells := 1, slots := 16, locals := 12 } : Room) s m #[(.ref a0), (.int (16 : Int32))] below meth c s₁ [] 0 0 := Stand.of_body Bd
  have e0 : s₁.heap = h0 := by rw [← hh, Bd.state]; rfl
  have N0 := Fr.nil n0
  have K0 : Keep h0 h0 [a0] := Keep.refl _ _
  have pre0 : ∀ t, Steps p.tables e below (s₁.setTop (mkF m 0 #[.val (.ref a0), .val (.int (16 : Int32))] [])) t → Steps p.tables e below (s₁.setTop (entryFrame m #[(.ref a0), (.int (16 : Int32))] 2)) t := fun t k => castTop (ef_2 m a0) k
  obtain ⟨T2, X2, e2, st2⟩ := initO X0 hx hZ hown (hw _ (List.mem_of_getElem? (i := 19) rfl)) (hw _ (List.mem_of_getElem? (i := 20) rfl)) (hw _ (List.mem_of_getElem? (i := 21) rfl)) e0 (g := (mkF m 1 #[.val (.ref a0), .val (.int (16 : Int32))] [(.ref a0)])) rfl (by rw [hml]; rfl) rfl (hb hby d2_1) (by decide) (W := 0) (by show 2 * 0 + _ ≤ _; exact Nat.le_of_eq rfl) (by decide)
  obtain ⟨_, _, ⟨T3, L3, k3, n3⟩, -, X3, ⟨Lc3, hQ3, l3, y3, z3⟩, st3⟩ := Jvm.LawKit.callS X2 hx (y := (⟨"java/lang/Integer", "bitCount", "(I)I"⟩ : MethodName)) hown (mvT hZ (hw _ (List.mem_of_getElem? (i := 22) rfl))) (mvT hZ (hw _ (List.mem_of_getElem? (i := 23) rfl))) (mvT hZ (hw _ (List.mem_of_getElem? (i := 24) rfl))) (mvT hZ (hw _ (List.mem_of_getElem? (i := 25) rfl))) (by decide) (backOf (W := 0) (rm4 l Z aq hw [] (16 : Int32) h0 n0 Z0 ) hZ (hw _ (List.mem_of_getElem? (i := 25) rfl)) (hw _ (List.mem_of_getElem? (i := 24) rfl)) (by decide) (by decide)) (g := (mkF m 5 #[.val (.ref a0), .val (.int (16 : Int32))] [(.int (16 : Int32))])) rfl (by rw [hml]; rfl) (argsL := [(.int (16 : Int32))]) (rest := []) (lenOf pd87992008 rfl) rfl (by show 2 * 0 + _ ≤ _; exact Nat.le_of_eq rfl) (hb hby d2_5) (fun _ _ => ⟨rfl, e2, (by decide : 0 + 0 ≤ _), (by decide : 0 + 0 ≤ _)⟩)
  dsimp only [Pt.U, Pt.locs, Pt.cells, Pt.slots] at X3 l3 y3 z3 st3 hQ3
  subst l3 y3 z3
  obtain ⟨rfl, N3q, e3⟩ := hQ3
  have N4 := Fr.app N0 N3q
  obtain ⟨T5, h5, k5, X5, e5, E5, A5, EE5, st5⟩ := newPE X3 hx hZ (hw _ (List.mem_of_getElem? (i := 29) rfl)) e3 (g := (mkF m 34 #[.val (.ref a0), .val (.int (16 : Int32))] [(.int (16 : Int32)), (.ref a0)])) rfl (hb hby d2_34) rfl (by decide) (cap := 16) (by decide) (by decide) (by decide) (by decide) (ad := "[B") (by decide)
  obtain ⟨b5, g5⟩ : ∃ z, z = h0.size := ⟨_, rfl⟩
  rw [← g5] at A5 EE5 st5
  have ne_a0_b5 : a0 ≠ b5 := Nat.ne_of_lt (Nat.lt_of_lt_of_le E_.lt (Nat.le_of_eq g5.symm))
  have g_b5 : n0 ≤ b5 := Nat.le_trans Z0 (Nat.le_of_eq g5.symm)
  have sz_b5 : h0.size ≤ b5 := Nat.le_trans K0.1 (Nat.le_of_eq g5.symm)
  have E6 := E_.ext E5
  have F7 := Fb_.ext E5
  have F8 := Fm_.ext E5
  have F9 := Flimit_.ext E5
  have F10 := Fwritten_.ext E5
  have F11 := Ftaking_.ext E5
  have K12 : Keep h0 h5 [a0] := K0.ext E5
  have Z13 : n0 ≤ h5.size := Nat.le_trans Z0 E5.1
  have V5 : own_Ar Z h5 b5 .byte 16 (fun _ => (0 : Int32)) := own_Ar.of (Arv.new A5 (by decide)) (by decide) (fun i hi => rfl)
  obtain ⟨T14, h14, X14, e14, W14, st14⟩ := putF X5 hx hZ hown (host := "") (Or.inl (hw _ (List.mem_of_getElem? (i := 30) rfl))) Via.refl e5 F7 E6 (Or.inr ⟨(hw _ (List.mem_of_getElem? (i := 31) rfl)), rfl, hnm⟩) (hw _ (List.mem_of_getElem? (i := 14) rfl)) (ty := (.array .byte)) (by decide) rfl rfl (g := (mkF m 36 #[.val (.ref a0), .val (.int (16 : Int32))] [(.ref b5), (.ref a0)])) rfl rfl (hb hby d2_36)
  have E15 := E6.wr W14
  have F16 : Fld Z h14 a0 "com/example/wee_find/weefind/HeldMatches" "bytes" "[B" (.ref b5) := F7.same W14
  have F17 := F8.other W14 (Or.inr (slot_ne (Or.inr (hw _ (List.mem_of_getElem? (i := 33) rfl))) (Or.inr (hw _ (List.mem_of_getElem? (i := 31) rfl))) (by decide) (t := .int) (t' := (.array .byte)) (by decide) (by decide)))
  have F18 := F9.other W14 (Or.inr (slot_ne (Or.inl (hw _ (List.mem_of_getElem? (i := 35) rfl))) (Or.inr (hw _ (List.mem_of_getElem? (i := 31) rfl))) (by decide) (t := .long) (t' := (.array .byte)) (by decide) (by decide)))
  have F19 := F10.other W14 (Or.inr (slot_ne (Or.inl (hw _ (List.mem_of_getElem? (i := 43) rfl))) (Or.inr (hw _ (List.mem_of_getElem? (i := 31) rfl))) (by decide) (t := .long) (t' := (.array .byte)) (by decide) (by decide)))
  have F20 := F11.other W14 (Or.inr (slot_ne (Or.inl (hw _ (List.mem_of_getElem? (i := 56) rfl))) (Or.inr (hw _ (List.mem_of_getElem? (i := 31) rfl))) (by decide) (t := .long) (t' := (.array .byte)) (by decide) (by decide)))
  have E21 := EE5.wr W14
  have V22 := V5.other W14 (Ne.symm ne_a0_b5)
  have N23 := Fr.snoc X14 N4 g_a0
  have K24 : Keep h0 h14 [a0] := K12.wr W14 (Or.inl (List.mem_of_getElem? (i := 0) rfl))
  have Z25 : n0 ≤ h14.size := Nat.le_trans Z13 (Keep.of_wr W14).1
  obtain ⟨T26, h26, X26, e26, W26, st26⟩ := putF X14 hx hZ hown (host := "") (Or.inl (hw _ (List.mem_of_getElem? (i := 32) rfl))) Via.refl e14 F17 E15 (Or.inr ⟨(hw _ (List.mem_of_getElem? (i := 33) rfl)), rfl, hnm⟩) (hw _ (List.mem_of_getElem? (i := 14) rfl)) (ty := .int) (by decide) rfl rfl (g := (mkF m 43 #[.val (.ref a0), .val (.int (16 : Int32))] [(.int ((16 : Int32) - (1 : Int32))), (.ref a0)])) rfl rfl (hb hby d2_43)
  have E27 := E15.wr W26
  have F28 := F16.other W26 (Or.inr (slot_ne (Or.inr (hw _ (List.mem_of_getElem? (i := 31) rfl))) (Or.inr (hw _ (List.mem_of_getElem? (i := 33) rfl))) (by decide) (t := (.array .byte)) (t' := .int) (by decide) (by decide)))
  have F29 : Fld Z h26 a0 "com/example/wee_find/weefind/HeldMatches" "mask" "I" (.int ((16 : Int32) - (1 : Int32))) := F17.same W26
  have F30 := F18.other W26 (Or.inr (slot_ne (Or.inl (hw _ (List.mem_of_getElem? (i := 35) rfl))) (Or.inr (hw _ (List.mem_of_getElem? (i := 33) rfl))) (by decide) (t := .long) (t' := .int) (by decide) (by decide)))
  have F31 := F19.other W26 (Or.inr (slot_ne (Or.inl (hw _ (List.mem_of_getElem? (i := 43) rfl))) (Or.inr (hw _ (List.mem_of_getElem? (i := 33) rfl))) (by decide) (t := .long) (t' := .int) (by decide) (by decide)))
  have F32 := F20.other W26 (Or.inr (slot_ne (Or.inl (hw _ (List.mem_of_getElem? (i := 56) rfl))) (Or.inr (hw _ (List.mem_of_getElem? (i := 33) rfl))) (by decide) (t := .long) (t' := .int) (by decide) (by decide)))
  have E33 := E21.wr W26
  have V34 := V22.other W26 (Ne.symm ne_a0_b5)
  have N35 := Fr.snoc X26 N23 g_a0
  have K36 : Keep h0 h26 [a0] := K24.wr W26 (Or.inl (List.mem_of_getElem? (i := 0) rfl))
  have Z37 : n0 ≤ h26.size := Nat.le_trans Z25 (Keep.of_wr W26).1
  obtain ⟨T38, h38, X38, e38, W38, st38⟩ := putF X26 hx hZ hown (host := "") (Or.inl (hw _ (List.mem_of_getElem? (i := 34) rfl))) Via.refl e26 F30 E27 (Or.inl (hw _ (List.mem_of_getElem? (i := 35) rfl))) (hw _ (List.mem_of_getElem? (i := 14) rfl)) (ty := .long) (by decide) rfl rfl (g := (mkF m 49 #[.val (.ref a0), .val (.int (16 : Int32))] [(.long ((16 : Int32).toInt64)), (.ref a0)])) rfl rfl (hb hby d2_49)
  have E39 := E27.wr W38
  have F40 := F28.other W38 (Or.inr (slot_ne (Or.inr (hw _ (List.mem_of_getElem? (i := 31) rfl))) (Or.inl (hw _ (List.mem_of_getElem? (i := 35) rfl))) (by decide) (t := (.array .byte)) (t' := .long) (by decide) (by decide)))
  have F41 := F29.other W38 (Or.inr (slot_ne (Or.inr (hw _ (List.mem_of_getElem? (i := 33) rfl))) (Or.inl (hw _ (List.mem_of_getElem? (i := 35) rfl))) (by decide) (t := .int) (t' := .long) (by decide) (by decide)))
  have F42 : Fld Z h38 a0 "com/example/wee_find/weefind/HeldMatches" "limit" "J" (.long ((16 : Int32).toInt64)) := F30.same W38
  have F43 := F31.other W38 (Or.inr (slot_ne (Or.inl (hw _ (List.mem_of_getElem? (i := 43) rfl))) (Or.inl (hw _ (List.mem_of_getElem? (i := 35) rfl))) (by decide) (t := .long) (t' := .long) (by decide) (by decide)))
  have F44 := F32.other W38 (Or.inr (slot_ne (Or.inl (hw _ (List.mem_of_getElem? (i := 56) rfl))) (Or.inl (hw _ (List.mem_of_getElem? (i := 35) rfl))) (by decide) (t := .long) (t' := .long) (by decide) (by decide)))
  have E45 := E33.wr W38
  have V46 := V34.other W38 (Ne.symm ne_a0_b5)
  have N47 := Fr.snoc X38 N35 g_a0
  have K48 : Keep h0 h38 [a0] := K36.wr W38 (Or.inl (List.mem_of_getElem? (i := 0) rfl))
  have Z49 : n0 ≤ h38.size := Nat.le_trans Z37 (Keep.of_wr W38).1
  have pre50 : ∀ t, Steps p.tables e below (T38.setTop (mkF m 52 #[.val (.ref a0), .val (.int (16 : Int32))] [])) t → Steps p.tables e below (s₁.setTop (entryFrame m #[(.ref a0), (.int (16 : Int32))] 2)) t := fun t kt => by
    refine pre0 _ ?_
    show Steps p.tables e below (s₁.setTop (mkF m 0 #[.val (.ref a0), .val (.int (16 : Int32))] [])) _
    refine XS.aloadN X0.here hx rfl (hb hby d2_0) rfl rfl ?_
    show Steps p.tables e below (s₁.setTop (mkF m 1 #[.val (.ref a0), .val (.int (16 : Int32))] [(.ref a0)])) _
    refine st2 _ ?_
    show Steps p.tables e below (T2.setTop (mkF m 4 #[.val (.ref a0), .val (.int (16 : Int32))] [])) _
    refine XS.iloadN X2.here hx rfl (hb hby d2_4) rfl ?_
    show Steps p.tables e below (T2.setTop (mkF m 5 #[.val (.ref a0), .val (.int (16 : Int32))] [(.int (16 : Int32))])) _
    refine st3 _ ?_
    show Steps p.tables e below (T3.setTop (mkF m 8 #[.val (.ref a0), .val (.int (16 : Int32))] [(.int (((((((((16 : Int32) - ((((16 : Int32).toUInt32 >>> ((1 : Int32) &&& 31).toUInt32).toInt32) &&& (1431655765 : Int32))) &&& (858993459 : Int32)) + (((((16 : Int32) - ((((16 : Int32).toUInt32 >>> ((1 : Int32) &&& 31).toUInt32).toInt32) &&& (1431655765 : Int32))).toUInt32 >>> ((2 : Int32) &&& 31).toUInt32).toInt32) &&& (858993459 : Int32))) + ((((((16 : Int32) - ((((16 : Int32).toUInt32 >>> ((1 : Int32) &&& 31).toUInt32).toInt32) &&& (1431655765 : Int32))) &&& (858993459 : Int32)) + (((((16 : Int32) - ((((16 : Int32).toUInt32 >>> ((1 : Int32) &&& 31).toUInt32).toInt32) &&& (1431655765 : Int32))).toUInt32 >>> ((2 : Int32) &&& 31).toUInt32).toInt32) &&& (858993459 : Int32))).toUInt32 >>> ((4 : Int32) &&& 31).toUInt32).toInt32)) &&& (252645135 : Int32)) + ((((((((16 : Int32) - ((((16 : Int32).toUInt32 >>> ((1 : Int32) &&& 31).toUInt32).toInt32) &&& (1431655765 : Int32))) &&& (858993459 : Int32)) + (((((16 : Int32) - ((((16 : Int32).toUInt32 >>> ((1 : Int32) &&& 31).toUInt32).toInt32) &&& (1431655765 : Int32))).toUInt32 >>> ((2 : Int32) &&& 31).toUInt32).toInt32) &&& (858993459 : Int32))) + ((((((16 : Int32) - ((((16 : Int32).toUInt32 >>> ((1 : Int32) &&& 31).toUInt32).toInt32) &&& (1431655765 : Int32))) &&& (858993459 : Int32)) + (((((16 : Int32) - ((((16 : Int32).toUInt32 >>> ((1 : Int32) &&& 31).toUInt32).toInt32) &&& (1431655765 : Int32))).toUInt32 >>> ((2 : Int32) &&& 31).toUInt32).toInt32) &&& (858993459 : Int32))).toUInt32 >>> ((4 : Int32) &&& 31).toUInt32).toInt32)) &&& (252645135 : Int32)).toUInt32 >>> ((8 : Int32) &&& 31).toUInt32).toInt32)) + (((((((((16 : Int32) - ((((16 : Int32).toUInt32 >>> ((1 : Int32) &&& 31).toUInt32).toInt32) &&& (1431655765 : Int32))) &&& (858993459 : Int32)) + (((((16 : Int32) - ((((16 : Int32).toUInt32 >>> ((1 : Int32) &&& 31).toUInt32).toInt32) &&& (1431655765 : Int32))).toUInt32 >>> ((2 : Int32) &&& 31).toUInt32).toInt32) &&& (858993459 : Int32))) + ((((((16 : Int32) - ((((16 : Int32).toUInt32 >>> ((1 : Int32) &&& 31).toUInt32).toInt32) &&& (1431655765 : Int32))) &&& (858993459 : Int32)) + (((((16 : Int32) - ((((16 : Int32).toUInt32 >>> ((1 : Int32) &&& 31).toUInt32).toInt32) &&& (1431655765 : Int32))).toUInt32 >>> ((2 : Int32) &&& 31).toUInt32).toInt32) &&& (858993459 : Int32))).toUInt32 >>> ((4 : Int32) &&& 31).toUInt32).toInt32)) &&& (252645135 : Int32)) + ((((((((16 : Int32) - ((((16 : Int32).toUInt32 >>> ((1 : Int32) &&& 31).toUInt32).toInt32) &&& (1431655765 : Int32))) &&& (858993459 : Int32)) + (((((16 : Int32) - ((((16 : Int32).toUInt32 >>> ((1 : Int32) &&& 31).toUInt32).toInt32) &&& (1431655765 : Int32))).toUInt32 >>> ((2 : Int32) &&& 31).toUInt32).toInt32) &&& (858993459 : Int32))) + ((((((16 : Int32) - ((((16 : Int32).toUInt32 >>> ((1 : Int32) &&& 31).toUInt32).toInt32) &&& (1431655765 : Int32))) &&& (858993459 : Int32)) + (((((16 : Int32) - ((((16 : Int32).toUInt32 >>> ((1 : Int32) &&& 31).toUInt32).toInt32) &&& (1431655765 : Int32))).toUInt32 >>> ((2 : Int32) &&& 31).toUInt32).toInt32) &&& (858993459 : Int32))).toUInt32 >>> ((4 : Int32) &&& 31).toUInt32).toInt32)) &&& (252645135 : Int32)).toUInt32 >>> ((8 : Int32) &&& 31).toUInt32).toInt32)).toUInt32 >>> ((16 : Int32) &&& 31).toUInt32).toInt32)) &&& (63 : Int32)))])) _
    refine XS.iconst X3.here hx rfl (hb hby d2_8) ?_
    show Steps p.tables e below (T3.setTop (mkF m 9 #[.val (.ref a0), .val (.int (16 : Int32))] [(.int (1 : Int32)), (.int (((((((((16 : Int32) - ((((16 : Int32).toUInt32 >>> ((1 : Int32) &&& 31).toUInt32).toInt32) &&& (1431655765 : Int32))) &&& (858993459 : Int32)) + (((((16 : Int32) - ((((16 : Int32).toUInt32 >>> ((1 : Int32) &&& 31).toUInt32).toInt32) &&& (1431655765 : Int32))).toUInt32 >>> ((2 : Int32) &&& 31).toUInt32).toInt32) &&& (858993459 : Int32))) + ((((((16 : Int32) - ((((16 : Int32).toUInt32 >>> ((1 : Int32) &&& 31).toUInt32).toInt32) &&& (1431655765 : Int32))) &&& (858993459 : Int32)) + (((((16 : Int32) - ((((16 : Int32).toUInt32 >>> ((1 : Int32) &&& 31).toUInt32).toInt32) &&& (1431655765 : Int32))).toUInt32 >>> ((2 : Int32) &&& 31).toUInt32).toInt32) &&& (858993459 : Int32))).toUInt32 >>> ((4 : Int32) &&& 31).toUInt32).toInt32)) &&& (252645135 : Int32)) + ((((((((16 : Int32) - ((((16 : Int32).toUInt32 >>> ((1 : Int32) &&& 31).toUInt32).toInt32) &&& (1431655765 : Int32))) &&& (858993459 : Int32)) + (((((16 : Int32) - ((((16 : Int32).toUInt32 >>> ((1 : Int32) &&& 31).toUInt32).toInt32) &&& (1431655765 : Int32))).toUInt32 >>> ((2 : Int32) &&& 31).toUInt32).toInt32) &&& (858993459 : Int32))) + ((((((16 : Int32) - ((((16 : Int32).toUInt32 >>> ((1 : Int32) &&& 31).toUInt32).toInt32) &&& (1431655765 : Int32))) &&& (858993459 : Int32)) + (((((16 : Int32) - ((((16 : Int32).toUInt32 >>> ((1 : Int32) &&& 31).toUInt32).toInt32) &&& (1431655765 : Int32))).toUInt32 >>> ((2 : Int32) &&& 31).toUInt32).toInt32) &&& (858993459 : Int32))).toUInt32 >>> ((4 : Int32) &&& 31).toUInt32).toInt32)) &&& (252645135 : Int32)).toUInt32 >>> ((8 : Int32) &&& 31).toUInt32).toInt32)) + (((((((((16 : Int32) - ((((16 : Int32).toUInt32 >>> ((1 : Int32) &&& 31).toUInt32).toInt32) &&& (1431655765 : Int32))) &&& (858993459 : Int32)) + (((((16 : Int32) - ((((16 : Int32).toUInt32 >>> ((1 : Int32) &&& 31).toUInt32).toInt32) &&& (1431655765 : Int32))).toUInt32 >>> ((2 : Int32) &&& 31).toUInt32).toInt32) &&& (858993459 : Int32))) + ((((((16 : Int32) - ((((16 : Int32).toUInt32 >>> ((1 : Int32) &&& 31).toUInt32).toInt32) &&& (1431655765 : Int32))) &&& (858993459 : Int32)) + (((((16 : Int32) - ((((16 : Int32).toUInt32 >>> ((1 : Int32) &&& 31).toUInt32).toInt32) &&& (1431655765 : Int32))).toUInt32 >>> ((2 : Int32) &&& 31).toUInt32).toInt32) &&& (858993459 : Int32))).toUInt32 >>> ((4 : Int32) &&& 31).toUInt32).toInt32)) &&& (252645135 : Int32)) + ((((((((16 : Int32) - ((((16 : Int32).toUInt32 >>> ((1 : Int32) &&& 31).toUInt32).toInt32) &&& (1431655765 : Int32))) &&& (858993459 : Int32)) + (((((16 : Int32) - ((((16 : Int32).toUInt32 >>> ((1 : Int32) &&& 31).toUInt32).toInt32) &&& (1431655765 : Int32))).toUInt32 >>> ((2 : Int32) &&& 31).toUInt32).toInt32) &&& (858993459 : Int32))) + ((((((16 : Int32) - ((((16 : Int32).toUInt32 >>> ((1 : Int32) &&& 31).toUInt32).toInt32) &&& (1431655765 : Int32))) &&& (858993459 : Int32)) + (((((16 : Int32) - ((((16 : Int32).toUInt32 >>> ((1 : Int32) &&& 31).toUInt32).toInt32) &&& (1431655765 : Int32))).toUInt32 >>> ((2 : Int32) &&& 31).toUInt32).toInt32) &&& (858993459 : Int32))).toUInt32 >>> ((4 : Int32) &&& 31).toUInt32).toInt32)) &&& (252645135 : Int32)).toUInt32 >>> ((8 : Int32) &&& 31).toUInt32).toInt32)).toUInt32 >>> ((16 : Int32) &&& 31).toUInt32).toInt32)) &&& (63 : Int32)))])) _
    refine XS.icmpNo X3.here hx rfl (hb hby d2_9) rfl (teq (by decide +kernel : (((((((((16 : Int32) - ((((16 : Int32).toUInt32 >>> ((1 : Int32) &&& 31).toUInt32).toInt32) &&& (1431655765 : Int32))) &&& (858993459 : Int32)) + (((((16 : Int32) - ((((16 : Int32).toUInt32 >>> ((1 : Int32) &&& 31).toUInt32).toInt32) &&& (1431655765 : Int32))).toUInt32 >>> ((2 : Int32) &&& 31).toUInt32).toInt32) &&& (858993459 : Int32))) + ((((((16 : Int32) - ((((16 : Int32).toUInt32 >>> ((1 : Int32) &&& 31).toUInt32).toInt32) &&& (1431655765 : Int32))) &&& (858993459 : Int32)) + (((((16 : Int32) - ((((16 : Int32).toUInt32 >>> ((1 : Int32) &&& 31).toUInt32).toInt32) &&& (1431655765 : Int32))).toUInt32 >>> ((2 : Int32) &&& 31).toUInt32).toInt32) &&& (858993459 : Int32))).toUInt32 >>> ((4 : Int32) &&& 31).toUInt32).toInt32)) &&& (252645135 : Int32)) + ((((((((16 : Int32) - ((((16 : Int32).toUInt32 >>> ((1 : Int32) &&& 31).toUInt32).toInt32) &&& (1431655765 : Int32))) &&& (858993459 : Int32)) + (((((16 : Int32) - ((((16 : Int32).toUInt32 >>> ((1 : Int32) &&& 31).toUInt32).toInt32) &&& (1431655765 : Int32))).toUInt32 >>> ((2 : Int32) &&& 31).toUInt32).toInt32) &&& (858993459 : Int32))) + ((((((16 : Int32) - ((((16 : Int32).toUInt32 >>> ((1 : Int32) &&& 31).toUInt32).toInt32) &&& (1431655765 : Int32))) &&& (858993459 : Int32)) + (((((16 : Int32) - ((((16 : Int32).toUInt32 >>> ((1 : Int32) &&& 31).toUInt32).toInt32) &&& (1431655765 : Int32))).toUInt32 >>> ((2 : Int32) &&& 31).toUInt32).toInt32) &&& (858993459 : Int32))).toUInt32 >>> ((4 : Int32) &&& 31).toUInt32).toInt32)) &&& (252645135 : Int32)).toUInt32 >>> ((8 : Int32) &&& 31).toUInt32).toInt32)) + (((((((((16 : Int32) - ((((16 : Int32).toUInt32 >>> ((1 : Int32) &&& 31).toUInt32).toInt32) &&& (1431655765 : Int32))) &&& (858993459 : Int32)) + (((((16 : Int32) - ((((16 : Int32).toUInt32 >>> ((1 : Int32) &&& 31).toUInt32).toInt32) &&& (1431655765 : Int32))).toUInt32 >>> ((2 : Int32) &&& 31).toUInt32).toInt32) &&& (858993459 : Int32))) + ((((((16 : Int32) - ((((16 : Int32).toUInt32 >>> ((1 : Int32) &&& 31).toUInt32).toInt32) &&& (1431655765 : Int32))) &&& (858993459 : Int32)) + (((((16 : Int32) - ((((16 : Int32).toUInt32 >>> ((1 : Int32) &&& 31).toUInt32).toInt32) &&& (1431655765 : Int32))).toUInt32 >>> ((2 : Int32) &&& 31).toUInt32).toInt32) &&& (858993459 : Int32))).toUInt32 >>> ((4 : Int32) &&& 31).toUInt32).toInt32)) &&& (252645135 : Int32)) + ((((((((16 : Int32) - ((((16 : Int32).toUInt32 >>> ((1 : Int32) &&& 31).toUInt32).toInt32) &&& (1431655765 : Int32))) &&& (858993459 : Int32)) + (((((16 : Int32) - ((((16 : Int32).toUInt32 >>> ((1 : Int32) &&& 31).toUInt32).toInt32) &&& (1431655765 : Int32))).toUInt32 >>> ((2 : Int32) &&& 31).toUInt32).toInt32) &&& (858993459 : Int32))) + ((((((16 : Int32) - ((((16 : Int32).toUInt32 >>> ((1 : Int32) &&& 31).toUInt32).toInt32) &&& (1431655765 : Int32))) &&& (858993459 : Int32)) + (((((16 : Int32) - ((((16 : Int32).toUInt32 >>> ((1 : Int32) &&& 31).toUInt32).toInt32) &&& (1431655765 : Int32))).toUInt32 >>> ((2 : Int32) &&& 31).toUInt32).toInt32) &&& (858993459 : Int32))).toUInt32 >>> ((4 : Int32) &&& 31).toUInt32).toInt32)) &&& (252645135 : Int32)).toUInt32 >>> ((8 : Int32) &&& 31).toUInt32).toInt32)).toUInt32 >>> ((16 : Int32) &&& 31).toUInt32).toInt32)) &&& (63 : Int32)) = (1 : Int32))).2 ?_
    show Steps p.tables e below (T3.setTop (mkF m 12 #[.val (.ref a0), .val (.int (16 : Int32))] [])) _
    refine XS.iloadN X3.here hx rfl (hb hby d2_12) rfl ?_
    show Steps p.tables e below (T3.setTop (mkF m 13 #[.val (.ref a0), .val (.int (16 : Int32))] [(.int (16 : Int32))])) _
    refine XS.bipush X3.here hx rfl (hb hby d2_13) ?_
    show Steps p.tables e below (T3.setTop (mkF m 15 #[.val (.ref a0), .val (.int (16 : Int32))] [(.int (10 : Int32)), (.int (16 : Int32))])) _
    refine XS.icmpYes X3.here hx rfl (pc0 := 15) (pc' := 32) rfl (hb hby d2_15) rfl (flt (by decide : ¬ ((16 : Int32) < (10 : Int32)))).2.1 (by decide) (by decide) ?_
    show Steps p.tables e below (T3.setTop (mkF m 32 #[.val (.ref a0), .val (.int (16 : Int32))] [])) _
    refine XS.aloadN X3.here hx rfl (hb hby d2_32) rfl rfl ?_
    show Steps p.tables e below (T3.setTop (mkF m 33 #[.val (.ref a0), .val (.int (16 : Int32))] [(.ref a0)])) _
    refine XS.iloadN X3.here hx rfl (hb hby d2_33) rfl ?_
    show Steps p.tables e below (T3.setTop (mkF m 34 #[.val (.ref a0), .val (.int (16 : Int32))] [(.int (16 : Int32)), (.ref a0)])) _
    refine st5 _ ?_
    show Steps p.tables e below (T5.setTop (mkF m 36 #[.val (.ref a0), .val (.int (16 : Int32))] [(.ref b5), (.ref a0)])) _
    refine st14 _ ?_
    show Steps p.tables e below (T14.setTop (mkF m 39 #[.val (.ref a0), .val (.int (16 : Int32))] [])) _
    refine XS.aloadN X14.here hx rfl (hb hby d2_39) rfl rfl ?_
    show Steps p.tables e below (T14.setTop (mkF m 40 #[.val (.ref a0), .val (.int (16 : Int32))] [(.ref a0)])) _
    refine XS.iloadN X14.here hx rfl (hb hby d2_40) rfl ?_
    show Steps p.tables e below (T14.setTop (mkF m 41 #[.val (.ref a0), .val (.int (16 : Int32))] [(.int (16 : Int32)), (.ref a0)])) _
    refine XS.iconst X14.here hx rfl (hb hby d2_41) ?_
    show Steps p.tables e below (T14.setTop (mkF m 42 #[.val (.ref a0), .val (.int (16 : Int32))] [(.int (1 : Int32)), (.int (16 : Int32)), (.ref a0)])) _
    refine XS.isub X14.here hx rfl (hb hby d2_42) rfl ?_
    show Steps p.tables e below (T14.setTop (mkF m 43 #[.val (.ref a0), .val (.int (16 : Int32))] [(.int ((16 : Int32) - (1 : Int32))), (.ref a0)])) _
    refine st26 _ ?_
    show Steps p.tables e below (T26.setTop (mkF m 46 #[.val (.ref a0), .val (.int (16 : Int32))] [])) _
    refine XS.aloadN X26.here hx rfl (hb hby d2_46) rfl rfl ?_
    show Steps p.tables e below (T26.setTop (mkF m 47 #[.val (.ref a0), .val (.int (16 : Int32))] [(.ref a0)])) _
    refine XS.iloadN X26.here hx rfl (hb hby d2_47) rfl ?_
    show Steps p.tables e below (T26.setTop (mkF m 48 #[.val (.ref a0), .val (.int (16 : Int32))] [(.int (16 : Int32)), (.ref a0)])) _
    refine XS.i2l X26.here hx rfl (hb hby d2_48) rfl ?_
    show Steps p.tables e below (T26.setTop (mkF m 49 #[.val (.ref a0), .val (.int (16 : Int32))] [(.long ((16 : Int32).toInt64)), (.ref a0)])) _
    refine st38 _ ?_
    show Steps p.tables e below (T38.setTop (mkF m 52 #[.val (.ref a0), .val (.int (16 : Int32))] [])) _
    exact kt
  obtain ⟨fs, hr, hrun, hended, hW, hsame⟩ := X38.leave (v := none) (fun _ => rfl)
  refine ⟨_, _, pre50 _ ?_, hrun, hended, _, _, rfl, ?_, ⟨_, rfl⟩, hW, hsame.mono (by decide) (by decide)⟩
  · exact X38.returnOut hx Bd.returns (hb hby d2_52) hr
  · show Q2 Z a0 h0 n0 _ T38.heap _
    rw [e38]
    exact ⟨b5, rfl, N47, K48, sz_b5, E39, F40, (own_F (congrArg Value.int (by decide : ((16 : Int32) - (1 : Int32)) = (15 : Int32))) F41), (own_F (congrArg Value.long (by decide : ((16 : Int32).toInt64) = (16 : Int64))) F42), F43, F44, V46⟩
theorem d5_0 : decode prog_24_method_3_code 0 = .ok (.lload_n 1, 1) := by decide +kernel
theorem d5_1 : decode prog_24_method_3_code 1 = .ok (.lstore_n 3, 1) := by decide +kernel
theorem d5_2 : decode prog_24_method_3_code 2 = .ok (.lload_n 3, 1) := by decide +kernel
theorem d5_3 : decode prog_24_method_3_code 3 = .ok (.ldc2_w 41, 3) := by decide +kernel
theorem d5_6 : decode prog_24_method_3_code 6 = .ok (.lcmp, 1) := by decide +kernel
theorem d5_7 : decode prog_24_method_3_code 7 = .ok (.ifCond .lt 44, 3) := by decide +kernel
theorem d5_10 : decode prog_24_method_3_code 10 = .ok (.aload_n 0, 1) := by decide +kernel
theorem d5_11 : decode prog_24_method_3_code 11 = .ok (.getfield 24, 3) := by decide +kernel
theorem d5_14 : decode prog_24_method_3_code 14 = .ok (.aload_n 0, 1) := by decide +kernel
theorem d5_15 : decode prog_24_method_3_code 15 = .ok (.getfield 36, 3) := by decide +kernel
theorem d5_18 : decode prog_24_method_3_code 18 = .ok (.aload_n 0, 1) := by decide +kernel
theorem d5_19 : decode prog_24_method_3_code 19 = .ok (.getfield 28, 3) := by decide +kernel
theorem d5_22 : decode prog_24_method_3_code 22 = .ok (.i2l, 1) := by decide +kernel
theorem d5_23 : decode prog_24_method_3_code 23 = .ok (.land, 1) := by decide +kernel
theorem d5_24 : decode prog_24_method_3_code 24 = .ok (.l2i, 1) := by decide +kernel
theorem d5_25 : decode prog_24_method_3_code 25 = .ok (.lload_n 3, 1) := by decide +kernel
theorem d5_26 : decode prog_24_method_3_code 26 = .ok (.ldc2_w 41, 3) := by decide +kernel
theorem d5_29 : decode prog_24_method_3_code 29 = .ok (.lor, 1) := by decide +kernel
theorem d5_30 : decode prog_24_method_3_code 30 = .ok (.l2i, 1) := by decide +kernel
theorem d5_31 : decode prog_24_method_3_code 31 = .ok (.i2b, 1) := by decide +kernel
theorem d5_32 : decode prog_24_method_3_code 32 = .ok (.bastore, 1) := by decide +kernel
theorem d5_33 : decode prog_24_method_3_code 33 = .ok (.aload_n 0, 1) := by decide +kernel
theorem d5_34 : decode prog_24_method_3_code 34 = .ok (.dup, 1) := by decide +kernel
theorem d5_35 : decode prog_24_method_3_code 35 = .ok (.getfield 36, 3) := by decide +kernel
theorem d5_38 : decode prog_24_method_3_code 38 = .ok (.lconst 1, 1) := by decide +kernel
theorem d5_39 : decode prog_24_method_3_code 39 = .ok (.ladd, 1) := by decide +kernel
theorem d5_40 : decode prog_24_method_3_code 40 = .ok (.putfield 36, 3) := by decide +kernel
theorem d5_43 : decode prog_24_method_3_code 43 = .ok (.lload_n 3, 1) := by decide +kernel
theorem d5_44 : decode prog_24_method_3_code 44 = .ok (.bipush 7, 2) := by decide +kernel
theorem d5_46 : decode prog_24_method_3_code 46 = .ok (.lushr, 1) := by decide +kernel
theorem d5_47 : decode prog_24_method_3_code 47 = .ok (.lstore_n 3, 1) := by decide +kernel
theorem d5_48 : decode prog_24_method_3_code 48 = .ok (.goto (-46), 3) := by decide +kernel
theorem d5_51 : decode prog_24_method_3_code 51 = .ok (.aload_n 0, 1) := by decide +kernel
theorem d5_52 : decode prog_24_method_3_code 52 = .ok (.getfield 24, 3) := by decide +kernel
theorem d5_55 : decode prog_24_method_3_code 55 = .ok (.aload_n 0, 1) := by decide +kernel
theorem d5_56 : decode prog_24_method_3_code 56 = .ok (.getfield 36, 3) := by decide +kernel
theorem d5_59 : decode prog_24_method_3_code 59 = .ok (.aload_n 0, 1) := by decide +kernel
theorem d5_60 : decode prog_24_method_3_code 60 = .ok (.getfield 28, 3) := by decide +kernel
theorem d5_63 : decode prog_24_method_3_code 63 = .ok (.i2l, 1) := by decide +kernel
theorem d5_64 : decode prog_24_method_3_code 64 = .ok (.land, 1) := by decide +kernel
theorem d5_65 : decode prog_24_method_3_code 65 = .ok (.l2i, 1) := by decide +kernel
theorem d5_66 : decode prog_24_method_3_code 66 = .ok (.lload_n 3, 1) := by decide +kernel
theorem d5_67 : decode prog_24_method_3_code 67 = .ok (.l2i, 1) := by decide +kernel
theorem d5_68 : decode prog_24_method_3_code 68 = .ok (.i2b, 1) := by decide +kernel
theorem d5_69 : decode prog_24_method_3_code 69 = .ok (.bastore, 1) := by decide +kernel
theorem d5_70 : decode prog_24_method_3_code 70 = .ok (.aload_n 0, 1) := by decide +kernel
theorem d5_71 : decode prog_24_method_3_code 71 = .ok (.dup, 1) := by decide +kernel
theorem d5_72 : decode prog_24_method_3_code 72 = .ok (.getfield 36, 3) := by decide +kernel
theorem d5_75 : decode prog_24_method_3_code 75 = .ok (.lconst 1, 1) := by decide +kernel
theorem d5_76 : decode prog_24_method_3_code 76 = .ok (.ladd, 1) := by decide +kernel
theorem d5_77 : decode prog_24_method_3_code 77 = .ok (.putfield 36, 3) := by decide +kernel
theorem d5_80 : decode prog_24_method_3_code 80 = .ok (.return_, 1) := by decide +kernel
set_option maxRecDepth 65536 in
set_option maxHeartbeats 40000000 in
theorem lpw {p : Program} {l : Launch} {e : Env} {s : State} {m : MethodId} {args : Array Value} {below : List Frame} {meth : Method} {c : Code} {Z : State} {aq : Array Value} {h0 : Heap} {n0 : Nat} {a1 b1 : Addr} {q1 : Int64} {u_limit u_taking : Int64} (hx : p.tables.exec = Jvm.exec) (hZ : Z.Warmed39 s.vm) (hw : ∀ d ∈ tables_1, d.before aq Z = true) (hby : c.code = prog_24_method_3_code) (hml : c.maxLocals = 5) (hown : s.vm.findClass "com/example/wee_find/weefind/HeldMatches" = some m.cls) (g_a1 : n0 ≤ a1) (g_b1 : n0 ≤ b1) (ne_b1 : b1 ≠ a1) (k : Nat) :
    ∀ (T0 : State) (locs : List Loc) (hq : Heap) (r w : Nat) (f : Nat → Int32), Stand p l e ({ frames := 0, cells := 0, slots := 0, locals := 0 } : Room) s m args below meth c T0 locs 0 0 → T0.heap = hq → Fr n0 locs → n0 ≤ hq.size → Keep h0 hq [a1, b1] → Exa Z hq a1 "com/example/wee_find/weefind/HeldMatches" → Fld Z hq a1 "com/example/wee_find/weefind/HeldMatches" "bytes" "[B" (.ref b1) → Fld Z hq a1 "com/example/wee_find/weefind/HeldMatches" "mask" "I" (.int (15 : Int32)) → Fld Z hq a1 "com/example/wee_find/weefind/HeldMatches" "limit" "J" (.long u_limit) → Fld Z hq a1 "com/example/wee_find/weefind/HeldMatches" "written" "J" (.long (Int64.ofNat w)) → Fld Z hq a1 "com/example/wee_find/weefind/HeldMatches" "taking" "J" (.long u_taking) → own_Ar Z hq b1 .byte 16 f → own_Len k r → r < 2 ^ 63 → w + k < 100 → k ≤ 8 → ∃ (T' : State) (L' : List Loc) (Ls : Array Slot) (f' : Nat → Int32), Stand p l e ({ frames := 0, cells := 0, slots := 0, locals := 0 } : Room) s m args below meth c T' L' 0 0 ∧ Fr n0 L' ∧ n0 ≤ T'.heap.size ∧ Keep h0 T'.heap [a1, b1] ∧ Exa Z T'.heap a1 "com/example/wee_find/weefind/HeldMatches" ∧ Fld Z T'.heap a1 "com/example/wee_find/weefind/HeldMatches" "bytes" "[B" (.ref b1) ∧ Fld Z T'.heap a1 "com/example/wee_find/weefind/HeldMatches" "mask" "I" (.int (15 : Int32)) ∧ Fld Z T'.heap a1 "com/example/wee_find/weefind/HeldMatches" "limit" "J" (.long u_limit) ∧ Fld Z T'.heap a1 "com/example/wee_find/weefind/HeldMatches" "written" "J" (.long (Int64.ofNat (w + k + 1))) ∧ Fld Z T'.heap a1 "com/example/wee_find/weefind/HeldMatches" "taking" "J" (.long u_taking) ∧ own_Ar Z T'.heap b1 .byte 16 f' ∧ own_Enc f' k w r ∧ (∀ i, i < 16 → (∀ j, j ≤ k → i ≠ (w + j) % 16) → f' i = f i) ∧ ∀ t, Steps p.tables e below (T'.setTop (mkF m 80 Ls [])) t → Steps p.tables e below (T0.setTop (mkF m 2 #[.val (.ref a1), .val (.long q1), .second, .val (.long (Int64.ofNat r)), .second] [])) t := by
  induction k with
  | zero =>
    intro T0 locs hq r w f X0 e0 N0 Z0 K0 E0 Fb0 Fm0 Flimit0 Fwritten0 Ftaking0 V0 hlen hr hwk hk8
    have hw1 : w < 128 := by omega
    have pre0 : ∀ t, Steps p.tables e below (T0.setTop (mkF m 2 #[.val (.ref a1), .val (.long q1), .second, .val (.long (Int64.ofNat r)), .second] [])) t → Steps p.tables e below (T0.setTop (mkF m 2 #[.val (.ref a1), .val (.long q1), .second, .val (.long (Int64.ofNat r)), .second] [])) t := fun _ k => k
    obtain ⟨T51, X51, e51, st51⟩ := getF X0 hx hZ hown (host := "") (Or.inl (hw _ (List.mem_of_getElem? (i := 30) rfl))) Via.refl e0 Fb0 (g := (mkF m 52 #[.val (.ref a1), .val (.long q1), .second, .val (.long (Int64.ofNat r)), .second] [(.ref a1)])) rfl rfl (hb hby d5_52)
    obtain ⟨T52, X52, e52, st52⟩ := getF X51 hx hZ hown (host := "") (Or.inl (hw _ (List.mem_of_getElem? (i := 42) rfl))) Via.refl e51 Fwritten0 (g := (mkF m 56 #[.val (.ref a1), .val (.long q1), .second, .val (.long (Int64.ofNat r)), .second] [(.ref a1), (.ref b1)])) rfl rfl (hb hby d5_56)
    obtain ⟨T53, X53, e53, st53⟩ := getF X52 hx hZ hown (host := "") (Or.inl (hw _ (List.mem_of_getElem? (i := 32) rfl))) Via.refl e52 Fm0 (g := (mkF m 60 #[.val (.ref a1), .val (.long q1), .second, .val (.long (Int64.ofNat r)), .second] [(.ref a1), (.long (Int64.ofNat w)), (.ref b1)])) rfl rfl (hb hby d5_60)
    obtain ⟨T54, h54, X54, e54, W54, V54, st54⟩ := own_stB X53 hx hZ e53 V0 (j := (((Int64.ofNat w) &&& ((15 : Int32).toInt64)).toInt32)) (i := (w % 16)) (own_ix hw1) (own_m16 w) (g := (mkF m 69 #[.val (.ref a1), .val (.long q1), .second, .val (.long (Int64.ofNat r)), .second] [(.int (((Int64.ofNat r).toInt32).toInt8.toInt32)), (.int (((Int64.ofNat w) &&& ((15 : Int32).toInt64)).toInt32)), (.ref b1)])) rfl rfl (hb hby d5_69)
    have E55 := E0.wr W54
    have F56 := Fb0.other W54 (Or.inl (Ne.symm ne_b1))
    have F57 := Fm0.other W54 (Or.inl (Ne.symm ne_b1))
    have F58 := Flimit0.other W54 (Or.inl (Ne.symm ne_b1))
    have F59 := Fwritten0.other W54 (Or.inl (Ne.symm ne_b1))
    have F60 := Ftaking0.other W54 (Or.inl (Ne.symm ne_b1))
    have N61 := Fr.snoc X54 N0 g_b1
    have K62 : Keep h0 h54 [a1, b1] := K0.wr W54 (Or.inl (List.mem_of_getElem? (i := 1) rfl))
    have Z63 : n0 ≤ h54.size := Nat.le_trans Z0 (Keep.of_wr W54).1
    obtain ⟨T64, X64, e64, st64⟩ := getF X54 hx hZ hown (host := "") (Or.inl (hw _ (List.mem_of_getElem? (i := 42) rfl))) Via.refl e54 F59 (g := (mkF m 72 #[.val (.ref a1), .val (.long q1), .second, .val (.long (Int64.ofNat r)), .second] [(.ref a1), (.ref a1)])) rfl rfl (hb hby d5_72)
    obtain ⟨T65, h65, X65, e65, W65, st65⟩ := putF X64 hx hZ hown (host := "") (Or.inl (hw _ (List.mem_of_getElem? (i := 42) rfl))) Via.refl e64 F59 E55 (Or.inl (hw _ (List.mem_of_getElem? (i := 43) rfl))) (hw _ (List.mem_of_getElem? (i := 14) rfl)) (ty := .long) (by decide) rfl rfl (g := (mkF m 77 #[.val (.ref a1), .val (.long q1), .second, .val (.long (Int64.ofNat r)), .second] [(.long ((Int64.ofNat w) + (1 : Int64))), (.ref a1)])) rfl rfl (hb hby d5_77)
    have E66 := E55.wr W65
    have F67 := F56.other W65 (Or.inr (slot_ne (Or.inr (hw _ (List.mem_of_getElem? (i := 31) rfl))) (Or.inl (hw _ (List.mem_of_getElem? (i := 43) rfl))) (by decide) (t := (.array .byte)) (t' := .long) (by decide) (by decide)))
    have F68 := F57.other W65 (Or.inr (slot_ne (Or.inr (hw _ (List.mem_of_getElem? (i := 33) rfl))) (Or.inl (hw _ (List.mem_of_getElem? (i := 43) rfl))) (by decide) (t := .int) (t' := .long) (by decide) (by decide)))
    have F69 := F58.other W65 (Or.inr (slot_ne (Or.inl (hw _ (List.mem_of_getElem? (i := 35) rfl))) (Or.inl (hw _ (List.mem_of_getElem? (i := 43) rfl))) (by decide) (t := .long) (t' := .long) (by decide) (by decide)))
    have F70 : Fld Z h65 a1 "com/example/wee_find/weefind/HeldMatches" "written" "J" (.long ((Int64.ofNat w) + (1 : Int64))) := F59.same W65
    have F71 := F60.other W65 (Or.inr (slot_ne (Or.inl (hw _ (List.mem_of_getElem? (i := 56) rfl))) (Or.inl (hw _ (List.mem_of_getElem? (i := 43) rfl))) (by decide) (t := .long) (t' := .long) (by decide) (by decide)))
    have V72 := V54.other W65 ne_b1
    have N73 := Fr.snoc X65 N61 g_a1
    have K74 : Keep h0 h65 [a1, b1] := K62.wr W65 (Or.inl (List.mem_of_getElem? (i := 0) rfl))
    have Z75 : n0 ≤ h65.size := Nat.le_trans Z63 (Keep.of_wr W65).1
    have pre76 : ∀ t, Steps p.tables e below (T65.setTop (mkF m 80 #[.val (.ref a1), .val (.long q1), .second, .val (.long (Int64.ofNat r)), .second] [])) t → Steps p.tables e below (T0.setTop (mkF m 2 #[.val (.ref a1), .val (.long q1), .second, .val (.long (Int64.ofNat r)), .second] [])) t := fun t kt => by
      refine pre0 _ ?_
      show Steps p.tables e below (T0.setTop (mkF m 2 #[.val (.ref a1), .val (.long q1), .second, .val (.long (Int64.ofNat r)), .second] [])) _
      refine XS.lloadN X0.here hx rfl (hb hby d5_2) rfl ?_
      show Steps p.tables e below (T0.setTop (mkF m 3 #[.val (.ref a1), .val (.long q1), .second, .val (.long (Int64.ofNat r)), .second] [(.long (Int64.ofNat r))])) _
      refine X0.ldc2Long hx hown (mvT hZ (hw _ (List.mem_of_getElem? (i := 41) rfl))) (g := (mkF m 3 #[.val (.ref a1), .val (.long q1), .second, .val (.long (Int64.ofNat r)), .second] [(.long (Int64.ofNat r))])) rfl (hb hby d5_3) _ ?_
      show Steps p.tables e below (T0.setTop (mkF m 6 #[.val (.ref a1), .val (.long q1), .second, .val (.long (Int64.ofNat r)), .second] [(.long (128 : Int64)), (.long (Int64.ofNat r))])) _
      refine XS.lcmp X0.here hx rfl (hb hby d5_6) rfl ?_
      show Steps p.tables e below (T0.setTop (mkF m 7 #[.val (.ref a1), .val (.long q1), .second, .val (.long (Int64.ofNat r)), .second] [(.int (lcmpW (Int64.ofNat r) (128 : Int64)))])) _
      refine XS.ifYes X0.here hx rfl (pc0 := 7) (pc' := 51) rfl (hb hby d5_7) rfl ((if0 _ _).trans (tlt (own_lwL ((own_lt128 hr).mpr hlen))).1) (by decide) (by decide) ?_
      show Steps p.tables e below (T0.setTop (mkF m 51 #[.val (.ref a1), .val (.long q1), .second, .val (.long (Int64.ofNat r)), .second] [])) _
      refine XS.aloadN X0.here hx rfl (hb hby d5_51) rfl rfl ?_
      show Steps p.tables e below (T0.setTop (mkF m 52 #[.val (.ref a1), .val (.long q1), .second, .val (.long (Int64.ofNat r)), .second] [(.ref a1)])) _
      refine st51 _ ?_
      show Steps p.tables e below (T51.setTop (mkF m 55 #[.val (.ref a1), .val (.long q1), .second, .val (.long (Int64.ofNat r)), .second] [(.ref b1)])) _
      refine XS.aloadN X51.here hx rfl (hb hby d5_55) rfl rfl ?_
      show Steps p.tables e below (T51.setTop (mkF m 56 #[.val (.ref a1), .val (.long q1), .second, .val (.long (Int64.ofNat r)), .second] [(.ref a1), (.ref b1)])) _
      refine st52 _ ?_
      show Steps p.tables e below (T52.setTop (mkF m 59 #[.val (.ref a1), .val (.long q1), .second, .val (.long (Int64.ofNat r)), .second] [(.long (Int64.ofNat w)), (.ref b1)])) _
      refine XS.aloadN X52.here hx rfl (hb hby d5_59) rfl rfl ?_
      show Steps p.tables e below (T52.setTop (mkF m 60 #[.val (.ref a1), .val (.long q1), .second, .val (.long (Int64.ofNat r)), .second] [(.ref a1), (.long (Int64.ofNat w)), (.ref b1)])) _
      refine st53 _ ?_
      show Steps p.tables e below (T53.setTop (mkF m 63 #[.val (.ref a1), .val (.long q1), .second, .val (.long (Int64.ofNat r)), .second] [(.int (15 : Int32)), (.long (Int64.ofNat w)), (.ref b1)])) _
      refine XS.i2l X53.here hx rfl (hb hby d5_63) rfl ?_
      show Steps p.tables e below (T53.setTop (mkF m 64 #[.val (.ref a1), .val (.long q1), .second, .val (.long (Int64.ofNat r)), .second] [(.long ((15 : Int32).toInt64)), (.long (Int64.ofNat w)), (.ref b1)])) _
      refine XS.land X53.here hx rfl (hb hby d5_64) rfl ?_
      show Steps p.tables e below (T53.setTop (mkF m 65 #[.val (.ref a1), .val (.long q1), .second, .val (.long (Int64.ofNat r)), .second] [(.long ((Int64.ofNat w) &&& ((15 : Int32).toInt64))), (.ref b1)])) _
      refine XS.l2i X53.here hx rfl (hb hby d5_65) rfl ?_
      show Steps p.tables e below (T53.setTop (mkF m 66 #[.val (.ref a1), .val (.long q1), .second, .val (.long (Int64.ofNat r)), .second] [(.int (((Int64.ofNat w) &&& ((15 : Int32).toInt64)).toInt32)), (.ref b1)])) _
      refine XS.lloadN X53.here hx rfl (hb hby d5_66) rfl ?_
      show Steps p.tables e below (T53.setTop (mkF m 67 #[.val (.ref a1), .val (.long q1), .second, .val (.long (Int64.ofNat r)), .second] [(.long (Int64.ofNat r)), (.int (((Int64.ofNat w) &&& ((15 : Int32).toInt64)).toInt32)), (.ref b1)])) _
      refine XS.l2i X53.here hx rfl (hb hby d5_67) rfl ?_
      show Steps p.tables e below (T53.setTop (mkF m 68 #[.val (.ref a1), .val (.long q1), .second, .val (.long (Int64.ofNat r)), .second] [(.int ((Int64.ofNat r).toInt32)), (.int (((Int64.ofNat w) &&& ((15 : Int32).toInt64)).toInt32)), (.ref b1)])) _
      refine XS.i2b X53.here hx rfl (hb hby d5_68) rfl ?_
      show Steps p.tables e below (T53.setTop (mkF m 69 #[.val (.ref a1), .val (.long q1), .second, .val (.long (Int64.ofNat r)), .second] [(.int (((Int64.ofNat r).toInt32).toInt8.toInt32)), (.int (((Int64.ofNat w) &&& ((15 : Int32).toInt64)).toInt32)), (.ref b1)])) _
      refine st54 _ ?_
      show Steps p.tables e below (T54.setTop (mkF m 70 #[.val (.ref a1), .val (.long q1), .second, .val (.long (Int64.ofNat r)), .second] [])) _
      refine XS.aloadN X54.here hx rfl (hb hby d5_70) rfl rfl ?_
      show Steps p.tables e below (T54.setTop (mkF m 71 #[.val (.ref a1), .val (.long q1), .second, .val (.long (Int64.ofNat r)), .second] [(.ref a1)])) _
      refine XS.dup X54.here hx rfl (hb hby d5_71) rfl rfl ?_
      show Steps p.tables e below (T54.setTop (mkF m 72 #[.val (.ref a1), .val (.long q1), .second, .val (.long (Int64.ofNat r)), .second] [(.ref a1), (.ref a1)])) _
      refine st64 _ ?_
      show Steps p.tables e below (T64.setTop (mkF m 75 #[.val (.ref a1), .val (.long q1), .second, .val (.long (Int64.ofNat r)), .second] [(.long (Int64.ofNat w)), (.ref a1)])) _
      refine XS.lconst X64.here hx rfl (hb hby d5_75) ?_
      show Steps p.tables e below (T64.setTop (mkF m 76 #[.val (.ref a1), .val (.long q1), .second, .val (.long (Int64.ofNat r)), .second] [(.long (1 : Int64)), (.long (Int64.ofNat w)), (.ref a1)])) _
      refine XS.ladd X64.here hx rfl (hb hby d5_76) rfl ?_
      show Steps p.tables e below (T64.setTop (mkF m 77 #[.val (.ref a1), .val (.long q1), .second, .val (.long (Int64.ofNat r)), .second] [(.long ((Int64.ofNat w) + (1 : Int64))), (.ref a1)])) _
      refine st65 _ ?_
      show Steps p.tables e below (T65.setTop (mkF m 80 #[.val (.ref a1), .val (.long q1), .second, .val (.long (Int64.ofNat r)), .second] [])) _
      exact kt
    have hwv : ((Int64.ofNat w) + (1 : Int64)) = Int64.ofNat (w + 0 + 1) := own_w1 w
    refine ⟨_, _, _, _, X65, N73, by rw [e65]; exact Z75, by rw [e65]; exact K74, (by rw [e65]; exact E66), (by rw [e65]; exact F67), (by rw [e65]; exact F68), (by rw [e65]; exact F69), (by rw [e65]; exact own_F (congrArg Value.long hwv) F70), (by rw [e65]; exact F71), (by rw [e65]; exact V72), ?_, ?_, pre76⟩
    · exact ⟨hlen, by rw [own_up_self, own_ble hlen]⟩
    · intro i hi hj
      exact own_up_ne f _ (hj 0 (Nat.le_refl _))
  | succ k ih =>
    intro T0 locs hq r w f X0 e0 N0 Z0 K0 E0 Fb0 Fm0 Flimit0 Fwritten0 Ftaking0 V0 hlen hr hwk hk8
    have hw1 : w < 128 := by omega
    obtain ⟨hge, hlen'⟩ := hlen
    have pre0 : ∀ t, Steps p.tables e below (T0.setTop (mkF m 2 #[.val (.ref a1), .val (.long q1), .second, .val (.long (Int64.ofNat r)), .second] [])) t → Steps p.tables e below (T0.setTop (mkF m 2 #[.val (.ref a1), .val (.long q1), .second, .val (.long (Int64.ofNat r)), .second] [])) t := fun _ k => k
    obtain ⟨T77, X77, e77, st77⟩ := getF X0 hx hZ hown (host := "") (Or.inl (hw _ (List.mem_of_getElem? (i := 30) rfl))) Via.refl e0 Fb0 (g := (mkF m 11 #[.val (.ref a1), .val (.long q1), .second, .val (.long (Int64.ofNat r)), .second] [(.ref a1)])) rfl rfl (hb hby d5_11)
    obtain ⟨T78, X78, e78, st78⟩ := getF X77 hx hZ hown (host := "") (Or.inl (hw _ (List.mem_of_getElem? (i := 42) rfl))) Via.refl e77 Fwritten0 (g := (mkF m 15 #[.val (.ref a1), .val (.long q1), .second, .val (.long (Int64.ofNat r)), .second] [(.ref a1), (.ref b1)])) rfl rfl (hb hby d5_15)
    obtain ⟨T79, X79, e79, st79⟩ := getF X78 hx hZ hown (host := "") (Or.inl (hw _ (List.mem_of_getElem? (i := 32) rfl))) Via.refl e78 Fm0 (g := (mkF m 19 #[.val (.ref a1), .val (.long q1), .second, .val (.long (Int64.ofNat r)), .second] [(.ref a1), (.long (Int64.ofNat w)), (.ref b1)])) rfl rfl (hb hby d5_19)
    obtain ⟨T80, h80, X80, e80, W80, V80, st80⟩ := own_stB X79 hx hZ e79 V0 (j := (((Int64.ofNat w) &&& ((15 : Int32).toInt64)).toInt32)) (i := (w % 16)) (own_ix hw1) (own_m16 w) (g := (mkF m 32 #[.val (.ref a1), .val (.long q1), .second, .val (.long (Int64.ofNat r)), .second] [(.int ((((Int64.ofNat r) ||| (128 : Int64)).toInt32).toInt8.toInt32)), (.int (((Int64.ofNat w) &&& ((15 : Int32).toInt64)).toInt32)), (.ref b1)])) rfl rfl (hb hby d5_32)
    have E81 := E0.wr W80
    have F82 := Fb0.other W80 (Or.inl (Ne.symm ne_b1))
    have F83 := Fm0.other W80 (Or.inl (Ne.symm ne_b1))
    have F84 := Flimit0.other W80 (Or.inl (Ne.symm ne_b1))
    have F85 := Fwritten0.other W80 (Or.inl (Ne.symm ne_b1))
    have F86 := Ftaking0.other W80 (Or.inl (Ne.symm ne_b1))
    have N87 := Fr.snoc X80 N0 g_b1
    have K88 : Keep h0 h80 [a1, b1] := K0.wr W80 (Or.inl (List.mem_of_getElem? (i := 1) rfl))
    have Z89 : n0 ≤ h80.size := Nat.le_trans Z0 (Keep.of_wr W80).1
    obtain ⟨T90, X90, e90, st90⟩ := getF X80 hx hZ hown (host := "") (Or.inl (hw _ (List.mem_of_getElem? (i := 42) rfl))) Via.refl e80 F85 (g := (mkF m 35 #[.val (.ref a1), .val (.long q1), .second, .val (.long (Int64.ofNat r)), .second] [(.ref a1), (.ref a1)])) rfl rfl (hb hby d5_35)
    obtain ⟨T91, h91, X91, e91, W91, st91⟩ := putF X90 hx hZ hown (host := "") (Or.inl (hw _ (List.mem_of_getElem? (i := 42) rfl))) Via.refl e90 F85 E81 (Or.inl (hw _ (List.mem_of_getElem? (i := 43) rfl))) (hw _ (List.mem_of_getElem? (i := 14) rfl)) (ty := .long) (by decide) rfl rfl (g := (mkF m 40 #[.val (.ref a1), .val (.long q1), .second, .val (.long (Int64.ofNat r)), .second] [(.long ((Int64.ofNat w) + (1 : Int64))), (.ref a1)])) rfl rfl (hb hby d5_40)
    have E92 := E81.wr W91
    have F93 := F82.other W91 (Or.inr (slot_ne (Or.inr (hw _ (List.mem_of_getElem? (i := 31) rfl))) (Or.inl (hw _ (List.mem_of_getElem? (i := 43) rfl))) (by decide) (t := (.array .byte)) (t' := .long) (by decide) (by decide)))
    have F94 := F83.other W91 (Or.inr (slot_ne (Or.inr (hw _ (List.mem_of_getElem? (i := 33) rfl))) (Or.inl (hw _ (List.mem_of_getElem? (i := 43) rfl))) (by decide) (t := .int) (t' := .long) (by decide) (by decide)))
    have F95 := F84.other W91 (Or.inr (slot_ne (Or.inl (hw _ (List.mem_of_getElem? (i := 35) rfl))) (Or.inl (hw _ (List.mem_of_getElem? (i := 43) rfl))) (by decide) (t := .long) (t' := .long) (by decide) (by decide)))
    have F96 : Fld Z h91 a1 "com/example/wee_find/weefind/HeldMatches" "written" "J" (.long ((Int64.ofNat w) + (1 : Int64))) := F85.same W91
    have F97 := F86.other W91 (Or.inr (slot_ne (Or.inl (hw _ (List.mem_of_getElem? (i := 56) rfl))) (Or.inl (hw _ (List.mem_of_getElem? (i := 43) rfl))) (by decide) (t := .long) (t' := .long) (by decide) (by decide)))
    have V98 := V80.other W91 ne_b1
    have N99 := Fr.snoc X91 N87 g_a1
    have K100 : Keep h0 h91 [a1, b1] := K88.wr W91 (Or.inl (List.mem_of_getElem? (i := 0) rfl))
    have Z101 : n0 ≤ h91.size := Nat.le_trans Z89 (Keep.of_wr W91).1
    have pre102 : ∀ t, Steps p.tables e below (T91.setTop (mkF m 2 #[.val (.ref a1), .val (.long q1), .second, .val (.long (((Int64.ofNat r).toUInt64 >>> ((7 : Int32) &&& 0x3f).toInt64.toUInt64).toInt64)), .second] [])) t → Steps p.tables e below (T0.setTop (mkF m 2 #[.val (.ref a1), .val (.long q1), .second, .val (.long (Int64.ofNat r)), .second] [])) t := fun t kt => by
      refine pre0 _ ?_
      show Steps p.tables e below (T0.setTop (mkF m 2 #[.val (.ref a1), .val (.long q1), .second, .val (.long (Int64.ofNat r)), .second] [])) _
      refine XS.lloadN X0.here hx rfl (hb hby d5_2) rfl ?_
      show Steps p.tables e below (T0.setTop (mkF m 3 #[.val (.ref a1), .val (.long q1), .second, .val (.long (Int64.ofNat r)), .second] [(.long (Int64.ofNat r))])) _
      refine X0.ldc2Long hx hown (mvT hZ (hw _ (List.mem_of_getElem? (i := 41) rfl))) (g := (mkF m 3 #[.val (.ref a1), .val (.long q1), .second, .val (.long (Int64.ofNat r)), .second] [(.long (Int64.ofNat r))])) rfl (hb hby d5_3) _ ?_
      show Steps p.tables e below (T0.setTop (mkF m 6 #[.val (.ref a1), .val (.long q1), .second, .val (.long (Int64.ofNat r)), .second] [(.long (128 : Int64)), (.long (Int64.ofNat r))])) _
      refine XS.lcmp X0.here hx rfl (hb hby d5_6) rfl ?_
      show Steps p.tables e below (T0.setTop (mkF m 7 #[.val (.ref a1), .val (.long q1), .second, .val (.long (Int64.ofNat r)), .second] [(.int (lcmpW (Int64.ofNat r) (128 : Int64)))])) _
      refine XS.ifNo X0.here hx rfl (hb hby d5_7) rfl ((if0 _ _).trans (flt (own_lwM (fun q => absurd ((own_lt128 hr).mp q) (by omega)))).1) ?_
      show Steps p.tables e below (T0.setTop (mkF m 10 #[.val (.ref a1), .val (.long q1), .second, .val (.long (Int64.ofNat r)), .second] [])) _
      refine XS.aloadN X0.here hx rfl (hb hby d5_10) rfl rfl ?_
      show Steps p.tables e below (T0.setTop (mkF m 11 #[.val (.ref a1), .val (.long q1), .second, .val (.long (Int64.ofNat r)), .second] [(.ref a1)])) _
      refine st77 _ ?_
      show Steps p.tables e below (T77.setTop (mkF m 14 #[.val (.ref a1), .val (.long q1), .second, .val (.long (Int64.ofNat r)), .second] [(.ref b1)])) _
      refine XS.aloadN X77.here hx rfl (hb hby d5_14) rfl rfl ?_
      show Steps p.tables e below (T77.setTop (mkF m 15 #[.val (.ref a1), .val (.long q1), .second, .val (.long (Int64.ofNat r)), .second] [(.ref a1), (.ref b1)])) _
      refine st78 _ ?_
      show Steps p.tables e below (T78.setTop (mkF m 18 #[.val (.ref a1), .val (.long q1), .second, .val (.long (Int64.ofNat r)), .second] [(.long (Int64.ofNat w)), (.ref b1)])) _
      refine XS.aloadN X78.here hx rfl (hb hby d5_18) rfl rfl ?_
      show Steps p.tables e below (T78.setTop (mkF m 19 #[.val (.ref a1), .val (.long q1), .second, .val (.long (Int64.ofNat r)), .second] [(.ref a1), (.long (Int64.ofNat w)), (.ref b1)])) _
      refine st79 _ ?_
      show Steps p.tables e below (T79.setTop (mkF m 22 #[.val (.ref a1), .val (.long q1), .second, .val (.long (Int64.ofNat r)), .second] [(.int (15 : Int32)), (.long (Int64.ofNat w)), (.ref b1)])) _
      refine XS.i2l X79.here hx rfl (hb hby d5_22) rfl ?_
      show Steps p.tables e below (T79.setTop (mkF m 23 #[.val (.ref a1), .val (.long q1), .second, .val (.long (Int64.ofNat r)), .second] [(.long ((15 : Int32).toInt64)), (.long (Int64.ofNat w)), (.ref b1)])) _
      refine XS.land X79.here hx rfl (hb hby d5_23) rfl ?_
      show Steps p.tables e below (T79.setTop (mkF m 24 #[.val (.ref a1), .val (.long q1), .second, .val (.long (Int64.ofNat r)), .second] [(.long ((Int64.ofNat w) &&& ((15 : Int32).toInt64))), (.ref b1)])) _
      refine XS.l2i X79.here hx rfl (hb hby d5_24) rfl ?_
      show Steps p.tables e below (T79.setTop (mkF m 25 #[.val (.ref a1), .val (.long q1), .second, .val (.long (Int64.ofNat r)), .second] [(.int (((Int64.ofNat w) &&& ((15 : Int32).toInt64)).toInt32)), (.ref b1)])) _
      refine XS.lloadN X79.here hx rfl (hb hby d5_25) rfl ?_
      show Steps p.tables e below (T79.setTop (mkF m 26 #[.val (.ref a1), .val (.long q1), .second, .val (.long (Int64.ofNat r)), .second] [(.long (Int64.ofNat r)), (.int (((Int64.ofNat w) &&& ((15 : Int32).toInt64)).toInt32)), (.ref b1)])) _
      refine X79.ldc2Long hx hown (mvT hZ (hw _ (List.mem_of_getElem? (i := 41) rfl))) (g := (mkF m 26 #[.val (.ref a1), .val (.long q1), .second, .val (.long (Int64.ofNat r)), .second] [(.long (Int64.ofNat r)), (.int (((Int64.ofNat w) &&& ((15 : Int32).toInt64)).toInt32)), (.ref b1)])) rfl (hb hby d5_26) _ ?_
      show Steps p.tables e below (T79.setTop (mkF m 29 #[.val (.ref a1), .val (.long q1), .second, .val (.long (Int64.ofNat r)), .second] [(.long (128 : Int64)), (.long (Int64.ofNat r)), (.int (((Int64.ofNat w) &&& ((15 : Int32).toInt64)).toInt32)), (.ref b1)])) _
      refine XS.lor X79.here hx rfl (hb hby d5_29) rfl ?_
      show Steps p.tables e below (T79.setTop (mkF m 30 #[.val (.ref a1), .val (.long q1), .second, .val (.long (Int64.ofNat r)), .second] [(.long ((Int64.ofNat r) ||| (128 : Int64))), (.int (((Int64.ofNat w) &&& ((15 : Int32).toInt64)).toInt32)), (.ref b1)])) _
      refine XS.l2i X79.here hx rfl (hb hby d5_30) rfl ?_
      show Steps p.tables e below (T79.setTop (mkF m 31 #[.val (.ref a1), .val (.long q1), .second, .val (.long (Int64.ofNat r)), .second] [(.int (((Int64.ofNat r) ||| (128 : Int64)).toInt32)), (.int (((Int64.ofNat w) &&& ((15 : Int32).toInt64)).toInt32)), (.ref b1)])) _
      refine XS.i2b X79.here hx rfl (hb hby d5_31) rfl ?_
      show Steps p.tables e below (T79.setTop (mkF m 32 #[.val (.ref a1), .val (.long q1), .second, .val (.long (Int64.ofNat r)), .second] [(.int ((((Int64.ofNat r) ||| (128 : Int64)).toInt32).toInt8.toInt32)), (.int (((Int64.ofNat w) &&& ((15 : Int32).toInt64)).toInt32)), (.ref b1)])) _
      refine st80 _ ?_
      show Steps p.tables e below (T80.setTop (mkF m 33 #[.val (.ref a1), .val (.long q1), .second, .val (.long (Int64.ofNat r)), .second] [])) _
      refine XS.aloadN X80.here hx rfl (hb hby d5_33) rfl rfl ?_
      show Steps p.tables e below (T80.setTop (mkF m 34 #[.val (.ref a1), .val (.long q1), .second, .val (.long (Int64.ofNat r)), .second] [(.ref a1)])) _
      refine XS.dup X80.here hx rfl (hb hby d5_34) rfl rfl ?_
      show Steps p.tables e below (T80.setTop (mkF m 35 #[.val (.ref a1), .val (.long q1), .second, .val (.long (Int64.ofNat r)), .second] [(.ref a1), (.ref a1)])) _
      refine st90 _ ?_
      show Steps p.tables e below (T90.setTop (mkF m 38 #[.val (.ref a1), .val (.long q1), .second, .val (.long (Int64.ofNat r)), .second] [(.long (Int64.ofNat w)), (.ref a1)])) _
      refine XS.lconst X90.here hx rfl (hb hby d5_38) ?_
      show Steps p.tables e below (T90.setTop (mkF m 39 #[.val (.ref a1), .val (.long q1), .second, .val (.long (Int64.ofNat r)), .second] [(.long (1 : Int64)), (.long (Int64.ofNat w)), (.ref a1)])) _
      refine XS.ladd X90.here hx rfl (hb hby d5_39) rfl ?_
      show Steps p.tables e below (T90.setTop (mkF m 40 #[.val (.ref a1), .val (.long q1), .second, .val (.long (Int64.ofNat r)), .second] [(.long ((Int64.ofNat w) + (1 : Int64))), (.ref a1)])) _
      refine st91 _ ?_
      show Steps p.tables e below (T91.setTop (mkF m 43 #[.val (.ref a1), .val (.long q1), .second, .val (.long (Int64.ofNat r)), .second] [])) _
      refine XS.lloadN X91.here hx rfl (hb hby d5_43) rfl ?_
      show Steps p.tables e below (T91.setTop (mkF m 44 #[.val (.ref a1), .val (.long q1), .second, .val (.long (Int64.ofNat r)), .second] [(.long (Int64.ofNat r))])) _
      refine XS.bipush X91.here hx rfl (hb hby d5_44) ?_
      show Steps p.tables e below (T91.setTop (mkF m 46 #[.val (.ref a1), .val (.long q1), .second, .val (.long (Int64.ofNat r)), .second] [(.int (7 : Int32)), (.long (Int64.ofNat r))])) _
      refine XS.lushr X91.here hx rfl (hb hby d5_46) rfl ?_
      show Steps p.tables e below (T91.setTop (mkF m 47 #[.val (.ref a1), .val (.long q1), .second, .val (.long (Int64.ofNat r)), .second] [(.long (((Int64.ofNat r).toUInt64 >>> ((7 : Int32) &&& 0x3f).toInt64.toUInt64).toInt64))])) _
      refine XS.lstoreN X91.here hx rfl (hb hby d5_47) rfl (l' := #[.val (.ref a1), .val (.long q1), .second, .val (.long (((Int64.ofNat r).toUInt64 >>> ((7 : Int32) &&& 0x3f).toInt64.toUInt64).toInt64)), .second]) rfl ?_
      show Steps p.tables e below (T91.setTop (mkF m 48 #[.val (.ref a1), .val (.long q1), .second, .val (.long (((Int64.ofNat r).toUInt64 >>> ((7 : Int32) &&& 0x3f).toInt64.toUInt64).toInt64)), .second] [])) _
      refine XS.goto X91.here hx rfl (pc0 := 48) (pc' := 2) rfl (hb hby d5_48) (by decide) (by decide) ?_
      show Steps p.tables e below (T91.setTop (mkF m 2 #[.val (.ref a1), .val (.long q1), .second, .val (.long (((Int64.ofNat r).toUInt64 >>> ((7 : Int32) &&& 0x3f).toInt64.toUInt64).toInt64)), .second] [])) _
      exact kt
    have hwv : ((Int64.ofNat w) + (1 : Int64)) = Int64.ofNat (w + 1) := own_w1 w
    have hrv : (((Int64.ofNat r).toUInt64 >>> ((7 : Int32) &&& 0x3f).toInt64.toUInt64).toInt64) = Int64.ofNat (r / 128) := own_shr hr
    obtain ⟨T', L', Ls, f', X', N', Z', K', y0, y1, y2, y3, y4, y5, y6, enc, same, st⟩ := ih T91 _ _ (r / 128) (w + 1) _ X91 e91 N99 Z101 K100 E92 F93 F94 F95 (own_F (congrArg Value.long hwv) F96) F97 V98 hlen' (by omega) (by omega) (by omega)
    rw [← hrv] at st
    have hk : w + 1 + k + 1 = w + (k + 1) + 1 := by omega
    refine ⟨T', L', Ls, f', X', N', Z', K', y0, y1, y2, y3, (hk ▸ y4), y5, y6, ⟨hge, ?_, enc⟩, ?_, fun t kt => pre102 t (st t kt)⟩
    · rw [same (w % 16) (own_m16 w) (fun j hj => by omega), own_up_self, own_bce]
    · intro i hi hj
      rw [same i hi (fun j hjk => by have q := hj (j + 1) (by omega); rw [show w + 1 + j = w + (j + 1) from by omega]; exact q)]
      exact own_up_ne f _ (by have q := hj 0 (by omega); exact q)
theorem ef_5 (m : MethodId) (a0 : Addr) : entryFrame m #[(.ref a0), (.long (Int64.ofNat r))] 5 = mkF m 0 #[.val (.ref a0), .val (.long (Int64.ofNat r)), .second, .unset, .unset] [] := by first | (simp [entryFrame, mkF, argsToLocals, Value.category]; done) | rfl
def Q5 (Z : State) (a0 : Addr) (b1 : Addr) (k : Nat) (r : Nat) (w : Nat) (f : Nat → Int32) (u_limit : Int64) (u_taking : Int64) (h0 : Heap) (n0 : Nat) (v : Option Value) (h : Heap) (L : List Loc) : Prop := ∃ f' : Nat → Int32, v = none ∧ Fr n0 L ∧ Keep h0 h [a0, b1] ∧ Exa Z h a0 "com/example/wee_find/weefind/HeldMatches" ∧ Fld Z h a0 "com/example/wee_find/weefind/HeldMatches" "bytes" "[B" (.ref b1) ∧ Fld Z h a0 "com/example/wee_find/weefind/HeldMatches" "mask" "I" (.int (15 : Int32)) ∧ Fld Z h a0 "com/example/wee_find/weefind/HeldMatches" "limit" "J" (.long u_limit) ∧ Fld Z h a0 "com/example/wee_find/weefind/HeldMatches" "written" "J" (.long (Int64.ofNat (w + k + 1))) ∧ Fld Z h a0 "com/example/wee_find/weefind/HeldMatches" "taking" "J" (.long u_taking) ∧ own_Ar Z h b1 .byte 16 f' ∧ own_Enc f' k w r
set_option maxRecDepth 65536 in
set_option maxHeartbeats 40000000 in
theorem rm5 (l : Launch) (Z : State) (aq : Array Value) (hw : ∀ d ∈ tables_1, d.before aq Z = true) (ws : List Jvm.Cond) (a0 : Addr) (b1 : Addr) (k : Nat) (r : Nat) (w : Nat) (f : Nat → Int32) (u_limit : Int64) (u_taking : Int64) (h0 : Heap) (n0 : Nat) (Z0 : n0 ≤ h0.size) (E_ : Exa Z h0 a0 "com/example/wee_find/weefind/HeldMatches") (Fb_ : Fld Z h0 a0 "com/example/wee_find/weefind/HeldMatches" "bytes" "[B" (.ref b1)) (Fm_ : Fld Z h0 a0 "com/example/wee_find/weefind/HeldMatches" "mask" "I" (.int (15 : Int32))) (Flimit_ : Fld Z h0 a0 "com/example/wee_find/weefind/HeldMatches" "limit" "J" (.long u_limit)) (Fwritten_ : Fld Z h0 a0 "com/example/wee_find/weefind/HeldMatches" "written" "J" (.long (Int64.ofNat w))) (Ftaking_ : Fld Z h0 a0 "com/example/wee_find/weefind/HeldMatches" "taking" "J" (.long u_taking)) (V_ : own_Ar Z h0 b1 .byte 16 f) (g_a0 : n0 ≤ a0) (g_b1 : n0 ≤ b1) (ne_b1 : b1 ≠ a0) (hlen : own_Len k r) (hr : r < 2 ^ 63) (hwk : w + k < 100) (hk8 : k ≤ 8) :
    MetFree l (⟨"com/example/wee_find/weefind/HeldMatches", "write", "(J)V"⟩ : MethodName) (head1 (Jvm.Cond.code (⟨"com/example/wee_find/weefind/HeldMatches", "write", "(J)V"⟩ : MethodName) prog_24_method_3_code 5 none :: ws) ({ frames := 0, cells := 0, slots := 0, locals := 0 } : Room)) (fun a U => a = #[(.ref a0), (.long (Int64.ofNat r))] ∧ Z.Warmed39 U.vm ∧ U.heap = h0) (fun _ _ _ _ _ => True) (fun _ U o U' => ∃ v L, o = .returned v ∧ Q5 Z a0 b1 k r w f u_limit u_taking h0 n0 v U'.heap L ∧ FrameEnd U o U' L ({ frames := 0, cells := 0, slots := 0, locals := 0 } : Room).cells ({ frames := 0, cells := 0, slots := 0, locals := 0 } : Room).slots) := by
  refine MetFree.of_bodySF (plainFor_of_name pn46195025) hisR ?_
  intro p e s m args below meth c s₁ Bd hml0 hP hK
  obtain ⟨rfl, hZ, hh⟩ := hP
  have hx := Bd.exec
  have hby := Bd.bytes
  have hml : c.maxLocals = 5 := hml0
  have hown : s.vm.findClass "com/example/wee_find/weefind/HeldMatches" = some m.cls := findClass_of_methodNamed Bd.named
  have hnm := (name_of_methodNamed Bd.named Bd.method).1
  have X0 : Stand p l e ({ frames := 0, cells := 0, slots := 0, locals := 0 } : Room) s m #[(.ref a0), (.long (Int64.ofNat r))] below meth c s₁ [] 0 0 := Stand.of_body Bd
  have e0 : s₁.heap = h0 := by rw [← hh, Bd.state]; rfl
  have N0 := Fr.nil n0
  have K0 : Keep h0 h0 [a0, b1] := Keep.refl _ _
  have pre0 : ∀ t, Steps p.tables e below (s₁.setTop (mkF m 0 #[.val (.ref a0), .val (.long (Int64.ofNat r)), .second, .unset, .unset] [])) t → Steps p.tables e below (s₁.setTop (entryFrame m #[(.ref a0), (.long (Int64.ofNat r))] 5)) t := fun t k => castTop (ef_5 m a0) k
  have pre103 : ∀ t, Steps p.tables e below (s₁.setTop (mkF m 2 #[.val (.ref a0), .val (.long (Int64.ofNat r)), .second, .val (.long (Int64.ofNat r)), .second] [])) t → Steps p.tables e below (s₁.setTop (entryFrame m #[(.ref a0), (.long (Int64.ofNat r))] 5)) t := fun t kt => by
    refine pre0 _ ?_
    show Steps p.tables e below (s₁.setTop (mkF m 0 #[.val (.ref a0), .val (.long (Int64.ofNat r)), .second, .unset, .unset] [])) _
    refine XS.lloadN X0.here hx rfl (hb hby d5_0) rfl ?_
    show Steps p.tables e below (s₁.setTop (mkF m 1 #[.val (.ref a0), .val (.long (Int64.ofNat r)), .second, .unset, .unset] [(.long (Int64.ofNat r))])) _
    refine XS.lstoreN X0.here hx rfl (hb hby d5_1) rfl (l' := #[.val (.ref a0), .val (.long (Int64.ofNat r)), .second, .val (.long (Int64.ofNat r)), .second]) rfl ?_
    show Steps p.tables e below (s₁.setTop (mkF m 2 #[.val (.ref a0), .val (.long (Int64.ofNat r)), .second, .val (.long (Int64.ofNat r)), .second] [])) _
    exact kt
  obtain ⟨T', L', Ls, f', X', N', Z', K', y0, y1, y2, y3, y4, y5, y6, enc, -, st⟩ := lpw hx hZ hw hby hml hown g_a0 g_b1 ne_b1 k s₁ _ _ r w f X0 e0 N0 Z0 K0 E_ Fb_ Fm_ Flimit_ Fwritten_ Ftaking_ V_ hlen hr hwk hk8
  have pre104 : ∀ t, Steps p.tables e below (T'.setTop (mkF m 80 Ls [])) t → Steps p.tables e below (s₁.setTop (entryFrame m #[(.ref a0), (.long (Int64.ofNat r))] 5)) t := fun t kt => pre103 t (st t kt)
  obtain ⟨fs, hr, hrun, hended, hW, hsame⟩ := X'.leave (v := none) (fun _ => rfl)
  refine ⟨_, _, pre104 _ ?_, hrun, hended, _, _, rfl, ?_, ⟨_, rfl⟩, hW, hsame.mono (by decide) (by decide)⟩
  · exact X'.returnOut hx Bd.returns (hb hby d5_80) hr
  · show Q5 Z a0 b1 k r w f u_limit u_taking h0 n0 _ T'.heap _
    exact ⟨f', rfl, N', K', y0, y1, y2, y3, y4, y5, y6, enc⟩
theorem d7_0 : decode prog_24_method_5_code 0 = .ok (.lconst 0, 1) := by decide +kernel
theorem d7_1 : decode prog_24_method_5_code 1 = .ok (.lstore_n 1, 1) := by decide +kernel
theorem d7_2 : decode prog_24_method_5_code 2 = .ok (.iconst 0, 1) := by decide +kernel
theorem d7_3 : decode prog_24_method_5_code 3 = .ok (.istore_n 3, 1) := by decide +kernel
theorem d7_4 : decode prog_24_method_5_code 4 = .ok (.aload_n 0, 1) := by decide +kernel
theorem d7_5 : decode prog_24_method_5_code 5 = .ok (.getfield 24, 3) := by decide +kernel
theorem d7_8 : decode prog_24_method_5_code 8 = .ok (.aload_n 0, 1) := by decide +kernel
theorem d7_9 : decode prog_24_method_5_code 9 = .ok (.getfield 46, 3) := by decide +kernel
theorem d7_12 : decode prog_24_method_5_code 12 = .ok (.aload_n 0, 1) := by decide +kernel
theorem d7_13 : decode prog_24_method_5_code 13 = .ok (.getfield 28, 3) := by decide +kernel
theorem d7_16 : decode prog_24_method_5_code 16 = .ok (.i2l, 1) := by decide +kernel
theorem d7_17 : decode prog_24_method_5_code 17 = .ok (.land, 1) := by decide +kernel
theorem d7_18 : decode prog_24_method_5_code 18 = .ok (.l2i, 1) := by decide +kernel
theorem d7_19 : decode prog_24_method_5_code 19 = .ok (.baload, 1) := by decide +kernel
theorem d7_20 : decode prog_24_method_5_code 20 = .ok (.istore 4, 2) := by decide +kernel
theorem d7_22 : decode prog_24_method_5_code 22 = .ok (.aload_n 0, 1) := by decide +kernel
theorem d7_23 : decode prog_24_method_5_code 23 = .ok (.dup, 1) := by decide +kernel
theorem d7_24 : decode prog_24_method_5_code 24 = .ok (.getfield 46, 3) := by decide +kernel
theorem d7_27 : decode prog_24_method_5_code 27 = .ok (.lconst 1, 1) := by decide +kernel
theorem d7_28 : decode prog_24_method_5_code 28 = .ok (.ladd, 1) := by decide +kernel
theorem d7_29 : decode prog_24_method_5_code 29 = .ok (.putfield 46, 3) := by decide +kernel
theorem d7_32 : decode prog_24_method_5_code 32 = .ok (.lload_n 1, 1) := by decide +kernel
theorem d7_33 : decode prog_24_method_5_code 33 = .ok (.iload 4, 2) := by decide +kernel
theorem d7_35 : decode prog_24_method_5_code 35 = .ok (.bipush 127, 2) := by decide +kernel
theorem d7_37 : decode prog_24_method_5_code 37 = .ok (.iand, 1) := by decide +kernel
theorem d7_38 : decode prog_24_method_5_code 38 = .ok (.i2l, 1) := by decide +kernel
theorem d7_39 : decode prog_24_method_5_code 39 = .ok (.iload_n 3, 1) := by decide +kernel
theorem d7_40 : decode prog_24_method_5_code 40 = .ok (.lshl, 1) := by decide +kernel
theorem d7_41 : decode prog_24_method_5_code 41 = .ok (.lor, 1) := by decide +kernel
theorem d7_42 : decode prog_24_method_5_code 42 = .ok (.lstore_n 1, 1) := by decide +kernel
theorem d7_43 : decode prog_24_method_5_code 43 = .ok (.iinc 3 7, 3) := by decide +kernel
theorem d7_46 : decode prog_24_method_5_code 46 = .ok (.iload 4, 2) := by decide +kernel
theorem d7_48 : decode prog_24_method_5_code 48 = .ok (.ifCond .lt (-44), 3) := by decide +kernel
theorem d7_51 : decode prog_24_method_5_code 51 = .ok (.lload_n 1, 1) := by decide +kernel
theorem d7_52 : decode prog_24_method_5_code 52 = .ok (.lreturn, 1) := by decide +kernel
set_option maxRecDepth 65536 in
set_option maxHeartbeats 40000000 in
theorem lpt {p : Program} {l : Launch} {e : Env} {s : State} {m : MethodId} {args : Array Value} {below : List Frame} {meth : Method} {c : Code} {Z : State} {aq : Array Value} {h0 : Heap} {n0 : Nat} {a1 b1 : Addr} {u_limit u_written : Int64} {f : Nat → Int32} (hx : p.tables.exec = Jvm.exec) (hZ : Z.Warmed39 s.vm) (hw : ∀ d ∈ tables_1, d.before aq Z = true) (hby : c.code = prog_24_method_5_code) (hml : c.maxLocals = 5) (hown : s.vm.findClass "com/example/wee_find/weefind/HeldMatches" = some m.cls) (g_a1 : n0 ≤ a1) (ne_b1 : b1 ≠ a1) (k : Nat) :
    ∀ (T0 : State) (locs : List Loc) (hq : Heap) (r w d sh : Nat) (s4 : Slot), Stand p l e ({ frames := 0, cells := 0, slots := 0, locals := 0 } : Room) s m args below meth c T0 locs 0 0 → T0.heap = hq → Fr n0 locs → n0 ≤ hq.size → Keep h0 hq [a1] → Exa Z hq a1 "com/example/wee_find/weefind/HeldMatches" → Fld Z hq a1 "com/example/wee_find/weefind/HeldMatches" "bytes" "[B" (.ref b1) → Fld Z hq a1 "com/example/wee_find/weefind/HeldMatches" "mask" "I" (.int (15 : Int32)) → Fld Z hq a1 "com/example/wee_find/weefind/HeldMatches" "limit" "J" (.long u_limit) → Fld Z hq a1 "com/example/wee_find/weefind/HeldMatches" "written" "J" (.long u_written) → Fld Z hq a1 "com/example/wee_find/weefind/HeldMatches" "taking" "J" (.long (Int64.ofNat w)) → own_Ar Z hq b1 .byte 16 f → own_Enc f k w r → One s4 → d < 2 ^ sh → d + r * 2 ^ sh < 2 ^ 63 → sh + 7 * k ≤ 56 → w + k < 100 → ∃ (T' : State) (L' : List Loc) (i3 i4 : Int32), Stand p l e ({ frames := 0, cells := 0, slots := 0, locals := 0 } : Room) s m args below meth c T' L' 0 0 ∧ Fr n0 L' ∧ n0 ≤ T'.heap.size ∧ Keep h0 T'.heap [a1] ∧ Exa Z T'.heap a1 "com/example/wee_find/weefind/HeldMatches" ∧ Fld Z T'.heap a1 "com/example/wee_find/weefind/HeldMatches" "bytes" "[B" (.ref b1) ∧ Fld Z T'.heap a1 "com/example/wee_find/weefind/HeldMatches" "mask" "I" (.int (15 : Int32)) ∧ Fld Z T'.heap a1 "com/example/wee_find/weefind/HeldMatches" "limit" "J" (.long u_limit) ∧ Fld Z T'.heap a1 "com/example/wee_find/weefind/HeldMatches" "written" "J" (.long u_written) ∧ Fld Z T'.heap a1 "com/example/wee_find/weefind/HeldMatches" "taking" "J" (.long (Int64.ofNat (w + k + 1))) ∧ own_Ar Z T'.heap b1 .byte 16 f ∧ ∀ t, Steps p.tables e below (T'.setTop (mkF m 51 #[.val (.ref a1), .val (.long (Int64.ofNat (d + r * 2 ^ sh))), .second, .val (.int i3), .val (.int i4)] [])) t → Steps p.tables e below (T0.setTop (mkF m 4 #[.val (.ref a1), .val (.long (Int64.ofNat d)), .second, .val (.int (Int32.ofNat sh)), s4] [])) t := by
  induction k with
  | zero =>
    intro T0 locs hq r w d sh s4 X0 e0 N0 Z0 K0 E0 Fb0 Fm0 Flimit0 Fwritten0 Ftaking0 V0 enc h4 hd hbd hsh hwk
    have hw1 : w < 128 := by omega
    obtain ⟨hlt, hfv⟩ := enc
    have pre0 : ∀ t, Steps p.tables e below (T0.setTop (mkF m 4 #[.val (.ref a1), .val (.long (Int64.ofNat d)), .second, .val (.int (Int32.ofNat sh)), s4] [])) t → Steps p.tables e below (T0.setTop (mkF m 4 #[.val (.ref a1), .val (.long (Int64.ofNat d)), .second, .val (.int (Int32.ofNat sh)), s4] [])) t := fun _ k => k
    obtain ⟨T105, X105, e105, st105⟩ := getF X0 hx hZ hown (host := "") (Or.inl (hw _ (List.mem_of_getElem? (i := 30) rfl))) Via.refl e0 Fb0 (g := (mkF m 5 #[.val (.ref a1), .val (.long (Int64.ofNat d)), .second, .val (.int (Int32.ofNat sh)), s4] [(.ref a1)])) rfl rfl (hb hby d7_5)
    obtain ⟨T106, X106, e106, st106⟩ := getF X105 hx hZ hown (host := "") (Or.inl (hw _ (List.mem_of_getElem? (i := 55) rfl))) Via.refl e105 Ftaking0 (g := (mkF m 9 #[.val (.ref a1), .val (.long (Int64.ofNat d)), .second, .val (.int (Int32.ofNat sh)), s4] [(.ref a1), (.ref b1)])) rfl rfl (hb hby d7_9)
    obtain ⟨T107, X107, e107, st107⟩ := getF X106 hx hZ hown (host := "") (Or.inl (hw _ (List.mem_of_getElem? (i := 32) rfl))) Via.refl e106 Fm0 (g := (mkF m 13 #[.val (.ref a1), .val (.long (Int64.ofNat d)), .second, .val (.int (Int32.ofNat sh)), s4] [(.ref a1), (.long (Int64.ofNat w)), (.ref b1)])) rfl rfl (hb hby d7_13)
    obtain ⟨T108, X108, e108, st108⟩ := getF X107 hx hZ hown (host := "") (Or.inl (hw _ (List.mem_of_getElem? (i := 55) rfl))) Via.refl e107 Ftaking0 (g := (mkF m 24 #[.val (.ref a1), .val (.long (Int64.ofNat d)), .second, .val (.int (Int32.ofNat sh)), .val (.int (f (w % 16)))] [(.ref a1), (.ref a1)])) rfl rfl (hb hby d7_24)
    obtain ⟨T109, h109, X109, e109, W109, st109⟩ := putF X108 hx hZ hown (host := "") (Or.inl (hw _ (List.mem_of_getElem? (i := 55) rfl))) Via.refl e108 Ftaking0 E0 (Or.inl (hw _ (List.mem_of_getElem? (i := 56) rfl))) (hw _ (List.mem_of_getElem? (i := 14) rfl)) (ty := .long) (by decide) rfl rfl (g := (mkF m 29 #[.val (.ref a1), .val (.long (Int64.ofNat d)), .second, .val (.int (Int32.ofNat sh)), .val (.int (f (w % 16)))] [(.long ((Int64.ofNat w) + (1 : Int64))), (.ref a1)])) rfl rfl (hb hby d7_29)
    have E110 := E0.wr W109
    have F111 := Fb0.other W109 (Or.inr (slot_ne (Or.inr (hw _ (List.mem_of_getElem? (i := 31) rfl))) (Or.inl (hw _ (List.mem_of_getElem? (i := 56) rfl))) (by decide) (t := (.array .byte)) (t' := .long) (by decide) (by decide)))
    have F112 := Fm0.other W109 (Or.inr (slot_ne (Or.inr (hw _ (List.mem_of_getElem? (i := 33) rfl))) (Or.inl (hw _ (List.mem_of_getElem? (i := 56) rfl))) (by decide) (t := .int) (t' := .long) (by decide) (by decide)))
    have F113 := Flimit0.other W109 (Or.inr (slot_ne (Or.inl (hw _ (List.mem_of_getElem? (i := 35) rfl))) (Or.inl (hw _ (List.mem_of_getElem? (i := 56) rfl))) (by decide) (t := .long) (t' := .long) (by decide) (by decide)))
    have F114 := Fwritten0.other W109 (Or.inr (slot_ne (Or.inl (hw _ (List.mem_of_getElem? (i := 43) rfl))) (Or.inl (hw _ (List.mem_of_getElem? (i := 56) rfl))) (by decide) (t := .long) (t' := .long) (by decide) (by decide)))
    have F115 : Fld Z h109 a1 "com/example/wee_find/weefind/HeldMatches" "taking" "J" (.long ((Int64.ofNat w) + (1 : Int64))) := Ftaking0.same W109
    have V116 := V0.other W109 ne_b1
    have N117 := Fr.snoc X109 N0 g_a1
    have K118 : Keep h0 h109 [a1] := K0.wr W109 (Or.inl (List.mem_of_getElem? (i := 0) rfl))
    have Z119 : n0 ≤ h109.size := Nat.le_trans Z0 (Keep.of_wr W109).1
    have pre120 : ∀ t, Steps p.tables e below (T109.setTop (mkF m 51 #[.val (.ref a1), .val (.long ((Int64.ofNat d) ||| ((((f (w % 16)) &&& (127 : Int32)).toInt64) <<< ((Int32.ofNat sh) &&& 0x3f).toInt64))), .second, .val (.int ((Int32.ofNat sh) + (7 : Int32))), .val (.int (f (w % 16)))] [])) t → Steps p.tables e below (T0.setTop (mkF m 4 #[.val (.ref a1), .val (.long (Int64.ofNat d)), .second, .val (.int (Int32.ofNat sh)), s4] [])) t := fun t kt => by
      refine pre0 _ ?_
      show Steps p.tables e below (T0.setTop (mkF m 4 #[.val (.ref a1), .val (.long (Int64.ofNat d)), .second, .val (.int (Int32.ofNat sh)), s4] [])) _
      refine XS.aloadN X0.here hx rfl (hb hby d7_4) rfl rfl ?_
      show Steps p.tables e below (T0.setTop (mkF m 5 #[.val (.ref a1), .val (.long (Int64.ofNat d)), .second, .val (.int (Int32.ofNat sh)), s4] [(.ref a1)])) _
      refine st105 _ ?_
      show Steps p.tables e below (T105.setTop (mkF m 8 #[.val (.ref a1), .val (.long (Int64.ofNat d)), .second, .val (.int (Int32.ofNat sh)), s4] [(.ref b1)])) _
      refine XS.aloadN X105.here hx rfl (hb hby d7_8) rfl rfl ?_
      show Steps p.tables e below (T105.setTop (mkF m 9 #[.val (.ref a1), .val (.long (Int64.ofNat d)), .second, .val (.int (Int32.ofNat sh)), s4] [(.ref a1), (.ref b1)])) _
      refine st106 _ ?_
      show Steps p.tables e below (T106.setTop (mkF m 12 #[.val (.ref a1), .val (.long (Int64.ofNat d)), .second, .val (.int (Int32.ofNat sh)), s4] [(.long (Int64.ofNat w)), (.ref b1)])) _
      refine XS.aloadN X106.here hx rfl (hb hby d7_12) rfl rfl ?_
      show Steps p.tables e below (T106.setTop (mkF m 13 #[.val (.ref a1), .val (.long (Int64.ofNat d)), .second, .val (.int (Int32.ofNat sh)), s4] [(.ref a1), (.long (Int64.ofNat w)), (.ref b1)])) _
      refine st107 _ ?_
      show Steps p.tables e below (T107.setTop (mkF m 16 #[.val (.ref a1), .val (.long (Int64.ofNat d)), .second, .val (.int (Int32.ofNat sh)), s4] [(.int (15 : Int32)), (.long (Int64.ofNat w)), (.ref b1)])) _
      refine XS.i2l X107.here hx rfl (hb hby d7_16) rfl ?_
      show Steps p.tables e below (T107.setTop (mkF m 17 #[.val (.ref a1), .val (.long (Int64.ofNat d)), .second, .val (.int (Int32.ofNat sh)), s4] [(.long ((15 : Int32).toInt64)), (.long (Int64.ofNat w)), (.ref b1)])) _
      refine XS.land X107.here hx rfl (hb hby d7_17) rfl ?_
      show Steps p.tables e below (T107.setTop (mkF m 18 #[.val (.ref a1), .val (.long (Int64.ofNat d)), .second, .val (.int (Int32.ofNat sh)), s4] [(.long ((Int64.ofNat w) &&& ((15 : Int32).toInt64))), (.ref b1)])) _
      refine XS.l2i X107.here hx rfl (hb hby d7_18) rfl ?_
      show Steps p.tables e below (T107.setTop (mkF m 19 #[.val (.ref a1), .val (.long (Int64.ofNat d)), .second, .val (.int (Int32.ofNat sh)), s4] [(.int (((Int64.ofNat w) &&& ((15 : Int32).toInt64)).toInt32)), (.ref b1)])) _
      refine own_rdB X107 hx hZ e107 V0 (j := (((Int64.ofNat w) &&& ((15 : Int32).toInt64)).toInt32)) (i := (w % 16)) (own_ix hw1) (own_m16 w) (g := (mkF m 19 #[.val (.ref a1), .val (.long (Int64.ofNat d)), .second, .val (.int (Int32.ofNat sh)), s4] [(.int (((Int64.ofNat w) &&& ((15 : Int32).toInt64)).toInt32)), (.ref b1)])) rfl rfl (hb hby d7_19) _ ?_
      show Steps p.tables e below (T107.setTop (mkF m 20 #[.val (.ref a1), .val (.long (Int64.ofNat d)), .second, .val (.int (Int32.ofNat sh)), s4] [(.int (f (w % 16)))])) _
      refine XS.istore X107.here hx rfl (hb hby d7_20) rfl (l' := #[.val (.ref a1), .val (.long (Int64.ofNat d)), .second, .val (.int (Int32.ofNat sh)), .val (.int (f (w % 16)))]) (own_os h4) ?_
      show Steps p.tables e below (T107.setTop (mkF m 22 #[.val (.ref a1), .val (.long (Int64.ofNat d)), .second, .val (.int (Int32.ofNat sh)), .val (.int (f (w % 16)))] [])) _
      refine XS.aloadN X107.here hx rfl (hb hby d7_22) rfl rfl ?_
      show Steps p.tables e below (T107.setTop (mkF m 23 #[.val (.ref a1), .val (.long (Int64.ofNat d)), .second, .val (.int (Int32.ofNat sh)), .val (.int (f (w % 16)))] [(.ref a1)])) _
      refine XS.dup X107.here hx rfl (hb hby d7_23) rfl rfl ?_
      show Steps p.tables e below (T107.setTop (mkF m 24 #[.val (.ref a1), .val (.long (Int64.ofNat d)), .second, .val (.int (Int32.ofNat sh)), .val (.int (f (w % 16)))] [(.ref a1), (.ref a1)])) _
      refine st108 _ ?_
      show Steps p.tables e below (T108.setTop (mkF m 27 #[.val (.ref a1), .val (.long (Int64.ofNat d)), .second, .val (.int (Int32.ofNat sh)), .val (.int (f (w % 16)))] [(.long (Int64.ofNat w)), (.ref a1)])) _
      refine XS.lconst X108.here hx rfl (hb hby d7_27) ?_
      show Steps p.tables e below (T108.setTop (mkF m 28 #[.val (.ref a1), .val (.long (Int64.ofNat d)), .second, .val (.int (Int32.ofNat sh)), .val (.int (f (w % 16)))] [(.long (1 : Int64)), (.long (Int64.ofNat w)), (.ref a1)])) _
      refine XS.ladd X108.here hx rfl (hb hby d7_28) rfl ?_
      show Steps p.tables e below (T108.setTop (mkF m 29 #[.val (.ref a1), .val (.long (Int64.ofNat d)), .second, .val (.int (Int32.ofNat sh)), .val (.int (f (w % 16)))] [(.long ((Int64.ofNat w) + (1 : Int64))), (.ref a1)])) _
      refine st109 _ ?_
      show Steps p.tables e below (T109.setTop (mkF m 32 #[.val (.ref a1), .val (.long (Int64.ofNat d)), .second, .val (.int (Int32.ofNat sh)), .val (.int (f (w % 16)))] [])) _
      refine XS.lloadN X109.here hx rfl (hb hby d7_32) rfl ?_
      show Steps p.tables e below (T109.setTop (mkF m 33 #[.val (.ref a1), .val (.long (Int64.ofNat d)), .second, .val (.int (Int32.ofNat sh)), .val (.int (f (w % 16)))] [(.long (Int64.ofNat d))])) _
      refine XS.iload X109.here hx rfl (hb hby d7_33) rfl ?_
      show Steps p.tables e below (T109.setTop (mkF m 35 #[.val (.ref a1), .val (.long (Int64.ofNat d)), .second, .val (.int (Int32.ofNat sh)), .val (.int (f (w % 16)))] [(.int (f (w % 16))), (.long (Int64.ofNat d))])) _
      refine XS.bipush X109.here hx rfl (hb hby d7_35) ?_
      show Steps p.tables e below (T109.setTop (mkF m 37 #[.val (.ref a1), .val (.long (Int64.ofNat d)), .second, .val (.int (Int32.ofNat sh)), .val (.int (f (w % 16)))] [(.int (127 : Int32)), (.int (f (w % 16))), (.long (Int64.ofNat d))])) _
      refine XS.iand X109.here hx rfl (hb hby d7_37) rfl ?_
      show Steps p.tables e below (T109.setTop (mkF m 38 #[.val (.ref a1), .val (.long (Int64.ofNat d)), .second, .val (.int (Int32.ofNat sh)), .val (.int (f (w % 16)))] [(.int ((f (w % 16)) &&& (127 : Int32))), (.long (Int64.ofNat d))])) _
      refine XS.i2l X109.here hx rfl (hb hby d7_38) rfl ?_
      show Steps p.tables e below (T109.setTop (mkF m 39 #[.val (.ref a1), .val (.long (Int64.ofNat d)), .second, .val (.int (Int32.ofNat sh)), .val (.int (f (w % 16)))] [(.long (((f (w % 16)) &&& (127 : Int32)).toInt64)), (.long (Int64.ofNat d))])) _
      refine XS.iloadN X109.here hx rfl (hb hby d7_39) rfl ?_
      show Steps p.tables e below (T109.setTop (mkF m 40 #[.val (.ref a1), .val (.long (Int64.ofNat d)), .second, .val (.int (Int32.ofNat sh)), .val (.int (f (w % 16)))] [(.int (Int32.ofNat sh)), (.long (((f (w % 16)) &&& (127 : Int32)).toInt64)), (.long (Int64.ofNat d))])) _
      refine XS.lshl X109.here hx rfl (hb hby d7_40) rfl ?_
      show Steps p.tables e below (T109.setTop (mkF m 41 #[.val (.ref a1), .val (.long (Int64.ofNat d)), .second, .val (.int (Int32.ofNat sh)), .val (.int (f (w % 16)))] [(.long ((((f (w % 16)) &&& (127 : Int32)).toInt64) <<< ((Int32.ofNat sh) &&& 0x3f).toInt64)), (.long (Int64.ofNat d))])) _
      refine XS.lor X109.here hx rfl (hb hby d7_41) rfl ?_
      show Steps p.tables e below (T109.setTop (mkF m 42 #[.val (.ref a1), .val (.long (Int64.ofNat d)), .second, .val (.int (Int32.ofNat sh)), .val (.int (f (w % 16)))] [(.long ((Int64.ofNat d) ||| ((((f (w % 16)) &&& (127 : Int32)).toInt64) <<< ((Int32.ofNat sh) &&& 0x3f).toInt64)))])) _
      refine XS.lstoreN X109.here hx rfl (hb hby d7_42) rfl (l' := #[.val (.ref a1), .val (.long ((Int64.ofNat d) ||| ((((f (w % 16)) &&& (127 : Int32)).toInt64) <<< ((Int32.ofNat sh) &&& 0x3f).toInt64))), .second, .val (.int (Int32.ofNat sh)), .val (.int (f (w % 16)))]) rfl ?_
      show Steps p.tables e below (T109.setTop (mkF m 43 #[.val (.ref a1), .val (.long ((Int64.ofNat d) ||| ((((f (w % 16)) &&& (127 : Int32)).toInt64) <<< ((Int32.ofNat sh) &&& 0x3f).toInt64))), .second, .val (.int (Int32.ofNat sh)), .val (.int (f (w % 16)))] [])) _
      refine XS.iinc X109.here hx rfl (hb hby d7_43) rfl (l' := #[.val (.ref a1), .val (.long ((Int64.ofNat d) ||| ((((f (w % 16)) &&& (127 : Int32)).toInt64) <<< ((Int32.ofNat sh) &&& 0x3f).toInt64))), .second, .val (.int ((Int32.ofNat sh) + (7 : Int32))), .val (.int (f (w % 16)))]) rfl ?_
      show Steps p.tables e below (T109.setTop (mkF m 46 #[.val (.ref a1), .val (.long ((Int64.ofNat d) ||| ((((f (w % 16)) &&& (127 : Int32)).toInt64) <<< ((Int32.ofNat sh) &&& 0x3f).toInt64))), .second, .val (.int ((Int32.ofNat sh) + (7 : Int32))), .val (.int (f (w % 16)))] [])) _
      refine XS.iload X109.here hx rfl (hb hby d7_46) rfl ?_
      show Steps p.tables e below (T109.setTop (mkF m 48 #[.val (.ref a1), .val (.long ((Int64.ofNat d) ||| ((((f (w % 16)) &&& (127 : Int32)).toInt64) <<< ((Int32.ofNat sh) &&& 0x3f).toInt64))), .second, .val (.int ((Int32.ofNat sh) + (7 : Int32))), .val (.int (f (w % 16)))] [(.int (f (w % 16)))])) _
      refine XS.ifNo X109.here hx rfl (hb hby d7_48) rfl ((if0 _ _).trans (flt (by rw [hfv]; exact own_bl0 hlt)).1) ?_
      show Steps p.tables e below (T109.setTop (mkF m 51 #[.val (.ref a1), .val (.long ((Int64.ofNat d) ||| ((((f (w % 16)) &&& (127 : Int32)).toInt64) <<< ((Int32.ofNat sh) &&& 0x3f).toInt64))), .second, .val (.int ((Int32.ofNat sh) + (7 : Int32))), .val (.int (f (w % 16)))] [])) _
      exact kt
    have hdv : ((Int64.ofNat d) ||| ((((f (w % 16)) &&& (127 : Int32)).toInt64) <<< ((Int32.ofNat sh) &&& 0x3f).toInt64)) = Int64.ofNat (d + r * 2 ^ sh) := by rw [hfv, own_bl127 hlt, own_shl (by omega) (by omega), own_or hd]
    have htv : ((Int64.ofNat w) + (1 : Int64)) = Int64.ofNat (w + 0 + 1) := own_w1 w
    refine ⟨_, _, _, _, X109, N117, by rw [e109]; exact Z119, by rw [e109]; exact K118, (by rw [e109]; exact E110), (by rw [e109]; exact F111), (by rw [e109]; exact F112), (by rw [e109]; exact F113), (by rw [e109]; exact F114), (by rw [e109]; exact own_F (congrArg Value.long htv) F115), (by rw [e109]; exact V116), fun t kt => pre120 t (by rw [hdv]; exact kt)⟩
  | succ k ih =>
    intro T0 locs hq r w d sh s4 X0 e0 N0 Z0 K0 E0 Fb0 Fm0 Flimit0 Fwritten0 Ftaking0 V0 enc h4 hd hbd hsh hwk
    have hw1 : w < 128 := by omega
    obtain ⟨hge, hfv, enc'⟩ := enc
    have pre0 : ∀ t, Steps p.tables e below (T0.setTop (mkF m 4 #[.val (.ref a1), .val (.long (Int64.ofNat d)), .second, .val (.int (Int32.ofNat sh)), s4] [])) t → Steps p.tables e below (T0.setTop (mkF m 4 #[.val (.ref a1), .val (.long (Int64.ofNat d)), .second, .val (.int (Int32.ofNat sh)), s4] [])) t := fun _ k => k
    obtain ⟨T121, X121, e121, st121⟩ := getF X0 hx hZ hown (host := "") (Or.inl (hw _ (List.mem_of_getElem? (i := 30) rfl))) Via.refl e0 Fb0 (g := (mkF m 5 #[.val (.ref a1), .val (.long (Int64.ofNat d)), .second, .val (.int (Int32.ofNat sh)), s4] [(.ref a1)])) rfl rfl (hb hby d7_5)
    obtain ⟨T122, X122, e122, st122⟩ := getF X121 hx hZ hown (host := "") (Or.inl (hw _ (List.mem_of_getElem? (i := 55) rfl))) Via.refl e121 Ftaking0 (g := (mkF m 9 #[.val (.ref a1), .val (.long (Int64.ofNat d)), .second, .val (.int (Int32.ofNat sh)), s4] [(.ref a1), (.ref b1)])) rfl rfl (hb hby d7_9)
    obtain ⟨T123, X123, e123, st123⟩ := getF X122 hx hZ hown (host := "") (Or.inl (hw _ (List.mem_of_getElem? (i := 32) rfl))) Via.refl e122 Fm0 (g := (mkF m 13 #[.val (.ref a1), .val (.long (Int64.ofNat d)), .second, .val (.int (Int32.ofNat sh)), s4] [(.ref a1), (.long (Int64.ofNat w)), (.ref b1)])) rfl rfl (hb hby d7_13)
    obtain ⟨T124, X124, e124, st124⟩ := getF X123 hx hZ hown (host := "") (Or.inl (hw _ (List.mem_of_getElem? (i := 55) rfl))) Via.refl e123 Ftaking0 (g := (mkF m 24 #[.val (.ref a1), .val (.long (Int64.ofNat d)), .second, .val (.int (Int32.ofNat sh)), .val (.int (f (w % 16)))] [(.ref a1), (.ref a1)])) rfl rfl (hb hby d7_24)
    obtain ⟨T125, h125, X125, e125, W125, st125⟩ := putF X124 hx hZ hown (host := "") (Or.inl (hw _ (List.mem_of_getElem? (i := 55) rfl))) Via.refl e124 Ftaking0 E0 (Or.inl (hw _ (List.mem_of_getElem? (i := 56) rfl))) (hw _ (List.mem_of_getElem? (i := 14) rfl)) (ty := .long) (by decide) rfl rfl (g := (mkF m 29 #[.val (.ref a1), .val (.long (Int64.ofNat d)), .second, .val (.int (Int32.ofNat sh)), .val (.int (f (w % 16)))] [(.long ((Int64.ofNat w) + (1 : Int64))), (.ref a1)])) rfl rfl (hb hby d7_29)
    have E126 := E0.wr W125
    have F127 := Fb0.other W125 (Or.inr (slot_ne (Or.inr (hw _ (List.mem_of_getElem? (i := 31) rfl))) (Or.inl (hw _ (List.mem_of_getElem? (i := 56) rfl))) (by decide) (t := (.array .byte)) (t' := .long) (by decide) (by decide)))
    have F128 := Fm0.other W125 (Or.inr (slot_ne (Or.inr (hw _ (List.mem_of_getElem? (i := 33) rfl))) (Or.inl (hw _ (List.mem_of_getElem? (i := 56) rfl))) (by decide) (t := .int) (t' := .long) (by decide) (by decide)))
    have F129 := Flimit0.other W125 (Or.inr (slot_ne (Or.inl (hw _ (List.mem_of_getElem? (i := 35) rfl))) (Or.inl (hw _ (List.mem_of_getElem? (i := 56) rfl))) (by decide) (t := .long) (t' := .long) (by decide) (by decide)))
    have F130 := Fwritten0.other W125 (Or.inr (slot_ne (Or.inl (hw _ (List.mem_of_getElem? (i := 43) rfl))) (Or.inl (hw _ (List.mem_of_getElem? (i := 56) rfl))) (by decide) (t := .long) (t' := .long) (by decide) (by decide)))
    have F131 : Fld Z h125 a1 "com/example/wee_find/weefind/HeldMatches" "taking" "J" (.long ((Int64.ofNat w) + (1 : Int64))) := Ftaking0.same W125
    have V132 := V0.other W125 ne_b1
    have N133 := Fr.snoc X125 N0 g_a1
    have K134 : Keep h0 h125 [a1] := K0.wr W125 (Or.inl (List.mem_of_getElem? (i := 0) rfl))
    have Z135 : n0 ≤ h125.size := Nat.le_trans Z0 (Keep.of_wr W125).1
    have pre136 : ∀ t, Steps p.tables e below (T125.setTop (mkF m 4 #[.val (.ref a1), .val (.long ((Int64.ofNat d) ||| ((((f (w % 16)) &&& (127 : Int32)).toInt64) <<< ((Int32.ofNat sh) &&& 0x3f).toInt64))), .second, .val (.int ((Int32.ofNat sh) + (7 : Int32))), .val (.int (f (w % 16)))] [])) t → Steps p.tables e below (T0.setTop (mkF m 4 #[.val (.ref a1), .val (.long (Int64.ofNat d)), .second, .val (.int (Int32.ofNat sh)), s4] [])) t := fun t kt => by
      refine pre0 _ ?_
      show Steps p.tables e below (T0.setTop (mkF m 4 #[.val (.ref a1), .val (.long (Int64.ofNat d)), .second, .val (.int (Int32.ofNat sh)), s4] [])) _
      refine XS.aloadN X0.here hx rfl (hb hby d7_4) rfl rfl ?_
      show Steps p.tables e below (T0.setTop (mkF m 5 #[.val (.ref a1), .val (.long (Int64.ofNat d)), .second, .val (.int (Int32.ofNat sh)), s4] [(.ref a1)])) _
      refine st121 _ ?_
      show Steps p.tables e below (T121.setTop (mkF m 8 #[.val (.ref a1), .val (.long (Int64.ofNat d)), .second, .val (.int (Int32.ofNat sh)), s4] [(.ref b1)])) _
      refine XS.aloadN X121.here hx rfl (hb hby d7_8) rfl rfl ?_
      show Steps p.tables e below (T121.setTop (mkF m 9 #[.val (.ref a1), .val (.long (Int64.ofNat d)), .second, .val (.int (Int32.ofNat sh)), s4] [(.ref a1), (.ref b1)])) _
      refine st122 _ ?_
      show Steps p.tables e below (T122.setTop (mkF m 12 #[.val (.ref a1), .val (.long (Int64.ofNat d)), .second, .val (.int (Int32.ofNat sh)), s4] [(.long (Int64.ofNat w)), (.ref b1)])) _
      refine XS.aloadN X122.here hx rfl (hb hby d7_12) rfl rfl ?_
      show Steps p.tables e below (T122.setTop (mkF m 13 #[.val (.ref a1), .val (.long (Int64.ofNat d)), .second, .val (.int (Int32.ofNat sh)), s4] [(.ref a1), (.long (Int64.ofNat w)), (.ref b1)])) _
      refine st123 _ ?_
      show Steps p.tables e below (T123.setTop (mkF m 16 #[.val (.ref a1), .val (.long (Int64.ofNat d)), .second, .val (.int (Int32.ofNat sh)), s4] [(.int (15 : Int32)), (.long (Int64.ofNat w)), (.ref b1)])) _
      refine XS.i2l X123.here hx rfl (hb hby d7_16) rfl ?_
      show Steps p.tables e below (T123.setTop (mkF m 17 #[.val (.ref a1), .val (.long (Int64.ofNat d)), .second, .val (.int (Int32.ofNat sh)), s4] [(.long ((15 : Int32).toInt64)), (.long (Int64.ofNat w)), (.ref b1)])) _
      refine XS.land X123.here hx rfl (hb hby d7_17) rfl ?_
      show Steps p.tables e below (T123.setTop (mkF m 18 #[.val (.ref a1), .val (.long (Int64.ofNat d)), .second, .val (.int (Int32.ofNat sh)), s4] [(.long ((Int64.ofNat w) &&& ((15 : Int32).toInt64))), (.ref b1)])) _
      refine XS.l2i X123.here hx rfl (hb hby d7_18) rfl ?_
      show Steps p.tables e below (T123.setTop (mkF m 19 #[.val (.ref a1), .val (.long (Int64.ofNat d)), .second, .val (.int (Int32.ofNat sh)), s4] [(.int (((Int64.ofNat w) &&& ((15 : Int32).toInt64)).toInt32)), (.ref b1)])) _
      refine own_rdB X123 hx hZ e123 V0 (j := (((Int64.ofNat w) &&& ((15 : Int32).toInt64)).toInt32)) (i := (w % 16)) (own_ix hw1) (own_m16 w) (g := (mkF m 19 #[.val (.ref a1), .val (.long (Int64.ofNat d)), .second, .val (.int (Int32.ofNat sh)), s4] [(.int (((Int64.ofNat w) &&& ((15 : Int32).toInt64)).toInt32)), (.ref b1)])) rfl rfl (hb hby d7_19) _ ?_
      show Steps p.tables e below (T123.setTop (mkF m 20 #[.val (.ref a1), .val (.long (Int64.ofNat d)), .second, .val (.int (Int32.ofNat sh)), s4] [(.int (f (w % 16)))])) _
      refine XS.istore X123.here hx rfl (hb hby d7_20) rfl (l' := #[.val (.ref a1), .val (.long (Int64.ofNat d)), .second, .val (.int (Int32.ofNat sh)), .val (.int (f (w % 16)))]) (own_os h4) ?_
      show Steps p.tables e below (T123.setTop (mkF m 22 #[.val (.ref a1), .val (.long (Int64.ofNat d)), .second, .val (.int (Int32.ofNat sh)), .val (.int (f (w % 16)))] [])) _
      refine XS.aloadN X123.here hx rfl (hb hby d7_22) rfl rfl ?_
      show Steps p.tables e below (T123.setTop (mkF m 23 #[.val (.ref a1), .val (.long (Int64.ofNat d)), .second, .val (.int (Int32.ofNat sh)), .val (.int (f (w % 16)))] [(.ref a1)])) _
      refine XS.dup X123.here hx rfl (hb hby d7_23) rfl rfl ?_
      show Steps p.tables e below (T123.setTop (mkF m 24 #[.val (.ref a1), .val (.long (Int64.ofNat d)), .second, .val (.int (Int32.ofNat sh)), .val (.int (f (w % 16)))] [(.ref a1), (.ref a1)])) _
      refine st124 _ ?_
      show Steps p.tables e below (T124.setTop (mkF m 27 #[.val (.ref a1), .val (.long (Int64.ofNat d)), .second, .val (.int (Int32.ofNat sh)), .val (.int (f (w % 16)))] [(.long (Int64.ofNat w)), (.ref a1)])) _
      refine XS.lconst X124.here hx rfl (hb hby d7_27) ?_
      show Steps p.tables e below (T124.setTop (mkF m 28 #[.val (.ref a1), .val (.long (Int64.ofNat d)), .second, .val (.int (Int32.ofNat sh)), .val (.int (f (w % 16)))] [(.long (1 : Int64)), (.long (Int64.ofNat w)), (.ref a1)])) _
      refine XS.ladd X124.here hx rfl (hb hby d7_28) rfl ?_
      show Steps p.tables e below (T124.setTop (mkF m 29 #[.val (.ref a1), .val (.long (Int64.ofNat d)), .second, .val (.int (Int32.ofNat sh)), .val (.int (f (w % 16)))] [(.long ((Int64.ofNat w) + (1 : Int64))), (.ref a1)])) _
      refine st125 _ ?_
      show Steps p.tables e below (T125.setTop (mkF m 32 #[.val (.ref a1), .val (.long (Int64.ofNat d)), .second, .val (.int (Int32.ofNat sh)), .val (.int (f (w % 16)))] [])) _
      refine XS.lloadN X125.here hx rfl (hb hby d7_32) rfl ?_
      show Steps p.tables e below (T125.setTop (mkF m 33 #[.val (.ref a1), .val (.long (Int64.ofNat d)), .second, .val (.int (Int32.ofNat sh)), .val (.int (f (w % 16)))] [(.long (Int64.ofNat d))])) _
      refine XS.iload X125.here hx rfl (hb hby d7_33) rfl ?_
      show Steps p.tables e below (T125.setTop (mkF m 35 #[.val (.ref a1), .val (.long (Int64.ofNat d)), .second, .val (.int (Int32.ofNat sh)), .val (.int (f (w % 16)))] [(.int (f (w % 16))), (.long (Int64.ofNat d))])) _
      refine XS.bipush X125.here hx rfl (hb hby d7_35) ?_
      show Steps p.tables e below (T125.setTop (mkF m 37 #[.val (.ref a1), .val (.long (Int64.ofNat d)), .second, .val (.int (Int32.ofNat sh)), .val (.int (f (w % 16)))] [(.int (127 : Int32)), (.int (f (w % 16))), (.long (Int64.ofNat d))])) _
      refine XS.iand X125.here hx rfl (hb hby d7_37) rfl ?_
      show Steps p.tables e below (T125.setTop (mkF m 38 #[.val (.ref a1), .val (.long (Int64.ofNat d)), .second, .val (.int (Int32.ofNat sh)), .val (.int (f (w % 16)))] [(.int ((f (w % 16)) &&& (127 : Int32))), (.long (Int64.ofNat d))])) _
      refine XS.i2l X125.here hx rfl (hb hby d7_38) rfl ?_
      show Steps p.tables e below (T125.setTop (mkF m 39 #[.val (.ref a1), .val (.long (Int64.ofNat d)), .second, .val (.int (Int32.ofNat sh)), .val (.int (f (w % 16)))] [(.long (((f (w % 16)) &&& (127 : Int32)).toInt64)), (.long (Int64.ofNat d))])) _
      refine XS.iloadN X125.here hx rfl (hb hby d7_39) rfl ?_
      show Steps p.tables e below (T125.setTop (mkF m 40 #[.val (.ref a1), .val (.long (Int64.ofNat d)), .second, .val (.int (Int32.ofNat sh)), .val (.int (f (w % 16)))] [(.int (Int32.ofNat sh)), (.long (((f (w % 16)) &&& (127 : Int32)).toInt64)), (.long (Int64.ofNat d))])) _
      refine XS.lshl X125.here hx rfl (hb hby d7_40) rfl ?_
      show Steps p.tables e below (T125.setTop (mkF m 41 #[.val (.ref a1), .val (.long (Int64.ofNat d)), .second, .val (.int (Int32.ofNat sh)), .val (.int (f (w % 16)))] [(.long ((((f (w % 16)) &&& (127 : Int32)).toInt64) <<< ((Int32.ofNat sh) &&& 0x3f).toInt64)), (.long (Int64.ofNat d))])) _
      refine XS.lor X125.here hx rfl (hb hby d7_41) rfl ?_
      show Steps p.tables e below (T125.setTop (mkF m 42 #[.val (.ref a1), .val (.long (Int64.ofNat d)), .second, .val (.int (Int32.ofNat sh)), .val (.int (f (w % 16)))] [(.long ((Int64.ofNat d) ||| ((((f (w % 16)) &&& (127 : Int32)).toInt64) <<< ((Int32.ofNat sh) &&& 0x3f).toInt64)))])) _
      refine XS.lstoreN X125.here hx rfl (hb hby d7_42) rfl (l' := #[.val (.ref a1), .val (.long ((Int64.ofNat d) ||| ((((f (w % 16)) &&& (127 : Int32)).toInt64) <<< ((Int32.ofNat sh) &&& 0x3f).toInt64))), .second, .val (.int (Int32.ofNat sh)), .val (.int (f (w % 16)))]) rfl ?_
      show Steps p.tables e below (T125.setTop (mkF m 43 #[.val (.ref a1), .val (.long ((Int64.ofNat d) ||| ((((f (w % 16)) &&& (127 : Int32)).toInt64) <<< ((Int32.ofNat sh) &&& 0x3f).toInt64))), .second, .val (.int (Int32.ofNat sh)), .val (.int (f (w % 16)))] [])) _
      refine XS.iinc X125.here hx rfl (hb hby d7_43) rfl (l' := #[.val (.ref a1), .val (.long ((Int64.ofNat d) ||| ((((f (w % 16)) &&& (127 : Int32)).toInt64) <<< ((Int32.ofNat sh) &&& 0x3f).toInt64))), .second, .val (.int ((Int32.ofNat sh) + (7 : Int32))), .val (.int (f (w % 16)))]) rfl ?_
      show Steps p.tables e below (T125.setTop (mkF m 46 #[.val (.ref a1), .val (.long ((Int64.ofNat d) ||| ((((f (w % 16)) &&& (127 : Int32)).toInt64) <<< ((Int32.ofNat sh) &&& 0x3f).toInt64))), .second, .val (.int ((Int32.ofNat sh) + (7 : Int32))), .val (.int (f (w % 16)))] [])) _
      refine XS.iload X125.here hx rfl (hb hby d7_46) rfl ?_
      show Steps p.tables e below (T125.setTop (mkF m 48 #[.val (.ref a1), .val (.long ((Int64.ofNat d) ||| ((((f (w % 16)) &&& (127 : Int32)).toInt64) <<< ((Int32.ofNat sh) &&& 0x3f).toInt64))), .second, .val (.int ((Int32.ofNat sh) + (7 : Int32))), .val (.int (f (w % 16)))] [(.int (f (w % 16)))])) _
      refine XS.ifYes X125.here hx rfl (pc0 := 48) (pc' := 4) rfl (hb hby d7_48) rfl ((if0 _ _).trans (tlt (by rw [hfv]; exact own_bc0 r)).1) (by decide) (by decide) ?_
      show Steps p.tables e below (T125.setTop (mkF m 4 #[.val (.ref a1), .val (.long ((Int64.ofNat d) ||| ((((f (w % 16)) &&& (127 : Int32)).toInt64) <<< ((Int32.ofNat sh) &&& 0x3f).toInt64))), .second, .val (.int ((Int32.ofNat sh) + (7 : Int32))), .val (.int (f (w % 16)))] [])) _
      exact kt
    have hdv : ((Int64.ofNat d) ||| ((((f (w % 16)) &&& (127 : Int32)).toInt64) <<< ((Int32.ofNat sh) &&& 0x3f).toInt64)) = Int64.ofNat (d + (r % 128) * 2 ^ sh) := by rw [hfv, own_bc127, own_shl (by omega) (own_lz hbd), own_or hd]
    have htv : ((Int64.ofNat w) + (1 : Int64)) = Int64.ofNat (w + 1) := own_w1 w
    have hsv : ((Int32.ofNat sh) + (7 : Int32)) = Int32.ofNat (sh + 7) := own_s7 sh
    obtain ⟨T', L', i3, i4, X', N', Z', K', y0, y1, y2, y3, y4, y5, y6, st⟩ := ih T125 _ _ (r / 128) (w + 1) (d + (r % 128) * 2 ^ sh) (sh + 7) _ X125 e125 N133 Z135 K134 E126 F127 F128 F129 F130 (own_F (congrArg Value.long htv) F131) V132 enc' (One.val (w := (.int (f (w % 16)))) rfl) (own_d7 hd) (by rw [own_p7]; exact hbd) (by omega) (by omega)
    rw [own_p7, ← hdv, ← hsv] at st
    have hk : w + 1 + k + 1 = w + (k + 1) + 1 := by omega
    exact ⟨T', L', i3, i4, X', N', Z', K', y0, y1, y2, y3, y4, (hk ▸ y5), y6, fun t kt => pre136 t (st t kt)⟩
theorem ef_7 (m : MethodId) (a0 : Addr) : entryFrame m #[(.ref a0)] 5 = mkF m 0 #[.val (.ref a0), .unset, .unset, .unset, .unset] [] := by first | (simp [entryFrame, mkF, argsToLocals, Value.category]; done) | rfl
def Q7 (Z : State) (a0 : Addr) (b1 : Addr) (k : Nat) (r : Nat) (w : Nat) (f : Nat → Int32) (u_limit : Int64) (u_written : Int64) (h0 : Heap) (n0 : Nat) (v : Option Value) (h : Heap) (L : List Loc) : Prop := v = some (.long (Int64.ofNat r)) ∧ Fr n0 L ∧ Keep h0 h [a0] ∧ Exa Z h a0 "com/example/wee_find/weefind/HeldMatches" ∧ Fld Z h a0 "com/example/wee_find/weefind/HeldMatches" "bytes" "[B" (.ref b1) ∧ Fld Z h a0 "com/example/wee_find/weefind/HeldMatches" "mask" "I" (.int (15 : Int32)) ∧ Fld Z h a0 "com/example/wee_find/weefind/HeldMatches" "limit" "J" (.long u_limit) ∧ Fld Z h a0 "com/example/wee_find/weefind/HeldMatches" "written" "J" (.long u_written) ∧ Fld Z h a0 "com/example/wee_find/weefind/HeldMatches" "taking" "J" (.long (Int64.ofNat (w + k + 1))) ∧ own_Ar Z h b1 .byte 16 f
set_option maxRecDepth 65536 in
set_option maxHeartbeats 40000000 in
theorem rm7 (l : Launch) (Z : State) (aq : Array Value) (hw : ∀ d ∈ tables_1, d.before aq Z = true) (ws : List Jvm.Cond) (a0 : Addr) (b1 : Addr) (k : Nat) (r : Nat) (w : Nat) (f : Nat → Int32) (u_limit : Int64) (u_written : Int64) (h0 : Heap) (n0 : Nat) (Z0 : n0 ≤ h0.size) (E_ : Exa Z h0 a0 "com/example/wee_find/weefind/HeldMatches") (Fb_ : Fld Z h0 a0 "com/example/wee_find/weefind/HeldMatches" "bytes" "[B" (.ref b1)) (Fm_ : Fld Z h0 a0 "com/example/wee_find/weefind/HeldMatches" "mask" "I" (.int (15 : Int32))) (Flimit_ : Fld Z h0 a0 "com/example/wee_find/weefind/HeldMatches" "limit" "J" (.long u_limit)) (Fwritten_ : Fld Z h0 a0 "com/example/wee_find/weefind/HeldMatches" "written" "J" (.long u_written)) (Ftaking_ : Fld Z h0 a0 "com/example/wee_find/weefind/HeldMatches" "taking" "J" (.long (Int64.ofNat w))) (V_ : own_Ar Z h0 b1 .byte 16 f) (g_a0 : n0 ≤ a0) (ne_b1 : b1 ≠ a0) (enc : own_Enc f k w r) (hr : r < 2 ^ 63) (hk8 : k ≤ 8) (hwk : w + k < 100) :
    MetFree l (⟨"com/example/wee_find/weefind/HeldMatches", "take", "()J"⟩ : MethodName) (head1 (Jvm.Cond.code (⟨"com/example/wee_find/weefind/HeldMatches", "take", "()J"⟩ : MethodName) prog_24_method_5_code 5 (some .long) :: ws) ({ frames := 0, cells := 0, slots := 0, locals := 0 } : Room)) (fun a U => a = #[(.ref a0)] ∧ Z.Warmed39 U.vm ∧ U.heap = h0) (fun _ _ _ _ _ => True) (fun _ U o U' => ∃ v L, o = .returned v ∧ Q7 Z a0 b1 k r w f u_limit u_written h0 n0 v U'.heap L ∧ FrameEnd U o U' L ({ frames := 0, cells := 0, slots := 0, locals := 0 } : Room).cells ({ frames := 0, cells := 0, slots := 0, locals := 0 } : Room).slots) := by
  refine MetFree.of_bodySF (plainFor_of_name pn46195025) hisR ?_
  intro p e s m args below meth c s₁ Bd hml0 hP hK
  obtain ⟨rfl, hZ, hh⟩ := hP
  have hx := Bd.exec
  have hby := Bd.bytes
  have hml : c.maxLocals = 5 := hml0
  have hown : s.vm.findClass "com/example/wee_find/weefind/HeldMatches" = some m.cls := findClass_of_methodNamed Bd.named
  have hnm := (name_of_methodNamed Bd.named Bd.method).1
  have X0 : Stand p l e ({ frames := 0, cells := 0, slots := 0, locals := 0 } : Room) s m #[(.ref a0)] below meth c s₁ [] 0 0 := Stand.of_body Bd
  have e0 : s₁.heap = h0 := by rw [← hh, Bd.state]; rfl
  have N0 := Fr.nil n0
  have K0 : Keep h0 h0 [a0] := Keep.refl _ _
  have pre0 : ∀ t, Steps p.tables e below (s₁.setTop (mkF m 0 #[.val (.ref a0), .unset, .unset, .unset, .unset] [])) t → Steps p.tables e below (s₁.setTop (entryFrame m #[(.ref a0)] 5)) t := fun t k => castTop (ef_7 m a0) k
  have pre137 : ∀ t, Steps p.tables e below (s₁.setTop (mkF m 4 #[.val (.ref a0), .val (.long (0 : Int64)), .second, .val (.int (0 : Int32)), .unset] [])) t → Steps p.tables e below (s₁.setTop (entryFrame m #[(.ref a0)] 5)) t := fun t kt => by
    refine pre0 _ ?_
    show Steps p.tables e below (s₁.setTop (mkF m 0 #[.val (.ref a0), .unset, .unset, .unset, .unset] [])) _
    refine XS.lconst X0.here hx rfl (hb hby d7_0) ?_
    show Steps p.tables e below (s₁.setTop (mkF m 1 #[.val (.ref a0), .unset, .unset, .unset, .unset] [(.long (0 : Int64))])) _
    refine XS.lstoreN X0.here hx rfl (hb hby d7_1) rfl (l' := #[.val (.ref a0), .val (.long (0 : Int64)), .second, .unset, .unset]) rfl ?_
    show Steps p.tables e below (s₁.setTop (mkF m 2 #[.val (.ref a0), .val (.long (0 : Int64)), .second, .unset, .unset] [])) _
    refine XS.iconst X0.here hx rfl (hb hby d7_2) ?_
    show Steps p.tables e below (s₁.setTop (mkF m 3 #[.val (.ref a0), .val (.long (0 : Int64)), .second, .unset, .unset] [(.int (0 : Int32))])) _
    refine XS.istoreN X0.here hx rfl (hb hby d7_3) rfl (l' := #[.val (.ref a0), .val (.long (0 : Int64)), .second, .val (.int (0 : Int32)), .unset]) rfl ?_
    show Steps p.tables e below (s₁.setTop (mkF m 4 #[.val (.ref a0), .val (.long (0 : Int64)), .second, .val (.int (0 : Int32)), .unset] [])) _
    exact kt
  obtain ⟨T', L', i3, i4, X', N', Z', K', y0, y1, y2, y3, y4, y5, y6, st⟩ := lpt hx hZ hw hby hml hown g_a0 ne_b1 k s₁ _ _ r w 0 0 .unset X0 e0 N0 Z0 K0 E_ Fb_ Fm_ Flimit_ Fwritten_ Ftaking_ V_ enc One.u (by decide) (by rw [own_r0]; exact hr) (by omega) hwk
  rw [own_r0] at st
  have pre138 : ∀ t, Steps p.tables e below (T'.setTop (mkF m 51 #[.val (.ref a0), .val (.long (Int64.ofNat r)), .second, .val (.int i3), .val (.int i4)] [])) t → Steps p.tables e below (s₁.setTop (entryFrame m #[(.ref a0)] 5)) t := fun t kt => pre137 t (st t kt)
  have pre139 : ∀ t, Steps p.tables e below (T'.setTop (mkF m 52 #[.val (.ref a0), .val (.long (Int64.ofNat r)), .second, .val (.int i3), .val (.int i4)] [(.long (Int64.ofNat r))])) t → Steps p.tables e below (s₁.setTop (entryFrame m #[(.ref a0)] 5)) t := fun t kt => by
    refine pre138 _ ?_
    show Steps p.tables e below (T'.setTop (mkF m 51 #[.val (.ref a0), .val (.long (Int64.ofNat r)), .second, .val (.int i3), .val (.int i4)] [])) _
    refine XS.lloadN X'.here hx rfl (hb hby d7_51) rfl ?_
    show Steps p.tables e below (T'.setTop (mkF m 52 #[.val (.ref a0), .val (.long (Int64.ofNat r)), .second, .val (.int i3), .val (.int i4)] [(.long (Int64.ofNat r))])) _
    exact kt
  obtain ⟨fs, hr, hrun, hended, hW, hsame⟩ := X'.leave (v := some (.long (Int64.ofNat r))) (fun h => by rw [Bd.returns] at h; cases h)
  refine ⟨_, _, pre139 _ ?_, hrun, hended, _, _, rfl, ?_, ⟨_, rfl⟩, hW, hsame.mono (by decide) (by decide)⟩
  · jvm_step X'.here [X'.here.top, hx, (hb hby d7_52), X'.method', Bd.returns, narrow]
    first | (intro acts; rw [hr _ acts rfl rfl rfl]) | rw [hr _ _ rfl rfl rfl]
    exact Steps.refl _
  · show Q7 Z a0 b1 k r w f u_limit u_written h0 n0 _ T'.heap _
    exact ⟨rfl, N', K', y0, y1, y2, y3, y4, y5, y6⟩
theorem d6_0 : decode prog_24_method_2_code 0 = .ok (.aload_n 0, 1) := by decide +kernel
theorem d6_1 : decode prog_24_method_2_code 1 = .ok (.getfield 36, 3) := by decide +kernel
theorem d6_4 : decode prog_24_method_2_code 4 = .ok (.ldc2_w 39, 3) := by decide +kernel
theorem d6_7 : decode prog_24_method_2_code 7 = .ok (.ladd, 1) := by decide +kernel
theorem d6_8 : decode prog_24_method_2_code 8 = .ok (.aload_n 0, 1) := by decide +kernel
theorem d6_9 : decode prog_24_method_2_code 9 = .ok (.getfield 32, 3) := by decide +kernel
theorem d6_12 : decode prog_24_method_2_code 12 = .ok (.lcmp, 1) := by decide +kernel
theorem d6_13 : decode prog_24_method_2_code 13 = .ok (.ifCond .gt 7, 3) := by decide +kernel
theorem d6_16 : decode prog_24_method_2_code 16 = .ok (.iconst 1, 1) := by decide +kernel
theorem d6_17 : decode prog_24_method_2_code 17 = .ok (.goto 4, 3) := by decide +kernel
theorem d6_20 : decode prog_24_method_2_code 20 = .ok (.iconst 0, 1) := by decide +kernel
theorem d6_21 : decode prog_24_method_2_code 21 = .ok (.ireturn, 1) := by decide +kernel
theorem ef_6 (m : MethodId) (a0 : Addr) : entryFrame m #[(.ref a0)] 1 = mkF m 0 #[.val (.ref a0)] [] := by first | (simp [entryFrame, mkF, argsToLocals, Value.category]; done) | rfl
def Q6 (Z : State) (a0 : Addr) (r_b : Addr) (u_mask : Int32) (u_limit : Int64) (u_written : Int64) (u_taking : Int64) (h0 : Heap) (n0 : Nat) (v : Option Value) (h : Heap) (L : List Loc) : Prop := v = some (.int (if u_limit < (u_written + (10 : Int64)) then (0 : Int32) else (1 : Int32))) ∧ Fr n0 L ∧ h = h0
set_option maxRecDepth 65536 in
set_option maxHeartbeats 40000000 in
theorem rm6 (l : Launch) (Z : State) (aq : Array Value) (hw : ∀ d ∈ tables_1, d.before aq Z = true) (ws : List Jvm.Cond) (a0 : Addr) (r_b : Addr) (u_mask : Int32) (u_limit : Int64) (u_written : Int64) (u_taking : Int64) (h0 : Heap) (n0 : Nat) (Z0 : n0 ≤ h0.size) (E_a0 : Exa Z h0 a0 "com/example/wee_find/weefind/HeldMatches") (F_bytes : Fld Z h0 a0 "com/example/wee_find/weefind/HeldMatches" "bytes" "[B" (.ref r_b)) (F_mask : Fld Z h0 a0 "com/example/wee_find/weefind/HeldMatches" "mask" "I" (.int u_mask)) (F_limit : Fld Z h0 a0 "com/example/wee_find/weefind/HeldMatches" "limit" "J" (.long u_limit)) (F_written : Fld Z h0 a0 "com/example/wee_find/weefind/HeldMatches" "written" "J" (.long u_written)) (F_taking : Fld Z h0 a0 "com/example/wee_find/weefind/HeldMatches" "taking" "J" (.long u_taking)) :
    MetFree l (⟨"com/example/wee_find/weefind/HeldMatches", "fits", "()Z"⟩ : MethodName) (head1 (Jvm.Cond.code (⟨"com/example/wee_find/weefind/HeldMatches", "fits", "()Z"⟩ : MethodName) prog_24_method_2_code 1 (some .boolean) :: ws) ({ frames := 0, cells := 0, slots := 0, locals := 0 } : Room)) (fun a U => a = #[(.ref a0)] ∧ Z.Warmed39 U.vm ∧ U.heap = h0) (fun _ _ _ _ _ => True) (fun _ U o U' => ∃ v L, o = .returned v ∧ Q6 Z a0 r_b u_mask u_limit u_written u_taking h0 n0 v U'.heap L ∧ FrameEnd U o U' L ({ frames := 0, cells := 0, slots := 0, locals := 0 } : Room).cells ({ frames := 0, cells := 0, slots := 0, locals := 0 } : Room).slots) := by
  refine MetFree.of_bodySF (plainFor_of_name pn46195025) hisR ?_
  intro p e s m args below meth c s₁ Bd hml0 hP hK
  obtain ⟨rfl, hZ, hh⟩ := hP
  have hx := Bd.exec
  have hby := Bd.bytes
  have hml : c.maxLocals = 1 := hml0
  have hown : s.vm.findClass "com/example/wee_find/weefind/HeldMatches" = some m.cls := findClass_of_methodNamed Bd.named
  have hnm := (name_of_methodNamed Bd.named Bd.method).1
  have X0 : Stand p l e ({ frames := 0, cells := 0, slots := 0, locals := 0 } : Room) s m #[(.ref a0)] below meth c s₁ [] 0 0 := Stand.of_body Bd
  have e0 : s₁.heap = h0 := by rw [← hh, Bd.state]; rfl
  have N0 := Fr.nil n0
  have pre0 : ∀ t, Steps p.tables e below (s₁.setTop (mkF m 0 #[.val (.ref a0)] [])) t → Steps p.tables e below (s₁.setTop (entryFrame m #[(.ref a0)] 1)) t := fun t k => castTop (ef_6 m a0) k
  obtain ⟨T144, X144, e144, st144⟩ := getF X0 hx hZ hown (host := "") (Or.inl (hw _ (List.mem_of_getElem? (i := 42) rfl))) Via.refl e0 F_written (g := (mkF m 1 #[.val (.ref a0)] [(.ref a0)])) rfl rfl (hb hby d6_1)
  obtain ⟨T145, X145, e145, st145⟩ := getF X144 hx hZ hown (host := "") (Or.inl (hw _ (List.mem_of_getElem? (i := 34) rfl))) Via.refl e144 F_limit (g := (mkF m 9 #[.val (.ref a0)] [(.ref a0), (.long (u_written + (10 : Int64)))])) rfl rfl (hb hby d6_9)
  have pre146 : ∀ t, Steps p.tables e below (T145.setTop (mkF m 13 #[.val (.ref a0)] [(.int (lcmpW (u_written + (10 : Int64)) u_limit))])) t → Steps p.tables e below (s₁.setTop (entryFrame m #[(.ref a0)] 1)) t := fun t kt => by
    refine pre0 _ ?_
    show Steps p.tables e below (s₁.setTop (mkF m 0 #[.val (.ref a0)] [])) _
    refine XS.aloadN X0.here hx rfl (hb hby d6_0) rfl rfl ?_
    show Steps p.tables e below (s₁.setTop (mkF m 1 #[.val (.ref a0)] [(.ref a0)])) _
    refine st144 _ ?_
    show Steps p.tables e below (T144.setTop (mkF m 4 #[.val (.ref a0)] [(.long u_written)])) _
    refine X144.ldc2Long hx hown (mvT hZ (hw _ (List.mem_of_getElem? (i := 49) rfl))) (g := (mkF m 4 #[.val (.ref a0)] [(.long u_written)])) rfl (hb hby d6_4) _ ?_
    show Steps p.tables e below (T144.setTop (mkF m 7 #[.val (.ref a0)] [(.long (10 : Int64)), (.long u_written)])) _
    refine XS.ladd X144.here hx rfl (hb hby d6_7) rfl ?_
    show Steps p.tables e below (T144.setTop (mkF m 8 #[.val (.ref a0)] [(.long (u_written + (10 : Int64)))])) _
    refine XS.aloadN X144.here hx rfl (hb hby d6_8) rfl rfl ?_
    show Steps p.tables e below (T144.setTop (mkF m 9 #[.val (.ref a0)] [(.ref a0), (.long (u_written + (10 : Int64)))])) _
    refine st145 _ ?_
    show Steps p.tables e below (T145.setTop (mkF m 12 #[.val (.ref a0)] [(.long u_limit), (.long (u_written + (10 : Int64)))])) _
    refine XS.lcmp X145.here hx rfl (hb hby d6_12) rfl ?_
    show Steps p.tables e below (T145.setTop (mkF m 13 #[.val (.ref a0)] [(.int (lcmpW (u_written + (10 : Int64)) u_limit))])) _
    exact kt
  by_cases hc147 : u_limit < (u_written + (10 : Int64))
  · skip
    have pre148 : ∀ t, Steps p.tables e below (T145.setTop (mkF m 21 #[.val (.ref a0)] [(.int (0 : Int32))])) t → Steps p.tables e below (s₁.setTop (entryFrame m #[(.ref a0)] 1)) t := fun t kt => by
      refine pre146 _ ?_
      show Steps p.tables e below (T145.setTop (mkF m 13 #[.val (.ref a0)] [(.int (lcmpW (u_written + (10 : Int64)) u_limit))])) _
      refine XS.ifYes X145.here hx rfl (pc0 := 13) (pc' := 20) rfl (hb hby d6_13) rfl ((if0 _ _).trans (tlt (own_lwG hc147)).2.2.1) (by decide) (by decide) ?_
      show Steps p.tables e below (T145.setTop (mkF m 20 #[.val (.ref a0)] [])) _
      refine XS.iconst X145.here hx rfl (hb hby d6_20) ?_
      show Steps p.tables e below (T145.setTop (mkF m 21 #[.val (.ref a0)] [(.int (0 : Int32))])) _
      exact kt
    obtain ⟨fs, hr, hrun, hended, hW, hsame⟩ := X145.leave (v := some (.int (0 : Int32))) (fun h => by rw [Bd.returns] at h; cases h)
    refine ⟨_, _, pre148 _ ?_, hrun, hended, _, _, rfl, ?_, ⟨_, rfl⟩, hW, hsame.mono (by decide) (by decide)⟩
    · exact retN X145 hx (t := .boolean) Bd.returns (by simp) (hb hby d6_21) hr
    · show Q6 Z a0 r_b u_mask u_limit u_written u_taking h0 n0 _ T145.heap _
      rw [e145]
      exact ⟨(own_rI (by rw [if_pos hc147] : (0 : Int32) = (if u_limit < (u_written + (10 : Int64)) then (0 : Int32) else (1 : Int32)))), N0, rfl⟩
  · skip
    have pre149 : ∀ t, Steps p.tables e below (T145.setTop (mkF m 21 #[.val (.ref a0)] [(.int (1 : Int32))])) t → Steps p.tables e below (s₁.setTop (entryFrame m #[(.ref a0)] 1)) t := fun t kt => by
      refine pre146 _ ?_
      show Steps p.tables e below (T145.setTop (mkF m 13 #[.val (.ref a0)] [(.int (lcmpW (u_written + (10 : Int64)) u_limit))])) _
      refine XS.ifNo X145.here hx rfl (hb hby d6_13) rfl ((if0 _ _).trans (flt (own_lwH hc147)).2.2.1) ?_
      show Steps p.tables e below (T145.setTop (mkF m 16 #[.val (.ref a0)] [])) _
      refine XS.iconst X145.here hx rfl (hb hby d6_16) ?_
      show Steps p.tables e below (T145.setTop (mkF m 17 #[.val (.ref a0)] [(.int (1 : Int32))])) _
      refine XS.goto X145.here hx rfl (pc0 := 17) (pc' := 21) rfl (hb hby d6_17) (by decide) (by decide) ?_
      show Steps p.tables e below (T145.setTop (mkF m 21 #[.val (.ref a0)] [(.int (1 : Int32))])) _
      exact kt
    obtain ⟨fs, hr, hrun, hended, hW, hsame⟩ := X145.leave (v := some (.int (1 : Int32))) (fun h => by rw [Bd.returns] at h; cases h)
    refine ⟨_, _, pre149 _ ?_, hrun, hended, _, _, rfl, ?_, ⟨_, rfl⟩, hW, hsame.mono (by decide) (by decide)⟩
    · exact retN X145 hx (t := .boolean) Bd.returns (by simp) (hb hby d6_21) hr
    · show Q6 Z a0 r_b u_mask u_limit u_written u_taking h0 n0 _ T145.heap _
      rw [e145]
      exact ⟨(own_rI (by rw [if_neg hc147] : (1 : Int32) = (if u_limit < (u_written + (10 : Int64)) then (0 : Int32) else (1 : Int32)))), N0, rfl⟩
def own_ct (c x : Int64) (n : Int32) : Int32 := if x < c then n else n + (1 : Int32)
def own_cnt (x : Int64) : Int32 := (own_ct (72057594037927936 : Int64) x (own_ct (562949953421312 : Int64) x (own_ct (4398046511104 : Int64) x (own_ct (34359738368 : Int64) x (own_ct (268435456 : Int64) x (own_ct (2097152 : Int64) x (own_ct (16384 : Int64) x (own_ct (128 : Int64) x (1 : Int32)))))))))
theorem d1_0 : decode method_2_code 0 = .ok (.iconst 1, 1) := by decide +kernel
theorem d1_1 : decode method_2_code 1 = .ok (.istore_n 2, 1) := by decide +kernel
theorem d1_2 : decode method_2_code 2 = .ok (.lload_n 0, 1) := by decide +kernel
theorem d1_3 : decode method_2_code 3 = .ok (.ldc2_w 7, 3) := by decide +kernel
theorem d1_6 : decode method_2_code 6 = .ok (.lcmp, 1) := by decide +kernel
theorem d1_7 : decode method_2_code 7 = .ok (.ifCond .lt 6, 3) := by decide +kernel
theorem d1_10 : decode method_2_code 10 = .ok (.iinc 2 1, 3) := by decide +kernel
theorem d1_13 : decode method_2_code 13 = .ok (.lload_n 0, 1) := by decide +kernel
theorem d1_14 : decode method_2_code 14 = .ok (.ldc2_w 9, 3) := by decide +kernel
theorem d1_17 : decode method_2_code 17 = .ok (.lcmp, 1) := by decide +kernel
theorem d1_18 : decode method_2_code 18 = .ok (.ifCond .lt 6, 3) := by decide +kernel
theorem d1_21 : decode method_2_code 21 = .ok (.iinc 2 1, 3) := by decide +kernel
theorem d1_24 : decode method_2_code 24 = .ok (.lload_n 0, 1) := by decide +kernel
theorem d1_25 : decode method_2_code 25 = .ok (.ldc2_w 11, 3) := by decide +kernel
theorem d1_28 : decode method_2_code 28 = .ok (.lcmp, 1) := by decide +kernel
theorem d1_29 : decode method_2_code 29 = .ok (.ifCond .lt 6, 3) := by decide +kernel
theorem d1_32 : decode method_2_code 32 = .ok (.iinc 2 1, 3) := by decide +kernel
theorem d1_35 : decode method_2_code 35 = .ok (.lload_n 0, 1) := by decide +kernel
theorem d1_36 : decode method_2_code 36 = .ok (.ldc2_w 13, 3) := by decide +kernel
theorem d1_39 : decode method_2_code 39 = .ok (.lcmp, 1) := by decide +kernel
theorem d1_40 : decode method_2_code 40 = .ok (.ifCond .lt 6, 3) := by decide +kernel
theorem d1_43 : decode method_2_code 43 = .ok (.iinc 2 1, 3) := by decide +kernel
theorem d1_46 : decode method_2_code 46 = .ok (.lload_n 0, 1) := by decide +kernel
theorem d1_47 : decode method_2_code 47 = .ok (.ldc2_w 15, 3) := by decide +kernel
theorem d1_50 : decode method_2_code 50 = .ok (.lcmp, 1) := by decide +kernel
theorem d1_51 : decode method_2_code 51 = .ok (.ifCond .lt 6, 3) := by decide +kernel
theorem d1_54 : decode method_2_code 54 = .ok (.iinc 2 1, 3) := by decide +kernel
theorem d1_57 : decode method_2_code 57 = .ok (.lload_n 0, 1) := by decide +kernel
theorem d1_58 : decode method_2_code 58 = .ok (.ldc2_w 17, 3) := by decide +kernel
theorem d1_61 : decode method_2_code 61 = .ok (.lcmp, 1) := by decide +kernel
theorem d1_62 : decode method_2_code 62 = .ok (.ifCond .lt 6, 3) := by decide +kernel
theorem d1_65 : decode method_2_code 65 = .ok (.iinc 2 1, 3) := by decide +kernel
theorem d1_68 : decode method_2_code 68 = .ok (.lload_n 0, 1) := by decide +kernel
theorem d1_69 : decode method_2_code 69 = .ok (.ldc2_w 19, 3) := by decide +kernel
theorem d1_72 : decode method_2_code 72 = .ok (.lcmp, 1) := by decide +kernel
theorem d1_73 : decode method_2_code 73 = .ok (.ifCond .lt 6, 3) := by decide +kernel
theorem d1_76 : decode method_2_code 76 = .ok (.iinc 2 1, 3) := by decide +kernel
theorem d1_79 : decode method_2_code 79 = .ok (.lload_n 0, 1) := by decide +kernel
theorem d1_80 : decode method_2_code 80 = .ok (.ldc2_w 21, 3) := by decide +kernel
theorem d1_83 : decode method_2_code 83 = .ok (.lcmp, 1) := by decide +kernel
theorem d1_84 : decode method_2_code 84 = .ok (.ifCond .lt 6, 3) := by decide +kernel
theorem d1_87 : decode method_2_code 87 = .ok (.iinc 2 1, 3) := by decide +kernel
theorem d1_90 : decode method_2_code 90 = .ok (.iload_n 2, 1) := by decide +kernel
theorem d1_91 : decode method_2_code 91 = .ok (.ireturn, 1) := by decide +kernel
theorem pn71237415 : plainName "com/example/wee_find/weefind/HeldMatchesWritePinLaw" = true := by first | (simp [plainName, overriddenIn]; done) | decide +kernel
theorem ef_1 (m : MethodId) (q0 : Int64) : entryFrame m #[(.long q0)] 3 = mkF m 0 #[.val (.long q0), .second, .unset] [] := by first | (simp [entryFrame, mkF, argsToLocals, Value.category]; done) | rfl
def Q1 (Z : State) (q0 : Int64) (h0 : Heap) (n0 : Nat) (v : Option Value) (h : Heap) (L : List Loc) : Prop := v = some (.int (own_cnt q0)) ∧ Fr n0 L ∧ h = h0
set_option maxRecDepth 65536 in
set_option maxHeartbeats 40000000 in
theorem rm1 (l : Launch) (Z : State) (aq : Array Value) (hw : ∀ d ∈ tables_1, d.before aq Z = true) (ws : List Jvm.Cond) (q0 : Int64) (h0 : Heap) (n0 : Nat) (Z0 : n0 ≤ h0.size) :
    MetFree l (⟨"com/example/wee_find/weefind/HeldMatchesWritePinLaw", "byteCount", "(J)I"⟩ : MethodName) (head1 (Jvm.Cond.code (⟨"com/example/wee_find/weefind/HeldMatchesWritePinLaw", "byteCount", "(J)I"⟩ : MethodName) method_2_code 3 (some .int) :: ws) ({ frames := 0, cells := 0, slots := 0, locals := 0 } : Room)) (fun a U => a = #[(.long q0)] ∧ Z.Warmed39 U.vm ∧ U.heap = h0) (fun _ _ _ _ _ => True) (fun _ U o U' => ∃ v L, o = .returned v ∧ Q1 Z q0 h0 n0 v U'.heap L ∧ FrameEnd U o U' L ({ frames := 0, cells := 0, slots := 0, locals := 0 } : Room).cells ({ frames := 0, cells := 0, slots := 0, locals := 0 } : Room).slots) := by
  refine MetFree.of_bodySF (plainFor_of_name pn71237415) hisR ?_
  intro p e s m args below meth c s₁ Bd hml0 hP hK
  obtain ⟨rfl, hZ, hh⟩ := hP
  have hx := Bd.exec
  have hby := Bd.bytes
  have hml : c.maxLocals = 3 := hml0
  have hown : s.vm.findClass "com/example/wee_find/weefind/HeldMatchesWritePinLaw" = some m.cls := findClass_of_methodNamed Bd.named
  have hnm := (name_of_methodNamed Bd.named Bd.method).1
  have X0 : Stand p l e ({ frames := 0, cells := 0, slots := 0, locals := 0 } : Room) s m #[(.long q0)] below meth c s₁ [] 0 0 := Stand.of_body Bd
  have e0 : s₁.heap = h0 := by rw [← hh, Bd.state]; rfl
  have N0 := Fr.nil n0
  have pre0 : ∀ t, Steps p.tables e below (s₁.setTop (mkF m 0 #[.val (.long q0), .second, .unset] [])) t → Steps p.tables e below (s₁.setTop (entryFrame m #[(.long q0)] 3)) t := fun t k => castTop (ef_1 m q0) k
  have pre150 : ∀ t, Steps p.tables e below (s₁.setTop (mkF m 7 #[.val (.long q0), .second, .val (.int (1 : Int32))] [(.int (lcmpW q0 (128 : Int64)))])) t → Steps p.tables e below (s₁.setTop (entryFrame m #[(.long q0)] 3)) t := fun t kt => by
    refine pre0 _ ?_
    show Steps p.tables e below (s₁.setTop (mkF m 0 #[.val (.long q0), .second, .unset] [])) _
    refine XS.iconst X0.here hx rfl (hb hby d1_0) ?_
    show Steps p.tables e below (s₁.setTop (mkF m 1 #[.val (.long q0), .second, .unset] [(.int (1 : Int32))])) _
    refine XS.istoreN X0.here hx rfl (hb hby d1_1) rfl (l' := #[.val (.long q0), .second, .val (.int (1 : Int32))]) rfl ?_
    show Steps p.tables e below (s₁.setTop (mkF m 2 #[.val (.long q0), .second, .val (.int (1 : Int32))] [])) _
    refine XS.lloadN X0.here hx rfl (hb hby d1_2) rfl ?_
    show Steps p.tables e below (s₁.setTop (mkF m 3 #[.val (.long q0), .second, .val (.int (1 : Int32))] [(.long q0)])) _
    refine X0.ldc2Long hx hown (mvT hZ (hw _ (List.mem_of_getElem? (i := 5) rfl))) (g := (mkF m 3 #[.val (.long q0), .second, .val (.int (1 : Int32))] [(.long q0)])) rfl (hb hby d1_3) _ ?_
    show Steps p.tables e below (s₁.setTop (mkF m 6 #[.val (.long q0), .second, .val (.int (1 : Int32))] [(.long (128 : Int64)), (.long q0)])) _
    refine XS.lcmp X0.here hx rfl (hb hby d1_6) rfl ?_
    show Steps p.tables e below (s₁.setTop (mkF m 7 #[.val (.long q0), .second, .val (.int (1 : Int32))] [(.int (lcmpW q0 (128 : Int64)))])) _
    exact kt
  obtain ⟨v1, hv1⟩ : ∃ z : Int32, z = (if q0 < (128 : Int64) then (1 : Int32) else ((1 : Int32) + (1 : Int32))) := ⟨_, rfl⟩
  have pre152 : ∀ t, Steps p.tables e below (s₁.setTop (mkF m 13 #[.val (.long q0), .second, .val (.int v1)] [])) t → Steps p.tables e below (s₁.setTop (entryFrame m #[(.long q0)] 3)) t := fun t kt => by
    refine pre150 _ ?_
    show Steps p.tables e below (s₁.setTop (mkF m 7 #[.val (.long q0), .second, .val (.int (1 : Int32))] [(.int (lcmpW q0 (128 : Int64)))])) _
    by_cases hc151 : q0 < (128 : Int64)
    · rw [if_pos hc151] at hv1
      refine XS.ifYes X0.here hx rfl (pc0 := 7) (pc' := 13) rfl (hb hby d1_7) rfl ((if0 _ _).trans (tlt (own_lwL hc151)).1) (by decide) (by decide) ?_
      subst hv1
      exact kt
    · rw [if_neg hc151] at hv1
      refine XS.ifNo X0.here hx rfl (hb hby d1_7) rfl ((if0 _ _).trans (flt (own_lwM hc151)).1) ?_
      show Steps p.tables e below (s₁.setTop (mkF m 10 #[.val (.long q0), .second, .val (.int (1 : Int32))] [])) _
      refine XS.iinc X0.here hx rfl (hb hby d1_10) rfl (l' := #[.val (.long q0), .second, .val (.int ((1 : Int32) + (1 : Int32)))]) rfl ?_
      subst hv1
      exact kt
  have pre153 : ∀ t, Steps p.tables e below (s₁.setTop (mkF m 18 #[.val (.long q0), .second, .val (.int v1)] [(.int (lcmpW q0 (16384 : Int64)))])) t → Steps p.tables e below (s₁.setTop (entryFrame m #[(.long q0)] 3)) t := fun t kt => by
    refine pre152 _ ?_
    show Steps p.tables e below (s₁.setTop (mkF m 13 #[.val (.long q0), .second, .val (.int v1)] [])) _
    refine XS.lloadN X0.here hx rfl (hb hby d1_13) rfl ?_
    show Steps p.tables e below (s₁.setTop (mkF m 14 #[.val (.long q0), .second, .val (.int v1)] [(.long q0)])) _
    refine X0.ldc2Long hx hown (mvT hZ (hw _ (List.mem_of_getElem? (i := 6) rfl))) (g := (mkF m 14 #[.val (.long q0), .second, .val (.int v1)] [(.long q0)])) rfl (hb hby d1_14) _ ?_
    show Steps p.tables e below (s₁.setTop (mkF m 17 #[.val (.long q0), .second, .val (.int v1)] [(.long (16384 : Int64)), (.long q0)])) _
    refine XS.lcmp X0.here hx rfl (hb hby d1_17) rfl ?_
    show Steps p.tables e below (s₁.setTop (mkF m 18 #[.val (.long q0), .second, .val (.int v1)] [(.int (lcmpW q0 (16384 : Int64)))])) _
    exact kt
  obtain ⟨v2, hv2⟩ : ∃ z : Int32, z = (if q0 < (16384 : Int64) then v1 else (v1 + (1 : Int32))) := ⟨_, rfl⟩
  have pre155 : ∀ t, Steps p.tables e below (s₁.setTop (mkF m 24 #[.val (.long q0), .second, .val (.int v2)] [])) t → Steps p.tables e below (s₁.setTop (entryFrame m #[(.long q0)] 3)) t := fun t kt => by
    refine pre153 _ ?_
    show Steps p.tables e below (s₁.setTop (mkF m 18 #[.val (.long q0), .second, .val (.int v1)] [(.int (lcmpW q0 (16384 : Int64)))])) _
    by_cases hc154 : q0 < (16384 : Int64)
    · rw [if_pos hc154] at hv2
      refine XS.ifYes X0.here hx rfl (pc0 := 18) (pc' := 24) rfl (hb hby d1_18) rfl ((if0 _ _).trans (tlt (own_lwL hc154)).1) (by decide) (by decide) ?_
      subst hv2
      exact kt
    · rw [if_neg hc154] at hv2
      refine XS.ifNo X0.here hx rfl (hb hby d1_18) rfl ((if0 _ _).trans (flt (own_lwM hc154)).1) ?_
      show Steps p.tables e below (s₁.setTop (mkF m 21 #[.val (.long q0), .second, .val (.int v1)] [])) _
      refine XS.iinc X0.here hx rfl (hb hby d1_21) rfl (l' := #[.val (.long q0), .second, .val (.int (v1 + (1 : Int32)))]) rfl ?_
      subst hv2
      exact kt
  have pre156 : ∀ t, Steps p.tables e below (s₁.setTop (mkF m 29 #[.val (.long q0), .second, .val (.int v2)] [(.int (lcmpW q0 (2097152 : Int64)))])) t → Steps p.tables e below (s₁.setTop (entryFrame m #[(.long q0)] 3)) t := fun t kt => by
    refine pre155 _ ?_
    show Steps p.tables e below (s₁.setTop (mkF m 24 #[.val (.long q0), .second, .val (.int v2)] [])) _
    refine XS.lloadN X0.here hx rfl (hb hby d1_24) rfl ?_
    show Steps p.tables e below (s₁.setTop (mkF m 25 #[.val (.long q0), .second, .val (.int v2)] [(.long q0)])) _
    refine X0.ldc2Long hx hown (mvT hZ (hw _ (List.mem_of_getElem? (i := 7) rfl))) (g := (mkF m 25 #[.val (.long q0), .second, .val (.int v2)] [(.long q0)])) rfl (hb hby d1_25) _ ?_
    show Steps p.tables e below (s₁.setTop (mkF m 28 #[.val (.long q0), .second, .val (.int v2)] [(.long (2097152 : Int64)), (.long q0)])) _
    refine XS.lcmp X0.here hx rfl (hb hby d1_28) rfl ?_
    show Steps p.tables e below (s₁.setTop (mkF m 29 #[.val (.long q0), .second, .val (.int v2)] [(.int (lcmpW q0 (2097152 : Int64)))])) _
    exact kt
  obtain ⟨v3, hv3⟩ : ∃ z : Int32, z = (if q0 < (2097152 : Int64) then v2 else (v2 + (1 : Int32))) := ⟨_, rfl⟩
  have pre158 : ∀ t, Steps p.tables e below (s₁.setTop (mkF m 35 #[.val (.long q0), .second, .val (.int v3)] [])) t → Steps p.tables e below (s₁.setTop (entryFrame m #[(.long q0)] 3)) t := fun t kt => by
    refine pre156 _ ?_
    show Steps p.tables e below (s₁.setTop (mkF m 29 #[.val (.long q0), .second, .val (.int v2)] [(.int (lcmpW q0 (2097152 : Int64)))])) _
    by_cases hc157 : q0 < (2097152 : Int64)
    · rw [if_pos hc157] at hv3
      refine XS.ifYes X0.here hx rfl (pc0 := 29) (pc' := 35) rfl (hb hby d1_29) rfl ((if0 _ _).trans (tlt (own_lwL hc157)).1) (by decide) (by decide) ?_
      subst hv3
      exact kt
    · rw [if_neg hc157] at hv3
      refine XS.ifNo X0.here hx rfl (hb hby d1_29) rfl ((if0 _ _).trans (flt (own_lwM hc157)).1) ?_
      show Steps p.tables e below (s₁.setTop (mkF m 32 #[.val (.long q0), .second, .val (.int v2)] [])) _
      refine XS.iinc X0.here hx rfl (hb hby d1_32) rfl (l' := #[.val (.long q0), .second, .val (.int (v2 + (1 : Int32)))]) rfl ?_
      subst hv3
      exact kt
  have pre159 : ∀ t, Steps p.tables e below (s₁.setTop (mkF m 40 #[.val (.long q0), .second, .val (.int v3)] [(.int (lcmpW q0 (268435456 : Int64)))])) t → Steps p.tables e below (s₁.setTop (entryFrame m #[(.long q0)] 3)) t := fun t kt => by
    refine pre158 _ ?_
    show Steps p.tables e below (s₁.setTop (mkF m 35 #[.val (.long q0), .second, .val (.int v3)] [])) _
    refine XS.lloadN X0.here hx rfl (hb hby d1_35) rfl ?_
    show Steps p.tables e below (s₁.setTop (mkF m 36 #[.val (.long q0), .second, .val (.int v3)] [(.long q0)])) _
    refine X0.ldc2Long hx hown (mvT hZ (hw _ (List.mem_of_getElem? (i := 8) rfl))) (g := (mkF m 36 #[.val (.long q0), .second, .val (.int v3)] [(.long q0)])) rfl (hb hby d1_36) _ ?_
    show Steps p.tables e below (s₁.setTop (mkF m 39 #[.val (.long q0), .second, .val (.int v3)] [(.long (268435456 : Int64)), (.long q0)])) _
    refine XS.lcmp X0.here hx rfl (hb hby d1_39) rfl ?_
    show Steps p.tables e below (s₁.setTop (mkF m 40 #[.val (.long q0), .second, .val (.int v3)] [(.int (lcmpW q0 (268435456 : Int64)))])) _
    exact kt
  obtain ⟨v4, hv4⟩ : ∃ z : Int32, z = (if q0 < (268435456 : Int64) then v3 else (v3 + (1 : Int32))) := ⟨_, rfl⟩
  have pre161 : ∀ t, Steps p.tables e below (s₁.setTop (mkF m 46 #[.val (.long q0), .second, .val (.int v4)] [])) t → Steps p.tables e below (s₁.setTop (entryFrame m #[(.long q0)] 3)) t := fun t kt => by
    refine pre159 _ ?_
    show Steps p.tables e below (s₁.setTop (mkF m 40 #[.val (.long q0), .second, .val (.int v3)] [(.int (lcmpW q0 (268435456 : Int64)))])) _
    by_cases hc160 : q0 < (268435456 : Int64)
    · rw [if_pos hc160] at hv4
      refine XS.ifYes X0.here hx rfl (pc0 := 40) (pc' := 46) rfl (hb hby d1_40) rfl ((if0 _ _).trans (tlt (own_lwL hc160)).1) (by decide) (by decide) ?_
      subst hv4
      exact kt
    · rw [if_neg hc160] at hv4
      refine XS.ifNo X0.here hx rfl (hb hby d1_40) rfl ((if0 _ _).trans (flt (own_lwM hc160)).1) ?_
      show Steps p.tables e below (s₁.setTop (mkF m 43 #[.val (.long q0), .second, .val (.int v3)] [])) _
      refine XS.iinc X0.here hx rfl (hb hby d1_43) rfl (l' := #[.val (.long q0), .second, .val (.int (v3 + (1 : Int32)))]) rfl ?_
      subst hv4
      exact kt
  have pre162 : ∀ t, Steps p.tables e below (s₁.setTop (mkF m 51 #[.val (.long q0), .second, .val (.int v4)] [(.int (lcmpW q0 (34359738368 : Int64)))])) t → Steps p.tables e below (s₁.setTop (entryFrame m #[(.long q0)] 3)) t := fun t kt => by
    refine pre161 _ ?_
    show Steps p.tables e below (s₁.setTop (mkF m 46 #[.val (.long q0), .second, .val (.int v4)] [])) _
    refine XS.lloadN X0.here hx rfl (hb hby d1_46) rfl ?_
    show Steps p.tables e below (s₁.setTop (mkF m 47 #[.val (.long q0), .second, .val (.int v4)] [(.long q0)])) _
    refine X0.ldc2Long hx hown (mvT hZ (hw _ (List.mem_of_getElem? (i := 9) rfl))) (g := (mkF m 47 #[.val (.long q0), .second, .val (.int v4)] [(.long q0)])) rfl (hb hby d1_47) _ ?_
    show Steps p.tables e below (s₁.setTop (mkF m 50 #[.val (.long q0), .second, .val (.int v4)] [(.long (34359738368 : Int64)), (.long q0)])) _
    refine XS.lcmp X0.here hx rfl (hb hby d1_50) rfl ?_
    show Steps p.tables e below (s₁.setTop (mkF m 51 #[.val (.long q0), .second, .val (.int v4)] [(.int (lcmpW q0 (34359738368 : Int64)))])) _
    exact kt
  obtain ⟨v5, hv5⟩ : ∃ z : Int32, z = (if q0 < (34359738368 : Int64) then v4 else (v4 + (1 : Int32))) := ⟨_, rfl⟩
  have pre164 : ∀ t, Steps p.tables e below (s₁.setTop (mkF m 57 #[.val (.long q0), .second, .val (.int v5)] [])) t → Steps p.tables e below (s₁.setTop (entryFrame m #[(.long q0)] 3)) t := fun t kt => by
    refine pre162 _ ?_
    show Steps p.tables e below (s₁.setTop (mkF m 51 #[.val (.long q0), .second, .val (.int v4)] [(.int (lcmpW q0 (34359738368 : Int64)))])) _
    by_cases hc163 : q0 < (34359738368 : Int64)
    · rw [if_pos hc163] at hv5
      refine XS.ifYes X0.here hx rfl (pc0 := 51) (pc' := 57) rfl (hb hby d1_51) rfl ((if0 _ _).trans (tlt (own_lwL hc163)).1) (by decide) (by decide) ?_
      subst hv5
      exact kt
    · rw [if_neg hc163] at hv5
      refine XS.ifNo X0.here hx rfl (hb hby d1_51) rfl ((if0 _ _).trans (flt (own_lwM hc163)).1) ?_
      show Steps p.tables e below (s₁.setTop (mkF m 54 #[.val (.long q0), .second, .val (.int v4)] [])) _
      refine XS.iinc X0.here hx rfl (hb hby d1_54) rfl (l' := #[.val (.long q0), .second, .val (.int (v4 + (1 : Int32)))]) rfl ?_
      subst hv5
      exact kt
  have pre165 : ∀ t, Steps p.tables e below (s₁.setTop (mkF m 62 #[.val (.long q0), .second, .val (.int v5)] [(.int (lcmpW q0 (4398046511104 : Int64)))])) t → Steps p.tables e below (s₁.setTop (entryFrame m #[(.long q0)] 3)) t := fun t kt => by
    refine pre164 _ ?_
    show Steps p.tables e below (s₁.setTop (mkF m 57 #[.val (.long q0), .second, .val (.int v5)] [])) _
    refine XS.lloadN X0.here hx rfl (hb hby d1_57) rfl ?_
    show Steps p.tables e below (s₁.setTop (mkF m 58 #[.val (.long q0), .second, .val (.int v5)] [(.long q0)])) _
    refine X0.ldc2Long hx hown (mvT hZ (hw _ (List.mem_of_getElem? (i := 10) rfl))) (g := (mkF m 58 #[.val (.long q0), .second, .val (.int v5)] [(.long q0)])) rfl (hb hby d1_58) _ ?_
    show Steps p.tables e below (s₁.setTop (mkF m 61 #[.val (.long q0), .second, .val (.int v5)] [(.long (4398046511104 : Int64)), (.long q0)])) _
    refine XS.lcmp X0.here hx rfl (hb hby d1_61) rfl ?_
    show Steps p.tables e below (s₁.setTop (mkF m 62 #[.val (.long q0), .second, .val (.int v5)] [(.int (lcmpW q0 (4398046511104 : Int64)))])) _
    exact kt
  obtain ⟨v6, hv6⟩ : ∃ z : Int32, z = (if q0 < (4398046511104 : Int64) then v5 else (v5 + (1 : Int32))) := ⟨_, rfl⟩
  have pre167 : ∀ t, Steps p.tables e below (s₁.setTop (mkF m 68 #[.val (.long q0), .second, .val (.int v6)] [])) t → Steps p.tables e below (s₁.setTop (entryFrame m #[(.long q0)] 3)) t := fun t kt => by
    refine pre165 _ ?_
    show Steps p.tables e below (s₁.setTop (mkF m 62 #[.val (.long q0), .second, .val (.int v5)] [(.int (lcmpW q0 (4398046511104 : Int64)))])) _
    by_cases hc166 : q0 < (4398046511104 : Int64)
    · rw [if_pos hc166] at hv6
      refine XS.ifYes X0.here hx rfl (pc0 := 62) (pc' := 68) rfl (hb hby d1_62) rfl ((if0 _ _).trans (tlt (own_lwL hc166)).1) (by decide) (by decide) ?_
      subst hv6
      exact kt
    · rw [if_neg hc166] at hv6
      refine XS.ifNo X0.here hx rfl (hb hby d1_62) rfl ((if0 _ _).trans (flt (own_lwM hc166)).1) ?_
      show Steps p.tables e below (s₁.setTop (mkF m 65 #[.val (.long q0), .second, .val (.int v5)] [])) _
      refine XS.iinc X0.here hx rfl (hb hby d1_65) rfl (l' := #[.val (.long q0), .second, .val (.int (v5 + (1 : Int32)))]) rfl ?_
      subst hv6
      exact kt
  have pre168 : ∀ t, Steps p.tables e below (s₁.setTop (mkF m 73 #[.val (.long q0), .second, .val (.int v6)] [(.int (lcmpW q0 (562949953421312 : Int64)))])) t → Steps p.tables e below (s₁.setTop (entryFrame m #[(.long q0)] 3)) t := fun t kt => by
    refine pre167 _ ?_
    show Steps p.tables e below (s₁.setTop (mkF m 68 #[.val (.long q0), .second, .val (.int v6)] [])) _
    refine XS.lloadN X0.here hx rfl (hb hby d1_68) rfl ?_
    show Steps p.tables e below (s₁.setTop (mkF m 69 #[.val (.long q0), .second, .val (.int v6)] [(.long q0)])) _
    refine X0.ldc2Long hx hown (mvT hZ (hw _ (List.mem_of_getElem? (i := 11) rfl))) (g := (mkF m 69 #[.val (.long q0), .second, .val (.int v6)] [(.long q0)])) rfl (hb hby d1_69) _ ?_
    show Steps p.tables e below (s₁.setTop (mkF m 72 #[.val (.long q0), .second, .val (.int v6)] [(.long (562949953421312 : Int64)), (.long q0)])) _
    refine XS.lcmp X0.here hx rfl (hb hby d1_72) rfl ?_
    show Steps p.tables e below (s₁.setTop (mkF m 73 #[.val (.long q0), .second, .val (.int v6)] [(.int (lcmpW q0 (562949953421312 : Int64)))])) _
    exact kt
  obtain ⟨v7, hv7⟩ : ∃ z : Int32, z = (if q0 < (562949953421312 : Int64) then v6 else (v6 + (1 : Int32))) := ⟨_, rfl⟩
  have pre170 : ∀ t, Steps p.tables e below (s₁.setTop (mkF m 79 #[.val (.long q0), .second, .val (.int v7)] [])) t → Steps p.tables e below (s₁.setTop (entryFrame m #[(.long q0)] 3)) t := fun t kt => by
    refine pre168 _ ?_
    show Steps p.tables e below (s₁.setTop (mkF m 73 #[.val (.long q0), .second, .val (.int v6)] [(.int (lcmpW q0 (562949953421312 : Int64)))])) _
    by_cases hc169 : q0 < (562949953421312 : Int64)
    · rw [if_pos hc169] at hv7
      refine XS.ifYes X0.here hx rfl (pc0 := 73) (pc' := 79) rfl (hb hby d1_73) rfl ((if0 _ _).trans (tlt (own_lwL hc169)).1) (by decide) (by decide) ?_
      subst hv7
      exact kt
    · rw [if_neg hc169] at hv7
      refine XS.ifNo X0.here hx rfl (hb hby d1_73) rfl ((if0 _ _).trans (flt (own_lwM hc169)).1) ?_
      show Steps p.tables e below (s₁.setTop (mkF m 76 #[.val (.long q0), .second, .val (.int v6)] [])) _
      refine XS.iinc X0.here hx rfl (hb hby d1_76) rfl (l' := #[.val (.long q0), .second, .val (.int (v6 + (1 : Int32)))]) rfl ?_
      subst hv7
      exact kt
  have pre171 : ∀ t, Steps p.tables e below (s₁.setTop (mkF m 84 #[.val (.long q0), .second, .val (.int v7)] [(.int (lcmpW q0 (72057594037927936 : Int64)))])) t → Steps p.tables e below (s₁.setTop (entryFrame m #[(.long q0)] 3)) t := fun t kt => by
    refine pre170 _ ?_
    show Steps p.tables e below (s₁.setTop (mkF m 79 #[.val (.long q0), .second, .val (.int v7)] [])) _
    refine XS.lloadN X0.here hx rfl (hb hby d1_79) rfl ?_
    show Steps p.tables e below (s₁.setTop (mkF m 80 #[.val (.long q0), .second, .val (.int v7)] [(.long q0)])) _
    refine X0.ldc2Long hx hown (mvT hZ (hw _ (List.mem_of_getElem? (i := 12) rfl))) (g := (mkF m 80 #[.val (.long q0), .second, .val (.int v7)] [(.long q0)])) rfl (hb hby d1_80) _ ?_
    show Steps p.tables e below (s₁.setTop (mkF m 83 #[.val (.long q0), .second, .val (.int v7)] [(.long (72057594037927936 : Int64)), (.long q0)])) _
    refine XS.lcmp X0.here hx rfl (hb hby d1_83) rfl ?_
    show Steps p.tables e below (s₁.setTop (mkF m 84 #[.val (.long q0), .second, .val (.int v7)] [(.int (lcmpW q0 (72057594037927936 : Int64)))])) _
    exact kt
  obtain ⟨v8, hv8⟩ : ∃ z : Int32, z = (if q0 < (72057594037927936 : Int64) then v7 else (v7 + (1 : Int32))) := ⟨_, rfl⟩
  have pre173 : ∀ t, Steps p.tables e below (s₁.setTop (mkF m 90 #[.val (.long q0), .second, .val (.int v8)] [])) t → Steps p.tables e below (s₁.setTop (entryFrame m #[(.long q0)] 3)) t := fun t kt => by
    refine pre171 _ ?_
    show Steps p.tables e below (s₁.setTop (mkF m 84 #[.val (.long q0), .second, .val (.int v7)] [(.int (lcmpW q0 (72057594037927936 : Int64)))])) _
    by_cases hc172 : q0 < (72057594037927936 : Int64)
    · rw [if_pos hc172] at hv8
      refine XS.ifYes X0.here hx rfl (pc0 := 84) (pc' := 90) rfl (hb hby d1_84) rfl ((if0 _ _).trans (tlt (own_lwL hc172)).1) (by decide) (by decide) ?_
      subst hv8
      exact kt
    · rw [if_neg hc172] at hv8
      refine XS.ifNo X0.here hx rfl (hb hby d1_84) rfl ((if0 _ _).trans (flt (own_lwM hc172)).1) ?_
      show Steps p.tables e below (s₁.setTop (mkF m 87 #[.val (.long q0), .second, .val (.int v7)] [])) _
      refine XS.iinc X0.here hx rfl (hb hby d1_87) rfl (l' := #[.val (.long q0), .second, .val (.int (v7 + (1 : Int32)))]) rfl ?_
      subst hv8
      exact kt
  have pre174 : ∀ t, Steps p.tables e below (s₁.setTop (mkF m 91 #[.val (.long q0), .second, .val (.int v8)] [(.int v8)])) t → Steps p.tables e below (s₁.setTop (entryFrame m #[(.long q0)] 3)) t := fun t kt => by
    refine pre173 _ ?_
    show Steps p.tables e below (s₁.setTop (mkF m 90 #[.val (.long q0), .second, .val (.int v8)] [])) _
    refine XS.iloadN X0.here hx rfl (hb hby d1_90) rfl ?_
    show Steps p.tables e below (s₁.setTop (mkF m 91 #[.val (.long q0), .second, .val (.int v8)] [(.int v8)])) _
    exact kt
  obtain ⟨fs, hr, hrun, hended, hW, hsame⟩ := X0.leave (v := some (.int v8)) (fun h => by rw [Bd.returns] at h; cases h)
  refine ⟨_, _, pre174 _ ?_, hrun, hended, _, _, rfl, ?_, ⟨_, rfl⟩, hW, hsame.mono (by decide) (by decide)⟩
  · exact retI X0 hx Bd.returns (hb hby d1_91) hr
  · show Q1 Z q0 h0 n0 _ s₁.heap _
    rw [e0]
    exact ⟨(own_rI (by subst hv8 hv7 hv6 hv5 hv4 hv3 hv2 hv1; rfl : v8 = (own_cnt q0))), N0, rfl⟩
theorem pd87993097 : parseMethodDescriptor "(J)I" = some ⟨[.long], some .int⟩ := by decide +kernel
theorem pd87992021 : parseMethodDescriptor "(I)V" = some ⟨[.int], none⟩ := by decide +kernel
theorem pd87993110 : parseMethodDescriptor "(J)V" = some ⟨[.long], none⟩ := by decide +kernel
theorem pd93422000 : parseMethodDescriptor "()Z" = some ⟨[], some .boolean⟩ := by decide +kernel
theorem pd93421984 : parseMethodDescriptor "()J" = some ⟨[], some .long⟩ := by decide +kernel
theorem own_sh63 : ∀ k : Fin 64, ((((Int32.ofNat k.val) &&& 0x3f).toInt64).toUInt64).toNat = k.val := by decide +kernel
theorem own_m63 (x : Int32) : ∃ k : Fin 64, x &&& (63 : Int32) = Int32.ofNat k.val := by
  have h := Jvm.Kit.i32_mask x 63 (k := 6) (by decide) (by decide)
  refine ⟨⟨(x.toInt % 64).toNat, by omega⟩, ?_⟩
  apply Int32.toInt_inj.mp
  rw [h, Int32.toInt_ofNat_small (by show (x.toInt % 64).toNat < 2 ^ 31; omega)]
  show x.toInt % 2 ^ 6 = ((x.toInt % 64).toNat : Int)
  omega
theorem own_nn (x : Int64) (s : Int32) : 0 ≤ ((((x &&& (9223372036854775807 : Int64)).toUInt64 >>> ((s &&& (63 : Int32)) &&& 0x3f).toInt64.toUInt64).toInt64)).toInt := by
  obtain ⟨k, hk⟩ := own_m63 s
  rw [hk]
  have m : 0 ≤ (x &&& (9223372036854775807 : Int64)).toInt := by
    rw [Jvm.Kit.i64_mask x 9223372036854775807 (k := 63) (by decide) (by decide)]; omega
  rw [Jvm.Kit.i64_lushr (Jvm.Kit.i64_nonneg.mpr m) (k := k.val) (own_sh63 k) k.isLt]
  exact Int.ediv_nonneg m (by exact Int.le_of_lt (Int.pow_pos (by decide)))
theorem own_ltc {r : Nat} (h : r < 2 ^ 63) (c : Int64) (n : Nat) (hc : c.toInt = n) : Int64.ofNat r < c ↔ r < n := by
  rw [Int64.lt_iff_toInt_lt, own_n64 h, hc]
  omega
theorem own_LenB : ∀ (k r : Nat), own_Len k r → r < 128 ^ (k + 1) ∧ (k = 0 ∨ 128 ^ k ≤ r)
  | 0, r, h => ⟨by have q : r < 128 := h; omega, Or.inl rfl⟩
  | k + 1, r, h => by
    obtain ⟨h1, h2⟩ := h
    obtain ⟨b1, b2⟩ := own_LenB k (r / 128) h2
    have e : 128 ^ (k + 1 + 1) = 128 * 128 ^ (k + 1) := by rw [Nat.pow_succ, Nat.mul_comm]
    refine ⟨?_, Or.inr ?_⟩
    · have q := (Nat.div_lt_iff_lt_mul (by decide : 0 < 128)).mp b1
      rw [e]; omega
    · rcases b2 with rfl | b2
      · omega
      · have e2 : 128 ^ (k + 1) = 128 * 128 ^ k := by rw [Nat.pow_succ, Nat.mul_comm]
        have q := (Nat.le_div_iff_mul_le (by decide : 0 < 128)).mp b2
        rw [e2]; omega
theorem own_cntE {k r : Nat} (hr : r < 2 ^ 63) (hk : k ≤ 8) (h : own_Len k r) : own_cnt (Int64.ofNat r) = Int32.ofNat (k + 1) := by
  obtain ⟨b1, b2⟩ := own_LenB k r h
  clear h
  have e1 := own_ltc hr (128 : Int64) 128 (by decide)
  have e2 := own_ltc hr (16384 : Int64) 16384 (by decide)
  have e3 := own_ltc hr (2097152 : Int64) 2097152 (by decide)
  have e4 := own_ltc hr (268435456 : Int64) 268435456 (by decide)
  have e5 := own_ltc hr (34359738368 : Int64) 34359738368 (by decide)
  have e6 := own_ltc hr (4398046511104 : Int64) 4398046511104 (by decide)
  have e7 := own_ltc hr (562949953421312 : Int64) 562949953421312 (by decide)
  have e8 := own_ltc hr (72057594037927936 : Int64) 72057594037927936 (by decide)
  simp only [own_cnt, own_ct, e1, e2, e3, e4, e5, e6, e7, e8]
  clear e1 e2 e3 e4 e5 e6 e7 e8
  have hk' : k = 0 ∨ k = 1 ∨ k = 2 ∨ k = 3 ∨ k = 4 ∨ k = 5 ∨ k = 6 ∨ k = 7 ∨ k = 8 := by omega
  rcases hk' with rfl | rfl | rfl | rfl | rfl | rfl | rfl | rfl | rfl
  · simp only [Nat.reduceAdd, Nat.reducePow] at b1 b2
    rw [if_pos (show (r < 72057594037927936) by omega), if_pos (show (r < 562949953421312) by omega), if_pos (show (r < 4398046511104) by omega), if_pos (show (r < 34359738368) by omega), if_pos (show (r < 268435456) by omega), if_pos (show (r < 2097152) by omega), if_pos (show (r < 16384) by omega), if_pos (show (r < 128) by omega)]
    rfl
  · simp only [Nat.reduceAdd, Nat.reducePow] at b1 b2
    rw [if_pos (show (r < 72057594037927936) by omega), if_pos (show (r < 562949953421312) by omega), if_pos (show (r < 4398046511104) by omega), if_pos (show (r < 34359738368) by omega), if_pos (show (r < 268435456) by omega), if_pos (show (r < 2097152) by omega), if_pos (show (r < 16384) by omega), if_neg (show ¬ (r < 128) by omega)]
    rfl
  · simp only [Nat.reduceAdd, Nat.reducePow] at b1 b2
    rw [if_pos (show (r < 72057594037927936) by omega), if_pos (show (r < 562949953421312) by omega), if_pos (show (r < 4398046511104) by omega), if_pos (show (r < 34359738368) by omega), if_pos (show (r < 268435456) by omega), if_pos (show (r < 2097152) by omega), if_neg (show ¬ (r < 16384) by omega), if_neg (show ¬ (r < 128) by omega)]
    rfl
  · simp only [Nat.reduceAdd, Nat.reducePow] at b1 b2
    rw [if_pos (show (r < 72057594037927936) by omega), if_pos (show (r < 562949953421312) by omega), if_pos (show (r < 4398046511104) by omega), if_pos (show (r < 34359738368) by omega), if_pos (show (r < 268435456) by omega), if_neg (show ¬ (r < 2097152) by omega), if_neg (show ¬ (r < 16384) by omega), if_neg (show ¬ (r < 128) by omega)]
    rfl
  · simp only [Nat.reduceAdd, Nat.reducePow] at b1 b2
    rw [if_pos (show (r < 72057594037927936) by omega), if_pos (show (r < 562949953421312) by omega), if_pos (show (r < 4398046511104) by omega), if_pos (show (r < 34359738368) by omega), if_neg (show ¬ (r < 268435456) by omega), if_neg (show ¬ (r < 2097152) by omega), if_neg (show ¬ (r < 16384) by omega), if_neg (show ¬ (r < 128) by omega)]
    rfl
  · simp only [Nat.reduceAdd, Nat.reducePow] at b1 b2
    rw [if_pos (show (r < 72057594037927936) by omega), if_pos (show (r < 562949953421312) by omega), if_pos (show (r < 4398046511104) by omega), if_neg (show ¬ (r < 34359738368) by omega), if_neg (show ¬ (r < 268435456) by omega), if_neg (show ¬ (r < 2097152) by omega), if_neg (show ¬ (r < 16384) by omega), if_neg (show ¬ (r < 128) by omega)]
    rfl
  · simp only [Nat.reduceAdd, Nat.reducePow] at b1 b2
    rw [if_pos (show (r < 72057594037927936) by omega), if_pos (show (r < 562949953421312) by omega), if_neg (show ¬ (r < 4398046511104) by omega), if_neg (show ¬ (r < 34359738368) by omega), if_neg (show ¬ (r < 268435456) by omega), if_neg (show ¬ (r < 2097152) by omega), if_neg (show ¬ (r < 16384) by omega), if_neg (show ¬ (r < 128) by omega)]
    rfl
  · simp only [Nat.reduceAdd, Nat.reducePow] at b1 b2
    rw [if_pos (show (r < 72057594037927936) by omega), if_neg (show ¬ (r < 562949953421312) by omega), if_neg (show ¬ (r < 4398046511104) by omega), if_neg (show ¬ (r < 34359738368) by omega), if_neg (show ¬ (r < 268435456) by omega), if_neg (show ¬ (r < 2097152) by omega), if_neg (show ¬ (r < 16384) by omega), if_neg (show ¬ (r < 128) by omega)]
    rfl
  · simp only [Nat.reduceAdd, Nat.reducePow] at b1 b2
    rw [if_neg (show ¬ (r < 72057594037927936) by omega), if_neg (show ¬ (r < 562949953421312) by omega), if_neg (show ¬ (r < 4398046511104) by omega), if_neg (show ¬ (r < 34359738368) by omega), if_neg (show ¬ (r < 268435456) by omega), if_neg (show ¬ (r < 2097152) by omega), if_neg (show ¬ (r < 16384) by omega), if_neg (show ¬ (r < 128) by omega)]
    rfl

theorem own_plain0 (q0 : Int64) (p1 : Int32) (q2 : Int64) (p3 : Int32) (r1 : Nat) (k1 : Nat) (r2 : Nat) (k2 : Nat)
    (v1 : Int32) (hv1 : v1 = (if (16 : Int32) < ((own_cnt (Int64.ofNat r1)) + (10 : Int32)) then (0 : Int32) else (1 : Int32)))
    (v2 : Int32) (hv2 : v2 = (if (if (16 : Int64) < ((Int64.ofNat (0 + k1 + 1)) + (10 : Int64)) then (0 : Int32) else (1 : Int32)) = v1 then (if (16 : Int32) < (((own_cnt (Int64.ofNat r1)) + (own_cnt (Int64.ofNat r2))) + (10 : Int32)) then (if (if (16 : Int64) < ((Int64.ofNat ((0 + k1 + 1) + k2 + 1)) + (10 : Int64)) then (0 : Int32) else (1 : Int32)) = (0 : Int32) then (1 : Int32) else (0 : Int32)) else (if (if (16 : Int64) < ((Int64.ofNat ((0 + k1 + 1) + k2 + 1)) + (10 : Int64)) then (0 : Int32) else (1 : Int32)) = (1 : Int32) then (1 : Int32) else (0 : Int32))) else (0 : Int32)))
    (hr1 : r1 < 2 ^ 63)
    (hk18 : k1 ≤ 8)
    (hk1 : own_Len k1 r1)
    (hr2 : r2 < 2 ^ 63)
    (hk28 : k2 ≤ 8)
    (hk2 : own_Len k2 r2) : v2 = 1 := by
  rw [own_cntE hr1 hk18 hk1, own_cntE hr2 hk28 hk2] at hv2
  rw [own_cntE hr1 hk18 hk1] at hv1
  subst hv1
  subst hv2
  clear hr1 hk1 hr2 hk2
  obtain ⟨a, rfl⟩ : ∃ a : Fin 9, k1 = a.val := ⟨⟨k1, by omega⟩, rfl⟩
  obtain ⟨b, rfl⟩ : ∃ b : Fin 9, k2 = b.val := ⟨⟨k2, by omega⟩, rfl⟩
  clear hk18 hk28
  revert a b
  decide +kernel
theorem ef_0 (m : MethodId) (q0 : Int64) (p1 : Int32) (q2 : Int64) (p3 : Int32) : entryFrame m #[(.long q0), (.int p1), (.long q2), (.int p3)] maxLocals = mkF m 0 #[.val (.long q0), .second, .val (.int p1), .val (.long q2), .second, .val (.int p3), .unset, .unset, .unset, .unset, .unset, .unset, .unset, .unset, .unset, .unset, .unset, .unset, .unset] [] := by first | (simp [entryFrame, mkF, argsToLocals, Value.category, maxLocals]; done) | rfl
def Q0 (n0 : Nat) (v : Option Value) (L : List Loc) : Prop := v = some (.int (1 : Int32)) ∧ Fr n0 L
set_option maxRecDepth 65536 in
set_option maxHeartbeats 40000000 in
theorem rm0 (l : Launch) (Z : State) (aq : Array Value) (hw : ∀ d ∈ tables_1, d.before aq Z = true) (ws : List Jvm.Cond) (q0 : Int64) (p1 : Int32) (q2 : Int64) (p3 : Int32) (h0 : Heap) (n0 : Nat) (Z0 : n0 ≤ h0.size) :
    MetFree l x (head1 (Jvm.Cond.code x code maxLocals ret :: ws) room_1) (fun a U => a = #[(.long q0), (.int p1), (.long q2), (.int p3)] ∧ Z.Warmed39 U.vm ∧ U.heap = h0) (fun _ _ _ _ _ => True) (fun _ U o U' => ∃ v L, o = .returned v ∧ Q0 n0 v L ∧ FrameEnd U o U' L room_1.cells room_1.slots) := by
  refine MetFree.of_bodySF (plainFor_of_name pn71237415) hisR ?_
  intro p e s m args below meth c s₁ Bd hml0 hP hK
  obtain ⟨rfl, hZ, hh⟩ := hP
  have hx := Bd.exec
  have hby := Bd.bytes
  have hml : c.maxLocals = 19 := hml0
  have hown : s.vm.findClass "com/example/wee_find/weefind/HeldMatchesWritePinLaw" = some m.cls := findClass_of_methodNamed Bd.named
  have X0 : Stand p l e room_1 s m #[(.long q0), (.int p1), (.long q2), (.int p3)] below meth c s₁ [] 0 0 := Stand.of_body Bd
  have e0 : s₁.heap = h0 := by rw [← hh, Bd.state]; rfl
  have N0 := Fr.nil n0
  have pre0 : ∀ t, Steps p.tables e below (s₁.setTop (mkF m 0 #[.val (.long q0), .second, .val (.int p1), .val (.long q2), .second, .val (.int p3), .unset, .unset, .unset, .unset, .unset, .unset, .unset, .unset, .unset, .unset, .unset, .unset, .unset] [])) t → Steps p.tables e below (s₁.setTop (entryFrame m #[(.long q0), (.int p1), (.long q2), (.int p3)] maxLocals)) t := fun t k => castTop (ef_0 m q0 p1 q2 p3) k
  have pre175 : ∀ t, Steps p.tables e below (s₁.setTop (mkF m 12 #[.val (.long q0), .second, .val (.int p1), .val (.long q2), .second, .val (.int p3), .val (.long (((q0 &&& (9223372036854775807 : Int64)).toUInt64 >>> ((p1 &&& (63 : Int32)) &&& 0x3f).toInt64.toUInt64).toInt64)), .second, .unset, .unset, .unset, .unset, .unset, .unset, .unset, .unset, .unset, .unset, .unset] [])) t → Steps p.tables e below (s₁.setTop (entryFrame m #[(.long q0), (.int p1), (.long q2), (.int p3)] maxLocals)) t := fun t kt => by
    refine pre0 _ ?_
    show Steps p.tables e below (s₁.setTop (mkF m 0 #[.val (.long q0), .second, .val (.int p1), .val (.long q2), .second, .val (.int p3), .unset, .unset, .unset, .unset, .unset, .unset, .unset, .unset, .unset, .unset, .unset, .unset, .unset] [])) _
    refine XS.lloadN X0.here hx rfl (hb hby at_0) rfl ?_
    show Steps p.tables e below (s₁.setTop (mkF m 1 #[.val (.long q0), .second, .val (.int p1), .val (.long q2), .second, .val (.int p3), .unset, .unset, .unset, .unset, .unset, .unset, .unset, .unset, .unset, .unset, .unset, .unset, .unset] [(.long q0)])) _
    refine X0.ldc2Long hx hown (mvT hZ (hw _ (List.mem_of_getElem? (i := 0) rfl))) (g := (mkF m 1 #[.val (.long q0), .second, .val (.int p1), .val (.long q2), .second, .val (.int p3), .unset, .unset, .unset, .unset, .unset, .unset, .unset, .unset, .unset, .unset, .unset, .unset, .unset] [(.long q0)])) rfl (hb hby at_1) _ ?_
    show Steps p.tables e below (s₁.setTop (mkF m 4 #[.val (.long q0), .second, .val (.int p1), .val (.long q2), .second, .val (.int p3), .unset, .unset, .unset, .unset, .unset, .unset, .unset, .unset, .unset, .unset, .unset, .unset, .unset] [(.long (9223372036854775807 : Int64)), (.long q0)])) _
    refine XS.land X0.here hx rfl (hb hby at_4) rfl ?_
    show Steps p.tables e below (s₁.setTop (mkF m 5 #[.val (.long q0), .second, .val (.int p1), .val (.long q2), .second, .val (.int p3), .unset, .unset, .unset, .unset, .unset, .unset, .unset, .unset, .unset, .unset, .unset, .unset, .unset] [(.long (q0 &&& (9223372036854775807 : Int64)))])) _
    refine XS.iloadN X0.here hx rfl (hb hby at_5) rfl ?_
    show Steps p.tables e below (s₁.setTop (mkF m 6 #[.val (.long q0), .second, .val (.int p1), .val (.long q2), .second, .val (.int p3), .unset, .unset, .unset, .unset, .unset, .unset, .unset, .unset, .unset, .unset, .unset, .unset, .unset] [(.int p1), (.long (q0 &&& (9223372036854775807 : Int64)))])) _
    refine XS.bipush X0.here hx rfl (hb hby at_6) ?_
    show Steps p.tables e below (s₁.setTop (mkF m 8 #[.val (.long q0), .second, .val (.int p1), .val (.long q2), .second, .val (.int p3), .unset, .unset, .unset, .unset, .unset, .unset, .unset, .unset, .unset, .unset, .unset, .unset, .unset] [(.int (63 : Int32)), (.int p1), (.long (q0 &&& (9223372036854775807 : Int64)))])) _
    refine XS.iand X0.here hx rfl (hb hby at_8) rfl ?_
    show Steps p.tables e below (s₁.setTop (mkF m 9 #[.val (.long q0), .second, .val (.int p1), .val (.long q2), .second, .val (.int p3), .unset, .unset, .unset, .unset, .unset, .unset, .unset, .unset, .unset, .unset, .unset, .unset, .unset] [(.int (p1 &&& (63 : Int32))), (.long (q0 &&& (9223372036854775807 : Int64)))])) _
    refine XS.lushr X0.here hx rfl (hb hby at_9) rfl ?_
    show Steps p.tables e below (s₁.setTop (mkF m 10 #[.val (.long q0), .second, .val (.int p1), .val (.long q2), .second, .val (.int p3), .unset, .unset, .unset, .unset, .unset, .unset, .unset, .unset, .unset, .unset, .unset, .unset, .unset] [(.long (((q0 &&& (9223372036854775807 : Int64)).toUInt64 >>> ((p1 &&& (63 : Int32)) &&& 0x3f).toInt64.toUInt64).toInt64))])) _
    refine XS.lstore X0.here hx rfl (hb hby at_10) rfl (l' := #[.val (.long q0), .second, .val (.int p1), .val (.long q2), .second, .val (.int p3), .val (.long (((q0 &&& (9223372036854775807 : Int64)).toUInt64 >>> ((p1 &&& (63 : Int32)) &&& 0x3f).toInt64.toUInt64).toInt64)), .second, .unset, .unset, .unset, .unset, .unset, .unset, .unset, .unset, .unset, .unset, .unset]) rfl ?_
    show Steps p.tables e below (s₁.setTop (mkF m 12 #[.val (.long q0), .second, .val (.int p1), .val (.long q2), .second, .val (.int p3), .val (.long (((q0 &&& (9223372036854775807 : Int64)).toUInt64 >>> ((p1 &&& (63 : Int32)) &&& 0x3f).toInt64.toUInt64).toInt64)), .second, .unset, .unset, .unset, .unset, .unset, .unset, .unset, .unset, .unset, .unset, .unset] [])) _
    exact kt
  obtain ⟨r1, hr1, er1⟩ := own_nat (((q0 &&& (9223372036854775807 : Int64)).toUInt64 >>> ((p1 &&& (63 : Int32)) &&& 0x3f).toInt64.toUInt64).toInt64) (own_nn _ _)
  obtain ⟨k1, hk18, hk1⟩ := own_Len8 hr1
  have pre176 : ∀ t, Steps p.tables e below (s₁.setTop (mkF m 12 #[.val (.long q0), .second, .val (.int p1), .val (.long q2), .second, .val (.int p3), .val (.long (Int64.ofNat r1)), .second, .unset, .unset, .unset, .unset, .unset, .unset, .unset, .unset, .unset, .unset, .unset] [])) t → Steps p.tables e below (s₁.setTop (entryFrame m #[(.long q0), (.int p1), (.long q2), (.int p3)] maxLocals)) t := fun t kt => pre175 t (by rw [er1]; exact kt)
  have pre177 : ∀ t, Steps p.tables e below (s₁.setTop (mkF m 25 #[.val (.long q0), .second, .val (.int p1), .val (.long q2), .second, .val (.int p3), .val (.long (Int64.ofNat r1)), .second, .val (.long (((q2 &&& (9223372036854775807 : Int64)).toUInt64 >>> ((p3 &&& (63 : Int32)) &&& 0x3f).toInt64.toUInt64).toInt64)), .second, .unset, .unset, .unset, .unset, .unset, .unset, .unset, .unset, .unset] [])) t → Steps p.tables e below (s₁.setTop (entryFrame m #[(.long q0), (.int p1), (.long q2), (.int p3)] maxLocals)) t := fun t kt => by
    refine pre176 _ ?_
    show Steps p.tables e below (s₁.setTop (mkF m 12 #[.val (.long q0), .second, .val (.int p1), .val (.long q2), .second, .val (.int p3), .val (.long (Int64.ofNat r1)), .second, .unset, .unset, .unset, .unset, .unset, .unset, .unset, .unset, .unset, .unset, .unset] [])) _
    refine XS.lloadN X0.here hx rfl (hb hby at_12) rfl ?_
    show Steps p.tables e below (s₁.setTop (mkF m 13 #[.val (.long q0), .second, .val (.int p1), .val (.long q2), .second, .val (.int p3), .val (.long (Int64.ofNat r1)), .second, .unset, .unset, .unset, .unset, .unset, .unset, .unset, .unset, .unset, .unset, .unset] [(.long q2)])) _
    refine X0.ldc2Long hx hown (mvT hZ (hw _ (List.mem_of_getElem? (i := 0) rfl))) (g := (mkF m 13 #[.val (.long q0), .second, .val (.int p1), .val (.long q2), .second, .val (.int p3), .val (.long (Int64.ofNat r1)), .second, .unset, .unset, .unset, .unset, .unset, .unset, .unset, .unset, .unset, .unset, .unset] [(.long q2)])) rfl (hb hby at_13) _ ?_
    show Steps p.tables e below (s₁.setTop (mkF m 16 #[.val (.long q0), .second, .val (.int p1), .val (.long q2), .second, .val (.int p3), .val (.long (Int64.ofNat r1)), .second, .unset, .unset, .unset, .unset, .unset, .unset, .unset, .unset, .unset, .unset, .unset] [(.long (9223372036854775807 : Int64)), (.long q2)])) _
    refine XS.land X0.here hx rfl (hb hby at_16) rfl ?_
    show Steps p.tables e below (s₁.setTop (mkF m 17 #[.val (.long q0), .second, .val (.int p1), .val (.long q2), .second, .val (.int p3), .val (.long (Int64.ofNat r1)), .second, .unset, .unset, .unset, .unset, .unset, .unset, .unset, .unset, .unset, .unset, .unset] [(.long (q2 &&& (9223372036854775807 : Int64)))])) _
    refine XS.iload X0.here hx rfl (hb hby at_17) rfl ?_
    show Steps p.tables e below (s₁.setTop (mkF m 19 #[.val (.long q0), .second, .val (.int p1), .val (.long q2), .second, .val (.int p3), .val (.long (Int64.ofNat r1)), .second, .unset, .unset, .unset, .unset, .unset, .unset, .unset, .unset, .unset, .unset, .unset] [(.int p3), (.long (q2 &&& (9223372036854775807 : Int64)))])) _
    refine XS.bipush X0.here hx rfl (hb hby at_19) ?_
    show Steps p.tables e below (s₁.setTop (mkF m 21 #[.val (.long q0), .second, .val (.int p1), .val (.long q2), .second, .val (.int p3), .val (.long (Int64.ofNat r1)), .second, .unset, .unset, .unset, .unset, .unset, .unset, .unset, .unset, .unset, .unset, .unset] [(.int (63 : Int32)), (.int p3), (.long (q2 &&& (9223372036854775807 : Int64)))])) _
    refine XS.iand X0.here hx rfl (hb hby at_21) rfl ?_
    show Steps p.tables e below (s₁.setTop (mkF m 22 #[.val (.long q0), .second, .val (.int p1), .val (.long q2), .second, .val (.int p3), .val (.long (Int64.ofNat r1)), .second, .unset, .unset, .unset, .unset, .unset, .unset, .unset, .unset, .unset, .unset, .unset] [(.int (p3 &&& (63 : Int32))), (.long (q2 &&& (9223372036854775807 : Int64)))])) _
    refine XS.lushr X0.here hx rfl (hb hby at_22) rfl ?_
    show Steps p.tables e below (s₁.setTop (mkF m 23 #[.val (.long q0), .second, .val (.int p1), .val (.long q2), .second, .val (.int p3), .val (.long (Int64.ofNat r1)), .second, .unset, .unset, .unset, .unset, .unset, .unset, .unset, .unset, .unset, .unset, .unset] [(.long (((q2 &&& (9223372036854775807 : Int64)).toUInt64 >>> ((p3 &&& (63 : Int32)) &&& 0x3f).toInt64.toUInt64).toInt64))])) _
    refine XS.lstore X0.here hx rfl (hb hby at_23) rfl (l' := #[.val (.long q0), .second, .val (.int p1), .val (.long q2), .second, .val (.int p3), .val (.long (Int64.ofNat r1)), .second, .val (.long (((q2 &&& (9223372036854775807 : Int64)).toUInt64 >>> ((p3 &&& (63 : Int32)) &&& 0x3f).toInt64.toUInt64).toInt64)), .second, .unset, .unset, .unset, .unset, .unset, .unset, .unset, .unset, .unset]) rfl ?_
    show Steps p.tables e below (s₁.setTop (mkF m 25 #[.val (.long q0), .second, .val (.int p1), .val (.long q2), .second, .val (.int p3), .val (.long (Int64.ofNat r1)), .second, .val (.long (((q2 &&& (9223372036854775807 : Int64)).toUInt64 >>> ((p3 &&& (63 : Int32)) &&& 0x3f).toInt64.toUInt64).toInt64)), .second, .unset, .unset, .unset, .unset, .unset, .unset, .unset, .unset, .unset] [])) _
    exact kt
  obtain ⟨r2, hr2, er2⟩ := own_nat (((q2 &&& (9223372036854775807 : Int64)).toUInt64 >>> ((p3 &&& (63 : Int32)) &&& 0x3f).toInt64.toUInt64).toInt64) (own_nn _ _)
  obtain ⟨k2, hk28, hk2⟩ := own_Len8 hr2
  have pre178 : ∀ t, Steps p.tables e below (s₁.setTop (mkF m 25 #[.val (.long q0), .second, .val (.int p1), .val (.long q2), .second, .val (.int p3), .val (.long (Int64.ofNat r1)), .second, .val (.long (Int64.ofNat r2)), .second, .unset, .unset, .unset, .unset, .unset, .unset, .unset, .unset, .unset] [])) t → Steps p.tables e below (s₁.setTop (entryFrame m #[(.long q0), (.int p1), (.long q2), (.int p3)] maxLocals)) t := fun t kt => pre177 t (by rw [er2]; exact kt)
  obtain ⟨_, _, ⟨T179, L179, k179, n179⟩, -, X179, ⟨Lc179, hQ179, l179, y179, z179⟩, st179⟩ := Jvm.LawKit.callS X0 hx (y := (⟨"com/example/wee_find/weefind/HeldMatchesWritePinLaw", "byteCount", "(J)I"⟩ : MethodName)) hown (mvT hZ (hw _ (List.mem_of_getElem? (i := 1) rfl))) (mvT hZ (hw _ (List.mem_of_getElem? (i := 2) rfl))) (mvT hZ (hw _ (List.mem_of_getElem? (i := 3) rfl))) (mvT hZ (hw _ (List.mem_of_getElem? (i := 4) rfl))) (by decide) (backOf (W := 0) (rm1 l Z aq hw [] (Int64.ofNat r1) h0 n0 Z0 ) hZ (hw _ (List.mem_of_getElem? (i := 4) rfl)) (hw _ (List.mem_of_getElem? (i := 3) rfl)) (by decide) (by decide)) (g := (mkF m 27 #[.val (.long q0), .second, .val (.int p1), .val (.long q2), .second, .val (.int p3), .val (.long (Int64.ofNat r1)), .second, .val (.long (Int64.ofNat r2)), .second, .unset, .unset, .unset, .unset, .unset, .unset, .unset, .unset, .unset] [(.long (Int64.ofNat r1))])) rfl (by rw [hml]; rfl) (argsL := [(.long (Int64.ofNat r1))]) (rest := []) (lenOf pd87993097 rfl) rfl (by show 2 * 0 + _ ≤ _; exact Nat.le_of_eq rfl) (hb hby at_27) (fun _ _ => ⟨rfl, e0, (by decide : 0 + 0 ≤ _), (by decide : 0 + 0 ≤ _)⟩)
  dsimp only [Pt.U, Pt.locs, Pt.cells, Pt.slots] at X179 l179 y179 z179 st179 hQ179
  subst l179 y179 z179
  obtain ⟨rfl, N179q, e179⟩ := hQ179
  have N180 := Fr.app N0 N179q
  obtain ⟨_, _, ⟨T181, L181, k181, n181⟩, -, X181, ⟨Lc181, hQ181, l181, y181, z181⟩, st181⟩ := Jvm.LawKit.callS X179 hx (y := (⟨"com/example/wee_find/weefind/HeldMatchesWritePinLaw", "byteCount", "(J)I"⟩ : MethodName)) hown (mvT hZ (hw _ (List.mem_of_getElem? (i := 1) rfl))) (mvT hZ (hw _ (List.mem_of_getElem? (i := 2) rfl))) (mvT hZ (hw _ (List.mem_of_getElem? (i := 3) rfl))) (mvT hZ (hw _ (List.mem_of_getElem? (i := 4) rfl))) (by decide) (backOf (W := 0) (rm1 l Z aq hw [] (Int64.ofNat r2) h0 n0 Z0 ) hZ (hw _ (List.mem_of_getElem? (i := 4) rfl)) (hw _ (List.mem_of_getElem? (i := 3) rfl)) (by decide) (by decide)) (g := (mkF m 34 #[.val (.long q0), .second, .val (.int p1), .val (.long q2), .second, .val (.int p3), .val (.long (Int64.ofNat r1)), .second, .val (.long (Int64.ofNat r2)), .second, .val (.int (own_cnt (Int64.ofNat r1))), .unset, .unset, .unset, .unset, .unset, .unset, .unset, .unset] [(.long (Int64.ofNat r2))])) rfl (by rw [hml]; rfl) (argsL := [(.long (Int64.ofNat r2))]) (rest := []) (lenOf pd87993097 rfl) rfl (by show 2 * 0 + _ ≤ _; exact Nat.le_of_eq rfl) (hb hby at_34) (fun _ _ => ⟨rfl, e179, (by decide : 0 + 0 ≤ _), (by decide : 0 + 0 ≤ _)⟩)
  dsimp only [Pt.U, Pt.locs, Pt.cells, Pt.slots] at X181 l181 y181 z181 st181 hQ181
  subst l181 y181 z181
  obtain ⟨rfl, N181q, e181⟩ := hQ181
  have N182 := Fr.app N180 N181q
  obtain ⟨T183, h183, X183, e183, E183, A183, D183, -, st183⟩ := newO X181 hx hZ hown (hw _ (List.mem_of_getElem? (i := 13) rfl)) (hw _ (List.mem_of_getElem? (i := 14) rfl)) (hw _ (List.mem_of_getElem? (i := 15) rfl)) e181 (g := (mkF m 39 #[.val (.long q0), .second, .val (.int p1), .val (.long q2), .second, .val (.int p3), .val (.long (Int64.ofNat r1)), .second, .val (.long (Int64.ofNat r2)), .second, .val (.int (own_cnt (Int64.ofNat r1))), .val (.int (own_cnt (Int64.ofNat r2))), .unset, .unset, .unset, .unset, .unset, .unset, .unset] [])) rfl (hb hby at_39) (by decide) (by decide)
  obtain ⟨b183, g183⟩ : ∃ z, z = h0.size := ⟨_, rfl⟩
  rw [← g183] at A183 D183 st183
  have g_b183 : n0 ≤ b183 := Nat.le_trans Z0 (Nat.le_of_eq g183.symm)
  have Z184 : n0 ≤ h183.size := Nat.le_trans Z0 E183.1
  have F183_bytes : Fld Z h183 b183 "com/example/wee_find/weefind/HeldMatches" "bytes" "[B" .null := D183 (Or.inr (hw _ (List.mem_of_getElem? (i := 31) rfl))) (ty := (.array .byte)) (by decide)
  have F183_mask : Fld Z h183 b183 "com/example/wee_find/weefind/HeldMatches" "mask" "I" (.int (0 : Int32)) := D183 (Or.inr (hw _ (List.mem_of_getElem? (i := 33) rfl))) (ty := .int) (by decide)
  have F183_limit : Fld Z h183 b183 "com/example/wee_find/weefind/HeldMatches" "limit" "J" (.long (0 : Int64)) := D183 (Or.inl (hw _ (List.mem_of_getElem? (i := 35) rfl))) (ty := .long) (by decide)
  have F183_written : Fld Z h183 b183 "com/example/wee_find/weefind/HeldMatches" "written" "J" (.long (0 : Int64)) := D183 (Or.inl (hw _ (List.mem_of_getElem? (i := 43) rfl))) (ty := .long) (by decide)
  have F183_taking : Fld Z h183 b183 "com/example/wee_find/weefind/HeldMatches" "taking" "J" (.long (0 : Int64)) := D183 (Or.inl (hw _ (List.mem_of_getElem? (i := 56) rfl))) (ty := .long) (by decide)
  obtain ⟨_, _, ⟨T185, L185, k185, n185⟩, -, X185, ⟨Lc185, hQ185, l185, y185, z185⟩, st185⟩ := X183.specialBack hx (y := (⟨"com/example/wee_find/weefind/HeldMatches", "<init>", "(I)V"⟩ : MethodName)) rfl hown (mvT hZ (hw _ (List.mem_of_getElem? (i := 16) rfl))) (mvT hZ (hw _ (List.mem_of_getElem? (i := 17) rfl))) (mvT hZ (hw _ (List.mem_of_getElem? (i := 18) rfl))) (by decide) (backOf (W := 1) (rm2 l Z aq hw [] b183 h183 n0 Z184 A183 F183_bytes F183_mask F183_limit F183_written F183_taking g_b183) hZ (hw _ (List.mem_of_getElem? (i := 18) rfl)) (hw _ (List.mem_of_getElem? (i := 15) rfl)) (by decide) (by decide)) (g := (mkF m 45 #[.val (.long q0), .second, .val (.int p1), .val (.long q2), .second, .val (.int p3), .val (.long (Int64.ofNat r1)), .second, .val (.long (Int64.ofNat r2)), .second, .val (.int (own_cnt (Int64.ofNat r1))), .val (.int (own_cnt (Int64.ofNat r2))), .unset, .unset, .unset, .unset, .unset, .unset, .unset] [(.int (16 : Int32)), (.ref b183), (.ref b183)])) rfl (by rw [hml]; rfl) (Steps.refl _) (a := b183) (argsL := [(.int (16 : Int32))]) (rest := [(.ref b183)]) (lenOf pd87992021 rfl) rfl (by show 2 * 0 + _ ≤ _; exact Nat.le_of_eq rfl) (hb hby at_45) (fun _ _ => ⟨rfl, e183, (by decide : 1 + 1 ≤ _), (by decide : 6 + 16 ≤ _)⟩)
  dsimp only [Pt.U, Pt.locs, Pt.cells, Pt.slots] at X185 l185 y185 z185 st185 hQ185
  subst l185 y185 z185
  obtain ⟨r185, rfl, N185q, K185, s185, y185_0, y185_1, y185_2, y185_3, y185_4, y185_5, y185_6⟩ := hQ185
  have g_r185 : n0 ≤ r185 := Nat.le_trans Z184 s185
  have ne_r185 : b183 ≠ r185 := Nat.ne_of_lt (Nat.lt_of_lt_of_le A183.lt s185)
  have Z186 : n0 ≤ T185.heap.size := Nat.le_trans Z184 K185.1
  have N187 := Fr.app N182 N185q
  obtain ⟨cq188, kq188, q188a, q188b, q188c⟩ := isOf hZ rfl y185_0
  obtain ⟨_, _, ⟨T188, L188, k188, n188⟩, -, X188, ⟨Lc188, hQ188, l188, y188, z188⟩, st188⟩ := X185.virtualBack hx (y := (⟨"com/example/wee_find/weefind/HeldMatches", "write", "(J)V"⟩ : MethodName)) (z := (⟨"com/example/wee_find/weefind/HeldMatches", "write", "(J)V"⟩ : MethodName)) hown (mvT hZ (hw _ (List.mem_of_getElem? (i := 36) rfl))) (mvT hZ (hw _ (List.mem_of_getElem? (i := 37) rfl))) (notFace_of_selects (args := #[]) (mvT hZ (hw _ (List.mem_of_getElem? (i := 39) rfl)))) (mvT hZ (hw _ (List.mem_of_getElem? (i := 39) rfl))) (mvT hZ (hw _ (List.mem_of_getElem? (i := 38) rfl))) (by decide) (backOf (W := 0) (rm5 l Z aq hw [] b183 r185 k1 r1 0 (fun _ => (0 : Int32)) (16 : Int64) (Int64.ofNat 0) T185.heap n0 Z186 y185_0 y185_1 y185_2 y185_3 y185_4 y185_5 y185_6 g_b183 g_r185 (Ne.symm ne_r185) hk1 hr1 (by omega) (by omega)) hZ (hw _ (List.mem_of_getElem? (i := 40) rfl)) (hw _ (List.mem_of_getElem? (i := 15) rfl)) (by decide) (by decide)) q188a q188c (g := (mkF m 54 #[.val (.long q0), .second, .val (.int p1), .val (.long q2), .second, .val (.int p3), .val (.long (Int64.ofNat r1)), .second, .val (.long (Int64.ofNat r2)), .second, .val (.int (own_cnt (Int64.ofNat r1))), .val (.int (own_cnt (Int64.ofNat r2))), .val (.ref b183), .unset, .unset, .unset, .unset, .unset, .unset] [(.long (Int64.ofNat r1)), (.ref b183)])) rfl (by rw [hml]; rfl) (Steps.refl _) (argsL := [(.long (Int64.ofNat r1))]) (rest := []) (lenOf pd87993110 rfl) rfl (by show 2 * 0 + _ ≤ _; exact Nat.le_of_eq rfl) (hb hby at_54) (fun _ _ => ⟨rfl, rfl, (by decide : 2 + 0 ≤ _), (by decide : 22 + 0 ≤ _)⟩)
  dsimp only [Pt.U, Pt.locs, Pt.cells, Pt.slots] at X188 l188 y188 z188 st188 hQ188
  subst l188 y188 z188
  obtain ⟨f188, rfl, N188q, K188, y188_0, y188_1, y188_2, y188_3, y188_4, y188_5, y188_6, enc188⟩ := hQ188
  have Z189 : n0 ≤ T188.heap.size := Nat.le_trans Z186 K188.1
  have N190 := Fr.app N187 N188q
  obtain ⟨cq191, kq191, q191a, q191b, q191c⟩ := isOf hZ rfl y188_0
  obtain ⟨_, _, ⟨T191, L191, k191, n191⟩, -, X191, ⟨Lc191, hQ191, l191, y191, z191⟩, st191⟩ := X188.virtualBack hx (y := (⟨"com/example/wee_find/weefind/HeldMatches", "fits", "()Z"⟩ : MethodName)) (z := (⟨"com/example/wee_find/weefind/HeldMatches", "fits", "()Z"⟩ : MethodName)) hown (mvT hZ (hw _ (List.mem_of_getElem? (i := 44) rfl))) (mvT hZ (hw _ (List.mem_of_getElem? (i := 45) rfl))) (notFace_of_selects (args := #[]) (mvT hZ (hw _ (List.mem_of_getElem? (i := 47) rfl)))) (mvT hZ (hw _ (List.mem_of_getElem? (i := 47) rfl))) (mvT hZ (hw _ (List.mem_of_getElem? (i := 46) rfl))) (by decide) (backOf (W := 0) (rm6 l Z aq hw [] b183 r185 (15 : Int32) (16 : Int64) (Int64.ofNat (0 + k1 + 1)) (Int64.ofNat 0) T188.heap n0 Z189 y188_0 y188_1 y188_2 y188_3 y188_4 y188_5) hZ (hw _ (List.mem_of_getElem? (i := 48) rfl)) (hw _ (List.mem_of_getElem? (i := 15) rfl)) (by decide) (by decide)) q191a q191c (g := (mkF m 59 #[.val (.long q0), .second, .val (.int p1), .val (.long q2), .second, .val (.int p3), .val (.long (Int64.ofNat r1)), .second, .val (.long (Int64.ofNat r2)), .second, .val (.int (own_cnt (Int64.ofNat r1))), .val (.int (own_cnt (Int64.ofNat r2))), .val (.ref b183), .unset, .unset, .unset, .unset, .unset, .unset] [(.ref b183)])) rfl (by rw [hml]; rfl) (Steps.refl _) (argsL := []) (rest := []) (lenOf pd93422000 rfl) rfl (by show 2 * 0 + _ ≤ _; exact Nat.le_of_eq rfl) (hb hby at_59) (fun _ _ => ⟨rfl, rfl, (by decide : 2 + 0 ≤ _), (by decide : 22 + 0 ≤ _)⟩)
  dsimp only [Pt.U, Pt.locs, Pt.cells, Pt.slots] at X191 l191 y191 z191 st191 hQ191
  subst l191 y191 z191
  obtain ⟨rfl, N191q, e191⟩ := hQ191
  have N192 := Fr.app N190 N191q
  obtain ⟨cq193, kq193, q193a, q193b, q193c⟩ := isOf hZ e191 y188_0
  obtain ⟨_, _, ⟨T193, L193, k193, n193⟩, -, X193, ⟨Lc193, hQ193, l193, y193, z193⟩, st193⟩ := X191.virtualBack hx (y := (⟨"com/example/wee_find/weefind/HeldMatches", "take", "()J"⟩ : MethodName)) (z := (⟨"com/example/wee_find/weefind/HeldMatches", "take", "()J"⟩ : MethodName)) hown (mvT hZ (hw _ (List.mem_of_getElem? (i := 50) rfl))) (mvT hZ (hw _ (List.mem_of_getElem? (i := 51) rfl))) (notFace_of_selects (args := #[]) (mvT hZ (hw _ (List.mem_of_getElem? (i := 53) rfl)))) (mvT hZ (hw _ (List.mem_of_getElem? (i := 53) rfl))) (mvT hZ (hw _ (List.mem_of_getElem? (i := 52) rfl))) (by decide) (backOf (W := 0) (rm7 l Z aq hw [] b183 r185 k1 r1 0 f188 (16 : Int64) (Int64.ofNat (0 + k1 + 1)) T188.heap n0 Z189 y188_0 y188_1 y188_2 y188_3 y188_4 y188_5 y188_6 g_b183 (Ne.symm ne_r185) enc188 hr1 (by omega) (by omega)) hZ (hw _ (List.mem_of_getElem? (i := 54) rfl)) (hw _ (List.mem_of_getElem? (i := 15) rfl)) (by decide) (by decide)) q193a q193c (g := (mkF m 66 #[.val (.long q0), .second, .val (.int p1), .val (.long q2), .second, .val (.int p3), .val (.long (Int64.ofNat r1)), .second, .val (.long (Int64.ofNat r2)), .second, .val (.int (own_cnt (Int64.ofNat r1))), .val (.int (own_cnt (Int64.ofNat r2))), .val (.ref b183), .val (.int (if (16 : Int64) < ((Int64.ofNat (0 + k1 + 1)) + (10 : Int64)) then (0 : Int32) else (1 : Int32))), .unset, .unset, .unset, .unset, .unset] [(.ref b183)])) rfl (by rw [hml]; rfl) (Steps.refl _) (argsL := []) (rest := []) (lenOf pd93421984 rfl) rfl (by show 2 * 0 + _ ≤ _; exact Nat.le_of_eq rfl) (hb hby at_66) (fun _ _ => ⟨rfl, e191, (by decide : 2 + 0 ≤ _), (by decide : 22 + 0 ≤ _)⟩)
  dsimp only [Pt.U, Pt.locs, Pt.cells, Pt.slots] at X193 l193 y193 z193 st193 hQ193
  subst l193 y193 z193
  obtain ⟨rfl, N193q, K193, y193_0, y193_1, y193_2, y193_3, y193_4, y193_5, y193_6⟩ := hQ193
  have V194 := y188_6.keep K193 (ninS (Ne.symm ne_r185) nin0)
  have Z195 : n0 ≤ T193.heap.size := Nat.le_trans Z189 K193.1
  have N196 := Fr.app N192 N193q
  obtain ⟨cq197, kq197, q197a, q197b, q197c⟩ := isOf hZ rfl y193_0
  obtain ⟨_, _, ⟨T197, L197, k197, n197⟩, -, X197, ⟨Lc197, hQ197, l197, y197, z197⟩, st197⟩ := X193.virtualBack hx (y := (⟨"com/example/wee_find/weefind/HeldMatches", "write", "(J)V"⟩ : MethodName)) (z := (⟨"com/example/wee_find/weefind/HeldMatches", "write", "(J)V"⟩ : MethodName)) hown (mvT hZ (hw _ (List.mem_of_getElem? (i := 36) rfl))) (mvT hZ (hw _ (List.mem_of_getElem? (i := 37) rfl))) (notFace_of_selects (args := #[]) (mvT hZ (hw _ (List.mem_of_getElem? (i := 39) rfl)))) (mvT hZ (hw _ (List.mem_of_getElem? (i := 39) rfl))) (mvT hZ (hw _ (List.mem_of_getElem? (i := 38) rfl))) (by decide) (backOf (W := 0) (rm5 l Z aq hw [] b183 r185 k2 r2 (0 + k1 + 1) f188 (16 : Int64) (Int64.ofNat (0 + k1 + 1)) T193.heap n0 Z195 y193_0 y193_1 y193_2 y193_3 y193_4 y193_5 y193_6 g_b183 g_r185 (Ne.symm ne_r185) hk2 hr2 (by omega) (by omega)) hZ (hw _ (List.mem_of_getElem? (i := 40) rfl)) (hw _ (List.mem_of_getElem? (i := 15) rfl)) (by decide) (by decide)) q197a q197c (g := (mkF m 75 #[.val (.long q0), .second, .val (.int p1), .val (.long q2), .second, .val (.int p3), .val (.long (Int64.ofNat r1)), .second, .val (.long (Int64.ofNat r2)), .second, .val (.int (own_cnt (Int64.ofNat r1))), .val (.int (own_cnt (Int64.ofNat r2))), .val (.ref b183), .val (.int (if (16 : Int64) < ((Int64.ofNat (0 + k1 + 1)) + (10 : Int64)) then (0 : Int32) else (1 : Int32))), .val (.long (Int64.ofNat r1)), .second, .unset, .unset, .unset] [(.long (Int64.ofNat r2)), (.ref b183)])) rfl (by rw [hml]; rfl) (Steps.refl _) (argsL := [(.long (Int64.ofNat r2))]) (rest := []) (lenOf pd87993110 rfl) rfl (by show 2 * 0 + _ ≤ _; exact Nat.le_of_eq rfl) (hb hby at_75) (fun _ _ => ⟨rfl, rfl, (by decide : 2 + 0 ≤ _), (by decide : 22 + 0 ≤ _)⟩)
  dsimp only [Pt.U, Pt.locs, Pt.cells, Pt.slots] at X197 l197 y197 z197 st197 hQ197
  subst l197 y197 z197
  obtain ⟨f197, rfl, N197q, K197, y197_0, y197_1, y197_2, y197_3, y197_4, y197_5, y197_6, enc197⟩ := hQ197
  have Z198 : n0 ≤ T197.heap.size := Nat.le_trans Z195 K197.1
  have N199 := Fr.app N196 N197q
  obtain ⟨cq200, kq200, q200a, q200b, q200c⟩ := isOf hZ rfl y197_0
  obtain ⟨_, _, ⟨T200, L200, k200, n200⟩, -, X200, ⟨Lc200, hQ200, l200, y200, z200⟩, st200⟩ := X197.virtualBack hx (y := (⟨"com/example/wee_find/weefind/HeldMatches", "fits", "()Z"⟩ : MethodName)) (z := (⟨"com/example/wee_find/weefind/HeldMatches", "fits", "()Z"⟩ : MethodName)) hown (mvT hZ (hw _ (List.mem_of_getElem? (i := 44) rfl))) (mvT hZ (hw _ (List.mem_of_getElem? (i := 45) rfl))) (notFace_of_selects (args := #[]) (mvT hZ (hw _ (List.mem_of_getElem? (i := 47) rfl)))) (mvT hZ (hw _ (List.mem_of_getElem? (i := 47) rfl))) (mvT hZ (hw _ (List.mem_of_getElem? (i := 46) rfl))) (by decide) (backOf (W := 0) (rm6 l Z aq hw [] b183 r185 (15 : Int32) (16 : Int64) (Int64.ofNat ((0 + k1 + 1) + k2 + 1)) (Int64.ofNat (0 + k1 + 1)) T197.heap n0 Z198 y197_0 y197_1 y197_2 y197_3 y197_4 y197_5) hZ (hw _ (List.mem_of_getElem? (i := 48) rfl)) (hw _ (List.mem_of_getElem? (i := 15) rfl)) (by decide) (by decide)) q200a q200c (g := (mkF m 80 #[.val (.long q0), .second, .val (.int p1), .val (.long q2), .second, .val (.int p3), .val (.long (Int64.ofNat r1)), .second, .val (.long (Int64.ofNat r2)), .second, .val (.int (own_cnt (Int64.ofNat r1))), .val (.int (own_cnt (Int64.ofNat r2))), .val (.ref b183), .val (.int (if (16 : Int64) < ((Int64.ofNat (0 + k1 + 1)) + (10 : Int64)) then (0 : Int32) else (1 : Int32))), .val (.long (Int64.ofNat r1)), .second, .unset, .unset, .unset] [(.ref b183)])) rfl (by rw [hml]; rfl) (Steps.refl _) (argsL := []) (rest := []) (lenOf pd93422000 rfl) rfl (by show 2 * 0 + _ ≤ _; exact Nat.le_of_eq rfl) (hb hby at_80) (fun _ _ => ⟨rfl, rfl, (by decide : 2 + 0 ≤ _), (by decide : 22 + 0 ≤ _)⟩)
  dsimp only [Pt.U, Pt.locs, Pt.cells, Pt.slots] at X200 l200 y200 z200 st200 hQ200
  subst l200 y200 z200
  obtain ⟨rfl, N200q, e200⟩ := hQ200
  have N201 := Fr.app N199 N200q
  obtain ⟨cq202, kq202, q202a, q202b, q202c⟩ := isOf hZ e200 y197_0
  obtain ⟨_, _, ⟨T202, L202, k202, n202⟩, -, X202, ⟨Lc202, hQ202, l202, y202, z202⟩, st202⟩ := X200.virtualBack hx (y := (⟨"com/example/wee_find/weefind/HeldMatches", "take", "()J"⟩ : MethodName)) (z := (⟨"com/example/wee_find/weefind/HeldMatches", "take", "()J"⟩ : MethodName)) hown (mvT hZ (hw _ (List.mem_of_getElem? (i := 50) rfl))) (mvT hZ (hw _ (List.mem_of_getElem? (i := 51) rfl))) (notFace_of_selects (args := #[]) (mvT hZ (hw _ (List.mem_of_getElem? (i := 53) rfl)))) (mvT hZ (hw _ (List.mem_of_getElem? (i := 53) rfl))) (mvT hZ (hw _ (List.mem_of_getElem? (i := 52) rfl))) (by decide) (backOf (W := 0) (rm7 l Z aq hw [] b183 r185 k2 r2 (0 + k1 + 1) f197 (16 : Int64) (Int64.ofNat ((0 + k1 + 1) + k2 + 1)) T197.heap n0 Z198 y197_0 y197_1 y197_2 y197_3 y197_4 y197_5 y197_6 g_b183 (Ne.symm ne_r185) enc197 hr2 (by omega) (by omega)) hZ (hw _ (List.mem_of_getElem? (i := 54) rfl)) (hw _ (List.mem_of_getElem? (i := 15) rfl)) (by decide) (by decide)) q202a q202c (g := (mkF m 87 #[.val (.long q0), .second, .val (.int p1), .val (.long q2), .second, .val (.int p3), .val (.long (Int64.ofNat r1)), .second, .val (.long (Int64.ofNat r2)), .second, .val (.int (own_cnt (Int64.ofNat r1))), .val (.int (own_cnt (Int64.ofNat r2))), .val (.ref b183), .val (.int (if (16 : Int64) < ((Int64.ofNat (0 + k1 + 1)) + (10 : Int64)) then (0 : Int32) else (1 : Int32))), .val (.long (Int64.ofNat r1)), .second, .val (.int (if (16 : Int64) < ((Int64.ofNat ((0 + k1 + 1) + k2 + 1)) + (10 : Int64)) then (0 : Int32) else (1 : Int32))), .unset, .unset] [(.ref b183)])) rfl (by rw [hml]; rfl) (Steps.refl _) (argsL := []) (rest := []) (lenOf pd93421984 rfl) rfl (by show 2 * 0 + _ ≤ _; exact Nat.le_of_eq rfl) (hb hby at_87) (fun _ _ => ⟨rfl, e200, (by decide : 2 + 0 ≤ _), (by decide : 22 + 0 ≤ _)⟩)
  dsimp only [Pt.U, Pt.locs, Pt.cells, Pt.slots] at X202 l202 y202 z202 st202 hQ202
  subst l202 y202 z202
  obtain ⟨rfl, N202q, K202, y202_0, y202_1, y202_2, y202_3, y202_4, y202_5, y202_6⟩ := hQ202
  have V203 := y197_6.keep K202 (ninS (Ne.symm ne_r185) nin0)
  have Z204 : n0 ≤ T202.heap.size := Nat.le_trans Z198 K202.1
  have N205 := Fr.app N201 N202q
  have pre206 : ∀ t, Steps p.tables e below (T202.setTop (mkF m 117 #[.val (.long q0), .second, .val (.int p1), .val (.long q2), .second, .val (.int p3), .val (.long (Int64.ofNat r1)), .second, .val (.long (Int64.ofNat r2)), .second, .val (.int (own_cnt (Int64.ofNat r1))), .val (.int (own_cnt (Int64.ofNat r2))), .val (.ref b183), .val (.int (if (16 : Int64) < ((Int64.ofNat (0 + k1 + 1)) + (10 : Int64)) then (0 : Int32) else (1 : Int32))), .val (.long (Int64.ofNat r1)), .second, .val (.int (if (16 : Int64) < ((Int64.ofNat ((0 + k1 + 1) + k2 + 1)) + (10 : Int64)) then (0 : Int32) else (1 : Int32))), .val (.long (Int64.ofNat r2)), .second] [(.int (16 : Int32)), (.int ((own_cnt (Int64.ofNat r1)) + (10 : Int32))), (.int (if (16 : Int64) < ((Int64.ofNat (0 + k1 + 1)) + (10 : Int64)) then (0 : Int32) else (1 : Int32)))])) t → Steps p.tables e below (s₁.setTop (entryFrame m #[(.long q0), (.int p1), (.long q2), (.int p3)] maxLocals)) t := fun t kt => by
    refine pre178 _ ?_
    show Steps p.tables e below (s₁.setTop (mkF m 25 #[.val (.long q0), .second, .val (.int p1), .val (.long q2), .second, .val (.int p3), .val (.long (Int64.ofNat r1)), .second, .val (.long (Int64.ofNat r2)), .second, .unset, .unset, .unset, .unset, .unset, .unset, .unset, .unset, .unset] [])) _
    refine XS.lload X0.here hx rfl (hb hby at_25) rfl ?_
    show Steps p.tables e below (s₁.setTop (mkF m 27 #[.val (.long q0), .second, .val (.int p1), .val (.long q2), .second, .val (.int p3), .val (.long (Int64.ofNat r1)), .second, .val (.long (Int64.ofNat r2)), .second, .unset, .unset, .unset, .unset, .unset, .unset, .unset, .unset, .unset] [(.long (Int64.ofNat r1))])) _
    refine st179 _ ?_
    show Steps p.tables e below (T179.setTop (mkF m 30 #[.val (.long q0), .second, .val (.int p1), .val (.long q2), .second, .val (.int p3), .val (.long (Int64.ofNat r1)), .second, .val (.long (Int64.ofNat r2)), .second, .unset, .unset, .unset, .unset, .unset, .unset, .unset, .unset, .unset] [(.int (own_cnt (Int64.ofNat r1)))])) _
    refine XS.istore X179.here hx rfl (hb hby at_30) rfl (l' := #[.val (.long q0), .second, .val (.int p1), .val (.long q2), .second, .val (.int p3), .val (.long (Int64.ofNat r1)), .second, .val (.long (Int64.ofNat r2)), .second, .val (.int (own_cnt (Int64.ofNat r1))), .unset, .unset, .unset, .unset, .unset, .unset, .unset, .unset]) rfl ?_
    show Steps p.tables e below (T179.setTop (mkF m 32 #[.val (.long q0), .second, .val (.int p1), .val (.long q2), .second, .val (.int p3), .val (.long (Int64.ofNat r1)), .second, .val (.long (Int64.ofNat r2)), .second, .val (.int (own_cnt (Int64.ofNat r1))), .unset, .unset, .unset, .unset, .unset, .unset, .unset, .unset] [])) _
    refine XS.lload X179.here hx rfl (hb hby at_32) rfl ?_
    show Steps p.tables e below (T179.setTop (mkF m 34 #[.val (.long q0), .second, .val (.int p1), .val (.long q2), .second, .val (.int p3), .val (.long (Int64.ofNat r1)), .second, .val (.long (Int64.ofNat r2)), .second, .val (.int (own_cnt (Int64.ofNat r1))), .unset, .unset, .unset, .unset, .unset, .unset, .unset, .unset] [(.long (Int64.ofNat r2))])) _
    refine st181 _ ?_
    show Steps p.tables e below (T181.setTop (mkF m 37 #[.val (.long q0), .second, .val (.int p1), .val (.long q2), .second, .val (.int p3), .val (.long (Int64.ofNat r1)), .second, .val (.long (Int64.ofNat r2)), .second, .val (.int (own_cnt (Int64.ofNat r1))), .unset, .unset, .unset, .unset, .unset, .unset, .unset, .unset] [(.int (own_cnt (Int64.ofNat r2)))])) _
    refine XS.istore X181.here hx rfl (hb hby at_37) rfl (l' := #[.val (.long q0), .second, .val (.int p1), .val (.long q2), .second, .val (.int p3), .val (.long (Int64.ofNat r1)), .second, .val (.long (Int64.ofNat r2)), .second, .val (.int (own_cnt (Int64.ofNat r1))), .val (.int (own_cnt (Int64.ofNat r2))), .unset, .unset, .unset, .unset, .unset, .unset, .unset]) rfl ?_
    show Steps p.tables e below (T181.setTop (mkF m 39 #[.val (.long q0), .second, .val (.int p1), .val (.long q2), .second, .val (.int p3), .val (.long (Int64.ofNat r1)), .second, .val (.long (Int64.ofNat r2)), .second, .val (.int (own_cnt (Int64.ofNat r1))), .val (.int (own_cnt (Int64.ofNat r2))), .unset, .unset, .unset, .unset, .unset, .unset, .unset] [])) _
    refine st183 _ ?_
    show Steps p.tables e below (T183.setTop (mkF m 42 #[.val (.long q0), .second, .val (.int p1), .val (.long q2), .second, .val (.int p3), .val (.long (Int64.ofNat r1)), .second, .val (.long (Int64.ofNat r2)), .second, .val (.int (own_cnt (Int64.ofNat r1))), .val (.int (own_cnt (Int64.ofNat r2))), .unset, .unset, .unset, .unset, .unset, .unset, .unset] [(.ref b183)])) _
    refine XS.dup X183.here hx rfl (hb hby at_42) rfl rfl ?_
    show Steps p.tables e below (T183.setTop (mkF m 43 #[.val (.long q0), .second, .val (.int p1), .val (.long q2), .second, .val (.int p3), .val (.long (Int64.ofNat r1)), .second, .val (.long (Int64.ofNat r2)), .second, .val (.int (own_cnt (Int64.ofNat r1))), .val (.int (own_cnt (Int64.ofNat r2))), .unset, .unset, .unset, .unset, .unset, .unset, .unset] [(.ref b183), (.ref b183)])) _
    refine XS.bipush X183.here hx rfl (hb hby at_43) ?_
    show Steps p.tables e below (T183.setTop (mkF m 45 #[.val (.long q0), .second, .val (.int p1), .val (.long q2), .second, .val (.int p3), .val (.long (Int64.ofNat r1)), .second, .val (.long (Int64.ofNat r2)), .second, .val (.int (own_cnt (Int64.ofNat r1))), .val (.int (own_cnt (Int64.ofNat r2))), .unset, .unset, .unset, .unset, .unset, .unset, .unset] [(.int (16 : Int32)), (.ref b183), (.ref b183)])) _
    refine st185.trans ?_
    show Steps p.tables e below (T185.setTop (mkF m 48 #[.val (.long q0), .second, .val (.int p1), .val (.long q2), .second, .val (.int p3), .val (.long (Int64.ofNat r1)), .second, .val (.long (Int64.ofNat r2)), .second, .val (.int (own_cnt (Int64.ofNat r1))), .val (.int (own_cnt (Int64.ofNat r2))), .unset, .unset, .unset, .unset, .unset, .unset, .unset] [(.ref b183)])) _
    refine XS.astore X185.here hx rfl (hb hby at_48) rfl rfl (l' := #[.val (.long q0), .second, .val (.int p1), .val (.long q2), .second, .val (.int p3), .val (.long (Int64.ofNat r1)), .second, .val (.long (Int64.ofNat r2)), .second, .val (.int (own_cnt (Int64.ofNat r1))), .val (.int (own_cnt (Int64.ofNat r2))), .val (.ref b183), .unset, .unset, .unset, .unset, .unset, .unset]) rfl ?_
    show Steps p.tables e below (T185.setTop (mkF m 50 #[.val (.long q0), .second, .val (.int p1), .val (.long q2), .second, .val (.int p3), .val (.long (Int64.ofNat r1)), .second, .val (.long (Int64.ofNat r2)), .second, .val (.int (own_cnt (Int64.ofNat r1))), .val (.int (own_cnt (Int64.ofNat r2))), .val (.ref b183), .unset, .unset, .unset, .unset, .unset, .unset] [])) _
    refine XS.aload X185.here hx rfl (hb hby at_50) rfl rfl ?_
    show Steps p.tables e below (T185.setTop (mkF m 52 #[.val (.long q0), .second, .val (.int p1), .val (.long q2), .second, .val (.int p3), .val (.long (Int64.ofNat r1)), .second, .val (.long (Int64.ofNat r2)), .second, .val (.int (own_cnt (Int64.ofNat r1))), .val (.int (own_cnt (Int64.ofNat r2))), .val (.ref b183), .unset, .unset, .unset, .unset, .unset, .unset] [(.ref b183)])) _
    refine XS.lload X185.here hx rfl (hb hby at_52) rfl ?_
    show Steps p.tables e below (T185.setTop (mkF m 54 #[.val (.long q0), .second, .val (.int p1), .val (.long q2), .second, .val (.int p3), .val (.long (Int64.ofNat r1)), .second, .val (.long (Int64.ofNat r2)), .second, .val (.int (own_cnt (Int64.ofNat r1))), .val (.int (own_cnt (Int64.ofNat r2))), .val (.ref b183), .unset, .unset, .unset, .unset, .unset, .unset] [(.long (Int64.ofNat r1)), (.ref b183)])) _
    refine st188.trans ?_
    show Steps p.tables e below (T188.setTop (mkF m 57 #[.val (.long q0), .second, .val (.int p1), .val (.long q2), .second, .val (.int p3), .val (.long (Int64.ofNat r1)), .second, .val (.long (Int64.ofNat r2)), .second, .val (.int (own_cnt (Int64.ofNat r1))), .val (.int (own_cnt (Int64.ofNat r2))), .val (.ref b183), .unset, .unset, .unset, .unset, .unset, .unset] [])) _
    refine XS.aload X188.here hx rfl (hb hby at_57) rfl rfl ?_
    show Steps p.tables e below (T188.setTop (mkF m 59 #[.val (.long q0), .second, .val (.int p1), .val (.long q2), .second, .val (.int p3), .val (.long (Int64.ofNat r1)), .second, .val (.long (Int64.ofNat r2)), .second, .val (.int (own_cnt (Int64.ofNat r1))), .val (.int (own_cnt (Int64.ofNat r2))), .val (.ref b183), .unset, .unset, .unset, .unset, .unset, .unset] [(.ref b183)])) _
    refine st191.trans ?_
    show Steps p.tables e below (T191.setTop (mkF m 62 #[.val (.long q0), .second, .val (.int p1), .val (.long q2), .second, .val (.int p3), .val (.long (Int64.ofNat r1)), .second, .val (.long (Int64.ofNat r2)), .second, .val (.int (own_cnt (Int64.ofNat r1))), .val (.int (own_cnt (Int64.ofNat r2))), .val (.ref b183), .unset, .unset, .unset, .unset, .unset, .unset] [(.int (if (16 : Int64) < ((Int64.ofNat (0 + k1 + 1)) + (10 : Int64)) then (0 : Int32) else (1 : Int32)))])) _
    refine XS.istore X191.here hx rfl (hb hby at_62) rfl (l' := #[.val (.long q0), .second, .val (.int p1), .val (.long q2), .second, .val (.int p3), .val (.long (Int64.ofNat r1)), .second, .val (.long (Int64.ofNat r2)), .second, .val (.int (own_cnt (Int64.ofNat r1))), .val (.int (own_cnt (Int64.ofNat r2))), .val (.ref b183), .val (.int (if (16 : Int64) < ((Int64.ofNat (0 + k1 + 1)) + (10 : Int64)) then (0 : Int32) else (1 : Int32))), .unset, .unset, .unset, .unset, .unset]) rfl ?_
    show Steps p.tables e below (T191.setTop (mkF m 64 #[.val (.long q0), .second, .val (.int p1), .val (.long q2), .second, .val (.int p3), .val (.long (Int64.ofNat r1)), .second, .val (.long (Int64.ofNat r2)), .second, .val (.int (own_cnt (Int64.ofNat r1))), .val (.int (own_cnt (Int64.ofNat r2))), .val (.ref b183), .val (.int (if (16 : Int64) < ((Int64.ofNat (0 + k1 + 1)) + (10 : Int64)) then (0 : Int32) else (1 : Int32))), .unset, .unset, .unset, .unset, .unset] [])) _
    refine XS.aload X191.here hx rfl (hb hby at_64) rfl rfl ?_
    show Steps p.tables e below (T191.setTop (mkF m 66 #[.val (.long q0), .second, .val (.int p1), .val (.long q2), .second, .val (.int p3), .val (.long (Int64.ofNat r1)), .second, .val (.long (Int64.ofNat r2)), .second, .val (.int (own_cnt (Int64.ofNat r1))), .val (.int (own_cnt (Int64.ofNat r2))), .val (.ref b183), .val (.int (if (16 : Int64) < ((Int64.ofNat (0 + k1 + 1)) + (10 : Int64)) then (0 : Int32) else (1 : Int32))), .unset, .unset, .unset, .unset, .unset] [(.ref b183)])) _
    refine st193.trans ?_
    show Steps p.tables e below (T193.setTop (mkF m 69 #[.val (.long q0), .second, .val (.int p1), .val (.long q2), .second, .val (.int p3), .val (.long (Int64.ofNat r1)), .second, .val (.long (Int64.ofNat r2)), .second, .val (.int (own_cnt (Int64.ofNat r1))), .val (.int (own_cnt (Int64.ofNat r2))), .val (.ref b183), .val (.int (if (16 : Int64) < ((Int64.ofNat (0 + k1 + 1)) + (10 : Int64)) then (0 : Int32) else (1 : Int32))), .unset, .unset, .unset, .unset, .unset] [(.long (Int64.ofNat r1))])) _
    refine XS.lstore X193.here hx rfl (hb hby at_69) rfl (l' := #[.val (.long q0), .second, .val (.int p1), .val (.long q2), .second, .val (.int p3), .val (.long (Int64.ofNat r1)), .second, .val (.long (Int64.ofNat r2)), .second, .val (.int (own_cnt (Int64.ofNat r1))), .val (.int (own_cnt (Int64.ofNat r2))), .val (.ref b183), .val (.int (if (16 : Int64) < ((Int64.ofNat (0 + k1 + 1)) + (10 : Int64)) then (0 : Int32) else (1 : Int32))), .val (.long (Int64.ofNat r1)), .second, .unset, .unset, .unset]) rfl ?_
    show Steps p.tables e below (T193.setTop (mkF m 71 #[.val (.long q0), .second, .val (.int p1), .val (.long q2), .second, .val (.int p3), .val (.long (Int64.ofNat r1)), .second, .val (.long (Int64.ofNat r2)), .second, .val (.int (own_cnt (Int64.ofNat r1))), .val (.int (own_cnt (Int64.ofNat r2))), .val (.ref b183), .val (.int (if (16 : Int64) < ((Int64.ofNat (0 + k1 + 1)) + (10 : Int64)) then (0 : Int32) else (1 : Int32))), .val (.long (Int64.ofNat r1)), .second, .unset, .unset, .unset] [])) _
    refine XS.aload X193.here hx rfl (hb hby at_71) rfl rfl ?_
    show Steps p.tables e below (T193.setTop (mkF m 73 #[.val (.long q0), .second, .val (.int p1), .val (.long q2), .second, .val (.int p3), .val (.long (Int64.ofNat r1)), .second, .val (.long (Int64.ofNat r2)), .second, .val (.int (own_cnt (Int64.ofNat r1))), .val (.int (own_cnt (Int64.ofNat r2))), .val (.ref b183), .val (.int (if (16 : Int64) < ((Int64.ofNat (0 + k1 + 1)) + (10 : Int64)) then (0 : Int32) else (1 : Int32))), .val (.long (Int64.ofNat r1)), .second, .unset, .unset, .unset] [(.ref b183)])) _
    refine XS.lload X193.here hx rfl (hb hby at_73) rfl ?_
    show Steps p.tables e below (T193.setTop (mkF m 75 #[.val (.long q0), .second, .val (.int p1), .val (.long q2), .second, .val (.int p3), .val (.long (Int64.ofNat r1)), .second, .val (.long (Int64.ofNat r2)), .second, .val (.int (own_cnt (Int64.ofNat r1))), .val (.int (own_cnt (Int64.ofNat r2))), .val (.ref b183), .val (.int (if (16 : Int64) < ((Int64.ofNat (0 + k1 + 1)) + (10 : Int64)) then (0 : Int32) else (1 : Int32))), .val (.long (Int64.ofNat r1)), .second, .unset, .unset, .unset] [(.long (Int64.ofNat r2)), (.ref b183)])) _
    refine st197.trans ?_
    show Steps p.tables e below (T197.setTop (mkF m 78 #[.val (.long q0), .second, .val (.int p1), .val (.long q2), .second, .val (.int p3), .val (.long (Int64.ofNat r1)), .second, .val (.long (Int64.ofNat r2)), .second, .val (.int (own_cnt (Int64.ofNat r1))), .val (.int (own_cnt (Int64.ofNat r2))), .val (.ref b183), .val (.int (if (16 : Int64) < ((Int64.ofNat (0 + k1 + 1)) + (10 : Int64)) then (0 : Int32) else (1 : Int32))), .val (.long (Int64.ofNat r1)), .second, .unset, .unset, .unset] [])) _
    refine XS.aload X197.here hx rfl (hb hby at_78) rfl rfl ?_
    show Steps p.tables e below (T197.setTop (mkF m 80 #[.val (.long q0), .second, .val (.int p1), .val (.long q2), .second, .val (.int p3), .val (.long (Int64.ofNat r1)), .second, .val (.long (Int64.ofNat r2)), .second, .val (.int (own_cnt (Int64.ofNat r1))), .val (.int (own_cnt (Int64.ofNat r2))), .val (.ref b183), .val (.int (if (16 : Int64) < ((Int64.ofNat (0 + k1 + 1)) + (10 : Int64)) then (0 : Int32) else (1 : Int32))), .val (.long (Int64.ofNat r1)), .second, .unset, .unset, .unset] [(.ref b183)])) _
    refine st200.trans ?_
    show Steps p.tables e below (T200.setTop (mkF m 83 #[.val (.long q0), .second, .val (.int p1), .val (.long q2), .second, .val (.int p3), .val (.long (Int64.ofNat r1)), .second, .val (.long (Int64.ofNat r2)), .second, .val (.int (own_cnt (Int64.ofNat r1))), .val (.int (own_cnt (Int64.ofNat r2))), .val (.ref b183), .val (.int (if (16 : Int64) < ((Int64.ofNat (0 + k1 + 1)) + (10 : Int64)) then (0 : Int32) else (1 : Int32))), .val (.long (Int64.ofNat r1)), .second, .unset, .unset, .unset] [(.int (if (16 : Int64) < ((Int64.ofNat ((0 + k1 + 1) + k2 + 1)) + (10 : Int64)) then (0 : Int32) else (1 : Int32)))])) _
    refine XS.istore X200.here hx rfl (hb hby at_83) rfl (l' := #[.val (.long q0), .second, .val (.int p1), .val (.long q2), .second, .val (.int p3), .val (.long (Int64.ofNat r1)), .second, .val (.long (Int64.ofNat r2)), .second, .val (.int (own_cnt (Int64.ofNat r1))), .val (.int (own_cnt (Int64.ofNat r2))), .val (.ref b183), .val (.int (if (16 : Int64) < ((Int64.ofNat (0 + k1 + 1)) + (10 : Int64)) then (0 : Int32) else (1 : Int32))), .val (.long (Int64.ofNat r1)), .second, .val (.int (if (16 : Int64) < ((Int64.ofNat ((0 + k1 + 1) + k2 + 1)) + (10 : Int64)) then (0 : Int32) else (1 : Int32))), .unset, .unset]) rfl ?_
    show Steps p.tables e below (T200.setTop (mkF m 85 #[.val (.long q0), .second, .val (.int p1), .val (.long q2), .second, .val (.int p3), .val (.long (Int64.ofNat r1)), .second, .val (.long (Int64.ofNat r2)), .second, .val (.int (own_cnt (Int64.ofNat r1))), .val (.int (own_cnt (Int64.ofNat r2))), .val (.ref b183), .val (.int (if (16 : Int64) < ((Int64.ofNat (0 + k1 + 1)) + (10 : Int64)) then (0 : Int32) else (1 : Int32))), .val (.long (Int64.ofNat r1)), .second, .val (.int (if (16 : Int64) < ((Int64.ofNat ((0 + k1 + 1) + k2 + 1)) + (10 : Int64)) then (0 : Int32) else (1 : Int32))), .unset, .unset] [])) _
    refine XS.aload X200.here hx rfl (hb hby at_85) rfl rfl ?_
    show Steps p.tables e below (T200.setTop (mkF m 87 #[.val (.long q0), .second, .val (.int p1), .val (.long q2), .second, .val (.int p3), .val (.long (Int64.ofNat r1)), .second, .val (.long (Int64.ofNat r2)), .second, .val (.int (own_cnt (Int64.ofNat r1))), .val (.int (own_cnt (Int64.ofNat r2))), .val (.ref b183), .val (.int (if (16 : Int64) < ((Int64.ofNat (0 + k1 + 1)) + (10 : Int64)) then (0 : Int32) else (1 : Int32))), .val (.long (Int64.ofNat r1)), .second, .val (.int (if (16 : Int64) < ((Int64.ofNat ((0 + k1 + 1) + k2 + 1)) + (10 : Int64)) then (0 : Int32) else (1 : Int32))), .unset, .unset] [(.ref b183)])) _
    refine st202.trans ?_
    show Steps p.tables e below (T202.setTop (mkF m 90 #[.val (.long q0), .second, .val (.int p1), .val (.long q2), .second, .val (.int p3), .val (.long (Int64.ofNat r1)), .second, .val (.long (Int64.ofNat r2)), .second, .val (.int (own_cnt (Int64.ofNat r1))), .val (.int (own_cnt (Int64.ofNat r2))), .val (.ref b183), .val (.int (if (16 : Int64) < ((Int64.ofNat (0 + k1 + 1)) + (10 : Int64)) then (0 : Int32) else (1 : Int32))), .val (.long (Int64.ofNat r1)), .second, .val (.int (if (16 : Int64) < ((Int64.ofNat ((0 + k1 + 1) + k2 + 1)) + (10 : Int64)) then (0 : Int32) else (1 : Int32))), .unset, .unset] [(.long (Int64.ofNat r2))])) _
    refine XS.lstore X202.here hx rfl (hb hby at_90) rfl (l' := #[.val (.long q0), .second, .val (.int p1), .val (.long q2), .second, .val (.int p3), .val (.long (Int64.ofNat r1)), .second, .val (.long (Int64.ofNat r2)), .second, .val (.int (own_cnt (Int64.ofNat r1))), .val (.int (own_cnt (Int64.ofNat r2))), .val (.ref b183), .val (.int (if (16 : Int64) < ((Int64.ofNat (0 + k1 + 1)) + (10 : Int64)) then (0 : Int32) else (1 : Int32))), .val (.long (Int64.ofNat r1)), .second, .val (.int (if (16 : Int64) < ((Int64.ofNat ((0 + k1 + 1) + k2 + 1)) + (10 : Int64)) then (0 : Int32) else (1 : Int32))), .val (.long (Int64.ofNat r2)), .second]) rfl ?_
    show Steps p.tables e below (T202.setTop (mkF m 92 #[.val (.long q0), .second, .val (.int p1), .val (.long q2), .second, .val (.int p3), .val (.long (Int64.ofNat r1)), .second, .val (.long (Int64.ofNat r2)), .second, .val (.int (own_cnt (Int64.ofNat r1))), .val (.int (own_cnt (Int64.ofNat r2))), .val (.ref b183), .val (.int (if (16 : Int64) < ((Int64.ofNat (0 + k1 + 1)) + (10 : Int64)) then (0 : Int32) else (1 : Int32))), .val (.long (Int64.ofNat r1)), .second, .val (.int (if (16 : Int64) < ((Int64.ofNat ((0 + k1 + 1) + k2 + 1)) + (10 : Int64)) then (0 : Int32) else (1 : Int32))), .val (.long (Int64.ofNat r2)), .second] [])) _
    refine XS.lload X202.here hx rfl (hb hby at_92) rfl ?_
    show Steps p.tables e below (T202.setTop (mkF m 94 #[.val (.long q0), .second, .val (.int p1), .val (.long q2), .second, .val (.int p3), .val (.long (Int64.ofNat r1)), .second, .val (.long (Int64.ofNat r2)), .second, .val (.int (own_cnt (Int64.ofNat r1))), .val (.int (own_cnt (Int64.ofNat r2))), .val (.ref b183), .val (.int (if (16 : Int64) < ((Int64.ofNat (0 + k1 + 1)) + (10 : Int64)) then (0 : Int32) else (1 : Int32))), .val (.long (Int64.ofNat r1)), .second, .val (.int (if (16 : Int64) < ((Int64.ofNat ((0 + k1 + 1) + k2 + 1)) + (10 : Int64)) then (0 : Int32) else (1 : Int32))), .val (.long (Int64.ofNat r2)), .second] [(.long (Int64.ofNat r1))])) _
    refine XS.lload X202.here hx rfl (hb hby at_94) rfl ?_
    show Steps p.tables e below (T202.setTop (mkF m 96 #[.val (.long q0), .second, .val (.int p1), .val (.long q2), .second, .val (.int p3), .val (.long (Int64.ofNat r1)), .second, .val (.long (Int64.ofNat r2)), .second, .val (.int (own_cnt (Int64.ofNat r1))), .val (.int (own_cnt (Int64.ofNat r2))), .val (.ref b183), .val (.int (if (16 : Int64) < ((Int64.ofNat (0 + k1 + 1)) + (10 : Int64)) then (0 : Int32) else (1 : Int32))), .val (.long (Int64.ofNat r1)), .second, .val (.int (if (16 : Int64) < ((Int64.ofNat ((0 + k1 + 1) + k2 + 1)) + (10 : Int64)) then (0 : Int32) else (1 : Int32))), .val (.long (Int64.ofNat r2)), .second] [(.long (Int64.ofNat r1)), (.long (Int64.ofNat r1))])) _
    refine XS.lcmp X202.here hx rfl (hb hby at_96) rfl ?_
    show Steps p.tables e below (T202.setTop (mkF m 97 #[.val (.long q0), .second, .val (.int p1), .val (.long q2), .second, .val (.int p3), .val (.long (Int64.ofNat r1)), .second, .val (.long (Int64.ofNat r2)), .second, .val (.int (own_cnt (Int64.ofNat r1))), .val (.int (own_cnt (Int64.ofNat r2))), .val (.ref b183), .val (.int (if (16 : Int64) < ((Int64.ofNat (0 + k1 + 1)) + (10 : Int64)) then (0 : Int32) else (1 : Int32))), .val (.long (Int64.ofNat r1)), .second, .val (.int (if (16 : Int64) < ((Int64.ofNat ((0 + k1 + 1) + k2 + 1)) + (10 : Int64)) then (0 : Int32) else (1 : Int32))), .val (.long (Int64.ofNat r2)), .second] [(.int (lcmpW (Int64.ofNat r1) (Int64.ofNat r1)))])) _
    refine XS.ifNo X202.here hx rfl (hb hby at_97) rfl ((if0 _ _).trans (teq (own_lwE (rfl : (Int64.ofNat r1) = (Int64.ofNat r1)))).2) ?_
    show Steps p.tables e below (T202.setTop (mkF m 100 #[.val (.long q0), .second, .val (.int p1), .val (.long q2), .second, .val (.int p3), .val (.long (Int64.ofNat r1)), .second, .val (.long (Int64.ofNat r2)), .second, .val (.int (own_cnt (Int64.ofNat r1))), .val (.int (own_cnt (Int64.ofNat r2))), .val (.ref b183), .val (.int (if (16 : Int64) < ((Int64.ofNat (0 + k1 + 1)) + (10 : Int64)) then (0 : Int32) else (1 : Int32))), .val (.long (Int64.ofNat r1)), .second, .val (.int (if (16 : Int64) < ((Int64.ofNat ((0 + k1 + 1) + k2 + 1)) + (10 : Int64)) then (0 : Int32) else (1 : Int32))), .val (.long (Int64.ofNat r2)), .second] [])) _
    refine XS.lload X202.here hx rfl (hb hby at_100) rfl ?_
    show Steps p.tables e below (T202.setTop (mkF m 102 #[.val (.long q0), .second, .val (.int p1), .val (.long q2), .second, .val (.int p3), .val (.long (Int64.ofNat r1)), .second, .val (.long (Int64.ofNat r2)), .second, .val (.int (own_cnt (Int64.ofNat r1))), .val (.int (own_cnt (Int64.ofNat r2))), .val (.ref b183), .val (.int (if (16 : Int64) < ((Int64.ofNat (0 + k1 + 1)) + (10 : Int64)) then (0 : Int32) else (1 : Int32))), .val (.long (Int64.ofNat r1)), .second, .val (.int (if (16 : Int64) < ((Int64.ofNat ((0 + k1 + 1) + k2 + 1)) + (10 : Int64)) then (0 : Int32) else (1 : Int32))), .val (.long (Int64.ofNat r2)), .second] [(.long (Int64.ofNat r2))])) _
    refine XS.lload X202.here hx rfl (hb hby at_102) rfl ?_
    show Steps p.tables e below (T202.setTop (mkF m 104 #[.val (.long q0), .second, .val (.int p1), .val (.long q2), .second, .val (.int p3), .val (.long (Int64.ofNat r1)), .second, .val (.long (Int64.ofNat r2)), .second, .val (.int (own_cnt (Int64.ofNat r1))), .val (.int (own_cnt (Int64.ofNat r2))), .val (.ref b183), .val (.int (if (16 : Int64) < ((Int64.ofNat (0 + k1 + 1)) + (10 : Int64)) then (0 : Int32) else (1 : Int32))), .val (.long (Int64.ofNat r1)), .second, .val (.int (if (16 : Int64) < ((Int64.ofNat ((0 + k1 + 1) + k2 + 1)) + (10 : Int64)) then (0 : Int32) else (1 : Int32))), .val (.long (Int64.ofNat r2)), .second] [(.long (Int64.ofNat r2)), (.long (Int64.ofNat r2))])) _
    refine XS.lcmp X202.here hx rfl (hb hby at_104) rfl ?_
    show Steps p.tables e below (T202.setTop (mkF m 105 #[.val (.long q0), .second, .val (.int p1), .val (.long q2), .second, .val (.int p3), .val (.long (Int64.ofNat r1)), .second, .val (.long (Int64.ofNat r2)), .second, .val (.int (own_cnt (Int64.ofNat r1))), .val (.int (own_cnt (Int64.ofNat r2))), .val (.ref b183), .val (.int (if (16 : Int64) < ((Int64.ofNat (0 + k1 + 1)) + (10 : Int64)) then (0 : Int32) else (1 : Int32))), .val (.long (Int64.ofNat r1)), .second, .val (.int (if (16 : Int64) < ((Int64.ofNat ((0 + k1 + 1) + k2 + 1)) + (10 : Int64)) then (0 : Int32) else (1 : Int32))), .val (.long (Int64.ofNat r2)), .second] [(.int (lcmpW (Int64.ofNat r2) (Int64.ofNat r2)))])) _
    refine XS.ifNo X202.here hx rfl (hb hby at_105) rfl ((if0 _ _).trans (teq (own_lwE (rfl : (Int64.ofNat r2) = (Int64.ofNat r2)))).2) ?_
    show Steps p.tables e below (T202.setTop (mkF m 108 #[.val (.long q0), .second, .val (.int p1), .val (.long q2), .second, .val (.int p3), .val (.long (Int64.ofNat r1)), .second, .val (.long (Int64.ofNat r2)), .second, .val (.int (own_cnt (Int64.ofNat r1))), .val (.int (own_cnt (Int64.ofNat r2))), .val (.ref b183), .val (.int (if (16 : Int64) < ((Int64.ofNat (0 + k1 + 1)) + (10 : Int64)) then (0 : Int32) else (1 : Int32))), .val (.long (Int64.ofNat r1)), .second, .val (.int (if (16 : Int64) < ((Int64.ofNat ((0 + k1 + 1) + k2 + 1)) + (10 : Int64)) then (0 : Int32) else (1 : Int32))), .val (.long (Int64.ofNat r2)), .second] [])) _
    refine XS.iload X202.here hx rfl (hb hby at_108) rfl ?_
    show Steps p.tables e below (T202.setTop (mkF m 110 #[.val (.long q0), .second, .val (.int p1), .val (.long q2), .second, .val (.int p3), .val (.long (Int64.ofNat r1)), .second, .val (.long (Int64.ofNat r2)), .second, .val (.int (own_cnt (Int64.ofNat r1))), .val (.int (own_cnt (Int64.ofNat r2))), .val (.ref b183), .val (.int (if (16 : Int64) < ((Int64.ofNat (0 + k1 + 1)) + (10 : Int64)) then (0 : Int32) else (1 : Int32))), .val (.long (Int64.ofNat r1)), .second, .val (.int (if (16 : Int64) < ((Int64.ofNat ((0 + k1 + 1) + k2 + 1)) + (10 : Int64)) then (0 : Int32) else (1 : Int32))), .val (.long (Int64.ofNat r2)), .second] [(.int (if (16 : Int64) < ((Int64.ofNat (0 + k1 + 1)) + (10 : Int64)) then (0 : Int32) else (1 : Int32)))])) _
    refine XS.iload X202.here hx rfl (hb hby at_110) rfl ?_
    show Steps p.tables e below (T202.setTop (mkF m 112 #[.val (.long q0), .second, .val (.int p1), .val (.long q2), .second, .val (.int p3), .val (.long (Int64.ofNat r1)), .second, .val (.long (Int64.ofNat r2)), .second, .val (.int (own_cnt (Int64.ofNat r1))), .val (.int (own_cnt (Int64.ofNat r2))), .val (.ref b183), .val (.int (if (16 : Int64) < ((Int64.ofNat (0 + k1 + 1)) + (10 : Int64)) then (0 : Int32) else (1 : Int32))), .val (.long (Int64.ofNat r1)), .second, .val (.int (if (16 : Int64) < ((Int64.ofNat ((0 + k1 + 1) + k2 + 1)) + (10 : Int64)) then (0 : Int32) else (1 : Int32))), .val (.long (Int64.ofNat r2)), .second] [(.int (own_cnt (Int64.ofNat r1))), (.int (if (16 : Int64) < ((Int64.ofNat (0 + k1 + 1)) + (10 : Int64)) then (0 : Int32) else (1 : Int32)))])) _
    refine XS.bipush X202.here hx rfl (hb hby at_112) ?_
    show Steps p.tables e below (T202.setTop (mkF m 114 #[.val (.long q0), .second, .val (.int p1), .val (.long q2), .second, .val (.int p3), .val (.long (Int64.ofNat r1)), .second, .val (.long (Int64.ofNat r2)), .second, .val (.int (own_cnt (Int64.ofNat r1))), .val (.int (own_cnt (Int64.ofNat r2))), .val (.ref b183), .val (.int (if (16 : Int64) < ((Int64.ofNat (0 + k1 + 1)) + (10 : Int64)) then (0 : Int32) else (1 : Int32))), .val (.long (Int64.ofNat r1)), .second, .val (.int (if (16 : Int64) < ((Int64.ofNat ((0 + k1 + 1) + k2 + 1)) + (10 : Int64)) then (0 : Int32) else (1 : Int32))), .val (.long (Int64.ofNat r2)), .second] [(.int (10 : Int32)), (.int (own_cnt (Int64.ofNat r1))), (.int (if (16 : Int64) < ((Int64.ofNat (0 + k1 + 1)) + (10 : Int64)) then (0 : Int32) else (1 : Int32)))])) _
    refine XS.iadd X202.here hx rfl (hb hby at_114) rfl ?_
    show Steps p.tables e below (T202.setTop (mkF m 115 #[.val (.long q0), .second, .val (.int p1), .val (.long q2), .second, .val (.int p3), .val (.long (Int64.ofNat r1)), .second, .val (.long (Int64.ofNat r2)), .second, .val (.int (own_cnt (Int64.ofNat r1))), .val (.int (own_cnt (Int64.ofNat r2))), .val (.ref b183), .val (.int (if (16 : Int64) < ((Int64.ofNat (0 + k1 + 1)) + (10 : Int64)) then (0 : Int32) else (1 : Int32))), .val (.long (Int64.ofNat r1)), .second, .val (.int (if (16 : Int64) < ((Int64.ofNat ((0 + k1 + 1) + k2 + 1)) + (10 : Int64)) then (0 : Int32) else (1 : Int32))), .val (.long (Int64.ofNat r2)), .second] [(.int ((own_cnt (Int64.ofNat r1)) + (10 : Int32))), (.int (if (16 : Int64) < ((Int64.ofNat (0 + k1 + 1)) + (10 : Int64)) then (0 : Int32) else (1 : Int32)))])) _
    refine XS.bipush X202.here hx rfl (hb hby at_115) ?_
    show Steps p.tables e below (T202.setTop (mkF m 117 #[.val (.long q0), .second, .val (.int p1), .val (.long q2), .second, .val (.int p3), .val (.long (Int64.ofNat r1)), .second, .val (.long (Int64.ofNat r2)), .second, .val (.int (own_cnt (Int64.ofNat r1))), .val (.int (own_cnt (Int64.ofNat r2))), .val (.ref b183), .val (.int (if (16 : Int64) < ((Int64.ofNat (0 + k1 + 1)) + (10 : Int64)) then (0 : Int32) else (1 : Int32))), .val (.long (Int64.ofNat r1)), .second, .val (.int (if (16 : Int64) < ((Int64.ofNat ((0 + k1 + 1) + k2 + 1)) + (10 : Int64)) then (0 : Int32) else (1 : Int32))), .val (.long (Int64.ofNat r2)), .second] [(.int (16 : Int32)), (.int ((own_cnt (Int64.ofNat r1)) + (10 : Int32))), (.int (if (16 : Int64) < ((Int64.ofNat (0 + k1 + 1)) + (10 : Int64)) then (0 : Int32) else (1 : Int32)))])) _
    exact kt
  obtain ⟨v1, hv1⟩ : ∃ z : Int32, z = (if (16 : Int32) < ((own_cnt (Int64.ofNat r1)) + (10 : Int32)) then (0 : Int32) else (1 : Int32)) := ⟨_, rfl⟩
  have pre208 : ∀ t, Steps p.tables e below (T202.setTop (mkF m 125 #[.val (.long q0), .second, .val (.int p1), .val (.long q2), .second, .val (.int p3), .val (.long (Int64.ofNat r1)), .second, .val (.long (Int64.ofNat r2)), .second, .val (.int (own_cnt (Int64.ofNat r1))), .val (.int (own_cnt (Int64.ofNat r2))), .val (.ref b183), .val (.int (if (16 : Int64) < ((Int64.ofNat (0 + k1 + 1)) + (10 : Int64)) then (0 : Int32) else (1 : Int32))), .val (.long (Int64.ofNat r1)), .second, .val (.int (if (16 : Int64) < ((Int64.ofNat ((0 + k1 + 1) + k2 + 1)) + (10 : Int64)) then (0 : Int32) else (1 : Int32))), .val (.long (Int64.ofNat r2)), .second] [(.int v1), (.int (if (16 : Int64) < ((Int64.ofNat (0 + k1 + 1)) + (10 : Int64)) then (0 : Int32) else (1 : Int32)))])) t → Steps p.tables e below (s₁.setTop (entryFrame m #[(.long q0), (.int p1), (.long q2), (.int p3)] maxLocals)) t := fun t kt => by
    refine pre206 _ ?_
    show Steps p.tables e below (T202.setTop (mkF m 117 #[.val (.long q0), .second, .val (.int p1), .val (.long q2), .second, .val (.int p3), .val (.long (Int64.ofNat r1)), .second, .val (.long (Int64.ofNat r2)), .second, .val (.int (own_cnt (Int64.ofNat r1))), .val (.int (own_cnt (Int64.ofNat r2))), .val (.ref b183), .val (.int (if (16 : Int64) < ((Int64.ofNat (0 + k1 + 1)) + (10 : Int64)) then (0 : Int32) else (1 : Int32))), .val (.long (Int64.ofNat r1)), .second, .val (.int (if (16 : Int64) < ((Int64.ofNat ((0 + k1 + 1) + k2 + 1)) + (10 : Int64)) then (0 : Int32) else (1 : Int32))), .val (.long (Int64.ofNat r2)), .second] [(.int (16 : Int32)), (.int ((own_cnt (Int64.ofNat r1)) + (10 : Int32))), (.int (if (16 : Int64) < ((Int64.ofNat (0 + k1 + 1)) + (10 : Int64)) then (0 : Int32) else (1 : Int32)))])) _
    by_cases hc207 : (16 : Int32) < ((own_cnt (Int64.ofNat r1)) + (10 : Int32))
    · rw [if_pos hc207] at hv1
      refine XS.icmpYes X202.here hx rfl (pc0 := 117) (pc' := 124) rfl (hb hby at_117) rfl (tlt hc207).2.2.1 (by decide) (by decide) ?_
      show Steps p.tables e below (T202.setTop (mkF m 124 #[.val (.long q0), .second, .val (.int p1), .val (.long q2), .second, .val (.int p3), .val (.long (Int64.ofNat r1)), .second, .val (.long (Int64.ofNat r2)), .second, .val (.int (own_cnt (Int64.ofNat r1))), .val (.int (own_cnt (Int64.ofNat r2))), .val (.ref b183), .val (.int (if (16 : Int64) < ((Int64.ofNat (0 + k1 + 1)) + (10 : Int64)) then (0 : Int32) else (1 : Int32))), .val (.long (Int64.ofNat r1)), .second, .val (.int (if (16 : Int64) < ((Int64.ofNat ((0 + k1 + 1) + k2 + 1)) + (10 : Int64)) then (0 : Int32) else (1 : Int32))), .val (.long (Int64.ofNat r2)), .second] [(.int (if (16 : Int64) < ((Int64.ofNat (0 + k1 + 1)) + (10 : Int64)) then (0 : Int32) else (1 : Int32)))])) _
      refine XS.iconst X202.here hx rfl (hb hby at_124) ?_
      subst hv1
      exact kt
    · rw [if_neg hc207] at hv1
      refine XS.icmpNo X202.here hx rfl (hb hby at_117) rfl (flt hc207).2.2.1 ?_
      show Steps p.tables e below (T202.setTop (mkF m 120 #[.val (.long q0), .second, .val (.int p1), .val (.long q2), .second, .val (.int p3), .val (.long (Int64.ofNat r1)), .second, .val (.long (Int64.ofNat r2)), .second, .val (.int (own_cnt (Int64.ofNat r1))), .val (.int (own_cnt (Int64.ofNat r2))), .val (.ref b183), .val (.int (if (16 : Int64) < ((Int64.ofNat (0 + k1 + 1)) + (10 : Int64)) then (0 : Int32) else (1 : Int32))), .val (.long (Int64.ofNat r1)), .second, .val (.int (if (16 : Int64) < ((Int64.ofNat ((0 + k1 + 1) + k2 + 1)) + (10 : Int64)) then (0 : Int32) else (1 : Int32))), .val (.long (Int64.ofNat r2)), .second] [(.int (if (16 : Int64) < ((Int64.ofNat (0 + k1 + 1)) + (10 : Int64)) then (0 : Int32) else (1 : Int32)))])) _
      refine XS.iconst X202.here hx rfl (hb hby at_120) ?_
      show Steps p.tables e below (T202.setTop (mkF m 121 #[.val (.long q0), .second, .val (.int p1), .val (.long q2), .second, .val (.int p3), .val (.long (Int64.ofNat r1)), .second, .val (.long (Int64.ofNat r2)), .second, .val (.int (own_cnt (Int64.ofNat r1))), .val (.int (own_cnt (Int64.ofNat r2))), .val (.ref b183), .val (.int (if (16 : Int64) < ((Int64.ofNat (0 + k1 + 1)) + (10 : Int64)) then (0 : Int32) else (1 : Int32))), .val (.long (Int64.ofNat r1)), .second, .val (.int (if (16 : Int64) < ((Int64.ofNat ((0 + k1 + 1) + k2 + 1)) + (10 : Int64)) then (0 : Int32) else (1 : Int32))), .val (.long (Int64.ofNat r2)), .second] [(.int (1 : Int32)), (.int (if (16 : Int64) < ((Int64.ofNat (0 + k1 + 1)) + (10 : Int64)) then (0 : Int32) else (1 : Int32)))])) _
      refine XS.goto X202.here hx rfl (pc0 := 121) (pc' := 125) rfl (hb hby at_121) (by decide) (by decide) ?_
      subst hv1
      exact kt
  obtain ⟨v2, hv2⟩ : ∃ z : Int32, z = (if (if (16 : Int64) < ((Int64.ofNat (0 + k1 + 1)) + (10 : Int64)) then (0 : Int32) else (1 : Int32)) = v1 then (if (16 : Int32) < (((own_cnt (Int64.ofNat r1)) + (own_cnt (Int64.ofNat r2))) + (10 : Int32)) then (if (if (16 : Int64) < ((Int64.ofNat ((0 + k1 + 1) + k2 + 1)) + (10 : Int64)) then (0 : Int32) else (1 : Int32)) = (0 : Int32) then (1 : Int32) else (0 : Int32)) else (if (if (16 : Int64) < ((Int64.ofNat ((0 + k1 + 1) + k2 + 1)) + (10 : Int64)) then (0 : Int32) else (1 : Int32)) = (1 : Int32) then (1 : Int32) else (0 : Int32))) else (0 : Int32)) := ⟨_, rfl⟩
  have pre213 : ∀ t, Steps p.tables e below (T202.setTop (mkF m 156 #[.val (.long q0), .second, .val (.int p1), .val (.long q2), .second, .val (.int p3), .val (.long (Int64.ofNat r1)), .second, .val (.long (Int64.ofNat r2)), .second, .val (.int (own_cnt (Int64.ofNat r1))), .val (.int (own_cnt (Int64.ofNat r2))), .val (.ref b183), .val (.int (if (16 : Int64) < ((Int64.ofNat (0 + k1 + 1)) + (10 : Int64)) then (0 : Int32) else (1 : Int32))), .val (.long (Int64.ofNat r1)), .second, .val (.int (if (16 : Int64) < ((Int64.ofNat ((0 + k1 + 1) + k2 + 1)) + (10 : Int64)) then (0 : Int32) else (1 : Int32))), .val (.long (Int64.ofNat r2)), .second] [(.int v2)])) t → Steps p.tables e below (s₁.setTop (entryFrame m #[(.long q0), (.int p1), (.long q2), (.int p3)] maxLocals)) t := fun t kt => by
    refine pre208 _ ?_
    show Steps p.tables e below (T202.setTop (mkF m 125 #[.val (.long q0), .second, .val (.int p1), .val (.long q2), .second, .val (.int p3), .val (.long (Int64.ofNat r1)), .second, .val (.long (Int64.ofNat r2)), .second, .val (.int (own_cnt (Int64.ofNat r1))), .val (.int (own_cnt (Int64.ofNat r2))), .val (.ref b183), .val (.int (if (16 : Int64) < ((Int64.ofNat (0 + k1 + 1)) + (10 : Int64)) then (0 : Int32) else (1 : Int32))), .val (.long (Int64.ofNat r1)), .second, .val (.int (if (16 : Int64) < ((Int64.ofNat ((0 + k1 + 1) + k2 + 1)) + (10 : Int64)) then (0 : Int32) else (1 : Int32))), .val (.long (Int64.ofNat r2)), .second] [(.int v1), (.int (if (16 : Int64) < ((Int64.ofNat (0 + k1 + 1)) + (10 : Int64)) then (0 : Int32) else (1 : Int32)))])) _
    by_cases hc209 : (if (16 : Int64) < ((Int64.ofNat (0 + k1 + 1)) + (10 : Int64)) then (0 : Int32) else (1 : Int32)) = v1
    · rw [if_pos hc209] at hv2
      refine XS.icmpNo X202.here hx rfl (hb hby at_125) rfl (teq hc209).2 ?_
      show Steps p.tables e below (T202.setTop (mkF m 128 #[.val (.long q0), .second, .val (.int p1), .val (.long q2), .second, .val (.int p3), .val (.long (Int64.ofNat r1)), .second, .val (.long (Int64.ofNat r2)), .second, .val (.int (own_cnt (Int64.ofNat r1))), .val (.int (own_cnt (Int64.ofNat r2))), .val (.ref b183), .val (.int (if (16 : Int64) < ((Int64.ofNat (0 + k1 + 1)) + (10 : Int64)) then (0 : Int32) else (1 : Int32))), .val (.long (Int64.ofNat r1)), .second, .val (.int (if (16 : Int64) < ((Int64.ofNat ((0 + k1 + 1) + k2 + 1)) + (10 : Int64)) then (0 : Int32) else (1 : Int32))), .val (.long (Int64.ofNat r2)), .second] [])) _
      refine XS.iload X202.here hx rfl (hb hby at_128) rfl ?_
      show Steps p.tables e below (T202.setTop (mkF m 130 #[.val (.long q0), .second, .val (.int p1), .val (.long q2), .second, .val (.int p3), .val (.long (Int64.ofNat r1)), .second, .val (.long (Int64.ofNat r2)), .second, .val (.int (own_cnt (Int64.ofNat r1))), .val (.int (own_cnt (Int64.ofNat r2))), .val (.ref b183), .val (.int (if (16 : Int64) < ((Int64.ofNat (0 + k1 + 1)) + (10 : Int64)) then (0 : Int32) else (1 : Int32))), .val (.long (Int64.ofNat r1)), .second, .val (.int (if (16 : Int64) < ((Int64.ofNat ((0 + k1 + 1) + k2 + 1)) + (10 : Int64)) then (0 : Int32) else (1 : Int32))), .val (.long (Int64.ofNat r2)), .second] [(.int (if (16 : Int64) < ((Int64.ofNat ((0 + k1 + 1) + k2 + 1)) + (10 : Int64)) then (0 : Int32) else (1 : Int32)))])) _
      refine XS.iload X202.here hx rfl (hb hby at_130) rfl ?_
      show Steps p.tables e below (T202.setTop (mkF m 132 #[.val (.long q0), .second, .val (.int p1), .val (.long q2), .second, .val (.int p3), .val (.long (Int64.ofNat r1)), .second, .val (.long (Int64.ofNat r2)), .second, .val (.int (own_cnt (Int64.ofNat r1))), .val (.int (own_cnt (Int64.ofNat r2))), .val (.ref b183), .val (.int (if (16 : Int64) < ((Int64.ofNat (0 + k1 + 1)) + (10 : Int64)) then (0 : Int32) else (1 : Int32))), .val (.long (Int64.ofNat r1)), .second, .val (.int (if (16 : Int64) < ((Int64.ofNat ((0 + k1 + 1) + k2 + 1)) + (10 : Int64)) then (0 : Int32) else (1 : Int32))), .val (.long (Int64.ofNat r2)), .second] [(.int (own_cnt (Int64.ofNat r1))), (.int (if (16 : Int64) < ((Int64.ofNat ((0 + k1 + 1) + k2 + 1)) + (10 : Int64)) then (0 : Int32) else (1 : Int32)))])) _
      refine XS.iload X202.here hx rfl (hb hby at_132) rfl ?_
      show Steps p.tables e below (T202.setTop (mkF m 134 #[.val (.long q0), .second, .val (.int p1), .val (.long q2), .second, .val (.int p3), .val (.long (Int64.ofNat r1)), .second, .val (.long (Int64.ofNat r2)), .second, .val (.int (own_cnt (Int64.ofNat r1))), .val (.int (own_cnt (Int64.ofNat r2))), .val (.ref b183), .val (.int (if (16 : Int64) < ((Int64.ofNat (0 + k1 + 1)) + (10 : Int64)) then (0 : Int32) else (1 : Int32))), .val (.long (Int64.ofNat r1)), .second, .val (.int (if (16 : Int64) < ((Int64.ofNat ((0 + k1 + 1) + k2 + 1)) + (10 : Int64)) then (0 : Int32) else (1 : Int32))), .val (.long (Int64.ofNat r2)), .second] [(.int (own_cnt (Int64.ofNat r2))), (.int (own_cnt (Int64.ofNat r1))), (.int (if (16 : Int64) < ((Int64.ofNat ((0 + k1 + 1) + k2 + 1)) + (10 : Int64)) then (0 : Int32) else (1 : Int32)))])) _
      refine XS.iadd X202.here hx rfl (hb hby at_134) rfl ?_
      show Steps p.tables e below (T202.setTop (mkF m 135 #[.val (.long q0), .second, .val (.int p1), .val (.long q2), .second, .val (.int p3), .val (.long (Int64.ofNat r1)), .second, .val (.long (Int64.ofNat r2)), .second, .val (.int (own_cnt (Int64.ofNat r1))), .val (.int (own_cnt (Int64.ofNat r2))), .val (.ref b183), .val (.int (if (16 : Int64) < ((Int64.ofNat (0 + k1 + 1)) + (10 : Int64)) then (0 : Int32) else (1 : Int32))), .val (.long (Int64.ofNat r1)), .second, .val (.int (if (16 : Int64) < ((Int64.ofNat ((0 + k1 + 1) + k2 + 1)) + (10 : Int64)) then (0 : Int32) else (1 : Int32))), .val (.long (Int64.ofNat r2)), .second] [(.int ((own_cnt (Int64.ofNat r1)) + (own_cnt (Int64.ofNat r2)))), (.int (if (16 : Int64) < ((Int64.ofNat ((0 + k1 + 1) + k2 + 1)) + (10 : Int64)) then (0 : Int32) else (1 : Int32)))])) _
      refine XS.bipush X202.here hx rfl (hb hby at_135) ?_
      show Steps p.tables e below (T202.setTop (mkF m 137 #[.val (.long q0), .second, .val (.int p1), .val (.long q2), .second, .val (.int p3), .val (.long (Int64.ofNat r1)), .second, .val (.long (Int64.ofNat r2)), .second, .val (.int (own_cnt (Int64.ofNat r1))), .val (.int (own_cnt (Int64.ofNat r2))), .val (.ref b183), .val (.int (if (16 : Int64) < ((Int64.ofNat (0 + k1 + 1)) + (10 : Int64)) then (0 : Int32) else (1 : Int32))), .val (.long (Int64.ofNat r1)), .second, .val (.int (if (16 : Int64) < ((Int64.ofNat ((0 + k1 + 1) + k2 + 1)) + (10 : Int64)) then (0 : Int32) else (1 : Int32))), .val (.long (Int64.ofNat r2)), .second] [(.int (10 : Int32)), (.int ((own_cnt (Int64.ofNat r1)) + (own_cnt (Int64.ofNat r2)))), (.int (if (16 : Int64) < ((Int64.ofNat ((0 + k1 + 1) + k2 + 1)) + (10 : Int64)) then (0 : Int32) else (1 : Int32)))])) _
      refine XS.iadd X202.here hx rfl (hb hby at_137) rfl ?_
      show Steps p.tables e below (T202.setTop (mkF m 138 #[.val (.long q0), .second, .val (.int p1), .val (.long q2), .second, .val (.int p3), .val (.long (Int64.ofNat r1)), .second, .val (.long (Int64.ofNat r2)), .second, .val (.int (own_cnt (Int64.ofNat r1))), .val (.int (own_cnt (Int64.ofNat r2))), .val (.ref b183), .val (.int (if (16 : Int64) < ((Int64.ofNat (0 + k1 + 1)) + (10 : Int64)) then (0 : Int32) else (1 : Int32))), .val (.long (Int64.ofNat r1)), .second, .val (.int (if (16 : Int64) < ((Int64.ofNat ((0 + k1 + 1) + k2 + 1)) + (10 : Int64)) then (0 : Int32) else (1 : Int32))), .val (.long (Int64.ofNat r2)), .second] [(.int (((own_cnt (Int64.ofNat r1)) + (own_cnt (Int64.ofNat r2))) + (10 : Int32))), (.int (if (16 : Int64) < ((Int64.ofNat ((0 + k1 + 1) + k2 + 1)) + (10 : Int64)) then (0 : Int32) else (1 : Int32)))])) _
      refine XS.bipush X202.here hx rfl (hb hby at_138) ?_
      show Steps p.tables e below (T202.setTop (mkF m 140 #[.val (.long q0), .second, .val (.int p1), .val (.long q2), .second, .val (.int p3), .val (.long (Int64.ofNat r1)), .second, .val (.long (Int64.ofNat r2)), .second, .val (.int (own_cnt (Int64.ofNat r1))), .val (.int (own_cnt (Int64.ofNat r2))), .val (.ref b183), .val (.int (if (16 : Int64) < ((Int64.ofNat (0 + k1 + 1)) + (10 : Int64)) then (0 : Int32) else (1 : Int32))), .val (.long (Int64.ofNat r1)), .second, .val (.int (if (16 : Int64) < ((Int64.ofNat ((0 + k1 + 1) + k2 + 1)) + (10 : Int64)) then (0 : Int32) else (1 : Int32))), .val (.long (Int64.ofNat r2)), .second] [(.int (16 : Int32)), (.int (((own_cnt (Int64.ofNat r1)) + (own_cnt (Int64.ofNat r2))) + (10 : Int32))), (.int (if (16 : Int64) < ((Int64.ofNat ((0 + k1 + 1) + k2 + 1)) + (10 : Int64)) then (0 : Int32) else (1 : Int32)))])) _
      by_cases hc210 : (16 : Int32) < (((own_cnt (Int64.ofNat r1)) + (own_cnt (Int64.ofNat r2))) + (10 : Int32))
      · rw [if_pos hc210] at hv2
        refine XS.icmpYes X202.here hx rfl (pc0 := 140) (pc' := 147) rfl (hb hby at_140) rfl (tlt hc210).2.2.1 (by decide) (by decide) ?_
        show Steps p.tables e below (T202.setTop (mkF m 147 #[.val (.long q0), .second, .val (.int p1), .val (.long q2), .second, .val (.int p3), .val (.long (Int64.ofNat r1)), .second, .val (.long (Int64.ofNat r2)), .second, .val (.int (own_cnt (Int64.ofNat r1))), .val (.int (own_cnt (Int64.ofNat r2))), .val (.ref b183), .val (.int (if (16 : Int64) < ((Int64.ofNat (0 + k1 + 1)) + (10 : Int64)) then (0 : Int32) else (1 : Int32))), .val (.long (Int64.ofNat r1)), .second, .val (.int (if (16 : Int64) < ((Int64.ofNat ((0 + k1 + 1) + k2 + 1)) + (10 : Int64)) then (0 : Int32) else (1 : Int32))), .val (.long (Int64.ofNat r2)), .second] [(.int (if (16 : Int64) < ((Int64.ofNat ((0 + k1 + 1) + k2 + 1)) + (10 : Int64)) then (0 : Int32) else (1 : Int32)))])) _
        refine XS.iconst X202.here hx rfl (hb hby at_147) ?_
        show Steps p.tables e below (T202.setTop (mkF m 148 #[.val (.long q0), .second, .val (.int p1), .val (.long q2), .second, .val (.int p3), .val (.long (Int64.ofNat r1)), .second, .val (.long (Int64.ofNat r2)), .second, .val (.int (own_cnt (Int64.ofNat r1))), .val (.int (own_cnt (Int64.ofNat r2))), .val (.ref b183), .val (.int (if (16 : Int64) < ((Int64.ofNat (0 + k1 + 1)) + (10 : Int64)) then (0 : Int32) else (1 : Int32))), .val (.long (Int64.ofNat r1)), .second, .val (.int (if (16 : Int64) < ((Int64.ofNat ((0 + k1 + 1) + k2 + 1)) + (10 : Int64)) then (0 : Int32) else (1 : Int32))), .val (.long (Int64.ofNat r2)), .second] [(.int (0 : Int32)), (.int (if (16 : Int64) < ((Int64.ofNat ((0 + k1 + 1) + k2 + 1)) + (10 : Int64)) then (0 : Int32) else (1 : Int32)))])) _
        by_cases hc211 : (if (16 : Int64) < ((Int64.ofNat ((0 + k1 + 1) + k2 + 1)) + (10 : Int64)) then (0 : Int32) else (1 : Int32)) = (0 : Int32)
        · rw [if_pos hc211] at hv2
          refine XS.icmpNo X202.here hx rfl (hb hby at_148) rfl (teq hc211).2 ?_
          show Steps p.tables e below (T202.setTop (mkF m 151 #[.val (.long q0), .second, .val (.int p1), .val (.long q2), .second, .val (.int p3), .val (.long (Int64.ofNat r1)), .second, .val (.long (Int64.ofNat r2)), .second, .val (.int (own_cnt (Int64.ofNat r1))), .val (.int (own_cnt (Int64.ofNat r2))), .val (.ref b183), .val (.int (if (16 : Int64) < ((Int64.ofNat (0 + k1 + 1)) + (10 : Int64)) then (0 : Int32) else (1 : Int32))), .val (.long (Int64.ofNat r1)), .second, .val (.int (if (16 : Int64) < ((Int64.ofNat ((0 + k1 + 1) + k2 + 1)) + (10 : Int64)) then (0 : Int32) else (1 : Int32))), .val (.long (Int64.ofNat r2)), .second] [])) _
          refine XS.iconst X202.here hx rfl (hb hby at_151) ?_
          show Steps p.tables e below (T202.setTop (mkF m 152 #[.val (.long q0), .second, .val (.int p1), .val (.long q2), .second, .val (.int p3), .val (.long (Int64.ofNat r1)), .second, .val (.long (Int64.ofNat r2)), .second, .val (.int (own_cnt (Int64.ofNat r1))), .val (.int (own_cnt (Int64.ofNat r2))), .val (.ref b183), .val (.int (if (16 : Int64) < ((Int64.ofNat (0 + k1 + 1)) + (10 : Int64)) then (0 : Int32) else (1 : Int32))), .val (.long (Int64.ofNat r1)), .second, .val (.int (if (16 : Int64) < ((Int64.ofNat ((0 + k1 + 1) + k2 + 1)) + (10 : Int64)) then (0 : Int32) else (1 : Int32))), .val (.long (Int64.ofNat r2)), .second] [(.int (1 : Int32))])) _
          refine XS.goto X202.here hx rfl (pc0 := 152) (pc' := 156) rfl (hb hby at_152) (by decide) (by decide) ?_
          subst hv2
          exact kt
        · rw [if_neg hc211] at hv2
          refine XS.icmpYes X202.here hx rfl (pc0 := 148) (pc' := 155) rfl (hb hby at_148) rfl (feq hc211).2 (by decide) (by decide) ?_
          show Steps p.tables e below (T202.setTop (mkF m 155 #[.val (.long q0), .second, .val (.int p1), .val (.long q2), .second, .val (.int p3), .val (.long (Int64.ofNat r1)), .second, .val (.long (Int64.ofNat r2)), .second, .val (.int (own_cnt (Int64.ofNat r1))), .val (.int (own_cnt (Int64.ofNat r2))), .val (.ref b183), .val (.int (if (16 : Int64) < ((Int64.ofNat (0 + k1 + 1)) + (10 : Int64)) then (0 : Int32) else (1 : Int32))), .val (.long (Int64.ofNat r1)), .second, .val (.int (if (16 : Int64) < ((Int64.ofNat ((0 + k1 + 1) + k2 + 1)) + (10 : Int64)) then (0 : Int32) else (1 : Int32))), .val (.long (Int64.ofNat r2)), .second] [])) _
          refine XS.iconst X202.here hx rfl (hb hby at_155) ?_
          subst hv2
          exact kt
      · rw [if_neg hc210] at hv2
        refine XS.icmpNo X202.here hx rfl (hb hby at_140) rfl (flt hc210).2.2.1 ?_
        show Steps p.tables e below (T202.setTop (mkF m 143 #[.val (.long q0), .second, .val (.int p1), .val (.long q2), .second, .val (.int p3), .val (.long (Int64.ofNat r1)), .second, .val (.long (Int64.ofNat r2)), .second, .val (.int (own_cnt (Int64.ofNat r1))), .val (.int (own_cnt (Int64.ofNat r2))), .val (.ref b183), .val (.int (if (16 : Int64) < ((Int64.ofNat (0 + k1 + 1)) + (10 : Int64)) then (0 : Int32) else (1 : Int32))), .val (.long (Int64.ofNat r1)), .second, .val (.int (if (16 : Int64) < ((Int64.ofNat ((0 + k1 + 1) + k2 + 1)) + (10 : Int64)) then (0 : Int32) else (1 : Int32))), .val (.long (Int64.ofNat r2)), .second] [(.int (if (16 : Int64) < ((Int64.ofNat ((0 + k1 + 1) + k2 + 1)) + (10 : Int64)) then (0 : Int32) else (1 : Int32)))])) _
        refine XS.iconst X202.here hx rfl (hb hby at_143) ?_
        show Steps p.tables e below (T202.setTop (mkF m 144 #[.val (.long q0), .second, .val (.int p1), .val (.long q2), .second, .val (.int p3), .val (.long (Int64.ofNat r1)), .second, .val (.long (Int64.ofNat r2)), .second, .val (.int (own_cnt (Int64.ofNat r1))), .val (.int (own_cnt (Int64.ofNat r2))), .val (.ref b183), .val (.int (if (16 : Int64) < ((Int64.ofNat (0 + k1 + 1)) + (10 : Int64)) then (0 : Int32) else (1 : Int32))), .val (.long (Int64.ofNat r1)), .second, .val (.int (if (16 : Int64) < ((Int64.ofNat ((0 + k1 + 1) + k2 + 1)) + (10 : Int64)) then (0 : Int32) else (1 : Int32))), .val (.long (Int64.ofNat r2)), .second] [(.int (1 : Int32)), (.int (if (16 : Int64) < ((Int64.ofNat ((0 + k1 + 1) + k2 + 1)) + (10 : Int64)) then (0 : Int32) else (1 : Int32)))])) _
        refine XS.goto X202.here hx rfl (pc0 := 144) (pc' := 148) rfl (hb hby at_144) (by decide) (by decide) ?_
        show Steps p.tables e below (T202.setTop (mkF m 148 #[.val (.long q0), .second, .val (.int p1), .val (.long q2), .second, .val (.int p3), .val (.long (Int64.ofNat r1)), .second, .val (.long (Int64.ofNat r2)), .second, .val (.int (own_cnt (Int64.ofNat r1))), .val (.int (own_cnt (Int64.ofNat r2))), .val (.ref b183), .val (.int (if (16 : Int64) < ((Int64.ofNat (0 + k1 + 1)) + (10 : Int64)) then (0 : Int32) else (1 : Int32))), .val (.long (Int64.ofNat r1)), .second, .val (.int (if (16 : Int64) < ((Int64.ofNat ((0 + k1 + 1) + k2 + 1)) + (10 : Int64)) then (0 : Int32) else (1 : Int32))), .val (.long (Int64.ofNat r2)), .second] [(.int (1 : Int32)), (.int (if (16 : Int64) < ((Int64.ofNat ((0 + k1 + 1) + k2 + 1)) + (10 : Int64)) then (0 : Int32) else (1 : Int32)))])) _
        by_cases hc212 : (if (16 : Int64) < ((Int64.ofNat ((0 + k1 + 1) + k2 + 1)) + (10 : Int64)) then (0 : Int32) else (1 : Int32)) = (1 : Int32)
        · rw [if_pos hc212] at hv2
          refine XS.icmpNo X202.here hx rfl (hb hby at_148) rfl (teq hc212).2 ?_
          show Steps p.tables e below (T202.setTop (mkF m 151 #[.val (.long q0), .second, .val (.int p1), .val (.long q2), .second, .val (.int p3), .val (.long (Int64.ofNat r1)), .second, .val (.long (Int64.ofNat r2)), .second, .val (.int (own_cnt (Int64.ofNat r1))), .val (.int (own_cnt (Int64.ofNat r2))), .val (.ref b183), .val (.int (if (16 : Int64) < ((Int64.ofNat (0 + k1 + 1)) + (10 : Int64)) then (0 : Int32) else (1 : Int32))), .val (.long (Int64.ofNat r1)), .second, .val (.int (if (16 : Int64) < ((Int64.ofNat ((0 + k1 + 1) + k2 + 1)) + (10 : Int64)) then (0 : Int32) else (1 : Int32))), .val (.long (Int64.ofNat r2)), .second] [])) _
          refine XS.iconst X202.here hx rfl (hb hby at_151) ?_
          show Steps p.tables e below (T202.setTop (mkF m 152 #[.val (.long q0), .second, .val (.int p1), .val (.long q2), .second, .val (.int p3), .val (.long (Int64.ofNat r1)), .second, .val (.long (Int64.ofNat r2)), .second, .val (.int (own_cnt (Int64.ofNat r1))), .val (.int (own_cnt (Int64.ofNat r2))), .val (.ref b183), .val (.int (if (16 : Int64) < ((Int64.ofNat (0 + k1 + 1)) + (10 : Int64)) then (0 : Int32) else (1 : Int32))), .val (.long (Int64.ofNat r1)), .second, .val (.int (if (16 : Int64) < ((Int64.ofNat ((0 + k1 + 1) + k2 + 1)) + (10 : Int64)) then (0 : Int32) else (1 : Int32))), .val (.long (Int64.ofNat r2)), .second] [(.int (1 : Int32))])) _
          refine XS.goto X202.here hx rfl (pc0 := 152) (pc' := 156) rfl (hb hby at_152) (by decide) (by decide) ?_
          subst hv2
          exact kt
        · rw [if_neg hc212] at hv2
          refine XS.icmpYes X202.here hx rfl (pc0 := 148) (pc' := 155) rfl (hb hby at_148) rfl (feq hc212).2 (by decide) (by decide) ?_
          show Steps p.tables e below (T202.setTop (mkF m 155 #[.val (.long q0), .second, .val (.int p1), .val (.long q2), .second, .val (.int p3), .val (.long (Int64.ofNat r1)), .second, .val (.long (Int64.ofNat r2)), .second, .val (.int (own_cnt (Int64.ofNat r1))), .val (.int (own_cnt (Int64.ofNat r2))), .val (.ref b183), .val (.int (if (16 : Int64) < ((Int64.ofNat (0 + k1 + 1)) + (10 : Int64)) then (0 : Int32) else (1 : Int32))), .val (.long (Int64.ofNat r1)), .second, .val (.int (if (16 : Int64) < ((Int64.ofNat ((0 + k1 + 1) + k2 + 1)) + (10 : Int64)) then (0 : Int32) else (1 : Int32))), .val (.long (Int64.ofNat r2)), .second] [])) _
          refine XS.iconst X202.here hx rfl (hb hby at_155) ?_
          subst hv2
          exact kt
    · rw [if_neg hc209] at hv2
      refine XS.icmpYes X202.here hx rfl (pc0 := 125) (pc' := 155) rfl (hb hby at_125) rfl (feq hc209).2 (by decide) (by decide) ?_
      show Steps p.tables e below (T202.setTop (mkF m 155 #[.val (.long q0), .second, .val (.int p1), .val (.long q2), .second, .val (.int p3), .val (.long (Int64.ofNat r1)), .second, .val (.long (Int64.ofNat r2)), .second, .val (.int (own_cnt (Int64.ofNat r1))), .val (.int (own_cnt (Int64.ofNat r2))), .val (.ref b183), .val (.int (if (16 : Int64) < ((Int64.ofNat (0 + k1 + 1)) + (10 : Int64)) then (0 : Int32) else (1 : Int32))), .val (.long (Int64.ofNat r1)), .second, .val (.int (if (16 : Int64) < ((Int64.ofNat ((0 + k1 + 1) + k2 + 1)) + (10 : Int64)) then (0 : Int32) else (1 : Int32))), .val (.long (Int64.ofNat r2)), .second] [])) _
      refine XS.iconst X202.here hx rfl (hb hby at_155) ?_
      subst hv2
      exact kt
  have hfin : v2 = 1 := (own_plain0 q0 p1 q2 p3 r1 k1 r2 k2 v1 hv1 v2 hv2 hr1 hk18 hk1 hr2 hk28 hk2)
  obtain ⟨fs, hr, hrun, hended, hW, hsame⟩ := X202.leave (v := some (.int (v2 &&& 1))) (fun h => by rw [Bd.returns] at h; cases h)
  refine ⟨_, _, pre213 _ ?_, hrun, hended, _, _, rfl, ?_, ⟨_, rfl⟩, hW, hsame.mono (by decide) (by decide)⟩
  · exact retN X202 hx (t := .boolean) Bd.returns (by simp) (hb hby at_156) hr
  · exact ⟨by rw [hfin]; rfl, N205⟩
set_option maxRecDepth 65536 in
set_option maxHeartbeats 40000000 in
theorem comes_1 {Post : Tables → Env → Array Value → State → Outcome → State → Prop} (hpost : ∀ tb e args s v u, (limb_1_1.after args s (.returned v) u = true ∧ limb_1_2.after args s (.returned v) u = true ∧ True) → FrameEnd s (.returned v) u (Jvm.fieldLocs frame_1_writes args s ++ Jvm.arrayLocs frame_1_arrays args s ++ Jvm.staticLocs frame_1_statics s) 16 128 → Post tb e args s (.returned v) u) :
    ArmFor flags0 classFile x code maxLocals ret World_1 tables_1 room_1 Calls_1 rest_1 Pre_1 Post := by
  intro l hfl _ _ p e ha hc hk s m args below hf hA hF happ hP
  obtain ⟨hcalls, hrest, hpre⟩ := hP
  obtain ⟨-, -, -, hnamed, -, -, -, hat⟩ := (Spec.applies_iff hf).mp happ
  obtain ⟨hg, hn⟩ := and_e (Cond.before_iff.mp (show (Jvm.Cond.and given_1 narrow_1).before args s = true from hpre))
  obtain ⟨hcount, hg0⟩ := and_e hg
  obtain ⟨ha0, hg1⟩ := and_e hg0
  obtain ⟨ha1, hg2⟩ := and_e hg1
  obtain ⟨ha2, hg3⟩ := and_e hg2
  have ha3 := hg3
  obtain ⟨w0, w1, w2, w3, rfl⟩ : ∃ w0 w1 w2 w3 : Value, args = #[w0, w1, w2, w3] := by
    have hs : args.size = 4 := by simpa [Cond.value, given_1] using hcount
    obtain ⟨L⟩ := args
    match L, hs with
    | [w0, w1, w2, w3], _ => exact ⟨w0, w1, w2, w3, rfl⟩
  have hw := fun d (hd : d ∈ tables_1) => atoms_spec (ws := Jvm.Cond.code x code maxLocals ret :: tables_1) hat d (List.mem_cons_of_mem _ hd)
  obtain ⟨i0, ei0⟩ := isL_v ha0
  obtain rfl : w0 = (.long i0) := Option.some.inj ei0
  obtain ⟨i1, ei1⟩ := is_v ha1
  obtain rfl : w1 = (.int i1) := Option.some.inj ei1
  obtain ⟨i2, ei2⟩ := isL_v ha2
  obtain rfl : w2 = (.long i2) := Option.some.inj ei2
  obtain ⟨i3, ei3⟩ := is_v ha3
  obtain rfl : w3 = (.int i3) := Option.some.inj ei3
  obtain ⟨n, o, h1, h2, h3, _, L, rfl, ⟨rfl, N⟩, hq⟩ := rm0 l s _ hw tables_1 i0 i1 i2 i3 s.heap s.heap.size (Nat.le_refl _) p e ha hc hk s m _ below hf ((Spec.applies_iff_loose hf).mp happ).1 ⟨rfl, State.Warmed39.refl s, rfl⟩ trivial
  refine ⟨n, _, h1, h2, h3, hpost _ _ _ _ _ _ ⟨Cond.after_iff.mpr rfl, Cond.after_iff.mpr (eq_i res_at (Term.int_eval (1)) rfl), trivial⟩ ⟨hq.1, hq.2.1, (hq.2.2.sift fun y hy => Or.inr (N y hy)).mono (by decide) (by decide)⟩⟩
theorem main_1_1 : Claimed_1_1 := comes_1 fun _ _ _ _ _ _ h hF => ⟨h.1, hF⟩
theorem main_1_2 : Claimed_1_2 := comes_1 fun _ _ _ _ _ _ h hF => ⟨h.2.1, hF⟩
end Jvm.Pilot.@@N@@
namespace Jvm.Pilot.@@N@@
open Jvm Jvm.ClassFile Sem Op Lib Jvm.Free Jvm.Stand Jvm.Pilot.@@N@@.Jvm.D
/-! MADE BY PROGRAM (witnessworld.py) out of the Statement's table words and the real class files: 14 classes; the members and pool entries that the words name. The judged class is class 1, her method 2. -/
namespace start1
open Jvm.ClassFile
def u (s : String) : CpInfo := .utf8 (stringToUtf16 s)
/-- a pool by its gaps: so many unusable entries, then the entry; so many at the end -/
def gap : Nat → List CpInfo → List CpInfo
  | 0, r => r
  | n + 1, r => .unusable :: gap n r
def poolList (es : List (Nat × CpInfo)) (last : Nat) : List CpInfo := es.foldr (fun e r => gap e.1 (e.2 :: r)) (gap last [])
def pool (es : List (Nat × CpInfo)) (last : Nat) : Array CpInfo := ⟨poolList es last⟩
def fileOf (pool : Array CpInfo) (this : Nat) (attrs : Array Attribute := #[]) (ms : Array MethodInfo := #[]) (fl : Nat := 33) (sup : Nat := 0) (ifs : Array Nat := #[]) (fds : Array FieldInfo := #[]) : ClassFile where
  minorVersion := 0
  majorVersion := 65
  constantPool := pool
  accessFlags := fl
  thisClass := this
  superClass := sup
  interfaces := ifs
  fields := fds
  methods := ms
  attributes := attrs
def plain (name : String) (sup : Option ClassId) : Class where
  name := name
  kind := .ordinary
  loader := none
  accessFlags := 33
  super := sup
  interfaces := #[]
  cf := none
  fields := #[]
  methods := #[]
  instanceTypes := #[]
  staticTypes := #[]
  resolved := #[]
  callSites := []
  init := .initialized
  statics := none
  mirror := none

def pool0 : Array CpInfo := pool [(5, u "<init>"), (0, u "()V"), (1, .class_ 10), (1, u "java/lang/Object")] 113

def k0c0 : Code := { maxStack := 0, maxLocals := 1, code := object_method_1_code, exceptionTable := #[], attributes := #[] }
def k0m0 : Method := { name := "<init>", desc := "()V", sig := { parameters := [], returnType := none }, accessFlags := 1, code := some k0c0 }
/-- java/lang/Object -/
def k0 : Class := { plain "java/lang/Object" none with
  accessFlags := 33
  interfaces := #[]
  cf := some (fileOf pool0 8 #[] #[{ accessFlags := 1, nameIndex := 5, descriptorIndex := 6, attributes := #[] }] 33 0 #[] #[])
  fields := #[]
  methods := #[k0m0]
  instanceTypes := #[]
  staticTypes := #[]
  resolved := Array.replicate 124 none
  statics := none }

def pool1 : Array CpInfo := pool [(2, .class_ 4), (1, u "java/lang/Object"), (0, u "<init>"), (0, u "()V"), (0, .long 128), (1, .long 16384), (1, .long 2097152), (1, .long 268435456), (1, .long 34359738368), (1, .long 4398046511104), (1, .long 562949953421312), (1, .long 72057594037927936), (3, .long 9223372036854775807), (1, .methodref 28 29), (0, .class_ 30), (0, .nameAndType 31 32), (0, u "com/example/wee_find/weefind/HeldMatchesWritePinLaw"), (0, u "byteCount"), (0, u "(J)I"), (0, .class_ 34), (0, u "com/example/wee_find/weefind/HeldMatches"), (0, .methodref 33 36), (0, .nameAndType 5 37), (0, u "(I)V"), (0, .methodref 33 39), (0, .nameAndType 40 41), (0, u "write"), (0, u "(J)V"), (0, .methodref 33 43), (0, .nameAndType 44 45), (0, u "fits"), (0, u "()Z"), (0, .methodref 33 47), (0, .nameAndType 48 49), (0, u "take"), (0, u "()J"), (3, u "law"), (0, u "(JIJI)Z")] 2

def k1m0 : Method := { name := "<init>", desc := "()V", sig := { parameters := [], returnType := none }, accessFlags := 1, code := none }
def k1c1 : Code := { maxStack := 4, maxLocals := 3, code := method_2_code, exceptionTable := #[], attributes := #[] }
def k1m1 : Method := { name := "byteCount", desc := "(J)I", sig := { parameters := [.long], returnType := some .int }, accessFlags := 10, code := some k1c1 }
def k1c2 : Code := { maxStack := 4, maxLocals := 19, code := code, exceptionTable := #[], attributes := #[] }
def k1m2 : Method := { name := "law", desc := "(JIJI)Z", sig := { parameters := [.long, .int, .long, .int], returnType := some .boolean }, accessFlags := 9, code := some k1c2 }
/-- com/example/wee_find/weefind/HeldMatchesWritePinLaw -/
def k1 : Class := { plain "com/example/wee_find/weefind/HeldMatchesWritePinLaw" (some 0) with
  accessFlags := 49
  interfaces := #[]
  cf := some (fileOf pool1 28 #[] #[{ accessFlags := 1, nameIndex := 5, descriptorIndex := 6, attributes := #[] }, { accessFlags := 10, nameIndex := 31, descriptorIndex := 32, attributes := #[] }, { accessFlags := 9, nameIndex := 53, descriptorIndex := 54, attributes := #[] }] 49 2 #[] #[])
  fields := #[]
  methods := #[k1m0, k1m1, k1m2]
  instanceTypes := #[]
  staticTypes := #[]
  resolved := Array.replicate 57 none
  statics := none }

def pool2 : Array CpInfo := pool [(1, .methodref 2 3), (0, .class_ 4), (0, .nameAndType 5 6), (0, u "java/lang/Object"), (0, u "<init>"), (0, u "()V"), (0, .methodref 8 9), (0, .class_ 10), (0, .nameAndType 11 12), (0, u "java/lang/Integer"), (0, u "bitCount"), (0, u "(I)I"), (0, .class_ 14), (0, u "com/example/wee_find/weefind/HeldMatches"), (9, .fieldref 13 25), (0, .nameAndType 26 27), (0, u "bytes"), (0, u "[B"), (0, .fieldref 13 29), (0, .nameAndType 30 31), (0, u "mask"), (0, u "I"), (0, .fieldref 13 33), (0, .nameAndType 34 35), (0, u "limit"), (0, u "J"), (0, .fieldref 13 37), (0, .nameAndType 38 35), (0, u "written"), (0, .long 10), (1, .long 128), (3, u "freed"), (0, .fieldref 13 47), (0, .nameAndType 48 35), (0, u "taking"), (0, u "LONGEST"), (2, u "(I)V"), (3, u "fits"), (0, u "()Z"), (0, u "write"), (0, u "(J)V"), (1, u "take"), (0, u "()J")] 18

def k2c0 : Code := { maxStack := 3, maxLocals := 2, code := prog_24_method_1_code, exceptionTable := #[], attributes := #[] }
def k2m0 : Method := { name := "<init>", desc := "(I)V", sig := { parameters := [.int], returnType := none }, accessFlags := 0, code := some k2c0 }
def k2c1 : Code := { maxStack := 4, maxLocals := 1, code := prog_24_method_2_code, exceptionTable := #[], attributes := #[] }
def k2m1 : Method := { name := "fits", desc := "()Z", sig := { parameters := [], returnType := some .boolean }, accessFlags := 0, code := some k2c1 }
def k2c2 : Code := { maxStack := 6, maxLocals := 5, code := prog_24_method_3_code, exceptionTable := #[], attributes := #[] }
def k2m2 : Method := { name := "write", desc := "(J)V", sig := { parameters := [.long], returnType := none }, accessFlags := 0, code := some k2c2 }
def k2c3 : Code := { maxStack := 5, maxLocals := 5, code := prog_24_method_5_code, exceptionTable := #[], attributes := #[] }
def k2m3 : Method := { name := "take", desc := "()J", sig := { parameters := [], returnType := some .long }, accessFlags := 0, code := some k2c3 }
/-- com/example/wee_find/weefind/HeldMatches -/
def k2 : Class := { plain "com/example/wee_find/weefind/HeldMatches" (some 0) with
  accessFlags := 48
  interfaces := #[]
  cf := some (fileOf pool2 13 #[] #[{ accessFlags := 0, nameIndex := 5, descriptorIndex := 52, attributes := #[] }, { accessFlags := 0, nameIndex := 56, descriptorIndex := 57, attributes := #[] }, { accessFlags := 0, nameIndex := 58, descriptorIndex := 59, attributes := #[] }, { accessFlags := 0, nameIndex := 61, descriptorIndex := 62, attributes := #[] }] 48 2 #[] #[{ accessFlags := 24, nameIndex := 49, descriptorIndex := 31, attributes := #[] }, { accessFlags := 18, nameIndex := 26, descriptorIndex := 27, attributes := #[] }, { accessFlags := 18, nameIndex := 30, descriptorIndex := 31, attributes := #[] }, { accessFlags := 2, nameIndex := 38, descriptorIndex := 35, attributes := #[] }, { accessFlags := 2, nameIndex := 34, descriptorIndex := 35, attributes := #[] }, { accessFlags := 2, nameIndex := 45, descriptorIndex := 35, attributes := #[] }, { accessFlags := 2, nameIndex := 48, descriptorIndex := 35, attributes := #[] }])
  fields := #[{ name := "LONGEST", type := .int, accessFlags := 24, slot := 0, constantValue := 0 }, { name := "bytes", type := (.array .byte), accessFlags := 18, slot := 0, constantValue := 0 }, { name := "mask", type := .int, accessFlags := 18, slot := 1, constantValue := 0 }, { name := "written", type := .long, accessFlags := 2, slot := 2, constantValue := 0 }, { name := "limit", type := .long, accessFlags := 2, slot := 3, constantValue := 0 }, { name := "freed", type := .long, accessFlags := 2, slot := 4, constantValue := 0 }, { name := "taking", type := .long, accessFlags := 2, slot := 5, constantValue := 0 }]
  methods := #[k2m0, k2m1, k2m2, k2m3]
  instanceTypes := #[(.array .byte), .int, .long, .long, .long, .long]
  staticTypes := #[.int]
  resolved := Array.replicate 81 none
  statics := none }

def pool3 : Array CpInfo := pool [(1, .class_ 2), (0, u "java/io/Serializable"), (0, .class_ 4), (0, u "java/lang/Object")] 2

/-- java/io/Serializable -/
def k3 : Class := { plain "java/io/Serializable" (some 0) with
  accessFlags := 1537
  interfaces := #[]
  cf := some (fileOf pool3 1 #[] #[] 1537 3 #[] #[])
  fields := #[]
  methods := #[]
  instanceTypes := #[]
  staticTypes := #[]
  resolved := Array.replicate 7 none
  statics := none }

def pool4 : Array CpInfo := pool [(2, .class_ 4), (1, u "java/lang/Object"), (0, u "<init>"), (0, u "()V"), (1, .class_ 10), (1, u "java/lang/Number"), (2, .class_ 14), (0, u "java/io/Serializable"), (0, u "serialVersionUID"), (0, u "J")] 20

def k4m0 : Method := { name := "<init>", desc := "()V", sig := { parameters := [], returnType := none }, accessFlags := 1, code := none }
/-- java/lang/Number -/
def k4 : Class := { plain "java/lang/Number" (some 0) with
  accessFlags := 1057
  interfaces := #[3]
  cf := some (fileOf pool4 8 #[] #[{ accessFlags := 1, nameIndex := 5, descriptorIndex := 6, attributes := #[] }] 1057 2 #[13] #[{ accessFlags := 26, nameIndex := 15, descriptorIndex := 16, attributes := #[] }])
  fields := #[{ name := "serialVersionUID", type := .long, accessFlags := 26, slot := 0, constantValue := 0 }]
  methods := #[k4m0]
  instanceTypes := #[]
  staticTypes := #[.long]
  resolved := Array.replicate 37 none
  statics := none }

def pool5 : Array CpInfo := pool [(1, .class_ 2), (0, u "java/lang/Comparable"), (0, .class_ 4), (0, u "java/lang/Object")] 7

/-- java/lang/Comparable -/
def k5 : Class := { plain "java/lang/Comparable" (some 0) with
  accessFlags := 1537
  interfaces := #[]
  cf := some (fileOf pool5 1 #[] #[] 1537 3 #[] #[])
  fields := #[]
  methods := #[]
  instanceTypes := #[]
  staticTypes := #[]
  resolved := Array.replicate 12 none
  statics := none }

def pool6 : Array CpInfo := pool [(1, .class_ 2), (0, u "java/lang/constant/Constable"), (0, .class_ 4), (0, u "java/lang/Object")] 6

/-- java/lang/constant/Constable -/
def k6 : Class := { plain "java/lang/constant/Constable" (some 0) with
  accessFlags := 1537
  interfaces := #[]
  cf := some (fileOf pool6 1 #[] #[] 1537 3 #[] #[])
  fields := #[]
  methods := #[]
  instanceTypes := #[]
  staticTypes := #[]
  resolved := Array.replicate 11 none
  statics := none }

def pool7 : Array CpInfo := pool [(1, .class_ 2), (0, u "java/lang/constant/ConstantDesc"), (0, .class_ 4), (0, u "java/lang/Object")] 32

/-- java/lang/constant/ConstantDesc -/
def k7 : Class := { plain "java/lang/constant/ConstantDesc" (some 0) with
  accessFlags := 1537
  interfaces := #[]
  cf := some (fileOf pool7 1 #[] #[] 1537 3 #[] #[])
  fields := #[]
  methods := #[]
  instanceTypes := #[]
  staticTypes := #[]
  resolved := Array.replicate 37 none
  statics := none }

def pool8 : Array CpInfo := pool [(1, .class_ 2), (0, u "java/lang/Integer"), (16, u "digits"), (0, u "[C"), (33, u "(I)I"), (30, u "DigitOnes"), (0, u "[B"), (2, u "DigitTens"), (99, .class_ 190), (0, u "java/lang/Integer$IntegerCache"), (3, u "I"), (8, .class_ 204), (0, u "java/lang/Number"), (2, u "value"), (57, .integer 1431655765), (0, .integer 858993459), (0, .integer 252645135), (34, u "TYPE"), (0, u "Ljava/lang/Class;"), (0, .class_ 305), (0, u "java/lang/Comparable"), (0, .class_ 307), (0, u "java/lang/constant/Constable"), (0, .class_ 309), (0, u "java/lang/constant/ConstantDesc"), (0, u "MIN_VALUE"), (1, u "MAX_VALUE"), (3, u "SIZE"), (1, u "BYTES"), (1, u "serialVersionUID"), (0, u "J"), (85, u "bitCount")] 45

def k8c0 : Code := { maxStack := 3, maxLocals := 1, code := jdk_33_method_49_code, exceptionTable := #[], attributes := #[] }
def k8m0 : Method := { name := "bitCount", desc := "(I)I", sig := { parameters := [.int], returnType := some .int }, accessFlags := 9, code := some k8c0 }
/-- java/lang/Integer -/
def k8 : Class := { plain "java/lang/Integer" (some 4) with
  accessFlags := 49
  interfaces := #[5, 6, 7]
  cf := some (fileOf pool8 1 #[.nestMembers #[189]] #[{ accessFlags := 9, nameIndex := 407, descriptorIndex := 54, attributes := #[] }] 49 203 #[304, 306, 308] #[{ accessFlags := 25, nameIndex := 310, descriptorIndex := 194, attributes := #[] }, { accessFlags := 25, nameIndex := 312, descriptorIndex := 194, attributes := #[] }, { accessFlags := 25, nameIndex := 302, descriptorIndex := 303, attributes := #[] }, { accessFlags := 24, nameIndex := 19, descriptorIndex := 20, attributes := #[] }, { accessFlags := 24, nameIndex := 89, descriptorIndex := 86, attributes := #[] }, { accessFlags := 24, nameIndex := 85, descriptorIndex := 86, attributes := #[] }, { accessFlags := 18, nameIndex := 207, descriptorIndex := 194, attributes := #[] }, { accessFlags := 25, nameIndex := 316, descriptorIndex := 194, attributes := #[] }, { accessFlags := 25, nameIndex := 318, descriptorIndex := 194, attributes := #[] }, { accessFlags := 26, nameIndex := 320, descriptorIndex := 321, attributes := #[] }])
  fields := #[{ name := "MIN_VALUE", type := .int, accessFlags := 25, slot := 0, constantValue := 0 }, { name := "MAX_VALUE", type := .int, accessFlags := 25, slot := 1, constantValue := 0 }, { name := "TYPE", type := (.object "java/lang/Class"), accessFlags := 25, slot := 2, constantValue := 0 }, { name := "digits", type := (.array .char), accessFlags := 24, slot := 3, constantValue := 0 }, { name := "DigitTens", type := (.array .byte), accessFlags := 24, slot := 4, constantValue := 0 }, { name := "DigitOnes", type := (.array .byte), accessFlags := 24, slot := 5, constantValue := 0 }, { name := "value", type := .int, accessFlags := 18, slot := 0, constantValue := 0 }, { name := "SIZE", type := .int, accessFlags := 25, slot := 6, constantValue := 0 }, { name := "BYTES", type := .int, accessFlags := 25, slot := 7, constantValue := 0 }, { name := "serialVersionUID", type := .long, accessFlags := 26, slot := 8, constantValue := 0 }]
  methods := #[k8m0]
  instanceTypes := #[.int]
  staticTypes := #[.int, .int, (.object "java/lang/Class"), (.array .char), (.array .byte), (.array .byte), .int, .int, .long]
  resolved := Array.replicate 453 none
  statics := none }

def pool9 : Array CpInfo := pool [(1, u "java/lang/Cloneable"), (0, .class_ 1), (0, u "java/lang/Object"), (0, .class_ 3)] 3

/-- java/lang/Cloneable -/
def k9 : Class := { plain "java/lang/Cloneable" (some 0) with
  accessFlags := 1537
  interfaces := #[]
  cf := some (fileOf pool9 2 #[] #[] 1537 4 #[] #[])
  fields := #[]
  methods := #[]
  instanceTypes := #[]
  staticTypes := #[]
  resolved := Array.replicate 8 none
  statics := none }

/-- the primitive byte -/
def k10 : Class := { plain "byte" none with kind := .primitive 'B', accessFlags := 0x411 }
/-- [B -/
def k11 : Class := { plain "[B" (some 0) with kind := .array 10 .byte, interfaces := #[9, 3], accessFlags := 1041 }

/-- the primitive int -/
def k12 : Class := { plain "int" none with kind := .primitive 'I', accessFlags := 0x411 }
/-- [I -/
def k13 : Class := { plain "[I" (some 0) with kind := .array 12 .int, interfaces := #[9, 3], accessFlags := 1041 }

def heap : Heap := #[]
def classes : Array Class := #[k0, k1, k2, k3, k4, k5, k6, k7, k8, k9, k10, k11, k12, k13]
def interned : List (Array UInt16 × Addr) := []
def slotsUsed : Nat := 0
def theMethod : MethodId := ⟨1, 2⟩
def args0 : Array Value := #[.long 5, .int 5, .long 5, .int 5]
def aboutOver (below : List Frame) : State where
  vm := { classes := classes, interned := interned.toArray }
  heap := heap
  slotsUsed := slotsUsed
  threads := #[{ frames := .invoking theMethod args0 :: below }]
def below0 : List Frame := [.native { method := ⟨0, 0⟩, args := #[] }]
def about1 : State := aboutOver below0
def p0 : Program := .bare "" "" ""
def e0 : Env := launch0.env 0 0 0
theorem w_frames : about1.frames = Frame.invoking theMethod args0 :: below0 := rfl
set_option maxRecDepth 65536 in
theorem w_args : argsFit about1.vm theMethod args0 = true := by decide +kernel
set_option maxRecDepth 65536 in
theorem w_heap : heapFits about1 = true := by decide +kernel
set_option maxRecDepth 65536 in
theorem w_runnable : about1.curStatus? = some .runnable := by decide +kernel
set_option maxRecDepth 65536 in
theorem w_alone : about1.alone = true := by decide +kernel
set_option maxRecDepth 65536 in
theorem w_named : about1.methodNamed? x = some theMethod := by decide +kernel
set_option maxRecDepth 65536 in
theorem w_hears : about1.hears theMethod below0 = true := by decide +kernel
set_option maxRecDepth 65536 in
theorem w_ripe : about1.ripe theMethod args0 below0 = true := by decide +kernel
theorem w_running : about1.status = .running := rfl
set_option maxRecDepth 65536 in
theorem w_room : about1.hasRoom e0.platform room_1 = true :=
  launch0.hasRoom_least _ room_1 (by decide +kernel) (by decide +kernel) (by decide +kernel) (by decide +kernel) (by decide +kernel) (by decide +kernel)
theorem allAtoms_all (ts : List Jvm.Cond) (a : Array Jvm.Value) (st : Jvm.State) : (allAtoms ts).before a st = ts.all (fun c => c.before a st) := by
  induction ts with
  | nil => rfl
  | cons c t ih =>
    show (Jvm.Cond.and c (allAtoms t)).before a st = _
    rw [Jvm.Cond.before_and, ih, List.all_cons]
def words1 : List Jvm.Cond := Jvm.Cond.code x code maxLocals ret :: tables_1
/-- a 'code' word, met by the world's own term for the bytes: nothing is compared byte by byte -/
theorem code_word {y : MethodName} {bytes : ByteArray} {mx : Nat} {rt : Option FieldType} {a : Array Value} {s : State} {m : MethodId} {meth : Method} {c : Code} (h1 : s.methodNamed? y = some m) (h2 : s.vm.method? m = some meth) (h3 : meth.code = some c) (h4 : c.code = bytes)
    (h5 : (c.maxLocals == mx && c.exceptionTable.isEmpty && decide (c.maxStack ≤ mostOperands) && decide (meth.sig.returnType = rt) && !meth.locks && decide (parseMethodDescriptor y.desc = some meth.sig)) = true) : (Jvm.Cond.code y bytes mx rt).before a s = true := by
  simp only [Bool.and_eq_true, beq_iff_eq, Bool.not_eq_true', decide_eq_true_eq] at h5
  obtain ⟨⟨⟨⟨⟨g1, g2⟩, g3⟩, g4⟩, g5⟩, g6⟩ := h5
  simp [Cond.before, Cond.holds, Cond.value, h1, h2, h3, h4, g1, g2, g3, g4, g5, g6]
def isCode : Jvm.Cond → Bool
  | .code _ _ _ _ => true
  | _ => false
theorem all_split {L : List Jvm.Cond} {P : Jvm.Cond → Bool} (h1 : L.all (fun c => isCode c || P c) = true) (h2 : ∀ c ∈ L.filter isCode, P c = true) : L.all P = true := by
  refine List.all_eq_true.mpr fun c hc => ?_
  have h := List.all_eq_true.mp h1 c hc
  rcases Bool.eq_false_or_eq_true (isCode c) with hi | hi
  · exact h2 c (List.mem_filter.mpr ⟨hc, hi⟩)
  · simpa [hi] using h
set_option maxRecDepth 65536 in
theorem w_c0 : (Jvm.Cond.code x code maxLocals ret).before args0 about1 = true := code_word (m := ⟨1, 2⟩) (meth := k1m2) (c := k1c2) (by decide +kernel) rfl rfl rfl (by decide +kernel)
set_option maxRecDepth 65536 in
theorem w_c1 : (Jvm.Cond.code ({ cls := "com/example/wee_find/weefind/HeldMatchesWritePinLaw", name := "byteCount", desc := "(J)I" } : Jvm.MethodName) method_2_code (3 : Nat) (Option.some Jvm.ClassFile.FieldType.int)).before args0 about1 = true := code_word (m := ⟨1, 1⟩) (meth := k1m1) (c := k1c1) (by decide +kernel) rfl rfl rfl (by decide +kernel)
set_option maxRecDepth 65536 in
theorem w_c2 : (Jvm.Cond.code ({ cls := "com/example/wee_find/weefind/HeldMatches", name := "<init>", desc := "(I)V" } : Jvm.MethodName) prog_24_method_1_code (2 : Nat) (Option.none : Option Jvm.ClassFile.FieldType)).before args0 about1 = true := code_word (m := ⟨2, 0⟩) (meth := k2m0) (c := k2c0) (by decide +kernel) rfl rfl rfl (by decide +kernel)
set_option maxRecDepth 65536 in
theorem w_c3 : (Jvm.Cond.code ({ cls := "java/lang/Object", name := "<init>", desc := "()V" } : Jvm.MethodName) object_method_1_code (1 : Nat) (Option.none : Option Jvm.ClassFile.FieldType)).before args0 about1 = true := code_word (m := ⟨0, 0⟩) (meth := k0m0) (c := k0c0) (by decide +kernel) rfl rfl rfl (by decide +kernel)
set_option maxRecDepth 65536 in
theorem w_c4 : (Jvm.Cond.code ({ cls := "java/lang/Integer", name := "bitCount", desc := "(I)I" } : Jvm.MethodName) jdk_33_method_49_code (1 : Nat) (Option.some Jvm.ClassFile.FieldType.int)).before args0 about1 = true := code_word (m := ⟨8, 0⟩) (meth := k8m0) (c := k8c0) (by decide +kernel) rfl rfl rfl (by decide +kernel)
set_option maxRecDepth 65536 in
theorem w_c5 : (Jvm.Cond.code ({ cls := "com/example/wee_find/weefind/HeldMatches", name := "write", desc := "(J)V" } : Jvm.MethodName) prog_24_method_3_code (5 : Nat) (Option.none : Option Jvm.ClassFile.FieldType)).before args0 about1 = true := code_word (m := ⟨2, 2⟩) (meth := k2m2) (c := k2c2) (by decide +kernel) rfl rfl rfl (by decide +kernel)
set_option maxRecDepth 65536 in
theorem w_c6 : (Jvm.Cond.code ({ cls := "com/example/wee_find/weefind/HeldMatches", name := "fits", desc := "()Z" } : Jvm.MethodName) prog_24_method_2_code (1 : Nat) (Option.some Jvm.ClassFile.FieldType.boolean)).before args0 about1 = true := code_word (m := ⟨2, 1⟩) (meth := k2m1) (c := k2c1) (by decide +kernel) rfl rfl rfl (by decide +kernel)
set_option maxRecDepth 65536 in
theorem w_c7 : (Jvm.Cond.code ({ cls := "com/example/wee_find/weefind/HeldMatches", name := "take", desc := "()J" } : Jvm.MethodName) prog_24_method_5_code (5 : Nat) (Option.some Jvm.ClassFile.FieldType.long)).before args0 about1 = true := code_word (m := ⟨2, 3⟩) (meth := k2m3) (c := k2c3) (by decide +kernel) rfl rfl rfl (by decide +kernel)
def codes1 : List Jvm.Cond := [Jvm.Cond.code x code maxLocals ret, Jvm.Cond.code ({ cls := "com/example/wee_find/weefind/HeldMatchesWritePinLaw", name := "byteCount", desc := "(J)I" } : Jvm.MethodName) method_2_code (3 : Nat) (Option.some Jvm.ClassFile.FieldType.int), Jvm.Cond.code ({ cls := "com/example/wee_find/weefind/HeldMatches", name := "<init>", desc := "(I)V" } : Jvm.MethodName) prog_24_method_1_code (2 : Nat) (Option.none : Option Jvm.ClassFile.FieldType), Jvm.Cond.code ({ cls := "java/lang/Object", name := "<init>", desc := "()V" } : Jvm.MethodName) object_method_1_code (1 : Nat) (Option.none : Option Jvm.ClassFile.FieldType), Jvm.Cond.code ({ cls := "java/lang/Integer", name := "bitCount", desc := "(I)I" } : Jvm.MethodName) jdk_33_method_49_code (1 : Nat) (Option.some Jvm.ClassFile.FieldType.int), Jvm.Cond.code ({ cls := "com/example/wee_find/weefind/HeldMatches", name := "write", desc := "(J)V" } : Jvm.MethodName) prog_24_method_3_code (5 : Nat) (Option.none : Option Jvm.ClassFile.FieldType), Jvm.Cond.code ({ cls := "com/example/wee_find/weefind/HeldMatches", name := "fits", desc := "()Z" } : Jvm.MethodName) prog_24_method_2_code (1 : Nat) (Option.some Jvm.ClassFile.FieldType.boolean), Jvm.Cond.code ({ cls := "com/example/wee_find/weefind/HeldMatches", name := "take", desc := "()J" } : Jvm.MethodName) prog_24_method_5_code (5 : Nat) (Option.some Jvm.ClassFile.FieldType.long)]
set_option maxRecDepth 65536 in
theorem codes_eq : words1.filter isCode = codes1 := rfl
theorem w_codes : ∀ c ∈ words1.filter isCode, c.before args0 about1 = true := by
  rw [codes_eq]
  intro c hc
  simp only [codes1, List.mem_cons, List.not_mem_nil, or_false] at hc
  rcases hc with rfl | rfl | rfl | rfl | rfl | rfl | rfl | rfl
  · exact w_c0
  · exact w_c1
  · exact w_c2
  · exact w_c3
  · exact w_c4
  · exact w_c5
  · exact w_c6
  · exact w_c7
set_option maxRecDepth 65536 in
theorem w_t1 : (words1.take 24).all (fun c => isCode c || c.before args0 about1) = true := by decide +kernel
set_option maxRecDepth 65536 in
theorem w_t2 : ((words1.drop 24).take 24).all (fun c => isCode c || c.before args0 about1) = true := by decide +kernel
set_option maxRecDepth 65536 in
theorem w_t3 : ((words1.drop 24).drop 24).all (fun c => isCode c || c.before args0 about1) = true := by decide +kernel
theorem w_tables : (allAtoms (Jvm.Cond.code x code maxLocals ret :: tables_1)).before args0 about1 = true := by
  rw [allAtoms_all]
  show words1.all (fun c => c.before args0 about1) = true
  refine all_split ?_ w_codes
  rw [← List.take_append_drop 24 words1, List.all_append, w_t1, ← List.take_append_drop 24 (words1.drop 24), List.all_append, w_t2, w_t3]
  rfl
set_option maxRecDepth 65536 in
theorem w_case : (Jvm.Cond.and given_1 narrow_1).before args0 about1 = true := by decide +kernel
theorem w_applies : (headSpec (Jvm.Cond.code x code maxLocals ret :: tables_1) room_1).applies x e0.platform about1 = true :=
  (Spec.applies_iff w_frames).mpr ⟨w_running, w_runnable, w_alone, w_named, w_hears, w_ripe, w_room, w_tables⟩
theorem atStart : AtStart classFile x code maxLocals ret World_1 tables_1 room_1 Calls_1 rest_1 Pre_1 launch0 p0 e0 about1 theMethod args0 below0 :=
  ⟨lists_1, trivial, launch0.admits_env _ _ _, launch0.least_env, fairChoices_fair.cas, fairChoices_fair.clock, w_frames, w_args, w_heap, w_applies, trivial, trivial, w_case⟩
end start1
theorem witness_1 : WitnessClaimed_1 := ⟨start1.p0, start1.e0, start1.about1, start1.theMethod, start1.args0, start1.below0, start1.atStart⟩
end Jvm.Pilot.@@N@@
