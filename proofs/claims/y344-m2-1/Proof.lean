import JvmDerived
import JvmDerived.Pilot.@@N@@Statement
import JvmDerived.Pilot.@@N@@Code
set_option linter.unusedVariables false
set_option linter.unusedSimpArgs false
@@BLOCK:NumsL.lean.txt@@
namespace Jvm.RoadKit
open Sem ClassFile Op Lib Jvm.Stand Jvm.Free Jvm.LawKit
section New
variable {p : Program} {l : Launch} {e : Env} {R : Room} {s : State} {m : MethodId} {args : Array Value} {below : List Frame} {meth : Method} {c : Code} {T : State} {locs : List Loc} {cells slots : Nat}
theorem retI (X : Stand p l e R s m args below meth c T locs cells slots) (hx : p.tables.exec = Jvm.exec) {pc : Nat} {Ls : Array Slot} {z : Int32} {rest : List Value} (hret : meth.sig.returnType = some .int) (hd : decode c.code pc = .ok (.ireturn, 1)) {fs : List Frame}
    (hl : ∀ (f : JFrame) (acts : List Action), f.method = m → f.locked = none → f.entered = [] → (doReturn e (T.setTop f) acts (some (.int z))).1 = T.setFrames fs) : Steps p.tables e below (T.setTop (mkF m pc Ls (.int z :: rest))) (T.setFrames fs) := by
  have hm' : T.vm.method? m = some meth := X.method'
  have hn : narrow .int (.int z) = .int z := rfl
  show Steps p.tables e below (T.setTop { method := m, pc := pc, locals := Ls, stack := _ :: rest, locked := none }) _
  jvm_step X.here [X.here.top, hx, hd, hm', hret, hn]
  first | (intro acts; rw [hl _ acts rfl rfl rfl]) | rw [hl _ _ rfl rfl rfl]
  exact Steps.refl _
end New
end Jvm.RoadKit
namespace Jvm.Pilot.@@N@@
open Jvm Jvm.ClassFile Sem Op Lib Jvm.Free Jvm.Stand Jvm.LawKit Jvm.RoadKit Bundle Jvm.Pilot.@@N@@.Jvm.D
theorem own_lwN {x y : Int64} (h : ¬ x = y) : ¬ lcmpW x y = 0 := fun q => h ((lw_eq x y).mp q)
theorem own_lwE {x y : Int64} (h : x = y) : lcmpW x y = 0 := (lw_eq x y).mpr h
theorem own_lwL {x y : Int64} (h : x < y) : lcmpW x y < 0 := (lw_lt x y).mpr h
theorem own_lwM {x y : Int64} (h : ¬ x < y) : ¬ lcmpW x y < 0 := fun q => h ((lw_lt x y).mp q)
theorem own_lwG {x y : Int64} (h : y < x) : 0 < lcmpW x y := (lw_gt x y).mpr h
theorem own_lwH {x y : Int64} (h : ¬ y < x) : ¬ 0 < lcmpW x y := fun q => h ((lw_gt x y).mp q)
theorem own_F {Z : State} {h : Heap} {a : Addr} {C n d : String} {v w : Value} (q : v = w) (F : Fld Z h a C n d v) : Fld Z h a C n d w := q ▸ F
theorem own_rI {x y : Int32} (q : x = y) : (some (Value.int x)) = some (.int y) := by rw [q]
theorem own_rJ {x y : Int64} (q : x = y) : (some (Value.long x)) = some (.long y) := by rw [q]
def own_Ar (Z : State) (h : Heap) (a : Addr) (ty : FieldType) (n : Nat) (f : Nat → Int32) : Prop := ∃ c : Cell, Arr Z h a c ty ∧ c.slots.size = n ∧ ∀ i, i < n → c.slots[i]? = some (.int (f i))
def own_up (f : Nat → Int32) (i : Nat) (x : Int32) : Nat → Int32 := fun k => if k = i then x else f k
theorem own_up_self (f : Nat → Int32) (i : Nat) (x : Int32) : own_up f i x i = x := if_pos rfl
theorem own_up_ne (f : Nat → Int32) {i k : Nat} (x : Int32) (h : k ≠ i) : own_up f i x k = f k := if_neg h
section OwnArr
variable {Z : State} {h h' : Heap} {a b : Addr} {ty : FieldType} {n : Nat} {f : Nat → Int32} {sl : Nat} {v : Value} {ws : List Addr}
theorem own_Ar.lt (F : own_Ar Z h a ty n f) : a < h.size := by obtain ⟨c, A, -⟩ := F; exact A.lt
theorem own_Ar.ext (F : own_Ar Z h a ty n f) (E : Ext h h') : own_Ar Z h' a ty n f := by obtain ⟨c, A, r⟩ := F; exact ⟨c, A.ext E, r⟩
theorem own_Ar.other (F : own_Ar Z h b ty n f) (W : Wr h h' a sl v) (q : b ≠ a) : own_Ar Z h' b ty n f := by obtain ⟨c, A, r⟩ := F; exact ⟨c, A.other W q, r⟩
theorem own_Ar.keep (F : own_Ar Z h a ty n f) (K : Keep h h' ws) (q : a ∉ ws) : own_Ar Z h' a ty n f := by obtain ⟨c, A, r⟩ := F; exact ⟨c, ⟨K.2.1 a c A.1 q, A.2⟩, r⟩
theorem own_Ar.wr {i : Nat} {x : Int32} (F : own_Ar Z h a ty n f) (W : Wr h h' a i (.int x)) (hi : i < n) : own_Ar Z h' a ty n (own_up f i x) := by
  obtain ⟨c, A, hs, H⟩ := F
  refine ⟨c.setSlot i (.int x), A.same W, by rw [sz_set]; exact hs, fun k hk => ?_⟩
  by_cases e : k = i
  · subst e; rw [own_up_self]; simp [Cell.setSlot, hs, hk]
  · rw [own_up_ne f x e]
    have q := H k hk
    simp only [Cell.setSlot]
    rw [Array.getElem?_setIfInBounds_ne (Ne.symm e)]; exact q
theorem own_Ar.mono {g : Nat → Int32} (F : own_Ar Z h a ty n f) (q : ∀ i, i < n → f i = g i) : own_Ar Z h a ty n g := by
  obtain ⟨c, A, hs, H⟩ := F
  exact ⟨c, A, hs, fun i hi => by rw [← q i hi]; exact H i hi⟩
theorem own_Ar.of {k : ClassId} {z : Int32} {vs : List Value} (F : Arv Z h a k ty z vs (.int 0)) (hz : z.toNatClampNeg = n) (q : ∀ i, i < n → vs.getD i (.int 0) = .int (f i)) : own_Ar Z h a ty n f := by
  obtain ⟨c, A, -, hs, -, H, -⟩ := F
  rw [hz] at hs
  exact ⟨c, A, hs, fun i hi => by rw [H i (by rw [hs]; exact hi), q i hi]⟩
variable {p : Program} {l : Launch} {e : Env} {R : Room} {s : State} {m : MethodId} {args : Array Value} {below : List Frame} {meth : Method} {c : Code} {T : State} {locs : List Loc} {cells slots : Nat}
theorem own_in {cl : Cell} {j : Int32} {i : Nat} (hs : cl.slots.size = n) (hj : ¬ j < 0 ∧ j.toNatClampNeg = i) (hi : i < n) : ¬ (j < 0 ∨ cl.slots.size ≤ j.toNatClampNeg) := by
  rw [hs, hj.2]; exact fun q => q.elim hj.1 (Nat.not_le.mpr hi)
theorem own_rdI (X : Stand p l e R s m args below meth c T locs cells slots) (hx : p.tables.exec = Jvm.exec) (hZ : Z.Warmed39 s.vm) (eT : T.heap = h) (F : own_Ar Z h a .int n f) {j : Int32} {i : Nat} (hj : ¬ j < 0 ∧ j.toNatClampNeg = i) (hi : i < n) {g : JFrame} (hg : g.method = m) {rest : List Value} (hs : g.stack = .int j :: .ref a :: rest) (hd : decode c.code g.pc = .ok (.iaload, 1))
    (target : State) (hr : Steps p.tables e below (T.setTop { g with pc := g.pc + 1, stack := .int (f i) :: rest }) target) : Steps p.tables e below (T.setTop g) target := by
  obtain ⟨cl, A, hsz, H⟩ := F
  exact X.iaload hx (v := .int (f i)) (by rw [eT]; exact A.1) (State.isArrayOf_alike hZ.alike A.2.1) A.2.2 (own_in hsz hj hi) (by rw [hj.2]; exact H i hi) hg hs hd target hr
theorem own_rdB (X : Stand p l e R s m args below meth c T locs cells slots) (hx : p.tables.exec = Jvm.exec) (hZ : Z.Warmed39 s.vm) (eT : T.heap = h) (F : own_Ar Z h a .byte n f) {j : Int32} {i : Nat} (hj : ¬ j < 0 ∧ j.toNatClampNeg = i) (hi : i < n) {g : JFrame} (hg : g.method = m) {rest : List Value} (hs : g.stack = .int j :: .ref a :: rest) (hd : decode c.code g.pc = .ok (.baload, 1))
    (target : State) (hr : Steps p.tables e below (T.setTop { g with pc := g.pc + 1, stack := .int (f i) :: rest }) target) : Steps p.tables e below (T.setTop g) target := by
  obtain ⟨cl, A, hsz, H⟩ := F
  exact X.baloadBytes hx (v := .int (f i)) (by rw [eT]; exact A.1) (State.isArrayOf_alike hZ.alike A.2.1) A.2.2 (own_in hsz hj hi) (by rw [hj.2]; exact H i hi) hg hs hd target hr
theorem own_len (X : Stand p l e R s m args below meth c T locs cells slots) (hx : p.tables.exec = Jvm.exec) (hZ : Z.Warmed39 s.vm) (eT : T.heap = h) (F : own_Ar Z h a ty n f) {z : Int32} (hz : n.toInt32 = z) {g : JFrame} (hg : g.method = m) {rest : List Value} (hs : g.stack = .ref a :: rest) (hd : decode c.code g.pc = .ok (.arraylength, 1))
    (target : State) (hr : Steps p.tables e below (T.setTop { g with pc := g.pc + 1, stack := .int z :: rest }) target) : Steps p.tables e below (T.setTop g) target := by
  obtain ⟨cl, A, hsz, H⟩ := F
  exact X.arraylength hx (by rw [eT]; exact A.1) (State.isArrayOf_alike hZ.alike A.2.1) hg hs hd target (by rw [hsz, hz]; exact hr)
theorem own_stI (X : Stand p l e R s m args below meth c T locs cells slots) (hx : p.tables.exec = Jvm.exec) (hZ : Z.Warmed39 s.vm) (eT : T.heap = h) (F : own_Ar Z h a .int n f) {j x : Int32} {i : Nat} (hj : ¬ j < 0 ∧ j.toNatClampNeg = i) (hi : i < n) {g : JFrame} (hg : g.method = m) {rest : List Value} (hs : g.stack = .int x :: .int j :: .ref a :: rest) (hd : decode c.code g.pc = .ok (.iastore, 1)) :
    ∃ T' h', Stand p l e R s m args below meth c T' (locs ++ [⟨a, i⟩]) cells slots ∧ T'.heap = h' ∧ Wr h h' a i (.int x) ∧ own_Ar Z h' a .int n (own_up f i x) ∧ ∀ target, Steps p.tables e below (T'.setTop { g with pc := g.pc + 1, stack := rest }) target → Steps p.tables e below (T.setTop g) target := by
  have F0 := F
  obtain ⟨cl, A, hsz, H⟩ := F
  obtain ⟨T', h', X', e', W', st⟩ := stI X hx hZ eT A (own_in hsz hj hi) hg hs hd
  rw [hj.2] at X' W'
  exact ⟨T', h', X', e', W', F0.wr W' hi, st⟩
theorem own_stB (X : Stand p l e R s m args below meth c T locs cells slots) (hx : p.tables.exec = Jvm.exec) (hZ : Z.Warmed39 s.vm) (eT : T.heap = h) (F : own_Ar Z h a .byte n f) {j x : Int32} {i : Nat} (hj : ¬ j < 0 ∧ j.toNatClampNeg = i) (hi : i < n) {g : JFrame} (hg : g.method = m) {rest : List Value} (hs : g.stack = .int x :: .int j :: .ref a :: rest) (hd : decode c.code g.pc = .ok (.bastore, 1)) :
    ∃ T' h', Stand p l e R s m args below meth c T' (locs ++ [⟨a, i⟩]) cells slots ∧ T'.heap = h' ∧ Wr h h' a i (.int (x.toInt8.toInt32)) ∧ own_Ar Z h' a .byte n (own_up f i (x.toInt8.toInt32)) ∧ ∀ target, Steps p.tables e below (T'.setTop { g with pc := g.pc + 1, stack := rest }) target → Steps p.tables e below (T.setTop g) target := by
  have F0 := F
  obtain ⟨cl, A, hsz, H⟩ := F
  obtain ⟨T', h', X', e', W', st⟩ := stB X hx hZ eT A (own_in hsz hj hi) hg hs hd
  rw [hj.2] at X' W'
  exact ⟨T', h', X', e', W', F0.wr W' hi, st⟩
end OwnArr
theorem own_idx : ∀ w : Fin 128, ¬ ((Int64.ofNat w.val) &&& ((15 : Int32).toInt64)).toInt32 < 0 ∧ (((Int64.ofNat w.val) &&& ((15 : Int32).toInt64)).toInt32).toNatClampNeg = w.val % 16 := by decide +kernel
theorem own_ix {w : Nat} (h : w < 128) : ¬ ((Int64.ofNat w) &&& ((15 : Int32).toInt64)).toInt32 < 0 ∧ (((Int64.ofNat w) &&& ((15 : Int32).toInt64)).toInt32).toNatClampNeg = w % 16 := own_idx ⟨w, h⟩
theorem own_m16 (w : Nat) : w % 16 < 16 := Nat.mod_lt _ (by decide)
theorem own_w1 (w : Nat) : Int64.ofNat w + (1 : Int64) = Int64.ofNat (w + 1) := (Int64.ofNat_add w 1).symm
def own_bc (r : Nat) : Int32 := Int32.ofInt ((r % 128 : Nat) - 128 : Int)
def own_bl (r : Nat) : Int32 := Int32.ofNat r
theorem own_n64 {r : Nat} (h : r < 2 ^ 63) : (Int64.ofNat r).toInt = r := Int64.toInt_ofNat_of_lt h
theorem own_lt128 {r : Nat} (h : r < 2 ^ 63) : Int64.ofNat r < (128 : Int64) ↔ r < 128 := by
  rw [Int64.lt_iff_toInt_lt, own_n64 h]
  show (r : Int) < 128 ↔ r < 128
  omega
theorem own_bcF : ∀ m : Fin 256, ((BitVec.ofNat 8 m.val ||| 128#8).signExtend 32) = (Int32.ofInt ((m.val % 128 : Nat) - 128 : Int)).toBitVec := by decide +kernel
theorem own_bce (r : Nat) : ((((Int64.ofNat r) ||| (128 : Int64)).toInt32).toInt8.toInt32).toInt8.toInt32 = own_bc r := by
  apply Int32.toBitVec_inj.mp
  have e1 : ((((Int64.ofNat r) ||| (128 : Int64)).toInt32).toInt8).toBitVec = BitVec.ofNat 8 r ||| 128#8 := by
    show (((BitVec.ofNat 64 r ||| 128#64).signExtend 32).signExtend 8) = _
    apply BitVec.eq_of_getLsbD_eq
    intro i hi
    simp only [BitVec.getLsbD_signExtend, BitVec.getLsbD_or, BitVec.getLsbD_ofNat]
    have q1 : i < 32 := by omega
    have q2 : i < 64 := by omega
    simp [q1, q2, hi]
  have e2 : (((((Int64.ofNat r) ||| (128 : Int64)).toInt32).toInt8).toInt32).toInt8 = (((Int64.ofNat r) ||| (128 : Int64)).toInt32).toInt8 := by simp
  rw [e2]
  show (((((Int64.ofNat r) ||| (128 : Int64)).toInt32).toInt8).toBitVec).signExtend 32 = _
  rw [e1]
  have e3 : BitVec.ofNat 8 r = BitVec.ofNat 8 (r % 256) := by
    apply BitVec.eq_of_toNat_eq
    simp
  rw [e3]
  have q := own_bcF ⟨r % 256, Nat.mod_lt _ (by decide)⟩
  rw [q]
  show _ = (Int32.ofInt ((r % 128 : Nat) - 128 : Int)).toBitVec
  have e4 : r % 256 % 128 = r % 128 := by omega
  rw [e4]
theorem own_blF : ∀ m : Fin 128, ((Int64.ofNat m.val).toInt32.toInt8.toInt32).toInt8.toInt32 = Int32.ofNat m.val := by decide +kernel
theorem own_ble {r : Nat} (h : r < 128) : ((Int64.ofNat r).toInt32.toInt8.toInt32).toInt8.toInt32 = own_bl r := own_blF ⟨r, h⟩
theorem own_shr {r : Nat} (h : r < 2 ^ 63) : (((Int64.ofNat r).toUInt64 >>> ((7 : Int32) &&& 0x3f).toInt64.toUInt64).toInt64) = Int64.ofNat (r / 128) := by
  apply Int64.toInt_inj.mp
  have n := own_n64 h
  rw [Jvm.Kit.i64_lushr (x := Int64.ofNat r) (by rw [Jvm.Kit.i64_nonneg, n]; omega) (k := 7) (by decide) (by decide), n, own_n64 (by omega)]
  omega
def own_Len : Nat → Nat → Prop
  | 0, r => r < 128
  | k + 1, r => 128 ≤ r ∧ own_Len k (r / 128)
def own_Enc (f : Nat → Int32) : Nat → Nat → Nat → Prop
  | 0, w, r => r < 128 ∧ f (w % 16) = own_bl r
  | k + 1, w, r => 128 ≤ r ∧ f (w % 16) = own_bc r ∧ own_Enc f k (w + 1) (r / 128)
theorem own_Lex : ∀ (n r : Nat), r < 2 ^ (7 * (n + 1)) → ∃ k, k ≤ n ∧ own_Len k r
  | 0, r, h => ⟨0, Nat.le_refl _, h⟩
  | n + 1, r, h => by
    by_cases q : r < 128
    · exact ⟨0, Nat.zero_le _, q⟩
    · have h2 : r / 128 < 2 ^ (7 * (n + 1)) := by
        apply Nat.div_lt_of_lt_mul
        have e : 128 * 2 ^ (7 * (n + 1)) = 2 ^ (7 * (n + 1 + 1)) := by
          rw [show 7 * (n + 1 + 1) = 7 + 7 * (n + 1) from by omega, Nat.pow_add]
        rw [e]; exact h
      obtain ⟨k, hk, hl⟩ := own_Lex n (r / 128) h2
      exact ⟨k + 1, by omega, by omega, hl⟩
theorem own_Len8 {r : Nat} (h : r < 2 ^ 63) : ∃ k, k ≤ 8 ∧ own_Len k r := own_Lex 8 r h
theorem own_or {d x sh : Nat} (hd : d < 2 ^ sh) : Int64.ofNat d ||| Int64.ofNat (x * 2 ^ sh) = Int64.ofNat (d + x * 2 ^ sh) := by
  apply Int64.toBitVec_inj.mp
  show BitVec.ofNat 64 d ||| BitVec.ofNat 64 (x * 2 ^ sh) = BitVec.ofNat 64 (d + x * 2 ^ sh)
  rw [← BitVec.ofNat_or]
  congr 1
  have q := Nat.shiftLeft_add_eq_or_of_lt hd x
  rw [Nat.shiftLeft_eq] at q
  rw [Nat.or_comm, ← q, Nat.add_comm]
theorem own_sh6 : ∀ k : Fin 64, ((((Int32.ofNat k.val) &&& 0x3f).toInt64).toBitVec.smod 64).toNat = k.val := by decide +kernel
theorem own_shl {x sh : Nat} (hsh : sh < 64) (hx : x * 2 ^ sh < 2 ^ 63) : (Int64.ofNat x <<< ((Int32.ofNat sh) &&& 0x3f).toInt64) = Int64.ofNat (x * 2 ^ sh) := by
  have hx1 : x < 2 ^ 63 := Nat.lt_of_le_of_lt (Nat.le_mul_of_pos_right x (Nat.two_pow_pos sh)) hx
  apply Int64.toInt_inj.mp
  have c : ((x : Int) * 2 ^ sh) = ((x * 2 ^ sh : Nat) : Int) := by rw [Int.natCast_mul, Int.natCast_pow]; rfl
  rw [Jvm.Kit.i64_shl (Int64.ofNat x) _ (k := sh) (own_sh6 ⟨sh, hsh⟩) (by rw [own_n64 hx1, c]; omega) (by rw [own_n64 hx1, c]; omega), own_n64 hx1, own_n64 hx, c]
theorem own_blm : ∀ m : Fin 128, ((Int32.ofNat m.val) &&& (127 : Int32)).toInt64 = Int64.ofNat m.val ∧ ¬ Int32.ofNat m.val < 0 := by decide +kernel
theorem own_bcm : ∀ m : Fin 128, ((Int32.ofInt ((m.val : Nat) - 128 : Int)) &&& (127 : Int32)).toInt64 = Int64.ofNat m.val ∧ Int32.ofInt ((m.val : Nat) - 128 : Int) < 0 := by decide +kernel
theorem own_bl127 {r : Nat} (h : r < 128) : ((own_bl r) &&& (127 : Int32)).toInt64 = Int64.ofNat r := (own_blm ⟨r, h⟩).1
theorem own_bl0 {r : Nat} (h : r < 128) : ¬ own_bl r < (0 : Int32) := (own_blm ⟨r, h⟩).2
theorem own_bc127 (r : Nat) : ((own_bc r) &&& (127 : Int32)).toInt64 = Int64.ofNat (r % 128) := (own_bcm ⟨r % 128, Nat.mod_lt _ (by decide)⟩).1
theorem own_bc0 (r : Nat) : own_bc r < (0 : Int32) := (own_bcm ⟨r % 128, Nat.mod_lt _ (by decide)⟩).2
theorem own_s7 (sh : Nat) : Int32.ofNat sh + (7 : Int32) = Int32.ofNat (sh + 7) := (Int32.ofNat_add sh 7).symm
theorem own_p7 (d r sh : Nat) : d + (r % 128) * 2 ^ sh + (r / 128) * 2 ^ (sh + 7) = d + r * 2 ^ sh := by
  have e : r = 128 * (r / 128) + r % 128 := (Nat.div_add_mod r 128).symm
  have q : (r / 128) * 2 ^ (sh + 7) = (128 * (r / 128)) * 2 ^ sh := by
    rw [Nat.pow_add, Nat.mul_comm (2 ^ sh) (2 ^ 7), ← Nat.mul_assoc, Nat.mul_comm (r / 128) (2 ^ 7)]
  rw [q, Nat.add_assoc, ← Nat.add_mul, Nat.add_comm (r % 128), ← e]
theorem own_d7 {d r sh : Nat} (hd : d < 2 ^ sh) : d + (r % 128) * 2 ^ sh < 2 ^ (sh + 7) := by
  have h1 : r % 128 ≤ 127 := by omega
  have h2 : (r % 128) * 2 ^ sh ≤ 127 * 2 ^ sh := Nat.mul_le_mul_right _ h1
  have e : 2 ^ (sh + 7) = 128 * 2 ^ sh := by rw [Nat.pow_add, Nat.mul_comm]
  omega
theorem own_lz {d r sh : Nat} (h : d + r * 2 ^ sh < 2 ^ 63) : (r % 128) * 2 ^ sh < 2 ^ 63 := by
  have h1 : (r % 128) * 2 ^ sh ≤ r * 2 ^ sh := Nat.mul_le_mul_right _ (Nat.mod_le _ _)
  omega
theorem own_os {a1 : Addr} {d : Int64} {x v : Int32} {s4 : Slot} (h : One s4) : storeLocals #[.val (.ref a1), .val (.long d), .second, .val (.int x), s4] 4 (.int v) = some #[.val (.ref a1), .val (.long d), .second, .val (.int x), .val (.int v)] := by
  rcases h with rfl | ⟨w, rfl, hw⟩
  · rfl
  · cases w <;> first | rfl | (simp [Value.category] at hw)
theorem own_r0 {r : Nat} : 0 + r * 2 ^ 0 = r := by omega
theorem own_nat (x : Int64) (h : 0 ≤ x.toInt) : ∃ r : Nat, r < 2 ^ 63 ∧ x = Int64.ofNat r := by
  have hb := x.toInt_lt
  refine ⟨x.toInt.toNat, by omega, ?_⟩
  apply Int64.toInt_inj.mp
  rw [own_n64 (by omega)]
  omega
theorem d3_0 : decode jdk_33_method_49_code 0 = .ok (.iload_n 0, 1) := by decide +kernel
theorem d3_1 : decode jdk_33_method_49_code 1 = .ok (.iload_n 0, 1) := by decide +kernel
theorem d3_2 : decode jdk_33_method_49_code 2 = .ok (.iconst 1, 1) := by decide +kernel
theorem d3_3 : decode jdk_33_method_49_code 3 = .ok (.iushr, 1) := by decide +kernel
theorem d3_4 : decode jdk_33_method_49_code 4 = .ok (.ldc_w 265, 3) := by decide +kernel
theorem d3_7 : decode jdk_33_method_49_code 7 = .ok (.iand, 1) := by decide +kernel
theorem d3_8 : decode jdk_33_method_49_code 8 = .ok (.isub, 1) := by decide +kernel
theorem d3_9 : decode jdk_33_method_49_code 9 = .ok (.istore_n 0, 1) := by decide +kernel
theorem d3_10 : decode jdk_33_method_49_code 10 = .ok (.iload_n 0, 1) := by decide +kernel
theorem d3_11 : decode jdk_33_method_49_code 11 = .ok (.ldc_w 266, 3) := by decide +kernel
theorem d3_14 : decode jdk_33_method_49_code 14 = .ok (.iand, 1) := by decide +kernel
theorem d3_15 : decode jdk_33_method_49_code 15 = .ok (.iload_n 0, 1) := by decide +kernel
theorem d3_16 : decode jdk_33_method_49_code 16 = .ok (.iconst 2, 1) := by decide +kernel
theorem d3_17 : decode jdk_33_method_49_code 17 = .ok (.iushr, 1) := by decide +kernel
theorem d3_18 : decode jdk_33_method_49_code 18 = .ok (.ldc_w 266, 3) := by decide +kernel
theorem d3_21 : decode jdk_33_method_49_code 21 = .ok (.iand, 1) := by decide +kernel
theorem d3_22 : decode jdk_33_method_49_code 22 = .ok (.iadd, 1) := by decide +kernel
theorem d3_23 : decode jdk_33_method_49_code 23 = .ok (.istore_n 0, 1) := by decide +kernel
theorem d3_24 : decode jdk_33_method_49_code 24 = .ok (.iload_n 0, 1) := by decide +kernel
theorem d3_25 : decode jdk_33_method_49_code 25 = .ok (.iload_n 0, 1) := by decide +kernel
theorem d3_26 : decode jdk_33_method_49_code 26 = .ok (.iconst 4, 1) := by decide +kernel
theorem d3_27 : decode jdk_33_method_49_code 27 = .ok (.iushr, 1) := by decide +kernel
theorem d3_28 : decode jdk_33_method_49_code 28 = .ok (.iadd, 1) := by decide +kernel
theorem d3_29 : decode jdk_33_method_49_code 29 = .ok (.ldc_w 267, 3) := by decide +kernel
theorem d3_32 : decode jdk_33_method_49_code 32 = .ok (.iand, 1) := by decide +kernel
theorem d3_33 : decode jdk_33_method_49_code 33 = .ok (.istore_n 0, 1) := by decide +kernel
theorem d3_34 : decode jdk_33_method_49_code 34 = .ok (.iload_n 0, 1) := by decide +kernel
theorem d3_35 : decode jdk_33_method_49_code 35 = .ok (.iload_n 0, 1) := by decide +kernel
theorem d3_36 : decode jdk_33_method_49_code 36 = .ok (.bipush 8, 2) := by decide +kernel
theorem d3_38 : decode jdk_33_method_49_code 38 = .ok (.iushr, 1) := by decide +kernel
theorem d3_39 : decode jdk_33_method_49_code 39 = .ok (.iadd, 1) := by decide +kernel
theorem d3_40 : decode jdk_33_method_49_code 40 = .ok (.istore_n 0, 1) := by decide +kernel
theorem d3_41 : decode jdk_33_method_49_code 41 = .ok (.iload_n 0, 1) := by decide +kernel
theorem d3_42 : decode jdk_33_method_49_code 42 = .ok (.iload_n 0, 1) := by decide +kernel
theorem d3_43 : decode jdk_33_method_49_code 43 = .ok (.bipush 16, 2) := by decide +kernel
theorem d3_45 : decode jdk_33_method_49_code 45 = .ok (.iushr, 1) := by decide +kernel
theorem d3_46 : decode jdk_33_method_49_code 46 = .ok (.iadd, 1) := by decide +kernel
theorem d3_47 : decode jdk_33_method_49_code 47 = .ok (.istore_n 0, 1) := by decide +kernel
theorem d3_48 : decode jdk_33_method_49_code 48 = .ok (.iload_n 0, 1) := by decide +kernel
theorem d3_49 : decode jdk_33_method_49_code 49 = .ok (.bipush 63, 2) := by decide +kernel
theorem d3_51 : decode jdk_33_method_49_code 51 = .ok (.iand, 1) := by decide +kernel
theorem d3_52 : decode jdk_33_method_49_code 52 = .ok (.ireturn, 1) := by decide +kernel
theorem pn11939829 : plainName "java/lang/Integer" = true := by first | (simp [plainName, overriddenIn]; done) | decide +kernel
theorem ef_3 (m : MethodId) (p0 : Int32) : entryFrame m #[(.int p0)] 1 = mkF m 0 #[.val (.int p0)] [] := by first | (simp [entryFrame, mkF, argsToLocals, Value.category]; done) | rfl
def Q3 (Z : State) (p0 : Int32) (h0 : Heap) (n0 : Nat) (v : Option Value) (h : Heap) (L : List Loc) : Prop := v = some (.int ((((((((p0 - (((p0.toUInt32 >>> ((1 : Int32) &&& 31).toUInt32).toInt32) &&& (1431655765 : Int32))) &&& (858993459 : Int32)) + ((((p0 - (((p0.toUInt32 >>> ((1 : Int32) &&& 31).toUInt32).toInt32) &&& (1431655765 : Int32))).toUInt32 >>> ((2 : Int32) &&& 31).toUInt32).toInt32) &&& (858993459 : Int32))) + (((((p0 - (((p0.toUInt32 >>> ((1 : Int32) &&& 31).toUInt32).toInt32) &&& (1431655765 : Int32))) &&& (858993459 : Int32)) + ((((p0 - (((p0.toUInt32 >>> ((1 : Int32) &&& 31).toUInt32).toInt32) &&& (1431655765 : Int32))).toUInt32 >>> ((2 : Int32) &&& 31).toUInt32).toInt32) &&& (858993459 : Int32))).toUInt32 >>> ((4 : Int32) &&& 31).toUInt32).toInt32)) &&& (252645135 : Int32)) + (((((((p0 - (((p0.toUInt32 >>> ((1 : Int32) &&& 31).toUInt32).toInt32) &&& (1431655765 : Int32))) &&& (858993459 : Int32)) + ((((p0 - (((p0.toUInt32 >>> ((1 : Int32) &&& 31).toUInt32).toInt32) &&& (1431655765 : Int32))).toUInt32 >>> ((2 : Int32) &&& 31).toUInt32).toInt32) &&& (858993459 : Int32))) + (((((p0 - (((p0.toUInt32 >>> ((1 : Int32) &&& 31).toUInt32).toInt32) &&& (1431655765 : Int32))) &&& (858993459 : Int32)) + ((((p0 - (((p0.toUInt32 >>> ((1 : Int32) &&& 31).toUInt32).toInt32) &&& (1431655765 : Int32))).toUInt32 >>> ((2 : Int32) &&& 31).toUInt32).toInt32) &&& (858993459 : Int32))).toUInt32 >>> ((4 : Int32) &&& 31).toUInt32).toInt32)) &&& (252645135 : Int32)).toUInt32 >>> ((8 : Int32) &&& 31).toUInt32).toInt32)) + ((((((((p0 - (((p0.toUInt32 >>> ((1 : Int32) &&& 31).toUInt32).toInt32) &&& (1431655765 : Int32))) &&& (858993459 : Int32)) + ((((p0 - (((p0.toUInt32 >>> ((1 : Int32) &&& 31).toUInt32).toInt32) &&& (1431655765 : Int32))).toUInt32 >>> ((2 : Int32) &&& 31).toUInt32).toInt32) &&& (858993459 : Int32))) + (((((p0 - (((p0.toUInt32 >>> ((1 : Int32) &&& 31).toUInt32).toInt32) &&& (1431655765 : Int32))) &&& (858993459 : Int32)) + ((((p0 - (((p0.toUInt32 >>> ((1 : Int32) &&& 31).toUInt32).toInt32) &&& (1431655765 : Int32))).toUInt32 >>> ((2 : Int32) &&& 31).toUInt32).toInt32) &&& (858993459 : Int32))).toUInt32 >>> ((4 : Int32) &&& 31).toUInt32).toInt32)) &&& (252645135 : Int32)) + (((((((p0 - (((p0.toUInt32 >>> ((1 : Int32) &&& 31).toUInt32).toInt32) &&& (1431655765 : Int32))) &&& (858993459 : Int32)) + ((((p0 - (((p0.toUInt32 >>> ((1 : Int32) &&& 31).toUInt32).toInt32) &&& (1431655765 : Int32))).toUInt32 >>> ((2 : Int32) &&& 31).toUInt32).toInt32) &&& (858993459 : Int32))) + (((((p0 - (((p0.toUInt32 >>> ((1 : Int32) &&& 31).toUInt32).toInt32) &&& (1431655765 : Int32))) &&& (858993459 : Int32)) + ((((p0 - (((p0.toUInt32 >>> ((1 : Int32) &&& 31).toUInt32).toInt32) &&& (1431655765 : Int32))).toUInt32 >>> ((2 : Int32) &&& 31).toUInt32).toInt32) &&& (858993459 : Int32))).toUInt32 >>> ((4 : Int32) &&& 31).toUInt32).toInt32)) &&& (252645135 : Int32)).toUInt32 >>> ((8 : Int32) &&& 31).toUInt32).toInt32)).toUInt32 >>> ((16 : Int32) &&& 31).toUInt32).toInt32)) &&& (63 : Int32))) ∧ Fr n0 L ∧ h = h0
set_option maxRecDepth 65536 in
set_option maxHeartbeats 40000000 in
theorem rm3 (l : Launch) (Z : State) (aq : Array Value) (hw : ∀ d ∈ tables_1, d.before aq Z = true) (ws : List Jvm.Cond) (p0 : Int32) (h0 : Heap) (n0 : Nat) (Z0 : n0 ≤ h0.size) :
    MetFree l (⟨"java/lang/Integer", "bitCount", "(I)I"⟩ : MethodName) (head1 (Jvm.Cond.code (⟨"java/lang/Integer", "bitCount", "(I)I"⟩ : MethodName) jdk_33_method_49_code 1 (some .int) :: ws) ({ frames := 0, cells := 0, slots := 0, locals := 0 } : Room)) (fun a U => a = #[(.int p0)] ∧ Z.Warmed39 U.vm ∧ U.heap = h0) (fun _ _ _ _ _ => True) (fun _ U o U' => ∃ v L, o = .returned v ∧ Q3 Z p0 h0 n0 v U'.heap L ∧ FrameEnd U o U' L ({ frames := 0, cells := 0, slots := 0, locals := 0 } : Room).cells ({ frames := 0, cells := 0, slots := 0, locals := 0 } : Room).slots) := by
  refine MetFree.of_bodySF (plainFor_of_name pn11939829) hisR ?_
  intro p e s m args below meth c s₁ Bd hml0 hP hK
  obtain ⟨rfl, hZ, hh⟩ := hP
  have hx := Bd.exec
  have hby := Bd.bytes
  have hml : c.maxLocals = 1 := hml0
  have hown : s.vm.findClass "java/lang/Integer" = some m.cls := findClass_of_methodNamed Bd.named
  have hnm := (name_of_methodNamed Bd.named Bd.method).1
  have X0 : Stand p l e ({ frames := 0, cells := 0, slots := 0, locals := 0 } : Room) s m #[(.int p0)] below meth c s₁ [] 0 0 := Stand.of_body Bd
  have e0 : s₁.heap = h0 := by rw [← hh, Bd.state]; rfl
  have N0 := Fr.nil n0
  have pre0 : ∀ t, Steps p.tables e below (s₁.setTop (mkF m 0 #[.val (.int p0)] [])) t → Steps p.tables e below (s₁.setTop (entryFrame m #[(.int p0)] 1)) t := fun t k => castTop (ef_3 m p0) k
  have pre1 : ∀ t, Steps p.tables e below (s₁.setTop (mkF m 52 #[.val (.int (((((((p0 - (((p0.toUInt32 >>> ((1 : Int32) &&& 31).toUInt32).toInt32) &&& (1431655765 : Int32))) &&& (858993459 : Int32)) + ((((p0 - (((p0.toUInt32 >>> ((1 : Int32) &&& 31).toUInt32).toInt32) &&& (1431655765 : Int32))).toUInt32 >>> ((2 : Int32) &&& 31).toUInt32).toInt32) &&& (858993459 : Int32))) + (((((p0 - (((p0.toUInt32 >>> ((1 : Int32) &&& 31).toUInt32).toInt32) &&& (1431655765 : Int32))) &&& (858993459 : Int32)) + ((((p0 - (((p0.toUInt32 >>> ((1 : Int32) &&& 31).toUInt32).toInt32) &&& (1431655765 : Int32))).toUInt32 >>> ((2 : Int32) &&& 31).toUInt32).toInt32) &&& (858993459 : Int32))).toUInt32 >>> ((4 : Int32) &&& 31).toUInt32).toInt32)) &&& (252645135 : Int32)) + (((((((p0 - (((p0.toUInt32 >>> ((1 : Int32) &&& 31).toUInt32).toInt32) &&& (1431655765 : Int32))) &&& (858993459 : Int32)) + ((((p0 - (((p0.toUInt32 >>> ((1 : Int32) &&& 31).toUInt32).toInt32) &&& (1431655765 : Int32))).toUInt32 >>> ((2 : Int32) &&& 31).toUInt32).toInt32) &&& (858993459 : Int32))) + (((((p0 - (((p0.toUInt32 >>> ((1 : Int32) &&& 31).toUInt32).toInt32) &&& (1431655765 : Int32))) &&& (858993459 : Int32)) + ((((p0 - (((p0.toUInt32 >>> ((1 : Int32) &&& 31).toUInt32).toInt32) &&& (1431655765 : Int32))).toUInt32 >>> ((2 : Int32) &&& 31).toUInt32).toInt32) &&& (858993459 : Int32))).toUInt32 >>> ((4 : Int32) &&& 31).toUInt32).toInt32)) &&& (252645135 : Int32)).toUInt32 >>> ((8 : Int32) &&& 31).toUInt32).toInt32)) + ((((((((p0 - (((p0.toUInt32 >>> ((1 : Int32) &&& 31).toUInt32).toInt32) &&& (1431655765 : Int32))) &&& (858993459 : Int32)) + ((((p0 - (((p0.toUInt32 >>> ((1 : Int32) &&& 31).toUInt32).toInt32) &&& (1431655765 : Int32))).toUInt32 >>> ((2 : Int32) &&& 31).toUInt32).toInt32) &&& (858993459 : Int32))) + (((((p0 - (((p0.toUInt32 >>> ((1 : Int32) &&& 31).toUInt32).toInt32) &&& (1431655765 : Int32))) &&& (858993459 : Int32)) + ((((p0 - (((p0.toUInt32 >>> ((1 : Int32) &&& 31).toUInt32).toInt32) &&& (1431655765 : Int32))).toUInt32 >>> ((2 : Int32) &&& 31).toUInt32).toInt32) &&& (858993459 : Int32))).toUInt32 >>> ((4 : Int32) &&& 31).toUInt32).toInt32)) &&& (252645135 : Int32)) + (((((((p0 - (((p0.toUInt32 >>> ((1 : Int32) &&& 31).toUInt32).toInt32) &&& (1431655765 : Int32))) &&& (858993459 : Int32)) + ((((p0 - (((p0.toUInt32 >>> ((1 : Int32) &&& 31).toUInt32).toInt32) &&& (1431655765 : Int32))).toUInt32 >>> ((2 : Int32) &&& 31).toUInt32).toInt32) &&& (858993459 : Int32))) + (((((p0 - (((p0.toUInt32 >>> ((1 : Int32) &&& 31).toUInt32).toInt32) &&& (1431655765 : Int32))) &&& (858993459 : Int32)) + ((((p0 - (((p0.toUInt32 >>> ((1 : Int32) &&& 31).toUInt32).toInt32) &&& (1431655765 : Int32))).toUInt32 >>> ((2 : Int32) &&& 31).toUInt32).toInt32) &&& (858993459 : Int32))).toUInt32 >>> ((4 : Int32) &&& 31).toUInt32).toInt32)) &&& (252645135 : Int32)).toUInt32 >>> ((8 : Int32) &&& 31).toUInt32).toInt32)).toUInt32 >>> ((16 : Int32) &&& 31).toUInt32).toInt32)))] [(.int ((((((((p0 - (((p0.toUInt32 >>> ((1 : Int32) &&& 31).toUInt32).toInt32) &&& (1431655765 : Int32))) &&& (858993459 : Int32)) + ((((p0 - (((p0.toUInt32 >>> ((1 : Int32) &&& 31).toUInt32).toInt32) &&& (1431655765 : Int32))).toUInt32 >>> ((2 : Int32) &&& 31).toUInt32).toInt32) &&& (858993459 : Int32))) + (((((p0 - (((p0.toUInt32 >>> ((1 : Int32) &&& 31).toUInt32).toInt32) &&& (1431655765 : Int32))) &&& (858993459 : Int32)) + ((((p0 - (((p0.toUInt32 >>> ((1 : Int32) &&& 31).toUInt32).toInt32) &&& (1431655765 : Int32))).toUInt32 >>> ((2 : Int32) &&& 31).toUInt32).toInt32) &&& (858993459 : Int32))).toUInt32 >>> ((4 : Int32) &&& 31).toUInt32).toInt32)) &&& (252645135 : Int32)) + (((((((p0 - (((p0.toUInt32 >>> ((1 : Int32) &&& 31).toUInt32).toInt32) &&& (1431655765 : Int32))) &&& (858993459 : Int32)) + ((((p0 - (((p0.toUInt32 >>> ((1 : Int32) &&& 31).toUInt32).toInt32) &&& (1431655765 : Int32))).toUInt32 >>> ((2 : Int32) &&& 31).toUInt32).toInt32) &&& (858993459 : Int32))) + (((((p0 - (((p0.toUInt32 >>> ((1 : Int32) &&& 31).toUInt32).toInt32) &&& (1431655765 : Int32))) &&& (858993459 : Int32)) + ((((p0 - (((p0.toUInt32 >>> ((1 : Int32) &&& 31).toUInt32).toInt32) &&& (1431655765 : Int32))).toUInt32 >>> ((2 : Int32) &&& 31).toUInt32).toInt32) &&& (858993459 : Int32))).toUInt32 >>> ((4 : Int32) &&& 31).toUInt32).toInt32)) &&& (252645135 : Int32)).toUInt32 >>> ((8 : Int32) &&& 31).toUInt32).toInt32)) + ((((((((p0 - (((p0.toUInt32 >>> ((1 : Int32) &&& 31).toUInt32).toInt32) &&& (1431655765 : Int32))) &&& (858993459 : Int32)) + ((((p0 - (((p0.toUInt32 >>> ((1 : Int32) &&& 31).toUInt32).toInt32) &&& (1431655765 : Int32))).toUInt32 >>> ((2 : Int32) &&& 31).toUInt32).toInt32) &&& (858993459 : Int32))) + (((((p0 - (((p0.toUInt32 >>> ((1 : Int32) &&& 31).toUInt32).toInt32) &&& (1431655765 : Int32))) &&& (858993459 : Int32)) + ((((p0 - (((p0.toUInt32 >>> ((1 : Int32) &&& 31).toUInt32).toInt32) &&& (1431655765 : Int32))).toUInt32 >>> ((2 : Int32) &&& 31).toUInt32).toInt32) &&& (858993459 : Int32))).toUInt32 >>> ((4 : Int32) &&& 31).toUInt32).toInt32)) &&& (252645135 : Int32)) + (((((((p0 - (((p0.toUInt32 >>> ((1 : Int32) &&& 31).toUInt32).toInt32) &&& (1431655765 : Int32))) &&& (858993459 : Int32)) + ((((p0 - (((p0.toUInt32 >>> ((1 : Int32) &&& 31).toUInt32).toInt32) &&& (1431655765 : Int32))).toUInt32 >>> ((2 : Int32) &&& 31).toUInt32).toInt32) &&& (858993459 : Int32))) + (((((p0 - (((p0.toUInt32 >>> ((1 : Int32) &&& 31).toUInt32).toInt32) &&& (1431655765 : Int32))) &&& (858993459 : Int32)) + ((((p0 - (((p0.toUInt32 >>> ((1 : Int32) &&& 31).toUInt32).toInt32) &&& (1431655765 : Int32))).toUInt32 >>> ((2 : Int32) &&& 31).toUInt32).toInt32) &&& (858993459 : Int32))).toUInt32 >>> ((4 : Int32) &&& 31).toUInt32).toInt32)) &&& (252645135 : Int32)).toUInt32 >>> ((8 : Int32) &&& 31).toUInt32).toInt32)).toUInt32 >>> ((16 : Int32) &&& 31).toUInt32).toInt32)) &&& (63 : Int32)))])) t → Steps p.tables e below (s₁.setTop (entryFrame m #[(.int p0)] 1)) t := fun t kt => by
    refine pre0 _ ?_
    show Steps p.tables e below (s₁.setTop (mkF m 0 #[.val (.int p0)] [])) _
    refine XS.iloadN X0.here hx rfl (hb hby d3_0) rfl ?_
    show Steps p.tables e below (s₁.setTop (mkF m 1 #[.val (.int p0)] [(.int p0)])) _
    refine XS.iloadN X0.here hx rfl (hb hby d3_1) rfl ?_
    show Steps p.tables e below (s₁.setTop (mkF m 2 #[.val (.int p0)] [(.int p0), (.int p0)])) _
    refine XS.iconst X0.here hx rfl (hb hby d3_2) ?_
    show Steps p.tables e below (s₁.setTop (mkF m 3 #[.val (.int p0)] [(.int (1 : Int32)), (.int p0), (.int p0)])) _
    refine XS.iushr X0.here hx rfl (hb hby d3_3) rfl ?_
    show Steps p.tables e below (s₁.setTop (mkF m 4 #[.val (.int p0)] [(.int ((p0.toUInt32 >>> ((1 : Int32) &&& 31).toUInt32).toInt32)), (.int p0)])) _
    refine X0.ldcwInt hx hown (mvT hZ (hw _ (List.mem_of_getElem? (i := 14) rfl))) (g := (mkF m 4 #[.val (.int p0)] [(.int ((p0.toUInt32 >>> ((1 : Int32) &&& 31).toUInt32).toInt32)), (.int p0)])) rfl (hb hby d3_4) _ ?_
    show Steps p.tables e below (s₁.setTop (mkF m 7 #[.val (.int p0)] [(.int (1431655765 : Int32)), (.int ((p0.toUInt32 >>> ((1 : Int32) &&& 31).toUInt32).toInt32)), (.int p0)])) _
    refine XS.iand X0.here hx rfl (hb hby d3_7) rfl ?_
    show Steps p.tables e below (s₁.setTop (mkF m 8 #[.val (.int p0)] [(.int (((p0.toUInt32 >>> ((1 : Int32) &&& 31).toUInt32).toInt32) &&& (1431655765 : Int32))), (.int p0)])) _
    refine XS.isub X0.here hx rfl (hb hby d3_8) rfl ?_
    show Steps p.tables e below (s₁.setTop (mkF m 9 #[.val (.int p0)] [(.int (p0 - (((p0.toUInt32 >>> ((1 : Int32) &&& 31).toUInt32).toInt32) &&& (1431655765 : Int32))))])) _
    refine XS.istoreN X0.here hx rfl (hb hby d3_9) rfl (l' := #[.val (.int (p0 - (((p0.toUInt32 >>> ((1 : Int32) &&& 31).toUInt32).toInt32) &&& (1431655765 : Int32))))]) rfl ?_
    show Steps p.tables e below (s₁.setTop (mkF m 10 #[.val (.int (p0 - (((p0.toUInt32 >>> ((1 : Int32) &&& 31).toUInt32).toInt32) &&& (1431655765 : Int32))))] [])) _
    refine XS.iloadN X0.here hx rfl (hb hby d3_10) rfl ?_
    show Steps p.tables e below (s₁.setTop (mkF m 11 #[.val (.int (p0 - (((p0.toUInt32 >>> ((1 : Int32) &&& 31).toUInt32).toInt32) &&& (1431655765 : Int32))))] [(.int (p0 - (((p0.toUInt32 >>> ((1 : Int32) &&& 31).toUInt32).toInt32) &&& (1431655765 : Int32))))])) _
    refine X0.ldcwInt hx hown (mvT hZ (hw _ (List.mem_of_getElem? (i := 15) rfl))) (g := (mkF m 11 #[.val (.int (p0 - (((p0.toUInt32 >>> ((1 : Int32) &&& 31).toUInt32).toInt32) &&& (1431655765 : Int32))))] [(.int (p0 - (((p0.toUInt32 >>> ((1 : Int32) &&& 31).toUInt32).toInt32) &&& (1431655765 : Int32))))])) rfl (hb hby d3_11) _ ?_
    show Steps p.tables e below (s₁.setTop (mkF m 14 #[.val (.int (p0 - (((p0.toUInt32 >>> ((1 : Int32) &&& 31).toUInt32).toInt32) &&& (1431655765 : Int32))))] [(.int (858993459 : Int32)), (.int (p0 - (((p0.toUInt32 >>> ((1 : Int32) &&& 31).toUInt32).toInt32) &&& (1431655765 : Int32))))])) _
    refine XS.iand X0.here hx rfl (hb hby d3_14) rfl ?_
    show Steps p.tables e below (s₁.setTop (mkF m 15 #[.val (.int (p0 - (((p0.toUInt32 >>> ((1 : Int32) &&& 31).toUInt32).toInt32) &&& (1431655765 : Int32))))] [(.int ((p0 - (((p0.toUInt32 >>> ((1 : Int32) &&& 31).toUInt32).toInt32) &&& (1431655765 : Int32))) &&& (858993459 : Int32)))])) _
    refine XS.iloadN X0.here hx rfl (hb hby d3_15) rfl ?_
    show Steps p.tables e below (s₁.setTop (mkF m 16 #[.val (.int (p0 - (((p0.toUInt32 >>> ((1 : Int32) &&& 31).toUInt32).toInt32) &&& (1431655765 : Int32))))] [(.int (p0 - (((p0.toUInt32 >>> ((1 : Int32) &&& 31).toUInt32).toInt32) &&& (1431655765 : Int32)))), (.int ((p0 - (((p0.toUInt32 >>> ((1 : Int32) &&& 31).toUInt32).toInt32) &&& (1431655765 : Int32))) &&& (858993459 : Int32)))])) _
    refine XS.iconst X0.here hx rfl (hb hby d3_16) ?_
    show Steps p.tables e below (s₁.setTop (mkF m 17 #[.val (.int (p0 - (((p0.toUInt32 >>> ((1 : Int32) &&& 31).toUInt32).toInt32) &&& (1431655765 : Int32))))] [(.int (2 : Int32)), (.int (p0 - (((p0.toUInt32 >>> ((1 : Int32) &&& 31).toUInt32).toInt32) &&& (1431655765 : Int32)))), (.int ((p0 - (((p0.toUInt32 >>> ((1 : Int32) &&& 31).toUInt32).toInt32) &&& (1431655765 : Int32))) &&& (858993459 : Int32)))])) _
    refine XS.iushr X0.here hx rfl (hb hby d3_17) rfl ?_
    show Steps p.tables e below (s₁.setTop (mkF m 18 #[.val (.int (p0 - (((p0.toUInt32 >>> ((1 : Int32) &&& 31).toUInt32).toInt32) &&& (1431655765 : Int32))))] [(.int (((p0 - (((p0.toUInt32 >>> ((1 : Int32) &&& 31).toUInt32).toInt32) &&& (1431655765 : Int32))).toUInt32 >>> ((2 : Int32) &&& 31).toUInt32).toInt32)), (.int ((p0 - (((p0.toUInt32 >>> ((1 : Int32) &&& 31).toUInt32).toInt32) &&& (1431655765 : Int32))) &&& (858993459 : Int32)))])) _
    refine X0.ldcwInt hx hown (mvT hZ (hw _ (List.mem_of_getElem? (i := 15) rfl))) (g := (mkF m 18 #[.val (.int (p0 - (((p0.toUInt32 >>> ((1 : Int32) &&& 31).toUInt32).toInt32) &&& (1431655765 : Int32))))] [(.int (((p0 - (((p0.toUInt32 >>> ((1 : Int32) &&& 31).toUInt32).toInt32) &&& (1431655765 : Int32))).toUInt32 >>> ((2 : Int32) &&& 31).toUInt32).toInt32)), (.int ((p0 - (((p0.toUInt32 >>> ((1 : Int32) &&& 31).toUInt32).toInt32) &&& (1431655765 : Int32))) &&& (858993459 : Int32)))])) rfl (hb hby d3_18) _ ?_
    show Steps p.tables e below (s₁.setTop (mkF m 21 #[.val (.int (p0 - (((p0.toUInt32 >>> ((1 : Int32) &&& 31).toUInt32).toInt32) &&& (1431655765 : Int32))))] [(.int (858993459 : Int32)), (.int (((p0 - (((p0.toUInt32 >>> ((1 : Int32) &&& 31).toUInt32).toInt32) &&& (1431655765 : Int32))).toUInt32 >>> ((2 : Int32) &&& 31).toUInt32).toInt32)), (.int ((p0 - (((p0.toUInt32 >>> ((1 : Int32) &&& 31).toUInt32).toInt32) &&& (1431655765 : Int32))) &&& (858993459 : Int32)))])) _
    refine XS.iand X0.here hx rfl (hb hby d3_21) rfl ?_
    show Steps p.tables e below (s₁.setTop (mkF m 22 #[.val (.int (p0 - (((p0.toUInt32 >>> ((1 : Int32) &&& 31).toUInt32).toInt32) &&& (1431655765 : Int32))))] [(.int ((((p0 - (((p0.toUInt32 >>> ((1 : Int32) &&& 31).toUInt32).toInt32) &&& (1431655765 : Int32))).toUInt32 >>> ((2 : Int32) &&& 31).toUInt32).toInt32) &&& (858993459 : Int32))), (.int ((p0 - (((p0.toUInt32 >>> ((1 : Int32) &&& 31).toUInt32).toInt32) &&& (1431655765 : Int32))) &&& (858993459 : Int32)))])) _
    refine XS.iadd X0.here hx rfl (hb hby d3_22) rfl ?_
    show Steps p.tables e below (s₁.setTop (mkF m 23 #[.val (.int (p0 - (((p0.toUInt32 >>> ((1 : Int32) &&& 31).toUInt32).toInt32) &&& (1431655765 : Int32))))] [(.int (((p0 - (((p0.toUInt32 >>> ((1 : Int32) &&& 31).toUInt32).toInt32) &&& (1431655765 : Int32))) &&& (858993459 : Int32)) + ((((p0 - (((p0.toUInt32 >>> ((1 : Int32) &&& 31).toUInt32).toInt32) &&& (1431655765 : Int32))).toUInt32 >>> ((2 : Int32) &&& 31).toUInt32).toInt32) &&& (858993459 : Int32))))])) _
    refine XS.istoreN X0.here hx rfl (hb hby d3_23) rfl (l' := #[.val (.int (((p0 - (((p0.toUInt32 >>> ((1 : Int32) &&& 31).toUInt32).toInt32) &&& (1431655765 : Int32))) &&& (858993459 : Int32)) + ((((p0 - (((p0.toUInt32 >>> ((1 : Int32) &&& 31).toUInt32).toInt32) &&& (1431655765 : Int32))).toUInt32 >>> ((2 : Int32) &&& 31).toUInt32).toInt32) &&& (858993459 : Int32))))]) rfl ?_
    show Steps p.tables e below (s₁.setTop (mkF m 24 #[.val (.int (((p0 - (((p0.toUInt32 >>> ((1 : Int32) &&& 31).toUInt32).toInt32) &&& (1431655765 : Int32))) &&& (858993459 : Int32)) + ((((p0 - (((p0.toUInt32 >>> ((1 : Int32) &&& 31).toUInt32).toInt32) &&& (1431655765 : Int32))).toUInt32 >>> ((2 : Int32) &&& 31).toUInt32).toInt32) &&& (858993459 : Int32))))] [])) _
    refine XS.iloadN X0.here hx rfl (hb hby d3_24) rfl ?_
    show Steps p.tables e below (s₁.setTop (mkF m 25 #[.val (.int (((p0 - (((p0.toUInt32 >>> ((1 : Int32) &&& 31).toUInt32).toInt32) &&& (1431655765 : Int32))) &&& (858993459 : Int32)) + ((((p0 - (((p0.toUInt32 >>> ((1 : Int32) &&& 31).toUInt32).toInt32) &&& (1431655765 : Int32))).toUInt32 >>> ((2 : Int32) &&& 31).toUInt32).toInt32) &&& (858993459 : Int32))))] [(.int (((p0 - (((p0.toUInt32 >>> ((1 : Int32) &&& 31).toUInt32).toInt32) &&& (1431655765 : Int32))) &&& (858993459 : Int32)) + ((((p0 - (((p0.toUInt32 >>> ((1 : Int32) &&& 31).toUInt32).toInt32) &&& (1431655765 : Int32))).toUInt32 >>> ((2 : Int32) &&& 31).toUInt32).toInt32) &&& (858993459 : Int32))))])) _
    refine XS.iloadN X0.here hx rfl (hb hby d3_25) rfl ?_
    show Steps p.tables e below (s₁.setTop (mkF m 26 #[.val (.int (((p0 - (((p0.toUInt32 >>> ((1 : Int32) &&& 31).toUInt32).toInt32) &&& (1431655765 : Int32))) &&& (858993459 : Int32)) + ((((p0 - (((p0.toUInt32 >>> ((1 : Int32) &&& 31).toUInt32).toInt32) &&& (1431655765 : Int32))).toUInt32 >>> ((2 : Int32) &&& 31).toUInt32).toInt32) &&& (858993459 : Int32))))] [(.int (((p0 - (((p0.toUInt32 >>> ((1 : Int32) &&& 31).toUInt32).toInt32) &&& (1431655765 : Int32))) &&& (858993459 : Int32)) + ((((p0 - (((p0.toUInt32 >>> ((1 : Int32) &&& 31).toUInt32).toInt32) &&& (1431655765 : Int32))).toUInt32 >>> ((2 : Int32) &&& 31).toUInt32).toInt32) &&& (858993459 : Int32)))), (.int (((p0 - (((p0.toUInt32 >>> ((1 : Int32) &&& 31).toUInt32).toInt32) &&& (1431655765 : Int32))) &&& (858993459 : Int32)) + ((((p0 - (((p0.toUInt32 >>> ((1 : Int32) &&& 31).toUInt32).toInt32) &&& (1431655765 : Int32))).toUInt32 >>> ((2 : Int32) &&& 31).toUInt32).toInt32) &&& (858993459 : Int32))))])) _
    refine XS.iconst X0.here hx rfl (hb hby d3_26) ?_
    show Steps p.tables e below (s₁.setTop (mkF m 27 #[.val (.int (((p0 - (((p0.toUInt32 >>> ((1 : Int32) &&& 31).toUInt32).toInt32) &&& (1431655765 : Int32))) &&& (858993459 : Int32)) + ((((p0 - (((p0.toUInt32 >>> ((1 : Int32) &&& 31).toUInt32).toInt32) &&& (1431655765 : Int32))).toUInt32 >>> ((2 : Int32) &&& 31).toUInt32).toInt32) &&& (858993459 : Int32))))] [(.int (4 : Int32)), (.int (((p0 - (((p0.toUInt32 >>> ((1 : Int32) &&& 31).toUInt32).toInt32) &&& (1431655765 : Int32))) &&& (858993459 : Int32)) + ((((p0 - (((p0.toUInt32 >>> ((1 : Int32) &&& 31).toUInt32).toInt32) &&& (1431655765 : Int32))).toUInt32 >>> ((2 : Int32) &&& 31).toUInt32).toInt32) &&& (858993459 : Int32)))), (.int (((p0 - (((p0.toUInt32 >>> ((1 : Int32) &&& 31).toUInt32).toInt32) &&& (1431655765 : Int32))) &&& (858993459 : Int32)) + ((((p0 - (((p0.toUInt32 >>> ((1 : Int32) &&& 31).toUInt32).toInt32) &&& (1431655765 : Int32))).toUInt32 >>> ((2 : Int32) &&& 31).toUInt32).toInt32) &&& (858993459 : Int32))))])) _
    refine XS.iushr X0.here hx rfl (hb hby d3_27) rfl ?_
    show Steps p.tables e below (s₁.setTop (mkF m 28 #[.val (.int (((p0 - (((p0.toUInt32 >>> ((1 : Int32) &&& 31).toUInt32).toInt32) &&& (1431655765 : Int32))) &&& (858993459 : Int32)) + ((((p0 - (((p0.toUInt32 >>> ((1 : Int32) &&& 31).toUInt32).toInt32) &&& (1431655765 : Int32))).toUInt32 >>> ((2 : Int32) &&& 31).toUInt32).toInt32) &&& (858993459 : Int32))))] [(.int (((((p0 - (((p0.toUInt32 >>> ((1 : Int32) &&& 31).toUInt32).toInt32) &&& (1431655765 : Int32))) &&& (858993459 : Int32)) + ((((p0 - (((p0.toUInt32 >>> ((1 : Int32) &&& 31).toUInt32).toInt32) &&& (1431655765 : Int32))).toUInt32 >>> ((2 : Int32) &&& 31).toUInt32).toInt32) &&& (858993459 : Int32))).toUInt32 >>> ((4 : Int32) &&& 31).toUInt32).toInt32)), (.int (((p0 - (((p0.toUInt32 >>> ((1 : Int32) &&& 31).toUInt32).toInt32) &&& (1431655765 : Int32))) &&& (858993459 : Int32)) + ((((p0 - (((p0.toUInt32 >>> ((1 : Int32) &&& 31).toUInt32).toInt32) &&& (1431655765 : Int32))).toUInt32 >>> ((2 : Int32) &&& 31).toUInt32).toInt32) &&& (858993459 : Int32))))])) _
    refine XS.iadd X0.here hx rfl (hb hby d3_28) rfl ?_
    show Steps p.tables e below (s₁.setTop (mkF m 29 #[.val (.int (((p0 - (((p0.toUInt32 >>> ((1 : Int32) &&& 31).toUInt32).toInt32) &&& (1431655765 : Int32))) &&& (858993459 : Int32)) + ((((p0 - (((p0.toUInt32 >>> ((1 : Int32) &&& 31).toUInt32).toInt32) &&& (1431655765 : Int32))).toUInt32 >>> ((2 : Int32) &&& 31).toUInt32).toInt32) &&& (858993459 : Int32))))] [(.int ((((p0 - (((p0.toUInt32 >>> ((1 : Int32) &&& 31).toUInt32).toInt32) &&& (1431655765 : Int32))) &&& (858993459 : Int32)) + ((((p0 - (((p0.toUInt32 >>> ((1 : Int32) &&& 31).toUInt32).toInt32) &&& (1431655765 : Int32))).toUInt32 >>> ((2 : Int32) &&& 31).toUInt32).toInt32) &&& (858993459 : Int32))) + (((((p0 - (((p0.toUInt32 >>> ((1 : Int32) &&& 31).toUInt32).toInt32) &&& (1431655765 : Int32))) &&& (858993459 : Int32)) + ((((p0 - (((p0.toUInt32 >>> ((1 : Int32) &&& 31).toUInt32).toInt32) &&& (1431655765 : Int32))).toUInt32 >>> ((2 : Int32) &&& 31).toUInt32).toInt32) &&& (858993459 : Int32))).toUInt32 >>> ((4 : Int32) &&& 31).toUInt32).toInt32)))])) _
    refine X0.ldcwInt hx hown (mvT hZ (hw _ (List.mem_of_getElem? (i := 16) rfl))) (g := (mkF m 29 #[.val (.int (((p0 - (((p0.toUInt32 >>> ((1 : Int32) &&& 31).toUInt32).toInt32) &&& (1431655765 : Int32))) &&& (858993459 : Int32)) + ((((p0 - (((p0.toUInt32 >>> ((1 : Int32) &&& 31).toUInt32).toInt32) &&& (1431655765 : Int32))).toUInt32 >>> ((2 : Int32) &&& 31).toUInt32).toInt32) &&& (858993459 : Int32))))] [(.int ((((p0 - (((p0.toUInt32 >>> ((1 : Int32) &&& 31).toUInt32).toInt32) &&& (1431655765 : Int32))) &&& (858993459 : Int32)) + ((((p0 - (((p0.toUInt32 >>> ((1 : Int32) &&& 31).toUInt32).toInt32) &&& (1431655765 : Int32))).toUInt32 >>> ((2 : Int32) &&& 31).toUInt32).toInt32) &&& (858993459 : Int32))) + (((((p0 - (((p0.toUInt32 >>> ((1 : Int32) &&& 31).toUInt32).toInt32) &&& (1431655765 : Int32))) &&& (858993459 : Int32)) + ((((p0 - (((p0.toUInt32 >>> ((1 : Int32) &&& 31).toUInt32).toInt32) &&& (1431655765 : Int32))).toUInt32 >>> ((2 : Int32) &&& 31).toUInt32).toInt32) &&& (858993459 : Int32))).toUInt32 >>> ((4 : Int32) &&& 31).toUInt32).toInt32)))])) rfl (hb hby d3_29) _ ?_
    show Steps p.tables e below (s₁.setTop (mkF m 32 #[.val (.int (((p0 - (((p0.toUInt32 >>> ((1 : Int32) &&& 31).toUInt32).toInt32) &&& (1431655765 : Int32))) &&& (858993459 : Int32)) + ((((p0 - (((p0.toUInt32 >>> ((1 : Int32) &&& 31).toUInt32).toInt32) &&& (1431655765 : Int32))).toUInt32 >>> ((2 : Int32) &&& 31).toUInt32).toInt32) &&& (858993459 : Int32))))] [(.int (252645135 : Int32)), (.int ((((p0 - (((p0.toUInt32 >>> ((1 : Int32) &&& 31).toUInt32).toInt32) &&& (1431655765 : Int32))) &&& (858993459 : Int32)) + ((((p0 - (((p0.toUInt32 >>> ((1 : Int32) &&& 31).toUInt32).toInt32) &&& (1431655765 : Int32))).toUInt32 >>> ((2 : Int32) &&& 31).toUInt32).toInt32) &&& (858993459 : Int32))) + (((((p0 - (((p0.toUInt32 >>> ((1 : Int32) &&& 31).toUInt32).toInt32) &&& (1431655765 : Int32))) &&& (858993459 : Int32)) + ((((p0 - (((p0.toUInt32 >>> ((1 : Int32) &&& 31).toUInt32).toInt32) &&& (1431655765 : Int32))).toUInt32 >>> ((2 : Int32) &&& 31).toUInt32).toInt32) &&& (858993459 : Int32))).toUInt32 >>> ((4 : Int32) &&& 31).toUInt32).toInt32)))])) _
    refine XS.iand X0.here hx rfl (hb hby d3_32) rfl ?_
    show Steps p.tables e below (s₁.setTop (mkF m 33 #[.val (.int (((p0 - (((p0.toUInt32 >>> ((1 : Int32) &&& 31).toUInt32).toInt32) &&& (1431655765 : Int32))) &&& (858993459 : Int32)) + ((((p0 - (((p0.toUInt32 >>> ((1 : Int32) &&& 31).toUInt32).toInt32) &&& (1431655765 : Int32))).toUInt32 >>> ((2 : Int32) &&& 31).toUInt32).toInt32) &&& (858993459 : Int32))))] [(.int (((((p0 - (((p0.toUInt32 >>> ((1 : Int32) &&& 31).toUInt32).toInt32) &&& (1431655765 : Int32))) &&& (858993459 : Int32)) + ((((p0 - (((p0.toUInt32 >>> ((1 : Int32) &&& 31).toUInt32).toInt32) &&& (1431655765 : Int32))).toUInt32 >>> ((2 : Int32) &&& 31).toUInt32).toInt32) &&& (858993459 : Int32))) + (((((p0 - (((p0.toUInt32 >>> ((1 : Int32) &&& 31).toUInt32).toInt32) &&& (1431655765 : Int32))) &&& (858993459 : Int32)) + ((((p0 - (((p0.toUInt32 >>> ((1 : Int32) &&& 31).toUInt32).toInt32) &&& (1431655765 : Int32))).toUInt32 >>> ((2 : Int32) &&& 31).toUInt32).toInt32) &&& (858993459 : Int32))).toUInt32 >>> ((4 : Int32) &&& 31).toUInt32).toInt32)) &&& (252645135 : Int32)))])) _
    refine XS.istoreN X0.here hx rfl (hb hby d3_33) rfl (l' := #[.val (.int (((((p0 - (((p0.toUInt32 >>> ((1 : Int32) &&& 31).toUInt32).toInt32) &&& (1431655765 : Int32))) &&& (858993459 : Int32)) + ((((p0 - (((p0.toUInt32 >>> ((1 : Int32) &&& 31).toUInt32).toInt32) &&& (1431655765 : Int32))).toUInt32 >>> ((2 : Int32) &&& 31).toUInt32).toInt32) &&& (858993459 : Int32))) + (((((p0 - (((p0.toUInt32 >>> ((1 : Int32) &&& 31).toUInt32).toInt32) &&& (1431655765 : Int32))) &&& (858993459 : Int32)) + ((((p0 - (((p0.toUInt32 >>> ((1 : Int32) &&& 31).toUInt32).toInt32) &&& (1431655765 : Int32))).toUInt32 >>> ((2 : Int32) &&& 31).toUInt32).toInt32) &&& (858993459 : Int32))).toUInt32 >>> ((4 : Int32) &&& 31).toUInt32).toInt32)) &&& (252645135 : Int32)))]) rfl ?_
    show Steps p.tables e below (s₁.setTop (mkF m 34 #[.val (.int (((((p0 - (((p0.toUInt32 >>> ((1 : Int32) &&& 31).toUInt32).toInt32) &&& (1431655765 : Int32))) &&& (858993459 : Int32)) + ((((p0 - (((p0.toUInt32 >>> ((1 : Int32) &&& 31).toUInt32).toInt32) &&& (1431655765 : Int32))).toUInt32 >>> ((2 : Int32) &&& 31).toUInt32).toInt32) &&& (858993459 : Int32))) + (((((p0 - (((p0.toUInt32 >>> ((1 : Int32) &&& 31).toUInt32).toInt32) &&& (1431655765 : Int32))) &&& (858993459 : Int32)) + ((((p0 - (((p0.toUInt32 >>> ((1 : Int32) &&& 31).toUInt32).toInt32) &&& (1431655765 : Int32))).toUInt32 >>> ((2 : Int32) &&& 31).toUInt32).toInt32) &&& (858993459 : Int32))).toUInt32 >>> ((4 : Int32) &&& 31).toUInt32).toInt32)) &&& (252645135 : Int32)))] [])) _
    refine XS.iloadN X0.here hx rfl (hb hby d3_34) rfl ?_
    show Steps p.tables e below (s₁.setTop (mkF m 35 #[.val (.int (((((p0 - (((p0.toUInt32 >>> ((1 : Int32) &&& 31).toUInt32).toInt32) &&& (1431655765 : Int32))) &&& (858993459 : Int32)) + ((((p0 - (((p0.toUInt32 >>> ((1 : Int32) &&& 31).toUInt32).toInt32) &&& (1431655765 : Int32))).toUInt32 >>> ((2 : Int32) &&& 31).toUInt32).toInt32) &&& (858993459 : Int32))) + (((((p0 - (((p0.toUInt32 >>> ((1 : Int32) &&& 31).toUInt32).toInt32) &&& (1431655765 : Int32))) &&& (858993459 : Int32)) + ((((p0 - (((p0.toUInt32 >>> ((1 : Int32) &&& 31).toUInt32).toInt32) &&& (1431655765 : Int32))).toUInt32 >>> ((2 : Int32) &&& 31).toUInt32).toInt32) &&& (858993459 : Int32))).toUInt32 >>> ((4 : Int32) &&& 31).toUInt32).toInt32)) &&& (252645135 : Int32)))] [(.int (((((p0 - (((p0.toUInt32 >>> ((1 : Int32) &&& 31).toUInt32).toInt32) &&& (1431655765 : Int32))) &&& (858993459 : Int32)) + ((((p0 - (((p0.toUInt32 >>> ((1 : Int32) &&& 31).toUInt32).toInt32) &&& (1431655765 : Int32))).toUInt32 >>> ((2 : Int32) &&& 31).toUInt32).toInt32) &&& (858993459 : Int32))) + (((((p0 - (((p0.toUInt32 >>> ((1 : Int32) &&& 31).toUInt32).toInt32) &&& (1431655765 : Int32))) &&& (858993459 : Int32)) + ((((p0 - (((p0.toUInt32 >>> ((1 : Int32) &&& 31).toUInt32).toInt32) &&& (1431655765 : Int32))).toUInt32 >>> ((2 : Int32) &&& 31).toUInt32).toInt32) &&& (858993459 : Int32))).toUInt32 >>> ((4 : Int32) &&& 31).toUInt32).toInt32)) &&& (252645135 : Int32)))])) _
    refine XS.iloadN X0.here hx rfl (hb hby d3_35) rfl ?_
    show Steps p.tables e below (s₁.setTop (mkF m 36 #[.val (.int (((((p0 - (((p0.toUInt32 >>> ((1 : Int32) &&& 31).toUInt32).toInt32) &&& (1431655765 : Int32))) &&& (858993459 : Int32)) + ((((p0 - (((p0.toUInt32 >>> ((1 : Int32) &&& 31).toUInt32).toInt32) &&& (1431655765 : Int32))).toUInt32 >>> ((2 : Int32) &&& 31).toUInt32).toInt32) &&& (858993459 : Int32))) + (((((p0 - (((p0.toUInt32 >>> ((1 : Int32) &&& 31).toUInt32).toInt32) &&& (1431655765 : Int32))) &&& (858993459 : Int32)) + ((((p0 - (((p0.toUInt32 >>> ((1 : Int32) &&& 31).toUInt32).toInt32) &&& (1431655765 : Int32))).toUInt32 >>> ((2 : Int32) &&& 31).toUInt32).toInt32) &&& (858993459 : Int32))).toUInt32 >>> ((4 : Int32) &&& 31).toUInt32).toInt32)) &&& (252645135 : Int32)))] [(.int (((((p0 - (((p0.toUInt32 >>> ((1 : Int32) &&& 31).toUInt32).toInt32) &&& (1431655765 : Int32))) &&& (858993459 : Int32)) + ((((p0 - (((p0.toUInt32 >>> ((1 : Int32) &&& 31).toUInt32).toInt32) &&& (1431655765 : Int32))).toUInt32 >>> ((2 : Int32) &&& 31).toUInt32).toInt32) &&& (858993459 : Int32))) + (((((p0 - (((p0.toUInt32 >>> ((1 : Int32) &&& 31).toUInt32).toInt32) &&& (1431655765 : Int32))) &&& (858993459 : Int32)) + ((((p0 - (((p0.toUInt32 >>> ((1 : Int32) &&& 31).toUInt32).toInt32) &&& (1431655765 : Int32))).toUInt32 >>> ((2 : Int32) &&& 31).toUInt32).toInt32) &&& (858993459 : Int32))).toUInt32 >>> ((4 : Int32) &&& 31).toUInt32).toInt32)) &&& (252645135 : Int32))), (.int (((((p0 - (((p0.toUInt32 >>> ((1 : Int32) &&& 31).toUInt32).toInt32) &&& (1431655765 : Int32))) &&& (858993459 : Int32)) + ((((p0 - (((p0.toUInt32 >>> ((1 : Int32) &&& 31).toUInt32).toInt32) &&& (1431655765 : Int32))).toUInt32 >>> ((2 : Int32) &&& 31).toUInt32).toInt32) &&& (858993459 : Int32))) + (((((p0 - (((p0.toUInt32 >>> ((1 : Int32) &&& 31).toUInt32).toInt32) &&& (1431655765 : Int32))) &&& (858993459 : Int32)) + ((((p0 - (((p0.toUInt32 >>> ((1 : Int32) &&& 31).toUInt32).toInt32) &&& (1431655765 : Int32))).toUInt32 >>> ((2 : Int32) &&& 31).toUInt32).toInt32) &&& (858993459 : Int32))).toUInt32 >>> ((4 : Int32) &&& 31).toUInt32).toInt32)) &&& (252645135 : Int32)))])) _
    refine XS.bipush X0.here hx rfl (hb hby d3_36) ?_
    show Steps p.tables e below (s₁.setTop (mkF m 38 #[.val (.int (((((p0 - (((p0.toUInt32 >>> ((1 : Int32) &&& 31).toUInt32).toInt32) &&& (1431655765 : Int32))) &&& (858993459 : Int32)) + ((((p0 - (((p0.toUInt32 >>> ((1 : Int32) &&& 31).toUInt32).toInt32) &&& (1431655765 : Int32))).toUInt32 >>> ((2 : Int32) &&& 31).toUInt32).toInt32) &&& (858993459 : Int32))) + (((((p0 - (((p0.toUInt32 >>> ((1 : Int32) &&& 31).toUInt32).toInt32) &&& (1431655765 : Int32))) &&& (858993459 : Int32)) + ((((p0 - (((p0.toUInt32 >>> ((1 : Int32) &&& 31).toUInt32).toInt32) &&& (1431655765 : Int32))).toUInt32 >>> ((2 : Int32) &&& 31).toUInt32).toInt32) &&& (858993459 : Int32))).toUInt32 >>> ((4 : Int32) &&& 31).toUInt32).toInt32)) &&& (252645135 : Int32)))] [(.int (8 : Int32)), (.int (((((p0 - (((p0.toUInt32 >>> ((1 : Int32) &&& 31).toUInt32).toInt32) &&& (1431655765 : Int32))) &&& (858993459 : Int32)) + ((((p0 - (((p0.toUInt32 >>> ((1 : Int32) &&& 31).toUInt32).toInt32) &&& (1431655765 : Int32))).toUInt32 >>> ((2 : Int32) &&& 31).toUInt32).toInt32) &&& (858993459 : Int32))) + (((((p0 - (((p0.toUInt32 >>> ((1 : Int32) &&& 31).toUInt32).toInt32) &&& (1431655765 : Int32))) &&& (858993459 : Int32)) + ((((p0 - (((p0.toUInt32 >>> ((1 : Int32) &&& 31).toUInt32).toInt32) &&& (1431655765 : Int32))).toUInt32 >>> ((2 : Int32) &&& 31).toUInt32).toInt32) &&& (858993459 : Int32))).toUInt32 >>> ((4 : Int32) &&& 31).toUInt32).toInt32)) &&& (252645135 : Int32))), (.int (((((p0 - (((p0.toUInt32 >>> ((1 : Int32) &&& 31).toUInt32).toInt32) &&& (1431655765 : Int32))) &&& (858993459 : Int32)) + ((((p0 - (((p0.toUInt32 >>> ((1 : Int32) &&& 31).toUInt32).toInt32) &&& (1431655765 : Int32))).toUInt32 >>> ((2 : Int32) &&& 31).toUInt32).toInt32) &&& (858993459 : Int32))) + (((((p0 - (((p0.toUInt32 >>> ((1 : Int32) &&& 31).toUInt32).toInt32) &&& (1431655765 : Int32))) &&& (858993459 : Int32)) + ((((p0 - (((p0.toUInt32 >>> ((1 : Int32) &&& 31).toUInt32).toInt32) &&& (1431655765 : Int32))).toUInt32 >>> ((2 : Int32) &&& 31).toUInt32).toInt32) &&& (858993459 : Int32))).toUInt32 >>> ((4 : Int32) &&& 31).toUInt32).toInt32)) &&& (252645135 : Int32)))])) _
    refine XS.iushr X0.here hx rfl (hb hby d3_38) rfl ?_
    show Steps p.tables e below (s₁.setTop (mkF m 39 #[.val (.int (((((p0 - (((p0.toUInt32 >>> ((1 : Int32) &&& 31).toUInt32).toInt32) &&& (1431655765 : Int32))) &&& (858993459 : Int32)) + ((((p0 - (((p0.toUInt32 >>> ((1 : Int32) &&& 31).toUInt32).toInt32) &&& (1431655765 : Int32))).toUInt32 >>> ((2 : Int32) &&& 31).toUInt32).toInt32) &&& (858993459 : Int32))) + (((((p0 - (((p0.toUInt32 >>> ((1 : Int32) &&& 31).toUInt32).toInt32) &&& (1431655765 : Int32))) &&& (858993459 : Int32)) + ((((p0 - (((p0.toUInt32 >>> ((1 : Int32) &&& 31).toUInt32).toInt32) &&& (1431655765 : Int32))).toUInt32 >>> ((2 : Int32) &&& 31).toUInt32).toInt32) &&& (858993459 : Int32))).toUInt32 >>> ((4 : Int32) &&& 31).toUInt32).toInt32)) &&& (252645135 : Int32)))] [(.int (((((((p0 - (((p0.toUInt32 >>> ((1 : Int32) &&& 31).toUInt32).toInt32) &&& (1431655765 : Int32))) &&& (858993459 : Int32)) + ((((p0 - (((p0.toUInt32 >>> ((1 : Int32) &&& 31).toUInt32).toInt32) &&& (1431655765 : Int32))).toUInt32 >>> ((2 : Int32) &&& 31).toUInt32).toInt32) &&& (858993459 : Int32))) + (((((p0 - (((p0.toUInt32 >>> ((1 : Int32) &&& 31).toUInt32).toInt32) &&& (1431655765 : Int32))) &&& (858993459 : Int32)) + ((((p0 - (((p0.toUInt32 >>> ((1 : Int32) &&& 31).toUInt32).toInt32) &&& (1431655765 : Int32))).toUInt32 >>> ((2 : Int32) &&& 31).toUInt32).toInt32) &&& (858993459 : Int32))).toUInt32 >>> ((4 : Int32) &&& 31).toUInt32).toInt32)) &&& (252645135 : Int32)).toUInt32 >>> ((8 : Int32) &&& 31).toUInt32).toInt32)), (.int (((((p0 - (((p0.toUInt32 >>> ((1 : Int32) &&& 31).toUInt32).toInt32) &&& (1431655765 : Int32))) &&& (858993459 : Int32)) + ((((p0 - (((p0.toUInt32 >>> ((1 : Int32) &&& 31).toUInt32).toInt32) &&& (1431655765 : Int32))).toUInt32 >>> ((2 : Int32) &&& 31).toUInt32).toInt32) &&& (858993459 : Int32))) + (((((p0 - (((p0.toUInt32 >>> ((1 : Int32) &&& 31).toUInt32).toInt32) &&& (1431655765 : Int32))) &&& (858993459 : Int32)) + ((((p0 - (((p0.toUInt32 >>> ((1 : Int32) &&& 31).toUInt32).toInt32) &&& (1431655765 : Int32))).toUInt32 >>> ((2 : Int32) &&& 31).toUInt32).toInt32) &&& (858993459 : Int32))).toUInt32 >>> ((4 : Int32) &&& 31).toUInt32).toInt32)) &&& (252645135 : Int32)))])) _
    refine XS.iadd X0.here hx rfl (hb hby d3_39) rfl ?_
    show Steps p.tables e below (s₁.setTop (mkF m 40 #[.val (.int (((((p0 - (((p0.toUInt32 >>> ((1 : Int32) &&& 31).toUInt32).toInt32) &&& (1431655765 : Int32))) &&& (858993459 : Int32)) + ((((p0 - (((p0.toUInt32 >>> ((1 : Int32) &&& 31).toUInt32).toInt32) &&& (1431655765 : Int32))).toUInt32 >>> ((2 : Int32) &&& 31).toUInt32).toInt32) &&& (858993459 : Int32))) + (((((p0 - (((p0.toUInt32 >>> ((1 : Int32) &&& 31).toUInt32).toInt32) &&& (1431655765 : Int32))) &&& (858993459 : Int32)) + ((((p0 - (((p0.toUInt32 >>> ((1 : Int32) &&& 31).toUInt32).toInt32) &&& (1431655765 : Int32))).toUInt32 >>> ((2 : Int32) &&& 31).toUInt32).toInt32) &&& (858993459 : Int32))).toUInt32 >>> ((4 : Int32) &&& 31).toUInt32).toInt32)) &&& (252645135 : Int32)))] [(.int ((((((p0 - (((p0.toUInt32 >>> ((1 : Int32) &&& 31).toUInt32).toInt32) &&& (1431655765 : Int32))) &&& (858993459 : Int32)) + ((((p0 - (((p0.toUInt32 >>> ((1 : Int32) &&& 31).toUInt32).toInt32) &&& (1431655765 : Int32))).toUInt32 >>> ((2 : Int32) &&& 31).toUInt32).toInt32) &&& (858993459 : Int32))) + (((((p0 - (((p0.toUInt32 >>> ((1 : Int32) &&& 31).toUInt32).toInt32) &&& (1431655765 : Int32))) &&& (858993459 : Int32)) + ((((p0 - (((p0.toUInt32 >>> ((1 : Int32) &&& 31).toUInt32).toInt32) &&& (1431655765 : Int32))).toUInt32 >>> ((2 : Int32) &&& 31).toUInt32).toInt32) &&& (858993459 : Int32))).toUInt32 >>> ((4 : Int32) &&& 31).toUInt32).toInt32)) &&& (252645135 : Int32)) + (((((((p0 - (((p0.toUInt32 >>> ((1 : Int32) &&& 31).toUInt32).toInt32) &&& (1431655765 : Int32))) &&& (858993459 : Int32)) + ((((p0 - (((p0.toUInt32 >>> ((1 : Int32) &&& 31).toUInt32).toInt32) &&& (1431655765 : Int32))).toUInt32 >>> ((2 : Int32) &&& 31).toUInt32).toInt32) &&& (858993459 : Int32))) + (((((p0 - (((p0.toUInt32 >>> ((1 : Int32) &&& 31).toUInt32).toInt32) &&& (1431655765 : Int32))) &&& (858993459 : Int32)) + ((((p0 - (((p0.toUInt32 >>> ((1 : Int32) &&& 31).toUInt32).toInt32) &&& (1431655765 : Int32))).toUInt32 >>> ((2 : Int32) &&& 31).toUInt32).toInt32) &&& (858993459 : Int32))).toUInt32 >>> ((4 : Int32) &&& 31).toUInt32).toInt32)) &&& (252645135 : Int32)).toUInt32 >>> ((8 : Int32) &&& 31).toUInt32).toInt32)))])) _
    refine XS.istoreN X0.here hx rfl (hb hby d3_40) rfl (l' := #[.val (.int ((((((p0 - (((p0.toUInt32 >>> ((1 : Int32) &&& 31).toUInt32).toInt32) &&& (1431655765 : Int32))) &&& (858993459 : Int32)) + ((((p0 - (((p0.toUInt32 >>> ((1 : Int32) &&& 31).toUInt32).toInt32) &&& (1431655765 : Int32))).toUInt32 >>> ((2 : Int32) &&& 31).toUInt32).toInt32) &&& (858993459 : Int32))) + (((((p0 - (((p0.toUInt32 >>> ((1 : Int32) &&& 31).toUInt32).toInt32) &&& (1431655765 : Int32))) &&& (858993459 : Int32)) + ((((p0 - (((p0.toUInt32 >>> ((1 : Int32) &&& 31).toUInt32).toInt32) &&& (1431655765 : Int32))).toUInt32 >>> ((2 : Int32) &&& 31).toUInt32).toInt32) &&& (858993459 : Int32))).toUInt32 >>> ((4 : Int32) &&& 31).toUInt32).toInt32)) &&& (252645135 : Int32)) + (((((((p0 - (((p0.toUInt32 >>> ((1 : Int32) &&& 31).toUInt32).toInt32) &&& (1431655765 : Int32))) &&& (858993459 : Int32)) + ((((p0 - (((p0.toUInt32 >>> ((1 : Int32) &&& 31).toUInt32).toInt32) &&& (1431655765 : Int32))).toUInt32 >>> ((2 : Int32) &&& 31).toUInt32).toInt32) &&& (858993459 : Int32))) + (((((p0 - (((p0.toUInt32 >>> ((1 : Int32) &&& 31).toUInt32).toInt32) &&& (1431655765 : Int32))) &&& (858993459 : Int32)) + ((((p0 - (((p0.toUInt32 >>> ((1 : Int32) &&& 31).toUInt32).toInt32) &&& (1431655765 : Int32))).toUInt32 >>> ((2 : Int32) &&& 31).toUInt32).toInt32) &&& (858993459 : Int32))).toUInt32 >>> ((4 : Int32) &&& 31).toUInt32).toInt32)) &&& (252645135 : Int32)).toUInt32 >>> ((8 : Int32) &&& 31).toUInt32).toInt32)))]) rfl ?_
    show Steps p.tables e below (s₁.setTop (mkF m 41 #[.val (.int ((((((p0 - (((p0.toUInt32 >>> ((1 : Int32) &&& 31).toUInt32).toInt32) &&& (1431655765 : Int32))) &&& (858993459 : Int32)) + ((((p0 - (((p0.toUInt32 >>> ((1 : Int32) &&& 31).toUInt32).toInt32) &&& (1431655765 : Int32))).toUInt32 >>> ((2 : Int32) &&& 31).toUInt32).toInt32) &&& (858993459 : Int32))) + (((((p0 - (((p0.toUInt32 >>> ((1 : Int32) &&& 31).toUInt32).toInt32) &&& (1431655765 : Int32))) &&& (858993459 : Int32)) + ((((p0 - (((p0.toUInt32 >>> ((1 : Int32) &&& 31).toUInt32).toInt32) &&& (1431655765 : Int32))).toUInt32 >>> ((2 : Int32) &&& 31).toUInt32).toInt32) &&& (858993459 : Int32))).toUInt32 >>> ((4 : Int32) &&& 31).toUInt32).toInt32)) &&& (252645135 : Int32)) + (((((((p0 - (((p0.toUInt32 >>> ((1 : Int32) &&& 31).toUInt32).toInt32) &&& (1431655765 : Int32))) &&& (858993459 : Int32)) + ((((p0 - (((p0.toUInt32 >>> ((1 : Int32) &&& 31).toUInt32).toInt32) &&& (1431655765 : Int32))).toUInt32 >>> ((2 : Int32) &&& 31).toUInt32).toInt32) &&& (858993459 : Int32))) + (((((p0 - (((p0.toUInt32 >>> ((1 : Int32) &&& 31).toUInt32).toInt32) &&& (1431655765 : Int32))) &&& (858993459 : Int32)) + ((((p0 - (((p0.toUInt32 >>> ((1 : Int32) &&& 31).toUInt32).toInt32) &&& (1431655765 : Int32))).toUInt32 >>> ((2 : Int32) &&& 31).toUInt32).toInt32) &&& (858993459 : Int32))).toUInt32 >>> ((4 : Int32) &&& 31).toUInt32).toInt32)) &&& (252645135 : Int32)).toUInt32 >>> ((8 : Int32) &&& 31).toUInt32).toInt32)))] [])) _
    refine XS.iloadN X0.here hx rfl (hb hby d3_41) rfl ?_
    show Steps p.tables e below (s₁.setTop (mkF m 42 #[.val (.int ((((((p0 - (((p0.toUInt32 >>> ((1 : Int32) &&& 31).toUInt32).toInt32) &&& (1431655765 : Int32))) &&& (858993459 : Int32)) + ((((p0 - (((p0.toUInt32 >>> ((1 : Int32) &&& 31).toUInt32).toInt32) &&& (1431655765 : Int32))).toUInt32 >>> ((2 : Int32) &&& 31).toUInt32).toInt32) &&& (858993459 : Int32))) + (((((p0 - (((p0.toUInt32 >>> ((1 : Int32) &&& 31).toUInt32).toInt32) &&& (1431655765 : Int32))) &&& (858993459 : Int32)) + ((((p0 - (((p0.toUInt32 >>> ((1 : Int32) &&& 31).toUInt32).toInt32) &&& (1431655765 : Int32))).toUInt32 >>> ((2 : Int32) &&& 31).toUInt32).toInt32) &&& (858993459 : Int32))).toUInt32 >>> ((4 : Int32) &&& 31).toUInt32).toInt32)) &&& (252645135 : Int32)) + (((((((p0 - (((p0.toUInt32 >>> ((1 : Int32) &&& 31).toUInt32).toInt32) &&& (1431655765 : Int32))) &&& (858993459 : Int32)) + ((((p0 - (((p0.toUInt32 >>> ((1 : Int32) &&& 31).toUInt32).toInt32) &&& (1431655765 : Int32))).toUInt32 >>> ((2 : Int32) &&& 31).toUInt32).toInt32) &&& (858993459 : Int32))) + (((((p0 - (((p0.toUInt32 >>> ((1 : Int32) &&& 31).toUInt32).toInt32) &&& (1431655765 : Int32))) &&& (858993459 : Int32)) + ((((p0 - (((p0.toUInt32 >>> ((1 : Int32) &&& 31).toUInt32).toInt32) &&& (1431655765 : Int32))).toUInt32 >>> ((2 : Int32) &&& 31).toUInt32).toInt32) &&& (858993459 : Int32))).toUInt32 >>> ((4 : Int32) &&& 31).toUInt32).toInt32)) &&& (252645135 : Int32)).toUInt32 >>> ((8 : Int32) &&& 31).toUInt32).toInt32)))] [(.int ((((((p0 - (((p0.toUInt32 >>> ((1 : Int32) &&& 31).toUInt32).toInt32) &&& (1431655765 : Int32))) &&& (858993459 : Int32)) + ((((p0 - (((p0.toUInt32 >>> ((1 : Int32) &&& 31).toUInt32).toInt32) &&& (1431655765 : Int32))).toUInt32 >>> ((2 : Int32) &&& 31).toUInt32).toInt32) &&& (858993459 : Int32))) + (((((p0 - (((p0.toUInt32 >>> ((1 : Int32) &&& 31).toUInt32).toInt32) &&& (1431655765 : Int32))) &&& (858993459 : Int32)) + ((((p0 - (((p0.toUInt32 >>> ((1 : Int32) &&& 31).toUInt32).toInt32) &&& (1431655765 : Int32))).toUInt32 >>> ((2 : Int32) &&& 31).toUInt32).toInt32) &&& (858993459 : Int32))).toUInt32 >>> ((4 : Int32) &&& 31).toUInt32).toInt32)) &&& (252645135 : Int32)) + (((((((p0 - (((p0.toUInt32 >>> ((1 : Int32) &&& 31).toUInt32).toInt32) &&& (1431655765 : Int32))) &&& (858993459 : Int32)) + ((((p0 - (((p0.toUInt32 >>> ((1 : Int32) &&& 31).toUInt32).toInt32) &&& (1431655765 : Int32))).toUInt32 >>> ((2 : Int32) &&& 31).toUInt32).toInt32) &&& (858993459 : Int32))) + (((((p0 - (((p0.toUInt32 >>> ((1 : Int32) &&& 31).toUInt32).toInt32) &&& (1431655765 : Int32))) &&& (858993459 : Int32)) + ((((p0 - (((p0.toUInt32 >>> ((1 : Int32) &&& 31).toUInt32).toInt32) &&& (1431655765 : Int32))).toUInt32 >>> ((2 : Int32) &&& 31).toUInt32).toInt32) &&& (858993459 : Int32))).toUInt32 >>> ((4 : Int32) &&& 31).toUInt32).toInt32)) &&& (252645135 : Int32)).toUInt32 >>> ((8 : Int32) &&& 31).toUInt32).toInt32)))])) _
    refine XS.iloadN X0.here hx rfl (hb hby d3_42) rfl ?_
    show Steps p.tables e below (s₁.setTop (mkF m 43 #[.val (.int ((((((p0 - (((p0.toUInt32 >>> ((1 : Int32) &&& 31).toUInt32).toInt32) &&& (1431655765 : Int32))) &&& (858993459 : Int32)) + ((((p0 - (((p0.toUInt32 >>> ((1 : Int32) &&& 31).toUInt32).toInt32) &&& (1431655765 : Int32))).toUInt32 >>> ((2 : Int32) &&& 31).toUInt32).toInt32) &&& (858993459 : Int32))) + (((((p0 - (((p0.toUInt32 >>> ((1 : Int32) &&& 31).toUInt32).toInt32) &&& (1431655765 : Int32))) &&& (858993459 : Int32)) + ((((p0 - (((p0.toUInt32 >>> ((1 : Int32) &&& 31).toUInt32).toInt32) &&& (1431655765 : Int32))).toUInt32 >>> ((2 : Int32) &&& 31).toUInt32).toInt32) &&& (858993459 : Int32))).toUInt32 >>> ((4 : Int32) &&& 31).toUInt32).toInt32)) &&& (252645135 : Int32)) + (((((((p0 - (((p0.toUInt32 >>> ((1 : Int32) &&& 31).toUInt32).toInt32) &&& (1431655765 : Int32))) &&& (858993459 : Int32)) + ((((p0 - (((p0.toUInt32 >>> ((1 : Int32) &&& 31).toUInt32).toInt32) &&& (1431655765 : Int32))).toUInt32 >>> ((2 : Int32) &&& 31).toUInt32).toInt32) &&& (858993459 : Int32))) + (((((p0 - (((p0.toUInt32 >>> ((1 : Int32) &&& 31).toUInt32).toInt32) &&& (1431655765 : Int32))) &&& (858993459 : Int32)) + ((((p0 - (((p0.toUInt32 >>> ((1 : Int32) &&& 31).toUInt32).toInt32) &&& (1431655765 : Int32))).toUInt32 >>> ((2 : Int32) &&& 31).toUInt32).toInt32) &&& (858993459 : Int32))).toUInt32 >>> ((4 : Int32) &&& 31).toUInt32).toInt32)) &&& (252645135 : Int32)).toUInt32 >>> ((8 : Int32) &&& 31).toUInt32).toInt32)))] [(.int ((((((p0 - (((p0.toUInt32 >>> ((1 : Int32) &&& 31).toUInt32).toInt32) &&& (1431655765 : Int32))) &&& (858993459 : Int32)) + ((((p0 - (((p0.toUInt32 >>> ((1 : Int32) &&& 31).toUInt32).toInt32) &&& (1431655765 : Int32))).toUInt32 >>> ((2 : Int32) &&& 31).toUInt32).toInt32) &&& (858993459 : Int32))) + (((((p0 - (((p0.toUInt32 >>> ((1 : Int32) &&& 31).toUInt32).toInt32) &&& (1431655765 : Int32))) &&& (858993459 : Int32)) + ((((p0 - (((p0.toUInt32 >>> ((1 : Int32) &&& 31).toUInt32).toInt32) &&& (1431655765 : Int32))).toUInt32 >>> ((2 : Int32) &&& 31).toUInt32).toInt32) &&& (858993459 : Int32))).toUInt32 >>> ((4 : Int32) &&& 31).toUInt32).toInt32)) &&& (252645135 : Int32)) + (((((((p0 - (((p0.toUInt32 >>> ((1 : Int32) &&& 31).toUInt32).toInt32) &&& (1431655765 : Int32))) &&& (858993459 : Int32)) + ((((p0 - (((p0.toUInt32 >>> ((1 : Int32) &&& 31).toUInt32).toInt32) &&& (1431655765 : Int32))).toUInt32 >>> ((2 : Int32) &&& 31).toUInt32).toInt32) &&& (858993459 : Int32))) + (((((p0 - (((p0.toUInt32 >>> ((1 : Int32) &&& 31).toUInt32).toInt32) &&& (1431655765 : Int32))) &&& (858993459 : Int32)) + ((((p0 - (((p0.toUInt32 >>> ((1 : Int32) &&& 31).toUInt32).toInt32) &&& (1431655765 : Int32))).toUInt32 >>> ((2 : Int32) &&& 31).toUInt32).toInt32) &&& (858993459 : Int32))).toUInt32 >>> ((4 : Int32) &&& 31).toUInt32).toInt32)) &&& (252645135 : Int32)).toUInt32 >>> ((8 : Int32) &&& 31).toUInt32).toInt32))), (.int ((((((p0 - (((p0.toUInt32 >>> ((1 : Int32) &&& 31).toUInt32).toInt32) &&& (1431655765 : Int32))) &&& (858993459 : Int32)) + ((((p0 - (((p0.toUInt32 >>> ((1 : Int32) &&& 31).toUInt32).toInt32) &&& (1431655765 : Int32))).toUInt32 >>> ((2 : Int32) &&& 31).toUInt32).toInt32) &&& (858993459 : Int32))) + (((((p0 - (((p0.toUInt32 >>> ((1 : Int32) &&& 31).toUInt32).toInt32) &&& (1431655765 : Int32))) &&& (858993459 : Int32)) + ((((p0 - (((p0.toUInt32 >>> ((1 : Int32) &&& 31).toUInt32).toInt32) &&& (1431655765 : Int32))).toUInt32 >>> ((2 : Int32) &&& 31).toUInt32).toInt32) &&& (858993459 : Int32))).toUInt32 >>> ((4 : Int32) &&& 31).toUInt32).toInt32)) &&& (252645135 : Int32)) + (((((((p0 - (((p0.toUInt32 >>> ((1 : Int32) &&& 31).toUInt32).toInt32) &&& (1431655765 : Int32))) &&& (858993459 : Int32)) + ((((p0 - (((p0.toUInt32 >>> ((1 : Int32) &&& 31).toUInt32).toInt32) &&& (1431655765 : Int32))).toUInt32 >>> ((2 : Int32) &&& 31).toUInt32).toInt32) &&& (858993459 : Int32))) + (((((p0 - (((p0.toUInt32 >>> ((1 : Int32) &&& 31).toUInt32).toInt32) &&& (1431655765 : Int32))) &&& (858993459 : Int32)) + ((((p0 - (((p0.toUInt32 >>> ((1 : Int32) &&& 31).toUInt32).toInt32) &&& (1431655765 : Int32))).toUInt32 >>> ((2 : Int32) &&& 31).toUInt32).toInt32) &&& (858993459 : Int32))).toUInt32 >>> ((4 : Int32) &&& 31).toUInt32).toInt32)) &&& (252645135 : Int32)).toUInt32 >>> ((8 : Int32) &&& 31).toUInt32).toInt32)))])) _
    refine XS.bipush X0.here hx rfl (hb hby d3_43) ?_
    show Steps p.tables e below (s₁.setTop (mkF m 45 #[.val (.int ((((((p0 - (((p0.toUInt32 >>> ((1 : Int32) &&& 31).toUInt32).toInt32) &&& (1431655765 : Int32))) &&& (858993459 : Int32)) + ((((p0 - (((p0.toUInt32 >>> ((1 : Int32) &&& 31).toUInt32).toInt32) &&& (1431655765 : Int32))).toUInt32 >>> ((2 : Int32) &&& 31).toUInt32).toInt32) &&& (858993459 : Int32))) + (((((p0 - (((p0.toUInt32 >>> ((1 : Int32) &&& 31).toUInt32).toInt32) &&& (1431655765 : Int32))) &&& (858993459 : Int32)) + ((((p0 - (((p0.toUInt32 >>> ((1 : Int32) &&& 31).toUInt32).toInt32) &&& (1431655765 : Int32))).toUInt32 >>> ((2 : Int32) &&& 31).toUInt32).toInt32) &&& (858993459 : Int32))).toUInt32 >>> ((4 : Int32) &&& 31).toUInt32).toInt32)) &&& (252645135 : Int32)) + (((((((p0 - (((p0.toUInt32 >>> ((1 : Int32) &&& 31).toUInt32).toInt32) &&& (1431655765 : Int32))) &&& (858993459 : Int32)) + ((((p0 - (((p0.toUInt32 >>> ((1 : Int32) &&& 31).toUInt32).toInt32) &&& (1431655765 : Int32))).toUInt32 >>> ((2 : Int32) &&& 31).toUInt32).toInt32) &&& (858993459 : Int32))) + (((((p0 - (((p0.toUInt32 >>> ((1 : Int32) &&& 31).toUInt32).toInt32) &&& (1431655765 : Int32))) &&& (858993459 : Int32)) + ((((p0 - (((p0.toUInt32 >>> ((1 : Int32) &&& 31).toUInt32).toInt32) &&& (1431655765 : Int32))).toUInt32 >>> ((2 : Int32) &&& 31).toUInt32).toInt32) &&& (858993459 : Int32))).toUInt32 >>> ((4 : Int32) &&& 31).toUInt32).toInt32)) &&& (252645135 : Int32)).toUInt32 >>> ((8 : Int32) &&& 31).toUInt32).toInt32)))] [(.int (16 : Int32)), (.int ((((((p0 - (((p0.toUInt32 >>> ((1 : Int32) &&& 31).toUInt32).toInt32) &&& (1431655765 : Int32))) &&& (858993459 : Int32)) + ((((p0 - (((p0.toUInt32 >>> ((1 : Int32) &&& 31).toUInt32).toInt32) &&& (1431655765 : Int32))).toUInt32 >>> ((2 : Int32) &&& 31).toUInt32).toInt32) &&& (858993459 : Int32))) + (((((p0 - (((p0.toUInt32 >>> ((1 : Int32) &&& 31).toUInt32).toInt32) &&& (1431655765 : Int32))) &&& (858993459 : Int32)) + ((((p0 - (((p0.toUInt32 >>> ((1 : Int32) &&& 31).toUInt32).toInt32) &&& (1431655765 : Int32))).toUInt32 >>> ((2 : Int32) &&& 31).toUInt32).toInt32) &&& (858993459 : Int32))).toUInt32 >>> ((4 : Int32) &&& 31).toUInt32).toInt32)) &&& (252645135 : Int32)) + (((((((p0 - (((p0.toUInt32 >>> ((1 : Int32) &&& 31).toUInt32).toInt32) &&& (1431655765 : Int32))) &&& (858993459 : Int32)) + ((((p0 - (((p0.toUInt32 >>> ((1 : Int32) &&& 31).toUInt32).toInt32) &&& (1431655765 : Int32))).toUInt32 >>> ((2 : Int32) &&& 31).toUInt32).toInt32) &&& (858993459 : Int32))) + (((((p0 - (((p0.toUInt32 >>> ((1 : Int32) &&& 31).toUInt32).toInt32) &&& (1431655765 : Int32))) &&& (858993459 : Int32)) + ((((p0 - (((p0.toUInt32 >>> ((1 : Int32) &&& 31).toUInt32).toInt32) &&& (1431655765 : Int32))).toUInt32 >>> ((2 : Int32) &&& 31).toUInt32).toInt32) &&& (858993459 : Int32))).toUInt32 >>> ((4 : Int32) &&& 31).toUInt32).toInt32)) &&& (252645135 : Int32)).toUInt32 >>> ((8 : Int32) &&& 31).toUInt32).toInt32))), (.int ((((((p0 - (((p0.toUInt32 >>> ((1 : Int32) &&& 31).toUInt32).toInt32) &&& (1431655765 : Int32))) &&& (858993459 : Int32)) + ((((p0 - (((p0.toUInt32 >>> ((1 : Int32) &&& 31).toUInt32).toInt32) &&& (1431655765 : Int32))).toUInt32 >>> ((2 : Int32) &&& 31).toUInt32).toInt32) &&& (858993459 : Int32))) + (((((p0 - (((p0.toUInt32 >>> ((1 : Int32) &&& 31).toUInt32).toInt32) &&& (1431655765 : Int32))) &&& (858993459 : Int32)) + ((((p0 - (((p0.toUInt32 >>> ((1 : Int32) &&& 31).toUInt32).toInt32) &&& (1431655765 : Int32))).toUInt32 >>> ((2 : Int32) &&& 31).toUInt32).toInt32) &&& (858993459 : Int32))).toUInt32 >>> ((4 : Int32) &&& 31).toUInt32).toInt32)) &&& (252645135 : Int32)) + (((((((p0 - (((p0.toUInt32 >>> ((1 : Int32) &&& 31).toUInt32).toInt32) &&& (1431655765 : Int32))) &&& (858993459 : Int32)) + ((((p0 - (((p0.toUInt32 >>> ((1 : Int32) &&& 31).toUInt32).toInt32) &&& (1431655765 : Int32))).toUInt32 >>> ((2 : Int32) &&& 31).toUInt32).toInt32) &&& (858993459 : Int32))) + (((((p0 - (((p0.toUInt32 >>> ((1 : Int32) &&& 31).toUInt32).toInt32) &&& (1431655765 : Int32))) &&& (858993459 : Int32)) + ((((p0 - (((p0.toUInt32 >>> ((1 : Int32) &&& 31).toUInt32).toInt32) &&& (1431655765 : Int32))).toUInt32 >>> ((2 : Int32) &&& 31).toUInt32).toInt32) &&& (858993459 : Int32))).toUInt32 >>> ((4 : Int32) &&& 31).toUInt32).toInt32)) &&& (252645135 : Int32)).toUInt32 >>> ((8 : Int32) &&& 31).toUInt32).toInt32)))])) _
    refine XS.iushr X0.here hx rfl (hb hby d3_45) rfl ?_
    show Steps p.tables e below (s₁.setTop (mkF m 46 #[.val (.int ((((((p0 - (((p0.toUInt32 >>> ((1 : Int32) &&& 31).toUInt32).toInt32) &&& (1431655765 : Int32))) &&& (858993459 : Int32)) + ((((p0 - (((p0.toUInt32 >>> ((1 : Int32) &&& 31).toUInt32).toInt32) &&& (1431655765 : Int32))).toUInt32 >>> ((2 : Int32) &&& 31).toUInt32).toInt32) &&& (858993459 : Int32))) + (((((p0 - (((p0.toUInt32 >>> ((1 : Int32) &&& 31).toUInt32).toInt32) &&& (1431655765 : Int32))) &&& (858993459 : Int32)) + ((((p0 - (((p0.toUInt32 >>> ((1 : Int32) &&& 31).toUInt32).toInt32) &&& (1431655765 : Int32))).toUInt32 >>> ((2 : Int32) &&& 31).toUInt32).toInt32) &&& (858993459 : Int32))).toUInt32 >>> ((4 : Int32) &&& 31).toUInt32).toInt32)) &&& (252645135 : Int32)) + (((((((p0 - (((p0.toUInt32 >>> ((1 : Int32) &&& 31).toUInt32).toInt32) &&& (1431655765 : Int32))) &&& (858993459 : Int32)) + ((((p0 - (((p0.toUInt32 >>> ((1 : Int32) &&& 31).toUInt32).toInt32) &&& (1431655765 : Int32))).toUInt32 >>> ((2 : Int32) &&& 31).toUInt32).toInt32) &&& (858993459 : Int32))) + (((((p0 - (((p0.toUInt32 >>> ((1 : Int32) &&& 31).toUInt32).toInt32) &&& (1431655765 : Int32))) &&& (858993459 : Int32)) + ((((p0 - (((p0.toUInt32 >>> ((1 : Int32) &&& 31).toUInt32).toInt32) &&& (1431655765 : Int32))).toUInt32 >>> ((2 : Int32) &&& 31).toUInt32).toInt32) &&& (858993459 : Int32))).toUInt32 >>> ((4 : Int32) &&& 31).toUInt32).toInt32)) &&& (252645135 : Int32)).toUInt32 >>> ((8 : Int32) &&& 31).toUInt32).toInt32)))] [(.int ((((((((p0 - (((p0.toUInt32 >>> ((1 : Int32) &&& 31).toUInt32).toInt32) &&& (1431655765 : Int32))) &&& (858993459 : Int32)) + ((((p0 - (((p0.toUInt32 >>> ((1 : Int32) &&& 31).toUInt32).toInt32) &&& (1431655765 : Int32))).toUInt32 >>> ((2 : Int32) &&& 31).toUInt32).toInt32) &&& (858993459 : Int32))) + (((((p0 - (((p0.toUInt32 >>> ((1 : Int32) &&& 31).toUInt32).toInt32) &&& (1431655765 : Int32))) &&& (858993459 : Int32)) + ((((p0 - (((p0.toUInt32 >>> ((1 : Int32) &&& 31).toUInt32).toInt32) &&& (1431655765 : Int32))).toUInt32 >>> ((2 : Int32) &&& 31).toUInt32).toInt32) &&& (858993459 : Int32))).toUInt32 >>> ((4 : Int32) &&& 31).toUInt32).toInt32)) &&& (252645135 : Int32)) + (((((((p0 - (((p0.toUInt32 >>> ((1 : Int32) &&& 31).toUInt32).toInt32) &&& (1431655765 : Int32))) &&& (858993459 : Int32)) + ((((p0 - (((p0.toUInt32 >>> ((1 : Int32) &&& 31).toUInt32).toInt32) &&& (1431655765 : Int32))).toUInt32 >>> ((2 : Int32) &&& 31).toUInt32).toInt32) &&& (858993459 : Int32))) + (((((p0 - (((p0.toUInt32 >>> ((1 : Int32) &&& 31).toUInt32).toInt32) &&& (1431655765 : Int32))) &&& (858993459 : Int32)) + ((((p0 - (((p0.toUInt32 >>> ((1 : Int32) &&& 31).toUInt32).toInt32) &&& (1431655765 : Int32))).toUInt32 >>> ((2 : Int32) &&& 31).toUInt32).toInt32) &&& (858993459 : Int32))).toUInt32 >>> ((4 : Int32) &&& 31).toUInt32).toInt32)) &&& (252645135 : Int32)).toUInt32 >>> ((8 : Int32) &&& 31).toUInt32).toInt32)).toUInt32 >>> ((16 : Int32) &&& 31).toUInt32).toInt32)), (.int ((((((p0 - (((p0.toUInt32 >>> ((1 : Int32) &&& 31).toUInt32).toInt32) &&& (1431655765 : Int32))) &&& (858993459 : Int32)) + ((((p0 - (((p0.toUInt32 >>> ((1 : Int32) &&& 31).toUInt32).toInt32) &&& (1431655765 : Int32))).toUInt32 >>> ((2 : Int32) &&& 31).toUInt32).toInt32) &&& (858993459 : Int32))) + (((((p0 - (((p0.toUInt32 >>> ((1 : Int32) &&& 31).toUInt32).toInt32) &&& (1431655765 : Int32))) &&& (858993459 : Int32)) + ((((p0 - (((p0.toUInt32 >>> ((1 : Int32) &&& 31).toUInt32).toInt32) &&& (1431655765 : Int32))).toUInt32 >>> ((2 : Int32) &&& 31).toUInt32).toInt32) &&& (858993459 : Int32))).toUInt32 >>> ((4 : Int32) &&& 31).toUInt32).toInt32)) &&& (252645135 : Int32)) + (((((((p0 - (((p0.toUInt32 >>> ((1 : Int32) &&& 31).toUInt32).toInt32) &&& (1431655765 : Int32))) &&& (858993459 : Int32)) + ((((p0 - (((p0.toUInt32 >>> ((1 : Int32) &&& 31).toUInt32).toInt32) &&& (1431655765 : Int32))).toUInt32 >>> ((2 : Int32) &&& 31).toUInt32).toInt32) &&& (858993459 : Int32))) + (((((p0 - (((p0.toUInt32 >>> ((1 : Int32) &&& 31).toUInt32).toInt32) &&& (1431655765 : Int32))) &&& (858993459 : Int32)) + ((((p0 - (((p0.toUInt32 >>> ((1 : Int32) &&& 31).toUInt32).toInt32) &&& (1431655765 : Int32))).toUInt32 >>> ((2 : Int32) &&& 31).toUInt32).toInt32) &&& (858993459 : Int32))).toUInt32 >>> ((4 : Int32) &&& 31).toUInt32).toInt32)) &&& (252645135 : Int32)).toUInt32 >>> ((8 : Int32) &&& 31).toUInt32).toInt32)))])) _
    refine XS.iadd X0.here hx rfl (hb hby d3_46) rfl ?_
    show Steps p.tables e below (s₁.setTop (mkF m 47 #[.val (.int ((((((p0 - (((p0.toUInt32 >>> ((1 : Int32) &&& 31).toUInt32).toInt32) &&& (1431655765 : Int32))) &&& (858993459 : Int32)) + ((((p0 - (((p0.toUInt32 >>> ((1 : Int32) &&& 31).toUInt32).toInt32) &&& (1431655765 : Int32))).toUInt32 >>> ((2 : Int32) &&& 31).toUInt32).toInt32) &&& (858993459 : Int32))) + (((((p0 - (((p0.toUInt32 >>> ((1 : Int32) &&& 31).toUInt32).toInt32) &&& (1431655765 : Int32))) &&& (858993459 : Int32)) + ((((p0 - (((p0.toUInt32 >>> ((1 : Int32) &&& 31).toUInt32).toInt32) &&& (1431655765 : Int32))).toUInt32 >>> ((2 : Int32) &&& 31).toUInt32).toInt32) &&& (858993459 : Int32))).toUInt32 >>> ((4 : Int32) &&& 31).toUInt32).toInt32)) &&& (252645135 : Int32)) + (((((((p0 - (((p0.toUInt32 >>> ((1 : Int32) &&& 31).toUInt32).toInt32) &&& (1431655765 : Int32))) &&& (858993459 : Int32)) + ((((p0 - (((p0.toUInt32 >>> ((1 : Int32) &&& 31).toUInt32).toInt32) &&& (1431655765 : Int32))).toUInt32 >>> ((2 : Int32) &&& 31).toUInt32).toInt32) &&& (858993459 : Int32))) + (((((p0 - (((p0.toUInt32 >>> ((1 : Int32) &&& 31).toUInt32).toInt32) &&& (1431655765 : Int32))) &&& (858993459 : Int32)) + ((((p0 - (((p0.toUInt32 >>> ((1 : Int32) &&& 31).toUInt32).toInt32) &&& (1431655765 : Int32))).toUInt32 >>> ((2 : Int32) &&& 31).toUInt32).toInt32) &&& (858993459 : Int32))).toUInt32 >>> ((4 : Int32) &&& 31).toUInt32).toInt32)) &&& (252645135 : Int32)).toUInt32 >>> ((8 : Int32) &&& 31).toUInt32).toInt32)))] [(.int (((((((p0 - (((p0.toUInt32 >>> ((1 : Int32) &&& 31).toUInt32).toInt32) &&& (1431655765 : Int32))) &&& (858993459 : Int32)) + ((((p0 - (((p0.toUInt32 >>> ((1 : Int32) &&& 31).toUInt32).toInt32) &&& (1431655765 : Int32))).toUInt32 >>> ((2 : Int32) &&& 31).toUInt32).toInt32) &&& (858993459 : Int32))) + (((((p0 - (((p0.toUInt32 >>> ((1 : Int32) &&& 31).toUInt32).toInt32) &&& (1431655765 : Int32))) &&& (858993459 : Int32)) + ((((p0 - (((p0.toUInt32 >>> ((1 : Int32) &&& 31).toUInt32).toInt32) &&& (1431655765 : Int32))).toUInt32 >>> ((2 : Int32) &&& 31).toUInt32).toInt32) &&& (858993459 : Int32))).toUInt32 >>> ((4 : Int32) &&& 31).toUInt32).toInt32)) &&& (252645135 : Int32)) + (((((((p0 - (((p0.toUInt32 >>> ((1 : Int32) &&& 31).toUInt32).toInt32) &&& (1431655765 : Int32))) &&& (858993459 : Int32)) + ((((p0 - (((p0.toUInt32 >>> ((1 : Int32) &&& 31).toUInt32).toInt32) &&& (1431655765 : Int32))).toUInt32 >>> ((2 : Int32) &&& 31).toUInt32).toInt32) &&& (858993459 : Int32))) + (((((p0 - (((p0.toUInt32 >>> ((1 : Int32) &&& 31).toUInt32).toInt32) &&& (1431655765 : Int32))) &&& (858993459 : Int32)) + ((((p0 - (((p0.toUInt32 >>> ((1 : Int32) &&& 31).toUInt32).toInt32) &&& (1431655765 : Int32))).toUInt32 >>> ((2 : Int32) &&& 31).toUInt32).toInt32) &&& (858993459 : Int32))).toUInt32 >>> ((4 : Int32) &&& 31).toUInt32).toInt32)) &&& (252645135 : Int32)).toUInt32 >>> ((8 : Int32) &&& 31).toUInt32).toInt32)) + ((((((((p0 - (((p0.toUInt32 >>> ((1 : Int32) &&& 31).toUInt32).toInt32) &&& (1431655765 : Int32))) &&& (858993459 : Int32)) + ((((p0 - (((p0.toUInt32 >>> ((1 : Int32) &&& 31).toUInt32).toInt32) &&& (1431655765 : Int32))).toUInt32 >>> ((2 : Int32) &&& 31).toUInt32).toInt32) &&& (858993459 : Int32))) + (((((p0 - (((p0.toUInt32 >>> ((1 : Int32) &&& 31).toUInt32).toInt32) &&& (1431655765 : Int32))) &&& (858993459 : Int32)) + ((((p0 - (((p0.toUInt32 >>> ((1 : Int32) &&& 31).toUInt32).toInt32) &&& (1431655765 : Int32))).toUInt32 >>> ((2 : Int32) &&& 31).toUInt32).toInt32) &&& (858993459 : Int32))).toUInt32 >>> ((4 : Int32) &&& 31).toUInt32).toInt32)) &&& (252645135 : Int32)) + (((((((p0 - (((p0.toUInt32 >>> ((1 : Int32) &&& 31).toUInt32).toInt32) &&& (1431655765 : Int32))) &&& (858993459 : Int32)) + ((((p0 - (((p0.toUInt32 >>> ((1 : Int32) &&& 31).toUInt32).toInt32) &&& (1431655765 : Int32))).toUInt32 >>> ((2 : Int32) &&& 31).toUInt32).toInt32) &&& (858993459 : Int32))) + (((((p0 - (((p0.toUInt32 >>> ((1 : Int32) &&& 31).toUInt32).toInt32) &&& (1431655765 : Int32))) &&& (858993459 : Int32)) + ((((p0 - (((p0.toUInt32 >>> ((1 : Int32) &&& 31).toUInt32).toInt32) &&& (1431655765 : Int32))).toUInt32 >>> ((2 : Int32) &&& 31).toUInt32).toInt32) &&& (858993459 : Int32))).toUInt32 >>> ((4 : Int32) &&& 31).toUInt32).toInt32)) &&& (252645135 : Int32)).toUInt32 >>> ((8 : Int32) &&& 31).toUInt32).toInt32)).toUInt32 >>> ((16 : Int32) &&& 31).toUInt32).toInt32)))])) _
    refine XS.istoreN X0.here hx rfl (hb hby d3_47) rfl (l' := #[.val (.int (((((((p0 - (((p0.toUInt32 >>> ((1 : Int32) &&& 31).toUInt32).toInt32) &&& (1431655765 : Int32))) &&& (858993459 : Int32)) + ((((p0 - (((p0.toUInt32 >>> ((1 : Int32) &&& 31).toUInt32).toInt32) &&& (1431655765 : Int32))).toUInt32 >>> ((2 : Int32) &&& 31).toUInt32).toInt32) &&& (858993459 : Int32))) + (((((p0 - (((p0.toUInt32 >>> ((1 : Int32) &&& 31).toUInt32).toInt32) &&& (1431655765 : Int32))) &&& (858993459 : Int32)) + ((((p0 - (((p0.toUInt32 >>> ((1 : Int32) &&& 31).toUInt32).toInt32) &&& (1431655765 : Int32))).toUInt32 >>> ((2 : Int32) &&& 31).toUInt32).toInt32) &&& (858993459 : Int32))).toUInt32 >>> ((4 : Int32) &&& 31).toUInt32).toInt32)) &&& (252645135 : Int32)) + (((((((p0 - (((p0.toUInt32 >>> ((1 : Int32) &&& 31).toUInt32).toInt32) &&& (1431655765 : Int32))) &&& (858993459 : Int32)) + ((((p0 - (((p0.toUInt32 >>> ((1 : Int32) &&& 31).toUInt32).toInt32) &&& (1431655765 : Int32))).toUInt32 >>> ((2 : Int32) &&& 31).toUInt32).toInt32) &&& (858993459 : Int32))) + (((((p0 - (((p0.toUInt32 >>> ((1 : Int32) &&& 31).toUInt32).toInt32) &&& (1431655765 : Int32))) &&& (858993459 : Int32)) + ((((p0 - (((p0.toUInt32 >>> ((1 : Int32) &&& 31).toUInt32).toInt32) &&& (1431655765 : Int32))).toUInt32 >>> ((2 : Int32) &&& 31).toUInt32).toInt32) &&& (858993459 : Int32))).toUInt32 >>> ((4 : Int32) &&& 31).toUInt32).toInt32)) &&& (252645135 : Int32)).toUInt32 >>> ((8 : Int32) &&& 31).toUInt32).toInt32)) + ((((((((p0 - (((p0.toUInt32 >>> ((1 : Int32) &&& 31).toUInt32).toInt32) &&& (1431655765 : Int32))) &&& (858993459 : Int32)) + ((((p0 - (((p0.toUInt32 >>> ((1 : Int32) &&& 31).toUInt32).toInt32) &&& (1431655765 : Int32))).toUInt32 >>> ((2 : Int32) &&& 31).toUInt32).toInt32) &&& (858993459 : Int32))) + (((((p0 - (((p0.toUInt32 >>> ((1 : Int32) &&& 31).toUInt32).toInt32) &&& (1431655765 : Int32))) &&& (858993459 : Int32)) + ((((p0 - (((p0.toUInt32 >>> ((1 : Int32) &&& 31).toUInt32).toInt32) &&& (1431655765 : Int32))).toUInt32 >>> ((2 : Int32) &&& 31).toUInt32).toInt32) &&& (858993459 : Int32))).toUInt32 >>> ((4 : Int32) &&& 31).toUInt32).toInt32)) &&& (252645135 : Int32)) + (((((((p0 - (((p0.toUInt32 >>> ((1 : Int32) &&& 31).toUInt32).toInt32) &&& (1431655765 : Int32))) &&& (858993459 : Int32)) + ((((p0 - (((p0.toUInt32 >>> ((1 : Int32) &&& 31).toUInt32).toInt32) &&& (1431655765 : Int32))).toUInt32 >>> ((2 : Int32) &&& 31).toUInt32).toInt32) &&& (858993459 : Int32))) + (((((p0 - (((p0.toUInt32 >>> ((1 : Int32) &&& 31).toUInt32).toInt32) &&& (1431655765 : Int32))) &&& (858993459 : Int32)) + ((((p0 - (((p0.toUInt32 >>> ((1 : Int32) &&& 31).toUInt32).toInt32) &&& (1431655765 : Int32))).toUInt32 >>> ((2 : Int32) &&& 31).toUInt32).toInt32) &&& (858993459 : Int32))).toUInt32 >>> ((4 : Int32) &&& 31).toUInt32).toInt32)) &&& (252645135 : Int32)).toUInt32 >>> ((8 : Int32) &&& 31).toUInt32).toInt32)).toUInt32 >>> ((16 : Int32) &&& 31).toUInt32).toInt32)))]) rfl ?_
    show Steps p.tables e below (s₁.setTop (mkF m 48 #[.val (.int (((((((p0 - (((p0.toUInt32 >>> ((1 : Int32) &&& 31).toUInt32).toInt32) &&& (1431655765 : Int32))) &&& (858993459 : Int32)) + ((((p0 - (((p0.toUInt32 >>> ((1 : Int32) &&& 31).toUInt32).toInt32) &&& (1431655765 : Int32))).toUInt32 >>> ((2 : Int32) &&& 31).toUInt32).toInt32) &&& (858993459 : Int32))) + (((((p0 - (((p0.toUInt32 >>> ((1 : Int32) &&& 31).toUInt32).toInt32) &&& (1431655765 : Int32))) &&& (858993459 : Int32)) + ((((p0 - (((p0.toUInt32 >>> ((1 : Int32) &&& 31).toUInt32).toInt32) &&& (1431655765 : Int32))).toUInt32 >>> ((2 : Int32) &&& 31).toUInt32).toInt32) &&& (858993459 : Int32))).toUInt32 >>> ((4 : Int32) &&& 31).toUInt32).toInt32)) &&& (252645135 : Int32)) + (((((((p0 - (((p0.toUInt32 >>> ((1 : Int32) &&& 31).toUInt32).toInt32) &&& (1431655765 : Int32))) &&& (858993459 : Int32)) + ((((p0 - (((p0.toUInt32 >>> ((1 : Int32) &&& 31).toUInt32).toInt32) &&& (1431655765 : Int32))).toUInt32 >>> ((2 : Int32) &&& 31).toUInt32).toInt32) &&& (858993459 : Int32))) + (((((p0 - (((p0.toUInt32 >>> ((1 : Int32) &&& 31).toUInt32).toInt32) &&& (1431655765 : Int32))) &&& (858993459 : Int32)) + ((((p0 - (((p0.toUInt32 >>> ((1 : Int32) &&& 31).toUInt32).toInt32) &&& (1431655765 : Int32))).toUInt32 >>> ((2 : Int32) &&& 31).toUInt32).toInt32) &&& (858993459 : Int32))).toUInt32 >>> ((4 : Int32) &&& 31).toUInt32).toInt32)) &&& (252645135 : Int32)).toUInt32 >>> ((8 : Int32) &&& 31).toUInt32).toInt32)) + ((((((((p0 - (((p0.toUInt32 >>> ((1 : Int32) &&& 31).toUInt32).toInt32) &&& (1431655765 : Int32))) &&& (858993459 : Int32)) + ((((p0 - (((p0.toUInt32 >>> ((1 : Int32) &&& 31).toUInt32).toInt32) &&& (1431655765 : Int32))).toUInt32 >>> ((2 : Int32) &&& 31).toUInt32).toInt32) &&& (858993459 : Int32))) + (((((p0 - (((p0.toUInt32 >>> ((1 : Int32) &&& 31).toUInt32).toInt32) &&& (1431655765 : Int32))) &&& (858993459 : Int32)) + ((((p0 - (((p0.toUInt32 >>> ((1 : Int32) &&& 31).toUInt32).toInt32) &&& (1431655765 : Int32))).toUInt32 >>> ((2 : Int32) &&& 31).toUInt32).toInt32) &&& (858993459 : Int32))).toUInt32 >>> ((4 : Int32) &&& 31).toUInt32).toInt32)) &&& (252645135 : Int32)) + (((((((p0 - (((p0.toUInt32 >>> ((1 : Int32) &&& 31).toUInt32).toInt32) &&& (1431655765 : Int32))) &&& (858993459 : Int32)) + ((((p0 - (((p0.toUInt32 >>> ((1 : Int32) &&& 31).toUInt32).toInt32) &&& (1431655765 : Int32))).toUInt32 >>> ((2 : Int32) &&& 31).toUInt32).toInt32) &&& (858993459 : Int32))) + (((((p0 - (((p0.toUInt32 >>> ((1 : Int32) &&& 31).toUInt32).toInt32) &&& (1431655765 : Int32))) &&& (858993459 : Int32)) + ((((p0 - (((p0.toUInt32 >>> ((1 : Int32) &&& 31).toUInt32).toInt32) &&& (1431655765 : Int32))).toUInt32 >>> ((2 : Int32) &&& 31).toUInt32).toInt32) &&& (858993459 : Int32))).toUInt32 >>> ((4 : Int32) &&& 31).toUInt32).toInt32)) &&& (252645135 : Int32)).toUInt32 >>> ((8 : Int32) &&& 31).toUInt32).toInt32)).toUInt32 >>> ((16 : Int32) &&& 31).toUInt32).toInt32)))] [])) _
    refine XS.iloadN X0.here hx rfl (hb hby d3_48) rfl ?_
    show Steps p.tables e below (s₁.setTop (mkF m 49 #[.val (.int (((((((p0 - (((p0.toUInt32 >>> ((1 : Int32) &&& 31).toUInt32).toInt32) &&& (1431655765 : Int32))) &&& (858993459 : Int32)) + ((((p0 - (((p0.toUInt32 >>> ((1 : Int32) &&& 31).toUInt32).toInt32) &&& (1431655765 : Int32))).toUInt32 >>> ((2 : Int32) &&& 31).toUInt32).toInt32) &&& (858993459 : Int32))) + (((((p0 - (((p0.toUInt32 >>> ((1 : Int32) &&& 31).toUInt32).toInt32) &&& (1431655765 : Int32))) &&& (858993459 : Int32)) + ((((p0 - (((p0.toUInt32 >>> ((1 : Int32) &&& 31).toUInt32).toInt32) &&& (1431655765 : Int32))).toUInt32 >>> ((2 : Int32) &&& 31).toUInt32).toInt32) &&& (858993459 : Int32))).toUInt32 >>> ((4 : Int32) &&& 31).toUInt32).toInt32)) &&& (252645135 : Int32)) + (((((((p0 - (((p0.toUInt32 >>> ((1 : Int32) &&& 31).toUInt32).toInt32) &&& (1431655765 : Int32))) &&& (858993459 : Int32)) + ((((p0 - (((p0.toUInt32 >>> ((1 : Int32) &&& 31).toUInt32).toInt32) &&& (1431655765 : Int32))).toUInt32 >>> ((2 : Int32) &&& 31).toUInt32).toInt32) &&& (858993459 : Int32))) + (((((p0 - (((p0.toUInt32 >>> ((1 : Int32) &&& 31).toUInt32).toInt32) &&& (1431655765 : Int32))) &&& (858993459 : Int32)) + ((((p0 - (((p0.toUInt32 >>> ((1 : Int32) &&& 31).toUInt32).toInt32) &&& (1431655765 : Int32))).toUInt32 >>> ((2 : Int32) &&& 31).toUInt32).toInt32) &&& (858993459 : Int32))).toUInt32 >>> ((4 : Int32) &&& 31).toUInt32).toInt32)) &&& (252645135 : Int32)).toUInt32 >>> ((8 : Int32) &&& 31).toUInt32).toInt32)) + ((((((((p0 - (((p0.toUInt32 >>> ((1 : Int32) &&& 31).toUInt32).toInt32) &&& (1431655765 : Int32))) &&& (858993459 : Int32)) + ((((p0 - (((p0.toUInt32 >>> ((1 : Int32) &&& 31).toUInt32).toInt32) &&& (1431655765 : Int32))).toUInt32 >>> ((2 : Int32) &&& 31).toUInt32).toInt32) &&& (858993459 : Int32))) + (((((p0 - (((p0.toUInt32 >>> ((1 : Int32) &&& 31).toUInt32).toInt32) &&& (1431655765 : Int32))) &&& (858993459 : Int32)) + ((((p0 - (((p0.toUInt32 >>> ((1 : Int32) &&& 31).toUInt32).toInt32) &&& (1431655765 : Int32))).toUInt32 >>> ((2 : Int32) &&& 31).toUInt32).toInt32) &&& (858993459 : Int32))).toUInt32 >>> ((4 : Int32) &&& 31).toUInt32).toInt32)) &&& (252645135 : Int32)) + (((((((p0 - (((p0.toUInt32 >>> ((1 : Int32) &&& 31).toUInt32).toInt32) &&& (1431655765 : Int32))) &&& (858993459 : Int32)) + ((((p0 - (((p0.toUInt32 >>> ((1 : Int32) &&& 31).toUInt32).toInt32) &&& (1431655765 : Int32))).toUInt32 >>> ((2 : Int32) &&& 31).toUInt32).toInt32) &&& (858993459 : Int32))) + (((((p0 - (((p0.toUInt32 >>> ((1 : Int32) &&& 31).toUInt32).toInt32) &&& (1431655765 : Int32))) &&& (858993459 : Int32)) + ((((p0 - (((p0.toUInt32 >>> ((1 : Int32) &&& 31).toUInt32).toInt32) &&& (1431655765 : Int32))).toUInt32 >>> ((2 : Int32) &&& 31).toUInt32).toInt32) &&& (858993459 : Int32))).toUInt32 >>> ((4 : Int32) &&& 31).toUInt32).toInt32)) &&& (252645135 : Int32)).toUInt32 >>> ((8 : Int32) &&& 31).toUInt32).toInt32)).toUInt32 >>> ((16 : Int32) &&& 31).toUInt32).toInt32)))] [(.int (((((((p0 - (((p0.toUInt32 >>> ((1 : Int32) &&& 31).toUInt32).toInt32) &&& (1431655765 : Int32))) &&& (858993459 : Int32)) + ((((p0 - (((p0.toUInt32 >>> ((1 : Int32) &&& 31).toUInt32).toInt32) &&& (1431655765 : Int32))).toUInt32 >>> ((2 : Int32) &&& 31).toUInt32).toInt32) &&& (858993459 : Int32))) + (((((p0 - (((p0.toUInt32 >>> ((1 : Int32) &&& 31).toUInt32).toInt32) &&& (1431655765 : Int32))) &&& (858993459 : Int32)) + ((((p0 - (((p0.toUInt32 >>> ((1 : Int32) &&& 31).toUInt32).toInt32) &&& (1431655765 : Int32))).toUInt32 >>> ((2 : Int32) &&& 31).toUInt32).toInt32) &&& (858993459 : Int32))).toUInt32 >>> ((4 : Int32) &&& 31).toUInt32).toInt32)) &&& (252645135 : Int32)) + (((((((p0 - (((p0.toUInt32 >>> ((1 : Int32) &&& 31).toUInt32).toInt32) &&& (1431655765 : Int32))) &&& (858993459 : Int32)) + ((((p0 - (((p0.toUInt32 >>> ((1 : Int32) &&& 31).toUInt32).toInt32) &&& (1431655765 : Int32))).toUInt32 >>> ((2 : Int32) &&& 31).toUInt32).toInt32) &&& (858993459 : Int32))) + (((((p0 - (((p0.toUInt32 >>> ((1 : Int32) &&& 31).toUInt32).toInt32) &&& (1431655765 : Int32))) &&& (858993459 : Int32)) + ((((p0 - (((p0.toUInt32 >>> ((1 : Int32) &&& 31).toUInt32).toInt32) &&& (1431655765 : Int32))).toUInt32 >>> ((2 : Int32) &&& 31).toUInt32).toInt32) &&& (858993459 : Int32))).toUInt32 >>> ((4 : Int32) &&& 31).toUInt32).toInt32)) &&& (252645135 : Int32)).toUInt32 >>> ((8 : Int32) &&& 31).toUInt32).toInt32)) + ((((((((p0 - (((p0.toUInt32 >>> ((1 : Int32) &&& 31).toUInt32).toInt32) &&& (1431655765 : Int32))) &&& (858993459 : Int32)) + ((((p0 - (((p0.toUInt32 >>> ((1 : Int32) &&& 31).toUInt32).toInt32) &&& (1431655765 : Int32))).toUInt32 >>> ((2 : Int32) &&& 31).toUInt32).toInt32) &&& (858993459 : Int32))) + (((((p0 - (((p0.toUInt32 >>> ((1 : Int32) &&& 31).toUInt32).toInt32) &&& (1431655765 : Int32))) &&& (858993459 : Int32)) + ((((p0 - (((p0.toUInt32 >>> ((1 : Int32) &&& 31).toUInt32).toInt32) &&& (1431655765 : Int32))).toUInt32 >>> ((2 : Int32) &&& 31).toUInt32).toInt32) &&& (858993459 : Int32))).toUInt32 >>> ((4 : Int32) &&& 31).toUInt32).toInt32)) &&& (252645135 : Int32)) + (((((((p0 - (((p0.toUInt32 >>> ((1 : Int32) &&& 31).toUInt32).toInt32) &&& (1431655765 : Int32))) &&& (858993459 : Int32)) + ((((p0 - (((p0.toUInt32 >>> ((1 : Int32) &&& 31).toUInt32).toInt32) &&& (1431655765 : Int32))).toUInt32 >>> ((2 : Int32) &&& 31).toUInt32).toInt32) &&& (858993459 : Int32))) + (((((p0 - (((p0.toUInt32 >>> ((1 : Int32) &&& 31).toUInt32).toInt32) &&& (1431655765 : Int32))) &&& (858993459 : Int32)) + ((((p0 - (((p0.toUInt32 >>> ((1 : Int32) &&& 31).toUInt32).toInt32) &&& (1431655765 : Int32))).toUInt32 >>> ((2 : Int32) &&& 31).toUInt32).toInt32) &&& (858993459 : Int32))).toUInt32 >>> ((4 : Int32) &&& 31).toUInt32).toInt32)) &&& (252645135 : Int32)).toUInt32 >>> ((8 : Int32) &&& 31).toUInt32).toInt32)).toUInt32 >>> ((16 : Int32) &&& 31).toUInt32).toInt32)))])) _
    refine XS.bipush X0.here hx rfl (hb hby d3_49) ?_
    show Steps p.tables e below (s₁.setTop (mkF m 51 #[.val (.int (((((((p0 - (((p0.toUInt32 >>> ((1 : Int32) &&& 31).toUInt32).toInt32) &&& (1431655765 : Int32))) &&& (858993459 : Int32)) + ((((p0 - (((p0.toUInt32 >>> ((1 : Int32) &&& 31).toUInt32).toInt32) &&& (1431655765 : Int32))).toUInt32 >>> ((2 : Int32) &&& 31).toUInt32).toInt32) &&& (858993459 : Int32))) + (((((p0 - (((p0.toUInt32 >>> ((1 : Int32) &&& 31).toUInt32).toInt32) &&& (1431655765 : Int32))) &&& (858993459 : Int32)) + ((((p0 - (((p0.toUInt32 >>> ((1 : Int32) &&& 31).toUInt32).toInt32) &&& (1431655765 : Int32))).toUInt32 >>> ((2 : Int32) &&& 31).toUInt32).toInt32) &&& (858993459 : Int32))).toUInt32 >>> ((4 : Int32) &&& 31).toUInt32).toInt32)) &&& (252645135 : Int32)) + (((((((p0 - (((p0.toUInt32 >>> ((1 : Int32) &&& 31).toUInt32).toInt32) &&& (1431655765 : Int32))) &&& (858993459 : Int32)) + ((((p0 - (((p0.toUInt32 >>> ((1 : Int32) &&& 31).toUInt32).toInt32) &&& (1431655765 : Int32))).toUInt32 >>> ((2 : Int32) &&& 31).toUInt32).toInt32) &&& (858993459 : Int32))) + (((((p0 - (((p0.toUInt32 >>> ((1 : Int32) &&& 31).toUInt32).toInt32) &&& (1431655765 : Int32))) &&& (858993459 : Int32)) + ((((p0 - (((p0.toUInt32 >>> ((1 : Int32) &&& 31).toUInt32).toInt32) &&& (1431655765 : Int32))).toUInt32 >>> ((2 : Int32) &&& 31).toUInt32).toInt32) &&& (858993459 : Int32))).toUInt32 >>> ((4 : Int32) &&& 31).toUInt32).toInt32)) &&& (252645135 : Int32)).toUInt32 >>> ((8 : Int32) &&& 31).toUInt32).toInt32)) + ((((((((p0 - (((p0.toUInt32 >>> ((1 : Int32) &&& 31).toUInt32).toInt32) &&& (1431655765 : Int32))) &&& (858993459 : Int32)) + ((((p0 - (((p0.toUInt32 >>> ((1 : Int32) &&& 31).toUInt32).toInt32) &&& (1431655765 : Int32))).toUInt32 >>> ((2 : Int32) &&& 31).toUInt32).toInt32) &&& (858993459 : Int32))) + (((((p0 - (((p0.toUInt32 >>> ((1 : Int32) &&& 31).toUInt32).toInt32) &&& (1431655765 : Int32))) &&& (858993459 : Int32)) + ((((p0 - (((p0.toUInt32 >>> ((1 : Int32) &&& 31).toUInt32).toInt32) &&& (1431655765 : Int32))).toUInt32 >>> ((2 : Int32) &&& 31).toUInt32).toInt32) &&& (858993459 : Int32))).toUInt32 >>> ((4 : Int32) &&& 31).toUInt32).toInt32)) &&& (252645135 : Int32)) + (((((((p0 - (((p0.toUInt32 >>> ((1 : Int32) &&& 31).toUInt32).toInt32) &&& (1431655765 : Int32))) &&& (858993459 : Int32)) + ((((p0 - (((p0.toUInt32 >>> ((1 : Int32) &&& 31).toUInt32).toInt32) &&& (1431655765 : Int32))).toUInt32 >>> ((2 : Int32) &&& 31).toUInt32).toInt32) &&& (858993459 : Int32))) + (((((p0 - (((p0.toUInt32 >>> ((1 : Int32) &&& 31).toUInt32).toInt32) &&& (1431655765 : Int32))) &&& (858993459 : Int32)) + ((((p0 - (((p0.toUInt32 >>> ((1 : Int32) &&& 31).toUInt32).toInt32) &&& (1431655765 : Int32))).toUInt32 >>> ((2 : Int32) &&& 31).toUInt32).toInt32) &&& (858993459 : Int32))).toUInt32 >>> ((4 : Int32) &&& 31).toUInt32).toInt32)) &&& (252645135 : Int32)).toUInt32 >>> ((8 : Int32) &&& 31).toUInt32).toInt32)).toUInt32 >>> ((16 : Int32) &&& 31).toUInt32).toInt32)))] [(.int (63 : Int32)), (.int (((((((p0 - (((p0.toUInt32 >>> ((1 : Int32) &&& 31).toUInt32).toInt32) &&& (1431655765 : Int32))) &&& (858993459 : Int32)) + ((((p0 - (((p0.toUInt32 >>> ((1 : Int32) &&& 31).toUInt32).toInt32) &&& (1431655765 : Int32))).toUInt32 >>> ((2 : Int32) &&& 31).toUInt32).toInt32) &&& (858993459 : Int32))) + (((((p0 - (((p0.toUInt32 >>> ((1 : Int32) &&& 31).toUInt32).toInt32) &&& (1431655765 : Int32))) &&& (858993459 : Int32)) + ((((p0 - (((p0.toUInt32 >>> ((1 : Int32) &&& 31).toUInt32).toInt32) &&& (1431655765 : Int32))).toUInt32 >>> ((2 : Int32) &&& 31).toUInt32).toInt32) &&& (858993459 : Int32))).toUInt32 >>> ((4 : Int32) &&& 31).toUInt32).toInt32)) &&& (252645135 : Int32)) + (((((((p0 - (((p0.toUInt32 >>> ((1 : Int32) &&& 31).toUInt32).toInt32) &&& (1431655765 : Int32))) &&& (858993459 : Int32)) + ((((p0 - (((p0.toUInt32 >>> ((1 : Int32) &&& 31).toUInt32).toInt32) &&& (1431655765 : Int32))).toUInt32 >>> ((2 : Int32) &&& 31).toUInt32).toInt32) &&& (858993459 : Int32))) + (((((p0 - (((p0.toUInt32 >>> ((1 : Int32) &&& 31).toUInt32).toInt32) &&& (1431655765 : Int32))) &&& (858993459 : Int32)) + ((((p0 - (((p0.toUInt32 >>> ((1 : Int32) &&& 31).toUInt32).toInt32) &&& (1431655765 : Int32))).toUInt32 >>> ((2 : Int32) &&& 31).toUInt32).toInt32) &&& (858993459 : Int32))).toUInt32 >>> ((4 : Int32) &&& 31).toUInt32).toInt32)) &&& (252645135 : Int32)).toUInt32 >>> ((8 : Int32) &&& 31).toUInt32).toInt32)) + ((((((((p0 - (((p0.toUInt32 >>> ((1 : Int32) &&& 31).toUInt32).toInt32) &&& (1431655765 : Int32))) &&& (858993459 : Int32)) + ((((p0 - (((p0.toUInt32 >>> ((1 : Int32) &&& 31).toUInt32).toInt32) &&& (1431655765 : Int32))).toUInt32 >>> ((2 : Int32) &&& 31).toUInt32).toInt32) &&& (858993459 : Int32))) + (((((p0 - (((p0.toUInt32 >>> ((1 : Int32) &&& 31).toUInt32).toInt32) &&& (1431655765 : Int32))) &&& (858993459 : Int32)) + ((((p0 - (((p0.toUInt32 >>> ((1 : Int32) &&& 31).toUInt32).toInt32) &&& (1431655765 : Int32))).toUInt32 >>> ((2 : Int32) &&& 31).toUInt32).toInt32) &&& (858993459 : Int32))).toUInt32 >>> ((4 : Int32) &&& 31).toUInt32).toInt32)) &&& (252645135 : Int32)) + (((((((p0 - (((p0.toUInt32 >>> ((1 : Int32) &&& 31).toUInt32).toInt32) &&& (1431655765 : Int32))) &&& (858993459 : Int32)) + ((((p0 - (((p0.toUInt32 >>> ((1 : Int32) &&& 31).toUInt32).toInt32) &&& (1431655765 : Int32))).toUInt32 >>> ((2 : Int32) &&& 31).toUInt32).toInt32) &&& (858993459 : Int32))) + (((((p0 - (((p0.toUInt32 >>> ((1 : Int32) &&& 31).toUInt32).toInt32) &&& (1431655765 : Int32))) &&& (858993459 : Int32)) + ((((p0 - (((p0.toUInt32 >>> ((1 : Int32) &&& 31).toUInt32).toInt32) &&& (1431655765 : Int32))).toUInt32 >>> ((2 : Int32) &&& 31).toUInt32).toInt32) &&& (858993459 : Int32))).toUInt32 >>> ((4 : Int32) &&& 31).toUInt32).toInt32)) &&& (252645135 : Int32)).toUInt32 >>> ((8 : Int32) &&& 31).toUInt32).toInt32)).toUInt32 >>> ((16 : Int32) &&& 31).toUInt32).toInt32)))])) _
    refine XS.iand X0.here hx rfl (hb hby d3_51) rfl ?_
    show Steps p.tables e below (s₁.setTop (mkF m 52 #[.val (.int (((((((p0 - (((p0.toUInt32 >>> ((1 : Int32) &&& 31).toUInt32).toInt32) &&& (1431655765 : Int32))) &&& (858993459 : Int32)) + ((((p0 - (((p0.toUInt32 >>> ((1 : Int32) &&& 31).toUInt32).toInt32) &&& (1431655765 : Int32))).toUInt32 >>> ((2 : Int32) &&& 31).toUInt32).toInt32) &&& (858993459 : Int32))) + (((((p0 - (((p0.toUInt32 >>> ((1 : Int32) &&& 31).toUInt32).toInt32) &&& (1431655765 : Int32))) &&& (858993459 : Int32)) + ((((p0 - (((p0.toUInt32 >>> ((1 : Int32) &&& 31).toUInt32).toInt32) &&& (1431655765 : Int32))).toUInt32 >>> ((2 : Int32) &&& 31).toUInt32).toInt32) &&& (858993459 : Int32))).toUInt32 >>> ((4 : Int32) &&& 31).toUInt32).toInt32)) &&& (252645135 : Int32)) + (((((((p0 - (((p0.toUInt32 >>> ((1 : Int32) &&& 31).toUInt32).toInt32) &&& (1431655765 : Int32))) &&& (858993459 : Int32)) + ((((p0 - (((p0.toUInt32 >>> ((1 : Int32) &&& 31).toUInt32).toInt32) &&& (1431655765 : Int32))).toUInt32 >>> ((2 : Int32) &&& 31).toUInt32).toInt32) &&& (858993459 : Int32))) + (((((p0 - (((p0.toUInt32 >>> ((1 : Int32) &&& 31).toUInt32).toInt32) &&& (1431655765 : Int32))) &&& (858993459 : Int32)) + ((((p0 - (((p0.toUInt32 >>> ((1 : Int32) &&& 31).toUInt32).toInt32) &&& (1431655765 : Int32))).toUInt32 >>> ((2 : Int32) &&& 31).toUInt32).toInt32) &&& (858993459 : Int32))).toUInt32 >>> ((4 : Int32) &&& 31).toUInt32).toInt32)) &&& (252645135 : Int32)).toUInt32 >>> ((8 : Int32) &&& 31).toUInt32).toInt32)) + ((((((((p0 - (((p0.toUInt32 >>> ((1 : Int32) &&& 31).toUInt32).toInt32) &&& (1431655765 : Int32))) &&& (858993459 : Int32)) + ((((p0 - (((p0.toUInt32 >>> ((1 : Int32) &&& 31).toUInt32).toInt32) &&& (1431655765 : Int32))).toUInt32 >>> ((2 : Int32) &&& 31).toUInt32).toInt32) &&& (858993459 : Int32))) + (((((p0 - (((p0.toUInt32 >>> ((1 : Int32) &&& 31).toUInt32).toInt32) &&& (1431655765 : Int32))) &&& (858993459 : Int32)) + ((((p0 - (((p0.toUInt32 >>> ((1 : Int32) &&& 31).toUInt32).toInt32) &&& (1431655765 : Int32))).toUInt32 >>> ((2 : Int32) &&& 31).toUInt32).toInt32) &&& (858993459 : Int32))).toUInt32 >>> ((4 : Int32) &&& 31).toUInt32).toInt32)) &&& (252645135 : Int32)) + (((((((p0 - (((p0.toUInt32 >>> ((1 : Int32) &&& 31).toUInt32).toInt32) &&& (1431655765 : Int32))) &&& (858993459 : Int32)) + ((((p0 - (((p0.toUInt32 >>> ((1 : Int32) &&& 31).toUInt32).toInt32) &&& (1431655765 : Int32))).toUInt32 >>> ((2 : Int32) &&& 31).toUInt32).toInt32) &&& (858993459 : Int32))) + (((((p0 - (((p0.toUInt32 >>> ((1 : Int32) &&& 31).toUInt32).toInt32) &&& (1431655765 : Int32))) &&& (858993459 : Int32)) + ((((p0 - (((p0.toUInt32 >>> ((1 : Int32) &&& 31).toUInt32).toInt32) &&& (1431655765 : Int32))).toUInt32 >>> ((2 : Int32) &&& 31).toUInt32).toInt32) &&& (858993459 : Int32))).toUInt32 >>> ((4 : Int32) &&& 31).toUInt32).toInt32)) &&& (252645135 : Int32)).toUInt32 >>> ((8 : Int32) &&& 31).toUInt32).toInt32)).toUInt32 >>> ((16 : Int32) &&& 31).toUInt32).toInt32)))] [(.int ((((((((p0 - (((p0.toUInt32 >>> ((1 : Int32) &&& 31).toUInt32).toInt32) &&& (1431655765 : Int32))) &&& (858993459 : Int32)) + ((((p0 - (((p0.toUInt32 >>> ((1 : Int32) &&& 31).toUInt32).toInt32) &&& (1431655765 : Int32))).toUInt32 >>> ((2 : Int32) &&& 31).toUInt32).toInt32) &&& (858993459 : Int32))) + (((((p0 - (((p0.toUInt32 >>> ((1 : Int32) &&& 31).toUInt32).toInt32) &&& (1431655765 : Int32))) &&& (858993459 : Int32)) + ((((p0 - (((p0.toUInt32 >>> ((1 : Int32) &&& 31).toUInt32).toInt32) &&& (1431655765 : Int32))).toUInt32 >>> ((2 : Int32) &&& 31).toUInt32).toInt32) &&& (858993459 : Int32))).toUInt32 >>> ((4 : Int32) &&& 31).toUInt32).toInt32)) &&& (252645135 : Int32)) + (((((((p0 - (((p0.toUInt32 >>> ((1 : Int32) &&& 31).toUInt32).toInt32) &&& (1431655765 : Int32))) &&& (858993459 : Int32)) + ((((p0 - (((p0.toUInt32 >>> ((1 : Int32) &&& 31).toUInt32).toInt32) &&& (1431655765 : Int32))).toUInt32 >>> ((2 : Int32) &&& 31).toUInt32).toInt32) &&& (858993459 : Int32))) + (((((p0 - (((p0.toUInt32 >>> ((1 : Int32) &&& 31).toUInt32).toInt32) &&& (1431655765 : Int32))) &&& (858993459 : Int32)) + ((((p0 - (((p0.toUInt32 >>> ((1 : Int32) &&& 31).toUInt32).toInt32) &&& (1431655765 : Int32))).toUInt32 >>> ((2 : Int32) &&& 31).toUInt32).toInt32) &&& (858993459 : Int32))).toUInt32 >>> ((4 : Int32) &&& 31).toUInt32).toInt32)) &&& (252645135 : Int32)).toUInt32 >>> ((8 : Int32) &&& 31).toUInt32).toInt32)) + ((((((((p0 - (((p0.toUInt32 >>> ((1 : Int32) &&& 31).toUInt32).toInt32) &&& (1431655765 : Int32))) &&& (858993459 : Int32)) + ((((p0 - (((p0.toUInt32 >>> ((1 : Int32) &&& 31).toUInt32).toInt32) &&& (1431655765 : Int32))).toUInt32 >>> ((2 : Int32) &&& 31).toUInt32).toInt32) &&& (858993459 : Int32))) + (((((p0 - (((p0.toUInt32 >>> ((1 : Int32) &&& 31).toUInt32).toInt32) &&& (1431655765 : Int32))) &&& (858993459 : Int32)) + ((((p0 - (((p0.toUInt32 >>> ((1 : Int32) &&& 31).toUInt32).toInt32) &&& (1431655765 : Int32))).toUInt32 >>> ((2 : Int32) &&& 31).toUInt32).toInt32) &&& (858993459 : Int32))).toUInt32 >>> ((4 : Int32) &&& 31).toUInt32).toInt32)) &&& (252645135 : Int32)) + (((((((p0 - (((p0.toUInt32 >>> ((1 : Int32) &&& 31).toUInt32).toInt32) &&& (1431655765 : Int32))) &&& (858993459 : Int32)) + ((((p0 - (((p0.toUInt32 >>> ((1 : Int32) &&& 31).toUInt32).toInt32) &&& (1431655765 : Int32))).toUInt32 >>> ((2 : Int32) &&& 31).toUInt32).toInt32) &&& (858993459 : Int32))) + (((((p0 - (((p0.toUInt32 >>> ((1 : Int32) &&& 31).toUInt32).toInt32) &&& (1431655765 : Int32))) &&& (858993459 : Int32)) + ((((p0 - (((p0.toUInt32 >>> ((1 : Int32) &&& 31).toUInt32).toInt32) &&& (1431655765 : Int32))).toUInt32 >>> ((2 : Int32) &&& 31).toUInt32).toInt32) &&& (858993459 : Int32))).toUInt32 >>> ((4 : Int32) &&& 31).toUInt32).toInt32)) &&& (252645135 : Int32)).toUInt32 >>> ((8 : Int32) &&& 31).toUInt32).toInt32)).toUInt32 >>> ((16 : Int32) &&& 31).toUInt32).toInt32)) &&& (63 : Int32)))])) _
    exact kt
  obtain ⟨fs, hr, hrun, hended, hW, hsame⟩ := X0.leave (v := some (.int ((((((((p0 - (((p0.toUInt32 >>> ((1 : Int32) &&& 31).toUInt32).toInt32) &&& (1431655765 : Int32))) &&& (858993459 : Int32)) + ((((p0 - (((p0.toUInt32 >>> ((1 : Int32) &&& 31).toUInt32).toInt32) &&& (1431655765 : Int32))).toUInt32 >>> ((2 : Int32) &&& 31).toUInt32).toInt32) &&& (858993459 : Int32))) + (((((p0 - (((p0.toUInt32 >>> ((1 : Int32) &&& 31).toUInt32).toInt32) &&& (1431655765 : Int32))) &&& (858993459 : Int32)) + ((((p0 - (((p0.toUInt32 >>> ((1 : Int32) &&& 31).toUInt32).toInt32) &&& (1431655765 : Int32))).toUInt32 >>> ((2 : Int32) &&& 31).toUInt32).toInt32) &&& (858993459 : Int32))).toUInt32 >>> ((4 : Int32) &&& 31).toUInt32).toInt32)) &&& (252645135 : Int32)) + (((((((p0 - (((p0.toUInt32 >>> ((1 : Int32) &&& 31).toUInt32).toInt32) &&& (1431655765 : Int32))) &&& (858993459 : Int32)) + ((((p0 - (((p0.toUInt32 >>> ((1 : Int32) &&& 31).toUInt32).toInt32) &&& (1431655765 : Int32))).toUInt32 >>> ((2 : Int32) &&& 31).toUInt32).toInt32) &&& (858993459 : Int32))) + (((((p0 - (((p0.toUInt32 >>> ((1 : Int32) &&& 31).toUInt32).toInt32) &&& (1431655765 : Int32))) &&& (858993459 : Int32)) + ((((p0 - (((p0.toUInt32 >>> ((1 : Int32) &&& 31).toUInt32).toInt32) &&& (1431655765 : Int32))).toUInt32 >>> ((2 : Int32) &&& 31).toUInt32).toInt32) &&& (858993459 : Int32))).toUInt32 >>> ((4 : Int32) &&& 31).toUInt32).toInt32)) &&& (252645135 : Int32)).toUInt32 >>> ((8 : Int32) &&& 31).toUInt32).toInt32)) + ((((((((p0 - (((p0.toUInt32 >>> ((1 : Int32) &&& 31).toUInt32).toInt32) &&& (1431655765 : Int32))) &&& (858993459 : Int32)) + ((((p0 - (((p0.toUInt32 >>> ((1 : Int32) &&& 31).toUInt32).toInt32) &&& (1431655765 : Int32))).toUInt32 >>> ((2 : Int32) &&& 31).toUInt32).toInt32) &&& (858993459 : Int32))) + (((((p0 - (((p0.toUInt32 >>> ((1 : Int32) &&& 31).toUInt32).toInt32) &&& (1431655765 : Int32))) &&& (858993459 : Int32)) + ((((p0 - (((p0.toUInt32 >>> ((1 : Int32) &&& 31).toUInt32).toInt32) &&& (1431655765 : Int32))).toUInt32 >>> ((2 : Int32) &&& 31).toUInt32).toInt32) &&& (858993459 : Int32))).toUInt32 >>> ((4 : Int32) &&& 31).toUInt32).toInt32)) &&& (252645135 : Int32)) + (((((((p0 - (((p0.toUInt32 >>> ((1 : Int32) &&& 31).toUInt32).toInt32) &&& (1431655765 : Int32))) &&& (858993459 : Int32)) + ((((p0 - (((p0.toUInt32 >>> ((1 : Int32) &&& 31).toUInt32).toInt32) &&& (1431655765 : Int32))).toUInt32 >>> ((2 : Int32) &&& 31).toUInt32).toInt32) &&& (858993459 : Int32))) + (((((p0 - (((p0.toUInt32 >>> ((1 : Int32) &&& 31).toUInt32).toInt32) &&& (1431655765 : Int32))) &&& (858993459 : Int32)) + ((((p0 - (((p0.toUInt32 >>> ((1 : Int32) &&& 31).toUInt32).toInt32) &&& (1431655765 : Int32))).toUInt32 >>> ((2 : Int32) &&& 31).toUInt32).toInt32) &&& (858993459 : Int32))).toUInt32 >>> ((4 : Int32) &&& 31).toUInt32).toInt32)) &&& (252645135 : Int32)).toUInt32 >>> ((8 : Int32) &&& 31).toUInt32).toInt32)).toUInt32 >>> ((16 : Int32) &&& 31).toUInt32).toInt32)) &&& (63 : Int32)))) (fun h => by rw [Bd.returns] at h; cases h)
  refine ⟨_, _, pre1 _ ?_, hrun, hended, _, _, rfl, ?_, ⟨_, rfl⟩, hW, hsame.mono (by decide) (by decide)⟩
  · exact retI X0 hx Bd.returns (hb hby d3_52) hr
  · show Q3 Z p0 h0 n0 _ s₁.heap _
    rw [e0]
    exact ⟨rfl, N0, rfl⟩
theorem d1_0 : decode prog_24_method_1_code 0 = .ok (.aload_n 0, 1) := by decide +kernel
theorem d1_1 : decode prog_24_method_1_code 1 = .ok (.invokespecial 1, 3) := by decide +kernel
theorem d1_4 : decode prog_24_method_1_code 4 = .ok (.iload_n 1, 1) := by decide +kernel
theorem d1_5 : decode prog_24_method_1_code 5 = .ok (.invokestatic 7, 3) := by decide +kernel
theorem d1_8 : decode prog_24_method_1_code 8 = .ok (.iconst 1, 1) := by decide +kernel
theorem d1_9 : decode prog_24_method_1_code 9 = .ok (.if_icmp .ne 9, 3) := by decide +kernel
theorem d1_12 : decode prog_24_method_1_code 12 = .ok (.iload_n 1, 1) := by decide +kernel
theorem d1_13 : decode prog_24_method_1_code 13 = .ok (.bipush 10, 2) := by decide +kernel
theorem d1_15 : decode prog_24_method_1_code 15 = .ok (.if_icmp .ge 17, 3) := by decide +kernel
theorem d1_18 : decode prog_24_method_1_code 18 = .ok (.new 15, 3) := by decide +kernel
theorem d1_21 : decode prog_24_method_1_code 21 = .ok (.dup, 1) := by decide +kernel
theorem d1_22 : decode prog_24_method_1_code 22 = .ok (.iload_n 1, 1) := by decide +kernel
theorem d1_28 : decode prog_24_method_1_code 28 = .ok (.invokespecial 21, 3) := by decide +kernel
theorem d1_31 : decode prog_24_method_1_code 31 = .ok (.athrow, 1) := by decide +kernel
theorem d1_32 : decode prog_24_method_1_code 32 = .ok (.aload_n 0, 1) := by decide +kernel
theorem d1_33 : decode prog_24_method_1_code 33 = .ok (.iload_n 1, 1) := by decide +kernel
theorem d1_34 : decode prog_24_method_1_code 34 = .ok (.newarray .byte, 2) := by decide +kernel
theorem d1_36 : decode prog_24_method_1_code 36 = .ok (.putfield 24, 3) := by decide +kernel
theorem d1_39 : decode prog_24_method_1_code 39 = .ok (.aload_n 0, 1) := by decide +kernel
theorem d1_40 : decode prog_24_method_1_code 40 = .ok (.iload_n 1, 1) := by decide +kernel
theorem d1_41 : decode prog_24_method_1_code 41 = .ok (.iconst 1, 1) := by decide +kernel
theorem d1_42 : decode prog_24_method_1_code 42 = .ok (.isub, 1) := by decide +kernel
theorem d1_43 : decode prog_24_method_1_code 43 = .ok (.putfield 28, 3) := by decide +kernel
theorem d1_46 : decode prog_24_method_1_code 46 = .ok (.aload_n 0, 1) := by decide +kernel
theorem d1_47 : decode prog_24_method_1_code 47 = .ok (.iload_n 1, 1) := by decide +kernel
theorem d1_48 : decode prog_24_method_1_code 48 = .ok (.i2l, 1) := by decide +kernel
theorem d1_49 : decode prog_24_method_1_code 49 = .ok (.putfield 32, 3) := by decide +kernel
theorem d1_52 : decode prog_24_method_1_code 52 = .ok (.return_, 1) := by decide +kernel
theorem pn46195025 : plainName "com/example/wee_find/weefind/HeldMatches" = true := by first | (simp [plainName, overriddenIn]; done) | decide +kernel
theorem pd87992008 : parseMethodDescriptor "(I)I" = some ⟨[.int], some .int⟩ := by decide +kernel
theorem ef_1 (m : MethodId) (a0 : Addr) : entryFrame m #[(.ref a0), (.int (16 : Int32))] 2 = mkF m 0 #[.val (.ref a0), .val (.int (16 : Int32))] [] := by first | (simp [entryFrame, mkF, argsToLocals, Value.category]; done) | rfl
def Q1 (Z : State) (a0 : Addr) (h0 : Heap) (n0 : Nat) (v : Option Value) (h : Heap) (L : List Loc) : Prop := ∃ b1 : Addr, v = none ∧ Fr n0 L ∧ Keep h0 h [a0] ∧ h0.size ≤ b1 ∧ Exa Z h a0 "com/example/wee_find/weefind/HeldMatches" ∧ Fld Z h a0 "com/example/wee_find/weefind/HeldMatches" "bytes" "[B" (.ref b1) ∧ Fld Z h a0 "com/example/wee_find/weefind/HeldMatches" "mask" "I" (.int (15 : Int32)) ∧ Fld Z h a0 "com/example/wee_find/weefind/HeldMatches" "limit" "J" (.long (16 : Int64)) ∧ Fld Z h a0 "com/example/wee_find/weefind/HeldMatches" "written" "J" (.long (Int64.ofNat 0)) ∧ Fld Z h a0 "com/example/wee_find/weefind/HeldMatches" "taking" "J" (.long (Int64.ofNat 0)) ∧ Fld Z h a0 "com/example/wee_find/weefind/HeldMatches" "freed" "J" (.long (0 : Int64)) ∧ own_Ar Z h b1 .byte 16 (fun _ => (0 : Int32))
set_option maxRecDepth 65536 in
set_option maxHeartbeats 40000000 in
theorem rm1 (l : Launch) (Z : State) (aq : Array Value) (hw : ∀ d ∈ tables_1, d.before aq Z = true) (ws : List Jvm.Cond) (a0 : Addr) (h0 : Heap) (n0 : Nat) (Z0 : n0 ≤ h0.size) (E_ : Exa Z h0 a0 "com/example/wee_find/weefind/HeldMatches") (Fb_ : Fld Z h0 a0 "com/example/wee_find/weefind/HeldMatches" "bytes" "[B" .null) (Fm_ : Fld Z h0 a0 "com/example/wee_find/weefind/HeldMatches" "mask" "I" (.int (0 : Int32))) (Flimit_ : Fld Z h0 a0 "com/example/wee_find/weefind/HeldMatches" "limit" "J" (.long (0 : Int64))) (Fwritten_ : Fld Z h0 a0 "com/example/wee_find/weefind/HeldMatches" "written" "J" (.long (0 : Int64))) (Ftaking_ : Fld Z h0 a0 "com/example/wee_find/weefind/HeldMatches" "taking" "J" (.long (0 : Int64))) (Ffreed_ : Fld Z h0 a0 "com/example/wee_find/weefind/HeldMatches" "freed" "J" (.long (0 : Int64))) (g_a0 : n0 ≤ a0) :
    MetFree l (⟨"com/example/wee_find/weefind/HeldMatches", "<init>", "(I)V"⟩ : MethodName) (head1 (Jvm.Cond.code (⟨"com/example/wee_find/weefind/HeldMatches", "<init>", "(I)V"⟩ : MethodName) prog_24_method_1_code 2 none :: ws) ({ frames := 1, cells := 1, slots := 16, locals := 12 } : Room)) (fun a U => a = #[(.ref a0), (.int (16 : Int32))] ∧ Z.Warmed39 U.vm ∧ U.heap = h0) (fun _ _ _ _ _ => True) (fun _ U o U' => ∃ v L, o = .returned v ∧ Q1 Z a0 h0 n0 v U'.heap L ∧ FrameEnd U o U' L ({ frames := 1, cells := 1, slots := 16, locals := 12 } : Room).cells ({ frames := 1, cells := 1, slots := 16, locals := 12 } : Room).slots) := by
  refine MetFree.of_bodySF (plainFor_of_name pn46195025) hisR ?_
  intro p e s m args below meth c s₁ Bd hml0 hP hK
  obtain ⟨rfl, hZ, hh⟩ := hP
  have hx := Bd.exec
  have hby := Bd.bytes
  have hml : c.maxLocals = 2 := hml0
  have hown : s.vm.findClass "com/example/wee_find/weefind/HeldMatches" = some m.cls := findClass_of_methodNamed Bd.named
  have hnm := (name_of_methodNamed Bd.named Bd.method).1
  have X0 : Stand p l e ({ frames := 1, cells := 1, slots := 16, locals := 12 } : Room) s m #[(.ref a0), (.int (16 : Int32))] below meth c s₁ [] 0 0 := Stand.of_body Bd
  have e0 : s₁.heap = h0 := by rw [← hh, Bd.state]; rfl
  have N0 := Fr.nil n0
  have K0 : Keep h0 h0 [a0] := Keep.refl _ _
  have pre0 : ∀ t, Steps p.tables e below (s₁.setTop (mkF m 0 #[.val (.ref a0), .val (.int (16 : Int32))] [])) t → Steps p.tables e below (s₁.setTop (entryFrame m #[(.ref a0), (.int (16 : Int32))] 2)) t := fun t k => castTop (ef_1 m a0) k
  obtain ⟨T2, X2, e2, st2⟩ := initO X0 hx hZ hown (hw _ (List.mem_of_getElem? (i := 7) rfl)) (hw _ (List.mem_of_getElem? (i := 8) rfl)) (hw _ (List.mem_of_getElem? (i := 9) rfl)) e0 (g := (mkF m 1 #[.val (.ref a0), .val (.int (16 : Int32))] [(.ref a0)])) rfl (by rw [hml]; rfl) rfl (hb hby d1_1) (by decide) (W := 0) (by show 2 * 0 + _ ≤ _; exact Nat.le_of_eq rfl) (by decide)
  obtain ⟨_, _, ⟨T3, L3, k3, n3⟩, -, X3, ⟨Lc3, hQ3, l3, y3, z3⟩, st3⟩ := Jvm.LawKit.callS X2 hx (y := (⟨"java/lang/Integer", "bitCount", "(I)I"⟩ : MethodName)) hown (mvT hZ (hw _ (List.mem_of_getElem? (i := 10) rfl))) (mvT hZ (hw _ (List.mem_of_getElem? (i := 11) rfl))) (mvT hZ (hw _ (List.mem_of_getElem? (i := 12) rfl))) (mvT hZ (hw _ (List.mem_of_getElem? (i := 13) rfl))) (by decide) (backOf (W := 0) (rm3 l Z aq hw [] (16 : Int32) h0 n0 Z0 ) hZ (hw _ (List.mem_of_getElem? (i := 13) rfl)) (hw _ (List.mem_of_getElem? (i := 12) rfl)) (by decide) (by decide)) (g := (mkF m 5 #[.val (.ref a0), .val (.int (16 : Int32))] [(.int (16 : Int32))])) rfl (by rw [hml]; rfl) (argsL := [(.int (16 : Int32))]) (rest := []) (lenOf pd87992008 rfl) rfl (by show 2 * 0 + _ ≤ _; exact Nat.le_of_eq rfl) (hb hby d1_5) (fun _ _ => ⟨rfl, e2, (by decide : 0 + 0 ≤ _), (by decide : 0 + 0 ≤ _)⟩)
  dsimp only [Pt.U, Pt.locs, Pt.cells, Pt.slots] at X3 l3 y3 z3 st3 hQ3
  subst l3 y3 z3
  obtain ⟨rfl, N3q, e3⟩ := hQ3
  have N4 := Fr.app N0 N3q
  obtain ⟨T5, h5, k5, X5, e5, E5, A5, EE5, st5⟩ := newPE X3 hx hZ (hw _ (List.mem_of_getElem? (i := 17) rfl)) e3 (g := (mkF m 34 #[.val (.ref a0), .val (.int (16 : Int32))] [(.int (16 : Int32)), (.ref a0)])) rfl (hb hby d1_34) rfl (by decide) (cap := 16) (by decide) (by decide) (by decide) (by decide) (ad := "[B") (by decide)
  obtain ⟨b5, g5⟩ : ∃ z, z = h0.size := ⟨_, rfl⟩
  rw [← g5] at A5 EE5 st5
  have ne_a0_b5 : a0 ≠ b5 := Nat.ne_of_lt (Nat.lt_of_lt_of_le E_.lt (Nat.le_of_eq g5.symm))
  have g_b5 : n0 ≤ b5 := Nat.le_trans Z0 (Nat.le_of_eq g5.symm)
  have sz_b5 : h0.size ≤ b5 := Nat.le_trans K0.1 (Nat.le_of_eq g5.symm)
  have E6 := E_.ext E5
  have F7 := Fb_.ext E5
  have F8 := Fm_.ext E5
  have F9 := Flimit_.ext E5
  have F10 := Fwritten_.ext E5
  have F11 := Ftaking_.ext E5
  have F12 := Ffreed_.ext E5
  have K13 : Keep h0 h5 [a0] := K0.ext E5
  have Z14 : n0 ≤ h5.size := Nat.le_trans Z0 E5.1
  have V5 : own_Ar Z h5 b5 .byte 16 (fun _ => (0 : Int32)) := own_Ar.of (Arv.new A5 (by decide)) (by decide) (fun i hi => rfl)
  obtain ⟨T15, h15, X15, e15, W15, st15⟩ := putF X5 hx hZ hown (host := "") (Or.inl (hw _ (List.mem_of_getElem? (i := 18) rfl))) Via.refl e5 F7 E6 (Or.inr ⟨(hw _ (List.mem_of_getElem? (i := 19) rfl)), rfl, hnm⟩) (hw _ (List.mem_of_getElem? (i := 2) rfl)) (ty := (.array .byte)) (by decide) rfl rfl (g := (mkF m 36 #[.val (.ref a0), .val (.int (16 : Int32))] [(.ref b5), (.ref a0)])) rfl rfl (hb hby d1_36)
  have E16 := E6.wr W15
  have F17 : Fld Z h15 a0 "com/example/wee_find/weefind/HeldMatches" "bytes" "[B" (.ref b5) := F7.same W15
  have F18 := F8.other W15 (Or.inr (slot_ne (Or.inr (hw _ (List.mem_of_getElem? (i := 21) rfl))) (Or.inr (hw _ (List.mem_of_getElem? (i := 19) rfl))) (by decide) (t := .int) (t' := (.array .byte)) (by decide) (by decide)))
  have F19 := F9.other W15 (Or.inr (slot_ne (Or.inl (hw _ (List.mem_of_getElem? (i := 23) rfl))) (Or.inr (hw _ (List.mem_of_getElem? (i := 19) rfl))) (by decide) (t := .long) (t' := (.array .byte)) (by decide) (by decide)))
  have F20 := F10.other W15 (Or.inr (slot_ne (Or.inl (hw _ (List.mem_of_getElem? (i := 31) rfl))) (Or.inr (hw _ (List.mem_of_getElem? (i := 19) rfl))) (by decide) (t := .long) (t' := (.array .byte)) (by decide) (by decide)))
  have F21 := F11.other W15 (Or.inr (slot_ne (Or.inl (hw _ (List.mem_of_getElem? (i := 38) rfl))) (Or.inr (hw _ (List.mem_of_getElem? (i := 19) rfl))) (by decide) (t := .long) (t' := (.array .byte)) (by decide) (by decide)))
  have F22 := F12.other W15 (Or.inr (slot_ne (Or.inl (hw _ (List.mem_of_getElem? (i := 45) rfl))) (Or.inr (hw _ (List.mem_of_getElem? (i := 19) rfl))) (by decide) (t := .long) (t' := (.array .byte)) (by decide) (by decide)))
  have E23 := EE5.wr W15
  have V24 := V5.other W15 (Ne.symm ne_a0_b5)
  have N25 := Fr.snoc X15 N4 g_a0
  have K26 : Keep h0 h15 [a0] := K13.wr W15 (Or.inl (List.mem_of_getElem? (i := 0) rfl))
  have Z27 : n0 ≤ h15.size := Nat.le_trans Z14 (Keep.of_wr W15).1
  obtain ⟨T28, h28, X28, e28, W28, st28⟩ := putF X15 hx hZ hown (host := "") (Or.inl (hw _ (List.mem_of_getElem? (i := 20) rfl))) Via.refl e15 F18 E16 (Or.inr ⟨(hw _ (List.mem_of_getElem? (i := 21) rfl)), rfl, hnm⟩) (hw _ (List.mem_of_getElem? (i := 2) rfl)) (ty := .int) (by decide) rfl rfl (g := (mkF m 43 #[.val (.ref a0), .val (.int (16 : Int32))] [(.int ((16 : Int32) - (1 : Int32))), (.ref a0)])) rfl rfl (hb hby d1_43)
  have E29 := E16.wr W28
  have F30 := F17.other W28 (Or.inr (slot_ne (Or.inr (hw _ (List.mem_of_getElem? (i := 19) rfl))) (Or.inr (hw _ (List.mem_of_getElem? (i := 21) rfl))) (by decide) (t := (.array .byte)) (t' := .int) (by decide) (by decide)))
  have F31 : Fld Z h28 a0 "com/example/wee_find/weefind/HeldMatches" "mask" "I" (.int ((16 : Int32) - (1 : Int32))) := F18.same W28
  have F32 := F19.other W28 (Or.inr (slot_ne (Or.inl (hw _ (List.mem_of_getElem? (i := 23) rfl))) (Or.inr (hw _ (List.mem_of_getElem? (i := 21) rfl))) (by decide) (t := .long) (t' := .int) (by decide) (by decide)))
  have F33 := F20.other W28 (Or.inr (slot_ne (Or.inl (hw _ (List.mem_of_getElem? (i := 31) rfl))) (Or.inr (hw _ (List.mem_of_getElem? (i := 21) rfl))) (by decide) (t := .long) (t' := .int) (by decide) (by decide)))
  have F34 := F21.other W28 (Or.inr (slot_ne (Or.inl (hw _ (List.mem_of_getElem? (i := 38) rfl))) (Or.inr (hw _ (List.mem_of_getElem? (i := 21) rfl))) (by decide) (t := .long) (t' := .int) (by decide) (by decide)))
  have F35 := F22.other W28 (Or.inr (slot_ne (Or.inl (hw _ (List.mem_of_getElem? (i := 45) rfl))) (Or.inr (hw _ (List.mem_of_getElem? (i := 21) rfl))) (by decide) (t := .long) (t' := .int) (by decide) (by decide)))
  have E36 := E23.wr W28
  have V37 := V24.other W28 (Ne.symm ne_a0_b5)
  have N38 := Fr.snoc X28 N25 g_a0
  have K39 : Keep h0 h28 [a0] := K26.wr W28 (Or.inl (List.mem_of_getElem? (i := 0) rfl))
  have Z40 : n0 ≤ h28.size := Nat.le_trans Z27 (Keep.of_wr W28).1
  obtain ⟨T41, h41, X41, e41, W41, st41⟩ := putF X28 hx hZ hown (host := "") (Or.inl (hw _ (List.mem_of_getElem? (i := 22) rfl))) Via.refl e28 F32 E29 (Or.inl (hw _ (List.mem_of_getElem? (i := 23) rfl))) (hw _ (List.mem_of_getElem? (i := 2) rfl)) (ty := .long) (by decide) rfl rfl (g := (mkF m 49 #[.val (.ref a0), .val (.int (16 : Int32))] [(.long ((16 : Int32).toInt64)), (.ref a0)])) rfl rfl (hb hby d1_49)
  have E42 := E29.wr W41
  have F43 := F30.other W41 (Or.inr (slot_ne (Or.inr (hw _ (List.mem_of_getElem? (i := 19) rfl))) (Or.inl (hw _ (List.mem_of_getElem? (i := 23) rfl))) (by decide) (t := (.array .byte)) (t' := .long) (by decide) (by decide)))
  have F44 := F31.other W41 (Or.inr (slot_ne (Or.inr (hw _ (List.mem_of_getElem? (i := 21) rfl))) (Or.inl (hw _ (List.mem_of_getElem? (i := 23) rfl))) (by decide) (t := .int) (t' := .long) (by decide) (by decide)))
  have F45 : Fld Z h41 a0 "com/example/wee_find/weefind/HeldMatches" "limit" "J" (.long ((16 : Int32).toInt64)) := F32.same W41
  have F46 := F33.other W41 (Or.inr (slot_ne (Or.inl (hw _ (List.mem_of_getElem? (i := 31) rfl))) (Or.inl (hw _ (List.mem_of_getElem? (i := 23) rfl))) (by decide) (t := .long) (t' := .long) (by decide) (by decide)))
  have F47 := F34.other W41 (Or.inr (slot_ne (Or.inl (hw _ (List.mem_of_getElem? (i := 38) rfl))) (Or.inl (hw _ (List.mem_of_getElem? (i := 23) rfl))) (by decide) (t := .long) (t' := .long) (by decide) (by decide)))
  have F48 := F35.other W41 (Or.inr (slot_ne (Or.inl (hw _ (List.mem_of_getElem? (i := 45) rfl))) (Or.inl (hw _ (List.mem_of_getElem? (i := 23) rfl))) (by decide) (t := .long) (t' := .long) (by decide) (by decide)))
  have E49 := E36.wr W41
  have V50 := V37.other W41 (Ne.symm ne_a0_b5)
  have N51 := Fr.snoc X41 N38 g_a0
  have K52 : Keep h0 h41 [a0] := K39.wr W41 (Or.inl (List.mem_of_getElem? (i := 0) rfl))
  have Z53 : n0 ≤ h41.size := Nat.le_trans Z40 (Keep.of_wr W41).1
  have pre54 : ∀ t, Steps p.tables e below (T41.setTop (mkF m 52 #[.val (.ref a0), .val (.int (16 : Int32))] [])) t → Steps p.tables e below (s₁.setTop (entryFrame m #[(.ref a0), (.int (16 : Int32))] 2)) t := fun t kt => by
    refine pre0 _ ?_
    show Steps p.tables e below (s₁.setTop (mkF m 0 #[.val (.ref a0), .val (.int (16 : Int32))] [])) _
    refine XS.aloadN X0.here hx rfl (hb hby d1_0) rfl rfl ?_
    show Steps p.tables e below (s₁.setTop (mkF m 1 #[.val (.ref a0), .val (.int (16 : Int32))] [(.ref a0)])) _
    refine st2 _ ?_
    show Steps p.tables e below (T2.setTop (mkF m 4 #[.val (.ref a0), .val (.int (16 : Int32))] [])) _
    refine XS.iloadN X2.here hx rfl (hb hby d1_4) rfl ?_
    show Steps p.tables e below (T2.setTop (mkF m 5 #[.val (.ref a0), .val (.int (16 : Int32))] [(.int (16 : Int32))])) _
    refine st3 _ ?_
    show Steps p.tables e below (T3.setTop (mkF m 8 #[.val (.ref a0), .val (.int (16 : Int32))] [(.int (((((((((16 : Int32) - ((((16 : Int32).toUInt32 >>> ((1 : Int32) &&& 31).toUInt32).toInt32) &&& (1431655765 : Int32))) &&& (858993459 : Int32)) + (((((16 : Int32) - ((((16 : Int32).toUInt32 >>> ((1 : Int32) &&& 31).toUInt32).toInt32) &&& (1431655765 : Int32))).toUInt32 >>> ((2 : Int32) &&& 31).toUInt32).toInt32) &&& (858993459 : Int32))) + ((((((16 : Int32) - ((((16 : Int32).toUInt32 >>> ((1 : Int32) &&& 31).toUInt32).toInt32) &&& (1431655765 : Int32))) &&& (858993459 : Int32)) + (((((16 : Int32) - ((((16 : Int32).toUInt32 >>> ((1 : Int32) &&& 31).toUInt32).toInt32) &&& (1431655765 : Int32))).toUInt32 >>> ((2 : Int32) &&& 31).toUInt32).toInt32) &&& (858993459 : Int32))).toUInt32 >>> ((4 : Int32) &&& 31).toUInt32).toInt32)) &&& (252645135 : Int32)) + ((((((((16 : Int32) - ((((16 : Int32).toUInt32 >>> ((1 : Int32) &&& 31).toUInt32).toInt32) &&& (1431655765 : Int32))) &&& (858993459 : Int32)) + (((((16 : Int32) - ((((16 : Int32).toUInt32 >>> ((1 : Int32) &&& 31).toUInt32).toInt32) &&& (1431655765 : Int32))).toUInt32 >>> ((2 : Int32) &&& 31).toUInt32).toInt32) &&& (858993459 : Int32))) + ((((((16 : Int32) - ((((16 : Int32).toUInt32 >>> ((1 : Int32) &&& 31).toUInt32).toInt32) &&& (1431655765 : Int32))) &&& (858993459 : Int32)) + (((((16 : Int32) - ((((16 : Int32).toUInt32 >>> ((1 : Int32) &&& 31).toUInt32).toInt32) &&& (1431655765 : Int32))).toUInt32 >>> ((2 : Int32) &&& 31).toUInt32).toInt32) &&& (858993459 : Int32))).toUInt32 >>> ((4 : Int32) &&& 31).toUInt32).toInt32)) &&& (252645135 : Int32)).toUInt32 >>> ((8 : Int32) &&& 31).toUInt32).toInt32)) + (((((((((16 : Int32) - ((((16 : Int32).toUInt32 >>> ((1 : Int32) &&& 31).toUInt32).toInt32) &&& (1431655765 : Int32))) &&& (858993459 : Int32)) + (((((16 : Int32) - ((((16 : Int32).toUInt32 >>> ((1 : Int32) &&& 31).toUInt32).toInt32) &&& (1431655765 : Int32))).toUInt32 >>> ((2 : Int32) &&& 31).toUInt32).toInt32) &&& (858993459 : Int32))) + ((((((16 : Int32) - ((((16 : Int32).toUInt32 >>> ((1 : Int32) &&& 31).toUInt32).toInt32) &&& (1431655765 : Int32))) &&& (858993459 : Int32)) + (((((16 : Int32) - ((((16 : Int32).toUInt32 >>> ((1 : Int32) &&& 31).toUInt32).toInt32) &&& (1431655765 : Int32))).toUInt32 >>> ((2 : Int32) &&& 31).toUInt32).toInt32) &&& (858993459 : Int32))).toUInt32 >>> ((4 : Int32) &&& 31).toUInt32).toInt32)) &&& (252645135 : Int32)) + ((((((((16 : Int32) - ((((16 : Int32).toUInt32 >>> ((1 : Int32) &&& 31).toUInt32).toInt32) &&& (1431655765 : Int32))) &&& (858993459 : Int32)) + (((((16 : Int32) - ((((16 : Int32).toUInt32 >>> ((1 : Int32) &&& 31).toUInt32).toInt32) &&& (1431655765 : Int32))).toUInt32 >>> ((2 : Int32) &&& 31).toUInt32).toInt32) &&& (858993459 : Int32))) + ((((((16 : Int32) - ((((16 : Int32).toUInt32 >>> ((1 : Int32) &&& 31).toUInt32).toInt32) &&& (1431655765 : Int32))) &&& (858993459 : Int32)) + (((((16 : Int32) - ((((16 : Int32).toUInt32 >>> ((1 : Int32) &&& 31).toUInt32).toInt32) &&& (1431655765 : Int32))).toUInt32 >>> ((2 : Int32) &&& 31).toUInt32).toInt32) &&& (858993459 : Int32))).toUInt32 >>> ((4 : Int32) &&& 31).toUInt32).toInt32)) &&& (252645135 : Int32)).toUInt32 >>> ((8 : Int32) &&& 31).toUInt32).toInt32)).toUInt32 >>> ((16 : Int32) &&& 31).toUInt32).toInt32)) &&& (63 : Int32)))])) _
    refine XS.iconst X3.here hx rfl (hb hby d1_8) ?_
    show Steps p.tables e below (T3.setTop (mkF m 9 #[.val (.ref a0), .val (.int (16 : Int32))] [(.int (1 : Int32)), (.int (((((((((16 : Int32) - ((((16 : Int32).toUInt32 >>> ((1 : Int32) &&& 31).toUInt32).toInt32) &&& (1431655765 : Int32))) &&& (858993459 : Int32)) + (((((16 : Int32) - ((((16 : Int32).toUInt32 >>> ((1 : Int32) &&& 31).toUInt32).toInt32) &&& (1431655765 : Int32))).toUInt32 >>> ((2 : Int32) &&& 31).toUInt32).toInt32) &&& (858993459 : Int32))) + ((((((16 : Int32) - ((((16 : Int32).toUInt32 >>> ((1 : Int32) &&& 31).toUInt32).toInt32) &&& (1431655765 : Int32))) &&& (858993459 : Int32)) + (((((16 : Int32) - ((((16 : Int32).toUInt32 >>> ((1 : Int32) &&& 31).toUInt32).toInt32) &&& (1431655765 : Int32))).toUInt32 >>> ((2 : Int32) &&& 31).toUInt32).toInt32) &&& (858993459 : Int32))).toUInt32 >>> ((4 : Int32) &&& 31).toUInt32).toInt32)) &&& (252645135 : Int32)) + ((((((((16 : Int32) - ((((16 : Int32).toUInt32 >>> ((1 : Int32) &&& 31).toUInt32).toInt32) &&& (1431655765 : Int32))) &&& (858993459 : Int32)) + (((((16 : Int32) - ((((16 : Int32).toUInt32 >>> ((1 : Int32) &&& 31).toUInt32).toInt32) &&& (1431655765 : Int32))).toUInt32 >>> ((2 : Int32) &&& 31).toUInt32).toInt32) &&& (858993459 : Int32))) + ((((((16 : Int32) - ((((16 : Int32).toUInt32 >>> ((1 : Int32) &&& 31).toUInt32).toInt32) &&& (1431655765 : Int32))) &&& (858993459 : Int32)) + (((((16 : Int32) - ((((16 : Int32).toUInt32 >>> ((1 : Int32) &&& 31).toUInt32).toInt32) &&& (1431655765 : Int32))).toUInt32 >>> ((2 : Int32) &&& 31).toUInt32).toInt32) &&& (858993459 : Int32))).toUInt32 >>> ((4 : Int32) &&& 31).toUInt32).toInt32)) &&& (252645135 : Int32)).toUInt32 >>> ((8 : Int32) &&& 31).toUInt32).toInt32)) + (((((((((16 : Int32) - ((((16 : Int32).toUInt32 >>> ((1 : Int32) &&& 31).toUInt32).toInt32) &&& (1431655765 : Int32))) &&& (858993459 : Int32)) + (((((16 : Int32) - ((((16 : Int32).toUInt32 >>> ((1 : Int32) &&& 31).toUInt32).toInt32) &&& (1431655765 : Int32))).toUInt32 >>> ((2 : Int32) &&& 31).toUInt32).toInt32) &&& (858993459 : Int32))) + ((((((16 : Int32) - ((((16 : Int32).toUInt32 >>> ((1 : Int32) &&& 31).toUInt32).toInt32) &&& (1431655765 : Int32))) &&& (858993459 : Int32)) + (((((16 : Int32) - ((((16 : Int32).toUInt32 >>> ((1 : Int32) &&& 31).toUInt32).toInt32) &&& (1431655765 : Int32))).toUInt32 >>> ((2 : Int32) &&& 31).toUInt32).toInt32) &&& (858993459 : Int32))).toUInt32 >>> ((4 : Int32) &&& 31).toUInt32).toInt32)) &&& (252645135 : Int32)) + ((((((((16 : Int32) - ((((16 : Int32).toUInt32 >>> ((1 : Int32) &&& 31).toUInt32).toInt32) &&& (1431655765 : Int32))) &&& (858993459 : Int32)) + (((((16 : Int32) - ((((16 : Int32).toUInt32 >>> ((1 : Int32) &&& 31).toUInt32).toInt32) &&& (1431655765 : Int32))).toUInt32 >>> ((2 : Int32) &&& 31).toUInt32).toInt32) &&& (858993459 : Int32))) + ((((((16 : Int32) - ((((16 : Int32).toUInt32 >>> ((1 : Int32) &&& 31).toUInt32).toInt32) &&& (1431655765 : Int32))) &&& (858993459 : Int32)) + (((((16 : Int32) - ((((16 : Int32).toUInt32 >>> ((1 : Int32) &&& 31).toUInt32).toInt32) &&& (1431655765 : Int32))).toUInt32 >>> ((2 : Int32) &&& 31).toUInt32).toInt32) &&& (858993459 : Int32))).toUInt32 >>> ((4 : Int32) &&& 31).toUInt32).toInt32)) &&& (252645135 : Int32)).toUInt32 >>> ((8 : Int32) &&& 31).toUInt32).toInt32)).toUInt32 >>> ((16 : Int32) &&& 31).toUInt32).toInt32)) &&& (63 : Int32)))])) _
    refine XS.icmpNo X3.here hx rfl (hb hby d1_9) rfl (teq (by decide +kernel : (((((((((16 : Int32) - ((((16 : Int32).toUInt32 >>> ((1 : Int32) &&& 31).toUInt32).toInt32) &&& (1431655765 : Int32))) &&& (858993459 : Int32)) + (((((16 : Int32) - ((((16 : Int32).toUInt32 >>> ((1 : Int32) &&& 31).toUInt32).toInt32) &&& (1431655765 : Int32))).toUInt32 >>> ((2 : Int32) &&& 31).toUInt32).toInt32) &&& (858993459 : Int32))) + ((((((16 : Int32) - ((((16 : Int32).toUInt32 >>> ((1 : Int32) &&& 31).toUInt32).toInt32) &&& (1431655765 : Int32))) &&& (858993459 : Int32)) + (((((16 : Int32) - ((((16 : Int32).toUInt32 >>> ((1 : Int32) &&& 31).toUInt32).toInt32) &&& (1431655765 : Int32))).toUInt32 >>> ((2 : Int32) &&& 31).toUInt32).toInt32) &&& (858993459 : Int32))).toUInt32 >>> ((4 : Int32) &&& 31).toUInt32).toInt32)) &&& (252645135 : Int32)) + ((((((((16 : Int32) - ((((16 : Int32).toUInt32 >>> ((1 : Int32) &&& 31).toUInt32).toInt32) &&& (1431655765 : Int32))) &&& (858993459 : Int32)) + (((((16 : Int32) - ((((16 : Int32).toUInt32 >>> ((1 : Int32) &&& 31).toUInt32).toInt32) &&& (1431655765 : Int32))).toUInt32 >>> ((2 : Int32) &&& 31).toUInt32).toInt32) &&& (858993459 : Int32))) + ((((((16 : Int32) - ((((16 : Int32).toUInt32 >>> ((1 : Int32) &&& 31).toUInt32).toInt32) &&& (1431655765 : Int32))) &&& (858993459 : Int32)) + (((((16 : Int32) - ((((16 : Int32).toUInt32 >>> ((1 : Int32) &&& 31).toUInt32).toInt32) &&& (1431655765 : Int32))).toUInt32 >>> ((2 : Int32) &&& 31).toUInt32).toInt32) &&& (858993459 : Int32))).toUInt32 >>> ((4 : Int32) &&& 31).toUInt32).toInt32)) &&& (252645135 : Int32)).toUInt32 >>> ((8 : Int32) &&& 31).toUInt32).toInt32)) + (((((((((16 : Int32) - ((((16 : Int32).toUInt32 >>> ((1 : Int32) &&& 31).toUInt32).toInt32) &&& (1431655765 : Int32))) &&& (858993459 : Int32)) + (((((16 : Int32) - ((((16 : Int32).toUInt32 >>> ((1 : Int32) &&& 31).toUInt32).toInt32) &&& (1431655765 : Int32))).toUInt32 >>> ((2 : Int32) &&& 31).toUInt32).toInt32) &&& (858993459 : Int32))) + ((((((16 : Int32) - ((((16 : Int32).toUInt32 >>> ((1 : Int32) &&& 31).toUInt32).toInt32) &&& (1431655765 : Int32))) &&& (858993459 : Int32)) + (((((16 : Int32) - ((((16 : Int32).toUInt32 >>> ((1 : Int32) &&& 31).toUInt32).toInt32) &&& (1431655765 : Int32))).toUInt32 >>> ((2 : Int32) &&& 31).toUInt32).toInt32) &&& (858993459 : Int32))).toUInt32 >>> ((4 : Int32) &&& 31).toUInt32).toInt32)) &&& (252645135 : Int32)) + ((((((((16 : Int32) - ((((16 : Int32).toUInt32 >>> ((1 : Int32) &&& 31).toUInt32).toInt32) &&& (1431655765 : Int32))) &&& (858993459 : Int32)) + (((((16 : Int32) - ((((16 : Int32).toUInt32 >>> ((1 : Int32) &&& 31).toUInt32).toInt32) &&& (1431655765 : Int32))).toUInt32 >>> ((2 : Int32) &&& 31).toUInt32).toInt32) &&& (858993459 : Int32))) + ((((((16 : Int32) - ((((16 : Int32).toUInt32 >>> ((1 : Int32) &&& 31).toUInt32).toInt32) &&& (1431655765 : Int32))) &&& (858993459 : Int32)) + (((((16 : Int32) - ((((16 : Int32).toUInt32 >>> ((1 : Int32) &&& 31).toUInt32).toInt32) &&& (1431655765 : Int32))).toUInt32 >>> ((2 : Int32) &&& 31).toUInt32).toInt32) &&& (858993459 : Int32))).toUInt32 >>> ((4 : Int32) &&& 31).toUInt32).toInt32)) &&& (252645135 : Int32)).toUInt32 >>> ((8 : Int32) &&& 31).toUInt32).toInt32)).toUInt32 >>> ((16 : Int32) &&& 31).toUInt32).toInt32)) &&& (63 : Int32)) = (1 : Int32))).2 ?_
    show Steps p.tables e below (T3.setTop (mkF m 12 #[.val (.ref a0), .val (.int (16 : Int32))] [])) _
    refine XS.iloadN X3.here hx rfl (hb hby d1_12) rfl ?_
    show Steps p.tables e below (T3.setTop (mkF m 13 #[.val (.ref a0), .val (.int (16 : Int32))] [(.int (16 : Int32))])) _
    refine XS.bipush X3.here hx rfl (hb hby d1_13) ?_
    show Steps p.tables e below (T3.setTop (mkF m 15 #[.val (.ref a0), .val (.int (16 : Int32))] [(.int (10 : Int32)), (.int (16 : Int32))])) _
    refine XS.icmpYes X3.here hx rfl (pc0 := 15) (pc' := 32) rfl (hb hby d1_15) rfl (flt (by decide : ¬ ((16 : Int32) < (10 : Int32)))).2.1 (by decide) (by decide) ?_
    show Steps p.tables e below (T3.setTop (mkF m 32 #[.val (.ref a0), .val (.int (16 : Int32))] [])) _
    refine XS.aloadN X3.here hx rfl (hb hby d1_32) rfl rfl ?_
    show Steps p.tables e below (T3.setTop (mkF m 33 #[.val (.ref a0), .val (.int (16 : Int32))] [(.ref a0)])) _
    refine XS.iloadN X3.here hx rfl (hb hby d1_33) rfl ?_
    show Steps p.tables e below (T3.setTop (mkF m 34 #[.val (.ref a0), .val (.int (16 : Int32))] [(.int (16 : Int32)), (.ref a0)])) _
    refine st5 _ ?_
    show Steps p.tables e below (T5.setTop (mkF m 36 #[.val (.ref a0), .val (.int (16 : Int32))] [(.ref b5), (.ref a0)])) _
    refine st15 _ ?_
    show Steps p.tables e below (T15.setTop (mkF m 39 #[.val (.ref a0), .val (.int (16 : Int32))] [])) _
    refine XS.aloadN X15.here hx rfl (hb hby d1_39) rfl rfl ?_
    show Steps p.tables e below (T15.setTop (mkF m 40 #[.val (.ref a0), .val (.int (16 : Int32))] [(.ref a0)])) _
    refine XS.iloadN X15.here hx rfl (hb hby d1_40) rfl ?_
    show Steps p.tables e below (T15.setTop (mkF m 41 #[.val (.ref a0), .val (.int (16 : Int32))] [(.int (16 : Int32)), (.ref a0)])) _
    refine XS.iconst X15.here hx rfl (hb hby d1_41) ?_
    show Steps p.tables e below (T15.setTop (mkF m 42 #[.val (.ref a0), .val (.int (16 : Int32))] [(.int (1 : Int32)), (.int (16 : Int32)), (.ref a0)])) _
    refine XS.isub X15.here hx rfl (hb hby d1_42) rfl ?_
    show Steps p.tables e below (T15.setTop (mkF m 43 #[.val (.ref a0), .val (.int (16 : Int32))] [(.int ((16 : Int32) - (1 : Int32))), (.ref a0)])) _
    refine st28 _ ?_
    show Steps p.tables e below (T28.setTop (mkF m 46 #[.val (.ref a0), .val (.int (16 : Int32))] [])) _
    refine XS.aloadN X28.here hx rfl (hb hby d1_46) rfl rfl ?_
    show Steps p.tables e below (T28.setTop (mkF m 47 #[.val (.ref a0), .val (.int (16 : Int32))] [(.ref a0)])) _
    refine XS.iloadN X28.here hx rfl (hb hby d1_47) rfl ?_
    show Steps p.tables e below (T28.setTop (mkF m 48 #[.val (.ref a0), .val (.int (16 : Int32))] [(.int (16 : Int32)), (.ref a0)])) _
    refine XS.i2l X28.here hx rfl (hb hby d1_48) rfl ?_
    show Steps p.tables e below (T28.setTop (mkF m 49 #[.val (.ref a0), .val (.int (16 : Int32))] [(.long ((16 : Int32).toInt64)), (.ref a0)])) _
    refine st41 _ ?_
    show Steps p.tables e below (T41.setTop (mkF m 52 #[.val (.ref a0), .val (.int (16 : Int32))] [])) _
    exact kt
  obtain ⟨fs, hr, hrun, hended, hW, hsame⟩ := X41.leave (v := none) (fun _ => rfl)
  refine ⟨_, _, pre54 _ ?_, hrun, hended, _, _, rfl, ?_, ⟨_, rfl⟩, hW, hsame.mono (by decide) (by decide)⟩
  · exact X41.returnOut hx Bd.returns (hb hby d1_52) hr
  · show Q1 Z a0 h0 n0 _ T41.heap _
    rw [e41]
    exact ⟨b5, rfl, N51, K52, sz_b5, E42, F43, (own_F (congrArg Value.int (by decide : ((16 : Int32) - (1 : Int32)) = (15 : Int32))) F44), (own_F (congrArg Value.long (by decide : ((16 : Int32).toInt64) = (16 : Int64))) F45), F46, F47, F48, V50⟩
theorem d4_0 : decode prog_24_method_3_code 0 = .ok (.lload_n 1, 1) := by decide +kernel
theorem d4_1 : decode prog_24_method_3_code 1 = .ok (.lstore_n 3, 1) := by decide +kernel
theorem d4_2 : decode prog_24_method_3_code 2 = .ok (.lload_n 3, 1) := by decide +kernel
theorem d4_3 : decode prog_24_method_3_code 3 = .ok (.ldc2_w 41, 3) := by decide +kernel
theorem d4_6 : decode prog_24_method_3_code 6 = .ok (.lcmp, 1) := by decide +kernel
theorem d4_7 : decode prog_24_method_3_code 7 = .ok (.ifCond .lt 44, 3) := by decide +kernel
theorem d4_10 : decode prog_24_method_3_code 10 = .ok (.aload_n 0, 1) := by decide +kernel
theorem d4_11 : decode prog_24_method_3_code 11 = .ok (.getfield 24, 3) := by decide +kernel
theorem d4_14 : decode prog_24_method_3_code 14 = .ok (.aload_n 0, 1) := by decide +kernel
theorem d4_15 : decode prog_24_method_3_code 15 = .ok (.getfield 36, 3) := by decide +kernel
theorem d4_18 : decode prog_24_method_3_code 18 = .ok (.aload_n 0, 1) := by decide +kernel
theorem d4_19 : decode prog_24_method_3_code 19 = .ok (.getfield 28, 3) := by decide +kernel
theorem d4_22 : decode prog_24_method_3_code 22 = .ok (.i2l, 1) := by decide +kernel
theorem d4_23 : decode prog_24_method_3_code 23 = .ok (.land, 1) := by decide +kernel
theorem d4_24 : decode prog_24_method_3_code 24 = .ok (.l2i, 1) := by decide +kernel
theorem d4_25 : decode prog_24_method_3_code 25 = .ok (.lload_n 3, 1) := by decide +kernel
theorem d4_26 : decode prog_24_method_3_code 26 = .ok (.ldc2_w 41, 3) := by decide +kernel
theorem d4_29 : decode prog_24_method_3_code 29 = .ok (.lor, 1) := by decide +kernel
theorem d4_30 : decode prog_24_method_3_code 30 = .ok (.l2i, 1) := by decide +kernel
theorem d4_31 : decode prog_24_method_3_code 31 = .ok (.i2b, 1) := by decide +kernel
theorem d4_32 : decode prog_24_method_3_code 32 = .ok (.bastore, 1) := by decide +kernel
theorem d4_33 : decode prog_24_method_3_code 33 = .ok (.aload_n 0, 1) := by decide +kernel
theorem d4_34 : decode prog_24_method_3_code 34 = .ok (.dup, 1) := by decide +kernel
theorem d4_35 : decode prog_24_method_3_code 35 = .ok (.getfield 36, 3) := by decide +kernel
theorem d4_38 : decode prog_24_method_3_code 38 = .ok (.lconst 1, 1) := by decide +kernel
theorem d4_39 : decode prog_24_method_3_code 39 = .ok (.ladd, 1) := by decide +kernel
theorem d4_40 : decode prog_24_method_3_code 40 = .ok (.putfield 36, 3) := by decide +kernel
theorem d4_43 : decode prog_24_method_3_code 43 = .ok (.lload_n 3, 1) := by decide +kernel
theorem d4_44 : decode prog_24_method_3_code 44 = .ok (.bipush 7, 2) := by decide +kernel
theorem d4_46 : decode prog_24_method_3_code 46 = .ok (.lushr, 1) := by decide +kernel
theorem d4_47 : decode prog_24_method_3_code 47 = .ok (.lstore_n 3, 1) := by decide +kernel
theorem d4_48 : decode prog_24_method_3_code 48 = .ok (.goto (-46), 3) := by decide +kernel
theorem d4_51 : decode prog_24_method_3_code 51 = .ok (.aload_n 0, 1) := by decide +kernel
theorem d4_52 : decode prog_24_method_3_code 52 = .ok (.getfield 24, 3) := by decide +kernel
theorem d4_55 : decode prog_24_method_3_code 55 = .ok (.aload_n 0, 1) := by decide +kernel
theorem d4_56 : decode prog_24_method_3_code 56 = .ok (.getfield 36, 3) := by decide +kernel
theorem d4_59 : decode prog_24_method_3_code 59 = .ok (.aload_n 0, 1) := by decide +kernel
theorem d4_60 : decode prog_24_method_3_code 60 = .ok (.getfield 28, 3) := by decide +kernel
theorem d4_63 : decode prog_24_method_3_code 63 = .ok (.i2l, 1) := by decide +kernel
theorem d4_64 : decode prog_24_method_3_code 64 = .ok (.land, 1) := by decide +kernel
theorem d4_65 : decode prog_24_method_3_code 65 = .ok (.l2i, 1) := by decide +kernel
theorem d4_66 : decode prog_24_method_3_code 66 = .ok (.lload_n 3, 1) := by decide +kernel
theorem d4_67 : decode prog_24_method_3_code 67 = .ok (.l2i, 1) := by decide +kernel
theorem d4_68 : decode prog_24_method_3_code 68 = .ok (.i2b, 1) := by decide +kernel
theorem d4_69 : decode prog_24_method_3_code 69 = .ok (.bastore, 1) := by decide +kernel
theorem d4_70 : decode prog_24_method_3_code 70 = .ok (.aload_n 0, 1) := by decide +kernel
theorem d4_71 : decode prog_24_method_3_code 71 = .ok (.dup, 1) := by decide +kernel
theorem d4_72 : decode prog_24_method_3_code 72 = .ok (.getfield 36, 3) := by decide +kernel
theorem d4_75 : decode prog_24_method_3_code 75 = .ok (.lconst 1, 1) := by decide +kernel
theorem d4_76 : decode prog_24_method_3_code 76 = .ok (.ladd, 1) := by decide +kernel
theorem d4_77 : decode prog_24_method_3_code 77 = .ok (.putfield 36, 3) := by decide +kernel
theorem d4_80 : decode prog_24_method_3_code 80 = .ok (.return_, 1) := by decide +kernel
set_option maxRecDepth 65536 in
set_option maxHeartbeats 40000000 in
theorem lpw {p : Program} {l : Launch} {e : Env} {s : State} {m : MethodId} {args : Array Value} {below : List Frame} {meth : Method} {c : Code} {Z : State} {aq : Array Value} {h0 : Heap} {n0 : Nat} {a1 b1 : Addr} {q1 : Int64} {u_limit u_taking u_freed : Int64} (hx : p.tables.exec = Jvm.exec) (hZ : Z.Warmed39 s.vm) (hw : ∀ d ∈ tables_1, d.before aq Z = true) (hby : c.code = prog_24_method_3_code) (hml : c.maxLocals = 5) (hown : s.vm.findClass "com/example/wee_find/weefind/HeldMatches" = some m.cls) (g_a1 : n0 ≤ a1) (g_b1 : n0 ≤ b1) (ne_b1 : b1 ≠ a1) (k : Nat) :
    ∀ (T0 : State) (locs : List Loc) (hq : Heap) (r w : Nat) (f : Nat → Int32), Stand p l e ({ frames := 0, cells := 0, slots := 0, locals := 0 } : Room) s m args below meth c T0 locs 0 0 → T0.heap = hq → Fr n0 locs → n0 ≤ hq.size → Keep h0 hq [a1, b1] → Exa Z hq a1 "com/example/wee_find/weefind/HeldMatches" → Fld Z hq a1 "com/example/wee_find/weefind/HeldMatches" "bytes" "[B" (.ref b1) → Fld Z hq a1 "com/example/wee_find/weefind/HeldMatches" "mask" "I" (.int (15 : Int32)) → Fld Z hq a1 "com/example/wee_find/weefind/HeldMatches" "limit" "J" (.long u_limit) → Fld Z hq a1 "com/example/wee_find/weefind/HeldMatches" "written" "J" (.long (Int64.ofNat w)) → Fld Z hq a1 "com/example/wee_find/weefind/HeldMatches" "taking" "J" (.long u_taking) → Fld Z hq a1 "com/example/wee_find/weefind/HeldMatches" "freed" "J" (.long u_freed) → own_Ar Z hq b1 .byte 16 f → own_Len k r → r < 2 ^ 63 → w + k < 100 → k ≤ 8 → ∃ (T' : State) (L' : List Loc) (Ls : Array Slot) (f' : Nat → Int32), Stand p l e ({ frames := 0, cells := 0, slots := 0, locals := 0 } : Room) s m args below meth c T' L' 0 0 ∧ Fr n0 L' ∧ n0 ≤ T'.heap.size ∧ Keep h0 T'.heap [a1, b1] ∧ Exa Z T'.heap a1 "com/example/wee_find/weefind/HeldMatches" ∧ Fld Z T'.heap a1 "com/example/wee_find/weefind/HeldMatches" "bytes" "[B" (.ref b1) ∧ Fld Z T'.heap a1 "com/example/wee_find/weefind/HeldMatches" "mask" "I" (.int (15 : Int32)) ∧ Fld Z T'.heap a1 "com/example/wee_find/weefind/HeldMatches" "limit" "J" (.long u_limit) ∧ Fld Z T'.heap a1 "com/example/wee_find/weefind/HeldMatches" "written" "J" (.long (Int64.ofNat (w + k + 1))) ∧ Fld Z T'.heap a1 "com/example/wee_find/weefind/HeldMatches" "taking" "J" (.long u_taking) ∧ Fld Z T'.heap a1 "com/example/wee_find/weefind/HeldMatches" "freed" "J" (.long u_freed) ∧ own_Ar Z T'.heap b1 .byte 16 f' ∧ own_Enc f' k w r ∧ (∀ i, i < 16 → (∀ j, j ≤ k → i ≠ (w + j) % 16) → f' i = f i) ∧ ∀ t, Steps p.tables e below (T'.setTop (mkF m 80 Ls [])) t → Steps p.tables e below (T0.setTop (mkF m 2 #[.val (.ref a1), .val (.long q1), .second, .val (.long (Int64.ofNat r)), .second] [])) t := by
  induction k with
  | zero =>
    intro T0 locs hq r w f X0 e0 N0 Z0 K0 E0 Fb0 Fm0 Flimit0 Fwritten0 Ftaking0 Ffreed0 V0 hlen hr hwk hk8
    have hw1 : w < 128 := by omega
    have pre0 : ∀ t, Steps p.tables e below (T0.setTop (mkF m 2 #[.val (.ref a1), .val (.long q1), .second, .val (.long (Int64.ofNat r)), .second] [])) t → Steps p.tables e below (T0.setTop (mkF m 2 #[.val (.ref a1), .val (.long q1), .second, .val (.long (Int64.ofNat r)), .second] [])) t := fun _ k => k
    obtain ⟨T55, X55, e55, st55⟩ := getF X0 hx hZ hown (host := "") (Or.inl (hw _ (List.mem_of_getElem? (i := 18) rfl))) Via.refl e0 Fb0 (g := (mkF m 52 #[.val (.ref a1), .val (.long q1), .second, .val (.long (Int64.ofNat r)), .second] [(.ref a1)])) rfl rfl (hb hby d4_52)
    obtain ⟨T56, X56, e56, st56⟩ := getF X55 hx hZ hown (host := "") (Or.inl (hw _ (List.mem_of_getElem? (i := 30) rfl))) Via.refl e55 Fwritten0 (g := (mkF m 56 #[.val (.ref a1), .val (.long q1), .second, .val (.long (Int64.ofNat r)), .second] [(.ref a1), (.ref b1)])) rfl rfl (hb hby d4_56)
    obtain ⟨T57, X57, e57, st57⟩ := getF X56 hx hZ hown (host := "") (Or.inl (hw _ (List.mem_of_getElem? (i := 20) rfl))) Via.refl e56 Fm0 (g := (mkF m 60 #[.val (.ref a1), .val (.long q1), .second, .val (.long (Int64.ofNat r)), .second] [(.ref a1), (.long (Int64.ofNat w)), (.ref b1)])) rfl rfl (hb hby d4_60)
    obtain ⟨T58, h58, X58, e58, W58, V58, st58⟩ := own_stB X57 hx hZ e57 V0 (j := (((Int64.ofNat w) &&& ((15 : Int32).toInt64)).toInt32)) (i := (w % 16)) (own_ix hw1) (own_m16 w) (g := (mkF m 69 #[.val (.ref a1), .val (.long q1), .second, .val (.long (Int64.ofNat r)), .second] [(.int (((Int64.ofNat r).toInt32).toInt8.toInt32)), (.int (((Int64.ofNat w) &&& ((15 : Int32).toInt64)).toInt32)), (.ref b1)])) rfl rfl (hb hby d4_69)
    have E59 := E0.wr W58
    have F60 := Fb0.other W58 (Or.inl (Ne.symm ne_b1))
    have F61 := Fm0.other W58 (Or.inl (Ne.symm ne_b1))
    have F62 := Flimit0.other W58 (Or.inl (Ne.symm ne_b1))
    have F63 := Fwritten0.other W58 (Or.inl (Ne.symm ne_b1))
    have F64 := Ftaking0.other W58 (Or.inl (Ne.symm ne_b1))
    have F65 := Ffreed0.other W58 (Or.inl (Ne.symm ne_b1))
    have N66 := Fr.snoc X58 N0 g_b1
    have K67 : Keep h0 h58 [a1, b1] := K0.wr W58 (Or.inl (List.mem_of_getElem? (i := 1) rfl))
    have Z68 : n0 ≤ h58.size := Nat.le_trans Z0 (Keep.of_wr W58).1
    obtain ⟨T69, X69, e69, st69⟩ := getF X58 hx hZ hown (host := "") (Or.inl (hw _ (List.mem_of_getElem? (i := 30) rfl))) Via.refl e58 F63 (g := (mkF m 72 #[.val (.ref a1), .val (.long q1), .second, .val (.long (Int64.ofNat r)), .second] [(.ref a1), (.ref a1)])) rfl rfl (hb hby d4_72)
    obtain ⟨T70, h70, X70, e70, W70, st70⟩ := putF X69 hx hZ hown (host := "") (Or.inl (hw _ (List.mem_of_getElem? (i := 30) rfl))) Via.refl e69 F63 E59 (Or.inl (hw _ (List.mem_of_getElem? (i := 31) rfl))) (hw _ (List.mem_of_getElem? (i := 2) rfl)) (ty := .long) (by decide) rfl rfl (g := (mkF m 77 #[.val (.ref a1), .val (.long q1), .second, .val (.long (Int64.ofNat r)), .second] [(.long ((Int64.ofNat w) + (1 : Int64))), (.ref a1)])) rfl rfl (hb hby d4_77)
    have E71 := E59.wr W70
    have F72 := F60.other W70 (Or.inr (slot_ne (Or.inr (hw _ (List.mem_of_getElem? (i := 19) rfl))) (Or.inl (hw _ (List.mem_of_getElem? (i := 31) rfl))) (by decide) (t := (.array .byte)) (t' := .long) (by decide) (by decide)))
    have F73 := F61.other W70 (Or.inr (slot_ne (Or.inr (hw _ (List.mem_of_getElem? (i := 21) rfl))) (Or.inl (hw _ (List.mem_of_getElem? (i := 31) rfl))) (by decide) (t := .int) (t' := .long) (by decide) (by decide)))
    have F74 := F62.other W70 (Or.inr (slot_ne (Or.inl (hw _ (List.mem_of_getElem? (i := 23) rfl))) (Or.inl (hw _ (List.mem_of_getElem? (i := 31) rfl))) (by decide) (t := .long) (t' := .long) (by decide) (by decide)))
    have F75 : Fld Z h70 a1 "com/example/wee_find/weefind/HeldMatches" "written" "J" (.long ((Int64.ofNat w) + (1 : Int64))) := F63.same W70
    have F76 := F64.other W70 (Or.inr (slot_ne (Or.inl (hw _ (List.mem_of_getElem? (i := 38) rfl))) (Or.inl (hw _ (List.mem_of_getElem? (i := 31) rfl))) (by decide) (t := .long) (t' := .long) (by decide) (by decide)))
    have F77 := F65.other W70 (Or.inr (slot_ne (Or.inl (hw _ (List.mem_of_getElem? (i := 45) rfl))) (Or.inl (hw _ (List.mem_of_getElem? (i := 31) rfl))) (by decide) (t := .long) (t' := .long) (by decide) (by decide)))
    have V78 := V58.other W70 ne_b1
    have N79 := Fr.snoc X70 N66 g_a1
    have K80 : Keep h0 h70 [a1, b1] := K67.wr W70 (Or.inl (List.mem_of_getElem? (i := 0) rfl))
    have Z81 : n0 ≤ h70.size := Nat.le_trans Z68 (Keep.of_wr W70).1
    have pre82 : ∀ t, Steps p.tables e below (T70.setTop (mkF m 80 #[.val (.ref a1), .val (.long q1), .second, .val (.long (Int64.ofNat r)), .second] [])) t → Steps p.tables e below (T0.setTop (mkF m 2 #[.val (.ref a1), .val (.long q1), .second, .val (.long (Int64.ofNat r)), .second] [])) t := fun t kt => by
      refine pre0 _ ?_
      show Steps p.tables e below (T0.setTop (mkF m 2 #[.val (.ref a1), .val (.long q1), .second, .val (.long (Int64.ofNat r)), .second] [])) _
      refine XS.lloadN X0.here hx rfl (hb hby d4_2) rfl ?_
      show Steps p.tables e below (T0.setTop (mkF m 3 #[.val (.ref a1), .val (.long q1), .second, .val (.long (Int64.ofNat r)), .second] [(.long (Int64.ofNat r))])) _
      refine X0.ldc2Long hx hown (mvT hZ (hw _ (List.mem_of_getElem? (i := 29) rfl))) (g := (mkF m 3 #[.val (.ref a1), .val (.long q1), .second, .val (.long (Int64.ofNat r)), .second] [(.long (Int64.ofNat r))])) rfl (hb hby d4_3) _ ?_
      show Steps p.tables e below (T0.setTop (mkF m 6 #[.val (.ref a1), .val (.long q1), .second, .val (.long (Int64.ofNat r)), .second] [(.long (128 : Int64)), (.long (Int64.ofNat r))])) _
      refine XS.lcmp X0.here hx rfl (hb hby d4_6) rfl ?_
      show Steps p.tables e below (T0.setTop (mkF m 7 #[.val (.ref a1), .val (.long q1), .second, .val (.long (Int64.ofNat r)), .second] [(.int (lcmpW (Int64.ofNat r) (128 : Int64)))])) _
      refine XS.ifYes X0.here hx rfl (pc0 := 7) (pc' := 51) rfl (hb hby d4_7) rfl ((if0 _ _).trans (tlt (own_lwL ((own_lt128 hr).mpr hlen))).1) (by decide) (by decide) ?_
      show Steps p.tables e below (T0.setTop (mkF m 51 #[.val (.ref a1), .val (.long q1), .second, .val (.long (Int64.ofNat r)), .second] [])) _
      refine XS.aloadN X0.here hx rfl (hb hby d4_51) rfl rfl ?_
      show Steps p.tables e below (T0.setTop (mkF m 52 #[.val (.ref a1), .val (.long q1), .second, .val (.long (Int64.ofNat r)), .second] [(.ref a1)])) _
      refine st55 _ ?_
      show Steps p.tables e below (T55.setTop (mkF m 55 #[.val (.ref a1), .val (.long q1), .second, .val (.long (Int64.ofNat r)), .second] [(.ref b1)])) _
      refine XS.aloadN X55.here hx rfl (hb hby d4_55) rfl rfl ?_
      show Steps p.tables e below (T55.setTop (mkF m 56 #[.val (.ref a1), .val (.long q1), .second, .val (.long (Int64.ofNat r)), .second] [(.ref a1), (.ref b1)])) _
      refine st56 _ ?_
      show Steps p.tables e below (T56.setTop (mkF m 59 #[.val (.ref a1), .val (.long q1), .second, .val (.long (Int64.ofNat r)), .second] [(.long (Int64.ofNat w)), (.ref b1)])) _
      refine XS.aloadN X56.here hx rfl (hb hby d4_59) rfl rfl ?_
      show Steps p.tables e below (T56.setTop (mkF m 60 #[.val (.ref a1), .val (.long q1), .second, .val (.long (Int64.ofNat r)), .second] [(.ref a1), (.long (Int64.ofNat w)), (.ref b1)])) _
      refine st57 _ ?_
      show Steps p.tables e below (T57.setTop (mkF m 63 #[.val (.ref a1), .val (.long q1), .second, .val (.long (Int64.ofNat r)), .second] [(.int (15 : Int32)), (.long (Int64.ofNat w)), (.ref b1)])) _
      refine XS.i2l X57.here hx rfl (hb hby d4_63) rfl ?_
      show Steps p.tables e below (T57.setTop (mkF m 64 #[.val (.ref a1), .val (.long q1), .second, .val (.long (Int64.ofNat r)), .second] [(.long ((15 : Int32).toInt64)), (.long (Int64.ofNat w)), (.ref b1)])) _
      refine XS.land X57.here hx rfl (hb hby d4_64) rfl ?_
      show Steps p.tables e below (T57.setTop (mkF m 65 #[.val (.ref a1), .val (.long q1), .second, .val (.long (Int64.ofNat r)), .second] [(.long ((Int64.ofNat w) &&& ((15 : Int32).toInt64))), (.ref b1)])) _
      refine XS.l2i X57.here hx rfl (hb hby d4_65) rfl ?_
      show Steps p.tables e below (T57.setTop (mkF m 66 #[.val (.ref a1), .val (.long q1), .second, .val (.long (Int64.ofNat r)), .second] [(.int (((Int64.ofNat w) &&& ((15 : Int32).toInt64)).toInt32)), (.ref b1)])) _
      refine XS.lloadN X57.here hx rfl (hb hby d4_66) rfl ?_
      show Steps p.tables e below (T57.setTop (mkF m 67 #[.val (.ref a1), .val (.long q1), .second, .val (.long (Int64.ofNat r)), .second] [(.long (Int64.ofNat r)), (.int (((Int64.ofNat w) &&& ((15 : Int32).toInt64)).toInt32)), (.ref b1)])) _
      refine XS.l2i X57.here hx rfl (hb hby d4_67) rfl ?_
      show Steps p.tables e below (T57.setTop (mkF m 68 #[.val (.ref a1), .val (.long q1), .second, .val (.long (Int64.ofNat r)), .second] [(.int ((Int64.ofNat r).toInt32)), (.int (((Int64.ofNat w) &&& ((15 : Int32).toInt64)).toInt32)), (.ref b1)])) _
      refine XS.i2b X57.here hx rfl (hb hby d4_68) rfl ?_
      show Steps p.tables e below (T57.setTop (mkF m 69 #[.val (.ref a1), .val (.long q1), .second, .val (.long (Int64.ofNat r)), .second] [(.int (((Int64.ofNat r).toInt32).toInt8.toInt32)), (.int (((Int64.ofNat w) &&& ((15 : Int32).toInt64)).toInt32)), (.ref b1)])) _
      refine st58 _ ?_
      show Steps p.tables e below (T58.setTop (mkF m 70 #[.val (.ref a1), .val (.long q1), .second, .val (.long (Int64.ofNat r)), .second] [])) _
      refine XS.aloadN X58.here hx rfl (hb hby d4_70) rfl rfl ?_
      show Steps p.tables e below (T58.setTop (mkF m 71 #[.val (.ref a1), .val (.long q1), .second, .val (.long (Int64.ofNat r)), .second] [(.ref a1)])) _
      refine XS.dup X58.here hx rfl (hb hby d4_71) rfl rfl ?_
      show Steps p.tables e below (T58.setTop (mkF m 72 #[.val (.ref a1), .val (.long q1), .second, .val (.long (Int64.ofNat r)), .second] [(.ref a1), (.ref a1)])) _
      refine st69 _ ?_
      show Steps p.tables e below (T69.setTop (mkF m 75 #[.val (.ref a1), .val (.long q1), .second, .val (.long (Int64.ofNat r)), .second] [(.long (Int64.ofNat w)), (.ref a1)])) _
      refine XS.lconst X69.here hx rfl (hb hby d4_75) ?_
      show Steps p.tables e below (T69.setTop (mkF m 76 #[.val (.ref a1), .val (.long q1), .second, .val (.long (Int64.ofNat r)), .second] [(.long (1 : Int64)), (.long (Int64.ofNat w)), (.ref a1)])) _
      refine XS.ladd X69.here hx rfl (hb hby d4_76) rfl ?_
      show Steps p.tables e below (T69.setTop (mkF m 77 #[.val (.ref a1), .val (.long q1), .second, .val (.long (Int64.ofNat r)), .second] [(.long ((Int64.ofNat w) + (1 : Int64))), (.ref a1)])) _
      refine st70 _ ?_
      show Steps p.tables e below (T70.setTop (mkF m 80 #[.val (.ref a1), .val (.long q1), .second, .val (.long (Int64.ofNat r)), .second] [])) _
      exact kt
    have hwv : ((Int64.ofNat w) + (1 : Int64)) = Int64.ofNat (w + 0 + 1) := own_w1 w
    refine ⟨_, _, _, _, X70, N79, by rw [e70]; exact Z81, by rw [e70]; exact K80, (by rw [e70]; exact E71), (by rw [e70]; exact F72), (by rw [e70]; exact F73), (by rw [e70]; exact F74), (by rw [e70]; exact own_F (congrArg Value.long hwv) F75), (by rw [e70]; exact F76), (by rw [e70]; exact F77), (by rw [e70]; exact V78), ?_, ?_, pre82⟩
    · exact ⟨hlen, by rw [own_up_self, own_ble hlen]⟩
    · intro i hi hj
      exact own_up_ne f _ (hj 0 (Nat.le_refl _))
  | succ k ih =>
    intro T0 locs hq r w f X0 e0 N0 Z0 K0 E0 Fb0 Fm0 Flimit0 Fwritten0 Ftaking0 Ffreed0 V0 hlen hr hwk hk8
    have hw1 : w < 128 := by omega
    obtain ⟨hge, hlen'⟩ := hlen
    have pre0 : ∀ t, Steps p.tables e below (T0.setTop (mkF m 2 #[.val (.ref a1), .val (.long q1), .second, .val (.long (Int64.ofNat r)), .second] [])) t → Steps p.tables e below (T0.setTop (mkF m 2 #[.val (.ref a1), .val (.long q1), .second, .val (.long (Int64.ofNat r)), .second] [])) t := fun _ k => k
    obtain ⟨T83, X83, e83, st83⟩ := getF X0 hx hZ hown (host := "") (Or.inl (hw _ (List.mem_of_getElem? (i := 18) rfl))) Via.refl e0 Fb0 (g := (mkF m 11 #[.val (.ref a1), .val (.long q1), .second, .val (.long (Int64.ofNat r)), .second] [(.ref a1)])) rfl rfl (hb hby d4_11)
    obtain ⟨T84, X84, e84, st84⟩ := getF X83 hx hZ hown (host := "") (Or.inl (hw _ (List.mem_of_getElem? (i := 30) rfl))) Via.refl e83 Fwritten0 (g := (mkF m 15 #[.val (.ref a1), .val (.long q1), .second, .val (.long (Int64.ofNat r)), .second] [(.ref a1), (.ref b1)])) rfl rfl (hb hby d4_15)
    obtain ⟨T85, X85, e85, st85⟩ := getF X84 hx hZ hown (host := "") (Or.inl (hw _ (List.mem_of_getElem? (i := 20) rfl))) Via.refl e84 Fm0 (g := (mkF m 19 #[.val (.ref a1), .val (.long q1), .second, .val (.long (Int64.ofNat r)), .second] [(.ref a1), (.long (Int64.ofNat w)), (.ref b1)])) rfl rfl (hb hby d4_19)
    obtain ⟨T86, h86, X86, e86, W86, V86, st86⟩ := own_stB X85 hx hZ e85 V0 (j := (((Int64.ofNat w) &&& ((15 : Int32).toInt64)).toInt32)) (i := (w % 16)) (own_ix hw1) (own_m16 w) (g := (mkF m 32 #[.val (.ref a1), .val (.long q1), .second, .val (.long (Int64.ofNat r)), .second] [(.int ((((Int64.ofNat r) ||| (128 : Int64)).toInt32).toInt8.toInt32)), (.int (((Int64.ofNat w) &&& ((15 : Int32).toInt64)).toInt32)), (.ref b1)])) rfl rfl (hb hby d4_32)
    have E87 := E0.wr W86
    have F88 := Fb0.other W86 (Or.inl (Ne.symm ne_b1))
    have F89 := Fm0.other W86 (Or.inl (Ne.symm ne_b1))
    have F90 := Flimit0.other W86 (Or.inl (Ne.symm ne_b1))
    have F91 := Fwritten0.other W86 (Or.inl (Ne.symm ne_b1))
    have F92 := Ftaking0.other W86 (Or.inl (Ne.symm ne_b1))
    have F93 := Ffreed0.other W86 (Or.inl (Ne.symm ne_b1))
    have N94 := Fr.snoc X86 N0 g_b1
    have K95 : Keep h0 h86 [a1, b1] := K0.wr W86 (Or.inl (List.mem_of_getElem? (i := 1) rfl))
    have Z96 : n0 ≤ h86.size := Nat.le_trans Z0 (Keep.of_wr W86).1
    obtain ⟨T97, X97, e97, st97⟩ := getF X86 hx hZ hown (host := "") (Or.inl (hw _ (List.mem_of_getElem? (i := 30) rfl))) Via.refl e86 F91 (g := (mkF m 35 #[.val (.ref a1), .val (.long q1), .second, .val (.long (Int64.ofNat r)), .second] [(.ref a1), (.ref a1)])) rfl rfl (hb hby d4_35)
    obtain ⟨T98, h98, X98, e98, W98, st98⟩ := putF X97 hx hZ hown (host := "") (Or.inl (hw _ (List.mem_of_getElem? (i := 30) rfl))) Via.refl e97 F91 E87 (Or.inl (hw _ (List.mem_of_getElem? (i := 31) rfl))) (hw _ (List.mem_of_getElem? (i := 2) rfl)) (ty := .long) (by decide) rfl rfl (g := (mkF m 40 #[.val (.ref a1), .val (.long q1), .second, .val (.long (Int64.ofNat r)), .second] [(.long ((Int64.ofNat w) + (1 : Int64))), (.ref a1)])) rfl rfl (hb hby d4_40)
    have E99 := E87.wr W98
    have F100 := F88.other W98 (Or.inr (slot_ne (Or.inr (hw _ (List.mem_of_getElem? (i := 19) rfl))) (Or.inl (hw _ (List.mem_of_getElem? (i := 31) rfl))) (by decide) (t := (.array .byte)) (t' := .long) (by decide) (by decide)))
    have F101 := F89.other W98 (Or.inr (slot_ne (Or.inr (hw _ (List.mem_of_getElem? (i := 21) rfl))) (Or.inl (hw _ (List.mem_of_getElem? (i := 31) rfl))) (by decide) (t := .int) (t' := .long) (by decide) (by decide)))
    have F102 := F90.other W98 (Or.inr (slot_ne (Or.inl (hw _ (List.mem_of_getElem? (i := 23) rfl))) (Or.inl (hw _ (List.mem_of_getElem? (i := 31) rfl))) (by decide) (t := .long) (t' := .long) (by decide) (by decide)))
    have F103 : Fld Z h98 a1 "com/example/wee_find/weefind/HeldMatches" "written" "J" (.long ((Int64.ofNat w) + (1 : Int64))) := F91.same W98
    have F104 := F92.other W98 (Or.inr (slot_ne (Or.inl (hw _ (List.mem_of_getElem? (i := 38) rfl))) (Or.inl (hw _ (List.mem_of_getElem? (i := 31) rfl))) (by decide) (t := .long) (t' := .long) (by decide) (by decide)))
    have F105 := F93.other W98 (Or.inr (slot_ne (Or.inl (hw _ (List.mem_of_getElem? (i := 45) rfl))) (Or.inl (hw _ (List.mem_of_getElem? (i := 31) rfl))) (by decide) (t := .long) (t' := .long) (by decide) (by decide)))
    have V106 := V86.other W98 ne_b1
    have N107 := Fr.snoc X98 N94 g_a1
    have K108 : Keep h0 h98 [a1, b1] := K95.wr W98 (Or.inl (List.mem_of_getElem? (i := 0) rfl))
    have Z109 : n0 ≤ h98.size := Nat.le_trans Z96 (Keep.of_wr W98).1
    have pre110 : ∀ t, Steps p.tables e below (T98.setTop (mkF m 2 #[.val (.ref a1), .val (.long q1), .second, .val (.long (((Int64.ofNat r).toUInt64 >>> ((7 : Int32) &&& 0x3f).toInt64.toUInt64).toInt64)), .second] [])) t → Steps p.tables e below (T0.setTop (mkF m 2 #[.val (.ref a1), .val (.long q1), .second, .val (.long (Int64.ofNat r)), .second] [])) t := fun t kt => by
      refine pre0 _ ?_
      show Steps p.tables e below (T0.setTop (mkF m 2 #[.val (.ref a1), .val (.long q1), .second, .val (.long (Int64.ofNat r)), .second] [])) _
      refine XS.lloadN X0.here hx rfl (hb hby d4_2) rfl ?_
      show Steps p.tables e below (T0.setTop (mkF m 3 #[.val (.ref a1), .val (.long q1), .second, .val (.long (Int64.ofNat r)), .second] [(.long (Int64.ofNat r))])) _
      refine X0.ldc2Long hx hown (mvT hZ (hw _ (List.mem_of_getElem? (i := 29) rfl))) (g := (mkF m 3 #[.val (.ref a1), .val (.long q1), .second, .val (.long (Int64.ofNat r)), .second] [(.long (Int64.ofNat r))])) rfl (hb hby d4_3) _ ?_
      show Steps p.tables e below (T0.setTop (mkF m 6 #[.val (.ref a1), .val (.long q1), .second, .val (.long (Int64.ofNat r)), .second] [(.long (128 : Int64)), (.long (Int64.ofNat r))])) _
      refine XS.lcmp X0.here hx rfl (hb hby d4_6) rfl ?_
      show Steps p.tables e below (T0.setTop (mkF m 7 #[.val (.ref a1), .val (.long q1), .second, .val (.long (Int64.ofNat r)), .second] [(.int (lcmpW (Int64.ofNat r) (128 : Int64)))])) _
      refine XS.ifNo X0.here hx rfl (hb hby d4_7) rfl ((if0 _ _).trans (flt (own_lwM (fun q => absurd ((own_lt128 hr).mp q) (by omega)))).1) ?_
      show Steps p.tables e below (T0.setTop (mkF m 10 #[.val (.ref a1), .val (.long q1), .second, .val (.long (Int64.ofNat r)), .second] [])) _
      refine XS.aloadN X0.here hx rfl (hb hby d4_10) rfl rfl ?_
      show Steps p.tables e below (T0.setTop (mkF m 11 #[.val (.ref a1), .val (.long q1), .second, .val (.long (Int64.ofNat r)), .second] [(.ref a1)])) _
      refine st83 _ ?_
      show Steps p.tables e below (T83.setTop (mkF m 14 #[.val (.ref a1), .val (.long q1), .second, .val (.long (Int64.ofNat r)), .second] [(.ref b1)])) _
      refine XS.aloadN X83.here hx rfl (hb hby d4_14) rfl rfl ?_
      show Steps p.tables e below (T83.setTop (mkF m 15 #[.val (.ref a1), .val (.long q1), .second, .val (.long (Int64.ofNat r)), .second] [(.ref a1), (.ref b1)])) _
      refine st84 _ ?_
      show Steps p.tables e below (T84.setTop (mkF m 18 #[.val (.ref a1), .val (.long q1), .second, .val (.long (Int64.ofNat r)), .second] [(.long (Int64.ofNat w)), (.ref b1)])) _
      refine XS.aloadN X84.here hx rfl (hb hby d4_18) rfl rfl ?_
      show Steps p.tables e below (T84.setTop (mkF m 19 #[.val (.ref a1), .val (.long q1), .second, .val (.long (Int64.ofNat r)), .second] [(.ref a1), (.long (Int64.ofNat w)), (.ref b1)])) _
      refine st85 _ ?_
      show Steps p.tables e below (T85.setTop (mkF m 22 #[.val (.ref a1), .val (.long q1), .second, .val (.long (Int64.ofNat r)), .second] [(.int (15 : Int32)), (.long (Int64.ofNat w)), (.ref b1)])) _
      refine XS.i2l X85.here hx rfl (hb hby d4_22) rfl ?_
      show Steps p.tables e below (T85.setTop (mkF m 23 #[.val (.ref a1), .val (.long q1), .second, .val (.long (Int64.ofNat r)), .second] [(.long ((15 : Int32).toInt64)), (.long (Int64.ofNat w)), (.ref b1)])) _
      refine XS.land X85.here hx rfl (hb hby d4_23) rfl ?_
      show Steps p.tables e below (T85.setTop (mkF m 24 #[.val (.ref a1), .val (.long q1), .second, .val (.long (Int64.ofNat r)), .second] [(.long ((Int64.ofNat w) &&& ((15 : Int32).toInt64))), (.ref b1)])) _
      refine XS.l2i X85.here hx rfl (hb hby d4_24) rfl ?_
      show Steps p.tables e below (T85.setTop (mkF m 25 #[.val (.ref a1), .val (.long q1), .second, .val (.long (Int64.ofNat r)), .second] [(.int (((Int64.ofNat w) &&& ((15 : Int32).toInt64)).toInt32)), (.ref b1)])) _
      refine XS.lloadN X85.here hx rfl (hb hby d4_25) rfl ?_
      show Steps p.tables e below (T85.setTop (mkF m 26 #[.val (.ref a1), .val (.long q1), .second, .val (.long (Int64.ofNat r)), .second] [(.long (Int64.ofNat r)), (.int (((Int64.ofNat w) &&& ((15 : Int32).toInt64)).toInt32)), (.ref b1)])) _
      refine X85.ldc2Long hx hown (mvT hZ (hw _ (List.mem_of_getElem? (i := 29) rfl))) (g := (mkF m 26 #[.val (.ref a1), .val (.long q1), .second, .val (.long (Int64.ofNat r)), .second] [(.long (Int64.ofNat r)), (.int (((Int64.ofNat w) &&& ((15 : Int32).toInt64)).toInt32)), (.ref b1)])) rfl (hb hby d4_26) _ ?_
      show Steps p.tables e below (T85.setTop (mkF m 29 #[.val (.ref a1), .val (.long q1), .second, .val (.long (Int64.ofNat r)), .second] [(.long (128 : Int64)), (.long (Int64.ofNat r)), (.int (((Int64.ofNat w) &&& ((15 : Int32).toInt64)).toInt32)), (.ref b1)])) _
      refine XS.lor X85.here hx rfl (hb hby d4_29) rfl ?_
      show Steps p.tables e below (T85.setTop (mkF m 30 #[.val (.ref a1), .val (.long q1), .second, .val (.long (Int64.ofNat r)), .second] [(.long ((Int64.ofNat r) ||| (128 : Int64))), (.int (((Int64.ofNat w) &&& ((15 : Int32).toInt64)).toInt32)), (.ref b1)])) _
      refine XS.l2i X85.here hx rfl (hb hby d4_30) rfl ?_
      show Steps p.tables e below (T85.setTop (mkF m 31 #[.val (.ref a1), .val (.long q1), .second, .val (.long (Int64.ofNat r)), .second] [(.int (((Int64.ofNat r) ||| (128 : Int64)).toInt32)), (.int (((Int64.ofNat w) &&& ((15 : Int32).toInt64)).toInt32)), (.ref b1)])) _
      refine XS.i2b X85.here hx rfl (hb hby d4_31) rfl ?_
      show Steps p.tables e below (T85.setTop (mkF m 32 #[.val (.ref a1), .val (.long q1), .second, .val (.long (Int64.ofNat r)), .second] [(.int ((((Int64.ofNat r) ||| (128 : Int64)).toInt32).toInt8.toInt32)), (.int (((Int64.ofNat w) &&& ((15 : Int32).toInt64)).toInt32)), (.ref b1)])) _
      refine st86 _ ?_
      show Steps p.tables e below (T86.setTop (mkF m 33 #[.val (.ref a1), .val (.long q1), .second, .val (.long (Int64.ofNat r)), .second] [])) _
      refine XS.aloadN X86.here hx rfl (hb hby d4_33) rfl rfl ?_
      show Steps p.tables e below (T86.setTop (mkF m 34 #[.val (.ref a1), .val (.long q1), .second, .val (.long (Int64.ofNat r)), .second] [(.ref a1)])) _
      refine XS.dup X86.here hx rfl (hb hby d4_34) rfl rfl ?_
      show Steps p.tables e below (T86.setTop (mkF m 35 #[.val (.ref a1), .val (.long q1), .second, .val (.long (Int64.ofNat r)), .second] [(.ref a1), (.ref a1)])) _
      refine st97 _ ?_
      show Steps p.tables e below (T97.setTop (mkF m 38 #[.val (.ref a1), .val (.long q1), .second, .val (.long (Int64.ofNat r)), .second] [(.long (Int64.ofNat w)), (.ref a1)])) _
      refine XS.lconst X97.here hx rfl (hb hby d4_38) ?_
      show Steps p.tables e below (T97.setTop (mkF m 39 #[.val (.ref a1), .val (.long q1), .second, .val (.long (Int64.ofNat r)), .second] [(.long (1 : Int64)), (.long (Int64.ofNat w)), (.ref a1)])) _
      refine XS.ladd X97.here hx rfl (hb hby d4_39) rfl ?_
      show Steps p.tables e below (T97.setTop (mkF m 40 #[.val (.ref a1), .val (.long q1), .second, .val (.long (Int64.ofNat r)), .second] [(.long ((Int64.ofNat w) + (1 : Int64))), (.ref a1)])) _
      refine st98 _ ?_
      show Steps p.tables e below (T98.setTop (mkF m 43 #[.val (.ref a1), .val (.long q1), .second, .val (.long (Int64.ofNat r)), .second] [])) _
      refine XS.lloadN X98.here hx rfl (hb hby d4_43) rfl ?_
      show Steps p.tables e below (T98.setTop (mkF m 44 #[.val (.ref a1), .val (.long q1), .second, .val (.long (Int64.ofNat r)), .second] [(.long (Int64.ofNat r))])) _
      refine XS.bipush X98.here hx rfl (hb hby d4_44) ?_
      show Steps p.tables e below (T98.setTop (mkF m 46 #[.val (.ref a1), .val (.long q1), .second, .val (.long (Int64.ofNat r)), .second] [(.int (7 : Int32)), (.long (Int64.ofNat r))])) _
      refine XS.lushr X98.here hx rfl (hb hby d4_46) rfl ?_
      show Steps p.tables e below (T98.setTop (mkF m 47 #[.val (.ref a1), .val (.long q1), .second, .val (.long (Int64.ofNat r)), .second] [(.long (((Int64.ofNat r).toUInt64 >>> ((7 : Int32) &&& 0x3f).toInt64.toUInt64).toInt64))])) _
      refine XS.lstoreN X98.here hx rfl (hb hby d4_47) rfl (l' := #[.val (.ref a1), .val (.long q1), .second, .val (.long (((Int64.ofNat r).toUInt64 >>> ((7 : Int32) &&& 0x3f).toInt64.toUInt64).toInt64)), .second]) rfl ?_
      show Steps p.tables e below (T98.setTop (mkF m 48 #[.val (.ref a1), .val (.long q1), .second, .val (.long (((Int64.ofNat r).toUInt64 >>> ((7 : Int32) &&& 0x3f).toInt64.toUInt64).toInt64)), .second] [])) _
      refine XS.goto X98.here hx rfl (pc0 := 48) (pc' := 2) rfl (hb hby d4_48) (by decide) (by decide) ?_
      show Steps p.tables e below (T98.setTop (mkF m 2 #[.val (.ref a1), .val (.long q1), .second, .val (.long (((Int64.ofNat r).toUInt64 >>> ((7 : Int32) &&& 0x3f).toInt64.toUInt64).toInt64)), .second] [])) _
      exact kt
    have hwv : ((Int64.ofNat w) + (1 : Int64)) = Int64.ofNat (w + 1) := own_w1 w
    have hrv : (((Int64.ofNat r).toUInt64 >>> ((7 : Int32) &&& 0x3f).toInt64.toUInt64).toInt64) = Int64.ofNat (r / 128) := own_shr hr
    obtain ⟨T', L', Ls, f', X', N', Z', K', y0, y1, y2, y3, y4, y5, y6, y7, enc, same, st⟩ := ih T98 _ _ (r / 128) (w + 1) _ X98 e98 N107 Z109 K108 E99 F100 F101 F102 (own_F (congrArg Value.long hwv) F103) F104 F105 V106 hlen' (by omega) (by omega) (by omega)
    rw [← hrv] at st
    have hk : w + 1 + k + 1 = w + (k + 1) + 1 := by omega
    refine ⟨T', L', Ls, f', X', N', Z', K', y0, y1, y2, y3, (hk ▸ y4), y5, y6, y7, ⟨hge, ?_, enc⟩, ?_, fun t kt => pre110 t (st t kt)⟩
    · rw [same (w % 16) (own_m16 w) (fun j hj => by omega), own_up_self, own_bce]
    · intro i hi hj
      rw [same i hi (fun j hjk => by have q := hj (j + 1) (by omega); rw [show w + 1 + j = w + (j + 1) from by omega]; exact q)]
      exact own_up_ne f _ (by have q := hj 0 (by omega); exact q)
theorem ef_4 (m : MethodId) (a0 : Addr) : entryFrame m #[(.ref a0), (.long (Int64.ofNat r))] 5 = mkF m 0 #[.val (.ref a0), .val (.long (Int64.ofNat r)), .second, .unset, .unset] [] := by first | (simp [entryFrame, mkF, argsToLocals, Value.category]; done) | rfl
def Q4 (Z : State) (a0 : Addr) (b1 : Addr) (k : Nat) (r : Nat) (w : Nat) (f : Nat → Int32) (u_limit : Int64) (u_taking : Int64) (u_freed : Int64) (h0 : Heap) (n0 : Nat) (v : Option Value) (h : Heap) (L : List Loc) : Prop := ∃ f' : Nat → Int32, v = none ∧ Fr n0 L ∧ Keep h0 h [a0, b1] ∧ Exa Z h a0 "com/example/wee_find/weefind/HeldMatches" ∧ Fld Z h a0 "com/example/wee_find/weefind/HeldMatches" "bytes" "[B" (.ref b1) ∧ Fld Z h a0 "com/example/wee_find/weefind/HeldMatches" "mask" "I" (.int (15 : Int32)) ∧ Fld Z h a0 "com/example/wee_find/weefind/HeldMatches" "limit" "J" (.long u_limit) ∧ Fld Z h a0 "com/example/wee_find/weefind/HeldMatches" "written" "J" (.long (Int64.ofNat (w + k + 1))) ∧ Fld Z h a0 "com/example/wee_find/weefind/HeldMatches" "taking" "J" (.long u_taking) ∧ Fld Z h a0 "com/example/wee_find/weefind/HeldMatches" "freed" "J" (.long u_freed) ∧ own_Ar Z h b1 .byte 16 f' ∧ own_Enc f' k w r
set_option maxRecDepth 65536 in
set_option maxHeartbeats 40000000 in
theorem rm4 (l : Launch) (Z : State) (aq : Array Value) (hw : ∀ d ∈ tables_1, d.before aq Z = true) (ws : List Jvm.Cond) (a0 : Addr) (b1 : Addr) (k : Nat) (r : Nat) (w : Nat) (f : Nat → Int32) (u_limit : Int64) (u_taking : Int64) (u_freed : Int64) (h0 : Heap) (n0 : Nat) (Z0 : n0 ≤ h0.size) (E_ : Exa Z h0 a0 "com/example/wee_find/weefind/HeldMatches") (Fb_ : Fld Z h0 a0 "com/example/wee_find/weefind/HeldMatches" "bytes" "[B" (.ref b1)) (Fm_ : Fld Z h0 a0 "com/example/wee_find/weefind/HeldMatches" "mask" "I" (.int (15 : Int32))) (Flimit_ : Fld Z h0 a0 "com/example/wee_find/weefind/HeldMatches" "limit" "J" (.long u_limit)) (Fwritten_ : Fld Z h0 a0 "com/example/wee_find/weefind/HeldMatches" "written" "J" (.long (Int64.ofNat w))) (Ftaking_ : Fld Z h0 a0 "com/example/wee_find/weefind/HeldMatches" "taking" "J" (.long u_taking)) (Ffreed_ : Fld Z h0 a0 "com/example/wee_find/weefind/HeldMatches" "freed" "J" (.long u_freed)) (V_ : own_Ar Z h0 b1 .byte 16 f) (g_a0 : n0 ≤ a0) (g_b1 : n0 ≤ b1) (ne_b1 : b1 ≠ a0) (hlen : own_Len k r) (hr : r < 2 ^ 63) (hwk : w + k < 100) (hk8 : k ≤ 8) :
    MetFree l (⟨"com/example/wee_find/weefind/HeldMatches", "write", "(J)V"⟩ : MethodName) (head1 (Jvm.Cond.code (⟨"com/example/wee_find/weefind/HeldMatches", "write", "(J)V"⟩ : MethodName) prog_24_method_3_code 5 none :: ws) ({ frames := 0, cells := 0, slots := 0, locals := 0 } : Room)) (fun a U => a = #[(.ref a0), (.long (Int64.ofNat r))] ∧ Z.Warmed39 U.vm ∧ U.heap = h0) (fun _ _ _ _ _ => True) (fun _ U o U' => ∃ v L, o = .returned v ∧ Q4 Z a0 b1 k r w f u_limit u_taking u_freed h0 n0 v U'.heap L ∧ FrameEnd U o U' L ({ frames := 0, cells := 0, slots := 0, locals := 0 } : Room).cells ({ frames := 0, cells := 0, slots := 0, locals := 0 } : Room).slots) := by
  refine MetFree.of_bodySF (plainFor_of_name pn46195025) hisR ?_
  intro p e s m args below meth c s₁ Bd hml0 hP hK
  obtain ⟨rfl, hZ, hh⟩ := hP
  have hx := Bd.exec
  have hby := Bd.bytes
  have hml : c.maxLocals = 5 := hml0
  have hown : s.vm.findClass "com/example/wee_find/weefind/HeldMatches" = some m.cls := findClass_of_methodNamed Bd.named
  have hnm := (name_of_methodNamed Bd.named Bd.method).1
  have X0 : Stand p l e ({ frames := 0, cells := 0, slots := 0, locals := 0 } : Room) s m #[(.ref a0), (.long (Int64.ofNat r))] below meth c s₁ [] 0 0 := Stand.of_body Bd
  have e0 : s₁.heap = h0 := by rw [← hh, Bd.state]; rfl
  have N0 := Fr.nil n0
  have K0 : Keep h0 h0 [a0, b1] := Keep.refl _ _
  have pre0 : ∀ t, Steps p.tables e below (s₁.setTop (mkF m 0 #[.val (.ref a0), .val (.long (Int64.ofNat r)), .second, .unset, .unset] [])) t → Steps p.tables e below (s₁.setTop (entryFrame m #[(.ref a0), (.long (Int64.ofNat r))] 5)) t := fun t k => castTop (ef_4 m a0) k
  have pre111 : ∀ t, Steps p.tables e below (s₁.setTop (mkF m 2 #[.val (.ref a0), .val (.long (Int64.ofNat r)), .second, .val (.long (Int64.ofNat r)), .second] [])) t → Steps p.tables e below (s₁.setTop (entryFrame m #[(.ref a0), (.long (Int64.ofNat r))] 5)) t := fun t kt => by
    refine pre0 _ ?_
    show Steps p.tables e below (s₁.setTop (mkF m 0 #[.val (.ref a0), .val (.long (Int64.ofNat r)), .second, .unset, .unset] [])) _
    refine XS.lloadN X0.here hx rfl (hb hby d4_0) rfl ?_
    show Steps p.tables e below (s₁.setTop (mkF m 1 #[.val (.ref a0), .val (.long (Int64.ofNat r)), .second, .unset, .unset] [(.long (Int64.ofNat r))])) _
    refine XS.lstoreN X0.here hx rfl (hb hby d4_1) rfl (l' := #[.val (.ref a0), .val (.long (Int64.ofNat r)), .second, .val (.long (Int64.ofNat r)), .second]) rfl ?_
    show Steps p.tables e below (s₁.setTop (mkF m 2 #[.val (.ref a0), .val (.long (Int64.ofNat r)), .second, .val (.long (Int64.ofNat r)), .second] [])) _
    exact kt
  obtain ⟨T', L', Ls, f', X', N', Z', K', y0, y1, y2, y3, y4, y5, y6, y7, enc, -, st⟩ := lpw hx hZ hw hby hml hown g_a0 g_b1 ne_b1 k s₁ _ _ r w f X0 e0 N0 Z0 K0 E_ Fb_ Fm_ Flimit_ Fwritten_ Ftaking_ Ffreed_ V_ hlen hr hwk hk8
  have pre112 : ∀ t, Steps p.tables e below (T'.setTop (mkF m 80 Ls [])) t → Steps p.tables e below (s₁.setTop (entryFrame m #[(.ref a0), (.long (Int64.ofNat r))] 5)) t := fun t kt => pre111 t (st t kt)
  obtain ⟨fs, hr, hrun, hended, hW, hsame⟩ := X'.leave (v := none) (fun _ => rfl)
  refine ⟨_, _, pre112 _ ?_, hrun, hended, _, _, rfl, ?_, ⟨_, rfl⟩, hW, hsame.mono (by decide) (by decide)⟩
  · exact X'.returnOut hx Bd.returns (hb hby d4_80) hr
  · show Q4 Z a0 b1 k r w f u_limit u_taking u_freed h0 n0 _ T'.heap _
    exact ⟨f', rfl, N', K', y0, y1, y2, y3, y4, y5, y6, y7, enc⟩
theorem d5_0 : decode prog_24_method_5_code 0 = .ok (.lconst 0, 1) := by decide +kernel
theorem d5_1 : decode prog_24_method_5_code 1 = .ok (.lstore_n 1, 1) := by decide +kernel
theorem d5_2 : decode prog_24_method_5_code 2 = .ok (.iconst 0, 1) := by decide +kernel
theorem d5_3 : decode prog_24_method_5_code 3 = .ok (.istore_n 3, 1) := by decide +kernel
theorem d5_4 : decode prog_24_method_5_code 4 = .ok (.aload_n 0, 1) := by decide +kernel
theorem d5_5 : decode prog_24_method_5_code 5 = .ok (.getfield 24, 3) := by decide +kernel
theorem d5_8 : decode prog_24_method_5_code 8 = .ok (.aload_n 0, 1) := by decide +kernel
theorem d5_9 : decode prog_24_method_5_code 9 = .ok (.getfield 46, 3) := by decide +kernel
theorem d5_12 : decode prog_24_method_5_code 12 = .ok (.aload_n 0, 1) := by decide +kernel
theorem d5_13 : decode prog_24_method_5_code 13 = .ok (.getfield 28, 3) := by decide +kernel
theorem d5_16 : decode prog_24_method_5_code 16 = .ok (.i2l, 1) := by decide +kernel
theorem d5_17 : decode prog_24_method_5_code 17 = .ok (.land, 1) := by decide +kernel
theorem d5_18 : decode prog_24_method_5_code 18 = .ok (.l2i, 1) := by decide +kernel
theorem d5_19 : decode prog_24_method_5_code 19 = .ok (.baload, 1) := by decide +kernel
theorem d5_20 : decode prog_24_method_5_code 20 = .ok (.istore 4, 2) := by decide +kernel
theorem d5_22 : decode prog_24_method_5_code 22 = .ok (.aload_n 0, 1) := by decide +kernel
theorem d5_23 : decode prog_24_method_5_code 23 = .ok (.dup, 1) := by decide +kernel
theorem d5_24 : decode prog_24_method_5_code 24 = .ok (.getfield 46, 3) := by decide +kernel
theorem d5_27 : decode prog_24_method_5_code 27 = .ok (.lconst 1, 1) := by decide +kernel
theorem d5_28 : decode prog_24_method_5_code 28 = .ok (.ladd, 1) := by decide +kernel
theorem d5_29 : decode prog_24_method_5_code 29 = .ok (.putfield 46, 3) := by decide +kernel
theorem d5_32 : decode prog_24_method_5_code 32 = .ok (.lload_n 1, 1) := by decide +kernel
theorem d5_33 : decode prog_24_method_5_code 33 = .ok (.iload 4, 2) := by decide +kernel
theorem d5_35 : decode prog_24_method_5_code 35 = .ok (.bipush 127, 2) := by decide +kernel
theorem d5_37 : decode prog_24_method_5_code 37 = .ok (.iand, 1) := by decide +kernel
theorem d5_38 : decode prog_24_method_5_code 38 = .ok (.i2l, 1) := by decide +kernel
theorem d5_39 : decode prog_24_method_5_code 39 = .ok (.iload_n 3, 1) := by decide +kernel
theorem d5_40 : decode prog_24_method_5_code 40 = .ok (.lshl, 1) := by decide +kernel
theorem d5_41 : decode prog_24_method_5_code 41 = .ok (.lor, 1) := by decide +kernel
theorem d5_42 : decode prog_24_method_5_code 42 = .ok (.lstore_n 1, 1) := by decide +kernel
theorem d5_43 : decode prog_24_method_5_code 43 = .ok (.iinc 3 7, 3) := by decide +kernel
theorem d5_46 : decode prog_24_method_5_code 46 = .ok (.iload 4, 2) := by decide +kernel
theorem d5_48 : decode prog_24_method_5_code 48 = .ok (.ifCond .lt (-44), 3) := by decide +kernel
theorem d5_51 : decode prog_24_method_5_code 51 = .ok (.lload_n 1, 1) := by decide +kernel
theorem d5_52 : decode prog_24_method_5_code 52 = .ok (.lreturn, 1) := by decide +kernel
set_option maxRecDepth 65536 in
set_option maxHeartbeats 40000000 in
theorem lpt {p : Program} {l : Launch} {e : Env} {s : State} {m : MethodId} {args : Array Value} {below : List Frame} {meth : Method} {c : Code} {Z : State} {aq : Array Value} {h0 : Heap} {n0 : Nat} {a1 b1 : Addr} {u_limit u_written u_freed : Int64} {f : Nat → Int32} (hx : p.tables.exec = Jvm.exec) (hZ : Z.Warmed39 s.vm) (hw : ∀ d ∈ tables_1, d.before aq Z = true) (hby : c.code = prog_24_method_5_code) (hml : c.maxLocals = 5) (hown : s.vm.findClass "com/example/wee_find/weefind/HeldMatches" = some m.cls) (g_a1 : n0 ≤ a1) (ne_b1 : b1 ≠ a1) (k : Nat) :
    ∀ (T0 : State) (locs : List Loc) (hq : Heap) (r w d sh : Nat) (s4 : Slot), Stand p l e ({ frames := 0, cells := 0, slots := 0, locals := 0 } : Room) s m args below meth c T0 locs 0 0 → T0.heap = hq → Fr n0 locs → n0 ≤ hq.size → Keep h0 hq [a1] → Exa Z hq a1 "com/example/wee_find/weefind/HeldMatches" → Fld Z hq a1 "com/example/wee_find/weefind/HeldMatches" "bytes" "[B" (.ref b1) → Fld Z hq a1 "com/example/wee_find/weefind/HeldMatches" "mask" "I" (.int (15 : Int32)) → Fld Z hq a1 "com/example/wee_find/weefind/HeldMatches" "limit" "J" (.long u_limit) → Fld Z hq a1 "com/example/wee_find/weefind/HeldMatches" "written" "J" (.long u_written) → Fld Z hq a1 "com/example/wee_find/weefind/HeldMatches" "taking" "J" (.long (Int64.ofNat w)) → Fld Z hq a1 "com/example/wee_find/weefind/HeldMatches" "freed" "J" (.long u_freed) → own_Ar Z hq b1 .byte 16 f → own_Enc f k w r → One s4 → d < 2 ^ sh → d + r * 2 ^ sh < 2 ^ 63 → sh + 7 * k ≤ 56 → w + k < 100 → ∃ (T' : State) (L' : List Loc) (i3 i4 : Int32), Stand p l e ({ frames := 0, cells := 0, slots := 0, locals := 0 } : Room) s m args below meth c T' L' 0 0 ∧ Fr n0 L' ∧ n0 ≤ T'.heap.size ∧ Keep h0 T'.heap [a1] ∧ Exa Z T'.heap a1 "com/example/wee_find/weefind/HeldMatches" ∧ Fld Z T'.heap a1 "com/example/wee_find/weefind/HeldMatches" "bytes" "[B" (.ref b1) ∧ Fld Z T'.heap a1 "com/example/wee_find/weefind/HeldMatches" "mask" "I" (.int (15 : Int32)) ∧ Fld Z T'.heap a1 "com/example/wee_find/weefind/HeldMatches" "limit" "J" (.long u_limit) ∧ Fld Z T'.heap a1 "com/example/wee_find/weefind/HeldMatches" "written" "J" (.long u_written) ∧ Fld Z T'.heap a1 "com/example/wee_find/weefind/HeldMatches" "taking" "J" (.long (Int64.ofNat (w + k + 1))) ∧ Fld Z T'.heap a1 "com/example/wee_find/weefind/HeldMatches" "freed" "J" (.long u_freed) ∧ own_Ar Z T'.heap b1 .byte 16 f ∧ ∀ t, Steps p.tables e below (T'.setTop (mkF m 51 #[.val (.ref a1), .val (.long (Int64.ofNat (d + r * 2 ^ sh))), .second, .val (.int i3), .val (.int i4)] [])) t → Steps p.tables e below (T0.setTop (mkF m 4 #[.val (.ref a1), .val (.long (Int64.ofNat d)), .second, .val (.int (Int32.ofNat sh)), s4] [])) t := by
  induction k with
  | zero =>
    intro T0 locs hq r w d sh s4 X0 e0 N0 Z0 K0 E0 Fb0 Fm0 Flimit0 Fwritten0 Ftaking0 Ffreed0 V0 enc h4 hd hbd hsh hwk
    have hw1 : w < 128 := by omega
    obtain ⟨hlt, hfv⟩ := enc
    have pre0 : ∀ t, Steps p.tables e below (T0.setTop (mkF m 4 #[.val (.ref a1), .val (.long (Int64.ofNat d)), .second, .val (.int (Int32.ofNat sh)), s4] [])) t → Steps p.tables e below (T0.setTop (mkF m 4 #[.val (.ref a1), .val (.long (Int64.ofNat d)), .second, .val (.int (Int32.ofNat sh)), s4] [])) t := fun _ k => k
    obtain ⟨T113, X113, e113, st113⟩ := getF X0 hx hZ hown (host := "") (Or.inl (hw _ (List.mem_of_getElem? (i := 18) rfl))) Via.refl e0 Fb0 (g := (mkF m 5 #[.val (.ref a1), .val (.long (Int64.ofNat d)), .second, .val (.int (Int32.ofNat sh)), s4] [(.ref a1)])) rfl rfl (hb hby d5_5)
    obtain ⟨T114, X114, e114, st114⟩ := getF X113 hx hZ hown (host := "") (Or.inl (hw _ (List.mem_of_getElem? (i := 37) rfl))) Via.refl e113 Ftaking0 (g := (mkF m 9 #[.val (.ref a1), .val (.long (Int64.ofNat d)), .second, .val (.int (Int32.ofNat sh)), s4] [(.ref a1), (.ref b1)])) rfl rfl (hb hby d5_9)
    obtain ⟨T115, X115, e115, st115⟩ := getF X114 hx hZ hown (host := "") (Or.inl (hw _ (List.mem_of_getElem? (i := 20) rfl))) Via.refl e114 Fm0 (g := (mkF m 13 #[.val (.ref a1), .val (.long (Int64.ofNat d)), .second, .val (.int (Int32.ofNat sh)), s4] [(.ref a1), (.long (Int64.ofNat w)), (.ref b1)])) rfl rfl (hb hby d5_13)
    obtain ⟨T116, X116, e116, st116⟩ := getF X115 hx hZ hown (host := "") (Or.inl (hw _ (List.mem_of_getElem? (i := 37) rfl))) Via.refl e115 Ftaking0 (g := (mkF m 24 #[.val (.ref a1), .val (.long (Int64.ofNat d)), .second, .val (.int (Int32.ofNat sh)), .val (.int (f (w % 16)))] [(.ref a1), (.ref a1)])) rfl rfl (hb hby d5_24)
    obtain ⟨T117, h117, X117, e117, W117, st117⟩ := putF X116 hx hZ hown (host := "") (Or.inl (hw _ (List.mem_of_getElem? (i := 37) rfl))) Via.refl e116 Ftaking0 E0 (Or.inl (hw _ (List.mem_of_getElem? (i := 38) rfl))) (hw _ (List.mem_of_getElem? (i := 2) rfl)) (ty := .long) (by decide) rfl rfl (g := (mkF m 29 #[.val (.ref a1), .val (.long (Int64.ofNat d)), .second, .val (.int (Int32.ofNat sh)), .val (.int (f (w % 16)))] [(.long ((Int64.ofNat w) + (1 : Int64))), (.ref a1)])) rfl rfl (hb hby d5_29)
    have E118 := E0.wr W117
    have F119 := Fb0.other W117 (Or.inr (slot_ne (Or.inr (hw _ (List.mem_of_getElem? (i := 19) rfl))) (Or.inl (hw _ (List.mem_of_getElem? (i := 38) rfl))) (by decide) (t := (.array .byte)) (t' := .long) (by decide) (by decide)))
    have F120 := Fm0.other W117 (Or.inr (slot_ne (Or.inr (hw _ (List.mem_of_getElem? (i := 21) rfl))) (Or.inl (hw _ (List.mem_of_getElem? (i := 38) rfl))) (by decide) (t := .int) (t' := .long) (by decide) (by decide)))
    have F121 := Flimit0.other W117 (Or.inr (slot_ne (Or.inl (hw _ (List.mem_of_getElem? (i := 23) rfl))) (Or.inl (hw _ (List.mem_of_getElem? (i := 38) rfl))) (by decide) (t := .long) (t' := .long) (by decide) (by decide)))
    have F122 := Fwritten0.other W117 (Or.inr (slot_ne (Or.inl (hw _ (List.mem_of_getElem? (i := 31) rfl))) (Or.inl (hw _ (List.mem_of_getElem? (i := 38) rfl))) (by decide) (t := .long) (t' := .long) (by decide) (by decide)))
    have F123 : Fld Z h117 a1 "com/example/wee_find/weefind/HeldMatches" "taking" "J" (.long ((Int64.ofNat w) + (1 : Int64))) := Ftaking0.same W117
    have F124 := Ffreed0.other W117 (Or.inr (slot_ne (Or.inl (hw _ (List.mem_of_getElem? (i := 45) rfl))) (Or.inl (hw _ (List.mem_of_getElem? (i := 38) rfl))) (by decide) (t := .long) (t' := .long) (by decide) (by decide)))
    have V125 := V0.other W117 ne_b1
    have N126 := Fr.snoc X117 N0 g_a1
    have K127 : Keep h0 h117 [a1] := K0.wr W117 (Or.inl (List.mem_of_getElem? (i := 0) rfl))
    have Z128 : n0 ≤ h117.size := Nat.le_trans Z0 (Keep.of_wr W117).1
    have pre129 : ∀ t, Steps p.tables e below (T117.setTop (mkF m 51 #[.val (.ref a1), .val (.long ((Int64.ofNat d) ||| ((((f (w % 16)) &&& (127 : Int32)).toInt64) <<< ((Int32.ofNat sh) &&& 0x3f).toInt64))), .second, .val (.int ((Int32.ofNat sh) + (7 : Int32))), .val (.int (f (w % 16)))] [])) t → Steps p.tables e below (T0.setTop (mkF m 4 #[.val (.ref a1), .val (.long (Int64.ofNat d)), .second, .val (.int (Int32.ofNat sh)), s4] [])) t := fun t kt => by
      refine pre0 _ ?_
      show Steps p.tables e below (T0.setTop (mkF m 4 #[.val (.ref a1), .val (.long (Int64.ofNat d)), .second, .val (.int (Int32.ofNat sh)), s4] [])) _
      refine XS.aloadN X0.here hx rfl (hb hby d5_4) rfl rfl ?_
      show Steps p.tables e below (T0.setTop (mkF m 5 #[.val (.ref a1), .val (.long (Int64.ofNat d)), .second, .val (.int (Int32.ofNat sh)), s4] [(.ref a1)])) _
      refine st113 _ ?_
      show Steps p.tables e below (T113.setTop (mkF m 8 #[.val (.ref a1), .val (.long (Int64.ofNat d)), .second, .val (.int (Int32.ofNat sh)), s4] [(.ref b1)])) _
      refine XS.aloadN X113.here hx rfl (hb hby d5_8) rfl rfl ?_
      show Steps p.tables e below (T113.setTop (mkF m 9 #[.val (.ref a1), .val (.long (Int64.ofNat d)), .second, .val (.int (Int32.ofNat sh)), s4] [(.ref a1), (.ref b1)])) _
      refine st114 _ ?_
      show Steps p.tables e below (T114.setTop (mkF m 12 #[.val (.ref a1), .val (.long (Int64.ofNat d)), .second, .val (.int (Int32.ofNat sh)), s4] [(.long (Int64.ofNat w)), (.ref b1)])) _
      refine XS.aloadN X114.here hx rfl (hb hby d5_12) rfl rfl ?_
      show Steps p.tables e below (T114.setTop (mkF m 13 #[.val (.ref a1), .val (.long (Int64.ofNat d)), .second, .val (.int (Int32.ofNat sh)), s4] [(.ref a1), (.long (Int64.ofNat w)), (.ref b1)])) _
      refine st115 _ ?_
      show Steps p.tables e below (T115.setTop (mkF m 16 #[.val (.ref a1), .val (.long (Int64.ofNat d)), .second, .val (.int (Int32.ofNat sh)), s4] [(.int (15 : Int32)), (.long (Int64.ofNat w)), (.ref b1)])) _
      refine XS.i2l X115.here hx rfl (hb hby d5_16) rfl ?_
      show Steps p.tables e below (T115.setTop (mkF m 17 #[.val (.ref a1), .val (.long (Int64.ofNat d)), .second, .val (.int (Int32.ofNat sh)), s4] [(.long ((15 : Int32).toInt64)), (.long (Int64.ofNat w)), (.ref b1)])) _
      refine XS.land X115.here hx rfl (hb hby d5_17) rfl ?_
      show Steps p.tables e below (T115.setTop (mkF m 18 #[.val (.ref a1), .val (.long (Int64.ofNat d)), .second, .val (.int (Int32.ofNat sh)), s4] [(.long ((Int64.ofNat w) &&& ((15 : Int32).toInt64))), (.ref b1)])) _
      refine XS.l2i X115.here hx rfl (hb hby d5_18) rfl ?_
      show Steps p.tables e below (T115.setTop (mkF m 19 #[.val (.ref a1), .val (.long (Int64.ofNat d)), .second, .val (.int (Int32.ofNat sh)), s4] [(.int (((Int64.ofNat w) &&& ((15 : Int32).toInt64)).toInt32)), (.ref b1)])) _
      refine own_rdB X115 hx hZ e115 V0 (j := (((Int64.ofNat w) &&& ((15 : Int32).toInt64)).toInt32)) (i := (w % 16)) (own_ix hw1) (own_m16 w) (g := (mkF m 19 #[.val (.ref a1), .val (.long (Int64.ofNat d)), .second, .val (.int (Int32.ofNat sh)), s4] [(.int (((Int64.ofNat w) &&& ((15 : Int32).toInt64)).toInt32)), (.ref b1)])) rfl rfl (hb hby d5_19) _ ?_
      show Steps p.tables e below (T115.setTop (mkF m 20 #[.val (.ref a1), .val (.long (Int64.ofNat d)), .second, .val (.int (Int32.ofNat sh)), s4] [(.int (f (w % 16)))])) _
      refine XS.istore X115.here hx rfl (hb hby d5_20) rfl (l' := #[.val (.ref a1), .val (.long (Int64.ofNat d)), .second, .val (.int (Int32.ofNat sh)), .val (.int (f (w % 16)))]) (own_os h4) ?_
      show Steps p.tables e below (T115.setTop (mkF m 22 #[.val (.ref a1), .val (.long (Int64.ofNat d)), .second, .val (.int (Int32.ofNat sh)), .val (.int (f (w % 16)))] [])) _
      refine XS.aloadN X115.here hx rfl (hb hby d5_22) rfl rfl ?_
      show Steps p.tables e below (T115.setTop (mkF m 23 #[.val (.ref a1), .val (.long (Int64.ofNat d)), .second, .val (.int (Int32.ofNat sh)), .val (.int (f (w % 16)))] [(.ref a1)])) _
      refine XS.dup X115.here hx rfl (hb hby d5_23) rfl rfl ?_
      show Steps p.tables e below (T115.setTop (mkF m 24 #[.val (.ref a1), .val (.long (Int64.ofNat d)), .second, .val (.int (Int32.ofNat sh)), .val (.int (f (w % 16)))] [(.ref a1), (.ref a1)])) _
      refine st116 _ ?_
      show Steps p.tables e below (T116.setTop (mkF m 27 #[.val (.ref a1), .val (.long (Int64.ofNat d)), .second, .val (.int (Int32.ofNat sh)), .val (.int (f (w % 16)))] [(.long (Int64.ofNat w)), (.ref a1)])) _
      refine XS.lconst X116.here hx rfl (hb hby d5_27) ?_
      show Steps p.tables e below (T116.setTop (mkF m 28 #[.val (.ref a1), .val (.long (Int64.ofNat d)), .second, .val (.int (Int32.ofNat sh)), .val (.int (f (w % 16)))] [(.long (1 : Int64)), (.long (Int64.ofNat w)), (.ref a1)])) _
      refine XS.ladd X116.here hx rfl (hb hby d5_28) rfl ?_
      show Steps p.tables e below (T116.setTop (mkF m 29 #[.val (.ref a1), .val (.long (Int64.ofNat d)), .second, .val (.int (Int32.ofNat sh)), .val (.int (f (w % 16)))] [(.long ((Int64.ofNat w) + (1 : Int64))), (.ref a1)])) _
      refine st117 _ ?_
      show Steps p.tables e below (T117.setTop (mkF m 32 #[.val (.ref a1), .val (.long (Int64.ofNat d)), .second, .val (.int (Int32.ofNat sh)), .val (.int (f (w % 16)))] [])) _
      refine XS.lloadN X117.here hx rfl (hb hby d5_32) rfl ?_
      show Steps p.tables e below (T117.setTop (mkF m 33 #[.val (.ref a1), .val (.long (Int64.ofNat d)), .second, .val (.int (Int32.ofNat sh)), .val (.int (f (w % 16)))] [(.long (Int64.ofNat d))])) _
      refine XS.iload X117.here hx rfl (hb hby d5_33) rfl ?_
      show Steps p.tables e below (T117.setTop (mkF m 35 #[.val (.ref a1), .val (.long (Int64.ofNat d)), .second, .val (.int (Int32.ofNat sh)), .val (.int (f (w % 16)))] [(.int (f (w % 16))), (.long (Int64.ofNat d))])) _
      refine XS.bipush X117.here hx rfl (hb hby d5_35) ?_
      show Steps p.tables e below (T117.setTop (mkF m 37 #[.val (.ref a1), .val (.long (Int64.ofNat d)), .second, .val (.int (Int32.ofNat sh)), .val (.int (f (w % 16)))] [(.int (127 : Int32)), (.int (f (w % 16))), (.long (Int64.ofNat d))])) _
      refine XS.iand X117.here hx rfl (hb hby d5_37) rfl ?_
      show Steps p.tables e below (T117.setTop (mkF m 38 #[.val (.ref a1), .val (.long (Int64.ofNat d)), .second, .val (.int (Int32.ofNat sh)), .val (.int (f (w % 16)))] [(.int ((f (w % 16)) &&& (127 : Int32))), (.long (Int64.ofNat d))])) _
      refine XS.i2l X117.here hx rfl (hb hby d5_38) rfl ?_
      show Steps p.tables e below (T117.setTop (mkF m 39 #[.val (.ref a1), .val (.long (Int64.ofNat d)), .second, .val (.int (Int32.ofNat sh)), .val (.int (f (w % 16)))] [(.long (((f (w % 16)) &&& (127 : Int32)).toInt64)), (.long (Int64.ofNat d))])) _
      refine XS.iloadN X117.here hx rfl (hb hby d5_39) rfl ?_
      show Steps p.tables e below (T117.setTop (mkF m 40 #[.val (.ref a1), .val (.long (Int64.ofNat d)), .second, .val (.int (Int32.ofNat sh)), .val (.int (f (w % 16)))] [(.int (Int32.ofNat sh)), (.long (((f (w % 16)) &&& (127 : Int32)).toInt64)), (.long (Int64.ofNat d))])) _
      refine XS.lshl X117.here hx rfl (hb hby d5_40) rfl ?_
      show Steps p.tables e below (T117.setTop (mkF m 41 #[.val (.ref a1), .val (.long (Int64.ofNat d)), .second, .val (.int (Int32.ofNat sh)), .val (.int (f (w % 16)))] [(.long ((((f (w % 16)) &&& (127 : Int32)).toInt64) <<< ((Int32.ofNat sh) &&& 0x3f).toInt64)), (.long (Int64.ofNat d))])) _
      refine XS.lor X117.here hx rfl (hb hby d5_41) rfl ?_
      show Steps p.tables e below (T117.setTop (mkF m 42 #[.val (.ref a1), .val (.long (Int64.ofNat d)), .second, .val (.int (Int32.ofNat sh)), .val (.int (f (w % 16)))] [(.long ((Int64.ofNat d) ||| ((((f (w % 16)) &&& (127 : Int32)).toInt64) <<< ((Int32.ofNat sh) &&& 0x3f).toInt64)))])) _
      refine XS.lstoreN X117.here hx rfl (hb hby d5_42) rfl (l' := #[.val (.ref a1), .val (.long ((Int64.ofNat d) ||| ((((f (w % 16)) &&& (127 : Int32)).toInt64) <<< ((Int32.ofNat sh) &&& 0x3f).toInt64))), .second, .val (.int (Int32.ofNat sh)), .val (.int (f (w % 16)))]) rfl ?_
      show Steps p.tables e below (T117.setTop (mkF m 43 #[.val (.ref a1), .val (.long ((Int64.ofNat d) ||| ((((f (w % 16)) &&& (127 : Int32)).toInt64) <<< ((Int32.ofNat sh) &&& 0x3f).toInt64))), .second, .val (.int (Int32.ofNat sh)), .val (.int (f (w % 16)))] [])) _
      refine XS.iinc X117.here hx rfl (hb hby d5_43) rfl (l' := #[.val (.ref a1), .val (.long ((Int64.ofNat d) ||| ((((f (w % 16)) &&& (127 : Int32)).toInt64) <<< ((Int32.ofNat sh) &&& 0x3f).toInt64))), .second, .val (.int ((Int32.ofNat sh) + (7 : Int32))), .val (.int (f (w % 16)))]) rfl ?_
      show Steps p.tables e below (T117.setTop (mkF m 46 #[.val (.ref a1), .val (.long ((Int64.ofNat d) ||| ((((f (w % 16)) &&& (127 : Int32)).toInt64) <<< ((Int32.ofNat sh) &&& 0x3f).toInt64))), .second, .val (.int ((Int32.ofNat sh) + (7 : Int32))), .val (.int (f (w % 16)))] [])) _
      refine XS.iload X117.here hx rfl (hb hby d5_46) rfl ?_
      show Steps p.tables e below (T117.setTop (mkF m 48 #[.val (.ref a1), .val (.long ((Int64.ofNat d) ||| ((((f (w % 16)) &&& (127 : Int32)).toInt64) <<< ((Int32.ofNat sh) &&& 0x3f).toInt64))), .second, .val (.int ((Int32.ofNat sh) + (7 : Int32))), .val (.int (f (w % 16)))] [(.int (f (w % 16)))])) _
      refine XS.ifNo X117.here hx rfl (hb hby d5_48) rfl ((if0 _ _).trans (flt (by rw [hfv]; exact own_bl0 hlt)).1) ?_
      show Steps p.tables e below (T117.setTop (mkF m 51 #[.val (.ref a1), .val (.long ((Int64.ofNat d) ||| ((((f (w % 16)) &&& (127 : Int32)).toInt64) <<< ((Int32.ofNat sh) &&& 0x3f).toInt64))), .second, .val (.int ((Int32.ofNat sh) + (7 : Int32))), .val (.int (f (w % 16)))] [])) _
      exact kt
    have hdv : ((Int64.ofNat d) ||| ((((f (w % 16)) &&& (127 : Int32)).toInt64) <<< ((Int32.ofNat sh) &&& 0x3f).toInt64)) = Int64.ofNat (d + r * 2 ^ sh) := by rw [hfv, own_bl127 hlt, own_shl (by omega) (by omega), own_or hd]
    have htv : ((Int64.ofNat w) + (1 : Int64)) = Int64.ofNat (w + 0 + 1) := own_w1 w
    refine ⟨_, _, _, _, X117, N126, by rw [e117]; exact Z128, by rw [e117]; exact K127, (by rw [e117]; exact E118), (by rw [e117]; exact F119), (by rw [e117]; exact F120), (by rw [e117]; exact F121), (by rw [e117]; exact F122), (by rw [e117]; exact own_F (congrArg Value.long htv) F123), (by rw [e117]; exact F124), (by rw [e117]; exact V125), fun t kt => pre129 t (by rw [hdv]; exact kt)⟩
  | succ k ih =>
    intro T0 locs hq r w d sh s4 X0 e0 N0 Z0 K0 E0 Fb0 Fm0 Flimit0 Fwritten0 Ftaking0 Ffreed0 V0 enc h4 hd hbd hsh hwk
    have hw1 : w < 128 := by omega
    obtain ⟨hge, hfv, enc'⟩ := enc
    have pre0 : ∀ t, Steps p.tables e below (T0.setTop (mkF m 4 #[.val (.ref a1), .val (.long (Int64.ofNat d)), .second, .val (.int (Int32.ofNat sh)), s4] [])) t → Steps p.tables e below (T0.setTop (mkF m 4 #[.val (.ref a1), .val (.long (Int64.ofNat d)), .second, .val (.int (Int32.ofNat sh)), s4] [])) t := fun _ k => k
    obtain ⟨T130, X130, e130, st130⟩ := getF X0 hx hZ hown (host := "") (Or.inl (hw _ (List.mem_of_getElem? (i := 18) rfl))) Via.refl e0 Fb0 (g := (mkF m 5 #[.val (.ref a1), .val (.long (Int64.ofNat d)), .second, .val (.int (Int32.ofNat sh)), s4] [(.ref a1)])) rfl rfl (hb hby d5_5)
    obtain ⟨T131, X131, e131, st131⟩ := getF X130 hx hZ hown (host := "") (Or.inl (hw _ (List.mem_of_getElem? (i := 37) rfl))) Via.refl e130 Ftaking0 (g := (mkF m 9 #[.val (.ref a1), .val (.long (Int64.ofNat d)), .second, .val (.int (Int32.ofNat sh)), s4] [(.ref a1), (.ref b1)])) rfl rfl (hb hby d5_9)
    obtain ⟨T132, X132, e132, st132⟩ := getF X131 hx hZ hown (host := "") (Or.inl (hw _ (List.mem_of_getElem? (i := 20) rfl))) Via.refl e131 Fm0 (g := (mkF m 13 #[.val (.ref a1), .val (.long (Int64.ofNat d)), .second, .val (.int (Int32.ofNat sh)), s4] [(.ref a1), (.long (Int64.ofNat w)), (.ref b1)])) rfl rfl (hb hby d5_13)
    obtain ⟨T133, X133, e133, st133⟩ := getF X132 hx hZ hown (host := "") (Or.inl (hw _ (List.mem_of_getElem? (i := 37) rfl))) Via.refl e132 Ftaking0 (g := (mkF m 24 #[.val (.ref a1), .val (.long (Int64.ofNat d)), .second, .val (.int (Int32.ofNat sh)), .val (.int (f (w % 16)))] [(.ref a1), (.ref a1)])) rfl rfl (hb hby d5_24)
    obtain ⟨T134, h134, X134, e134, W134, st134⟩ := putF X133 hx hZ hown (host := "") (Or.inl (hw _ (List.mem_of_getElem? (i := 37) rfl))) Via.refl e133 Ftaking0 E0 (Or.inl (hw _ (List.mem_of_getElem? (i := 38) rfl))) (hw _ (List.mem_of_getElem? (i := 2) rfl)) (ty := .long) (by decide) rfl rfl (g := (mkF m 29 #[.val (.ref a1), .val (.long (Int64.ofNat d)), .second, .val (.int (Int32.ofNat sh)), .val (.int (f (w % 16)))] [(.long ((Int64.ofNat w) + (1 : Int64))), (.ref a1)])) rfl rfl (hb hby d5_29)
    have E135 := E0.wr W134
    have F136 := Fb0.other W134 (Or.inr (slot_ne (Or.inr (hw _ (List.mem_of_getElem? (i := 19) rfl))) (Or.inl (hw _ (List.mem_of_getElem? (i := 38) rfl))) (by decide) (t := (.array .byte)) (t' := .long) (by decide) (by decide)))
    have F137 := Fm0.other W134 (Or.inr (slot_ne (Or.inr (hw _ (List.mem_of_getElem? (i := 21) rfl))) (Or.inl (hw _ (List.mem_of_getElem? (i := 38) rfl))) (by decide) (t := .int) (t' := .long) (by decide) (by decide)))
    have F138 := Flimit0.other W134 (Or.inr (slot_ne (Or.inl (hw _ (List.mem_of_getElem? (i := 23) rfl))) (Or.inl (hw _ (List.mem_of_getElem? (i := 38) rfl))) (by decide) (t := .long) (t' := .long) (by decide) (by decide)))
    have F139 := Fwritten0.other W134 (Or.inr (slot_ne (Or.inl (hw _ (List.mem_of_getElem? (i := 31) rfl))) (Or.inl (hw _ (List.mem_of_getElem? (i := 38) rfl))) (by decide) (t := .long) (t' := .long) (by decide) (by decide)))
    have F140 : Fld Z h134 a1 "com/example/wee_find/weefind/HeldMatches" "taking" "J" (.long ((Int64.ofNat w) + (1 : Int64))) := Ftaking0.same W134
    have F141 := Ffreed0.other W134 (Or.inr (slot_ne (Or.inl (hw _ (List.mem_of_getElem? (i := 45) rfl))) (Or.inl (hw _ (List.mem_of_getElem? (i := 38) rfl))) (by decide) (t := .long) (t' := .long) (by decide) (by decide)))
    have V142 := V0.other W134 ne_b1
    have N143 := Fr.snoc X134 N0 g_a1
    have K144 : Keep h0 h134 [a1] := K0.wr W134 (Or.inl (List.mem_of_getElem? (i := 0) rfl))
    have Z145 : n0 ≤ h134.size := Nat.le_trans Z0 (Keep.of_wr W134).1
    have pre146 : ∀ t, Steps p.tables e below (T134.setTop (mkF m 4 #[.val (.ref a1), .val (.long ((Int64.ofNat d) ||| ((((f (w % 16)) &&& (127 : Int32)).toInt64) <<< ((Int32.ofNat sh) &&& 0x3f).toInt64))), .second, .val (.int ((Int32.ofNat sh) + (7 : Int32))), .val (.int (f (w % 16)))] [])) t → Steps p.tables e below (T0.setTop (mkF m 4 #[.val (.ref a1), .val (.long (Int64.ofNat d)), .second, .val (.int (Int32.ofNat sh)), s4] [])) t := fun t kt => by
      refine pre0 _ ?_
      show Steps p.tables e below (T0.setTop (mkF m 4 #[.val (.ref a1), .val (.long (Int64.ofNat d)), .second, .val (.int (Int32.ofNat sh)), s4] [])) _
      refine XS.aloadN X0.here hx rfl (hb hby d5_4) rfl rfl ?_
      show Steps p.tables e below (T0.setTop (mkF m 5 #[.val (.ref a1), .val (.long (Int64.ofNat d)), .second, .val (.int (Int32.ofNat sh)), s4] [(.ref a1)])) _
      refine st130 _ ?_
      show Steps p.tables e below (T130.setTop (mkF m 8 #[.val (.ref a1), .val (.long (Int64.ofNat d)), .second, .val (.int (Int32.ofNat sh)), s4] [(.ref b1)])) _
      refine XS.aloadN X130.here hx rfl (hb hby d5_8) rfl rfl ?_
      show Steps p.tables e below (T130.setTop (mkF m 9 #[.val (.ref a1), .val (.long (Int64.ofNat d)), .second, .val (.int (Int32.ofNat sh)), s4] [(.ref a1), (.ref b1)])) _
      refine st131 _ ?_
      show Steps p.tables e below (T131.setTop (mkF m 12 #[.val (.ref a1), .val (.long (Int64.ofNat d)), .second, .val (.int (Int32.ofNat sh)), s4] [(.long (Int64.ofNat w)), (.ref b1)])) _
      refine XS.aloadN X131.here hx rfl (hb hby d5_12) rfl rfl ?_
      show Steps p.tables e below (T131.setTop (mkF m 13 #[.val (.ref a1), .val (.long (Int64.ofNat d)), .second, .val (.int (Int32.ofNat sh)), s4] [(.ref a1), (.long (Int64.ofNat w)), (.ref b1)])) _
      refine st132 _ ?_
      show Steps p.tables e below (T132.setTop (mkF m 16 #[.val (.ref a1), .val (.long (Int64.ofNat d)), .second, .val (.int (Int32.ofNat sh)), s4] [(.int (15 : Int32)), (.long (Int64.ofNat w)), (.ref b1)])) _
      refine XS.i2l X132.here hx rfl (hb hby d5_16) rfl ?_
      show Steps p.tables e below (T132.setTop (mkF m 17 #[.val (.ref a1), .val (.long (Int64.ofNat d)), .second, .val (.int (Int32.ofNat sh)), s4] [(.long ((15 : Int32).toInt64)), (.long (Int64.ofNat w)), (.ref b1)])) _
      refine XS.land X132.here hx rfl (hb hby d5_17) rfl ?_
      show Steps p.tables e below (T132.setTop (mkF m 18 #[.val (.ref a1), .val (.long (Int64.ofNat d)), .second, .val (.int (Int32.ofNat sh)), s4] [(.long ((Int64.ofNat w) &&& ((15 : Int32).toInt64))), (.ref b1)])) _
      refine XS.l2i X132.here hx rfl (hb hby d5_18) rfl ?_
      show Steps p.tables e below (T132.setTop (mkF m 19 #[.val (.ref a1), .val (.long (Int64.ofNat d)), .second, .val (.int (Int32.ofNat sh)), s4] [(.int (((Int64.ofNat w) &&& ((15 : Int32).toInt64)).toInt32)), (.ref b1)])) _
      refine own_rdB X132 hx hZ e132 V0 (j := (((Int64.ofNat w) &&& ((15 : Int32).toInt64)).toInt32)) (i := (w % 16)) (own_ix hw1) (own_m16 w) (g := (mkF m 19 #[.val (.ref a1), .val (.long (Int64.ofNat d)), .second, .val (.int (Int32.ofNat sh)), s4] [(.int (((Int64.ofNat w) &&& ((15 : Int32).toInt64)).toInt32)), (.ref b1)])) rfl rfl (hb hby d5_19) _ ?_
      show Steps p.tables e below (T132.setTop (mkF m 20 #[.val (.ref a1), .val (.long (Int64.ofNat d)), .second, .val (.int (Int32.ofNat sh)), s4] [(.int (f (w % 16)))])) _
      refine XS.istore X132.here hx rfl (hb hby d5_20) rfl (l' := #[.val (.ref a1), .val (.long (Int64.ofNat d)), .second, .val (.int (Int32.ofNat sh)), .val (.int (f (w % 16)))]) (own_os h4) ?_
      show Steps p.tables e below (T132.setTop (mkF m 22 #[.val (.ref a1), .val (.long (Int64.ofNat d)), .second, .val (.int (Int32.ofNat sh)), .val (.int (f (w % 16)))] [])) _
      refine XS.aloadN X132.here hx rfl (hb hby d5_22) rfl rfl ?_
      show Steps p.tables e below (T132.setTop (mkF m 23 #[.val (.ref a1), .val (.long (Int64.ofNat d)), .second, .val (.int (Int32.ofNat sh)), .val (.int (f (w % 16)))] [(.ref a1)])) _
      refine XS.dup X132.here hx rfl (hb hby d5_23) rfl rfl ?_
      show Steps p.tables e below (T132.setTop (mkF m 24 #[.val (.ref a1), .val (.long (Int64.ofNat d)), .second, .val (.int (Int32.ofNat sh)), .val (.int (f (w % 16)))] [(.ref a1), (.ref a1)])) _
      refine st133 _ ?_
      show Steps p.tables e below (T133.setTop (mkF m 27 #[.val (.ref a1), .val (.long (Int64.ofNat d)), .second, .val (.int (Int32.ofNat sh)), .val (.int (f (w % 16)))] [(.long (Int64.ofNat w)), (.ref a1)])) _
      refine XS.lconst X133.here hx rfl (hb hby d5_27) ?_
      show Steps p.tables e below (T133.setTop (mkF m 28 #[.val (.ref a1), .val (.long (Int64.ofNat d)), .second, .val (.int (Int32.ofNat sh)), .val (.int (f (w % 16)))] [(.long (1 : Int64)), (.long (Int64.ofNat w)), (.ref a1)])) _
      refine XS.ladd X133.here hx rfl (hb hby d5_28) rfl ?_
      show Steps p.tables e below (T133.setTop (mkF m 29 #[.val (.ref a1), .val (.long (Int64.ofNat d)), .second, .val (.int (Int32.ofNat sh)), .val (.int (f (w % 16)))] [(.long ((Int64.ofNat w) + (1 : Int64))), (.ref a1)])) _
      refine st134 _ ?_
      show Steps p.tables e below (T134.setTop (mkF m 32 #[.val (.ref a1), .val (.long (Int64.ofNat d)), .second, .val (.int (Int32.ofNat sh)), .val (.int (f (w % 16)))] [])) _
      refine XS.lloadN X134.here hx rfl (hb hby d5_32) rfl ?_
      show Steps p.tables e below (T134.setTop (mkF m 33 #[.val (.ref a1), .val (.long (Int64.ofNat d)), .second, .val (.int (Int32.ofNat sh)), .val (.int (f (w % 16)))] [(.long (Int64.ofNat d))])) _
      refine XS.iload X134.here hx rfl (hb hby d5_33) rfl ?_
      show Steps p.tables e below (T134.setTop (mkF m 35 #[.val (.ref a1), .val (.long (Int64.ofNat d)), .second, .val (.int (Int32.ofNat sh)), .val (.int (f (w % 16)))] [(.int (f (w % 16))), (.long (Int64.ofNat d))])) _
      refine XS.bipush X134.here hx rfl (hb hby d5_35) ?_
      show Steps p.tables e below (T134.setTop (mkF m 37 #[.val (.ref a1), .val (.long (Int64.ofNat d)), .second, .val (.int (Int32.ofNat sh)), .val (.int (f (w % 16)))] [(.int (127 : Int32)), (.int (f (w % 16))), (.long (Int64.ofNat d))])) _
      refine XS.iand X134.here hx rfl (hb hby d5_37) rfl ?_
      show Steps p.tables e below (T134.setTop (mkF m 38 #[.val (.ref a1), .val (.long (Int64.ofNat d)), .second, .val (.int (Int32.ofNat sh)), .val (.int (f (w % 16)))] [(.int ((f (w % 16)) &&& (127 : Int32))), (.long (Int64.ofNat d))])) _
      refine XS.i2l X134.here hx rfl (hb hby d5_38) rfl ?_
      show Steps p.tables e below (T134.setTop (mkF m 39 #[.val (.ref a1), .val (.long (Int64.ofNat d)), .second, .val (.int (Int32.ofNat sh)), .val (.int (f (w % 16)))] [(.long (((f (w % 16)) &&& (127 : Int32)).toInt64)), (.long (Int64.ofNat d))])) _
      refine XS.iloadN X134.here hx rfl (hb hby d5_39) rfl ?_
      show Steps p.tables e below (T134.setTop (mkF m 40 #[.val (.ref a1), .val (.long (Int64.ofNat d)), .second, .val (.int (Int32.ofNat sh)), .val (.int (f (w % 16)))] [(.int (Int32.ofNat sh)), (.long (((f (w % 16)) &&& (127 : Int32)).toInt64)), (.long (Int64.ofNat d))])) _
      refine XS.lshl X134.here hx rfl (hb hby d5_40) rfl ?_
      show Steps p.tables e below (T134.setTop (mkF m 41 #[.val (.ref a1), .val (.long (Int64.ofNat d)), .second, .val (.int (Int32.ofNat sh)), .val (.int (f (w % 16)))] [(.long ((((f (w % 16)) &&& (127 : Int32)).toInt64) <<< ((Int32.ofNat sh) &&& 0x3f).toInt64)), (.long (Int64.ofNat d))])) _
      refine XS.lor X134.here hx rfl (hb hby d5_41) rfl ?_
      show Steps p.tables e below (T134.setTop (mkF m 42 #[.val (.ref a1), .val (.long (Int64.ofNat d)), .second, .val (.int (Int32.ofNat sh)), .val (.int (f (w % 16)))] [(.long ((Int64.ofNat d) ||| ((((f (w % 16)) &&& (127 : Int32)).toInt64) <<< ((Int32.ofNat sh) &&& 0x3f).toInt64)))])) _
      refine XS.lstoreN X134.here hx rfl (hb hby d5_42) rfl (l' := #[.val (.ref a1), .val (.long ((Int64.ofNat d) ||| ((((f (w % 16)) &&& (127 : Int32)).toInt64) <<< ((Int32.ofNat sh) &&& 0x3f).toInt64))), .second, .val (.int (Int32.ofNat sh)), .val (.int (f (w % 16)))]) rfl ?_
      show Steps p.tables e below (T134.setTop (mkF m 43 #[.val (.ref a1), .val (.long ((Int64.ofNat d) ||| ((((f (w % 16)) &&& (127 : Int32)).toInt64) <<< ((Int32.ofNat sh) &&& 0x3f).toInt64))), .second, .val (.int (Int32.ofNat sh)), .val (.int (f (w % 16)))] [])) _
      refine XS.iinc X134.here hx rfl (hb hby d5_43) rfl (l' := #[.val (.ref a1), .val (.long ((Int64.ofNat d) ||| ((((f (w % 16)) &&& (127 : Int32)).toInt64) <<< ((Int32.ofNat sh) &&& 0x3f).toInt64))), .second, .val (.int ((Int32.ofNat sh) + (7 : Int32))), .val (.int (f (w % 16)))]) rfl ?_
      show Steps p.tables e below (T134.setTop (mkF m 46 #[.val (.ref a1), .val (.long ((Int64.ofNat d) ||| ((((f (w % 16)) &&& (127 : Int32)).toInt64) <<< ((Int32.ofNat sh) &&& 0x3f).toInt64))), .second, .val (.int ((Int32.ofNat sh) + (7 : Int32))), .val (.int (f (w % 16)))] [])) _
      refine XS.iload X134.here hx rfl (hb hby d5_46) rfl ?_
      show Steps p.tables e below (T134.setTop (mkF m 48 #[.val (.ref a1), .val (.long ((Int64.ofNat d) ||| ((((f (w % 16)) &&& (127 : Int32)).toInt64) <<< ((Int32.ofNat sh) &&& 0x3f).toInt64))), .second, .val (.int ((Int32.ofNat sh) + (7 : Int32))), .val (.int (f (w % 16)))] [(.int (f (w % 16)))])) _
      refine XS.ifYes X134.here hx rfl (pc0 := 48) (pc' := 4) rfl (hb hby d5_48) rfl ((if0 _ _).trans (tlt (by rw [hfv]; exact own_bc0 r)).1) (by decide) (by decide) ?_
      show Steps p.tables e below (T134.setTop (mkF m 4 #[.val (.ref a1), .val (.long ((Int64.ofNat d) ||| ((((f (w % 16)) &&& (127 : Int32)).toInt64) <<< ((Int32.ofNat sh) &&& 0x3f).toInt64))), .second, .val (.int ((Int32.ofNat sh) + (7 : Int32))), .val (.int (f (w % 16)))] [])) _
      exact kt
    have hdv : ((Int64.ofNat d) ||| ((((f (w % 16)) &&& (127 : Int32)).toInt64) <<< ((Int32.ofNat sh) &&& 0x3f).toInt64)) = Int64.ofNat (d + (r % 128) * 2 ^ sh) := by rw [hfv, own_bc127, own_shl (by omega) (own_lz hbd), own_or hd]
    have htv : ((Int64.ofNat w) + (1 : Int64)) = Int64.ofNat (w + 1) := own_w1 w
    have hsv : ((Int32.ofNat sh) + (7 : Int32)) = Int32.ofNat (sh + 7) := own_s7 sh
    obtain ⟨T', L', i3, i4, X', N', Z', K', y0, y1, y2, y3, y4, y5, y6, y7, st⟩ := ih T134 _ _ (r / 128) (w + 1) (d + (r % 128) * 2 ^ sh) (sh + 7) _ X134 e134 N143 Z145 K144 E135 F136 F137 F138 F139 (own_F (congrArg Value.long htv) F140) F141 V142 enc' (One.val (w := (.int (f (w % 16)))) rfl) (own_d7 hd) (by rw [own_p7]; exact hbd) (by omega) (by omega)
    rw [own_p7, ← hdv, ← hsv] at st
    have hk : w + 1 + k + 1 = w + (k + 1) + 1 := by omega
    exact ⟨T', L', i3, i4, X', N', Z', K', y0, y1, y2, y3, y4, (hk ▸ y5), y6, y7, fun t kt => pre146 t (st t kt)⟩
theorem ef_5 (m : MethodId) (a0 : Addr) : entryFrame m #[(.ref a0)] 5 = mkF m 0 #[.val (.ref a0), .unset, .unset, .unset, .unset] [] := by first | (simp [entryFrame, mkF, argsToLocals, Value.category]; done) | rfl
def Q5 (Z : State) (a0 : Addr) (b1 : Addr) (k : Nat) (r : Nat) (w : Nat) (f : Nat → Int32) (u_limit : Int64) (u_written : Int64) (u_freed : Int64) (h0 : Heap) (n0 : Nat) (v : Option Value) (h : Heap) (L : List Loc) : Prop := v = some (.long (Int64.ofNat r)) ∧ Fr n0 L ∧ Keep h0 h [a0] ∧ Exa Z h a0 "com/example/wee_find/weefind/HeldMatches" ∧ Fld Z h a0 "com/example/wee_find/weefind/HeldMatches" "bytes" "[B" (.ref b1) ∧ Fld Z h a0 "com/example/wee_find/weefind/HeldMatches" "mask" "I" (.int (15 : Int32)) ∧ Fld Z h a0 "com/example/wee_find/weefind/HeldMatches" "limit" "J" (.long u_limit) ∧ Fld Z h a0 "com/example/wee_find/weefind/HeldMatches" "written" "J" (.long u_written) ∧ Fld Z h a0 "com/example/wee_find/weefind/HeldMatches" "taking" "J" (.long (Int64.ofNat (w + k + 1))) ∧ Fld Z h a0 "com/example/wee_find/weefind/HeldMatches" "freed" "J" (.long u_freed) ∧ own_Ar Z h b1 .byte 16 f
set_option maxRecDepth 65536 in
set_option maxHeartbeats 40000000 in
theorem rm5 (l : Launch) (Z : State) (aq : Array Value) (hw : ∀ d ∈ tables_1, d.before aq Z = true) (ws : List Jvm.Cond) (a0 : Addr) (b1 : Addr) (k : Nat) (r : Nat) (w : Nat) (f : Nat → Int32) (u_limit : Int64) (u_written : Int64) (u_freed : Int64) (h0 : Heap) (n0 : Nat) (Z0 : n0 ≤ h0.size) (E_ : Exa Z h0 a0 "com/example/wee_find/weefind/HeldMatches") (Fb_ : Fld Z h0 a0 "com/example/wee_find/weefind/HeldMatches" "bytes" "[B" (.ref b1)) (Fm_ : Fld Z h0 a0 "com/example/wee_find/weefind/HeldMatches" "mask" "I" (.int (15 : Int32))) (Flimit_ : Fld Z h0 a0 "com/example/wee_find/weefind/HeldMatches" "limit" "J" (.long u_limit)) (Fwritten_ : Fld Z h0 a0 "com/example/wee_find/weefind/HeldMatches" "written" "J" (.long u_written)) (Ftaking_ : Fld Z h0 a0 "com/example/wee_find/weefind/HeldMatches" "taking" "J" (.long (Int64.ofNat w))) (Ffreed_ : Fld Z h0 a0 "com/example/wee_find/weefind/HeldMatches" "freed" "J" (.long u_freed)) (V_ : own_Ar Z h0 b1 .byte 16 f) (g_a0 : n0 ≤ a0) (ne_b1 : b1 ≠ a0) (enc : own_Enc f k w r) (hr : r < 2 ^ 63) (hk8 : k ≤ 8) (hwk : w + k < 100) :
    MetFree l (⟨"com/example/wee_find/weefind/HeldMatches", "take", "()J"⟩ : MethodName) (head1 (Jvm.Cond.code (⟨"com/example/wee_find/weefind/HeldMatches", "take", "()J"⟩ : MethodName) prog_24_method_5_code 5 (some .long) :: ws) ({ frames := 0, cells := 0, slots := 0, locals := 0 } : Room)) (fun a U => a = #[(.ref a0)] ∧ Z.Warmed39 U.vm ∧ U.heap = h0) (fun _ _ _ _ _ => True) (fun _ U o U' => ∃ v L, o = .returned v ∧ Q5 Z a0 b1 k r w f u_limit u_written u_freed h0 n0 v U'.heap L ∧ FrameEnd U o U' L ({ frames := 0, cells := 0, slots := 0, locals := 0 } : Room).cells ({ frames := 0, cells := 0, slots := 0, locals := 0 } : Room).slots) := by
  refine MetFree.of_bodySF (plainFor_of_name pn46195025) hisR ?_
  intro p e s m args below meth c s₁ Bd hml0 hP hK
  obtain ⟨rfl, hZ, hh⟩ := hP
  have hx := Bd.exec
  have hby := Bd.bytes
  have hml : c.maxLocals = 5 := hml0
  have hown : s.vm.findClass "com/example/wee_find/weefind/HeldMatches" = some m.cls := findClass_of_methodNamed Bd.named
  have hnm := (name_of_methodNamed Bd.named Bd.method).1
  have X0 : Stand p l e ({ frames := 0, cells := 0, slots := 0, locals := 0 } : Room) s m #[(.ref a0)] below meth c s₁ [] 0 0 := Stand.of_body Bd
  have e0 : s₁.heap = h0 := by rw [← hh, Bd.state]; rfl
  have N0 := Fr.nil n0
  have K0 : Keep h0 h0 [a0] := Keep.refl _ _
  have pre0 : ∀ t, Steps p.tables e below (s₁.setTop (mkF m 0 #[.val (.ref a0), .unset, .unset, .unset, .unset] [])) t → Steps p.tables e below (s₁.setTop (entryFrame m #[(.ref a0)] 5)) t := fun t k => castTop (ef_5 m a0) k
  have pre147 : ∀ t, Steps p.tables e below (s₁.setTop (mkF m 4 #[.val (.ref a0), .val (.long (0 : Int64)), .second, .val (.int (0 : Int32)), .unset] [])) t → Steps p.tables e below (s₁.setTop (entryFrame m #[(.ref a0)] 5)) t := fun t kt => by
    refine pre0 _ ?_
    show Steps p.tables e below (s₁.setTop (mkF m 0 #[.val (.ref a0), .unset, .unset, .unset, .unset] [])) _
    refine XS.lconst X0.here hx rfl (hb hby d5_0) ?_
    show Steps p.tables e below (s₁.setTop (mkF m 1 #[.val (.ref a0), .unset, .unset, .unset, .unset] [(.long (0 : Int64))])) _
    refine XS.lstoreN X0.here hx rfl (hb hby d5_1) rfl (l' := #[.val (.ref a0), .val (.long (0 : Int64)), .second, .unset, .unset]) rfl ?_
    show Steps p.tables e below (s₁.setTop (mkF m 2 #[.val (.ref a0), .val (.long (0 : Int64)), .second, .unset, .unset] [])) _
    refine XS.iconst X0.here hx rfl (hb hby d5_2) ?_
    show Steps p.tables e below (s₁.setTop (mkF m 3 #[.val (.ref a0), .val (.long (0 : Int64)), .second, .unset, .unset] [(.int (0 : Int32))])) _
    refine XS.istoreN X0.here hx rfl (hb hby d5_3) rfl (l' := #[.val (.ref a0), .val (.long (0 : Int64)), .second, .val (.int (0 : Int32)), .unset]) rfl ?_
    show Steps p.tables e below (s₁.setTop (mkF m 4 #[.val (.ref a0), .val (.long (0 : Int64)), .second, .val (.int (0 : Int32)), .unset] [])) _
    exact kt
  obtain ⟨T', L', i3, i4, X', N', Z', K', y0, y1, y2, y3, y4, y5, y6, y7, st⟩ := lpt hx hZ hw hby hml hown g_a0 ne_b1 k s₁ _ _ r w 0 0 .unset X0 e0 N0 Z0 K0 E_ Fb_ Fm_ Flimit_ Fwritten_ Ftaking_ Ffreed_ V_ enc One.u (by decide) (by rw [own_r0]; exact hr) (by omega) hwk
  rw [own_r0] at st
  have pre148 : ∀ t, Steps p.tables e below (T'.setTop (mkF m 51 #[.val (.ref a0), .val (.long (Int64.ofNat r)), .second, .val (.int i3), .val (.int i4)] [])) t → Steps p.tables e below (s₁.setTop (entryFrame m #[(.ref a0)] 5)) t := fun t kt => pre147 t (st t kt)
  have pre149 : ∀ t, Steps p.tables e below (T'.setTop (mkF m 52 #[.val (.ref a0), .val (.long (Int64.ofNat r)), .second, .val (.int i3), .val (.int i4)] [(.long (Int64.ofNat r))])) t → Steps p.tables e below (s₁.setTop (entryFrame m #[(.ref a0)] 5)) t := fun t kt => by
    refine pre148 _ ?_
    show Steps p.tables e below (T'.setTop (mkF m 51 #[.val (.ref a0), .val (.long (Int64.ofNat r)), .second, .val (.int i3), .val (.int i4)] [])) _
    refine XS.lloadN X'.here hx rfl (hb hby d5_51) rfl ?_
    show Steps p.tables e below (T'.setTop (mkF m 52 #[.val (.ref a0), .val (.long (Int64.ofNat r)), .second, .val (.int i3), .val (.int i4)] [(.long (Int64.ofNat r))])) _
    exact kt
  obtain ⟨fs, hr, hrun, hended, hW, hsame⟩ := X'.leave (v := some (.long (Int64.ofNat r))) (fun h => by rw [Bd.returns] at h; cases h)
  refine ⟨_, _, pre149 _ ?_, hrun, hended, _, _, rfl, ?_, ⟨_, rfl⟩, hW, hsame.mono (by decide) (by decide)⟩
  · jvm_step X'.here [X'.here.top, hx, (hb hby d5_52), X'.method', Bd.returns, narrow]
    first | (intro acts; rw [hr _ acts rfl rfl rfl]) | rw [hr _ _ rfl rfl rfl]
    exact Steps.refl _
  · show Q5 Z a0 b1 k r w f u_limit u_written u_freed h0 n0 _ T'.heap _
    exact ⟨rfl, N', K', y0, y1, y2, y3, y4, y5, y6, y7⟩
theorem d6_0 : decode prog_24_method_6_code 0 = .ok (.aload_n 0, 1) := by decide +kernel
theorem d6_1 : decode prog_24_method_6_code 1 = .ok (.aload_n 0, 1) := by decide +kernel
theorem d6_2 : decode prog_24_method_6_code 2 = .ok (.getfield 46, 3) := by decide +kernel
theorem d6_5 : decode prog_24_method_6_code 5 = .ok (.putfield 43, 3) := by decide +kernel
theorem d6_8 : decode prog_24_method_6_code 8 = .ok (.return_, 1) := by decide +kernel
theorem ef_6 (m : MethodId) (a0 : Addr) : entryFrame m #[(.ref a0)] 1 = mkF m 0 #[.val (.ref a0)] [] := by first | (simp [entryFrame, mkF, argsToLocals, Value.category]; done) | rfl
def Q6 (Z : State) (a0 : Addr) (r_b : Addr) (u_mask : Int32) (u_limit : Int64) (u_written : Int64) (u_taking : Int64) (u_freed : Int64) (h0 : Heap) (n0 : Nat) (v : Option Value) (h : Heap) (L : List Loc) : Prop := v = none ∧ Fr n0 L ∧ Keep h0 h [a0] ∧ Exa Z h a0 "com/example/wee_find/weefind/HeldMatches" ∧ Fld Z h a0 "com/example/wee_find/weefind/HeldMatches" "bytes" "[B" (.ref r_b) ∧ Fld Z h a0 "com/example/wee_find/weefind/HeldMatches" "mask" "I" (.int u_mask) ∧ Fld Z h a0 "com/example/wee_find/weefind/HeldMatches" "limit" "J" (.long u_limit) ∧ Fld Z h a0 "com/example/wee_find/weefind/HeldMatches" "written" "J" (.long u_written) ∧ Fld Z h a0 "com/example/wee_find/weefind/HeldMatches" "taking" "J" (.long u_taking) ∧ Fld Z h a0 "com/example/wee_find/weefind/HeldMatches" "freed" "J" (.long u_taking)
set_option maxRecDepth 65536 in
set_option maxHeartbeats 40000000 in
theorem rm6 (l : Launch) (Z : State) (aq : Array Value) (hw : ∀ d ∈ tables_1, d.before aq Z = true) (ws : List Jvm.Cond) (a0 : Addr) (r_b : Addr) (u_mask : Int32) (u_limit : Int64) (u_written : Int64) (u_taking : Int64) (u_freed : Int64) (h0 : Heap) (n0 : Nat) (Z0 : n0 ≤ h0.size) (E_a0 : Exa Z h0 a0 "com/example/wee_find/weefind/HeldMatches") (F_bytes : Fld Z h0 a0 "com/example/wee_find/weefind/HeldMatches" "bytes" "[B" (.ref r_b)) (F_mask : Fld Z h0 a0 "com/example/wee_find/weefind/HeldMatches" "mask" "I" (.int u_mask)) (F_limit : Fld Z h0 a0 "com/example/wee_find/weefind/HeldMatches" "limit" "J" (.long u_limit)) (F_written : Fld Z h0 a0 "com/example/wee_find/weefind/HeldMatches" "written" "J" (.long u_written)) (F_taking : Fld Z h0 a0 "com/example/wee_find/weefind/HeldMatches" "taking" "J" (.long u_taking)) (F_freed : Fld Z h0 a0 "com/example/wee_find/weefind/HeldMatches" "freed" "J" (.long u_freed)) (g_a0 : n0 ≤ a0) :
    MetFree l (⟨"com/example/wee_find/weefind/HeldMatches", "free", "()V"⟩ : MethodName) (head1 (Jvm.Cond.code (⟨"com/example/wee_find/weefind/HeldMatches", "free", "()V"⟩ : MethodName) prog_24_method_6_code 1 none :: ws) ({ frames := 0, cells := 0, slots := 0, locals := 0 } : Room)) (fun a U => a = #[(.ref a0)] ∧ Z.Warmed39 U.vm ∧ U.heap = h0) (fun _ _ _ _ _ => True) (fun _ U o U' => ∃ v L, o = .returned v ∧ Q6 Z a0 r_b u_mask u_limit u_written u_taking u_freed h0 n0 v U'.heap L ∧ FrameEnd U o U' L ({ frames := 0, cells := 0, slots := 0, locals := 0 } : Room).cells ({ frames := 0, cells := 0, slots := 0, locals := 0 } : Room).slots) := by
  refine MetFree.of_bodySF (plainFor_of_name pn46195025) hisR ?_
  intro p e s m args below meth c s₁ Bd hml0 hP hK
  obtain ⟨rfl, hZ, hh⟩ := hP
  have hx := Bd.exec
  have hby := Bd.bytes
  have hml : c.maxLocals = 1 := hml0
  have hown : s.vm.findClass "com/example/wee_find/weefind/HeldMatches" = some m.cls := findClass_of_methodNamed Bd.named
  have hnm := (name_of_methodNamed Bd.named Bd.method).1
  have X0 : Stand p l e ({ frames := 0, cells := 0, slots := 0, locals := 0 } : Room) s m #[(.ref a0)] below meth c s₁ [] 0 0 := Stand.of_body Bd
  have e0 : s₁.heap = h0 := by rw [← hh, Bd.state]; rfl
  have N0 := Fr.nil n0
  have K0 : Keep h0 h0 [a0] := Keep.refl _ _
  have pre0 : ∀ t, Steps p.tables e below (s₁.setTop (mkF m 0 #[.val (.ref a0)] [])) t → Steps p.tables e below (s₁.setTop (entryFrame m #[(.ref a0)] 1)) t := fun t k => castTop (ef_6 m a0) k
  obtain ⟨T162, X162, e162, st162⟩ := getF X0 hx hZ hown (host := "") (Or.inl (hw _ (List.mem_of_getElem? (i := 37) rfl))) Via.refl e0 F_taking (g := (mkF m 2 #[.val (.ref a0)] [(.ref a0), (.ref a0)])) rfl rfl (hb hby d6_2)
  obtain ⟨T163, h163, X163, e163, W163, st163⟩ := putF X162 hx hZ hown (host := "") (Or.inl (hw _ (List.mem_of_getElem? (i := 44) rfl))) Via.refl e162 F_freed E_a0 (Or.inl (hw _ (List.mem_of_getElem? (i := 45) rfl))) (hw _ (List.mem_of_getElem? (i := 2) rfl)) (ty := .long) (by decide) rfl rfl (g := (mkF m 5 #[.val (.ref a0)] [(.long u_taking), (.ref a0)])) rfl rfl (hb hby d6_5)
  have E164 := E_a0.wr W163
  have F165 := F_bytes.other W163 (Or.inr (slot_ne (Or.inr (hw _ (List.mem_of_getElem? (i := 19) rfl))) (Or.inl (hw _ (List.mem_of_getElem? (i := 45) rfl))) (by decide) (t := (.array .byte)) (t' := .long) (by decide) (by decide)))
  have F166 := F_mask.other W163 (Or.inr (slot_ne (Or.inr (hw _ (List.mem_of_getElem? (i := 21) rfl))) (Or.inl (hw _ (List.mem_of_getElem? (i := 45) rfl))) (by decide) (t := .int) (t' := .long) (by decide) (by decide)))
  have F167 := F_limit.other W163 (Or.inr (slot_ne (Or.inl (hw _ (List.mem_of_getElem? (i := 23) rfl))) (Or.inl (hw _ (List.mem_of_getElem? (i := 45) rfl))) (by decide) (t := .long) (t' := .long) (by decide) (by decide)))
  have F168 := F_written.other W163 (Or.inr (slot_ne (Or.inl (hw _ (List.mem_of_getElem? (i := 31) rfl))) (Or.inl (hw _ (List.mem_of_getElem? (i := 45) rfl))) (by decide) (t := .long) (t' := .long) (by decide) (by decide)))
  have F169 := F_taking.other W163 (Or.inr (slot_ne (Or.inl (hw _ (List.mem_of_getElem? (i := 38) rfl))) (Or.inl (hw _ (List.mem_of_getElem? (i := 45) rfl))) (by decide) (t := .long) (t' := .long) (by decide) (by decide)))
  have F170 : Fld Z h163 a0 "com/example/wee_find/weefind/HeldMatches" "freed" "J" (.long u_taking) := F_freed.same W163
  have N171 := Fr.snoc X163 N0 g_a0
  have K172 : Keep h0 h163 [a0] := K0.wr W163 (Or.inl (List.mem_of_getElem? (i := 0) rfl))
  have Z173 : n0 ≤ h163.size := Nat.le_trans Z0 (Keep.of_wr W163).1
  have pre174 : ∀ t, Steps p.tables e below (T163.setTop (mkF m 8 #[.val (.ref a0)] [])) t → Steps p.tables e below (s₁.setTop (entryFrame m #[(.ref a0)] 1)) t := fun t kt => by
    refine pre0 _ ?_
    show Steps p.tables e below (s₁.setTop (mkF m 0 #[.val (.ref a0)] [])) _
    refine XS.aloadN X0.here hx rfl (hb hby d6_0) rfl rfl ?_
    show Steps p.tables e below (s₁.setTop (mkF m 1 #[.val (.ref a0)] [(.ref a0)])) _
    refine XS.aloadN X0.here hx rfl (hb hby d6_1) rfl rfl ?_
    show Steps p.tables e below (s₁.setTop (mkF m 2 #[.val (.ref a0)] [(.ref a0), (.ref a0)])) _
    refine st162 _ ?_
    show Steps p.tables e below (T162.setTop (mkF m 5 #[.val (.ref a0)] [(.long u_taking), (.ref a0)])) _
    refine st163 _ ?_
    show Steps p.tables e below (T163.setTop (mkF m 8 #[.val (.ref a0)] [])) _
    exact kt
  obtain ⟨fs, hr, hrun, hended, hW, hsame⟩ := X163.leave (v := none) (fun _ => rfl)
  refine ⟨_, _, pre174 _ ?_, hrun, hended, _, _, rfl, ?_, ⟨_, rfl⟩, hW, hsame.mono (by decide) (by decide)⟩
  · exact X163.returnOut hx Bd.returns (hb hby d6_8) hr
  · show Q6 Z a0 r_b u_mask u_limit u_written u_taking u_freed h0 n0 _ T163.heap _
    rw [e163]
    exact ⟨rfl, N171, K172, E164, F165, F166, F167, F168, F169, F170⟩
theorem d7_0 : decode prog_24_method_4_code 0 = .ok (.aload_n 0, 1) := by decide +kernel
theorem d7_1 : decode prog_24_method_4_code 1 = .ok (.aload_n 0, 1) := by decide +kernel
theorem d7_2 : decode prog_24_method_4_code 2 = .ok (.getfield 43, 3) := by decide +kernel
theorem d7_5 : decode prog_24_method_4_code 5 = .ok (.aload_n 0, 1) := by decide +kernel
theorem d7_6 : decode prog_24_method_4_code 6 = .ok (.getfield 24, 3) := by decide +kernel
theorem d7_9 : decode prog_24_method_4_code 9 = .ok (.arraylength, 1) := by decide +kernel
theorem d7_10 : decode prog_24_method_4_code 10 = .ok (.i2l, 1) := by decide +kernel
theorem d7_11 : decode prog_24_method_4_code 11 = .ok (.ladd, 1) := by decide +kernel
theorem d7_12 : decode prog_24_method_4_code 12 = .ok (.putfield 32, 3) := by decide +kernel
theorem d7_15 : decode prog_24_method_4_code 15 = .ok (.return_, 1) := by decide +kernel
theorem ef_7 (m : MethodId) (a0 : Addr) : entryFrame m #[(.ref a0)] 1 = mkF m 0 #[.val (.ref a0)] [] := by first | (simp [entryFrame, mkF, argsToLocals, Value.category]; done) | rfl
def Q7 (Z : State) (a0 : Addr) (b1 : Addr) (f : Nat → Int32) (u_limit : Int64) (u_written : Int64) (u_taking : Int64) (u_freed : Int64) (h0 : Heap) (n0 : Nat) (v : Option Value) (h : Heap) (L : List Loc) : Prop := v = none ∧ Fr n0 L ∧ Keep h0 h [a0] ∧ Exa Z h a0 "com/example/wee_find/weefind/HeldMatches" ∧ Fld Z h a0 "com/example/wee_find/weefind/HeldMatches" "bytes" "[B" (.ref b1) ∧ Fld Z h a0 "com/example/wee_find/weefind/HeldMatches" "mask" "I" (.int (15 : Int32)) ∧ Fld Z h a0 "com/example/wee_find/weefind/HeldMatches" "limit" "J" (.long (u_freed + ((16 : Int32).toInt64))) ∧ Fld Z h a0 "com/example/wee_find/weefind/HeldMatches" "written" "J" (.long u_written) ∧ Fld Z h a0 "com/example/wee_find/weefind/HeldMatches" "taking" "J" (.long u_taking) ∧ Fld Z h a0 "com/example/wee_find/weefind/HeldMatches" "freed" "J" (.long u_freed) ∧ own_Ar Z h b1 .byte 16 f
set_option maxRecDepth 65536 in
set_option maxHeartbeats 40000000 in
theorem rm7 (l : Launch) (Z : State) (aq : Array Value) (hw : ∀ d ∈ tables_1, d.before aq Z = true) (ws : List Jvm.Cond) (a0 : Addr) (b1 : Addr) (f : Nat → Int32) (u_limit : Int64) (u_written : Int64) (u_taking : Int64) (u_freed : Int64) (h0 : Heap) (n0 : Nat) (Z0 : n0 ≤ h0.size) (E_ : Exa Z h0 a0 "com/example/wee_find/weefind/HeldMatches") (Fb_ : Fld Z h0 a0 "com/example/wee_find/weefind/HeldMatches" "bytes" "[B" (.ref b1)) (Fm_ : Fld Z h0 a0 "com/example/wee_find/weefind/HeldMatches" "mask" "I" (.int (15 : Int32))) (Flimit_ : Fld Z h0 a0 "com/example/wee_find/weefind/HeldMatches" "limit" "J" (.long u_limit)) (Fwritten_ : Fld Z h0 a0 "com/example/wee_find/weefind/HeldMatches" "written" "J" (.long u_written)) (Ftaking_ : Fld Z h0 a0 "com/example/wee_find/weefind/HeldMatches" "taking" "J" (.long u_taking)) (Ffreed_ : Fld Z h0 a0 "com/example/wee_find/weefind/HeldMatches" "freed" "J" (.long u_freed)) (V_ : own_Ar Z h0 b1 .byte 16 f) (g_a0 : n0 ≤ a0) (ne_b1 : b1 ≠ a0) :
    MetFree l (⟨"com/example/wee_find/weefind/HeldMatches", "refresh", "()V"⟩ : MethodName) (head1 (Jvm.Cond.code (⟨"com/example/wee_find/weefind/HeldMatches", "refresh", "()V"⟩ : MethodName) prog_24_method_4_code 1 none :: ws) ({ frames := 0, cells := 0, slots := 0, locals := 0 } : Room)) (fun a U => a = #[(.ref a0)] ∧ Z.Warmed39 U.vm ∧ U.heap = h0) (fun _ _ _ _ _ => True) (fun _ U o U' => ∃ v L, o = .returned v ∧ Q7 Z a0 b1 f u_limit u_written u_taking u_freed h0 n0 v U'.heap L ∧ FrameEnd U o U' L ({ frames := 0, cells := 0, slots := 0, locals := 0 } : Room).cells ({ frames := 0, cells := 0, slots := 0, locals := 0 } : Room).slots) := by
  refine MetFree.of_bodySF (plainFor_of_name pn46195025) hisR ?_
  intro p e s m args below meth c s₁ Bd hml0 hP hK
  obtain ⟨rfl, hZ, hh⟩ := hP
  have hx := Bd.exec
  have hby := Bd.bytes
  have hml : c.maxLocals = 1 := hml0
  have hown : s.vm.findClass "com/example/wee_find/weefind/HeldMatches" = some m.cls := findClass_of_methodNamed Bd.named
  have hnm := (name_of_methodNamed Bd.named Bd.method).1
  have X0 : Stand p l e ({ frames := 0, cells := 0, slots := 0, locals := 0 } : Room) s m #[(.ref a0)] below meth c s₁ [] 0 0 := Stand.of_body Bd
  have e0 : s₁.heap = h0 := by rw [← hh, Bd.state]; rfl
  have N0 := Fr.nil n0
  have K0 : Keep h0 h0 [a0] := Keep.refl _ _
  have pre0 : ∀ t, Steps p.tables e below (s₁.setTop (mkF m 0 #[.val (.ref a0)] [])) t → Steps p.tables e below (s₁.setTop (entryFrame m #[(.ref a0)] 1)) t := fun t k => castTop (ef_7 m a0) k
  obtain ⟨T175, X175, e175, st175⟩ := getF X0 hx hZ hown (host := "") (Or.inl (hw _ (List.mem_of_getElem? (i := 44) rfl))) Via.refl e0 Ffreed_ (g := (mkF m 2 #[.val (.ref a0)] [(.ref a0), (.ref a0)])) rfl rfl (hb hby d7_2)
  obtain ⟨T176, X176, e176, st176⟩ := getF X175 hx hZ hown (host := "") (Or.inl (hw _ (List.mem_of_getElem? (i := 18) rfl))) Via.refl e175 Fb_ (g := (mkF m 6 #[.val (.ref a0)] [(.ref a0), (.long u_freed), (.ref a0)])) rfl rfl (hb hby d7_6)
  obtain ⟨T177, h177, X177, e177, W177, st177⟩ := putF X176 hx hZ hown (host := "") (Or.inl (hw _ (List.mem_of_getElem? (i := 22) rfl))) Via.refl e176 Flimit_ E_ (Or.inl (hw _ (List.mem_of_getElem? (i := 23) rfl))) (hw _ (List.mem_of_getElem? (i := 2) rfl)) (ty := .long) (by decide) rfl rfl (g := (mkF m 12 #[.val (.ref a0)] [(.long (u_freed + ((16 : Int32).toInt64))), (.ref a0)])) rfl rfl (hb hby d7_12)
  have E178 := E_.wr W177
  have F179 := Fb_.other W177 (Or.inr (slot_ne (Or.inr (hw _ (List.mem_of_getElem? (i := 19) rfl))) (Or.inl (hw _ (List.mem_of_getElem? (i := 23) rfl))) (by decide) (t := (.array .byte)) (t' := .long) (by decide) (by decide)))
  have F180 := Fm_.other W177 (Or.inr (slot_ne (Or.inr (hw _ (List.mem_of_getElem? (i := 21) rfl))) (Or.inl (hw _ (List.mem_of_getElem? (i := 23) rfl))) (by decide) (t := .int) (t' := .long) (by decide) (by decide)))
  have F181 : Fld Z h177 a0 "com/example/wee_find/weefind/HeldMatches" "limit" "J" (.long (u_freed + ((16 : Int32).toInt64))) := Flimit_.same W177
  have F182 := Fwritten_.other W177 (Or.inr (slot_ne (Or.inl (hw _ (List.mem_of_getElem? (i := 31) rfl))) (Or.inl (hw _ (List.mem_of_getElem? (i := 23) rfl))) (by decide) (t := .long) (t' := .long) (by decide) (by decide)))
  have F183 := Ftaking_.other W177 (Or.inr (slot_ne (Or.inl (hw _ (List.mem_of_getElem? (i := 38) rfl))) (Or.inl (hw _ (List.mem_of_getElem? (i := 23) rfl))) (by decide) (t := .long) (t' := .long) (by decide) (by decide)))
  have F184 := Ffreed_.other W177 (Or.inr (slot_ne (Or.inl (hw _ (List.mem_of_getElem? (i := 45) rfl))) (Or.inl (hw _ (List.mem_of_getElem? (i := 23) rfl))) (by decide) (t := .long) (t' := .long) (by decide) (by decide)))
  have V185 := V_.other W177 ne_b1
  have N186 := Fr.snoc X177 N0 g_a0
  have K187 : Keep h0 h177 [a0] := K0.wr W177 (Or.inl (List.mem_of_getElem? (i := 0) rfl))
  have Z188 : n0 ≤ h177.size := Nat.le_trans Z0 (Keep.of_wr W177).1
  have pre189 : ∀ t, Steps p.tables e below (T177.setTop (mkF m 15 #[.val (.ref a0)] [])) t → Steps p.tables e below (s₁.setTop (entryFrame m #[(.ref a0)] 1)) t := fun t kt => by
    refine pre0 _ ?_
    show Steps p.tables e below (s₁.setTop (mkF m 0 #[.val (.ref a0)] [])) _
    refine XS.aloadN X0.here hx rfl (hb hby d7_0) rfl rfl ?_
    show Steps p.tables e below (s₁.setTop (mkF m 1 #[.val (.ref a0)] [(.ref a0)])) _
    refine XS.aloadN X0.here hx rfl (hb hby d7_1) rfl rfl ?_
    show Steps p.tables e below (s₁.setTop (mkF m 2 #[.val (.ref a0)] [(.ref a0), (.ref a0)])) _
    refine st175 _ ?_
    show Steps p.tables e below (T175.setTop (mkF m 5 #[.val (.ref a0)] [(.long u_freed), (.ref a0)])) _
    refine XS.aloadN X175.here hx rfl (hb hby d7_5) rfl rfl ?_
    show Steps p.tables e below (T175.setTop (mkF m 6 #[.val (.ref a0)] [(.ref a0), (.long u_freed), (.ref a0)])) _
    refine st176 _ ?_
    show Steps p.tables e below (T176.setTop (mkF m 9 #[.val (.ref a0)] [(.ref b1), (.long u_freed), (.ref a0)])) _
    refine own_len X176 hx hZ e176 V_ (z := (16 : Int32)) (by decide) (g := (mkF m 9 #[.val (.ref a0)] [(.ref b1), (.long u_freed), (.ref a0)])) rfl rfl (hb hby d7_9) _ ?_
    show Steps p.tables e below (T176.setTop (mkF m 10 #[.val (.ref a0)] [(.int (16 : Int32)), (.long u_freed), (.ref a0)])) _
    refine XS.i2l X176.here hx rfl (hb hby d7_10) rfl ?_
    show Steps p.tables e below (T176.setTop (mkF m 11 #[.val (.ref a0)] [(.long ((16 : Int32).toInt64)), (.long u_freed), (.ref a0)])) _
    refine XS.ladd X176.here hx rfl (hb hby d7_11) rfl ?_
    show Steps p.tables e below (T176.setTop (mkF m 12 #[.val (.ref a0)] [(.long (u_freed + ((16 : Int32).toInt64))), (.ref a0)])) _
    refine st177 _ ?_
    show Steps p.tables e below (T177.setTop (mkF m 15 #[.val (.ref a0)] [])) _
    exact kt
  obtain ⟨fs, hr, hrun, hended, hW, hsame⟩ := X177.leave (v := none) (fun _ => rfl)
  refine ⟨_, _, pre189 _ ?_, hrun, hended, _, _, rfl, ?_, ⟨_, rfl⟩, hW, hsame.mono (by decide) (by decide)⟩
  · exact X177.returnOut hx Bd.returns (hb hby d7_15) hr
  · show Q7 Z a0 b1 f u_limit u_written u_taking u_freed h0 n0 _ T177.heap _
    rw [e177]
    exact ⟨rfl, N186, K187, E178, F179, F180, F181, F182, F183, F184, V185⟩
theorem pd87992021 : parseMethodDescriptor "(I)V" = some ⟨[.int], none⟩ := by decide +kernel
theorem pd87993110 : parseMethodDescriptor "(J)V" = some ⟨[.long], none⟩ := by decide +kernel
theorem pd93421984 : parseMethodDescriptor "()J" = some ⟨[], some .long⟩ := by decide +kernel
theorem pd93421996 : parseMethodDescriptor "()V" = some ⟨[], none⟩ := by decide +kernel
theorem pn89547041 : plainName "com/example/wee_find/weefind/HeldMatchesTakePinLaw" = true := by first | (simp [plainName, overriddenIn]; done) | decide +kernel
theorem own_nn (x : Int64) : 0 ≤ (x &&& (9223372036854775807 : Int64)).toInt := by
  rw [Jvm.Kit.i64_mask x 9223372036854775807 (k := 63) (by decide) (by decide)]; omega

theorem ef_0 (m : MethodId) (q0 : Int64) (q1 : Int64) (q2 : Int64) : entryFrame m #[(.long q0), (.long q1), (.long q2)] maxLocals = mkF m 0 #[.val (.long q0), .second, .val (.long q1), .second, .val (.long q2), .second, .unset, .unset, .unset, .unset, .unset, .unset, .unset, .unset, .unset, .unset, .unset, .unset, .unset] [] := by first | (simp [entryFrame, mkF, argsToLocals, Value.category, maxLocals]; done) | rfl
def Q0 (n0 : Nat) (v : Option Value) (L : List Loc) : Prop := v = some (.int (1 : Int32)) ∧ Fr n0 L
set_option maxRecDepth 65536 in
set_option maxHeartbeats 40000000 in
theorem rm0 (l : Launch) (Z : State) (aq : Array Value) (hw : ∀ d ∈ tables_1, d.before aq Z = true) (ws : List Jvm.Cond) (q0 : Int64) (q1 : Int64) (q2 : Int64) (h0 : Heap) (n0 : Nat) (Z0 : n0 ≤ h0.size) :
    MetFree l x (head1 (Jvm.Cond.code x code maxLocals ret :: ws) room_1) (fun a U => a = #[(.long q0), (.long q1), (.long q2)] ∧ Z.Warmed39 U.vm ∧ U.heap = h0) (fun _ _ _ _ _ => True) (fun _ U o U' => ∃ v L, o = .returned v ∧ Q0 n0 v L ∧ FrameEnd U o U' L room_1.cells room_1.slots) := by
  refine MetFree.of_bodySF (plainFor_of_name pn89547041) hisR ?_
  intro p e s m args below meth c s₁ Bd hml0 hP hK
  obtain ⟨rfl, hZ, hh⟩ := hP
  have hx := Bd.exec
  have hby := Bd.bytes
  have hml : c.maxLocals = 19 := hml0
  have hown : s.vm.findClass "com/example/wee_find/weefind/HeldMatchesTakePinLaw" = some m.cls := findClass_of_methodNamed Bd.named
  have X0 : Stand p l e room_1 s m #[(.long q0), (.long q1), (.long q2)] below meth c s₁ [] 0 0 := Stand.of_body Bd
  have e0 : s₁.heap = h0 := by rw [← hh, Bd.state]; rfl
  have N0 := Fr.nil n0
  have pre0 : ∀ t, Steps p.tables e below (s₁.setTop (mkF m 0 #[.val (.long q0), .second, .val (.long q1), .second, .val (.long q2), .second, .unset, .unset, .unset, .unset, .unset, .unset, .unset, .unset, .unset, .unset, .unset, .unset, .unset] [])) t → Steps p.tables e below (s₁.setTop (entryFrame m #[(.long q0), (.long q1), (.long q2)] maxLocals)) t := fun t k => castTop (ef_0 m q0 q1 q2) k
  have pre190 : ∀ t, Steps p.tables e below (s₁.setTop (mkF m 7 #[.val (.long q0), .second, .val (.long q1), .second, .val (.long q2), .second, .val (.long (q0 &&& (9223372036854775807 : Int64))), .second, .unset, .unset, .unset, .unset, .unset, .unset, .unset, .unset, .unset, .unset, .unset] [])) t → Steps p.tables e below (s₁.setTop (entryFrame m #[(.long q0), (.long q1), (.long q2)] maxLocals)) t := fun t kt => by
    refine pre0 _ ?_
    show Steps p.tables e below (s₁.setTop (mkF m 0 #[.val (.long q0), .second, .val (.long q1), .second, .val (.long q2), .second, .unset, .unset, .unset, .unset, .unset, .unset, .unset, .unset, .unset, .unset, .unset, .unset, .unset] [])) _
    refine XS.lloadN X0.here hx rfl (hb hby at_0) rfl ?_
    show Steps p.tables e below (s₁.setTop (mkF m 1 #[.val (.long q0), .second, .val (.long q1), .second, .val (.long q2), .second, .unset, .unset, .unset, .unset, .unset, .unset, .unset, .unset, .unset, .unset, .unset, .unset, .unset] [(.long q0)])) _
    refine X0.ldc2Long hx hown (mvT hZ (hw _ (List.mem_of_getElem? (i := 0) rfl))) (g := (mkF m 1 #[.val (.long q0), .second, .val (.long q1), .second, .val (.long q2), .second, .unset, .unset, .unset, .unset, .unset, .unset, .unset, .unset, .unset, .unset, .unset, .unset, .unset] [(.long q0)])) rfl (hb hby at_1) _ ?_
    show Steps p.tables e below (s₁.setTop (mkF m 4 #[.val (.long q0), .second, .val (.long q1), .second, .val (.long q2), .second, .unset, .unset, .unset, .unset, .unset, .unset, .unset, .unset, .unset, .unset, .unset, .unset, .unset] [(.long (9223372036854775807 : Int64)), (.long q0)])) _
    refine XS.land X0.here hx rfl (hb hby at_4) rfl ?_
    show Steps p.tables e below (s₁.setTop (mkF m 5 #[.val (.long q0), .second, .val (.long q1), .second, .val (.long q2), .second, .unset, .unset, .unset, .unset, .unset, .unset, .unset, .unset, .unset, .unset, .unset, .unset, .unset] [(.long (q0 &&& (9223372036854775807 : Int64)))])) _
    refine XS.lstore X0.here hx rfl (hb hby at_5) rfl (l' := #[.val (.long q0), .second, .val (.long q1), .second, .val (.long q2), .second, .val (.long (q0 &&& (9223372036854775807 : Int64))), .second, .unset, .unset, .unset, .unset, .unset, .unset, .unset, .unset, .unset, .unset, .unset]) rfl ?_
    show Steps p.tables e below (s₁.setTop (mkF m 7 #[.val (.long q0), .second, .val (.long q1), .second, .val (.long q2), .second, .val (.long (q0 &&& (9223372036854775807 : Int64))), .second, .unset, .unset, .unset, .unset, .unset, .unset, .unset, .unset, .unset, .unset, .unset] [])) _
    exact kt
  obtain ⟨r1, hr1, er1⟩ := own_nat (q0 &&& (9223372036854775807 : Int64)) (own_nn _)
  obtain ⟨k1, hk18, hk1⟩ := own_Len8 hr1
  have pre191 : ∀ t, Steps p.tables e below (s₁.setTop (mkF m 7 #[.val (.long q0), .second, .val (.long q1), .second, .val (.long q2), .second, .val (.long (Int64.ofNat r1)), .second, .unset, .unset, .unset, .unset, .unset, .unset, .unset, .unset, .unset, .unset, .unset] [])) t → Steps p.tables e below (s₁.setTop (entryFrame m #[(.long q0), (.long q1), (.long q2)] maxLocals)) t := fun t kt => pre190 t (by rw [er1]; exact kt)
  have pre192 : ∀ t, Steps p.tables e below (s₁.setTop (mkF m 14 #[.val (.long q0), .second, .val (.long q1), .second, .val (.long q2), .second, .val (.long (Int64.ofNat r1)), .second, .val (.long (q1 &&& (9223372036854775807 : Int64))), .second, .unset, .unset, .unset, .unset, .unset, .unset, .unset, .unset, .unset] [])) t → Steps p.tables e below (s₁.setTop (entryFrame m #[(.long q0), (.long q1), (.long q2)] maxLocals)) t := fun t kt => by
    refine pre191 _ ?_
    show Steps p.tables e below (s₁.setTop (mkF m 7 #[.val (.long q0), .second, .val (.long q1), .second, .val (.long q2), .second, .val (.long (Int64.ofNat r1)), .second, .unset, .unset, .unset, .unset, .unset, .unset, .unset, .unset, .unset, .unset, .unset] [])) _
    refine XS.lloadN X0.here hx rfl (hb hby at_7) rfl ?_
    show Steps p.tables e below (s₁.setTop (mkF m 8 #[.val (.long q0), .second, .val (.long q1), .second, .val (.long q2), .second, .val (.long (Int64.ofNat r1)), .second, .unset, .unset, .unset, .unset, .unset, .unset, .unset, .unset, .unset, .unset, .unset] [(.long q1)])) _
    refine X0.ldc2Long hx hown (mvT hZ (hw _ (List.mem_of_getElem? (i := 0) rfl))) (g := (mkF m 8 #[.val (.long q0), .second, .val (.long q1), .second, .val (.long q2), .second, .val (.long (Int64.ofNat r1)), .second, .unset, .unset, .unset, .unset, .unset, .unset, .unset, .unset, .unset, .unset, .unset] [(.long q1)])) rfl (hb hby at_8) _ ?_
    show Steps p.tables e below (s₁.setTop (mkF m 11 #[.val (.long q0), .second, .val (.long q1), .second, .val (.long q2), .second, .val (.long (Int64.ofNat r1)), .second, .unset, .unset, .unset, .unset, .unset, .unset, .unset, .unset, .unset, .unset, .unset] [(.long (9223372036854775807 : Int64)), (.long q1)])) _
    refine XS.land X0.here hx rfl (hb hby at_11) rfl ?_
    show Steps p.tables e below (s₁.setTop (mkF m 12 #[.val (.long q0), .second, .val (.long q1), .second, .val (.long q2), .second, .val (.long (Int64.ofNat r1)), .second, .unset, .unset, .unset, .unset, .unset, .unset, .unset, .unset, .unset, .unset, .unset] [(.long (q1 &&& (9223372036854775807 : Int64)))])) _
    refine XS.lstore X0.here hx rfl (hb hby at_12) rfl (l' := #[.val (.long q0), .second, .val (.long q1), .second, .val (.long q2), .second, .val (.long (Int64.ofNat r1)), .second, .val (.long (q1 &&& (9223372036854775807 : Int64))), .second, .unset, .unset, .unset, .unset, .unset, .unset, .unset, .unset, .unset]) rfl ?_
    show Steps p.tables e below (s₁.setTop (mkF m 14 #[.val (.long q0), .second, .val (.long q1), .second, .val (.long q2), .second, .val (.long (Int64.ofNat r1)), .second, .val (.long (q1 &&& (9223372036854775807 : Int64))), .second, .unset, .unset, .unset, .unset, .unset, .unset, .unset, .unset, .unset] [])) _
    exact kt
  obtain ⟨r2, hr2, er2⟩ := own_nat (q1 &&& (9223372036854775807 : Int64)) (own_nn _)
  obtain ⟨k2, hk28, hk2⟩ := own_Len8 hr2
  have pre193 : ∀ t, Steps p.tables e below (s₁.setTop (mkF m 14 #[.val (.long q0), .second, .val (.long q1), .second, .val (.long q2), .second, .val (.long (Int64.ofNat r1)), .second, .val (.long (Int64.ofNat r2)), .second, .unset, .unset, .unset, .unset, .unset, .unset, .unset, .unset, .unset] [])) t → Steps p.tables e below (s₁.setTop (entryFrame m #[(.long q0), (.long q1), (.long q2)] maxLocals)) t := fun t kt => pre192 t (by rw [er2]; exact kt)
  have pre194 : ∀ t, Steps p.tables e below (s₁.setTop (mkF m 22 #[.val (.long q0), .second, .val (.long q1), .second, .val (.long q2), .second, .val (.long (Int64.ofNat r1)), .second, .val (.long (Int64.ofNat r2)), .second, .val (.long (q2 &&& (9223372036854775807 : Int64))), .second, .unset, .unset, .unset, .unset, .unset, .unset, .unset] [])) t → Steps p.tables e below (s₁.setTop (entryFrame m #[(.long q0), (.long q1), (.long q2)] maxLocals)) t := fun t kt => by
    refine pre193 _ ?_
    show Steps p.tables e below (s₁.setTop (mkF m 14 #[.val (.long q0), .second, .val (.long q1), .second, .val (.long q2), .second, .val (.long (Int64.ofNat r1)), .second, .val (.long (Int64.ofNat r2)), .second, .unset, .unset, .unset, .unset, .unset, .unset, .unset, .unset, .unset] [])) _
    refine XS.lload X0.here hx rfl (hb hby at_14) rfl ?_
    show Steps p.tables e below (s₁.setTop (mkF m 16 #[.val (.long q0), .second, .val (.long q1), .second, .val (.long q2), .second, .val (.long (Int64.ofNat r1)), .second, .val (.long (Int64.ofNat r2)), .second, .unset, .unset, .unset, .unset, .unset, .unset, .unset, .unset, .unset] [(.long q2)])) _
    refine X0.ldc2Long hx hown (mvT hZ (hw _ (List.mem_of_getElem? (i := 0) rfl))) (g := (mkF m 16 #[.val (.long q0), .second, .val (.long q1), .second, .val (.long q2), .second, .val (.long (Int64.ofNat r1)), .second, .val (.long (Int64.ofNat r2)), .second, .unset, .unset, .unset, .unset, .unset, .unset, .unset, .unset, .unset] [(.long q2)])) rfl (hb hby at_16) _ ?_
    show Steps p.tables e below (s₁.setTop (mkF m 19 #[.val (.long q0), .second, .val (.long q1), .second, .val (.long q2), .second, .val (.long (Int64.ofNat r1)), .second, .val (.long (Int64.ofNat r2)), .second, .unset, .unset, .unset, .unset, .unset, .unset, .unset, .unset, .unset] [(.long (9223372036854775807 : Int64)), (.long q2)])) _
    refine XS.land X0.here hx rfl (hb hby at_19) rfl ?_
    show Steps p.tables e below (s₁.setTop (mkF m 20 #[.val (.long q0), .second, .val (.long q1), .second, .val (.long q2), .second, .val (.long (Int64.ofNat r1)), .second, .val (.long (Int64.ofNat r2)), .second, .unset, .unset, .unset, .unset, .unset, .unset, .unset, .unset, .unset] [(.long (q2 &&& (9223372036854775807 : Int64)))])) _
    refine XS.lstore X0.here hx rfl (hb hby at_20) rfl (l' := #[.val (.long q0), .second, .val (.long q1), .second, .val (.long q2), .second, .val (.long (Int64.ofNat r1)), .second, .val (.long (Int64.ofNat r2)), .second, .val (.long (q2 &&& (9223372036854775807 : Int64))), .second, .unset, .unset, .unset, .unset, .unset, .unset, .unset]) rfl ?_
    show Steps p.tables e below (s₁.setTop (mkF m 22 #[.val (.long q0), .second, .val (.long q1), .second, .val (.long q2), .second, .val (.long (Int64.ofNat r1)), .second, .val (.long (Int64.ofNat r2)), .second, .val (.long (q2 &&& (9223372036854775807 : Int64))), .second, .unset, .unset, .unset, .unset, .unset, .unset, .unset] [])) _
    exact kt
  obtain ⟨r3, hr3, er3⟩ := own_nat (q2 &&& (9223372036854775807 : Int64)) (own_nn _)
  obtain ⟨k3, hk38, hk3⟩ := own_Len8 hr3
  have pre195 : ∀ t, Steps p.tables e below (s₁.setTop (mkF m 22 #[.val (.long q0), .second, .val (.long q1), .second, .val (.long q2), .second, .val (.long (Int64.ofNat r1)), .second, .val (.long (Int64.ofNat r2)), .second, .val (.long (Int64.ofNat r3)), .second, .unset, .unset, .unset, .unset, .unset, .unset, .unset] [])) t → Steps p.tables e below (s₁.setTop (entryFrame m #[(.long q0), (.long q1), (.long q2)] maxLocals)) t := fun t kt => pre194 t (by rw [er3]; exact kt)
  obtain ⟨T196, h196, X196, e196, E196, A196, D196, -, st196⟩ := newO X0 hx hZ hown (hw _ (List.mem_of_getElem? (i := 1) rfl)) (hw _ (List.mem_of_getElem? (i := 2) rfl)) (hw _ (List.mem_of_getElem? (i := 3) rfl)) e0 (g := (mkF m 22 #[.val (.long q0), .second, .val (.long q1), .second, .val (.long q2), .second, .val (.long (Int64.ofNat r1)), .second, .val (.long (Int64.ofNat r2)), .second, .val (.long (Int64.ofNat r3)), .second, .unset, .unset, .unset, .unset, .unset, .unset, .unset] [])) rfl (hb hby at_22) (by decide) (by decide)
  obtain ⟨b196, g196⟩ : ∃ z, z = h0.size := ⟨_, rfl⟩
  rw [← g196] at A196 D196 st196
  have g_b196 : n0 ≤ b196 := Nat.le_trans Z0 (Nat.le_of_eq g196.symm)
  have Z197 : n0 ≤ h196.size := Nat.le_trans Z0 E196.1
  have F196_bytes : Fld Z h196 b196 "com/example/wee_find/weefind/HeldMatches" "bytes" "[B" .null := D196 (Or.inr (hw _ (List.mem_of_getElem? (i := 19) rfl))) (ty := (.array .byte)) (by decide)
  have F196_mask : Fld Z h196 b196 "com/example/wee_find/weefind/HeldMatches" "mask" "I" (.int (0 : Int32)) := D196 (Or.inr (hw _ (List.mem_of_getElem? (i := 21) rfl))) (ty := .int) (by decide)
  have F196_limit : Fld Z h196 b196 "com/example/wee_find/weefind/HeldMatches" "limit" "J" (.long (0 : Int64)) := D196 (Or.inl (hw _ (List.mem_of_getElem? (i := 23) rfl))) (ty := .long) (by decide)
  have F196_written : Fld Z h196 b196 "com/example/wee_find/weefind/HeldMatches" "written" "J" (.long (0 : Int64)) := D196 (Or.inl (hw _ (List.mem_of_getElem? (i := 31) rfl))) (ty := .long) (by decide)
  have F196_taking : Fld Z h196 b196 "com/example/wee_find/weefind/HeldMatches" "taking" "J" (.long (0 : Int64)) := D196 (Or.inl (hw _ (List.mem_of_getElem? (i := 38) rfl))) (ty := .long) (by decide)
  have F196_freed : Fld Z h196 b196 "com/example/wee_find/weefind/HeldMatches" "freed" "J" (.long (0 : Int64)) := D196 (Or.inl (hw _ (List.mem_of_getElem? (i := 45) rfl))) (ty := .long) (by decide)
  obtain ⟨_, _, ⟨T198, L198, k198, n198⟩, -, X198, ⟨Lc198, hQ198, l198, y198, z198⟩, st198⟩ := X196.specialBack hx (y := (⟨"com/example/wee_find/weefind/HeldMatches", "<init>", "(I)V"⟩ : MethodName)) rfl hown (mvT hZ (hw _ (List.mem_of_getElem? (i := 4) rfl))) (mvT hZ (hw _ (List.mem_of_getElem? (i := 5) rfl))) (mvT hZ (hw _ (List.mem_of_getElem? (i := 6) rfl))) (by decide) (backOf (W := 1) (rm1 l Z aq hw [] b196 h196 n0 Z197 A196 F196_bytes F196_mask F196_limit F196_written F196_taking F196_freed g_b196) hZ (hw _ (List.mem_of_getElem? (i := 6) rfl)) (hw _ (List.mem_of_getElem? (i := 3) rfl)) (by decide) (by decide)) (g := (mkF m 28 #[.val (.long q0), .second, .val (.long q1), .second, .val (.long q2), .second, .val (.long (Int64.ofNat r1)), .second, .val (.long (Int64.ofNat r2)), .second, .val (.long (Int64.ofNat r3)), .second, .unset, .unset, .unset, .unset, .unset, .unset, .unset] [(.int (16 : Int32)), (.ref b196), (.ref b196)])) rfl (by rw [hml]; rfl) (Steps.refl _) (a := b196) (argsL := [(.int (16 : Int32))]) (rest := [(.ref b196)]) (lenOf pd87992021 rfl) rfl (by show 2 * 0 + _ ≤ _; exact Nat.le_of_eq rfl) (hb hby at_28) (fun _ _ => ⟨rfl, e196, (by decide : 1 + 1 ≤ _), (by decide : 6 + 16 ≤ _)⟩)
  dsimp only [Pt.U, Pt.locs, Pt.cells, Pt.slots] at X198 l198 y198 z198 st198 hQ198
  subst l198 y198 z198
  obtain ⟨r198, rfl, N198q, K198, s198, y198_0, y198_1, y198_2, y198_3, y198_4, y198_5, y198_6, y198_7⟩ := hQ198
  have g_r198 : n0 ≤ r198 := Nat.le_trans Z197 s198
  have ne_r198 : b196 ≠ r198 := Nat.ne_of_lt (Nat.lt_of_lt_of_le A196.lt s198)
  have Z199 : n0 ≤ T198.heap.size := Nat.le_trans Z197 K198.1
  have N200 := Fr.app N0 N198q
  obtain ⟨cq201, kq201, q201a, q201b, q201c⟩ := isOf hZ rfl y198_0
  obtain ⟨_, _, ⟨T201, L201, k201, n201⟩, -, X201, ⟨Lc201, hQ201, l201, y201, z201⟩, st201⟩ := X198.virtualBack hx (y := (⟨"com/example/wee_find/weefind/HeldMatches", "write", "(J)V"⟩ : MethodName)) (z := (⟨"com/example/wee_find/weefind/HeldMatches", "write", "(J)V"⟩ : MethodName)) hown (mvT hZ (hw _ (List.mem_of_getElem? (i := 24) rfl))) (mvT hZ (hw _ (List.mem_of_getElem? (i := 25) rfl))) (notFace_of_selects (args := #[]) (mvT hZ (hw _ (List.mem_of_getElem? (i := 27) rfl)))) (mvT hZ (hw _ (List.mem_of_getElem? (i := 27) rfl))) (mvT hZ (hw _ (List.mem_of_getElem? (i := 26) rfl))) (by decide) (backOf (W := 0) (rm4 l Z aq hw [] b196 r198 k1 r1 0 (fun _ => (0 : Int32)) (16 : Int64) (Int64.ofNat 0) (0 : Int64) T198.heap n0 Z199 y198_0 y198_1 y198_2 y198_3 y198_4 y198_5 y198_6 y198_7 g_b196 g_r198 (Ne.symm ne_r198) hk1 hr1 (by omega) (by omega)) hZ (hw _ (List.mem_of_getElem? (i := 28) rfl)) (hw _ (List.mem_of_getElem? (i := 3) rfl)) (by decide) (by decide)) q201a q201c (g := (mkF m 37 #[.val (.long q0), .second, .val (.long q1), .second, .val (.long q2), .second, .val (.long (Int64.ofNat r1)), .second, .val (.long (Int64.ofNat r2)), .second, .val (.long (Int64.ofNat r3)), .second, .val (.ref b196), .unset, .unset, .unset, .unset, .unset, .unset] [(.long (Int64.ofNat r1)), (.ref b196)])) rfl (by rw [hml]; rfl) (Steps.refl _) (argsL := [(.long (Int64.ofNat r1))]) (rest := []) (lenOf pd87993110 rfl) rfl (by show 2 * 0 + _ ≤ _; exact Nat.le_of_eq rfl) (hb hby at_37) (fun _ _ => ⟨rfl, rfl, (by decide : 2 + 0 ≤ _), (by decide : 22 + 0 ≤ _)⟩)
  dsimp only [Pt.U, Pt.locs, Pt.cells, Pt.slots] at X201 l201 y201 z201 st201 hQ201
  subst l201 y201 z201
  obtain ⟨f201, rfl, N201q, K201, y201_0, y201_1, y201_2, y201_3, y201_4, y201_5, y201_6, y201_7, enc201⟩ := hQ201
  have Z202 : n0 ≤ T201.heap.size := Nat.le_trans Z199 K201.1
  have N203 := Fr.app N200 N201q
  obtain ⟨cq204, kq204, q204a, q204b, q204c⟩ := isOf hZ rfl y201_0
  obtain ⟨_, _, ⟨T204, L204, k204, n204⟩, -, X204, ⟨Lc204, hQ204, l204, y204, z204⟩, st204⟩ := X201.virtualBack hx (y := (⟨"com/example/wee_find/weefind/HeldMatches", "take", "()J"⟩ : MethodName)) (z := (⟨"com/example/wee_find/weefind/HeldMatches", "take", "()J"⟩ : MethodName)) hown (mvT hZ (hw _ (List.mem_of_getElem? (i := 32) rfl))) (mvT hZ (hw _ (List.mem_of_getElem? (i := 33) rfl))) (notFace_of_selects (args := #[]) (mvT hZ (hw _ (List.mem_of_getElem? (i := 35) rfl)))) (mvT hZ (hw _ (List.mem_of_getElem? (i := 35) rfl))) (mvT hZ (hw _ (List.mem_of_getElem? (i := 34) rfl))) (by decide) (backOf (W := 0) (rm5 l Z aq hw [] b196 r198 k1 r1 0 f201 (16 : Int64) (Int64.ofNat (0 + k1 + 1)) (0 : Int64) T201.heap n0 Z202 y201_0 y201_1 y201_2 y201_3 y201_4 y201_5 y201_6 y201_7 g_b196 (Ne.symm ne_r198) enc201 hr1 (by omega) (by omega)) hZ (hw _ (List.mem_of_getElem? (i := 36) rfl)) (hw _ (List.mem_of_getElem? (i := 3) rfl)) (by decide) (by decide)) q204a q204c (g := (mkF m 42 #[.val (.long q0), .second, .val (.long q1), .second, .val (.long q2), .second, .val (.long (Int64.ofNat r1)), .second, .val (.long (Int64.ofNat r2)), .second, .val (.long (Int64.ofNat r3)), .second, .val (.ref b196), .unset, .unset, .unset, .unset, .unset, .unset] [(.ref b196)])) rfl (by rw [hml]; rfl) (Steps.refl _) (argsL := []) (rest := []) (lenOf pd93421984 rfl) rfl (by show 2 * 0 + _ ≤ _; exact Nat.le_of_eq rfl) (hb hby at_42) (fun _ _ => ⟨rfl, rfl, (by decide : 2 + 0 ≤ _), (by decide : 22 + 0 ≤ _)⟩)
  dsimp only [Pt.U, Pt.locs, Pt.cells, Pt.slots] at X204 l204 y204 z204 st204 hQ204
  subst l204 y204 z204
  obtain ⟨rfl, N204q, K204, y204_0, y204_1, y204_2, y204_3, y204_4, y204_5, y204_6, y204_7⟩ := hQ204
  have V205 := y201_7.keep K204 (ninS (Ne.symm ne_r198) nin0)
  have Z206 : n0 ≤ T204.heap.size := Nat.le_trans Z202 K204.1
  have N207 := Fr.app N203 N204q
  obtain ⟨cq208, kq208, q208a, q208b, q208c⟩ := isOf hZ rfl y204_0
  obtain ⟨_, _, ⟨T208, L208, k208, n208⟩, -, X208, ⟨Lc208, hQ208, l208, y208, z208⟩, st208⟩ := X204.virtualBack hx (y := (⟨"com/example/wee_find/weefind/HeldMatches", "free", "()V"⟩ : MethodName)) (z := (⟨"com/example/wee_find/weefind/HeldMatches", "free", "()V"⟩ : MethodName)) hown (mvT hZ (hw _ (List.mem_of_getElem? (i := 39) rfl))) (mvT hZ (hw _ (List.mem_of_getElem? (i := 40) rfl))) (notFace_of_selects (args := #[]) (mvT hZ (hw _ (List.mem_of_getElem? (i := 42) rfl)))) (mvT hZ (hw _ (List.mem_of_getElem? (i := 42) rfl))) (mvT hZ (hw _ (List.mem_of_getElem? (i := 41) rfl))) (by decide) (backOf (W := 0) (rm6 l Z aq hw [] b196 r198 (15 : Int32) (16 : Int64) (Int64.ofNat (0 + k1 + 1)) (Int64.ofNat (0 + k1 + 1)) (0 : Int64) T204.heap n0 Z206 y204_0 y204_1 y204_2 y204_3 y204_4 y204_5 y204_6 g_b196) hZ (hw _ (List.mem_of_getElem? (i := 43) rfl)) (hw _ (List.mem_of_getElem? (i := 3) rfl)) (by decide) (by decide)) q208a q208c (g := (mkF m 49 #[.val (.long q0), .second, .val (.long q1), .second, .val (.long q2), .second, .val (.long (Int64.ofNat r1)), .second, .val (.long (Int64.ofNat r2)), .second, .val (.long (Int64.ofNat r3)), .second, .val (.ref b196), .val (.long (Int64.ofNat r1)), .second, .unset, .unset, .unset, .unset] [(.ref b196)])) rfl (by rw [hml]; rfl) (Steps.refl _) (argsL := []) (rest := []) (lenOf pd93421996 rfl) rfl (by show 2 * 0 + _ ≤ _; exact Nat.le_of_eq rfl) (hb hby at_49) (fun _ _ => ⟨rfl, rfl, (by decide : 2 + 0 ≤ _), (by decide : 22 + 0 ≤ _)⟩)
  dsimp only [Pt.U, Pt.locs, Pt.cells, Pt.slots] at X208 l208 y208 z208 st208 hQ208
  subst l208 y208 z208
  obtain ⟨rfl, N208q, K208, E208_0, F208_0, F208_1, F208_2, F208_3, F208_4, F208_5⟩ := hQ208
  have V209 := y204_7.keep K208 (ninS (Ne.symm ne_r198) nin0)
  have Z210 : n0 ≤ T208.heap.size := Nat.le_trans Z206 K208.1
  have N211 := Fr.app N207 N208q
  obtain ⟨cq212, kq212, q212a, q212b, q212c⟩ := isOf hZ rfl E208_0
  obtain ⟨_, _, ⟨T212, L212, k212, n212⟩, -, X212, ⟨Lc212, hQ212, l212, y212, z212⟩, st212⟩ := X208.virtualBack hx (y := (⟨"com/example/wee_find/weefind/HeldMatches", "refresh", "()V"⟩ : MethodName)) (z := (⟨"com/example/wee_find/weefind/HeldMatches", "refresh", "()V"⟩ : MethodName)) hown (mvT hZ (hw _ (List.mem_of_getElem? (i := 46) rfl))) (mvT hZ (hw _ (List.mem_of_getElem? (i := 47) rfl))) (notFace_of_selects (args := #[]) (mvT hZ (hw _ (List.mem_of_getElem? (i := 49) rfl)))) (mvT hZ (hw _ (List.mem_of_getElem? (i := 49) rfl))) (mvT hZ (hw _ (List.mem_of_getElem? (i := 48) rfl))) (by decide) (backOf (W := 0) (rm7 l Z aq hw [] b196 r198 f201 (16 : Int64) (Int64.ofNat (0 + k1 + 1)) (Int64.ofNat (0 + k1 + 1)) (Int64.ofNat (0 + k1 + 1)) T208.heap n0 Z210 E208_0 F208_0 F208_1 F208_2 F208_3 F208_4 F208_5 V209 g_b196 (Ne.symm ne_r198)) hZ (hw _ (List.mem_of_getElem? (i := 50) rfl)) (hw _ (List.mem_of_getElem? (i := 3) rfl)) (by decide) (by decide)) q212a q212c (g := (mkF m 54 #[.val (.long q0), .second, .val (.long q1), .second, .val (.long q2), .second, .val (.long (Int64.ofNat r1)), .second, .val (.long (Int64.ofNat r2)), .second, .val (.long (Int64.ofNat r3)), .second, .val (.ref b196), .val (.long (Int64.ofNat r1)), .second, .unset, .unset, .unset, .unset] [(.ref b196)])) rfl (by rw [hml]; rfl) (Steps.refl _) (argsL := []) (rest := []) (lenOf pd93421996 rfl) rfl (by show 2 * 0 + _ ≤ _; exact Nat.le_of_eq rfl) (hb hby at_54) (fun _ _ => ⟨rfl, rfl, (by decide : 2 + 0 ≤ _), (by decide : 22 + 0 ≤ _)⟩)
  dsimp only [Pt.U, Pt.locs, Pt.cells, Pt.slots] at X212 l212 y212 z212 st212 hQ212
  subst l212 y212 z212
  obtain ⟨rfl, N212q, K212, y212_0, y212_1, y212_2, y212_3, y212_4, y212_5, y212_6, y212_7⟩ := hQ212
  have V213 := V209.keep K212 (ninS (Ne.symm ne_r198) nin0)
  have Z214 : n0 ≤ T212.heap.size := Nat.le_trans Z210 K212.1
  have N215 := Fr.app N211 N212q
  obtain ⟨cq216, kq216, q216a, q216b, q216c⟩ := isOf hZ rfl y212_0
  obtain ⟨_, _, ⟨T216, L216, k216, n216⟩, -, X216, ⟨Lc216, hQ216, l216, y216, z216⟩, st216⟩ := X212.virtualBack hx (y := (⟨"com/example/wee_find/weefind/HeldMatches", "write", "(J)V"⟩ : MethodName)) (z := (⟨"com/example/wee_find/weefind/HeldMatches", "write", "(J)V"⟩ : MethodName)) hown (mvT hZ (hw _ (List.mem_of_getElem? (i := 24) rfl))) (mvT hZ (hw _ (List.mem_of_getElem? (i := 25) rfl))) (notFace_of_selects (args := #[]) (mvT hZ (hw _ (List.mem_of_getElem? (i := 27) rfl)))) (mvT hZ (hw _ (List.mem_of_getElem? (i := 27) rfl))) (mvT hZ (hw _ (List.mem_of_getElem? (i := 26) rfl))) (by decide) (backOf (W := 0) (rm4 l Z aq hw [] b196 r198 k2 r2 (0 + k1 + 1) f201 ((Int64.ofNat (0 + k1 + 1)) + ((16 : Int32).toInt64)) (Int64.ofNat (0 + k1 + 1)) (Int64.ofNat (0 + k1 + 1)) T212.heap n0 Z214 y212_0 y212_1 y212_2 y212_3 y212_4 y212_5 y212_6 y212_7 g_b196 g_r198 (Ne.symm ne_r198) hk2 hr2 (by omega) (by omega)) hZ (hw _ (List.mem_of_getElem? (i := 28) rfl)) (hw _ (List.mem_of_getElem? (i := 3) rfl)) (by decide) (by decide)) q216a q216c (g := (mkF m 61 #[.val (.long q0), .second, .val (.long q1), .second, .val (.long q2), .second, .val (.long (Int64.ofNat r1)), .second, .val (.long (Int64.ofNat r2)), .second, .val (.long (Int64.ofNat r3)), .second, .val (.ref b196), .val (.long (Int64.ofNat r1)), .second, .unset, .unset, .unset, .unset] [(.long (Int64.ofNat r2)), (.ref b196)])) rfl (by rw [hml]; rfl) (Steps.refl _) (argsL := [(.long (Int64.ofNat r2))]) (rest := []) (lenOf pd87993110 rfl) rfl (by show 2 * 0 + _ ≤ _; exact Nat.le_of_eq rfl) (hb hby at_61) (fun _ _ => ⟨rfl, rfl, (by decide : 2 + 0 ≤ _), (by decide : 22 + 0 ≤ _)⟩)
  dsimp only [Pt.U, Pt.locs, Pt.cells, Pt.slots] at X216 l216 y216 z216 st216 hQ216
  subst l216 y216 z216
  obtain ⟨f216, rfl, N216q, K216, y216_0, y216_1, y216_2, y216_3, y216_4, y216_5, y216_6, y216_7, enc216⟩ := hQ216
  have Z217 : n0 ≤ T216.heap.size := Nat.le_trans Z214 K216.1
  have N218 := Fr.app N215 N216q
  obtain ⟨cq219, kq219, q219a, q219b, q219c⟩ := isOf hZ rfl y216_0
  obtain ⟨_, _, ⟨T219, L219, k219, n219⟩, -, X219, ⟨Lc219, hQ219, l219, y219, z219⟩, st219⟩ := X216.virtualBack hx (y := (⟨"com/example/wee_find/weefind/HeldMatches", "take", "()J"⟩ : MethodName)) (z := (⟨"com/example/wee_find/weefind/HeldMatches", "take", "()J"⟩ : MethodName)) hown (mvT hZ (hw _ (List.mem_of_getElem? (i := 32) rfl))) (mvT hZ (hw _ (List.mem_of_getElem? (i := 33) rfl))) (notFace_of_selects (args := #[]) (mvT hZ (hw _ (List.mem_of_getElem? (i := 35) rfl)))) (mvT hZ (hw _ (List.mem_of_getElem? (i := 35) rfl))) (mvT hZ (hw _ (List.mem_of_getElem? (i := 34) rfl))) (by decide) (backOf (W := 0) (rm5 l Z aq hw [] b196 r198 k2 r2 (0 + k1 + 1) f216 ((Int64.ofNat (0 + k1 + 1)) + ((16 : Int32).toInt64)) (Int64.ofNat ((0 + k1 + 1) + k2 + 1)) (Int64.ofNat (0 + k1 + 1)) T216.heap n0 Z217 y216_0 y216_1 y216_2 y216_3 y216_4 y216_5 y216_6 y216_7 g_b196 (Ne.symm ne_r198) enc216 hr2 (by omega) (by omega)) hZ (hw _ (List.mem_of_getElem? (i := 36) rfl)) (hw _ (List.mem_of_getElem? (i := 3) rfl)) (by decide) (by decide)) q219a q219c (g := (mkF m 66 #[.val (.long q0), .second, .val (.long q1), .second, .val (.long q2), .second, .val (.long (Int64.ofNat r1)), .second, .val (.long (Int64.ofNat r2)), .second, .val (.long (Int64.ofNat r3)), .second, .val (.ref b196), .val (.long (Int64.ofNat r1)), .second, .unset, .unset, .unset, .unset] [(.ref b196)])) rfl (by rw [hml]; rfl) (Steps.refl _) (argsL := []) (rest := []) (lenOf pd93421984 rfl) rfl (by show 2 * 0 + _ ≤ _; exact Nat.le_of_eq rfl) (hb hby at_66) (fun _ _ => ⟨rfl, rfl, (by decide : 2 + 0 ≤ _), (by decide : 22 + 0 ≤ _)⟩)
  dsimp only [Pt.U, Pt.locs, Pt.cells, Pt.slots] at X219 l219 y219 z219 st219 hQ219
  subst l219 y219 z219
  obtain ⟨rfl, N219q, K219, y219_0, y219_1, y219_2, y219_3, y219_4, y219_5, y219_6, y219_7⟩ := hQ219
  have V220 := y216_7.keep K219 (ninS (Ne.symm ne_r198) nin0)
  have Z221 : n0 ≤ T219.heap.size := Nat.le_trans Z217 K219.1
  have N222 := Fr.app N218 N219q
  obtain ⟨cq223, kq223, q223a, q223b, q223c⟩ := isOf hZ rfl y219_0
  obtain ⟨_, _, ⟨T223, L223, k223, n223⟩, -, X223, ⟨Lc223, hQ223, l223, y223, z223⟩, st223⟩ := X219.virtualBack hx (y := (⟨"com/example/wee_find/weefind/HeldMatches", "free", "()V"⟩ : MethodName)) (z := (⟨"com/example/wee_find/weefind/HeldMatches", "free", "()V"⟩ : MethodName)) hown (mvT hZ (hw _ (List.mem_of_getElem? (i := 39) rfl))) (mvT hZ (hw _ (List.mem_of_getElem? (i := 40) rfl))) (notFace_of_selects (args := #[]) (mvT hZ (hw _ (List.mem_of_getElem? (i := 42) rfl)))) (mvT hZ (hw _ (List.mem_of_getElem? (i := 42) rfl))) (mvT hZ (hw _ (List.mem_of_getElem? (i := 41) rfl))) (by decide) (backOf (W := 0) (rm6 l Z aq hw [] b196 r198 (15 : Int32) ((Int64.ofNat (0 + k1 + 1)) + ((16 : Int32).toInt64)) (Int64.ofNat ((0 + k1 + 1) + k2 + 1)) (Int64.ofNat ((0 + k1 + 1) + k2 + 1)) (Int64.ofNat (0 + k1 + 1)) T219.heap n0 Z221 y219_0 y219_1 y219_2 y219_3 y219_4 y219_5 y219_6 g_b196) hZ (hw _ (List.mem_of_getElem? (i := 43) rfl)) (hw _ (List.mem_of_getElem? (i := 3) rfl)) (by decide) (by decide)) q223a q223c (g := (mkF m 73 #[.val (.long q0), .second, .val (.long q1), .second, .val (.long q2), .second, .val (.long (Int64.ofNat r1)), .second, .val (.long (Int64.ofNat r2)), .second, .val (.long (Int64.ofNat r3)), .second, .val (.ref b196), .val (.long (Int64.ofNat r1)), .second, .val (.long (Int64.ofNat r2)), .second, .unset, .unset] [(.ref b196)])) rfl (by rw [hml]; rfl) (Steps.refl _) (argsL := []) (rest := []) (lenOf pd93421996 rfl) rfl (by show 2 * 0 + _ ≤ _; exact Nat.le_of_eq rfl) (hb hby at_73) (fun _ _ => ⟨rfl, rfl, (by decide : 2 + 0 ≤ _), (by decide : 22 + 0 ≤ _)⟩)
  dsimp only [Pt.U, Pt.locs, Pt.cells, Pt.slots] at X223 l223 y223 z223 st223 hQ223
  subst l223 y223 z223
  obtain ⟨rfl, N223q, K223, E223_0, F223_0, F223_1, F223_2, F223_3, F223_4, F223_5⟩ := hQ223
  have V224 := y219_7.keep K223 (ninS (Ne.symm ne_r198) nin0)
  have Z225 : n0 ≤ T223.heap.size := Nat.le_trans Z221 K223.1
  have N226 := Fr.app N222 N223q
  obtain ⟨cq227, kq227, q227a, q227b, q227c⟩ := isOf hZ rfl E223_0
  obtain ⟨_, _, ⟨T227, L227, k227, n227⟩, -, X227, ⟨Lc227, hQ227, l227, y227, z227⟩, st227⟩ := X223.virtualBack hx (y := (⟨"com/example/wee_find/weefind/HeldMatches", "refresh", "()V"⟩ : MethodName)) (z := (⟨"com/example/wee_find/weefind/HeldMatches", "refresh", "()V"⟩ : MethodName)) hown (mvT hZ (hw _ (List.mem_of_getElem? (i := 46) rfl))) (mvT hZ (hw _ (List.mem_of_getElem? (i := 47) rfl))) (notFace_of_selects (args := #[]) (mvT hZ (hw _ (List.mem_of_getElem? (i := 49) rfl)))) (mvT hZ (hw _ (List.mem_of_getElem? (i := 49) rfl))) (mvT hZ (hw _ (List.mem_of_getElem? (i := 48) rfl))) (by decide) (backOf (W := 0) (rm7 l Z aq hw [] b196 r198 f216 ((Int64.ofNat (0 + k1 + 1)) + ((16 : Int32).toInt64)) (Int64.ofNat ((0 + k1 + 1) + k2 + 1)) (Int64.ofNat ((0 + k1 + 1) + k2 + 1)) (Int64.ofNat ((0 + k1 + 1) + k2 + 1)) T223.heap n0 Z225 E223_0 F223_0 F223_1 F223_2 F223_3 F223_4 F223_5 V224 g_b196 (Ne.symm ne_r198)) hZ (hw _ (List.mem_of_getElem? (i := 50) rfl)) (hw _ (List.mem_of_getElem? (i := 3) rfl)) (by decide) (by decide)) q227a q227c (g := (mkF m 78 #[.val (.long q0), .second, .val (.long q1), .second, .val (.long q2), .second, .val (.long (Int64.ofNat r1)), .second, .val (.long (Int64.ofNat r2)), .second, .val (.long (Int64.ofNat r3)), .second, .val (.ref b196), .val (.long (Int64.ofNat r1)), .second, .val (.long (Int64.ofNat r2)), .second, .unset, .unset] [(.ref b196)])) rfl (by rw [hml]; rfl) (Steps.refl _) (argsL := []) (rest := []) (lenOf pd93421996 rfl) rfl (by show 2 * 0 + _ ≤ _; exact Nat.le_of_eq rfl) (hb hby at_78) (fun _ _ => ⟨rfl, rfl, (by decide : 2 + 0 ≤ _), (by decide : 22 + 0 ≤ _)⟩)
  dsimp only [Pt.U, Pt.locs, Pt.cells, Pt.slots] at X227 l227 y227 z227 st227 hQ227
  subst l227 y227 z227
  obtain ⟨rfl, N227q, K227, y227_0, y227_1, y227_2, y227_3, y227_4, y227_5, y227_6, y227_7⟩ := hQ227
  have V228 := V224.keep K227 (ninS (Ne.symm ne_r198) nin0)
  have Z229 : n0 ≤ T227.heap.size := Nat.le_trans Z225 K227.1
  have N230 := Fr.app N226 N227q
  obtain ⟨cq231, kq231, q231a, q231b, q231c⟩ := isOf hZ rfl y227_0
  obtain ⟨_, _, ⟨T231, L231, k231, n231⟩, -, X231, ⟨Lc231, hQ231, l231, y231, z231⟩, st231⟩ := X227.virtualBack hx (y := (⟨"com/example/wee_find/weefind/HeldMatches", "write", "(J)V"⟩ : MethodName)) (z := (⟨"com/example/wee_find/weefind/HeldMatches", "write", "(J)V"⟩ : MethodName)) hown (mvT hZ (hw _ (List.mem_of_getElem? (i := 24) rfl))) (mvT hZ (hw _ (List.mem_of_getElem? (i := 25) rfl))) (notFace_of_selects (args := #[]) (mvT hZ (hw _ (List.mem_of_getElem? (i := 27) rfl)))) (mvT hZ (hw _ (List.mem_of_getElem? (i := 27) rfl))) (mvT hZ (hw _ (List.mem_of_getElem? (i := 26) rfl))) (by decide) (backOf (W := 0) (rm4 l Z aq hw [] b196 r198 k3 r3 ((0 + k1 + 1) + k2 + 1) f216 ((Int64.ofNat ((0 + k1 + 1) + k2 + 1)) + ((16 : Int32).toInt64)) (Int64.ofNat ((0 + k1 + 1) + k2 + 1)) (Int64.ofNat ((0 + k1 + 1) + k2 + 1)) T227.heap n0 Z229 y227_0 y227_1 y227_2 y227_3 y227_4 y227_5 y227_6 y227_7 g_b196 g_r198 (Ne.symm ne_r198) hk3 hr3 (by omega) (by omega)) hZ (hw _ (List.mem_of_getElem? (i := 28) rfl)) (hw _ (List.mem_of_getElem? (i := 3) rfl)) (by decide) (by decide)) q231a q231c (g := (mkF m 85 #[.val (.long q0), .second, .val (.long q1), .second, .val (.long q2), .second, .val (.long (Int64.ofNat r1)), .second, .val (.long (Int64.ofNat r2)), .second, .val (.long (Int64.ofNat r3)), .second, .val (.ref b196), .val (.long (Int64.ofNat r1)), .second, .val (.long (Int64.ofNat r2)), .second, .unset, .unset] [(.long (Int64.ofNat r3)), (.ref b196)])) rfl (by rw [hml]; rfl) (Steps.refl _) (argsL := [(.long (Int64.ofNat r3))]) (rest := []) (lenOf pd87993110 rfl) rfl (by show 2 * 0 + _ ≤ _; exact Nat.le_of_eq rfl) (hb hby at_85) (fun _ _ => ⟨rfl, rfl, (by decide : 2 + 0 ≤ _), (by decide : 22 + 0 ≤ _)⟩)
  dsimp only [Pt.U, Pt.locs, Pt.cells, Pt.slots] at X231 l231 y231 z231 st231 hQ231
  subst l231 y231 z231
  obtain ⟨f231, rfl, N231q, K231, y231_0, y231_1, y231_2, y231_3, y231_4, y231_5, y231_6, y231_7, enc231⟩ := hQ231
  have Z232 : n0 ≤ T231.heap.size := Nat.le_trans Z229 K231.1
  have N233 := Fr.app N230 N231q
  obtain ⟨cq234, kq234, q234a, q234b, q234c⟩ := isOf hZ rfl y231_0
  obtain ⟨_, _, ⟨T234, L234, k234, n234⟩, -, X234, ⟨Lc234, hQ234, l234, y234, z234⟩, st234⟩ := X231.virtualBack hx (y := (⟨"com/example/wee_find/weefind/HeldMatches", "take", "()J"⟩ : MethodName)) (z := (⟨"com/example/wee_find/weefind/HeldMatches", "take", "()J"⟩ : MethodName)) hown (mvT hZ (hw _ (List.mem_of_getElem? (i := 32) rfl))) (mvT hZ (hw _ (List.mem_of_getElem? (i := 33) rfl))) (notFace_of_selects (args := #[]) (mvT hZ (hw _ (List.mem_of_getElem? (i := 35) rfl)))) (mvT hZ (hw _ (List.mem_of_getElem? (i := 35) rfl))) (mvT hZ (hw _ (List.mem_of_getElem? (i := 34) rfl))) (by decide) (backOf (W := 0) (rm5 l Z aq hw [] b196 r198 k3 r3 ((0 + k1 + 1) + k2 + 1) f231 ((Int64.ofNat ((0 + k1 + 1) + k2 + 1)) + ((16 : Int32).toInt64)) (Int64.ofNat (((0 + k1 + 1) + k2 + 1) + k3 + 1)) (Int64.ofNat ((0 + k1 + 1) + k2 + 1)) T231.heap n0 Z232 y231_0 y231_1 y231_2 y231_3 y231_4 y231_5 y231_6 y231_7 g_b196 (Ne.symm ne_r198) enc231 hr3 (by omega) (by omega)) hZ (hw _ (List.mem_of_getElem? (i := 36) rfl)) (hw _ (List.mem_of_getElem? (i := 3) rfl)) (by decide) (by decide)) q234a q234c (g := (mkF m 90 #[.val (.long q0), .second, .val (.long q1), .second, .val (.long q2), .second, .val (.long (Int64.ofNat r1)), .second, .val (.long (Int64.ofNat r2)), .second, .val (.long (Int64.ofNat r3)), .second, .val (.ref b196), .val (.long (Int64.ofNat r1)), .second, .val (.long (Int64.ofNat r2)), .second, .unset, .unset] [(.ref b196)])) rfl (by rw [hml]; rfl) (Steps.refl _) (argsL := []) (rest := []) (lenOf pd93421984 rfl) rfl (by show 2 * 0 + _ ≤ _; exact Nat.le_of_eq rfl) (hb hby at_90) (fun _ _ => ⟨rfl, rfl, (by decide : 2 + 0 ≤ _), (by decide : 22 + 0 ≤ _)⟩)
  dsimp only [Pt.U, Pt.locs, Pt.cells, Pt.slots] at X234 l234 y234 z234 st234 hQ234
  subst l234 y234 z234
  obtain ⟨rfl, N234q, K234, y234_0, y234_1, y234_2, y234_3, y234_4, y234_5, y234_6, y234_7⟩ := hQ234
  have V235 := y231_7.keep K234 (ninS (Ne.symm ne_r198) nin0)
  have Z236 : n0 ≤ T234.heap.size := Nat.le_trans Z232 K234.1
  have N237 := Fr.app N233 N234q
  have pre238 : ∀ t, Steps p.tables e below (T234.setTop (mkF m 124 #[.val (.long q0), .second, .val (.long q1), .second, .val (.long q2), .second, .val (.long (Int64.ofNat r1)), .second, .val (.long (Int64.ofNat r2)), .second, .val (.long (Int64.ofNat r3)), .second, .val (.ref b196), .val (.long (Int64.ofNat r1)), .second, .val (.long (Int64.ofNat r2)), .second, .val (.long (Int64.ofNat r3)), .second] [(.int (1 : Int32))])) t → Steps p.tables e below (s₁.setTop (entryFrame m #[(.long q0), (.long q1), (.long q2)] maxLocals)) t := fun t kt => by
    refine pre195 _ ?_
    show Steps p.tables e below (s₁.setTop (mkF m 22 #[.val (.long q0), .second, .val (.long q1), .second, .val (.long q2), .second, .val (.long (Int64.ofNat r1)), .second, .val (.long (Int64.ofNat r2)), .second, .val (.long (Int64.ofNat r3)), .second, .unset, .unset, .unset, .unset, .unset, .unset, .unset] [])) _
    refine st196 _ ?_
    show Steps p.tables e below (T196.setTop (mkF m 25 #[.val (.long q0), .second, .val (.long q1), .second, .val (.long q2), .second, .val (.long (Int64.ofNat r1)), .second, .val (.long (Int64.ofNat r2)), .second, .val (.long (Int64.ofNat r3)), .second, .unset, .unset, .unset, .unset, .unset, .unset, .unset] [(.ref b196)])) _
    refine XS.dup X196.here hx rfl (hb hby at_25) rfl rfl ?_
    show Steps p.tables e below (T196.setTop (mkF m 26 #[.val (.long q0), .second, .val (.long q1), .second, .val (.long q2), .second, .val (.long (Int64.ofNat r1)), .second, .val (.long (Int64.ofNat r2)), .second, .val (.long (Int64.ofNat r3)), .second, .unset, .unset, .unset, .unset, .unset, .unset, .unset] [(.ref b196), (.ref b196)])) _
    refine XS.bipush X196.here hx rfl (hb hby at_26) ?_
    show Steps p.tables e below (T196.setTop (mkF m 28 #[.val (.long q0), .second, .val (.long q1), .second, .val (.long q2), .second, .val (.long (Int64.ofNat r1)), .second, .val (.long (Int64.ofNat r2)), .second, .val (.long (Int64.ofNat r3)), .second, .unset, .unset, .unset, .unset, .unset, .unset, .unset] [(.int (16 : Int32)), (.ref b196), (.ref b196)])) _
    refine st198.trans ?_
    show Steps p.tables e below (T198.setTop (mkF m 31 #[.val (.long q0), .second, .val (.long q1), .second, .val (.long q2), .second, .val (.long (Int64.ofNat r1)), .second, .val (.long (Int64.ofNat r2)), .second, .val (.long (Int64.ofNat r3)), .second, .unset, .unset, .unset, .unset, .unset, .unset, .unset] [(.ref b196)])) _
    refine XS.astore X198.here hx rfl (hb hby at_31) rfl rfl (l' := #[.val (.long q0), .second, .val (.long q1), .second, .val (.long q2), .second, .val (.long (Int64.ofNat r1)), .second, .val (.long (Int64.ofNat r2)), .second, .val (.long (Int64.ofNat r3)), .second, .val (.ref b196), .unset, .unset, .unset, .unset, .unset, .unset]) rfl ?_
    show Steps p.tables e below (T198.setTop (mkF m 33 #[.val (.long q0), .second, .val (.long q1), .second, .val (.long q2), .second, .val (.long (Int64.ofNat r1)), .second, .val (.long (Int64.ofNat r2)), .second, .val (.long (Int64.ofNat r3)), .second, .val (.ref b196), .unset, .unset, .unset, .unset, .unset, .unset] [])) _
    refine XS.aload X198.here hx rfl (hb hby at_33) rfl rfl ?_
    show Steps p.tables e below (T198.setTop (mkF m 35 #[.val (.long q0), .second, .val (.long q1), .second, .val (.long q2), .second, .val (.long (Int64.ofNat r1)), .second, .val (.long (Int64.ofNat r2)), .second, .val (.long (Int64.ofNat r3)), .second, .val (.ref b196), .unset, .unset, .unset, .unset, .unset, .unset] [(.ref b196)])) _
    refine XS.lload X198.here hx rfl (hb hby at_35) rfl ?_
    show Steps p.tables e below (T198.setTop (mkF m 37 #[.val (.long q0), .second, .val (.long q1), .second, .val (.long q2), .second, .val (.long (Int64.ofNat r1)), .second, .val (.long (Int64.ofNat r2)), .second, .val (.long (Int64.ofNat r3)), .second, .val (.ref b196), .unset, .unset, .unset, .unset, .unset, .unset] [(.long (Int64.ofNat r1)), (.ref b196)])) _
    refine st201.trans ?_
    show Steps p.tables e below (T201.setTop (mkF m 40 #[.val (.long q0), .second, .val (.long q1), .second, .val (.long q2), .second, .val (.long (Int64.ofNat r1)), .second, .val (.long (Int64.ofNat r2)), .second, .val (.long (Int64.ofNat r3)), .second, .val (.ref b196), .unset, .unset, .unset, .unset, .unset, .unset] [])) _
    refine XS.aload X201.here hx rfl (hb hby at_40) rfl rfl ?_
    show Steps p.tables e below (T201.setTop (mkF m 42 #[.val (.long q0), .second, .val (.long q1), .second, .val (.long q2), .second, .val (.long (Int64.ofNat r1)), .second, .val (.long (Int64.ofNat r2)), .second, .val (.long (Int64.ofNat r3)), .second, .val (.ref b196), .unset, .unset, .unset, .unset, .unset, .unset] [(.ref b196)])) _
    refine st204.trans ?_
    show Steps p.tables e below (T204.setTop (mkF m 45 #[.val (.long q0), .second, .val (.long q1), .second, .val (.long q2), .second, .val (.long (Int64.ofNat r1)), .second, .val (.long (Int64.ofNat r2)), .second, .val (.long (Int64.ofNat r3)), .second, .val (.ref b196), .unset, .unset, .unset, .unset, .unset, .unset] [(.long (Int64.ofNat r1))])) _
    refine XS.lstore X204.here hx rfl (hb hby at_45) rfl (l' := #[.val (.long q0), .second, .val (.long q1), .second, .val (.long q2), .second, .val (.long (Int64.ofNat r1)), .second, .val (.long (Int64.ofNat r2)), .second, .val (.long (Int64.ofNat r3)), .second, .val (.ref b196), .val (.long (Int64.ofNat r1)), .second, .unset, .unset, .unset, .unset]) rfl ?_
    show Steps p.tables e below (T204.setTop (mkF m 47 #[.val (.long q0), .second, .val (.long q1), .second, .val (.long q2), .second, .val (.long (Int64.ofNat r1)), .second, .val (.long (Int64.ofNat r2)), .second, .val (.long (Int64.ofNat r3)), .second, .val (.ref b196), .val (.long (Int64.ofNat r1)), .second, .unset, .unset, .unset, .unset] [])) _
    refine XS.aload X204.here hx rfl (hb hby at_47) rfl rfl ?_
    show Steps p.tables e below (T204.setTop (mkF m 49 #[.val (.long q0), .second, .val (.long q1), .second, .val (.long q2), .second, .val (.long (Int64.ofNat r1)), .second, .val (.long (Int64.ofNat r2)), .second, .val (.long (Int64.ofNat r3)), .second, .val (.ref b196), .val (.long (Int64.ofNat r1)), .second, .unset, .unset, .unset, .unset] [(.ref b196)])) _
    refine st208.trans ?_
    show Steps p.tables e below (T208.setTop (mkF m 52 #[.val (.long q0), .second, .val (.long q1), .second, .val (.long q2), .second, .val (.long (Int64.ofNat r1)), .second, .val (.long (Int64.ofNat r2)), .second, .val (.long (Int64.ofNat r3)), .second, .val (.ref b196), .val (.long (Int64.ofNat r1)), .second, .unset, .unset, .unset, .unset] [])) _
    refine XS.aload X208.here hx rfl (hb hby at_52) rfl rfl ?_
    show Steps p.tables e below (T208.setTop (mkF m 54 #[.val (.long q0), .second, .val (.long q1), .second, .val (.long q2), .second, .val (.long (Int64.ofNat r1)), .second, .val (.long (Int64.ofNat r2)), .second, .val (.long (Int64.ofNat r3)), .second, .val (.ref b196), .val (.long (Int64.ofNat r1)), .second, .unset, .unset, .unset, .unset] [(.ref b196)])) _
    refine st212.trans ?_
    show Steps p.tables e below (T212.setTop (mkF m 57 #[.val (.long q0), .second, .val (.long q1), .second, .val (.long q2), .second, .val (.long (Int64.ofNat r1)), .second, .val (.long (Int64.ofNat r2)), .second, .val (.long (Int64.ofNat r3)), .second, .val (.ref b196), .val (.long (Int64.ofNat r1)), .second, .unset, .unset, .unset, .unset] [])) _
    refine XS.aload X212.here hx rfl (hb hby at_57) rfl rfl ?_
    show Steps p.tables e below (T212.setTop (mkF m 59 #[.val (.long q0), .second, .val (.long q1), .second, .val (.long q2), .second, .val (.long (Int64.ofNat r1)), .second, .val (.long (Int64.ofNat r2)), .second, .val (.long (Int64.ofNat r3)), .second, .val (.ref b196), .val (.long (Int64.ofNat r1)), .second, .unset, .unset, .unset, .unset] [(.ref b196)])) _
    refine XS.lload X212.here hx rfl (hb hby at_59) rfl ?_
    show Steps p.tables e below (T212.setTop (mkF m 61 #[.val (.long q0), .second, .val (.long q1), .second, .val (.long q2), .second, .val (.long (Int64.ofNat r1)), .second, .val (.long (Int64.ofNat r2)), .second, .val (.long (Int64.ofNat r3)), .second, .val (.ref b196), .val (.long (Int64.ofNat r1)), .second, .unset, .unset, .unset, .unset] [(.long (Int64.ofNat r2)), (.ref b196)])) _
    refine st216.trans ?_
    show Steps p.tables e below (T216.setTop (mkF m 64 #[.val (.long q0), .second, .val (.long q1), .second, .val (.long q2), .second, .val (.long (Int64.ofNat r1)), .second, .val (.long (Int64.ofNat r2)), .second, .val (.long (Int64.ofNat r3)), .second, .val (.ref b196), .val (.long (Int64.ofNat r1)), .second, .unset, .unset, .unset, .unset] [])) _
    refine XS.aload X216.here hx rfl (hb hby at_64) rfl rfl ?_
    show Steps p.tables e below (T216.setTop (mkF m 66 #[.val (.long q0), .second, .val (.long q1), .second, .val (.long q2), .second, .val (.long (Int64.ofNat r1)), .second, .val (.long (Int64.ofNat r2)), .second, .val (.long (Int64.ofNat r3)), .second, .val (.ref b196), .val (.long (Int64.ofNat r1)), .second, .unset, .unset, .unset, .unset] [(.ref b196)])) _
    refine st219.trans ?_
    show Steps p.tables e below (T219.setTop (mkF m 69 #[.val (.long q0), .second, .val (.long q1), .second, .val (.long q2), .second, .val (.long (Int64.ofNat r1)), .second, .val (.long (Int64.ofNat r2)), .second, .val (.long (Int64.ofNat r3)), .second, .val (.ref b196), .val (.long (Int64.ofNat r1)), .second, .unset, .unset, .unset, .unset] [(.long (Int64.ofNat r2))])) _
    refine XS.lstore X219.here hx rfl (hb hby at_69) rfl (l' := #[.val (.long q0), .second, .val (.long q1), .second, .val (.long q2), .second, .val (.long (Int64.ofNat r1)), .second, .val (.long (Int64.ofNat r2)), .second, .val (.long (Int64.ofNat r3)), .second, .val (.ref b196), .val (.long (Int64.ofNat r1)), .second, .val (.long (Int64.ofNat r2)), .second, .unset, .unset]) rfl ?_
    show Steps p.tables e below (T219.setTop (mkF m 71 #[.val (.long q0), .second, .val (.long q1), .second, .val (.long q2), .second, .val (.long (Int64.ofNat r1)), .second, .val (.long (Int64.ofNat r2)), .second, .val (.long (Int64.ofNat r3)), .second, .val (.ref b196), .val (.long (Int64.ofNat r1)), .second, .val (.long (Int64.ofNat r2)), .second, .unset, .unset] [])) _
    refine XS.aload X219.here hx rfl (hb hby at_71) rfl rfl ?_
    show Steps p.tables e below (T219.setTop (mkF m 73 #[.val (.long q0), .second, .val (.long q1), .second, .val (.long q2), .second, .val (.long (Int64.ofNat r1)), .second, .val (.long (Int64.ofNat r2)), .second, .val (.long (Int64.ofNat r3)), .second, .val (.ref b196), .val (.long (Int64.ofNat r1)), .second, .val (.long (Int64.ofNat r2)), .second, .unset, .unset] [(.ref b196)])) _
    refine st223.trans ?_
    show Steps p.tables e below (T223.setTop (mkF m 76 #[.val (.long q0), .second, .val (.long q1), .second, .val (.long q2), .second, .val (.long (Int64.ofNat r1)), .second, .val (.long (Int64.ofNat r2)), .second, .val (.long (Int64.ofNat r3)), .second, .val (.ref b196), .val (.long (Int64.ofNat r1)), .second, .val (.long (Int64.ofNat r2)), .second, .unset, .unset] [])) _
    refine XS.aload X223.here hx rfl (hb hby at_76) rfl rfl ?_
    show Steps p.tables e below (T223.setTop (mkF m 78 #[.val (.long q0), .second, .val (.long q1), .second, .val (.long q2), .second, .val (.long (Int64.ofNat r1)), .second, .val (.long (Int64.ofNat r2)), .second, .val (.long (Int64.ofNat r3)), .second, .val (.ref b196), .val (.long (Int64.ofNat r1)), .second, .val (.long (Int64.ofNat r2)), .second, .unset, .unset] [(.ref b196)])) _
    refine st227.trans ?_
    show Steps p.tables e below (T227.setTop (mkF m 81 #[.val (.long q0), .second, .val (.long q1), .second, .val (.long q2), .second, .val (.long (Int64.ofNat r1)), .second, .val (.long (Int64.ofNat r2)), .second, .val (.long (Int64.ofNat r3)), .second, .val (.ref b196), .val (.long (Int64.ofNat r1)), .second, .val (.long (Int64.ofNat r2)), .second, .unset, .unset] [])) _
    refine XS.aload X227.here hx rfl (hb hby at_81) rfl rfl ?_
    show Steps p.tables e below (T227.setTop (mkF m 83 #[.val (.long q0), .second, .val (.long q1), .second, .val (.long q2), .second, .val (.long (Int64.ofNat r1)), .second, .val (.long (Int64.ofNat r2)), .second, .val (.long (Int64.ofNat r3)), .second, .val (.ref b196), .val (.long (Int64.ofNat r1)), .second, .val (.long (Int64.ofNat r2)), .second, .unset, .unset] [(.ref b196)])) _
    refine XS.lload X227.here hx rfl (hb hby at_83) rfl ?_
    show Steps p.tables e below (T227.setTop (mkF m 85 #[.val (.long q0), .second, .val (.long q1), .second, .val (.long q2), .second, .val (.long (Int64.ofNat r1)), .second, .val (.long (Int64.ofNat r2)), .second, .val (.long (Int64.ofNat r3)), .second, .val (.ref b196), .val (.long (Int64.ofNat r1)), .second, .val (.long (Int64.ofNat r2)), .second, .unset, .unset] [(.long (Int64.ofNat r3)), (.ref b196)])) _
    refine st231.trans ?_
    show Steps p.tables e below (T231.setTop (mkF m 88 #[.val (.long q0), .second, .val (.long q1), .second, .val (.long q2), .second, .val (.long (Int64.ofNat r1)), .second, .val (.long (Int64.ofNat r2)), .second, .val (.long (Int64.ofNat r3)), .second, .val (.ref b196), .val (.long (Int64.ofNat r1)), .second, .val (.long (Int64.ofNat r2)), .second, .unset, .unset] [])) _
    refine XS.aload X231.here hx rfl (hb hby at_88) rfl rfl ?_
    show Steps p.tables e below (T231.setTop (mkF m 90 #[.val (.long q0), .second, .val (.long q1), .second, .val (.long q2), .second, .val (.long (Int64.ofNat r1)), .second, .val (.long (Int64.ofNat r2)), .second, .val (.long (Int64.ofNat r3)), .second, .val (.ref b196), .val (.long (Int64.ofNat r1)), .second, .val (.long (Int64.ofNat r2)), .second, .unset, .unset] [(.ref b196)])) _
    refine st234.trans ?_
    show Steps p.tables e below (T234.setTop (mkF m 93 #[.val (.long q0), .second, .val (.long q1), .second, .val (.long q2), .second, .val (.long (Int64.ofNat r1)), .second, .val (.long (Int64.ofNat r2)), .second, .val (.long (Int64.ofNat r3)), .second, .val (.ref b196), .val (.long (Int64.ofNat r1)), .second, .val (.long (Int64.ofNat r2)), .second, .unset, .unset] [(.long (Int64.ofNat r3))])) _
    refine XS.lstore X234.here hx rfl (hb hby at_93) rfl (l' := #[.val (.long q0), .second, .val (.long q1), .second, .val (.long q2), .second, .val (.long (Int64.ofNat r1)), .second, .val (.long (Int64.ofNat r2)), .second, .val (.long (Int64.ofNat r3)), .second, .val (.ref b196), .val (.long (Int64.ofNat r1)), .second, .val (.long (Int64.ofNat r2)), .second, .val (.long (Int64.ofNat r3)), .second]) rfl ?_
    show Steps p.tables e below (T234.setTop (mkF m 95 #[.val (.long q0), .second, .val (.long q1), .second, .val (.long q2), .second, .val (.long (Int64.ofNat r1)), .second, .val (.long (Int64.ofNat r2)), .second, .val (.long (Int64.ofNat r3)), .second, .val (.ref b196), .val (.long (Int64.ofNat r1)), .second, .val (.long (Int64.ofNat r2)), .second, .val (.long (Int64.ofNat r3)), .second] [])) _
    refine XS.lload X234.here hx rfl (hb hby at_95) rfl ?_
    show Steps p.tables e below (T234.setTop (mkF m 97 #[.val (.long q0), .second, .val (.long q1), .second, .val (.long q2), .second, .val (.long (Int64.ofNat r1)), .second, .val (.long (Int64.ofNat r2)), .second, .val (.long (Int64.ofNat r3)), .second, .val (.ref b196), .val (.long (Int64.ofNat r1)), .second, .val (.long (Int64.ofNat r2)), .second, .val (.long (Int64.ofNat r3)), .second] [(.long (Int64.ofNat r1))])) _
    refine XS.lload X234.here hx rfl (hb hby at_97) rfl ?_
    show Steps p.tables e below (T234.setTop (mkF m 99 #[.val (.long q0), .second, .val (.long q1), .second, .val (.long q2), .second, .val (.long (Int64.ofNat r1)), .second, .val (.long (Int64.ofNat r2)), .second, .val (.long (Int64.ofNat r3)), .second, .val (.ref b196), .val (.long (Int64.ofNat r1)), .second, .val (.long (Int64.ofNat r2)), .second, .val (.long (Int64.ofNat r3)), .second] [(.long (Int64.ofNat r1)), (.long (Int64.ofNat r1))])) _
    refine XS.lcmp X234.here hx rfl (hb hby at_99) rfl ?_
    show Steps p.tables e below (T234.setTop (mkF m 100 #[.val (.long q0), .second, .val (.long q1), .second, .val (.long q2), .second, .val (.long (Int64.ofNat r1)), .second, .val (.long (Int64.ofNat r2)), .second, .val (.long (Int64.ofNat r3)), .second, .val (.ref b196), .val (.long (Int64.ofNat r1)), .second, .val (.long (Int64.ofNat r2)), .second, .val (.long (Int64.ofNat r3)), .second] [(.int (lcmpW (Int64.ofNat r1) (Int64.ofNat r1)))])) _
    refine XS.ifNo X234.here hx rfl (hb hby at_100) rfl ((if0 _ _).trans (teq (own_lwE (rfl : (Int64.ofNat r1) = (Int64.ofNat r1)))).2) ?_
    show Steps p.tables e below (T234.setTop (mkF m 103 #[.val (.long q0), .second, .val (.long q1), .second, .val (.long q2), .second, .val (.long (Int64.ofNat r1)), .second, .val (.long (Int64.ofNat r2)), .second, .val (.long (Int64.ofNat r3)), .second, .val (.ref b196), .val (.long (Int64.ofNat r1)), .second, .val (.long (Int64.ofNat r2)), .second, .val (.long (Int64.ofNat r3)), .second] [])) _
    refine XS.lload X234.here hx rfl (hb hby at_103) rfl ?_
    show Steps p.tables e below (T234.setTop (mkF m 105 #[.val (.long q0), .second, .val (.long q1), .second, .val (.long q2), .second, .val (.long (Int64.ofNat r1)), .second, .val (.long (Int64.ofNat r2)), .second, .val (.long (Int64.ofNat r3)), .second, .val (.ref b196), .val (.long (Int64.ofNat r1)), .second, .val (.long (Int64.ofNat r2)), .second, .val (.long (Int64.ofNat r3)), .second] [(.long (Int64.ofNat r2))])) _
    refine XS.lload X234.here hx rfl (hb hby at_105) rfl ?_
    show Steps p.tables e below (T234.setTop (mkF m 107 #[.val (.long q0), .second, .val (.long q1), .second, .val (.long q2), .second, .val (.long (Int64.ofNat r1)), .second, .val (.long (Int64.ofNat r2)), .second, .val (.long (Int64.ofNat r3)), .second, .val (.ref b196), .val (.long (Int64.ofNat r1)), .second, .val (.long (Int64.ofNat r2)), .second, .val (.long (Int64.ofNat r3)), .second] [(.long (Int64.ofNat r2)), (.long (Int64.ofNat r2))])) _
    refine XS.lcmp X234.here hx rfl (hb hby at_107) rfl ?_
    show Steps p.tables e below (T234.setTop (mkF m 108 #[.val (.long q0), .second, .val (.long q1), .second, .val (.long q2), .second, .val (.long (Int64.ofNat r1)), .second, .val (.long (Int64.ofNat r2)), .second, .val (.long (Int64.ofNat r3)), .second, .val (.ref b196), .val (.long (Int64.ofNat r1)), .second, .val (.long (Int64.ofNat r2)), .second, .val (.long (Int64.ofNat r3)), .second] [(.int (lcmpW (Int64.ofNat r2) (Int64.ofNat r2)))])) _
    refine XS.ifNo X234.here hx rfl (hb hby at_108) rfl ((if0 _ _).trans (teq (own_lwE (rfl : (Int64.ofNat r2) = (Int64.ofNat r2)))).2) ?_
    show Steps p.tables e below (T234.setTop (mkF m 111 #[.val (.long q0), .second, .val (.long q1), .second, .val (.long q2), .second, .val (.long (Int64.ofNat r1)), .second, .val (.long (Int64.ofNat r2)), .second, .val (.long (Int64.ofNat r3)), .second, .val (.ref b196), .val (.long (Int64.ofNat r1)), .second, .val (.long (Int64.ofNat r2)), .second, .val (.long (Int64.ofNat r3)), .second] [])) _
    refine XS.lload X234.here hx rfl (hb hby at_111) rfl ?_
    show Steps p.tables e below (T234.setTop (mkF m 113 #[.val (.long q0), .second, .val (.long q1), .second, .val (.long q2), .second, .val (.long (Int64.ofNat r1)), .second, .val (.long (Int64.ofNat r2)), .second, .val (.long (Int64.ofNat r3)), .second, .val (.ref b196), .val (.long (Int64.ofNat r1)), .second, .val (.long (Int64.ofNat r2)), .second, .val (.long (Int64.ofNat r3)), .second] [(.long (Int64.ofNat r3))])) _
    refine XS.lload X234.here hx rfl (hb hby at_113) rfl ?_
    show Steps p.tables e below (T234.setTop (mkF m 115 #[.val (.long q0), .second, .val (.long q1), .second, .val (.long q2), .second, .val (.long (Int64.ofNat r1)), .second, .val (.long (Int64.ofNat r2)), .second, .val (.long (Int64.ofNat r3)), .second, .val (.ref b196), .val (.long (Int64.ofNat r1)), .second, .val (.long (Int64.ofNat r2)), .second, .val (.long (Int64.ofNat r3)), .second] [(.long (Int64.ofNat r3)), (.long (Int64.ofNat r3))])) _
    refine XS.lcmp X234.here hx rfl (hb hby at_115) rfl ?_
    show Steps p.tables e below (T234.setTop (mkF m 116 #[.val (.long q0), .second, .val (.long q1), .second, .val (.long q2), .second, .val (.long (Int64.ofNat r1)), .second, .val (.long (Int64.ofNat r2)), .second, .val (.long (Int64.ofNat r3)), .second, .val (.ref b196), .val (.long (Int64.ofNat r1)), .second, .val (.long (Int64.ofNat r2)), .second, .val (.long (Int64.ofNat r3)), .second] [(.int (lcmpW (Int64.ofNat r3) (Int64.ofNat r3)))])) _
    refine XS.ifNo X234.here hx rfl (hb hby at_116) rfl ((if0 _ _).trans (teq (own_lwE (rfl : (Int64.ofNat r3) = (Int64.ofNat r3)))).2) ?_
    show Steps p.tables e below (T234.setTop (mkF m 119 #[.val (.long q0), .second, .val (.long q1), .second, .val (.long q2), .second, .val (.long (Int64.ofNat r1)), .second, .val (.long (Int64.ofNat r2)), .second, .val (.long (Int64.ofNat r3)), .second, .val (.ref b196), .val (.long (Int64.ofNat r1)), .second, .val (.long (Int64.ofNat r2)), .second, .val (.long (Int64.ofNat r3)), .second] [])) _
    refine XS.iconst X234.here hx rfl (hb hby at_119) ?_
    show Steps p.tables e below (T234.setTop (mkF m 120 #[.val (.long q0), .second, .val (.long q1), .second, .val (.long q2), .second, .val (.long (Int64.ofNat r1)), .second, .val (.long (Int64.ofNat r2)), .second, .val (.long (Int64.ofNat r3)), .second, .val (.ref b196), .val (.long (Int64.ofNat r1)), .second, .val (.long (Int64.ofNat r2)), .second, .val (.long (Int64.ofNat r3)), .second] [(.int (1 : Int32))])) _
    refine XS.goto X234.here hx rfl (pc0 := 120) (pc' := 124) rfl (hb hby at_120) (by decide) (by decide) ?_
    show Steps p.tables e below (T234.setTop (mkF m 124 #[.val (.long q0), .second, .val (.long q1), .second, .val (.long q2), .second, .val (.long (Int64.ofNat r1)), .second, .val (.long (Int64.ofNat r2)), .second, .val (.long (Int64.ofNat r3)), .second, .val (.ref b196), .val (.long (Int64.ofNat r1)), .second, .val (.long (Int64.ofNat r2)), .second, .val (.long (Int64.ofNat r3)), .second] [(.int (1 : Int32))])) _
    exact kt
  have hfin : (1 : Int32) = 1 := rfl
  obtain ⟨fs, hr, hrun, hended, hW, hsame⟩ := X234.leave (v := some (.int ((1 : Int32) &&& 1))) (fun h => by rw [Bd.returns] at h; cases h)
  refine ⟨_, _, pre238 _ ?_, hrun, hended, _, _, rfl, ?_, ⟨_, rfl⟩, hW, hsame.mono (by decide) (by decide)⟩
  · exact retN X234 hx (t := .boolean) Bd.returns (by simp) (hb hby at_124) hr
  · exact ⟨by rw [hfin]; rfl, N237⟩
set_option maxRecDepth 65536 in
set_option maxHeartbeats 40000000 in
theorem comes_1 {Post : Tables → Env → Array Value → State → Outcome → State → Prop} (hpost : ∀ tb e args s v u, (limb_1_1.after args s (.returned v) u = true ∧ limb_1_2.after args s (.returned v) u = true ∧ True) → FrameEnd s (.returned v) u (Jvm.fieldLocs frame_1_writes args s ++ Jvm.arrayLocs frame_1_arrays args s ++ Jvm.staticLocs frame_1_statics s) 16 128 → Post tb e args s (.returned v) u) :
    ArmFor flags0 classFile x code maxLocals ret World_1 tables_1 room_1 Calls_1 rest_1 Pre_1 Post := by
  intro l hfl _ _ p e ha hc hk s m args below hf hA hF happ hP
  obtain ⟨hcalls, hrest, hpre⟩ := hP
  obtain ⟨-, -, -, hnamed, -, -, -, hat⟩ := (Spec.applies_iff hf).mp happ
  obtain ⟨hg, hn⟩ := and_e (Cond.before_iff.mp (show (Jvm.Cond.and given_1 narrow_1).before args s = true from hpre))
  obtain ⟨hcount, hg0⟩ := and_e hg
  obtain ⟨ha0, hg1⟩ := and_e hg0
  obtain ⟨ha1, hg2⟩ := and_e hg1
  have ha2 := hg2
  obtain ⟨w0, w1, w2, rfl⟩ : ∃ w0 w1 w2 : Value, args = #[w0, w1, w2] := by
    have hs : args.size = 3 := by simpa [Cond.value, given_1] using hcount
    obtain ⟨L⟩ := args
    match L, hs with
    | [w0, w1, w2], _ => exact ⟨w0, w1, w2, rfl⟩
  have hw := fun d (hd : d ∈ tables_1) => atoms_spec (ws := Jvm.Cond.code x code maxLocals ret :: tables_1) hat d (List.mem_cons_of_mem _ hd)
  obtain ⟨i0, ei0⟩ := isL_v ha0
  obtain rfl : w0 = (.long i0) := Option.some.inj ei0
  obtain ⟨i1, ei1⟩ := isL_v ha1
  obtain rfl : w1 = (.long i1) := Option.some.inj ei1
  obtain ⟨i2, ei2⟩ := isL_v ha2
  obtain rfl : w2 = (.long i2) := Option.some.inj ei2
  obtain ⟨n, o, h1, h2, h3, _, L, rfl, ⟨rfl, N⟩, hq⟩ := rm0 l s _ hw tables_1 i0 i1 i2 s.heap s.heap.size (Nat.le_refl _) p e ha hc hk s m _ below hf ((Spec.applies_iff_loose hf).mp happ).1 ⟨rfl, State.Warmed39.refl s, rfl⟩ trivial
  refine ⟨n, _, h1, h2, h3, hpost _ _ _ _ _ _ ⟨Cond.after_iff.mpr rfl, Cond.after_iff.mpr (eq_i res_at (Term.int_eval (1)) rfl), trivial⟩ ⟨hq.1, hq.2.1, (hq.2.2.sift fun y hy => Or.inr (N y hy)).mono (by decide) (by decide)⟩⟩
theorem main_1_1 : Claimed_1_1 := comes_1 fun _ _ _ _ _ _ h hF => ⟨h.1, hF⟩
theorem main_1_2 : Claimed_1_2 := comes_1 fun _ _ _ _ _ _ h hF => ⟨h.2.1, hF⟩
end Jvm.Pilot.@@N@@
namespace Jvm.Pilot.@@N@@
open Jvm Jvm.ClassFile Sem Op Lib Jvm.Free Jvm.Stand Jvm.Pilot.@@N@@.Jvm.D
/-! MADE BY PROGRAM (witnessworld.py) out of the Statement's table words and the real class files: 14 classes; the members and pool entries that the words name. The judged class is class 1, her method 1. -/
namespace start1
open Jvm.ClassFile
def u (s : String) : CpInfo := .utf8 (stringToUtf16 s)
/-- a pool by its gaps: so many unusable entries, then the entry; so many at the end -/
def gap : Nat → List CpInfo → List CpInfo
  | 0, r => r
  | n + 1, r => .unusable :: gap n r
def poolList (es : List (Nat × CpInfo)) (last : Nat) : List CpInfo := es.foldr (fun e r => gap e.1 (e.2 :: r)) (gap last [])
def pool (es : List (Nat × CpInfo)) (last : Nat) : Array CpInfo := ⟨poolList es last⟩
def fileOf (pool : Array CpInfo) (this : Nat) (attrs : Array Attribute := #[]) (ms : Array MethodInfo := #[]) (fl : Nat := 33) (sup : Nat := 0) (ifs : Array Nat := #[]) (fds : Array FieldInfo := #[]) : ClassFile where
  minorVersion := 0
  majorVersion := 65
  constantPool := pool
  accessFlags := fl
  thisClass := this
  superClass := sup
  interfaces := ifs
  fields := fds
  methods := ms
  attributes := attrs
def plain (name : String) (sup : Option ClassId) : Class where
  name := name
  kind := .ordinary
  loader := none
  accessFlags := 33
  super := sup
  interfaces := #[]
  cf := none
  fields := #[]
  methods := #[]
  instanceTypes := #[]
  staticTypes := #[]
  resolved := #[]
  callSites := []
  init := .initialized
  statics := none
  mirror := none

def pool0 : Array CpInfo := pool [(5, u "<init>"), (0, u "()V"), (1, .class_ 10), (1, u "java/lang/Object")] 113

def k0c0 : Code := { maxStack := 0, maxLocals := 1, code := object_method_1_code, exceptionTable := #[], attributes := #[] }
def k0m0 : Method := { name := "<init>", desc := "()V", sig := { parameters := [], returnType := none }, accessFlags := 1, code := some k0c0 }
/-- java/lang/Object -/
def k0 : Class := { plain "java/lang/Object" none with
  accessFlags := 33
  interfaces := #[]
  cf := some (fileOf pool0 8 #[] #[{ accessFlags := 1, nameIndex := 5, descriptorIndex := 6, attributes := #[] }] 33 0 #[] #[])
  fields := #[]
  methods := #[k0m0]
  instanceTypes := #[]
  staticTypes := #[]
  resolved := Array.replicate 124 none
  statics := none }

def pool1 : Array CpInfo := pool [(2, .class_ 4), (1, u "java/lang/Object"), (0, u "<init>"), (0, u "()V"), (2, .long 9223372036854775807), (1, .class_ 12), (0, u "com/example/wee_find/weefind/HeldMatches"), (0, .methodref 11 14), (0, .nameAndType 5 15), (0, u "(I)V"), (0, .methodref 11 17), (0, .nameAndType 18 19), (0, u "write"), (0, u "(J)V"), (0, .methodref 11 21), (0, .nameAndType 22 23), (0, u "take"), (0, u "()J"), (0, .methodref 11 25), (0, .nameAndType 26 6), (0, u "free"), (0, .methodref 11 28), (0, .nameAndType 29 6), (0, u "refresh"), (0, .class_ 31), (0, u "com/example/wee_find/weefind/HeldMatchesTakePinLaw"), (2, u "law"), (0, u "(JJJ)Z")] 3

def k1m0 : Method := { name := "<init>", desc := "()V", sig := { parameters := [], returnType := none }, accessFlags := 2, code := none }
def k1c1 : Code := { maxStack := 4, maxLocals := 19, code := code, exceptionTable := #[], attributes := #[] }
def k1m1 : Method := { name := "law", desc := "(JJJ)Z", sig := { parameters := [.long, .long, .long], returnType := some .boolean }, accessFlags := 9, code := some k1c1 }
/-- com/example/wee_find/weefind/HeldMatchesTakePinLaw -/
def k1 : Class := { plain "com/example/wee_find/weefind/HeldMatchesTakePinLaw" (some 0) with
  accessFlags := 49
  interfaces := #[]
  cf := some (fileOf pool1 30 #[] #[{ accessFlags := 2, nameIndex := 5, descriptorIndex := 6, attributes := #[] }, { accessFlags := 9, nameIndex := 34, descriptorIndex := 35, attributes := #[] }] 49 2 #[] #[])
  fields := #[]
  methods := #[k1m0, k1m1]
  instanceTypes := #[]
  staticTypes := #[]
  resolved := Array.replicate 39 none
  statics := none }

def pool2 : Array CpInfo := pool [(1, .methodref 2 3), (0, .class_ 4), (0, .nameAndType 5 6), (0, u "java/lang/Object"), (0, u "<init>"), (0, u "()V"), (0, .methodref 8 9), (0, .class_ 10), (0, .nameAndType 11 12), (0, u "java/lang/Integer"), (0, u "bitCount"), (0, u "(I)I"), (0, .class_ 14), (0, u "com/example/wee_find/weefind/HeldMatches"), (9, .fieldref 13 25), (0, .nameAndType 26 27), (0, u "bytes"), (0, u "[B"), (0, .fieldref 13 29), (0, .nameAndType 30 31), (0, u "mask"), (0, u "I"), (0, .fieldref 13 33), (0, .nameAndType 34 35), (0, u "limit"), (0, u "J"), (0, .fieldref 13 37), (0, .nameAndType 38 35), (0, u "written"), (2, .long 128), (1, .fieldref 13 44), (0, .nameAndType 45 35), (0, u "freed"), (0, .fieldref 13 47), (0, .nameAndType 48 35), (0, u "taking"), (0, u "LONGEST"), (2, u "(I)V"), (5, u "write"), (0, u "(J)V"), (0, u "refresh"), (0, u "take"), (0, u "()J"), (0, u "free")] 17

def k2c0 : Code := { maxStack := 3, maxLocals := 2, code := prog_24_method_1_code, exceptionTable := #[], attributes := #[] }
def k2m0 : Method := { name := "<init>", desc := "(I)V", sig := { parameters := [.int], returnType := none }, accessFlags := 0, code := some k2c0 }
def k2c1 : Code := { maxStack := 6, maxLocals := 5, code := prog_24_method_3_code, exceptionTable := #[], attributes := #[] }
def k2m1 : Method := { name := "write", desc := "(J)V", sig := { parameters := [.long], returnType := none }, accessFlags := 0, code := some k2c1 }
def k2c2 : Code := { maxStack := 5, maxLocals := 1, code := prog_24_method_4_code, exceptionTable := #[], attributes := #[] }
def k2m2 : Method := { name := "refresh", desc := "()V", sig := { parameters := [], returnType := none }, accessFlags := 0, code := some k2c2 }
def k2c3 : Code := { maxStack := 5, maxLocals := 5, code := prog_24_method_5_code, exceptionTable := #[], attributes := #[] }
def k2m3 : Method := { name := "take", desc := "()J", sig := { parameters := [], returnType := some .long }, accessFlags := 0, code := some k2c3 }
def k2c4 : Code := { maxStack := 3, maxLocals := 1, code := prog_24_method_6_code, exceptionTable := #[], attributes := #[] }
def k2m4 : Method := { name := "free", desc := "()V", sig := { parameters := [], returnType := none }, accessFlags := 0, code := some k2c4 }
/-- com/example/wee_find/weefind/HeldMatches -/
def k2 : Class := { plain "com/example/wee_find/weefind/HeldMatches" (some 0) with
  accessFlags := 48
  interfaces := #[]
  cf := some (fileOf pool2 13 #[] #[{ accessFlags := 0, nameIndex := 5, descriptorIndex := 52, attributes := #[] }, { accessFlags := 0, nameIndex := 58, descriptorIndex := 59, attributes := #[] }, { accessFlags := 0, nameIndex := 60, descriptorIndex := 6, attributes := #[] }, { accessFlags := 0, nameIndex := 61, descriptorIndex := 62, attributes := #[] }, { accessFlags := 0, nameIndex := 63, descriptorIndex := 6, attributes := #[] }] 48 2 #[] #[{ accessFlags := 24, nameIndex := 49, descriptorIndex := 31, attributes := #[] }, { accessFlags := 18, nameIndex := 26, descriptorIndex := 27, attributes := #[] }, { accessFlags := 18, nameIndex := 30, descriptorIndex := 31, attributes := #[] }, { accessFlags := 2, nameIndex := 38, descriptorIndex := 35, attributes := #[] }, { accessFlags := 2, nameIndex := 34, descriptorIndex := 35, attributes := #[] }, { accessFlags := 2, nameIndex := 45, descriptorIndex := 35, attributes := #[] }, { accessFlags := 2, nameIndex := 48, descriptorIndex := 35, attributes := #[] }])
  fields := #[{ name := "LONGEST", type := .int, accessFlags := 24, slot := 0, constantValue := 0 }, { name := "bytes", type := (.array .byte), accessFlags := 18, slot := 0, constantValue := 0 }, { name := "mask", type := .int, accessFlags := 18, slot := 1, constantValue := 0 }, { name := "written", type := .long, accessFlags := 2, slot := 2, constantValue := 0 }, { name := "limit", type := .long, accessFlags := 2, slot := 3, constantValue := 0 }, { name := "freed", type := .long, accessFlags := 2, slot := 4, constantValue := 0 }, { name := "taking", type := .long, accessFlags := 2, slot := 5, constantValue := 0 }]
  methods := #[k2m0, k2m1, k2m2, k2m3, k2m4]
  instanceTypes := #[(.array .byte), .int, .long, .long, .long, .long]
  staticTypes := #[.int]
  resolved := Array.replicate 81 none
  statics := none }

def pool3 : Array CpInfo := pool [(1, .class_ 2), (0, u "java/io/Serializable"), (0, .class_ 4), (0, u "java/lang/Object")] 2

/-- java/io/Serializable -/
def k3 : Class := { plain "java/io/Serializable" (some 0) with
  accessFlags := 1537
  interfaces := #[]
  cf := some (fileOf pool3 1 #[] #[] 1537 3 #[] #[])
  fields := #[]
  methods := #[]
  instanceTypes := #[]
  staticTypes := #[]
  resolved := Array.replicate 7 none
  statics := none }

def pool4 : Array CpInfo := pool [(2, .class_ 4), (1, u "java/lang/Object"), (0, u "<init>"), (0, u "()V"), (1, .class_ 10), (1, u "java/lang/Number"), (2, .class_ 14), (0, u "java/io/Serializable"), (0, u "serialVersionUID"), (0, u "J")] 20

def k4m0 : Method := { name := "<init>", desc := "()V", sig := { parameters := [], returnType := none }, accessFlags := 1, code := none }
/-- java/lang/Number -/
def k4 : Class := { plain "java/lang/Number" (some 0) with
  accessFlags := 1057
  interfaces := #[3]
  cf := some (fileOf pool4 8 #[] #[{ accessFlags := 1, nameIndex := 5, descriptorIndex := 6, attributes := #[] }] 1057 2 #[13] #[{ accessFlags := 26, nameIndex := 15, descriptorIndex := 16, attributes := #[] }])
  fields := #[{ name := "serialVersionUID", type := .long, accessFlags := 26, slot := 0, constantValue := 0 }]
  methods := #[k4m0]
  instanceTypes := #[]
  staticTypes := #[.long]
  resolved := Array.replicate 37 none
  statics := none }

def pool5 : Array CpInfo := pool [(1, .class_ 2), (0, u "java/lang/Comparable"), (0, .class_ 4), (0, u "java/lang/Object")] 7

/-- java/lang/Comparable -/
def k5 : Class := { plain "java/lang/Comparable" (some 0) with
  accessFlags := 1537
  interfaces := #[]
  cf := some (fileOf pool5 1 #[] #[] 1537 3 #[] #[])
  fields := #[]
  methods := #[]
  instanceTypes := #[]
  staticTypes := #[]
  resolved := Array.replicate 12 none
  statics := none }

def pool6 : Array CpInfo := pool [(1, .class_ 2), (0, u "java/lang/constant/Constable"), (0, .class_ 4), (0, u "java/lang/Object")] 6

/-- java/lang/constant/Constable -/
def k6 : Class := { plain "java/lang/constant/Constable" (some 0) with
  accessFlags := 1537
  interfaces := #[]
  cf := some (fileOf pool6 1 #[] #[] 1537 3 #[] #[])
  fields := #[]
  methods := #[]
  instanceTypes := #[]
  staticTypes := #[]
  resolved := Array.replicate 11 none
  statics := none }

def pool7 : Array CpInfo := pool [(1, .class_ 2), (0, u "java/lang/constant/ConstantDesc"), (0, .class_ 4), (0, u "java/lang/Object")] 32

/-- java/lang/constant/ConstantDesc -/
def k7 : Class := { plain "java/lang/constant/ConstantDesc" (some 0) with
  accessFlags := 1537
  interfaces := #[]
  cf := some (fileOf pool7 1 #[] #[] 1537 3 #[] #[])
  fields := #[]
  methods := #[]
  instanceTypes := #[]
  staticTypes := #[]
  resolved := Array.replicate 37 none
  statics := none }

def pool8 : Array CpInfo := pool [(1, .class_ 2), (0, u "java/lang/Integer"), (16, u "digits"), (0, u "[C"), (33, u "(I)I"), (30, u "DigitOnes"), (0, u "[B"), (2, u "DigitTens"), (99, .class_ 190), (0, u "java/lang/Integer$IntegerCache"), (3, u "I"), (8, .class_ 204), (0, u "java/lang/Number"), (2, u "value"), (57, .integer 1431655765), (0, .integer 858993459), (0, .integer 252645135), (34, u "TYPE"), (0, u "Ljava/lang/Class;"), (0, .class_ 305), (0, u "java/lang/Comparable"), (0, .class_ 307), (0, u "java/lang/constant/Constable"), (0, .class_ 309), (0, u "java/lang/constant/ConstantDesc"), (0, u "MIN_VALUE"), (1, u "MAX_VALUE"), (3, u "SIZE"), (1, u "BYTES"), (1, u "serialVersionUID"), (0, u "J"), (85, u "bitCount")] 45

def k8c0 : Code := { maxStack := 3, maxLocals := 1, code := jdk_33_method_49_code, exceptionTable := #[], attributes := #[] }
def k8m0 : Method := { name := "bitCount", desc := "(I)I", sig := { parameters := [.int], returnType := some .int }, accessFlags := 9, code := some k8c0 }
/-- java/lang/Integer -/
def k8 : Class := { plain "java/lang/Integer" (some 4) with
  accessFlags := 49
  interfaces := #[5, 6, 7]
  cf := some (fileOf pool8 1 #[.nestMembers #[189]] #[{ accessFlags := 9, nameIndex := 407, descriptorIndex := 54, attributes := #[] }] 49 203 #[304, 306, 308] #[{ accessFlags := 25, nameIndex := 310, descriptorIndex := 194, attributes := #[] }, { accessFlags := 25, nameIndex := 312, descriptorIndex := 194, attributes := #[] }, { accessFlags := 25, nameIndex := 302, descriptorIndex := 303, attributes := #[] }, { accessFlags := 24, nameIndex := 19, descriptorIndex := 20, attributes := #[] }, { accessFlags := 24, nameIndex := 89, descriptorIndex := 86, attributes := #[] }, { accessFlags := 24, nameIndex := 85, descriptorIndex := 86, attributes := #[] }, { accessFlags := 18, nameIndex := 207, descriptorIndex := 194, attributes := #[] }, { accessFlags := 25, nameIndex := 316, descriptorIndex := 194, attributes := #[] }, { accessFlags := 25, nameIndex := 318, descriptorIndex := 194, attributes := #[] }, { accessFlags := 26, nameIndex := 320, descriptorIndex := 321, attributes := #[] }])
  fields := #[{ name := "MIN_VALUE", type := .int, accessFlags := 25, slot := 0, constantValue := 0 }, { name := "MAX_VALUE", type := .int, accessFlags := 25, slot := 1, constantValue := 0 }, { name := "TYPE", type := (.object "java/lang/Class"), accessFlags := 25, slot := 2, constantValue := 0 }, { name := "digits", type := (.array .char), accessFlags := 24, slot := 3, constantValue := 0 }, { name := "DigitTens", type := (.array .byte), accessFlags := 24, slot := 4, constantValue := 0 }, { name := "DigitOnes", type := (.array .byte), accessFlags := 24, slot := 5, constantValue := 0 }, { name := "value", type := .int, accessFlags := 18, slot := 0, constantValue := 0 }, { name := "SIZE", type := .int, accessFlags := 25, slot := 6, constantValue := 0 }, { name := "BYTES", type := .int, accessFlags := 25, slot := 7, constantValue := 0 }, { name := "serialVersionUID", type := .long, accessFlags := 26, slot := 8, constantValue := 0 }]
  methods := #[k8m0]
  instanceTypes := #[.int]
  staticTypes := #[.int, .int, (.object "java/lang/Class"), (.array .char), (.array .byte), (.array .byte), .int, .int, .long]
  resolved := Array.replicate 453 none
  statics := none }

def pool9 : Array CpInfo := pool [(1, u "java/lang/Cloneable"), (0, .class_ 1), (0, u "java/lang/Object"), (0, .class_ 3)] 3

/-- java/lang/Cloneable -/
def k9 : Class := { plain "java/lang/Cloneable" (some 0) with
  accessFlags := 1537
  interfaces := #[]
  cf := some (fileOf pool9 2 #[] #[] 1537 4 #[] #[])
  fields := #[]
  methods := #[]
  instanceTypes := #[]
  staticTypes := #[]
  resolved := Array.replicate 8 none
  statics := none }

/-- the primitive byte -/
def k10 : Class := { plain "byte" none with kind := .primitive 'B', accessFlags := 0x411 }
/-- [B -/
def k11 : Class := { plain "[B" (some 0) with kind := .array 10 .byte, interfaces := #[9, 3], accessFlags := 1041 }

/-- the primitive int -/
def k12 : Class := { plain "int" none with kind := .primitive 'I', accessFlags := 0x411 }
/-- [I -/
def k13 : Class := { plain "[I" (some 0) with kind := .array 12 .int, interfaces := #[9, 3], accessFlags := 1041 }

def heap : Heap := #[]
def classes : Array Class := #[k0, k1, k2, k3, k4, k5, k6, k7, k8, k9, k10, k11, k12, k13]
def interned : List (Array UInt16 × Addr) := []
def slotsUsed : Nat := 0
def theMethod : MethodId := ⟨1, 1⟩
def args0 : Array Value := #[.long 5, .long 5, .long 5]
def aboutOver (below : List Frame) : State where
  vm := { classes := classes, interned := interned.toArray }
  heap := heap
  slotsUsed := slotsUsed
  threads := #[{ frames := .invoking theMethod args0 :: below }]
def below0 : List Frame := [.native { method := ⟨0, 0⟩, args := #[] }]
def about1 : State := aboutOver below0
def p0 : Program := .bare "" "" ""
def e0 : Env := launch0.env 0 0 0
theorem w_frames : about1.frames = Frame.invoking theMethod args0 :: below0 := rfl
set_option maxRecDepth 65536 in
theorem w_args : argsFit about1.vm theMethod args0 = true := by decide +kernel
set_option maxRecDepth 65536 in
theorem w_heap : heapFits about1 = true := by decide +kernel
set_option maxRecDepth 65536 in
theorem w_runnable : about1.curStatus? = some .runnable := by decide +kernel
set_option maxRecDepth 65536 in
theorem w_alone : about1.alone = true := by decide +kernel
set_option maxRecDepth 65536 in
theorem w_named : about1.methodNamed? x = some theMethod := by decide +kernel
set_option maxRecDepth 65536 in
theorem w_hears : about1.hears theMethod below0 = true := by decide +kernel
set_option maxRecDepth 65536 in
theorem w_ripe : about1.ripe theMethod args0 below0 = true := by decide +kernel
theorem w_running : about1.status = .running := rfl
set_option maxRecDepth 65536 in
theorem w_room : about1.hasRoom e0.platform room_1 = true :=
  launch0.hasRoom_least _ room_1 (by decide +kernel) (by decide +kernel) (by decide +kernel) (by decide +kernel) (by decide +kernel) (by decide +kernel)
theorem allAtoms_all (ts : List Jvm.Cond) (a : Array Jvm.Value) (st : Jvm.State) : (allAtoms ts).before a st = ts.all (fun c => c.before a st) := by
  induction ts with
  | nil => rfl
  | cons c t ih =>
    show (Jvm.Cond.and c (allAtoms t)).before a st = _
    rw [Jvm.Cond.before_and, ih, List.all_cons]
def words1 : List Jvm.Cond := Jvm.Cond.code x code maxLocals ret :: tables_1
/-- a 'code' word, met by the world's own term for the bytes: nothing is compared byte by byte -/
theorem code_word {y : MethodName} {bytes : ByteArray} {mx : Nat} {rt : Option FieldType} {a : Array Value} {s : State} {m : MethodId} {meth : Method} {c : Code} (h1 : s.methodNamed? y = some m) (h2 : s.vm.method? m = some meth) (h3 : meth.code = some c) (h4 : c.code = bytes)
    (h5 : (c.maxLocals == mx && c.exceptionTable.isEmpty && decide (c.maxStack ≤ mostOperands) && decide (meth.sig.returnType = rt) && !meth.locks && decide (parseMethodDescriptor y.desc = some meth.sig)) = true) : (Jvm.Cond.code y bytes mx rt).before a s = true := by
  simp only [Bool.and_eq_true, beq_iff_eq, Bool.not_eq_true', decide_eq_true_eq] at h5
  obtain ⟨⟨⟨⟨⟨g1, g2⟩, g3⟩, g4⟩, g5⟩, g6⟩ := h5
  simp [Cond.before, Cond.holds, Cond.value, h1, h2, h3, h4, g1, g2, g3, g4, g5, g6]
def isCode : Jvm.Cond → Bool
  | .code _ _ _ _ => true
  | _ => false
theorem all_split {L : List Jvm.Cond} {P : Jvm.Cond → Bool} (h1 : L.all (fun c => isCode c || P c) = true) (h2 : ∀ c ∈ L.filter isCode, P c = true) : L.all P = true := by
  refine List.all_eq_true.mpr fun c hc => ?_
  have h := List.all_eq_true.mp h1 c hc
  rcases Bool.eq_false_or_eq_true (isCode c) with hi | hi
  · exact h2 c (List.mem_filter.mpr ⟨hc, hi⟩)
  · simpa [hi] using h
set_option maxRecDepth 65536 in
theorem w_c0 : (Jvm.Cond.code x code maxLocals ret).before args0 about1 = true := code_word (m := ⟨1, 1⟩) (meth := k1m1) (c := k1c1) (by decide +kernel) rfl rfl rfl (by decide +kernel)
set_option maxRecDepth 65536 in
theorem w_c1 : (Jvm.Cond.code ({ cls := "com/example/wee_find/weefind/HeldMatches", name := "<init>", desc := "(I)V" } : Jvm.MethodName) prog_24_method_1_code (2 : Nat) (Option.none : Option Jvm.ClassFile.FieldType)).before args0 about1 = true := code_word (m := ⟨2, 0⟩) (meth := k2m0) (c := k2c0) (by decide +kernel) rfl rfl rfl (by decide +kernel)
set_option maxRecDepth 65536 in
theorem w_c2 : (Jvm.Cond.code ({ cls := "java/lang/Object", name := "<init>", desc := "()V" } : Jvm.MethodName) object_method_1_code (1 : Nat) (Option.none : Option Jvm.ClassFile.FieldType)).before args0 about1 = true := code_word (m := ⟨0, 0⟩) (meth := k0m0) (c := k0c0) (by decide +kernel) rfl rfl rfl (by decide +kernel)
set_option maxRecDepth 65536 in
theorem w_c3 : (Jvm.Cond.code ({ cls := "java/lang/Integer", name := "bitCount", desc := "(I)I" } : Jvm.MethodName) jdk_33_method_49_code (1 : Nat) (Option.some Jvm.ClassFile.FieldType.int)).before args0 about1 = true := code_word (m := ⟨8, 0⟩) (meth := k8m0) (c := k8c0) (by decide +kernel) rfl rfl rfl (by decide +kernel)
set_option maxRecDepth 65536 in
theorem w_c4 : (Jvm.Cond.code ({ cls := "com/example/wee_find/weefind/HeldMatches", name := "write", desc := "(J)V" } : Jvm.MethodName) prog_24_method_3_code (5 : Nat) (Option.none : Option Jvm.ClassFile.FieldType)).before args0 about1 = true := code_word (m := ⟨2, 1⟩) (meth := k2m1) (c := k2c1) (by decide +kernel) rfl rfl rfl (by decide +kernel)
set_option maxRecDepth 65536 in
theorem w_c5 : (Jvm.Cond.code ({ cls := "com/example/wee_find/weefind/HeldMatches", name := "take", desc := "()J" } : Jvm.MethodName) prog_24_method_5_code (5 : Nat) (Option.some Jvm.ClassFile.FieldType.long)).before args0 about1 = true := code_word (m := ⟨2, 3⟩) (meth := k2m3) (c := k2c3) (by decide +kernel) rfl rfl rfl (by decide +kernel)
set_option maxRecDepth 65536 in
theorem w_c6 : (Jvm.Cond.code ({ cls := "com/example/wee_find/weefind/HeldMatches", name := "free", desc := "()V" } : Jvm.MethodName) prog_24_method_6_code (1 : Nat) (Option.none : Option Jvm.ClassFile.FieldType)).before args0 about1 = true := code_word (m := ⟨2, 4⟩) (meth := k2m4) (c := k2c4) (by decide +kernel) rfl rfl rfl (by decide +kernel)
set_option maxRecDepth 65536 in
theorem w_c7 : (Jvm.Cond.code ({ cls := "com/example/wee_find/weefind/HeldMatches", name := "refresh", desc := "()V" } : Jvm.MethodName) prog_24_method_4_code (1 : Nat) (Option.none : Option Jvm.ClassFile.FieldType)).before args0 about1 = true := code_word (m := ⟨2, 2⟩) (meth := k2m2) (c := k2c2) (by decide +kernel) rfl rfl rfl (by decide +kernel)
def codes1 : List Jvm.Cond := [Jvm.Cond.code x code maxLocals ret, Jvm.Cond.code ({ cls := "com/example/wee_find/weefind/HeldMatches", name := "<init>", desc := "(I)V" } : Jvm.MethodName) prog_24_method_1_code (2 : Nat) (Option.none : Option Jvm.ClassFile.FieldType), Jvm.Cond.code ({ cls := "java/lang/Object", name := "<init>", desc := "()V" } : Jvm.MethodName) object_method_1_code (1 : Nat) (Option.none : Option Jvm.ClassFile.FieldType), Jvm.Cond.code ({ cls := "java/lang/Integer", name := "bitCount", desc := "(I)I" } : Jvm.MethodName) jdk_33_method_49_code (1 : Nat) (Option.some Jvm.ClassFile.FieldType.int), Jvm.Cond.code ({ cls := "com/example/wee_find/weefind/HeldMatches", name := "write", desc := "(J)V" } : Jvm.MethodName) prog_24_method_3_code (5 : Nat) (Option.none : Option Jvm.ClassFile.FieldType), Jvm.Cond.code ({ cls := "com/example/wee_find/weefind/HeldMatches", name := "take", desc := "()J" } : Jvm.MethodName) prog_24_method_5_code (5 : Nat) (Option.some Jvm.ClassFile.FieldType.long), Jvm.Cond.code ({ cls := "com/example/wee_find/weefind/HeldMatches", name := "free", desc := "()V" } : Jvm.MethodName) prog_24_method_6_code (1 : Nat) (Option.none : Option Jvm.ClassFile.FieldType), Jvm.Cond.code ({ cls := "com/example/wee_find/weefind/HeldMatches", name := "refresh", desc := "()V" } : Jvm.MethodName) prog_24_method_4_code (1 : Nat) (Option.none : Option Jvm.ClassFile.FieldType)]
set_option maxRecDepth 65536 in
theorem codes_eq : words1.filter isCode = codes1 := rfl
theorem w_codes : ∀ c ∈ words1.filter isCode, c.before args0 about1 = true := by
  rw [codes_eq]
  intro c hc
  simp only [codes1, List.mem_cons, List.not_mem_nil, or_false] at hc
  rcases hc with rfl | rfl | rfl | rfl | rfl | rfl | rfl | rfl
  · exact w_c0
  · exact w_c1
  · exact w_c2
  · exact w_c3
  · exact w_c4
  · exact w_c5
  · exact w_c6
  · exact w_c7
set_option maxRecDepth 65536 in
theorem w_t1 : (words1.take 24).all (fun c => isCode c || c.before args0 about1) = true := by decide +kernel
set_option maxRecDepth 65536 in
theorem w_t2 : ((words1.drop 24).take 24).all (fun c => isCode c || c.before args0 about1) = true := by decide +kernel
set_option maxRecDepth 65536 in
theorem w_t3 : ((words1.drop 24).drop 24).all (fun c => isCode c || c.before args0 about1) = true := by decide +kernel
theorem w_tables : (allAtoms (Jvm.Cond.code x code maxLocals ret :: tables_1)).before args0 about1 = true := by
  rw [allAtoms_all]
  show words1.all (fun c => c.before args0 about1) = true
  refine all_split ?_ w_codes
  rw [← List.take_append_drop 24 words1, List.all_append, w_t1, ← List.take_append_drop 24 (words1.drop 24), List.all_append, w_t2, w_t3]
  rfl
set_option maxRecDepth 65536 in
theorem w_case : (Jvm.Cond.and given_1 narrow_1).before args0 about1 = true := by decide +kernel
theorem w_applies : (headSpec (Jvm.Cond.code x code maxLocals ret :: tables_1) room_1).applies x e0.platform about1 = true :=
  (Spec.applies_iff w_frames).mpr ⟨w_running, w_runnable, w_alone, w_named, w_hears, w_ripe, w_room, w_tables⟩
theorem atStart : AtStart classFile x code maxLocals ret World_1 tables_1 room_1 Calls_1 rest_1 Pre_1 launch0 p0 e0 about1 theMethod args0 below0 :=
  ⟨lists_1, trivial, launch0.admits_env _ _ _, launch0.least_env, fairChoices_fair.cas, fairChoices_fair.clock, w_frames, w_args, w_heap, w_applies, trivial, trivial, w_case⟩
end start1
theorem witness_1 : WitnessClaimed_1 := ⟨start1.p0, start1.e0, start1.about1, start1.theMethod, start1.args0, start1.below0, start1.atStart⟩
end Jvm.Pilot.@@N@@
