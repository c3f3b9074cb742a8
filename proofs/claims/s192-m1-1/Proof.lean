import JvmDerived
import JvmDerived.Pilot.@@N@@Statement
import JvmDerived.Pilot.@@N@@Code
set_option linter.unusedVariables false
set_option linter.unusedSimpArgs false
@@BLOCK:NumsL.lean.txt@@
namespace Jvm.RoadKit
open Sem ClassFile Op Lib Jvm.Stand Jvm.Free Jvm.LawKit
section New
variable {p : Program} {l : Launch} {e : Env} {R : Room} {s : State} {m : MethodId} {args : Array Value} {below : List Frame} {meth : Method} {c : Code} {T : State} {locs : List Loc} {cells slots : Nat}
theorem retI (X : Stand p l e R s m args below meth c T locs cells slots) (hx : p.tables.exec = Jvm.exec) {pc : Nat} {Ls : Array Slot} {z : Int32} {rest : List Value} (hret : meth.sig.returnType = some .int) (hd : decode c.code pc = .ok (.ireturn, 1)) {fs : List Frame}
    (hl : ∀ (f : JFrame) (acts : List Action), f.method = m → f.locked = none → f.entered = [] → (doReturn e (T.setTop f) acts (some (.int z))).1 = T.setFrames fs) : Steps p.tables e below (T.setTop (mkF m pc Ls (.int z :: rest))) (T.setFrames fs) := by
  have hm' : T.vm.method? m = some meth := X.method'
  have hn : narrow .int (.int z) = .int z := rfl
  show Steps p.tables e below (T.setTop { method := m, pc := pc, locals := Ls, stack := _ :: rest, locked := none }) _
  jvm_step X.here [X.here.top, hx, hd, hm', hret, hn]
  first | (intro acts; rw [hl _ acts rfl rfl rfl]) | rw [hl _ _ rfl rfl rfl]
  exact Steps.refl _
end New
end Jvm.RoadKit
namespace Jvm.Pilot.@@N@@
open Jvm Jvm.ClassFile Sem Op Lib Jvm.Free Jvm.Stand Jvm.LawKit Jvm.RoadKit Bundle Jvm.Pilot.@@N@@.Jvm.D
def own_ush (x : Int64) (s : Int32) : Int64 := ((x.toUInt64 >>> (s &&& 0x3f).toInt64.toUInt64).toInt64)
def own_shl (x : Int64) (s : Int32) : Int64 := (x <<< (s &&& 0x3f).toInt64)
def own_shr (x : Int64) (s : Int32) : Int64 := (x >>> (s &&& 0x3f).toInt64)
def own_iush (x s : Int32) : Int32 := ((x.toUInt32 >>> (s &&& 31).toUInt32).toInt32)
def own_ishl (x s : Int32) : Int32 := (x <<< (s &&& 31))
def own_ishr (x s : Int32) : Int32 := (x >>> (s &&& 31))
def own_lrem (x y : Int64) : Int64 := x - (x / y) * y
def own_A (Z : State) (h : Heap) (a : Addr) (ty : FieldType) (n : Nat) (g : Nat → Int32) : Prop := ∃ c : Cell, Arr Z h a c ty ∧ c.slots.size = n ∧ ∀ i, i < n → c.slots[i]? = some (.int (g i))
def own_put (g : Nat → Int32) (j : Nat) (v : Int32) : Nat → Int32 := fun i => if i = j then v else g i
theorem own_A.lt {Z : State} {h : Heap} {a : Addr} {ty : FieldType} {n : Nat} {g : Nat → Int32} (F : own_A Z h a ty n g) : a < h.size := by obtain ⟨c, A, -⟩ := F; exact A.lt
theorem own_A.ext {Z : State} {h h' : Heap} {a : Addr} {ty : FieldType} {n : Nat} {g : Nat → Int32} (F : own_A Z h a ty n g) (E : Ext h h') : own_A Z h' a ty n g := by obtain ⟨c, A, r⟩ := F; exact ⟨c, A.ext E, r⟩
theorem own_A.other {Z : State} {h h' : Heap} {a b : Addr} {ty : FieldType} {n : Nat} {g : Nat → Int32} {sl : Nat} {v : Value} (F : own_A Z h b ty n g) (W : Wr h h' a sl v) (q : b ≠ a) : own_A Z h' b ty n g := by obtain ⟨c, A, r⟩ := F; exact ⟨c, A.other W q, r⟩
theorem own_A.keep {Z : State} {h h' : Heap} {a : Addr} {ty : FieldType} {n : Nat} {g : Nat → Int32} {ws : List Addr} (F : own_A Z h a ty n g) (K : Keep h h' ws) (q : a ∉ ws) : own_A Z h' a ty n g := by obtain ⟨c, A, r⟩ := F; exact ⟨c, ⟨K.2.1 a c A.1 q, A.2⟩, r⟩
theorem own_A.new {Z : State} {h : Heap} {a : Addr} {k : ClassId} {ty : FieldType} {z : Int32} (A : Arr Z h a (newA k ty z) ty) {n : Nat} (hn : z.toNatClampNeg = n) (hd : defaultValue ty = .int 0) : own_A Z h a ty n (fun _ => (0 : Int32)) := by
  subst hn
  exact ⟨_, A, sz_new _ _ _, fun i hi => by simp [newA, hi, hd]⟩
theorem own_A.congr {Z : State} {h : Heap} {a : Addr} {ty : FieldType} {n : Nat} {f g : Nat → Int32} (F : own_A Z h a ty n f) (q : ∀ i, i < n → f i = g i) : own_A Z h a ty n g := by
  obtain ⟨c, A, S, r⟩ := F; exact ⟨c, A, S, fun i hi => by rw [r i hi, q i hi]⟩
theorem own_A.set {Z : State} {h h' : Heap} {a : Addr} {ty : FieldType} {n : Nat} {g : Nat → Int32} {c : Cell} {j : Nat} {v : Int32} (A : Arr Z h a c ty) (S : c.slots.size = n) (H : ∀ i, i < n → c.slots[i]? = some (.int (g i))) (W : Wr h h' a j (.int v)) : own_A Z h' a ty n (own_put g j v) := by
  obtain ⟨c', h1, -, -, h4, -, h6, h7⟩ := wr_at W A.1
  obtain ⟨e1, e2, -⟩ := h7 rfl
  have A' := A.same W
  subst e1
  refine ⟨_, A', by rw [sz_set]; exact S, fun i hi => ?_⟩
  by_cases q : i = j
  · subst q; rw [e2, own_put, if_pos rfl]
  · rw [h6 i q, H i hi, own_put, if_neg q]
theorem own_inb {c : Cell} {n : Nat} {j : Int32} (S : c.slots.size = n) (q : 0 ≤ j.toInt ∧ j.toInt < n) : ¬ (j < 0 ∨ c.slots.size ≤ j.toNatClampNeg) := by
  rw [S, Int32.lt_iff_toInt_lt]
  have e : j.toNatClampNeg = j.toInt.toNat := rfl
  have z : (0 : Int32).toInt = 0 := by decide
  rw [e, z]; omega
theorem own_lt_of {n : Nat} {j : Int32} (q : 0 ≤ j.toInt ∧ j.toInt < n) : j.toNatClampNeg < n := by
  have e : j.toNatClampNeg = j.toInt.toNat := rfl
  rw [e]; omega
theorem own_len {c : Cell} {n : Nat} {z : Int32} (S : c.slots.size = n) (q : Int32.ofNat n = z) : c.slots.size.toInt32 = z := by rw [S]; exact q
theorem own_ush_eq (x : Int64) (s : Int32) (k : Nat) (hs : ((s &&& 0x3f).toInt64.toUInt64.toBitVec % 64#64).toNat = k) : (own_ush x s).toBitVec = x.toBitVec >>> k := by
  subst hs; rfl
theorem own_shl_eq (x : Int64) (s : Int32) (k : Nat) (hs : ((s &&& 0x3f).toInt64.toBitVec.smod 64#64).toNat = k) : (own_shl x s).toBitVec = x.toBitVec <<< k := by
  subst hs; rfl
theorem own_fin64 : ∀ k : Fin 64, ((Int32.ofNat k.val &&& 0x3f).toInt64.toUInt64.toBitVec % 64#64).toNat = k.val := by decide +kernel
theorem own_fin64' : ∀ k : Fin 64, ((Int32.ofNat k.val &&& 0x3f).toInt64.toBitVec.smod 64#64).toNat = k.val := by decide +kernel
theorem own_ushN (x : Int64) (k : Nat) (hk : k < 64) : (own_ush x (Int32.ofNat k)).toBitVec = x.toBitVec >>> k := own_ush_eq x _ k (own_fin64 ⟨k, hk⟩)
theorem own_shlN (x : Int64) (k : Nat) (hk : k < 64) : (own_shl x (Int32.ofNat k)).toBitVec = x.toBitVec <<< k := own_shl_eq x _ k (own_fin64' ⟨k, hk⟩)
theorem own_nat (s : Int32) (h0 : 0 ≤ s.toInt) : s = Int32.ofNat s.toInt.toNat := by
  have h := s.toInt_lt
  apply Int32.toInt_inj.mp
  rw [Int32.toInt_ofNat_of_lt (by omega)]
  omega
theorem own_natI (k : Nat) (h : k < 2 ^ 31) : (Int32.ofNat k).toInt = k := Int32.toInt_ofNat_of_lt h
theorem own_bit1 (x : BitVec 64) : x &&& 1#64 = if x.getLsbD 0 = true then 1#64 else 0#64 := by
  apply BitVec.eq_of_getLsbD_eq; intro i hi
  rw [BitVec.getLsbD_and, BitVec.getLsbD_one]
  by_cases h0 : i = 0
  · subst h0; cases h : x.getLsbD 0 <;> simp
  · have h1 : (if x.getLsbD 0 = true then 1#64 else 0#64).getLsbD i = false := by
      split
      · rw [BitVec.getLsbD_one]; simp; omega
      · exact BitVec.getLsbD_zero
    rw [h1]; simp [h0]
theorem own_shbit (x : Int64) (k : Nat) (hk : k < 64) : (own_ush x (Int32.ofNat k)) &&& (1 : Int64) = if x.toBitVec.getLsbD k = true then (1 : Int64) else (0 : Int64) := by
  apply Int64.toBitVec_inj.mp
  have e : ((own_ush x (Int32.ofNat k)) &&& (1 : Int64)).toBitVec = (x.toBitVec >>> k) &&& 1#64 := by rw [Int64.toBitVec_and, own_ushN x k hk]; rfl
  rw [e, own_bit1, BitVec.getLsbD_ushiftRight, Nat.add_zero]
  split <;> rfl
theorem own_rem (x m : Int32) (hm : 0 < m.toInt) : ∃ k : Nat, (k : Int) < m.toInt ∧ (x &&& (2147483647 : Int32)) % m = Int32.ofNat k := by
  have h1 : (x &&& (2147483647 : Int32)).toInt = x.toInt % 2 ^ 31 := Jvm.Kit.i32_mask x 2147483647 (k := 31) (by decide) (by decide)
  have h2 : 0 ≤ (x &&& (2147483647 : Int32)).toInt := by rw [h1]; exact Int.emod_nonneg _ (by decide)
  have h3 := Jvm.Kit.i32_rem_nonneg (y := m) h2
  have h4 : 0 ≤ ((x &&& (2147483647 : Int32)) % m).toInt := by rw [h3]; exact Int.emod_nonneg _ (by omega)
  have h5 : ((x &&& (2147483647 : Int32)) % m).toInt < m.toInt := by rw [h3]; exact Int.emod_lt_of_pos _ hm
  refine ⟨((x &&& (2147483647 : Int32)) % m).toInt.toNat, by omega, own_nat _ h4⟩
theorem own_m63 (x : Int32) : ∃ k : Nat, k < 64 ∧ x &&& (63 : Int32) = Int32.ofNat k := by
  have h1 : (x &&& (63 : Int32)).toInt = x.toInt % 2 ^ 6 := Jvm.Kit.i32_mask x 63 (k := 6) (by decide) (by decide)
  refine ⟨(x &&& (63 : Int32)).toInt.toNat, by omega, own_nat _ (by omega)⟩
theorem own_lt (a b : Nat) (ha : a < 2 ^ 31) (hb : b < 2 ^ 31) : (Int32.ofNat a < Int32.ofNat b) ↔ a < b := by
  rw [Int32.lt_iff_toInt_lt, own_natI a ha, own_natI b hb]; omega
theorem own_allones (i : Nat) (hi : i < 64) : (-1 : Int64).toBitVec.getLsbD i = true := by
  have h : ∀ k : Fin 64, (-1 : Int64).toBitVec.getLsbD k.val = true := by decide +kernel
  exact h ⟨i, hi⟩
def own_code (p inn b : Int32) : Int64 := (own_shl ((p - inn).toInt64) (1 : Int32)) ||| ((if b = (0 : Int32) then (0 : Int32) else (1 : Int32)).toInt64)
def own_g0 (c : Int64) (s : Int32) : Int32 := ((own_ush c s).toInt32 &&& (127 : Int32)).toInt8.toInt32
def own_g1 (c : Int64) (s : Int32) : Int32 := (((own_ush c s).toInt32 &&& (127 : Int32)) ||| (128 : Int32)).toInt8.toInt32
def own_m (c : Int64) : Nat := if own_ush c (7 : Int32) = (0 : Int64) then 1 else if own_ush c (14 : Int32) = (0 : Int64) then 2 else if own_ush c (21 : Int32) = (0 : Int64) then 3 else if own_ush c (28 : Int32) = (0 : Int64) then 4 else 5
def own_sk (s : Int32) : Nat → Int32
  | 0 => s
  | k + 1 => own_sk s k + (1 : Int32)
def own_dk (s : Int32) : Nat → Int32
  | 0 => s
  | k + 1 => own_dk s k - (1 : Int32)
def own_byte (c : Int64) (k : Nat) : Int32 := nar .byte (if k + 1 = own_m c then own_g0 c (Int32.ofNat (7 * k)) else own_g1 c (Int32.ofNat (7 * k)))
def own_R (s : Int32) (B : Nat) : Prop := 0 ≤ s.toInt ∧ s.toInt ≤ B
def own_pushed (f g : Nat → Int32) (s : Int32) (c : Int64) : Prop := (∀ i, i < s.toInt.toNat → g i = f i) ∧ ∀ k, k < own_m c → g (s.toInt.toNat + own_m c - 1 - k) = own_byte c k
def own_top (f : Nat → Int32) (s : Int32) (c : Int64) : Prop := (own_m c ≤ s.toInt.toNat ∧ s.toInt ≤ 16) ∧ ∀ k, k < own_m c → f (s.toInt.toNat - 1 - k) = own_byte c k
def own_iv (c : Int64) : Int32 := if (own_byte c 0 &&& (1 : Int32)) = (0 : Int32) then (0 : Int32) else (1 : Int32)
theorem own_I1 : (1 : Int32).toInt = 1 := by decide
theorem own_sk_int {s : Int32} (h : own_R s 1000) : ∀ k : Nat, k ≤ 1000 → (own_sk s k).toInt = s.toInt + k := by
  intro k
  induction k with
  | zero => intro _; show s.toInt = _; omega
  | succ k ih =>
    intro hk
    have q := ih (by omega)
    have o := own_I1
    obtain ⟨h1, h2⟩ := h
    show (own_sk s k + (1 : Int32)).toInt = _
    rw [Jvm.Kit.i32_add (by omega) (by omega)]
    omega
theorem own_dk_int {s : Int32} (h : 0 ≤ s.toInt) : ∀ k : Nat, (k : Int) ≤ s.toInt → (own_dk s k).toInt = s.toInt - k := by
  intro k
  induction k with
  | zero => intro _; show s.toInt = _; omega
  | succ k ih =>
    intro hk
    have q := ih (by omega)
    have o := own_I1
    have u := s.toInt_lt
    show (own_dk s k - (1 : Int32)).toInt = _
    rw [Jvm.Kit.i32_sub (by omega) (by omega)]
    omega
theorem own_mle (c : Int64) : own_m c ≤ 5 := by unfold own_m; (repeat' split) <;> omega
theorem own_mpos (c : Int64) : 0 < own_m c := by unfold own_m; (repeat' split) <;> omega
theorem own_R.mono {s : Int32} {B B' : Nat} (h : own_R s B) (q : B ≤ B') : own_R s B' := ⟨h.1, by have := h.2; omega⟩
theorem own_skb {s : Int32} (hs : own_R s 11) (k : Nat) (hk : k < 5) : 0 ≤ (own_sk s k).toInt ∧ (own_sk s k).toInt < (16 : Nat) := by
  have e := own_sk_int (hs.mono (by decide)) k (by omega)
  obtain ⟨h1, h2⟩ := hs
  omega
theorem own_fit {s m : Int32} (hs : own_R s 11) (hm : m ≤ 5) : ¬ (((16 : Int32) - s) < m) := by
  obtain ⟨h1, h2⟩ := hs
  have e : (16 : Int32).toInt = 16 := by decide
  have e5 : (5 : Int32).toInt = 5 := by decide
  rw [Int32.le_iff_toInt_le] at hm
  rw [Int32.lt_iff_toInt_lt, Jvm.Kit.i32_sub (by omega) (by omega)]
  omega
theorem own_skn {s : Int32} (hs : own_R s 11) (k : Nat) (hk : k < 5) : (own_sk s k).toNatClampNeg = s.toInt.toNat + k := by
  have e := own_sk_int (hs.mono (by decide)) k (by omega)
  have q : (own_sk s k).toNatClampNeg = (own_sk s k).toInt.toNat := rfl
  obtain ⟨h1, h2⟩ := hs
  rw [q, e]; omega
theorem own_skR {s : Int32} {B : Nat} (hs : own_R s B) (hB : B ≤ 11) (c : Int64) : own_R (own_sk s (own_m c)) (B + 5) := by
  have e := own_sk_int (hs.mono (by omega)) (own_m c) (by have := own_mle c; omega)
  have q := own_mle c
  obtain ⟨h1, h2⟩ := hs
  unfold own_R
  omega
theorem own_dksk {s : Int32} (hs : own_R s 11) (c : Int64) : own_dk (own_sk s (own_m c)) (own_m c) = s := by
  have e := own_sk_int (hs.mono (by decide)) (own_m c) (by have := own_mle c; omega)
  obtain ⟨h1, h2⟩ := hs
  have q := own_mle c
  apply Int32.toInt_inj.mp
  rw [own_dk_int (by omega) _ (by omega)]
  omega
theorem own_top_of {f g : Nat → Int32} {s : Int32} {c : Int64} (hs : own_R s 11) (h : own_pushed f g s c) : own_top g (own_sk s (own_m c)) c := by
  have e := own_sk_int (hs.mono (by decide)) (own_m c) (by have := own_mle c; omega)
  obtain ⟨h1, h2⟩ := hs
  have q := own_mle c
  refine ⟨⟨by omega, by omega⟩, fun k hk => ?_⟩
  rw [← h.2 k hk]
  congr 1
  omega
theorem own_top_below {f g : Nat → Int32} {s : Int32} {c c' : Int64} (ht : own_top f s c') (h : own_pushed f g s c) : own_top g s c' := by
  refine ⟨ht.1, fun k hk => ?_⟩
  have q := ht.1.1
  rw [h.1 _ (by omega)]
  exact ht.2 k hk
theorem own_dkb {f : Nat → Int32} {s : Int32} {c : Int64} (ht : own_top f s c) (k : Nat) (hk : k < own_m c) : 0 ≤ (own_dk s (k + 1)).toInt ∧ (own_dk s (k + 1)).toInt < (16 : Nat) := by
  have q := ht.1.1
  have q2 := ht.1.2
  rw [own_dk_int (by omega) (k + 1) (by omega)]
  omega
theorem own_topv {f : Nat → Int32} {s : Int32} {c : Int64} (ht : own_top f s c) (k : Nat) (hk : k < own_m c) : f (own_dk s (k + 1)).toNatClampNeg = own_byte c k := by
  have q := ht.1.1
  rw [← ht.2 k hk]
  congr 1
  have r : (own_dk s (k + 1)).toNatClampNeg = (own_dk s (k + 1)).toInt.toNat := rfl
  rw [r, own_dk_int (by omega) (k + 1) (by omega)]
  omega
theorem own_narb (v : Int32) : (nar .byte v.toInt8.toInt32).toBitVec = ((((v.toBitVec.signExtend 8).signExtend 32).signExtend 8).signExtend 32) := rfl
theorem own_sx (y : BitVec 32) (k : Nat) (hk : k < 8) : ((((y.signExtend 8).signExtend 32).signExtend 8).signExtend 32).getLsbD k = y.getLsbD k := by
  have h1 : k < 32 := by omega
  simp only [BitVec.getLsbD_signExtend, if_pos hk, if_pos h1]
  simp [hk, h1]
theorem own_sx31 (y : BitVec 32) : ((((y.signExtend 8).signExtend 32).signExtend 8).signExtend 32).getLsbD 31 = y.getLsbD 7 := by
  rw [BitVec.getLsbD_signExtend, if_neg (by decide), BitVec.msb_eq_getLsbD_last, BitVec.getLsbD_signExtend, if_pos (by decide), BitVec.getLsbD_signExtend, if_pos (by decide), BitVec.getLsbD_signExtend, if_pos (by decide)]
  simp
theorem own_bsign (y : Int32) : (nar .byte y.toInt8.toInt32) < (0 : Int32) ↔ y.toBitVec.getLsbD 7 = true := by
  have z : (0 : Int32).toInt = 0 := by decide
  have m := BitVec.msb_eq_toInt (x := (nar .byte y.toInt8.toInt32).toBitVec)
  rw [BitVec.msb_eq_getLsbD_last, own_narb, own_sx31] at m
  rw [Int32.lt_iff_toInt_lt, z, m]
  rw [← own_narb]
  simp
theorem own_neg (c : Int64) (k : Nat) (hk : k < own_m c) : own_byte c k < (0 : Int32) ↔ k + 1 < own_m c := by
  unfold own_byte
  by_cases h : k + 1 = own_m c
  · rw [if_pos h, own_g0, own_bsign]
    have e : ((own_ush c (Int32.ofNat (7 * k))).toInt32 &&& (127 : Int32)).toBitVec.getLsbD 7 = false := by
      rw [Int32.toBitVec_and, BitVec.getLsbD_and]
      have : (127 : Int32).toBitVec.getLsbD 7 = false := by decide
      rw [this, Bool.and_false]
    rw [e]
    constructor
    · intro q; exact absurd q (by decide)
    · intro q; omega
  · rw [if_neg h, own_g1, own_bsign]
    have e : (((own_ush c (Int32.ofNat (7 * k))).toInt32 &&& (127 : Int32)) ||| (128 : Int32)).toBitVec.getLsbD 7 = true := by
      rw [Int32.toBitVec_or, BitVec.getLsbD_or]
      have : (128 : Int32).toBitVec.getLsbD 7 = true := by decide
      rw [this, Bool.or_true]
    rw [e]
    constructor
    · intro _; omega
    · intro _; rfl
theorem own_127 (j : Nat) (hj : j < 32) : (127 : Int32).toBitVec.getLsbD j = decide (j < 7) := by
  have h : ∀ k : Fin 32, (127 : Int32).toBitVec.getLsbD k.val = decide (k.val < 7) := by decide +kernel
  exact h ⟨j, hj⟩
theorem own_128 (j : Nat) (hj : j < 7) : (128 : Int32).toBitVec.getLsbD j = false := by
  have h : ∀ k : Fin 7, (128 : Int32).toBitVec.getLsbD k.val = false := by decide +kernel
  exact h ⟨j, hj⟩
theorem own_bytebit (c : Int64) (k j : Nat) (hk : k < 5) (hj : j < 7) : (own_byte c k).toBitVec.getLsbD j = c.toBitVec.getLsbD (7 * k + j) := by
  have h32 : j < 32 := by omega
  have e : (own_ush c (Int32.ofNat (7 * k))).toInt32.toBitVec.getLsbD j = c.toBitVec.getLsbD (7 * k + j) := by
    have e1 : (own_ush c (Int32.ofNat (7 * k))).toInt32.toBitVec = (own_ush c (Int32.ofNat (7 * k))).toBitVec.signExtend 32 := rfl
    rw [e1, own_ushN _ _ (by omega), BitVec.getLsbD_signExtend, if_pos (by omega), BitVec.getLsbD_ushiftRight]
    simp [h32]
  unfold own_byte
  by_cases h : k + 1 = own_m c
  · rw [if_pos h, own_g0, own_narb, own_sx _ j (by omega), Int32.toBitVec_and, BitVec.getLsbD_and, own_127 j h32, e]
    simp [hj]
  · rw [if_neg h, own_g1, own_narb, own_sx _ j (by omega), Int32.toBitVec_or, BitVec.getLsbD_or, Int32.toBitVec_and, BitVec.getLsbD_and, own_127 j h32, own_128 j hj, e]
    simp [hj]
theorem own_piece (c : Int64) (k i : Nat) (hk : k < 5) (hi : i < 64) : (own_shl ((own_byte c k &&& (127 : Int32)).toInt64) (Int32.ofNat (7 * k))).toBitVec.getLsbD i = (decide (7 * k ≤ i) && decide (i < 7 * k + 7) && c.toBitVec.getLsbD i) := by
  have e1 : ((own_byte c k &&& (127 : Int32)).toInt64).toBitVec = (own_byte c k &&& (127 : Int32)).toBitVec.signExtend 64 := rfl
  rw [own_shlN _ _ (by omega), BitVec.getLsbD_shiftLeft, e1, BitVec.getLsbD_signExtend]
  have hm : (own_byte c k &&& (127 : Int32)).toBitVec.msb = false := by
    rw [BitVec.msb_eq_getLsbD_last, Int32.toBitVec_and, BitVec.getLsbD_and, own_127 (32 - 1) (by decide)]
    simp
  rw [hm]
  by_cases h1 : 7 * k ≤ i
  · have g1 : ¬ (i < 7 * k) := by omega
    by_cases h2 : i < 7 * k + 7
    · have g2 : i - 7 * k < 32 := by omega
      have g3 : i - 7 * k < 64 := by omega
      have g4 : i - 7 * k < 7 := by omega
      rw [if_pos g2, Int32.toBitVec_and, BitVec.getLsbD_and, own_bytebit c k _ hk g4, own_127 _ g2]
      have g5 : 7 * k + (i - 7 * k) = i := by omega
      rw [g5]
      simp [h1, h2, g1, g3, g4, hi]
    · by_cases g2 : i - 7 * k < 32
      · have g4 : ¬ (i - 7 * k < 7) := by omega
        rw [if_pos g2, Int32.toBitVec_and, BitVec.getLsbD_and, own_127 _ g2]
        simp [h2, g4]
      · rw [if_neg g2]; simp [h2]
  · have g1 : i < 7 * k := by omega
    simp [h1, g1]
theorem own_ush_zero (x : Int64) (k : Nat) (hk : k < 64) : own_ush x (Int32.ofNat k) = (0 : Int64) ↔ x.toBitVec.toNat < 2 ^ k := by
  rw [← Int64.toBitVec_inj, own_ushN x k hk, ← BitVec.toNat_inj, BitVec.toNat_ushiftRight, Nat.shiftRight_eq_div_pow]
  have hp : 0 < 2 ^ k := Nat.pow_pos (by decide)
  show x.toBitVec.toNat / 2 ^ k = 0 ↔ _
  rw [Nat.div_eq_zero_iff]
  omega
theorem own_max {c : Int64} (hc : c.toBitVec.toNat < 2 ^ 35) : own_ush c (35 : Int32) = (0 : Int64) := (own_ush_zero c 35 (by decide)).mpr hc
theorem own_high {c : Int64} (k i : Nat) (h : c.toBitVec.toNat < 2 ^ k) (hi : k ≤ i) : c.toBitVec.getLsbD i = false := by
  have q : c.toBitVec.getLsbD i = c.toBitVec.toNat.testBit i := rfl
  rw [q]
  exact Nat.testBit_lt_two_pow (Nat.lt_of_lt_of_le h (Nat.pow_le_pow_right (by decide) hi))
theorem own_mbound {c : Int64} (hc : c.toBitVec.toNat < 2 ^ 35) : c.toBitVec.toNat < 2 ^ (7 * own_m c) := by
  unfold own_m
  split
  · next h => exact (own_ush_zero c 7 (by decide)).mp h
  · split
    · next h => exact (own_ush_zero c 14 (by decide)).mp h
    · split
      · next h => exact (own_ush_zero c 21 (by decide)).mp h
      · split
        · next h => exact (own_ush_zero c 28 (by decide)).mp h
        · exact hc
theorem own_eqm {c : Int64} {k : Nat} (h1 : k < own_m c) (h2 : ¬ (own_byte c k < (0 : Int32))) : own_m c = k + 1 := by
  rw [own_neg c k h1] at h2; omega
theorem own_last {c : Int64} (h : 4 < own_m c) : ¬ (own_byte c 4 < (0 : Int32)) := by
  rw [own_neg c 4 h]; have := own_mle c; omega
theorem own_one' (j : Nat) (hj : j < 32) : (1 : Int32).toBitVec.getLsbD j = decide (j = 0) := by
  have h : ∀ k : Fin 32, (1 : Int32).toBitVec.getLsbD k.val = decide (k.val = 0) := by decide +kernel
  exact h ⟨j, hj⟩
theorem own_iv_eq (c : Int64) : own_iv c = if c.toBitVec.getLsbD 0 = true then (1 : Int32) else (0 : Int32) := by
  unfold own_iv
  have e : (own_byte c 0 &&& (1 : Int32)) = (if c.toBitVec.getLsbD 0 = true then (1 : Int32) else (0 : Int32)) := by
    apply Int32.toBitVec_inj.mp
    apply BitVec.eq_of_getLsbD_eq; intro j hj
    rw [Int32.toBitVec_and, BitVec.getLsbD_and, own_one' j hj]
    by_cases h : j = 0
    · subst h
      rw [own_bytebit c 0 0 (by decide) (by decide)]
      cases hb : c.toBitVec.getLsbD 0 <;> simp [hb]
    · have z : ∀ b : Prop, ∀ [Decidable b], (if b then (1 : Int32) else (0 : Int32)).toBitVec.getLsbD j = false := by
        intro b _
        split
        · rw [own_one' j hj]; simp [h]
        · exact BitVec.getLsbD_zero
      rw [z]; simp [h]
  rw [e]
  split <;> rfl
theorem own_code_eq (p inn b : Int32) : (own_code p inn b).toBitVec = (((p - inn).toBitVec.signExtend 64) <<< 1) ||| (if b = (0 : Int32) then 0#64 else 1#64) := by
  by_cases h : b = (0 : Int32)
  · unfold own_code; rw [if_pos h, if_pos h]; rfl
  · unfold own_code; rw [if_neg h, if_neg h]; rfl
theorem own_flag (p inn : Int32) (q : Prop) [Decidable q] : own_iv (own_code p inn (if q then (0 : Int32) else (1 : Int32))) = if q then (0 : Int32) else (1 : Int32) := by
  rw [own_iv_eq, own_code_eq, BitVec.getLsbD_or, BitVec.getLsbD_shiftLeft]
  by_cases h : q
  · rw [if_pos h, if_pos rfl]; simp
  · rw [if_neg h, if_neg (show ¬ ((1 : Int32) = (0 : Int32)) by decide)]; simp
theorem own_pr (p inn b : Int32) : (own_ush (own_code p inn b) (1 : Int32)).toInt32 = p - inn := by
  apply Int32.toBitVec_inj.mp
  have e0 : (own_ush (own_code p inn b) (1 : Int32)).toBitVec = (own_code p inn b).toBitVec >>> 1 := own_ush_eq _ 1 1 (by decide)
  have e : ((own_ush (own_code p inn b) (1 : Int32)).toInt32).toBitVec = ((own_code p inn b).toBitVec >>> 1).signExtend 32 := by rw [← e0]; rfl
  rw [e, own_code_eq]
  apply BitVec.eq_of_getLsbD_eq; intro i hi
  rw [BitVec.getLsbD_signExtend, if_pos (by omega), BitVec.getLsbD_ushiftRight, BitVec.getLsbD_or, BitVec.getLsbD_shiftLeft, BitVec.getLsbD_signExtend]
  have h1 : 1 + i < 64 := by omega
  have h2 : ¬ (1 + i < 1) := by omega
  have h3 : 1 + i - 1 = i := by omega
  have h4 : i < 64 := by omega
  have z : (if b = (0 : Int32) then 0#64 else 1#64).getLsbD (1 + i) = false := by
    split
    · exact BitVec.getLsbD_zero
    · rw [BitVec.getLsbD_one]; simp
  rw [z]
  simp [hi, h1, h2, h3, h4]
theorem own_cb (p inn b : Int32) (h : 0 ≤ (p - inn).toInt) : (own_code p inn b).toBitVec.toNat < 2 ^ 35 := by
  have hlt := (p - inn).toInt_lt
  have e1 : ((p - inn).toBitVec.signExtend 64).toNat < 2 ^ 31 := by
    have m : (p - inn).toBitVec.msb = false := by
      rw [BitVec.msb_eq_toInt]
      have : ¬ ((p - inn).toBitVec.toInt < 0) := by have q : (p - inn).toBitVec.toInt = (p - inn).toInt := rfl; omega
      simpa using this
    rw [BitVec.signExtend_eq_setWidth_of_msb_false m, BitVec.toNat_setWidth]
    have q : (p - inn).toInt = ((p - inn).toBitVec.toNat : Int) := by
      have r : (p - inn).toInt = (p - inn).toBitVec.toInt := rfl
      rw [r, BitVec.toInt_eq_msb_cond, m]; simp
    have q2 : (p - inn).toBitVec.toNat % 2 ^ 64 = (p - inn).toBitVec.toNat := Nat.mod_eq_of_lt (by omega)
    omega
  rw [own_code_eq, BitVec.toNat_or, BitVec.toNat_shiftLeft, Nat.shiftLeft_eq]
  have a : ((p - inn).toBitVec.signExtend 64).toNat * 2 ^ 1 % 2 ^ 64 < 2 ^ 35 := by omega
  have b' : (if b = (0 : Int32) then 0#64 else 1#64).toNat < 2 ^ 35 := by split <;> decide
  exact Nat.or_lt_two_pow a b'
theorem own_push1 (f : Nat → Int32) (s : Int32) (c : Int64) (hm : own_m c = 1) (hs : own_R s 11) : own_pushed f (own_put f (s).toNatClampNeg (nar .byte (own_g0 c (0 : Int32)))) s c := by
  have e0 : (s).toNatClampNeg = s.toInt.toNat := rfl
  unfold own_pushed
  rw [hm, e0]
  generalize s.toInt.toNat = n
  refine ⟨fun i hi => ?_, fun k hk => ?_⟩
  · simp only [own_put]
    rw [if_neg (by omega)]
  · rcases k with _ | k
    · simp only [own_put]
      rw [if_pos (by omega)]
      unfold own_byte
      rw [if_pos (by rw [hm])]
      rfl
    · omega
theorem own_unp1 {c : Int64} (hm : own_m c = 1) (hc : c.toBitVec.toNat < 2 ^ 35) : ((0 : Int64) ||| (own_shl ((own_byte c 0 &&& (127 : Int32)).toInt64) (0 : Int32))) = c := by
  have hb := own_mbound hc
  rw [hm] at hb
  apply Int64.toBitVec_inj.mp
  apply BitVec.eq_of_getLsbD_eq; intro i hi
  have p0 : (own_shl ((own_byte c 0 &&& (127 : Int32)).toInt64) (0 : Int32)).toBitVec.getLsbD i = (decide (7 * 0 ≤ i) && decide (i < 7 * 0 + 7) && c.toBitVec.getLsbD i) := own_piece c 0 i (by decide) hi
  have z : (0 : Int64).toBitVec.getLsbD i = false := BitVec.getLsbD_zero
  simp only [Int64.toBitVec_or, BitVec.getLsbD_or, z, p0]
  by_cases h : i < 7
  · cases c.toBitVec.getLsbD i
    · simp
    · simp only [Bool.and_true, Bool.false_or]
      simp only [Bool.or_eq_true, Bool.and_eq_true, decide_eq_true_eq]
      omega
  · rw [own_high _ i hb (by omega)]; simp
theorem own_push2 (f : Nat → Int32) (s : Int32) (c : Int64) (hm : own_m c = 2) (hs : own_R s 11) : own_pushed f (own_put (own_put f (s).toNatClampNeg (nar .byte (own_g0 c (7 : Int32)))) ((own_sk s 1)).toNatClampNeg (nar .byte (own_g1 c (0 : Int32)))) s c := by
  have e0 : (s).toNatClampNeg = s.toInt.toNat := rfl
  have e1 : (own_sk s 1).toNatClampNeg = s.toInt.toNat + 1 := own_skn hs 1 (by decide)
  unfold own_pushed
  rw [hm, e0, e1]
  generalize s.toInt.toNat = n
  refine ⟨fun i hi => ?_, fun k hk => ?_⟩
  · simp only [own_put]
    rw [if_neg (by omega), if_neg (by omega)]
  · rcases k with _ | _ | k
    · simp only [own_put]
      rw [if_pos (by omega)]
      unfold own_byte
      rw [if_neg (by rw [hm]; decide)]
      rfl
    · simp only [own_put]
      rw [if_neg (by omega), if_pos (by omega)]
      unfold own_byte
      rw [if_pos (by rw [hm])]
      rfl
    · omega
theorem own_unp2 {c : Int64} (hm : own_m c = 2) (hc : c.toBitVec.toNat < 2 ^ 35) : (((0 : Int64) ||| (own_shl ((own_byte c 0 &&& (127 : Int32)).toInt64) (0 : Int32))) ||| (own_shl ((own_byte c 1 &&& (127 : Int32)).toInt64) (7 : Int32))) = c := by
  have hb := own_mbound hc
  rw [hm] at hb
  apply Int64.toBitVec_inj.mp
  apply BitVec.eq_of_getLsbD_eq; intro i hi
  have p0 : (own_shl ((own_byte c 0 &&& (127 : Int32)).toInt64) (0 : Int32)).toBitVec.getLsbD i = (decide (7 * 0 ≤ i) && decide (i < 7 * 0 + 7) && c.toBitVec.getLsbD i) := own_piece c 0 i (by decide) hi
  have p1 : (own_shl ((own_byte c 1 &&& (127 : Int32)).toInt64) (7 : Int32)).toBitVec.getLsbD i = (decide (7 * 1 ≤ i) && decide (i < 7 * 1 + 7) && c.toBitVec.getLsbD i) := own_piece c 1 i (by decide) hi
  have z : (0 : Int64).toBitVec.getLsbD i = false := BitVec.getLsbD_zero
  simp only [Int64.toBitVec_or, BitVec.getLsbD_or, z, p0, p1]
  by_cases h : i < 14
  · cases c.toBitVec.getLsbD i
    · simp
    · simp only [Bool.and_true, Bool.false_or]
      simp only [Bool.or_eq_true, Bool.and_eq_true, decide_eq_true_eq]
      omega
  · rw [own_high _ i hb (by omega)]; simp
theorem own_push3 (f : Nat → Int32) (s : Int32) (c : Int64) (hm : own_m c = 3) (hs : own_R s 11) : own_pushed f (own_put (own_put (own_put f (s).toNatClampNeg (nar .byte (own_g0 c (14 : Int32)))) ((own_sk s 1)).toNatClampNeg (nar .byte (own_g1 c (7 : Int32)))) ((own_sk s 2)).toNatClampNeg (nar .byte (own_g1 c (0 : Int32)))) s c := by
  have e0 : (s).toNatClampNeg = s.toInt.toNat := rfl
  have e1 : (own_sk s 1).toNatClampNeg = s.toInt.toNat + 1 := own_skn hs 1 (by decide)
  have e2 : (own_sk s 2).toNatClampNeg = s.toInt.toNat + 2 := own_skn hs 2 (by decide)
  unfold own_pushed
  rw [hm, e0, e1, e2]
  generalize s.toInt.toNat = n
  refine ⟨fun i hi => ?_, fun k hk => ?_⟩
  · simp only [own_put]
    rw [if_neg (by omega), if_neg (by omega), if_neg (by omega)]
  · rcases k with _ | _ | _ | k
    · simp only [own_put]
      rw [if_pos (by omega)]
      unfold own_byte
      rw [if_neg (by rw [hm]; decide)]
      rfl
    · simp only [own_put]
      rw [if_neg (by omega), if_pos (by omega)]
      unfold own_byte
      rw [if_neg (by rw [hm]; decide)]
      rfl
    · simp only [own_put]
      rw [if_neg (by omega), if_neg (by omega), if_pos (by omega)]
      unfold own_byte
      rw [if_pos (by rw [hm])]
      rfl
    · omega
theorem own_unp3 {c : Int64} (hm : own_m c = 3) (hc : c.toBitVec.toNat < 2 ^ 35) : ((((0 : Int64) ||| (own_shl ((own_byte c 0 &&& (127 : Int32)).toInt64) (0 : Int32))) ||| (own_shl ((own_byte c 1 &&& (127 : Int32)).toInt64) (7 : Int32))) ||| (own_shl ((own_byte c 2 &&& (127 : Int32)).toInt64) (14 : Int32))) = c := by
  have hb := own_mbound hc
  rw [hm] at hb
  apply Int64.toBitVec_inj.mp
  apply BitVec.eq_of_getLsbD_eq; intro i hi
  have p0 : (own_shl ((own_byte c 0 &&& (127 : Int32)).toInt64) (0 : Int32)).toBitVec.getLsbD i = (decide (7 * 0 ≤ i) && decide (i < 7 * 0 + 7) && c.toBitVec.getLsbD i) := own_piece c 0 i (by decide) hi
  have p1 : (own_shl ((own_byte c 1 &&& (127 : Int32)).toInt64) (7 : Int32)).toBitVec.getLsbD i = (decide (7 * 1 ≤ i) && decide (i < 7 * 1 + 7) && c.toBitVec.getLsbD i) := own_piece c 1 i (by decide) hi
  have p2 : (own_shl ((own_byte c 2 &&& (127 : Int32)).toInt64) (14 : Int32)).toBitVec.getLsbD i = (decide (7 * 2 ≤ i) && decide (i < 7 * 2 + 7) && c.toBitVec.getLsbD i) := own_piece c 2 i (by decide) hi
  have z : (0 : Int64).toBitVec.getLsbD i = false := BitVec.getLsbD_zero
  simp only [Int64.toBitVec_or, BitVec.getLsbD_or, z, p0, p1, p2]
  by_cases h : i < 21
  · cases c.toBitVec.getLsbD i
    · simp
    · simp only [Bool.and_true, Bool.false_or]
      simp only [Bool.or_eq_true, Bool.and_eq_true, decide_eq_true_eq]
      omega
  · rw [own_high _ i hb (by omega)]; simp
theorem own_push4 (f : Nat → Int32) (s : Int32) (c : Int64) (hm : own_m c = 4) (hs : own_R s 11) : own_pushed f (own_put (own_put (own_put (own_put f (s).toNatClampNeg (nar .byte (own_g0 c (21 : Int32)))) ((own_sk s 1)).toNatClampNeg (nar .byte (own_g1 c (14 : Int32)))) ((own_sk s 2)).toNatClampNeg (nar .byte (own_g1 c (7 : Int32)))) ((own_sk s 3)).toNatClampNeg (nar .byte (own_g1 c (0 : Int32)))) s c := by
  have e0 : (s).toNatClampNeg = s.toInt.toNat := rfl
  have e1 : (own_sk s 1).toNatClampNeg = s.toInt.toNat + 1 := own_skn hs 1 (by decide)
  have e2 : (own_sk s 2).toNatClampNeg = s.toInt.toNat + 2 := own_skn hs 2 (by decide)
  have e3 : (own_sk s 3).toNatClampNeg = s.toInt.toNat + 3 := own_skn hs 3 (by decide)
  unfold own_pushed
  rw [hm, e0, e1, e2, e3]
  generalize s.toInt.toNat = n
  refine ⟨fun i hi => ?_, fun k hk => ?_⟩
  · simp only [own_put]
    rw [if_neg (by omega), if_neg (by omega), if_neg (by omega), if_neg (by omega)]
  · rcases k with _ | _ | _ | _ | k
    · simp only [own_put]
      rw [if_pos (by omega)]
      unfold own_byte
      rw [if_neg (by rw [hm]; decide)]
      rfl
    · simp only [own_put]
      rw [if_neg (by omega), if_pos (by omega)]
      unfold own_byte
      rw [if_neg (by rw [hm]; decide)]
      rfl
    · simp only [own_put]
      rw [if_neg (by omega), if_neg (by omega), if_pos (by omega)]
      unfold own_byte
      rw [if_neg (by rw [hm]; decide)]
      rfl
    · simp only [own_put]
      rw [if_neg (by omega), if_neg (by omega), if_neg (by omega), if_pos (by omega)]
      unfold own_byte
      rw [if_pos (by rw [hm])]
      rfl
    · omega
theorem own_unp4 {c : Int64} (hm : own_m c = 4) (hc : c.toBitVec.toNat < 2 ^ 35) : (((((0 : Int64) ||| (own_shl ((own_byte c 0 &&& (127 : Int32)).toInt64) (0 : Int32))) ||| (own_shl ((own_byte c 1 &&& (127 : Int32)).toInt64) (7 : Int32))) ||| (own_shl ((own_byte c 2 &&& (127 : Int32)).toInt64) (14 : Int32))) ||| (own_shl ((own_byte c 3 &&& (127 : Int32)).toInt64) (21 : Int32))) = c := by
  have hb := own_mbound hc
  rw [hm] at hb
  apply Int64.toBitVec_inj.mp
  apply BitVec.eq_of_getLsbD_eq; intro i hi
  have p0 : (own_shl ((own_byte c 0 &&& (127 : Int32)).toInt64) (0 : Int32)).toBitVec.getLsbD i = (decide (7 * 0 ≤ i) && decide (i < 7 * 0 + 7) && c.toBitVec.getLsbD i) := own_piece c 0 i (by decide) hi
  have p1 : (own_shl ((own_byte c 1 &&& (127 : Int32)).toInt64) (7 : Int32)).toBitVec.getLsbD i = (decide (7 * 1 ≤ i) && decide (i < 7 * 1 + 7) && c.toBitVec.getLsbD i) := own_piece c 1 i (by decide) hi
  have p2 : (own_shl ((own_byte c 2 &&& (127 : Int32)).toInt64) (14 : Int32)).toBitVec.getLsbD i = (decide (7 * 2 ≤ i) && decide (i < 7 * 2 + 7) && c.toBitVec.getLsbD i) := own_piece c 2 i (by decide) hi
  have p3 : (own_shl ((own_byte c 3 &&& (127 : Int32)).toInt64) (21 : Int32)).toBitVec.getLsbD i = (decide (7 * 3 ≤ i) && decide (i < 7 * 3 + 7) && c.toBitVec.getLsbD i) := own_piece c 3 i (by decide) hi
  have z : (0 : Int64).toBitVec.getLsbD i = false := BitVec.getLsbD_zero
  simp only [Int64.toBitVec_or, BitVec.getLsbD_or, z, p0, p1, p2, p3]
  by_cases h : i < 28
  · cases c.toBitVec.getLsbD i
    · simp
    · simp only [Bool.and_true, Bool.false_or]
      simp only [Bool.or_eq_true, Bool.and_eq_true, decide_eq_true_eq]
      omega
  · rw [own_high _ i hb (by omega)]; simp
theorem own_push5 (f : Nat → Int32) (s : Int32) (c : Int64) (hm : own_m c = 5) (hs : own_R s 11) : own_pushed f (own_put (own_put (own_put (own_put (own_put f (s).toNatClampNeg (nar .byte (own_g0 c (28 : Int32)))) ((own_sk s 1)).toNatClampNeg (nar .byte (own_g1 c (21 : Int32)))) ((own_sk s 2)).toNatClampNeg (nar .byte (own_g1 c (14 : Int32)))) ((own_sk s 3)).toNatClampNeg (nar .byte (own_g1 c (7 : Int32)))) ((own_sk s 4)).toNatClampNeg (nar .byte (own_g1 c (0 : Int32)))) s c := by
  have e0 : (s).toNatClampNeg = s.toInt.toNat := rfl
  have e1 : (own_sk s 1).toNatClampNeg = s.toInt.toNat + 1 := own_skn hs 1 (by decide)
  have e2 : (own_sk s 2).toNatClampNeg = s.toInt.toNat + 2 := own_skn hs 2 (by decide)
  have e3 : (own_sk s 3).toNatClampNeg = s.toInt.toNat + 3 := own_skn hs 3 (by decide)
  have e4 : (own_sk s 4).toNatClampNeg = s.toInt.toNat + 4 := own_skn hs 4 (by decide)
  unfold own_pushed
  rw [hm, e0, e1, e2, e3, e4]
  generalize s.toInt.toNat = n
  refine ⟨fun i hi => ?_, fun k hk => ?_⟩
  · simp only [own_put]
    rw [if_neg (by omega), if_neg (by omega), if_neg (by omega), if_neg (by omega), if_neg (by omega)]
  · rcases k with _ | _ | _ | _ | _ | k
    · simp only [own_put]
      rw [if_pos (by omega)]
      unfold own_byte
      rw [if_neg (by rw [hm]; decide)]
      rfl
    · simp only [own_put]
      rw [if_neg (by omega), if_pos (by omega)]
      unfold own_byte
      rw [if_neg (by rw [hm]; decide)]
      rfl
    · simp only [own_put]
      rw [if_neg (by omega), if_neg (by omega), if_pos (by omega)]
      unfold own_byte
      rw [if_neg (by rw [hm]; decide)]
      rfl
    · simp only [own_put]
      rw [if_neg (by omega), if_neg (by omega), if_neg (by omega), if_pos (by omega)]
      unfold own_byte
      rw [if_neg (by rw [hm]; decide)]
      rfl
    · simp only [own_put]
      rw [if_neg (by omega), if_neg (by omega), if_neg (by omega), if_neg (by omega), if_pos (by omega)]
      unfold own_byte
      rw [if_pos (by rw [hm])]
      rfl
    · omega
theorem own_unp5 {c : Int64} (hm : own_m c = 5) (hc : c.toBitVec.toNat < 2 ^ 35) : ((((((0 : Int64) ||| (own_shl ((own_byte c 0 &&& (127 : Int32)).toInt64) (0 : Int32))) ||| (own_shl ((own_byte c 1 &&& (127 : Int32)).toInt64) (7 : Int32))) ||| (own_shl ((own_byte c 2 &&& (127 : Int32)).toInt64) (14 : Int32))) ||| (own_shl ((own_byte c 3 &&& (127 : Int32)).toInt64) (21 : Int32))) ||| (own_shl ((own_byte c 4 &&& (127 : Int32)).toInt64) (28 : Int32))) = c := by
  have hb := own_mbound hc
  rw [hm] at hb
  apply Int64.toBitVec_inj.mp
  apply BitVec.eq_of_getLsbD_eq; intro i hi
  have p0 : (own_shl ((own_byte c 0 &&& (127 : Int32)).toInt64) (0 : Int32)).toBitVec.getLsbD i = (decide (7 * 0 ≤ i) && decide (i < 7 * 0 + 7) && c.toBitVec.getLsbD i) := own_piece c 0 i (by decide) hi
  have p1 : (own_shl ((own_byte c 1 &&& (127 : Int32)).toInt64) (7 : Int32)).toBitVec.getLsbD i = (decide (7 * 1 ≤ i) && decide (i < 7 * 1 + 7) && c.toBitVec.getLsbD i) := own_piece c 1 i (by decide) hi
  have p2 : (own_shl ((own_byte c 2 &&& (127 : Int32)).toInt64) (14 : Int32)).toBitVec.getLsbD i = (decide (7 * 2 ≤ i) && decide (i < 7 * 2 + 7) && c.toBitVec.getLsbD i) := own_piece c 2 i (by decide) hi
  have p3 : (own_shl ((own_byte c 3 &&& (127 : Int32)).toInt64) (21 : Int32)).toBitVec.getLsbD i = (decide (7 * 3 ≤ i) && decide (i < 7 * 3 + 7) && c.toBitVec.getLsbD i) := own_piece c 3 i (by decide) hi
  have p4 : (own_shl ((own_byte c 4 &&& (127 : Int32)).toInt64) (28 : Int32)).toBitVec.getLsbD i = (decide (7 * 4 ≤ i) && decide (i < 7 * 4 + 7) && c.toBitVec.getLsbD i) := own_piece c 4 i (by decide) hi
  have z : (0 : Int64).toBitVec.getLsbD i = false := BitVec.getLsbD_zero
  simp only [Int64.toBitVec_or, BitVec.getLsbD_or, z, p0, p1, p2, p3, p4]
  by_cases h : i < 35
  · cases c.toBitVec.getLsbD i
    · simp
    · simp only [Bool.and_true, Bool.false_or]
      simp only [Bool.or_eq_true, Bool.and_eq_true, decide_eq_true_eq]
      omega
  · rw [own_high _ i hb (by omega)]; simp
theorem own_top_below2 {f g : Nat → Int32} {s : Int32} {c c' c2 : Int64} (hs : own_R s 11) (ht : own_top f s c') (h : own_pushed f g (own_sk s (own_m c2)) c) : own_top g s c' := by
  refine ⟨ht.1, fun k hk => ?_⟩
  have q := ht.1.1
  have e := own_sk_int (hs.mono (by decide)) (own_m c2) (by have := own_mle c2; omega)
  rw [h.1 _ (by omega)]
  exact ht.2 k hk
theorem own_back (p inn b : Int32) : p - (own_ush (own_code p inn b) (1 : Int32)).toInt32 = inn := by
  rw [own_pr]
  have : p - (p - inn) = inn := by rw [Int32.sub_eq_add_neg, Int32.neg_sub, Int32.add_comm, Int32.sub_add_cancel]
  exact this
def own_min (a b : Int32) : Int32 := if b < a then b else a
def own_mx (a b : Int32) : Int32 := if a < b then b else a
def own_em (d : Int32) : Int32 := if d = (0 : Int32) then (1 : Int32) else (0 : Int32)
def own_x (p : Int32) : Int32 := p &&& (2147483647 : Int32)
def own_a (p q : Int32) : Int32 := own_min (own_x p) (own_x q)
def own_b (p q : Int32) : Int32 := own_mx (own_x p) (own_x q)
theorem own_xi (x : Int32) : 0 ≤ (own_x x).toInt := by
  have h1 : (x &&& (2147483647 : Int32)).toInt = x.toInt % 2 ^ 31 := Jvm.Kit.i32_mask x 2147483647 (k := 31) (by decide) (by decide)
  unfold own_x; omega
theorem own_ab (p q : Int32) (h : ¬ (own_a p q = own_b p q)) : 0 ≤ (own_a p q).toInt ∧ (own_a p q).toInt < (own_b p q).toInt := by
  have h1 := own_xi p
  have h2 := own_xi q
  rw [← Int32.toInt_inj] at h
  unfold own_a own_b own_min own_mx at *
  simp only [Int32.lt_iff_toInt_lt] at *
  by_cases c1 : (own_x q).toInt < (own_x p).toInt
  · rw [if_pos c1, if_neg (by omega)] at *; omega
  · by_cases c2 : (own_x p).toInt < (own_x q).toInt
    · rw [if_neg c1, if_pos c2] at *; omega
    · rw [if_neg c1, if_neg c2] at *; omega
theorem own_diff1 (p q : Int32) (h : ¬ (own_a p q = own_b p q)) : 0 ≤ (own_a p q - (-1 : Int32)).toInt := by
  have h := own_ab p q h
  have e : (-1 : Int32).toInt = -1 := by decide
  have u := (own_b p q).toInt_lt
  rw [Jvm.Kit.i32_sub (by omega) (by omega)]; omega
theorem own_diff2 (p q : Int32) (h : ¬ (own_a p q = own_b p q)) : 0 ≤ (own_b p q - own_a p q).toInt := by
  have h := own_ab p q h
  have u := (own_b p q).toInt_lt
  rw [Jvm.Kit.i32_sub (by omega) (by omega)]; omega
theorem d3_0 : decode prog_32_method_1_code 0 = .ok (.aload_n 0, 1) := by decide +kernel
theorem d3_1 : decode prog_32_method_1_code 1 = .ok (.invokespecial 1, 3) := by decide +kernel
theorem d3_4 : decode prog_32_method_1_code 4 = .ok (.aload_n 0, 1) := by decide +kernel
theorem d3_5 : decode prog_32_method_1_code 5 = .ok (.bipush 16, 2) := by decide +kernel
theorem d3_7 : decode prog_32_method_1_code 7 = .ok (.newarray .byte, 2) := by decide +kernel
theorem d3_9 : decode prog_32_method_1_code 9 = .ok (.putfield 7, 3) := by decide +kernel
theorem d3_12 : decode prog_32_method_1_code 12 = .ok (.aload_n 0, 1) := by decide +kernel
theorem d3_13 : decode prog_32_method_1_code 13 = .ok (.iconst (-1), 1) := by decide +kernel
theorem d3_14 : decode prog_32_method_1_code 14 = .ok (.putfield 13, 3) := by decide +kernel
theorem d3_17 : decode prog_32_method_1_code 17 = .ok (.return_, 1) := by decide +kernel
theorem pn_OpenParentheses : plainName "com/example/mensura/mensura/parser/OpenParentheses" = true := by first | (simp [plainName, overriddenIn]; done) | decide +kernel
theorem ef_3 (m : MethodId) (a : Addr) : entryFrame m #[(.ref a)] 1 = mkF m 0 #[.val (.ref a)] [] := by first | (simp [entryFrame, mkF, argsToLocals, Value.category]; done) | rfl
def QI (Z : State) (a : Addr) (h0 : Heap) (n0 : Nat) (v : Option Value) (h : Heap) (L : List Loc) : Prop := v = none ∧ Fr n0 L ∧ Keep h0 h [a] ∧ ∃ b : Addr, h0.size ≤ b ∧ Fld Z h a "com/example/mensura/mensura/parser/OpenParentheses" "groups" "[B" (.ref b) ∧ own_A Z h b .byte 16 (fun _ => (0 : Int32)) ∧ Fld Z h a "com/example/mensura/mensura/parser/OpenParentheses" "size" "I" (.int (0 : Int32)) ∧ Fld Z h a "com/example/mensura/mensura/parser/OpenParentheses" "innermost" "I" (.int (-1 : Int32)) ∧ Fld Z h a "com/example/mensura/mensura/parser/OpenParentheses" "depth" "I" (.int (0 : Int32))
set_option maxRecDepth 65536 in
set_option maxHeartbeats 40000000 in
theorem rmI (l : Launch) (Z : State) (a0 : Array Value) (hw : ∀ d ∈ tables_1, d.before a0 Z = true) (ws : List Jvm.Cond) (a : Addr) (h0 : Heap) (n0 : Nat) (Z0 : n0 ≤ h0.size) (E_a : Exa Z h0 a "com/example/mensura/mensura/parser/OpenParentheses") (F_a_groups : Fld Z h0 a "com/example/mensura/mensura/parser/OpenParentheses" "groups" "[B" .null) (F_a_size : Fld Z h0 a "com/example/mensura/mensura/parser/OpenParentheses" "size" "I" (.int (0 : Int32))) (F_a_innermost : Fld Z h0 a "com/example/mensura/mensura/parser/OpenParentheses" "innermost" "I" (.int (0 : Int32))) (F_a_depth : Fld Z h0 a "com/example/mensura/mensura/parser/OpenParentheses" "depth" "I" (.int (0 : Int32))) (g_a : n0 ≤ a) :
    MetFree l (⟨"com/example/mensura/mensura/parser/OpenParentheses", "<init>", "()V"⟩ : MethodName) (head1 (Jvm.Cond.code (⟨"com/example/mensura/mensura/parser/OpenParentheses", "<init>", "()V"⟩ : MethodName) prog_32_method_1_code 1 none :: ws) ({ frames := 1, cells := 1, slots := 16, locals := 12 } : Room)) (fun aa U => aa = #[(.ref a)] ∧ Z.Warmed39 U.vm ∧ U.heap = h0) (fun _ _ _ _ _ => True) (fun _ U o U' => ∃ v L, o = .returned v ∧ QI Z a h0 n0 v U'.heap L ∧ FrameEnd U o U' L ({ frames := 1, cells := 1, slots := 16, locals := 12 } : Room).cells ({ frames := 1, cells := 1, slots := 16, locals := 12 } : Room).slots) := by
  refine MetFree.of_bodySF (plainFor_of_name pn_OpenParentheses) hisR ?_
  intro p e s m args below meth c s₁ Bd hml0 hP hK
  obtain ⟨rfl, hZ, hh⟩ := hP
  have hx := Bd.exec
  have hby := Bd.bytes
  have hml : c.maxLocals = 1 := hml0
  have hown : s.vm.findClass "com/example/mensura/mensura/parser/OpenParentheses" = some m.cls := findClass_of_methodNamed Bd.named
  have hnm := (name_of_methodNamed Bd.named Bd.method).1
  have X0 : Stand p l e ({ frames := 1, cells := 1, slots := 16, locals := 12 } : Room) s m #[(.ref a)] below meth c s₁ [] 0 0 := Stand.of_body Bd
  have e0 : s₁.heap = h0 := by rw [← hh, Bd.state]; rfl
  have N0 := Fr.nil n0
  have hlk : meth.locks = false := by first | exact BodyLoose.notSynchronized Bd | exact Body.notSynchronized Bd
  have pre0 : ∀ t, Steps p.tables e below (s₁.setTop (mkF m 0 #[.val (.ref a)] [])) t → Steps p.tables e below (s₁.setTop (entryFrame m #[(.ref a)] 1)) t := fun t k => castTop (ef_3 m a) k
  have K : Keep h0 h0 [a] := Keep.refl _ _
  have pre1 : ∀ t, Steps p.tables e below (s₁.setTop (mkF m 1 #[.val (.ref a)] [(.ref a)])) t → Steps p.tables e below (s₁.setTop (entryFrame m #[(.ref a)] 1)) t := fun t k => pre0 t (by
    show Steps p.tables e below (s₁.setTop (mkF m 0 #[.val (.ref a)] [])) _
    refine XS.aloadN X0.here hx rfl (hb hby d3_0) rfl rfl ?_
    show Steps p.tables e below (s₁.setTop (mkF m 1 #[.val (.ref a)] [(.ref a)])) _
    exact k)
  obtain ⟨T2, X2, e2, st2⟩ := initO X0 hx hZ hown (hw _ (List.mem_of_getElem? (i := 14) rfl)) (hw _ (List.mem_of_getElem? (i := 15) rfl)) (hw _ (List.mem_of_getElem? (i := 16) rfl)) e0 (g := (mkF m 1 #[.val (.ref a)] [(.ref a)])) rfl (by rw [hml]; rfl) rfl (hb hby d3_1) (by decide) (W := 0) (by show 2 * 0 + _ ≤ _; exact Nat.le_of_eq rfl) (by decide)
  have pre3 : ∀ t, Steps p.tables e below (T2.setTop (mkF m 4 #[.val (.ref a)] [])) t → Steps p.tables e below (s₁.setTop (entryFrame m #[(.ref a)] 1)) t := fun t k => pre1 t (st2 t k)
  have pre4 : ∀ t, Steps p.tables e below (T2.setTop (mkF m 7 #[.val (.ref a)] [(.int (16 : Int32)), (.ref a)])) t → Steps p.tables e below (s₁.setTop (entryFrame m #[(.ref a)] 1)) t := fun t k => pre3 t (by
    show Steps p.tables e below (T2.setTop (mkF m 4 #[.val (.ref a)] [])) _
    refine XS.aloadN X2.here hx rfl (hb hby d3_4) rfl rfl ?_
    show Steps p.tables e below (T2.setTop (mkF m 5 #[.val (.ref a)] [(.ref a)])) _
    refine XS.bipush X2.here hx rfl (hb hby d3_5) ?_
    show Steps p.tables e below (T2.setTop (mkF m 7 #[.val (.ref a)] [(.int (16 : Int32)), (.ref a)])) _
    exact k)
  obtain ⟨T5, h5, k5, X5, e5, E5, A5, st5⟩ := newP X2 hx hZ (hw _ (List.mem_of_getElem? (i := 17) rfl)) e2 (g := (mkF m 7 #[.val (.ref a)] [(.int (16 : Int32)), (.ref a)])) rfl (hb hby d3_7) rfl (by decide) (cap := 16) (by decide) (by decide) (by decide) (by decide)
  obtain ⟨b5, g5⟩ : ∃ z, z = h0.size := ⟨_, rfl⟩
  rw [← g5] at A5 st5
  have g_b5 : n0 ≤ b5 := Nat.le_trans Z0 (Nat.le_of_eq g5.symm)
  have sz_b5 : h0.size ≤ b5 := Nat.le_trans K.1 (Nat.le_of_eq g5.symm)
  have ne_a_b5 : a ≠ b5 := Nat.ne_of_lt (Nat.lt_of_lt_of_le E_a.lt (Nat.le_of_eq g5.symm))
  have E_a := E_a.ext E5
  have F_a_groups := F_a_groups.ext E5
  have F_a_size := F_a_size.ext E5
  have F_a_innermost := F_a_innermost.ext E5
  have F_a_depth := F_a_depth.ext E5
  have K := K.ext E5
  have Z5 : n0 ≤ h5.size := Nat.le_trans Z0 E5.1
  have A_b5 : own_A Z h5 b5 .byte 16 (fun _ => (0 : Int32)) := own_A.new A5 rfl rfl
  have pre6 : ∀ t, Steps p.tables e below (T5.setTop (mkF m 9 #[.val (.ref a)] [(.ref b5), (.ref a)])) t → Steps p.tables e below (s₁.setTop (entryFrame m #[(.ref a)] 1)) t := fun t k => pre4 t (st5 t k)
  obtain ⟨T7, h7, X7, e7, W7, st7⟩ := putF X5 hx hZ hown (host := "") (Or.inl (hw _ (List.mem_of_getElem? (i := 18) rfl))) Via.refl e5 F_a_groups E_a (Or.inl (hw _ (List.mem_of_getElem? (i := 19) rfl))) (hw _ (List.mem_of_getElem? (i := 9) rfl)) (ty := (.array .byte)) (by decide) rfl rfl (g := (mkF m 9 #[.val (.ref a)] [(.ref b5), (.ref a)])) rfl rfl (hb hby d3_9)
  have F_a_groups : Fld Z h7 a "com/example/mensura/mensura/parser/OpenParentheses" "groups" "[B" (.ref b5) := F_a_groups.same W7
  have E_a := E_a.wr W7
  have F_a_size := F_a_size.other W7 (Or.inr (slot_ne (Or.inl (hw _ (List.mem_of_getElem? (i := 28) rfl))) (Or.inl (hw _ (List.mem_of_getElem? (i := 19) rfl))) (by decide) (t := .int) (t' := (.array .byte)) (by decide) (by decide)))
  have F_a_innermost := F_a_innermost.other W7 (Or.inr (slot_ne (Or.inl (hw _ (List.mem_of_getElem? (i := 21) rfl))) (Or.inl (hw _ (List.mem_of_getElem? (i := 19) rfl))) (by decide) (t := .int) (t' := (.array .byte)) (by decide) (by decide)))
  have F_a_depth := F_a_depth.other W7 (Or.inr (slot_ne (Or.inl (hw _ (List.mem_of_getElem? (i := 30) rfl))) (Or.inl (hw _ (List.mem_of_getElem? (i := 19) rfl))) (by decide) (t := .int) (t' := (.array .byte)) (by decide) (by decide)))
  have A_b5 := A_b5.other W7 (Ne.symm ne_a_b5)
  have K := K.wr W7 (Or.inl (List.mem_of_getElem? (i := 0) rfl))
  have Z7 : n0 ≤ h7.size := Nat.le_trans Z5 (Keep.of_wr W7).1
  have N7 := Fr.snoc X7 N0 g_a
  have pre8 : ∀ t, Steps p.tables e below (T7.setTop (mkF m 12 #[.val (.ref a)] [])) t → Steps p.tables e below (s₁.setTop (entryFrame m #[(.ref a)] 1)) t := fun t k => pre6 t (st7 t k)
  have pre9 : ∀ t, Steps p.tables e below (T7.setTop (mkF m 14 #[.val (.ref a)] [(.int (-1 : Int32)), (.ref a)])) t → Steps p.tables e below (s₁.setTop (entryFrame m #[(.ref a)] 1)) t := fun t k => pre8 t (by
    show Steps p.tables e below (T7.setTop (mkF m 12 #[.val (.ref a)] [])) _
    refine XS.aloadN X7.here hx rfl (hb hby d3_12) rfl rfl ?_
    show Steps p.tables e below (T7.setTop (mkF m 13 #[.val (.ref a)] [(.ref a)])) _
    refine XS.iconst X7.here hx rfl (hb hby d3_13) ?_
    show Steps p.tables e below (T7.setTop (mkF m 14 #[.val (.ref a)] [(.int (-1 : Int32)), (.ref a)])) _
    exact k)
  obtain ⟨T10, h10, X10, e10, W10, st10⟩ := putF X7 hx hZ hown (host := "") (Or.inl (hw _ (List.mem_of_getElem? (i := 20) rfl))) Via.refl e7 F_a_innermost E_a (Or.inl (hw _ (List.mem_of_getElem? (i := 21) rfl))) (hw _ (List.mem_of_getElem? (i := 9) rfl)) (ty := .int) (by decide) rfl rfl (g := (mkF m 14 #[.val (.ref a)] [(.int (-1 : Int32)), (.ref a)])) rfl rfl (hb hby d3_14)
  have F_a_innermost : Fld Z h10 a "com/example/mensura/mensura/parser/OpenParentheses" "innermost" "I" (.int (-1 : Int32)) := F_a_innermost.same W10
  have E_a := E_a.wr W10
  have F_a_groups := F_a_groups.other W10 (Or.inr (slot_ne (Or.inl (hw _ (List.mem_of_getElem? (i := 19) rfl))) (Or.inl (hw _ (List.mem_of_getElem? (i := 21) rfl))) (by decide) (t := (.array .byte)) (t' := .int) (by decide) (by decide)))
  have F_a_size := F_a_size.other W10 (Or.inr (slot_ne (Or.inl (hw _ (List.mem_of_getElem? (i := 28) rfl))) (Or.inl (hw _ (List.mem_of_getElem? (i := 21) rfl))) (by decide) (t := .int) (t' := .int) (by decide) (by decide)))
  have F_a_depth := F_a_depth.other W10 (Or.inr (slot_ne (Or.inl (hw _ (List.mem_of_getElem? (i := 30) rfl))) (Or.inl (hw _ (List.mem_of_getElem? (i := 21) rfl))) (by decide) (t := .int) (t' := .int) (by decide) (by decide)))
  have A_b5 := A_b5.other W10 (Ne.symm ne_a_b5)
  have K := K.wr W10 (Or.inl (List.mem_of_getElem? (i := 0) rfl))
  have Z10 : n0 ≤ h10.size := Nat.le_trans Z7 (Keep.of_wr W10).1
  have N10 := Fr.snoc X10 N7 g_a
  have pre11 : ∀ t, Steps p.tables e below (T10.setTop (mkF m 17 #[.val (.ref a)] [])) t → Steps p.tables e below (s₁.setTop (entryFrame m #[(.ref a)] 1)) t := fun t k => pre9 t (st10 t k)
  obtain ⟨fs, hr, hrun, hended, hW, hsame⟩ := X10.leave (v := none) (fun _ => rfl) hlk
  refine ⟨_, _, pre11 _ ?_, hrun, hended, _, _, rfl, ?_, ⟨_, rfl⟩, hW, hsame.mono (by decide) (by decide)⟩
  · show Steps p.tables e below (T10.setTop (mkF m 17 #[.val (.ref a)] [])) _
    exact X10.returnOut hx Bd.returns (hb hby d3_17) hr
  · show QI Z a h0 n0 _ T10.heap _
    rw [e10]
    exact ⟨rfl, N10, K, b5, sz_b5, F_a_groups, A_b5, F_a_size, F_a_innermost, F_a_depth⟩
theorem d5_0 : decode prog_32_method_2_code 0 = .ok (.iload_n 1, 1) := by decide +kernel
theorem d5_1 : decode prog_32_method_2_code 1 = .ok (.aload_n 0, 1) := by decide +kernel
theorem d5_2 : decode prog_32_method_2_code 2 = .ok (.getfield 13, 3) := by decide +kernel
theorem d5_5 : decode prog_32_method_2_code 5 = .ok (.isub, 1) := by decide +kernel
theorem d5_6 : decode prog_32_method_2_code 6 = .ok (.i2l, 1) := by decide +kernel
theorem d5_7 : decode prog_32_method_2_code 7 = .ok (.iconst 1, 1) := by decide +kernel
theorem d5_8 : decode prog_32_method_2_code 8 = .ok (.lshl, 1) := by decide +kernel
theorem d5_9 : decode prog_32_method_2_code 9 = .ok (.iload_n 2, 1) := by decide +kernel
theorem d5_10 : decode prog_32_method_2_code 10 = .ok (.ifCond .eq 7, 3) := by decide +kernel
theorem d5_13 : decode prog_32_method_2_code 13 = .ok (.iconst 1, 1) := by decide +kernel
theorem d5_14 : decode prog_32_method_2_code 14 = .ok (.goto 4, 3) := by decide +kernel
theorem d5_17 : decode prog_32_method_2_code 17 = .ok (.iconst 0, 1) := by decide +kernel
theorem d5_18 : decode prog_32_method_2_code 18 = .ok (.i2l, 1) := by decide +kernel
theorem d5_19 : decode prog_32_method_2_code 19 = .ok (.lor, 1) := by decide +kernel
theorem d5_20 : decode prog_32_method_2_code 20 = .ok (.lstore_n 3, 1) := by decide +kernel
theorem d5_21 : decode prog_32_method_2_code 21 = .ok (.iconst 1, 1) := by decide +kernel
theorem d5_22 : decode prog_32_method_2_code 22 = .ok (.istore 5, 2) := by decide +kernel
theorem d5_24 : decode prog_32_method_2_code 24 = .ok (.lload_n 3, 1) := by decide +kernel
theorem d5_25 : decode prog_32_method_2_code 25 = .ok (.bipush 7, 2) := by decide +kernel
theorem d5_27 : decode prog_32_method_2_code 27 = .ok (.iload 5, 2) := by decide +kernel
theorem d5_29 : decode prog_32_method_2_code 29 = .ok (.imul, 1) := by decide +kernel
theorem d5_30 : decode prog_32_method_2_code 30 = .ok (.lushr, 1) := by decide +kernel
theorem d5_31 : decode prog_32_method_2_code 31 = .ok (.lconst 0, 1) := by decide +kernel
theorem d5_32 : decode prog_32_method_2_code 32 = .ok (.lcmp, 1) := by decide +kernel
theorem d5_33 : decode prog_32_method_2_code 33 = .ok (.ifCond .eq 9, 3) := by decide +kernel
theorem d5_36 : decode prog_32_method_2_code 36 = .ok (.iinc 5 1, 3) := by decide +kernel
theorem d5_39 : decode prog_32_method_2_code 39 = .ok (.goto (-15), 3) := by decide +kernel
theorem d5_42 : decode prog_32_method_2_code 42 = .ok (.aload_n 0, 1) := by decide +kernel
theorem d5_43 : decode prog_32_method_2_code 43 = .ok (.getfield 7, 3) := by decide +kernel
theorem d5_46 : decode prog_32_method_2_code 46 = .ok (.arraylength, 1) := by decide +kernel
theorem d5_47 : decode prog_32_method_2_code 47 = .ok (.aload_n 0, 1) := by decide +kernel
theorem d5_48 : decode prog_32_method_2_code 48 = .ok (.getfield 17, 3) := by decide +kernel
theorem d5_51 : decode prog_32_method_2_code 51 = .ok (.isub, 1) := by decide +kernel
theorem d5_52 : decode prog_32_method_2_code 52 = .ok (.iload 5, 2) := by decide +kernel
theorem d5_54 : decode prog_32_method_2_code 54 = .ok (.if_icmp .ge 45, 3) := by decide +kernel
theorem d5_99 : decode prog_32_method_2_code 99 = .ok (.iload 5, 2) := by decide +kernel
theorem d5_101 : decode prog_32_method_2_code 101 = .ok (.iconst 1, 1) := by decide +kernel
theorem d5_102 : decode prog_32_method_2_code 102 = .ok (.isub, 1) := by decide +kernel
theorem d5_103 : decode prog_32_method_2_code 103 = .ok (.istore 6, 2) := by decide +kernel
theorem d5_105 : decode prog_32_method_2_code 105 = .ok (.iload 6, 2) := by decide +kernel
theorem d5_107 : decode prog_32_method_2_code 107 = .ok (.ifCond .lt 59, 3) := by decide +kernel
theorem d5_110 : decode prog_32_method_2_code 110 = .ok (.lload_n 3, 1) := by decide +kernel
theorem d5_111 : decode prog_32_method_2_code 111 = .ok (.bipush 7, 2) := by decide +kernel
theorem d5_113 : decode prog_32_method_2_code 113 = .ok (.iload 6, 2) := by decide +kernel
theorem d5_115 : decode prog_32_method_2_code 115 = .ok (.imul, 1) := by decide +kernel
theorem d5_116 : decode prog_32_method_2_code 116 = .ok (.lushr, 1) := by decide +kernel
theorem d5_117 : decode prog_32_method_2_code 117 = .ok (.l2i, 1) := by decide +kernel
theorem d5_118 : decode prog_32_method_2_code 118 = .ok (.bipush 127, 2) := by decide +kernel
theorem d5_120 : decode prog_32_method_2_code 120 = .ok (.iand, 1) := by decide +kernel
theorem d5_121 : decode prog_32_method_2_code 121 = .ok (.istore 7, 2) := by decide +kernel
theorem d5_123 : decode prog_32_method_2_code 123 = .ok (.aload_n 0, 1) := by decide +kernel
theorem d5_124 : decode prog_32_method_2_code 124 = .ok (.getfield 7, 3) := by decide +kernel
theorem d5_127 : decode prog_32_method_2_code 127 = .ok (.aload_n 0, 1) := by decide +kernel
theorem d5_128 : decode prog_32_method_2_code 128 = .ok (.dup, 1) := by decide +kernel
theorem d5_129 : decode prog_32_method_2_code 129 = .ok (.getfield 17, 3) := by decide +kernel
theorem d5_132 : decode prog_32_method_2_code 132 = .ok (.dup_x1, 1) := by decide +kernel
theorem d5_133 : decode prog_32_method_2_code 133 = .ok (.iconst 1, 1) := by decide +kernel
theorem d5_134 : decode prog_32_method_2_code 134 = .ok (.iadd, 1) := by decide +kernel
theorem d5_135 : decode prog_32_method_2_code 135 = .ok (.putfield 17, 3) := by decide +kernel
theorem d5_138 : decode prog_32_method_2_code 138 = .ok (.iload 6, 2) := by decide +kernel
theorem d5_140 : decode prog_32_method_2_code 140 = .ok (.iload 5, 2) := by decide +kernel
theorem d5_142 : decode prog_32_method_2_code 142 = .ok (.iconst 1, 1) := by decide +kernel
theorem d5_143 : decode prog_32_method_2_code 143 = .ok (.isub, 1) := by decide +kernel
theorem d5_144 : decode prog_32_method_2_code 144 = .ok (.if_icmp .ne 8, 3) := by decide +kernel
theorem d5_147 : decode prog_32_method_2_code 147 = .ok (.iload 7, 2) := by decide +kernel
theorem d5_149 : decode prog_32_method_2_code 149 = .ok (.goto 9, 3) := by decide +kernel
theorem d5_152 : decode prog_32_method_2_code 152 = .ok (.iload 7, 2) := by decide +kernel
theorem d5_154 : decode prog_32_method_2_code 154 = .ok (.sipush 128, 3) := by decide +kernel
theorem d5_157 : decode prog_32_method_2_code 157 = .ok (.ior, 1) := by decide +kernel
theorem d5_158 : decode prog_32_method_2_code 158 = .ok (.i2b, 1) := by decide +kernel
theorem d5_159 : decode prog_32_method_2_code 159 = .ok (.bastore, 1) := by decide +kernel
theorem d5_160 : decode prog_32_method_2_code 160 = .ok (.iinc 6 (-1), 3) := by decide +kernel
theorem d5_163 : decode prog_32_method_2_code 163 = .ok (.goto (-58), 3) := by decide +kernel
theorem d5_166 : decode prog_32_method_2_code 166 = .ok (.aload_n 0, 1) := by decide +kernel
theorem d5_167 : decode prog_32_method_2_code 167 = .ok (.iload_n 1, 1) := by decide +kernel
theorem d5_168 : decode prog_32_method_2_code 168 = .ok (.putfield 13, 3) := by decide +kernel
theorem d5_171 : decode prog_32_method_2_code 171 = .ok (.aload_n 0, 1) := by decide +kernel
theorem d5_172 : decode prog_32_method_2_code 172 = .ok (.dup, 1) := by decide +kernel
theorem d5_173 : decode prog_32_method_2_code 173 = .ok (.getfield 42, 3) := by decide +kernel
theorem d5_176 : decode prog_32_method_2_code 176 = .ok (.iconst 1, 1) := by decide +kernel
theorem d5_177 : decode prog_32_method_2_code 177 = .ok (.iadd, 1) := by decide +kernel
theorem d5_178 : decode prog_32_method_2_code 178 = .ok (.putfield 42, 3) := by decide +kernel
theorem d5_181 : decode prog_32_method_2_code 181 = .ok (.return_, 1) := by decide +kernel
theorem ef_5 (m : MethodId) (a : Addr) (p1 : Int32) (p2 : Int32) : entryFrame m #[(.ref a), (.int p1), (.int p2)] 8 = mkF m 0 #[.val (.ref a), .val (.int p1), .val (.int p2), .unset, .unset, .unset, .unset, .unset] [] := by first | (simp [entryFrame, mkF, argsToLocals, Value.category]; done) | rfl
def lcO_0 (a : Addr) (p1 : Int32) (p2 : Int32) (w_innermost : Int32) : Array Slot := #[.val (.ref a), .val (.int p1), .val (.int p2), .val (.long (own_code p1 w_innermost p2)), .second, .val (.int (1 : Int32)), .val (.int (0 : Int32)), .val (.int (((own_ush (own_code p1 w_innermost p2) (0 : Int32)).toInt32) &&& (127 : Int32)))]
def lcO_1 (a : Addr) (p1 : Int32) (p2 : Int32) (w_innermost : Int32) : Array Slot := #[.val (.ref a), .val (.int p1), .val (.int p2), .val (.long (own_code p1 w_innermost p2)), .second, .val (.int (1 : Int32)), .val (.int (-1 : Int32)), .val (.int (((own_ush (own_code p1 w_innermost p2) (0 : Int32)).toInt32) &&& (127 : Int32)))]
def lcO_2 (a : Addr) (p1 : Int32) (p2 : Int32) (w_innermost : Int32) : Array Slot := #[.val (.ref a), .val (.int p1), .val (.int p2), .val (.long (own_code p1 w_innermost p2)), .second, .val (.int (2 : Int32)), .val (.int (1 : Int32)), .val (.int (((own_ush (own_code p1 w_innermost p2) (7 : Int32)).toInt32) &&& (127 : Int32)))]
def lcO_3 (a : Addr) (p1 : Int32) (p2 : Int32) (w_innermost : Int32) : Array Slot := #[.val (.ref a), .val (.int p1), .val (.int p2), .val (.long (own_code p1 w_innermost p2)), .second, .val (.int (2 : Int32)), .val (.int (0 : Int32)), .val (.int (((own_ush (own_code p1 w_innermost p2) (7 : Int32)).toInt32) &&& (127 : Int32)))]
def lcO_4 (a : Addr) (p1 : Int32) (p2 : Int32) (w_innermost : Int32) : Array Slot := #[.val (.ref a), .val (.int p1), .val (.int p2), .val (.long (own_code p1 w_innermost p2)), .second, .val (.int (2 : Int32)), .val (.int (0 : Int32)), .val (.int (((own_ush (own_code p1 w_innermost p2) (0 : Int32)).toInt32) &&& (127 : Int32)))]
def lcO_5 (a : Addr) (p1 : Int32) (p2 : Int32) (w_innermost : Int32) : Array Slot := #[.val (.ref a), .val (.int p1), .val (.int p2), .val (.long (own_code p1 w_innermost p2)), .second, .val (.int (2 : Int32)), .val (.int (-1 : Int32)), .val (.int (((own_ush (own_code p1 w_innermost p2) (0 : Int32)).toInt32) &&& (127 : Int32)))]
def lcO_6 (a : Addr) (p1 : Int32) (p2 : Int32) (w_innermost : Int32) : Array Slot := #[.val (.ref a), .val (.int p1), .val (.int p2), .val (.long (own_code p1 w_innermost p2)), .second, .val (.int (3 : Int32)), .val (.int (2 : Int32)), .val (.int (((own_ush (own_code p1 w_innermost p2) (14 : Int32)).toInt32) &&& (127 : Int32)))]
def lcO_7 (a : Addr) (p1 : Int32) (p2 : Int32) (w_innermost : Int32) : Array Slot := #[.val (.ref a), .val (.int p1), .val (.int p2), .val (.long (own_code p1 w_innermost p2)), .second, .val (.int (3 : Int32)), .val (.int (1 : Int32)), .val (.int (((own_ush (own_code p1 w_innermost p2) (14 : Int32)).toInt32) &&& (127 : Int32)))]
def lcO_8 (a : Addr) (p1 : Int32) (p2 : Int32) (w_innermost : Int32) : Array Slot := #[.val (.ref a), .val (.int p1), .val (.int p2), .val (.long (own_code p1 w_innermost p2)), .second, .val (.int (3 : Int32)), .val (.int (1 : Int32)), .val (.int (((own_ush (own_code p1 w_innermost p2) (7 : Int32)).toInt32) &&& (127 : Int32)))]
def lcO_9 (a : Addr) (p1 : Int32) (p2 : Int32) (w_innermost : Int32) : Array Slot := #[.val (.ref a), .val (.int p1), .val (.int p2), .val (.long (own_code p1 w_innermost p2)), .second, .val (.int (3 : Int32)), .val (.int (0 : Int32)), .val (.int (((own_ush (own_code p1 w_innermost p2) (7 : Int32)).toInt32) &&& (127 : Int32)))]
def lcO_10 (a : Addr) (p1 : Int32) (p2 : Int32) (w_innermost : Int32) : Array Slot := #[.val (.ref a), .val (.int p1), .val (.int p2), .val (.long (own_code p1 w_innermost p2)), .second, .val (.int (3 : Int32)), .val (.int (0 : Int32)), .val (.int (((own_ush (own_code p1 w_innermost p2) (0 : Int32)).toInt32) &&& (127 : Int32)))]
def lcO_11 (a : Addr) (p1 : Int32) (p2 : Int32) (w_innermost : Int32) : Array Slot := #[.val (.ref a), .val (.int p1), .val (.int p2), .val (.long (own_code p1 w_innermost p2)), .second, .val (.int (3 : Int32)), .val (.int (-1 : Int32)), .val (.int (((own_ush (own_code p1 w_innermost p2) (0 : Int32)).toInt32) &&& (127 : Int32)))]
def lcO_12 (a : Addr) (p1 : Int32) (p2 : Int32) (w_innermost : Int32) : Array Slot := #[.val (.ref a), .val (.int p1), .val (.int p2), .val (.long (own_code p1 w_innermost p2)), .second, .val (.int (4 : Int32)), .val (.int (3 : Int32)), .val (.int (((own_ush (own_code p1 w_innermost p2) (21 : Int32)).toInt32) &&& (127 : Int32)))]
def lcO_13 (a : Addr) (p1 : Int32) (p2 : Int32) (w_innermost : Int32) : Array Slot := #[.val (.ref a), .val (.int p1), .val (.int p2), .val (.long (own_code p1 w_innermost p2)), .second, .val (.int (4 : Int32)), .val (.int (2 : Int32)), .val (.int (((own_ush (own_code p1 w_innermost p2) (21 : Int32)).toInt32) &&& (127 : Int32)))]
def lcO_14 (a : Addr) (p1 : Int32) (p2 : Int32) (w_innermost : Int32) : Array Slot := #[.val (.ref a), .val (.int p1), .val (.int p2), .val (.long (own_code p1 w_innermost p2)), .second, .val (.int (4 : Int32)), .val (.int (2 : Int32)), .val (.int (((own_ush (own_code p1 w_innermost p2) (14 : Int32)).toInt32) &&& (127 : Int32)))]
def lcO_15 (a : Addr) (p1 : Int32) (p2 : Int32) (w_innermost : Int32) : Array Slot := #[.val (.ref a), .val (.int p1), .val (.int p2), .val (.long (own_code p1 w_innermost p2)), .second, .val (.int (4 : Int32)), .val (.int (1 : Int32)), .val (.int (((own_ush (own_code p1 w_innermost p2) (14 : Int32)).toInt32) &&& (127 : Int32)))]
def lcO_16 (a : Addr) (p1 : Int32) (p2 : Int32) (w_innermost : Int32) : Array Slot := #[.val (.ref a), .val (.int p1), .val (.int p2), .val (.long (own_code p1 w_innermost p2)), .second, .val (.int (4 : Int32)), .val (.int (1 : Int32)), .val (.int (((own_ush (own_code p1 w_innermost p2) (7 : Int32)).toInt32) &&& (127 : Int32)))]
def lcO_17 (a : Addr) (p1 : Int32) (p2 : Int32) (w_innermost : Int32) : Array Slot := #[.val (.ref a), .val (.int p1), .val (.int p2), .val (.long (own_code p1 w_innermost p2)), .second, .val (.int (4 : Int32)), .val (.int (0 : Int32)), .val (.int (((own_ush (own_code p1 w_innermost p2) (7 : Int32)).toInt32) &&& (127 : Int32)))]
def lcO_18 (a : Addr) (p1 : Int32) (p2 : Int32) (w_innermost : Int32) : Array Slot := #[.val (.ref a), .val (.int p1), .val (.int p2), .val (.long (own_code p1 w_innermost p2)), .second, .val (.int (4 : Int32)), .val (.int (0 : Int32)), .val (.int (((own_ush (own_code p1 w_innermost p2) (0 : Int32)).toInt32) &&& (127 : Int32)))]
def lcO_19 (a : Addr) (p1 : Int32) (p2 : Int32) (w_innermost : Int32) : Array Slot := #[.val (.ref a), .val (.int p1), .val (.int p2), .val (.long (own_code p1 w_innermost p2)), .second, .val (.int (4 : Int32)), .val (.int (-1 : Int32)), .val (.int (((own_ush (own_code p1 w_innermost p2) (0 : Int32)).toInt32) &&& (127 : Int32)))]
def lcO_20 (a : Addr) (p1 : Int32) (p2 : Int32) (w_innermost : Int32) : Array Slot := #[.val (.ref a), .val (.int p1), .val (.int p2), .val (.long (own_code p1 w_innermost p2)), .second, .val (.int (5 : Int32)), .val (.int (4 : Int32)), .val (.int (((own_ush (own_code p1 w_innermost p2) (28 : Int32)).toInt32) &&& (127 : Int32)))]
def lcO_21 (a : Addr) (p1 : Int32) (p2 : Int32) (w_innermost : Int32) : Array Slot := #[.val (.ref a), .val (.int p1), .val (.int p2), .val (.long (own_code p1 w_innermost p2)), .second, .val (.int (5 : Int32)), .val (.int (3 : Int32)), .val (.int (((own_ush (own_code p1 w_innermost p2) (28 : Int32)).toInt32) &&& (127 : Int32)))]
def lcO_22 (a : Addr) (p1 : Int32) (p2 : Int32) (w_innermost : Int32) : Array Slot := #[.val (.ref a), .val (.int p1), .val (.int p2), .val (.long (own_code p1 w_innermost p2)), .second, .val (.int (5 : Int32)), .val (.int (3 : Int32)), .val (.int (((own_ush (own_code p1 w_innermost p2) (21 : Int32)).toInt32) &&& (127 : Int32)))]
def lcO_23 (a : Addr) (p1 : Int32) (p2 : Int32) (w_innermost : Int32) : Array Slot := #[.val (.ref a), .val (.int p1), .val (.int p2), .val (.long (own_code p1 w_innermost p2)), .second, .val (.int (5 : Int32)), .val (.int (2 : Int32)), .val (.int (((own_ush (own_code p1 w_innermost p2) (21 : Int32)).toInt32) &&& (127 : Int32)))]
def lcO_24 (a : Addr) (p1 : Int32) (p2 : Int32) (w_innermost : Int32) : Array Slot := #[.val (.ref a), .val (.int p1), .val (.int p2), .val (.long (own_code p1 w_innermost p2)), .second, .val (.int (5 : Int32)), .val (.int (2 : Int32)), .val (.int (((own_ush (own_code p1 w_innermost p2) (14 : Int32)).toInt32) &&& (127 : Int32)))]
def lcO_25 (a : Addr) (p1 : Int32) (p2 : Int32) (w_innermost : Int32) : Array Slot := #[.val (.ref a), .val (.int p1), .val (.int p2), .val (.long (own_code p1 w_innermost p2)), .second, .val (.int (5 : Int32)), .val (.int (1 : Int32)), .val (.int (((own_ush (own_code p1 w_innermost p2) (14 : Int32)).toInt32) &&& (127 : Int32)))]
def lcO_26 (a : Addr) (p1 : Int32) (p2 : Int32) (w_innermost : Int32) : Array Slot := #[.val (.ref a), .val (.int p1), .val (.int p2), .val (.long (own_code p1 w_innermost p2)), .second, .val (.int (5 : Int32)), .val (.int (1 : Int32)), .val (.int (((own_ush (own_code p1 w_innermost p2) (7 : Int32)).toInt32) &&& (127 : Int32)))]
def lcO_27 (a : Addr) (p1 : Int32) (p2 : Int32) (w_innermost : Int32) : Array Slot := #[.val (.ref a), .val (.int p1), .val (.int p2), .val (.long (own_code p1 w_innermost p2)), .second, .val (.int (5 : Int32)), .val (.int (0 : Int32)), .val (.int (((own_ush (own_code p1 w_innermost p2) (7 : Int32)).toInt32) &&& (127 : Int32)))]
def lcO_28 (a : Addr) (p1 : Int32) (p2 : Int32) (w_innermost : Int32) : Array Slot := #[.val (.ref a), .val (.int p1), .val (.int p2), .val (.long (own_code p1 w_innermost p2)), .second, .val (.int (5 : Int32)), .val (.int (0 : Int32)), .val (.int (((own_ush (own_code p1 w_innermost p2) (0 : Int32)).toInt32) &&& (127 : Int32)))]
def lcO_29 (a : Addr) (p1 : Int32) (p2 : Int32) (w_innermost : Int32) : Array Slot := #[.val (.ref a), .val (.int p1), .val (.int p2), .val (.long (own_code p1 w_innermost p2)), .second, .val (.int (5 : Int32)), .val (.int (-1 : Int32)), .val (.int (((own_ush (own_code p1 w_innermost p2) (0 : Int32)).toInt32) &&& (127 : Int32)))]
def QO (Z : State) (a : Addr) (p1 : Int32) (p2 : Int32) (f : Nat → Int32) (w_groups : Addr) (w_size : Int32) (w_innermost : Int32) (w_depth : Int32) (h0 : Heap) (n0 : Nat) (v : Option Value) (h : Heap) (L : List Loc) : Prop := v = none ∧ Fr n0 L ∧ Keep h0 h [a, w_groups] ∧ (∃ g : Nat → Int32, own_A Z h w_groups .byte 16 g ∧ own_pushed f g w_size (own_code p1 w_innermost p2)) ∧ Fld Z h a "com/example/mensura/mensura/parser/OpenParentheses" "groups" "[B" (.ref w_groups) ∧ Fld Z h a "com/example/mensura/mensura/parser/OpenParentheses" "size" "I" (.int (own_sk w_size (own_m (own_code p1 w_innermost p2)))) ∧ Fld Z h a "com/example/mensura/mensura/parser/OpenParentheses" "innermost" "I" (.int p1) ∧ Fld Z h a "com/example/mensura/mensura/parser/OpenParentheses" "depth" "I" (.int (w_depth + (1 : Int32)))
set_option maxRecDepth 65536 in
set_option maxHeartbeats 40000000 in
theorem rmO (l : Launch) (Z : State) (a0 : Array Value) (hw : ∀ d ∈ tables_1, d.before a0 Z = true) (ws : List Jvm.Cond) (a : Addr) (p1 : Int32) (p2 : Int32) (f : Nat → Int32) (w_groups : Addr) (w_size : Int32) (w_innermost : Int32) (w_depth : Int32) (h0 : Heap) (n0 : Nat) (Z0 : n0 ≤ h0.size) (E_a : Exa Z h0 a "com/example/mensura/mensura/parser/OpenParentheses") (F_a_groups : Fld Z h0 a "com/example/mensura/mensura/parser/OpenParentheses" "groups" "[B" (.ref w_groups)) (F_a_size : Fld Z h0 a "com/example/mensura/mensura/parser/OpenParentheses" "size" "I" (.int w_size)) (F_a_innermost : Fld Z h0 a "com/example/mensura/mensura/parser/OpenParentheses" "innermost" "I" (.int w_innermost)) (F_a_depth : Fld Z h0 a "com/example/mensura/mensura/parser/OpenParentheses" "depth" "I" (.int w_depth)) (g_a : n0 ≤ a) (A_w_groups : own_A Z h0 w_groups .byte 16 f) (g_w_groups : n0 ≤ w_groups) (ne_a_w_groups : a ≠ w_groups) (hs : own_R w_size 11) (hc : (own_code p1 w_innermost p2).toBitVec.toNat < 2 ^ 35) :
    MetFree l (⟨"com/example/mensura/mensura/parser/OpenParentheses", "open", "(IZ)V"⟩ : MethodName) (head1 (Jvm.Cond.code (⟨"com/example/mensura/mensura/parser/OpenParentheses", "open", "(IZ)V"⟩ : MethodName) prog_32_method_2_code 8 none :: ws) ({ frames := 0, cells := 0, slots := 0, locals := 0 } : Room)) (fun aa U => aa = #[(.ref a), (.int p1), (.int p2)] ∧ Z.Warmed39 U.vm ∧ U.heap = h0) (fun _ _ _ _ _ => True) (fun _ U o U' => ∃ v L, o = .returned v ∧ QO Z a p1 p2 f w_groups w_size w_innermost w_depth h0 n0 v U'.heap L ∧ FrameEnd U o U' L ({ frames := 0, cells := 0, slots := 0, locals := 0 } : Room).cells ({ frames := 0, cells := 0, slots := 0, locals := 0 } : Room).slots) := by
  refine MetFree.of_bodySF (plainFor_of_name pn_OpenParentheses) hisR ?_
  intro p e s m args below meth c s₁ Bd hml0 hP hK
  obtain ⟨rfl, hZ, hh⟩ := hP
  have hx := Bd.exec
  have hby := Bd.bytes
  have hml : c.maxLocals = 8 := hml0
  have hown : s.vm.findClass "com/example/mensura/mensura/parser/OpenParentheses" = some m.cls := findClass_of_methodNamed Bd.named
  have hnm := (name_of_methodNamed Bd.named Bd.method).1
  have X0 : Stand p l e ({ frames := 0, cells := 0, slots := 0, locals := 0 } : Room) s m #[(.ref a), (.int p1), (.int p2)] below meth c s₁ [] 0 0 := Stand.of_body Bd
  have e0 : s₁.heap = h0 := by rw [← hh, Bd.state]; rfl
  have N0 := Fr.nil n0
  have hlk : meth.locks = false := by first | exact BodyLoose.notSynchronized Bd | exact Body.notSynchronized Bd
  have pre0 : ∀ t, Steps p.tables e below (s₁.setTop (mkF m 0 #[.val (.ref a), .val (.int p1), .val (.int p2), .unset, .unset, .unset, .unset, .unset] [])) t → Steps p.tables e below (s₁.setTop (entryFrame m #[(.ref a), (.int p1), (.int p2)] 8)) t := fun t k => castTop (ef_5 m a p1 p2) k
  have K : Keep h0 h0 [a, w_groups] := Keep.refl _ _
  have pre1 : ∀ t, Steps p.tables e below (s₁.setTop (mkF m 2 #[.val (.ref a), .val (.int p1), .val (.int p2), .unset, .unset, .unset, .unset, .unset] [(.ref a), (.int p1)])) t → Steps p.tables e below (s₁.setTop (entryFrame m #[(.ref a), (.int p1), (.int p2)] 8)) t := fun t k => pre0 t (by
    show Steps p.tables e below (s₁.setTop (mkF m 0 #[.val (.ref a), .val (.int p1), .val (.int p2), .unset, .unset, .unset, .unset, .unset] [])) _
    refine XS.iloadN X0.here hx rfl (hb hby d5_0) rfl ?_
    show Steps p.tables e below (s₁.setTop (mkF m 1 #[.val (.ref a), .val (.int p1), .val (.int p2), .unset, .unset, .unset, .unset, .unset] [(.int p1)])) _
    refine XS.aloadN X0.here hx rfl (hb hby d5_1) rfl rfl ?_
    show Steps p.tables e below (s₁.setTop (mkF m 2 #[.val (.ref a), .val (.int p1), .val (.int p2), .unset, .unset, .unset, .unset, .unset] [(.ref a), (.int p1)])) _
    exact k)
  obtain ⟨T2, X2, e2, st2⟩ := getF X0 hx hZ hown (host := "") (Or.inl (hw _ (List.mem_of_getElem? (i := 20) rfl))) Via.refl e0 F_a_innermost (g := (mkF m 2 #[.val (.ref a), .val (.int p1), .val (.int p2), .unset, .unset, .unset, .unset, .unset] [(.ref a), (.int p1)])) rfl rfl (hb hby d5_2)
  have pre3 : ∀ t, Steps p.tables e below (T2.setTop (mkF m 5 #[.val (.ref a), .val (.int p1), .val (.int p2), .unset, .unset, .unset, .unset, .unset] [(.int w_innermost), (.int p1)])) t → Steps p.tables e below (s₁.setTop (entryFrame m #[(.ref a), (.int p1), (.int p2)] 8)) t := fun t k => pre1 t (st2 t k)
  have pre4 : ∀ t, Steps p.tables e below (T2.setTop (mkF m 10 #[.val (.ref a), .val (.int p1), .val (.int p2), .unset, .unset, .unset, .unset, .unset] [(.int p2), (.long (own_shl ((p1 - w_innermost).toInt64) (1 : Int32)))])) t → Steps p.tables e below (s₁.setTop (entryFrame m #[(.ref a), (.int p1), (.int p2)] 8)) t := fun t k => pre3 t (by
    show Steps p.tables e below (T2.setTop (mkF m 5 #[.val (.ref a), .val (.int p1), .val (.int p2), .unset, .unset, .unset, .unset, .unset] [(.int w_innermost), (.int p1)])) _
    refine XS.isub X2.here hx rfl (hb hby d5_5) rfl ?_
    show Steps p.tables e below (T2.setTop (mkF m 6 #[.val (.ref a), .val (.int p1), .val (.int p2), .unset, .unset, .unset, .unset, .unset] [(.int (p1 - w_innermost))])) _
    refine XS.i2l X2.here hx rfl (hb hby d5_6) rfl ?_
    show Steps p.tables e below (T2.setTop (mkF m 7 #[.val (.ref a), .val (.int p1), .val (.int p2), .unset, .unset, .unset, .unset, .unset] [(.long ((p1 - w_innermost).toInt64))])) _
    refine XS.iconst X2.here hx rfl (hb hby d5_7) ?_
    show Steps p.tables e below (T2.setTop (mkF m 8 #[.val (.ref a), .val (.int p1), .val (.int p2), .unset, .unset, .unset, .unset, .unset] [(.int (1 : Int32)), (.long ((p1 - w_innermost).toInt64))])) _
    refine XS.lshl X2.here hx rfl (hb hby d5_8) rfl ?_
    show Steps p.tables e below (T2.setTop (mkF m 9 #[.val (.ref a), .val (.int p1), .val (.int p2), .unset, .unset, .unset, .unset, .unset] [(.long (own_shl ((p1 - w_innermost).toInt64) (1 : Int32)))])) _
    refine XS.iloadN X2.here hx rfl (hb hby d5_9) rfl ?_
    show Steps p.tables e below (T2.setTop (mkF m 10 #[.val (.ref a), .val (.int p1), .val (.int p2), .unset, .unset, .unset, .unset, .unset] [(.int p2), (.long (own_shl ((p1 - w_innermost).toInt64) (1 : Int32)))])) _
    exact k)
  have pre6 : ∀ t, Steps p.tables e below (T2.setTop (mkF m 18 #[.val (.ref a), .val (.int p1), .val (.int p2), .unset, .unset, .unset, .unset, .unset] [(.int (if p2 = (0 : Int32) then (0 : Int32) else (1 : Int32))), (.long (own_shl ((p1 - w_innermost).toInt64) (1 : Int32)))])) t → Steps p.tables e below (s₁.setTop (entryFrame m #[(.ref a), (.int p1), (.int p2)] 8)) t := fun t k => pre4 t (by
    show Steps p.tables e below (T2.setTop (mkF m 10 #[.val (.ref a), .val (.int p1), .val (.int p2), .unset, .unset, .unset, .unset, .unset] [(.int p2), (.long (own_shl ((p1 - w_innermost).toInt64) (1 : Int32)))])) _
    by_cases hm10_5 : p2 = (0 : Int32)
    · refine XS.ifYes X2.here hx rfl (pc0 := 10) (pc' := 17) rfl (hb hby d5_10) rfl ((if0 _ _).trans (teq hm10_5).1) (by decide) (by decide) ?_
      show Steps p.tables e below (T2.setTop (mkF m 17 #[.val (.ref a), .val (.int p1), .val (.int p2), .unset, .unset, .unset, .unset, .unset] [(.long (own_shl ((p1 - w_innermost).toInt64) (1 : Int32)))])) _
      refine XS.iconst X2.here hx rfl (hb hby d5_17) ?_
      show Steps p.tables e below (T2.setTop (mkF m 18 #[.val (.ref a), .val (.int p1), .val (.int p2), .unset, .unset, .unset, .unset, .unset] [(.int (0 : Int32)), (.long (own_shl ((p1 - w_innermost).toInt64) (1 : Int32)))])) _
      have q : (if p2 = (0 : Int32) then (0 : Int32) else (1 : Int32)) = (0 : Int32) := by simp only [if_pos hm10_5]
      exact Eq.subst (motive := fun xI => Steps p.tables e below (T2.setTop (mkF m 18 #[.val (.ref a), .val (.int p1), .val (.int p2), .unset, .unset, .unset, .unset, .unset] [(.int xI), (.long (own_shl ((p1 - w_innermost).toInt64) (1 : Int32)))])) t) q k
    · refine XS.ifNo X2.here hx rfl (hb hby d5_10) rfl ((if0 _ _).trans (feq hm10_5).1) ?_
      show Steps p.tables e below (T2.setTop (mkF m 13 #[.val (.ref a), .val (.int p1), .val (.int p2), .unset, .unset, .unset, .unset, .unset] [(.long (own_shl ((p1 - w_innermost).toInt64) (1 : Int32)))])) _
      refine XS.iconst X2.here hx rfl (hb hby d5_13) ?_
      show Steps p.tables e below (T2.setTop (mkF m 14 #[.val (.ref a), .val (.int p1), .val (.int p2), .unset, .unset, .unset, .unset, .unset] [(.int (1 : Int32)), (.long (own_shl ((p1 - w_innermost).toInt64) (1 : Int32)))])) _
      refine XS.goto X2.here hx rfl (pc0 := 14) (pc' := 18) rfl (hb hby d5_14) (by decide) (by decide) ?_
      show Steps p.tables e below (T2.setTop (mkF m 18 #[.val (.ref a), .val (.int p1), .val (.int p2), .unset, .unset, .unset, .unset, .unset] [(.int (1 : Int32)), (.long (own_shl ((p1 - w_innermost).toInt64) (1 : Int32)))])) _
      have q : (if p2 = (0 : Int32) then (0 : Int32) else (1 : Int32)) = (1 : Int32) := by simp only [if_neg hm10_5]
      exact Eq.subst (motive := fun xI => Steps p.tables e below (T2.setTop (mkF m 18 #[.val (.ref a), .val (.int p1), .val (.int p2), .unset, .unset, .unset, .unset, .unset] [(.int xI), (.long (own_shl ((p1 - w_innermost).toInt64) (1 : Int32)))])) t) q k)
  have pre7 : ∀ t, Steps p.tables e below (T2.setTop (mkF m 33 #[.val (.ref a), .val (.int p1), .val (.int p2), .val (.long (own_code p1 w_innermost p2)), .second, .val (.int (1 : Int32)), .unset, .unset] [(.int (lcmpW (own_ush (own_code p1 w_innermost p2) (7 : Int32)) (0 : Int64)))])) t → Steps p.tables e below (s₁.setTop (entryFrame m #[(.ref a), (.int p1), (.int p2)] 8)) t := fun t k => pre6 t (by
    show Steps p.tables e below (T2.setTop (mkF m 18 #[.val (.ref a), .val (.int p1), .val (.int p2), .unset, .unset, .unset, .unset, .unset] [(.int (if p2 = (0 : Int32) then (0 : Int32) else (1 : Int32))), (.long (own_shl ((p1 - w_innermost).toInt64) (1 : Int32)))])) _
    refine XS.i2l X2.here hx rfl (hb hby d5_18) rfl ?_
    show Steps p.tables e below (T2.setTop (mkF m 19 #[.val (.ref a), .val (.int p1), .val (.int p2), .unset, .unset, .unset, .unset, .unset] [(.long ((if p2 = (0 : Int32) then (0 : Int32) else (1 : Int32)).toInt64)), (.long (own_shl ((p1 - w_innermost).toInt64) (1 : Int32)))])) _
    refine XS.lor X2.here hx rfl (hb hby d5_19) rfl ?_
    show Steps p.tables e below (T2.setTop (mkF m 20 #[.val (.ref a), .val (.int p1), .val (.int p2), .unset, .unset, .unset, .unset, .unset] [(.long (own_code p1 w_innermost p2))])) _
    refine XS.lstoreN X2.here hx rfl (hb hby d5_20) rfl (l' := #[.val (.ref a), .val (.int p1), .val (.int p2), .val (.long (own_code p1 w_innermost p2)), .second, .unset, .unset, .unset]) rfl ?_
    show Steps p.tables e below (T2.setTop (mkF m 21 #[.val (.ref a), .val (.int p1), .val (.int p2), .val (.long (own_code p1 w_innermost p2)), .second, .unset, .unset, .unset] [])) _
    refine XS.iconst X2.here hx rfl (hb hby d5_21) ?_
    show Steps p.tables e below (T2.setTop (mkF m 22 #[.val (.ref a), .val (.int p1), .val (.int p2), .val (.long (own_code p1 w_innermost p2)), .second, .unset, .unset, .unset] [(.int (1 : Int32))])) _
    refine XS.istore X2.here hx rfl (hb hby d5_22) rfl (l' := #[.val (.ref a), .val (.int p1), .val (.int p2), .val (.long (own_code p1 w_innermost p2)), .second, .val (.int (1 : Int32)), .unset, .unset]) rfl ?_
    show Steps p.tables e below (T2.setTop (mkF m 24 #[.val (.ref a), .val (.int p1), .val (.int p2), .val (.long (own_code p1 w_innermost p2)), .second, .val (.int (1 : Int32)), .unset, .unset] [])) _
    refine XS.lloadN X2.here hx rfl (hb hby d5_24) rfl ?_
    show Steps p.tables e below (T2.setTop (mkF m 25 #[.val (.ref a), .val (.int p1), .val (.int p2), .val (.long (own_code p1 w_innermost p2)), .second, .val (.int (1 : Int32)), .unset, .unset] [(.long (own_code p1 w_innermost p2))])) _
    refine XS.bipush X2.here hx rfl (hb hby d5_25) ?_
    show Steps p.tables e below (T2.setTop (mkF m 27 #[.val (.ref a), .val (.int p1), .val (.int p2), .val (.long (own_code p1 w_innermost p2)), .second, .val (.int (1 : Int32)), .unset, .unset] [(.int (7 : Int32)), (.long (own_code p1 w_innermost p2))])) _
    refine XS.iload X2.here hx rfl (hb hby d5_27) rfl ?_
    show Steps p.tables e below (T2.setTop (mkF m 29 #[.val (.ref a), .val (.int p1), .val (.int p2), .val (.long (own_code p1 w_innermost p2)), .second, .val (.int (1 : Int32)), .unset, .unset] [(.int (1 : Int32)), (.int (7 : Int32)), (.long (own_code p1 w_innermost p2))])) _
    refine XS.imul X2.here hx rfl (hb hby d5_29) rfl ?_
    show Steps p.tables e below (T2.setTop (mkF m 30 #[.val (.ref a), .val (.int p1), .val (.int p2), .val (.long (own_code p1 w_innermost p2)), .second, .val (.int (1 : Int32)), .unset, .unset] [(.int (7 : Int32)), (.long (own_code p1 w_innermost p2))])) _
    refine XS.lushr X2.here hx rfl (hb hby d5_30) rfl ?_
    show Steps p.tables e below (T2.setTop (mkF m 31 #[.val (.ref a), .val (.int p1), .val (.int p2), .val (.long (own_code p1 w_innermost p2)), .second, .val (.int (1 : Int32)), .unset, .unset] [(.long (own_ush (own_code p1 w_innermost p2) (7 : Int32)))])) _
    refine XS.lconst X2.here hx rfl (hb hby d5_31) ?_
    show Steps p.tables e below (T2.setTop (mkF m 32 #[.val (.ref a), .val (.int p1), .val (.int p2), .val (.long (own_code p1 w_innermost p2)), .second, .val (.int (1 : Int32)), .unset, .unset] [(.long (0 : Int64)), (.long (own_ush (own_code p1 w_innermost p2) (7 : Int32)))])) _
    refine XS.lcmp X2.here hx rfl (hb hby d5_32) rfl ?_
    show Steps p.tables e below (T2.setTop (mkF m 33 #[.val (.ref a), .val (.int p1), .val (.int p2), .val (.long (own_code p1 w_innermost p2)), .second, .val (.int (1 : Int32)), .unset, .unset] [(.int (lcmpW (own_ush (own_code p1 w_innermost p2) (7 : Int32)) (0 : Int64)))])) _
    exact k)
  by_cases hc33_8 : (own_ush (own_code p1 w_innermost p2) (7 : Int32)) = (0 : Int64)
  · have pre9 : ∀ t, Steps p.tables e below (T2.setTop (mkF m 43 #[.val (.ref a), .val (.int p1), .val (.int p2), .val (.long (own_code p1 w_innermost p2)), .second, .val (.int (1 : Int32)), .unset, .unset] [(.ref a)])) t → Steps p.tables e below (s₁.setTop (entryFrame m #[(.ref a), (.int p1), (.int p2)] 8)) t := fun t k => pre7 t (by
      show Steps p.tables e below (T2.setTop (mkF m 33 #[.val (.ref a), .val (.int p1), .val (.int p2), .val (.long (own_code p1 w_innermost p2)), .second, .val (.int (1 : Int32)), .unset, .unset] [(.int (lcmpW (own_ush (own_code p1 w_innermost p2) (7 : Int32)) (0 : Int64)))])) _
      refine XS.ifYes X2.here hx rfl (pc0 := 33) (pc' := 42) rfl (hb hby d5_33) rfl ((if0 _ _).trans (teq ((lw_eq _ _).mpr hc33_8)).1) (by decide) (by decide) ?_
      show Steps p.tables e below (T2.setTop (mkF m 42 #[.val (.ref a), .val (.int p1), .val (.int p2), .val (.long (own_code p1 w_innermost p2)), .second, .val (.int (1 : Int32)), .unset, .unset] [])) _
      refine XS.aloadN X2.here hx rfl (hb hby d5_42) rfl rfl ?_
      show Steps p.tables e below (T2.setTop (mkF m 43 #[.val (.ref a), .val (.int p1), .val (.int p2), .val (.long (own_code p1 w_innermost p2)), .second, .val (.int (1 : Int32)), .unset, .unset] [(.ref a)])) _
      exact k)
    obtain ⟨T10, X10, e10, st10⟩ := getF X2 hx hZ hown (host := "") (Or.inl (hw _ (List.mem_of_getElem? (i := 18) rfl))) Via.refl e2 F_a_groups (g := (mkF m 43 #[.val (.ref a), .val (.int p1), .val (.int p2), .val (.long (own_code p1 w_innermost p2)), .second, .val (.int (1 : Int32)), .unset, .unset] [(.ref a)])) rfl rfl (hb hby d5_43)
    have pre11 : ∀ t, Steps p.tables e below (T10.setTop (mkF m 46 #[.val (.ref a), .val (.int p1), .val (.int p2), .val (.long (own_code p1 w_innermost p2)), .second, .val (.int (1 : Int32)), .unset, .unset] [(.ref w_groups)])) t → Steps p.tables e below (s₁.setTop (entryFrame m #[(.ref a), (.int p1), (.int p2)] 8)) t := fun t k => pre9 t (st10 t k)
    obtain ⟨cl12, Ar12, Sz12, Hf12⟩ := id A_w_groups
    have pre13 : ∀ t, Steps p.tables e below (T10.setTop (mkF m 47 #[.val (.ref a), .val (.int p1), .val (.int p2), .val (.long (own_code p1 w_innermost p2)), .second, .val (.int (1 : Int32)), .unset, .unset] [(.int (16 : Int32))])) t → Steps p.tables e below (s₁.setTop (entryFrame m #[(.ref a), (.int p1), (.int p2)] 8)) t := fun t k => pre11 t (X10.arraylength hx (by rw [e10]; exact Ar12.1) (State.isArrayOf_alike hZ.alike Ar12.2.1) (g := (mkF m 46 #[.val (.ref a), .val (.int p1), .val (.int p2), .val (.long (own_code p1 w_innermost p2)), .second, .val (.int (1 : Int32)), .unset, .unset] [(.ref w_groups)])) rfl rfl (hb hby d5_46) _ (by rw [own_len Sz12 rfl]; exact k))
    have pre14 : ∀ t, Steps p.tables e below (T10.setTop (mkF m 48 #[.val (.ref a), .val (.int p1), .val (.int p2), .val (.long (own_code p1 w_innermost p2)), .second, .val (.int (1 : Int32)), .unset, .unset] [(.ref a), (.int (16 : Int32))])) t → Steps p.tables e below (s₁.setTop (entryFrame m #[(.ref a), (.int p1), (.int p2)] 8)) t := fun t k => pre13 t (by
      show Steps p.tables e below (T10.setTop (mkF m 47 #[.val (.ref a), .val (.int p1), .val (.int p2), .val (.long (own_code p1 w_innermost p2)), .second, .val (.int (1 : Int32)), .unset, .unset] [(.int (16 : Int32))])) _
      refine XS.aloadN X10.here hx rfl (hb hby d5_47) rfl rfl ?_
      show Steps p.tables e below (T10.setTop (mkF m 48 #[.val (.ref a), .val (.int p1), .val (.int p2), .val (.long (own_code p1 w_innermost p2)), .second, .val (.int (1 : Int32)), .unset, .unset] [(.ref a), (.int (16 : Int32))])) _
      exact k)
    obtain ⟨T15, X15, e15, st15⟩ := getF X10 hx hZ hown (host := "") (Or.inl (hw _ (List.mem_of_getElem? (i := 27) rfl))) Via.refl e10 F_a_size (g := (mkF m 48 #[.val (.ref a), .val (.int p1), .val (.int p2), .val (.long (own_code p1 w_innermost p2)), .second, .val (.int (1 : Int32)), .unset, .unset] [(.ref a), (.int (16 : Int32))])) rfl rfl (hb hby d5_48)
    have pre16 : ∀ t, Steps p.tables e below (T15.setTop (mkF m 51 #[.val (.ref a), .val (.int p1), .val (.int p2), .val (.long (own_code p1 w_innermost p2)), .second, .val (.int (1 : Int32)), .unset, .unset] [(.int w_size), (.int (16 : Int32))])) t → Steps p.tables e below (s₁.setTop (entryFrame m #[(.ref a), (.int p1), (.int p2)] 8)) t := fun t k => pre14 t (st15 t k)
    have pre17 : ∀ t, Steps p.tables e below (T15.setTop (mkF m 124 (lcO_0 a p1 p2 w_innermost) [(.ref a)])) t → Steps p.tables e below (s₁.setTop (entryFrame m #[(.ref a), (.int p1), (.int p2)] 8)) t := fun t k => pre16 t (by
      show Steps p.tables e below (T15.setTop (mkF m 51 #[.val (.ref a), .val (.int p1), .val (.int p2), .val (.long (own_code p1 w_innermost p2)), .second, .val (.int (1 : Int32)), .unset, .unset] [(.int w_size), (.int (16 : Int32))])) _
      refine XS.isub X15.here hx rfl (hb hby d5_51) rfl ?_
      show Steps p.tables e below (T15.setTop (mkF m 52 #[.val (.ref a), .val (.int p1), .val (.int p2), .val (.long (own_code p1 w_innermost p2)), .second, .val (.int (1 : Int32)), .unset, .unset] [(.int ((16 : Int32) - w_size))])) _
      refine XS.iload X15.here hx rfl (hb hby d5_52) rfl ?_
      show Steps p.tables e below (T15.setTop (mkF m 54 #[.val (.ref a), .val (.int p1), .val (.int p2), .val (.long (own_code p1 w_innermost p2)), .second, .val (.int (1 : Int32)), .unset, .unset] [(.int (1 : Int32)), (.int ((16 : Int32) - w_size))])) _
      refine XS.icmpYes X15.here hx rfl (pc0 := 54) (pc' := 99) rfl (hb hby d5_54) rfl (flt (show ¬ (((16 : Int32) - w_size) < (1 : Int32)) from own_fit hs (by decide))).2.1 (by decide) (by decide) ?_
      show Steps p.tables e below (T15.setTop (mkF m 99 #[.val (.ref a), .val (.int p1), .val (.int p2), .val (.long (own_code p1 w_innermost p2)), .second, .val (.int (1 : Int32)), .unset, .unset] [])) _
      refine XS.iload X15.here hx rfl (hb hby d5_99) rfl ?_
      show Steps p.tables e below (T15.setTop (mkF m 101 #[.val (.ref a), .val (.int p1), .val (.int p2), .val (.long (own_code p1 w_innermost p2)), .second, .val (.int (1 : Int32)), .unset, .unset] [(.int (1 : Int32))])) _
      refine XS.iconst X15.here hx rfl (hb hby d5_101) ?_
      show Steps p.tables e below (T15.setTop (mkF m 102 #[.val (.ref a), .val (.int p1), .val (.int p2), .val (.long (own_code p1 w_innermost p2)), .second, .val (.int (1 : Int32)), .unset, .unset] [(.int (1 : Int32)), (.int (1 : Int32))])) _
      refine XS.isub X15.here hx rfl (hb hby d5_102) rfl ?_
      show Steps p.tables e below (T15.setTop (mkF m 103 #[.val (.ref a), .val (.int p1), .val (.int p2), .val (.long (own_code p1 w_innermost p2)), .second, .val (.int (1 : Int32)), .unset, .unset] [(.int (0 : Int32))])) _
      refine XS.istore X15.here hx rfl (hb hby d5_103) rfl (l' := #[.val (.ref a), .val (.int p1), .val (.int p2), .val (.long (own_code p1 w_innermost p2)), .second, .val (.int (1 : Int32)), .val (.int (0 : Int32)), .unset]) rfl ?_
      show Steps p.tables e below (T15.setTop (mkF m 105 #[.val (.ref a), .val (.int p1), .val (.int p2), .val (.long (own_code p1 w_innermost p2)), .second, .val (.int (1 : Int32)), .val (.int (0 : Int32)), .unset] [])) _
      refine XS.iload X15.here hx rfl (hb hby d5_105) rfl ?_
      show Steps p.tables e below (T15.setTop (mkF m 107 #[.val (.ref a), .val (.int p1), .val (.int p2), .val (.long (own_code p1 w_innermost p2)), .second, .val (.int (1 : Int32)), .val (.int (0 : Int32)), .unset] [(.int (0 : Int32))])) _
      refine XS.ifNo X15.here hx rfl (hb hby d5_107) rfl ((if0 _ _).trans (flt (by decide)).1) ?_
      show Steps p.tables e below (T15.setTop (mkF m 110 #[.val (.ref a), .val (.int p1), .val (.int p2), .val (.long (own_code p1 w_innermost p2)), .second, .val (.int (1 : Int32)), .val (.int (0 : Int32)), .unset] [])) _
      refine XS.lloadN X15.here hx rfl (hb hby d5_110) rfl ?_
      show Steps p.tables e below (T15.setTop (mkF m 111 #[.val (.ref a), .val (.int p1), .val (.int p2), .val (.long (own_code p1 w_innermost p2)), .second, .val (.int (1 : Int32)), .val (.int (0 : Int32)), .unset] [(.long (own_code p1 w_innermost p2))])) _
      refine XS.bipush X15.here hx rfl (hb hby d5_111) ?_
      show Steps p.tables e below (T15.setTop (mkF m 113 #[.val (.ref a), .val (.int p1), .val (.int p2), .val (.long (own_code p1 w_innermost p2)), .second, .val (.int (1 : Int32)), .val (.int (0 : Int32)), .unset] [(.int (7 : Int32)), (.long (own_code p1 w_innermost p2))])) _
      refine XS.iload X15.here hx rfl (hb hby d5_113) rfl ?_
      show Steps p.tables e below (T15.setTop (mkF m 115 #[.val (.ref a), .val (.int p1), .val (.int p2), .val (.long (own_code p1 w_innermost p2)), .second, .val (.int (1 : Int32)), .val (.int (0 : Int32)), .unset] [(.int (0 : Int32)), (.int (7 : Int32)), (.long (own_code p1 w_innermost p2))])) _
      refine XS.imul X15.here hx rfl (hb hby d5_115) rfl ?_
      show Steps p.tables e below (T15.setTop (mkF m 116 #[.val (.ref a), .val (.int p1), .val (.int p2), .val (.long (own_code p1 w_innermost p2)), .second, .val (.int (1 : Int32)), .val (.int (0 : Int32)), .unset] [(.int (0 : Int32)), (.long (own_code p1 w_innermost p2))])) _
      refine XS.lushr X15.here hx rfl (hb hby d5_116) rfl ?_
      show Steps p.tables e below (T15.setTop (mkF m 117 #[.val (.ref a), .val (.int p1), .val (.int p2), .val (.long (own_code p1 w_innermost p2)), .second, .val (.int (1 : Int32)), .val (.int (0 : Int32)), .unset] [(.long (own_ush (own_code p1 w_innermost p2) (0 : Int32)))])) _
      refine XS.l2i X15.here hx rfl (hb hby d5_117) rfl ?_
      show Steps p.tables e below (T15.setTop (mkF m 118 #[.val (.ref a), .val (.int p1), .val (.int p2), .val (.long (own_code p1 w_innermost p2)), .second, .val (.int (1 : Int32)), .val (.int (0 : Int32)), .unset] [(.int ((own_ush (own_code p1 w_innermost p2) (0 : Int32)).toInt32))])) _
      refine XS.bipush X15.here hx rfl (hb hby d5_118) ?_
      show Steps p.tables e below (T15.setTop (mkF m 120 #[.val (.ref a), .val (.int p1), .val (.int p2), .val (.long (own_code p1 w_innermost p2)), .second, .val (.int (1 : Int32)), .val (.int (0 : Int32)), .unset] [(.int (127 : Int32)), (.int ((own_ush (own_code p1 w_innermost p2) (0 : Int32)).toInt32))])) _
      refine XS.iand X15.here hx rfl (hb hby d5_120) rfl ?_
      show Steps p.tables e below (T15.setTop (mkF m 121 #[.val (.ref a), .val (.int p1), .val (.int p2), .val (.long (own_code p1 w_innermost p2)), .second, .val (.int (1 : Int32)), .val (.int (0 : Int32)), .unset] [(.int (((own_ush (own_code p1 w_innermost p2) (0 : Int32)).toInt32) &&& (127 : Int32)))])) _
      refine XS.istore X15.here hx rfl (hb hby d5_121) rfl (l' := (lcO_0 a p1 p2 w_innermost)) rfl ?_
      show Steps p.tables e below (T15.setTop (mkF m 123 (lcO_0 a p1 p2 w_innermost) [])) _
      refine XS.aloadN X15.here hx rfl (hb hby d5_123) rfl rfl ?_
      show Steps p.tables e below (T15.setTop (mkF m 124 (lcO_0 a p1 p2 w_innermost) [(.ref a)])) _
      exact k)
    obtain ⟨T18, X18, e18, st18⟩ := getF X15 hx hZ hown (host := "") (Or.inl (hw _ (List.mem_of_getElem? (i := 18) rfl))) Via.refl e15 F_a_groups (g := (mkF m 124 (lcO_0 a p1 p2 w_innermost) [(.ref a)])) rfl rfl (hb hby d5_124)
    have pre19 : ∀ t, Steps p.tables e below (T18.setTop (mkF m 127 (lcO_0 a p1 p2 w_innermost) [(.ref w_groups)])) t → Steps p.tables e below (s₁.setTop (entryFrame m #[(.ref a), (.int p1), (.int p2)] 8)) t := fun t k => pre17 t (st18 t k)
    have pre20 : ∀ t, Steps p.tables e below (T18.setTop (mkF m 129 (lcO_0 a p1 p2 w_innermost) [(.ref a), (.ref a), (.ref w_groups)])) t → Steps p.tables e below (s₁.setTop (entryFrame m #[(.ref a), (.int p1), (.int p2)] 8)) t := fun t k => pre19 t (by
      show Steps p.tables e below (T18.setTop (mkF m 127 (lcO_0 a p1 p2 w_innermost) [(.ref w_groups)])) _
      refine XS.aloadN X18.here hx rfl (hb hby d5_127) rfl rfl ?_
      show Steps p.tables e below (T18.setTop (mkF m 128 (lcO_0 a p1 p2 w_innermost) [(.ref a), (.ref w_groups)])) _
      refine XS.dup X18.here hx rfl (hb hby d5_128) rfl rfl ?_
      show Steps p.tables e below (T18.setTop (mkF m 129 (lcO_0 a p1 p2 w_innermost) [(.ref a), (.ref a), (.ref w_groups)])) _
      exact k)
    obtain ⟨T21, X21, e21, st21⟩ := getF X18 hx hZ hown (host := "") (Or.inl (hw _ (List.mem_of_getElem? (i := 27) rfl))) Via.refl e18 F_a_size (g := (mkF m 129 (lcO_0 a p1 p2 w_innermost) [(.ref a), (.ref a), (.ref w_groups)])) rfl rfl (hb hby d5_129)
    have pre22 : ∀ t, Steps p.tables e below (T21.setTop (mkF m 132 (lcO_0 a p1 p2 w_innermost) [(.int w_size), (.ref a), (.ref w_groups)])) t → Steps p.tables e below (s₁.setTop (entryFrame m #[(.ref a), (.int p1), (.int p2)] 8)) t := fun t k => pre20 t (st21 t k)
    have pre23 : ∀ t, Steps p.tables e below (T21.setTop (mkF m 135 (lcO_0 a p1 p2 w_innermost) [(.int (own_sk w_size 1)), (.ref a), (.int w_size), (.ref w_groups)])) t → Steps p.tables e below (s₁.setTop (entryFrame m #[(.ref a), (.int p1), (.int p2)] 8)) t := fun t k => pre22 t (by
      show Steps p.tables e below (T21.setTop (mkF m 132 (lcO_0 a p1 p2 w_innermost) [(.int w_size), (.ref a), (.ref w_groups)])) _
      refine XS.dupX1 X21.here hx rfl (hb hby d5_132) rfl rfl rfl ?_
      show Steps p.tables e below (T21.setTop (mkF m 133 (lcO_0 a p1 p2 w_innermost) [(.int w_size), (.ref a), (.int w_size), (.ref w_groups)])) _
      refine XS.iconst X21.here hx rfl (hb hby d5_133) ?_
      show Steps p.tables e below (T21.setTop (mkF m 134 (lcO_0 a p1 p2 w_innermost) [(.int (1 : Int32)), (.int w_size), (.ref a), (.int w_size), (.ref w_groups)])) _
      refine XS.iadd X21.here hx rfl (hb hby d5_134) rfl ?_
      show Steps p.tables e below (T21.setTop (mkF m 135 (lcO_0 a p1 p2 w_innermost) [(.int (own_sk w_size 1)), (.ref a), (.int w_size), (.ref w_groups)])) _
      exact k)
    obtain ⟨T24, h24, X24, e24, W24, st24⟩ := putF X21 hx hZ hown (host := "") (Or.inl (hw _ (List.mem_of_getElem? (i := 27) rfl))) Via.refl e21 F_a_size E_a (Or.inl (hw _ (List.mem_of_getElem? (i := 28) rfl))) (hw _ (List.mem_of_getElem? (i := 9) rfl)) (ty := .int) (by decide) rfl rfl (g := (mkF m 135 (lcO_0 a p1 p2 w_innermost) [(.int (own_sk w_size 1)), (.ref a), (.int w_size), (.ref w_groups)])) rfl rfl (hb hby d5_135)
    have F_a_size : Fld Z h24 a "com/example/mensura/mensura/parser/OpenParentheses" "size" "I" (.int (own_sk w_size 1)) := F_a_size.same W24
    have E_a := E_a.wr W24
    have F_a_groups := F_a_groups.other W24 (Or.inr (slot_ne (Or.inl (hw _ (List.mem_of_getElem? (i := 19) rfl))) (Or.inl (hw _ (List.mem_of_getElem? (i := 28) rfl))) (by decide) (t := (.array .byte)) (t' := .int) (by decide) (by decide)))
    have F_a_innermost := F_a_innermost.other W24 (Or.inr (slot_ne (Or.inl (hw _ (List.mem_of_getElem? (i := 21) rfl))) (Or.inl (hw _ (List.mem_of_getElem? (i := 28) rfl))) (by decide) (t := .int) (t' := .int) (by decide) (by decide)))
    have F_a_depth := F_a_depth.other W24 (Or.inr (slot_ne (Or.inl (hw _ (List.mem_of_getElem? (i := 30) rfl))) (Or.inl (hw _ (List.mem_of_getElem? (i := 28) rfl))) (by decide) (t := .int) (t' := .int) (by decide) (by decide)))
    have A_w_groups := A_w_groups.other W24 (Ne.symm ne_a_w_groups)
    have K := K.wr W24 (Or.inl (List.mem_of_getElem? (i := 0) rfl))
    have Z24 : n0 ≤ h24.size := Nat.le_trans Z0 (Keep.of_wr W24).1
    have N24 := Fr.snoc X24 N0 g_a
    have pre25 : ∀ t, Steps p.tables e below (T24.setTop (mkF m 138 (lcO_0 a p1 p2 w_innermost) [(.int w_size), (.ref w_groups)])) t → Steps p.tables e below (s₁.setTop (entryFrame m #[(.ref a), (.int p1), (.int p2)] 8)) t := fun t k => pre23 t (st24 t k)
    have pre26 : ∀ t, Steps p.tables e below (T24.setTop (mkF m 159 (lcO_0 a p1 p2 w_innermost) [(.int (own_g0 (own_code p1 w_innermost p2) (0 : Int32))), (.int w_size), (.ref w_groups)])) t → Steps p.tables e below (s₁.setTop (entryFrame m #[(.ref a), (.int p1), (.int p2)] 8)) t := fun t k => pre25 t (by
      show Steps p.tables e below (T24.setTop (mkF m 138 (lcO_0 a p1 p2 w_innermost) [(.int w_size), (.ref w_groups)])) _
      refine XS.iload X24.here hx rfl (hb hby d5_138) rfl ?_
      show Steps p.tables e below (T24.setTop (mkF m 140 (lcO_0 a p1 p2 w_innermost) [(.int (0 : Int32)), (.int w_size), (.ref w_groups)])) _
      refine XS.iload X24.here hx rfl (hb hby d5_140) rfl ?_
      show Steps p.tables e below (T24.setTop (mkF m 142 (lcO_0 a p1 p2 w_innermost) [(.int (1 : Int32)), (.int (0 : Int32)), (.int w_size), (.ref w_groups)])) _
      refine XS.iconst X24.here hx rfl (hb hby d5_142) ?_
      show Steps p.tables e below (T24.setTop (mkF m 143 (lcO_0 a p1 p2 w_innermost) [(.int (1 : Int32)), (.int (1 : Int32)), (.int (0 : Int32)), (.int w_size), (.ref w_groups)])) _
      refine XS.isub X24.here hx rfl (hb hby d5_143) rfl ?_
      show Steps p.tables e below (T24.setTop (mkF m 144 (lcO_0 a p1 p2 w_innermost) [(.int (0 : Int32)), (.int (0 : Int32)), (.int w_size), (.ref w_groups)])) _
      refine XS.icmpNo X24.here hx rfl (hb hby d5_144) rfl (teq (by decide)).2 ?_
      show Steps p.tables e below (T24.setTop (mkF m 147 (lcO_0 a p1 p2 w_innermost) [(.int w_size), (.ref w_groups)])) _
      refine XS.iload X24.here hx rfl (hb hby d5_147) rfl ?_
      show Steps p.tables e below (T24.setTop (mkF m 149 (lcO_0 a p1 p2 w_innermost) [(.int (((own_ush (own_code p1 w_innermost p2) (0 : Int32)).toInt32) &&& (127 : Int32))), (.int w_size), (.ref w_groups)])) _
      refine XS.goto X24.here hx rfl (pc0 := 149) (pc' := 158) rfl (hb hby d5_149) (by decide) (by decide) ?_
      show Steps p.tables e below (T24.setTop (mkF m 158 (lcO_0 a p1 p2 w_innermost) [(.int (((own_ush (own_code p1 w_innermost p2) (0 : Int32)).toInt32) &&& (127 : Int32))), (.int w_size), (.ref w_groups)])) _
      refine XS.i2b X24.here hx rfl (hb hby d5_158) rfl ?_
      show Steps p.tables e below (T24.setTop (mkF m 159 (lcO_0 a p1 p2 w_innermost) [(.int (own_g0 (own_code p1 w_innermost p2) (0 : Int32))), (.int w_size), (.ref w_groups)])) _
      exact k)
    obtain ⟨cl27, Ar27, Sz27, Hf27⟩ := A_w_groups
    obtain ⟨T27, h27, X27, e27, W27, st27⟩ := stB X24 hx hZ e24 Ar27 (j := w_size) (own_inb Sz27 (own_skb hs 0 (by decide))) (g := (mkF m 159 (lcO_0 a p1 p2 w_innermost) [(.int (own_g0 (own_code p1 w_innermost p2) (0 : Int32))), (.int w_size), (.ref w_groups)])) rfl rfl (hb hby d5_159)
    have A_w_groups : own_A Z h27 w_groups .byte 16 (own_put f (w_size).toNatClampNeg (nar .byte (own_g0 (own_code p1 w_innermost p2) (0 : Int32)))) := own_A.set Ar27 Sz27 Hf27 W27
    have E_a := E_a.wr W27
    have F_a_groups := F_a_groups.other W27 (Or.inl ne_a_w_groups)
    have F_a_size := F_a_size.other W27 (Or.inl ne_a_w_groups)
    have F_a_innermost := F_a_innermost.other W27 (Or.inl ne_a_w_groups)
    have F_a_depth := F_a_depth.other W27 (Or.inl ne_a_w_groups)
    have K := K.wr W27 (Or.inl (List.mem_of_getElem? (i := 1) rfl))
    have Z27 : n0 ≤ h27.size := Nat.le_trans Z24 (Keep.of_wr W27).1
    have N27 := Fr.snoc X27 N24 g_w_groups
    have pre28 : ∀ t, Steps p.tables e below (T27.setTop (mkF m 160 (lcO_0 a p1 p2 w_innermost) [])) t → Steps p.tables e below (s₁.setTop (entryFrame m #[(.ref a), (.int p1), (.int p2)] 8)) t := fun t k => pre26 t (st27 t k)
    have pre29 : ∀ t, Steps p.tables e below (T27.setTop (mkF m 168 (lcO_1 a p1 p2 w_innermost) [(.int p1), (.ref a)])) t → Steps p.tables e below (s₁.setTop (entryFrame m #[(.ref a), (.int p1), (.int p2)] 8)) t := fun t k => pre28 t (by
      show Steps p.tables e below (T27.setTop (mkF m 160 (lcO_0 a p1 p2 w_innermost) [])) _
      refine XS.iinc X27.here hx rfl (hb hby d5_160) rfl (l' := (lcO_1 a p1 p2 w_innermost)) rfl ?_
      show Steps p.tables e below (T27.setTop (mkF m 163 (lcO_1 a p1 p2 w_innermost) [])) _
      refine XS.goto X27.here hx rfl (pc0 := 163) (pc' := 105) rfl (hb hby d5_163) (by decide) (by decide) ?_
      show Steps p.tables e below (T27.setTop (mkF m 105 (lcO_1 a p1 p2 w_innermost) [])) _
      refine XS.iload X27.here hx rfl (hb hby d5_105) rfl ?_
      show Steps p.tables e below (T27.setTop (mkF m 107 (lcO_1 a p1 p2 w_innermost) [(.int (-1 : Int32))])) _
      refine XS.ifYes X27.here hx rfl (pc0 := 107) (pc' := 166) rfl (hb hby d5_107) rfl ((if0 _ _).trans (tlt (by decide)).1) (by decide) (by decide) ?_
      show Steps p.tables e below (T27.setTop (mkF m 166 (lcO_1 a p1 p2 w_innermost) [])) _
      refine XS.aloadN X27.here hx rfl (hb hby d5_166) rfl rfl ?_
      show Steps p.tables e below (T27.setTop (mkF m 167 (lcO_1 a p1 p2 w_innermost) [(.ref a)])) _
      refine XS.iloadN X27.here hx rfl (hb hby d5_167) rfl ?_
      show Steps p.tables e below (T27.setTop (mkF m 168 (lcO_1 a p1 p2 w_innermost) [(.int p1), (.ref a)])) _
      exact k)
    obtain ⟨T30, h30, X30, e30, W30, st30⟩ := putF X27 hx hZ hown (host := "") (Or.inl (hw _ (List.mem_of_getElem? (i := 20) rfl))) Via.refl e27 F_a_innermost E_a (Or.inl (hw _ (List.mem_of_getElem? (i := 21) rfl))) (hw _ (List.mem_of_getElem? (i := 9) rfl)) (ty := .int) (by decide) rfl rfl (g := (mkF m 168 (lcO_1 a p1 p2 w_innermost) [(.int p1), (.ref a)])) rfl rfl (hb hby d5_168)
    have F_a_innermost : Fld Z h30 a "com/example/mensura/mensura/parser/OpenParentheses" "innermost" "I" (.int p1) := F_a_innermost.same W30
    have E_a := E_a.wr W30
    have F_a_groups := F_a_groups.other W30 (Or.inr (slot_ne (Or.inl (hw _ (List.mem_of_getElem? (i := 19) rfl))) (Or.inl (hw _ (List.mem_of_getElem? (i := 21) rfl))) (by decide) (t := (.array .byte)) (t' := .int) (by decide) (by decide)))
    have F_a_size := F_a_size.other W30 (Or.inr (slot_ne (Or.inl (hw _ (List.mem_of_getElem? (i := 28) rfl))) (Or.inl (hw _ (List.mem_of_getElem? (i := 21) rfl))) (by decide) (t := .int) (t' := .int) (by decide) (by decide)))
    have F_a_depth := F_a_depth.other W30 (Or.inr (slot_ne (Or.inl (hw _ (List.mem_of_getElem? (i := 30) rfl))) (Or.inl (hw _ (List.mem_of_getElem? (i := 21) rfl))) (by decide) (t := .int) (t' := .int) (by decide) (by decide)))
    have A_w_groups := A_w_groups.other W30 (Ne.symm ne_a_w_groups)
    have K := K.wr W30 (Or.inl (List.mem_of_getElem? (i := 0) rfl))
    have Z30 : n0 ≤ h30.size := Nat.le_trans Z27 (Keep.of_wr W30).1
    have N30 := Fr.snoc X30 N27 g_a
    have pre31 : ∀ t, Steps p.tables e below (T30.setTop (mkF m 171 (lcO_1 a p1 p2 w_innermost) [])) t → Steps p.tables e below (s₁.setTop (entryFrame m #[(.ref a), (.int p1), (.int p2)] 8)) t := fun t k => pre29 t (st30 t k)
    have pre32 : ∀ t, Steps p.tables e below (T30.setTop (mkF m 173 (lcO_1 a p1 p2 w_innermost) [(.ref a), (.ref a)])) t → Steps p.tables e below (s₁.setTop (entryFrame m #[(.ref a), (.int p1), (.int p2)] 8)) t := fun t k => pre31 t (by
      show Steps p.tables e below (T30.setTop (mkF m 171 (lcO_1 a p1 p2 w_innermost) [])) _
      refine XS.aloadN X30.here hx rfl (hb hby d5_171) rfl rfl ?_
      show Steps p.tables e below (T30.setTop (mkF m 172 (lcO_1 a p1 p2 w_innermost) [(.ref a)])) _
      refine XS.dup X30.here hx rfl (hb hby d5_172) rfl rfl ?_
      show Steps p.tables e below (T30.setTop (mkF m 173 (lcO_1 a p1 p2 w_innermost) [(.ref a), (.ref a)])) _
      exact k)
    obtain ⟨T33, X33, e33, st33⟩ := getF X30 hx hZ hown (host := "") (Or.inl (hw _ (List.mem_of_getElem? (i := 29) rfl))) Via.refl e30 F_a_depth (g := (mkF m 173 (lcO_1 a p1 p2 w_innermost) [(.ref a), (.ref a)])) rfl rfl (hb hby d5_173)
    have pre34 : ∀ t, Steps p.tables e below (T33.setTop (mkF m 176 (lcO_1 a p1 p2 w_innermost) [(.int w_depth), (.ref a)])) t → Steps p.tables e below (s₁.setTop (entryFrame m #[(.ref a), (.int p1), (.int p2)] 8)) t := fun t k => pre32 t (st33 t k)
    have pre35 : ∀ t, Steps p.tables e below (T33.setTop (mkF m 178 (lcO_1 a p1 p2 w_innermost) [(.int (w_depth + (1 : Int32))), (.ref a)])) t → Steps p.tables e below (s₁.setTop (entryFrame m #[(.ref a), (.int p1), (.int p2)] 8)) t := fun t k => pre34 t (by
      show Steps p.tables e below (T33.setTop (mkF m 176 (lcO_1 a p1 p2 w_innermost) [(.int w_depth), (.ref a)])) _
      refine XS.iconst X33.here hx rfl (hb hby d5_176) ?_
      show Steps p.tables e below (T33.setTop (mkF m 177 (lcO_1 a p1 p2 w_innermost) [(.int (1 : Int32)), (.int w_depth), (.ref a)])) _
      refine XS.iadd X33.here hx rfl (hb hby d5_177) rfl ?_
      show Steps p.tables e below (T33.setTop (mkF m 178 (lcO_1 a p1 p2 w_innermost) [(.int (w_depth + (1 : Int32))), (.ref a)])) _
      exact k)
    obtain ⟨T36, h36, X36, e36, W36, st36⟩ := putF X33 hx hZ hown (host := "") (Or.inl (hw _ (List.mem_of_getElem? (i := 29) rfl))) Via.refl e33 F_a_depth E_a (Or.inl (hw _ (List.mem_of_getElem? (i := 30) rfl))) (hw _ (List.mem_of_getElem? (i := 9) rfl)) (ty := .int) (by decide) rfl rfl (g := (mkF m 178 (lcO_1 a p1 p2 w_innermost) [(.int (w_depth + (1 : Int32))), (.ref a)])) rfl rfl (hb hby d5_178)
    have F_a_depth : Fld Z h36 a "com/example/mensura/mensura/parser/OpenParentheses" "depth" "I" (.int (w_depth + (1 : Int32))) := F_a_depth.same W36
    have E_a := E_a.wr W36
    have F_a_groups := F_a_groups.other W36 (Or.inr (slot_ne (Or.inl (hw _ (List.mem_of_getElem? (i := 19) rfl))) (Or.inl (hw _ (List.mem_of_getElem? (i := 30) rfl))) (by decide) (t := (.array .byte)) (t' := .int) (by decide) (by decide)))
    have F_a_size := F_a_size.other W36 (Or.inr (slot_ne (Or.inl (hw _ (List.mem_of_getElem? (i := 28) rfl))) (Or.inl (hw _ (List.mem_of_getElem? (i := 30) rfl))) (by decide) (t := .int) (t' := .int) (by decide) (by decide)))
    have F_a_innermost := F_a_innermost.other W36 (Or.inr (slot_ne (Or.inl (hw _ (List.mem_of_getElem? (i := 21) rfl))) (Or.inl (hw _ (List.mem_of_getElem? (i := 30) rfl))) (by decide) (t := .int) (t' := .int) (by decide) (by decide)))
    have A_w_groups := A_w_groups.other W36 (Ne.symm ne_a_w_groups)
    have K := K.wr W36 (Or.inl (List.mem_of_getElem? (i := 0) rfl))
    have Z36 : n0 ≤ h36.size := Nat.le_trans Z30 (Keep.of_wr W36).1
    have N36 := Fr.snoc X36 N30 g_a
    have pre37 : ∀ t, Steps p.tables e below (T36.setTop (mkF m 181 (lcO_1 a p1 p2 w_innermost) [])) t → Steps p.tables e below (s₁.setTop (entryFrame m #[(.ref a), (.int p1), (.int p2)] 8)) t := fun t k => pre35 t (st36 t k)
    obtain ⟨fs, hr, hrun, hended, hW, hsame⟩ := X36.leave (v := none) (fun _ => rfl) hlk
    refine ⟨_, _, pre37 _ ?_, hrun, hended, _, _, rfl, ?_, ⟨_, rfl⟩, hW, hsame.mono (by decide) (by decide)⟩
    · show Steps p.tables e below (T36.setTop (mkF m 181 (lcO_1 a p1 p2 w_innermost) [])) _
      exact X36.returnOut hx Bd.returns (hb hby d5_181) hr
    · show QO Z a p1 p2 f w_groups w_size w_innermost w_depth h0 n0 _ T36.heap _
      rw [e36]
      have hm : own_m (own_code p1 w_innermost p2) = 1 := by simp only [own_m, if_pos hc33_8]
      exact ⟨rfl, N36, K, ⟨_, A_w_groups, own_push1 f w_size (own_code p1 w_innermost p2) hm hs⟩, F_a_groups, (by rw [hm]; exact F_a_size), F_a_innermost, F_a_depth⟩
  · have pre38 : ∀ t, Steps p.tables e below (T2.setTop (mkF m 33 #[.val (.ref a), .val (.int p1), .val (.int p2), .val (.long (own_code p1 w_innermost p2)), .second, .val (.int (2 : Int32)), .unset, .unset] [(.int (lcmpW (own_ush (own_code p1 w_innermost p2) (14 : Int32)) (0 : Int64)))])) t → Steps p.tables e below (s₁.setTop (entryFrame m #[(.ref a), (.int p1), (.int p2)] 8)) t := fun t k => pre7 t (by
      show Steps p.tables e below (T2.setTop (mkF m 33 #[.val (.ref a), .val (.int p1), .val (.int p2), .val (.long (own_code p1 w_innermost p2)), .second, .val (.int (1 : Int32)), .unset, .unset] [(.int (lcmpW (own_ush (own_code p1 w_innermost p2) (7 : Int32)) (0 : Int64)))])) _
      refine XS.ifNo X2.here hx rfl (hb hby d5_33) rfl ((if0 _ _).trans (feq (fun q => hc33_8 ((lw_eq _ _).mp q))).1) ?_
      show Steps p.tables e below (T2.setTop (mkF m 36 #[.val (.ref a), .val (.int p1), .val (.int p2), .val (.long (own_code p1 w_innermost p2)), .second, .val (.int (1 : Int32)), .unset, .unset] [])) _
      refine XS.iinc X2.here hx rfl (hb hby d5_36) rfl (l' := #[.val (.ref a), .val (.int p1), .val (.int p2), .val (.long (own_code p1 w_innermost p2)), .second, .val (.int (2 : Int32)), .unset, .unset]) rfl ?_
      show Steps p.tables e below (T2.setTop (mkF m 39 #[.val (.ref a), .val (.int p1), .val (.int p2), .val (.long (own_code p1 w_innermost p2)), .second, .val (.int (2 : Int32)), .unset, .unset] [])) _
      refine XS.goto X2.here hx rfl (pc0 := 39) (pc' := 24) rfl (hb hby d5_39) (by decide) (by decide) ?_
      show Steps p.tables e below (T2.setTop (mkF m 24 #[.val (.ref a), .val (.int p1), .val (.int p2), .val (.long (own_code p1 w_innermost p2)), .second, .val (.int (2 : Int32)), .unset, .unset] [])) _
      refine XS.lloadN X2.here hx rfl (hb hby d5_24) rfl ?_
      show Steps p.tables e below (T2.setTop (mkF m 25 #[.val (.ref a), .val (.int p1), .val (.int p2), .val (.long (own_code p1 w_innermost p2)), .second, .val (.int (2 : Int32)), .unset, .unset] [(.long (own_code p1 w_innermost p2))])) _
      refine XS.bipush X2.here hx rfl (hb hby d5_25) ?_
      show Steps p.tables e below (T2.setTop (mkF m 27 #[.val (.ref a), .val (.int p1), .val (.int p2), .val (.long (own_code p1 w_innermost p2)), .second, .val (.int (2 : Int32)), .unset, .unset] [(.int (7 : Int32)), (.long (own_code p1 w_innermost p2))])) _
      refine XS.iload X2.here hx rfl (hb hby d5_27) rfl ?_
      show Steps p.tables e below (T2.setTop (mkF m 29 #[.val (.ref a), .val (.int p1), .val (.int p2), .val (.long (own_code p1 w_innermost p2)), .second, .val (.int (2 : Int32)), .unset, .unset] [(.int (2 : Int32)), (.int (7 : Int32)), (.long (own_code p1 w_innermost p2))])) _
      refine XS.imul X2.here hx rfl (hb hby d5_29) rfl ?_
      show Steps p.tables e below (T2.setTop (mkF m 30 #[.val (.ref a), .val (.int p1), .val (.int p2), .val (.long (own_code p1 w_innermost p2)), .second, .val (.int (2 : Int32)), .unset, .unset] [(.int (14 : Int32)), (.long (own_code p1 w_innermost p2))])) _
      refine XS.lushr X2.here hx rfl (hb hby d5_30) rfl ?_
      show Steps p.tables e below (T2.setTop (mkF m 31 #[.val (.ref a), .val (.int p1), .val (.int p2), .val (.long (own_code p1 w_innermost p2)), .second, .val (.int (2 : Int32)), .unset, .unset] [(.long (own_ush (own_code p1 w_innermost p2) (14 : Int32)))])) _
      refine XS.lconst X2.here hx rfl (hb hby d5_31) ?_
      show Steps p.tables e below (T2.setTop (mkF m 32 #[.val (.ref a), .val (.int p1), .val (.int p2), .val (.long (own_code p1 w_innermost p2)), .second, .val (.int (2 : Int32)), .unset, .unset] [(.long (0 : Int64)), (.long (own_ush (own_code p1 w_innermost p2) (14 : Int32)))])) _
      refine XS.lcmp X2.here hx rfl (hb hby d5_32) rfl ?_
      show Steps p.tables e below (T2.setTop (mkF m 33 #[.val (.ref a), .val (.int p1), .val (.int p2), .val (.long (own_code p1 w_innermost p2)), .second, .val (.int (2 : Int32)), .unset, .unset] [(.int (lcmpW (own_ush (own_code p1 w_innermost p2) (14 : Int32)) (0 : Int64)))])) _
      exact k)
    by_cases hc33_39 : (own_ush (own_code p1 w_innermost p2) (14 : Int32)) = (0 : Int64)
    · have pre40 : ∀ t, Steps p.tables e below (T2.setTop (mkF m 43 #[.val (.ref a), .val (.int p1), .val (.int p2), .val (.long (own_code p1 w_innermost p2)), .second, .val (.int (2 : Int32)), .unset, .unset] [(.ref a)])) t → Steps p.tables e below (s₁.setTop (entryFrame m #[(.ref a), (.int p1), (.int p2)] 8)) t := fun t k => pre38 t (by
        show Steps p.tables e below (T2.setTop (mkF m 33 #[.val (.ref a), .val (.int p1), .val (.int p2), .val (.long (own_code p1 w_innermost p2)), .second, .val (.int (2 : Int32)), .unset, .unset] [(.int (lcmpW (own_ush (own_code p1 w_innermost p2) (14 : Int32)) (0 : Int64)))])) _
        refine XS.ifYes X2.here hx rfl (pc0 := 33) (pc' := 42) rfl (hb hby d5_33) rfl ((if0 _ _).trans (teq ((lw_eq _ _).mpr hc33_39)).1) (by decide) (by decide) ?_
        show Steps p.tables e below (T2.setTop (mkF m 42 #[.val (.ref a), .val (.int p1), .val (.int p2), .val (.long (own_code p1 w_innermost p2)), .second, .val (.int (2 : Int32)), .unset, .unset] [])) _
        refine XS.aloadN X2.here hx rfl (hb hby d5_42) rfl rfl ?_
        show Steps p.tables e below (T2.setTop (mkF m 43 #[.val (.ref a), .val (.int p1), .val (.int p2), .val (.long (own_code p1 w_innermost p2)), .second, .val (.int (2 : Int32)), .unset, .unset] [(.ref a)])) _
        exact k)
      obtain ⟨T41, X41, e41, st41⟩ := getF X2 hx hZ hown (host := "") (Or.inl (hw _ (List.mem_of_getElem? (i := 18) rfl))) Via.refl e2 F_a_groups (g := (mkF m 43 #[.val (.ref a), .val (.int p1), .val (.int p2), .val (.long (own_code p1 w_innermost p2)), .second, .val (.int (2 : Int32)), .unset, .unset] [(.ref a)])) rfl rfl (hb hby d5_43)
      have pre42 : ∀ t, Steps p.tables e below (T41.setTop (mkF m 46 #[.val (.ref a), .val (.int p1), .val (.int p2), .val (.long (own_code p1 w_innermost p2)), .second, .val (.int (2 : Int32)), .unset, .unset] [(.ref w_groups)])) t → Steps p.tables e below (s₁.setTop (entryFrame m #[(.ref a), (.int p1), (.int p2)] 8)) t := fun t k => pre40 t (st41 t k)
      obtain ⟨cl43, Ar43, Sz43, Hf43⟩ := id A_w_groups
      have pre44 : ∀ t, Steps p.tables e below (T41.setTop (mkF m 47 #[.val (.ref a), .val (.int p1), .val (.int p2), .val (.long (own_code p1 w_innermost p2)), .second, .val (.int (2 : Int32)), .unset, .unset] [(.int (16 : Int32))])) t → Steps p.tables e below (s₁.setTop (entryFrame m #[(.ref a), (.int p1), (.int p2)] 8)) t := fun t k => pre42 t (X41.arraylength hx (by rw [e41]; exact Ar43.1) (State.isArrayOf_alike hZ.alike Ar43.2.1) (g := (mkF m 46 #[.val (.ref a), .val (.int p1), .val (.int p2), .val (.long (own_code p1 w_innermost p2)), .second, .val (.int (2 : Int32)), .unset, .unset] [(.ref w_groups)])) rfl rfl (hb hby d5_46) _ (by rw [own_len Sz43 rfl]; exact k))
      have pre45 : ∀ t, Steps p.tables e below (T41.setTop (mkF m 48 #[.val (.ref a), .val (.int p1), .val (.int p2), .val (.long (own_code p1 w_innermost p2)), .second, .val (.int (2 : Int32)), .unset, .unset] [(.ref a), (.int (16 : Int32))])) t → Steps p.tables e below (s₁.setTop (entryFrame m #[(.ref a), (.int p1), (.int p2)] 8)) t := fun t k => pre44 t (by
        show Steps p.tables e below (T41.setTop (mkF m 47 #[.val (.ref a), .val (.int p1), .val (.int p2), .val (.long (own_code p1 w_innermost p2)), .second, .val (.int (2 : Int32)), .unset, .unset] [(.int (16 : Int32))])) _
        refine XS.aloadN X41.here hx rfl (hb hby d5_47) rfl rfl ?_
        show Steps p.tables e below (T41.setTop (mkF m 48 #[.val (.ref a), .val (.int p1), .val (.int p2), .val (.long (own_code p1 w_innermost p2)), .second, .val (.int (2 : Int32)), .unset, .unset] [(.ref a), (.int (16 : Int32))])) _
        exact k)
      obtain ⟨T46, X46, e46, st46⟩ := getF X41 hx hZ hown (host := "") (Or.inl (hw _ (List.mem_of_getElem? (i := 27) rfl))) Via.refl e41 F_a_size (g := (mkF m 48 #[.val (.ref a), .val (.int p1), .val (.int p2), .val (.long (own_code p1 w_innermost p2)), .second, .val (.int (2 : Int32)), .unset, .unset] [(.ref a), (.int (16 : Int32))])) rfl rfl (hb hby d5_48)
      have pre47 : ∀ t, Steps p.tables e below (T46.setTop (mkF m 51 #[.val (.ref a), .val (.int p1), .val (.int p2), .val (.long (own_code p1 w_innermost p2)), .second, .val (.int (2 : Int32)), .unset, .unset] [(.int w_size), (.int (16 : Int32))])) t → Steps p.tables e below (s₁.setTop (entryFrame m #[(.ref a), (.int p1), (.int p2)] 8)) t := fun t k => pre45 t (st46 t k)
      have pre48 : ∀ t, Steps p.tables e below (T46.setTop (mkF m 124 (lcO_2 a p1 p2 w_innermost) [(.ref a)])) t → Steps p.tables e below (s₁.setTop (entryFrame m #[(.ref a), (.int p1), (.int p2)] 8)) t := fun t k => pre47 t (by
        show Steps p.tables e below (T46.setTop (mkF m 51 #[.val (.ref a), .val (.int p1), .val (.int p2), .val (.long (own_code p1 w_innermost p2)), .second, .val (.int (2 : Int32)), .unset, .unset] [(.int w_size), (.int (16 : Int32))])) _
        refine XS.isub X46.here hx rfl (hb hby d5_51) rfl ?_
        show Steps p.tables e below (T46.setTop (mkF m 52 #[.val (.ref a), .val (.int p1), .val (.int p2), .val (.long (own_code p1 w_innermost p2)), .second, .val (.int (2 : Int32)), .unset, .unset] [(.int ((16 : Int32) - w_size))])) _
        refine XS.iload X46.here hx rfl (hb hby d5_52) rfl ?_
        show Steps p.tables e below (T46.setTop (mkF m 54 #[.val (.ref a), .val (.int p1), .val (.int p2), .val (.long (own_code p1 w_innermost p2)), .second, .val (.int (2 : Int32)), .unset, .unset] [(.int (2 : Int32)), (.int ((16 : Int32) - w_size))])) _
        refine XS.icmpYes X46.here hx rfl (pc0 := 54) (pc' := 99) rfl (hb hby d5_54) rfl (flt (show ¬ (((16 : Int32) - w_size) < (2 : Int32)) from own_fit hs (by decide))).2.1 (by decide) (by decide) ?_
        show Steps p.tables e below (T46.setTop (mkF m 99 #[.val (.ref a), .val (.int p1), .val (.int p2), .val (.long (own_code p1 w_innermost p2)), .second, .val (.int (2 : Int32)), .unset, .unset] [])) _
        refine XS.iload X46.here hx rfl (hb hby d5_99) rfl ?_
        show Steps p.tables e below (T46.setTop (mkF m 101 #[.val (.ref a), .val (.int p1), .val (.int p2), .val (.long (own_code p1 w_innermost p2)), .second, .val (.int (2 : Int32)), .unset, .unset] [(.int (2 : Int32))])) _
        refine XS.iconst X46.here hx rfl (hb hby d5_101) ?_
        show Steps p.tables e below (T46.setTop (mkF m 102 #[.val (.ref a), .val (.int p1), .val (.int p2), .val (.long (own_code p1 w_innermost p2)), .second, .val (.int (2 : Int32)), .unset, .unset] [(.int (1 : Int32)), (.int (2 : Int32))])) _
        refine XS.isub X46.here hx rfl (hb hby d5_102) rfl ?_
        show Steps p.tables e below (T46.setTop (mkF m 103 #[.val (.ref a), .val (.int p1), .val (.int p2), .val (.long (own_code p1 w_innermost p2)), .second, .val (.int (2 : Int32)), .unset, .unset] [(.int (1 : Int32))])) _
        refine XS.istore X46.here hx rfl (hb hby d5_103) rfl (l' := #[.val (.ref a), .val (.int p1), .val (.int p2), .val (.long (own_code p1 w_innermost p2)), .second, .val (.int (2 : Int32)), .val (.int (1 : Int32)), .unset]) rfl ?_
        show Steps p.tables e below (T46.setTop (mkF m 105 #[.val (.ref a), .val (.int p1), .val (.int p2), .val (.long (own_code p1 w_innermost p2)), .second, .val (.int (2 : Int32)), .val (.int (1 : Int32)), .unset] [])) _
        refine XS.iload X46.here hx rfl (hb hby d5_105) rfl ?_
        show Steps p.tables e below (T46.setTop (mkF m 107 #[.val (.ref a), .val (.int p1), .val (.int p2), .val (.long (own_code p1 w_innermost p2)), .second, .val (.int (2 : Int32)), .val (.int (1 : Int32)), .unset] [(.int (1 : Int32))])) _
        refine XS.ifNo X46.here hx rfl (hb hby d5_107) rfl ((if0 _ _).trans (flt (by decide)).1) ?_
        show Steps p.tables e below (T46.setTop (mkF m 110 #[.val (.ref a), .val (.int p1), .val (.int p2), .val (.long (own_code p1 w_innermost p2)), .second, .val (.int (2 : Int32)), .val (.int (1 : Int32)), .unset] [])) _
        refine XS.lloadN X46.here hx rfl (hb hby d5_110) rfl ?_
        show Steps p.tables e below (T46.setTop (mkF m 111 #[.val (.ref a), .val (.int p1), .val (.int p2), .val (.long (own_code p1 w_innermost p2)), .second, .val (.int (2 : Int32)), .val (.int (1 : Int32)), .unset] [(.long (own_code p1 w_innermost p2))])) _
        refine XS.bipush X46.here hx rfl (hb hby d5_111) ?_
        show Steps p.tables e below (T46.setTop (mkF m 113 #[.val (.ref a), .val (.int p1), .val (.int p2), .val (.long (own_code p1 w_innermost p2)), .second, .val (.int (2 : Int32)), .val (.int (1 : Int32)), .unset] [(.int (7 : Int32)), (.long (own_code p1 w_innermost p2))])) _
        refine XS.iload X46.here hx rfl (hb hby d5_113) rfl ?_
        show Steps p.tables e below (T46.setTop (mkF m 115 #[.val (.ref a), .val (.int p1), .val (.int p2), .val (.long (own_code p1 w_innermost p2)), .second, .val (.int (2 : Int32)), .val (.int (1 : Int32)), .unset] [(.int (1 : Int32)), (.int (7 : Int32)), (.long (own_code p1 w_innermost p2))])) _
        refine XS.imul X46.here hx rfl (hb hby d5_115) rfl ?_
        show Steps p.tables e below (T46.setTop (mkF m 116 #[.val (.ref a), .val (.int p1), .val (.int p2), .val (.long (own_code p1 w_innermost p2)), .second, .val (.int (2 : Int32)), .val (.int (1 : Int32)), .unset] [(.int (7 : Int32)), (.long (own_code p1 w_innermost p2))])) _
        refine XS.lushr X46.here hx rfl (hb hby d5_116) rfl ?_
        show Steps p.tables e below (T46.setTop (mkF m 117 #[.val (.ref a), .val (.int p1), .val (.int p2), .val (.long (own_code p1 w_innermost p2)), .second, .val (.int (2 : Int32)), .val (.int (1 : Int32)), .unset] [(.long (own_ush (own_code p1 w_innermost p2) (7 : Int32)))])) _
        refine XS.l2i X46.here hx rfl (hb hby d5_117) rfl ?_
        show Steps p.tables e below (T46.setTop (mkF m 118 #[.val (.ref a), .val (.int p1), .val (.int p2), .val (.long (own_code p1 w_innermost p2)), .second, .val (.int (2 : Int32)), .val (.int (1 : Int32)), .unset] [(.int ((own_ush (own_code p1 w_innermost p2) (7 : Int32)).toInt32))])) _
        refine XS.bipush X46.here hx rfl (hb hby d5_118) ?_
        show Steps p.tables e below (T46.setTop (mkF m 120 #[.val (.ref a), .val (.int p1), .val (.int p2), .val (.long (own_code p1 w_innermost p2)), .second, .val (.int (2 : Int32)), .val (.int (1 : Int32)), .unset] [(.int (127 : Int32)), (.int ((own_ush (own_code p1 w_innermost p2) (7 : Int32)).toInt32))])) _
        refine XS.iand X46.here hx rfl (hb hby d5_120) rfl ?_
        show Steps p.tables e below (T46.setTop (mkF m 121 #[.val (.ref a), .val (.int p1), .val (.int p2), .val (.long (own_code p1 w_innermost p2)), .second, .val (.int (2 : Int32)), .val (.int (1 : Int32)), .unset] [(.int (((own_ush (own_code p1 w_innermost p2) (7 : Int32)).toInt32) &&& (127 : Int32)))])) _
        refine XS.istore X46.here hx rfl (hb hby d5_121) rfl (l' := (lcO_2 a p1 p2 w_innermost)) rfl ?_
        show Steps p.tables e below (T46.setTop (mkF m 123 (lcO_2 a p1 p2 w_innermost) [])) _
        refine XS.aloadN X46.here hx rfl (hb hby d5_123) rfl rfl ?_
        show Steps p.tables e below (T46.setTop (mkF m 124 (lcO_2 a p1 p2 w_innermost) [(.ref a)])) _
        exact k)
      obtain ⟨T49, X49, e49, st49⟩ := getF X46 hx hZ hown (host := "") (Or.inl (hw _ (List.mem_of_getElem? (i := 18) rfl))) Via.refl e46 F_a_groups (g := (mkF m 124 (lcO_2 a p1 p2 w_innermost) [(.ref a)])) rfl rfl (hb hby d5_124)
      have pre50 : ∀ t, Steps p.tables e below (T49.setTop (mkF m 127 (lcO_2 a p1 p2 w_innermost) [(.ref w_groups)])) t → Steps p.tables e below (s₁.setTop (entryFrame m #[(.ref a), (.int p1), (.int p2)] 8)) t := fun t k => pre48 t (st49 t k)
      have pre51 : ∀ t, Steps p.tables e below (T49.setTop (mkF m 129 (lcO_2 a p1 p2 w_innermost) [(.ref a), (.ref a), (.ref w_groups)])) t → Steps p.tables e below (s₁.setTop (entryFrame m #[(.ref a), (.int p1), (.int p2)] 8)) t := fun t k => pre50 t (by
        show Steps p.tables e below (T49.setTop (mkF m 127 (lcO_2 a p1 p2 w_innermost) [(.ref w_groups)])) _
        refine XS.aloadN X49.here hx rfl (hb hby d5_127) rfl rfl ?_
        show Steps p.tables e below (T49.setTop (mkF m 128 (lcO_2 a p1 p2 w_innermost) [(.ref a), (.ref w_groups)])) _
        refine XS.dup X49.here hx rfl (hb hby d5_128) rfl rfl ?_
        show Steps p.tables e below (T49.setTop (mkF m 129 (lcO_2 a p1 p2 w_innermost) [(.ref a), (.ref a), (.ref w_groups)])) _
        exact k)
      obtain ⟨T52, X52, e52, st52⟩ := getF X49 hx hZ hown (host := "") (Or.inl (hw _ (List.mem_of_getElem? (i := 27) rfl))) Via.refl e49 F_a_size (g := (mkF m 129 (lcO_2 a p1 p2 w_innermost) [(.ref a), (.ref a), (.ref w_groups)])) rfl rfl (hb hby d5_129)
      have pre53 : ∀ t, Steps p.tables e below (T52.setTop (mkF m 132 (lcO_2 a p1 p2 w_innermost) [(.int w_size), (.ref a), (.ref w_groups)])) t → Steps p.tables e below (s₁.setTop (entryFrame m #[(.ref a), (.int p1), (.int p2)] 8)) t := fun t k => pre51 t (st52 t k)
      have pre54 : ∀ t, Steps p.tables e below (T52.setTop (mkF m 135 (lcO_2 a p1 p2 w_innermost) [(.int (own_sk w_size 1)), (.ref a), (.int w_size), (.ref w_groups)])) t → Steps p.tables e below (s₁.setTop (entryFrame m #[(.ref a), (.int p1), (.int p2)] 8)) t := fun t k => pre53 t (by
        show Steps p.tables e below (T52.setTop (mkF m 132 (lcO_2 a p1 p2 w_innermost) [(.int w_size), (.ref a), (.ref w_groups)])) _
        refine XS.dupX1 X52.here hx rfl (hb hby d5_132) rfl rfl rfl ?_
        show Steps p.tables e below (T52.setTop (mkF m 133 (lcO_2 a p1 p2 w_innermost) [(.int w_size), (.ref a), (.int w_size), (.ref w_groups)])) _
        refine XS.iconst X52.here hx rfl (hb hby d5_133) ?_
        show Steps p.tables e below (T52.setTop (mkF m 134 (lcO_2 a p1 p2 w_innermost) [(.int (1 : Int32)), (.int w_size), (.ref a), (.int w_size), (.ref w_groups)])) _
        refine XS.iadd X52.here hx rfl (hb hby d5_134) rfl ?_
        show Steps p.tables e below (T52.setTop (mkF m 135 (lcO_2 a p1 p2 w_innermost) [(.int (own_sk w_size 1)), (.ref a), (.int w_size), (.ref w_groups)])) _
        exact k)
      obtain ⟨T55, h55, X55, e55, W55, st55⟩ := putF X52 hx hZ hown (host := "") (Or.inl (hw _ (List.mem_of_getElem? (i := 27) rfl))) Via.refl e52 F_a_size E_a (Or.inl (hw _ (List.mem_of_getElem? (i := 28) rfl))) (hw _ (List.mem_of_getElem? (i := 9) rfl)) (ty := .int) (by decide) rfl rfl (g := (mkF m 135 (lcO_2 a p1 p2 w_innermost) [(.int (own_sk w_size 1)), (.ref a), (.int w_size), (.ref w_groups)])) rfl rfl (hb hby d5_135)
      have F_a_size : Fld Z h55 a "com/example/mensura/mensura/parser/OpenParentheses" "size" "I" (.int (own_sk w_size 1)) := F_a_size.same W55
      have E_a := E_a.wr W55
      have F_a_groups := F_a_groups.other W55 (Or.inr (slot_ne (Or.inl (hw _ (List.mem_of_getElem? (i := 19) rfl))) (Or.inl (hw _ (List.mem_of_getElem? (i := 28) rfl))) (by decide) (t := (.array .byte)) (t' := .int) (by decide) (by decide)))
      have F_a_innermost := F_a_innermost.other W55 (Or.inr (slot_ne (Or.inl (hw _ (List.mem_of_getElem? (i := 21) rfl))) (Or.inl (hw _ (List.mem_of_getElem? (i := 28) rfl))) (by decide) (t := .int) (t' := .int) (by decide) (by decide)))
      have F_a_depth := F_a_depth.other W55 (Or.inr (slot_ne (Or.inl (hw _ (List.mem_of_getElem? (i := 30) rfl))) (Or.inl (hw _ (List.mem_of_getElem? (i := 28) rfl))) (by decide) (t := .int) (t' := .int) (by decide) (by decide)))
      have A_w_groups := A_w_groups.other W55 (Ne.symm ne_a_w_groups)
      have K := K.wr W55 (Or.inl (List.mem_of_getElem? (i := 0) rfl))
      have Z55 : n0 ≤ h55.size := Nat.le_trans Z0 (Keep.of_wr W55).1
      have N55 := Fr.snoc X55 N0 g_a
      have pre56 : ∀ t, Steps p.tables e below (T55.setTop (mkF m 138 (lcO_2 a p1 p2 w_innermost) [(.int w_size), (.ref w_groups)])) t → Steps p.tables e below (s₁.setTop (entryFrame m #[(.ref a), (.int p1), (.int p2)] 8)) t := fun t k => pre54 t (st55 t k)
      have pre57 : ∀ t, Steps p.tables e below (T55.setTop (mkF m 159 (lcO_2 a p1 p2 w_innermost) [(.int (own_g0 (own_code p1 w_innermost p2) (7 : Int32))), (.int w_size), (.ref w_groups)])) t → Steps p.tables e below (s₁.setTop (entryFrame m #[(.ref a), (.int p1), (.int p2)] 8)) t := fun t k => pre56 t (by
        show Steps p.tables e below (T55.setTop (mkF m 138 (lcO_2 a p1 p2 w_innermost) [(.int w_size), (.ref w_groups)])) _
        refine XS.iload X55.here hx rfl (hb hby d5_138) rfl ?_
        show Steps p.tables e below (T55.setTop (mkF m 140 (lcO_2 a p1 p2 w_innermost) [(.int (1 : Int32)), (.int w_size), (.ref w_groups)])) _
        refine XS.iload X55.here hx rfl (hb hby d5_140) rfl ?_
        show Steps p.tables e below (T55.setTop (mkF m 142 (lcO_2 a p1 p2 w_innermost) [(.int (2 : Int32)), (.int (1 : Int32)), (.int w_size), (.ref w_groups)])) _
        refine XS.iconst X55.here hx rfl (hb hby d5_142) ?_
        show Steps p.tables e below (T55.setTop (mkF m 143 (lcO_2 a p1 p2 w_innermost) [(.int (1 : Int32)), (.int (2 : Int32)), (.int (1 : Int32)), (.int w_size), (.ref w_groups)])) _
        refine XS.isub X55.here hx rfl (hb hby d5_143) rfl ?_
        show Steps p.tables e below (T55.setTop (mkF m 144 (lcO_2 a p1 p2 w_innermost) [(.int (1 : Int32)), (.int (1 : Int32)), (.int w_size), (.ref w_groups)])) _
        refine XS.icmpNo X55.here hx rfl (hb hby d5_144) rfl (teq (by decide)).2 ?_
        show Steps p.tables e below (T55.setTop (mkF m 147 (lcO_2 a p1 p2 w_innermost) [(.int w_size), (.ref w_groups)])) _
        refine XS.iload X55.here hx rfl (hb hby d5_147) rfl ?_
        show Steps p.tables e below (T55.setTop (mkF m 149 (lcO_2 a p1 p2 w_innermost) [(.int (((own_ush (own_code p1 w_innermost p2) (7 : Int32)).toInt32) &&& (127 : Int32))), (.int w_size), (.ref w_groups)])) _
        refine XS.goto X55.here hx rfl (pc0 := 149) (pc' := 158) rfl (hb hby d5_149) (by decide) (by decide) ?_
        show Steps p.tables e below (T55.setTop (mkF m 158 (lcO_2 a p1 p2 w_innermost) [(.int (((own_ush (own_code p1 w_innermost p2) (7 : Int32)).toInt32) &&& (127 : Int32))), (.int w_size), (.ref w_groups)])) _
        refine XS.i2b X55.here hx rfl (hb hby d5_158) rfl ?_
        show Steps p.tables e below (T55.setTop (mkF m 159 (lcO_2 a p1 p2 w_innermost) [(.int (own_g0 (own_code p1 w_innermost p2) (7 : Int32))), (.int w_size), (.ref w_groups)])) _
        exact k)
      obtain ⟨cl58, Ar58, Sz58, Hf58⟩ := A_w_groups
      obtain ⟨T58, h58, X58, e58, W58, st58⟩ := stB X55 hx hZ e55 Ar58 (j := w_size) (own_inb Sz58 (own_skb hs 0 (by decide))) (g := (mkF m 159 (lcO_2 a p1 p2 w_innermost) [(.int (own_g0 (own_code p1 w_innermost p2) (7 : Int32))), (.int w_size), (.ref w_groups)])) rfl rfl (hb hby d5_159)
      have A_w_groups : own_A Z h58 w_groups .byte 16 (own_put f (w_size).toNatClampNeg (nar .byte (own_g0 (own_code p1 w_innermost p2) (7 : Int32)))) := own_A.set Ar58 Sz58 Hf58 W58
      have E_a := E_a.wr W58
      have F_a_groups := F_a_groups.other W58 (Or.inl ne_a_w_groups)
      have F_a_size := F_a_size.other W58 (Or.inl ne_a_w_groups)
      have F_a_innermost := F_a_innermost.other W58 (Or.inl ne_a_w_groups)
      have F_a_depth := F_a_depth.other W58 (Or.inl ne_a_w_groups)
      have K := K.wr W58 (Or.inl (List.mem_of_getElem? (i := 1) rfl))
      have Z58 : n0 ≤ h58.size := Nat.le_trans Z55 (Keep.of_wr W58).1
      have N58 := Fr.snoc X58 N55 g_w_groups
      have pre59 : ∀ t, Steps p.tables e below (T58.setTop (mkF m 160 (lcO_2 a p1 p2 w_innermost) [])) t → Steps p.tables e below (s₁.setTop (entryFrame m #[(.ref a), (.int p1), (.int p2)] 8)) t := fun t k => pre57 t (st58 t k)
      have pre60 : ∀ t, Steps p.tables e below (T58.setTop (mkF m 124 (lcO_4 a p1 p2 w_innermost) [(.ref a)])) t → Steps p.tables e below (s₁.setTop (entryFrame m #[(.ref a), (.int p1), (.int p2)] 8)) t := fun t k => pre59 t (by
        show Steps p.tables e below (T58.setTop (mkF m 160 (lcO_2 a p1 p2 w_innermost) [])) _
        refine XS.iinc X58.here hx rfl (hb hby d5_160) rfl (l' := (lcO_3 a p1 p2 w_innermost)) rfl ?_
        show Steps p.tables e below (T58.setTop (mkF m 163 (lcO_3 a p1 p2 w_innermost) [])) _
        refine XS.goto X58.here hx rfl (pc0 := 163) (pc' := 105) rfl (hb hby d5_163) (by decide) (by decide) ?_
        show Steps p.tables e below (T58.setTop (mkF m 105 (lcO_3 a p1 p2 w_innermost) [])) _
        refine XS.iload X58.here hx rfl (hb hby d5_105) rfl ?_
        show Steps p.tables e below (T58.setTop (mkF m 107 (lcO_3 a p1 p2 w_innermost) [(.int (0 : Int32))])) _
        refine XS.ifNo X58.here hx rfl (hb hby d5_107) rfl ((if0 _ _).trans (flt (by decide)).1) ?_
        show Steps p.tables e below (T58.setTop (mkF m 110 (lcO_3 a p1 p2 w_innermost) [])) _
        refine XS.lloadN X58.here hx rfl (hb hby d5_110) rfl ?_
        show Steps p.tables e below (T58.setTop (mkF m 111 (lcO_3 a p1 p2 w_innermost) [(.long (own_code p1 w_innermost p2))])) _
        refine XS.bipush X58.here hx rfl (hb hby d5_111) ?_
        show Steps p.tables e below (T58.setTop (mkF m 113 (lcO_3 a p1 p2 w_innermost) [(.int (7 : Int32)), (.long (own_code p1 w_innermost p2))])) _
        refine XS.iload X58.here hx rfl (hb hby d5_113) rfl ?_
        show Steps p.tables e below (T58.setTop (mkF m 115 (lcO_3 a p1 p2 w_innermost) [(.int (0 : Int32)), (.int (7 : Int32)), (.long (own_code p1 w_innermost p2))])) _
        refine XS.imul X58.here hx rfl (hb hby d5_115) rfl ?_
        show Steps p.tables e below (T58.setTop (mkF m 116 (lcO_3 a p1 p2 w_innermost) [(.int (0 : Int32)), (.long (own_code p1 w_innermost p2))])) _
        refine XS.lushr X58.here hx rfl (hb hby d5_116) rfl ?_
        show Steps p.tables e below (T58.setTop (mkF m 117 (lcO_3 a p1 p2 w_innermost) [(.long (own_ush (own_code p1 w_innermost p2) (0 : Int32)))])) _
        refine XS.l2i X58.here hx rfl (hb hby d5_117) rfl ?_
        show Steps p.tables e below (T58.setTop (mkF m 118 (lcO_3 a p1 p2 w_innermost) [(.int ((own_ush (own_code p1 w_innermost p2) (0 : Int32)).toInt32))])) _
        refine XS.bipush X58.here hx rfl (hb hby d5_118) ?_
        show Steps p.tables e below (T58.setTop (mkF m 120 (lcO_3 a p1 p2 w_innermost) [(.int (127 : Int32)), (.int ((own_ush (own_code p1 w_innermost p2) (0 : Int32)).toInt32))])) _
        refine XS.iand X58.here hx rfl (hb hby d5_120) rfl ?_
        show Steps p.tables e below (T58.setTop (mkF m 121 (lcO_3 a p1 p2 w_innermost) [(.int (((own_ush (own_code p1 w_innermost p2) (0 : Int32)).toInt32) &&& (127 : Int32)))])) _
        refine XS.istore X58.here hx rfl (hb hby d5_121) rfl (l' := (lcO_4 a p1 p2 w_innermost)) rfl ?_
        show Steps p.tables e below (T58.setTop (mkF m 123 (lcO_4 a p1 p2 w_innermost) [])) _
        refine XS.aloadN X58.here hx rfl (hb hby d5_123) rfl rfl ?_
        show Steps p.tables e below (T58.setTop (mkF m 124 (lcO_4 a p1 p2 w_innermost) [(.ref a)])) _
        exact k)
      obtain ⟨T61, X61, e61, st61⟩ := getF X58 hx hZ hown (host := "") (Or.inl (hw _ (List.mem_of_getElem? (i := 18) rfl))) Via.refl e58 F_a_groups (g := (mkF m 124 (lcO_4 a p1 p2 w_innermost) [(.ref a)])) rfl rfl (hb hby d5_124)
      have pre62 : ∀ t, Steps p.tables e below (T61.setTop (mkF m 127 (lcO_4 a p1 p2 w_innermost) [(.ref w_groups)])) t → Steps p.tables e below (s₁.setTop (entryFrame m #[(.ref a), (.int p1), (.int p2)] 8)) t := fun t k => pre60 t (st61 t k)
      have pre63 : ∀ t, Steps p.tables e below (T61.setTop (mkF m 129 (lcO_4 a p1 p2 w_innermost) [(.ref a), (.ref a), (.ref w_groups)])) t → Steps p.tables e below (s₁.setTop (entryFrame m #[(.ref a), (.int p1), (.int p2)] 8)) t := fun t k => pre62 t (by
        show Steps p.tables e below (T61.setTop (mkF m 127 (lcO_4 a p1 p2 w_innermost) [(.ref w_groups)])) _
        refine XS.aloadN X61.here hx rfl (hb hby d5_127) rfl rfl ?_
        show Steps p.tables e below (T61.setTop (mkF m 128 (lcO_4 a p1 p2 w_innermost) [(.ref a), (.ref w_groups)])) _
        refine XS.dup X61.here hx rfl (hb hby d5_128) rfl rfl ?_
        show Steps p.tables e below (T61.setTop (mkF m 129 (lcO_4 a p1 p2 w_innermost) [(.ref a), (.ref a), (.ref w_groups)])) _
        exact k)
      obtain ⟨T64, X64, e64, st64⟩ := getF X61 hx hZ hown (host := "") (Or.inl (hw _ (List.mem_of_getElem? (i := 27) rfl))) Via.refl e61 F_a_size (g := (mkF m 129 (lcO_4 a p1 p2 w_innermost) [(.ref a), (.ref a), (.ref w_groups)])) rfl rfl (hb hby d5_129)
      have pre65 : ∀ t, Steps p.tables e below (T64.setTop (mkF m 132 (lcO_4 a p1 p2 w_innermost) [(.int (own_sk w_size 1)), (.ref a), (.ref w_groups)])) t → Steps p.tables e below (s₁.setTop (entryFrame m #[(.ref a), (.int p1), (.int p2)] 8)) t := fun t k => pre63 t (st64 t k)
      have pre66 : ∀ t, Steps p.tables e below (T64.setTop (mkF m 135 (lcO_4 a p1 p2 w_innermost) [(.int (own_sk w_size 2)), (.ref a), (.int (own_sk w_size 1)), (.ref w_groups)])) t → Steps p.tables e below (s₁.setTop (entryFrame m #[(.ref a), (.int p1), (.int p2)] 8)) t := fun t k => pre65 t (by
        show Steps p.tables e below (T64.setTop (mkF m 132 (lcO_4 a p1 p2 w_innermost) [(.int (own_sk w_size 1)), (.ref a), (.ref w_groups)])) _
        refine XS.dupX1 X64.here hx rfl (hb hby d5_132) rfl rfl rfl ?_
        show Steps p.tables e below (T64.setTop (mkF m 133 (lcO_4 a p1 p2 w_innermost) [(.int (own_sk w_size 1)), (.ref a), (.int (own_sk w_size 1)), (.ref w_groups)])) _
        refine XS.iconst X64.here hx rfl (hb hby d5_133) ?_
        show Steps p.tables e below (T64.setTop (mkF m 134 (lcO_4 a p1 p2 w_innermost) [(.int (1 : Int32)), (.int (own_sk w_size 1)), (.ref a), (.int (own_sk w_size 1)), (.ref w_groups)])) _
        refine XS.iadd X64.here hx rfl (hb hby d5_134) rfl ?_
        show Steps p.tables e below (T64.setTop (mkF m 135 (lcO_4 a p1 p2 w_innermost) [(.int (own_sk w_size 2)), (.ref a), (.int (own_sk w_size 1)), (.ref w_groups)])) _
        exact k)
      obtain ⟨T67, h67, X67, e67, W67, st67⟩ := putF X64 hx hZ hown (host := "") (Or.inl (hw _ (List.mem_of_getElem? (i := 27) rfl))) Via.refl e64 F_a_size E_a (Or.inl (hw _ (List.mem_of_getElem? (i := 28) rfl))) (hw _ (List.mem_of_getElem? (i := 9) rfl)) (ty := .int) (by decide) rfl rfl (g := (mkF m 135 (lcO_4 a p1 p2 w_innermost) [(.int (own_sk w_size 2)), (.ref a), (.int (own_sk w_size 1)), (.ref w_groups)])) rfl rfl (hb hby d5_135)
      have F_a_size : Fld Z h67 a "com/example/mensura/mensura/parser/OpenParentheses" "size" "I" (.int (own_sk w_size 2)) := F_a_size.same W67
      have E_a := E_a.wr W67
      have F_a_groups := F_a_groups.other W67 (Or.inr (slot_ne (Or.inl (hw _ (List.mem_of_getElem? (i := 19) rfl))) (Or.inl (hw _ (List.mem_of_getElem? (i := 28) rfl))) (by decide) (t := (.array .byte)) (t' := .int) (by decide) (by decide)))
      have F_a_innermost := F_a_innermost.other W67 (Or.inr (slot_ne (Or.inl (hw _ (List.mem_of_getElem? (i := 21) rfl))) (Or.inl (hw _ (List.mem_of_getElem? (i := 28) rfl))) (by decide) (t := .int) (t' := .int) (by decide) (by decide)))
      have F_a_depth := F_a_depth.other W67 (Or.inr (slot_ne (Or.inl (hw _ (List.mem_of_getElem? (i := 30) rfl))) (Or.inl (hw _ (List.mem_of_getElem? (i := 28) rfl))) (by decide) (t := .int) (t' := .int) (by decide) (by decide)))
      have A_w_groups := A_w_groups.other W67 (Ne.symm ne_a_w_groups)
      have K := K.wr W67 (Or.inl (List.mem_of_getElem? (i := 0) rfl))
      have Z67 : n0 ≤ h67.size := Nat.le_trans Z58 (Keep.of_wr W67).1
      have N67 := Fr.snoc X67 N58 g_a
      have pre68 : ∀ t, Steps p.tables e below (T67.setTop (mkF m 138 (lcO_4 a p1 p2 w_innermost) [(.int (own_sk w_size 1)), (.ref w_groups)])) t → Steps p.tables e below (s₁.setTop (entryFrame m #[(.ref a), (.int p1), (.int p2)] 8)) t := fun t k => pre66 t (st67 t k)
      have pre69 : ∀ t, Steps p.tables e below (T67.setTop (mkF m 159 (lcO_4 a p1 p2 w_innermost) [(.int (own_g1 (own_code p1 w_innermost p2) (0 : Int32))), (.int (own_sk w_size 1)), (.ref w_groups)])) t → Steps p.tables e below (s₁.setTop (entryFrame m #[(.ref a), (.int p1), (.int p2)] 8)) t := fun t k => pre68 t (by
        show Steps p.tables e below (T67.setTop (mkF m 138 (lcO_4 a p1 p2 w_innermost) [(.int (own_sk w_size 1)), (.ref w_groups)])) _
        refine XS.iload X67.here hx rfl (hb hby d5_138) rfl ?_
        show Steps p.tables e below (T67.setTop (mkF m 140 (lcO_4 a p1 p2 w_innermost) [(.int (0 : Int32)), (.int (own_sk w_size 1)), (.ref w_groups)])) _
        refine XS.iload X67.here hx rfl (hb hby d5_140) rfl ?_
        show Steps p.tables e below (T67.setTop (mkF m 142 (lcO_4 a p1 p2 w_innermost) [(.int (2 : Int32)), (.int (0 : Int32)), (.int (own_sk w_size 1)), (.ref w_groups)])) _
        refine XS.iconst X67.here hx rfl (hb hby d5_142) ?_
        show Steps p.tables e below (T67.setTop (mkF m 143 (lcO_4 a p1 p2 w_innermost) [(.int (1 : Int32)), (.int (2 : Int32)), (.int (0 : Int32)), (.int (own_sk w_size 1)), (.ref w_groups)])) _
        refine XS.isub X67.here hx rfl (hb hby d5_143) rfl ?_
        show Steps p.tables e below (T67.setTop (mkF m 144 (lcO_4 a p1 p2 w_innermost) [(.int (1 : Int32)), (.int (0 : Int32)), (.int (own_sk w_size 1)), (.ref w_groups)])) _
        refine XS.icmpYes X67.here hx rfl (pc0 := 144) (pc' := 152) rfl (hb hby d5_144) rfl (feq (by decide)).2 (by decide) (by decide) ?_
        show Steps p.tables e below (T67.setTop (mkF m 152 (lcO_4 a p1 p2 w_innermost) [(.int (own_sk w_size 1)), (.ref w_groups)])) _
        refine XS.iload X67.here hx rfl (hb hby d5_152) rfl ?_
        show Steps p.tables e below (T67.setTop (mkF m 154 (lcO_4 a p1 p2 w_innermost) [(.int (((own_ush (own_code p1 w_innermost p2) (0 : Int32)).toInt32) &&& (127 : Int32))), (.int (own_sk w_size 1)), (.ref w_groups)])) _
        refine XS.sipush X67.here hx rfl (hb hby d5_154) ?_
        show Steps p.tables e below (T67.setTop (mkF m 157 (lcO_4 a p1 p2 w_innermost) [(.int (128 : Int32)), (.int (((own_ush (own_code p1 w_innermost p2) (0 : Int32)).toInt32) &&& (127 : Int32))), (.int (own_sk w_size 1)), (.ref w_groups)])) _
        refine XS.ior X67.here hx rfl (hb hby d5_157) rfl ?_
        show Steps p.tables e below (T67.setTop (mkF m 158 (lcO_4 a p1 p2 w_innermost) [(.int ((((own_ush (own_code p1 w_innermost p2) (0 : Int32)).toInt32) &&& (127 : Int32)) ||| (128 : Int32))), (.int (own_sk w_size 1)), (.ref w_groups)])) _
        refine XS.i2b X67.here hx rfl (hb hby d5_158) rfl ?_
        show Steps p.tables e below (T67.setTop (mkF m 159 (lcO_4 a p1 p2 w_innermost) [(.int (own_g1 (own_code p1 w_innermost p2) (0 : Int32))), (.int (own_sk w_size 1)), (.ref w_groups)])) _
        exact k)
      obtain ⟨cl70, Ar70, Sz70, Hf70⟩ := A_w_groups
      obtain ⟨T70, h70, X70, e70, W70, st70⟩ := stB X67 hx hZ e67 Ar70 (j := (own_sk w_size 1)) (own_inb Sz70 (own_skb hs 1 (by decide))) (g := (mkF m 159 (lcO_4 a p1 p2 w_innermost) [(.int (own_g1 (own_code p1 w_innermost p2) (0 : Int32))), (.int (own_sk w_size 1)), (.ref w_groups)])) rfl rfl (hb hby d5_159)
      have A_w_groups : own_A Z h70 w_groups .byte 16 (own_put (own_put f (w_size).toNatClampNeg (nar .byte (own_g0 (own_code p1 w_innermost p2) (7 : Int32)))) ((own_sk w_size 1)).toNatClampNeg (nar .byte (own_g1 (own_code p1 w_innermost p2) (0 : Int32)))) := own_A.set Ar70 Sz70 Hf70 W70
      have E_a := E_a.wr W70
      have F_a_groups := F_a_groups.other W70 (Or.inl ne_a_w_groups)
      have F_a_size := F_a_size.other W70 (Or.inl ne_a_w_groups)
      have F_a_innermost := F_a_innermost.other W70 (Or.inl ne_a_w_groups)
      have F_a_depth := F_a_depth.other W70 (Or.inl ne_a_w_groups)
      have K := K.wr W70 (Or.inl (List.mem_of_getElem? (i := 1) rfl))
      have Z70 : n0 ≤ h70.size := Nat.le_trans Z67 (Keep.of_wr W70).1
      have N70 := Fr.snoc X70 N67 g_w_groups
      have pre71 : ∀ t, Steps p.tables e below (T70.setTop (mkF m 160 (lcO_4 a p1 p2 w_innermost) [])) t → Steps p.tables e below (s₁.setTop (entryFrame m #[(.ref a), (.int p1), (.int p2)] 8)) t := fun t k => pre69 t (st70 t k)
      have pre72 : ∀ t, Steps p.tables e below (T70.setTop (mkF m 168 (lcO_5 a p1 p2 w_innermost) [(.int p1), (.ref a)])) t → Steps p.tables e below (s₁.setTop (entryFrame m #[(.ref a), (.int p1), (.int p2)] 8)) t := fun t k => pre71 t (by
        show Steps p.tables e below (T70.setTop (mkF m 160 (lcO_4 a p1 p2 w_innermost) [])) _
        refine XS.iinc X70.here hx rfl (hb hby d5_160) rfl (l' := (lcO_5 a p1 p2 w_innermost)) rfl ?_
        show Steps p.tables e below (T70.setTop (mkF m 163 (lcO_5 a p1 p2 w_innermost) [])) _
        refine XS.goto X70.here hx rfl (pc0 := 163) (pc' := 105) rfl (hb hby d5_163) (by decide) (by decide) ?_
        show Steps p.tables e below (T70.setTop (mkF m 105 (lcO_5 a p1 p2 w_innermost) [])) _
        refine XS.iload X70.here hx rfl (hb hby d5_105) rfl ?_
        show Steps p.tables e below (T70.setTop (mkF m 107 (lcO_5 a p1 p2 w_innermost) [(.int (-1 : Int32))])) _
        refine XS.ifYes X70.here hx rfl (pc0 := 107) (pc' := 166) rfl (hb hby d5_107) rfl ((if0 _ _).trans (tlt (by decide)).1) (by decide) (by decide) ?_
        show Steps p.tables e below (T70.setTop (mkF m 166 (lcO_5 a p1 p2 w_innermost) [])) _
        refine XS.aloadN X70.here hx rfl (hb hby d5_166) rfl rfl ?_
        show Steps p.tables e below (T70.setTop (mkF m 167 (lcO_5 a p1 p2 w_innermost) [(.ref a)])) _
        refine XS.iloadN X70.here hx rfl (hb hby d5_167) rfl ?_
        show Steps p.tables e below (T70.setTop (mkF m 168 (lcO_5 a p1 p2 w_innermost) [(.int p1), (.ref a)])) _
        exact k)
      obtain ⟨T73, h73, X73, e73, W73, st73⟩ := putF X70 hx hZ hown (host := "") (Or.inl (hw _ (List.mem_of_getElem? (i := 20) rfl))) Via.refl e70 F_a_innermost E_a (Or.inl (hw _ (List.mem_of_getElem? (i := 21) rfl))) (hw _ (List.mem_of_getElem? (i := 9) rfl)) (ty := .int) (by decide) rfl rfl (g := (mkF m 168 (lcO_5 a p1 p2 w_innermost) [(.int p1), (.ref a)])) rfl rfl (hb hby d5_168)
      have F_a_innermost : Fld Z h73 a "com/example/mensura/mensura/parser/OpenParentheses" "innermost" "I" (.int p1) := F_a_innermost.same W73
      have E_a := E_a.wr W73
      have F_a_groups := F_a_groups.other W73 (Or.inr (slot_ne (Or.inl (hw _ (List.mem_of_getElem? (i := 19) rfl))) (Or.inl (hw _ (List.mem_of_getElem? (i := 21) rfl))) (by decide) (t := (.array .byte)) (t' := .int) (by decide) (by decide)))
      have F_a_size := F_a_size.other W73 (Or.inr (slot_ne (Or.inl (hw _ (List.mem_of_getElem? (i := 28) rfl))) (Or.inl (hw _ (List.mem_of_getElem? (i := 21) rfl))) (by decide) (t := .int) (t' := .int) (by decide) (by decide)))
      have F_a_depth := F_a_depth.other W73 (Or.inr (slot_ne (Or.inl (hw _ (List.mem_of_getElem? (i := 30) rfl))) (Or.inl (hw _ (List.mem_of_getElem? (i := 21) rfl))) (by decide) (t := .int) (t' := .int) (by decide) (by decide)))
      have A_w_groups := A_w_groups.other W73 (Ne.symm ne_a_w_groups)
      have K := K.wr W73 (Or.inl (List.mem_of_getElem? (i := 0) rfl))
      have Z73 : n0 ≤ h73.size := Nat.le_trans Z70 (Keep.of_wr W73).1
      have N73 := Fr.snoc X73 N70 g_a
      have pre74 : ∀ t, Steps p.tables e below (T73.setTop (mkF m 171 (lcO_5 a p1 p2 w_innermost) [])) t → Steps p.tables e below (s₁.setTop (entryFrame m #[(.ref a), (.int p1), (.int p2)] 8)) t := fun t k => pre72 t (st73 t k)
      have pre75 : ∀ t, Steps p.tables e below (T73.setTop (mkF m 173 (lcO_5 a p1 p2 w_innermost) [(.ref a), (.ref a)])) t → Steps p.tables e below (s₁.setTop (entryFrame m #[(.ref a), (.int p1), (.int p2)] 8)) t := fun t k => pre74 t (by
        show Steps p.tables e below (T73.setTop (mkF m 171 (lcO_5 a p1 p2 w_innermost) [])) _
        refine XS.aloadN X73.here hx rfl (hb hby d5_171) rfl rfl ?_
        show Steps p.tables e below (T73.setTop (mkF m 172 (lcO_5 a p1 p2 w_innermost) [(.ref a)])) _
        refine XS.dup X73.here hx rfl (hb hby d5_172) rfl rfl ?_
        show Steps p.tables e below (T73.setTop (mkF m 173 (lcO_5 a p1 p2 w_innermost) [(.ref a), (.ref a)])) _
        exact k)
      obtain ⟨T76, X76, e76, st76⟩ := getF X73 hx hZ hown (host := "") (Or.inl (hw _ (List.mem_of_getElem? (i := 29) rfl))) Via.refl e73 F_a_depth (g := (mkF m 173 (lcO_5 a p1 p2 w_innermost) [(.ref a), (.ref a)])) rfl rfl (hb hby d5_173)
      have pre77 : ∀ t, Steps p.tables e below (T76.setTop (mkF m 176 (lcO_5 a p1 p2 w_innermost) [(.int w_depth), (.ref a)])) t → Steps p.tables e below (s₁.setTop (entryFrame m #[(.ref a), (.int p1), (.int p2)] 8)) t := fun t k => pre75 t (st76 t k)
      have pre78 : ∀ t, Steps p.tables e below (T76.setTop (mkF m 178 (lcO_5 a p1 p2 w_innermost) [(.int (w_depth + (1 : Int32))), (.ref a)])) t → Steps p.tables e below (s₁.setTop (entryFrame m #[(.ref a), (.int p1), (.int p2)] 8)) t := fun t k => pre77 t (by
        show Steps p.tables e below (T76.setTop (mkF m 176 (lcO_5 a p1 p2 w_innermost) [(.int w_depth), (.ref a)])) _
        refine XS.iconst X76.here hx rfl (hb hby d5_176) ?_
        show Steps p.tables e below (T76.setTop (mkF m 177 (lcO_5 a p1 p2 w_innermost) [(.int (1 : Int32)), (.int w_depth), (.ref a)])) _
        refine XS.iadd X76.here hx rfl (hb hby d5_177) rfl ?_
        show Steps p.tables e below (T76.setTop (mkF m 178 (lcO_5 a p1 p2 w_innermost) [(.int (w_depth + (1 : Int32))), (.ref a)])) _
        exact k)
      obtain ⟨T79, h79, X79, e79, W79, st79⟩ := putF X76 hx hZ hown (host := "") (Or.inl (hw _ (List.mem_of_getElem? (i := 29) rfl))) Via.refl e76 F_a_depth E_a (Or.inl (hw _ (List.mem_of_getElem? (i := 30) rfl))) (hw _ (List.mem_of_getElem? (i := 9) rfl)) (ty := .int) (by decide) rfl rfl (g := (mkF m 178 (lcO_5 a p1 p2 w_innermost) [(.int (w_depth + (1 : Int32))), (.ref a)])) rfl rfl (hb hby d5_178)
      have F_a_depth : Fld Z h79 a "com/example/mensura/mensura/parser/OpenParentheses" "depth" "I" (.int (w_depth + (1 : Int32))) := F_a_depth.same W79
      have E_a := E_a.wr W79
      have F_a_groups := F_a_groups.other W79 (Or.inr (slot_ne (Or.inl (hw _ (List.mem_of_getElem? (i := 19) rfl))) (Or.inl (hw _ (List.mem_of_getElem? (i := 30) rfl))) (by decide) (t := (.array .byte)) (t' := .int) (by decide) (by decide)))
      have F_a_size := F_a_size.other W79 (Or.inr (slot_ne (Or.inl (hw _ (List.mem_of_getElem? (i := 28) rfl))) (Or.inl (hw _ (List.mem_of_getElem? (i := 30) rfl))) (by decide) (t := .int) (t' := .int) (by decide) (by decide)))
      have F_a_innermost := F_a_innermost.other W79 (Or.inr (slot_ne (Or.inl (hw _ (List.mem_of_getElem? (i := 21) rfl))) (Or.inl (hw _ (List.mem_of_getElem? (i := 30) rfl))) (by decide) (t := .int) (t' := .int) (by decide) (by decide)))
      have A_w_groups := A_w_groups.other W79 (Ne.symm ne_a_w_groups)
      have K := K.wr W79 (Or.inl (List.mem_of_getElem? (i := 0) rfl))
      have Z79 : n0 ≤ h79.size := Nat.le_trans Z73 (Keep.of_wr W79).1
      have N79 := Fr.snoc X79 N73 g_a
      have pre80 : ∀ t, Steps p.tables e below (T79.setTop (mkF m 181 (lcO_5 a p1 p2 w_innermost) [])) t → Steps p.tables e below (s₁.setTop (entryFrame m #[(.ref a), (.int p1), (.int p2)] 8)) t := fun t k => pre78 t (st79 t k)
      obtain ⟨fs, hr, hrun, hended, hW, hsame⟩ := X79.leave (v := none) (fun _ => rfl) hlk
      refine ⟨_, _, pre80 _ ?_, hrun, hended, _, _, rfl, ?_, ⟨_, rfl⟩, hW, hsame.mono (by decide) (by decide)⟩
      · show Steps p.tables e below (T79.setTop (mkF m 181 (lcO_5 a p1 p2 w_innermost) [])) _
        exact X79.returnOut hx Bd.returns (hb hby d5_181) hr
      · show QO Z a p1 p2 f w_groups w_size w_innermost w_depth h0 n0 _ T79.heap _
        rw [e79]
        have hm : own_m (own_code p1 w_innermost p2) = 2 := by simp only [own_m, if_neg hc33_8, if_pos hc33_39]
        exact ⟨rfl, N79, K, ⟨_, A_w_groups, own_push2 f w_size (own_code p1 w_innermost p2) hm hs⟩, F_a_groups, (by rw [hm]; exact F_a_size), F_a_innermost, F_a_depth⟩
    · have pre81 : ∀ t, Steps p.tables e below (T2.setTop (mkF m 33 #[.val (.ref a), .val (.int p1), .val (.int p2), .val (.long (own_code p1 w_innermost p2)), .second, .val (.int (3 : Int32)), .unset, .unset] [(.int (lcmpW (own_ush (own_code p1 w_innermost p2) (21 : Int32)) (0 : Int64)))])) t → Steps p.tables e below (s₁.setTop (entryFrame m #[(.ref a), (.int p1), (.int p2)] 8)) t := fun t k => pre38 t (by
        show Steps p.tables e below (T2.setTop (mkF m 33 #[.val (.ref a), .val (.int p1), .val (.int p2), .val (.long (own_code p1 w_innermost p2)), .second, .val (.int (2 : Int32)), .unset, .unset] [(.int (lcmpW (own_ush (own_code p1 w_innermost p2) (14 : Int32)) (0 : Int64)))])) _
        refine XS.ifNo X2.here hx rfl (hb hby d5_33) rfl ((if0 _ _).trans (feq (fun q => hc33_39 ((lw_eq _ _).mp q))).1) ?_
        show Steps p.tables e below (T2.setTop (mkF m 36 #[.val (.ref a), .val (.int p1), .val (.int p2), .val (.long (own_code p1 w_innermost p2)), .second, .val (.int (2 : Int32)), .unset, .unset] [])) _
        refine XS.iinc X2.here hx rfl (hb hby d5_36) rfl (l' := #[.val (.ref a), .val (.int p1), .val (.int p2), .val (.long (own_code p1 w_innermost p2)), .second, .val (.int (3 : Int32)), .unset, .unset]) rfl ?_
        show Steps p.tables e below (T2.setTop (mkF m 39 #[.val (.ref a), .val (.int p1), .val (.int p2), .val (.long (own_code p1 w_innermost p2)), .second, .val (.int (3 : Int32)), .unset, .unset] [])) _
        refine XS.goto X2.here hx rfl (pc0 := 39) (pc' := 24) rfl (hb hby d5_39) (by decide) (by decide) ?_
        show Steps p.tables e below (T2.setTop (mkF m 24 #[.val (.ref a), .val (.int p1), .val (.int p2), .val (.long (own_code p1 w_innermost p2)), .second, .val (.int (3 : Int32)), .unset, .unset] [])) _
        refine XS.lloadN X2.here hx rfl (hb hby d5_24) rfl ?_
        show Steps p.tables e below (T2.setTop (mkF m 25 #[.val (.ref a), .val (.int p1), .val (.int p2), .val (.long (own_code p1 w_innermost p2)), .second, .val (.int (3 : Int32)), .unset, .unset] [(.long (own_code p1 w_innermost p2))])) _
        refine XS.bipush X2.here hx rfl (hb hby d5_25) ?_
        show Steps p.tables e below (T2.setTop (mkF m 27 #[.val (.ref a), .val (.int p1), .val (.int p2), .val (.long (own_code p1 w_innermost p2)), .second, .val (.int (3 : Int32)), .unset, .unset] [(.int (7 : Int32)), (.long (own_code p1 w_innermost p2))])) _
        refine XS.iload X2.here hx rfl (hb hby d5_27) rfl ?_
        show Steps p.tables e below (T2.setTop (mkF m 29 #[.val (.ref a), .val (.int p1), .val (.int p2), .val (.long (own_code p1 w_innermost p2)), .second, .val (.int (3 : Int32)), .unset, .unset] [(.int (3 : Int32)), (.int (7 : Int32)), (.long (own_code p1 w_innermost p2))])) _
        refine XS.imul X2.here hx rfl (hb hby d5_29) rfl ?_
        show Steps p.tables e below (T2.setTop (mkF m 30 #[.val (.ref a), .val (.int p1), .val (.int p2), .val (.long (own_code p1 w_innermost p2)), .second, .val (.int (3 : Int32)), .unset, .unset] [(.int (21 : Int32)), (.long (own_code p1 w_innermost p2))])) _
        refine XS.lushr X2.here hx rfl (hb hby d5_30) rfl ?_
        show Steps p.tables e below (T2.setTop (mkF m 31 #[.val (.ref a), .val (.int p1), .val (.int p2), .val (.long (own_code p1 w_innermost p2)), .second, .val (.int (3 : Int32)), .unset, .unset] [(.long (own_ush (own_code p1 w_innermost p2) (21 : Int32)))])) _
        refine XS.lconst X2.here hx rfl (hb hby d5_31) ?_
        show Steps p.tables e below (T2.setTop (mkF m 32 #[.val (.ref a), .val (.int p1), .val (.int p2), .val (.long (own_code p1 w_innermost p2)), .second, .val (.int (3 : Int32)), .unset, .unset] [(.long (0 : Int64)), (.long (own_ush (own_code p1 w_innermost p2) (21 : Int32)))])) _
        refine XS.lcmp X2.here hx rfl (hb hby d5_32) rfl ?_
        show Steps p.tables e below (T2.setTop (mkF m 33 #[.val (.ref a), .val (.int p1), .val (.int p2), .val (.long (own_code p1 w_innermost p2)), .second, .val (.int (3 : Int32)), .unset, .unset] [(.int (lcmpW (own_ush (own_code p1 w_innermost p2) (21 : Int32)) (0 : Int64)))])) _
        exact k)
      by_cases hc33_82 : (own_ush (own_code p1 w_innermost p2) (21 : Int32)) = (0 : Int64)
      · have pre83 : ∀ t, Steps p.tables e below (T2.setTop (mkF m 43 #[.val (.ref a), .val (.int p1), .val (.int p2), .val (.long (own_code p1 w_innermost p2)), .second, .val (.int (3 : Int32)), .unset, .unset] [(.ref a)])) t → Steps p.tables e below (s₁.setTop (entryFrame m #[(.ref a), (.int p1), (.int p2)] 8)) t := fun t k => pre81 t (by
          show Steps p.tables e below (T2.setTop (mkF m 33 #[.val (.ref a), .val (.int p1), .val (.int p2), .val (.long (own_code p1 w_innermost p2)), .second, .val (.int (3 : Int32)), .unset, .unset] [(.int (lcmpW (own_ush (own_code p1 w_innermost p2) (21 : Int32)) (0 : Int64)))])) _
          refine XS.ifYes X2.here hx rfl (pc0 := 33) (pc' := 42) rfl (hb hby d5_33) rfl ((if0 _ _).trans (teq ((lw_eq _ _).mpr hc33_82)).1) (by decide) (by decide) ?_
          show Steps p.tables e below (T2.setTop (mkF m 42 #[.val (.ref a), .val (.int p1), .val (.int p2), .val (.long (own_code p1 w_innermost p2)), .second, .val (.int (3 : Int32)), .unset, .unset] [])) _
          refine XS.aloadN X2.here hx rfl (hb hby d5_42) rfl rfl ?_
          show Steps p.tables e below (T2.setTop (mkF m 43 #[.val (.ref a), .val (.int p1), .val (.int p2), .val (.long (own_code p1 w_innermost p2)), .second, .val (.int (3 : Int32)), .unset, .unset] [(.ref a)])) _
          exact k)
        obtain ⟨T84, X84, e84, st84⟩ := getF X2 hx hZ hown (host := "") (Or.inl (hw _ (List.mem_of_getElem? (i := 18) rfl))) Via.refl e2 F_a_groups (g := (mkF m 43 #[.val (.ref a), .val (.int p1), .val (.int p2), .val (.long (own_code p1 w_innermost p2)), .second, .val (.int (3 : Int32)), .unset, .unset] [(.ref a)])) rfl rfl (hb hby d5_43)
        have pre85 : ∀ t, Steps p.tables e below (T84.setTop (mkF m 46 #[.val (.ref a), .val (.int p1), .val (.int p2), .val (.long (own_code p1 w_innermost p2)), .second, .val (.int (3 : Int32)), .unset, .unset] [(.ref w_groups)])) t → Steps p.tables e below (s₁.setTop (entryFrame m #[(.ref a), (.int p1), (.int p2)] 8)) t := fun t k => pre83 t (st84 t k)
        obtain ⟨cl86, Ar86, Sz86, Hf86⟩ := id A_w_groups
        have pre87 : ∀ t, Steps p.tables e below (T84.setTop (mkF m 47 #[.val (.ref a), .val (.int p1), .val (.int p2), .val (.long (own_code p1 w_innermost p2)), .second, .val (.int (3 : Int32)), .unset, .unset] [(.int (16 : Int32))])) t → Steps p.tables e below (s₁.setTop (entryFrame m #[(.ref a), (.int p1), (.int p2)] 8)) t := fun t k => pre85 t (X84.arraylength hx (by rw [e84]; exact Ar86.1) (State.isArrayOf_alike hZ.alike Ar86.2.1) (g := (mkF m 46 #[.val (.ref a), .val (.int p1), .val (.int p2), .val (.long (own_code p1 w_innermost p2)), .second, .val (.int (3 : Int32)), .unset, .unset] [(.ref w_groups)])) rfl rfl (hb hby d5_46) _ (by rw [own_len Sz86 rfl]; exact k))
        have pre88 : ∀ t, Steps p.tables e below (T84.setTop (mkF m 48 #[.val (.ref a), .val (.int p1), .val (.int p2), .val (.long (own_code p1 w_innermost p2)), .second, .val (.int (3 : Int32)), .unset, .unset] [(.ref a), (.int (16 : Int32))])) t → Steps p.tables e below (s₁.setTop (entryFrame m #[(.ref a), (.int p1), (.int p2)] 8)) t := fun t k => pre87 t (by
          show Steps p.tables e below (T84.setTop (mkF m 47 #[.val (.ref a), .val (.int p1), .val (.int p2), .val (.long (own_code p1 w_innermost p2)), .second, .val (.int (3 : Int32)), .unset, .unset] [(.int (16 : Int32))])) _
          refine XS.aloadN X84.here hx rfl (hb hby d5_47) rfl rfl ?_
          show Steps p.tables e below (T84.setTop (mkF m 48 #[.val (.ref a), .val (.int p1), .val (.int p2), .val (.long (own_code p1 w_innermost p2)), .second, .val (.int (3 : Int32)), .unset, .unset] [(.ref a), (.int (16 : Int32))])) _
          exact k)
        obtain ⟨T89, X89, e89, st89⟩ := getF X84 hx hZ hown (host := "") (Or.inl (hw _ (List.mem_of_getElem? (i := 27) rfl))) Via.refl e84 F_a_size (g := (mkF m 48 #[.val (.ref a), .val (.int p1), .val (.int p2), .val (.long (own_code p1 w_innermost p2)), .second, .val (.int (3 : Int32)), .unset, .unset] [(.ref a), (.int (16 : Int32))])) rfl rfl (hb hby d5_48)
        have pre90 : ∀ t, Steps p.tables e below (T89.setTop (mkF m 51 #[.val (.ref a), .val (.int p1), .val (.int p2), .val (.long (own_code p1 w_innermost p2)), .second, .val (.int (3 : Int32)), .unset, .unset] [(.int w_size), (.int (16 : Int32))])) t → Steps p.tables e below (s₁.setTop (entryFrame m #[(.ref a), (.int p1), (.int p2)] 8)) t := fun t k => pre88 t (st89 t k)
        have pre91 : ∀ t, Steps p.tables e below (T89.setTop (mkF m 124 (lcO_6 a p1 p2 w_innermost) [(.ref a)])) t → Steps p.tables e below (s₁.setTop (entryFrame m #[(.ref a), (.int p1), (.int p2)] 8)) t := fun t k => pre90 t (by
          show Steps p.tables e below (T89.setTop (mkF m 51 #[.val (.ref a), .val (.int p1), .val (.int p2), .val (.long (own_code p1 w_innermost p2)), .second, .val (.int (3 : Int32)), .unset, .unset] [(.int w_size), (.int (16 : Int32))])) _
          refine XS.isub X89.here hx rfl (hb hby d5_51) rfl ?_
          show Steps p.tables e below (T89.setTop (mkF m 52 #[.val (.ref a), .val (.int p1), .val (.int p2), .val (.long (own_code p1 w_innermost p2)), .second, .val (.int (3 : Int32)), .unset, .unset] [(.int ((16 : Int32) - w_size))])) _
          refine XS.iload X89.here hx rfl (hb hby d5_52) rfl ?_
          show Steps p.tables e below (T89.setTop (mkF m 54 #[.val (.ref a), .val (.int p1), .val (.int p2), .val (.long (own_code p1 w_innermost p2)), .second, .val (.int (3 : Int32)), .unset, .unset] [(.int (3 : Int32)), (.int ((16 : Int32) - w_size))])) _
          refine XS.icmpYes X89.here hx rfl (pc0 := 54) (pc' := 99) rfl (hb hby d5_54) rfl (flt (show ¬ (((16 : Int32) - w_size) < (3 : Int32)) from own_fit hs (by decide))).2.1 (by decide) (by decide) ?_
          show Steps p.tables e below (T89.setTop (mkF m 99 #[.val (.ref a), .val (.int p1), .val (.int p2), .val (.long (own_code p1 w_innermost p2)), .second, .val (.int (3 : Int32)), .unset, .unset] [])) _
          refine XS.iload X89.here hx rfl (hb hby d5_99) rfl ?_
          show Steps p.tables e below (T89.setTop (mkF m 101 #[.val (.ref a), .val (.int p1), .val (.int p2), .val (.long (own_code p1 w_innermost p2)), .second, .val (.int (3 : Int32)), .unset, .unset] [(.int (3 : Int32))])) _
          refine XS.iconst X89.here hx rfl (hb hby d5_101) ?_
          show Steps p.tables e below (T89.setTop (mkF m 102 #[.val (.ref a), .val (.int p1), .val (.int p2), .val (.long (own_code p1 w_innermost p2)), .second, .val (.int (3 : Int32)), .unset, .unset] [(.int (1 : Int32)), (.int (3 : Int32))])) _
          refine XS.isub X89.here hx rfl (hb hby d5_102) rfl ?_
          show Steps p.tables e below (T89.setTop (mkF m 103 #[.val (.ref a), .val (.int p1), .val (.int p2), .val (.long (own_code p1 w_innermost p2)), .second, .val (.int (3 : Int32)), .unset, .unset] [(.int (2 : Int32))])) _
          refine XS.istore X89.here hx rfl (hb hby d5_103) rfl (l' := #[.val (.ref a), .val (.int p1), .val (.int p2), .val (.long (own_code p1 w_innermost p2)), .second, .val (.int (3 : Int32)), .val (.int (2 : Int32)), .unset]) rfl ?_
          show Steps p.tables e below (T89.setTop (mkF m 105 #[.val (.ref a), .val (.int p1), .val (.int p2), .val (.long (own_code p1 w_innermost p2)), .second, .val (.int (3 : Int32)), .val (.int (2 : Int32)), .unset] [])) _
          refine XS.iload X89.here hx rfl (hb hby d5_105) rfl ?_
          show Steps p.tables e below (T89.setTop (mkF m 107 #[.val (.ref a), .val (.int p1), .val (.int p2), .val (.long (own_code p1 w_innermost p2)), .second, .val (.int (3 : Int32)), .val (.int (2 : Int32)), .unset] [(.int (2 : Int32))])) _
          refine XS.ifNo X89.here hx rfl (hb hby d5_107) rfl ((if0 _ _).trans (flt (by decide)).1) ?_
          show Steps p.tables e below (T89.setTop (mkF m 110 #[.val (.ref a), .val (.int p1), .val (.int p2), .val (.long (own_code p1 w_innermost p2)), .second, .val (.int (3 : Int32)), .val (.int (2 : Int32)), .unset] [])) _
          refine XS.lloadN X89.here hx rfl (hb hby d5_110) rfl ?_
          show Steps p.tables e below (T89.setTop (mkF m 111 #[.val (.ref a), .val (.int p1), .val (.int p2), .val (.long (own_code p1 w_innermost p2)), .second, .val (.int (3 : Int32)), .val (.int (2 : Int32)), .unset] [(.long (own_code p1 w_innermost p2))])) _
          refine XS.bipush X89.here hx rfl (hb hby d5_111) ?_
          show Steps p.tables e below (T89.setTop (mkF m 113 #[.val (.ref a), .val (.int p1), .val (.int p2), .val (.long (own_code p1 w_innermost p2)), .second, .val (.int (3 : Int32)), .val (.int (2 : Int32)), .unset] [(.int (7 : Int32)), (.long (own_code p1 w_innermost p2))])) _
          refine XS.iload X89.here hx rfl (hb hby d5_113) rfl ?_
          show Steps p.tables e below (T89.setTop (mkF m 115 #[.val (.ref a), .val (.int p1), .val (.int p2), .val (.long (own_code p1 w_innermost p2)), .second, .val (.int (3 : Int32)), .val (.int (2 : Int32)), .unset] [(.int (2 : Int32)), (.int (7 : Int32)), (.long (own_code p1 w_innermost p2))])) _
          refine XS.imul X89.here hx rfl (hb hby d5_115) rfl ?_
          show Steps p.tables e below (T89.setTop (mkF m 116 #[.val (.ref a), .val (.int p1), .val (.int p2), .val (.long (own_code p1 w_innermost p2)), .second, .val (.int (3 : Int32)), .val (.int (2 : Int32)), .unset] [(.int (14 : Int32)), (.long (own_code p1 w_innermost p2))])) _
          refine XS.lushr X89.here hx rfl (hb hby d5_116) rfl ?_
          show Steps p.tables e below (T89.setTop (mkF m 117 #[.val (.ref a), .val (.int p1), .val (.int p2), .val (.long (own_code p1 w_innermost p2)), .second, .val (.int (3 : Int32)), .val (.int (2 : Int32)), .unset] [(.long (own_ush (own_code p1 w_innermost p2) (14 : Int32)))])) _
          refine XS.l2i X89.here hx rfl (hb hby d5_117) rfl ?_
          show Steps p.tables e below (T89.setTop (mkF m 118 #[.val (.ref a), .val (.int p1), .val (.int p2), .val (.long (own_code p1 w_innermost p2)), .second, .val (.int (3 : Int32)), .val (.int (2 : Int32)), .unset] [(.int ((own_ush (own_code p1 w_innermost p2) (14 : Int32)).toInt32))])) _
          refine XS.bipush X89.here hx rfl (hb hby d5_118) ?_
          show Steps p.tables e below (T89.setTop (mkF m 120 #[.val (.ref a), .val (.int p1), .val (.int p2), .val (.long (own_code p1 w_innermost p2)), .second, .val (.int (3 : Int32)), .val (.int (2 : Int32)), .unset] [(.int (127 : Int32)), (.int ((own_ush (own_code p1 w_innermost p2) (14 : Int32)).toInt32))])) _
          refine XS.iand X89.here hx rfl (hb hby d5_120) rfl ?_
          show Steps p.tables e below (T89.setTop (mkF m 121 #[.val (.ref a), .val (.int p1), .val (.int p2), .val (.long (own_code p1 w_innermost p2)), .second, .val (.int (3 : Int32)), .val (.int (2 : Int32)), .unset] [(.int (((own_ush (own_code p1 w_innermost p2) (14 : Int32)).toInt32) &&& (127 : Int32)))])) _
          refine XS.istore X89.here hx rfl (hb hby d5_121) rfl (l' := (lcO_6 a p1 p2 w_innermost)) rfl ?_
          show Steps p.tables e below (T89.setTop (mkF m 123 (lcO_6 a p1 p2 w_innermost) [])) _
          refine XS.aloadN X89.here hx rfl (hb hby d5_123) rfl rfl ?_
          show Steps p.tables e below (T89.setTop (mkF m 124 (lcO_6 a p1 p2 w_innermost) [(.ref a)])) _
          exact k)
        obtain ⟨T92, X92, e92, st92⟩ := getF X89 hx hZ hown (host := "") (Or.inl (hw _ (List.mem_of_getElem? (i := 18) rfl))) Via.refl e89 F_a_groups (g := (mkF m 124 (lcO_6 a p1 p2 w_innermost) [(.ref a)])) rfl rfl (hb hby d5_124)
        have pre93 : ∀ t, Steps p.tables e below (T92.setTop (mkF m 127 (lcO_6 a p1 p2 w_innermost) [(.ref w_groups)])) t → Steps p.tables e below (s₁.setTop (entryFrame m #[(.ref a), (.int p1), (.int p2)] 8)) t := fun t k => pre91 t (st92 t k)
        have pre94 : ∀ t, Steps p.tables e below (T92.setTop (mkF m 129 (lcO_6 a p1 p2 w_innermost) [(.ref a), (.ref a), (.ref w_groups)])) t → Steps p.tables e below (s₁.setTop (entryFrame m #[(.ref a), (.int p1), (.int p2)] 8)) t := fun t k => pre93 t (by
          show Steps p.tables e below (T92.setTop (mkF m 127 (lcO_6 a p1 p2 w_innermost) [(.ref w_groups)])) _
          refine XS.aloadN X92.here hx rfl (hb hby d5_127) rfl rfl ?_
          show Steps p.tables e below (T92.setTop (mkF m 128 (lcO_6 a p1 p2 w_innermost) [(.ref a), (.ref w_groups)])) _
          refine XS.dup X92.here hx rfl (hb hby d5_128) rfl rfl ?_
          show Steps p.tables e below (T92.setTop (mkF m 129 (lcO_6 a p1 p2 w_innermost) [(.ref a), (.ref a), (.ref w_groups)])) _
          exact k)
        obtain ⟨T95, X95, e95, st95⟩ := getF X92 hx hZ hown (host := "") (Or.inl (hw _ (List.mem_of_getElem? (i := 27) rfl))) Via.refl e92 F_a_size (g := (mkF m 129 (lcO_6 a p1 p2 w_innermost) [(.ref a), (.ref a), (.ref w_groups)])) rfl rfl (hb hby d5_129)
        have pre96 : ∀ t, Steps p.tables e below (T95.setTop (mkF m 132 (lcO_6 a p1 p2 w_innermost) [(.int w_size), (.ref a), (.ref w_groups)])) t → Steps p.tables e below (s₁.setTop (entryFrame m #[(.ref a), (.int p1), (.int p2)] 8)) t := fun t k => pre94 t (st95 t k)
        have pre97 : ∀ t, Steps p.tables e below (T95.setTop (mkF m 135 (lcO_6 a p1 p2 w_innermost) [(.int (own_sk w_size 1)), (.ref a), (.int w_size), (.ref w_groups)])) t → Steps p.tables e below (s₁.setTop (entryFrame m #[(.ref a), (.int p1), (.int p2)] 8)) t := fun t k => pre96 t (by
          show Steps p.tables e below (T95.setTop (mkF m 132 (lcO_6 a p1 p2 w_innermost) [(.int w_size), (.ref a), (.ref w_groups)])) _
          refine XS.dupX1 X95.here hx rfl (hb hby d5_132) rfl rfl rfl ?_
          show Steps p.tables e below (T95.setTop (mkF m 133 (lcO_6 a p1 p2 w_innermost) [(.int w_size), (.ref a), (.int w_size), (.ref w_groups)])) _
          refine XS.iconst X95.here hx rfl (hb hby d5_133) ?_
          show Steps p.tables e below (T95.setTop (mkF m 134 (lcO_6 a p1 p2 w_innermost) [(.int (1 : Int32)), (.int w_size), (.ref a), (.int w_size), (.ref w_groups)])) _
          refine XS.iadd X95.here hx rfl (hb hby d5_134) rfl ?_
          show Steps p.tables e below (T95.setTop (mkF m 135 (lcO_6 a p1 p2 w_innermost) [(.int (own_sk w_size 1)), (.ref a), (.int w_size), (.ref w_groups)])) _
          exact k)
        obtain ⟨T98, h98, X98, e98, W98, st98⟩ := putF X95 hx hZ hown (host := "") (Or.inl (hw _ (List.mem_of_getElem? (i := 27) rfl))) Via.refl e95 F_a_size E_a (Or.inl (hw _ (List.mem_of_getElem? (i := 28) rfl))) (hw _ (List.mem_of_getElem? (i := 9) rfl)) (ty := .int) (by decide) rfl rfl (g := (mkF m 135 (lcO_6 a p1 p2 w_innermost) [(.int (own_sk w_size 1)), (.ref a), (.int w_size), (.ref w_groups)])) rfl rfl (hb hby d5_135)
        have F_a_size : Fld Z h98 a "com/example/mensura/mensura/parser/OpenParentheses" "size" "I" (.int (own_sk w_size 1)) := F_a_size.same W98
        have E_a := E_a.wr W98
        have F_a_groups := F_a_groups.other W98 (Or.inr (slot_ne (Or.inl (hw _ (List.mem_of_getElem? (i := 19) rfl))) (Or.inl (hw _ (List.mem_of_getElem? (i := 28) rfl))) (by decide) (t := (.array .byte)) (t' := .int) (by decide) (by decide)))
        have F_a_innermost := F_a_innermost.other W98 (Or.inr (slot_ne (Or.inl (hw _ (List.mem_of_getElem? (i := 21) rfl))) (Or.inl (hw _ (List.mem_of_getElem? (i := 28) rfl))) (by decide) (t := .int) (t' := .int) (by decide) (by decide)))
        have F_a_depth := F_a_depth.other W98 (Or.inr (slot_ne (Or.inl (hw _ (List.mem_of_getElem? (i := 30) rfl))) (Or.inl (hw _ (List.mem_of_getElem? (i := 28) rfl))) (by decide) (t := .int) (t' := .int) (by decide) (by decide)))
        have A_w_groups := A_w_groups.other W98 (Ne.symm ne_a_w_groups)
        have K := K.wr W98 (Or.inl (List.mem_of_getElem? (i := 0) rfl))
        have Z98 : n0 ≤ h98.size := Nat.le_trans Z0 (Keep.of_wr W98).1
        have N98 := Fr.snoc X98 N0 g_a
        have pre99 : ∀ t, Steps p.tables e below (T98.setTop (mkF m 138 (lcO_6 a p1 p2 w_innermost) [(.int w_size), (.ref w_groups)])) t → Steps p.tables e below (s₁.setTop (entryFrame m #[(.ref a), (.int p1), (.int p2)] 8)) t := fun t k => pre97 t (st98 t k)
        have pre100 : ∀ t, Steps p.tables e below (T98.setTop (mkF m 159 (lcO_6 a p1 p2 w_innermost) [(.int (own_g0 (own_code p1 w_innermost p2) (14 : Int32))), (.int w_size), (.ref w_groups)])) t → Steps p.tables e below (s₁.setTop (entryFrame m #[(.ref a), (.int p1), (.int p2)] 8)) t := fun t k => pre99 t (by
          show Steps p.tables e below (T98.setTop (mkF m 138 (lcO_6 a p1 p2 w_innermost) [(.int w_size), (.ref w_groups)])) _
          refine XS.iload X98.here hx rfl (hb hby d5_138) rfl ?_
          show Steps p.tables e below (T98.setTop (mkF m 140 (lcO_6 a p1 p2 w_innermost) [(.int (2 : Int32)), (.int w_size), (.ref w_groups)])) _
          refine XS.iload X98.here hx rfl (hb hby d5_140) rfl ?_
          show Steps p.tables e below (T98.setTop (mkF m 142 (lcO_6 a p1 p2 w_innermost) [(.int (3 : Int32)), (.int (2 : Int32)), (.int w_size), (.ref w_groups)])) _
          refine XS.iconst X98.here hx rfl (hb hby d5_142) ?_
          show Steps p.tables e below (T98.setTop (mkF m 143 (lcO_6 a p1 p2 w_innermost) [(.int (1 : Int32)), (.int (3 : Int32)), (.int (2 : Int32)), (.int w_size), (.ref w_groups)])) _
          refine XS.isub X98.here hx rfl (hb hby d5_143) rfl ?_
          show Steps p.tables e below (T98.setTop (mkF m 144 (lcO_6 a p1 p2 w_innermost) [(.int (2 : Int32)), (.int (2 : Int32)), (.int w_size), (.ref w_groups)])) _
          refine XS.icmpNo X98.here hx rfl (hb hby d5_144) rfl (teq (by decide)).2 ?_
          show Steps p.tables e below (T98.setTop (mkF m 147 (lcO_6 a p1 p2 w_innermost) [(.int w_size), (.ref w_groups)])) _
          refine XS.iload X98.here hx rfl (hb hby d5_147) rfl ?_
          show Steps p.tables e below (T98.setTop (mkF m 149 (lcO_6 a p1 p2 w_innermost) [(.int (((own_ush (own_code p1 w_innermost p2) (14 : Int32)).toInt32) &&& (127 : Int32))), (.int w_size), (.ref w_groups)])) _
          refine XS.goto X98.here hx rfl (pc0 := 149) (pc' := 158) rfl (hb hby d5_149) (by decide) (by decide) ?_
          show Steps p.tables e below (T98.setTop (mkF m 158 (lcO_6 a p1 p2 w_innermost) [(.int (((own_ush (own_code p1 w_innermost p2) (14 : Int32)).toInt32) &&& (127 : Int32))), (.int w_size), (.ref w_groups)])) _
          refine XS.i2b X98.here hx rfl (hb hby d5_158) rfl ?_
          show Steps p.tables e below (T98.setTop (mkF m 159 (lcO_6 a p1 p2 w_innermost) [(.int (own_g0 (own_code p1 w_innermost p2) (14 : Int32))), (.int w_size), (.ref w_groups)])) _
          exact k)
        obtain ⟨cl101, Ar101, Sz101, Hf101⟩ := A_w_groups
        obtain ⟨T101, h101, X101, e101, W101, st101⟩ := stB X98 hx hZ e98 Ar101 (j := w_size) (own_inb Sz101 (own_skb hs 0 (by decide))) (g := (mkF m 159 (lcO_6 a p1 p2 w_innermost) [(.int (own_g0 (own_code p1 w_innermost p2) (14 : Int32))), (.int w_size), (.ref w_groups)])) rfl rfl (hb hby d5_159)
        have A_w_groups : own_A Z h101 w_groups .byte 16 (own_put f (w_size).toNatClampNeg (nar .byte (own_g0 (own_code p1 w_innermost p2) (14 : Int32)))) := own_A.set Ar101 Sz101 Hf101 W101
        have E_a := E_a.wr W101
        have F_a_groups := F_a_groups.other W101 (Or.inl ne_a_w_groups)
        have F_a_size := F_a_size.other W101 (Or.inl ne_a_w_groups)
        have F_a_innermost := F_a_innermost.other W101 (Or.inl ne_a_w_groups)
        have F_a_depth := F_a_depth.other W101 (Or.inl ne_a_w_groups)
        have K := K.wr W101 (Or.inl (List.mem_of_getElem? (i := 1) rfl))
        have Z101 : n0 ≤ h101.size := Nat.le_trans Z98 (Keep.of_wr W101).1
        have N101 := Fr.snoc X101 N98 g_w_groups
        have pre102 : ∀ t, Steps p.tables e below (T101.setTop (mkF m 160 (lcO_6 a p1 p2 w_innermost) [])) t → Steps p.tables e below (s₁.setTop (entryFrame m #[(.ref a), (.int p1), (.int p2)] 8)) t := fun t k => pre100 t (st101 t k)
        have pre103 : ∀ t, Steps p.tables e below (T101.setTop (mkF m 124 (lcO_8 a p1 p2 w_innermost) [(.ref a)])) t → Steps p.tables e below (s₁.setTop (entryFrame m #[(.ref a), (.int p1), (.int p2)] 8)) t := fun t k => pre102 t (by
          show Steps p.tables e below (T101.setTop (mkF m 160 (lcO_6 a p1 p2 w_innermost) [])) _
          refine XS.iinc X101.here hx rfl (hb hby d5_160) rfl (l' := (lcO_7 a p1 p2 w_innermost)) rfl ?_
          show Steps p.tables e below (T101.setTop (mkF m 163 (lcO_7 a p1 p2 w_innermost) [])) _
          refine XS.goto X101.here hx rfl (pc0 := 163) (pc' := 105) rfl (hb hby d5_163) (by decide) (by decide) ?_
          show Steps p.tables e below (T101.setTop (mkF m 105 (lcO_7 a p1 p2 w_innermost) [])) _
          refine XS.iload X101.here hx rfl (hb hby d5_105) rfl ?_
          show Steps p.tables e below (T101.setTop (mkF m 107 (lcO_7 a p1 p2 w_innermost) [(.int (1 : Int32))])) _
          refine XS.ifNo X101.here hx rfl (hb hby d5_107) rfl ((if0 _ _).trans (flt (by decide)).1) ?_
          show Steps p.tables e below (T101.setTop (mkF m 110 (lcO_7 a p1 p2 w_innermost) [])) _
          refine XS.lloadN X101.here hx rfl (hb hby d5_110) rfl ?_
          show Steps p.tables e below (T101.setTop (mkF m 111 (lcO_7 a p1 p2 w_innermost) [(.long (own_code p1 w_innermost p2))])) _
          refine XS.bipush X101.here hx rfl (hb hby d5_111) ?_
          show Steps p.tables e below (T101.setTop (mkF m 113 (lcO_7 a p1 p2 w_innermost) [(.int (7 : Int32)), (.long (own_code p1 w_innermost p2))])) _
          refine XS.iload X101.here hx rfl (hb hby d5_113) rfl ?_
          show Steps p.tables e below (T101.setTop (mkF m 115 (lcO_7 a p1 p2 w_innermost) [(.int (1 : Int32)), (.int (7 : Int32)), (.long (own_code p1 w_innermost p2))])) _
          refine XS.imul X101.here hx rfl (hb hby d5_115) rfl ?_
          show Steps p.tables e below (T101.setTop (mkF m 116 (lcO_7 a p1 p2 w_innermost) [(.int (7 : Int32)), (.long (own_code p1 w_innermost p2))])) _
          refine XS.lushr X101.here hx rfl (hb hby d5_116) rfl ?_
          show Steps p.tables e below (T101.setTop (mkF m 117 (lcO_7 a p1 p2 w_innermost) [(.long (own_ush (own_code p1 w_innermost p2) (7 : Int32)))])) _
          refine XS.l2i X101.here hx rfl (hb hby d5_117) rfl ?_
          show Steps p.tables e below (T101.setTop (mkF m 118 (lcO_7 a p1 p2 w_innermost) [(.int ((own_ush (own_code p1 w_innermost p2) (7 : Int32)).toInt32))])) _
          refine XS.bipush X101.here hx rfl (hb hby d5_118) ?_
          show Steps p.tables e below (T101.setTop (mkF m 120 (lcO_7 a p1 p2 w_innermost) [(.int (127 : Int32)), (.int ((own_ush (own_code p1 w_innermost p2) (7 : Int32)).toInt32))])) _
          refine XS.iand X101.here hx rfl (hb hby d5_120) rfl ?_
          show Steps p.tables e below (T101.setTop (mkF m 121 (lcO_7 a p1 p2 w_innermost) [(.int (((own_ush (own_code p1 w_innermost p2) (7 : Int32)).toInt32) &&& (127 : Int32)))])) _
          refine XS.istore X101.here hx rfl (hb hby d5_121) rfl (l' := (lcO_8 a p1 p2 w_innermost)) rfl ?_
          show Steps p.tables e below (T101.setTop (mkF m 123 (lcO_8 a p1 p2 w_innermost) [])) _
          refine XS.aloadN X101.here hx rfl (hb hby d5_123) rfl rfl ?_
          show Steps p.tables e below (T101.setTop (mkF m 124 (lcO_8 a p1 p2 w_innermost) [(.ref a)])) _
          exact k)
        obtain ⟨T104, X104, e104, st104⟩ := getF X101 hx hZ hown (host := "") (Or.inl (hw _ (List.mem_of_getElem? (i := 18) rfl))) Via.refl e101 F_a_groups (g := (mkF m 124 (lcO_8 a p1 p2 w_innermost) [(.ref a)])) rfl rfl (hb hby d5_124)
        have pre105 : ∀ t, Steps p.tables e below (T104.setTop (mkF m 127 (lcO_8 a p1 p2 w_innermost) [(.ref w_groups)])) t → Steps p.tables e below (s₁.setTop (entryFrame m #[(.ref a), (.int p1), (.int p2)] 8)) t := fun t k => pre103 t (st104 t k)
        have pre106 : ∀ t, Steps p.tables e below (T104.setTop (mkF m 129 (lcO_8 a p1 p2 w_innermost) [(.ref a), (.ref a), (.ref w_groups)])) t → Steps p.tables e below (s₁.setTop (entryFrame m #[(.ref a), (.int p1), (.int p2)] 8)) t := fun t k => pre105 t (by
          show Steps p.tables e below (T104.setTop (mkF m 127 (lcO_8 a p1 p2 w_innermost) [(.ref w_groups)])) _
          refine XS.aloadN X104.here hx rfl (hb hby d5_127) rfl rfl ?_
          show Steps p.tables e below (T104.setTop (mkF m 128 (lcO_8 a p1 p2 w_innermost) [(.ref a), (.ref w_groups)])) _
          refine XS.dup X104.here hx rfl (hb hby d5_128) rfl rfl ?_
          show Steps p.tables e below (T104.setTop (mkF m 129 (lcO_8 a p1 p2 w_innermost) [(.ref a), (.ref a), (.ref w_groups)])) _
          exact k)
        obtain ⟨T107, X107, e107, st107⟩ := getF X104 hx hZ hown (host := "") (Or.inl (hw _ (List.mem_of_getElem? (i := 27) rfl))) Via.refl e104 F_a_size (g := (mkF m 129 (lcO_8 a p1 p2 w_innermost) [(.ref a), (.ref a), (.ref w_groups)])) rfl rfl (hb hby d5_129)
        have pre108 : ∀ t, Steps p.tables e below (T107.setTop (mkF m 132 (lcO_8 a p1 p2 w_innermost) [(.int (own_sk w_size 1)), (.ref a), (.ref w_groups)])) t → Steps p.tables e below (s₁.setTop (entryFrame m #[(.ref a), (.int p1), (.int p2)] 8)) t := fun t k => pre106 t (st107 t k)
        have pre109 : ∀ t, Steps p.tables e below (T107.setTop (mkF m 135 (lcO_8 a p1 p2 w_innermost) [(.int (own_sk w_size 2)), (.ref a), (.int (own_sk w_size 1)), (.ref w_groups)])) t → Steps p.tables e below (s₁.setTop (entryFrame m #[(.ref a), (.int p1), (.int p2)] 8)) t := fun t k => pre108 t (by
          show Steps p.tables e below (T107.setTop (mkF m 132 (lcO_8 a p1 p2 w_innermost) [(.int (own_sk w_size 1)), (.ref a), (.ref w_groups)])) _
          refine XS.dupX1 X107.here hx rfl (hb hby d5_132) rfl rfl rfl ?_
          show Steps p.tables e below (T107.setTop (mkF m 133 (lcO_8 a p1 p2 w_innermost) [(.int (own_sk w_size 1)), (.ref a), (.int (own_sk w_size 1)), (.ref w_groups)])) _
          refine XS.iconst X107.here hx rfl (hb hby d5_133) ?_
          show Steps p.tables e below (T107.setTop (mkF m 134 (lcO_8 a p1 p2 w_innermost) [(.int (1 : Int32)), (.int (own_sk w_size 1)), (.ref a), (.int (own_sk w_size 1)), (.ref w_groups)])) _
          refine XS.iadd X107.here hx rfl (hb hby d5_134) rfl ?_
          show Steps p.tables e below (T107.setTop (mkF m 135 (lcO_8 a p1 p2 w_innermost) [(.int (own_sk w_size 2)), (.ref a), (.int (own_sk w_size 1)), (.ref w_groups)])) _
          exact k)
        obtain ⟨T110, h110, X110, e110, W110, st110⟩ := putF X107 hx hZ hown (host := "") (Or.inl (hw _ (List.mem_of_getElem? (i := 27) rfl))) Via.refl e107 F_a_size E_a (Or.inl (hw _ (List.mem_of_getElem? (i := 28) rfl))) (hw _ (List.mem_of_getElem? (i := 9) rfl)) (ty := .int) (by decide) rfl rfl (g := (mkF m 135 (lcO_8 a p1 p2 w_innermost) [(.int (own_sk w_size 2)), (.ref a), (.int (own_sk w_size 1)), (.ref w_groups)])) rfl rfl (hb hby d5_135)
        have F_a_size : Fld Z h110 a "com/example/mensura/mensura/parser/OpenParentheses" "size" "I" (.int (own_sk w_size 2)) := F_a_size.same W110
        have E_a := E_a.wr W110
        have F_a_groups := F_a_groups.other W110 (Or.inr (slot_ne (Or.inl (hw _ (List.mem_of_getElem? (i := 19) rfl))) (Or.inl (hw _ (List.mem_of_getElem? (i := 28) rfl))) (by decide) (t := (.array .byte)) (t' := .int) (by decide) (by decide)))
        have F_a_innermost := F_a_innermost.other W110 (Or.inr (slot_ne (Or.inl (hw _ (List.mem_of_getElem? (i := 21) rfl))) (Or.inl (hw _ (List.mem_of_getElem? (i := 28) rfl))) (by decide) (t := .int) (t' := .int) (by decide) (by decide)))
        have F_a_depth := F_a_depth.other W110 (Or.inr (slot_ne (Or.inl (hw _ (List.mem_of_getElem? (i := 30) rfl))) (Or.inl (hw _ (List.mem_of_getElem? (i := 28) rfl))) (by decide) (t := .int) (t' := .int) (by decide) (by decide)))
        have A_w_groups := A_w_groups.other W110 (Ne.symm ne_a_w_groups)
        have K := K.wr W110 (Or.inl (List.mem_of_getElem? (i := 0) rfl))
        have Z110 : n0 ≤ h110.size := Nat.le_trans Z101 (Keep.of_wr W110).1
        have N110 := Fr.snoc X110 N101 g_a
        have pre111 : ∀ t, Steps p.tables e below (T110.setTop (mkF m 138 (lcO_8 a p1 p2 w_innermost) [(.int (own_sk w_size 1)), (.ref w_groups)])) t → Steps p.tables e below (s₁.setTop (entryFrame m #[(.ref a), (.int p1), (.int p2)] 8)) t := fun t k => pre109 t (st110 t k)
        have pre112 : ∀ t, Steps p.tables e below (T110.setTop (mkF m 159 (lcO_8 a p1 p2 w_innermost) [(.int (own_g1 (own_code p1 w_innermost p2) (7 : Int32))), (.int (own_sk w_size 1)), (.ref w_groups)])) t → Steps p.tables e below (s₁.setTop (entryFrame m #[(.ref a), (.int p1), (.int p2)] 8)) t := fun t k => pre111 t (by
          show Steps p.tables e below (T110.setTop (mkF m 138 (lcO_8 a p1 p2 w_innermost) [(.int (own_sk w_size 1)), (.ref w_groups)])) _
          refine XS.iload X110.here hx rfl (hb hby d5_138) rfl ?_
          show Steps p.tables e below (T110.setTop (mkF m 140 (lcO_8 a p1 p2 w_innermost) [(.int (1 : Int32)), (.int (own_sk w_size 1)), (.ref w_groups)])) _
          refine XS.iload X110.here hx rfl (hb hby d5_140) rfl ?_
          show Steps p.tables e below (T110.setTop (mkF m 142 (lcO_8 a p1 p2 w_innermost) [(.int (3 : Int32)), (.int (1 : Int32)), (.int (own_sk w_size 1)), (.ref w_groups)])) _
          refine XS.iconst X110.here hx rfl (hb hby d5_142) ?_
          show Steps p.tables e below (T110.setTop (mkF m 143 (lcO_8 a p1 p2 w_innermost) [(.int (1 : Int32)), (.int (3 : Int32)), (.int (1 : Int32)), (.int (own_sk w_size 1)), (.ref w_groups)])) _
          refine XS.isub X110.here hx rfl (hb hby d5_143) rfl ?_
          show Steps p.tables e below (T110.setTop (mkF m 144 (lcO_8 a p1 p2 w_innermost) [(.int (2 : Int32)), (.int (1 : Int32)), (.int (own_sk w_size 1)), (.ref w_groups)])) _
          refine XS.icmpYes X110.here hx rfl (pc0 := 144) (pc' := 152) rfl (hb hby d5_144) rfl (feq (by decide)).2 (by decide) (by decide) ?_
          show Steps p.tables e below (T110.setTop (mkF m 152 (lcO_8 a p1 p2 w_innermost) [(.int (own_sk w_size 1)), (.ref w_groups)])) _
          refine XS.iload X110.here hx rfl (hb hby d5_152) rfl ?_
          show Steps p.tables e below (T110.setTop (mkF m 154 (lcO_8 a p1 p2 w_innermost) [(.int (((own_ush (own_code p1 w_innermost p2) (7 : Int32)).toInt32) &&& (127 : Int32))), (.int (own_sk w_size 1)), (.ref w_groups)])) _
          refine XS.sipush X110.here hx rfl (hb hby d5_154) ?_
          show Steps p.tables e below (T110.setTop (mkF m 157 (lcO_8 a p1 p2 w_innermost) [(.int (128 : Int32)), (.int (((own_ush (own_code p1 w_innermost p2) (7 : Int32)).toInt32) &&& (127 : Int32))), (.int (own_sk w_size 1)), (.ref w_groups)])) _
          refine XS.ior X110.here hx rfl (hb hby d5_157) rfl ?_
          show Steps p.tables e below (T110.setTop (mkF m 158 (lcO_8 a p1 p2 w_innermost) [(.int ((((own_ush (own_code p1 w_innermost p2) (7 : Int32)).toInt32) &&& (127 : Int32)) ||| (128 : Int32))), (.int (own_sk w_size 1)), (.ref w_groups)])) _
          refine XS.i2b X110.here hx rfl (hb hby d5_158) rfl ?_
          show Steps p.tables e below (T110.setTop (mkF m 159 (lcO_8 a p1 p2 w_innermost) [(.int (own_g1 (own_code p1 w_innermost p2) (7 : Int32))), (.int (own_sk w_size 1)), (.ref w_groups)])) _
          exact k)
        obtain ⟨cl113, Ar113, Sz113, Hf113⟩ := A_w_groups
        obtain ⟨T113, h113, X113, e113, W113, st113⟩ := stB X110 hx hZ e110 Ar113 (j := (own_sk w_size 1)) (own_inb Sz113 (own_skb hs 1 (by decide))) (g := (mkF m 159 (lcO_8 a p1 p2 w_innermost) [(.int (own_g1 (own_code p1 w_innermost p2) (7 : Int32))), (.int (own_sk w_size 1)), (.ref w_groups)])) rfl rfl (hb hby d5_159)
        have A_w_groups : own_A Z h113 w_groups .byte 16 (own_put (own_put f (w_size).toNatClampNeg (nar .byte (own_g0 (own_code p1 w_innermost p2) (14 : Int32)))) ((own_sk w_size 1)).toNatClampNeg (nar .byte (own_g1 (own_code p1 w_innermost p2) (7 : Int32)))) := own_A.set Ar113 Sz113 Hf113 W113
        have E_a := E_a.wr W113
        have F_a_groups := F_a_groups.other W113 (Or.inl ne_a_w_groups)
        have F_a_size := F_a_size.other W113 (Or.inl ne_a_w_groups)
        have F_a_innermost := F_a_innermost.other W113 (Or.inl ne_a_w_groups)
        have F_a_depth := F_a_depth.other W113 (Or.inl ne_a_w_groups)
        have K := K.wr W113 (Or.inl (List.mem_of_getElem? (i := 1) rfl))
        have Z113 : n0 ≤ h113.size := Nat.le_trans Z110 (Keep.of_wr W113).1
        have N113 := Fr.snoc X113 N110 g_w_groups
        have pre114 : ∀ t, Steps p.tables e below (T113.setTop (mkF m 160 (lcO_8 a p1 p2 w_innermost) [])) t → Steps p.tables e below (s₁.setTop (entryFrame m #[(.ref a), (.int p1), (.int p2)] 8)) t := fun t k => pre112 t (st113 t k)
        have pre115 : ∀ t, Steps p.tables e below (T113.setTop (mkF m 124 (lcO_10 a p1 p2 w_innermost) [(.ref a)])) t → Steps p.tables e below (s₁.setTop (entryFrame m #[(.ref a), (.int p1), (.int p2)] 8)) t := fun t k => pre114 t (by
          show Steps p.tables e below (T113.setTop (mkF m 160 (lcO_8 a p1 p2 w_innermost) [])) _
          refine XS.iinc X113.here hx rfl (hb hby d5_160) rfl (l' := (lcO_9 a p1 p2 w_innermost)) rfl ?_
          show Steps p.tables e below (T113.setTop (mkF m 163 (lcO_9 a p1 p2 w_innermost) [])) _
          refine XS.goto X113.here hx rfl (pc0 := 163) (pc' := 105) rfl (hb hby d5_163) (by decide) (by decide) ?_
          show Steps p.tables e below (T113.setTop (mkF m 105 (lcO_9 a p1 p2 w_innermost) [])) _
          refine XS.iload X113.here hx rfl (hb hby d5_105) rfl ?_
          show Steps p.tables e below (T113.setTop (mkF m 107 (lcO_9 a p1 p2 w_innermost) [(.int (0 : Int32))])) _
          refine XS.ifNo X113.here hx rfl (hb hby d5_107) rfl ((if0 _ _).trans (flt (by decide)).1) ?_
          show Steps p.tables e below (T113.setTop (mkF m 110 (lcO_9 a p1 p2 w_innermost) [])) _
          refine XS.lloadN X113.here hx rfl (hb hby d5_110) rfl ?_
          show Steps p.tables e below (T113.setTop (mkF m 111 (lcO_9 a p1 p2 w_innermost) [(.long (own_code p1 w_innermost p2))])) _
          refine XS.bipush X113.here hx rfl (hb hby d5_111) ?_
          show Steps p.tables e below (T113.setTop (mkF m 113 (lcO_9 a p1 p2 w_innermost) [(.int (7 : Int32)), (.long (own_code p1 w_innermost p2))])) _
          refine XS.iload X113.here hx rfl (hb hby d5_113) rfl ?_
          show Steps p.tables e below (T113.setTop (mkF m 115 (lcO_9 a p1 p2 w_innermost) [(.int (0 : Int32)), (.int (7 : Int32)), (.long (own_code p1 w_innermost p2))])) _
          refine XS.imul X113.here hx rfl (hb hby d5_115) rfl ?_
          show Steps p.tables e below (T113.setTop (mkF m 116 (lcO_9 a p1 p2 w_innermost) [(.int (0 : Int32)), (.long (own_code p1 w_innermost p2))])) _
          refine XS.lushr X113.here hx rfl (hb hby d5_116) rfl ?_
          show Steps p.tables e below (T113.setTop (mkF m 117 (lcO_9 a p1 p2 w_innermost) [(.long (own_ush (own_code p1 w_innermost p2) (0 : Int32)))])) _
          refine XS.l2i X113.here hx rfl (hb hby d5_117) rfl ?_
          show Steps p.tables e below (T113.setTop (mkF m 118 (lcO_9 a p1 p2 w_innermost) [(.int ((own_ush (own_code p1 w_innermost p2) (0 : Int32)).toInt32))])) _
          refine XS.bipush X113.here hx rfl (hb hby d5_118) ?_
          show Steps p.tables e below (T113.setTop (mkF m 120 (lcO_9 a p1 p2 w_innermost) [(.int (127 : Int32)), (.int ((own_ush (own_code p1 w_innermost p2) (0 : Int32)).toInt32))])) _
          refine XS.iand X113.here hx rfl (hb hby d5_120) rfl ?_
          show Steps p.tables e below (T113.setTop (mkF m 121 (lcO_9 a p1 p2 w_innermost) [(.int (((own_ush (own_code p1 w_innermost p2) (0 : Int32)).toInt32) &&& (127 : Int32)))])) _
          refine XS.istore X113.here hx rfl (hb hby d5_121) rfl (l' := (lcO_10 a p1 p2 w_innermost)) rfl ?_
          show Steps p.tables e below (T113.setTop (mkF m 123 (lcO_10 a p1 p2 w_innermost) [])) _
          refine XS.aloadN X113.here hx rfl (hb hby d5_123) rfl rfl ?_
          show Steps p.tables e below (T113.setTop (mkF m 124 (lcO_10 a p1 p2 w_innermost) [(.ref a)])) _
          exact k)
        obtain ⟨T116, X116, e116, st116⟩ := getF X113 hx hZ hown (host := "") (Or.inl (hw _ (List.mem_of_getElem? (i := 18) rfl))) Via.refl e113 F_a_groups (g := (mkF m 124 (lcO_10 a p1 p2 w_innermost) [(.ref a)])) rfl rfl (hb hby d5_124)
        have pre117 : ∀ t, Steps p.tables e below (T116.setTop (mkF m 127 (lcO_10 a p1 p2 w_innermost) [(.ref w_groups)])) t → Steps p.tables e below (s₁.setTop (entryFrame m #[(.ref a), (.int p1), (.int p2)] 8)) t := fun t k => pre115 t (st116 t k)
        have pre118 : ∀ t, Steps p.tables e below (T116.setTop (mkF m 129 (lcO_10 a p1 p2 w_innermost) [(.ref a), (.ref a), (.ref w_groups)])) t → Steps p.tables e below (s₁.setTop (entryFrame m #[(.ref a), (.int p1), (.int p2)] 8)) t := fun t k => pre117 t (by
          show Steps p.tables e below (T116.setTop (mkF m 127 (lcO_10 a p1 p2 w_innermost) [(.ref w_groups)])) _
          refine XS.aloadN X116.here hx rfl (hb hby d5_127) rfl rfl ?_
          show Steps p.tables e below (T116.setTop (mkF m 128 (lcO_10 a p1 p2 w_innermost) [(.ref a), (.ref w_groups)])) _
          refine XS.dup X116.here hx rfl (hb hby d5_128) rfl rfl ?_
          show Steps p.tables e below (T116.setTop (mkF m 129 (lcO_10 a p1 p2 w_innermost) [(.ref a), (.ref a), (.ref w_groups)])) _
          exact k)
        obtain ⟨T119, X119, e119, st119⟩ := getF X116 hx hZ hown (host := "") (Or.inl (hw _ (List.mem_of_getElem? (i := 27) rfl))) Via.refl e116 F_a_size (g := (mkF m 129 (lcO_10 a p1 p2 w_innermost) [(.ref a), (.ref a), (.ref w_groups)])) rfl rfl (hb hby d5_129)
        have pre120 : ∀ t, Steps p.tables e below (T119.setTop (mkF m 132 (lcO_10 a p1 p2 w_innermost) [(.int (own_sk w_size 2)), (.ref a), (.ref w_groups)])) t → Steps p.tables e below (s₁.setTop (entryFrame m #[(.ref a), (.int p1), (.int p2)] 8)) t := fun t k => pre118 t (st119 t k)
        have pre121 : ∀ t, Steps p.tables e below (T119.setTop (mkF m 135 (lcO_10 a p1 p2 w_innermost) [(.int (own_sk w_size 3)), (.ref a), (.int (own_sk w_size 2)), (.ref w_groups)])) t → Steps p.tables e below (s₁.setTop (entryFrame m #[(.ref a), (.int p1), (.int p2)] 8)) t := fun t k => pre120 t (by
          show Steps p.tables e below (T119.setTop (mkF m 132 (lcO_10 a p1 p2 w_innermost) [(.int (own_sk w_size 2)), (.ref a), (.ref w_groups)])) _
          refine XS.dupX1 X119.here hx rfl (hb hby d5_132) rfl rfl rfl ?_
          show Steps p.tables e below (T119.setTop (mkF m 133 (lcO_10 a p1 p2 w_innermost) [(.int (own_sk w_size 2)), (.ref a), (.int (own_sk w_size 2)), (.ref w_groups)])) _
          refine XS.iconst X119.here hx rfl (hb hby d5_133) ?_
          show Steps p.tables e below (T119.setTop (mkF m 134 (lcO_10 a p1 p2 w_innermost) [(.int (1 : Int32)), (.int (own_sk w_size 2)), (.ref a), (.int (own_sk w_size 2)), (.ref w_groups)])) _
          refine XS.iadd X119.here hx rfl (hb hby d5_134) rfl ?_
          show Steps p.tables e below (T119.setTop (mkF m 135 (lcO_10 a p1 p2 w_innermost) [(.int (own_sk w_size 3)), (.ref a), (.int (own_sk w_size 2)), (.ref w_groups)])) _
          exact k)
        obtain ⟨T122, h122, X122, e122, W122, st122⟩ := putF X119 hx hZ hown (host := "") (Or.inl (hw _ (List.mem_of_getElem? (i := 27) rfl))) Via.refl e119 F_a_size E_a (Or.inl (hw _ (List.mem_of_getElem? (i := 28) rfl))) (hw _ (List.mem_of_getElem? (i := 9) rfl)) (ty := .int) (by decide) rfl rfl (g := (mkF m 135 (lcO_10 a p1 p2 w_innermost) [(.int (own_sk w_size 3)), (.ref a), (.int (own_sk w_size 2)), (.ref w_groups)])) rfl rfl (hb hby d5_135)
        have F_a_size : Fld Z h122 a "com/example/mensura/mensura/parser/OpenParentheses" "size" "I" (.int (own_sk w_size 3)) := F_a_size.same W122
        have E_a := E_a.wr W122
        have F_a_groups := F_a_groups.other W122 (Or.inr (slot_ne (Or.inl (hw _ (List.mem_of_getElem? (i := 19) rfl))) (Or.inl (hw _ (List.mem_of_getElem? (i := 28) rfl))) (by decide) (t := (.array .byte)) (t' := .int) (by decide) (by decide)))
        have F_a_innermost := F_a_innermost.other W122 (Or.inr (slot_ne (Or.inl (hw _ (List.mem_of_getElem? (i := 21) rfl))) (Or.inl (hw _ (List.mem_of_getElem? (i := 28) rfl))) (by decide) (t := .int) (t' := .int) (by decide) (by decide)))
        have F_a_depth := F_a_depth.other W122 (Or.inr (slot_ne (Or.inl (hw _ (List.mem_of_getElem? (i := 30) rfl))) (Or.inl (hw _ (List.mem_of_getElem? (i := 28) rfl))) (by decide) (t := .int) (t' := .int) (by decide) (by decide)))
        have A_w_groups := A_w_groups.other W122 (Ne.symm ne_a_w_groups)
        have K := K.wr W122 (Or.inl (List.mem_of_getElem? (i := 0) rfl))
        have Z122 : n0 ≤ h122.size := Nat.le_trans Z113 (Keep.of_wr W122).1
        have N122 := Fr.snoc X122 N113 g_a
        have pre123 : ∀ t, Steps p.tables e below (T122.setTop (mkF m 138 (lcO_10 a p1 p2 w_innermost) [(.int (own_sk w_size 2)), (.ref w_groups)])) t → Steps p.tables e below (s₁.setTop (entryFrame m #[(.ref a), (.int p1), (.int p2)] 8)) t := fun t k => pre121 t (st122 t k)
        have pre124 : ∀ t, Steps p.tables e below (T122.setTop (mkF m 159 (lcO_10 a p1 p2 w_innermost) [(.int (own_g1 (own_code p1 w_innermost p2) (0 : Int32))), (.int (own_sk w_size 2)), (.ref w_groups)])) t → Steps p.tables e below (s₁.setTop (entryFrame m #[(.ref a), (.int p1), (.int p2)] 8)) t := fun t k => pre123 t (by
          show Steps p.tables e below (T122.setTop (mkF m 138 (lcO_10 a p1 p2 w_innermost) [(.int (own_sk w_size 2)), (.ref w_groups)])) _
          refine XS.iload X122.here hx rfl (hb hby d5_138) rfl ?_
          show Steps p.tables e below (T122.setTop (mkF m 140 (lcO_10 a p1 p2 w_innermost) [(.int (0 : Int32)), (.int (own_sk w_size 2)), (.ref w_groups)])) _
          refine XS.iload X122.here hx rfl (hb hby d5_140) rfl ?_
          show Steps p.tables e below (T122.setTop (mkF m 142 (lcO_10 a p1 p2 w_innermost) [(.int (3 : Int32)), (.int (0 : Int32)), (.int (own_sk w_size 2)), (.ref w_groups)])) _
          refine XS.iconst X122.here hx rfl (hb hby d5_142) ?_
          show Steps p.tables e below (T122.setTop (mkF m 143 (lcO_10 a p1 p2 w_innermost) [(.int (1 : Int32)), (.int (3 : Int32)), (.int (0 : Int32)), (.int (own_sk w_size 2)), (.ref w_groups)])) _
          refine XS.isub X122.here hx rfl (hb hby d5_143) rfl ?_
          show Steps p.tables e below (T122.setTop (mkF m 144 (lcO_10 a p1 p2 w_innermost) [(.int (2 : Int32)), (.int (0 : Int32)), (.int (own_sk w_size 2)), (.ref w_groups)])) _
          refine XS.icmpYes X122.here hx rfl (pc0 := 144) (pc' := 152) rfl (hb hby d5_144) rfl (feq (by decide)).2 (by decide) (by decide) ?_
          show Steps p.tables e below (T122.setTop (mkF m 152 (lcO_10 a p1 p2 w_innermost) [(.int (own_sk w_size 2)), (.ref w_groups)])) _
          refine XS.iload X122.here hx rfl (hb hby d5_152) rfl ?_
          show Steps p.tables e below (T122.setTop (mkF m 154 (lcO_10 a p1 p2 w_innermost) [(.int (((own_ush (own_code p1 w_innermost p2) (0 : Int32)).toInt32) &&& (127 : Int32))), (.int (own_sk w_size 2)), (.ref w_groups)])) _
          refine XS.sipush X122.here hx rfl (hb hby d5_154) ?_
          show Steps p.tables e below (T122.setTop (mkF m 157 (lcO_10 a p1 p2 w_innermost) [(.int (128 : Int32)), (.int (((own_ush (own_code p1 w_innermost p2) (0 : Int32)).toInt32) &&& (127 : Int32))), (.int (own_sk w_size 2)), (.ref w_groups)])) _
          refine XS.ior X122.here hx rfl (hb hby d5_157) rfl ?_
          show Steps p.tables e below (T122.setTop (mkF m 158 (lcO_10 a p1 p2 w_innermost) [(.int ((((own_ush (own_code p1 w_innermost p2) (0 : Int32)).toInt32) &&& (127 : Int32)) ||| (128 : Int32))), (.int (own_sk w_size 2)), (.ref w_groups)])) _
          refine XS.i2b X122.here hx rfl (hb hby d5_158) rfl ?_
          show Steps p.tables e below (T122.setTop (mkF m 159 (lcO_10 a p1 p2 w_innermost) [(.int (own_g1 (own_code p1 w_innermost p2) (0 : Int32))), (.int (own_sk w_size 2)), (.ref w_groups)])) _
          exact k)
        obtain ⟨cl125, Ar125, Sz125, Hf125⟩ := A_w_groups
        obtain ⟨T125, h125, X125, e125, W125, st125⟩ := stB X122 hx hZ e122 Ar125 (j := (own_sk w_size 2)) (own_inb Sz125 (own_skb hs 2 (by decide))) (g := (mkF m 159 (lcO_10 a p1 p2 w_innermost) [(.int (own_g1 (own_code p1 w_innermost p2) (0 : Int32))), (.int (own_sk w_size 2)), (.ref w_groups)])) rfl rfl (hb hby d5_159)
        have A_w_groups : own_A Z h125 w_groups .byte 16 (own_put (own_put (own_put f (w_size).toNatClampNeg (nar .byte (own_g0 (own_code p1 w_innermost p2) (14 : Int32)))) ((own_sk w_size 1)).toNatClampNeg (nar .byte (own_g1 (own_code p1 w_innermost p2) (7 : Int32)))) ((own_sk w_size 2)).toNatClampNeg (nar .byte (own_g1 (own_code p1 w_innermost p2) (0 : Int32)))) := own_A.set Ar125 Sz125 Hf125 W125
        have E_a := E_a.wr W125
        have F_a_groups := F_a_groups.other W125 (Or.inl ne_a_w_groups)
        have F_a_size := F_a_size.other W125 (Or.inl ne_a_w_groups)
        have F_a_innermost := F_a_innermost.other W125 (Or.inl ne_a_w_groups)
        have F_a_depth := F_a_depth.other W125 (Or.inl ne_a_w_groups)
        have K := K.wr W125 (Or.inl (List.mem_of_getElem? (i := 1) rfl))
        have Z125 : n0 ≤ h125.size := Nat.le_trans Z122 (Keep.of_wr W125).1
        have N125 := Fr.snoc X125 N122 g_w_groups
        have pre126 : ∀ t, Steps p.tables e below (T125.setTop (mkF m 160 (lcO_10 a p1 p2 w_innermost) [])) t → Steps p.tables e below (s₁.setTop (entryFrame m #[(.ref a), (.int p1), (.int p2)] 8)) t := fun t k => pre124 t (st125 t k)
        have pre127 : ∀ t, Steps p.tables e below (T125.setTop (mkF m 168 (lcO_11 a p1 p2 w_innermost) [(.int p1), (.ref a)])) t → Steps p.tables e below (s₁.setTop (entryFrame m #[(.ref a), (.int p1), (.int p2)] 8)) t := fun t k => pre126 t (by
          show Steps p.tables e below (T125.setTop (mkF m 160 (lcO_10 a p1 p2 w_innermost) [])) _
          refine XS.iinc X125.here hx rfl (hb hby d5_160) rfl (l' := (lcO_11 a p1 p2 w_innermost)) rfl ?_
          show Steps p.tables e below (T125.setTop (mkF m 163 (lcO_11 a p1 p2 w_innermost) [])) _
          refine XS.goto X125.here hx rfl (pc0 := 163) (pc' := 105) rfl (hb hby d5_163) (by decide) (by decide) ?_
          show Steps p.tables e below (T125.setTop (mkF m 105 (lcO_11 a p1 p2 w_innermost) [])) _
          refine XS.iload X125.here hx rfl (hb hby d5_105) rfl ?_
          show Steps p.tables e below (T125.setTop (mkF m 107 (lcO_11 a p1 p2 w_innermost) [(.int (-1 : Int32))])) _
          refine XS.ifYes X125.here hx rfl (pc0 := 107) (pc' := 166) rfl (hb hby d5_107) rfl ((if0 _ _).trans (tlt (by decide)).1) (by decide) (by decide) ?_
          show Steps p.tables e below (T125.setTop (mkF m 166 (lcO_11 a p1 p2 w_innermost) [])) _
          refine XS.aloadN X125.here hx rfl (hb hby d5_166) rfl rfl ?_
          show Steps p.tables e below (T125.setTop (mkF m 167 (lcO_11 a p1 p2 w_innermost) [(.ref a)])) _
          refine XS.iloadN X125.here hx rfl (hb hby d5_167) rfl ?_
          show Steps p.tables e below (T125.setTop (mkF m 168 (lcO_11 a p1 p2 w_innermost) [(.int p1), (.ref a)])) _
          exact k)
        obtain ⟨T128, h128, X128, e128, W128, st128⟩ := putF X125 hx hZ hown (host := "") (Or.inl (hw _ (List.mem_of_getElem? (i := 20) rfl))) Via.refl e125 F_a_innermost E_a (Or.inl (hw _ (List.mem_of_getElem? (i := 21) rfl))) (hw _ (List.mem_of_getElem? (i := 9) rfl)) (ty := .int) (by decide) rfl rfl (g := (mkF m 168 (lcO_11 a p1 p2 w_innermost) [(.int p1), (.ref a)])) rfl rfl (hb hby d5_168)
        have F_a_innermost : Fld Z h128 a "com/example/mensura/mensura/parser/OpenParentheses" "innermost" "I" (.int p1) := F_a_innermost.same W128
        have E_a := E_a.wr W128
        have F_a_groups := F_a_groups.other W128 (Or.inr (slot_ne (Or.inl (hw _ (List.mem_of_getElem? (i := 19) rfl))) (Or.inl (hw _ (List.mem_of_getElem? (i := 21) rfl))) (by decide) (t := (.array .byte)) (t' := .int) (by decide) (by decide)))
        have F_a_size := F_a_size.other W128 (Or.inr (slot_ne (Or.inl (hw _ (List.mem_of_getElem? (i := 28) rfl))) (Or.inl (hw _ (List.mem_of_getElem? (i := 21) rfl))) (by decide) (t := .int) (t' := .int) (by decide) (by decide)))
        have F_a_depth := F_a_depth.other W128 (Or.inr (slot_ne (Or.inl (hw _ (List.mem_of_getElem? (i := 30) rfl))) (Or.inl (hw _ (List.mem_of_getElem? (i := 21) rfl))) (by decide) (t := .int) (t' := .int) (by decide) (by decide)))
        have A_w_groups := A_w_groups.other W128 (Ne.symm ne_a_w_groups)
        have K := K.wr W128 (Or.inl (List.mem_of_getElem? (i := 0) rfl))
        have Z128 : n0 ≤ h128.size := Nat.le_trans Z125 (Keep.of_wr W128).1
        have N128 := Fr.snoc X128 N125 g_a
        have pre129 : ∀ t, Steps p.tables e below (T128.setTop (mkF m 171 (lcO_11 a p1 p2 w_innermost) [])) t → Steps p.tables e below (s₁.setTop (entryFrame m #[(.ref a), (.int p1), (.int p2)] 8)) t := fun t k => pre127 t (st128 t k)
        have pre130 : ∀ t, Steps p.tables e below (T128.setTop (mkF m 173 (lcO_11 a p1 p2 w_innermost) [(.ref a), (.ref a)])) t → Steps p.tables e below (s₁.setTop (entryFrame m #[(.ref a), (.int p1), (.int p2)] 8)) t := fun t k => pre129 t (by
          show Steps p.tables e below (T128.setTop (mkF m 171 (lcO_11 a p1 p2 w_innermost) [])) _
          refine XS.aloadN X128.here hx rfl (hb hby d5_171) rfl rfl ?_
          show Steps p.tables e below (T128.setTop (mkF m 172 (lcO_11 a p1 p2 w_innermost) [(.ref a)])) _
          refine XS.dup X128.here hx rfl (hb hby d5_172) rfl rfl ?_
          show Steps p.tables e below (T128.setTop (mkF m 173 (lcO_11 a p1 p2 w_innermost) [(.ref a), (.ref a)])) _
          exact k)
        obtain ⟨T131, X131, e131, st131⟩ := getF X128 hx hZ hown (host := "") (Or.inl (hw _ (List.mem_of_getElem? (i := 29) rfl))) Via.refl e128 F_a_depth (g := (mkF m 173 (lcO_11 a p1 p2 w_innermost) [(.ref a), (.ref a)])) rfl rfl (hb hby d5_173)
        have pre132 : ∀ t, Steps p.tables e below (T131.setTop (mkF m 176 (lcO_11 a p1 p2 w_innermost) [(.int w_depth), (.ref a)])) t → Steps p.tables e below (s₁.setTop (entryFrame m #[(.ref a), (.int p1), (.int p2)] 8)) t := fun t k => pre130 t (st131 t k)
        have pre133 : ∀ t, Steps p.tables e below (T131.setTop (mkF m 178 (lcO_11 a p1 p2 w_innermost) [(.int (w_depth + (1 : Int32))), (.ref a)])) t → Steps p.tables e below (s₁.setTop (entryFrame m #[(.ref a), (.int p1), (.int p2)] 8)) t := fun t k => pre132 t (by
          show Steps p.tables e below (T131.setTop (mkF m 176 (lcO_11 a p1 p2 w_innermost) [(.int w_depth), (.ref a)])) _
          refine XS.iconst X131.here hx rfl (hb hby d5_176) ?_
          show Steps p.tables e below (T131.setTop (mkF m 177 (lcO_11 a p1 p2 w_innermost) [(.int (1 : Int32)), (.int w_depth), (.ref a)])) _
          refine XS.iadd X131.here hx rfl (hb hby d5_177) rfl ?_
          show Steps p.tables e below (T131.setTop (mkF m 178 (lcO_11 a p1 p2 w_innermost) [(.int (w_depth + (1 : Int32))), (.ref a)])) _
          exact k)
        obtain ⟨T134, h134, X134, e134, W134, st134⟩ := putF X131 hx hZ hown (host := "") (Or.inl (hw _ (List.mem_of_getElem? (i := 29) rfl))) Via.refl e131 F_a_depth E_a (Or.inl (hw _ (List.mem_of_getElem? (i := 30) rfl))) (hw _ (List.mem_of_getElem? (i := 9) rfl)) (ty := .int) (by decide) rfl rfl (g := (mkF m 178 (lcO_11 a p1 p2 w_innermost) [(.int (w_depth + (1 : Int32))), (.ref a)])) rfl rfl (hb hby d5_178)
        have F_a_depth : Fld Z h134 a "com/example/mensura/mensura/parser/OpenParentheses" "depth" "I" (.int (w_depth + (1 : Int32))) := F_a_depth.same W134
        have E_a := E_a.wr W134
        have F_a_groups := F_a_groups.other W134 (Or.inr (slot_ne (Or.inl (hw _ (List.mem_of_getElem? (i := 19) rfl))) (Or.inl (hw _ (List.mem_of_getElem? (i := 30) rfl))) (by decide) (t := (.array .byte)) (t' := .int) (by decide) (by decide)))
        have F_a_size := F_a_size.other W134 (Or.inr (slot_ne (Or.inl (hw _ (List.mem_of_getElem? (i := 28) rfl))) (Or.inl (hw _ (List.mem_of_getElem? (i := 30) rfl))) (by decide) (t := .int) (t' := .int) (by decide) (by decide)))
        have F_a_innermost := F_a_innermost.other W134 (Or.inr (slot_ne (Or.inl (hw _ (List.mem_of_getElem? (i := 21) rfl))) (Or.inl (hw _ (List.mem_of_getElem? (i := 30) rfl))) (by decide) (t := .int) (t' := .int) (by decide) (by decide)))
        have A_w_groups := A_w_groups.other W134 (Ne.symm ne_a_w_groups)
        have K := K.wr W134 (Or.inl (List.mem_of_getElem? (i := 0) rfl))
        have Z134 : n0 ≤ h134.size := Nat.le_trans Z128 (Keep.of_wr W134).1
        have N134 := Fr.snoc X134 N128 g_a
        have pre135 : ∀ t, Steps p.tables e below (T134.setTop (mkF m 181 (lcO_11 a p1 p2 w_innermost) [])) t → Steps p.tables e below (s₁.setTop (entryFrame m #[(.ref a), (.int p1), (.int p2)] 8)) t := fun t k => pre133 t (st134 t k)
        obtain ⟨fs, hr, hrun, hended, hW, hsame⟩ := X134.leave (v := none) (fun _ => rfl) hlk
        refine ⟨_, _, pre135 _ ?_, hrun, hended, _, _, rfl, ?_, ⟨_, rfl⟩, hW, hsame.mono (by decide) (by decide)⟩
        · show Steps p.tables e below (T134.setTop (mkF m 181 (lcO_11 a p1 p2 w_innermost) [])) _
          exact X134.returnOut hx Bd.returns (hb hby d5_181) hr
        · show QO Z a p1 p2 f w_groups w_size w_innermost w_depth h0 n0 _ T134.heap _
          rw [e134]
          have hm : own_m (own_code p1 w_innermost p2) = 3 := by simp only [own_m, if_neg hc33_8, if_neg hc33_39, if_pos hc33_82]
          exact ⟨rfl, N134, K, ⟨_, A_w_groups, own_push3 f w_size (own_code p1 w_innermost p2) hm hs⟩, F_a_groups, (by rw [hm]; exact F_a_size), F_a_innermost, F_a_depth⟩
      · have pre136 : ∀ t, Steps p.tables e below (T2.setTop (mkF m 33 #[.val (.ref a), .val (.int p1), .val (.int p2), .val (.long (own_code p1 w_innermost p2)), .second, .val (.int (4 : Int32)), .unset, .unset] [(.int (lcmpW (own_ush (own_code p1 w_innermost p2) (28 : Int32)) (0 : Int64)))])) t → Steps p.tables e below (s₁.setTop (entryFrame m #[(.ref a), (.int p1), (.int p2)] 8)) t := fun t k => pre81 t (by
          show Steps p.tables e below (T2.setTop (mkF m 33 #[.val (.ref a), .val (.int p1), .val (.int p2), .val (.long (own_code p1 w_innermost p2)), .second, .val (.int (3 : Int32)), .unset, .unset] [(.int (lcmpW (own_ush (own_code p1 w_innermost p2) (21 : Int32)) (0 : Int64)))])) _
          refine XS.ifNo X2.here hx rfl (hb hby d5_33) rfl ((if0 _ _).trans (feq (fun q => hc33_82 ((lw_eq _ _).mp q))).1) ?_
          show Steps p.tables e below (T2.setTop (mkF m 36 #[.val (.ref a), .val (.int p1), .val (.int p2), .val (.long (own_code p1 w_innermost p2)), .second, .val (.int (3 : Int32)), .unset, .unset] [])) _
          refine XS.iinc X2.here hx rfl (hb hby d5_36) rfl (l' := #[.val (.ref a), .val (.int p1), .val (.int p2), .val (.long (own_code p1 w_innermost p2)), .second, .val (.int (4 : Int32)), .unset, .unset]) rfl ?_
          show Steps p.tables e below (T2.setTop (mkF m 39 #[.val (.ref a), .val (.int p1), .val (.int p2), .val (.long (own_code p1 w_innermost p2)), .second, .val (.int (4 : Int32)), .unset, .unset] [])) _
          refine XS.goto X2.here hx rfl (pc0 := 39) (pc' := 24) rfl (hb hby d5_39) (by decide) (by decide) ?_
          show Steps p.tables e below (T2.setTop (mkF m 24 #[.val (.ref a), .val (.int p1), .val (.int p2), .val (.long (own_code p1 w_innermost p2)), .second, .val (.int (4 : Int32)), .unset, .unset] [])) _
          refine XS.lloadN X2.here hx rfl (hb hby d5_24) rfl ?_
          show Steps p.tables e below (T2.setTop (mkF m 25 #[.val (.ref a), .val (.int p1), .val (.int p2), .val (.long (own_code p1 w_innermost p2)), .second, .val (.int (4 : Int32)), .unset, .unset] [(.long (own_code p1 w_innermost p2))])) _
          refine XS.bipush X2.here hx rfl (hb hby d5_25) ?_
          show Steps p.tables e below (T2.setTop (mkF m 27 #[.val (.ref a), .val (.int p1), .val (.int p2), .val (.long (own_code p1 w_innermost p2)), .second, .val (.int (4 : Int32)), .unset, .unset] [(.int (7 : Int32)), (.long (own_code p1 w_innermost p2))])) _
          refine XS.iload X2.here hx rfl (hb hby d5_27) rfl ?_
          show Steps p.tables e below (T2.setTop (mkF m 29 #[.val (.ref a), .val (.int p1), .val (.int p2), .val (.long (own_code p1 w_innermost p2)), .second, .val (.int (4 : Int32)), .unset, .unset] [(.int (4 : Int32)), (.int (7 : Int32)), (.long (own_code p1 w_innermost p2))])) _
          refine XS.imul X2.here hx rfl (hb hby d5_29) rfl ?_
          show Steps p.tables e below (T2.setTop (mkF m 30 #[.val (.ref a), .val (.int p1), .val (.int p2), .val (.long (own_code p1 w_innermost p2)), .second, .val (.int (4 : Int32)), .unset, .unset] [(.int (28 : Int32)), (.long (own_code p1 w_innermost p2))])) _
          refine XS.lushr X2.here hx rfl (hb hby d5_30) rfl ?_
          show Steps p.tables e below (T2.setTop (mkF m 31 #[.val (.ref a), .val (.int p1), .val (.int p2), .val (.long (own_code p1 w_innermost p2)), .second, .val (.int (4 : Int32)), .unset, .unset] [(.long (own_ush (own_code p1 w_innermost p2) (28 : Int32)))])) _
          refine XS.lconst X2.here hx rfl (hb hby d5_31) ?_
          show Steps p.tables e below (T2.setTop (mkF m 32 #[.val (.ref a), .val (.int p1), .val (.int p2), .val (.long (own_code p1 w_innermost p2)), .second, .val (.int (4 : Int32)), .unset, .unset] [(.long (0 : Int64)), (.long (own_ush (own_code p1 w_innermost p2) (28 : Int32)))])) _
          refine XS.lcmp X2.here hx rfl (hb hby d5_32) rfl ?_
          show Steps p.tables e below (T2.setTop (mkF m 33 #[.val (.ref a), .val (.int p1), .val (.int p2), .val (.long (own_code p1 w_innermost p2)), .second, .val (.int (4 : Int32)), .unset, .unset] [(.int (lcmpW (own_ush (own_code p1 w_innermost p2) (28 : Int32)) (0 : Int64)))])) _
          exact k)
        by_cases hc33_137 : (own_ush (own_code p1 w_innermost p2) (28 : Int32)) = (0 : Int64)
        · have pre138 : ∀ t, Steps p.tables e below (T2.setTop (mkF m 43 #[.val (.ref a), .val (.int p1), .val (.int p2), .val (.long (own_code p1 w_innermost p2)), .second, .val (.int (4 : Int32)), .unset, .unset] [(.ref a)])) t → Steps p.tables e below (s₁.setTop (entryFrame m #[(.ref a), (.int p1), (.int p2)] 8)) t := fun t k => pre136 t (by
            show Steps p.tables e below (T2.setTop (mkF m 33 #[.val (.ref a), .val (.int p1), .val (.int p2), .val (.long (own_code p1 w_innermost p2)), .second, .val (.int (4 : Int32)), .unset, .unset] [(.int (lcmpW (own_ush (own_code p1 w_innermost p2) (28 : Int32)) (0 : Int64)))])) _
            refine XS.ifYes X2.here hx rfl (pc0 := 33) (pc' := 42) rfl (hb hby d5_33) rfl ((if0 _ _).trans (teq ((lw_eq _ _).mpr hc33_137)).1) (by decide) (by decide) ?_
            show Steps p.tables e below (T2.setTop (mkF m 42 #[.val (.ref a), .val (.int p1), .val (.int p2), .val (.long (own_code p1 w_innermost p2)), .second, .val (.int (4 : Int32)), .unset, .unset] [])) _
            refine XS.aloadN X2.here hx rfl (hb hby d5_42) rfl rfl ?_
            show Steps p.tables e below (T2.setTop (mkF m 43 #[.val (.ref a), .val (.int p1), .val (.int p2), .val (.long (own_code p1 w_innermost p2)), .second, .val (.int (4 : Int32)), .unset, .unset] [(.ref a)])) _
            exact k)
          obtain ⟨T139, X139, e139, st139⟩ := getF X2 hx hZ hown (host := "") (Or.inl (hw _ (List.mem_of_getElem? (i := 18) rfl))) Via.refl e2 F_a_groups (g := (mkF m 43 #[.val (.ref a), .val (.int p1), .val (.int p2), .val (.long (own_code p1 w_innermost p2)), .second, .val (.int (4 : Int32)), .unset, .unset] [(.ref a)])) rfl rfl (hb hby d5_43)
          have pre140 : ∀ t, Steps p.tables e below (T139.setTop (mkF m 46 #[.val (.ref a), .val (.int p1), .val (.int p2), .val (.long (own_code p1 w_innermost p2)), .second, .val (.int (4 : Int32)), .unset, .unset] [(.ref w_groups)])) t → Steps p.tables e below (s₁.setTop (entryFrame m #[(.ref a), (.int p1), (.int p2)] 8)) t := fun t k => pre138 t (st139 t k)
          obtain ⟨cl141, Ar141, Sz141, Hf141⟩ := id A_w_groups
          have pre142 : ∀ t, Steps p.tables e below (T139.setTop (mkF m 47 #[.val (.ref a), .val (.int p1), .val (.int p2), .val (.long (own_code p1 w_innermost p2)), .second, .val (.int (4 : Int32)), .unset, .unset] [(.int (16 : Int32))])) t → Steps p.tables e below (s₁.setTop (entryFrame m #[(.ref a), (.int p1), (.int p2)] 8)) t := fun t k => pre140 t (X139.arraylength hx (by rw [e139]; exact Ar141.1) (State.isArrayOf_alike hZ.alike Ar141.2.1) (g := (mkF m 46 #[.val (.ref a), .val (.int p1), .val (.int p2), .val (.long (own_code p1 w_innermost p2)), .second, .val (.int (4 : Int32)), .unset, .unset] [(.ref w_groups)])) rfl rfl (hb hby d5_46) _ (by rw [own_len Sz141 rfl]; exact k))
          have pre143 : ∀ t, Steps p.tables e below (T139.setTop (mkF m 48 #[.val (.ref a), .val (.int p1), .val (.int p2), .val (.long (own_code p1 w_innermost p2)), .second, .val (.int (4 : Int32)), .unset, .unset] [(.ref a), (.int (16 : Int32))])) t → Steps p.tables e below (s₁.setTop (entryFrame m #[(.ref a), (.int p1), (.int p2)] 8)) t := fun t k => pre142 t (by
            show Steps p.tables e below (T139.setTop (mkF m 47 #[.val (.ref a), .val (.int p1), .val (.int p2), .val (.long (own_code p1 w_innermost p2)), .second, .val (.int (4 : Int32)), .unset, .unset] [(.int (16 : Int32))])) _
            refine XS.aloadN X139.here hx rfl (hb hby d5_47) rfl rfl ?_
            show Steps p.tables e below (T139.setTop (mkF m 48 #[.val (.ref a), .val (.int p1), .val (.int p2), .val (.long (own_code p1 w_innermost p2)), .second, .val (.int (4 : Int32)), .unset, .unset] [(.ref a), (.int (16 : Int32))])) _
            exact k)
          obtain ⟨T144, X144, e144, st144⟩ := getF X139 hx hZ hown (host := "") (Or.inl (hw _ (List.mem_of_getElem? (i := 27) rfl))) Via.refl e139 F_a_size (g := (mkF m 48 #[.val (.ref a), .val (.int p1), .val (.int p2), .val (.long (own_code p1 w_innermost p2)), .second, .val (.int (4 : Int32)), .unset, .unset] [(.ref a), (.int (16 : Int32))])) rfl rfl (hb hby d5_48)
          have pre145 : ∀ t, Steps p.tables e below (T144.setTop (mkF m 51 #[.val (.ref a), .val (.int p1), .val (.int p2), .val (.long (own_code p1 w_innermost p2)), .second, .val (.int (4 : Int32)), .unset, .unset] [(.int w_size), (.int (16 : Int32))])) t → Steps p.tables e below (s₁.setTop (entryFrame m #[(.ref a), (.int p1), (.int p2)] 8)) t := fun t k => pre143 t (st144 t k)
          have pre146 : ∀ t, Steps p.tables e below (T144.setTop (mkF m 124 (lcO_12 a p1 p2 w_innermost) [(.ref a)])) t → Steps p.tables e below (s₁.setTop (entryFrame m #[(.ref a), (.int p1), (.int p2)] 8)) t := fun t k => pre145 t (by
            show Steps p.tables e below (T144.setTop (mkF m 51 #[.val (.ref a), .val (.int p1), .val (.int p2), .val (.long (own_code p1 w_innermost p2)), .second, .val (.int (4 : Int32)), .unset, .unset] [(.int w_size), (.int (16 : Int32))])) _
            refine XS.isub X144.here hx rfl (hb hby d5_51) rfl ?_
            show Steps p.tables e below (T144.setTop (mkF m 52 #[.val (.ref a), .val (.int p1), .val (.int p2), .val (.long (own_code p1 w_innermost p2)), .second, .val (.int (4 : Int32)), .unset, .unset] [(.int ((16 : Int32) - w_size))])) _
            refine XS.iload X144.here hx rfl (hb hby d5_52) rfl ?_
            show Steps p.tables e below (T144.setTop (mkF m 54 #[.val (.ref a), .val (.int p1), .val (.int p2), .val (.long (own_code p1 w_innermost p2)), .second, .val (.int (4 : Int32)), .unset, .unset] [(.int (4 : Int32)), (.int ((16 : Int32) - w_size))])) _
            refine XS.icmpYes X144.here hx rfl (pc0 := 54) (pc' := 99) rfl (hb hby d5_54) rfl (flt (show ¬ (((16 : Int32) - w_size) < (4 : Int32)) from own_fit hs (by decide))).2.1 (by decide) (by decide) ?_
            show Steps p.tables e below (T144.setTop (mkF m 99 #[.val (.ref a), .val (.int p1), .val (.int p2), .val (.long (own_code p1 w_innermost p2)), .second, .val (.int (4 : Int32)), .unset, .unset] [])) _
            refine XS.iload X144.here hx rfl (hb hby d5_99) rfl ?_
            show Steps p.tables e below (T144.setTop (mkF m 101 #[.val (.ref a), .val (.int p1), .val (.int p2), .val (.long (own_code p1 w_innermost p2)), .second, .val (.int (4 : Int32)), .unset, .unset] [(.int (4 : Int32))])) _
            refine XS.iconst X144.here hx rfl (hb hby d5_101) ?_
            show Steps p.tables e below (T144.setTop (mkF m 102 #[.val (.ref a), .val (.int p1), .val (.int p2), .val (.long (own_code p1 w_innermost p2)), .second, .val (.int (4 : Int32)), .unset, .unset] [(.int (1 : Int32)), (.int (4 : Int32))])) _
            refine XS.isub X144.here hx rfl (hb hby d5_102) rfl ?_
            show Steps p.tables e below (T144.setTop (mkF m 103 #[.val (.ref a), .val (.int p1), .val (.int p2), .val (.long (own_code p1 w_innermost p2)), .second, .val (.int (4 : Int32)), .unset, .unset] [(.int (3 : Int32))])) _
            refine XS.istore X144.here hx rfl (hb hby d5_103) rfl (l' := #[.val (.ref a), .val (.int p1), .val (.int p2), .val (.long (own_code p1 w_innermost p2)), .second, .val (.int (4 : Int32)), .val (.int (3 : Int32)), .unset]) rfl ?_
            show Steps p.tables e below (T144.setTop (mkF m 105 #[.val (.ref a), .val (.int p1), .val (.int p2), .val (.long (own_code p1 w_innermost p2)), .second, .val (.int (4 : Int32)), .val (.int (3 : Int32)), .unset] [])) _
            refine XS.iload X144.here hx rfl (hb hby d5_105) rfl ?_
            show Steps p.tables e below (T144.setTop (mkF m 107 #[.val (.ref a), .val (.int p1), .val (.int p2), .val (.long (own_code p1 w_innermost p2)), .second, .val (.int (4 : Int32)), .val (.int (3 : Int32)), .unset] [(.int (3 : Int32))])) _
            refine XS.ifNo X144.here hx rfl (hb hby d5_107) rfl ((if0 _ _).trans (flt (by decide)).1) ?_
            show Steps p.tables e below (T144.setTop (mkF m 110 #[.val (.ref a), .val (.int p1), .val (.int p2), .val (.long (own_code p1 w_innermost p2)), .second, .val (.int (4 : Int32)), .val (.int (3 : Int32)), .unset] [])) _
            refine XS.lloadN X144.here hx rfl (hb hby d5_110) rfl ?_
            show Steps p.tables e below (T144.setTop (mkF m 111 #[.val (.ref a), .val (.int p1), .val (.int p2), .val (.long (own_code p1 w_innermost p2)), .second, .val (.int (4 : Int32)), .val (.int (3 : Int32)), .unset] [(.long (own_code p1 w_innermost p2))])) _
            refine XS.bipush X144.here hx rfl (hb hby d5_111) ?_
            show Steps p.tables e below (T144.setTop (mkF m 113 #[.val (.ref a), .val (.int p1), .val (.int p2), .val (.long (own_code p1 w_innermost p2)), .second, .val (.int (4 : Int32)), .val (.int (3 : Int32)), .unset] [(.int (7 : Int32)), (.long (own_code p1 w_innermost p2))])) _
            refine XS.iload X144.here hx rfl (hb hby d5_113) rfl ?_
            show Steps p.tables e below (T144.setTop (mkF m 115 #[.val (.ref a), .val (.int p1), .val (.int p2), .val (.long (own_code p1 w_innermost p2)), .second, .val (.int (4 : Int32)), .val (.int (3 : Int32)), .unset] [(.int (3 : Int32)), (.int (7 : Int32)), (.long (own_code p1 w_innermost p2))])) _
            refine XS.imul X144.here hx rfl (hb hby d5_115) rfl ?_
            show Steps p.tables e below (T144.setTop (mkF m 116 #[.val (.ref a), .val (.int p1), .val (.int p2), .val (.long (own_code p1 w_innermost p2)), .second, .val (.int (4 : Int32)), .val (.int (3 : Int32)), .unset] [(.int (21 : Int32)), (.long (own_code p1 w_innermost p2))])) _
            refine XS.lushr X144.here hx rfl (hb hby d5_116) rfl ?_
            show Steps p.tables e below (T144.setTop (mkF m 117 #[.val (.ref a), .val (.int p1), .val (.int p2), .val (.long (own_code p1 w_innermost p2)), .second, .val (.int (4 : Int32)), .val (.int (3 : Int32)), .unset] [(.long (own_ush (own_code p1 w_innermost p2) (21 : Int32)))])) _
            refine XS.l2i X144.here hx rfl (hb hby d5_117) rfl ?_
            show Steps p.tables e below (T144.setTop (mkF m 118 #[.val (.ref a), .val (.int p1), .val (.int p2), .val (.long (own_code p1 w_innermost p2)), .second, .val (.int (4 : Int32)), .val (.int (3 : Int32)), .unset] [(.int ((own_ush (own_code p1 w_innermost p2) (21 : Int32)).toInt32))])) _
            refine XS.bipush X144.here hx rfl (hb hby d5_118) ?_
            show Steps p.tables e below (T144.setTop (mkF m 120 #[.val (.ref a), .val (.int p1), .val (.int p2), .val (.long (own_code p1 w_innermost p2)), .second, .val (.int (4 : Int32)), .val (.int (3 : Int32)), .unset] [(.int (127 : Int32)), (.int ((own_ush (own_code p1 w_innermost p2) (21 : Int32)).toInt32))])) _
            refine XS.iand X144.here hx rfl (hb hby d5_120) rfl ?_
            show Steps p.tables e below (T144.setTop (mkF m 121 #[.val (.ref a), .val (.int p1), .val (.int p2), .val (.long (own_code p1 w_innermost p2)), .second, .val (.int (4 : Int32)), .val (.int (3 : Int32)), .unset] [(.int (((own_ush (own_code p1 w_innermost p2) (21 : Int32)).toInt32) &&& (127 : Int32)))])) _
            refine XS.istore X144.here hx rfl (hb hby d5_121) rfl (l' := (lcO_12 a p1 p2 w_innermost)) rfl ?_
            show Steps p.tables e below (T144.setTop (mkF m 123 (lcO_12 a p1 p2 w_innermost) [])) _
            refine XS.aloadN X144.here hx rfl (hb hby d5_123) rfl rfl ?_
            show Steps p.tables e below (T144.setTop (mkF m 124 (lcO_12 a p1 p2 w_innermost) [(.ref a)])) _
            exact k)
          obtain ⟨T147, X147, e147, st147⟩ := getF X144 hx hZ hown (host := "") (Or.inl (hw _ (List.mem_of_getElem? (i := 18) rfl))) Via.refl e144 F_a_groups (g := (mkF m 124 (lcO_12 a p1 p2 w_innermost) [(.ref a)])) rfl rfl (hb hby d5_124)
          have pre148 : ∀ t, Steps p.tables e below (T147.setTop (mkF m 127 (lcO_12 a p1 p2 w_innermost) [(.ref w_groups)])) t → Steps p.tables e below (s₁.setTop (entryFrame m #[(.ref a), (.int p1), (.int p2)] 8)) t := fun t k => pre146 t (st147 t k)
          have pre149 : ∀ t, Steps p.tables e below (T147.setTop (mkF m 129 (lcO_12 a p1 p2 w_innermost) [(.ref a), (.ref a), (.ref w_groups)])) t → Steps p.tables e below (s₁.setTop (entryFrame m #[(.ref a), (.int p1), (.int p2)] 8)) t := fun t k => pre148 t (by
            show Steps p.tables e below (T147.setTop (mkF m 127 (lcO_12 a p1 p2 w_innermost) [(.ref w_groups)])) _
            refine XS.aloadN X147.here hx rfl (hb hby d5_127) rfl rfl ?_
            show Steps p.tables e below (T147.setTop (mkF m 128 (lcO_12 a p1 p2 w_innermost) [(.ref a), (.ref w_groups)])) _
            refine XS.dup X147.here hx rfl (hb hby d5_128) rfl rfl ?_
            show Steps p.tables e below (T147.setTop (mkF m 129 (lcO_12 a p1 p2 w_innermost) [(.ref a), (.ref a), (.ref w_groups)])) _
            exact k)
          obtain ⟨T150, X150, e150, st150⟩ := getF X147 hx hZ hown (host := "") (Or.inl (hw _ (List.mem_of_getElem? (i := 27) rfl))) Via.refl e147 F_a_size (g := (mkF m 129 (lcO_12 a p1 p2 w_innermost) [(.ref a), (.ref a), (.ref w_groups)])) rfl rfl (hb hby d5_129)
          have pre151 : ∀ t, Steps p.tables e below (T150.setTop (mkF m 132 (lcO_12 a p1 p2 w_innermost) [(.int w_size), (.ref a), (.ref w_groups)])) t → Steps p.tables e below (s₁.setTop (entryFrame m #[(.ref a), (.int p1), (.int p2)] 8)) t := fun t k => pre149 t (st150 t k)
          have pre152 : ∀ t, Steps p.tables e below (T150.setTop (mkF m 135 (lcO_12 a p1 p2 w_innermost) [(.int (own_sk w_size 1)), (.ref a), (.int w_size), (.ref w_groups)])) t → Steps p.tables e below (s₁.setTop (entryFrame m #[(.ref a), (.int p1), (.int p2)] 8)) t := fun t k => pre151 t (by
            show Steps p.tables e below (T150.setTop (mkF m 132 (lcO_12 a p1 p2 w_innermost) [(.int w_size), (.ref a), (.ref w_groups)])) _
            refine XS.dupX1 X150.here hx rfl (hb hby d5_132) rfl rfl rfl ?_
            show Steps p.tables e below (T150.setTop (mkF m 133 (lcO_12 a p1 p2 w_innermost) [(.int w_size), (.ref a), (.int w_size), (.ref w_groups)])) _
            refine XS.iconst X150.here hx rfl (hb hby d5_133) ?_
            show Steps p.tables e below (T150.setTop (mkF m 134 (lcO_12 a p1 p2 w_innermost) [(.int (1 : Int32)), (.int w_size), (.ref a), (.int w_size), (.ref w_groups)])) _
            refine XS.iadd X150.here hx rfl (hb hby d5_134) rfl ?_
            show Steps p.tables e below (T150.setTop (mkF m 135 (lcO_12 a p1 p2 w_innermost) [(.int (own_sk w_size 1)), (.ref a), (.int w_size), (.ref w_groups)])) _
            exact k)
          obtain ⟨T153, h153, X153, e153, W153, st153⟩ := putF X150 hx hZ hown (host := "") (Or.inl (hw _ (List.mem_of_getElem? (i := 27) rfl))) Via.refl e150 F_a_size E_a (Or.inl (hw _ (List.mem_of_getElem? (i := 28) rfl))) (hw _ (List.mem_of_getElem? (i := 9) rfl)) (ty := .int) (by decide) rfl rfl (g := (mkF m 135 (lcO_12 a p1 p2 w_innermost) [(.int (own_sk w_size 1)), (.ref a), (.int w_size), (.ref w_groups)])) rfl rfl (hb hby d5_135)
          have F_a_size : Fld Z h153 a "com/example/mensura/mensura/parser/OpenParentheses" "size" "I" (.int (own_sk w_size 1)) := F_a_size.same W153
          have E_a := E_a.wr W153
          have F_a_groups := F_a_groups.other W153 (Or.inr (slot_ne (Or.inl (hw _ (List.mem_of_getElem? (i := 19) rfl))) (Or.inl (hw _ (List.mem_of_getElem? (i := 28) rfl))) (by decide) (t := (.array .byte)) (t' := .int) (by decide) (by decide)))
          have F_a_innermost := F_a_innermost.other W153 (Or.inr (slot_ne (Or.inl (hw _ (List.mem_of_getElem? (i := 21) rfl))) (Or.inl (hw _ (List.mem_of_getElem? (i := 28) rfl))) (by decide) (t := .int) (t' := .int) (by decide) (by decide)))
          have F_a_depth := F_a_depth.other W153 (Or.inr (slot_ne (Or.inl (hw _ (List.mem_of_getElem? (i := 30) rfl))) (Or.inl (hw _ (List.mem_of_getElem? (i := 28) rfl))) (by decide) (t := .int) (t' := .int) (by decide) (by decide)))
          have A_w_groups := A_w_groups.other W153 (Ne.symm ne_a_w_groups)
          have K := K.wr W153 (Or.inl (List.mem_of_getElem? (i := 0) rfl))
          have Z153 : n0 ≤ h153.size := Nat.le_trans Z0 (Keep.of_wr W153).1
          have N153 := Fr.snoc X153 N0 g_a
          have pre154 : ∀ t, Steps p.tables e below (T153.setTop (mkF m 138 (lcO_12 a p1 p2 w_innermost) [(.int w_size), (.ref w_groups)])) t → Steps p.tables e below (s₁.setTop (entryFrame m #[(.ref a), (.int p1), (.int p2)] 8)) t := fun t k => pre152 t (st153 t k)
          have pre155 : ∀ t, Steps p.tables e below (T153.setTop (mkF m 159 (lcO_12 a p1 p2 w_innermost) [(.int (own_g0 (own_code p1 w_innermost p2) (21 : Int32))), (.int w_size), (.ref w_groups)])) t → Steps p.tables e below (s₁.setTop (entryFrame m #[(.ref a), (.int p1), (.int p2)] 8)) t := fun t k => pre154 t (by
            show Steps p.tables e below (T153.setTop (mkF m 138 (lcO_12 a p1 p2 w_innermost) [(.int w_size), (.ref w_groups)])) _
            refine XS.iload X153.here hx rfl (hb hby d5_138) rfl ?_
            show Steps p.tables e below (T153.setTop (mkF m 140 (lcO_12 a p1 p2 w_innermost) [(.int (3 : Int32)), (.int w_size), (.ref w_groups)])) _
            refine XS.iload X153.here hx rfl (hb hby d5_140) rfl ?_
            show Steps p.tables e below (T153.setTop (mkF m 142 (lcO_12 a p1 p2 w_innermost) [(.int (4 : Int32)), (.int (3 : Int32)), (.int w_size), (.ref w_groups)])) _
            refine XS.iconst X153.here hx rfl (hb hby d5_142) ?_
            show Steps p.tables e below (T153.setTop (mkF m 143 (lcO_12 a p1 p2 w_innermost) [(.int (1 : Int32)), (.int (4 : Int32)), (.int (3 : Int32)), (.int w_size), (.ref w_groups)])) _
            refine XS.isub X153.here hx rfl (hb hby d5_143) rfl ?_
            show Steps p.tables e below (T153.setTop (mkF m 144 (lcO_12 a p1 p2 w_innermost) [(.int (3 : Int32)), (.int (3 : Int32)), (.int w_size), (.ref w_groups)])) _
            refine XS.icmpNo X153.here hx rfl (hb hby d5_144) rfl (teq (by decide)).2 ?_
            show Steps p.tables e below (T153.setTop (mkF m 147 (lcO_12 a p1 p2 w_innermost) [(.int w_size), (.ref w_groups)])) _
            refine XS.iload X153.here hx rfl (hb hby d5_147) rfl ?_
            show Steps p.tables e below (T153.setTop (mkF m 149 (lcO_12 a p1 p2 w_innermost) [(.int (((own_ush (own_code p1 w_innermost p2) (21 : Int32)).toInt32) &&& (127 : Int32))), (.int w_size), (.ref w_groups)])) _
            refine XS.goto X153.here hx rfl (pc0 := 149) (pc' := 158) rfl (hb hby d5_149) (by decide) (by decide) ?_
            show Steps p.tables e below (T153.setTop (mkF m 158 (lcO_12 a p1 p2 w_innermost) [(.int (((own_ush (own_code p1 w_innermost p2) (21 : Int32)).toInt32) &&& (127 : Int32))), (.int w_size), (.ref w_groups)])) _
            refine XS.i2b X153.here hx rfl (hb hby d5_158) rfl ?_
            show Steps p.tables e below (T153.setTop (mkF m 159 (lcO_12 a p1 p2 w_innermost) [(.int (own_g0 (own_code p1 w_innermost p2) (21 : Int32))), (.int w_size), (.ref w_groups)])) _
            exact k)
          obtain ⟨cl156, Ar156, Sz156, Hf156⟩ := A_w_groups
          obtain ⟨T156, h156, X156, e156, W156, st156⟩ := stB X153 hx hZ e153 Ar156 (j := w_size) (own_inb Sz156 (own_skb hs 0 (by decide))) (g := (mkF m 159 (lcO_12 a p1 p2 w_innermost) [(.int (own_g0 (own_code p1 w_innermost p2) (21 : Int32))), (.int w_size), (.ref w_groups)])) rfl rfl (hb hby d5_159)
          have A_w_groups : own_A Z h156 w_groups .byte 16 (own_put f (w_size).toNatClampNeg (nar .byte (own_g0 (own_code p1 w_innermost p2) (21 : Int32)))) := own_A.set Ar156 Sz156 Hf156 W156
          have E_a := E_a.wr W156
          have F_a_groups := F_a_groups.other W156 (Or.inl ne_a_w_groups)
          have F_a_size := F_a_size.other W156 (Or.inl ne_a_w_groups)
          have F_a_innermost := F_a_innermost.other W156 (Or.inl ne_a_w_groups)
          have F_a_depth := F_a_depth.other W156 (Or.inl ne_a_w_groups)
          have K := K.wr W156 (Or.inl (List.mem_of_getElem? (i := 1) rfl))
          have Z156 : n0 ≤ h156.size := Nat.le_trans Z153 (Keep.of_wr W156).1
          have N156 := Fr.snoc X156 N153 g_w_groups
          have pre157 : ∀ t, Steps p.tables e below (T156.setTop (mkF m 160 (lcO_12 a p1 p2 w_innermost) [])) t → Steps p.tables e below (s₁.setTop (entryFrame m #[(.ref a), (.int p1), (.int p2)] 8)) t := fun t k => pre155 t (st156 t k)
          have pre158 : ∀ t, Steps p.tables e below (T156.setTop (mkF m 124 (lcO_14 a p1 p2 w_innermost) [(.ref a)])) t → Steps p.tables e below (s₁.setTop (entryFrame m #[(.ref a), (.int p1), (.int p2)] 8)) t := fun t k => pre157 t (by
            show Steps p.tables e below (T156.setTop (mkF m 160 (lcO_12 a p1 p2 w_innermost) [])) _
            refine XS.iinc X156.here hx rfl (hb hby d5_160) rfl (l' := (lcO_13 a p1 p2 w_innermost)) rfl ?_
            show Steps p.tables e below (T156.setTop (mkF m 163 (lcO_13 a p1 p2 w_innermost) [])) _
            refine XS.goto X156.here hx rfl (pc0 := 163) (pc' := 105) rfl (hb hby d5_163) (by decide) (by decide) ?_
            show Steps p.tables e below (T156.setTop (mkF m 105 (lcO_13 a p1 p2 w_innermost) [])) _
            refine XS.iload X156.here hx rfl (hb hby d5_105) rfl ?_
            show Steps p.tables e below (T156.setTop (mkF m 107 (lcO_13 a p1 p2 w_innermost) [(.int (2 : Int32))])) _
            refine XS.ifNo X156.here hx rfl (hb hby d5_107) rfl ((if0 _ _).trans (flt (by decide)).1) ?_
            show Steps p.tables e below (T156.setTop (mkF m 110 (lcO_13 a p1 p2 w_innermost) [])) _
            refine XS.lloadN X156.here hx rfl (hb hby d5_110) rfl ?_
            show Steps p.tables e below (T156.setTop (mkF m 111 (lcO_13 a p1 p2 w_innermost) [(.long (own_code p1 w_innermost p2))])) _
            refine XS.bipush X156.here hx rfl (hb hby d5_111) ?_
            show Steps p.tables e below (T156.setTop (mkF m 113 (lcO_13 a p1 p2 w_innermost) [(.int (7 : Int32)), (.long (own_code p1 w_innermost p2))])) _
            refine XS.iload X156.here hx rfl (hb hby d5_113) rfl ?_
            show Steps p.tables e below (T156.setTop (mkF m 115 (lcO_13 a p1 p2 w_innermost) [(.int (2 : Int32)), (.int (7 : Int32)), (.long (own_code p1 w_innermost p2))])) _
            refine XS.imul X156.here hx rfl (hb hby d5_115) rfl ?_
            show Steps p.tables e below (T156.setTop (mkF m 116 (lcO_13 a p1 p2 w_innermost) [(.int (14 : Int32)), (.long (own_code p1 w_innermost p2))])) _
            refine XS.lushr X156.here hx rfl (hb hby d5_116) rfl ?_
            show Steps p.tables e below (T156.setTop (mkF m 117 (lcO_13 a p1 p2 w_innermost) [(.long (own_ush (own_code p1 w_innermost p2) (14 : Int32)))])) _
            refine XS.l2i X156.here hx rfl (hb hby d5_117) rfl ?_
            show Steps p.tables e below (T156.setTop (mkF m 118 (lcO_13 a p1 p2 w_innermost) [(.int ((own_ush (own_code p1 w_innermost p2) (14 : Int32)).toInt32))])) _
            refine XS.bipush X156.here hx rfl (hb hby d5_118) ?_
            show Steps p.tables e below (T156.setTop (mkF m 120 (lcO_13 a p1 p2 w_innermost) [(.int (127 : Int32)), (.int ((own_ush (own_code p1 w_innermost p2) (14 : Int32)).toInt32))])) _
            refine XS.iand X156.here hx rfl (hb hby d5_120) rfl ?_
            show Steps p.tables e below (T156.setTop (mkF m 121 (lcO_13 a p1 p2 w_innermost) [(.int (((own_ush (own_code p1 w_innermost p2) (14 : Int32)).toInt32) &&& (127 : Int32)))])) _
            refine XS.istore X156.here hx rfl (hb hby d5_121) rfl (l' := (lcO_14 a p1 p2 w_innermost)) rfl ?_
            show Steps p.tables e below (T156.setTop (mkF m 123 (lcO_14 a p1 p2 w_innermost) [])) _
            refine XS.aloadN X156.here hx rfl (hb hby d5_123) rfl rfl ?_
            show Steps p.tables e below (T156.setTop (mkF m 124 (lcO_14 a p1 p2 w_innermost) [(.ref a)])) _
            exact k)
          obtain ⟨T159, X159, e159, st159⟩ := getF X156 hx hZ hown (host := "") (Or.inl (hw _ (List.mem_of_getElem? (i := 18) rfl))) Via.refl e156 F_a_groups (g := (mkF m 124 (lcO_14 a p1 p2 w_innermost) [(.ref a)])) rfl rfl (hb hby d5_124)
          have pre160 : ∀ t, Steps p.tables e below (T159.setTop (mkF m 127 (lcO_14 a p1 p2 w_innermost) [(.ref w_groups)])) t → Steps p.tables e below (s₁.setTop (entryFrame m #[(.ref a), (.int p1), (.int p2)] 8)) t := fun t k => pre158 t (st159 t k)
          have pre161 : ∀ t, Steps p.tables e below (T159.setTop (mkF m 129 (lcO_14 a p1 p2 w_innermost) [(.ref a), (.ref a), (.ref w_groups)])) t → Steps p.tables e below (s₁.setTop (entryFrame m #[(.ref a), (.int p1), (.int p2)] 8)) t := fun t k => pre160 t (by
            show Steps p.tables e below (T159.setTop (mkF m 127 (lcO_14 a p1 p2 w_innermost) [(.ref w_groups)])) _
            refine XS.aloadN X159.here hx rfl (hb hby d5_127) rfl rfl ?_
            show Steps p.tables e below (T159.setTop (mkF m 128 (lcO_14 a p1 p2 w_innermost) [(.ref a), (.ref w_groups)])) _
            refine XS.dup X159.here hx rfl (hb hby d5_128) rfl rfl ?_
            show Steps p.tables e below (T159.setTop (mkF m 129 (lcO_14 a p1 p2 w_innermost) [(.ref a), (.ref a), (.ref w_groups)])) _
            exact k)
          obtain ⟨T162, X162, e162, st162⟩ := getF X159 hx hZ hown (host := "") (Or.inl (hw _ (List.mem_of_getElem? (i := 27) rfl))) Via.refl e159 F_a_size (g := (mkF m 129 (lcO_14 a p1 p2 w_innermost) [(.ref a), (.ref a), (.ref w_groups)])) rfl rfl (hb hby d5_129)
          have pre163 : ∀ t, Steps p.tables e below (T162.setTop (mkF m 132 (lcO_14 a p1 p2 w_innermost) [(.int (own_sk w_size 1)), (.ref a), (.ref w_groups)])) t → Steps p.tables e below (s₁.setTop (entryFrame m #[(.ref a), (.int p1), (.int p2)] 8)) t := fun t k => pre161 t (st162 t k)
          have pre164 : ∀ t, Steps p.tables e below (T162.setTop (mkF m 135 (lcO_14 a p1 p2 w_innermost) [(.int (own_sk w_size 2)), (.ref a), (.int (own_sk w_size 1)), (.ref w_groups)])) t → Steps p.tables e below (s₁.setTop (entryFrame m #[(.ref a), (.int p1), (.int p2)] 8)) t := fun t k => pre163 t (by
            show Steps p.tables e below (T162.setTop (mkF m 132 (lcO_14 a p1 p2 w_innermost) [(.int (own_sk w_size 1)), (.ref a), (.ref w_groups)])) _
            refine XS.dupX1 X162.here hx rfl (hb hby d5_132) rfl rfl rfl ?_
            show Steps p.tables e below (T162.setTop (mkF m 133 (lcO_14 a p1 p2 w_innermost) [(.int (own_sk w_size 1)), (.ref a), (.int (own_sk w_size 1)), (.ref w_groups)])) _
            refine XS.iconst X162.here hx rfl (hb hby d5_133) ?_
            show Steps p.tables e below (T162.setTop (mkF m 134 (lcO_14 a p1 p2 w_innermost) [(.int (1 : Int32)), (.int (own_sk w_size 1)), (.ref a), (.int (own_sk w_size 1)), (.ref w_groups)])) _
            refine XS.iadd X162.here hx rfl (hb hby d5_134) rfl ?_
            show Steps p.tables e below (T162.setTop (mkF m 135 (lcO_14 a p1 p2 w_innermost) [(.int (own_sk w_size 2)), (.ref a), (.int (own_sk w_size 1)), (.ref w_groups)])) _
            exact k)
          obtain ⟨T165, h165, X165, e165, W165, st165⟩ := putF X162 hx hZ hown (host := "") (Or.inl (hw _ (List.mem_of_getElem? (i := 27) rfl))) Via.refl e162 F_a_size E_a (Or.inl (hw _ (List.mem_of_getElem? (i := 28) rfl))) (hw _ (List.mem_of_getElem? (i := 9) rfl)) (ty := .int) (by decide) rfl rfl (g := (mkF m 135 (lcO_14 a p1 p2 w_innermost) [(.int (own_sk w_size 2)), (.ref a), (.int (own_sk w_size 1)), (.ref w_groups)])) rfl rfl (hb hby d5_135)
          have F_a_size : Fld Z h165 a "com/example/mensura/mensura/parser/OpenParentheses" "size" "I" (.int (own_sk w_size 2)) := F_a_size.same W165
          have E_a := E_a.wr W165
          have F_a_groups := F_a_groups.other W165 (Or.inr (slot_ne (Or.inl (hw _ (List.mem_of_getElem? (i := 19) rfl))) (Or.inl (hw _ (List.mem_of_getElem? (i := 28) rfl))) (by decide) (t := (.array .byte)) (t' := .int) (by decide) (by decide)))
          have F_a_innermost := F_a_innermost.other W165 (Or.inr (slot_ne (Or.inl (hw _ (List.mem_of_getElem? (i := 21) rfl))) (Or.inl (hw _ (List.mem_of_getElem? (i := 28) rfl))) (by decide) (t := .int) (t' := .int) (by decide) (by decide)))
          have F_a_depth := F_a_depth.other W165 (Or.inr (slot_ne (Or.inl (hw _ (List.mem_of_getElem? (i := 30) rfl))) (Or.inl (hw _ (List.mem_of_getElem? (i := 28) rfl))) (by decide) (t := .int) (t' := .int) (by decide) (by decide)))
          have A_w_groups := A_w_groups.other W165 (Ne.symm ne_a_w_groups)
          have K := K.wr W165 (Or.inl (List.mem_of_getElem? (i := 0) rfl))
          have Z165 : n0 ≤ h165.size := Nat.le_trans Z156 (Keep.of_wr W165).1
          have N165 := Fr.snoc X165 N156 g_a
          have pre166 : ∀ t, Steps p.tables e below (T165.setTop (mkF m 138 (lcO_14 a p1 p2 w_innermost) [(.int (own_sk w_size 1)), (.ref w_groups)])) t → Steps p.tables e below (s₁.setTop (entryFrame m #[(.ref a), (.int p1), (.int p2)] 8)) t := fun t k => pre164 t (st165 t k)
          have pre167 : ∀ t, Steps p.tables e below (T165.setTop (mkF m 159 (lcO_14 a p1 p2 w_innermost) [(.int (own_g1 (own_code p1 w_innermost p2) (14 : Int32))), (.int (own_sk w_size 1)), (.ref w_groups)])) t → Steps p.tables e below (s₁.setTop (entryFrame m #[(.ref a), (.int p1), (.int p2)] 8)) t := fun t k => pre166 t (by
            show Steps p.tables e below (T165.setTop (mkF m 138 (lcO_14 a p1 p2 w_innermost) [(.int (own_sk w_size 1)), (.ref w_groups)])) _
            refine XS.iload X165.here hx rfl (hb hby d5_138) rfl ?_
            show Steps p.tables e below (T165.setTop (mkF m 140 (lcO_14 a p1 p2 w_innermost) [(.int (2 : Int32)), (.int (own_sk w_size 1)), (.ref w_groups)])) _
            refine XS.iload X165.here hx rfl (hb hby d5_140) rfl ?_
            show Steps p.tables e below (T165.setTop (mkF m 142 (lcO_14 a p1 p2 w_innermost) [(.int (4 : Int32)), (.int (2 : Int32)), (.int (own_sk w_size 1)), (.ref w_groups)])) _
            refine XS.iconst X165.here hx rfl (hb hby d5_142) ?_
            show Steps p.tables e below (T165.setTop (mkF m 143 (lcO_14 a p1 p2 w_innermost) [(.int (1 : Int32)), (.int (4 : Int32)), (.int (2 : Int32)), (.int (own_sk w_size 1)), (.ref w_groups)])) _
            refine XS.isub X165.here hx rfl (hb hby d5_143) rfl ?_
            show Steps p.tables e below (T165.setTop (mkF m 144 (lcO_14 a p1 p2 w_innermost) [(.int (3 : Int32)), (.int (2 : Int32)), (.int (own_sk w_size 1)), (.ref w_groups)])) _
            refine XS.icmpYes X165.here hx rfl (pc0 := 144) (pc' := 152) rfl (hb hby d5_144) rfl (feq (by decide)).2 (by decide) (by decide) ?_
            show Steps p.tables e below (T165.setTop (mkF m 152 (lcO_14 a p1 p2 w_innermost) [(.int (own_sk w_size 1)), (.ref w_groups)])) _
            refine XS.iload X165.here hx rfl (hb hby d5_152) rfl ?_
            show Steps p.tables e below (T165.setTop (mkF m 154 (lcO_14 a p1 p2 w_innermost) [(.int (((own_ush (own_code p1 w_innermost p2) (14 : Int32)).toInt32) &&& (127 : Int32))), (.int (own_sk w_size 1)), (.ref w_groups)])) _
            refine XS.sipush X165.here hx rfl (hb hby d5_154) ?_
            show Steps p.tables e below (T165.setTop (mkF m 157 (lcO_14 a p1 p2 w_innermost) [(.int (128 : Int32)), (.int (((own_ush (own_code p1 w_innermost p2) (14 : Int32)).toInt32) &&& (127 : Int32))), (.int (own_sk w_size 1)), (.ref w_groups)])) _
            refine XS.ior X165.here hx rfl (hb hby d5_157) rfl ?_
            show Steps p.tables e below (T165.setTop (mkF m 158 (lcO_14 a p1 p2 w_innermost) [(.int ((((own_ush (own_code p1 w_innermost p2) (14 : Int32)).toInt32) &&& (127 : Int32)) ||| (128 : Int32))), (.int (own_sk w_size 1)), (.ref w_groups)])) _
            refine XS.i2b X165.here hx rfl (hb hby d5_158) rfl ?_
            show Steps p.tables e below (T165.setTop (mkF m 159 (lcO_14 a p1 p2 w_innermost) [(.int (own_g1 (own_code p1 w_innermost p2) (14 : Int32))), (.int (own_sk w_size 1)), (.ref w_groups)])) _
            exact k)
          obtain ⟨cl168, Ar168, Sz168, Hf168⟩ := A_w_groups
          obtain ⟨T168, h168, X168, e168, W168, st168⟩ := stB X165 hx hZ e165 Ar168 (j := (own_sk w_size 1)) (own_inb Sz168 (own_skb hs 1 (by decide))) (g := (mkF m 159 (lcO_14 a p1 p2 w_innermost) [(.int (own_g1 (own_code p1 w_innermost p2) (14 : Int32))), (.int (own_sk w_size 1)), (.ref w_groups)])) rfl rfl (hb hby d5_159)
          have A_w_groups : own_A Z h168 w_groups .byte 16 (own_put (own_put f (w_size).toNatClampNeg (nar .byte (own_g0 (own_code p1 w_innermost p2) (21 : Int32)))) ((own_sk w_size 1)).toNatClampNeg (nar .byte (own_g1 (own_code p1 w_innermost p2) (14 : Int32)))) := own_A.set Ar168 Sz168 Hf168 W168
          have E_a := E_a.wr W168
          have F_a_groups := F_a_groups.other W168 (Or.inl ne_a_w_groups)
          have F_a_size := F_a_size.other W168 (Or.inl ne_a_w_groups)
          have F_a_innermost := F_a_innermost.other W168 (Or.inl ne_a_w_groups)
          have F_a_depth := F_a_depth.other W168 (Or.inl ne_a_w_groups)
          have K := K.wr W168 (Or.inl (List.mem_of_getElem? (i := 1) rfl))
          have Z168 : n0 ≤ h168.size := Nat.le_trans Z165 (Keep.of_wr W168).1
          have N168 := Fr.snoc X168 N165 g_w_groups
          have pre169 : ∀ t, Steps p.tables e below (T168.setTop (mkF m 160 (lcO_14 a p1 p2 w_innermost) [])) t → Steps p.tables e below (s₁.setTop (entryFrame m #[(.ref a), (.int p1), (.int p2)] 8)) t := fun t k => pre167 t (st168 t k)
          have pre170 : ∀ t, Steps p.tables e below (T168.setTop (mkF m 124 (lcO_16 a p1 p2 w_innermost) [(.ref a)])) t → Steps p.tables e below (s₁.setTop (entryFrame m #[(.ref a), (.int p1), (.int p2)] 8)) t := fun t k => pre169 t (by
            show Steps p.tables e below (T168.setTop (mkF m 160 (lcO_14 a p1 p2 w_innermost) [])) _
            refine XS.iinc X168.here hx rfl (hb hby d5_160) rfl (l' := (lcO_15 a p1 p2 w_innermost)) rfl ?_
            show Steps p.tables e below (T168.setTop (mkF m 163 (lcO_15 a p1 p2 w_innermost) [])) _
            refine XS.goto X168.here hx rfl (pc0 := 163) (pc' := 105) rfl (hb hby d5_163) (by decide) (by decide) ?_
            show Steps p.tables e below (T168.setTop (mkF m 105 (lcO_15 a p1 p2 w_innermost) [])) _
            refine XS.iload X168.here hx rfl (hb hby d5_105) rfl ?_
            show Steps p.tables e below (T168.setTop (mkF m 107 (lcO_15 a p1 p2 w_innermost) [(.int (1 : Int32))])) _
            refine XS.ifNo X168.here hx rfl (hb hby d5_107) rfl ((if0 _ _).trans (flt (by decide)).1) ?_
            show Steps p.tables e below (T168.setTop (mkF m 110 (lcO_15 a p1 p2 w_innermost) [])) _
            refine XS.lloadN X168.here hx rfl (hb hby d5_110) rfl ?_
            show Steps p.tables e below (T168.setTop (mkF m 111 (lcO_15 a p1 p2 w_innermost) [(.long (own_code p1 w_innermost p2))])) _
            refine XS.bipush X168.here hx rfl (hb hby d5_111) ?_
            show Steps p.tables e below (T168.setTop (mkF m 113 (lcO_15 a p1 p2 w_innermost) [(.int (7 : Int32)), (.long (own_code p1 w_innermost p2))])) _
            refine XS.iload X168.here hx rfl (hb hby d5_113) rfl ?_
            show Steps p.tables e below (T168.setTop (mkF m 115 (lcO_15 a p1 p2 w_innermost) [(.int (1 : Int32)), (.int (7 : Int32)), (.long (own_code p1 w_innermost p2))])) _
            refine XS.imul X168.here hx rfl (hb hby d5_115) rfl ?_
            show Steps p.tables e below (T168.setTop (mkF m 116 (lcO_15 a p1 p2 w_innermost) [(.int (7 : Int32)), (.long (own_code p1 w_innermost p2))])) _
            refine XS.lushr X168.here hx rfl (hb hby d5_116) rfl ?_
            show Steps p.tables e below (T168.setTop (mkF m 117 (lcO_15 a p1 p2 w_innermost) [(.long (own_ush (own_code p1 w_innermost p2) (7 : Int32)))])) _
            refine XS.l2i X168.here hx rfl (hb hby d5_117) rfl ?_
            show Steps p.tables e below (T168.setTop (mkF m 118 (lcO_15 a p1 p2 w_innermost) [(.int ((own_ush (own_code p1 w_innermost p2) (7 : Int32)).toInt32))])) _
            refine XS.bipush X168.here hx rfl (hb hby d5_118) ?_
            show Steps p.tables e below (T168.setTop (mkF m 120 (lcO_15 a p1 p2 w_innermost) [(.int (127 : Int32)), (.int ((own_ush (own_code p1 w_innermost p2) (7 : Int32)).toInt32))])) _
            refine XS.iand X168.here hx rfl (hb hby d5_120) rfl ?_
            show Steps p.tables e below (T168.setTop (mkF m 121 (lcO_15 a p1 p2 w_innermost) [(.int (((own_ush (own_code p1 w_innermost p2) (7 : Int32)).toInt32) &&& (127 : Int32)))])) _
            refine XS.istore X168.here hx rfl (hb hby d5_121) rfl (l' := (lcO_16 a p1 p2 w_innermost)) rfl ?_
            show Steps p.tables e below (T168.setTop (mkF m 123 (lcO_16 a p1 p2 w_innermost) [])) _
            refine XS.aloadN X168.here hx rfl (hb hby d5_123) rfl rfl ?_
            show Steps p.tables e below (T168.setTop (mkF m 124 (lcO_16 a p1 p2 w_innermost) [(.ref a)])) _
            exact k)
          obtain ⟨T171, X171, e171, st171⟩ := getF X168 hx hZ hown (host := "") (Or.inl (hw _ (List.mem_of_getElem? (i := 18) rfl))) Via.refl e168 F_a_groups (g := (mkF m 124 (lcO_16 a p1 p2 w_innermost) [(.ref a)])) rfl rfl (hb hby d5_124)
          have pre172 : ∀ t, Steps p.tables e below (T171.setTop (mkF m 127 (lcO_16 a p1 p2 w_innermost) [(.ref w_groups)])) t → Steps p.tables e below (s₁.setTop (entryFrame m #[(.ref a), (.int p1), (.int p2)] 8)) t := fun t k => pre170 t (st171 t k)
          have pre173 : ∀ t, Steps p.tables e below (T171.setTop (mkF m 129 (lcO_16 a p1 p2 w_innermost) [(.ref a), (.ref a), (.ref w_groups)])) t → Steps p.tables e below (s₁.setTop (entryFrame m #[(.ref a), (.int p1), (.int p2)] 8)) t := fun t k => pre172 t (by
            show Steps p.tables e below (T171.setTop (mkF m 127 (lcO_16 a p1 p2 w_innermost) [(.ref w_groups)])) _
            refine XS.aloadN X171.here hx rfl (hb hby d5_127) rfl rfl ?_
            show Steps p.tables e below (T171.setTop (mkF m 128 (lcO_16 a p1 p2 w_innermost) [(.ref a), (.ref w_groups)])) _
            refine XS.dup X171.here hx rfl (hb hby d5_128) rfl rfl ?_
            show Steps p.tables e below (T171.setTop (mkF m 129 (lcO_16 a p1 p2 w_innermost) [(.ref a), (.ref a), (.ref w_groups)])) _
            exact k)
          obtain ⟨T174, X174, e174, st174⟩ := getF X171 hx hZ hown (host := "") (Or.inl (hw _ (List.mem_of_getElem? (i := 27) rfl))) Via.refl e171 F_a_size (g := (mkF m 129 (lcO_16 a p1 p2 w_innermost) [(.ref a), (.ref a), (.ref w_groups)])) rfl rfl (hb hby d5_129)
          have pre175 : ∀ t, Steps p.tables e below (T174.setTop (mkF m 132 (lcO_16 a p1 p2 w_innermost) [(.int (own_sk w_size 2)), (.ref a), (.ref w_groups)])) t → Steps p.tables e below (s₁.setTop (entryFrame m #[(.ref a), (.int p1), (.int p2)] 8)) t := fun t k => pre173 t (st174 t k)
          have pre176 : ∀ t, Steps p.tables e below (T174.setTop (mkF m 135 (lcO_16 a p1 p2 w_innermost) [(.int (own_sk w_size 3)), (.ref a), (.int (own_sk w_size 2)), (.ref w_groups)])) t → Steps p.tables e below (s₁.setTop (entryFrame m #[(.ref a), (.int p1), (.int p2)] 8)) t := fun t k => pre175 t (by
            show Steps p.tables e below (T174.setTop (mkF m 132 (lcO_16 a p1 p2 w_innermost) [(.int (own_sk w_size 2)), (.ref a), (.ref w_groups)])) _
            refine XS.dupX1 X174.here hx rfl (hb hby d5_132) rfl rfl rfl ?_
            show Steps p.tables e below (T174.setTop (mkF m 133 (lcO_16 a p1 p2 w_innermost) [(.int (own_sk w_size 2)), (.ref a), (.int (own_sk w_size 2)), (.ref w_groups)])) _
            refine XS.iconst X174.here hx rfl (hb hby d5_133) ?_
            show Steps p.tables e below (T174.setTop (mkF m 134 (lcO_16 a p1 p2 w_innermost) [(.int (1 : Int32)), (.int (own_sk w_size 2)), (.ref a), (.int (own_sk w_size 2)), (.ref w_groups)])) _
            refine XS.iadd X174.here hx rfl (hb hby d5_134) rfl ?_
            show Steps p.tables e below (T174.setTop (mkF m 135 (lcO_16 a p1 p2 w_innermost) [(.int (own_sk w_size 3)), (.ref a), (.int (own_sk w_size 2)), (.ref w_groups)])) _
            exact k)
          obtain ⟨T177, h177, X177, e177, W177, st177⟩ := putF X174 hx hZ hown (host := "") (Or.inl (hw _ (List.mem_of_getElem? (i := 27) rfl))) Via.refl e174 F_a_size E_a (Or.inl (hw _ (List.mem_of_getElem? (i := 28) rfl))) (hw _ (List.mem_of_getElem? (i := 9) rfl)) (ty := .int) (by decide) rfl rfl (g := (mkF m 135 (lcO_16 a p1 p2 w_innermost) [(.int (own_sk w_size 3)), (.ref a), (.int (own_sk w_size 2)), (.ref w_groups)])) rfl rfl (hb hby d5_135)
          have F_a_size : Fld Z h177 a "com/example/mensura/mensura/parser/OpenParentheses" "size" "I" (.int (own_sk w_size 3)) := F_a_size.same W177
          have E_a := E_a.wr W177
          have F_a_groups := F_a_groups.other W177 (Or.inr (slot_ne (Or.inl (hw _ (List.mem_of_getElem? (i := 19) rfl))) (Or.inl (hw _ (List.mem_of_getElem? (i := 28) rfl))) (by decide) (t := (.array .byte)) (t' := .int) (by decide) (by decide)))
          have F_a_innermost := F_a_innermost.other W177 (Or.inr (slot_ne (Or.inl (hw _ (List.mem_of_getElem? (i := 21) rfl))) (Or.inl (hw _ (List.mem_of_getElem? (i := 28) rfl))) (by decide) (t := .int) (t' := .int) (by decide) (by decide)))
          have F_a_depth := F_a_depth.other W177 (Or.inr (slot_ne (Or.inl (hw _ (List.mem_of_getElem? (i := 30) rfl))) (Or.inl (hw _ (List.mem_of_getElem? (i := 28) rfl))) (by decide) (t := .int) (t' := .int) (by decide) (by decide)))
          have A_w_groups := A_w_groups.other W177 (Ne.symm ne_a_w_groups)
          have K := K.wr W177 (Or.inl (List.mem_of_getElem? (i := 0) rfl))
          have Z177 : n0 ≤ h177.size := Nat.le_trans Z168 (Keep.of_wr W177).1
          have N177 := Fr.snoc X177 N168 g_a
          have pre178 : ∀ t, Steps p.tables e below (T177.setTop (mkF m 138 (lcO_16 a p1 p2 w_innermost) [(.int (own_sk w_size 2)), (.ref w_groups)])) t → Steps p.tables e below (s₁.setTop (entryFrame m #[(.ref a), (.int p1), (.int p2)] 8)) t := fun t k => pre176 t (st177 t k)
          have pre179 : ∀ t, Steps p.tables e below (T177.setTop (mkF m 159 (lcO_16 a p1 p2 w_innermost) [(.int (own_g1 (own_code p1 w_innermost p2) (7 : Int32))), (.int (own_sk w_size 2)), (.ref w_groups)])) t → Steps p.tables e below (s₁.setTop (entryFrame m #[(.ref a), (.int p1), (.int p2)] 8)) t := fun t k => pre178 t (by
            show Steps p.tables e below (T177.setTop (mkF m 138 (lcO_16 a p1 p2 w_innermost) [(.int (own_sk w_size 2)), (.ref w_groups)])) _
            refine XS.iload X177.here hx rfl (hb hby d5_138) rfl ?_
            show Steps p.tables e below (T177.setTop (mkF m 140 (lcO_16 a p1 p2 w_innermost) [(.int (1 : Int32)), (.int (own_sk w_size 2)), (.ref w_groups)])) _
            refine XS.iload X177.here hx rfl (hb hby d5_140) rfl ?_
            show Steps p.tables e below (T177.setTop (mkF m 142 (lcO_16 a p1 p2 w_innermost) [(.int (4 : Int32)), (.int (1 : Int32)), (.int (own_sk w_size 2)), (.ref w_groups)])) _
            refine XS.iconst X177.here hx rfl (hb hby d5_142) ?_
            show Steps p.tables e below (T177.setTop (mkF m 143 (lcO_16 a p1 p2 w_innermost) [(.int (1 : Int32)), (.int (4 : Int32)), (.int (1 : Int32)), (.int (own_sk w_size 2)), (.ref w_groups)])) _
            refine XS.isub X177.here hx rfl (hb hby d5_143) rfl ?_
            show Steps p.tables e below (T177.setTop (mkF m 144 (lcO_16 a p1 p2 w_innermost) [(.int (3 : Int32)), (.int (1 : Int32)), (.int (own_sk w_size 2)), (.ref w_groups)])) _
            refine XS.icmpYes X177.here hx rfl (pc0 := 144) (pc' := 152) rfl (hb hby d5_144) rfl (feq (by decide)).2 (by decide) (by decide) ?_
            show Steps p.tables e below (T177.setTop (mkF m 152 (lcO_16 a p1 p2 w_innermost) [(.int (own_sk w_size 2)), (.ref w_groups)])) _
            refine XS.iload X177.here hx rfl (hb hby d5_152) rfl ?_
            show Steps p.tables e below (T177.setTop (mkF m 154 (lcO_16 a p1 p2 w_innermost) [(.int (((own_ush (own_code p1 w_innermost p2) (7 : Int32)).toInt32) &&& (127 : Int32))), (.int (own_sk w_size 2)), (.ref w_groups)])) _
            refine XS.sipush X177.here hx rfl (hb hby d5_154) ?_
            show Steps p.tables e below (T177.setTop (mkF m 157 (lcO_16 a p1 p2 w_innermost) [(.int (128 : Int32)), (.int (((own_ush (own_code p1 w_innermost p2) (7 : Int32)).toInt32) &&& (127 : Int32))), (.int (own_sk w_size 2)), (.ref w_groups)])) _
            refine XS.ior X177.here hx rfl (hb hby d5_157) rfl ?_
            show Steps p.tables e below (T177.setTop (mkF m 158 (lcO_16 a p1 p2 w_innermost) [(.int ((((own_ush (own_code p1 w_innermost p2) (7 : Int32)).toInt32) &&& (127 : Int32)) ||| (128 : Int32))), (.int (own_sk w_size 2)), (.ref w_groups)])) _
            refine XS.i2b X177.here hx rfl (hb hby d5_158) rfl ?_
            show Steps p.tables e below (T177.setTop (mkF m 159 (lcO_16 a p1 p2 w_innermost) [(.int (own_g1 (own_code p1 w_innermost p2) (7 : Int32))), (.int (own_sk w_size 2)), (.ref w_groups)])) _
            exact k)
          obtain ⟨cl180, Ar180, Sz180, Hf180⟩ := A_w_groups
          obtain ⟨T180, h180, X180, e180, W180, st180⟩ := stB X177 hx hZ e177 Ar180 (j := (own_sk w_size 2)) (own_inb Sz180 (own_skb hs 2 (by decide))) (g := (mkF m 159 (lcO_16 a p1 p2 w_innermost) [(.int (own_g1 (own_code p1 w_innermost p2) (7 : Int32))), (.int (own_sk w_size 2)), (.ref w_groups)])) rfl rfl (hb hby d5_159)
          have A_w_groups : own_A Z h180 w_groups .byte 16 (own_put (own_put (own_put f (w_size).toNatClampNeg (nar .byte (own_g0 (own_code p1 w_innermost p2) (21 : Int32)))) ((own_sk w_size 1)).toNatClampNeg (nar .byte (own_g1 (own_code p1 w_innermost p2) (14 : Int32)))) ((own_sk w_size 2)).toNatClampNeg (nar .byte (own_g1 (own_code p1 w_innermost p2) (7 : Int32)))) := own_A.set Ar180 Sz180 Hf180 W180
          have E_a := E_a.wr W180
          have F_a_groups := F_a_groups.other W180 (Or.inl ne_a_w_groups)
          have F_a_size := F_a_size.other W180 (Or.inl ne_a_w_groups)
          have F_a_innermost := F_a_innermost.other W180 (Or.inl ne_a_w_groups)
          have F_a_depth := F_a_depth.other W180 (Or.inl ne_a_w_groups)
          have K := K.wr W180 (Or.inl (List.mem_of_getElem? (i := 1) rfl))
          have Z180 : n0 ≤ h180.size := Nat.le_trans Z177 (Keep.of_wr W180).1
          have N180 := Fr.snoc X180 N177 g_w_groups
          have pre181 : ∀ t, Steps p.tables e below (T180.setTop (mkF m 160 (lcO_16 a p1 p2 w_innermost) [])) t → Steps p.tables e below (s₁.setTop (entryFrame m #[(.ref a), (.int p1), (.int p2)] 8)) t := fun t k => pre179 t (st180 t k)
          have pre182 : ∀ t, Steps p.tables e below (T180.setTop (mkF m 124 (lcO_18 a p1 p2 w_innermost) [(.ref a)])) t → Steps p.tables e below (s₁.setTop (entryFrame m #[(.ref a), (.int p1), (.int p2)] 8)) t := fun t k => pre181 t (by
            show Steps p.tables e below (T180.setTop (mkF m 160 (lcO_16 a p1 p2 w_innermost) [])) _
            refine XS.iinc X180.here hx rfl (hb hby d5_160) rfl (l' := (lcO_17 a p1 p2 w_innermost)) rfl ?_
            show Steps p.tables e below (T180.setTop (mkF m 163 (lcO_17 a p1 p2 w_innermost) [])) _
            refine XS.goto X180.here hx rfl (pc0 := 163) (pc' := 105) rfl (hb hby d5_163) (by decide) (by decide) ?_
            show Steps p.tables e below (T180.setTop (mkF m 105 (lcO_17 a p1 p2 w_innermost) [])) _
            refine XS.iload X180.here hx rfl (hb hby d5_105) rfl ?_
            show Steps p.tables e below (T180.setTop (mkF m 107 (lcO_17 a p1 p2 w_innermost) [(.int (0 : Int32))])) _
            refine XS.ifNo X180.here hx rfl (hb hby d5_107) rfl ((if0 _ _).trans (flt (by decide)).1) ?_
            show Steps p.tables e below (T180.setTop (mkF m 110 (lcO_17 a p1 p2 w_innermost) [])) _
            refine XS.lloadN X180.here hx rfl (hb hby d5_110) rfl ?_
            show Steps p.tables e below (T180.setTop (mkF m 111 (lcO_17 a p1 p2 w_innermost) [(.long (own_code p1 w_innermost p2))])) _
            refine XS.bipush X180.here hx rfl (hb hby d5_111) ?_
            show Steps p.tables e below (T180.setTop (mkF m 113 (lcO_17 a p1 p2 w_innermost) [(.int (7 : Int32)), (.long (own_code p1 w_innermost p2))])) _
            refine XS.iload X180.here hx rfl (hb hby d5_113) rfl ?_
            show Steps p.tables e below (T180.setTop (mkF m 115 (lcO_17 a p1 p2 w_innermost) [(.int (0 : Int32)), (.int (7 : Int32)), (.long (own_code p1 w_innermost p2))])) _
            refine XS.imul X180.here hx rfl (hb hby d5_115) rfl ?_
            show Steps p.tables e below (T180.setTop (mkF m 116 (lcO_17 a p1 p2 w_innermost) [(.int (0 : Int32)), (.long (own_code p1 w_innermost p2))])) _
            refine XS.lushr X180.here hx rfl (hb hby d5_116) rfl ?_
            show Steps p.tables e below (T180.setTop (mkF m 117 (lcO_17 a p1 p2 w_innermost) [(.long (own_ush (own_code p1 w_innermost p2) (0 : Int32)))])) _
            refine XS.l2i X180.here hx rfl (hb hby d5_117) rfl ?_
            show Steps p.tables e below (T180.setTop (mkF m 118 (lcO_17 a p1 p2 w_innermost) [(.int ((own_ush (own_code p1 w_innermost p2) (0 : Int32)).toInt32))])) _
            refine XS.bipush X180.here hx rfl (hb hby d5_118) ?_
            show Steps p.tables e below (T180.setTop (mkF m 120 (lcO_17 a p1 p2 w_innermost) [(.int (127 : Int32)), (.int ((own_ush (own_code p1 w_innermost p2) (0 : Int32)).toInt32))])) _
            refine XS.iand X180.here hx rfl (hb hby d5_120) rfl ?_
            show Steps p.tables e below (T180.setTop (mkF m 121 (lcO_17 a p1 p2 w_innermost) [(.int (((own_ush (own_code p1 w_innermost p2) (0 : Int32)).toInt32) &&& (127 : Int32)))])) _
            refine XS.istore X180.here hx rfl (hb hby d5_121) rfl (l' := (lcO_18 a p1 p2 w_innermost)) rfl ?_
            show Steps p.tables e below (T180.setTop (mkF m 123 (lcO_18 a p1 p2 w_innermost) [])) _
            refine XS.aloadN X180.here hx rfl (hb hby d5_123) rfl rfl ?_
            show Steps p.tables e below (T180.setTop (mkF m 124 (lcO_18 a p1 p2 w_innermost) [(.ref a)])) _
            exact k)
          obtain ⟨T183, X183, e183, st183⟩ := getF X180 hx hZ hown (host := "") (Or.inl (hw _ (List.mem_of_getElem? (i := 18) rfl))) Via.refl e180 F_a_groups (g := (mkF m 124 (lcO_18 a p1 p2 w_innermost) [(.ref a)])) rfl rfl (hb hby d5_124)
          have pre184 : ∀ t, Steps p.tables e below (T183.setTop (mkF m 127 (lcO_18 a p1 p2 w_innermost) [(.ref w_groups)])) t → Steps p.tables e below (s₁.setTop (entryFrame m #[(.ref a), (.int p1), (.int p2)] 8)) t := fun t k => pre182 t (st183 t k)
          have pre185 : ∀ t, Steps p.tables e below (T183.setTop (mkF m 129 (lcO_18 a p1 p2 w_innermost) [(.ref a), (.ref a), (.ref w_groups)])) t → Steps p.tables e below (s₁.setTop (entryFrame m #[(.ref a), (.int p1), (.int p2)] 8)) t := fun t k => pre184 t (by
            show Steps p.tables e below (T183.setTop (mkF m 127 (lcO_18 a p1 p2 w_innermost) [(.ref w_groups)])) _
            refine XS.aloadN X183.here hx rfl (hb hby d5_127) rfl rfl ?_
            show Steps p.tables e below (T183.setTop (mkF m 128 (lcO_18 a p1 p2 w_innermost) [(.ref a), (.ref w_groups)])) _
            refine XS.dup X183.here hx rfl (hb hby d5_128) rfl rfl ?_
            show Steps p.tables e below (T183.setTop (mkF m 129 (lcO_18 a p1 p2 w_innermost) [(.ref a), (.ref a), (.ref w_groups)])) _
            exact k)
          obtain ⟨T186, X186, e186, st186⟩ := getF X183 hx hZ hown (host := "") (Or.inl (hw _ (List.mem_of_getElem? (i := 27) rfl))) Via.refl e183 F_a_size (g := (mkF m 129 (lcO_18 a p1 p2 w_innermost) [(.ref a), (.ref a), (.ref w_groups)])) rfl rfl (hb hby d5_129)
          have pre187 : ∀ t, Steps p.tables e below (T186.setTop (mkF m 132 (lcO_18 a p1 p2 w_innermost) [(.int (own_sk w_size 3)), (.ref a), (.ref w_groups)])) t → Steps p.tables e below (s₁.setTop (entryFrame m #[(.ref a), (.int p1), (.int p2)] 8)) t := fun t k => pre185 t (st186 t k)
          have pre188 : ∀ t, Steps p.tables e below (T186.setTop (mkF m 135 (lcO_18 a p1 p2 w_innermost) [(.int (own_sk w_size 4)), (.ref a), (.int (own_sk w_size 3)), (.ref w_groups)])) t → Steps p.tables e below (s₁.setTop (entryFrame m #[(.ref a), (.int p1), (.int p2)] 8)) t := fun t k => pre187 t (by
            show Steps p.tables e below (T186.setTop (mkF m 132 (lcO_18 a p1 p2 w_innermost) [(.int (own_sk w_size 3)), (.ref a), (.ref w_groups)])) _
            refine XS.dupX1 X186.here hx rfl (hb hby d5_132) rfl rfl rfl ?_
            show Steps p.tables e below (T186.setTop (mkF m 133 (lcO_18 a p1 p2 w_innermost) [(.int (own_sk w_size 3)), (.ref a), (.int (own_sk w_size 3)), (.ref w_groups)])) _
            refine XS.iconst X186.here hx rfl (hb hby d5_133) ?_
            show Steps p.tables e below (T186.setTop (mkF m 134 (lcO_18 a p1 p2 w_innermost) [(.int (1 : Int32)), (.int (own_sk w_size 3)), (.ref a), (.int (own_sk w_size 3)), (.ref w_groups)])) _
            refine XS.iadd X186.here hx rfl (hb hby d5_134) rfl ?_
            show Steps p.tables e below (T186.setTop (mkF m 135 (lcO_18 a p1 p2 w_innermost) [(.int (own_sk w_size 4)), (.ref a), (.int (own_sk w_size 3)), (.ref w_groups)])) _
            exact k)
          obtain ⟨T189, h189, X189, e189, W189, st189⟩ := putF X186 hx hZ hown (host := "") (Or.inl (hw _ (List.mem_of_getElem? (i := 27) rfl))) Via.refl e186 F_a_size E_a (Or.inl (hw _ (List.mem_of_getElem? (i := 28) rfl))) (hw _ (List.mem_of_getElem? (i := 9) rfl)) (ty := .int) (by decide) rfl rfl (g := (mkF m 135 (lcO_18 a p1 p2 w_innermost) [(.int (own_sk w_size 4)), (.ref a), (.int (own_sk w_size 3)), (.ref w_groups)])) rfl rfl (hb hby d5_135)
          have F_a_size : Fld Z h189 a "com/example/mensura/mensura/parser/OpenParentheses" "size" "I" (.int (own_sk w_size 4)) := F_a_size.same W189
          have E_a := E_a.wr W189
          have F_a_groups := F_a_groups.other W189 (Or.inr (slot_ne (Or.inl (hw _ (List.mem_of_getElem? (i := 19) rfl))) (Or.inl (hw _ (List.mem_of_getElem? (i := 28) rfl))) (by decide) (t := (.array .byte)) (t' := .int) (by decide) (by decide)))
          have F_a_innermost := F_a_innermost.other W189 (Or.inr (slot_ne (Or.inl (hw _ (List.mem_of_getElem? (i := 21) rfl))) (Or.inl (hw _ (List.mem_of_getElem? (i := 28) rfl))) (by decide) (t := .int) (t' := .int) (by decide) (by decide)))
          have F_a_depth := F_a_depth.other W189 (Or.inr (slot_ne (Or.inl (hw _ (List.mem_of_getElem? (i := 30) rfl))) (Or.inl (hw _ (List.mem_of_getElem? (i := 28) rfl))) (by decide) (t := .int) (t' := .int) (by decide) (by decide)))
          have A_w_groups := A_w_groups.other W189 (Ne.symm ne_a_w_groups)
          have K := K.wr W189 (Or.inl (List.mem_of_getElem? (i := 0) rfl))
          have Z189 : n0 ≤ h189.size := Nat.le_trans Z180 (Keep.of_wr W189).1
          have N189 := Fr.snoc X189 N180 g_a
          have pre190 : ∀ t, Steps p.tables e below (T189.setTop (mkF m 138 (lcO_18 a p1 p2 w_innermost) [(.int (own_sk w_size 3)), (.ref w_groups)])) t → Steps p.tables e below (s₁.setTop (entryFrame m #[(.ref a), (.int p1), (.int p2)] 8)) t := fun t k => pre188 t (st189 t k)
          have pre191 : ∀ t, Steps p.tables e below (T189.setTop (mkF m 159 (lcO_18 a p1 p2 w_innermost) [(.int (own_g1 (own_code p1 w_innermost p2) (0 : Int32))), (.int (own_sk w_size 3)), (.ref w_groups)])) t → Steps p.tables e below (s₁.setTop (entryFrame m #[(.ref a), (.int p1), (.int p2)] 8)) t := fun t k => pre190 t (by
            show Steps p.tables e below (T189.setTop (mkF m 138 (lcO_18 a p1 p2 w_innermost) [(.int (own_sk w_size 3)), (.ref w_groups)])) _
            refine XS.iload X189.here hx rfl (hb hby d5_138) rfl ?_
            show Steps p.tables e below (T189.setTop (mkF m 140 (lcO_18 a p1 p2 w_innermost) [(.int (0 : Int32)), (.int (own_sk w_size 3)), (.ref w_groups)])) _
            refine XS.iload X189.here hx rfl (hb hby d5_140) rfl ?_
            show Steps p.tables e below (T189.setTop (mkF m 142 (lcO_18 a p1 p2 w_innermost) [(.int (4 : Int32)), (.int (0 : Int32)), (.int (own_sk w_size 3)), (.ref w_groups)])) _
            refine XS.iconst X189.here hx rfl (hb hby d5_142) ?_
            show Steps p.tables e below (T189.setTop (mkF m 143 (lcO_18 a p1 p2 w_innermost) [(.int (1 : Int32)), (.int (4 : Int32)), (.int (0 : Int32)), (.int (own_sk w_size 3)), (.ref w_groups)])) _
            refine XS.isub X189.here hx rfl (hb hby d5_143) rfl ?_
            show Steps p.tables e below (T189.setTop (mkF m 144 (lcO_18 a p1 p2 w_innermost) [(.int (3 : Int32)), (.int (0 : Int32)), (.int (own_sk w_size 3)), (.ref w_groups)])) _
            refine XS.icmpYes X189.here hx rfl (pc0 := 144) (pc' := 152) rfl (hb hby d5_144) rfl (feq (by decide)).2 (by decide) (by decide) ?_
            show Steps p.tables e below (T189.setTop (mkF m 152 (lcO_18 a p1 p2 w_innermost) [(.int (own_sk w_size 3)), (.ref w_groups)])) _
            refine XS.iload X189.here hx rfl (hb hby d5_152) rfl ?_
            show Steps p.tables e below (T189.setTop (mkF m 154 (lcO_18 a p1 p2 w_innermost) [(.int (((own_ush (own_code p1 w_innermost p2) (0 : Int32)).toInt32) &&& (127 : Int32))), (.int (own_sk w_size 3)), (.ref w_groups)])) _
            refine XS.sipush X189.here hx rfl (hb hby d5_154) ?_
            show Steps p.tables e below (T189.setTop (mkF m 157 (lcO_18 a p1 p2 w_innermost) [(.int (128 : Int32)), (.int (((own_ush (own_code p1 w_innermost p2) (0 : Int32)).toInt32) &&& (127 : Int32))), (.int (own_sk w_size 3)), (.ref w_groups)])) _
            refine XS.ior X189.here hx rfl (hb hby d5_157) rfl ?_
            show Steps p.tables e below (T189.setTop (mkF m 158 (lcO_18 a p1 p2 w_innermost) [(.int ((((own_ush (own_code p1 w_innermost p2) (0 : Int32)).toInt32) &&& (127 : Int32)) ||| (128 : Int32))), (.int (own_sk w_size 3)), (.ref w_groups)])) _
            refine XS.i2b X189.here hx rfl (hb hby d5_158) rfl ?_
            show Steps p.tables e below (T189.setTop (mkF m 159 (lcO_18 a p1 p2 w_innermost) [(.int (own_g1 (own_code p1 w_innermost p2) (0 : Int32))), (.int (own_sk w_size 3)), (.ref w_groups)])) _
            exact k)
          obtain ⟨cl192, Ar192, Sz192, Hf192⟩ := A_w_groups
          obtain ⟨T192, h192, X192, e192, W192, st192⟩ := stB X189 hx hZ e189 Ar192 (j := (own_sk w_size 3)) (own_inb Sz192 (own_skb hs 3 (by decide))) (g := (mkF m 159 (lcO_18 a p1 p2 w_innermost) [(.int (own_g1 (own_code p1 w_innermost p2) (0 : Int32))), (.int (own_sk w_size 3)), (.ref w_groups)])) rfl rfl (hb hby d5_159)
          have A_w_groups : own_A Z h192 w_groups .byte 16 (own_put (own_put (own_put (own_put f (w_size).toNatClampNeg (nar .byte (own_g0 (own_code p1 w_innermost p2) (21 : Int32)))) ((own_sk w_size 1)).toNatClampNeg (nar .byte (own_g1 (own_code p1 w_innermost p2) (14 : Int32)))) ((own_sk w_size 2)).toNatClampNeg (nar .byte (own_g1 (own_code p1 w_innermost p2) (7 : Int32)))) ((own_sk w_size 3)).toNatClampNeg (nar .byte (own_g1 (own_code p1 w_innermost p2) (0 : Int32)))) := own_A.set Ar192 Sz192 Hf192 W192
          have E_a := E_a.wr W192
          have F_a_groups := F_a_groups.other W192 (Or.inl ne_a_w_groups)
          have F_a_size := F_a_size.other W192 (Or.inl ne_a_w_groups)
          have F_a_innermost := F_a_innermost.other W192 (Or.inl ne_a_w_groups)
          have F_a_depth := F_a_depth.other W192 (Or.inl ne_a_w_groups)
          have K := K.wr W192 (Or.inl (List.mem_of_getElem? (i := 1) rfl))
          have Z192 : n0 ≤ h192.size := Nat.le_trans Z189 (Keep.of_wr W192).1
          have N192 := Fr.snoc X192 N189 g_w_groups
          have pre193 : ∀ t, Steps p.tables e below (T192.setTop (mkF m 160 (lcO_18 a p1 p2 w_innermost) [])) t → Steps p.tables e below (s₁.setTop (entryFrame m #[(.ref a), (.int p1), (.int p2)] 8)) t := fun t k => pre191 t (st192 t k)
          have pre194 : ∀ t, Steps p.tables e below (T192.setTop (mkF m 168 (lcO_19 a p1 p2 w_innermost) [(.int p1), (.ref a)])) t → Steps p.tables e below (s₁.setTop (entryFrame m #[(.ref a), (.int p1), (.int p2)] 8)) t := fun t k => pre193 t (by
            show Steps p.tables e below (T192.setTop (mkF m 160 (lcO_18 a p1 p2 w_innermost) [])) _
            refine XS.iinc X192.here hx rfl (hb hby d5_160) rfl (l' := (lcO_19 a p1 p2 w_innermost)) rfl ?_
            show Steps p.tables e below (T192.setTop (mkF m 163 (lcO_19 a p1 p2 w_innermost) [])) _
            refine XS.goto X192.here hx rfl (pc0 := 163) (pc' := 105) rfl (hb hby d5_163) (by decide) (by decide) ?_
            show Steps p.tables e below (T192.setTop (mkF m 105 (lcO_19 a p1 p2 w_innermost) [])) _
            refine XS.iload X192.here hx rfl (hb hby d5_105) rfl ?_
            show Steps p.tables e below (T192.setTop (mkF m 107 (lcO_19 a p1 p2 w_innermost) [(.int (-1 : Int32))])) _
            refine XS.ifYes X192.here hx rfl (pc0 := 107) (pc' := 166) rfl (hb hby d5_107) rfl ((if0 _ _).trans (tlt (by decide)).1) (by decide) (by decide) ?_
            show Steps p.tables e below (T192.setTop (mkF m 166 (lcO_19 a p1 p2 w_innermost) [])) _
            refine XS.aloadN X192.here hx rfl (hb hby d5_166) rfl rfl ?_
            show Steps p.tables e below (T192.setTop (mkF m 167 (lcO_19 a p1 p2 w_innermost) [(.ref a)])) _
            refine XS.iloadN X192.here hx rfl (hb hby d5_167) rfl ?_
            show Steps p.tables e below (T192.setTop (mkF m 168 (lcO_19 a p1 p2 w_innermost) [(.int p1), (.ref a)])) _
            exact k)
          obtain ⟨T195, h195, X195, e195, W195, st195⟩ := putF X192 hx hZ hown (host := "") (Or.inl (hw _ (List.mem_of_getElem? (i := 20) rfl))) Via.refl e192 F_a_innermost E_a (Or.inl (hw _ (List.mem_of_getElem? (i := 21) rfl))) (hw _ (List.mem_of_getElem? (i := 9) rfl)) (ty := .int) (by decide) rfl rfl (g := (mkF m 168 (lcO_19 a p1 p2 w_innermost) [(.int p1), (.ref a)])) rfl rfl (hb hby d5_168)
          have F_a_innermost : Fld Z h195 a "com/example/mensura/mensura/parser/OpenParentheses" "innermost" "I" (.int p1) := F_a_innermost.same W195
          have E_a := E_a.wr W195
          have F_a_groups := F_a_groups.other W195 (Or.inr (slot_ne (Or.inl (hw _ (List.mem_of_getElem? (i := 19) rfl))) (Or.inl (hw _ (List.mem_of_getElem? (i := 21) rfl))) (by decide) (t := (.array .byte)) (t' := .int) (by decide) (by decide)))
          have F_a_size := F_a_size.other W195 (Or.inr (slot_ne (Or.inl (hw _ (List.mem_of_getElem? (i := 28) rfl))) (Or.inl (hw _ (List.mem_of_getElem? (i := 21) rfl))) (by decide) (t := .int) (t' := .int) (by decide) (by decide)))
          have F_a_depth := F_a_depth.other W195 (Or.inr (slot_ne (Or.inl (hw _ (List.mem_of_getElem? (i := 30) rfl))) (Or.inl (hw _ (List.mem_of_getElem? (i := 21) rfl))) (by decide) (t := .int) (t' := .int) (by decide) (by decide)))
          have A_w_groups := A_w_groups.other W195 (Ne.symm ne_a_w_groups)
          have K := K.wr W195 (Or.inl (List.mem_of_getElem? (i := 0) rfl))
          have Z195 : n0 ≤ h195.size := Nat.le_trans Z192 (Keep.of_wr W195).1
          have N195 := Fr.snoc X195 N192 g_a
          have pre196 : ∀ t, Steps p.tables e below (T195.setTop (mkF m 171 (lcO_19 a p1 p2 w_innermost) [])) t → Steps p.tables e below (s₁.setTop (entryFrame m #[(.ref a), (.int p1), (.int p2)] 8)) t := fun t k => pre194 t (st195 t k)
          have pre197 : ∀ t, Steps p.tables e below (T195.setTop (mkF m 173 (lcO_19 a p1 p2 w_innermost) [(.ref a), (.ref a)])) t → Steps p.tables e below (s₁.setTop (entryFrame m #[(.ref a), (.int p1), (.int p2)] 8)) t := fun t k => pre196 t (by
            show Steps p.tables e below (T195.setTop (mkF m 171 (lcO_19 a p1 p2 w_innermost) [])) _
            refine XS.aloadN X195.here hx rfl (hb hby d5_171) rfl rfl ?_
            show Steps p.tables e below (T195.setTop (mkF m 172 (lcO_19 a p1 p2 w_innermost) [(.ref a)])) _
            refine XS.dup X195.here hx rfl (hb hby d5_172) rfl rfl ?_
            show Steps p.tables e below (T195.setTop (mkF m 173 (lcO_19 a p1 p2 w_innermost) [(.ref a), (.ref a)])) _
            exact k)
          obtain ⟨T198, X198, e198, st198⟩ := getF X195 hx hZ hown (host := "") (Or.inl (hw _ (List.mem_of_getElem? (i := 29) rfl))) Via.refl e195 F_a_depth (g := (mkF m 173 (lcO_19 a p1 p2 w_innermost) [(.ref a), (.ref a)])) rfl rfl (hb hby d5_173)
          have pre199 : ∀ t, Steps p.tables e below (T198.setTop (mkF m 176 (lcO_19 a p1 p2 w_innermost) [(.int w_depth), (.ref a)])) t → Steps p.tables e below (s₁.setTop (entryFrame m #[(.ref a), (.int p1), (.int p2)] 8)) t := fun t k => pre197 t (st198 t k)
          have pre200 : ∀ t, Steps p.tables e below (T198.setTop (mkF m 178 (lcO_19 a p1 p2 w_innermost) [(.int (w_depth + (1 : Int32))), (.ref a)])) t → Steps p.tables e below (s₁.setTop (entryFrame m #[(.ref a), (.int p1), (.int p2)] 8)) t := fun t k => pre199 t (by
            show Steps p.tables e below (T198.setTop (mkF m 176 (lcO_19 a p1 p2 w_innermost) [(.int w_depth), (.ref a)])) _
            refine XS.iconst X198.here hx rfl (hb hby d5_176) ?_
            show Steps p.tables e below (T198.setTop (mkF m 177 (lcO_19 a p1 p2 w_innermost) [(.int (1 : Int32)), (.int w_depth), (.ref a)])) _
            refine XS.iadd X198.here hx rfl (hb hby d5_177) rfl ?_
            show Steps p.tables e below (T198.setTop (mkF m 178 (lcO_19 a p1 p2 w_innermost) [(.int (w_depth + (1 : Int32))), (.ref a)])) _
            exact k)
          obtain ⟨T201, h201, X201, e201, W201, st201⟩ := putF X198 hx hZ hown (host := "") (Or.inl (hw _ (List.mem_of_getElem? (i := 29) rfl))) Via.refl e198 F_a_depth E_a (Or.inl (hw _ (List.mem_of_getElem? (i := 30) rfl))) (hw _ (List.mem_of_getElem? (i := 9) rfl)) (ty := .int) (by decide) rfl rfl (g := (mkF m 178 (lcO_19 a p1 p2 w_innermost) [(.int (w_depth + (1 : Int32))), (.ref a)])) rfl rfl (hb hby d5_178)
          have F_a_depth : Fld Z h201 a "com/example/mensura/mensura/parser/OpenParentheses" "depth" "I" (.int (w_depth + (1 : Int32))) := F_a_depth.same W201
          have E_a := E_a.wr W201
          have F_a_groups := F_a_groups.other W201 (Or.inr (slot_ne (Or.inl (hw _ (List.mem_of_getElem? (i := 19) rfl))) (Or.inl (hw _ (List.mem_of_getElem? (i := 30) rfl))) (by decide) (t := (.array .byte)) (t' := .int) (by decide) (by decide)))
          have F_a_size := F_a_size.other W201 (Or.inr (slot_ne (Or.inl (hw _ (List.mem_of_getElem? (i := 28) rfl))) (Or.inl (hw _ (List.mem_of_getElem? (i := 30) rfl))) (by decide) (t := .int) (t' := .int) (by decide) (by decide)))
          have F_a_innermost := F_a_innermost.other W201 (Or.inr (slot_ne (Or.inl (hw _ (List.mem_of_getElem? (i := 21) rfl))) (Or.inl (hw _ (List.mem_of_getElem? (i := 30) rfl))) (by decide) (t := .int) (t' := .int) (by decide) (by decide)))
          have A_w_groups := A_w_groups.other W201 (Ne.symm ne_a_w_groups)
          have K := K.wr W201 (Or.inl (List.mem_of_getElem? (i := 0) rfl))
          have Z201 : n0 ≤ h201.size := Nat.le_trans Z195 (Keep.of_wr W201).1
          have N201 := Fr.snoc X201 N195 g_a
          have pre202 : ∀ t, Steps p.tables e below (T201.setTop (mkF m 181 (lcO_19 a p1 p2 w_innermost) [])) t → Steps p.tables e below (s₁.setTop (entryFrame m #[(.ref a), (.int p1), (.int p2)] 8)) t := fun t k => pre200 t (st201 t k)
          obtain ⟨fs, hr, hrun, hended, hW, hsame⟩ := X201.leave (v := none) (fun _ => rfl) hlk
          refine ⟨_, _, pre202 _ ?_, hrun, hended, _, _, rfl, ?_, ⟨_, rfl⟩, hW, hsame.mono (by decide) (by decide)⟩
          · show Steps p.tables e below (T201.setTop (mkF m 181 (lcO_19 a p1 p2 w_innermost) [])) _
            exact X201.returnOut hx Bd.returns (hb hby d5_181) hr
          · show QO Z a p1 p2 f w_groups w_size w_innermost w_depth h0 n0 _ T201.heap _
            rw [e201]
            have hm : own_m (own_code p1 w_innermost p2) = 4 := by simp only [own_m, if_neg hc33_8, if_neg hc33_39, if_neg hc33_82, if_pos hc33_137]
            exact ⟨rfl, N201, K, ⟨_, A_w_groups, own_push4 f w_size (own_code p1 w_innermost p2) hm hs⟩, F_a_groups, (by rw [hm]; exact F_a_size), F_a_innermost, F_a_depth⟩
        · have pre203 : ∀ t, Steps p.tables e below (T2.setTop (mkF m 43 #[.val (.ref a), .val (.int p1), .val (.int p2), .val (.long (own_code p1 w_innermost p2)), .second, .val (.int (5 : Int32)), .unset, .unset] [(.ref a)])) t → Steps p.tables e below (s₁.setTop (entryFrame m #[(.ref a), (.int p1), (.int p2)] 8)) t := fun t k => pre136 t (by
            show Steps p.tables e below (T2.setTop (mkF m 33 #[.val (.ref a), .val (.int p1), .val (.int p2), .val (.long (own_code p1 w_innermost p2)), .second, .val (.int (4 : Int32)), .unset, .unset] [(.int (lcmpW (own_ush (own_code p1 w_innermost p2) (28 : Int32)) (0 : Int64)))])) _
            refine XS.ifNo X2.here hx rfl (hb hby d5_33) rfl ((if0 _ _).trans (feq (fun q => hc33_137 ((lw_eq _ _).mp q))).1) ?_
            show Steps p.tables e below (T2.setTop (mkF m 36 #[.val (.ref a), .val (.int p1), .val (.int p2), .val (.long (own_code p1 w_innermost p2)), .second, .val (.int (4 : Int32)), .unset, .unset] [])) _
            refine XS.iinc X2.here hx rfl (hb hby d5_36) rfl (l' := #[.val (.ref a), .val (.int p1), .val (.int p2), .val (.long (own_code p1 w_innermost p2)), .second, .val (.int (5 : Int32)), .unset, .unset]) rfl ?_
            show Steps p.tables e below (T2.setTop (mkF m 39 #[.val (.ref a), .val (.int p1), .val (.int p2), .val (.long (own_code p1 w_innermost p2)), .second, .val (.int (5 : Int32)), .unset, .unset] [])) _
            refine XS.goto X2.here hx rfl (pc0 := 39) (pc' := 24) rfl (hb hby d5_39) (by decide) (by decide) ?_
            show Steps p.tables e below (T2.setTop (mkF m 24 #[.val (.ref a), .val (.int p1), .val (.int p2), .val (.long (own_code p1 w_innermost p2)), .second, .val (.int (5 : Int32)), .unset, .unset] [])) _
            refine XS.lloadN X2.here hx rfl (hb hby d5_24) rfl ?_
            show Steps p.tables e below (T2.setTop (mkF m 25 #[.val (.ref a), .val (.int p1), .val (.int p2), .val (.long (own_code p1 w_innermost p2)), .second, .val (.int (5 : Int32)), .unset, .unset] [(.long (own_code p1 w_innermost p2))])) _
            refine XS.bipush X2.here hx rfl (hb hby d5_25) ?_
            show Steps p.tables e below (T2.setTop (mkF m 27 #[.val (.ref a), .val (.int p1), .val (.int p2), .val (.long (own_code p1 w_innermost p2)), .second, .val (.int (5 : Int32)), .unset, .unset] [(.int (7 : Int32)), (.long (own_code p1 w_innermost p2))])) _
            refine XS.iload X2.here hx rfl (hb hby d5_27) rfl ?_
            show Steps p.tables e below (T2.setTop (mkF m 29 #[.val (.ref a), .val (.int p1), .val (.int p2), .val (.long (own_code p1 w_innermost p2)), .second, .val (.int (5 : Int32)), .unset, .unset] [(.int (5 : Int32)), (.int (7 : Int32)), (.long (own_code p1 w_innermost p2))])) _
            refine XS.imul X2.here hx rfl (hb hby d5_29) rfl ?_
            show Steps p.tables e below (T2.setTop (mkF m 30 #[.val (.ref a), .val (.int p1), .val (.int p2), .val (.long (own_code p1 w_innermost p2)), .second, .val (.int (5 : Int32)), .unset, .unset] [(.int (35 : Int32)), (.long (own_code p1 w_innermost p2))])) _
            refine XS.lushr X2.here hx rfl (hb hby d5_30) rfl ?_
            show Steps p.tables e below (T2.setTop (mkF m 31 #[.val (.ref a), .val (.int p1), .val (.int p2), .val (.long (own_code p1 w_innermost p2)), .second, .val (.int (5 : Int32)), .unset, .unset] [(.long (own_ush (own_code p1 w_innermost p2) (35 : Int32)))])) _
            refine XS.lconst X2.here hx rfl (hb hby d5_31) ?_
            show Steps p.tables e below (T2.setTop (mkF m 32 #[.val (.ref a), .val (.int p1), .val (.int p2), .val (.long (own_code p1 w_innermost p2)), .second, .val (.int (5 : Int32)), .unset, .unset] [(.long (0 : Int64)), (.long (own_ush (own_code p1 w_innermost p2) (35 : Int32)))])) _
            refine XS.lcmp X2.here hx rfl (hb hby d5_32) rfl ?_
            show Steps p.tables e below (T2.setTop (mkF m 33 #[.val (.ref a), .val (.int p1), .val (.int p2), .val (.long (own_code p1 w_innermost p2)), .second, .val (.int (5 : Int32)), .unset, .unset] [(.int (lcmpW (own_ush (own_code p1 w_innermost p2) (35 : Int32)) (0 : Int64)))])) _
            refine XS.ifYes X2.here hx rfl (pc0 := 33) (pc' := 42) rfl (hb hby d5_33) rfl ((if0 _ _).trans (teq ((lw_eq _ _).mpr (show (own_ush (own_code p1 w_innermost p2) (35 : Int32)) = (0 : Int64) from own_max hc))).1) (by decide) (by decide) ?_
            show Steps p.tables e below (T2.setTop (mkF m 42 #[.val (.ref a), .val (.int p1), .val (.int p2), .val (.long (own_code p1 w_innermost p2)), .second, .val (.int (5 : Int32)), .unset, .unset] [])) _
            refine XS.aloadN X2.here hx rfl (hb hby d5_42) rfl rfl ?_
            show Steps p.tables e below (T2.setTop (mkF m 43 #[.val (.ref a), .val (.int p1), .val (.int p2), .val (.long (own_code p1 w_innermost p2)), .second, .val (.int (5 : Int32)), .unset, .unset] [(.ref a)])) _
            exact k)
          obtain ⟨T204, X204, e204, st204⟩ := getF X2 hx hZ hown (host := "") (Or.inl (hw _ (List.mem_of_getElem? (i := 18) rfl))) Via.refl e2 F_a_groups (g := (mkF m 43 #[.val (.ref a), .val (.int p1), .val (.int p2), .val (.long (own_code p1 w_innermost p2)), .second, .val (.int (5 : Int32)), .unset, .unset] [(.ref a)])) rfl rfl (hb hby d5_43)
          have pre205 : ∀ t, Steps p.tables e below (T204.setTop (mkF m 46 #[.val (.ref a), .val (.int p1), .val (.int p2), .val (.long (own_code p1 w_innermost p2)), .second, .val (.int (5 : Int32)), .unset, .unset] [(.ref w_groups)])) t → Steps p.tables e below (s₁.setTop (entryFrame m #[(.ref a), (.int p1), (.int p2)] 8)) t := fun t k => pre203 t (st204 t k)
          obtain ⟨cl206, Ar206, Sz206, Hf206⟩ := id A_w_groups
          have pre207 : ∀ t, Steps p.tables e below (T204.setTop (mkF m 47 #[.val (.ref a), .val (.int p1), .val (.int p2), .val (.long (own_code p1 w_innermost p2)), .second, .val (.int (5 : Int32)), .unset, .unset] [(.int (16 : Int32))])) t → Steps p.tables e below (s₁.setTop (entryFrame m #[(.ref a), (.int p1), (.int p2)] 8)) t := fun t k => pre205 t (X204.arraylength hx (by rw [e204]; exact Ar206.1) (State.isArrayOf_alike hZ.alike Ar206.2.1) (g := (mkF m 46 #[.val (.ref a), .val (.int p1), .val (.int p2), .val (.long (own_code p1 w_innermost p2)), .second, .val (.int (5 : Int32)), .unset, .unset] [(.ref w_groups)])) rfl rfl (hb hby d5_46) _ (by rw [own_len Sz206 rfl]; exact k))
          have pre208 : ∀ t, Steps p.tables e below (T204.setTop (mkF m 48 #[.val (.ref a), .val (.int p1), .val (.int p2), .val (.long (own_code p1 w_innermost p2)), .second, .val (.int (5 : Int32)), .unset, .unset] [(.ref a), (.int (16 : Int32))])) t → Steps p.tables e below (s₁.setTop (entryFrame m #[(.ref a), (.int p1), (.int p2)] 8)) t := fun t k => pre207 t (by
            show Steps p.tables e below (T204.setTop (mkF m 47 #[.val (.ref a), .val (.int p1), .val (.int p2), .val (.long (own_code p1 w_innermost p2)), .second, .val (.int (5 : Int32)), .unset, .unset] [(.int (16 : Int32))])) _
            refine XS.aloadN X204.here hx rfl (hb hby d5_47) rfl rfl ?_
            show Steps p.tables e below (T204.setTop (mkF m 48 #[.val (.ref a), .val (.int p1), .val (.int p2), .val (.long (own_code p1 w_innermost p2)), .second, .val (.int (5 : Int32)), .unset, .unset] [(.ref a), (.int (16 : Int32))])) _
            exact k)
          obtain ⟨T209, X209, e209, st209⟩ := getF X204 hx hZ hown (host := "") (Or.inl (hw _ (List.mem_of_getElem? (i := 27) rfl))) Via.refl e204 F_a_size (g := (mkF m 48 #[.val (.ref a), .val (.int p1), .val (.int p2), .val (.long (own_code p1 w_innermost p2)), .second, .val (.int (5 : Int32)), .unset, .unset] [(.ref a), (.int (16 : Int32))])) rfl rfl (hb hby d5_48)
          have pre210 : ∀ t, Steps p.tables e below (T209.setTop (mkF m 51 #[.val (.ref a), .val (.int p1), .val (.int p2), .val (.long (own_code p1 w_innermost p2)), .second, .val (.int (5 : Int32)), .unset, .unset] [(.int w_size), (.int (16 : Int32))])) t → Steps p.tables e below (s₁.setTop (entryFrame m #[(.ref a), (.int p1), (.int p2)] 8)) t := fun t k => pre208 t (st209 t k)
          have pre211 : ∀ t, Steps p.tables e below (T209.setTop (mkF m 124 (lcO_20 a p1 p2 w_innermost) [(.ref a)])) t → Steps p.tables e below (s₁.setTop (entryFrame m #[(.ref a), (.int p1), (.int p2)] 8)) t := fun t k => pre210 t (by
            show Steps p.tables e below (T209.setTop (mkF m 51 #[.val (.ref a), .val (.int p1), .val (.int p2), .val (.long (own_code p1 w_innermost p2)), .second, .val (.int (5 : Int32)), .unset, .unset] [(.int w_size), (.int (16 : Int32))])) _
            refine XS.isub X209.here hx rfl (hb hby d5_51) rfl ?_
            show Steps p.tables e below (T209.setTop (mkF m 52 #[.val (.ref a), .val (.int p1), .val (.int p2), .val (.long (own_code p1 w_innermost p2)), .second, .val (.int (5 : Int32)), .unset, .unset] [(.int ((16 : Int32) - w_size))])) _
            refine XS.iload X209.here hx rfl (hb hby d5_52) rfl ?_
            show Steps p.tables e below (T209.setTop (mkF m 54 #[.val (.ref a), .val (.int p1), .val (.int p2), .val (.long (own_code p1 w_innermost p2)), .second, .val (.int (5 : Int32)), .unset, .unset] [(.int (5 : Int32)), (.int ((16 : Int32) - w_size))])) _
            refine XS.icmpYes X209.here hx rfl (pc0 := 54) (pc' := 99) rfl (hb hby d5_54) rfl (flt (show ¬ (((16 : Int32) - w_size) < (5 : Int32)) from own_fit hs (by decide))).2.1 (by decide) (by decide) ?_
            show Steps p.tables e below (T209.setTop (mkF m 99 #[.val (.ref a), .val (.int p1), .val (.int p2), .val (.long (own_code p1 w_innermost p2)), .second, .val (.int (5 : Int32)), .unset, .unset] [])) _
            refine XS.iload X209.here hx rfl (hb hby d5_99) rfl ?_
            show Steps p.tables e below (T209.setTop (mkF m 101 #[.val (.ref a), .val (.int p1), .val (.int p2), .val (.long (own_code p1 w_innermost p2)), .second, .val (.int (5 : Int32)), .unset, .unset] [(.int (5 : Int32))])) _
            refine XS.iconst X209.here hx rfl (hb hby d5_101) ?_
            show Steps p.tables e below (T209.setTop (mkF m 102 #[.val (.ref a), .val (.int p1), .val (.int p2), .val (.long (own_code p1 w_innermost p2)), .second, .val (.int (5 : Int32)), .unset, .unset] [(.int (1 : Int32)), (.int (5 : Int32))])) _
            refine XS.isub X209.here hx rfl (hb hby d5_102) rfl ?_
            show Steps p.tables e below (T209.setTop (mkF m 103 #[.val (.ref a), .val (.int p1), .val (.int p2), .val (.long (own_code p1 w_innermost p2)), .second, .val (.int (5 : Int32)), .unset, .unset] [(.int (4 : Int32))])) _
            refine XS.istore X209.here hx rfl (hb hby d5_103) rfl (l' := #[.val (.ref a), .val (.int p1), .val (.int p2), .val (.long (own_code p1 w_innermost p2)), .second, .val (.int (5 : Int32)), .val (.int (4 : Int32)), .unset]) rfl ?_
            show Steps p.tables e below (T209.setTop (mkF m 105 #[.val (.ref a), .val (.int p1), .val (.int p2), .val (.long (own_code p1 w_innermost p2)), .second, .val (.int (5 : Int32)), .val (.int (4 : Int32)), .unset] [])) _
            refine XS.iload X209.here hx rfl (hb hby d5_105) rfl ?_
            show Steps p.tables e below (T209.setTop (mkF m 107 #[.val (.ref a), .val (.int p1), .val (.int p2), .val (.long (own_code p1 w_innermost p2)), .second, .val (.int (5 : Int32)), .val (.int (4 : Int32)), .unset] [(.int (4 : Int32))])) _
            refine XS.ifNo X209.here hx rfl (hb hby d5_107) rfl ((if0 _ _).trans (flt (by decide)).1) ?_
            show Steps p.tables e below (T209.setTop (mkF m 110 #[.val (.ref a), .val (.int p1), .val (.int p2), .val (.long (own_code p1 w_innermost p2)), .second, .val (.int (5 : Int32)), .val (.int (4 : Int32)), .unset] [])) _
            refine XS.lloadN X209.here hx rfl (hb hby d5_110) rfl ?_
            show Steps p.tables e below (T209.setTop (mkF m 111 #[.val (.ref a), .val (.int p1), .val (.int p2), .val (.long (own_code p1 w_innermost p2)), .second, .val (.int (5 : Int32)), .val (.int (4 : Int32)), .unset] [(.long (own_code p1 w_innermost p2))])) _
            refine XS.bipush X209.here hx rfl (hb hby d5_111) ?_
            show Steps p.tables e below (T209.setTop (mkF m 113 #[.val (.ref a), .val (.int p1), .val (.int p2), .val (.long (own_code p1 w_innermost p2)), .second, .val (.int (5 : Int32)), .val (.int (4 : Int32)), .unset] [(.int (7 : Int32)), (.long (own_code p1 w_innermost p2))])) _
            refine XS.iload X209.here hx rfl (hb hby d5_113) rfl ?_
            show Steps p.tables e below (T209.setTop (mkF m 115 #[.val (.ref a), .val (.int p1), .val (.int p2), .val (.long (own_code p1 w_innermost p2)), .second, .val (.int (5 : Int32)), .val (.int (4 : Int32)), .unset] [(.int (4 : Int32)), (.int (7 : Int32)), (.long (own_code p1 w_innermost p2))])) _
            refine XS.imul X209.here hx rfl (hb hby d5_115) rfl ?_
            show Steps p.tables e below (T209.setTop (mkF m 116 #[.val (.ref a), .val (.int p1), .val (.int p2), .val (.long (own_code p1 w_innermost p2)), .second, .val (.int (5 : Int32)), .val (.int (4 : Int32)), .unset] [(.int (28 : Int32)), (.long (own_code p1 w_innermost p2))])) _
            refine XS.lushr X209.here hx rfl (hb hby d5_116) rfl ?_
            show Steps p.tables e below (T209.setTop (mkF m 117 #[.val (.ref a), .val (.int p1), .val (.int p2), .val (.long (own_code p1 w_innermost p2)), .second, .val (.int (5 : Int32)), .val (.int (4 : Int32)), .unset] [(.long (own_ush (own_code p1 w_innermost p2) (28 : Int32)))])) _
            refine XS.l2i X209.here hx rfl (hb hby d5_117) rfl ?_
            show Steps p.tables e below (T209.setTop (mkF m 118 #[.val (.ref a), .val (.int p1), .val (.int p2), .val (.long (own_code p1 w_innermost p2)), .second, .val (.int (5 : Int32)), .val (.int (4 : Int32)), .unset] [(.int ((own_ush (own_code p1 w_innermost p2) (28 : Int32)).toInt32))])) _
            refine XS.bipush X209.here hx rfl (hb hby d5_118) ?_
            show Steps p.tables e below (T209.setTop (mkF m 120 #[.val (.ref a), .val (.int p1), .val (.int p2), .val (.long (own_code p1 w_innermost p2)), .second, .val (.int (5 : Int32)), .val (.int (4 : Int32)), .unset] [(.int (127 : Int32)), (.int ((own_ush (own_code p1 w_innermost p2) (28 : Int32)).toInt32))])) _
            refine XS.iand X209.here hx rfl (hb hby d5_120) rfl ?_
            show Steps p.tables e below (T209.setTop (mkF m 121 #[.val (.ref a), .val (.int p1), .val (.int p2), .val (.long (own_code p1 w_innermost p2)), .second, .val (.int (5 : Int32)), .val (.int (4 : Int32)), .unset] [(.int (((own_ush (own_code p1 w_innermost p2) (28 : Int32)).toInt32) &&& (127 : Int32)))])) _
            refine XS.istore X209.here hx rfl (hb hby d5_121) rfl (l' := (lcO_20 a p1 p2 w_innermost)) rfl ?_
            show Steps p.tables e below (T209.setTop (mkF m 123 (lcO_20 a p1 p2 w_innermost) [])) _
            refine XS.aloadN X209.here hx rfl (hb hby d5_123) rfl rfl ?_
            show Steps p.tables e below (T209.setTop (mkF m 124 (lcO_20 a p1 p2 w_innermost) [(.ref a)])) _
            exact k)
          obtain ⟨T212, X212, e212, st212⟩ := getF X209 hx hZ hown (host := "") (Or.inl (hw _ (List.mem_of_getElem? (i := 18) rfl))) Via.refl e209 F_a_groups (g := (mkF m 124 (lcO_20 a p1 p2 w_innermost) [(.ref a)])) rfl rfl (hb hby d5_124)
          have pre213 : ∀ t, Steps p.tables e below (T212.setTop (mkF m 127 (lcO_20 a p1 p2 w_innermost) [(.ref w_groups)])) t → Steps p.tables e below (s₁.setTop (entryFrame m #[(.ref a), (.int p1), (.int p2)] 8)) t := fun t k => pre211 t (st212 t k)
          have pre214 : ∀ t, Steps p.tables e below (T212.setTop (mkF m 129 (lcO_20 a p1 p2 w_innermost) [(.ref a), (.ref a), (.ref w_groups)])) t → Steps p.tables e below (s₁.setTop (entryFrame m #[(.ref a), (.int p1), (.int p2)] 8)) t := fun t k => pre213 t (by
            show Steps p.tables e below (T212.setTop (mkF m 127 (lcO_20 a p1 p2 w_innermost) [(.ref w_groups)])) _
            refine XS.aloadN X212.here hx rfl (hb hby d5_127) rfl rfl ?_
            show Steps p.tables e below (T212.setTop (mkF m 128 (lcO_20 a p1 p2 w_innermost) [(.ref a), (.ref w_groups)])) _
            refine XS.dup X212.here hx rfl (hb hby d5_128) rfl rfl ?_
            show Steps p.tables e below (T212.setTop (mkF m 129 (lcO_20 a p1 p2 w_innermost) [(.ref a), (.ref a), (.ref w_groups)])) _
            exact k)
          obtain ⟨T215, X215, e215, st215⟩ := getF X212 hx hZ hown (host := "") (Or.inl (hw _ (List.mem_of_getElem? (i := 27) rfl))) Via.refl e212 F_a_size (g := (mkF m 129 (lcO_20 a p1 p2 w_innermost) [(.ref a), (.ref a), (.ref w_groups)])) rfl rfl (hb hby d5_129)
          have pre216 : ∀ t, Steps p.tables e below (T215.setTop (mkF m 132 (lcO_20 a p1 p2 w_innermost) [(.int w_size), (.ref a), (.ref w_groups)])) t → Steps p.tables e below (s₁.setTop (entryFrame m #[(.ref a), (.int p1), (.int p2)] 8)) t := fun t k => pre214 t (st215 t k)
          have pre217 : ∀ t, Steps p.tables e below (T215.setTop (mkF m 135 (lcO_20 a p1 p2 w_innermost) [(.int (own_sk w_size 1)), (.ref a), (.int w_size), (.ref w_groups)])) t → Steps p.tables e below (s₁.setTop (entryFrame m #[(.ref a), (.int p1), (.int p2)] 8)) t := fun t k => pre216 t (by
            show Steps p.tables e below (T215.setTop (mkF m 132 (lcO_20 a p1 p2 w_innermost) [(.int w_size), (.ref a), (.ref w_groups)])) _
            refine XS.dupX1 X215.here hx rfl (hb hby d5_132) rfl rfl rfl ?_
            show Steps p.tables e below (T215.setTop (mkF m 133 (lcO_20 a p1 p2 w_innermost) [(.int w_size), (.ref a), (.int w_size), (.ref w_groups)])) _
            refine XS.iconst X215.here hx rfl (hb hby d5_133) ?_
            show Steps p.tables e below (T215.setTop (mkF m 134 (lcO_20 a p1 p2 w_innermost) [(.int (1 : Int32)), (.int w_size), (.ref a), (.int w_size), (.ref w_groups)])) _
            refine XS.iadd X215.here hx rfl (hb hby d5_134) rfl ?_
            show Steps p.tables e below (T215.setTop (mkF m 135 (lcO_20 a p1 p2 w_innermost) [(.int (own_sk w_size 1)), (.ref a), (.int w_size), (.ref w_groups)])) _
            exact k)
          obtain ⟨T218, h218, X218, e218, W218, st218⟩ := putF X215 hx hZ hown (host := "") (Or.inl (hw _ (List.mem_of_getElem? (i := 27) rfl))) Via.refl e215 F_a_size E_a (Or.inl (hw _ (List.mem_of_getElem? (i := 28) rfl))) (hw _ (List.mem_of_getElem? (i := 9) rfl)) (ty := .int) (by decide) rfl rfl (g := (mkF m 135 (lcO_20 a p1 p2 w_innermost) [(.int (own_sk w_size 1)), (.ref a), (.int w_size), (.ref w_groups)])) rfl rfl (hb hby d5_135)
          have F_a_size : Fld Z h218 a "com/example/mensura/mensura/parser/OpenParentheses" "size" "I" (.int (own_sk w_size 1)) := F_a_size.same W218
          have E_a := E_a.wr W218
          have F_a_groups := F_a_groups.other W218 (Or.inr (slot_ne (Or.inl (hw _ (List.mem_of_getElem? (i := 19) rfl))) (Or.inl (hw _ (List.mem_of_getElem? (i := 28) rfl))) (by decide) (t := (.array .byte)) (t' := .int) (by decide) (by decide)))
          have F_a_innermost := F_a_innermost.other W218 (Or.inr (slot_ne (Or.inl (hw _ (List.mem_of_getElem? (i := 21) rfl))) (Or.inl (hw _ (List.mem_of_getElem? (i := 28) rfl))) (by decide) (t := .int) (t' := .int) (by decide) (by decide)))
          have F_a_depth := F_a_depth.other W218 (Or.inr (slot_ne (Or.inl (hw _ (List.mem_of_getElem? (i := 30) rfl))) (Or.inl (hw _ (List.mem_of_getElem? (i := 28) rfl))) (by decide) (t := .int) (t' := .int) (by decide) (by decide)))
          have A_w_groups := A_w_groups.other W218 (Ne.symm ne_a_w_groups)
          have K := K.wr W218 (Or.inl (List.mem_of_getElem? (i := 0) rfl))
          have Z218 : n0 ≤ h218.size := Nat.le_trans Z0 (Keep.of_wr W218).1
          have N218 := Fr.snoc X218 N0 g_a
          have pre219 : ∀ t, Steps p.tables e below (T218.setTop (mkF m 138 (lcO_20 a p1 p2 w_innermost) [(.int w_size), (.ref w_groups)])) t → Steps p.tables e below (s₁.setTop (entryFrame m #[(.ref a), (.int p1), (.int p2)] 8)) t := fun t k => pre217 t (st218 t k)
          have pre220 : ∀ t, Steps p.tables e below (T218.setTop (mkF m 159 (lcO_20 a p1 p2 w_innermost) [(.int (own_g0 (own_code p1 w_innermost p2) (28 : Int32))), (.int w_size), (.ref w_groups)])) t → Steps p.tables e below (s₁.setTop (entryFrame m #[(.ref a), (.int p1), (.int p2)] 8)) t := fun t k => pre219 t (by
            show Steps p.tables e below (T218.setTop (mkF m 138 (lcO_20 a p1 p2 w_innermost) [(.int w_size), (.ref w_groups)])) _
            refine XS.iload X218.here hx rfl (hb hby d5_138) rfl ?_
            show Steps p.tables e below (T218.setTop (mkF m 140 (lcO_20 a p1 p2 w_innermost) [(.int (4 : Int32)), (.int w_size), (.ref w_groups)])) _
            refine XS.iload X218.here hx rfl (hb hby d5_140) rfl ?_
            show Steps p.tables e below (T218.setTop (mkF m 142 (lcO_20 a p1 p2 w_innermost) [(.int (5 : Int32)), (.int (4 : Int32)), (.int w_size), (.ref w_groups)])) _
            refine XS.iconst X218.here hx rfl (hb hby d5_142) ?_
            show Steps p.tables e below (T218.setTop (mkF m 143 (lcO_20 a p1 p2 w_innermost) [(.int (1 : Int32)), (.int (5 : Int32)), (.int (4 : Int32)), (.int w_size), (.ref w_groups)])) _
            refine XS.isub X218.here hx rfl (hb hby d5_143) rfl ?_
            show Steps p.tables e below (T218.setTop (mkF m 144 (lcO_20 a p1 p2 w_innermost) [(.int (4 : Int32)), (.int (4 : Int32)), (.int w_size), (.ref w_groups)])) _
            refine XS.icmpNo X218.here hx rfl (hb hby d5_144) rfl (teq (by decide)).2 ?_
            show Steps p.tables e below (T218.setTop (mkF m 147 (lcO_20 a p1 p2 w_innermost) [(.int w_size), (.ref w_groups)])) _
            refine XS.iload X218.here hx rfl (hb hby d5_147) rfl ?_
            show Steps p.tables e below (T218.setTop (mkF m 149 (lcO_20 a p1 p2 w_innermost) [(.int (((own_ush (own_code p1 w_innermost p2) (28 : Int32)).toInt32) &&& (127 : Int32))), (.int w_size), (.ref w_groups)])) _
            refine XS.goto X218.here hx rfl (pc0 := 149) (pc' := 158) rfl (hb hby d5_149) (by decide) (by decide) ?_
            show Steps p.tables e below (T218.setTop (mkF m 158 (lcO_20 a p1 p2 w_innermost) [(.int (((own_ush (own_code p1 w_innermost p2) (28 : Int32)).toInt32) &&& (127 : Int32))), (.int w_size), (.ref w_groups)])) _
            refine XS.i2b X218.here hx rfl (hb hby d5_158) rfl ?_
            show Steps p.tables e below (T218.setTop (mkF m 159 (lcO_20 a p1 p2 w_innermost) [(.int (own_g0 (own_code p1 w_innermost p2) (28 : Int32))), (.int w_size), (.ref w_groups)])) _
            exact k)
          obtain ⟨cl221, Ar221, Sz221, Hf221⟩ := A_w_groups
          obtain ⟨T221, h221, X221, e221, W221, st221⟩ := stB X218 hx hZ e218 Ar221 (j := w_size) (own_inb Sz221 (own_skb hs 0 (by decide))) (g := (mkF m 159 (lcO_20 a p1 p2 w_innermost) [(.int (own_g0 (own_code p1 w_innermost p2) (28 : Int32))), (.int w_size), (.ref w_groups)])) rfl rfl (hb hby d5_159)
          have A_w_groups : own_A Z h221 w_groups .byte 16 (own_put f (w_size).toNatClampNeg (nar .byte (own_g0 (own_code p1 w_innermost p2) (28 : Int32)))) := own_A.set Ar221 Sz221 Hf221 W221
          have E_a := E_a.wr W221
          have F_a_groups := F_a_groups.other W221 (Or.inl ne_a_w_groups)
          have F_a_size := F_a_size.other W221 (Or.inl ne_a_w_groups)
          have F_a_innermost := F_a_innermost.other W221 (Or.inl ne_a_w_groups)
          have F_a_depth := F_a_depth.other W221 (Or.inl ne_a_w_groups)
          have K := K.wr W221 (Or.inl (List.mem_of_getElem? (i := 1) rfl))
          have Z221 : n0 ≤ h221.size := Nat.le_trans Z218 (Keep.of_wr W221).1
          have N221 := Fr.snoc X221 N218 g_w_groups
          have pre222 : ∀ t, Steps p.tables e below (T221.setTop (mkF m 160 (lcO_20 a p1 p2 w_innermost) [])) t → Steps p.tables e below (s₁.setTop (entryFrame m #[(.ref a), (.int p1), (.int p2)] 8)) t := fun t k => pre220 t (st221 t k)
          have pre223 : ∀ t, Steps p.tables e below (T221.setTop (mkF m 124 (lcO_22 a p1 p2 w_innermost) [(.ref a)])) t → Steps p.tables e below (s₁.setTop (entryFrame m #[(.ref a), (.int p1), (.int p2)] 8)) t := fun t k => pre222 t (by
            show Steps p.tables e below (T221.setTop (mkF m 160 (lcO_20 a p1 p2 w_innermost) [])) _
            refine XS.iinc X221.here hx rfl (hb hby d5_160) rfl (l' := (lcO_21 a p1 p2 w_innermost)) rfl ?_
            show Steps p.tables e below (T221.setTop (mkF m 163 (lcO_21 a p1 p2 w_innermost) [])) _
            refine XS.goto X221.here hx rfl (pc0 := 163) (pc' := 105) rfl (hb hby d5_163) (by decide) (by decide) ?_
            show Steps p.tables e below (T221.setTop (mkF m 105 (lcO_21 a p1 p2 w_innermost) [])) _
            refine XS.iload X221.here hx rfl (hb hby d5_105) rfl ?_
            show Steps p.tables e below (T221.setTop (mkF m 107 (lcO_21 a p1 p2 w_innermost) [(.int (3 : Int32))])) _
            refine XS.ifNo X221.here hx rfl (hb hby d5_107) rfl ((if0 _ _).trans (flt (by decide)).1) ?_
            show Steps p.tables e below (T221.setTop (mkF m 110 (lcO_21 a p1 p2 w_innermost) [])) _
            refine XS.lloadN X221.here hx rfl (hb hby d5_110) rfl ?_
            show Steps p.tables e below (T221.setTop (mkF m 111 (lcO_21 a p1 p2 w_innermost) [(.long (own_code p1 w_innermost p2))])) _
            refine XS.bipush X221.here hx rfl (hb hby d5_111) ?_
            show Steps p.tables e below (T221.setTop (mkF m 113 (lcO_21 a p1 p2 w_innermost) [(.int (7 : Int32)), (.long (own_code p1 w_innermost p2))])) _
            refine XS.iload X221.here hx rfl (hb hby d5_113) rfl ?_
            show Steps p.tables e below (T221.setTop (mkF m 115 (lcO_21 a p1 p2 w_innermost) [(.int (3 : Int32)), (.int (7 : Int32)), (.long (own_code p1 w_innermost p2))])) _
            refine XS.imul X221.here hx rfl (hb hby d5_115) rfl ?_
            show Steps p.tables e below (T221.setTop (mkF m 116 (lcO_21 a p1 p2 w_innermost) [(.int (21 : Int32)), (.long (own_code p1 w_innermost p2))])) _
            refine XS.lushr X221.here hx rfl (hb hby d5_116) rfl ?_
            show Steps p.tables e below (T221.setTop (mkF m 117 (lcO_21 a p1 p2 w_innermost) [(.long (own_ush (own_code p1 w_innermost p2) (21 : Int32)))])) _
            refine XS.l2i X221.here hx rfl (hb hby d5_117) rfl ?_
            show Steps p.tables e below (T221.setTop (mkF m 118 (lcO_21 a p1 p2 w_innermost) [(.int ((own_ush (own_code p1 w_innermost p2) (21 : Int32)).toInt32))])) _
            refine XS.bipush X221.here hx rfl (hb hby d5_118) ?_
            show Steps p.tables e below (T221.setTop (mkF m 120 (lcO_21 a p1 p2 w_innermost) [(.int (127 : Int32)), (.int ((own_ush (own_code p1 w_innermost p2) (21 : Int32)).toInt32))])) _
            refine XS.iand X221.here hx rfl (hb hby d5_120) rfl ?_
            show Steps p.tables e below (T221.setTop (mkF m 121 (lcO_21 a p1 p2 w_innermost) [(.int (((own_ush (own_code p1 w_innermost p2) (21 : Int32)).toInt32) &&& (127 : Int32)))])) _
            refine XS.istore X221.here hx rfl (hb hby d5_121) rfl (l' := (lcO_22 a p1 p2 w_innermost)) rfl ?_
            show Steps p.tables e below (T221.setTop (mkF m 123 (lcO_22 a p1 p2 w_innermost) [])) _
            refine XS.aloadN X221.here hx rfl (hb hby d5_123) rfl rfl ?_
            show Steps p.tables e below (T221.setTop (mkF m 124 (lcO_22 a p1 p2 w_innermost) [(.ref a)])) _
            exact k)
          obtain ⟨T224, X224, e224, st224⟩ := getF X221 hx hZ hown (host := "") (Or.inl (hw _ (List.mem_of_getElem? (i := 18) rfl))) Via.refl e221 F_a_groups (g := (mkF m 124 (lcO_22 a p1 p2 w_innermost) [(.ref a)])) rfl rfl (hb hby d5_124)
          have pre225 : ∀ t, Steps p.tables e below (T224.setTop (mkF m 127 (lcO_22 a p1 p2 w_innermost) [(.ref w_groups)])) t → Steps p.tables e below (s₁.setTop (entryFrame m #[(.ref a), (.int p1), (.int p2)] 8)) t := fun t k => pre223 t (st224 t k)
          have pre226 : ∀ t, Steps p.tables e below (T224.setTop (mkF m 129 (lcO_22 a p1 p2 w_innermost) [(.ref a), (.ref a), (.ref w_groups)])) t → Steps p.tables e below (s₁.setTop (entryFrame m #[(.ref a), (.int p1), (.int p2)] 8)) t := fun t k => pre225 t (by
            show Steps p.tables e below (T224.setTop (mkF m 127 (lcO_22 a p1 p2 w_innermost) [(.ref w_groups)])) _
            refine XS.aloadN X224.here hx rfl (hb hby d5_127) rfl rfl ?_
            show Steps p.tables e below (T224.setTop (mkF m 128 (lcO_22 a p1 p2 w_innermost) [(.ref a), (.ref w_groups)])) _
            refine XS.dup X224.here hx rfl (hb hby d5_128) rfl rfl ?_
            show Steps p.tables e below (T224.setTop (mkF m 129 (lcO_22 a p1 p2 w_innermost) [(.ref a), (.ref a), (.ref w_groups)])) _
            exact k)
          obtain ⟨T227, X227, e227, st227⟩ := getF X224 hx hZ hown (host := "") (Or.inl (hw _ (List.mem_of_getElem? (i := 27) rfl))) Via.refl e224 F_a_size (g := (mkF m 129 (lcO_22 a p1 p2 w_innermost) [(.ref a), (.ref a), (.ref w_groups)])) rfl rfl (hb hby d5_129)
          have pre228 : ∀ t, Steps p.tables e below (T227.setTop (mkF m 132 (lcO_22 a p1 p2 w_innermost) [(.int (own_sk w_size 1)), (.ref a), (.ref w_groups)])) t → Steps p.tables e below (s₁.setTop (entryFrame m #[(.ref a), (.int p1), (.int p2)] 8)) t := fun t k => pre226 t (st227 t k)
          have pre229 : ∀ t, Steps p.tables e below (T227.setTop (mkF m 135 (lcO_22 a p1 p2 w_innermost) [(.int (own_sk w_size 2)), (.ref a), (.int (own_sk w_size 1)), (.ref w_groups)])) t → Steps p.tables e below (s₁.setTop (entryFrame m #[(.ref a), (.int p1), (.int p2)] 8)) t := fun t k => pre228 t (by
            show Steps p.tables e below (T227.setTop (mkF m 132 (lcO_22 a p1 p2 w_innermost) [(.int (own_sk w_size 1)), (.ref a), (.ref w_groups)])) _
            refine XS.dupX1 X227.here hx rfl (hb hby d5_132) rfl rfl rfl ?_
            show Steps p.tables e below (T227.setTop (mkF m 133 (lcO_22 a p1 p2 w_innermost) [(.int (own_sk w_size 1)), (.ref a), (.int (own_sk w_size 1)), (.ref w_groups)])) _
            refine XS.iconst X227.here hx rfl (hb hby d5_133) ?_
            show Steps p.tables e below (T227.setTop (mkF m 134 (lcO_22 a p1 p2 w_innermost) [(.int (1 : Int32)), (.int (own_sk w_size 1)), (.ref a), (.int (own_sk w_size 1)), (.ref w_groups)])) _
            refine XS.iadd X227.here hx rfl (hb hby d5_134) rfl ?_
            show Steps p.tables e below (T227.setTop (mkF m 135 (lcO_22 a p1 p2 w_innermost) [(.int (own_sk w_size 2)), (.ref a), (.int (own_sk w_size 1)), (.ref w_groups)])) _
            exact k)
          obtain ⟨T230, h230, X230, e230, W230, st230⟩ := putF X227 hx hZ hown (host := "") (Or.inl (hw _ (List.mem_of_getElem? (i := 27) rfl))) Via.refl e227 F_a_size E_a (Or.inl (hw _ (List.mem_of_getElem? (i := 28) rfl))) (hw _ (List.mem_of_getElem? (i := 9) rfl)) (ty := .int) (by decide) rfl rfl (g := (mkF m 135 (lcO_22 a p1 p2 w_innermost) [(.int (own_sk w_size 2)), (.ref a), (.int (own_sk w_size 1)), (.ref w_groups)])) rfl rfl (hb hby d5_135)
          have F_a_size : Fld Z h230 a "com/example/mensura/mensura/parser/OpenParentheses" "size" "I" (.int (own_sk w_size 2)) := F_a_size.same W230
          have E_a := E_a.wr W230
          have F_a_groups := F_a_groups.other W230 (Or.inr (slot_ne (Or.inl (hw _ (List.mem_of_getElem? (i := 19) rfl))) (Or.inl (hw _ (List.mem_of_getElem? (i := 28) rfl))) (by decide) (t := (.array .byte)) (t' := .int) (by decide) (by decide)))
          have F_a_innermost := F_a_innermost.other W230 (Or.inr (slot_ne (Or.inl (hw _ (List.mem_of_getElem? (i := 21) rfl))) (Or.inl (hw _ (List.mem_of_getElem? (i := 28) rfl))) (by decide) (t := .int) (t' := .int) (by decide) (by decide)))
          have F_a_depth := F_a_depth.other W230 (Or.inr (slot_ne (Or.inl (hw _ (List.mem_of_getElem? (i := 30) rfl))) (Or.inl (hw _ (List.mem_of_getElem? (i := 28) rfl))) (by decide) (t := .int) (t' := .int) (by decide) (by decide)))
          have A_w_groups := A_w_groups.other W230 (Ne.symm ne_a_w_groups)
          have K := K.wr W230 (Or.inl (List.mem_of_getElem? (i := 0) rfl))
          have Z230 : n0 ≤ h230.size := Nat.le_trans Z221 (Keep.of_wr W230).1
          have N230 := Fr.snoc X230 N221 g_a
          have pre231 : ∀ t, Steps p.tables e below (T230.setTop (mkF m 138 (lcO_22 a p1 p2 w_innermost) [(.int (own_sk w_size 1)), (.ref w_groups)])) t → Steps p.tables e below (s₁.setTop (entryFrame m #[(.ref a), (.int p1), (.int p2)] 8)) t := fun t k => pre229 t (st230 t k)
          have pre232 : ∀ t, Steps p.tables e below (T230.setTop (mkF m 159 (lcO_22 a p1 p2 w_innermost) [(.int (own_g1 (own_code p1 w_innermost p2) (21 : Int32))), (.int (own_sk w_size 1)), (.ref w_groups)])) t → Steps p.tables e below (s₁.setTop (entryFrame m #[(.ref a), (.int p1), (.int p2)] 8)) t := fun t k => pre231 t (by
            show Steps p.tables e below (T230.setTop (mkF m 138 (lcO_22 a p1 p2 w_innermost) [(.int (own_sk w_size 1)), (.ref w_groups)])) _
            refine XS.iload X230.here hx rfl (hb hby d5_138) rfl ?_
            show Steps p.tables e below (T230.setTop (mkF m 140 (lcO_22 a p1 p2 w_innermost) [(.int (3 : Int32)), (.int (own_sk w_size 1)), (.ref w_groups)])) _
            refine XS.iload X230.here hx rfl (hb hby d5_140) rfl ?_
            show Steps p.tables e below (T230.setTop (mkF m 142 (lcO_22 a p1 p2 w_innermost) [(.int (5 : Int32)), (.int (3 : Int32)), (.int (own_sk w_size 1)), (.ref w_groups)])) _
            refine XS.iconst X230.here hx rfl (hb hby d5_142) ?_
            show Steps p.tables e below (T230.setTop (mkF m 143 (lcO_22 a p1 p2 w_innermost) [(.int (1 : Int32)), (.int (5 : Int32)), (.int (3 : Int32)), (.int (own_sk w_size 1)), (.ref w_groups)])) _
            refine XS.isub X230.here hx rfl (hb hby d5_143) rfl ?_
            show Steps p.tables e below (T230.setTop (mkF m 144 (lcO_22 a p1 p2 w_innermost) [(.int (4 : Int32)), (.int (3 : Int32)), (.int (own_sk w_size 1)), (.ref w_groups)])) _
            refine XS.icmpYes X230.here hx rfl (pc0 := 144) (pc' := 152) rfl (hb hby d5_144) rfl (feq (by decide)).2 (by decide) (by decide) ?_
            show Steps p.tables e below (T230.setTop (mkF m 152 (lcO_22 a p1 p2 w_innermost) [(.int (own_sk w_size 1)), (.ref w_groups)])) _
            refine XS.iload X230.here hx rfl (hb hby d5_152) rfl ?_
            show Steps p.tables e below (T230.setTop (mkF m 154 (lcO_22 a p1 p2 w_innermost) [(.int (((own_ush (own_code p1 w_innermost p2) (21 : Int32)).toInt32) &&& (127 : Int32))), (.int (own_sk w_size 1)), (.ref w_groups)])) _
            refine XS.sipush X230.here hx rfl (hb hby d5_154) ?_
            show Steps p.tables e below (T230.setTop (mkF m 157 (lcO_22 a p1 p2 w_innermost) [(.int (128 : Int32)), (.int (((own_ush (own_code p1 w_innermost p2) (21 : Int32)).toInt32) &&& (127 : Int32))), (.int (own_sk w_size 1)), (.ref w_groups)])) _
            refine XS.ior X230.here hx rfl (hb hby d5_157) rfl ?_
            show Steps p.tables e below (T230.setTop (mkF m 158 (lcO_22 a p1 p2 w_innermost) [(.int ((((own_ush (own_code p1 w_innermost p2) (21 : Int32)).toInt32) &&& (127 : Int32)) ||| (128 : Int32))), (.int (own_sk w_size 1)), (.ref w_groups)])) _
            refine XS.i2b X230.here hx rfl (hb hby d5_158) rfl ?_
            show Steps p.tables e below (T230.setTop (mkF m 159 (lcO_22 a p1 p2 w_innermost) [(.int (own_g1 (own_code p1 w_innermost p2) (21 : Int32))), (.int (own_sk w_size 1)), (.ref w_groups)])) _
            exact k)
          obtain ⟨cl233, Ar233, Sz233, Hf233⟩ := A_w_groups
          obtain ⟨T233, h233, X233, e233, W233, st233⟩ := stB X230 hx hZ e230 Ar233 (j := (own_sk w_size 1)) (own_inb Sz233 (own_skb hs 1 (by decide))) (g := (mkF m 159 (lcO_22 a p1 p2 w_innermost) [(.int (own_g1 (own_code p1 w_innermost p2) (21 : Int32))), (.int (own_sk w_size 1)), (.ref w_groups)])) rfl rfl (hb hby d5_159)
          have A_w_groups : own_A Z h233 w_groups .byte 16 (own_put (own_put f (w_size).toNatClampNeg (nar .byte (own_g0 (own_code p1 w_innermost p2) (28 : Int32)))) ((own_sk w_size 1)).toNatClampNeg (nar .byte (own_g1 (own_code p1 w_innermost p2) (21 : Int32)))) := own_A.set Ar233 Sz233 Hf233 W233
          have E_a := E_a.wr W233
          have F_a_groups := F_a_groups.other W233 (Or.inl ne_a_w_groups)
          have F_a_size := F_a_size.other W233 (Or.inl ne_a_w_groups)
          have F_a_innermost := F_a_innermost.other W233 (Or.inl ne_a_w_groups)
          have F_a_depth := F_a_depth.other W233 (Or.inl ne_a_w_groups)
          have K := K.wr W233 (Or.inl (List.mem_of_getElem? (i := 1) rfl))
          have Z233 : n0 ≤ h233.size := Nat.le_trans Z230 (Keep.of_wr W233).1
          have N233 := Fr.snoc X233 N230 g_w_groups
          have pre234 : ∀ t, Steps p.tables e below (T233.setTop (mkF m 160 (lcO_22 a p1 p2 w_innermost) [])) t → Steps p.tables e below (s₁.setTop (entryFrame m #[(.ref a), (.int p1), (.int p2)] 8)) t := fun t k => pre232 t (st233 t k)
          have pre235 : ∀ t, Steps p.tables e below (T233.setTop (mkF m 124 (lcO_24 a p1 p2 w_innermost) [(.ref a)])) t → Steps p.tables e below (s₁.setTop (entryFrame m #[(.ref a), (.int p1), (.int p2)] 8)) t := fun t k => pre234 t (by
            show Steps p.tables e below (T233.setTop (mkF m 160 (lcO_22 a p1 p2 w_innermost) [])) _
            refine XS.iinc X233.here hx rfl (hb hby d5_160) rfl (l' := (lcO_23 a p1 p2 w_innermost)) rfl ?_
            show Steps p.tables e below (T233.setTop (mkF m 163 (lcO_23 a p1 p2 w_innermost) [])) _
            refine XS.goto X233.here hx rfl (pc0 := 163) (pc' := 105) rfl (hb hby d5_163) (by decide) (by decide) ?_
            show Steps p.tables e below (T233.setTop (mkF m 105 (lcO_23 a p1 p2 w_innermost) [])) _
            refine XS.iload X233.here hx rfl (hb hby d5_105) rfl ?_
            show Steps p.tables e below (T233.setTop (mkF m 107 (lcO_23 a p1 p2 w_innermost) [(.int (2 : Int32))])) _
            refine XS.ifNo X233.here hx rfl (hb hby d5_107) rfl ((if0 _ _).trans (flt (by decide)).1) ?_
            show Steps p.tables e below (T233.setTop (mkF m 110 (lcO_23 a p1 p2 w_innermost) [])) _
            refine XS.lloadN X233.here hx rfl (hb hby d5_110) rfl ?_
            show Steps p.tables e below (T233.setTop (mkF m 111 (lcO_23 a p1 p2 w_innermost) [(.long (own_code p1 w_innermost p2))])) _
            refine XS.bipush X233.here hx rfl (hb hby d5_111) ?_
            show Steps p.tables e below (T233.setTop (mkF m 113 (lcO_23 a p1 p2 w_innermost) [(.int (7 : Int32)), (.long (own_code p1 w_innermost p2))])) _
            refine XS.iload X233.here hx rfl (hb hby d5_113) rfl ?_
            show Steps p.tables e below (T233.setTop (mkF m 115 (lcO_23 a p1 p2 w_innermost) [(.int (2 : Int32)), (.int (7 : Int32)), (.long (own_code p1 w_innermost p2))])) _
            refine XS.imul X233.here hx rfl (hb hby d5_115) rfl ?_
            show Steps p.tables e below (T233.setTop (mkF m 116 (lcO_23 a p1 p2 w_innermost) [(.int (14 : Int32)), (.long (own_code p1 w_innermost p2))])) _
            refine XS.lushr X233.here hx rfl (hb hby d5_116) rfl ?_
            show Steps p.tables e below (T233.setTop (mkF m 117 (lcO_23 a p1 p2 w_innermost) [(.long (own_ush (own_code p1 w_innermost p2) (14 : Int32)))])) _
            refine XS.l2i X233.here hx rfl (hb hby d5_117) rfl ?_
            show Steps p.tables e below (T233.setTop (mkF m 118 (lcO_23 a p1 p2 w_innermost) [(.int ((own_ush (own_code p1 w_innermost p2) (14 : Int32)).toInt32))])) _
            refine XS.bipush X233.here hx rfl (hb hby d5_118) ?_
            show Steps p.tables e below (T233.setTop (mkF m 120 (lcO_23 a p1 p2 w_innermost) [(.int (127 : Int32)), (.int ((own_ush (own_code p1 w_innermost p2) (14 : Int32)).toInt32))])) _
            refine XS.iand X233.here hx rfl (hb hby d5_120) rfl ?_
            show Steps p.tables e below (T233.setTop (mkF m 121 (lcO_23 a p1 p2 w_innermost) [(.int (((own_ush (own_code p1 w_innermost p2) (14 : Int32)).toInt32) &&& (127 : Int32)))])) _
            refine XS.istore X233.here hx rfl (hb hby d5_121) rfl (l' := (lcO_24 a p1 p2 w_innermost)) rfl ?_
            show Steps p.tables e below (T233.setTop (mkF m 123 (lcO_24 a p1 p2 w_innermost) [])) _
            refine XS.aloadN X233.here hx rfl (hb hby d5_123) rfl rfl ?_
            show Steps p.tables e below (T233.setTop (mkF m 124 (lcO_24 a p1 p2 w_innermost) [(.ref a)])) _
            exact k)
          obtain ⟨T236, X236, e236, st236⟩ := getF X233 hx hZ hown (host := "") (Or.inl (hw _ (List.mem_of_getElem? (i := 18) rfl))) Via.refl e233 F_a_groups (g := (mkF m 124 (lcO_24 a p1 p2 w_innermost) [(.ref a)])) rfl rfl (hb hby d5_124)
          have pre237 : ∀ t, Steps p.tables e below (T236.setTop (mkF m 127 (lcO_24 a p1 p2 w_innermost) [(.ref w_groups)])) t → Steps p.tables e below (s₁.setTop (entryFrame m #[(.ref a), (.int p1), (.int p2)] 8)) t := fun t k => pre235 t (st236 t k)
          have pre238 : ∀ t, Steps p.tables e below (T236.setTop (mkF m 129 (lcO_24 a p1 p2 w_innermost) [(.ref a), (.ref a), (.ref w_groups)])) t → Steps p.tables e below (s₁.setTop (entryFrame m #[(.ref a), (.int p1), (.int p2)] 8)) t := fun t k => pre237 t (by
            show Steps p.tables e below (T236.setTop (mkF m 127 (lcO_24 a p1 p2 w_innermost) [(.ref w_groups)])) _
            refine XS.aloadN X236.here hx rfl (hb hby d5_127) rfl rfl ?_
            show Steps p.tables e below (T236.setTop (mkF m 128 (lcO_24 a p1 p2 w_innermost) [(.ref a), (.ref w_groups)])) _
            refine XS.dup X236.here hx rfl (hb hby d5_128) rfl rfl ?_
            show Steps p.tables e below (T236.setTop (mkF m 129 (lcO_24 a p1 p2 w_innermost) [(.ref a), (.ref a), (.ref w_groups)])) _
            exact k)
          obtain ⟨T239, X239, e239, st239⟩ := getF X236 hx hZ hown (host := "") (Or.inl (hw _ (List.mem_of_getElem? (i := 27) rfl))) Via.refl e236 F_a_size (g := (mkF m 129 (lcO_24 a p1 p2 w_innermost) [(.ref a), (.ref a), (.ref w_groups)])) rfl rfl (hb hby d5_129)
          have pre240 : ∀ t, Steps p.tables e below (T239.setTop (mkF m 132 (lcO_24 a p1 p2 w_innermost) [(.int (own_sk w_size 2)), (.ref a), (.ref w_groups)])) t → Steps p.tables e below (s₁.setTop (entryFrame m #[(.ref a), (.int p1), (.int p2)] 8)) t := fun t k => pre238 t (st239 t k)
          have pre241 : ∀ t, Steps p.tables e below (T239.setTop (mkF m 135 (lcO_24 a p1 p2 w_innermost) [(.int (own_sk w_size 3)), (.ref a), (.int (own_sk w_size 2)), (.ref w_groups)])) t → Steps p.tables e below (s₁.setTop (entryFrame m #[(.ref a), (.int p1), (.int p2)] 8)) t := fun t k => pre240 t (by
            show Steps p.tables e below (T239.setTop (mkF m 132 (lcO_24 a p1 p2 w_innermost) [(.int (own_sk w_size 2)), (.ref a), (.ref w_groups)])) _
            refine XS.dupX1 X239.here hx rfl (hb hby d5_132) rfl rfl rfl ?_
            show Steps p.tables e below (T239.setTop (mkF m 133 (lcO_24 a p1 p2 w_innermost) [(.int (own_sk w_size 2)), (.ref a), (.int (own_sk w_size 2)), (.ref w_groups)])) _
            refine XS.iconst X239.here hx rfl (hb hby d5_133) ?_
            show Steps p.tables e below (T239.setTop (mkF m 134 (lcO_24 a p1 p2 w_innermost) [(.int (1 : Int32)), (.int (own_sk w_size 2)), (.ref a), (.int (own_sk w_size 2)), (.ref w_groups)])) _
            refine XS.iadd X239.here hx rfl (hb hby d5_134) rfl ?_
            show Steps p.tables e below (T239.setTop (mkF m 135 (lcO_24 a p1 p2 w_innermost) [(.int (own_sk w_size 3)), (.ref a), (.int (own_sk w_size 2)), (.ref w_groups)])) _
            exact k)
          obtain ⟨T242, h242, X242, e242, W242, st242⟩ := putF X239 hx hZ hown (host := "") (Or.inl (hw _ (List.mem_of_getElem? (i := 27) rfl))) Via.refl e239 F_a_size E_a (Or.inl (hw _ (List.mem_of_getElem? (i := 28) rfl))) (hw _ (List.mem_of_getElem? (i := 9) rfl)) (ty := .int) (by decide) rfl rfl (g := (mkF m 135 (lcO_24 a p1 p2 w_innermost) [(.int (own_sk w_size 3)), (.ref a), (.int (own_sk w_size 2)), (.ref w_groups)])) rfl rfl (hb hby d5_135)
          have F_a_size : Fld Z h242 a "com/example/mensura/mensura/parser/OpenParentheses" "size" "I" (.int (own_sk w_size 3)) := F_a_size.same W242
          have E_a := E_a.wr W242
          have F_a_groups := F_a_groups.other W242 (Or.inr (slot_ne (Or.inl (hw _ (List.mem_of_getElem? (i := 19) rfl))) (Or.inl (hw _ (List.mem_of_getElem? (i := 28) rfl))) (by decide) (t := (.array .byte)) (t' := .int) (by decide) (by decide)))
          have F_a_innermost := F_a_innermost.other W242 (Or.inr (slot_ne (Or.inl (hw _ (List.mem_of_getElem? (i := 21) rfl))) (Or.inl (hw _ (List.mem_of_getElem? (i := 28) rfl))) (by decide) (t := .int) (t' := .int) (by decide) (by decide)))
          have F_a_depth := F_a_depth.other W242 (Or.inr (slot_ne (Or.inl (hw _ (List.mem_of_getElem? (i := 30) rfl))) (Or.inl (hw _ (List.mem_of_getElem? (i := 28) rfl))) (by decide) (t := .int) (t' := .int) (by decide) (by decide)))
          have A_w_groups := A_w_groups.other W242 (Ne.symm ne_a_w_groups)
          have K := K.wr W242 (Or.inl (List.mem_of_getElem? (i := 0) rfl))
          have Z242 : n0 ≤ h242.size := Nat.le_trans Z233 (Keep.of_wr W242).1
          have N242 := Fr.snoc X242 N233 g_a
          have pre243 : ∀ t, Steps p.tables e below (T242.setTop (mkF m 138 (lcO_24 a p1 p2 w_innermost) [(.int (own_sk w_size 2)), (.ref w_groups)])) t → Steps p.tables e below (s₁.setTop (entryFrame m #[(.ref a), (.int p1), (.int p2)] 8)) t := fun t k => pre241 t (st242 t k)
          have pre244 : ∀ t, Steps p.tables e below (T242.setTop (mkF m 159 (lcO_24 a p1 p2 w_innermost) [(.int (own_g1 (own_code p1 w_innermost p2) (14 : Int32))), (.int (own_sk w_size 2)), (.ref w_groups)])) t → Steps p.tables e below (s₁.setTop (entryFrame m #[(.ref a), (.int p1), (.int p2)] 8)) t := fun t k => pre243 t (by
            show Steps p.tables e below (T242.setTop (mkF m 138 (lcO_24 a p1 p2 w_innermost) [(.int (own_sk w_size 2)), (.ref w_groups)])) _
            refine XS.iload X242.here hx rfl (hb hby d5_138) rfl ?_
            show Steps p.tables e below (T242.setTop (mkF m 140 (lcO_24 a p1 p2 w_innermost) [(.int (2 : Int32)), (.int (own_sk w_size 2)), (.ref w_groups)])) _
            refine XS.iload X242.here hx rfl (hb hby d5_140) rfl ?_
            show Steps p.tables e below (T242.setTop (mkF m 142 (lcO_24 a p1 p2 w_innermost) [(.int (5 : Int32)), (.int (2 : Int32)), (.int (own_sk w_size 2)), (.ref w_groups)])) _
            refine XS.iconst X242.here hx rfl (hb hby d5_142) ?_
            show Steps p.tables e below (T242.setTop (mkF m 143 (lcO_24 a p1 p2 w_innermost) [(.int (1 : Int32)), (.int (5 : Int32)), (.int (2 : Int32)), (.int (own_sk w_size 2)), (.ref w_groups)])) _
            refine XS.isub X242.here hx rfl (hb hby d5_143) rfl ?_
            show Steps p.tables e below (T242.setTop (mkF m 144 (lcO_24 a p1 p2 w_innermost) [(.int (4 : Int32)), (.int (2 : Int32)), (.int (own_sk w_size 2)), (.ref w_groups)])) _
            refine XS.icmpYes X242.here hx rfl (pc0 := 144) (pc' := 152) rfl (hb hby d5_144) rfl (feq (by decide)).2 (by decide) (by decide) ?_
            show Steps p.tables e below (T242.setTop (mkF m 152 (lcO_24 a p1 p2 w_innermost) [(.int (own_sk w_size 2)), (.ref w_groups)])) _
            refine XS.iload X242.here hx rfl (hb hby d5_152) rfl ?_
            show Steps p.tables e below (T242.setTop (mkF m 154 (lcO_24 a p1 p2 w_innermost) [(.int (((own_ush (own_code p1 w_innermost p2) (14 : Int32)).toInt32) &&& (127 : Int32))), (.int (own_sk w_size 2)), (.ref w_groups)])) _
            refine XS.sipush X242.here hx rfl (hb hby d5_154) ?_
            show Steps p.tables e below (T242.setTop (mkF m 157 (lcO_24 a p1 p2 w_innermost) [(.int (128 : Int32)), (.int (((own_ush (own_code p1 w_innermost p2) (14 : Int32)).toInt32) &&& (127 : Int32))), (.int (own_sk w_size 2)), (.ref w_groups)])) _
            refine XS.ior X242.here hx rfl (hb hby d5_157) rfl ?_
            show Steps p.tables e below (T242.setTop (mkF m 158 (lcO_24 a p1 p2 w_innermost) [(.int ((((own_ush (own_code p1 w_innermost p2) (14 : Int32)).toInt32) &&& (127 : Int32)) ||| (128 : Int32))), (.int (own_sk w_size 2)), (.ref w_groups)])) _
            refine XS.i2b X242.here hx rfl (hb hby d5_158) rfl ?_
            show Steps p.tables e below (T242.setTop (mkF m 159 (lcO_24 a p1 p2 w_innermost) [(.int (own_g1 (own_code p1 w_innermost p2) (14 : Int32))), (.int (own_sk w_size 2)), (.ref w_groups)])) _
            exact k)
          obtain ⟨cl245, Ar245, Sz245, Hf245⟩ := A_w_groups
          obtain ⟨T245, h245, X245, e245, W245, st245⟩ := stB X242 hx hZ e242 Ar245 (j := (own_sk w_size 2)) (own_inb Sz245 (own_skb hs 2 (by decide))) (g := (mkF m 159 (lcO_24 a p1 p2 w_innermost) [(.int (own_g1 (own_code p1 w_innermost p2) (14 : Int32))), (.int (own_sk w_size 2)), (.ref w_groups)])) rfl rfl (hb hby d5_159)
          have A_w_groups : own_A Z h245 w_groups .byte 16 (own_put (own_put (own_put f (w_size).toNatClampNeg (nar .byte (own_g0 (own_code p1 w_innermost p2) (28 : Int32)))) ((own_sk w_size 1)).toNatClampNeg (nar .byte (own_g1 (own_code p1 w_innermost p2) (21 : Int32)))) ((own_sk w_size 2)).toNatClampNeg (nar .byte (own_g1 (own_code p1 w_innermost p2) (14 : Int32)))) := own_A.set Ar245 Sz245 Hf245 W245
          have E_a := E_a.wr W245
          have F_a_groups := F_a_groups.other W245 (Or.inl ne_a_w_groups)
          have F_a_size := F_a_size.other W245 (Or.inl ne_a_w_groups)
          have F_a_innermost := F_a_innermost.other W245 (Or.inl ne_a_w_groups)
          have F_a_depth := F_a_depth.other W245 (Or.inl ne_a_w_groups)
          have K := K.wr W245 (Or.inl (List.mem_of_getElem? (i := 1) rfl))
          have Z245 : n0 ≤ h245.size := Nat.le_trans Z242 (Keep.of_wr W245).1
          have N245 := Fr.snoc X245 N242 g_w_groups
          have pre246 : ∀ t, Steps p.tables e below (T245.setTop (mkF m 160 (lcO_24 a p1 p2 w_innermost) [])) t → Steps p.tables e below (s₁.setTop (entryFrame m #[(.ref a), (.int p1), (.int p2)] 8)) t := fun t k => pre244 t (st245 t k)
          have pre247 : ∀ t, Steps p.tables e below (T245.setTop (mkF m 124 (lcO_26 a p1 p2 w_innermost) [(.ref a)])) t → Steps p.tables e below (s₁.setTop (entryFrame m #[(.ref a), (.int p1), (.int p2)] 8)) t := fun t k => pre246 t (by
            show Steps p.tables e below (T245.setTop (mkF m 160 (lcO_24 a p1 p2 w_innermost) [])) _
            refine XS.iinc X245.here hx rfl (hb hby d5_160) rfl (l' := (lcO_25 a p1 p2 w_innermost)) rfl ?_
            show Steps p.tables e below (T245.setTop (mkF m 163 (lcO_25 a p1 p2 w_innermost) [])) _
            refine XS.goto X245.here hx rfl (pc0 := 163) (pc' := 105) rfl (hb hby d5_163) (by decide) (by decide) ?_
            show Steps p.tables e below (T245.setTop (mkF m 105 (lcO_25 a p1 p2 w_innermost) [])) _
            refine XS.iload X245.here hx rfl (hb hby d5_105) rfl ?_
            show Steps p.tables e below (T245.setTop (mkF m 107 (lcO_25 a p1 p2 w_innermost) [(.int (1 : Int32))])) _
            refine XS.ifNo X245.here hx rfl (hb hby d5_107) rfl ((if0 _ _).trans (flt (by decide)).1) ?_
            show Steps p.tables e below (T245.setTop (mkF m 110 (lcO_25 a p1 p2 w_innermost) [])) _
            refine XS.lloadN X245.here hx rfl (hb hby d5_110) rfl ?_
            show Steps p.tables e below (T245.setTop (mkF m 111 (lcO_25 a p1 p2 w_innermost) [(.long (own_code p1 w_innermost p2))])) _
            refine XS.bipush X245.here hx rfl (hb hby d5_111) ?_
            show Steps p.tables e below (T245.setTop (mkF m 113 (lcO_25 a p1 p2 w_innermost) [(.int (7 : Int32)), (.long (own_code p1 w_innermost p2))])) _
            refine XS.iload X245.here hx rfl (hb hby d5_113) rfl ?_
            show Steps p.tables e below (T245.setTop (mkF m 115 (lcO_25 a p1 p2 w_innermost) [(.int (1 : Int32)), (.int (7 : Int32)), (.long (own_code p1 w_innermost p2))])) _
            refine XS.imul X245.here hx rfl (hb hby d5_115) rfl ?_
            show Steps p.tables e below (T245.setTop (mkF m 116 (lcO_25 a p1 p2 w_innermost) [(.int (7 : Int32)), (.long (own_code p1 w_innermost p2))])) _
            refine XS.lushr X245.here hx rfl (hb hby d5_116) rfl ?_
            show Steps p.tables e below (T245.setTop (mkF m 117 (lcO_25 a p1 p2 w_innermost) [(.long (own_ush (own_code p1 w_innermost p2) (7 : Int32)))])) _
            refine XS.l2i X245.here hx rfl (hb hby d5_117) rfl ?_
            show Steps p.tables e below (T245.setTop (mkF m 118 (lcO_25 a p1 p2 w_innermost) [(.int ((own_ush (own_code p1 w_innermost p2) (7 : Int32)).toInt32))])) _
            refine XS.bipush X245.here hx rfl (hb hby d5_118) ?_
            show Steps p.tables e below (T245.setTop (mkF m 120 (lcO_25 a p1 p2 w_innermost) [(.int (127 : Int32)), (.int ((own_ush (own_code p1 w_innermost p2) (7 : Int32)).toInt32))])) _
            refine XS.iand X245.here hx rfl (hb hby d5_120) rfl ?_
            show Steps p.tables e below (T245.setTop (mkF m 121 (lcO_25 a p1 p2 w_innermost) [(.int (((own_ush (own_code p1 w_innermost p2) (7 : Int32)).toInt32) &&& (127 : Int32)))])) _
            refine XS.istore X245.here hx rfl (hb hby d5_121) rfl (l' := (lcO_26 a p1 p2 w_innermost)) rfl ?_
            show Steps p.tables e below (T245.setTop (mkF m 123 (lcO_26 a p1 p2 w_innermost) [])) _
            refine XS.aloadN X245.here hx rfl (hb hby d5_123) rfl rfl ?_
            show Steps p.tables e below (T245.setTop (mkF m 124 (lcO_26 a p1 p2 w_innermost) [(.ref a)])) _
            exact k)
          obtain ⟨T248, X248, e248, st248⟩ := getF X245 hx hZ hown (host := "") (Or.inl (hw _ (List.mem_of_getElem? (i := 18) rfl))) Via.refl e245 F_a_groups (g := (mkF m 124 (lcO_26 a p1 p2 w_innermost) [(.ref a)])) rfl rfl (hb hby d5_124)
          have pre249 : ∀ t, Steps p.tables e below (T248.setTop (mkF m 127 (lcO_26 a p1 p2 w_innermost) [(.ref w_groups)])) t → Steps p.tables e below (s₁.setTop (entryFrame m #[(.ref a), (.int p1), (.int p2)] 8)) t := fun t k => pre247 t (st248 t k)
          have pre250 : ∀ t, Steps p.tables e below (T248.setTop (mkF m 129 (lcO_26 a p1 p2 w_innermost) [(.ref a), (.ref a), (.ref w_groups)])) t → Steps p.tables e below (s₁.setTop (entryFrame m #[(.ref a), (.int p1), (.int p2)] 8)) t := fun t k => pre249 t (by
            show Steps p.tables e below (T248.setTop (mkF m 127 (lcO_26 a p1 p2 w_innermost) [(.ref w_groups)])) _
            refine XS.aloadN X248.here hx rfl (hb hby d5_127) rfl rfl ?_
            show Steps p.tables e below (T248.setTop (mkF m 128 (lcO_26 a p1 p2 w_innermost) [(.ref a), (.ref w_groups)])) _
            refine XS.dup X248.here hx rfl (hb hby d5_128) rfl rfl ?_
            show Steps p.tables e below (T248.setTop (mkF m 129 (lcO_26 a p1 p2 w_innermost) [(.ref a), (.ref a), (.ref w_groups)])) _
            exact k)
          obtain ⟨T251, X251, e251, st251⟩ := getF X248 hx hZ hown (host := "") (Or.inl (hw _ (List.mem_of_getElem? (i := 27) rfl))) Via.refl e248 F_a_size (g := (mkF m 129 (lcO_26 a p1 p2 w_innermost) [(.ref a), (.ref a), (.ref w_groups)])) rfl rfl (hb hby d5_129)
          have pre252 : ∀ t, Steps p.tables e below (T251.setTop (mkF m 132 (lcO_26 a p1 p2 w_innermost) [(.int (own_sk w_size 3)), (.ref a), (.ref w_groups)])) t → Steps p.tables e below (s₁.setTop (entryFrame m #[(.ref a), (.int p1), (.int p2)] 8)) t := fun t k => pre250 t (st251 t k)
          have pre253 : ∀ t, Steps p.tables e below (T251.setTop (mkF m 135 (lcO_26 a p1 p2 w_innermost) [(.int (own_sk w_size 4)), (.ref a), (.int (own_sk w_size 3)), (.ref w_groups)])) t → Steps p.tables e below (s₁.setTop (entryFrame m #[(.ref a), (.int p1), (.int p2)] 8)) t := fun t k => pre252 t (by
            show Steps p.tables e below (T251.setTop (mkF m 132 (lcO_26 a p1 p2 w_innermost) [(.int (own_sk w_size 3)), (.ref a), (.ref w_groups)])) _
            refine XS.dupX1 X251.here hx rfl (hb hby d5_132) rfl rfl rfl ?_
            show Steps p.tables e below (T251.setTop (mkF m 133 (lcO_26 a p1 p2 w_innermost) [(.int (own_sk w_size 3)), (.ref a), (.int (own_sk w_size 3)), (.ref w_groups)])) _
            refine XS.iconst X251.here hx rfl (hb hby d5_133) ?_
            show Steps p.tables e below (T251.setTop (mkF m 134 (lcO_26 a p1 p2 w_innermost) [(.int (1 : Int32)), (.int (own_sk w_size 3)), (.ref a), (.int (own_sk w_size 3)), (.ref w_groups)])) _
            refine XS.iadd X251.here hx rfl (hb hby d5_134) rfl ?_
            show Steps p.tables e below (T251.setTop (mkF m 135 (lcO_26 a p1 p2 w_innermost) [(.int (own_sk w_size 4)), (.ref a), (.int (own_sk w_size 3)), (.ref w_groups)])) _
            exact k)
          obtain ⟨T254, h254, X254, e254, W254, st254⟩ := putF X251 hx hZ hown (host := "") (Or.inl (hw _ (List.mem_of_getElem? (i := 27) rfl))) Via.refl e251 F_a_size E_a (Or.inl (hw _ (List.mem_of_getElem? (i := 28) rfl))) (hw _ (List.mem_of_getElem? (i := 9) rfl)) (ty := .int) (by decide) rfl rfl (g := (mkF m 135 (lcO_26 a p1 p2 w_innermost) [(.int (own_sk w_size 4)), (.ref a), (.int (own_sk w_size 3)), (.ref w_groups)])) rfl rfl (hb hby d5_135)
          have F_a_size : Fld Z h254 a "com/example/mensura/mensura/parser/OpenParentheses" "size" "I" (.int (own_sk w_size 4)) := F_a_size.same W254
          have E_a := E_a.wr W254
          have F_a_groups := F_a_groups.other W254 (Or.inr (slot_ne (Or.inl (hw _ (List.mem_of_getElem? (i := 19) rfl))) (Or.inl (hw _ (List.mem_of_getElem? (i := 28) rfl))) (by decide) (t := (.array .byte)) (t' := .int) (by decide) (by decide)))
          have F_a_innermost := F_a_innermost.other W254 (Or.inr (slot_ne (Or.inl (hw _ (List.mem_of_getElem? (i := 21) rfl))) (Or.inl (hw _ (List.mem_of_getElem? (i := 28) rfl))) (by decide) (t := .int) (t' := .int) (by decide) (by decide)))
          have F_a_depth := F_a_depth.other W254 (Or.inr (slot_ne (Or.inl (hw _ (List.mem_of_getElem? (i := 30) rfl))) (Or.inl (hw _ (List.mem_of_getElem? (i := 28) rfl))) (by decide) (t := .int) (t' := .int) (by decide) (by decide)))
          have A_w_groups := A_w_groups.other W254 (Ne.symm ne_a_w_groups)
          have K := K.wr W254 (Or.inl (List.mem_of_getElem? (i := 0) rfl))
          have Z254 : n0 ≤ h254.size := Nat.le_trans Z245 (Keep.of_wr W254).1
          have N254 := Fr.snoc X254 N245 g_a
          have pre255 : ∀ t, Steps p.tables e below (T254.setTop (mkF m 138 (lcO_26 a p1 p2 w_innermost) [(.int (own_sk w_size 3)), (.ref w_groups)])) t → Steps p.tables e below (s₁.setTop (entryFrame m #[(.ref a), (.int p1), (.int p2)] 8)) t := fun t k => pre253 t (st254 t k)
          have pre256 : ∀ t, Steps p.tables e below (T254.setTop (mkF m 159 (lcO_26 a p1 p2 w_innermost) [(.int (own_g1 (own_code p1 w_innermost p2) (7 : Int32))), (.int (own_sk w_size 3)), (.ref w_groups)])) t → Steps p.tables e below (s₁.setTop (entryFrame m #[(.ref a), (.int p1), (.int p2)] 8)) t := fun t k => pre255 t (by
            show Steps p.tables e below (T254.setTop (mkF m 138 (lcO_26 a p1 p2 w_innermost) [(.int (own_sk w_size 3)), (.ref w_groups)])) _
            refine XS.iload X254.here hx rfl (hb hby d5_138) rfl ?_
            show Steps p.tables e below (T254.setTop (mkF m 140 (lcO_26 a p1 p2 w_innermost) [(.int (1 : Int32)), (.int (own_sk w_size 3)), (.ref w_groups)])) _
            refine XS.iload X254.here hx rfl (hb hby d5_140) rfl ?_
            show Steps p.tables e below (T254.setTop (mkF m 142 (lcO_26 a p1 p2 w_innermost) [(.int (5 : Int32)), (.int (1 : Int32)), (.int (own_sk w_size 3)), (.ref w_groups)])) _
            refine XS.iconst X254.here hx rfl (hb hby d5_142) ?_
            show Steps p.tables e below (T254.setTop (mkF m 143 (lcO_26 a p1 p2 w_innermost) [(.int (1 : Int32)), (.int (5 : Int32)), (.int (1 : Int32)), (.int (own_sk w_size 3)), (.ref w_groups)])) _
            refine XS.isub X254.here hx rfl (hb hby d5_143) rfl ?_
            show Steps p.tables e below (T254.setTop (mkF m 144 (lcO_26 a p1 p2 w_innermost) [(.int (4 : Int32)), (.int (1 : Int32)), (.int (own_sk w_size 3)), (.ref w_groups)])) _
            refine XS.icmpYes X254.here hx rfl (pc0 := 144) (pc' := 152) rfl (hb hby d5_144) rfl (feq (by decide)).2 (by decide) (by decide) ?_
            show Steps p.tables e below (T254.setTop (mkF m 152 (lcO_26 a p1 p2 w_innermost) [(.int (own_sk w_size 3)), (.ref w_groups)])) _
            refine XS.iload X254.here hx rfl (hb hby d5_152) rfl ?_
            show Steps p.tables e below (T254.setTop (mkF m 154 (lcO_26 a p1 p2 w_innermost) [(.int (((own_ush (own_code p1 w_innermost p2) (7 : Int32)).toInt32) &&& (127 : Int32))), (.int (own_sk w_size 3)), (.ref w_groups)])) _
            refine XS.sipush X254.here hx rfl (hb hby d5_154) ?_
            show Steps p.tables e below (T254.setTop (mkF m 157 (lcO_26 a p1 p2 w_innermost) [(.int (128 : Int32)), (.int (((own_ush (own_code p1 w_innermost p2) (7 : Int32)).toInt32) &&& (127 : Int32))), (.int (own_sk w_size 3)), (.ref w_groups)])) _
            refine XS.ior X254.here hx rfl (hb hby d5_157) rfl ?_
            show Steps p.tables e below (T254.setTop (mkF m 158 (lcO_26 a p1 p2 w_innermost) [(.int ((((own_ush (own_code p1 w_innermost p2) (7 : Int32)).toInt32) &&& (127 : Int32)) ||| (128 : Int32))), (.int (own_sk w_size 3)), (.ref w_groups)])) _
            refine XS.i2b X254.here hx rfl (hb hby d5_158) rfl ?_
            show Steps p.tables e below (T254.setTop (mkF m 159 (lcO_26 a p1 p2 w_innermost) [(.int (own_g1 (own_code p1 w_innermost p2) (7 : Int32))), (.int (own_sk w_size 3)), (.ref w_groups)])) _
            exact k)
          obtain ⟨cl257, Ar257, Sz257, Hf257⟩ := A_w_groups
          obtain ⟨T257, h257, X257, e257, W257, st257⟩ := stB X254 hx hZ e254 Ar257 (j := (own_sk w_size 3)) (own_inb Sz257 (own_skb hs 3 (by decide))) (g := (mkF m 159 (lcO_26 a p1 p2 w_innermost) [(.int (own_g1 (own_code p1 w_innermost p2) (7 : Int32))), (.int (own_sk w_size 3)), (.ref w_groups)])) rfl rfl (hb hby d5_159)
          have A_w_groups : own_A Z h257 w_groups .byte 16 (own_put (own_put (own_put (own_put f (w_size).toNatClampNeg (nar .byte (own_g0 (own_code p1 w_innermost p2) (28 : Int32)))) ((own_sk w_size 1)).toNatClampNeg (nar .byte (own_g1 (own_code p1 w_innermost p2) (21 : Int32)))) ((own_sk w_size 2)).toNatClampNeg (nar .byte (own_g1 (own_code p1 w_innermost p2) (14 : Int32)))) ((own_sk w_size 3)).toNatClampNeg (nar .byte (own_g1 (own_code p1 w_innermost p2) (7 : Int32)))) := own_A.set Ar257 Sz257 Hf257 W257
          have E_a := E_a.wr W257
          have F_a_groups := F_a_groups.other W257 (Or.inl ne_a_w_groups)
          have F_a_size := F_a_size.other W257 (Or.inl ne_a_w_groups)
          have F_a_innermost := F_a_innermost.other W257 (Or.inl ne_a_w_groups)
          have F_a_depth := F_a_depth.other W257 (Or.inl ne_a_w_groups)
          have K := K.wr W257 (Or.inl (List.mem_of_getElem? (i := 1) rfl))
          have Z257 : n0 ≤ h257.size := Nat.le_trans Z254 (Keep.of_wr W257).1
          have N257 := Fr.snoc X257 N254 g_w_groups
          have pre258 : ∀ t, Steps p.tables e below (T257.setTop (mkF m 160 (lcO_26 a p1 p2 w_innermost) [])) t → Steps p.tables e below (s₁.setTop (entryFrame m #[(.ref a), (.int p1), (.int p2)] 8)) t := fun t k => pre256 t (st257 t k)
          have pre259 : ∀ t, Steps p.tables e below (T257.setTop (mkF m 124 (lcO_28 a p1 p2 w_innermost) [(.ref a)])) t → Steps p.tables e below (s₁.setTop (entryFrame m #[(.ref a), (.int p1), (.int p2)] 8)) t := fun t k => pre258 t (by
            show Steps p.tables e below (T257.setTop (mkF m 160 (lcO_26 a p1 p2 w_innermost) [])) _
            refine XS.iinc X257.here hx rfl (hb hby d5_160) rfl (l' := (lcO_27 a p1 p2 w_innermost)) rfl ?_
            show Steps p.tables e below (T257.setTop (mkF m 163 (lcO_27 a p1 p2 w_innermost) [])) _
            refine XS.goto X257.here hx rfl (pc0 := 163) (pc' := 105) rfl (hb hby d5_163) (by decide) (by decide) ?_
            show Steps p.tables e below (T257.setTop (mkF m 105 (lcO_27 a p1 p2 w_innermost) [])) _
            refine XS.iload X257.here hx rfl (hb hby d5_105) rfl ?_
            show Steps p.tables e below (T257.setTop (mkF m 107 (lcO_27 a p1 p2 w_innermost) [(.int (0 : Int32))])) _
            refine XS.ifNo X257.here hx rfl (hb hby d5_107) rfl ((if0 _ _).trans (flt (by decide)).1) ?_
            show Steps p.tables e below (T257.setTop (mkF m 110 (lcO_27 a p1 p2 w_innermost) [])) _
            refine XS.lloadN X257.here hx rfl (hb hby d5_110) rfl ?_
            show Steps p.tables e below (T257.setTop (mkF m 111 (lcO_27 a p1 p2 w_innermost) [(.long (own_code p1 w_innermost p2))])) _
            refine XS.bipush X257.here hx rfl (hb hby d5_111) ?_
            show Steps p.tables e below (T257.setTop (mkF m 113 (lcO_27 a p1 p2 w_innermost) [(.int (7 : Int32)), (.long (own_code p1 w_innermost p2))])) _
            refine XS.iload X257.here hx rfl (hb hby d5_113) rfl ?_
            show Steps p.tables e below (T257.setTop (mkF m 115 (lcO_27 a p1 p2 w_innermost) [(.int (0 : Int32)), (.int (7 : Int32)), (.long (own_code p1 w_innermost p2))])) _
            refine XS.imul X257.here hx rfl (hb hby d5_115) rfl ?_
            show Steps p.tables e below (T257.setTop (mkF m 116 (lcO_27 a p1 p2 w_innermost) [(.int (0 : Int32)), (.long (own_code p1 w_innermost p2))])) _
            refine XS.lushr X257.here hx rfl (hb hby d5_116) rfl ?_
            show Steps p.tables e below (T257.setTop (mkF m 117 (lcO_27 a p1 p2 w_innermost) [(.long (own_ush (own_code p1 w_innermost p2) (0 : Int32)))])) _
            refine XS.l2i X257.here hx rfl (hb hby d5_117) rfl ?_
            show Steps p.tables e below (T257.setTop (mkF m 118 (lcO_27 a p1 p2 w_innermost) [(.int ((own_ush (own_code p1 w_innermost p2) (0 : Int32)).toInt32))])) _
            refine XS.bipush X257.here hx rfl (hb hby d5_118) ?_
            show Steps p.tables e below (T257.setTop (mkF m 120 (lcO_27 a p1 p2 w_innermost) [(.int (127 : Int32)), (.int ((own_ush (own_code p1 w_innermost p2) (0 : Int32)).toInt32))])) _
            refine XS.iand X257.here hx rfl (hb hby d5_120) rfl ?_
            show Steps p.tables e below (T257.setTop (mkF m 121 (lcO_27 a p1 p2 w_innermost) [(.int (((own_ush (own_code p1 w_innermost p2) (0 : Int32)).toInt32) &&& (127 : Int32)))])) _
            refine XS.istore X257.here hx rfl (hb hby d5_121) rfl (l' := (lcO_28 a p1 p2 w_innermost)) rfl ?_
            show Steps p.tables e below (T257.setTop (mkF m 123 (lcO_28 a p1 p2 w_innermost) [])) _
            refine XS.aloadN X257.here hx rfl (hb hby d5_123) rfl rfl ?_
            show Steps p.tables e below (T257.setTop (mkF m 124 (lcO_28 a p1 p2 w_innermost) [(.ref a)])) _
            exact k)
          obtain ⟨T260, X260, e260, st260⟩ := getF X257 hx hZ hown (host := "") (Or.inl (hw _ (List.mem_of_getElem? (i := 18) rfl))) Via.refl e257 F_a_groups (g := (mkF m 124 (lcO_28 a p1 p2 w_innermost) [(.ref a)])) rfl rfl (hb hby d5_124)
          have pre261 : ∀ t, Steps p.tables e below (T260.setTop (mkF m 127 (lcO_28 a p1 p2 w_innermost) [(.ref w_groups)])) t → Steps p.tables e below (s₁.setTop (entryFrame m #[(.ref a), (.int p1), (.int p2)] 8)) t := fun t k => pre259 t (st260 t k)
          have pre262 : ∀ t, Steps p.tables e below (T260.setTop (mkF m 129 (lcO_28 a p1 p2 w_innermost) [(.ref a), (.ref a), (.ref w_groups)])) t → Steps p.tables e below (s₁.setTop (entryFrame m #[(.ref a), (.int p1), (.int p2)] 8)) t := fun t k => pre261 t (by
            show Steps p.tables e below (T260.setTop (mkF m 127 (lcO_28 a p1 p2 w_innermost) [(.ref w_groups)])) _
            refine XS.aloadN X260.here hx rfl (hb hby d5_127) rfl rfl ?_
            show Steps p.tables e below (T260.setTop (mkF m 128 (lcO_28 a p1 p2 w_innermost) [(.ref a), (.ref w_groups)])) _
            refine XS.dup X260.here hx rfl (hb hby d5_128) rfl rfl ?_
            show Steps p.tables e below (T260.setTop (mkF m 129 (lcO_28 a p1 p2 w_innermost) [(.ref a), (.ref a), (.ref w_groups)])) _
            exact k)
          obtain ⟨T263, X263, e263, st263⟩ := getF X260 hx hZ hown (host := "") (Or.inl (hw _ (List.mem_of_getElem? (i := 27) rfl))) Via.refl e260 F_a_size (g := (mkF m 129 (lcO_28 a p1 p2 w_innermost) [(.ref a), (.ref a), (.ref w_groups)])) rfl rfl (hb hby d5_129)
          have pre264 : ∀ t, Steps p.tables e below (T263.setTop (mkF m 132 (lcO_28 a p1 p2 w_innermost) [(.int (own_sk w_size 4)), (.ref a), (.ref w_groups)])) t → Steps p.tables e below (s₁.setTop (entryFrame m #[(.ref a), (.int p1), (.int p2)] 8)) t := fun t k => pre262 t (st263 t k)
          have pre265 : ∀ t, Steps p.tables e below (T263.setTop (mkF m 135 (lcO_28 a p1 p2 w_innermost) [(.int (own_sk w_size 5)), (.ref a), (.int (own_sk w_size 4)), (.ref w_groups)])) t → Steps p.tables e below (s₁.setTop (entryFrame m #[(.ref a), (.int p1), (.int p2)] 8)) t := fun t k => pre264 t (by
            show Steps p.tables e below (T263.setTop (mkF m 132 (lcO_28 a p1 p2 w_innermost) [(.int (own_sk w_size 4)), (.ref a), (.ref w_groups)])) _
            refine XS.dupX1 X263.here hx rfl (hb hby d5_132) rfl rfl rfl ?_
            show Steps p.tables e below (T263.setTop (mkF m 133 (lcO_28 a p1 p2 w_innermost) [(.int (own_sk w_size 4)), (.ref a), (.int (own_sk w_size 4)), (.ref w_groups)])) _
            refine XS.iconst X263.here hx rfl (hb hby d5_133) ?_
            show Steps p.tables e below (T263.setTop (mkF m 134 (lcO_28 a p1 p2 w_innermost) [(.int (1 : Int32)), (.int (own_sk w_size 4)), (.ref a), (.int (own_sk w_size 4)), (.ref w_groups)])) _
            refine XS.iadd X263.here hx rfl (hb hby d5_134) rfl ?_
            show Steps p.tables e below (T263.setTop (mkF m 135 (lcO_28 a p1 p2 w_innermost) [(.int (own_sk w_size 5)), (.ref a), (.int (own_sk w_size 4)), (.ref w_groups)])) _
            exact k)
          obtain ⟨T266, h266, X266, e266, W266, st266⟩ := putF X263 hx hZ hown (host := "") (Or.inl (hw _ (List.mem_of_getElem? (i := 27) rfl))) Via.refl e263 F_a_size E_a (Or.inl (hw _ (List.mem_of_getElem? (i := 28) rfl))) (hw _ (List.mem_of_getElem? (i := 9) rfl)) (ty := .int) (by decide) rfl rfl (g := (mkF m 135 (lcO_28 a p1 p2 w_innermost) [(.int (own_sk w_size 5)), (.ref a), (.int (own_sk w_size 4)), (.ref w_groups)])) rfl rfl (hb hby d5_135)
          have F_a_size : Fld Z h266 a "com/example/mensura/mensura/parser/OpenParentheses" "size" "I" (.int (own_sk w_size 5)) := F_a_size.same W266
          have E_a := E_a.wr W266
          have F_a_groups := F_a_groups.other W266 (Or.inr (slot_ne (Or.inl (hw _ (List.mem_of_getElem? (i := 19) rfl))) (Or.inl (hw _ (List.mem_of_getElem? (i := 28) rfl))) (by decide) (t := (.array .byte)) (t' := .int) (by decide) (by decide)))
          have F_a_innermost := F_a_innermost.other W266 (Or.inr (slot_ne (Or.inl (hw _ (List.mem_of_getElem? (i := 21) rfl))) (Or.inl (hw _ (List.mem_of_getElem? (i := 28) rfl))) (by decide) (t := .int) (t' := .int) (by decide) (by decide)))
          have F_a_depth := F_a_depth.other W266 (Or.inr (slot_ne (Or.inl (hw _ (List.mem_of_getElem? (i := 30) rfl))) (Or.inl (hw _ (List.mem_of_getElem? (i := 28) rfl))) (by decide) (t := .int) (t' := .int) (by decide) (by decide)))
          have A_w_groups := A_w_groups.other W266 (Ne.symm ne_a_w_groups)
          have K := K.wr W266 (Or.inl (List.mem_of_getElem? (i := 0) rfl))
          have Z266 : n0 ≤ h266.size := Nat.le_trans Z257 (Keep.of_wr W266).1
          have N266 := Fr.snoc X266 N257 g_a
          have pre267 : ∀ t, Steps p.tables e below (T266.setTop (mkF m 138 (lcO_28 a p1 p2 w_innermost) [(.int (own_sk w_size 4)), (.ref w_groups)])) t → Steps p.tables e below (s₁.setTop (entryFrame m #[(.ref a), (.int p1), (.int p2)] 8)) t := fun t k => pre265 t (st266 t k)
          have pre268 : ∀ t, Steps p.tables e below (T266.setTop (mkF m 159 (lcO_28 a p1 p2 w_innermost) [(.int (own_g1 (own_code p1 w_innermost p2) (0 : Int32))), (.int (own_sk w_size 4)), (.ref w_groups)])) t → Steps p.tables e below (s₁.setTop (entryFrame m #[(.ref a), (.int p1), (.int p2)] 8)) t := fun t k => pre267 t (by
            show Steps p.tables e below (T266.setTop (mkF m 138 (lcO_28 a p1 p2 w_innermost) [(.int (own_sk w_size 4)), (.ref w_groups)])) _
            refine XS.iload X266.here hx rfl (hb hby d5_138) rfl ?_
            show Steps p.tables e below (T266.setTop (mkF m 140 (lcO_28 a p1 p2 w_innermost) [(.int (0 : Int32)), (.int (own_sk w_size 4)), (.ref w_groups)])) _
            refine XS.iload X266.here hx rfl (hb hby d5_140) rfl ?_
            show Steps p.tables e below (T266.setTop (mkF m 142 (lcO_28 a p1 p2 w_innermost) [(.int (5 : Int32)), (.int (0 : Int32)), (.int (own_sk w_size 4)), (.ref w_groups)])) _
            refine XS.iconst X266.here hx rfl (hb hby d5_142) ?_
            show Steps p.tables e below (T266.setTop (mkF m 143 (lcO_28 a p1 p2 w_innermost) [(.int (1 : Int32)), (.int (5 : Int32)), (.int (0 : Int32)), (.int (own_sk w_size 4)), (.ref w_groups)])) _
            refine XS.isub X266.here hx rfl (hb hby d5_143) rfl ?_
            show Steps p.tables e below (T266.setTop (mkF m 144 (lcO_28 a p1 p2 w_innermost) [(.int (4 : Int32)), (.int (0 : Int32)), (.int (own_sk w_size 4)), (.ref w_groups)])) _
            refine XS.icmpYes X266.here hx rfl (pc0 := 144) (pc' := 152) rfl (hb hby d5_144) rfl (feq (by decide)).2 (by decide) (by decide) ?_
            show Steps p.tables e below (T266.setTop (mkF m 152 (lcO_28 a p1 p2 w_innermost) [(.int (own_sk w_size 4)), (.ref w_groups)])) _
            refine XS.iload X266.here hx rfl (hb hby d5_152) rfl ?_
            show Steps p.tables e below (T266.setTop (mkF m 154 (lcO_28 a p1 p2 w_innermost) [(.int (((own_ush (own_code p1 w_innermost p2) (0 : Int32)).toInt32) &&& (127 : Int32))), (.int (own_sk w_size 4)), (.ref w_groups)])) _
            refine XS.sipush X266.here hx rfl (hb hby d5_154) ?_
            show Steps p.tables e below (T266.setTop (mkF m 157 (lcO_28 a p1 p2 w_innermost) [(.int (128 : Int32)), (.int (((own_ush (own_code p1 w_innermost p2) (0 : Int32)).toInt32) &&& (127 : Int32))), (.int (own_sk w_size 4)), (.ref w_groups)])) _
            refine XS.ior X266.here hx rfl (hb hby d5_157) rfl ?_
            show Steps p.tables e below (T266.setTop (mkF m 158 (lcO_28 a p1 p2 w_innermost) [(.int ((((own_ush (own_code p1 w_innermost p2) (0 : Int32)).toInt32) &&& (127 : Int32)) ||| (128 : Int32))), (.int (own_sk w_size 4)), (.ref w_groups)])) _
            refine XS.i2b X266.here hx rfl (hb hby d5_158) rfl ?_
            show Steps p.tables e below (T266.setTop (mkF m 159 (lcO_28 a p1 p2 w_innermost) [(.int (own_g1 (own_code p1 w_innermost p2) (0 : Int32))), (.int (own_sk w_size 4)), (.ref w_groups)])) _
            exact k)
          obtain ⟨cl269, Ar269, Sz269, Hf269⟩ := A_w_groups
          obtain ⟨T269, h269, X269, e269, W269, st269⟩ := stB X266 hx hZ e266 Ar269 (j := (own_sk w_size 4)) (own_inb Sz269 (own_skb hs 4 (by decide))) (g := (mkF m 159 (lcO_28 a p1 p2 w_innermost) [(.int (own_g1 (own_code p1 w_innermost p2) (0 : Int32))), (.int (own_sk w_size 4)), (.ref w_groups)])) rfl rfl (hb hby d5_159)
          have A_w_groups : own_A Z h269 w_groups .byte 16 (own_put (own_put (own_put (own_put (own_put f (w_size).toNatClampNeg (nar .byte (own_g0 (own_code p1 w_innermost p2) (28 : Int32)))) ((own_sk w_size 1)).toNatClampNeg (nar .byte (own_g1 (own_code p1 w_innermost p2) (21 : Int32)))) ((own_sk w_size 2)).toNatClampNeg (nar .byte (own_g1 (own_code p1 w_innermost p2) (14 : Int32)))) ((own_sk w_size 3)).toNatClampNeg (nar .byte (own_g1 (own_code p1 w_innermost p2) (7 : Int32)))) ((own_sk w_size 4)).toNatClampNeg (nar .byte (own_g1 (own_code p1 w_innermost p2) (0 : Int32)))) := own_A.set Ar269 Sz269 Hf269 W269
          have E_a := E_a.wr W269
          have F_a_groups := F_a_groups.other W269 (Or.inl ne_a_w_groups)
          have F_a_size := F_a_size.other W269 (Or.inl ne_a_w_groups)
          have F_a_innermost := F_a_innermost.other W269 (Or.inl ne_a_w_groups)
          have F_a_depth := F_a_depth.other W269 (Or.inl ne_a_w_groups)
          have K := K.wr W269 (Or.inl (List.mem_of_getElem? (i := 1) rfl))
          have Z269 : n0 ≤ h269.size := Nat.le_trans Z266 (Keep.of_wr W269).1
          have N269 := Fr.snoc X269 N266 g_w_groups
          have pre270 : ∀ t, Steps p.tables e below (T269.setTop (mkF m 160 (lcO_28 a p1 p2 w_innermost) [])) t → Steps p.tables e below (s₁.setTop (entryFrame m #[(.ref a), (.int p1), (.int p2)] 8)) t := fun t k => pre268 t (st269 t k)
          have pre271 : ∀ t, Steps p.tables e below (T269.setTop (mkF m 168 (lcO_29 a p1 p2 w_innermost) [(.int p1), (.ref a)])) t → Steps p.tables e below (s₁.setTop (entryFrame m #[(.ref a), (.int p1), (.int p2)] 8)) t := fun t k => pre270 t (by
            show Steps p.tables e below (T269.setTop (mkF m 160 (lcO_28 a p1 p2 w_innermost) [])) _
            refine XS.iinc X269.here hx rfl (hb hby d5_160) rfl (l' := (lcO_29 a p1 p2 w_innermost)) rfl ?_
            show Steps p.tables e below (T269.setTop (mkF m 163 (lcO_29 a p1 p2 w_innermost) [])) _
            refine XS.goto X269.here hx rfl (pc0 := 163) (pc' := 105) rfl (hb hby d5_163) (by decide) (by decide) ?_
            show Steps p.tables e below (T269.setTop (mkF m 105 (lcO_29 a p1 p2 w_innermost) [])) _
            refine XS.iload X269.here hx rfl (hb hby d5_105) rfl ?_
            show Steps p.tables e below (T269.setTop (mkF m 107 (lcO_29 a p1 p2 w_innermost) [(.int (-1 : Int32))])) _
            refine XS.ifYes X269.here hx rfl (pc0 := 107) (pc' := 166) rfl (hb hby d5_107) rfl ((if0 _ _).trans (tlt (by decide)).1) (by decide) (by decide) ?_
            show Steps p.tables e below (T269.setTop (mkF m 166 (lcO_29 a p1 p2 w_innermost) [])) _
            refine XS.aloadN X269.here hx rfl (hb hby d5_166) rfl rfl ?_
            show Steps p.tables e below (T269.setTop (mkF m 167 (lcO_29 a p1 p2 w_innermost) [(.ref a)])) _
            refine XS.iloadN X269.here hx rfl (hb hby d5_167) rfl ?_
            show Steps p.tables e below (T269.setTop (mkF m 168 (lcO_29 a p1 p2 w_innermost) [(.int p1), (.ref a)])) _
            exact k)
          obtain ⟨T272, h272, X272, e272, W272, st272⟩ := putF X269 hx hZ hown (host := "") (Or.inl (hw _ (List.mem_of_getElem? (i := 20) rfl))) Via.refl e269 F_a_innermost E_a (Or.inl (hw _ (List.mem_of_getElem? (i := 21) rfl))) (hw _ (List.mem_of_getElem? (i := 9) rfl)) (ty := .int) (by decide) rfl rfl (g := (mkF m 168 (lcO_29 a p1 p2 w_innermost) [(.int p1), (.ref a)])) rfl rfl (hb hby d5_168)
          have F_a_innermost : Fld Z h272 a "com/example/mensura/mensura/parser/OpenParentheses" "innermost" "I" (.int p1) := F_a_innermost.same W272
          have E_a := E_a.wr W272
          have F_a_groups := F_a_groups.other W272 (Or.inr (slot_ne (Or.inl (hw _ (List.mem_of_getElem? (i := 19) rfl))) (Or.inl (hw _ (List.mem_of_getElem? (i := 21) rfl))) (by decide) (t := (.array .byte)) (t' := .int) (by decide) (by decide)))
          have F_a_size := F_a_size.other W272 (Or.inr (slot_ne (Or.inl (hw _ (List.mem_of_getElem? (i := 28) rfl))) (Or.inl (hw _ (List.mem_of_getElem? (i := 21) rfl))) (by decide) (t := .int) (t' := .int) (by decide) (by decide)))
          have F_a_depth := F_a_depth.other W272 (Or.inr (slot_ne (Or.inl (hw _ (List.mem_of_getElem? (i := 30) rfl))) (Or.inl (hw _ (List.mem_of_getElem? (i := 21) rfl))) (by decide) (t := .int) (t' := .int) (by decide) (by decide)))
          have A_w_groups := A_w_groups.other W272 (Ne.symm ne_a_w_groups)
          have K := K.wr W272 (Or.inl (List.mem_of_getElem? (i := 0) rfl))
          have Z272 : n0 ≤ h272.size := Nat.le_trans Z269 (Keep.of_wr W272).1
          have N272 := Fr.snoc X272 N269 g_a
          have pre273 : ∀ t, Steps p.tables e below (T272.setTop (mkF m 171 (lcO_29 a p1 p2 w_innermost) [])) t → Steps p.tables e below (s₁.setTop (entryFrame m #[(.ref a), (.int p1), (.int p2)] 8)) t := fun t k => pre271 t (st272 t k)
          have pre274 : ∀ t, Steps p.tables e below (T272.setTop (mkF m 173 (lcO_29 a p1 p2 w_innermost) [(.ref a), (.ref a)])) t → Steps p.tables e below (s₁.setTop (entryFrame m #[(.ref a), (.int p1), (.int p2)] 8)) t := fun t k => pre273 t (by
            show Steps p.tables e below (T272.setTop (mkF m 171 (lcO_29 a p1 p2 w_innermost) [])) _
            refine XS.aloadN X272.here hx rfl (hb hby d5_171) rfl rfl ?_
            show Steps p.tables e below (T272.setTop (mkF m 172 (lcO_29 a p1 p2 w_innermost) [(.ref a)])) _
            refine XS.dup X272.here hx rfl (hb hby d5_172) rfl rfl ?_
            show Steps p.tables e below (T272.setTop (mkF m 173 (lcO_29 a p1 p2 w_innermost) [(.ref a), (.ref a)])) _
            exact k)
          obtain ⟨T275, X275, e275, st275⟩ := getF X272 hx hZ hown (host := "") (Or.inl (hw _ (List.mem_of_getElem? (i := 29) rfl))) Via.refl e272 F_a_depth (g := (mkF m 173 (lcO_29 a p1 p2 w_innermost) [(.ref a), (.ref a)])) rfl rfl (hb hby d5_173)
          have pre276 : ∀ t, Steps p.tables e below (T275.setTop (mkF m 176 (lcO_29 a p1 p2 w_innermost) [(.int w_depth), (.ref a)])) t → Steps p.tables e below (s₁.setTop (entryFrame m #[(.ref a), (.int p1), (.int p2)] 8)) t := fun t k => pre274 t (st275 t k)
          have pre277 : ∀ t, Steps p.tables e below (T275.setTop (mkF m 178 (lcO_29 a p1 p2 w_innermost) [(.int (w_depth + (1 : Int32))), (.ref a)])) t → Steps p.tables e below (s₁.setTop (entryFrame m #[(.ref a), (.int p1), (.int p2)] 8)) t := fun t k => pre276 t (by
            show Steps p.tables e below (T275.setTop (mkF m 176 (lcO_29 a p1 p2 w_innermost) [(.int w_depth), (.ref a)])) _
            refine XS.iconst X275.here hx rfl (hb hby d5_176) ?_
            show Steps p.tables e below (T275.setTop (mkF m 177 (lcO_29 a p1 p2 w_innermost) [(.int (1 : Int32)), (.int w_depth), (.ref a)])) _
            refine XS.iadd X275.here hx rfl (hb hby d5_177) rfl ?_
            show Steps p.tables e below (T275.setTop (mkF m 178 (lcO_29 a p1 p2 w_innermost) [(.int (w_depth + (1 : Int32))), (.ref a)])) _
            exact k)
          obtain ⟨T278, h278, X278, e278, W278, st278⟩ := putF X275 hx hZ hown (host := "") (Or.inl (hw _ (List.mem_of_getElem? (i := 29) rfl))) Via.refl e275 F_a_depth E_a (Or.inl (hw _ (List.mem_of_getElem? (i := 30) rfl))) (hw _ (List.mem_of_getElem? (i := 9) rfl)) (ty := .int) (by decide) rfl rfl (g := (mkF m 178 (lcO_29 a p1 p2 w_innermost) [(.int (w_depth + (1 : Int32))), (.ref a)])) rfl rfl (hb hby d5_178)
          have F_a_depth : Fld Z h278 a "com/example/mensura/mensura/parser/OpenParentheses" "depth" "I" (.int (w_depth + (1 : Int32))) := F_a_depth.same W278
          have E_a := E_a.wr W278
          have F_a_groups := F_a_groups.other W278 (Or.inr (slot_ne (Or.inl (hw _ (List.mem_of_getElem? (i := 19) rfl))) (Or.inl (hw _ (List.mem_of_getElem? (i := 30) rfl))) (by decide) (t := (.array .byte)) (t' := .int) (by decide) (by decide)))
          have F_a_size := F_a_size.other W278 (Or.inr (slot_ne (Or.inl (hw _ (List.mem_of_getElem? (i := 28) rfl))) (Or.inl (hw _ (List.mem_of_getElem? (i := 30) rfl))) (by decide) (t := .int) (t' := .int) (by decide) (by decide)))
          have F_a_innermost := F_a_innermost.other W278 (Or.inr (slot_ne (Or.inl (hw _ (List.mem_of_getElem? (i := 21) rfl))) (Or.inl (hw _ (List.mem_of_getElem? (i := 30) rfl))) (by decide) (t := .int) (t' := .int) (by decide) (by decide)))
          have A_w_groups := A_w_groups.other W278 (Ne.symm ne_a_w_groups)
          have K := K.wr W278 (Or.inl (List.mem_of_getElem? (i := 0) rfl))
          have Z278 : n0 ≤ h278.size := Nat.le_trans Z272 (Keep.of_wr W278).1
          have N278 := Fr.snoc X278 N272 g_a
          have pre279 : ∀ t, Steps p.tables e below (T278.setTop (mkF m 181 (lcO_29 a p1 p2 w_innermost) [])) t → Steps p.tables e below (s₁.setTop (entryFrame m #[(.ref a), (.int p1), (.int p2)] 8)) t := fun t k => pre277 t (st278 t k)
          obtain ⟨fs, hr, hrun, hended, hW, hsame⟩ := X278.leave (v := none) (fun _ => rfl) hlk
          refine ⟨_, _, pre279 _ ?_, hrun, hended, _, _, rfl, ?_, ⟨_, rfl⟩, hW, hsame.mono (by decide) (by decide)⟩
          · show Steps p.tables e below (T278.setTop (mkF m 181 (lcO_29 a p1 p2 w_innermost) [])) _
            exact X278.returnOut hx Bd.returns (hb hby d5_181) hr
          · show QO Z a p1 p2 f w_groups w_size w_innermost w_depth h0 n0 _ T278.heap _
            rw [e278]
            have hm : own_m (own_code p1 w_innermost p2) = 5 := by simp only [own_m, if_neg hc33_8, if_neg hc33_39, if_neg hc33_82, if_neg hc33_137]
            exact ⟨rfl, N278, K, ⟨_, A_w_groups, own_push5 f w_size (own_code p1 w_innermost p2) hm hs⟩, F_a_groups, (by rw [hm]; exact F_a_size), F_a_innermost, F_a_depth⟩
theorem d6_0 : decode prog_32_method_3_code 0 = .ok (.lconst 0, 1) := by decide +kernel
theorem d6_1 : decode prog_32_method_3_code 1 = .ok (.lstore_n 1, 1) := by decide +kernel
theorem d6_2 : decode prog_32_method_3_code 2 = .ok (.iconst 0, 1) := by decide +kernel
theorem d6_3 : decode prog_32_method_3_code 3 = .ok (.istore_n 3, 1) := by decide +kernel
theorem d6_4 : decode prog_32_method_3_code 4 = .ok (.aload_n 0, 1) := by decide +kernel
theorem d6_5 : decode prog_32_method_3_code 5 = .ok (.getfield 7, 3) := by decide +kernel
theorem d6_8 : decode prog_32_method_3_code 8 = .ok (.aload_n 0, 1) := by decide +kernel
theorem d6_9 : decode prog_32_method_3_code 9 = .ok (.dup, 1) := by decide +kernel
theorem d6_10 : decode prog_32_method_3_code 10 = .ok (.getfield 17, 3) := by decide +kernel
theorem d6_13 : decode prog_32_method_3_code 13 = .ok (.iconst 1, 1) := by decide +kernel
theorem d6_14 : decode prog_32_method_3_code 14 = .ok (.isub, 1) := by decide +kernel
theorem d6_15 : decode prog_32_method_3_code 15 = .ok (.dup_x1, 1) := by decide +kernel
theorem d6_16 : decode prog_32_method_3_code 16 = .ok (.putfield 17, 3) := by decide +kernel
theorem d6_19 : decode prog_32_method_3_code 19 = .ok (.baload, 1) := by decide +kernel
theorem d6_20 : decode prog_32_method_3_code 20 = .ok (.istore 4, 2) := by decide +kernel
theorem d6_22 : decode prog_32_method_3_code 22 = .ok (.lload_n 1, 1) := by decide +kernel
theorem d6_23 : decode prog_32_method_3_code 23 = .ok (.iload 4, 2) := by decide +kernel
theorem d6_25 : decode prog_32_method_3_code 25 = .ok (.bipush 127, 2) := by decide +kernel
theorem d6_27 : decode prog_32_method_3_code 27 = .ok (.iand, 1) := by decide +kernel
theorem d6_28 : decode prog_32_method_3_code 28 = .ok (.i2l, 1) := by decide +kernel
theorem d6_29 : decode prog_32_method_3_code 29 = .ok (.iload_n 3, 1) := by decide +kernel
theorem d6_30 : decode prog_32_method_3_code 30 = .ok (.lshl, 1) := by decide +kernel
theorem d6_31 : decode prog_32_method_3_code 31 = .ok (.lor, 1) := by decide +kernel
theorem d6_32 : decode prog_32_method_3_code 32 = .ok (.lstore_n 1, 1) := by decide +kernel
theorem d6_33 : decode prog_32_method_3_code 33 = .ok (.iinc 3 7, 3) := by decide +kernel
theorem d6_36 : decode prog_32_method_3_code 36 = .ok (.iload 4, 2) := by decide +kernel
theorem d6_38 : decode prog_32_method_3_code 38 = .ok (.ifCond .lt (-34), 3) := by decide +kernel
theorem d6_41 : decode prog_32_method_3_code 41 = .ok (.aload_n 0, 1) := by decide +kernel
theorem d6_42 : decode prog_32_method_3_code 42 = .ok (.dup, 1) := by decide +kernel
theorem d6_43 : decode prog_32_method_3_code 43 = .ok (.getfield 13, 3) := by decide +kernel
theorem d6_46 : decode prog_32_method_3_code 46 = .ok (.lload_n 1, 1) := by decide +kernel
theorem d6_47 : decode prog_32_method_3_code 47 = .ok (.iconst 1, 1) := by decide +kernel
theorem d6_48 : decode prog_32_method_3_code 48 = .ok (.lushr, 1) := by decide +kernel
theorem d6_49 : decode prog_32_method_3_code 49 = .ok (.l2i, 1) := by decide +kernel
theorem d6_50 : decode prog_32_method_3_code 50 = .ok (.isub, 1) := by decide +kernel
theorem d6_51 : decode prog_32_method_3_code 51 = .ok (.putfield 13, 3) := by decide +kernel
theorem d6_54 : decode prog_32_method_3_code 54 = .ok (.aload_n 0, 1) := by decide +kernel
theorem d6_55 : decode prog_32_method_3_code 55 = .ok (.dup, 1) := by decide +kernel
theorem d6_56 : decode prog_32_method_3_code 56 = .ok (.getfield 42, 3) := by decide +kernel
theorem d6_59 : decode prog_32_method_3_code 59 = .ok (.iconst 1, 1) := by decide +kernel
theorem d6_60 : decode prog_32_method_3_code 60 = .ok (.isub, 1) := by decide +kernel
theorem d6_61 : decode prog_32_method_3_code 61 = .ok (.putfield 42, 3) := by decide +kernel
theorem d6_64 : decode prog_32_method_3_code 64 = .ok (.return_, 1) := by decide +kernel
theorem ef_6 (m : MethodId) (a : Addr) : entryFrame m #[(.ref a)] 5 = mkF m 0 #[.val (.ref a), .unset, .unset, .unset, .unset] [] := by first | (simp [entryFrame, mkF, argsToLocals, Value.category]; done) | rfl
def lcC_0 (a : Addr) (cc : Int64) : Array Slot := #[.val (.ref a), .val (.long ((0 : Int64) ||| (own_shl (((own_byte cc 0) &&& (127 : Int32)).toInt64) (0 : Int32)))), .second, .val (.int (0 : Int32)), .val (.int (own_byte cc 0))]
def lcC_1 (a : Addr) (cc : Int64) : Array Slot := #[.val (.ref a), .val (.long ((0 : Int64) ||| (own_shl (((own_byte cc 0) &&& (127 : Int32)).toInt64) (0 : Int32)))), .second, .val (.int (7 : Int32)), .val (.int (own_byte cc 0))]
def lcC_2 (a : Addr) (cc : Int64) : Array Slot := #[.val (.ref a), .val (.long ((0 : Int64) ||| (own_shl (((own_byte cc 0) &&& (127 : Int32)).toInt64) (0 : Int32)))), .second, .val (.int (7 : Int32)), .val (.int (own_byte cc 1))]
def lcC_3 (a : Addr) (cc : Int64) : Array Slot := #[.val (.ref a), .val (.long (((0 : Int64) ||| (own_shl (((own_byte cc 0) &&& (127 : Int32)).toInt64) (0 : Int32))) ||| (own_shl (((own_byte cc 1) &&& (127 : Int32)).toInt64) (7 : Int32)))), .second, .val (.int (7 : Int32)), .val (.int (own_byte cc 1))]
def lcC_4 (a : Addr) (cc : Int64) : Array Slot := #[.val (.ref a), .val (.long (((0 : Int64) ||| (own_shl (((own_byte cc 0) &&& (127 : Int32)).toInt64) (0 : Int32))) ||| (own_shl (((own_byte cc 1) &&& (127 : Int32)).toInt64) (7 : Int32)))), .second, .val (.int (14 : Int32)), .val (.int (own_byte cc 1))]
def lcC_5 (a : Addr) (cc : Int64) : Array Slot := #[.val (.ref a), .val (.long (((0 : Int64) ||| (own_shl (((own_byte cc 0) &&& (127 : Int32)).toInt64) (0 : Int32))) ||| (own_shl (((own_byte cc 1) &&& (127 : Int32)).toInt64) (7 : Int32)))), .second, .val (.int (14 : Int32)), .val (.int (own_byte cc 2))]
def lcC_6 (a : Addr) (cc : Int64) : Array Slot := #[.val (.ref a), .val (.long ((((0 : Int64) ||| (own_shl (((own_byte cc 0) &&& (127 : Int32)).toInt64) (0 : Int32))) ||| (own_shl (((own_byte cc 1) &&& (127 : Int32)).toInt64) (7 : Int32))) ||| (own_shl (((own_byte cc 2) &&& (127 : Int32)).toInt64) (14 : Int32)))), .second, .val (.int (14 : Int32)), .val (.int (own_byte cc 2))]
def lcC_7 (a : Addr) (cc : Int64) : Array Slot := #[.val (.ref a), .val (.long ((((0 : Int64) ||| (own_shl (((own_byte cc 0) &&& (127 : Int32)).toInt64) (0 : Int32))) ||| (own_shl (((own_byte cc 1) &&& (127 : Int32)).toInt64) (7 : Int32))) ||| (own_shl (((own_byte cc 2) &&& (127 : Int32)).toInt64) (14 : Int32)))), .second, .val (.int (21 : Int32)), .val (.int (own_byte cc 2))]
def lcC_8 (a : Addr) (cc : Int64) : Array Slot := #[.val (.ref a), .val (.long ((((0 : Int64) ||| (own_shl (((own_byte cc 0) &&& (127 : Int32)).toInt64) (0 : Int32))) ||| (own_shl (((own_byte cc 1) &&& (127 : Int32)).toInt64) (7 : Int32))) ||| (own_shl (((own_byte cc 2) &&& (127 : Int32)).toInt64) (14 : Int32)))), .second, .val (.int (21 : Int32)), .val (.int (own_byte cc 3))]
def lcC_9 (a : Addr) (cc : Int64) : Array Slot := #[.val (.ref a), .val (.long (((((0 : Int64) ||| (own_shl (((own_byte cc 0) &&& (127 : Int32)).toInt64) (0 : Int32))) ||| (own_shl (((own_byte cc 1) &&& (127 : Int32)).toInt64) (7 : Int32))) ||| (own_shl (((own_byte cc 2) &&& (127 : Int32)).toInt64) (14 : Int32))) ||| (own_shl (((own_byte cc 3) &&& (127 : Int32)).toInt64) (21 : Int32)))), .second, .val (.int (21 : Int32)), .val (.int (own_byte cc 3))]
def lcC_10 (a : Addr) (cc : Int64) : Array Slot := #[.val (.ref a), .val (.long (((((0 : Int64) ||| (own_shl (((own_byte cc 0) &&& (127 : Int32)).toInt64) (0 : Int32))) ||| (own_shl (((own_byte cc 1) &&& (127 : Int32)).toInt64) (7 : Int32))) ||| (own_shl (((own_byte cc 2) &&& (127 : Int32)).toInt64) (14 : Int32))) ||| (own_shl (((own_byte cc 3) &&& (127 : Int32)).toInt64) (21 : Int32)))), .second, .val (.int (28 : Int32)), .val (.int (own_byte cc 3))]
def lcC_11 (a : Addr) (cc : Int64) : Array Slot := #[.val (.ref a), .val (.long (((((0 : Int64) ||| (own_shl (((own_byte cc 0) &&& (127 : Int32)).toInt64) (0 : Int32))) ||| (own_shl (((own_byte cc 1) &&& (127 : Int32)).toInt64) (7 : Int32))) ||| (own_shl (((own_byte cc 2) &&& (127 : Int32)).toInt64) (14 : Int32))) ||| (own_shl (((own_byte cc 3) &&& (127 : Int32)).toInt64) (21 : Int32)))), .second, .val (.int (28 : Int32)), .val (.int (own_byte cc 4))]
def lcC_12 (a : Addr) (cc : Int64) : Array Slot := #[.val (.ref a), .val (.long ((((((0 : Int64) ||| (own_shl (((own_byte cc 0) &&& (127 : Int32)).toInt64) (0 : Int32))) ||| (own_shl (((own_byte cc 1) &&& (127 : Int32)).toInt64) (7 : Int32))) ||| (own_shl (((own_byte cc 2) &&& (127 : Int32)).toInt64) (14 : Int32))) ||| (own_shl (((own_byte cc 3) &&& (127 : Int32)).toInt64) (21 : Int32))) ||| (own_shl (((own_byte cc 4) &&& (127 : Int32)).toInt64) (28 : Int32)))), .second, .val (.int (28 : Int32)), .val (.int (own_byte cc 4))]
def lcC_13 (a : Addr) (cc : Int64) : Array Slot := #[.val (.ref a), .val (.long ((((((0 : Int64) ||| (own_shl (((own_byte cc 0) &&& (127 : Int32)).toInt64) (0 : Int32))) ||| (own_shl (((own_byte cc 1) &&& (127 : Int32)).toInt64) (7 : Int32))) ||| (own_shl (((own_byte cc 2) &&& (127 : Int32)).toInt64) (14 : Int32))) ||| (own_shl (((own_byte cc 3) &&& (127 : Int32)).toInt64) (21 : Int32))) ||| (own_shl (((own_byte cc 4) &&& (127 : Int32)).toInt64) (28 : Int32)))), .second, .val (.int (35 : Int32)), .val (.int (own_byte cc 4))]
def QC (Z : State) (a : Addr) (f : Nat → Int32) (cc : Int64) (w_groups : Addr) (w_size : Int32) (w_innermost : Int32) (w_depth : Int32) (h0 : Heap) (n0 : Nat) (v : Option Value) (h : Heap) (L : List Loc) : Prop := v = none ∧ Fr n0 L ∧ Keep h0 h [a] ∧ Fld Z h a "com/example/mensura/mensura/parser/OpenParentheses" "groups" "[B" (.ref w_groups) ∧ Fld Z h a "com/example/mensura/mensura/parser/OpenParentheses" "size" "I" (.int (own_dk w_size (own_m cc))) ∧ Fld Z h a "com/example/mensura/mensura/parser/OpenParentheses" "innermost" "I" (.int (w_innermost - ((own_ush cc (1 : Int32)).toInt32))) ∧ Fld Z h a "com/example/mensura/mensura/parser/OpenParentheses" "depth" "I" (.int (w_depth - (1 : Int32)))
set_option maxRecDepth 65536 in
set_option maxHeartbeats 40000000 in
theorem rmC (l : Launch) (Z : State) (a0 : Array Value) (hw : ∀ d ∈ tables_1, d.before a0 Z = true) (ws : List Jvm.Cond) (a : Addr) (f : Nat → Int32) (cc : Int64) (w_groups : Addr) (w_size : Int32) (w_innermost : Int32) (w_depth : Int32) (h0 : Heap) (n0 : Nat) (Z0 : n0 ≤ h0.size) (E_a : Exa Z h0 a "com/example/mensura/mensura/parser/OpenParentheses") (F_a_groups : Fld Z h0 a "com/example/mensura/mensura/parser/OpenParentheses" "groups" "[B" (.ref w_groups)) (F_a_size : Fld Z h0 a "com/example/mensura/mensura/parser/OpenParentheses" "size" "I" (.int w_size)) (F_a_innermost : Fld Z h0 a "com/example/mensura/mensura/parser/OpenParentheses" "innermost" "I" (.int w_innermost)) (F_a_depth : Fld Z h0 a "com/example/mensura/mensura/parser/OpenParentheses" "depth" "I" (.int w_depth)) (g_a : n0 ≤ a) (A_w_groups : own_A Z h0 w_groups .byte 16 f) (ne_a_w_groups : a ≠ w_groups) (ht : own_top f w_size cc) (hc : cc.toBitVec.toNat < 2 ^ 35) :
    MetFree l (⟨"com/example/mensura/mensura/parser/OpenParentheses", "close", "()V"⟩ : MethodName) (head1 (Jvm.Cond.code (⟨"com/example/mensura/mensura/parser/OpenParentheses", "close", "()V"⟩ : MethodName) prog_32_method_3_code 5 none :: ws) ({ frames := 0, cells := 0, slots := 0, locals := 0 } : Room)) (fun aa U => aa = #[(.ref a)] ∧ Z.Warmed39 U.vm ∧ U.heap = h0) (fun _ _ _ _ _ => True) (fun _ U o U' => ∃ v L, o = .returned v ∧ QC Z a f cc w_groups w_size w_innermost w_depth h0 n0 v U'.heap L ∧ FrameEnd U o U' L ({ frames := 0, cells := 0, slots := 0, locals := 0 } : Room).cells ({ frames := 0, cells := 0, slots := 0, locals := 0 } : Room).slots) := by
  refine MetFree.of_bodySF (plainFor_of_name pn_OpenParentheses) hisR ?_
  intro p e s m args below meth c s₁ Bd hml0 hP hK
  obtain ⟨rfl, hZ, hh⟩ := hP
  have hx := Bd.exec
  have hby := Bd.bytes
  have hml : c.maxLocals = 5 := hml0
  have hown : s.vm.findClass "com/example/mensura/mensura/parser/OpenParentheses" = some m.cls := findClass_of_methodNamed Bd.named
  have hnm := (name_of_methodNamed Bd.named Bd.method).1
  have X0 : Stand p l e ({ frames := 0, cells := 0, slots := 0, locals := 0 } : Room) s m #[(.ref a)] below meth c s₁ [] 0 0 := Stand.of_body Bd
  have e0 : s₁.heap = h0 := by rw [← hh, Bd.state]; rfl
  have N0 := Fr.nil n0
  have hlk : meth.locks = false := by first | exact BodyLoose.notSynchronized Bd | exact Body.notSynchronized Bd
  have pre0 : ∀ t, Steps p.tables e below (s₁.setTop (mkF m 0 #[.val (.ref a), .unset, .unset, .unset, .unset] [])) t → Steps p.tables e below (s₁.setTop (entryFrame m #[(.ref a)] 5)) t := fun t k => castTop (ef_6 m a) k
  have K : Keep h0 h0 [a] := Keep.refl _ _
  have pre1 : ∀ t, Steps p.tables e below (s₁.setTop (mkF m 5 #[.val (.ref a), .val (.long (0 : Int64)), .second, .val (.int (0 : Int32)), .unset] [(.ref a)])) t → Steps p.tables e below (s₁.setTop (entryFrame m #[(.ref a)] 5)) t := fun t k => pre0 t (by
    show Steps p.tables e below (s₁.setTop (mkF m 0 #[.val (.ref a), .unset, .unset, .unset, .unset] [])) _
    refine XS.lconst X0.here hx rfl (hb hby d6_0) ?_
    show Steps p.tables e below (s₁.setTop (mkF m 1 #[.val (.ref a), .unset, .unset, .unset, .unset] [(.long (0 : Int64))])) _
    refine XS.lstoreN X0.here hx rfl (hb hby d6_1) rfl (l' := #[.val (.ref a), .val (.long (0 : Int64)), .second, .unset, .unset]) rfl ?_
    show Steps p.tables e below (s₁.setTop (mkF m 2 #[.val (.ref a), .val (.long (0 : Int64)), .second, .unset, .unset] [])) _
    refine XS.iconst X0.here hx rfl (hb hby d6_2) ?_
    show Steps p.tables e below (s₁.setTop (mkF m 3 #[.val (.ref a), .val (.long (0 : Int64)), .second, .unset, .unset] [(.int (0 : Int32))])) _
    refine XS.istoreN X0.here hx rfl (hb hby d6_3) rfl (l' := #[.val (.ref a), .val (.long (0 : Int64)), .second, .val (.int (0 : Int32)), .unset]) rfl ?_
    show Steps p.tables e below (s₁.setTop (mkF m 4 #[.val (.ref a), .val (.long (0 : Int64)), .second, .val (.int (0 : Int32)), .unset] [])) _
    refine XS.aloadN X0.here hx rfl (hb hby d6_4) rfl rfl ?_
    show Steps p.tables e below (s₁.setTop (mkF m 5 #[.val (.ref a), .val (.long (0 : Int64)), .second, .val (.int (0 : Int32)), .unset] [(.ref a)])) _
    exact k)
  obtain ⟨T2, X2, e2, st2⟩ := getF X0 hx hZ hown (host := "") (Or.inl (hw _ (List.mem_of_getElem? (i := 18) rfl))) Via.refl e0 F_a_groups (g := (mkF m 5 #[.val (.ref a), .val (.long (0 : Int64)), .second, .val (.int (0 : Int32)), .unset] [(.ref a)])) rfl rfl (hb hby d6_5)
  have pre3 : ∀ t, Steps p.tables e below (T2.setTop (mkF m 8 #[.val (.ref a), .val (.long (0 : Int64)), .second, .val (.int (0 : Int32)), .unset] [(.ref w_groups)])) t → Steps p.tables e below (s₁.setTop (entryFrame m #[(.ref a)] 5)) t := fun t k => pre1 t (st2 t k)
  have pre4 : ∀ t, Steps p.tables e below (T2.setTop (mkF m 10 #[.val (.ref a), .val (.long (0 : Int64)), .second, .val (.int (0 : Int32)), .unset] [(.ref a), (.ref a), (.ref w_groups)])) t → Steps p.tables e below (s₁.setTop (entryFrame m #[(.ref a)] 5)) t := fun t k => pre3 t (by
    show Steps p.tables e below (T2.setTop (mkF m 8 #[.val (.ref a), .val (.long (0 : Int64)), .second, .val (.int (0 : Int32)), .unset] [(.ref w_groups)])) _
    refine XS.aloadN X2.here hx rfl (hb hby d6_8) rfl rfl ?_
    show Steps p.tables e below (T2.setTop (mkF m 9 #[.val (.ref a), .val (.long (0 : Int64)), .second, .val (.int (0 : Int32)), .unset] [(.ref a), (.ref w_groups)])) _
    refine XS.dup X2.here hx rfl (hb hby d6_9) rfl rfl ?_
    show Steps p.tables e below (T2.setTop (mkF m 10 #[.val (.ref a), .val (.long (0 : Int64)), .second, .val (.int (0 : Int32)), .unset] [(.ref a), (.ref a), (.ref w_groups)])) _
    exact k)
  obtain ⟨T5, X5, e5, st5⟩ := getF X2 hx hZ hown (host := "") (Or.inl (hw _ (List.mem_of_getElem? (i := 27) rfl))) Via.refl e2 F_a_size (g := (mkF m 10 #[.val (.ref a), .val (.long (0 : Int64)), .second, .val (.int (0 : Int32)), .unset] [(.ref a), (.ref a), (.ref w_groups)])) rfl rfl (hb hby d6_10)
  have pre6 : ∀ t, Steps p.tables e below (T5.setTop (mkF m 13 #[.val (.ref a), .val (.long (0 : Int64)), .second, .val (.int (0 : Int32)), .unset] [(.int w_size), (.ref a), (.ref w_groups)])) t → Steps p.tables e below (s₁.setTop (entryFrame m #[(.ref a)] 5)) t := fun t k => pre4 t (st5 t k)
  have pre7 : ∀ t, Steps p.tables e below (T5.setTop (mkF m 16 #[.val (.ref a), .val (.long (0 : Int64)), .second, .val (.int (0 : Int32)), .unset] [(.int (own_dk w_size 1)), (.ref a), (.int (own_dk w_size 1)), (.ref w_groups)])) t → Steps p.tables e below (s₁.setTop (entryFrame m #[(.ref a)] 5)) t := fun t k => pre6 t (by
    show Steps p.tables e below (T5.setTop (mkF m 13 #[.val (.ref a), .val (.long (0 : Int64)), .second, .val (.int (0 : Int32)), .unset] [(.int w_size), (.ref a), (.ref w_groups)])) _
    refine XS.iconst X5.here hx rfl (hb hby d6_13) ?_
    show Steps p.tables e below (T5.setTop (mkF m 14 #[.val (.ref a), .val (.long (0 : Int64)), .second, .val (.int (0 : Int32)), .unset] [(.int (1 : Int32)), (.int w_size), (.ref a), (.ref w_groups)])) _
    refine XS.isub X5.here hx rfl (hb hby d6_14) rfl ?_
    show Steps p.tables e below (T5.setTop (mkF m 15 #[.val (.ref a), .val (.long (0 : Int64)), .second, .val (.int (0 : Int32)), .unset] [(.int (own_dk w_size 1)), (.ref a), (.ref w_groups)])) _
    refine XS.dupX1 X5.here hx rfl (hb hby d6_15) rfl rfl rfl ?_
    show Steps p.tables e below (T5.setTop (mkF m 16 #[.val (.ref a), .val (.long (0 : Int64)), .second, .val (.int (0 : Int32)), .unset] [(.int (own_dk w_size 1)), (.ref a), (.int (own_dk w_size 1)), (.ref w_groups)])) _
    exact k)
  obtain ⟨T8, h8, X8, e8, W8, st8⟩ := putF X5 hx hZ hown (host := "") (Or.inl (hw _ (List.mem_of_getElem? (i := 27) rfl))) Via.refl e5 F_a_size E_a (Or.inl (hw _ (List.mem_of_getElem? (i := 28) rfl))) (hw _ (List.mem_of_getElem? (i := 9) rfl)) (ty := .int) (by decide) rfl rfl (g := (mkF m 16 #[.val (.ref a), .val (.long (0 : Int64)), .second, .val (.int (0 : Int32)), .unset] [(.int (own_dk w_size 1)), (.ref a), (.int (own_dk w_size 1)), (.ref w_groups)])) rfl rfl (hb hby d6_16)
  have F_a_size : Fld Z h8 a "com/example/mensura/mensura/parser/OpenParentheses" "size" "I" (.int (own_dk w_size 1)) := F_a_size.same W8
  have E_a := E_a.wr W8
  have F_a_groups := F_a_groups.other W8 (Or.inr (slot_ne (Or.inl (hw _ (List.mem_of_getElem? (i := 19) rfl))) (Or.inl (hw _ (List.mem_of_getElem? (i := 28) rfl))) (by decide) (t := (.array .byte)) (t' := .int) (by decide) (by decide)))
  have F_a_innermost := F_a_innermost.other W8 (Or.inr (slot_ne (Or.inl (hw _ (List.mem_of_getElem? (i := 21) rfl))) (Or.inl (hw _ (List.mem_of_getElem? (i := 28) rfl))) (by decide) (t := .int) (t' := .int) (by decide) (by decide)))
  have F_a_depth := F_a_depth.other W8 (Or.inr (slot_ne (Or.inl (hw _ (List.mem_of_getElem? (i := 30) rfl))) (Or.inl (hw _ (List.mem_of_getElem? (i := 28) rfl))) (by decide) (t := .int) (t' := .int) (by decide) (by decide)))
  have A_w_groups := A_w_groups.other W8 (Ne.symm ne_a_w_groups)
  have K := K.wr W8 (Or.inl (List.mem_of_getElem? (i := 0) rfl))
  have Z8 : n0 ≤ h8.size := Nat.le_trans Z0 (Keep.of_wr W8).1
  have N8 := Fr.snoc X8 N0 g_a
  have pre9 : ∀ t, Steps p.tables e below (T8.setTop (mkF m 19 #[.val (.ref a), .val (.long (0 : Int64)), .second, .val (.int (0 : Int32)), .unset] [(.int (own_dk w_size 1)), (.ref w_groups)])) t → Steps p.tables e below (s₁.setTop (entryFrame m #[(.ref a)] 5)) t := fun t k => pre7 t (st8 t k)
  have hk0 : 0 < own_m cc := own_mpos cc
  obtain ⟨cl10, Ar10, Sz10, Hf10⟩ := id A_w_groups
  have hat10 : cl10.slots[((own_dk w_size 1)).toNatClampNeg]? = some (.int (own_byte cc 0)) := (Hf10 _ (own_lt_of (own_dkb ht 0 hk0))).trans (congrArg (fun z => some (Value.int z)) (own_topv ht 0 hk0))
  have pre11 : ∀ t, Steps p.tables e below (T8.setTop (mkF m 20 #[.val (.ref a), .val (.long (0 : Int64)), .second, .val (.int (0 : Int32)), .unset] [(.int (own_byte cc 0))])) t → Steps p.tables e below (s₁.setTop (entryFrame m #[(.ref a)] 5)) t := fun t k => pre9 t (X8.baloadBytes hx (j := (own_dk w_size 1)) (v := (.int (own_byte cc 0))) (by rw [e8]; exact Ar10.1) (State.isArrayOf_alike hZ.alike Ar10.2.1) Ar10.2.2 (own_inb Sz10 (own_dkb ht 0 hk0)) hat10 (g := (mkF m 19 #[.val (.ref a), .val (.long (0 : Int64)), .second, .val (.int (0 : Int32)), .unset] [(.int (own_dk w_size 1)), (.ref w_groups)])) rfl rfl (hb hby d6_19) _ k)
  have pre12 : ∀ t, Steps p.tables e below (T8.setTop (mkF m 38 (lcC_1 a cc) [(.int (own_byte cc 0))])) t → Steps p.tables e below (s₁.setTop (entryFrame m #[(.ref a)] 5)) t := fun t k => pre11 t (by
    show Steps p.tables e below (T8.setTop (mkF m 20 #[.val (.ref a), .val (.long (0 : Int64)), .second, .val (.int (0 : Int32)), .unset] [(.int (own_byte cc 0))])) _
    refine XS.istore X8.here hx rfl (hb hby d6_20) rfl (l' := #[.val (.ref a), .val (.long (0 : Int64)), .second, .val (.int (0 : Int32)), .val (.int (own_byte cc 0))]) rfl ?_
    show Steps p.tables e below (T8.setTop (mkF m 22 #[.val (.ref a), .val (.long (0 : Int64)), .second, .val (.int (0 : Int32)), .val (.int (own_byte cc 0))] [])) _
    refine XS.lloadN X8.here hx rfl (hb hby d6_22) rfl ?_
    show Steps p.tables e below (T8.setTop (mkF m 23 #[.val (.ref a), .val (.long (0 : Int64)), .second, .val (.int (0 : Int32)), .val (.int (own_byte cc 0))] [(.long (0 : Int64))])) _
    refine XS.iload X8.here hx rfl (hb hby d6_23) rfl ?_
    show Steps p.tables e below (T8.setTop (mkF m 25 #[.val (.ref a), .val (.long (0 : Int64)), .second, .val (.int (0 : Int32)), .val (.int (own_byte cc 0))] [(.int (own_byte cc 0)), (.long (0 : Int64))])) _
    refine XS.bipush X8.here hx rfl (hb hby d6_25) ?_
    show Steps p.tables e below (T8.setTop (mkF m 27 #[.val (.ref a), .val (.long (0 : Int64)), .second, .val (.int (0 : Int32)), .val (.int (own_byte cc 0))] [(.int (127 : Int32)), (.int (own_byte cc 0)), (.long (0 : Int64))])) _
    refine XS.iand X8.here hx rfl (hb hby d6_27) rfl ?_
    show Steps p.tables e below (T8.setTop (mkF m 28 #[.val (.ref a), .val (.long (0 : Int64)), .second, .val (.int (0 : Int32)), .val (.int (own_byte cc 0))] [(.int ((own_byte cc 0) &&& (127 : Int32))), (.long (0 : Int64))])) _
    refine XS.i2l X8.here hx rfl (hb hby d6_28) rfl ?_
    show Steps p.tables e below (T8.setTop (mkF m 29 #[.val (.ref a), .val (.long (0 : Int64)), .second, .val (.int (0 : Int32)), .val (.int (own_byte cc 0))] [(.long (((own_byte cc 0) &&& (127 : Int32)).toInt64)), (.long (0 : Int64))])) _
    refine XS.iloadN X8.here hx rfl (hb hby d6_29) rfl ?_
    show Steps p.tables e below (T8.setTop (mkF m 30 #[.val (.ref a), .val (.long (0 : Int64)), .second, .val (.int (0 : Int32)), .val (.int (own_byte cc 0))] [(.int (0 : Int32)), (.long (((own_byte cc 0) &&& (127 : Int32)).toInt64)), (.long (0 : Int64))])) _
    refine XS.lshl X8.here hx rfl (hb hby d6_30) rfl ?_
    show Steps p.tables e below (T8.setTop (mkF m 31 #[.val (.ref a), .val (.long (0 : Int64)), .second, .val (.int (0 : Int32)), .val (.int (own_byte cc 0))] [(.long (own_shl (((own_byte cc 0) &&& (127 : Int32)).toInt64) (0 : Int32))), (.long (0 : Int64))])) _
    refine XS.lor X8.here hx rfl (hb hby d6_31) rfl ?_
    show Steps p.tables e below (T8.setTop (mkF m 32 #[.val (.ref a), .val (.long (0 : Int64)), .second, .val (.int (0 : Int32)), .val (.int (own_byte cc 0))] [(.long ((0 : Int64) ||| (own_shl (((own_byte cc 0) &&& (127 : Int32)).toInt64) (0 : Int32))))])) _
    refine XS.lstoreN X8.here hx rfl (hb hby d6_32) rfl (l' := (lcC_0 a cc)) rfl ?_
    show Steps p.tables e below (T8.setTop (mkF m 33 (lcC_0 a cc) [])) _
    refine XS.iinc X8.here hx rfl (hb hby d6_33) rfl (l' := (lcC_1 a cc)) rfl ?_
    show Steps p.tables e below (T8.setTop (mkF m 36 (lcC_1 a cc) [])) _
    refine XS.iload X8.here hx rfl (hb hby d6_36) rfl ?_
    show Steps p.tables e below (T8.setTop (mkF m 38 (lcC_1 a cc) [(.int (own_byte cc 0))])) _
    exact k)
  by_cases hc38_13 : (own_byte cc 0) < (0 : Int32)
  · have pre14 : ∀ t, Steps p.tables e below (T8.setTop (mkF m 5 (lcC_1 a cc) [(.ref a)])) t → Steps p.tables e below (s₁.setTop (entryFrame m #[(.ref a)] 5)) t := fun t k => pre12 t (by
      show Steps p.tables e below (T8.setTop (mkF m 38 (lcC_1 a cc) [(.int (own_byte cc 0))])) _
      refine XS.ifYes X8.here hx rfl (pc0 := 38) (pc' := 4) rfl (hb hby d6_38) rfl ((if0 _ _).trans (tlt hc38_13).1) (by decide) (by decide) ?_
      show Steps p.tables e below (T8.setTop (mkF m 4 (lcC_1 a cc) [])) _
      refine XS.aloadN X8.here hx rfl (hb hby d6_4) rfl rfl ?_
      show Steps p.tables e below (T8.setTop (mkF m 5 (lcC_1 a cc) [(.ref a)])) _
      exact k)
    obtain ⟨T15, X15, e15, st15⟩ := getF X8 hx hZ hown (host := "") (Or.inl (hw _ (List.mem_of_getElem? (i := 18) rfl))) Via.refl e8 F_a_groups (g := (mkF m 5 (lcC_1 a cc) [(.ref a)])) rfl rfl (hb hby d6_5)
    have pre16 : ∀ t, Steps p.tables e below (T15.setTop (mkF m 8 (lcC_1 a cc) [(.ref w_groups)])) t → Steps p.tables e below (s₁.setTop (entryFrame m #[(.ref a)] 5)) t := fun t k => pre14 t (st15 t k)
    have pre17 : ∀ t, Steps p.tables e below (T15.setTop (mkF m 10 (lcC_1 a cc) [(.ref a), (.ref a), (.ref w_groups)])) t → Steps p.tables e below (s₁.setTop (entryFrame m #[(.ref a)] 5)) t := fun t k => pre16 t (by
      show Steps p.tables e below (T15.setTop (mkF m 8 (lcC_1 a cc) [(.ref w_groups)])) _
      refine XS.aloadN X15.here hx rfl (hb hby d6_8) rfl rfl ?_
      show Steps p.tables e below (T15.setTop (mkF m 9 (lcC_1 a cc) [(.ref a), (.ref w_groups)])) _
      refine XS.dup X15.here hx rfl (hb hby d6_9) rfl rfl ?_
      show Steps p.tables e below (T15.setTop (mkF m 10 (lcC_1 a cc) [(.ref a), (.ref a), (.ref w_groups)])) _
      exact k)
    obtain ⟨T18, X18, e18, st18⟩ := getF X15 hx hZ hown (host := "") (Or.inl (hw _ (List.mem_of_getElem? (i := 27) rfl))) Via.refl e15 F_a_size (g := (mkF m 10 (lcC_1 a cc) [(.ref a), (.ref a), (.ref w_groups)])) rfl rfl (hb hby d6_10)
    have pre19 : ∀ t, Steps p.tables e below (T18.setTop (mkF m 13 (lcC_1 a cc) [(.int (own_dk w_size 1)), (.ref a), (.ref w_groups)])) t → Steps p.tables e below (s₁.setTop (entryFrame m #[(.ref a)] 5)) t := fun t k => pre17 t (st18 t k)
    have pre20 : ∀ t, Steps p.tables e below (T18.setTop (mkF m 16 (lcC_1 a cc) [(.int (own_dk w_size 2)), (.ref a), (.int (own_dk w_size 2)), (.ref w_groups)])) t → Steps p.tables e below (s₁.setTop (entryFrame m #[(.ref a)] 5)) t := fun t k => pre19 t (by
      show Steps p.tables e below (T18.setTop (mkF m 13 (lcC_1 a cc) [(.int (own_dk w_size 1)), (.ref a), (.ref w_groups)])) _
      refine XS.iconst X18.here hx rfl (hb hby d6_13) ?_
      show Steps p.tables e below (T18.setTop (mkF m 14 (lcC_1 a cc) [(.int (1 : Int32)), (.int (own_dk w_size 1)), (.ref a), (.ref w_groups)])) _
      refine XS.isub X18.here hx rfl (hb hby d6_14) rfl ?_
      show Steps p.tables e below (T18.setTop (mkF m 15 (lcC_1 a cc) [(.int (own_dk w_size 2)), (.ref a), (.ref w_groups)])) _
      refine XS.dupX1 X18.here hx rfl (hb hby d6_15) rfl rfl rfl ?_
      show Steps p.tables e below (T18.setTop (mkF m 16 (lcC_1 a cc) [(.int (own_dk w_size 2)), (.ref a), (.int (own_dk w_size 2)), (.ref w_groups)])) _
      exact k)
    obtain ⟨T21, h21, X21, e21, W21, st21⟩ := putF X18 hx hZ hown (host := "") (Or.inl (hw _ (List.mem_of_getElem? (i := 27) rfl))) Via.refl e18 F_a_size E_a (Or.inl (hw _ (List.mem_of_getElem? (i := 28) rfl))) (hw _ (List.mem_of_getElem? (i := 9) rfl)) (ty := .int) (by decide) rfl rfl (g := (mkF m 16 (lcC_1 a cc) [(.int (own_dk w_size 2)), (.ref a), (.int (own_dk w_size 2)), (.ref w_groups)])) rfl rfl (hb hby d6_16)
    have F_a_size : Fld Z h21 a "com/example/mensura/mensura/parser/OpenParentheses" "size" "I" (.int (own_dk w_size 2)) := F_a_size.same W21
    have E_a := E_a.wr W21
    have F_a_groups := F_a_groups.other W21 (Or.inr (slot_ne (Or.inl (hw _ (List.mem_of_getElem? (i := 19) rfl))) (Or.inl (hw _ (List.mem_of_getElem? (i := 28) rfl))) (by decide) (t := (.array .byte)) (t' := .int) (by decide) (by decide)))
    have F_a_innermost := F_a_innermost.other W21 (Or.inr (slot_ne (Or.inl (hw _ (List.mem_of_getElem? (i := 21) rfl))) (Or.inl (hw _ (List.mem_of_getElem? (i := 28) rfl))) (by decide) (t := .int) (t' := .int) (by decide) (by decide)))
    have F_a_depth := F_a_depth.other W21 (Or.inr (slot_ne (Or.inl (hw _ (List.mem_of_getElem? (i := 30) rfl))) (Or.inl (hw _ (List.mem_of_getElem? (i := 28) rfl))) (by decide) (t := .int) (t' := .int) (by decide) (by decide)))
    have A_w_groups := A_w_groups.other W21 (Ne.symm ne_a_w_groups)
    have K := K.wr W21 (Or.inl (List.mem_of_getElem? (i := 0) rfl))
    have Z21 : n0 ≤ h21.size := Nat.le_trans Z8 (Keep.of_wr W21).1
    have N21 := Fr.snoc X21 N8 g_a
    have pre22 : ∀ t, Steps p.tables e below (T21.setTop (mkF m 19 (lcC_1 a cc) [(.int (own_dk w_size 2)), (.ref w_groups)])) t → Steps p.tables e below (s₁.setTop (entryFrame m #[(.ref a)] 5)) t := fun t k => pre20 t (st21 t k)
    have hk1 : 1 < own_m cc := (own_neg cc 0 hk0).mp hc38_13
    obtain ⟨cl23, Ar23, Sz23, Hf23⟩ := id A_w_groups
    have hat23 : cl23.slots[((own_dk w_size 2)).toNatClampNeg]? = some (.int (own_byte cc 1)) := (Hf23 _ (own_lt_of (own_dkb ht 1 hk1))).trans (congrArg (fun z => some (Value.int z)) (own_topv ht 1 hk1))
    have pre24 : ∀ t, Steps p.tables e below (T21.setTop (mkF m 20 (lcC_1 a cc) [(.int (own_byte cc 1))])) t → Steps p.tables e below (s₁.setTop (entryFrame m #[(.ref a)] 5)) t := fun t k => pre22 t (X21.baloadBytes hx (j := (own_dk w_size 2)) (v := (.int (own_byte cc 1))) (by rw [e21]; exact Ar23.1) (State.isArrayOf_alike hZ.alike Ar23.2.1) Ar23.2.2 (own_inb Sz23 (own_dkb ht 1 hk1)) hat23 (g := (mkF m 19 (lcC_1 a cc) [(.int (own_dk w_size 2)), (.ref w_groups)])) rfl rfl (hb hby d6_19) _ k)
    have pre25 : ∀ t, Steps p.tables e below (T21.setTop (mkF m 38 (lcC_4 a cc) [(.int (own_byte cc 1))])) t → Steps p.tables e below (s₁.setTop (entryFrame m #[(.ref a)] 5)) t := fun t k => pre24 t (by
      show Steps p.tables e below (T21.setTop (mkF m 20 (lcC_1 a cc) [(.int (own_byte cc 1))])) _
      refine XS.istore X21.here hx rfl (hb hby d6_20) rfl (l' := (lcC_2 a cc)) rfl ?_
      show Steps p.tables e below (T21.setTop (mkF m 22 (lcC_2 a cc) [])) _
      refine XS.lloadN X21.here hx rfl (hb hby d6_22) rfl ?_
      show Steps p.tables e below (T21.setTop (mkF m 23 (lcC_2 a cc) [(.long ((0 : Int64) ||| (own_shl (((own_byte cc 0) &&& (127 : Int32)).toInt64) (0 : Int32))))])) _
      refine XS.iload X21.here hx rfl (hb hby d6_23) rfl ?_
      show Steps p.tables e below (T21.setTop (mkF m 25 (lcC_2 a cc) [(.int (own_byte cc 1)), (.long ((0 : Int64) ||| (own_shl (((own_byte cc 0) &&& (127 : Int32)).toInt64) (0 : Int32))))])) _
      refine XS.bipush X21.here hx rfl (hb hby d6_25) ?_
      show Steps p.tables e below (T21.setTop (mkF m 27 (lcC_2 a cc) [(.int (127 : Int32)), (.int (own_byte cc 1)), (.long ((0 : Int64) ||| (own_shl (((own_byte cc 0) &&& (127 : Int32)).toInt64) (0 : Int32))))])) _
      refine XS.iand X21.here hx rfl (hb hby d6_27) rfl ?_
      show Steps p.tables e below (T21.setTop (mkF m 28 (lcC_2 a cc) [(.int ((own_byte cc 1) &&& (127 : Int32))), (.long ((0 : Int64) ||| (own_shl (((own_byte cc 0) &&& (127 : Int32)).toInt64) (0 : Int32))))])) _
      refine XS.i2l X21.here hx rfl (hb hby d6_28) rfl ?_
      show Steps p.tables e below (T21.setTop (mkF m 29 (lcC_2 a cc) [(.long (((own_byte cc 1) &&& (127 : Int32)).toInt64)), (.long ((0 : Int64) ||| (own_shl (((own_byte cc 0) &&& (127 : Int32)).toInt64) (0 : Int32))))])) _
      refine XS.iloadN X21.here hx rfl (hb hby d6_29) rfl ?_
      show Steps p.tables e below (T21.setTop (mkF m 30 (lcC_2 a cc) [(.int (7 : Int32)), (.long (((own_byte cc 1) &&& (127 : Int32)).toInt64)), (.long ((0 : Int64) ||| (own_shl (((own_byte cc 0) &&& (127 : Int32)).toInt64) (0 : Int32))))])) _
      refine XS.lshl X21.here hx rfl (hb hby d6_30) rfl ?_
      show Steps p.tables e below (T21.setTop (mkF m 31 (lcC_2 a cc) [(.long (own_shl (((own_byte cc 1) &&& (127 : Int32)).toInt64) (7 : Int32))), (.long ((0 : Int64) ||| (own_shl (((own_byte cc 0) &&& (127 : Int32)).toInt64) (0 : Int32))))])) _
      refine XS.lor X21.here hx rfl (hb hby d6_31) rfl ?_
      show Steps p.tables e below (T21.setTop (mkF m 32 (lcC_2 a cc) [(.long (((0 : Int64) ||| (own_shl (((own_byte cc 0) &&& (127 : Int32)).toInt64) (0 : Int32))) ||| (own_shl (((own_byte cc 1) &&& (127 : Int32)).toInt64) (7 : Int32))))])) _
      refine XS.lstoreN X21.here hx rfl (hb hby d6_32) rfl (l' := (lcC_3 a cc)) rfl ?_
      show Steps p.tables e below (T21.setTop (mkF m 33 (lcC_3 a cc) [])) _
      refine XS.iinc X21.here hx rfl (hb hby d6_33) rfl (l' := (lcC_4 a cc)) rfl ?_
      show Steps p.tables e below (T21.setTop (mkF m 36 (lcC_4 a cc) [])) _
      refine XS.iload X21.here hx rfl (hb hby d6_36) rfl ?_
      show Steps p.tables e below (T21.setTop (mkF m 38 (lcC_4 a cc) [(.int (own_byte cc 1))])) _
      exact k)
    by_cases hc38_26 : (own_byte cc 1) < (0 : Int32)
    · have pre27 : ∀ t, Steps p.tables e below (T21.setTop (mkF m 5 (lcC_4 a cc) [(.ref a)])) t → Steps p.tables e below (s₁.setTop (entryFrame m #[(.ref a)] 5)) t := fun t k => pre25 t (by
        show Steps p.tables e below (T21.setTop (mkF m 38 (lcC_4 a cc) [(.int (own_byte cc 1))])) _
        refine XS.ifYes X21.here hx rfl (pc0 := 38) (pc' := 4) rfl (hb hby d6_38) rfl ((if0 _ _).trans (tlt hc38_26).1) (by decide) (by decide) ?_
        show Steps p.tables e below (T21.setTop (mkF m 4 (lcC_4 a cc) [])) _
        refine XS.aloadN X21.here hx rfl (hb hby d6_4) rfl rfl ?_
        show Steps p.tables e below (T21.setTop (mkF m 5 (lcC_4 a cc) [(.ref a)])) _
        exact k)
      obtain ⟨T28, X28, e28, st28⟩ := getF X21 hx hZ hown (host := "") (Or.inl (hw _ (List.mem_of_getElem? (i := 18) rfl))) Via.refl e21 F_a_groups (g := (mkF m 5 (lcC_4 a cc) [(.ref a)])) rfl rfl (hb hby d6_5)
      have pre29 : ∀ t, Steps p.tables e below (T28.setTop (mkF m 8 (lcC_4 a cc) [(.ref w_groups)])) t → Steps p.tables e below (s₁.setTop (entryFrame m #[(.ref a)] 5)) t := fun t k => pre27 t (st28 t k)
      have pre30 : ∀ t, Steps p.tables e below (T28.setTop (mkF m 10 (lcC_4 a cc) [(.ref a), (.ref a), (.ref w_groups)])) t → Steps p.tables e below (s₁.setTop (entryFrame m #[(.ref a)] 5)) t := fun t k => pre29 t (by
        show Steps p.tables e below (T28.setTop (mkF m 8 (lcC_4 a cc) [(.ref w_groups)])) _
        refine XS.aloadN X28.here hx rfl (hb hby d6_8) rfl rfl ?_
        show Steps p.tables e below (T28.setTop (mkF m 9 (lcC_4 a cc) [(.ref a), (.ref w_groups)])) _
        refine XS.dup X28.here hx rfl (hb hby d6_9) rfl rfl ?_
        show Steps p.tables e below (T28.setTop (mkF m 10 (lcC_4 a cc) [(.ref a), (.ref a), (.ref w_groups)])) _
        exact k)
      obtain ⟨T31, X31, e31, st31⟩ := getF X28 hx hZ hown (host := "") (Or.inl (hw _ (List.mem_of_getElem? (i := 27) rfl))) Via.refl e28 F_a_size (g := (mkF m 10 (lcC_4 a cc) [(.ref a), (.ref a), (.ref w_groups)])) rfl rfl (hb hby d6_10)
      have pre32 : ∀ t, Steps p.tables e below (T31.setTop (mkF m 13 (lcC_4 a cc) [(.int (own_dk w_size 2)), (.ref a), (.ref w_groups)])) t → Steps p.tables e below (s₁.setTop (entryFrame m #[(.ref a)] 5)) t := fun t k => pre30 t (st31 t k)
      have pre33 : ∀ t, Steps p.tables e below (T31.setTop (mkF m 16 (lcC_4 a cc) [(.int (own_dk w_size 3)), (.ref a), (.int (own_dk w_size 3)), (.ref w_groups)])) t → Steps p.tables e below (s₁.setTop (entryFrame m #[(.ref a)] 5)) t := fun t k => pre32 t (by
        show Steps p.tables e below (T31.setTop (mkF m 13 (lcC_4 a cc) [(.int (own_dk w_size 2)), (.ref a), (.ref w_groups)])) _
        refine XS.iconst X31.here hx rfl (hb hby d6_13) ?_
        show Steps p.tables e below (T31.setTop (mkF m 14 (lcC_4 a cc) [(.int (1 : Int32)), (.int (own_dk w_size 2)), (.ref a), (.ref w_groups)])) _
        refine XS.isub X31.here hx rfl (hb hby d6_14) rfl ?_
        show Steps p.tables e below (T31.setTop (mkF m 15 (lcC_4 a cc) [(.int (own_dk w_size 3)), (.ref a), (.ref w_groups)])) _
        refine XS.dupX1 X31.here hx rfl (hb hby d6_15) rfl rfl rfl ?_
        show Steps p.tables e below (T31.setTop (mkF m 16 (lcC_4 a cc) [(.int (own_dk w_size 3)), (.ref a), (.int (own_dk w_size 3)), (.ref w_groups)])) _
        exact k)
      obtain ⟨T34, h34, X34, e34, W34, st34⟩ := putF X31 hx hZ hown (host := "") (Or.inl (hw _ (List.mem_of_getElem? (i := 27) rfl))) Via.refl e31 F_a_size E_a (Or.inl (hw _ (List.mem_of_getElem? (i := 28) rfl))) (hw _ (List.mem_of_getElem? (i := 9) rfl)) (ty := .int) (by decide) rfl rfl (g := (mkF m 16 (lcC_4 a cc) [(.int (own_dk w_size 3)), (.ref a), (.int (own_dk w_size 3)), (.ref w_groups)])) rfl rfl (hb hby d6_16)
      have F_a_size : Fld Z h34 a "com/example/mensura/mensura/parser/OpenParentheses" "size" "I" (.int (own_dk w_size 3)) := F_a_size.same W34
      have E_a := E_a.wr W34
      have F_a_groups := F_a_groups.other W34 (Or.inr (slot_ne (Or.inl (hw _ (List.mem_of_getElem? (i := 19) rfl))) (Or.inl (hw _ (List.mem_of_getElem? (i := 28) rfl))) (by decide) (t := (.array .byte)) (t' := .int) (by decide) (by decide)))
      have F_a_innermost := F_a_innermost.other W34 (Or.inr (slot_ne (Or.inl (hw _ (List.mem_of_getElem? (i := 21) rfl))) (Or.inl (hw _ (List.mem_of_getElem? (i := 28) rfl))) (by decide) (t := .int) (t' := .int) (by decide) (by decide)))
      have F_a_depth := F_a_depth.other W34 (Or.inr (slot_ne (Or.inl (hw _ (List.mem_of_getElem? (i := 30) rfl))) (Or.inl (hw _ (List.mem_of_getElem? (i := 28) rfl))) (by decide) (t := .int) (t' := .int) (by decide) (by decide)))
      have A_w_groups := A_w_groups.other W34 (Ne.symm ne_a_w_groups)
      have K := K.wr W34 (Or.inl (List.mem_of_getElem? (i := 0) rfl))
      have Z34 : n0 ≤ h34.size := Nat.le_trans Z21 (Keep.of_wr W34).1
      have N34 := Fr.snoc X34 N21 g_a
      have pre35 : ∀ t, Steps p.tables e below (T34.setTop (mkF m 19 (lcC_4 a cc) [(.int (own_dk w_size 3)), (.ref w_groups)])) t → Steps p.tables e below (s₁.setTop (entryFrame m #[(.ref a)] 5)) t := fun t k => pre33 t (st34 t k)
      have hk2 : 2 < own_m cc := (own_neg cc 1 hk1).mp hc38_26
      obtain ⟨cl36, Ar36, Sz36, Hf36⟩ := id A_w_groups
      have hat36 : cl36.slots[((own_dk w_size 3)).toNatClampNeg]? = some (.int (own_byte cc 2)) := (Hf36 _ (own_lt_of (own_dkb ht 2 hk2))).trans (congrArg (fun z => some (Value.int z)) (own_topv ht 2 hk2))
      have pre37 : ∀ t, Steps p.tables e below (T34.setTop (mkF m 20 (lcC_4 a cc) [(.int (own_byte cc 2))])) t → Steps p.tables e below (s₁.setTop (entryFrame m #[(.ref a)] 5)) t := fun t k => pre35 t (X34.baloadBytes hx (j := (own_dk w_size 3)) (v := (.int (own_byte cc 2))) (by rw [e34]; exact Ar36.1) (State.isArrayOf_alike hZ.alike Ar36.2.1) Ar36.2.2 (own_inb Sz36 (own_dkb ht 2 hk2)) hat36 (g := (mkF m 19 (lcC_4 a cc) [(.int (own_dk w_size 3)), (.ref w_groups)])) rfl rfl (hb hby d6_19) _ k)
      have pre38 : ∀ t, Steps p.tables e below (T34.setTop (mkF m 38 (lcC_7 a cc) [(.int (own_byte cc 2))])) t → Steps p.tables e below (s₁.setTop (entryFrame m #[(.ref a)] 5)) t := fun t k => pre37 t (by
        show Steps p.tables e below (T34.setTop (mkF m 20 (lcC_4 a cc) [(.int (own_byte cc 2))])) _
        refine XS.istore X34.here hx rfl (hb hby d6_20) rfl (l' := (lcC_5 a cc)) rfl ?_
        show Steps p.tables e below (T34.setTop (mkF m 22 (lcC_5 a cc) [])) _
        refine XS.lloadN X34.here hx rfl (hb hby d6_22) rfl ?_
        show Steps p.tables e below (T34.setTop (mkF m 23 (lcC_5 a cc) [(.long (((0 : Int64) ||| (own_shl (((own_byte cc 0) &&& (127 : Int32)).toInt64) (0 : Int32))) ||| (own_shl (((own_byte cc 1) &&& (127 : Int32)).toInt64) (7 : Int32))))])) _
        refine XS.iload X34.here hx rfl (hb hby d6_23) rfl ?_
        show Steps p.tables e below (T34.setTop (mkF m 25 (lcC_5 a cc) [(.int (own_byte cc 2)), (.long (((0 : Int64) ||| (own_shl (((own_byte cc 0) &&& (127 : Int32)).toInt64) (0 : Int32))) ||| (own_shl (((own_byte cc 1) &&& (127 : Int32)).toInt64) (7 : Int32))))])) _
        refine XS.bipush X34.here hx rfl (hb hby d6_25) ?_
        show Steps p.tables e below (T34.setTop (mkF m 27 (lcC_5 a cc) [(.int (127 : Int32)), (.int (own_byte cc 2)), (.long (((0 : Int64) ||| (own_shl (((own_byte cc 0) &&& (127 : Int32)).toInt64) (0 : Int32))) ||| (own_shl (((own_byte cc 1) &&& (127 : Int32)).toInt64) (7 : Int32))))])) _
        refine XS.iand X34.here hx rfl (hb hby d6_27) rfl ?_
        show Steps p.tables e below (T34.setTop (mkF m 28 (lcC_5 a cc) [(.int ((own_byte cc 2) &&& (127 : Int32))), (.long (((0 : Int64) ||| (own_shl (((own_byte cc 0) &&& (127 : Int32)).toInt64) (0 : Int32))) ||| (own_shl (((own_byte cc 1) &&& (127 : Int32)).toInt64) (7 : Int32))))])) _
        refine XS.i2l X34.here hx rfl (hb hby d6_28) rfl ?_
        show Steps p.tables e below (T34.setTop (mkF m 29 (lcC_5 a cc) [(.long (((own_byte cc 2) &&& (127 : Int32)).toInt64)), (.long (((0 : Int64) ||| (own_shl (((own_byte cc 0) &&& (127 : Int32)).toInt64) (0 : Int32))) ||| (own_shl (((own_byte cc 1) &&& (127 : Int32)).toInt64) (7 : Int32))))])) _
        refine XS.iloadN X34.here hx rfl (hb hby d6_29) rfl ?_
        show Steps p.tables e below (T34.setTop (mkF m 30 (lcC_5 a cc) [(.int (14 : Int32)), (.long (((own_byte cc 2) &&& (127 : Int32)).toInt64)), (.long (((0 : Int64) ||| (own_shl (((own_byte cc 0) &&& (127 : Int32)).toInt64) (0 : Int32))) ||| (own_shl (((own_byte cc 1) &&& (127 : Int32)).toInt64) (7 : Int32))))])) _
        refine XS.lshl X34.here hx rfl (hb hby d6_30) rfl ?_
        show Steps p.tables e below (T34.setTop (mkF m 31 (lcC_5 a cc) [(.long (own_shl (((own_byte cc 2) &&& (127 : Int32)).toInt64) (14 : Int32))), (.long (((0 : Int64) ||| (own_shl (((own_byte cc 0) &&& (127 : Int32)).toInt64) (0 : Int32))) ||| (own_shl (((own_byte cc 1) &&& (127 : Int32)).toInt64) (7 : Int32))))])) _
        refine XS.lor X34.here hx rfl (hb hby d6_31) rfl ?_
        show Steps p.tables e below (T34.setTop (mkF m 32 (lcC_5 a cc) [(.long ((((0 : Int64) ||| (own_shl (((own_byte cc 0) &&& (127 : Int32)).toInt64) (0 : Int32))) ||| (own_shl (((own_byte cc 1) &&& (127 : Int32)).toInt64) (7 : Int32))) ||| (own_shl (((own_byte cc 2) &&& (127 : Int32)).toInt64) (14 : Int32))))])) _
        refine XS.lstoreN X34.here hx rfl (hb hby d6_32) rfl (l' := (lcC_6 a cc)) rfl ?_
        show Steps p.tables e below (T34.setTop (mkF m 33 (lcC_6 a cc) [])) _
        refine XS.iinc X34.here hx rfl (hb hby d6_33) rfl (l' := (lcC_7 a cc)) rfl ?_
        show Steps p.tables e below (T34.setTop (mkF m 36 (lcC_7 a cc) [])) _
        refine XS.iload X34.here hx rfl (hb hby d6_36) rfl ?_
        show Steps p.tables e below (T34.setTop (mkF m 38 (lcC_7 a cc) [(.int (own_byte cc 2))])) _
        exact k)
      by_cases hc38_39 : (own_byte cc 2) < (0 : Int32)
      · have pre40 : ∀ t, Steps p.tables e below (T34.setTop (mkF m 5 (lcC_7 a cc) [(.ref a)])) t → Steps p.tables e below (s₁.setTop (entryFrame m #[(.ref a)] 5)) t := fun t k => pre38 t (by
          show Steps p.tables e below (T34.setTop (mkF m 38 (lcC_7 a cc) [(.int (own_byte cc 2))])) _
          refine XS.ifYes X34.here hx rfl (pc0 := 38) (pc' := 4) rfl (hb hby d6_38) rfl ((if0 _ _).trans (tlt hc38_39).1) (by decide) (by decide) ?_
          show Steps p.tables e below (T34.setTop (mkF m 4 (lcC_7 a cc) [])) _
          refine XS.aloadN X34.here hx rfl (hb hby d6_4) rfl rfl ?_
          show Steps p.tables e below (T34.setTop (mkF m 5 (lcC_7 a cc) [(.ref a)])) _
          exact k)
        obtain ⟨T41, X41, e41, st41⟩ := getF X34 hx hZ hown (host := "") (Or.inl (hw _ (List.mem_of_getElem? (i := 18) rfl))) Via.refl e34 F_a_groups (g := (mkF m 5 (lcC_7 a cc) [(.ref a)])) rfl rfl (hb hby d6_5)
        have pre42 : ∀ t, Steps p.tables e below (T41.setTop (mkF m 8 (lcC_7 a cc) [(.ref w_groups)])) t → Steps p.tables e below (s₁.setTop (entryFrame m #[(.ref a)] 5)) t := fun t k => pre40 t (st41 t k)
        have pre43 : ∀ t, Steps p.tables e below (T41.setTop (mkF m 10 (lcC_7 a cc) [(.ref a), (.ref a), (.ref w_groups)])) t → Steps p.tables e below (s₁.setTop (entryFrame m #[(.ref a)] 5)) t := fun t k => pre42 t (by
          show Steps p.tables e below (T41.setTop (mkF m 8 (lcC_7 a cc) [(.ref w_groups)])) _
          refine XS.aloadN X41.here hx rfl (hb hby d6_8) rfl rfl ?_
          show Steps p.tables e below (T41.setTop (mkF m 9 (lcC_7 a cc) [(.ref a), (.ref w_groups)])) _
          refine XS.dup X41.here hx rfl (hb hby d6_9) rfl rfl ?_
          show Steps p.tables e below (T41.setTop (mkF m 10 (lcC_7 a cc) [(.ref a), (.ref a), (.ref w_groups)])) _
          exact k)
        obtain ⟨T44, X44, e44, st44⟩ := getF X41 hx hZ hown (host := "") (Or.inl (hw _ (List.mem_of_getElem? (i := 27) rfl))) Via.refl e41 F_a_size (g := (mkF m 10 (lcC_7 a cc) [(.ref a), (.ref a), (.ref w_groups)])) rfl rfl (hb hby d6_10)
        have pre45 : ∀ t, Steps p.tables e below (T44.setTop (mkF m 13 (lcC_7 a cc) [(.int (own_dk w_size 3)), (.ref a), (.ref w_groups)])) t → Steps p.tables e below (s₁.setTop (entryFrame m #[(.ref a)] 5)) t := fun t k => pre43 t (st44 t k)
        have pre46 : ∀ t, Steps p.tables e below (T44.setTop (mkF m 16 (lcC_7 a cc) [(.int (own_dk w_size 4)), (.ref a), (.int (own_dk w_size 4)), (.ref w_groups)])) t → Steps p.tables e below (s₁.setTop (entryFrame m #[(.ref a)] 5)) t := fun t k => pre45 t (by
          show Steps p.tables e below (T44.setTop (mkF m 13 (lcC_7 a cc) [(.int (own_dk w_size 3)), (.ref a), (.ref w_groups)])) _
          refine XS.iconst X44.here hx rfl (hb hby d6_13) ?_
          show Steps p.tables e below (T44.setTop (mkF m 14 (lcC_7 a cc) [(.int (1 : Int32)), (.int (own_dk w_size 3)), (.ref a), (.ref w_groups)])) _
          refine XS.isub X44.here hx rfl (hb hby d6_14) rfl ?_
          show Steps p.tables e below (T44.setTop (mkF m 15 (lcC_7 a cc) [(.int (own_dk w_size 4)), (.ref a), (.ref w_groups)])) _
          refine XS.dupX1 X44.here hx rfl (hb hby d6_15) rfl rfl rfl ?_
          show Steps p.tables e below (T44.setTop (mkF m 16 (lcC_7 a cc) [(.int (own_dk w_size 4)), (.ref a), (.int (own_dk w_size 4)), (.ref w_groups)])) _
          exact k)
        obtain ⟨T47, h47, X47, e47, W47, st47⟩ := putF X44 hx hZ hown (host := "") (Or.inl (hw _ (List.mem_of_getElem? (i := 27) rfl))) Via.refl e44 F_a_size E_a (Or.inl (hw _ (List.mem_of_getElem? (i := 28) rfl))) (hw _ (List.mem_of_getElem? (i := 9) rfl)) (ty := .int) (by decide) rfl rfl (g := (mkF m 16 (lcC_7 a cc) [(.int (own_dk w_size 4)), (.ref a), (.int (own_dk w_size 4)), (.ref w_groups)])) rfl rfl (hb hby d6_16)
        have F_a_size : Fld Z h47 a "com/example/mensura/mensura/parser/OpenParentheses" "size" "I" (.int (own_dk w_size 4)) := F_a_size.same W47
        have E_a := E_a.wr W47
        have F_a_groups := F_a_groups.other W47 (Or.inr (slot_ne (Or.inl (hw _ (List.mem_of_getElem? (i := 19) rfl))) (Or.inl (hw _ (List.mem_of_getElem? (i := 28) rfl))) (by decide) (t := (.array .byte)) (t' := .int) (by decide) (by decide)))
        have F_a_innermost := F_a_innermost.other W47 (Or.inr (slot_ne (Or.inl (hw _ (List.mem_of_getElem? (i := 21) rfl))) (Or.inl (hw _ (List.mem_of_getElem? (i := 28) rfl))) (by decide) (t := .int) (t' := .int) (by decide) (by decide)))
        have F_a_depth := F_a_depth.other W47 (Or.inr (slot_ne (Or.inl (hw _ (List.mem_of_getElem? (i := 30) rfl))) (Or.inl (hw _ (List.mem_of_getElem? (i := 28) rfl))) (by decide) (t := .int) (t' := .int) (by decide) (by decide)))
        have A_w_groups := A_w_groups.other W47 (Ne.symm ne_a_w_groups)
        have K := K.wr W47 (Or.inl (List.mem_of_getElem? (i := 0) rfl))
        have Z47 : n0 ≤ h47.size := Nat.le_trans Z34 (Keep.of_wr W47).1
        have N47 := Fr.snoc X47 N34 g_a
        have pre48 : ∀ t, Steps p.tables e below (T47.setTop (mkF m 19 (lcC_7 a cc) [(.int (own_dk w_size 4)), (.ref w_groups)])) t → Steps p.tables e below (s₁.setTop (entryFrame m #[(.ref a)] 5)) t := fun t k => pre46 t (st47 t k)
        have hk3 : 3 < own_m cc := (own_neg cc 2 hk2).mp hc38_39
        obtain ⟨cl49, Ar49, Sz49, Hf49⟩ := id A_w_groups
        have hat49 : cl49.slots[((own_dk w_size 4)).toNatClampNeg]? = some (.int (own_byte cc 3)) := (Hf49 _ (own_lt_of (own_dkb ht 3 hk3))).trans (congrArg (fun z => some (Value.int z)) (own_topv ht 3 hk3))
        have pre50 : ∀ t, Steps p.tables e below (T47.setTop (mkF m 20 (lcC_7 a cc) [(.int (own_byte cc 3))])) t → Steps p.tables e below (s₁.setTop (entryFrame m #[(.ref a)] 5)) t := fun t k => pre48 t (X47.baloadBytes hx (j := (own_dk w_size 4)) (v := (.int (own_byte cc 3))) (by rw [e47]; exact Ar49.1) (State.isArrayOf_alike hZ.alike Ar49.2.1) Ar49.2.2 (own_inb Sz49 (own_dkb ht 3 hk3)) hat49 (g := (mkF m 19 (lcC_7 a cc) [(.int (own_dk w_size 4)), (.ref w_groups)])) rfl rfl (hb hby d6_19) _ k)
        have pre51 : ∀ t, Steps p.tables e below (T47.setTop (mkF m 38 (lcC_10 a cc) [(.int (own_byte cc 3))])) t → Steps p.tables e below (s₁.setTop (entryFrame m #[(.ref a)] 5)) t := fun t k => pre50 t (by
          show Steps p.tables e below (T47.setTop (mkF m 20 (lcC_7 a cc) [(.int (own_byte cc 3))])) _
          refine XS.istore X47.here hx rfl (hb hby d6_20) rfl (l' := (lcC_8 a cc)) rfl ?_
          show Steps p.tables e below (T47.setTop (mkF m 22 (lcC_8 a cc) [])) _
          refine XS.lloadN X47.here hx rfl (hb hby d6_22) rfl ?_
          show Steps p.tables e below (T47.setTop (mkF m 23 (lcC_8 a cc) [(.long ((((0 : Int64) ||| (own_shl (((own_byte cc 0) &&& (127 : Int32)).toInt64) (0 : Int32))) ||| (own_shl (((own_byte cc 1) &&& (127 : Int32)).toInt64) (7 : Int32))) ||| (own_shl (((own_byte cc 2) &&& (127 : Int32)).toInt64) (14 : Int32))))])) _
          refine XS.iload X47.here hx rfl (hb hby d6_23) rfl ?_
          show Steps p.tables e below (T47.setTop (mkF m 25 (lcC_8 a cc) [(.int (own_byte cc 3)), (.long ((((0 : Int64) ||| (own_shl (((own_byte cc 0) &&& (127 : Int32)).toInt64) (0 : Int32))) ||| (own_shl (((own_byte cc 1) &&& (127 : Int32)).toInt64) (7 : Int32))) ||| (own_shl (((own_byte cc 2) &&& (127 : Int32)).toInt64) (14 : Int32))))])) _
          refine XS.bipush X47.here hx rfl (hb hby d6_25) ?_
          show Steps p.tables e below (T47.setTop (mkF m 27 (lcC_8 a cc) [(.int (127 : Int32)), (.int (own_byte cc 3)), (.long ((((0 : Int64) ||| (own_shl (((own_byte cc 0) &&& (127 : Int32)).toInt64) (0 : Int32))) ||| (own_shl (((own_byte cc 1) &&& (127 : Int32)).toInt64) (7 : Int32))) ||| (own_shl (((own_byte cc 2) &&& (127 : Int32)).toInt64) (14 : Int32))))])) _
          refine XS.iand X47.here hx rfl (hb hby d6_27) rfl ?_
          show Steps p.tables e below (T47.setTop (mkF m 28 (lcC_8 a cc) [(.int ((own_byte cc 3) &&& (127 : Int32))), (.long ((((0 : Int64) ||| (own_shl (((own_byte cc 0) &&& (127 : Int32)).toInt64) (0 : Int32))) ||| (own_shl (((own_byte cc 1) &&& (127 : Int32)).toInt64) (7 : Int32))) ||| (own_shl (((own_byte cc 2) &&& (127 : Int32)).toInt64) (14 : Int32))))])) _
          refine XS.i2l X47.here hx rfl (hb hby d6_28) rfl ?_
          show Steps p.tables e below (T47.setTop (mkF m 29 (lcC_8 a cc) [(.long (((own_byte cc 3) &&& (127 : Int32)).toInt64)), (.long ((((0 : Int64) ||| (own_shl (((own_byte cc 0) &&& (127 : Int32)).toInt64) (0 : Int32))) ||| (own_shl (((own_byte cc 1) &&& (127 : Int32)).toInt64) (7 : Int32))) ||| (own_shl (((own_byte cc 2) &&& (127 : Int32)).toInt64) (14 : Int32))))])) _
          refine XS.iloadN X47.here hx rfl (hb hby d6_29) rfl ?_
          show Steps p.tables e below (T47.setTop (mkF m 30 (lcC_8 a cc) [(.int (21 : Int32)), (.long (((own_byte cc 3) &&& (127 : Int32)).toInt64)), (.long ((((0 : Int64) ||| (own_shl (((own_byte cc 0) &&& (127 : Int32)).toInt64) (0 : Int32))) ||| (own_shl (((own_byte cc 1) &&& (127 : Int32)).toInt64) (7 : Int32))) ||| (own_shl (((own_byte cc 2) &&& (127 : Int32)).toInt64) (14 : Int32))))])) _
          refine XS.lshl X47.here hx rfl (hb hby d6_30) rfl ?_
          show Steps p.tables e below (T47.setTop (mkF m 31 (lcC_8 a cc) [(.long (own_shl (((own_byte cc 3) &&& (127 : Int32)).toInt64) (21 : Int32))), (.long ((((0 : Int64) ||| (own_shl (((own_byte cc 0) &&& (127 : Int32)).toInt64) (0 : Int32))) ||| (own_shl (((own_byte cc 1) &&& (127 : Int32)).toInt64) (7 : Int32))) ||| (own_shl (((own_byte cc 2) &&& (127 : Int32)).toInt64) (14 : Int32))))])) _
          refine XS.lor X47.here hx rfl (hb hby d6_31) rfl ?_
          show Steps p.tables e below (T47.setTop (mkF m 32 (lcC_8 a cc) [(.long (((((0 : Int64) ||| (own_shl (((own_byte cc 0) &&& (127 : Int32)).toInt64) (0 : Int32))) ||| (own_shl (((own_byte cc 1) &&& (127 : Int32)).toInt64) (7 : Int32))) ||| (own_shl (((own_byte cc 2) &&& (127 : Int32)).toInt64) (14 : Int32))) ||| (own_shl (((own_byte cc 3) &&& (127 : Int32)).toInt64) (21 : Int32))))])) _
          refine XS.lstoreN X47.here hx rfl (hb hby d6_32) rfl (l' := (lcC_9 a cc)) rfl ?_
          show Steps p.tables e below (T47.setTop (mkF m 33 (lcC_9 a cc) [])) _
          refine XS.iinc X47.here hx rfl (hb hby d6_33) rfl (l' := (lcC_10 a cc)) rfl ?_
          show Steps p.tables e below (T47.setTop (mkF m 36 (lcC_10 a cc) [])) _
          refine XS.iload X47.here hx rfl (hb hby d6_36) rfl ?_
          show Steps p.tables e below (T47.setTop (mkF m 38 (lcC_10 a cc) [(.int (own_byte cc 3))])) _
          exact k)
        by_cases hc38_52 : (own_byte cc 3) < (0 : Int32)
        · have pre53 : ∀ t, Steps p.tables e below (T47.setTop (mkF m 5 (lcC_10 a cc) [(.ref a)])) t → Steps p.tables e below (s₁.setTop (entryFrame m #[(.ref a)] 5)) t := fun t k => pre51 t (by
            show Steps p.tables e below (T47.setTop (mkF m 38 (lcC_10 a cc) [(.int (own_byte cc 3))])) _
            refine XS.ifYes X47.here hx rfl (pc0 := 38) (pc' := 4) rfl (hb hby d6_38) rfl ((if0 _ _).trans (tlt hc38_52).1) (by decide) (by decide) ?_
            show Steps p.tables e below (T47.setTop (mkF m 4 (lcC_10 a cc) [])) _
            refine XS.aloadN X47.here hx rfl (hb hby d6_4) rfl rfl ?_
            show Steps p.tables e below (T47.setTop (mkF m 5 (lcC_10 a cc) [(.ref a)])) _
            exact k)
          obtain ⟨T54, X54, e54, st54⟩ := getF X47 hx hZ hown (host := "") (Or.inl (hw _ (List.mem_of_getElem? (i := 18) rfl))) Via.refl e47 F_a_groups (g := (mkF m 5 (lcC_10 a cc) [(.ref a)])) rfl rfl (hb hby d6_5)
          have pre55 : ∀ t, Steps p.tables e below (T54.setTop (mkF m 8 (lcC_10 a cc) [(.ref w_groups)])) t → Steps p.tables e below (s₁.setTop (entryFrame m #[(.ref a)] 5)) t := fun t k => pre53 t (st54 t k)
          have pre56 : ∀ t, Steps p.tables e below (T54.setTop (mkF m 10 (lcC_10 a cc) [(.ref a), (.ref a), (.ref w_groups)])) t → Steps p.tables e below (s₁.setTop (entryFrame m #[(.ref a)] 5)) t := fun t k => pre55 t (by
            show Steps p.tables e below (T54.setTop (mkF m 8 (lcC_10 a cc) [(.ref w_groups)])) _
            refine XS.aloadN X54.here hx rfl (hb hby d6_8) rfl rfl ?_
            show Steps p.tables e below (T54.setTop (mkF m 9 (lcC_10 a cc) [(.ref a), (.ref w_groups)])) _
            refine XS.dup X54.here hx rfl (hb hby d6_9) rfl rfl ?_
            show Steps p.tables e below (T54.setTop (mkF m 10 (lcC_10 a cc) [(.ref a), (.ref a), (.ref w_groups)])) _
            exact k)
          obtain ⟨T57, X57, e57, st57⟩ := getF X54 hx hZ hown (host := "") (Or.inl (hw _ (List.mem_of_getElem? (i := 27) rfl))) Via.refl e54 F_a_size (g := (mkF m 10 (lcC_10 a cc) [(.ref a), (.ref a), (.ref w_groups)])) rfl rfl (hb hby d6_10)
          have pre58 : ∀ t, Steps p.tables e below (T57.setTop (mkF m 13 (lcC_10 a cc) [(.int (own_dk w_size 4)), (.ref a), (.ref w_groups)])) t → Steps p.tables e below (s₁.setTop (entryFrame m #[(.ref a)] 5)) t := fun t k => pre56 t (st57 t k)
          have pre59 : ∀ t, Steps p.tables e below (T57.setTop (mkF m 16 (lcC_10 a cc) [(.int (own_dk w_size 5)), (.ref a), (.int (own_dk w_size 5)), (.ref w_groups)])) t → Steps p.tables e below (s₁.setTop (entryFrame m #[(.ref a)] 5)) t := fun t k => pre58 t (by
            show Steps p.tables e below (T57.setTop (mkF m 13 (lcC_10 a cc) [(.int (own_dk w_size 4)), (.ref a), (.ref w_groups)])) _
            refine XS.iconst X57.here hx rfl (hb hby d6_13) ?_
            show Steps p.tables e below (T57.setTop (mkF m 14 (lcC_10 a cc) [(.int (1 : Int32)), (.int (own_dk w_size 4)), (.ref a), (.ref w_groups)])) _
            refine XS.isub X57.here hx rfl (hb hby d6_14) rfl ?_
            show Steps p.tables e below (T57.setTop (mkF m 15 (lcC_10 a cc) [(.int (own_dk w_size 5)), (.ref a), (.ref w_groups)])) _
            refine XS.dupX1 X57.here hx rfl (hb hby d6_15) rfl rfl rfl ?_
            show Steps p.tables e below (T57.setTop (mkF m 16 (lcC_10 a cc) [(.int (own_dk w_size 5)), (.ref a), (.int (own_dk w_size 5)), (.ref w_groups)])) _
            exact k)
          obtain ⟨T60, h60, X60, e60, W60, st60⟩ := putF X57 hx hZ hown (host := "") (Or.inl (hw _ (List.mem_of_getElem? (i := 27) rfl))) Via.refl e57 F_a_size E_a (Or.inl (hw _ (List.mem_of_getElem? (i := 28) rfl))) (hw _ (List.mem_of_getElem? (i := 9) rfl)) (ty := .int) (by decide) rfl rfl (g := (mkF m 16 (lcC_10 a cc) [(.int (own_dk w_size 5)), (.ref a), (.int (own_dk w_size 5)), (.ref w_groups)])) rfl rfl (hb hby d6_16)
          have F_a_size : Fld Z h60 a "com/example/mensura/mensura/parser/OpenParentheses" "size" "I" (.int (own_dk w_size 5)) := F_a_size.same W60
          have E_a := E_a.wr W60
          have F_a_groups := F_a_groups.other W60 (Or.inr (slot_ne (Or.inl (hw _ (List.mem_of_getElem? (i := 19) rfl))) (Or.inl (hw _ (List.mem_of_getElem? (i := 28) rfl))) (by decide) (t := (.array .byte)) (t' := .int) (by decide) (by decide)))
          have F_a_innermost := F_a_innermost.other W60 (Or.inr (slot_ne (Or.inl (hw _ (List.mem_of_getElem? (i := 21) rfl))) (Or.inl (hw _ (List.mem_of_getElem? (i := 28) rfl))) (by decide) (t := .int) (t' := .int) (by decide) (by decide)))
          have F_a_depth := F_a_depth.other W60 (Or.inr (slot_ne (Or.inl (hw _ (List.mem_of_getElem? (i := 30) rfl))) (Or.inl (hw _ (List.mem_of_getElem? (i := 28) rfl))) (by decide) (t := .int) (t' := .int) (by decide) (by decide)))
          have A_w_groups := A_w_groups.other W60 (Ne.symm ne_a_w_groups)
          have K := K.wr W60 (Or.inl (List.mem_of_getElem? (i := 0) rfl))
          have Z60 : n0 ≤ h60.size := Nat.le_trans Z47 (Keep.of_wr W60).1
          have N60 := Fr.snoc X60 N47 g_a
          have pre61 : ∀ t, Steps p.tables e below (T60.setTop (mkF m 19 (lcC_10 a cc) [(.int (own_dk w_size 5)), (.ref w_groups)])) t → Steps p.tables e below (s₁.setTop (entryFrame m #[(.ref a)] 5)) t := fun t k => pre59 t (st60 t k)
          have hk4 : 4 < own_m cc := (own_neg cc 3 hk3).mp hc38_52
          obtain ⟨cl62, Ar62, Sz62, Hf62⟩ := id A_w_groups
          have hat62 : cl62.slots[((own_dk w_size 5)).toNatClampNeg]? = some (.int (own_byte cc 4)) := (Hf62 _ (own_lt_of (own_dkb ht 4 hk4))).trans (congrArg (fun z => some (Value.int z)) (own_topv ht 4 hk4))
          have pre63 : ∀ t, Steps p.tables e below (T60.setTop (mkF m 20 (lcC_10 a cc) [(.int (own_byte cc 4))])) t → Steps p.tables e below (s₁.setTop (entryFrame m #[(.ref a)] 5)) t := fun t k => pre61 t (X60.baloadBytes hx (j := (own_dk w_size 5)) (v := (.int (own_byte cc 4))) (by rw [e60]; exact Ar62.1) (State.isArrayOf_alike hZ.alike Ar62.2.1) Ar62.2.2 (own_inb Sz62 (own_dkb ht 4 hk4)) hat62 (g := (mkF m 19 (lcC_10 a cc) [(.int (own_dk w_size 5)), (.ref w_groups)])) rfl rfl (hb hby d6_19) _ k)
          have pre64 : ∀ t, Steps p.tables e below (T60.setTop (mkF m 41 (lcC_13 a cc) [])) t → Steps p.tables e below (s₁.setTop (entryFrame m #[(.ref a)] 5)) t := fun t k => pre63 t (by
            show Steps p.tables e below (T60.setTop (mkF m 20 (lcC_10 a cc) [(.int (own_byte cc 4))])) _
            refine XS.istore X60.here hx rfl (hb hby d6_20) rfl (l' := (lcC_11 a cc)) rfl ?_
            show Steps p.tables e below (T60.setTop (mkF m 22 (lcC_11 a cc) [])) _
            refine XS.lloadN X60.here hx rfl (hb hby d6_22) rfl ?_
            show Steps p.tables e below (T60.setTop (mkF m 23 (lcC_11 a cc) [(.long (((((0 : Int64) ||| (own_shl (((own_byte cc 0) &&& (127 : Int32)).toInt64) (0 : Int32))) ||| (own_shl (((own_byte cc 1) &&& (127 : Int32)).toInt64) (7 : Int32))) ||| (own_shl (((own_byte cc 2) &&& (127 : Int32)).toInt64) (14 : Int32))) ||| (own_shl (((own_byte cc 3) &&& (127 : Int32)).toInt64) (21 : Int32))))])) _
            refine XS.iload X60.here hx rfl (hb hby d6_23) rfl ?_
            show Steps p.tables e below (T60.setTop (mkF m 25 (lcC_11 a cc) [(.int (own_byte cc 4)), (.long (((((0 : Int64) ||| (own_shl (((own_byte cc 0) &&& (127 : Int32)).toInt64) (0 : Int32))) ||| (own_shl (((own_byte cc 1) &&& (127 : Int32)).toInt64) (7 : Int32))) ||| (own_shl (((own_byte cc 2) &&& (127 : Int32)).toInt64) (14 : Int32))) ||| (own_shl (((own_byte cc 3) &&& (127 : Int32)).toInt64) (21 : Int32))))])) _
            refine XS.bipush X60.here hx rfl (hb hby d6_25) ?_
            show Steps p.tables e below (T60.setTop (mkF m 27 (lcC_11 a cc) [(.int (127 : Int32)), (.int (own_byte cc 4)), (.long (((((0 : Int64) ||| (own_shl (((own_byte cc 0) &&& (127 : Int32)).toInt64) (0 : Int32))) ||| (own_shl (((own_byte cc 1) &&& (127 : Int32)).toInt64) (7 : Int32))) ||| (own_shl (((own_byte cc 2) &&& (127 : Int32)).toInt64) (14 : Int32))) ||| (own_shl (((own_byte cc 3) &&& (127 : Int32)).toInt64) (21 : Int32))))])) _
            refine XS.iand X60.here hx rfl (hb hby d6_27) rfl ?_
            show Steps p.tables e below (T60.setTop (mkF m 28 (lcC_11 a cc) [(.int ((own_byte cc 4) &&& (127 : Int32))), (.long (((((0 : Int64) ||| (own_shl (((own_byte cc 0) &&& (127 : Int32)).toInt64) (0 : Int32))) ||| (own_shl (((own_byte cc 1) &&& (127 : Int32)).toInt64) (7 : Int32))) ||| (own_shl (((own_byte cc 2) &&& (127 : Int32)).toInt64) (14 : Int32))) ||| (own_shl (((own_byte cc 3) &&& (127 : Int32)).toInt64) (21 : Int32))))])) _
            refine XS.i2l X60.here hx rfl (hb hby d6_28) rfl ?_
            show Steps p.tables e below (T60.setTop (mkF m 29 (lcC_11 a cc) [(.long (((own_byte cc 4) &&& (127 : Int32)).toInt64)), (.long (((((0 : Int64) ||| (own_shl (((own_byte cc 0) &&& (127 : Int32)).toInt64) (0 : Int32))) ||| (own_shl (((own_byte cc 1) &&& (127 : Int32)).toInt64) (7 : Int32))) ||| (own_shl (((own_byte cc 2) &&& (127 : Int32)).toInt64) (14 : Int32))) ||| (own_shl (((own_byte cc 3) &&& (127 : Int32)).toInt64) (21 : Int32))))])) _
            refine XS.iloadN X60.here hx rfl (hb hby d6_29) rfl ?_
            show Steps p.tables e below (T60.setTop (mkF m 30 (lcC_11 a cc) [(.int (28 : Int32)), (.long (((own_byte cc 4) &&& (127 : Int32)).toInt64)), (.long (((((0 : Int64) ||| (own_shl (((own_byte cc 0) &&& (127 : Int32)).toInt64) (0 : Int32))) ||| (own_shl (((own_byte cc 1) &&& (127 : Int32)).toInt64) (7 : Int32))) ||| (own_shl (((own_byte cc 2) &&& (127 : Int32)).toInt64) (14 : Int32))) ||| (own_shl (((own_byte cc 3) &&& (127 : Int32)).toInt64) (21 : Int32))))])) _
            refine XS.lshl X60.here hx rfl (hb hby d6_30) rfl ?_
            show Steps p.tables e below (T60.setTop (mkF m 31 (lcC_11 a cc) [(.long (own_shl (((own_byte cc 4) &&& (127 : Int32)).toInt64) (28 : Int32))), (.long (((((0 : Int64) ||| (own_shl (((own_byte cc 0) &&& (127 : Int32)).toInt64) (0 : Int32))) ||| (own_shl (((own_byte cc 1) &&& (127 : Int32)).toInt64) (7 : Int32))) ||| (own_shl (((own_byte cc 2) &&& (127 : Int32)).toInt64) (14 : Int32))) ||| (own_shl (((own_byte cc 3) &&& (127 : Int32)).toInt64) (21 : Int32))))])) _
            refine XS.lor X60.here hx rfl (hb hby d6_31) rfl ?_
            show Steps p.tables e below (T60.setTop (mkF m 32 (lcC_11 a cc) [(.long ((((((0 : Int64) ||| (own_shl (((own_byte cc 0) &&& (127 : Int32)).toInt64) (0 : Int32))) ||| (own_shl (((own_byte cc 1) &&& (127 : Int32)).toInt64) (7 : Int32))) ||| (own_shl (((own_byte cc 2) &&& (127 : Int32)).toInt64) (14 : Int32))) ||| (own_shl (((own_byte cc 3) &&& (127 : Int32)).toInt64) (21 : Int32))) ||| (own_shl (((own_byte cc 4) &&& (127 : Int32)).toInt64) (28 : Int32))))])) _
            refine XS.lstoreN X60.here hx rfl (hb hby d6_32) rfl (l' := (lcC_12 a cc)) rfl ?_
            show Steps p.tables e below (T60.setTop (mkF m 33 (lcC_12 a cc) [])) _
            refine XS.iinc X60.here hx rfl (hb hby d6_33) rfl (l' := (lcC_13 a cc)) rfl ?_
            show Steps p.tables e below (T60.setTop (mkF m 36 (lcC_13 a cc) [])) _
            refine XS.iload X60.here hx rfl (hb hby d6_36) rfl ?_
            show Steps p.tables e below (T60.setTop (mkF m 38 (lcC_13 a cc) [(.int (own_byte cc 4))])) _
            refine XS.ifNo X60.here hx rfl (hb hby d6_38) rfl ((if0 _ _).trans (flt (show ¬ ((own_byte cc 4) < (0 : Int32)) from own_last hk4)).1) ?_
            show Steps p.tables e below (T60.setTop (mkF m 41 (lcC_13 a cc) [])) _
            exact k)
          have hm : own_m cc = 5 := own_eqm hk4 (own_last hk4)
          have pre65 : ∀ t, Steps p.tables e below (T60.setTop (mkF m 41 #[.val (.ref a), .val (.long cc), .second, .val (.int (35 : Int32)), .val (.int (own_byte cc 4))] [])) t → Steps p.tables e below (s₁.setTop (entryFrame m #[(.ref a)] 5)) t := fun t k => pre64 t (Eq.subst (motive := fun xJ => Steps p.tables e below (T60.setTop (mkF m 41 #[.val (.ref a), .val (.long xJ), .second, .val (.int (35 : Int32)), .val (.int (own_byte cc 4))] [])) t) (Eq.symm (own_unp5 hm hc)) k)
          have pre66 : ∀ t, Steps p.tables e below (T60.setTop (mkF m 43 #[.val (.ref a), .val (.long cc), .second, .val (.int (35 : Int32)), .val (.int (own_byte cc 4))] [(.ref a), (.ref a)])) t → Steps p.tables e below (s₁.setTop (entryFrame m #[(.ref a)] 5)) t := fun t k => pre65 t (by
            show Steps p.tables e below (T60.setTop (mkF m 41 #[.val (.ref a), .val (.long cc), .second, .val (.int (35 : Int32)), .val (.int (own_byte cc 4))] [])) _
            refine XS.aloadN X60.here hx rfl (hb hby d6_41) rfl rfl ?_
            show Steps p.tables e below (T60.setTop (mkF m 42 #[.val (.ref a), .val (.long cc), .second, .val (.int (35 : Int32)), .val (.int (own_byte cc 4))] [(.ref a)])) _
            refine XS.dup X60.here hx rfl (hb hby d6_42) rfl rfl ?_
            show Steps p.tables e below (T60.setTop (mkF m 43 #[.val (.ref a), .val (.long cc), .second, .val (.int (35 : Int32)), .val (.int (own_byte cc 4))] [(.ref a), (.ref a)])) _
            exact k)
          obtain ⟨T67, X67, e67, st67⟩ := getF X60 hx hZ hown (host := "") (Or.inl (hw _ (List.mem_of_getElem? (i := 20) rfl))) Via.refl e60 F_a_innermost (g := (mkF m 43 #[.val (.ref a), .val (.long cc), .second, .val (.int (35 : Int32)), .val (.int (own_byte cc 4))] [(.ref a), (.ref a)])) rfl rfl (hb hby d6_43)
          have pre68 : ∀ t, Steps p.tables e below (T67.setTop (mkF m 46 #[.val (.ref a), .val (.long cc), .second, .val (.int (35 : Int32)), .val (.int (own_byte cc 4))] [(.int w_innermost), (.ref a)])) t → Steps p.tables e below (s₁.setTop (entryFrame m #[(.ref a)] 5)) t := fun t k => pre66 t (st67 t k)
          have pre69 : ∀ t, Steps p.tables e below (T67.setTop (mkF m 51 #[.val (.ref a), .val (.long cc), .second, .val (.int (35 : Int32)), .val (.int (own_byte cc 4))] [(.int (w_innermost - ((own_ush cc (1 : Int32)).toInt32))), (.ref a)])) t → Steps p.tables e below (s₁.setTop (entryFrame m #[(.ref a)] 5)) t := fun t k => pre68 t (by
            show Steps p.tables e below (T67.setTop (mkF m 46 #[.val (.ref a), .val (.long cc), .second, .val (.int (35 : Int32)), .val (.int (own_byte cc 4))] [(.int w_innermost), (.ref a)])) _
            refine XS.lloadN X67.here hx rfl (hb hby d6_46) rfl ?_
            show Steps p.tables e below (T67.setTop (mkF m 47 #[.val (.ref a), .val (.long cc), .second, .val (.int (35 : Int32)), .val (.int (own_byte cc 4))] [(.long cc), (.int w_innermost), (.ref a)])) _
            refine XS.iconst X67.here hx rfl (hb hby d6_47) ?_
            show Steps p.tables e below (T67.setTop (mkF m 48 #[.val (.ref a), .val (.long cc), .second, .val (.int (35 : Int32)), .val (.int (own_byte cc 4))] [(.int (1 : Int32)), (.long cc), (.int w_innermost), (.ref a)])) _
            refine XS.lushr X67.here hx rfl (hb hby d6_48) rfl ?_
            show Steps p.tables e below (T67.setTop (mkF m 49 #[.val (.ref a), .val (.long cc), .second, .val (.int (35 : Int32)), .val (.int (own_byte cc 4))] [(.long (own_ush cc (1 : Int32))), (.int w_innermost), (.ref a)])) _
            refine XS.l2i X67.here hx rfl (hb hby d6_49) rfl ?_
            show Steps p.tables e below (T67.setTop (mkF m 50 #[.val (.ref a), .val (.long cc), .second, .val (.int (35 : Int32)), .val (.int (own_byte cc 4))] [(.int ((own_ush cc (1 : Int32)).toInt32)), (.int w_innermost), (.ref a)])) _
            refine XS.isub X67.here hx rfl (hb hby d6_50) rfl ?_
            show Steps p.tables e below (T67.setTop (mkF m 51 #[.val (.ref a), .val (.long cc), .second, .val (.int (35 : Int32)), .val (.int (own_byte cc 4))] [(.int (w_innermost - ((own_ush cc (1 : Int32)).toInt32))), (.ref a)])) _
            exact k)
          obtain ⟨T70, h70, X70, e70, W70, st70⟩ := putF X67 hx hZ hown (host := "") (Or.inl (hw _ (List.mem_of_getElem? (i := 20) rfl))) Via.refl e67 F_a_innermost E_a (Or.inl (hw _ (List.mem_of_getElem? (i := 21) rfl))) (hw _ (List.mem_of_getElem? (i := 9) rfl)) (ty := .int) (by decide) rfl rfl (g := (mkF m 51 #[.val (.ref a), .val (.long cc), .second, .val (.int (35 : Int32)), .val (.int (own_byte cc 4))] [(.int (w_innermost - ((own_ush cc (1 : Int32)).toInt32))), (.ref a)])) rfl rfl (hb hby d6_51)
          have F_a_innermost : Fld Z h70 a "com/example/mensura/mensura/parser/OpenParentheses" "innermost" "I" (.int (w_innermost - ((own_ush cc (1 : Int32)).toInt32))) := F_a_innermost.same W70
          have E_a := E_a.wr W70
          have F_a_groups := F_a_groups.other W70 (Or.inr (slot_ne (Or.inl (hw _ (List.mem_of_getElem? (i := 19) rfl))) (Or.inl (hw _ (List.mem_of_getElem? (i := 21) rfl))) (by decide) (t := (.array .byte)) (t' := .int) (by decide) (by decide)))
          have F_a_size := F_a_size.other W70 (Or.inr (slot_ne (Or.inl (hw _ (List.mem_of_getElem? (i := 28) rfl))) (Or.inl (hw _ (List.mem_of_getElem? (i := 21) rfl))) (by decide) (t := .int) (t' := .int) (by decide) (by decide)))
          have F_a_depth := F_a_depth.other W70 (Or.inr (slot_ne (Or.inl (hw _ (List.mem_of_getElem? (i := 30) rfl))) (Or.inl (hw _ (List.mem_of_getElem? (i := 21) rfl))) (by decide) (t := .int) (t' := .int) (by decide) (by decide)))
          have A_w_groups := A_w_groups.other W70 (Ne.symm ne_a_w_groups)
          have K := K.wr W70 (Or.inl (List.mem_of_getElem? (i := 0) rfl))
          have Z70 : n0 ≤ h70.size := Nat.le_trans Z60 (Keep.of_wr W70).1
          have N70 := Fr.snoc X70 N60 g_a
          have pre71 : ∀ t, Steps p.tables e below (T70.setTop (mkF m 54 #[.val (.ref a), .val (.long cc), .second, .val (.int (35 : Int32)), .val (.int (own_byte cc 4))] [])) t → Steps p.tables e below (s₁.setTop (entryFrame m #[(.ref a)] 5)) t := fun t k => pre69 t (st70 t k)
          have pre72 : ∀ t, Steps p.tables e below (T70.setTop (mkF m 56 #[.val (.ref a), .val (.long cc), .second, .val (.int (35 : Int32)), .val (.int (own_byte cc 4))] [(.ref a), (.ref a)])) t → Steps p.tables e below (s₁.setTop (entryFrame m #[(.ref a)] 5)) t := fun t k => pre71 t (by
            show Steps p.tables e below (T70.setTop (mkF m 54 #[.val (.ref a), .val (.long cc), .second, .val (.int (35 : Int32)), .val (.int (own_byte cc 4))] [])) _
            refine XS.aloadN X70.here hx rfl (hb hby d6_54) rfl rfl ?_
            show Steps p.tables e below (T70.setTop (mkF m 55 #[.val (.ref a), .val (.long cc), .second, .val (.int (35 : Int32)), .val (.int (own_byte cc 4))] [(.ref a)])) _
            refine XS.dup X70.here hx rfl (hb hby d6_55) rfl rfl ?_
            show Steps p.tables e below (T70.setTop (mkF m 56 #[.val (.ref a), .val (.long cc), .second, .val (.int (35 : Int32)), .val (.int (own_byte cc 4))] [(.ref a), (.ref a)])) _
            exact k)
          obtain ⟨T73, X73, e73, st73⟩ := getF X70 hx hZ hown (host := "") (Or.inl (hw _ (List.mem_of_getElem? (i := 29) rfl))) Via.refl e70 F_a_depth (g := (mkF m 56 #[.val (.ref a), .val (.long cc), .second, .val (.int (35 : Int32)), .val (.int (own_byte cc 4))] [(.ref a), (.ref a)])) rfl rfl (hb hby d6_56)
          have pre74 : ∀ t, Steps p.tables e below (T73.setTop (mkF m 59 #[.val (.ref a), .val (.long cc), .second, .val (.int (35 : Int32)), .val (.int (own_byte cc 4))] [(.int w_depth), (.ref a)])) t → Steps p.tables e below (s₁.setTop (entryFrame m #[(.ref a)] 5)) t := fun t k => pre72 t (st73 t k)
          have pre75 : ∀ t, Steps p.tables e below (T73.setTop (mkF m 61 #[.val (.ref a), .val (.long cc), .second, .val (.int (35 : Int32)), .val (.int (own_byte cc 4))] [(.int (w_depth - (1 : Int32))), (.ref a)])) t → Steps p.tables e below (s₁.setTop (entryFrame m #[(.ref a)] 5)) t := fun t k => pre74 t (by
            show Steps p.tables e below (T73.setTop (mkF m 59 #[.val (.ref a), .val (.long cc), .second, .val (.int (35 : Int32)), .val (.int (own_byte cc 4))] [(.int w_depth), (.ref a)])) _
            refine XS.iconst X73.here hx rfl (hb hby d6_59) ?_
            show Steps p.tables e below (T73.setTop (mkF m 60 #[.val (.ref a), .val (.long cc), .second, .val (.int (35 : Int32)), .val (.int (own_byte cc 4))] [(.int (1 : Int32)), (.int w_depth), (.ref a)])) _
            refine XS.isub X73.here hx rfl (hb hby d6_60) rfl ?_
            show Steps p.tables e below (T73.setTop (mkF m 61 #[.val (.ref a), .val (.long cc), .second, .val (.int (35 : Int32)), .val (.int (own_byte cc 4))] [(.int (w_depth - (1 : Int32))), (.ref a)])) _
            exact k)
          obtain ⟨T76, h76, X76, e76, W76, st76⟩ := putF X73 hx hZ hown (host := "") (Or.inl (hw _ (List.mem_of_getElem? (i := 29) rfl))) Via.refl e73 F_a_depth E_a (Or.inl (hw _ (List.mem_of_getElem? (i := 30) rfl))) (hw _ (List.mem_of_getElem? (i := 9) rfl)) (ty := .int) (by decide) rfl rfl (g := (mkF m 61 #[.val (.ref a), .val (.long cc), .second, .val (.int (35 : Int32)), .val (.int (own_byte cc 4))] [(.int (w_depth - (1 : Int32))), (.ref a)])) rfl rfl (hb hby d6_61)
          have F_a_depth : Fld Z h76 a "com/example/mensura/mensura/parser/OpenParentheses" "depth" "I" (.int (w_depth - (1 : Int32))) := F_a_depth.same W76
          have E_a := E_a.wr W76
          have F_a_groups := F_a_groups.other W76 (Or.inr (slot_ne (Or.inl (hw _ (List.mem_of_getElem? (i := 19) rfl))) (Or.inl (hw _ (List.mem_of_getElem? (i := 30) rfl))) (by decide) (t := (.array .byte)) (t' := .int) (by decide) (by decide)))
          have F_a_size := F_a_size.other W76 (Or.inr (slot_ne (Or.inl (hw _ (List.mem_of_getElem? (i := 28) rfl))) (Or.inl (hw _ (List.mem_of_getElem? (i := 30) rfl))) (by decide) (t := .int) (t' := .int) (by decide) (by decide)))
          have F_a_innermost := F_a_innermost.other W76 (Or.inr (slot_ne (Or.inl (hw _ (List.mem_of_getElem? (i := 21) rfl))) (Or.inl (hw _ (List.mem_of_getElem? (i := 30) rfl))) (by decide) (t := .int) (t' := .int) (by decide) (by decide)))
          have A_w_groups := A_w_groups.other W76 (Ne.symm ne_a_w_groups)
          have K := K.wr W76 (Or.inl (List.mem_of_getElem? (i := 0) rfl))
          have Z76 : n0 ≤ h76.size := Nat.le_trans Z70 (Keep.of_wr W76).1
          have N76 := Fr.snoc X76 N70 g_a
          have pre77 : ∀ t, Steps p.tables e below (T76.setTop (mkF m 64 #[.val (.ref a), .val (.long cc), .second, .val (.int (35 : Int32)), .val (.int (own_byte cc 4))] [])) t → Steps p.tables e below (s₁.setTop (entryFrame m #[(.ref a)] 5)) t := fun t k => pre75 t (st76 t k)
          obtain ⟨fs, hr, hrun, hended, hW, hsame⟩ := X76.leave (v := none) (fun _ => rfl) hlk
          refine ⟨_, _, pre77 _ ?_, hrun, hended, _, _, rfl, ?_, ⟨_, rfl⟩, hW, hsame.mono (by decide) (by decide)⟩
          · show Steps p.tables e below (T76.setTop (mkF m 64 #[.val (.ref a), .val (.long cc), .second, .val (.int (35 : Int32)), .val (.int (own_byte cc 4))] [])) _
            exact X76.returnOut hx Bd.returns (hb hby d6_64) hr
          · show QC Z a f cc w_groups w_size w_innermost w_depth h0 n0 _ T76.heap _
            rw [e76]
            exact ⟨rfl, N76, K, F_a_groups, (by rw [hm]; exact F_a_size), F_a_innermost, F_a_depth⟩
        · have pre78 : ∀ t, Steps p.tables e below (T47.setTop (mkF m 41 (lcC_10 a cc) [])) t → Steps p.tables e below (s₁.setTop (entryFrame m #[(.ref a)] 5)) t := fun t k => pre51 t (by
            show Steps p.tables e below (T47.setTop (mkF m 38 (lcC_10 a cc) [(.int (own_byte cc 3))])) _
            refine XS.ifNo X47.here hx rfl (hb hby d6_38) rfl ((if0 _ _).trans (flt hc38_52).1) ?_
            show Steps p.tables e below (T47.setTop (mkF m 41 (lcC_10 a cc) [])) _
            exact k)
          have hm : own_m cc = 4 := own_eqm hk3 (hc38_52)
          have pre79 : ∀ t, Steps p.tables e below (T47.setTop (mkF m 41 #[.val (.ref a), .val (.long cc), .second, .val (.int (28 : Int32)), .val (.int (own_byte cc 3))] [])) t → Steps p.tables e below (s₁.setTop (entryFrame m #[(.ref a)] 5)) t := fun t k => pre78 t (Eq.subst (motive := fun xJ => Steps p.tables e below (T47.setTop (mkF m 41 #[.val (.ref a), .val (.long xJ), .second, .val (.int (28 : Int32)), .val (.int (own_byte cc 3))] [])) t) (Eq.symm (own_unp4 hm hc)) k)
          have pre80 : ∀ t, Steps p.tables e below (T47.setTop (mkF m 43 #[.val (.ref a), .val (.long cc), .second, .val (.int (28 : Int32)), .val (.int (own_byte cc 3))] [(.ref a), (.ref a)])) t → Steps p.tables e below (s₁.setTop (entryFrame m #[(.ref a)] 5)) t := fun t k => pre79 t (by
            show Steps p.tables e below (T47.setTop (mkF m 41 #[.val (.ref a), .val (.long cc), .second, .val (.int (28 : Int32)), .val (.int (own_byte cc 3))] [])) _
            refine XS.aloadN X47.here hx rfl (hb hby d6_41) rfl rfl ?_
            show Steps p.tables e below (T47.setTop (mkF m 42 #[.val (.ref a), .val (.long cc), .second, .val (.int (28 : Int32)), .val (.int (own_byte cc 3))] [(.ref a)])) _
            refine XS.dup X47.here hx rfl (hb hby d6_42) rfl rfl ?_
            show Steps p.tables e below (T47.setTop (mkF m 43 #[.val (.ref a), .val (.long cc), .second, .val (.int (28 : Int32)), .val (.int (own_byte cc 3))] [(.ref a), (.ref a)])) _
            exact k)
          obtain ⟨T81, X81, e81, st81⟩ := getF X47 hx hZ hown (host := "") (Or.inl (hw _ (List.mem_of_getElem? (i := 20) rfl))) Via.refl e47 F_a_innermost (g := (mkF m 43 #[.val (.ref a), .val (.long cc), .second, .val (.int (28 : Int32)), .val (.int (own_byte cc 3))] [(.ref a), (.ref a)])) rfl rfl (hb hby d6_43)
          have pre82 : ∀ t, Steps p.tables e below (T81.setTop (mkF m 46 #[.val (.ref a), .val (.long cc), .second, .val (.int (28 : Int32)), .val (.int (own_byte cc 3))] [(.int w_innermost), (.ref a)])) t → Steps p.tables e below (s₁.setTop (entryFrame m #[(.ref a)] 5)) t := fun t k => pre80 t (st81 t k)
          have pre83 : ∀ t, Steps p.tables e below (T81.setTop (mkF m 51 #[.val (.ref a), .val (.long cc), .second, .val (.int (28 : Int32)), .val (.int (own_byte cc 3))] [(.int (w_innermost - ((own_ush cc (1 : Int32)).toInt32))), (.ref a)])) t → Steps p.tables e below (s₁.setTop (entryFrame m #[(.ref a)] 5)) t := fun t k => pre82 t (by
            show Steps p.tables e below (T81.setTop (mkF m 46 #[.val (.ref a), .val (.long cc), .second, .val (.int (28 : Int32)), .val (.int (own_byte cc 3))] [(.int w_innermost), (.ref a)])) _
            refine XS.lloadN X81.here hx rfl (hb hby d6_46) rfl ?_
            show Steps p.tables e below (T81.setTop (mkF m 47 #[.val (.ref a), .val (.long cc), .second, .val (.int (28 : Int32)), .val (.int (own_byte cc 3))] [(.long cc), (.int w_innermost), (.ref a)])) _
            refine XS.iconst X81.here hx rfl (hb hby d6_47) ?_
            show Steps p.tables e below (T81.setTop (mkF m 48 #[.val (.ref a), .val (.long cc), .second, .val (.int (28 : Int32)), .val (.int (own_byte cc 3))] [(.int (1 : Int32)), (.long cc), (.int w_innermost), (.ref a)])) _
            refine XS.lushr X81.here hx rfl (hb hby d6_48) rfl ?_
            show Steps p.tables e below (T81.setTop (mkF m 49 #[.val (.ref a), .val (.long cc), .second, .val (.int (28 : Int32)), .val (.int (own_byte cc 3))] [(.long (own_ush cc (1 : Int32))), (.int w_innermost), (.ref a)])) _
            refine XS.l2i X81.here hx rfl (hb hby d6_49) rfl ?_
            show Steps p.tables e below (T81.setTop (mkF m 50 #[.val (.ref a), .val (.long cc), .second, .val (.int (28 : Int32)), .val (.int (own_byte cc 3))] [(.int ((own_ush cc (1 : Int32)).toInt32)), (.int w_innermost), (.ref a)])) _
            refine XS.isub X81.here hx rfl (hb hby d6_50) rfl ?_
            show Steps p.tables e below (T81.setTop (mkF m 51 #[.val (.ref a), .val (.long cc), .second, .val (.int (28 : Int32)), .val (.int (own_byte cc 3))] [(.int (w_innermost - ((own_ush cc (1 : Int32)).toInt32))), (.ref a)])) _
            exact k)
          obtain ⟨T84, h84, X84, e84, W84, st84⟩ := putF X81 hx hZ hown (host := "") (Or.inl (hw _ (List.mem_of_getElem? (i := 20) rfl))) Via.refl e81 F_a_innermost E_a (Or.inl (hw _ (List.mem_of_getElem? (i := 21) rfl))) (hw _ (List.mem_of_getElem? (i := 9) rfl)) (ty := .int) (by decide) rfl rfl (g := (mkF m 51 #[.val (.ref a), .val (.long cc), .second, .val (.int (28 : Int32)), .val (.int (own_byte cc 3))] [(.int (w_innermost - ((own_ush cc (1 : Int32)).toInt32))), (.ref a)])) rfl rfl (hb hby d6_51)
          have F_a_innermost : Fld Z h84 a "com/example/mensura/mensura/parser/OpenParentheses" "innermost" "I" (.int (w_innermost - ((own_ush cc (1 : Int32)).toInt32))) := F_a_innermost.same W84
          have E_a := E_a.wr W84
          have F_a_groups := F_a_groups.other W84 (Or.inr (slot_ne (Or.inl (hw _ (List.mem_of_getElem? (i := 19) rfl))) (Or.inl (hw _ (List.mem_of_getElem? (i := 21) rfl))) (by decide) (t := (.array .byte)) (t' := .int) (by decide) (by decide)))
          have F_a_size := F_a_size.other W84 (Or.inr (slot_ne (Or.inl (hw _ (List.mem_of_getElem? (i := 28) rfl))) (Or.inl (hw _ (List.mem_of_getElem? (i := 21) rfl))) (by decide) (t := .int) (t' := .int) (by decide) (by decide)))
          have F_a_depth := F_a_depth.other W84 (Or.inr (slot_ne (Or.inl (hw _ (List.mem_of_getElem? (i := 30) rfl))) (Or.inl (hw _ (List.mem_of_getElem? (i := 21) rfl))) (by decide) (t := .int) (t' := .int) (by decide) (by decide)))
          have A_w_groups := A_w_groups.other W84 (Ne.symm ne_a_w_groups)
          have K := K.wr W84 (Or.inl (List.mem_of_getElem? (i := 0) rfl))
          have Z84 : n0 ≤ h84.size := Nat.le_trans Z47 (Keep.of_wr W84).1
          have N84 := Fr.snoc X84 N47 g_a
          have pre85 : ∀ t, Steps p.tables e below (T84.setTop (mkF m 54 #[.val (.ref a), .val (.long cc), .second, .val (.int (28 : Int32)), .val (.int (own_byte cc 3))] [])) t → Steps p.tables e below (s₁.setTop (entryFrame m #[(.ref a)] 5)) t := fun t k => pre83 t (st84 t k)
          have pre86 : ∀ t, Steps p.tables e below (T84.setTop (mkF m 56 #[.val (.ref a), .val (.long cc), .second, .val (.int (28 : Int32)), .val (.int (own_byte cc 3))] [(.ref a), (.ref a)])) t → Steps p.tables e below (s₁.setTop (entryFrame m #[(.ref a)] 5)) t := fun t k => pre85 t (by
            show Steps p.tables e below (T84.setTop (mkF m 54 #[.val (.ref a), .val (.long cc), .second, .val (.int (28 : Int32)), .val (.int (own_byte cc 3))] [])) _
            refine XS.aloadN X84.here hx rfl (hb hby d6_54) rfl rfl ?_
            show Steps p.tables e below (T84.setTop (mkF m 55 #[.val (.ref a), .val (.long cc), .second, .val (.int (28 : Int32)), .val (.int (own_byte cc 3))] [(.ref a)])) _
            refine XS.dup X84.here hx rfl (hb hby d6_55) rfl rfl ?_
            show Steps p.tables e below (T84.setTop (mkF m 56 #[.val (.ref a), .val (.long cc), .second, .val (.int (28 : Int32)), .val (.int (own_byte cc 3))] [(.ref a), (.ref a)])) _
            exact k)
          obtain ⟨T87, X87, e87, st87⟩ := getF X84 hx hZ hown (host := "") (Or.inl (hw _ (List.mem_of_getElem? (i := 29) rfl))) Via.refl e84 F_a_depth (g := (mkF m 56 #[.val (.ref a), .val (.long cc), .second, .val (.int (28 : Int32)), .val (.int (own_byte cc 3))] [(.ref a), (.ref a)])) rfl rfl (hb hby d6_56)
          have pre88 : ∀ t, Steps p.tables e below (T87.setTop (mkF m 59 #[.val (.ref a), .val (.long cc), .second, .val (.int (28 : Int32)), .val (.int (own_byte cc 3))] [(.int w_depth), (.ref a)])) t → Steps p.tables e below (s₁.setTop (entryFrame m #[(.ref a)] 5)) t := fun t k => pre86 t (st87 t k)
          have pre89 : ∀ t, Steps p.tables e below (T87.setTop (mkF m 61 #[.val (.ref a), .val (.long cc), .second, .val (.int (28 : Int32)), .val (.int (own_byte cc 3))] [(.int (w_depth - (1 : Int32))), (.ref a)])) t → Steps p.tables e below (s₁.setTop (entryFrame m #[(.ref a)] 5)) t := fun t k => pre88 t (by
            show Steps p.tables e below (T87.setTop (mkF m 59 #[.val (.ref a), .val (.long cc), .second, .val (.int (28 : Int32)), .val (.int (own_byte cc 3))] [(.int w_depth), (.ref a)])) _
            refine XS.iconst X87.here hx rfl (hb hby d6_59) ?_
            show Steps p.tables e below (T87.setTop (mkF m 60 #[.val (.ref a), .val (.long cc), .second, .val (.int (28 : Int32)), .val (.int (own_byte cc 3))] [(.int (1 : Int32)), (.int w_depth), (.ref a)])) _
            refine XS.isub X87.here hx rfl (hb hby d6_60) rfl ?_
            show Steps p.tables e below (T87.setTop (mkF m 61 #[.val (.ref a), .val (.long cc), .second, .val (.int (28 : Int32)), .val (.int (own_byte cc 3))] [(.int (w_depth - (1 : Int32))), (.ref a)])) _
            exact k)
          obtain ⟨T90, h90, X90, e90, W90, st90⟩ := putF X87 hx hZ hown (host := "") (Or.inl (hw _ (List.mem_of_getElem? (i := 29) rfl))) Via.refl e87 F_a_depth E_a (Or.inl (hw _ (List.mem_of_getElem? (i := 30) rfl))) (hw _ (List.mem_of_getElem? (i := 9) rfl)) (ty := .int) (by decide) rfl rfl (g := (mkF m 61 #[.val (.ref a), .val (.long cc), .second, .val (.int (28 : Int32)), .val (.int (own_byte cc 3))] [(.int (w_depth - (1 : Int32))), (.ref a)])) rfl rfl (hb hby d6_61)
          have F_a_depth : Fld Z h90 a "com/example/mensura/mensura/parser/OpenParentheses" "depth" "I" (.int (w_depth - (1 : Int32))) := F_a_depth.same W90
          have E_a := E_a.wr W90
          have F_a_groups := F_a_groups.other W90 (Or.inr (slot_ne (Or.inl (hw _ (List.mem_of_getElem? (i := 19) rfl))) (Or.inl (hw _ (List.mem_of_getElem? (i := 30) rfl))) (by decide) (t := (.array .byte)) (t' := .int) (by decide) (by decide)))
          have F_a_size := F_a_size.other W90 (Or.inr (slot_ne (Or.inl (hw _ (List.mem_of_getElem? (i := 28) rfl))) (Or.inl (hw _ (List.mem_of_getElem? (i := 30) rfl))) (by decide) (t := .int) (t' := .int) (by decide) (by decide)))
          have F_a_innermost := F_a_innermost.other W90 (Or.inr (slot_ne (Or.inl (hw _ (List.mem_of_getElem? (i := 21) rfl))) (Or.inl (hw _ (List.mem_of_getElem? (i := 30) rfl))) (by decide) (t := .int) (t' := .int) (by decide) (by decide)))
          have A_w_groups := A_w_groups.other W90 (Ne.symm ne_a_w_groups)
          have K := K.wr W90 (Or.inl (List.mem_of_getElem? (i := 0) rfl))
          have Z90 : n0 ≤ h90.size := Nat.le_trans Z84 (Keep.of_wr W90).1
          have N90 := Fr.snoc X90 N84 g_a
          have pre91 : ∀ t, Steps p.tables e below (T90.setTop (mkF m 64 #[.val (.ref a), .val (.long cc), .second, .val (.int (28 : Int32)), .val (.int (own_byte cc 3))] [])) t → Steps p.tables e below (s₁.setTop (entryFrame m #[(.ref a)] 5)) t := fun t k => pre89 t (st90 t k)
          obtain ⟨fs, hr, hrun, hended, hW, hsame⟩ := X90.leave (v := none) (fun _ => rfl) hlk
          refine ⟨_, _, pre91 _ ?_, hrun, hended, _, _, rfl, ?_, ⟨_, rfl⟩, hW, hsame.mono (by decide) (by decide)⟩
          · show Steps p.tables e below (T90.setTop (mkF m 64 #[.val (.ref a), .val (.long cc), .second, .val (.int (28 : Int32)), .val (.int (own_byte cc 3))] [])) _
            exact X90.returnOut hx Bd.returns (hb hby d6_64) hr
          · show QC Z a f cc w_groups w_size w_innermost w_depth h0 n0 _ T90.heap _
            rw [e90]
            exact ⟨rfl, N90, K, F_a_groups, (by rw [hm]; exact F_a_size), F_a_innermost, F_a_depth⟩
      · have pre92 : ∀ t, Steps p.tables e below (T34.setTop (mkF m 41 (lcC_7 a cc) [])) t → Steps p.tables e below (s₁.setTop (entryFrame m #[(.ref a)] 5)) t := fun t k => pre38 t (by
          show Steps p.tables e below (T34.setTop (mkF m 38 (lcC_7 a cc) [(.int (own_byte cc 2))])) _
          refine XS.ifNo X34.here hx rfl (hb hby d6_38) rfl ((if0 _ _).trans (flt hc38_39).1) ?_
          show Steps p.tables e below (T34.setTop (mkF m 41 (lcC_7 a cc) [])) _
          exact k)
        have hm : own_m cc = 3 := own_eqm hk2 (hc38_39)
        have pre93 : ∀ t, Steps p.tables e below (T34.setTop (mkF m 41 #[.val (.ref a), .val (.long cc), .second, .val (.int (21 : Int32)), .val (.int (own_byte cc 2))] [])) t → Steps p.tables e below (s₁.setTop (entryFrame m #[(.ref a)] 5)) t := fun t k => pre92 t (Eq.subst (motive := fun xJ => Steps p.tables e below (T34.setTop (mkF m 41 #[.val (.ref a), .val (.long xJ), .second, .val (.int (21 : Int32)), .val (.int (own_byte cc 2))] [])) t) (Eq.symm (own_unp3 hm hc)) k)
        have pre94 : ∀ t, Steps p.tables e below (T34.setTop (mkF m 43 #[.val (.ref a), .val (.long cc), .second, .val (.int (21 : Int32)), .val (.int (own_byte cc 2))] [(.ref a), (.ref a)])) t → Steps p.tables e below (s₁.setTop (entryFrame m #[(.ref a)] 5)) t := fun t k => pre93 t (by
          show Steps p.tables e below (T34.setTop (mkF m 41 #[.val (.ref a), .val (.long cc), .second, .val (.int (21 : Int32)), .val (.int (own_byte cc 2))] [])) _
          refine XS.aloadN X34.here hx rfl (hb hby d6_41) rfl rfl ?_
          show Steps p.tables e below (T34.setTop (mkF m 42 #[.val (.ref a), .val (.long cc), .second, .val (.int (21 : Int32)), .val (.int (own_byte cc 2))] [(.ref a)])) _
          refine XS.dup X34.here hx rfl (hb hby d6_42) rfl rfl ?_
          show Steps p.tables e below (T34.setTop (mkF m 43 #[.val (.ref a), .val (.long cc), .second, .val (.int (21 : Int32)), .val (.int (own_byte cc 2))] [(.ref a), (.ref a)])) _
          exact k)
        obtain ⟨T95, X95, e95, st95⟩ := getF X34 hx hZ hown (host := "") (Or.inl (hw _ (List.mem_of_getElem? (i := 20) rfl))) Via.refl e34 F_a_innermost (g := (mkF m 43 #[.val (.ref a), .val (.long cc), .second, .val (.int (21 : Int32)), .val (.int (own_byte cc 2))] [(.ref a), (.ref a)])) rfl rfl (hb hby d6_43)
        have pre96 : ∀ t, Steps p.tables e below (T95.setTop (mkF m 46 #[.val (.ref a), .val (.long cc), .second, .val (.int (21 : Int32)), .val (.int (own_byte cc 2))] [(.int w_innermost), (.ref a)])) t → Steps p.tables e below (s₁.setTop (entryFrame m #[(.ref a)] 5)) t := fun t k => pre94 t (st95 t k)
        have pre97 : ∀ t, Steps p.tables e below (T95.setTop (mkF m 51 #[.val (.ref a), .val (.long cc), .second, .val (.int (21 : Int32)), .val (.int (own_byte cc 2))] [(.int (w_innermost - ((own_ush cc (1 : Int32)).toInt32))), (.ref a)])) t → Steps p.tables e below (s₁.setTop (entryFrame m #[(.ref a)] 5)) t := fun t k => pre96 t (by
          show Steps p.tables e below (T95.setTop (mkF m 46 #[.val (.ref a), .val (.long cc), .second, .val (.int (21 : Int32)), .val (.int (own_byte cc 2))] [(.int w_innermost), (.ref a)])) _
          refine XS.lloadN X95.here hx rfl (hb hby d6_46) rfl ?_
          show Steps p.tables e below (T95.setTop (mkF m 47 #[.val (.ref a), .val (.long cc), .second, .val (.int (21 : Int32)), .val (.int (own_byte cc 2))] [(.long cc), (.int w_innermost), (.ref a)])) _
          refine XS.iconst X95.here hx rfl (hb hby d6_47) ?_
          show Steps p.tables e below (T95.setTop (mkF m 48 #[.val (.ref a), .val (.long cc), .second, .val (.int (21 : Int32)), .val (.int (own_byte cc 2))] [(.int (1 : Int32)), (.long cc), (.int w_innermost), (.ref a)])) _
          refine XS.lushr X95.here hx rfl (hb hby d6_48) rfl ?_
          show Steps p.tables e below (T95.setTop (mkF m 49 #[.val (.ref a), .val (.long cc), .second, .val (.int (21 : Int32)), .val (.int (own_byte cc 2))] [(.long (own_ush cc (1 : Int32))), (.int w_innermost), (.ref a)])) _
          refine XS.l2i X95.here hx rfl (hb hby d6_49) rfl ?_
          show Steps p.tables e below (T95.setTop (mkF m 50 #[.val (.ref a), .val (.long cc), .second, .val (.int (21 : Int32)), .val (.int (own_byte cc 2))] [(.int ((own_ush cc (1 : Int32)).toInt32)), (.int w_innermost), (.ref a)])) _
          refine XS.isub X95.here hx rfl (hb hby d6_50) rfl ?_
          show Steps p.tables e below (T95.setTop (mkF m 51 #[.val (.ref a), .val (.long cc), .second, .val (.int (21 : Int32)), .val (.int (own_byte cc 2))] [(.int (w_innermost - ((own_ush cc (1 : Int32)).toInt32))), (.ref a)])) _
          exact k)
        obtain ⟨T98, h98, X98, e98, W98, st98⟩ := putF X95 hx hZ hown (host := "") (Or.inl (hw _ (List.mem_of_getElem? (i := 20) rfl))) Via.refl e95 F_a_innermost E_a (Or.inl (hw _ (List.mem_of_getElem? (i := 21) rfl))) (hw _ (List.mem_of_getElem? (i := 9) rfl)) (ty := .int) (by decide) rfl rfl (g := (mkF m 51 #[.val (.ref a), .val (.long cc), .second, .val (.int (21 : Int32)), .val (.int (own_byte cc 2))] [(.int (w_innermost - ((own_ush cc (1 : Int32)).toInt32))), (.ref a)])) rfl rfl (hb hby d6_51)
        have F_a_innermost : Fld Z h98 a "com/example/mensura/mensura/parser/OpenParentheses" "innermost" "I" (.int (w_innermost - ((own_ush cc (1 : Int32)).toInt32))) := F_a_innermost.same W98
        have E_a := E_a.wr W98
        have F_a_groups := F_a_groups.other W98 (Or.inr (slot_ne (Or.inl (hw _ (List.mem_of_getElem? (i := 19) rfl))) (Or.inl (hw _ (List.mem_of_getElem? (i := 21) rfl))) (by decide) (t := (.array .byte)) (t' := .int) (by decide) (by decide)))
        have F_a_size := F_a_size.other W98 (Or.inr (slot_ne (Or.inl (hw _ (List.mem_of_getElem? (i := 28) rfl))) (Or.inl (hw _ (List.mem_of_getElem? (i := 21) rfl))) (by decide) (t := .int) (t' := .int) (by decide) (by decide)))
        have F_a_depth := F_a_depth.other W98 (Or.inr (slot_ne (Or.inl (hw _ (List.mem_of_getElem? (i := 30) rfl))) (Or.inl (hw _ (List.mem_of_getElem? (i := 21) rfl))) (by decide) (t := .int) (t' := .int) (by decide) (by decide)))
        have A_w_groups := A_w_groups.other W98 (Ne.symm ne_a_w_groups)
        have K := K.wr W98 (Or.inl (List.mem_of_getElem? (i := 0) rfl))
        have Z98 : n0 ≤ h98.size := Nat.le_trans Z34 (Keep.of_wr W98).1
        have N98 := Fr.snoc X98 N34 g_a
        have pre99 : ∀ t, Steps p.tables e below (T98.setTop (mkF m 54 #[.val (.ref a), .val (.long cc), .second, .val (.int (21 : Int32)), .val (.int (own_byte cc 2))] [])) t → Steps p.tables e below (s₁.setTop (entryFrame m #[(.ref a)] 5)) t := fun t k => pre97 t (st98 t k)
        have pre100 : ∀ t, Steps p.tables e below (T98.setTop (mkF m 56 #[.val (.ref a), .val (.long cc), .second, .val (.int (21 : Int32)), .val (.int (own_byte cc 2))] [(.ref a), (.ref a)])) t → Steps p.tables e below (s₁.setTop (entryFrame m #[(.ref a)] 5)) t := fun t k => pre99 t (by
          show Steps p.tables e below (T98.setTop (mkF m 54 #[.val (.ref a), .val (.long cc), .second, .val (.int (21 : Int32)), .val (.int (own_byte cc 2))] [])) _
          refine XS.aloadN X98.here hx rfl (hb hby d6_54) rfl rfl ?_
          show Steps p.tables e below (T98.setTop (mkF m 55 #[.val (.ref a), .val (.long cc), .second, .val (.int (21 : Int32)), .val (.int (own_byte cc 2))] [(.ref a)])) _
          refine XS.dup X98.here hx rfl (hb hby d6_55) rfl rfl ?_
          show Steps p.tables e below (T98.setTop (mkF m 56 #[.val (.ref a), .val (.long cc), .second, .val (.int (21 : Int32)), .val (.int (own_byte cc 2))] [(.ref a), (.ref a)])) _
          exact k)
        obtain ⟨T101, X101, e101, st101⟩ := getF X98 hx hZ hown (host := "") (Or.inl (hw _ (List.mem_of_getElem? (i := 29) rfl))) Via.refl e98 F_a_depth (g := (mkF m 56 #[.val (.ref a), .val (.long cc), .second, .val (.int (21 : Int32)), .val (.int (own_byte cc 2))] [(.ref a), (.ref a)])) rfl rfl (hb hby d6_56)
        have pre102 : ∀ t, Steps p.tables e below (T101.setTop (mkF m 59 #[.val (.ref a), .val (.long cc), .second, .val (.int (21 : Int32)), .val (.int (own_byte cc 2))] [(.int w_depth), (.ref a)])) t → Steps p.tables e below (s₁.setTop (entryFrame m #[(.ref a)] 5)) t := fun t k => pre100 t (st101 t k)
        have pre103 : ∀ t, Steps p.tables e below (T101.setTop (mkF m 61 #[.val (.ref a), .val (.long cc), .second, .val (.int (21 : Int32)), .val (.int (own_byte cc 2))] [(.int (w_depth - (1 : Int32))), (.ref a)])) t → Steps p.tables e below (s₁.setTop (entryFrame m #[(.ref a)] 5)) t := fun t k => pre102 t (by
          show Steps p.tables e below (T101.setTop (mkF m 59 #[.val (.ref a), .val (.long cc), .second, .val (.int (21 : Int32)), .val (.int (own_byte cc 2))] [(.int w_depth), (.ref a)])) _
          refine XS.iconst X101.here hx rfl (hb hby d6_59) ?_
          show Steps p.tables e below (T101.setTop (mkF m 60 #[.val (.ref a), .val (.long cc), .second, .val (.int (21 : Int32)), .val (.int (own_byte cc 2))] [(.int (1 : Int32)), (.int w_depth), (.ref a)])) _
          refine XS.isub X101.here hx rfl (hb hby d6_60) rfl ?_
          show Steps p.tables e below (T101.setTop (mkF m 61 #[.val (.ref a), .val (.long cc), .second, .val (.int (21 : Int32)), .val (.int (own_byte cc 2))] [(.int (w_depth - (1 : Int32))), (.ref a)])) _
          exact k)
        obtain ⟨T104, h104, X104, e104, W104, st104⟩ := putF X101 hx hZ hown (host := "") (Or.inl (hw _ (List.mem_of_getElem? (i := 29) rfl))) Via.refl e101 F_a_depth E_a (Or.inl (hw _ (List.mem_of_getElem? (i := 30) rfl))) (hw _ (List.mem_of_getElem? (i := 9) rfl)) (ty := .int) (by decide) rfl rfl (g := (mkF m 61 #[.val (.ref a), .val (.long cc), .second, .val (.int (21 : Int32)), .val (.int (own_byte cc 2))] [(.int (w_depth - (1 : Int32))), (.ref a)])) rfl rfl (hb hby d6_61)
        have F_a_depth : Fld Z h104 a "com/example/mensura/mensura/parser/OpenParentheses" "depth" "I" (.int (w_depth - (1 : Int32))) := F_a_depth.same W104
        have E_a := E_a.wr W104
        have F_a_groups := F_a_groups.other W104 (Or.inr (slot_ne (Or.inl (hw _ (List.mem_of_getElem? (i := 19) rfl))) (Or.inl (hw _ (List.mem_of_getElem? (i := 30) rfl))) (by decide) (t := (.array .byte)) (t' := .int) (by decide) (by decide)))
        have F_a_size := F_a_size.other W104 (Or.inr (slot_ne (Or.inl (hw _ (List.mem_of_getElem? (i := 28) rfl))) (Or.inl (hw _ (List.mem_of_getElem? (i := 30) rfl))) (by decide) (t := .int) (t' := .int) (by decide) (by decide)))
        have F_a_innermost := F_a_innermost.other W104 (Or.inr (slot_ne (Or.inl (hw _ (List.mem_of_getElem? (i := 21) rfl))) (Or.inl (hw _ (List.mem_of_getElem? (i := 30) rfl))) (by decide) (t := .int) (t' := .int) (by decide) (by decide)))
        have A_w_groups := A_w_groups.other W104 (Ne.symm ne_a_w_groups)
        have K := K.wr W104 (Or.inl (List.mem_of_getElem? (i := 0) rfl))
        have Z104 : n0 ≤ h104.size := Nat.le_trans Z98 (Keep.of_wr W104).1
        have N104 := Fr.snoc X104 N98 g_a
        have pre105 : ∀ t, Steps p.tables e below (T104.setTop (mkF m 64 #[.val (.ref a), .val (.long cc), .second, .val (.int (21 : Int32)), .val (.int (own_byte cc 2))] [])) t → Steps p.tables e below (s₁.setTop (entryFrame m #[(.ref a)] 5)) t := fun t k => pre103 t (st104 t k)
        obtain ⟨fs, hr, hrun, hended, hW, hsame⟩ := X104.leave (v := none) (fun _ => rfl) hlk
        refine ⟨_, _, pre105 _ ?_, hrun, hended, _, _, rfl, ?_, ⟨_, rfl⟩, hW, hsame.mono (by decide) (by decide)⟩
        · show Steps p.tables e below (T104.setTop (mkF m 64 #[.val (.ref a), .val (.long cc), .second, .val (.int (21 : Int32)), .val (.int (own_byte cc 2))] [])) _
          exact X104.returnOut hx Bd.returns (hb hby d6_64) hr
        · show QC Z a f cc w_groups w_size w_innermost w_depth h0 n0 _ T104.heap _
          rw [e104]
          exact ⟨rfl, N104, K, F_a_groups, (by rw [hm]; exact F_a_size), F_a_innermost, F_a_depth⟩
    · have pre106 : ∀ t, Steps p.tables e below (T21.setTop (mkF m 41 (lcC_4 a cc) [])) t → Steps p.tables e below (s₁.setTop (entryFrame m #[(.ref a)] 5)) t := fun t k => pre25 t (by
        show Steps p.tables e below (T21.setTop (mkF m 38 (lcC_4 a cc) [(.int (own_byte cc 1))])) _
        refine XS.ifNo X21.here hx rfl (hb hby d6_38) rfl ((if0 _ _).trans (flt hc38_26).1) ?_
        show Steps p.tables e below (T21.setTop (mkF m 41 (lcC_4 a cc) [])) _
        exact k)
      have hm : own_m cc = 2 := own_eqm hk1 (hc38_26)
      have pre107 : ∀ t, Steps p.tables e below (T21.setTop (mkF m 41 #[.val (.ref a), .val (.long cc), .second, .val (.int (14 : Int32)), .val (.int (own_byte cc 1))] [])) t → Steps p.tables e below (s₁.setTop (entryFrame m #[(.ref a)] 5)) t := fun t k => pre106 t (Eq.subst (motive := fun xJ => Steps p.tables e below (T21.setTop (mkF m 41 #[.val (.ref a), .val (.long xJ), .second, .val (.int (14 : Int32)), .val (.int (own_byte cc 1))] [])) t) (Eq.symm (own_unp2 hm hc)) k)
      have pre108 : ∀ t, Steps p.tables e below (T21.setTop (mkF m 43 #[.val (.ref a), .val (.long cc), .second, .val (.int (14 : Int32)), .val (.int (own_byte cc 1))] [(.ref a), (.ref a)])) t → Steps p.tables e below (s₁.setTop (entryFrame m #[(.ref a)] 5)) t := fun t k => pre107 t (by
        show Steps p.tables e below (T21.setTop (mkF m 41 #[.val (.ref a), .val (.long cc), .second, .val (.int (14 : Int32)), .val (.int (own_byte cc 1))] [])) _
        refine XS.aloadN X21.here hx rfl (hb hby d6_41) rfl rfl ?_
        show Steps p.tables e below (T21.setTop (mkF m 42 #[.val (.ref a), .val (.long cc), .second, .val (.int (14 : Int32)), .val (.int (own_byte cc 1))] [(.ref a)])) _
        refine XS.dup X21.here hx rfl (hb hby d6_42) rfl rfl ?_
        show Steps p.tables e below (T21.setTop (mkF m 43 #[.val (.ref a), .val (.long cc), .second, .val (.int (14 : Int32)), .val (.int (own_byte cc 1))] [(.ref a), (.ref a)])) _
        exact k)
      obtain ⟨T109, X109, e109, st109⟩ := getF X21 hx hZ hown (host := "") (Or.inl (hw _ (List.mem_of_getElem? (i := 20) rfl))) Via.refl e21 F_a_innermost (g := (mkF m 43 #[.val (.ref a), .val (.long cc), .second, .val (.int (14 : Int32)), .val (.int (own_byte cc 1))] [(.ref a), (.ref a)])) rfl rfl (hb hby d6_43)
      have pre110 : ∀ t, Steps p.tables e below (T109.setTop (mkF m 46 #[.val (.ref a), .val (.long cc), .second, .val (.int (14 : Int32)), .val (.int (own_byte cc 1))] [(.int w_innermost), (.ref a)])) t → Steps p.tables e below (s₁.setTop (entryFrame m #[(.ref a)] 5)) t := fun t k => pre108 t (st109 t k)
      have pre111 : ∀ t, Steps p.tables e below (T109.setTop (mkF m 51 #[.val (.ref a), .val (.long cc), .second, .val (.int (14 : Int32)), .val (.int (own_byte cc 1))] [(.int (w_innermost - ((own_ush cc (1 : Int32)).toInt32))), (.ref a)])) t → Steps p.tables e below (s₁.setTop (entryFrame m #[(.ref a)] 5)) t := fun t k => pre110 t (by
        show Steps p.tables e below (T109.setTop (mkF m 46 #[.val (.ref a), .val (.long cc), .second, .val (.int (14 : Int32)), .val (.int (own_byte cc 1))] [(.int w_innermost), (.ref a)])) _
        refine XS.lloadN X109.here hx rfl (hb hby d6_46) rfl ?_
        show Steps p.tables e below (T109.setTop (mkF m 47 #[.val (.ref a), .val (.long cc), .second, .val (.int (14 : Int32)), .val (.int (own_byte cc 1))] [(.long cc), (.int w_innermost), (.ref a)])) _
        refine XS.iconst X109.here hx rfl (hb hby d6_47) ?_
        show Steps p.tables e below (T109.setTop (mkF m 48 #[.val (.ref a), .val (.long cc), .second, .val (.int (14 : Int32)), .val (.int (own_byte cc 1))] [(.int (1 : Int32)), (.long cc), (.int w_innermost), (.ref a)])) _
        refine XS.lushr X109.here hx rfl (hb hby d6_48) rfl ?_
        show Steps p.tables e below (T109.setTop (mkF m 49 #[.val (.ref a), .val (.long cc), .second, .val (.int (14 : Int32)), .val (.int (own_byte cc 1))] [(.long (own_ush cc (1 : Int32))), (.int w_innermost), (.ref a)])) _
        refine XS.l2i X109.here hx rfl (hb hby d6_49) rfl ?_
        show Steps p.tables e below (T109.setTop (mkF m 50 #[.val (.ref a), .val (.long cc), .second, .val (.int (14 : Int32)), .val (.int (own_byte cc 1))] [(.int ((own_ush cc (1 : Int32)).toInt32)), (.int w_innermost), (.ref a)])) _
        refine XS.isub X109.here hx rfl (hb hby d6_50) rfl ?_
        show Steps p.tables e below (T109.setTop (mkF m 51 #[.val (.ref a), .val (.long cc), .second, .val (.int (14 : Int32)), .val (.int (own_byte cc 1))] [(.int (w_innermost - ((own_ush cc (1 : Int32)).toInt32))), (.ref a)])) _
        exact k)
      obtain ⟨T112, h112, X112, e112, W112, st112⟩ := putF X109 hx hZ hown (host := "") (Or.inl (hw _ (List.mem_of_getElem? (i := 20) rfl))) Via.refl e109 F_a_innermost E_a (Or.inl (hw _ (List.mem_of_getElem? (i := 21) rfl))) (hw _ (List.mem_of_getElem? (i := 9) rfl)) (ty := .int) (by decide) rfl rfl (g := (mkF m 51 #[.val (.ref a), .val (.long cc), .second, .val (.int (14 : Int32)), .val (.int (own_byte cc 1))] [(.int (w_innermost - ((own_ush cc (1 : Int32)).toInt32))), (.ref a)])) rfl rfl (hb hby d6_51)
      have F_a_innermost : Fld Z h112 a "com/example/mensura/mensura/parser/OpenParentheses" "innermost" "I" (.int (w_innermost - ((own_ush cc (1 : Int32)).toInt32))) := F_a_innermost.same W112
      have E_a := E_a.wr W112
      have F_a_groups := F_a_groups.other W112 (Or.inr (slot_ne (Or.inl (hw _ (List.mem_of_getElem? (i := 19) rfl))) (Or.inl (hw _ (List.mem_of_getElem? (i := 21) rfl))) (by decide) (t := (.array .byte)) (t' := .int) (by decide) (by decide)))
      have F_a_size := F_a_size.other W112 (Or.inr (slot_ne (Or.inl (hw _ (List.mem_of_getElem? (i := 28) rfl))) (Or.inl (hw _ (List.mem_of_getElem? (i := 21) rfl))) (by decide) (t := .int) (t' := .int) (by decide) (by decide)))
      have F_a_depth := F_a_depth.other W112 (Or.inr (slot_ne (Or.inl (hw _ (List.mem_of_getElem? (i := 30) rfl))) (Or.inl (hw _ (List.mem_of_getElem? (i := 21) rfl))) (by decide) (t := .int) (t' := .int) (by decide) (by decide)))
      have A_w_groups := A_w_groups.other W112 (Ne.symm ne_a_w_groups)
      have K := K.wr W112 (Or.inl (List.mem_of_getElem? (i := 0) rfl))
      have Z112 : n0 ≤ h112.size := Nat.le_trans Z21 (Keep.of_wr W112).1
      have N112 := Fr.snoc X112 N21 g_a
      have pre113 : ∀ t, Steps p.tables e below (T112.setTop (mkF m 54 #[.val (.ref a), .val (.long cc), .second, .val (.int (14 : Int32)), .val (.int (own_byte cc 1))] [])) t → Steps p.tables e below (s₁.setTop (entryFrame m #[(.ref a)] 5)) t := fun t k => pre111 t (st112 t k)
      have pre114 : ∀ t, Steps p.tables e below (T112.setTop (mkF m 56 #[.val (.ref a), .val (.long cc), .second, .val (.int (14 : Int32)), .val (.int (own_byte cc 1))] [(.ref a), (.ref a)])) t → Steps p.tables e below (s₁.setTop (entryFrame m #[(.ref a)] 5)) t := fun t k => pre113 t (by
        show Steps p.tables e below (T112.setTop (mkF m 54 #[.val (.ref a), .val (.long cc), .second, .val (.int (14 : Int32)), .val (.int (own_byte cc 1))] [])) _
        refine XS.aloadN X112.here hx rfl (hb hby d6_54) rfl rfl ?_
        show Steps p.tables e below (T112.setTop (mkF m 55 #[.val (.ref a), .val (.long cc), .second, .val (.int (14 : Int32)), .val (.int (own_byte cc 1))] [(.ref a)])) _
        refine XS.dup X112.here hx rfl (hb hby d6_55) rfl rfl ?_
        show Steps p.tables e below (T112.setTop (mkF m 56 #[.val (.ref a), .val (.long cc), .second, .val (.int (14 : Int32)), .val (.int (own_byte cc 1))] [(.ref a), (.ref a)])) _
        exact k)
      obtain ⟨T115, X115, e115, st115⟩ := getF X112 hx hZ hown (host := "") (Or.inl (hw _ (List.mem_of_getElem? (i := 29) rfl))) Via.refl e112 F_a_depth (g := (mkF m 56 #[.val (.ref a), .val (.long cc), .second, .val (.int (14 : Int32)), .val (.int (own_byte cc 1))] [(.ref a), (.ref a)])) rfl rfl (hb hby d6_56)
      have pre116 : ∀ t, Steps p.tables e below (T115.setTop (mkF m 59 #[.val (.ref a), .val (.long cc), .second, .val (.int (14 : Int32)), .val (.int (own_byte cc 1))] [(.int w_depth), (.ref a)])) t → Steps p.tables e below (s₁.setTop (entryFrame m #[(.ref a)] 5)) t := fun t k => pre114 t (st115 t k)
      have pre117 : ∀ t, Steps p.tables e below (T115.setTop (mkF m 61 #[.val (.ref a), .val (.long cc), .second, .val (.int (14 : Int32)), .val (.int (own_byte cc 1))] [(.int (w_depth - (1 : Int32))), (.ref a)])) t → Steps p.tables e below (s₁.setTop (entryFrame m #[(.ref a)] 5)) t := fun t k => pre116 t (by
        show Steps p.tables e below (T115.setTop (mkF m 59 #[.val (.ref a), .val (.long cc), .second, .val (.int (14 : Int32)), .val (.int (own_byte cc 1))] [(.int w_depth), (.ref a)])) _
        refine XS.iconst X115.here hx rfl (hb hby d6_59) ?_
        show Steps p.tables e below (T115.setTop (mkF m 60 #[.val (.ref a), .val (.long cc), .second, .val (.int (14 : Int32)), .val (.int (own_byte cc 1))] [(.int (1 : Int32)), (.int w_depth), (.ref a)])) _
        refine XS.isub X115.here hx rfl (hb hby d6_60) rfl ?_
        show Steps p.tables e below (T115.setTop (mkF m 61 #[.val (.ref a), .val (.long cc), .second, .val (.int (14 : Int32)), .val (.int (own_byte cc 1))] [(.int (w_depth - (1 : Int32))), (.ref a)])) _
        exact k)
      obtain ⟨T118, h118, X118, e118, W118, st118⟩ := putF X115 hx hZ hown (host := "") (Or.inl (hw _ (List.mem_of_getElem? (i := 29) rfl))) Via.refl e115 F_a_depth E_a (Or.inl (hw _ (List.mem_of_getElem? (i := 30) rfl))) (hw _ (List.mem_of_getElem? (i := 9) rfl)) (ty := .int) (by decide) rfl rfl (g := (mkF m 61 #[.val (.ref a), .val (.long cc), .second, .val (.int (14 : Int32)), .val (.int (own_byte cc 1))] [(.int (w_depth - (1 : Int32))), (.ref a)])) rfl rfl (hb hby d6_61)
      have F_a_depth : Fld Z h118 a "com/example/mensura/mensura/parser/OpenParentheses" "depth" "I" (.int (w_depth - (1 : Int32))) := F_a_depth.same W118
      have E_a := E_a.wr W118
      have F_a_groups := F_a_groups.other W118 (Or.inr (slot_ne (Or.inl (hw _ (List.mem_of_getElem? (i := 19) rfl))) (Or.inl (hw _ (List.mem_of_getElem? (i := 30) rfl))) (by decide) (t := (.array .byte)) (t' := .int) (by decide) (by decide)))
      have F_a_size := F_a_size.other W118 (Or.inr (slot_ne (Or.inl (hw _ (List.mem_of_getElem? (i := 28) rfl))) (Or.inl (hw _ (List.mem_of_getElem? (i := 30) rfl))) (by decide) (t := .int) (t' := .int) (by decide) (by decide)))
      have F_a_innermost := F_a_innermost.other W118 (Or.inr (slot_ne (Or.inl (hw _ (List.mem_of_getElem? (i := 21) rfl))) (Or.inl (hw _ (List.mem_of_getElem? (i := 30) rfl))) (by decide) (t := .int) (t' := .int) (by decide) (by decide)))
      have A_w_groups := A_w_groups.other W118 (Ne.symm ne_a_w_groups)
      have K := K.wr W118 (Or.inl (List.mem_of_getElem? (i := 0) rfl))
      have Z118 : n0 ≤ h118.size := Nat.le_trans Z112 (Keep.of_wr W118).1
      have N118 := Fr.snoc X118 N112 g_a
      have pre119 : ∀ t, Steps p.tables e below (T118.setTop (mkF m 64 #[.val (.ref a), .val (.long cc), .second, .val (.int (14 : Int32)), .val (.int (own_byte cc 1))] [])) t → Steps p.tables e below (s₁.setTop (entryFrame m #[(.ref a)] 5)) t := fun t k => pre117 t (st118 t k)
      obtain ⟨fs, hr, hrun, hended, hW, hsame⟩ := X118.leave (v := none) (fun _ => rfl) hlk
      refine ⟨_, _, pre119 _ ?_, hrun, hended, _, _, rfl, ?_, ⟨_, rfl⟩, hW, hsame.mono (by decide) (by decide)⟩
      · show Steps p.tables e below (T118.setTop (mkF m 64 #[.val (.ref a), .val (.long cc), .second, .val (.int (14 : Int32)), .val (.int (own_byte cc 1))] [])) _
        exact X118.returnOut hx Bd.returns (hb hby d6_64) hr
      · show QC Z a f cc w_groups w_size w_innermost w_depth h0 n0 _ T118.heap _
        rw [e118]
        exact ⟨rfl, N118, K, F_a_groups, (by rw [hm]; exact F_a_size), F_a_innermost, F_a_depth⟩
  · have pre120 : ∀ t, Steps p.tables e below (T8.setTop (mkF m 41 (lcC_1 a cc) [])) t → Steps p.tables e below (s₁.setTop (entryFrame m #[(.ref a)] 5)) t := fun t k => pre12 t (by
      show Steps p.tables e below (T8.setTop (mkF m 38 (lcC_1 a cc) [(.int (own_byte cc 0))])) _
      refine XS.ifNo X8.here hx rfl (hb hby d6_38) rfl ((if0 _ _).trans (flt hc38_13).1) ?_
      show Steps p.tables e below (T8.setTop (mkF m 41 (lcC_1 a cc) [])) _
      exact k)
    have hm : own_m cc = 1 := own_eqm hk0 (hc38_13)
    have pre121 : ∀ t, Steps p.tables e below (T8.setTop (mkF m 41 #[.val (.ref a), .val (.long cc), .second, .val (.int (7 : Int32)), .val (.int (own_byte cc 0))] [])) t → Steps p.tables e below (s₁.setTop (entryFrame m #[(.ref a)] 5)) t := fun t k => pre120 t (Eq.subst (motive := fun xJ => Steps p.tables e below (T8.setTop (mkF m 41 #[.val (.ref a), .val (.long xJ), .second, .val (.int (7 : Int32)), .val (.int (own_byte cc 0))] [])) t) (Eq.symm (own_unp1 hm hc)) k)
    have pre122 : ∀ t, Steps p.tables e below (T8.setTop (mkF m 43 #[.val (.ref a), .val (.long cc), .second, .val (.int (7 : Int32)), .val (.int (own_byte cc 0))] [(.ref a), (.ref a)])) t → Steps p.tables e below (s₁.setTop (entryFrame m #[(.ref a)] 5)) t := fun t k => pre121 t (by
      show Steps p.tables e below (T8.setTop (mkF m 41 #[.val (.ref a), .val (.long cc), .second, .val (.int (7 : Int32)), .val (.int (own_byte cc 0))] [])) _
      refine XS.aloadN X8.here hx rfl (hb hby d6_41) rfl rfl ?_
      show Steps p.tables e below (T8.setTop (mkF m 42 #[.val (.ref a), .val (.long cc), .second, .val (.int (7 : Int32)), .val (.int (own_byte cc 0))] [(.ref a)])) _
      refine XS.dup X8.here hx rfl (hb hby d6_42) rfl rfl ?_
      show Steps p.tables e below (T8.setTop (mkF m 43 #[.val (.ref a), .val (.long cc), .second, .val (.int (7 : Int32)), .val (.int (own_byte cc 0))] [(.ref a), (.ref a)])) _
      exact k)
    obtain ⟨T123, X123, e123, st123⟩ := getF X8 hx hZ hown (host := "") (Or.inl (hw _ (List.mem_of_getElem? (i := 20) rfl))) Via.refl e8 F_a_innermost (g := (mkF m 43 #[.val (.ref a), .val (.long cc), .second, .val (.int (7 : Int32)), .val (.int (own_byte cc 0))] [(.ref a), (.ref a)])) rfl rfl (hb hby d6_43)
    have pre124 : ∀ t, Steps p.tables e below (T123.setTop (mkF m 46 #[.val (.ref a), .val (.long cc), .second, .val (.int (7 : Int32)), .val (.int (own_byte cc 0))] [(.int w_innermost), (.ref a)])) t → Steps p.tables e below (s₁.setTop (entryFrame m #[(.ref a)] 5)) t := fun t k => pre122 t (st123 t k)
    have pre125 : ∀ t, Steps p.tables e below (T123.setTop (mkF m 51 #[.val (.ref a), .val (.long cc), .second, .val (.int (7 : Int32)), .val (.int (own_byte cc 0))] [(.int (w_innermost - ((own_ush cc (1 : Int32)).toInt32))), (.ref a)])) t → Steps p.tables e below (s₁.setTop (entryFrame m #[(.ref a)] 5)) t := fun t k => pre124 t (by
      show Steps p.tables e below (T123.setTop (mkF m 46 #[.val (.ref a), .val (.long cc), .second, .val (.int (7 : Int32)), .val (.int (own_byte cc 0))] [(.int w_innermost), (.ref a)])) _
      refine XS.lloadN X123.here hx rfl (hb hby d6_46) rfl ?_
      show Steps p.tables e below (T123.setTop (mkF m 47 #[.val (.ref a), .val (.long cc), .second, .val (.int (7 : Int32)), .val (.int (own_byte cc 0))] [(.long cc), (.int w_innermost), (.ref a)])) _
      refine XS.iconst X123.here hx rfl (hb hby d6_47) ?_
      show Steps p.tables e below (T123.setTop (mkF m 48 #[.val (.ref a), .val (.long cc), .second, .val (.int (7 : Int32)), .val (.int (own_byte cc 0))] [(.int (1 : Int32)), (.long cc), (.int w_innermost), (.ref a)])) _
      refine XS.lushr X123.here hx rfl (hb hby d6_48) rfl ?_
      show Steps p.tables e below (T123.setTop (mkF m 49 #[.val (.ref a), .val (.long cc), .second, .val (.int (7 : Int32)), .val (.int (own_byte cc 0))] [(.long (own_ush cc (1 : Int32))), (.int w_innermost), (.ref a)])) _
      refine XS.l2i X123.here hx rfl (hb hby d6_49) rfl ?_
      show Steps p.tables e below (T123.setTop (mkF m 50 #[.val (.ref a), .val (.long cc), .second, .val (.int (7 : Int32)), .val (.int (own_byte cc 0))] [(.int ((own_ush cc (1 : Int32)).toInt32)), (.int w_innermost), (.ref a)])) _
      refine XS.isub X123.here hx rfl (hb hby d6_50) rfl ?_
      show Steps p.tables e below (T123.setTop (mkF m 51 #[.val (.ref a), .val (.long cc), .second, .val (.int (7 : Int32)), .val (.int (own_byte cc 0))] [(.int (w_innermost - ((own_ush cc (1 : Int32)).toInt32))), (.ref a)])) _
      exact k)
    obtain ⟨T126, h126, X126, e126, W126, st126⟩ := putF X123 hx hZ hown (host := "") (Or.inl (hw _ (List.mem_of_getElem? (i := 20) rfl))) Via.refl e123 F_a_innermost E_a (Or.inl (hw _ (List.mem_of_getElem? (i := 21) rfl))) (hw _ (List.mem_of_getElem? (i := 9) rfl)) (ty := .int) (by decide) rfl rfl (g := (mkF m 51 #[.val (.ref a), .val (.long cc), .second, .val (.int (7 : Int32)), .val (.int (own_byte cc 0))] [(.int (w_innermost - ((own_ush cc (1 : Int32)).toInt32))), (.ref a)])) rfl rfl (hb hby d6_51)
    have F_a_innermost : Fld Z h126 a "com/example/mensura/mensura/parser/OpenParentheses" "innermost" "I" (.int (w_innermost - ((own_ush cc (1 : Int32)).toInt32))) := F_a_innermost.same W126
    have E_a := E_a.wr W126
    have F_a_groups := F_a_groups.other W126 (Or.inr (slot_ne (Or.inl (hw _ (List.mem_of_getElem? (i := 19) rfl))) (Or.inl (hw _ (List.mem_of_getElem? (i := 21) rfl))) (by decide) (t := (.array .byte)) (t' := .int) (by decide) (by decide)))
    have F_a_size := F_a_size.other W126 (Or.inr (slot_ne (Or.inl (hw _ (List.mem_of_getElem? (i := 28) rfl))) (Or.inl (hw _ (List.mem_of_getElem? (i := 21) rfl))) (by decide) (t := .int) (t' := .int) (by decide) (by decide)))
    have F_a_depth := F_a_depth.other W126 (Or.inr (slot_ne (Or.inl (hw _ (List.mem_of_getElem? (i := 30) rfl))) (Or.inl (hw _ (List.mem_of_getElem? (i := 21) rfl))) (by decide) (t := .int) (t' := .int) (by decide) (by decide)))
    have A_w_groups := A_w_groups.other W126 (Ne.symm ne_a_w_groups)
    have K := K.wr W126 (Or.inl (List.mem_of_getElem? (i := 0) rfl))
    have Z126 : n0 ≤ h126.size := Nat.le_trans Z8 (Keep.of_wr W126).1
    have N126 := Fr.snoc X126 N8 g_a
    have pre127 : ∀ t, Steps p.tables e below (T126.setTop (mkF m 54 #[.val (.ref a), .val (.long cc), .second, .val (.int (7 : Int32)), .val (.int (own_byte cc 0))] [])) t → Steps p.tables e below (s₁.setTop (entryFrame m #[(.ref a)] 5)) t := fun t k => pre125 t (st126 t k)
    have pre128 : ∀ t, Steps p.tables e below (T126.setTop (mkF m 56 #[.val (.ref a), .val (.long cc), .second, .val (.int (7 : Int32)), .val (.int (own_byte cc 0))] [(.ref a), (.ref a)])) t → Steps p.tables e below (s₁.setTop (entryFrame m #[(.ref a)] 5)) t := fun t k => pre127 t (by
      show Steps p.tables e below (T126.setTop (mkF m 54 #[.val (.ref a), .val (.long cc), .second, .val (.int (7 : Int32)), .val (.int (own_byte cc 0))] [])) _
      refine XS.aloadN X126.here hx rfl (hb hby d6_54) rfl rfl ?_
      show Steps p.tables e below (T126.setTop (mkF m 55 #[.val (.ref a), .val (.long cc), .second, .val (.int (7 : Int32)), .val (.int (own_byte cc 0))] [(.ref a)])) _
      refine XS.dup X126.here hx rfl (hb hby d6_55) rfl rfl ?_
      show Steps p.tables e below (T126.setTop (mkF m 56 #[.val (.ref a), .val (.long cc), .second, .val (.int (7 : Int32)), .val (.int (own_byte cc 0))] [(.ref a), (.ref a)])) _
      exact k)
    obtain ⟨T129, X129, e129, st129⟩ := getF X126 hx hZ hown (host := "") (Or.inl (hw _ (List.mem_of_getElem? (i := 29) rfl))) Via.refl e126 F_a_depth (g := (mkF m 56 #[.val (.ref a), .val (.long cc), .second, .val (.int (7 : Int32)), .val (.int (own_byte cc 0))] [(.ref a), (.ref a)])) rfl rfl (hb hby d6_56)
    have pre130 : ∀ t, Steps p.tables e below (T129.setTop (mkF m 59 #[.val (.ref a), .val (.long cc), .second, .val (.int (7 : Int32)), .val (.int (own_byte cc 0))] [(.int w_depth), (.ref a)])) t → Steps p.tables e below (s₁.setTop (entryFrame m #[(.ref a)] 5)) t := fun t k => pre128 t (st129 t k)
    have pre131 : ∀ t, Steps p.tables e below (T129.setTop (mkF m 61 #[.val (.ref a), .val (.long cc), .second, .val (.int (7 : Int32)), .val (.int (own_byte cc 0))] [(.int (w_depth - (1 : Int32))), (.ref a)])) t → Steps p.tables e below (s₁.setTop (entryFrame m #[(.ref a)] 5)) t := fun t k => pre130 t (by
      show Steps p.tables e below (T129.setTop (mkF m 59 #[.val (.ref a), .val (.long cc), .second, .val (.int (7 : Int32)), .val (.int (own_byte cc 0))] [(.int w_depth), (.ref a)])) _
      refine XS.iconst X129.here hx rfl (hb hby d6_59) ?_
      show Steps p.tables e below (T129.setTop (mkF m 60 #[.val (.ref a), .val (.long cc), .second, .val (.int (7 : Int32)), .val (.int (own_byte cc 0))] [(.int (1 : Int32)), (.int w_depth), (.ref a)])) _
      refine XS.isub X129.here hx rfl (hb hby d6_60) rfl ?_
      show Steps p.tables e below (T129.setTop (mkF m 61 #[.val (.ref a), .val (.long cc), .second, .val (.int (7 : Int32)), .val (.int (own_byte cc 0))] [(.int (w_depth - (1 : Int32))), (.ref a)])) _
      exact k)
    obtain ⟨T132, h132, X132, e132, W132, st132⟩ := putF X129 hx hZ hown (host := "") (Or.inl (hw _ (List.mem_of_getElem? (i := 29) rfl))) Via.refl e129 F_a_depth E_a (Or.inl (hw _ (List.mem_of_getElem? (i := 30) rfl))) (hw _ (List.mem_of_getElem? (i := 9) rfl)) (ty := .int) (by decide) rfl rfl (g := (mkF m 61 #[.val (.ref a), .val (.long cc), .second, .val (.int (7 : Int32)), .val (.int (own_byte cc 0))] [(.int (w_depth - (1 : Int32))), (.ref a)])) rfl rfl (hb hby d6_61)
    have F_a_depth : Fld Z h132 a "com/example/mensura/mensura/parser/OpenParentheses" "depth" "I" (.int (w_depth - (1 : Int32))) := F_a_depth.same W132
    have E_a := E_a.wr W132
    have F_a_groups := F_a_groups.other W132 (Or.inr (slot_ne (Or.inl (hw _ (List.mem_of_getElem? (i := 19) rfl))) (Or.inl (hw _ (List.mem_of_getElem? (i := 30) rfl))) (by decide) (t := (.array .byte)) (t' := .int) (by decide) (by decide)))
    have F_a_size := F_a_size.other W132 (Or.inr (slot_ne (Or.inl (hw _ (List.mem_of_getElem? (i := 28) rfl))) (Or.inl (hw _ (List.mem_of_getElem? (i := 30) rfl))) (by decide) (t := .int) (t' := .int) (by decide) (by decide)))
    have F_a_innermost := F_a_innermost.other W132 (Or.inr (slot_ne (Or.inl (hw _ (List.mem_of_getElem? (i := 21) rfl))) (Or.inl (hw _ (List.mem_of_getElem? (i := 30) rfl))) (by decide) (t := .int) (t' := .int) (by decide) (by decide)))
    have A_w_groups := A_w_groups.other W132 (Ne.symm ne_a_w_groups)
    have K := K.wr W132 (Or.inl (List.mem_of_getElem? (i := 0) rfl))
    have Z132 : n0 ≤ h132.size := Nat.le_trans Z126 (Keep.of_wr W132).1
    have N132 := Fr.snoc X132 N126 g_a
    have pre133 : ∀ t, Steps p.tables e below (T132.setTop (mkF m 64 #[.val (.ref a), .val (.long cc), .second, .val (.int (7 : Int32)), .val (.int (own_byte cc 0))] [])) t → Steps p.tables e below (s₁.setTop (entryFrame m #[(.ref a)] 5)) t := fun t k => pre131 t (st132 t k)
    obtain ⟨fs, hr, hrun, hended, hW, hsame⟩ := X132.leave (v := none) (fun _ => rfl) hlk
    refine ⟨_, _, pre133 _ ?_, hrun, hended, _, _, rfl, ?_, ⟨_, rfl⟩, hW, hsame.mono (by decide) (by decide)⟩
    · show Steps p.tables e below (T132.setTop (mkF m 64 #[.val (.ref a), .val (.long cc), .second, .val (.int (7 : Int32)), .val (.int (own_byte cc 0))] [])) _
      exact X132.returnOut hx Bd.returns (hb hby d6_64) hr
    · show QC Z a f cc w_groups w_size w_innermost w_depth h0 n0 _ T132.heap _
      rw [e132]
      exact ⟨rfl, N132, K, F_a_groups, (by rw [hm]; exact F_a_size), F_a_innermost, F_a_depth⟩
theorem d8_0 : decode prog_32_method_6_code 0 = .ok (.aload_n 0, 1) := by decide +kernel
theorem d8_1 : decode prog_32_method_6_code 1 = .ok (.getfield 7, 3) := by decide +kernel
theorem d8_4 : decode prog_32_method_6_code 4 = .ok (.aload_n 0, 1) := by decide +kernel
theorem d8_5 : decode prog_32_method_6_code 5 = .ok (.getfield 17, 3) := by decide +kernel
theorem d8_8 : decode prog_32_method_6_code 8 = .ok (.iconst 1, 1) := by decide +kernel
theorem d8_9 : decode prog_32_method_6_code 9 = .ok (.isub, 1) := by decide +kernel
theorem d8_10 : decode prog_32_method_6_code 10 = .ok (.baload, 1) := by decide +kernel
theorem d8_11 : decode prog_32_method_6_code 11 = .ok (.iconst 1, 1) := by decide +kernel
theorem d8_12 : decode prog_32_method_6_code 12 = .ok (.iand, 1) := by decide +kernel
theorem d8_13 : decode prog_32_method_6_code 13 = .ok (.ifCond .eq 7, 3) := by decide +kernel
theorem d8_16 : decode prog_32_method_6_code 16 = .ok (.iconst 1, 1) := by decide +kernel
theorem d8_17 : decode prog_32_method_6_code 17 = .ok (.goto 4, 3) := by decide +kernel
theorem d8_20 : decode prog_32_method_6_code 20 = .ok (.iconst 0, 1) := by decide +kernel
theorem d8_21 : decode prog_32_method_6_code 21 = .ok (.ireturn, 1) := by decide +kernel
theorem ef_8 (m : MethodId) (a : Addr) : entryFrame m #[(.ref a)] 1 = mkF m 0 #[.val (.ref a)] [] := by first | (simp [entryFrame, mkF, argsToLocals, Value.category]; done) | rfl
def QV (Z : State) (a : Addr) (f : Nat → Int32) (cc : Int64) (w_groups : Addr) (w_size : Int32) (h0 : Heap) (n0 : Nat) (v : Option Value) (h : Heap) (L : List Loc) : Prop := v = some (.int (own_iv cc)) ∧ Fr n0 L ∧ h = h0
set_option maxRecDepth 65536 in
set_option maxHeartbeats 40000000 in
theorem rmV (l : Launch) (Z : State) (a0 : Array Value) (hw : ∀ d ∈ tables_1, d.before a0 Z = true) (ws : List Jvm.Cond) (a : Addr) (f : Nat → Int32) (cc : Int64) (w_groups : Addr) (w_size : Int32) (h0 : Heap) (n0 : Nat) (Z0 : n0 ≤ h0.size) (E_a : Exa Z h0 a "com/example/mensura/mensura/parser/OpenParentheses") (F_a_groups : Fld Z h0 a "com/example/mensura/mensura/parser/OpenParentheses" "groups" "[B" (.ref w_groups)) (F_a_size : Fld Z h0 a "com/example/mensura/mensura/parser/OpenParentheses" "size" "I" (.int w_size)) (A_w_groups : own_A Z h0 w_groups .byte 16 f) (ht : own_top f w_size cc) :
    MetFree l (⟨"com/example/mensura/mensura/parser/OpenParentheses", "innermostInverted", "()Z"⟩ : MethodName) (head1 (Jvm.Cond.code (⟨"com/example/mensura/mensura/parser/OpenParentheses", "innermostInverted", "()Z"⟩ : MethodName) prog_32_method_6_code 1 (some .boolean) :: ws) ({ frames := 0, cells := 0, slots := 0, locals := 0 } : Room)) (fun aa U => aa = #[(.ref a)] ∧ Z.Warmed39 U.vm ∧ U.heap = h0) (fun _ _ _ _ _ => True) (fun _ U o U' => ∃ v L, o = .returned v ∧ QV Z a f cc w_groups w_size h0 n0 v U'.heap L ∧ FrameEnd U o U' L ({ frames := 0, cells := 0, slots := 0, locals := 0 } : Room).cells ({ frames := 0, cells := 0, slots := 0, locals := 0 } : Room).slots) := by
  refine MetFree.of_bodySF (plainFor_of_name pn_OpenParentheses) hisR ?_
  intro p e s m args below meth c s₁ Bd hml0 hP hK
  obtain ⟨rfl, hZ, hh⟩ := hP
  have hx := Bd.exec
  have hby := Bd.bytes
  have hml : c.maxLocals = 1 := hml0
  have hown : s.vm.findClass "com/example/mensura/mensura/parser/OpenParentheses" = some m.cls := findClass_of_methodNamed Bd.named
  have hnm := (name_of_methodNamed Bd.named Bd.method).1
  have X0 : Stand p l e ({ frames := 0, cells := 0, slots := 0, locals := 0 } : Room) s m #[(.ref a)] below meth c s₁ [] 0 0 := Stand.of_body Bd
  have e0 : s₁.heap = h0 := by rw [← hh, Bd.state]; rfl
  have N0 := Fr.nil n0
  have hlk : meth.locks = false := by first | exact BodyLoose.notSynchronized Bd | exact Body.notSynchronized Bd
  have pre0 : ∀ t, Steps p.tables e below (s₁.setTop (mkF m 0 #[.val (.ref a)] [])) t → Steps p.tables e below (s₁.setTop (entryFrame m #[(.ref a)] 1)) t := fun t k => castTop (ef_8 m a) k
  have K : Keep h0 h0 [] := Keep.refl _ _
  have pre1 : ∀ t, Steps p.tables e below (s₁.setTop (mkF m 1 #[.val (.ref a)] [(.ref a)])) t → Steps p.tables e below (s₁.setTop (entryFrame m #[(.ref a)] 1)) t := fun t k => pre0 t (by
    show Steps p.tables e below (s₁.setTop (mkF m 0 #[.val (.ref a)] [])) _
    refine XS.aloadN X0.here hx rfl (hb hby d8_0) rfl rfl ?_
    show Steps p.tables e below (s₁.setTop (mkF m 1 #[.val (.ref a)] [(.ref a)])) _
    exact k)
  obtain ⟨T2, X2, e2, st2⟩ := getF X0 hx hZ hown (host := "") (Or.inl (hw _ (List.mem_of_getElem? (i := 18) rfl))) Via.refl e0 F_a_groups (g := (mkF m 1 #[.val (.ref a)] [(.ref a)])) rfl rfl (hb hby d8_1)
  have pre3 : ∀ t, Steps p.tables e below (T2.setTop (mkF m 4 #[.val (.ref a)] [(.ref w_groups)])) t → Steps p.tables e below (s₁.setTop (entryFrame m #[(.ref a)] 1)) t := fun t k => pre1 t (st2 t k)
  have pre4 : ∀ t, Steps p.tables e below (T2.setTop (mkF m 5 #[.val (.ref a)] [(.ref a), (.ref w_groups)])) t → Steps p.tables e below (s₁.setTop (entryFrame m #[(.ref a)] 1)) t := fun t k => pre3 t (by
    show Steps p.tables e below (T2.setTop (mkF m 4 #[.val (.ref a)] [(.ref w_groups)])) _
    refine XS.aloadN X2.here hx rfl (hb hby d8_4) rfl rfl ?_
    show Steps p.tables e below (T2.setTop (mkF m 5 #[.val (.ref a)] [(.ref a), (.ref w_groups)])) _
    exact k)
  obtain ⟨T5, X5, e5, st5⟩ := getF X2 hx hZ hown (host := "") (Or.inl (hw _ (List.mem_of_getElem? (i := 27) rfl))) Via.refl e2 F_a_size (g := (mkF m 5 #[.val (.ref a)] [(.ref a), (.ref w_groups)])) rfl rfl (hb hby d8_5)
  have pre6 : ∀ t, Steps p.tables e below (T5.setTop (mkF m 8 #[.val (.ref a)] [(.int w_size), (.ref w_groups)])) t → Steps p.tables e below (s₁.setTop (entryFrame m #[(.ref a)] 1)) t := fun t k => pre4 t (st5 t k)
  have pre7 : ∀ t, Steps p.tables e below (T5.setTop (mkF m 10 #[.val (.ref a)] [(.int (own_dk w_size 1)), (.ref w_groups)])) t → Steps p.tables e below (s₁.setTop (entryFrame m #[(.ref a)] 1)) t := fun t k => pre6 t (by
    show Steps p.tables e below (T5.setTop (mkF m 8 #[.val (.ref a)] [(.int w_size), (.ref w_groups)])) _
    refine XS.iconst X5.here hx rfl (hb hby d8_8) ?_
    show Steps p.tables e below (T5.setTop (mkF m 9 #[.val (.ref a)] [(.int (1 : Int32)), (.int w_size), (.ref w_groups)])) _
    refine XS.isub X5.here hx rfl (hb hby d8_9) rfl ?_
    show Steps p.tables e below (T5.setTop (mkF m 10 #[.val (.ref a)] [(.int (own_dk w_size 1)), (.ref w_groups)])) _
    exact k)
  obtain ⟨cl8, Ar8, Sz8, Hf8⟩ := id A_w_groups
  have hat8 : cl8.slots[((own_dk w_size 1)).toNatClampNeg]? = some (.int (own_byte cc 0)) := (Hf8 _ (own_lt_of (own_dkb ht 0 (own_mpos cc)))).trans (congrArg (fun z => some (Value.int z)) (own_topv ht 0 (own_mpos cc)))
  have pre9 : ∀ t, Steps p.tables e below (T5.setTop (mkF m 11 #[.val (.ref a)] [(.int (own_byte cc 0))])) t → Steps p.tables e below (s₁.setTop (entryFrame m #[(.ref a)] 1)) t := fun t k => pre7 t (X5.baloadBytes hx (j := (own_dk w_size 1)) (v := (.int (own_byte cc 0))) (by rw [e5]; exact Ar8.1) (State.isArrayOf_alike hZ.alike Ar8.2.1) Ar8.2.2 (own_inb Sz8 (own_dkb ht 0 (own_mpos cc))) hat8 (g := (mkF m 10 #[.val (.ref a)] [(.int (own_dk w_size 1)), (.ref w_groups)])) rfl rfl (hb hby d8_10) _ k)
  have pre10 : ∀ t, Steps p.tables e below (T5.setTop (mkF m 13 #[.val (.ref a)] [(.int ((own_byte cc 0) &&& (1 : Int32)))])) t → Steps p.tables e below (s₁.setTop (entryFrame m #[(.ref a)] 1)) t := fun t k => pre9 t (by
    show Steps p.tables e below (T5.setTop (mkF m 11 #[.val (.ref a)] [(.int (own_byte cc 0))])) _
    refine XS.iconst X5.here hx rfl (hb hby d8_11) ?_
    show Steps p.tables e below (T5.setTop (mkF m 12 #[.val (.ref a)] [(.int (1 : Int32)), (.int (own_byte cc 0))])) _
    refine XS.iand X5.here hx rfl (hb hby d8_12) rfl ?_
    show Steps p.tables e below (T5.setTop (mkF m 13 #[.val (.ref a)] [(.int ((own_byte cc 0) &&& (1 : Int32)))])) _
    exact k)
  by_cases hc13_11 : ((own_byte cc 0) &&& (1 : Int32)) = (0 : Int32)
  · have pre12 : ∀ t, Steps p.tables e below (T5.setTop (mkF m 21 #[.val (.ref a)] [(.int (0 : Int32))])) t → Steps p.tables e below (s₁.setTop (entryFrame m #[(.ref a)] 1)) t := fun t k => pre10 t (by
      show Steps p.tables e below (T5.setTop (mkF m 13 #[.val (.ref a)] [(.int ((own_byte cc 0) &&& (1 : Int32)))])) _
      refine XS.ifYes X5.here hx rfl (pc0 := 13) (pc' := 20) rfl (hb hby d8_13) rfl ((if0 _ _).trans (teq hc13_11).1) (by decide) (by decide) ?_
      show Steps p.tables e below (T5.setTop (mkF m 20 #[.val (.ref a)] [])) _
      refine XS.iconst X5.here hx rfl (hb hby d8_20) ?_
      show Steps p.tables e below (T5.setTop (mkF m 21 #[.val (.ref a)] [(.int (0 : Int32))])) _
      exact k)
    obtain ⟨fs, hr, hrun, hended, hW, hsame⟩ := X5.leave (v := some (.int (0 : Int32))) (fun h => by rw [Bd.returns] at h; cases h) hlk
    refine ⟨_, _, pre12 _ ?_, hrun, hended, _, _, rfl, ?_, ⟨_, rfl⟩, hW, hsame.mono (by decide) (by decide)⟩
    · show Steps p.tables e below (T5.setTop (mkF m 21 #[.val (.ref a)] [(.int (0 : Int32))])) _
      exact retN X5 hx (t := .boolean) Bd.returns (by simp) (hb hby d8_21) hr
    · show QV Z a f cc w_groups w_size h0 n0 _ T5.heap _
      rw [e5]
      exact ⟨by simp only [own_iv, if_pos hc13_11], N0, rfl⟩
  · have pre13 : ∀ t, Steps p.tables e below (T5.setTop (mkF m 21 #[.val (.ref a)] [(.int (1 : Int32))])) t → Steps p.tables e below (s₁.setTop (entryFrame m #[(.ref a)] 1)) t := fun t k => pre10 t (by
      show Steps p.tables e below (T5.setTop (mkF m 13 #[.val (.ref a)] [(.int ((own_byte cc 0) &&& (1 : Int32)))])) _
      refine XS.ifNo X5.here hx rfl (hb hby d8_13) rfl ((if0 _ _).trans (feq hc13_11).1) ?_
      show Steps p.tables e below (T5.setTop (mkF m 16 #[.val (.ref a)] [])) _
      refine XS.iconst X5.here hx rfl (hb hby d8_16) ?_
      show Steps p.tables e below (T5.setTop (mkF m 17 #[.val (.ref a)] [(.int (1 : Int32))])) _
      refine XS.goto X5.here hx rfl (pc0 := 17) (pc' := 21) rfl (hb hby d8_17) (by decide) (by decide) ?_
      show Steps p.tables e below (T5.setTop (mkF m 21 #[.val (.ref a)] [(.int (1 : Int32))])) _
      exact k)
    obtain ⟨fs, hr, hrun, hended, hW, hsame⟩ := X5.leave (v := some (.int (1 : Int32))) (fun h => by rw [Bd.returns] at h; cases h) hlk
    refine ⟨_, _, pre13 _ ?_, hrun, hended, _, _, rfl, ?_, ⟨_, rfl⟩, hW, hsame.mono (by decide) (by decide)⟩
    · show Steps p.tables e below (T5.setTop (mkF m 21 #[.val (.ref a)] [(.int (1 : Int32))])) _
      exact retN X5 hx (t := .boolean) Bd.returns (by simp) (hb hby d8_21) hr
    · show QV Z a f cc w_groups w_size h0 n0 _ T5.heap _
      rw [e5]
      exact ⟨by simp only [own_iv, if_neg hc13_11], N0, rfl⟩
theorem d1_0 : decode jdk_29_method_69_code 0 = .ok (.iload_n 0, 1) := by decide +kernel
theorem d1_1 : decode jdk_29_method_69_code 1 = .ok (.iload_n 1, 1) := by decide +kernel
theorem d1_2 : decode jdk_29_method_69_code 2 = .ok (.if_icmp .gt 7, 3) := by decide +kernel
theorem d1_5 : decode jdk_29_method_69_code 5 = .ok (.iload_n 0, 1) := by decide +kernel
theorem d1_6 : decode jdk_29_method_69_code 6 = .ok (.goto 4, 3) := by decide +kernel
theorem d1_9 : decode jdk_29_method_69_code 9 = .ok (.iload_n 1, 1) := by decide +kernel
theorem d1_10 : decode jdk_29_method_69_code 10 = .ok (.ireturn, 1) := by decide +kernel
theorem ef_1 (m : MethodId) (p1 : Int32) (p2 : Int32) : entryFrame m #[(.int p1), (.int p2)] 2 = mkF m 0 #[.val (.int p1), .val (.int p2)] [] := by first | (simp [entryFrame, mkF, argsToLocals, Value.category]; done) | rfl
def QMin (Z : State) (p1 : Int32) (p2 : Int32) (h0 : Heap) (n0 : Nat) (v : Option Value) (h : Heap) (L : List Loc) : Prop := v = some (.int (own_min p1 p2)) ∧ Fr n0 L ∧ h = h0
set_option maxRecDepth 65536 in
set_option maxHeartbeats 40000000 in
theorem rmMin (l : Launch) (Z : State) (a0 : Array Value) (hw : ∀ d ∈ tables_1, d.before a0 Z = true) (ws : List Jvm.Cond) (p1 : Int32) (p2 : Int32) (h0 : Heap) (n0 : Nat) (Z0 : n0 ≤ h0.size) :
    MetFree l (⟨"java/lang/Math", "min", "(II)I"⟩ : MethodName) (head1 (Jvm.Cond.code (⟨"java/lang/Math", "min", "(II)I"⟩ : MethodName) jdk_29_method_69_code 2 (some .int) :: ws) ({ frames := 0, cells := 0, slots := 0, locals := 0 } : Room)) (fun aa U => aa = #[(.int p1), (.int p2)] ∧ Z.Warmed39 U.vm ∧ U.heap = h0) (fun _ _ _ _ _ => True) (fun _ U o U' => ∃ v L, o = .returned v ∧ QMin Z p1 p2 h0 n0 v U'.heap L ∧ FrameEnd U o U' L ({ frames := 0, cells := 0, slots := 0, locals := 0 } : Room).cells ({ frames := 0, cells := 0, slots := 0, locals := 0 } : Room).slots) := by
  refine MetFree.of_bodySF (Jvm.Free.JP.mathPlain rfl (by decide +kernel)) hisR ?_
  intro p e s m args below meth c s₁ Bd hml0 hP hK
  obtain ⟨rfl, hZ, hh⟩ := hP
  have hx := Bd.exec
  have hby := Bd.bytes
  have hml : c.maxLocals = 2 := hml0
  have hown : s.vm.findClass "java/lang/Math" = some m.cls := findClass_of_methodNamed Bd.named
  have hnm := (name_of_methodNamed Bd.named Bd.method).1
  have X0 : Stand p l e ({ frames := 0, cells := 0, slots := 0, locals := 0 } : Room) s m #[(.int p1), (.int p2)] below meth c s₁ [] 0 0 := Stand.of_body Bd
  have e0 : s₁.heap = h0 := by rw [← hh, Bd.state]; rfl
  have N0 := Fr.nil n0
  have hlk : meth.locks = false := by first | exact BodyLoose.notSynchronized Bd | exact Body.notSynchronized Bd
  have pre0 : ∀ t, Steps p.tables e below (s₁.setTop (mkF m 0 #[.val (.int p1), .val (.int p2)] [])) t → Steps p.tables e below (s₁.setTop (entryFrame m #[(.int p1), (.int p2)] 2)) t := fun t k => castTop (ef_1 m p1 p2) k
  have pre1 : ∀ t, Steps p.tables e below (s₁.setTop (mkF m 2 #[.val (.int p1), .val (.int p2)] [(.int p2), (.int p1)])) t → Steps p.tables e below (s₁.setTop (entryFrame m #[(.int p1), (.int p2)] 2)) t := fun t k => pre0 t (by
    show Steps p.tables e below (s₁.setTop (mkF m 0 #[.val (.int p1), .val (.int p2)] [])) _
    refine XS.iloadN X0.here hx rfl (hb hby d1_0) rfl ?_
    show Steps p.tables e below (s₁.setTop (mkF m 1 #[.val (.int p1), .val (.int p2)] [(.int p1)])) _
    refine XS.iloadN X0.here hx rfl (hb hby d1_1) rfl ?_
    show Steps p.tables e below (s₁.setTop (mkF m 2 #[.val (.int p1), .val (.int p2)] [(.int p2), (.int p1)])) _
    exact k)
  by_cases hc2_2 : p2 < p1
  · have pre3 : ∀ t, Steps p.tables e below (s₁.setTop (mkF m 10 #[.val (.int p1), .val (.int p2)] [(.int p2)])) t → Steps p.tables e below (s₁.setTop (entryFrame m #[(.int p1), (.int p2)] 2)) t := fun t k => pre1 t (by
      show Steps p.tables e below (s₁.setTop (mkF m 2 #[.val (.int p1), .val (.int p2)] [(.int p2), (.int p1)])) _
      refine XS.icmpYes X0.here hx rfl (pc0 := 2) (pc' := 9) rfl (hb hby d1_2) rfl (tlt hc2_2).2.2.1 (by decide) (by decide) ?_
      show Steps p.tables e below (s₁.setTop (mkF m 9 #[.val (.int p1), .val (.int p2)] [])) _
      refine XS.iloadN X0.here hx rfl (hb hby d1_9) rfl ?_
      show Steps p.tables e below (s₁.setTop (mkF m 10 #[.val (.int p1), .val (.int p2)] [(.int p2)])) _
      exact k)
    obtain ⟨fs, hr, hrun, hended, hW, hsame⟩ := X0.leave (v := some (.int p2)) (fun h => by rw [Bd.returns] at h; cases h) hlk
    refine ⟨_, _, pre3 _ ?_, hrun, hended, _, _, rfl, ?_, ⟨_, rfl⟩, hW, hsame.mono (by decide) (by decide)⟩
    · show Steps p.tables e below (s₁.setTop (mkF m 10 #[.val (.int p1), .val (.int p2)] [(.int p2)])) _
      exact retI X0 hx Bd.returns (hb hby d1_10) hr
    · show QMin Z p1 p2 h0 n0 _ s₁.heap _
      rw [e0]
      exact ⟨by simp only [own_min, if_pos hc2_2], N0, rfl⟩
  · have pre4 : ∀ t, Steps p.tables e below (s₁.setTop (mkF m 10 #[.val (.int p1), .val (.int p2)] [(.int p1)])) t → Steps p.tables e below (s₁.setTop (entryFrame m #[(.int p1), (.int p2)] 2)) t := fun t k => pre1 t (by
      show Steps p.tables e below (s₁.setTop (mkF m 2 #[.val (.int p1), .val (.int p2)] [(.int p2), (.int p1)])) _
      refine XS.icmpNo X0.here hx rfl (hb hby d1_2) rfl (flt hc2_2).2.2.1 ?_
      show Steps p.tables e below (s₁.setTop (mkF m 5 #[.val (.int p1), .val (.int p2)] [])) _
      refine XS.iloadN X0.here hx rfl (hb hby d1_5) rfl ?_
      show Steps p.tables e below (s₁.setTop (mkF m 6 #[.val (.int p1), .val (.int p2)] [(.int p1)])) _
      refine XS.goto X0.here hx rfl (pc0 := 6) (pc' := 10) rfl (hb hby d1_6) (by decide) (by decide) ?_
      show Steps p.tables e below (s₁.setTop (mkF m 10 #[.val (.int p1), .val (.int p2)] [(.int p1)])) _
      exact k)
    obtain ⟨fs, hr, hrun, hended, hW, hsame⟩ := X0.leave (v := some (.int p1)) (fun h => by rw [Bd.returns] at h; cases h) hlk
    refine ⟨_, _, pre4 _ ?_, hrun, hended, _, _, rfl, ?_, ⟨_, rfl⟩, hW, hsame.mono (by decide) (by decide)⟩
    · show Steps p.tables e below (s₁.setTop (mkF m 10 #[.val (.int p1), .val (.int p2)] [(.int p1)])) _
      exact retI X0 hx Bd.returns (hb hby d1_10) hr
    · show QMin Z p1 p2 h0 n0 _ s₁.heap _
      rw [e0]
      exact ⟨by simp only [own_min, if_neg hc2_2], N0, rfl⟩
theorem d2_0 : decode jdk_29_method_65_code 0 = .ok (.iload_n 0, 1) := by decide +kernel
theorem d2_1 : decode jdk_29_method_65_code 1 = .ok (.iload_n 1, 1) := by decide +kernel
theorem d2_2 : decode jdk_29_method_65_code 2 = .ok (.if_icmp .lt 7, 3) := by decide +kernel
theorem d2_5 : decode jdk_29_method_65_code 5 = .ok (.iload_n 0, 1) := by decide +kernel
theorem d2_6 : decode jdk_29_method_65_code 6 = .ok (.goto 4, 3) := by decide +kernel
theorem d2_9 : decode jdk_29_method_65_code 9 = .ok (.iload_n 1, 1) := by decide +kernel
theorem d2_10 : decode jdk_29_method_65_code 10 = .ok (.ireturn, 1) := by decide +kernel
theorem ef_2 (m : MethodId) (p1 : Int32) (p2 : Int32) : entryFrame m #[(.int p1), (.int p2)] 2 = mkF m 0 #[.val (.int p1), .val (.int p2)] [] := by first | (simp [entryFrame, mkF, argsToLocals, Value.category]; done) | rfl
def QMax (Z : State) (p1 : Int32) (p2 : Int32) (h0 : Heap) (n0 : Nat) (v : Option Value) (h : Heap) (L : List Loc) : Prop := v = some (.int (own_mx p1 p2)) ∧ Fr n0 L ∧ h = h0
set_option maxRecDepth 65536 in
set_option maxHeartbeats 40000000 in
theorem rmMax (l : Launch) (Z : State) (a0 : Array Value) (hw : ∀ d ∈ tables_1, d.before a0 Z = true) (ws : List Jvm.Cond) (p1 : Int32) (p2 : Int32) (h0 : Heap) (n0 : Nat) (Z0 : n0 ≤ h0.size) :
    MetFree l (⟨"java/lang/Math", "max", "(II)I"⟩ : MethodName) (head1 (Jvm.Cond.code (⟨"java/lang/Math", "max", "(II)I"⟩ : MethodName) jdk_29_method_65_code 2 (some .int) :: ws) ({ frames := 0, cells := 0, slots := 0, locals := 0 } : Room)) (fun aa U => aa = #[(.int p1), (.int p2)] ∧ Z.Warmed39 U.vm ∧ U.heap = h0) (fun _ _ _ _ _ => True) (fun _ U o U' => ∃ v L, o = .returned v ∧ QMax Z p1 p2 h0 n0 v U'.heap L ∧ FrameEnd U o U' L ({ frames := 0, cells := 0, slots := 0, locals := 0 } : Room).cells ({ frames := 0, cells := 0, slots := 0, locals := 0 } : Room).slots) := by
  refine MetFree.of_bodySF (Jvm.Free.JP.mathPlain rfl (by decide +kernel)) hisR ?_
  intro p e s m args below meth c s₁ Bd hml0 hP hK
  obtain ⟨rfl, hZ, hh⟩ := hP
  have hx := Bd.exec
  have hby := Bd.bytes
  have hml : c.maxLocals = 2 := hml0
  have hown : s.vm.findClass "java/lang/Math" = some m.cls := findClass_of_methodNamed Bd.named
  have hnm := (name_of_methodNamed Bd.named Bd.method).1
  have X0 : Stand p l e ({ frames := 0, cells := 0, slots := 0, locals := 0 } : Room) s m #[(.int p1), (.int p2)] below meth c s₁ [] 0 0 := Stand.of_body Bd
  have e0 : s₁.heap = h0 := by rw [← hh, Bd.state]; rfl
  have N0 := Fr.nil n0
  have hlk : meth.locks = false := by first | exact BodyLoose.notSynchronized Bd | exact Body.notSynchronized Bd
  have pre0 : ∀ t, Steps p.tables e below (s₁.setTop (mkF m 0 #[.val (.int p1), .val (.int p2)] [])) t → Steps p.tables e below (s₁.setTop (entryFrame m #[(.int p1), (.int p2)] 2)) t := fun t k => castTop (ef_2 m p1 p2) k
  have pre1 : ∀ t, Steps p.tables e below (s₁.setTop (mkF m 2 #[.val (.int p1), .val (.int p2)] [(.int p2), (.int p1)])) t → Steps p.tables e below (s₁.setTop (entryFrame m #[(.int p1), (.int p2)] 2)) t := fun t k => pre0 t (by
    show Steps p.tables e below (s₁.setTop (mkF m 0 #[.val (.int p1), .val (.int p2)] [])) _
    refine XS.iloadN X0.here hx rfl (hb hby d2_0) rfl ?_
    show Steps p.tables e below (s₁.setTop (mkF m 1 #[.val (.int p1), .val (.int p2)] [(.int p1)])) _
    refine XS.iloadN X0.here hx rfl (hb hby d2_1) rfl ?_
    show Steps p.tables e below (s₁.setTop (mkF m 2 #[.val (.int p1), .val (.int p2)] [(.int p2), (.int p1)])) _
    exact k)
  by_cases hc2_2 : p1 < p2
  · have pre3 : ∀ t, Steps p.tables e below (s₁.setTop (mkF m 10 #[.val (.int p1), .val (.int p2)] [(.int p2)])) t → Steps p.tables e below (s₁.setTop (entryFrame m #[(.int p1), (.int p2)] 2)) t := fun t k => pre1 t (by
      show Steps p.tables e below (s₁.setTop (mkF m 2 #[.val (.int p1), .val (.int p2)] [(.int p2), (.int p1)])) _
      refine XS.icmpYes X0.here hx rfl (pc0 := 2) (pc' := 9) rfl (hb hby d2_2) rfl (tlt hc2_2).1 (by decide) (by decide) ?_
      show Steps p.tables e below (s₁.setTop (mkF m 9 #[.val (.int p1), .val (.int p2)] [])) _
      refine XS.iloadN X0.here hx rfl (hb hby d2_9) rfl ?_
      show Steps p.tables e below (s₁.setTop (mkF m 10 #[.val (.int p1), .val (.int p2)] [(.int p2)])) _
      exact k)
    obtain ⟨fs, hr, hrun, hended, hW, hsame⟩ := X0.leave (v := some (.int p2)) (fun h => by rw [Bd.returns] at h; cases h) hlk
    refine ⟨_, _, pre3 _ ?_, hrun, hended, _, _, rfl, ?_, ⟨_, rfl⟩, hW, hsame.mono (by decide) (by decide)⟩
    · show Steps p.tables e below (s₁.setTop (mkF m 10 #[.val (.int p1), .val (.int p2)] [(.int p2)])) _
      exact retI X0 hx Bd.returns (hb hby d2_10) hr
    · show QMax Z p1 p2 h0 n0 _ s₁.heap _
      rw [e0]
      exact ⟨by simp only [own_mx, if_pos hc2_2], N0, rfl⟩
  · have pre4 : ∀ t, Steps p.tables e below (s₁.setTop (mkF m 10 #[.val (.int p1), .val (.int p2)] [(.int p1)])) t → Steps p.tables e below (s₁.setTop (entryFrame m #[(.int p1), (.int p2)] 2)) t := fun t k => pre1 t (by
      show Steps p.tables e below (s₁.setTop (mkF m 2 #[.val (.int p1), .val (.int p2)] [(.int p2), (.int p1)])) _
      refine XS.icmpNo X0.here hx rfl (hb hby d2_2) rfl (flt hc2_2).1 ?_
      show Steps p.tables e below (s₁.setTop (mkF m 5 #[.val (.int p1), .val (.int p2)] [])) _
      refine XS.iloadN X0.here hx rfl (hb hby d2_5) rfl ?_
      show Steps p.tables e below (s₁.setTop (mkF m 6 #[.val (.int p1), .val (.int p2)] [(.int p1)])) _
      refine XS.goto X0.here hx rfl (pc0 := 6) (pc' := 10) rfl (hb hby d2_6) (by decide) (by decide) ?_
      show Steps p.tables e below (s₁.setTop (mkF m 10 #[.val (.int p1), .val (.int p2)] [(.int p1)])) _
      exact k)
    obtain ⟨fs, hr, hrun, hended, hW, hsame⟩ := X0.leave (v := some (.int p1)) (fun h => by rw [Bd.returns] at h; cases h) hlk
    refine ⟨_, _, pre4 _ ?_, hrun, hended, _, _, rfl, ?_, ⟨_, rfl⟩, hW, hsame.mono (by decide) (by decide)⟩
    · show Steps p.tables e below (s₁.setTop (mkF m 10 #[.val (.int p1), .val (.int p2)] [(.int p1)])) _
      exact retI X0 hx Bd.returns (hb hby d2_10) hr
    · show QMax Z p1 p2 h0 n0 _ s₁.heap _
      rw [e0]
      exact ⟨by simp only [own_mx, if_neg hc2_2], N0, rfl⟩
theorem d7_0 : decode prog_32_method_5_code 0 = .ok (.aload_n 0, 1) := by decide +kernel
theorem d7_1 : decode prog_32_method_5_code 1 = .ok (.getfield 13, 3) := by decide +kernel
theorem d7_4 : decode prog_32_method_5_code 4 = .ok (.ireturn, 1) := by decide +kernel
theorem ef_7 (m : MethodId) (a : Addr) : entryFrame m #[(.ref a)] 1 = mkF m 0 #[.val (.ref a)] [] := by first | (simp [entryFrame, mkF, argsToLocals, Value.category]; done) | rfl
def QN (Z : State) (a : Addr) (w_innermost : Int32) (h0 : Heap) (n0 : Nat) (v : Option Value) (h : Heap) (L : List Loc) : Prop := v = some (.int w_innermost) ∧ Fr n0 L ∧ h = h0
set_option maxRecDepth 65536 in
set_option maxHeartbeats 40000000 in
theorem rmN (l : Launch) (Z : State) (a0 : Array Value) (hw : ∀ d ∈ tables_1, d.before a0 Z = true) (ws : List Jvm.Cond) (a : Addr) (w_innermost : Int32) (h0 : Heap) (n0 : Nat) (Z0 : n0 ≤ h0.size) (E_a : Exa Z h0 a "com/example/mensura/mensura/parser/OpenParentheses") (F_a_innermost : Fld Z h0 a "com/example/mensura/mensura/parser/OpenParentheses" "innermost" "I" (.int w_innermost)) :
    MetFree l (⟨"com/example/mensura/mensura/parser/OpenParentheses", "innermost", "()I"⟩ : MethodName) (head1 (Jvm.Cond.code (⟨"com/example/mensura/mensura/parser/OpenParentheses", "innermost", "()I"⟩ : MethodName) prog_32_method_5_code 1 (some .int) :: ws) ({ frames := 0, cells := 0, slots := 0, locals := 0 } : Room)) (fun aa U => aa = #[(.ref a)] ∧ Z.Warmed39 U.vm ∧ U.heap = h0) (fun _ _ _ _ _ => True) (fun _ U o U' => ∃ v L, o = .returned v ∧ QN Z a w_innermost h0 n0 v U'.heap L ∧ FrameEnd U o U' L ({ frames := 0, cells := 0, slots := 0, locals := 0 } : Room).cells ({ frames := 0, cells := 0, slots := 0, locals := 0 } : Room).slots) := by
  refine MetFree.of_bodySF (plainFor_of_name pn_OpenParentheses) hisR ?_
  intro p e s m args below meth c s₁ Bd hml0 hP hK
  obtain ⟨rfl, hZ, hh⟩ := hP
  have hx := Bd.exec
  have hby := Bd.bytes
  have hml : c.maxLocals = 1 := hml0
  have hown : s.vm.findClass "com/example/mensura/mensura/parser/OpenParentheses" = some m.cls := findClass_of_methodNamed Bd.named
  have hnm := (name_of_methodNamed Bd.named Bd.method).1
  have X0 : Stand p l e ({ frames := 0, cells := 0, slots := 0, locals := 0 } : Room) s m #[(.ref a)] below meth c s₁ [] 0 0 := Stand.of_body Bd
  have e0 : s₁.heap = h0 := by rw [← hh, Bd.state]; rfl
  have N0 := Fr.nil n0
  have hlk : meth.locks = false := by first | exact BodyLoose.notSynchronized Bd | exact Body.notSynchronized Bd
  have pre0 : ∀ t, Steps p.tables e below (s₁.setTop (mkF m 0 #[.val (.ref a)] [])) t → Steps p.tables e below (s₁.setTop (entryFrame m #[(.ref a)] 1)) t := fun t k => castTop (ef_7 m a) k
  have K : Keep h0 h0 [] := Keep.refl _ _
  have pre1 : ∀ t, Steps p.tables e below (s₁.setTop (mkF m 1 #[.val (.ref a)] [(.ref a)])) t → Steps p.tables e below (s₁.setTop (entryFrame m #[(.ref a)] 1)) t := fun t k => pre0 t (by
    show Steps p.tables e below (s₁.setTop (mkF m 0 #[.val (.ref a)] [])) _
    refine XS.aloadN X0.here hx rfl (hb hby d7_0) rfl rfl ?_
    show Steps p.tables e below (s₁.setTop (mkF m 1 #[.val (.ref a)] [(.ref a)])) _
    exact k)
  obtain ⟨T2, X2, e2, st2⟩ := getF X0 hx hZ hown (host := "") (Or.inl (hw _ (List.mem_of_getElem? (i := 20) rfl))) Via.refl e0 F_a_innermost (g := (mkF m 1 #[.val (.ref a)] [(.ref a)])) rfl rfl (hb hby d7_1)
  have pre3 : ∀ t, Steps p.tables e below (T2.setTop (mkF m 4 #[.val (.ref a)] [(.int w_innermost)])) t → Steps p.tables e below (s₁.setTop (entryFrame m #[(.ref a)] 1)) t := fun t k => pre1 t (st2 t k)
  obtain ⟨fs, hr, hrun, hended, hW, hsame⟩ := X2.leave (v := some (.int w_innermost)) (fun h => by rw [Bd.returns] at h; cases h) hlk
  refine ⟨_, _, pre3 _ ?_, hrun, hended, _, _, rfl, ?_, ⟨_, rfl⟩, hW, hsame.mono (by decide) (by decide)⟩
  · show Steps p.tables e below (T2.setTop (mkF m 4 #[.val (.ref a)] [(.int w_innermost)])) _
    exact retI X2 hx Bd.returns (hb hby d7_4) hr
  · show QN Z a w_innermost h0 n0 _ T2.heap _
    rw [e2]
    exact ⟨rfl, N0, rfl⟩
theorem d9_0 : decode prog_32_method_4_code 0 = .ok (.aload_n 0, 1) := by decide +kernel
theorem d9_1 : decode prog_32_method_4_code 1 = .ok (.getfield 42, 3) := by decide +kernel
theorem d9_4 : decode prog_32_method_4_code 4 = .ok (.ifCond .ne 7, 3) := by decide +kernel
theorem d9_7 : decode prog_32_method_4_code 7 = .ok (.iconst 1, 1) := by decide +kernel
theorem d9_8 : decode prog_32_method_4_code 8 = .ok (.goto 4, 3) := by decide +kernel
theorem d9_11 : decode prog_32_method_4_code 11 = .ok (.iconst 0, 1) := by decide +kernel
theorem d9_12 : decode prog_32_method_4_code 12 = .ok (.ireturn, 1) := by decide +kernel
theorem ef_9 (m : MethodId) (a : Addr) : entryFrame m #[(.ref a)] 1 = mkF m 0 #[.val (.ref a)] [] := by first | (simp [entryFrame, mkF, argsToLocals, Value.category]; done) | rfl
def QE (Z : State) (a : Addr) (w_depth : Int32) (h0 : Heap) (n0 : Nat) (v : Option Value) (h : Heap) (L : List Loc) : Prop := v = some (.int (own_em w_depth)) ∧ Fr n0 L ∧ h = h0
set_option maxRecDepth 65536 in
set_option maxHeartbeats 40000000 in
theorem rmE (l : Launch) (Z : State) (a0 : Array Value) (hw : ∀ d ∈ tables_1, d.before a0 Z = true) (ws : List Jvm.Cond) (a : Addr) (w_depth : Int32) (h0 : Heap) (n0 : Nat) (Z0 : n0 ≤ h0.size) (E_a : Exa Z h0 a "com/example/mensura/mensura/parser/OpenParentheses") (F_a_depth : Fld Z h0 a "com/example/mensura/mensura/parser/OpenParentheses" "depth" "I" (.int w_depth)) :
    MetFree l (⟨"com/example/mensura/mensura/parser/OpenParentheses", "isEmpty", "()Z"⟩ : MethodName) (head1 (Jvm.Cond.code (⟨"com/example/mensura/mensura/parser/OpenParentheses", "isEmpty", "()Z"⟩ : MethodName) prog_32_method_4_code 1 (some .boolean) :: ws) ({ frames := 0, cells := 0, slots := 0, locals := 0 } : Room)) (fun aa U => aa = #[(.ref a)] ∧ Z.Warmed39 U.vm ∧ U.heap = h0) (fun _ _ _ _ _ => True) (fun _ U o U' => ∃ v L, o = .returned v ∧ QE Z a w_depth h0 n0 v U'.heap L ∧ FrameEnd U o U' L ({ frames := 0, cells := 0, slots := 0, locals := 0 } : Room).cells ({ frames := 0, cells := 0, slots := 0, locals := 0 } : Room).slots) := by
  refine MetFree.of_bodySF (plainFor_of_name pn_OpenParentheses) hisR ?_
  intro p e s m args below meth c s₁ Bd hml0 hP hK
  obtain ⟨rfl, hZ, hh⟩ := hP
  have hx := Bd.exec
  have hby := Bd.bytes
  have hml : c.maxLocals = 1 := hml0
  have hown : s.vm.findClass "com/example/mensura/mensura/parser/OpenParentheses" = some m.cls := findClass_of_methodNamed Bd.named
  have hnm := (name_of_methodNamed Bd.named Bd.method).1
  have X0 : Stand p l e ({ frames := 0, cells := 0, slots := 0, locals := 0 } : Room) s m #[(.ref a)] below meth c s₁ [] 0 0 := Stand.of_body Bd
  have e0 : s₁.heap = h0 := by rw [← hh, Bd.state]; rfl
  have N0 := Fr.nil n0
  have hlk : meth.locks = false := by first | exact BodyLoose.notSynchronized Bd | exact Body.notSynchronized Bd
  have pre0 : ∀ t, Steps p.tables e below (s₁.setTop (mkF m 0 #[.val (.ref a)] [])) t → Steps p.tables e below (s₁.setTop (entryFrame m #[(.ref a)] 1)) t := fun t k => castTop (ef_9 m a) k
  have K : Keep h0 h0 [] := Keep.refl _ _
  have pre1 : ∀ t, Steps p.tables e below (s₁.setTop (mkF m 1 #[.val (.ref a)] [(.ref a)])) t → Steps p.tables e below (s₁.setTop (entryFrame m #[(.ref a)] 1)) t := fun t k => pre0 t (by
    show Steps p.tables e below (s₁.setTop (mkF m 0 #[.val (.ref a)] [])) _
    refine XS.aloadN X0.here hx rfl (hb hby d9_0) rfl rfl ?_
    show Steps p.tables e below (s₁.setTop (mkF m 1 #[.val (.ref a)] [(.ref a)])) _
    exact k)
  obtain ⟨T2, X2, e2, st2⟩ := getF X0 hx hZ hown (host := "") (Or.inl (hw _ (List.mem_of_getElem? (i := 29) rfl))) Via.refl e0 F_a_depth (g := (mkF m 1 #[.val (.ref a)] [(.ref a)])) rfl rfl (hb hby d9_1)
  have pre3 : ∀ t, Steps p.tables e below (T2.setTop (mkF m 4 #[.val (.ref a)] [(.int w_depth)])) t → Steps p.tables e below (s₁.setTop (entryFrame m #[(.ref a)] 1)) t := fun t k => pre1 t (st2 t k)
  by_cases hc4_4 : w_depth = (0 : Int32)
  · have pre5 : ∀ t, Steps p.tables e below (T2.setTop (mkF m 12 #[.val (.ref a)] [(.int (1 : Int32))])) t → Steps p.tables e below (s₁.setTop (entryFrame m #[(.ref a)] 1)) t := fun t k => pre3 t (by
      show Steps p.tables e below (T2.setTop (mkF m 4 #[.val (.ref a)] [(.int w_depth)])) _
      refine XS.ifNo X2.here hx rfl (hb hby d9_4) rfl ((if0 _ _).trans (teq hc4_4).2) ?_
      show Steps p.tables e below (T2.setTop (mkF m 7 #[.val (.ref a)] [])) _
      refine XS.iconst X2.here hx rfl (hb hby d9_7) ?_
      show Steps p.tables e below (T2.setTop (mkF m 8 #[.val (.ref a)] [(.int (1 : Int32))])) _
      refine XS.goto X2.here hx rfl (pc0 := 8) (pc' := 12) rfl (hb hby d9_8) (by decide) (by decide) ?_
      show Steps p.tables e below (T2.setTop (mkF m 12 #[.val (.ref a)] [(.int (1 : Int32))])) _
      exact k)
    obtain ⟨fs, hr, hrun, hended, hW, hsame⟩ := X2.leave (v := some (.int (1 : Int32))) (fun h => by rw [Bd.returns] at h; cases h) hlk
    refine ⟨_, _, pre5 _ ?_, hrun, hended, _, _, rfl, ?_, ⟨_, rfl⟩, hW, hsame.mono (by decide) (by decide)⟩
    · show Steps p.tables e below (T2.setTop (mkF m 12 #[.val (.ref a)] [(.int (1 : Int32))])) _
      exact retN X2 hx (t := .boolean) Bd.returns (by simp) (hb hby d9_12) hr
    · show QE Z a w_depth h0 n0 _ T2.heap _
      rw [e2]
      exact ⟨by simp only [own_em, if_pos hc4_4], N0, rfl⟩
  · have pre6 : ∀ t, Steps p.tables e below (T2.setTop (mkF m 12 #[.val (.ref a)] [(.int (0 : Int32))])) t → Steps p.tables e below (s₁.setTop (entryFrame m #[(.ref a)] 1)) t := fun t k => pre3 t (by
      show Steps p.tables e below (T2.setTop (mkF m 4 #[.val (.ref a)] [(.int w_depth)])) _
      refine XS.ifYes X2.here hx rfl (pc0 := 4) (pc' := 11) rfl (hb hby d9_4) rfl ((if0 _ _).trans (feq hc4_4).2) (by decide) (by decide) ?_
      show Steps p.tables e below (T2.setTop (mkF m 11 #[.val (.ref a)] [])) _
      refine XS.iconst X2.here hx rfl (hb hby d9_11) ?_
      show Steps p.tables e below (T2.setTop (mkF m 12 #[.val (.ref a)] [(.int (0 : Int32))])) _
      exact k)
    obtain ⟨fs, hr, hrun, hended, hW, hsame⟩ := X2.leave (v := some (.int (0 : Int32))) (fun h => by rw [Bd.returns] at h; cases h) hlk
    refine ⟨_, _, pre6 _ ?_, hrun, hended, _, _, rfl, ?_, ⟨_, rfl⟩, hW, hsame.mono (by decide) (by decide)⟩
    · show Steps p.tables e below (T2.setTop (mkF m 12 #[.val (.ref a)] [(.int (0 : Int32))])) _
      exact retN X2 hx (t := .boolean) Bd.returns (by simp) (hb hby d9_12) hr
    · show QE Z a w_depth h0 n0 _ T2.heap _
      rw [e2]
      exact ⟨by simp only [own_em, if_neg hc4_4], N0, rfl⟩
theorem pd_0 : parseMethodDescriptor "(II)I" = some ⟨[.int, .int], some .int⟩ := by decide +kernel
theorem pd_1 : parseMethodDescriptor "()V" = some ⟨[], none⟩ := by decide +kernel
theorem pd_2 : parseMethodDescriptor "(IZ)V" = some ⟨[.int, .boolean], none⟩ := by decide +kernel
theorem pd_3 : parseMethodDescriptor "()I" = some ⟨[], some .int⟩ := by decide +kernel
theorem pd_4 : parseMethodDescriptor "()Z" = some ⟨[], some .boolean⟩ := by decide +kernel
theorem pn_OpenParenthesesClosePinLaw : plainName "com/example/mensura/mensura/parser/OpenParenthesesClosePinLaw" = true := by first | (simp [plainName, overriddenIn]; done) | decide +kernel
theorem ef_0 (m : MethodId) (p1 : Int32) (p2 : Int32) (p3 : Int32) : entryFrame m #[(.int p1), (.int p2), (.int p3)] maxLocals = mkF m 0 #[.val (.int p1), .val (.int p2), .val (.int p3), .unset, .unset, .unset, .unset, .unset, .unset, .unset, .unset, .unset] [] := by first | (simp [entryFrame, mkF, argsToLocals, Value.category, maxLocals]; done) | rfl
def lc0_0 (p1 : Int32) (p2 : Int32) (p3 : Int32) : Array Slot := #[.val (.int p1), .val (.int p2), .val (.int p3), .val (.int (own_x p1)), .val (.int (own_x p2)), .val (.int (own_a p1 p2)), .unset, .unset, .unset, .unset, .unset, .unset]
def lc0_1 (p1 : Int32) (p2 : Int32) (p3 : Int32) : Array Slot := #[.val (.int p1), .val (.int p2), .val (.int p3), .val (.int (own_x p1)), .val (.int (own_x p2)), .val (.int (own_a p1 p2)), .val (.int (own_b p1 p2)), .unset, .unset, .unset, .unset, .unset]
def lc0_2 (p1 : Int32) (p2 : Int32) (p3 : Int32) : Array Slot := #[.val (.int p1), .val (.int p2), .val (.int p3), .val (.int (own_x p1)), .val (.int (own_x p2)), .val (.int (own_a p1 p2)), .val (.int (own_b p1 p2)), .val (.int (if (p3 &&& (1 : Int32)) = (0 : Int32) then (0 : Int32) else (1 : Int32))), .unset, .unset, .unset, .unset]
def lc0_3 (p1 : Int32) (p2 : Int32) (p3 : Int32) : Array Slot := #[.val (.int p1), .val (.int p2), .val (.int p3), .val (.int (own_x p1)), .val (.int (own_x p2)), .val (.int (own_a p1 p2)), .val (.int (own_b p1 p2)), .val (.int (if (p3 &&& (1 : Int32)) = (0 : Int32) then (0 : Int32) else (1 : Int32))), .val (.int (if (p3 &&& (2 : Int32)) = (0 : Int32) then (0 : Int32) else (1 : Int32))), .unset, .unset, .unset]
def lc0_4 (p1 : Int32) (p2 : Int32) (p3 : Int32) (b17 : Addr) : Array Slot := #[.val (.int p1), .val (.int p2), .val (.int p3), .val (.int (own_x p1)), .val (.int (own_x p2)), .val (.int (own_a p1 p2)), .val (.int (own_b p1 p2)), .val (.int (if (p3 &&& (1 : Int32)) = (0 : Int32) then (0 : Int32) else (1 : Int32))), .val (.int (if (p3 &&& (2 : Int32)) = (0 : Int32) then (0 : Int32) else (1 : Int32))), .val (.ref b17), .unset, .unset]
def lc0_5 (p1 : Int32) (p2 : Int32) (p3 : Int32) (b17 : Addr) : Array Slot := #[.val (.int p1), .val (.int p2), .val (.int p3), .val (.int (own_x p1)), .val (.int (own_x p2)), .val (.int (own_a p1 p2)), .val (.int (own_b p1 p2)), .val (.int (if (p3 &&& (1 : Int32)) = (0 : Int32) then (0 : Int32) else (1 : Int32))), .val (.int (if (p3 &&& (2 : Int32)) = (0 : Int32) then (0 : Int32) else (1 : Int32))), .val (.ref b17), .val (.int (1 : Int32)), .unset]
def lc0_6 (p1 : Int32) (p2 : Int32) (p3 : Int32) (b17 : Addr) : Array Slot := #[.val (.int p1), .val (.int p2), .val (.int p3), .val (.int (own_x p1)), .val (.int (own_x p2)), .val (.int (own_a p1 p2)), .val (.int (own_b p1 p2)), .val (.int (if (p3 &&& (1 : Int32)) = (0 : Int32) then (0 : Int32) else (1 : Int32))), .val (.int (if (p3 &&& (2 : Int32)) = (0 : Int32) then (0 : Int32) else (1 : Int32))), .val (.ref b17), .val (.int (1 : Int32)), .val (.int (1 : Int32))]
def Q0 (Z : State) (p1 : Int32) (p2 : Int32) (p3 : Int32) (h0 : Heap) (n0 : Nat) (v : Option Value) (h : Heap) (L : List Loc) : Prop := v = some (.int (1 : Int32)) ∧ Fr n0 L
set_option maxRecDepth 65536 in
set_option maxHeartbeats 40000000 in
theorem rm0 (l : Launch) (Z : State) (a0 : Array Value) (hw : ∀ d ∈ tables_1, d.before a0 Z = true) (ws : List Jvm.Cond) (p1 : Int32) (p2 : Int32) (p3 : Int32) (h0 : Heap) (n0 : Nat) (Z0 : n0 ≤ h0.size) :
    MetFree l x (head1 (Jvm.Cond.code x code maxLocals ret :: ws) room_1) (fun aa U => aa = #[(.int p1), (.int p2), (.int p3)] ∧ Z.Warmed39 U.vm ∧ U.heap = h0) (fun _ _ _ _ _ => True) (fun _ U o U' => ∃ v L, o = .returned v ∧ Q0 Z p1 p2 p3 h0 n0 v U'.heap L ∧ FrameEnd U o U' L room_1.cells room_1.slots) := by
  refine MetFree.of_bodySF (plainFor_of_name pn_OpenParenthesesClosePinLaw) hisR ?_
  intro p e s m args below meth c s₁ Bd hml0 hP hK
  obtain ⟨rfl, hZ, hh⟩ := hP
  have hx := Bd.exec
  have hby := Bd.bytes
  have hml : c.maxLocals = 12 := hml0
  have hown : s.vm.findClass "com/example/mensura/mensura/parser/OpenParenthesesClosePinLaw" = some m.cls := findClass_of_methodNamed Bd.named
  have hnm := (name_of_methodNamed Bd.named Bd.method).1
  have X0 : Stand p l e room_1 s m #[(.int p1), (.int p2), (.int p3)] below meth c s₁ [] 0 0 := Stand.of_body Bd
  have e0 : s₁.heap = h0 := by rw [← hh, Bd.state]; rfl
  have N0 := Fr.nil n0
  have hlk : meth.locks = false := by first | exact BodyLoose.notSynchronized Bd | exact Body.notSynchronized Bd
  have pre0 : ∀ t, Steps p.tables e below (s₁.setTop (mkF m 0 #[.val (.int p1), .val (.int p2), .val (.int p3), .unset, .unset, .unset, .unset, .unset, .unset, .unset, .unset, .unset] [])) t → Steps p.tables e below (s₁.setTop (entryFrame m #[(.int p1), (.int p2), (.int p3)] maxLocals)) t := fun t k => castTop (ef_0 m p1 p2 p3) k
  have pre1 : ∀ t, Steps p.tables e below (s₁.setTop (mkF m 14 #[.val (.int p1), .val (.int p2), .val (.int p3), .val (.int (own_x p1)), .val (.int (own_x p2)), .unset, .unset, .unset, .unset, .unset, .unset, .unset] [(.int (own_x p2)), (.int (own_x p1))])) t → Steps p.tables e below (s₁.setTop (entryFrame m #[(.int p1), (.int p2), (.int p3)] maxLocals)) t := fun t k => pre0 t (by
    show Steps p.tables e below (s₁.setTop (mkF m 0 #[.val (.int p1), .val (.int p2), .val (.int p3), .unset, .unset, .unset, .unset, .unset, .unset, .unset, .unset, .unset] [])) _
    refine XS.iloadN X0.here hx rfl (hb hby at_0) rfl ?_
    show Steps p.tables e below (s₁.setTop (mkF m 1 #[.val (.int p1), .val (.int p2), .val (.int p3), .unset, .unset, .unset, .unset, .unset, .unset, .unset, .unset, .unset] [(.int p1)])) _
    refine X0.ldcInt hx hown (mvT hZ (hw _ (List.mem_of_getElem? (i := 0) rfl))) (g := (mkF m 1 #[.val (.int p1), .val (.int p2), .val (.int p3), .unset, .unset, .unset, .unset, .unset, .unset, .unset, .unset, .unset] [(.int p1)])) rfl (hb hby at_1) _ ?_
    show Steps p.tables e below (s₁.setTop (mkF m 3 #[.val (.int p1), .val (.int p2), .val (.int p3), .unset, .unset, .unset, .unset, .unset, .unset, .unset, .unset, .unset] [(.int (2147483647 : Int32)), (.int p1)])) _
    refine XS.iand X0.here hx rfl (hb hby at_3) rfl ?_
    show Steps p.tables e below (s₁.setTop (mkF m 4 #[.val (.int p1), .val (.int p2), .val (.int p3), .unset, .unset, .unset, .unset, .unset, .unset, .unset, .unset, .unset] [(.int (own_x p1))])) _
    refine XS.istoreN X0.here hx rfl (hb hby at_4) rfl (l' := #[.val (.int p1), .val (.int p2), .val (.int p3), .val (.int (own_x p1)), .unset, .unset, .unset, .unset, .unset, .unset, .unset, .unset]) rfl ?_
    show Steps p.tables e below (s₁.setTop (mkF m 5 #[.val (.int p1), .val (.int p2), .val (.int p3), .val (.int (own_x p1)), .unset, .unset, .unset, .unset, .unset, .unset, .unset, .unset] [])) _
    refine XS.iloadN X0.here hx rfl (hb hby at_5) rfl ?_
    show Steps p.tables e below (s₁.setTop (mkF m 6 #[.val (.int p1), .val (.int p2), .val (.int p3), .val (.int (own_x p1)), .unset, .unset, .unset, .unset, .unset, .unset, .unset, .unset] [(.int p2)])) _
    refine X0.ldcInt hx hown (mvT hZ (hw _ (List.mem_of_getElem? (i := 0) rfl))) (g := (mkF m 6 #[.val (.int p1), .val (.int p2), .val (.int p3), .val (.int (own_x p1)), .unset, .unset, .unset, .unset, .unset, .unset, .unset, .unset] [(.int p2)])) rfl (hb hby at_6) _ ?_
    show Steps p.tables e below (s₁.setTop (mkF m 8 #[.val (.int p1), .val (.int p2), .val (.int p3), .val (.int (own_x p1)), .unset, .unset, .unset, .unset, .unset, .unset, .unset, .unset] [(.int (2147483647 : Int32)), (.int p2)])) _
    refine XS.iand X0.here hx rfl (hb hby at_8) rfl ?_
    show Steps p.tables e below (s₁.setTop (mkF m 9 #[.val (.int p1), .val (.int p2), .val (.int p3), .val (.int (own_x p1)), .unset, .unset, .unset, .unset, .unset, .unset, .unset, .unset] [(.int (own_x p2))])) _
    refine XS.istore X0.here hx rfl (hb hby at_9) rfl (l' := #[.val (.int p1), .val (.int p2), .val (.int p3), .val (.int (own_x p1)), .val (.int (own_x p2)), .unset, .unset, .unset, .unset, .unset, .unset, .unset]) rfl ?_
    show Steps p.tables e below (s₁.setTop (mkF m 11 #[.val (.int p1), .val (.int p2), .val (.int p3), .val (.int (own_x p1)), .val (.int (own_x p2)), .unset, .unset, .unset, .unset, .unset, .unset, .unset] [])) _
    refine XS.iloadN X0.here hx rfl (hb hby at_11) rfl ?_
    show Steps p.tables e below (s₁.setTop (mkF m 12 #[.val (.int p1), .val (.int p2), .val (.int p3), .val (.int (own_x p1)), .val (.int (own_x p2)), .unset, .unset, .unset, .unset, .unset, .unset, .unset] [(.int (own_x p1))])) _
    refine XS.iload X0.here hx rfl (hb hby at_12) rfl ?_
    show Steps p.tables e below (s₁.setTop (mkF m 14 #[.val (.int p1), .val (.int p2), .val (.int p3), .val (.int (own_x p1)), .val (.int (own_x p2)), .unset, .unset, .unset, .unset, .unset, .unset, .unset] [(.int (own_x p2)), (.int (own_x p1))])) _
    exact k)
  obtain ⟨_, _, ⟨T2, L2, k2, n2⟩, -, X2, ⟨Lc2, hQ2, l2, y2, z2⟩, st2⟩ := Jvm.LawKit.callS X0 hx (y := (⟨"java/lang/Math", "min", "(II)I"⟩ : MethodName)) hown (mvT hZ (hw _ (List.mem_of_getElem? (i := 1) rfl))) (mvT hZ (hw _ (List.mem_of_getElem? (i := 2) rfl))) (mvT hZ (hw _ (List.mem_of_getElem? (i := 3) rfl))) (mvT hZ (hw _ (List.mem_of_getElem? (i := 4) rfl))) (by decide) (backOf (W := 0) (rmMin l Z a0 hw [] (own_x p1) (own_x p2) h0 n0 Z0) hZ (hw _ (List.mem_of_getElem? (i := 4) rfl)) (hw _ (List.mem_of_getElem? (i := 3) rfl)) (by decide) (by decide)) (g := (mkF m 14 #[.val (.int p1), .val (.int p2), .val (.int p3), .val (.int (own_x p1)), .val (.int (own_x p2)), .unset, .unset, .unset, .unset, .unset, .unset, .unset] [(.int (own_x p2)), (.int (own_x p1))])) rfl (by rw [hml]; rfl) (argsL := [(.int (own_x p1)), (.int (own_x p2))]) (rest := []) (lenOf pd_0 rfl) rfl (by show 2 * 0 + _ ≤ _; exact Nat.le_of_eq rfl) (hb hby at_14) (fun _ _ => ⟨rfl, e0, (by decide : 0 + 0 ≤ _), (by decide : 0 + 0 ≤ _)⟩)
  dsimp only [Pt.U, Pt.locs, Pt.cells, Pt.slots] at X2 l2 y2 z2 st2 hQ2
  subst l2 y2 z2
  obtain ⟨rfl, N2q, e2⟩ := hQ2
  have N2 := Fr.app N0 N2q
  have pre3 : ∀ t, Steps p.tables e below (T2.setTop (mkF m 17 #[.val (.int p1), .val (.int p2), .val (.int p3), .val (.int (own_x p1)), .val (.int (own_x p2)), .unset, .unset, .unset, .unset, .unset, .unset, .unset] [(.int (own_a p1 p2))])) t → Steps p.tables e below (s₁.setTop (entryFrame m #[(.int p1), (.int p2), (.int p3)] maxLocals)) t := fun t k => pre1 t (st2 t k)
  have pre4 : ∀ t, Steps p.tables e below (T2.setTop (mkF m 22 (lc0_0 p1 p2 p3) [(.int (own_x p2)), (.int (own_x p1))])) t → Steps p.tables e below (s₁.setTop (entryFrame m #[(.int p1), (.int p2), (.int p3)] maxLocals)) t := fun t k => pre3 t (by
    show Steps p.tables e below (T2.setTop (mkF m 17 #[.val (.int p1), .val (.int p2), .val (.int p3), .val (.int (own_x p1)), .val (.int (own_x p2)), .unset, .unset, .unset, .unset, .unset, .unset, .unset] [(.int (own_a p1 p2))])) _
    refine XS.istore X2.here hx rfl (hb hby at_17) rfl (l' := (lc0_0 p1 p2 p3)) rfl ?_
    show Steps p.tables e below (T2.setTop (mkF m 19 (lc0_0 p1 p2 p3) [])) _
    refine XS.iloadN X2.here hx rfl (hb hby at_19) rfl ?_
    show Steps p.tables e below (T2.setTop (mkF m 20 (lc0_0 p1 p2 p3) [(.int (own_x p1))])) _
    refine XS.iload X2.here hx rfl (hb hby at_20) rfl ?_
    show Steps p.tables e below (T2.setTop (mkF m 22 (lc0_0 p1 p2 p3) [(.int (own_x p2)), (.int (own_x p1))])) _
    exact k)
  obtain ⟨_, _, ⟨T5, L5, k5, n5⟩, -, X5, ⟨Lc5, hQ5, l5, y5, z5⟩, st5⟩ := Jvm.LawKit.callS X2 hx (y := (⟨"java/lang/Math", "max", "(II)I"⟩ : MethodName)) hown (mvT hZ (hw _ (List.mem_of_getElem? (i := 5) rfl))) (mvT hZ (hw _ (List.mem_of_getElem? (i := 6) rfl))) (mvT hZ (hw _ (List.mem_of_getElem? (i := 3) rfl))) (mvT hZ (hw _ (List.mem_of_getElem? (i := 7) rfl))) (by decide) (backOf (W := 0) (rmMax l Z a0 hw [] (own_x p1) (own_x p2) h0 n0 Z0) hZ (hw _ (List.mem_of_getElem? (i := 7) rfl)) (hw _ (List.mem_of_getElem? (i := 3) rfl)) (by decide) (by decide)) (g := (mkF m 22 (lc0_0 p1 p2 p3) [(.int (own_x p2)), (.int (own_x p1))])) rfl (by rw [hml]; rfl) (argsL := [(.int (own_x p1)), (.int (own_x p2))]) (rest := []) (lenOf pd_0 rfl) rfl (by show 2 * 0 + _ ≤ _; exact Nat.le_of_eq rfl) (hb hby at_22) (fun _ _ => ⟨rfl, e2, (by decide : 0 + 0 ≤ _), (by decide : 0 + 0 ≤ _)⟩)
  dsimp only [Pt.U, Pt.locs, Pt.cells, Pt.slots] at X5 l5 y5 z5 st5 hQ5
  subst l5 y5 z5
  obtain ⟨rfl, N5q, e5⟩ := hQ5
  have N5 := Fr.app N2 N5q
  have pre6 : ∀ t, Steps p.tables e below (T5.setTop (mkF m 25 (lc0_0 p1 p2 p3) [(.int (own_b p1 p2))])) t → Steps p.tables e below (s₁.setTop (entryFrame m #[(.int p1), (.int p2), (.int p3)] maxLocals)) t := fun t k => pre4 t (st5 t k)
  have pre7 : ∀ t, Steps p.tables e below (T5.setTop (mkF m 31 (lc0_1 p1 p2 p3) [(.int (own_b p1 p2)), (.int (own_a p1 p2))])) t → Steps p.tables e below (s₁.setTop (entryFrame m #[(.int p1), (.int p2), (.int p3)] maxLocals)) t := fun t k => pre6 t (by
    show Steps p.tables e below (T5.setTop (mkF m 25 (lc0_0 p1 p2 p3) [(.int (own_b p1 p2))])) _
    refine XS.istore X5.here hx rfl (hb hby at_25) rfl (l' := (lc0_1 p1 p2 p3)) rfl ?_
    show Steps p.tables e below (T5.setTop (mkF m 27 (lc0_1 p1 p2 p3) [])) _
    refine XS.iload X5.here hx rfl (hb hby at_27) rfl ?_
    show Steps p.tables e below (T5.setTop (mkF m 29 (lc0_1 p1 p2 p3) [(.int (own_a p1 p2))])) _
    refine XS.iload X5.here hx rfl (hb hby at_29) rfl ?_
    show Steps p.tables e below (T5.setTop (mkF m 31 (lc0_1 p1 p2 p3) [(.int (own_b p1 p2)), (.int (own_a p1 p2))])) _
    exact k)
  by_cases hc31_8 : (own_a p1 p2) = (own_b p1 p2)
  · have pre9 : ∀ t, Steps p.tables e below (T5.setTop (mkF m 35 (lc0_1 p1 p2 p3) [(.int (1 : Int32))])) t → Steps p.tables e below (s₁.setTop (entryFrame m #[(.int p1), (.int p2), (.int p3)] maxLocals)) t := fun t k => pre7 t (by
      show Steps p.tables e below (T5.setTop (mkF m 31 (lc0_1 p1 p2 p3) [(.int (own_b p1 p2)), (.int (own_a p1 p2))])) _
      refine XS.icmpNo X5.here hx rfl (hb hby at_31) rfl (teq hc31_8).2 ?_
      show Steps p.tables e below (T5.setTop (mkF m 34 (lc0_1 p1 p2 p3) [])) _
      refine XS.iconst X5.here hx rfl (hb hby at_34) ?_
      show Steps p.tables e below (T5.setTop (mkF m 35 (lc0_1 p1 p2 p3) [(.int (1 : Int32))])) _
      exact k)
    obtain ⟨fs, hr, hrun, hended, hW, hsame⟩ := X5.leave (v := some (.int (1 : Int32))) (fun h => by rw [Bd.returns] at h; cases h) hlk
    refine ⟨_, _, pre9 _ ?_, hrun, hended, _, _, rfl, ?_, ⟨_, rfl⟩, hW, hsame.mono (by decide) (by decide)⟩
    · show Steps p.tables e below (T5.setTop (mkF m 35 (lc0_1 p1 p2 p3) [(.int (1 : Int32))])) _
      exact retN X5 hx (t := .boolean) Bd.returns (by simp) (hb hby at_35) hr
    · show Q0 Z p1 p2 p3 h0 n0 _ T5.heap _
      rw [e5]
      exact ⟨rfl, N5⟩
  · have pre10 : ∀ t, Steps p.tables e below (T5.setTop (mkF m 39 (lc0_1 p1 p2 p3) [(.int (p3 &&& (1 : Int32)))])) t → Steps p.tables e below (s₁.setTop (entryFrame m #[(.int p1), (.int p2), (.int p3)] maxLocals)) t := fun t k => pre7 t (by
      show Steps p.tables e below (T5.setTop (mkF m 31 (lc0_1 p1 p2 p3) [(.int (own_b p1 p2)), (.int (own_a p1 p2))])) _
      refine XS.icmpYes X5.here hx rfl (pc0 := 31) (pc' := 36) rfl (hb hby at_31) rfl (feq hc31_8).2 (by decide) (by decide) ?_
      show Steps p.tables e below (T5.setTop (mkF m 36 (lc0_1 p1 p2 p3) [])) _
      refine XS.iloadN X5.here hx rfl (hb hby at_36) rfl ?_
      show Steps p.tables e below (T5.setTop (mkF m 37 (lc0_1 p1 p2 p3) [(.int p3)])) _
      refine XS.iconst X5.here hx rfl (hb hby at_37) ?_
      show Steps p.tables e below (T5.setTop (mkF m 38 (lc0_1 p1 p2 p3) [(.int (1 : Int32)), (.int p3)])) _
      refine XS.iand X5.here hx rfl (hb hby at_38) rfl ?_
      show Steps p.tables e below (T5.setTop (mkF m 39 (lc0_1 p1 p2 p3) [(.int (p3 &&& (1 : Int32)))])) _
      exact k)
    have pre12 : ∀ t, Steps p.tables e below (T5.setTop (mkF m 47 (lc0_1 p1 p2 p3) [(.int (if (p3 &&& (1 : Int32)) = (0 : Int32) then (0 : Int32) else (1 : Int32)))])) t → Steps p.tables e below (s₁.setTop (entryFrame m #[(.int p1), (.int p2), (.int p3)] maxLocals)) t := fun t k => pre10 t (by
      show Steps p.tables e below (T5.setTop (mkF m 39 (lc0_1 p1 p2 p3) [(.int (p3 &&& (1 : Int32)))])) _
      by_cases hm39_11 : (p3 &&& (1 : Int32)) = (0 : Int32)
      · refine XS.ifYes X5.here hx rfl (pc0 := 39) (pc' := 46) rfl (hb hby at_39) rfl ((if0 _ _).trans (teq hm39_11).1) (by decide) (by decide) ?_
        show Steps p.tables e below (T5.setTop (mkF m 46 (lc0_1 p1 p2 p3) [])) _
        refine XS.iconst X5.here hx rfl (hb hby at_46) ?_
        show Steps p.tables e below (T5.setTop (mkF m 47 (lc0_1 p1 p2 p3) [(.int (0 : Int32))])) _
        have q : (if (p3 &&& (1 : Int32)) = (0 : Int32) then (0 : Int32) else (1 : Int32)) = (0 : Int32) := by simp only [if_pos hm39_11]
        exact Eq.subst (motive := fun xI => Steps p.tables e below (T5.setTop (mkF m 47 (lc0_1 p1 p2 p3) [(.int xI)])) t) q k
      · refine XS.ifNo X5.here hx rfl (hb hby at_39) rfl ((if0 _ _).trans (feq hm39_11).1) ?_
        show Steps p.tables e below (T5.setTop (mkF m 42 (lc0_1 p1 p2 p3) [])) _
        refine XS.iconst X5.here hx rfl (hb hby at_42) ?_
        show Steps p.tables e below (T5.setTop (mkF m 43 (lc0_1 p1 p2 p3) [(.int (1 : Int32))])) _
        refine XS.goto X5.here hx rfl (pc0 := 43) (pc' := 47) rfl (hb hby at_43) (by decide) (by decide) ?_
        show Steps p.tables e below (T5.setTop (mkF m 47 (lc0_1 p1 p2 p3) [(.int (1 : Int32))])) _
        have q : (if (p3 &&& (1 : Int32)) = (0 : Int32) then (0 : Int32) else (1 : Int32)) = (1 : Int32) := by simp only [if_neg hm39_11]
        exact Eq.subst (motive := fun xI => Steps p.tables e below (T5.setTop (mkF m 47 (lc0_1 p1 p2 p3) [(.int xI)])) t) q k)
    have pre13 : ∀ t, Steps p.tables e below (T5.setTop (mkF m 52 (lc0_2 p1 p2 p3) [(.int (p3 &&& (2 : Int32)))])) t → Steps p.tables e below (s₁.setTop (entryFrame m #[(.int p1), (.int p2), (.int p3)] maxLocals)) t := fun t k => pre12 t (by
      show Steps p.tables e below (T5.setTop (mkF m 47 (lc0_1 p1 p2 p3) [(.int (if (p3 &&& (1 : Int32)) = (0 : Int32) then (0 : Int32) else (1 : Int32)))])) _
      refine XS.istore X5.here hx rfl (hb hby at_47) rfl (l' := (lc0_2 p1 p2 p3)) rfl ?_
      show Steps p.tables e below (T5.setTop (mkF m 49 (lc0_2 p1 p2 p3) [])) _
      refine XS.iloadN X5.here hx rfl (hb hby at_49) rfl ?_
      show Steps p.tables e below (T5.setTop (mkF m 50 (lc0_2 p1 p2 p3) [(.int p3)])) _
      refine XS.iconst X5.here hx rfl (hb hby at_50) ?_
      show Steps p.tables e below (T5.setTop (mkF m 51 (lc0_2 p1 p2 p3) [(.int (2 : Int32)), (.int p3)])) _
      refine XS.iand X5.here hx rfl (hb hby at_51) rfl ?_
      show Steps p.tables e below (T5.setTop (mkF m 52 (lc0_2 p1 p2 p3) [(.int (p3 &&& (2 : Int32)))])) _
      exact k)
    have pre15 : ∀ t, Steps p.tables e below (T5.setTop (mkF m 60 (lc0_2 p1 p2 p3) [(.int (if (p3 &&& (2 : Int32)) = (0 : Int32) then (0 : Int32) else (1 : Int32)))])) t → Steps p.tables e below (s₁.setTop (entryFrame m #[(.int p1), (.int p2), (.int p3)] maxLocals)) t := fun t k => pre13 t (by
      show Steps p.tables e below (T5.setTop (mkF m 52 (lc0_2 p1 p2 p3) [(.int (p3 &&& (2 : Int32)))])) _
      by_cases hm52_14 : (p3 &&& (2 : Int32)) = (0 : Int32)
      · refine XS.ifYes X5.here hx rfl (pc0 := 52) (pc' := 59) rfl (hb hby at_52) rfl ((if0 _ _).trans (teq hm52_14).1) (by decide) (by decide) ?_
        show Steps p.tables e below (T5.setTop (mkF m 59 (lc0_2 p1 p2 p3) [])) _
        refine XS.iconst X5.here hx rfl (hb hby at_59) ?_
        show Steps p.tables e below (T5.setTop (mkF m 60 (lc0_2 p1 p2 p3) [(.int (0 : Int32))])) _
        have q : (if (p3 &&& (2 : Int32)) = (0 : Int32) then (0 : Int32) else (1 : Int32)) = (0 : Int32) := by simp only [if_pos hm52_14]
        exact Eq.subst (motive := fun xI => Steps p.tables e below (T5.setTop (mkF m 60 (lc0_2 p1 p2 p3) [(.int xI)])) t) q k
      · refine XS.ifNo X5.here hx rfl (hb hby at_52) rfl ((if0 _ _).trans (feq hm52_14).1) ?_
        show Steps p.tables e below (T5.setTop (mkF m 55 (lc0_2 p1 p2 p3) [])) _
        refine XS.iconst X5.here hx rfl (hb hby at_55) ?_
        show Steps p.tables e below (T5.setTop (mkF m 56 (lc0_2 p1 p2 p3) [(.int (1 : Int32))])) _
        refine XS.goto X5.here hx rfl (pc0 := 56) (pc' := 60) rfl (hb hby at_56) (by decide) (by decide) ?_
        show Steps p.tables e below (T5.setTop (mkF m 60 (lc0_2 p1 p2 p3) [(.int (1 : Int32))])) _
        have q : (if (p3 &&& (2 : Int32)) = (0 : Int32) then (0 : Int32) else (1 : Int32)) = (1 : Int32) := by simp only [if_neg hm52_14]
        exact Eq.subst (motive := fun xI => Steps p.tables e below (T5.setTop (mkF m 60 (lc0_2 p1 p2 p3) [(.int xI)])) t) q k)
    have pre16 : ∀ t, Steps p.tables e below (T5.setTop (mkF m 62 (lc0_3 p1 p2 p3) [])) t → Steps p.tables e below (s₁.setTop (entryFrame m #[(.int p1), (.int p2), (.int p3)] maxLocals)) t := fun t k => pre15 t (by
      show Steps p.tables e below (T5.setTop (mkF m 60 (lc0_2 p1 p2 p3) [(.int (if (p3 &&& (2 : Int32)) = (0 : Int32) then (0 : Int32) else (1 : Int32)))])) _
      refine XS.istore X5.here hx rfl (hb hby at_60) rfl (l' := (lc0_3 p1 p2 p3)) rfl ?_
      show Steps p.tables e below (T5.setTop (mkF m 62 (lc0_3 p1 p2 p3) [])) _
      exact k)
    obtain ⟨T17, h17, X17, e17, E17, A17, D17, -, st17⟩ := newO X5 hx hZ hown (hw _ (List.mem_of_getElem? (i := 8) rfl)) (hw _ (List.mem_of_getElem? (i := 9) rfl)) (hw _ (List.mem_of_getElem? (i := 10) rfl)) e5 (g := (mkF m 62 (lc0_3 p1 p2 p3) [])) rfl (hb hby at_62) (by decide) (by decide)
    obtain ⟨b17, g17⟩ : ∃ z, z = h0.size := ⟨_, rfl⟩
    rw [← g17] at A17 D17 st17
    have g_b17 : n0 ≤ b17 := Nat.le_trans Z0 (Nat.le_of_eq g17.symm)
    have Z17 : n0 ≤ h17.size := Nat.le_trans Z0 E17.1
    have E_b17 := A17
    have F_b17_groups : Fld Z h17 b17 "com/example/mensura/mensura/parser/OpenParentheses" "groups" "[B" .null := D17 (Or.inl (hw _ (List.mem_of_getElem? (i := 19) rfl))) (ty := (.array .byte)) (by decide)
    have F_b17_innermost : Fld Z h17 b17 "com/example/mensura/mensura/parser/OpenParentheses" "innermost" "I" (.int (0 : Int32)) := D17 (Or.inl (hw _ (List.mem_of_getElem? (i := 21) rfl))) (ty := .int) (by decide)
    have F_b17_size : Fld Z h17 b17 "com/example/mensura/mensura/parser/OpenParentheses" "size" "I" (.int (0 : Int32)) := D17 (Or.inl (hw _ (List.mem_of_getElem? (i := 28) rfl))) (ty := .int) (by decide)
    have F_b17_depth : Fld Z h17 b17 "com/example/mensura/mensura/parser/OpenParentheses" "depth" "I" (.int (0 : Int32)) := D17 (Or.inl (hw _ (List.mem_of_getElem? (i := 30) rfl))) (ty := .int) (by decide)
    have pre18 : ∀ t, Steps p.tables e below (T17.setTop (mkF m 65 (lc0_3 p1 p2 p3) [(.ref b17)])) t → Steps p.tables e below (s₁.setTop (entryFrame m #[(.int p1), (.int p2), (.int p3)] maxLocals)) t := fun t k => pre16 t (st17 t k)
    have pre19 : ∀ t, Steps p.tables e below (T17.setTop (mkF m 66 (lc0_3 p1 p2 p3) [(.ref b17), (.ref b17)])) t → Steps p.tables e below (s₁.setTop (entryFrame m #[(.int p1), (.int p2), (.int p3)] maxLocals)) t := fun t k => pre18 t (by
      show Steps p.tables e below (T17.setTop (mkF m 65 (lc0_3 p1 p2 p3) [(.ref b17)])) _
      refine XS.dup X17.here hx rfl (hb hby at_65) rfl rfl ?_
      show Steps p.tables e below (T17.setTop (mkF m 66 (lc0_3 p1 p2 p3) [(.ref b17), (.ref b17)])) _
      exact k)
    obtain ⟨_, _, ⟨T20, L20, k20, n20⟩, -, X20, ⟨Lc20, hQ20, l20, y20, z20⟩, st20⟩ := X17.specialBack hx (y := (⟨"com/example/mensura/mensura/parser/OpenParentheses", "<init>", "()V"⟩ : MethodName)) rfl hown (mvT hZ (hw _ (List.mem_of_getElem? (i := 11) rfl))) (mvT hZ (hw _ (List.mem_of_getElem? (i := 12) rfl))) (mvT hZ (hw _ (List.mem_of_getElem? (i := 13) rfl))) (by decide) (backOf (W := 1) (rmI l Z a0 hw [] b17 h17 n0 Z17 E_b17 F_b17_groups F_b17_size F_b17_innermost F_b17_depth g_b17) hZ (hw _ (List.mem_of_getElem? (i := 13) rfl)) (hw _ (List.mem_of_getElem? (i := 10) rfl)) (by decide) (by decide)) (g := (mkF m 66 (lc0_3 p1 p2 p3) [(.ref b17), (.ref b17)])) rfl (by rw [hml]; rfl) (Steps.refl _) (a := b17) (argsL := []) (rest := [(.ref b17)]) (lenOf pd_1 rfl) rfl (by show 2 * 0 + _ ≤ _; exact Nat.le_of_eq rfl) (hb hby at_66) (fun _ _ => ⟨rfl, e17, (by decide : 1 + 1 ≤ _), (by decide : 4 + 16 ≤ _)⟩)
    dsimp only [Pt.U, Pt.locs, Pt.cells, Pt.slots] at X20 l20 y20 z20 st20 hQ20
    subst l20 y20 z20
    obtain ⟨rfl, N20q, K20, b20, zb20, u201, u202, u203, u204, u205⟩ := hQ20
    have ne_b17_b20 : b17 ≠ b20 := Nat.ne_of_lt (Nat.lt_of_lt_of_le E_b17.lt zb20)
    have g_b20 : n0 ≤ b20 := Nat.le_trans Z17 zb20
    have E_b17 := E_b17.keep K20
    have Z20 : n0 ≤ T20.heap.size := Nat.le_trans Z17 K20.1
    have F_b17_groups := u201
    have A_b20 := u202
    have F_b17_size := u203
    have F_b17_innermost := u204
    have F_b17_depth := u205
    have N20 := Fr.app N5 N20q
    have pre21 : ∀ t, Steps p.tables e below (T20.setTop (mkF m 69 (lc0_3 p1 p2 p3) [(.ref b17)])) t → Steps p.tables e below (s₁.setTop (entryFrame m #[(.int p1), (.int p2), (.int p3)] maxLocals)) t := fun t k => pre19 t (st20.trans k)
    have pre22 : ∀ t, Steps p.tables e below (T20.setTop (mkF m 77 (lc0_4 p1 p2 p3 b17) [(.int (if (p3 &&& (1 : Int32)) = (0 : Int32) then (0 : Int32) else (1 : Int32))), (.int (own_a p1 p2)), (.ref b17)])) t → Steps p.tables e below (s₁.setTop (entryFrame m #[(.int p1), (.int p2), (.int p3)] maxLocals)) t := fun t k => pre21 t (by
      show Steps p.tables e below (T20.setTop (mkF m 69 (lc0_3 p1 p2 p3) [(.ref b17)])) _
      refine XS.astore X20.here hx rfl (hb hby at_69) rfl rfl (l' := (lc0_4 p1 p2 p3 b17)) rfl ?_
      show Steps p.tables e below (T20.setTop (mkF m 71 (lc0_4 p1 p2 p3 b17) [])) _
      refine XS.aload X20.here hx rfl (hb hby at_71) rfl rfl ?_
      show Steps p.tables e below (T20.setTop (mkF m 73 (lc0_4 p1 p2 p3 b17) [(.ref b17)])) _
      refine XS.iload X20.here hx rfl (hb hby at_73) rfl ?_
      show Steps p.tables e below (T20.setTop (mkF m 75 (lc0_4 p1 p2 p3 b17) [(.int (own_a p1 p2)), (.ref b17)])) _
      refine XS.iload X20.here hx rfl (hb hby at_75) rfl ?_
      show Steps p.tables e below (T20.setTop (mkF m 77 (lc0_4 p1 p2 p3 b17) [(.int (if (p3 &&& (1 : Int32)) = (0 : Int32) then (0 : Int32) else (1 : Int32))), (.int (own_a p1 p2)), (.ref b17)])) _
      exact k)
    have hs23 : own_R (0 : Int32) 11 := ⟨by decide, by decide⟩
    have hc23 : (own_code (own_a p1 p2) (-1 : Int32) (if (p3 &&& (1 : Int32)) = (0 : Int32) then (0 : Int32) else (1 : Int32))).toBitVec.toNat < 2 ^ 35 := own_cb _ _ _ (own_diff1 p1 p2 hc31_8)
    obtain ⟨cq23, kq23, q23a, q23b, q23c⟩ := isOf hZ rfl E_b17
    obtain ⟨_, _, ⟨T23, L23, k23, n23⟩, -, X23, ⟨Lc23, hQ23, l23, y23, z23⟩, st23⟩ := X20.virtualBack hx (y := (⟨"com/example/mensura/mensura/parser/OpenParentheses", "open", "(IZ)V"⟩ : MethodName)) (z := (⟨"com/example/mensura/mensura/parser/OpenParentheses", "open", "(IZ)V"⟩ : MethodName)) hown (mvT hZ (hw _ (List.mem_of_getElem? (i := 22) rfl))) (mvT hZ (hw _ (List.mem_of_getElem? (i := 23) rfl))) (notFace_of_selects (args := #[]) (mvT hZ (hw _ (List.mem_of_getElem? (i := 25) rfl)))) (mvT hZ (hw _ (List.mem_of_getElem? (i := 25) rfl))) (mvT hZ (hw _ (List.mem_of_getElem? (i := 24) rfl))) (by decide) (backOf (W := 0) (rmO l Z a0 hw [] b17 (own_a p1 p2) (if (p3 &&& (1 : Int32)) = (0 : Int32) then (0 : Int32) else (1 : Int32)) (fun _ => (0 : Int32)) b20 (0 : Int32) (-1 : Int32) (0 : Int32) T20.heap n0 Z20 E_b17 F_b17_groups F_b17_size F_b17_innermost F_b17_depth g_b17 A_b20 g_b20 ne_b17_b20 hs23 hc23) hZ (hw _ (List.mem_of_getElem? (i := 26) rfl)) (hw _ (List.mem_of_getElem? (i := 10) rfl)) (by decide) (by decide)) q23a q23c (g := (mkF m 77 (lc0_4 p1 p2 p3 b17) [(.int (if (p3 &&& (1 : Int32)) = (0 : Int32) then (0 : Int32) else (1 : Int32))), (.int (own_a p1 p2)), (.ref b17)])) rfl (by rw [hml]; rfl) (Steps.refl _) (argsL := [(.int (own_a p1 p2)), (.int (if (p3 &&& (1 : Int32)) = (0 : Int32) then (0 : Int32) else (1 : Int32)))]) (rest := []) (lenOf pd_2 rfl) rfl (by show 2 * 0 + _ ≤ _; exact Nat.le_of_eq rfl) (hb hby at_77) (fun _ _ => ⟨rfl, rfl, (by decide : 2 + 0 ≤ _), (by decide : 20 + 0 ≤ _)⟩)
    dsimp only [Pt.U, Pt.locs, Pt.cells, Pt.slots] at X23 l23 y23 z23 st23 hQ23
    subst l23 y23 z23
    obtain ⟨rfl, N23q, K23, ⟨gg23, u230, hp23⟩, u231, u232, u233, u234⟩ := hQ23
    have E_b17 := E_b17.keep K23
    have Z23 : n0 ≤ T23.heap.size := Nat.le_trans Z20 K23.1
    have A_b20 := u230
    have F_b17_groups : Fld Z T23.heap b17 "com/example/mensura/mensura/parser/OpenParentheses" "groups" "[B" (.ref b20) := u231
    have F_b17_size : Fld Z T23.heap b17 "com/example/mensura/mensura/parser/OpenParentheses" "size" "I" (.int (own_sk (0 : Int32) (own_m (own_code (own_a p1 p2) (-1 : Int32) (if (p3 &&& (1 : Int32)) = (0 : Int32) then (0 : Int32) else (1 : Int32)))))) := u232
    have F_b17_innermost : Fld Z T23.heap b17 "com/example/mensura/mensura/parser/OpenParentheses" "innermost" "I" (.int (own_a p1 p2)) := u233
    have F_b17_depth : Fld Z T23.heap b17 "com/example/mensura/mensura/parser/OpenParentheses" "depth" "I" (.int (1 : Int32)) := u234
    have N23 := Fr.app N20 N23q
    have pre24 : ∀ t, Steps p.tables e below (T23.setTop (mkF m 80 (lc0_4 p1 p2 p3 b17) [])) t → Steps p.tables e below (s₁.setTop (entryFrame m #[(.int p1), (.int p2), (.int p3)] maxLocals)) t := fun t k => pre22 t (st23.trans k)
    have pre25 : ∀ t, Steps p.tables e below (T23.setTop (mkF m 86 (lc0_4 p1 p2 p3 b17) [(.int (if (p3 &&& (2 : Int32)) = (0 : Int32) then (0 : Int32) else (1 : Int32))), (.int (own_b p1 p2)), (.ref b17)])) t → Steps p.tables e below (s₁.setTop (entryFrame m #[(.int p1), (.int p2), (.int p3)] maxLocals)) t := fun t k => pre24 t (by
      show Steps p.tables e below (T23.setTop (mkF m 80 (lc0_4 p1 p2 p3 b17) [])) _
      refine XS.aload X23.here hx rfl (hb hby at_80) rfl rfl ?_
      show Steps p.tables e below (T23.setTop (mkF m 82 (lc0_4 p1 p2 p3 b17) [(.ref b17)])) _
      refine XS.iload X23.here hx rfl (hb hby at_82) rfl ?_
      show Steps p.tables e below (T23.setTop (mkF m 84 (lc0_4 p1 p2 p3 b17) [(.int (own_b p1 p2)), (.ref b17)])) _
      refine XS.iload X23.here hx rfl (hb hby at_84) rfl ?_
      show Steps p.tables e below (T23.setTop (mkF m 86 (lc0_4 p1 p2 p3 b17) [(.int (if (p3 &&& (2 : Int32)) = (0 : Int32) then (0 : Int32) else (1 : Int32))), (.int (own_b p1 p2)), (.ref b17)])) _
      exact k)
    have hs26 : own_R (own_sk (0 : Int32) (own_m (own_code (own_a p1 p2) (-1 : Int32) (if (p3 &&& (1 : Int32)) = (0 : Int32) then (0 : Int32) else (1 : Int32))))) 11 := (own_skR (B := 0) ⟨by decide, by decide⟩ (by decide) _).mono (by decide)
    have hc26 : (own_code (own_b p1 p2) (own_a p1 p2) (if (p3 &&& (2 : Int32)) = (0 : Int32) then (0 : Int32) else (1 : Int32))).toBitVec.toNat < 2 ^ 35 := own_cb _ _ _ (own_diff2 p1 p2 hc31_8)
    obtain ⟨cq26, kq26, q26a, q26b, q26c⟩ := isOf hZ rfl E_b17
    obtain ⟨_, _, ⟨T26, L26, k26, n26⟩, -, X26, ⟨Lc26, hQ26, l26, y26, z26⟩, st26⟩ := X23.virtualBack hx (y := (⟨"com/example/mensura/mensura/parser/OpenParentheses", "open", "(IZ)V"⟩ : MethodName)) (z := (⟨"com/example/mensura/mensura/parser/OpenParentheses", "open", "(IZ)V"⟩ : MethodName)) hown (mvT hZ (hw _ (List.mem_of_getElem? (i := 22) rfl))) (mvT hZ (hw _ (List.mem_of_getElem? (i := 23) rfl))) (notFace_of_selects (args := #[]) (mvT hZ (hw _ (List.mem_of_getElem? (i := 25) rfl)))) (mvT hZ (hw _ (List.mem_of_getElem? (i := 25) rfl))) (mvT hZ (hw _ (List.mem_of_getElem? (i := 24) rfl))) (by decide) (backOf (W := 0) (rmO l Z a0 hw [] b17 (own_b p1 p2) (if (p3 &&& (2 : Int32)) = (0 : Int32) then (0 : Int32) else (1 : Int32)) gg23 b20 (own_sk (0 : Int32) (own_m (own_code (own_a p1 p2) (-1 : Int32) (if (p3 &&& (1 : Int32)) = (0 : Int32) then (0 : Int32) else (1 : Int32))))) (own_a p1 p2) (1 : Int32) T23.heap n0 Z23 E_b17 F_b17_groups F_b17_size F_b17_innermost F_b17_depth g_b17 A_b20 g_b20 ne_b17_b20 hs26 hc26) hZ (hw _ (List.mem_of_getElem? (i := 26) rfl)) (hw _ (List.mem_of_getElem? (i := 10) rfl)) (by decide) (by decide)) q26a q26c (g := (mkF m 86 (lc0_4 p1 p2 p3 b17) [(.int (if (p3 &&& (2 : Int32)) = (0 : Int32) then (0 : Int32) else (1 : Int32))), (.int (own_b p1 p2)), (.ref b17)])) rfl (by rw [hml]; rfl) (Steps.refl _) (argsL := [(.int (own_b p1 p2)), (.int (if (p3 &&& (2 : Int32)) = (0 : Int32) then (0 : Int32) else (1 : Int32)))]) (rest := []) (lenOf pd_2 rfl) rfl (by show 2 * 0 + _ ≤ _; exact Nat.le_of_eq rfl) (hb hby at_86) (fun _ _ => ⟨rfl, rfl, (by decide : 2 + 0 ≤ _), (by decide : 20 + 0 ≤ _)⟩)
    dsimp only [Pt.U, Pt.locs, Pt.cells, Pt.slots] at X26 l26 y26 z26 st26 hQ26
    subst l26 y26 z26
    obtain ⟨rfl, N26q, K26, ⟨gg26, u260, hp26⟩, u261, u262, u263, u264⟩ := hQ26
    have E_b17 := E_b17.keep K26
    have Z26 : n0 ≤ T26.heap.size := Nat.le_trans Z23 K26.1
    have A_b20 := u260
    have F_b17_groups : Fld Z T26.heap b17 "com/example/mensura/mensura/parser/OpenParentheses" "groups" "[B" (.ref b20) := u261
    have F_b17_size : Fld Z T26.heap b17 "com/example/mensura/mensura/parser/OpenParentheses" "size" "I" (.int (own_sk (own_sk (0 : Int32) (own_m (own_code (own_a p1 p2) (-1 : Int32) (if (p3 &&& (1 : Int32)) = (0 : Int32) then (0 : Int32) else (1 : Int32))))) (own_m (own_code (own_b p1 p2) (own_a p1 p2) (if (p3 &&& (2 : Int32)) = (0 : Int32) then (0 : Int32) else (1 : Int32)))))) := u262
    have F_b17_innermost : Fld Z T26.heap b17 "com/example/mensura/mensura/parser/OpenParentheses" "innermost" "I" (.int (own_b p1 p2)) := u263
    have F_b17_depth : Fld Z T26.heap b17 "com/example/mensura/mensura/parser/OpenParentheses" "depth" "I" (.int (2 : Int32)) := u264
    have N26 := Fr.app N23 N26q
    have pre27 : ∀ t, Steps p.tables e below (T26.setTop (mkF m 89 (lc0_4 p1 p2 p3 b17) [])) t → Steps p.tables e below (s₁.setTop (entryFrame m #[(.int p1), (.int p2), (.int p3)] maxLocals)) t := fun t k => pre25 t (st26.trans k)
    have pre28 : ∀ t, Steps p.tables e below (T26.setTop (mkF m 91 (lc0_4 p1 p2 p3 b17) [(.ref b17)])) t → Steps p.tables e below (s₁.setTop (entryFrame m #[(.int p1), (.int p2), (.int p3)] maxLocals)) t := fun t k => pre27 t (by
      show Steps p.tables e below (T26.setTop (mkF m 89 (lc0_4 p1 p2 p3 b17) [])) _
      refine XS.aload X26.here hx rfl (hb hby at_89) rfl rfl ?_
      show Steps p.tables e below (T26.setTop (mkF m 91 (lc0_4 p1 p2 p3 b17) [(.ref b17)])) _
      exact k)
    have ht29 := own_top_of hs26 hp26
    obtain ⟨cq29, kq29, q29a, q29b, q29c⟩ := isOf hZ rfl E_b17
    obtain ⟨_, _, ⟨T29, L29, k29, n29⟩, -, X29, ⟨Lc29, hQ29, l29, y29, z29⟩, st29⟩ := X26.virtualBack hx (y := (⟨"com/example/mensura/mensura/parser/OpenParentheses", "close", "()V"⟩ : MethodName)) (z := (⟨"com/example/mensura/mensura/parser/OpenParentheses", "close", "()V"⟩ : MethodName)) hown (mvT hZ (hw _ (List.mem_of_getElem? (i := 31) rfl))) (mvT hZ (hw _ (List.mem_of_getElem? (i := 32) rfl))) (notFace_of_selects (args := #[]) (mvT hZ (hw _ (List.mem_of_getElem? (i := 34) rfl)))) (mvT hZ (hw _ (List.mem_of_getElem? (i := 34) rfl))) (mvT hZ (hw _ (List.mem_of_getElem? (i := 33) rfl))) (by decide) (backOf (W := 0) (rmC l Z a0 hw [] b17 gg26 (own_code (own_b p1 p2) (own_a p1 p2) (if (p3 &&& (2 : Int32)) = (0 : Int32) then (0 : Int32) else (1 : Int32))) b20 (own_sk (own_sk (0 : Int32) (own_m (own_code (own_a p1 p2) (-1 : Int32) (if (p3 &&& (1 : Int32)) = (0 : Int32) then (0 : Int32) else (1 : Int32))))) (own_m (own_code (own_b p1 p2) (own_a p1 p2) (if (p3 &&& (2 : Int32)) = (0 : Int32) then (0 : Int32) else (1 : Int32))))) (own_b p1 p2) (2 : Int32) T26.heap n0 Z26 E_b17 F_b17_groups F_b17_size F_b17_innermost F_b17_depth g_b17 A_b20 ne_b17_b20 ht29 hc26) hZ (hw _ (List.mem_of_getElem? (i := 35) rfl)) (hw _ (List.mem_of_getElem? (i := 10) rfl)) (by decide) (by decide)) q29a q29c (g := (mkF m 91 (lc0_4 p1 p2 p3 b17) [(.ref b17)])) rfl (by rw [hml]; rfl) (Steps.refl _) (argsL := []) (rest := []) (lenOf pd_1 rfl) rfl (by show 2 * 0 + _ ≤ _; exact Nat.le_of_eq rfl) (hb hby at_91) (fun _ _ => ⟨rfl, rfl, (by decide : 2 + 0 ≤ _), (by decide : 20 + 0 ≤ _)⟩)
    dsimp only [Pt.U, Pt.locs, Pt.cells, Pt.slots] at X29 l29 y29 z29 st29 hQ29
    subst l29 y29 z29
    obtain ⟨rfl, N29q, K29, u290, u291, u292, u293⟩ := hQ29
    have E_b17 := E_b17.keep K29
    have A_b20 := A_b20.keep K29 (ninS (Ne.symm ne_b17_b20) nin0)
    have Z29 : n0 ≤ T29.heap.size := Nat.le_trans Z26 K29.1
    have F_b17_groups : Fld Z T29.heap b17 "com/example/mensura/mensura/parser/OpenParentheses" "groups" "[B" (.ref b20) := u290
    rw [own_dksk hs26 (own_code (own_b p1 p2) (own_a p1 p2) (if (p3 &&& (2 : Int32)) = (0 : Int32) then (0 : Int32) else (1 : Int32)))] at u291
    rw [own_back] at u292
    have F_b17_size : Fld Z T29.heap b17 "com/example/mensura/mensura/parser/OpenParentheses" "size" "I" (.int (own_sk (0 : Int32) (own_m (own_code (own_a p1 p2) (-1 : Int32) (if (p3 &&& (1 : Int32)) = (0 : Int32) then (0 : Int32) else (1 : Int32)))))) := u291
    have F_b17_innermost : Fld Z T29.heap b17 "com/example/mensura/mensura/parser/OpenParentheses" "innermost" "I" (.int (own_a p1 p2)) := u292
    have F_b17_depth : Fld Z T29.heap b17 "com/example/mensura/mensura/parser/OpenParentheses" "depth" "I" (.int (1 : Int32)) := u293
    have N29 := Fr.app N26 N29q
    have pre30 : ∀ t, Steps p.tables e below (T29.setTop (mkF m 94 (lc0_4 p1 p2 p3 b17) [])) t → Steps p.tables e below (s₁.setTop (entryFrame m #[(.int p1), (.int p2), (.int p3)] maxLocals)) t := fun t k => pre28 t (st29.trans k)
    have pre31 : ∀ t, Steps p.tables e below (T29.setTop (mkF m 96 (lc0_4 p1 p2 p3 b17) [(.ref b17)])) t → Steps p.tables e below (s₁.setTop (entryFrame m #[(.int p1), (.int p2), (.int p3)] maxLocals)) t := fun t k => pre30 t (by
      show Steps p.tables e below (T29.setTop (mkF m 94 (lc0_4 p1 p2 p3 b17) [])) _
      refine XS.aload X29.here hx rfl (hb hby at_94) rfl rfl ?_
      show Steps p.tables e below (T29.setTop (mkF m 96 (lc0_4 p1 p2 p3 b17) [(.ref b17)])) _
      exact k)
    obtain ⟨cq32, kq32, q32a, q32b, q32c⟩ := isOf hZ rfl E_b17
    obtain ⟨_, _, ⟨T32, L32, k32, n32⟩, -, X32, ⟨Lc32, hQ32, l32, y32, z32⟩, st32⟩ := X29.virtualBack hx (y := (⟨"com/example/mensura/mensura/parser/OpenParentheses", "innermost", "()I"⟩ : MethodName)) (z := (⟨"com/example/mensura/mensura/parser/OpenParentheses", "innermost", "()I"⟩ : MethodName)) hown (mvT hZ (hw _ (List.mem_of_getElem? (i := 36) rfl))) (mvT hZ (hw _ (List.mem_of_getElem? (i := 37) rfl))) (notFace_of_selects (args := #[]) (mvT hZ (hw _ (List.mem_of_getElem? (i := 39) rfl)))) (mvT hZ (hw _ (List.mem_of_getElem? (i := 39) rfl))) (mvT hZ (hw _ (List.mem_of_getElem? (i := 38) rfl))) (by decide) (backOf (W := 0) (rmN l Z a0 hw [] b17 (own_a p1 p2) T29.heap n0 Z29 E_b17 F_b17_innermost) hZ (hw _ (List.mem_of_getElem? (i := 40) rfl)) (hw _ (List.mem_of_getElem? (i := 10) rfl)) (by decide) (by decide)) q32a q32c (g := (mkF m 96 (lc0_4 p1 p2 p3 b17) [(.ref b17)])) rfl (by rw [hml]; rfl) (Steps.refl _) (argsL := []) (rest := []) (lenOf pd_3 rfl) rfl (by show 2 * 0 + _ ≤ _; exact Nat.le_of_eq rfl) (hb hby at_96) (fun _ _ => ⟨rfl, rfl, (by decide : 2 + 0 ≤ _), (by decide : 20 + 0 ≤ _)⟩)
    dsimp only [Pt.U, Pt.locs, Pt.cells, Pt.slots] at X32 l32 y32 z32 st32 hQ32
    subst l32 y32 z32
    obtain ⟨rfl, N32q, e32⟩ := hQ32
    have N32 := Fr.app N29 N32q
    have pre33 : ∀ t, Steps p.tables e below (T32.setTop (mkF m 99 (lc0_4 p1 p2 p3 b17) [(.int (own_a p1 p2))])) t → Steps p.tables e below (s₁.setTop (entryFrame m #[(.int p1), (.int p2), (.int p3)] maxLocals)) t := fun t k => pre31 t (st32.trans k)
    have pre34 : ∀ t, Steps p.tables e below (T32.setTop (mkF m 106 (lc0_4 p1 p2 p3 b17) [(.ref b17)])) t → Steps p.tables e below (s₁.setTop (entryFrame m #[(.int p1), (.int p2), (.int p3)] maxLocals)) t := fun t k => pre33 t (by
      show Steps p.tables e below (T32.setTop (mkF m 99 (lc0_4 p1 p2 p3 b17) [(.int (own_a p1 p2))])) _
      refine XS.iload X32.here hx rfl (hb hby at_99) rfl ?_
      show Steps p.tables e below (T32.setTop (mkF m 101 (lc0_4 p1 p2 p3 b17) [(.int (own_a p1 p2)), (.int (own_a p1 p2))])) _
      refine XS.icmpNo X32.here hx rfl (hb hby at_101) rfl (teq rfl).2 ?_
      show Steps p.tables e below (T32.setTop (mkF m 104 (lc0_4 p1 p2 p3 b17) [])) _
      refine XS.aload X32.here hx rfl (hb hby at_104) rfl rfl ?_
      show Steps p.tables e below (T32.setTop (mkF m 106 (lc0_4 p1 p2 p3 b17) [(.ref b17)])) _
      exact k)
    have ht35 := own_top_of hs23 hp23
    have ht35 := own_top_below ht35 hp26
    obtain ⟨cq35, kq35, q35a, q35b, q35c⟩ := isOf hZ e32 E_b17
    obtain ⟨_, _, ⟨T35, L35, k35, n35⟩, -, X35, ⟨Lc35, hQ35, l35, y35, z35⟩, st35⟩ := X32.virtualBack hx (y := (⟨"com/example/mensura/mensura/parser/OpenParentheses", "innermostInverted", "()Z"⟩ : MethodName)) (z := (⟨"com/example/mensura/mensura/parser/OpenParentheses", "innermostInverted", "()Z"⟩ : MethodName)) hown (mvT hZ (hw _ (List.mem_of_getElem? (i := 41) rfl))) (mvT hZ (hw _ (List.mem_of_getElem? (i := 42) rfl))) (notFace_of_selects (args := #[]) (mvT hZ (hw _ (List.mem_of_getElem? (i := 44) rfl)))) (mvT hZ (hw _ (List.mem_of_getElem? (i := 44) rfl))) (mvT hZ (hw _ (List.mem_of_getElem? (i := 43) rfl))) (by decide) (backOf (W := 0) (rmV l Z a0 hw [] b17 gg26 (own_code (own_a p1 p2) (-1 : Int32) (if (p3 &&& (1 : Int32)) = (0 : Int32) then (0 : Int32) else (1 : Int32))) b20 (own_sk (0 : Int32) (own_m (own_code (own_a p1 p2) (-1 : Int32) (if (p3 &&& (1 : Int32)) = (0 : Int32) then (0 : Int32) else (1 : Int32))))) T29.heap n0 Z29 E_b17 F_b17_groups F_b17_size A_b20 ht35) hZ (hw _ (List.mem_of_getElem? (i := 45) rfl)) (hw _ (List.mem_of_getElem? (i := 10) rfl)) (by decide) (by decide)) q35a q35c (g := (mkF m 106 (lc0_4 p1 p2 p3 b17) [(.ref b17)])) rfl (by rw [hml]; rfl) (Steps.refl _) (argsL := []) (rest := []) (lenOf pd_4 rfl) rfl (by show 2 * 0 + _ ≤ _; exact Nat.le_of_eq rfl) (hb hby at_106) (fun _ _ => ⟨rfl, e32, (by decide : 2 + 0 ≤ _), (by decide : 20 + 0 ≤ _)⟩)
    dsimp only [Pt.U, Pt.locs, Pt.cells, Pt.slots] at X35 l35 y35 z35 st35 hQ35
    subst l35 y35 z35
    obtain ⟨rfl, N35q, e35⟩ := hQ35
    have N35 := Fr.app N32 N35q
    have pre36 : ∀ t, Steps p.tables e below (T35.setTop (mkF m 109 (lc0_4 p1 p2 p3 b17) [(.int (own_iv (own_code (own_a p1 p2) (-1 : Int32) (if (p3 &&& (1 : Int32)) = (0 : Int32) then (0 : Int32) else (1 : Int32)))))])) t → Steps p.tables e below (s₁.setTop (entryFrame m #[(.int p1), (.int p2), (.int p3)] maxLocals)) t := fun t k => pre34 t (st35.trans k)
    have pre37 : ∀ t, Steps p.tables e below (T35.setTop (mkF m 116 (lc0_4 p1 p2 p3 b17) [(.ref b17)])) t → Steps p.tables e below (s₁.setTop (entryFrame m #[(.int p1), (.int p2), (.int p3)] maxLocals)) t := fun t k => pre36 t (by
      show Steps p.tables e below (T35.setTop (mkF m 109 (lc0_4 p1 p2 p3 b17) [(.int (own_iv (own_code (own_a p1 p2) (-1 : Int32) (if (p3 &&& (1 : Int32)) = (0 : Int32) then (0 : Int32) else (1 : Int32)))))])) _
      refine XS.iload X35.here hx rfl (hb hby at_109) rfl ?_
      show Steps p.tables e below (T35.setTop (mkF m 111 (lc0_4 p1 p2 p3 b17) [(.int (if (p3 &&& (1 : Int32)) = (0 : Int32) then (0 : Int32) else (1 : Int32))), (.int (own_iv (own_code (own_a p1 p2) (-1 : Int32) (if (p3 &&& (1 : Int32)) = (0 : Int32) then (0 : Int32) else (1 : Int32)))))])) _
      refine XS.icmpNo X35.here hx rfl (hb hby at_111) rfl (teq (show (own_iv (own_code (own_a p1 p2) (-1 : Int32) (if (p3 &&& (1 : Int32)) = (0 : Int32) then (0 : Int32) else (1 : Int32)))) = (if (p3 &&& (1 : Int32)) = (0 : Int32) then (0 : Int32) else (1 : Int32)) from own_flag _ _ _)).2 ?_
      show Steps p.tables e below (T35.setTop (mkF m 114 (lc0_4 p1 p2 p3 b17) [])) _
      refine XS.aload X35.here hx rfl (hb hby at_114) rfl rfl ?_
      show Steps p.tables e below (T35.setTop (mkF m 116 (lc0_4 p1 p2 p3 b17) [(.ref b17)])) _
      exact k)
    obtain ⟨cq38, kq38, q38a, q38b, q38c⟩ := isOf hZ e35 E_b17
    obtain ⟨_, _, ⟨T38, L38, k38, n38⟩, -, X38, ⟨Lc38, hQ38, l38, y38, z38⟩, st38⟩ := X35.virtualBack hx (y := (⟨"com/example/mensura/mensura/parser/OpenParentheses", "isEmpty", "()Z"⟩ : MethodName)) (z := (⟨"com/example/mensura/mensura/parser/OpenParentheses", "isEmpty", "()Z"⟩ : MethodName)) hown (mvT hZ (hw _ (List.mem_of_getElem? (i := 46) rfl))) (mvT hZ (hw _ (List.mem_of_getElem? (i := 47) rfl))) (notFace_of_selects (args := #[]) (mvT hZ (hw _ (List.mem_of_getElem? (i := 49) rfl)))) (mvT hZ (hw _ (List.mem_of_getElem? (i := 49) rfl))) (mvT hZ (hw _ (List.mem_of_getElem? (i := 48) rfl))) (by decide) (backOf (W := 0) (rmE l Z a0 hw [] b17 (1 : Int32) T29.heap n0 Z29 E_b17 F_b17_depth) hZ (hw _ (List.mem_of_getElem? (i := 50) rfl)) (hw _ (List.mem_of_getElem? (i := 10) rfl)) (by decide) (by decide)) q38a q38c (g := (mkF m 116 (lc0_4 p1 p2 p3 b17) [(.ref b17)])) rfl (by rw [hml]; rfl) (Steps.refl _) (argsL := []) (rest := []) (lenOf pd_4 rfl) rfl (by show 2 * 0 + _ ≤ _; exact Nat.le_of_eq rfl) (hb hby at_116) (fun _ _ => ⟨rfl, e35, (by decide : 2 + 0 ≤ _), (by decide : 20 + 0 ≤ _)⟩)
    dsimp only [Pt.U, Pt.locs, Pt.cells, Pt.slots] at X38 l38 y38 z38 st38 hQ38
    subst l38 y38 z38
    obtain ⟨rfl, N38q, e38⟩ := hQ38
    have N38 := Fr.app N35 N38q
    have pre39 : ∀ t, Steps p.tables e below (T38.setTop (mkF m 119 (lc0_4 p1 p2 p3 b17) [(.int (0 : Int32))])) t → Steps p.tables e below (s₁.setTop (entryFrame m #[(.int p1), (.int p2), (.int p3)] maxLocals)) t := fun t k => pre37 t (st38.trans k)
    have pre40 : ∀ t, Steps p.tables e below (T38.setTop (mkF m 131 (lc0_5 p1 p2 p3 b17) [(.ref b17)])) t → Steps p.tables e below (s₁.setTop (entryFrame m #[(.int p1), (.int p2), (.int p3)] maxLocals)) t := fun t k => pre39 t (by
      show Steps p.tables e below (T38.setTop (mkF m 119 (lc0_4 p1 p2 p3 b17) [(.int (0 : Int32))])) _
      refine XS.ifNo X38.here hx rfl (hb hby at_119) rfl ((if0 _ _).trans (teq (by decide)).2) ?_
      show Steps p.tables e below (T38.setTop (mkF m 122 (lc0_4 p1 p2 p3 b17) [])) _
      refine XS.iconst X38.here hx rfl (hb hby at_122) ?_
      show Steps p.tables e below (T38.setTop (mkF m 123 (lc0_4 p1 p2 p3 b17) [(.int (1 : Int32))])) _
      refine XS.goto X38.here hx rfl (pc0 := 123) (pc' := 127) rfl (hb hby at_123) (by decide) (by decide) ?_
      show Steps p.tables e below (T38.setTop (mkF m 127 (lc0_4 p1 p2 p3 b17) [(.int (1 : Int32))])) _
      refine XS.istore X38.here hx rfl (hb hby at_127) rfl (l' := (lc0_5 p1 p2 p3 b17)) rfl ?_
      show Steps p.tables e below (T38.setTop (mkF m 129 (lc0_5 p1 p2 p3 b17) [])) _
      refine XS.aload X38.here hx rfl (hb hby at_129) rfl rfl ?_
      show Steps p.tables e below (T38.setTop (mkF m 131 (lc0_5 p1 p2 p3 b17) [(.ref b17)])) _
      exact k)
    have ht41 := own_top_of hs23 hp23
    have ht41 := own_top_below ht41 hp26
    obtain ⟨cq41, kq41, q41a, q41b, q41c⟩ := isOf hZ e38 E_b17
    obtain ⟨_, _, ⟨T41, L41, k41, n41⟩, -, X41, ⟨Lc41, hQ41, l41, y41, z41⟩, st41⟩ := X38.virtualBack hx (y := (⟨"com/example/mensura/mensura/parser/OpenParentheses", "close", "()V"⟩ : MethodName)) (z := (⟨"com/example/mensura/mensura/parser/OpenParentheses", "close", "()V"⟩ : MethodName)) hown (mvT hZ (hw _ (List.mem_of_getElem? (i := 31) rfl))) (mvT hZ (hw _ (List.mem_of_getElem? (i := 32) rfl))) (notFace_of_selects (args := #[]) (mvT hZ (hw _ (List.mem_of_getElem? (i := 34) rfl)))) (mvT hZ (hw _ (List.mem_of_getElem? (i := 34) rfl))) (mvT hZ (hw _ (List.mem_of_getElem? (i := 33) rfl))) (by decide) (backOf (W := 0) (rmC l Z a0 hw [] b17 gg26 (own_code (own_a p1 p2) (-1 : Int32) (if (p3 &&& (1 : Int32)) = (0 : Int32) then (0 : Int32) else (1 : Int32))) b20 (own_sk (0 : Int32) (own_m (own_code (own_a p1 p2) (-1 : Int32) (if (p3 &&& (1 : Int32)) = (0 : Int32) then (0 : Int32) else (1 : Int32))))) (own_a p1 p2) (1 : Int32) T29.heap n0 Z29 E_b17 F_b17_groups F_b17_size F_b17_innermost F_b17_depth g_b17 A_b20 ne_b17_b20 ht41 hc23) hZ (hw _ (List.mem_of_getElem? (i := 35) rfl)) (hw _ (List.mem_of_getElem? (i := 10) rfl)) (by decide) (by decide)) q41a q41c (g := (mkF m 131 (lc0_5 p1 p2 p3 b17) [(.ref b17)])) rfl (by rw [hml]; rfl) (Steps.refl _) (argsL := []) (rest := []) (lenOf pd_1 rfl) rfl (by show 2 * 0 + _ ≤ _; exact Nat.le_of_eq rfl) (hb hby at_131) (fun _ _ => ⟨rfl, e38, (by decide : 2 + 0 ≤ _), (by decide : 20 + 0 ≤ _)⟩)
    dsimp only [Pt.U, Pt.locs, Pt.cells, Pt.slots] at X41 l41 y41 z41 st41 hQ41
    subst l41 y41 z41
    obtain ⟨rfl, N41q, K41, u410, u411, u412, u413⟩ := hQ41
    have E_b17 := E_b17.keep K41
    have A_b20 := A_b20.keep K41 (ninS (Ne.symm ne_b17_b20) nin0)
    have Z41 : n0 ≤ T41.heap.size := Nat.le_trans Z29 K41.1
    have F_b17_groups : Fld Z T41.heap b17 "com/example/mensura/mensura/parser/OpenParentheses" "groups" "[B" (.ref b20) := u410
    rw [own_dksk hs23 (own_code (own_a p1 p2) (-1 : Int32) (if (p3 &&& (1 : Int32)) = (0 : Int32) then (0 : Int32) else (1 : Int32)))] at u411
    rw [own_back] at u412
    have F_b17_size : Fld Z T41.heap b17 "com/example/mensura/mensura/parser/OpenParentheses" "size" "I" (.int (0 : Int32)) := u411
    have F_b17_innermost : Fld Z T41.heap b17 "com/example/mensura/mensura/parser/OpenParentheses" "innermost" "I" (.int (-1 : Int32)) := u412
    have F_b17_depth : Fld Z T41.heap b17 "com/example/mensura/mensura/parser/OpenParentheses" "depth" "I" (.int (0 : Int32)) := u413
    have N41 := Fr.app N38 N41q
    have pre42 : ∀ t, Steps p.tables e below (T41.setTop (mkF m 134 (lc0_5 p1 p2 p3 b17) [])) t → Steps p.tables e below (s₁.setTop (entryFrame m #[(.int p1), (.int p2), (.int p3)] maxLocals)) t := fun t k => pre40 t (st41.trans k)
    have pre43 : ∀ t, Steps p.tables e below (T41.setTop (mkF m 136 (lc0_5 p1 p2 p3 b17) [(.ref b17)])) t → Steps p.tables e below (s₁.setTop (entryFrame m #[(.int p1), (.int p2), (.int p3)] maxLocals)) t := fun t k => pre42 t (by
      show Steps p.tables e below (T41.setTop (mkF m 134 (lc0_5 p1 p2 p3 b17) [])) _
      refine XS.aload X41.here hx rfl (hb hby at_134) rfl rfl ?_
      show Steps p.tables e below (T41.setTop (mkF m 136 (lc0_5 p1 p2 p3 b17) [(.ref b17)])) _
      exact k)
    obtain ⟨cq44, kq44, q44a, q44b, q44c⟩ := isOf hZ rfl E_b17
    obtain ⟨_, _, ⟨T44, L44, k44, n44⟩, -, X44, ⟨Lc44, hQ44, l44, y44, z44⟩, st44⟩ := X41.virtualBack hx (y := (⟨"com/example/mensura/mensura/parser/OpenParentheses", "isEmpty", "()Z"⟩ : MethodName)) (z := (⟨"com/example/mensura/mensura/parser/OpenParentheses", "isEmpty", "()Z"⟩ : MethodName)) hown (mvT hZ (hw _ (List.mem_of_getElem? (i := 46) rfl))) (mvT hZ (hw _ (List.mem_of_getElem? (i := 47) rfl))) (notFace_of_selects (args := #[]) (mvT hZ (hw _ (List.mem_of_getElem? (i := 49) rfl)))) (mvT hZ (hw _ (List.mem_of_getElem? (i := 49) rfl))) (mvT hZ (hw _ (List.mem_of_getElem? (i := 48) rfl))) (by decide) (backOf (W := 0) (rmE l Z a0 hw [] b17 (0 : Int32) T41.heap n0 Z41 E_b17 F_b17_depth) hZ (hw _ (List.mem_of_getElem? (i := 50) rfl)) (hw _ (List.mem_of_getElem? (i := 10) rfl)) (by decide) (by decide)) q44a q44c (g := (mkF m 136 (lc0_5 p1 p2 p3 b17) [(.ref b17)])) rfl (by rw [hml]; rfl) (Steps.refl _) (argsL := []) (rest := []) (lenOf pd_4 rfl) rfl (by show 2 * 0 + _ ≤ _; exact Nat.le_of_eq rfl) (hb hby at_136) (fun _ _ => ⟨rfl, rfl, (by decide : 2 + 0 ≤ _), (by decide : 20 + 0 ≤ _)⟩)
    dsimp only [Pt.U, Pt.locs, Pt.cells, Pt.slots] at X44 l44 y44 z44 st44 hQ44
    subst l44 y44 z44
    obtain ⟨rfl, N44q, e44⟩ := hQ44
    have N44 := Fr.app N41 N44q
    have pre45 : ∀ t, Steps p.tables e below (T44.setTop (mkF m 139 (lc0_5 p1 p2 p3 b17) [(.int (1 : Int32))])) t → Steps p.tables e below (s₁.setTop (entryFrame m #[(.int p1), (.int p2), (.int p3)] maxLocals)) t := fun t k => pre43 t (st44.trans k)
    have pre46 : ∀ t, Steps p.tables e below (T44.setTop (mkF m 144 (lc0_5 p1 p2 p3 b17) [(.ref b17)])) t → Steps p.tables e below (s₁.setTop (entryFrame m #[(.int p1), (.int p2), (.int p3)] maxLocals)) t := fun t k => pre45 t (by
      show Steps p.tables e below (T44.setTop (mkF m 139 (lc0_5 p1 p2 p3 b17) [(.int (1 : Int32))])) _
      refine XS.ifNo X44.here hx rfl (hb hby at_139) rfl ((if0 _ _).trans (feq (by decide)).1) ?_
      show Steps p.tables e below (T44.setTop (mkF m 142 (lc0_5 p1 p2 p3 b17) [])) _
      refine XS.aload X44.here hx rfl (hb hby at_142) rfl rfl ?_
      show Steps p.tables e below (T44.setTop (mkF m 144 (lc0_5 p1 p2 p3 b17) [(.ref b17)])) _
      exact k)
    obtain ⟨cq47, kq47, q47a, q47b, q47c⟩ := isOf hZ e44 E_b17
    obtain ⟨_, _, ⟨T47, L47, k47, n47⟩, -, X47, ⟨Lc47, hQ47, l47, y47, z47⟩, st47⟩ := X44.virtualBack hx (y := (⟨"com/example/mensura/mensura/parser/OpenParentheses", "innermost", "()I"⟩ : MethodName)) (z := (⟨"com/example/mensura/mensura/parser/OpenParentheses", "innermost", "()I"⟩ : MethodName)) hown (mvT hZ (hw _ (List.mem_of_getElem? (i := 36) rfl))) (mvT hZ (hw _ (List.mem_of_getElem? (i := 37) rfl))) (notFace_of_selects (args := #[]) (mvT hZ (hw _ (List.mem_of_getElem? (i := 39) rfl)))) (mvT hZ (hw _ (List.mem_of_getElem? (i := 39) rfl))) (mvT hZ (hw _ (List.mem_of_getElem? (i := 38) rfl))) (by decide) (backOf (W := 0) (rmN l Z a0 hw [] b17 (-1 : Int32) T41.heap n0 Z41 E_b17 F_b17_innermost) hZ (hw _ (List.mem_of_getElem? (i := 40) rfl)) (hw _ (List.mem_of_getElem? (i := 10) rfl)) (by decide) (by decide)) q47a q47c (g := (mkF m 144 (lc0_5 p1 p2 p3 b17) [(.ref b17)])) rfl (by rw [hml]; rfl) (Steps.refl _) (argsL := []) (rest := []) (lenOf pd_3 rfl) rfl (by show 2 * 0 + _ ≤ _; exact Nat.le_of_eq rfl) (hb hby at_144) (fun _ _ => ⟨rfl, e44, (by decide : 2 + 0 ≤ _), (by decide : 20 + 0 ≤ _)⟩)
    dsimp only [Pt.U, Pt.locs, Pt.cells, Pt.slots] at X47 l47 y47 z47 st47 hQ47
    subst l47 y47 z47
    obtain ⟨rfl, N47q, e47⟩ := hQ47
    have N47 := Fr.app N44 N47q
    have pre48 : ∀ t, Steps p.tables e below (T47.setTop (mkF m 147 (lc0_5 p1 p2 p3 b17) [(.int (-1 : Int32))])) t → Steps p.tables e below (s₁.setTop (entryFrame m #[(.int p1), (.int p2), (.int p3)] maxLocals)) t := fun t k => pre46 t (st47.trans k)
    have pre49 : ∀ t, Steps p.tables e below (T47.setTop (mkF m 173 (lc0_6 p1 p2 p3 b17) [(.int (1 : Int32))])) t → Steps p.tables e below (s₁.setTop (entryFrame m #[(.int p1), (.int p2), (.int p3)] maxLocals)) t := fun t k => pre48 t (by
      show Steps p.tables e below (T47.setTop (mkF m 147 (lc0_5 p1 p2 p3 b17) [(.int (-1 : Int32))])) _
      refine XS.iconst X47.here hx rfl (hb hby at_147) ?_
      show Steps p.tables e below (T47.setTop (mkF m 148 (lc0_5 p1 p2 p3 b17) [(.int (-1 : Int32)), (.int (-1 : Int32))])) _
      refine XS.icmpNo X47.here hx rfl (hb hby at_148) rfl (teq (by decide)).2 ?_
      show Steps p.tables e below (T47.setTop (mkF m 151 (lc0_5 p1 p2 p3 b17) [])) _
      refine XS.iconst X47.here hx rfl (hb hby at_151) ?_
      show Steps p.tables e below (T47.setTop (mkF m 152 (lc0_5 p1 p2 p3 b17) [(.int (1 : Int32))])) _
      refine XS.goto X47.here hx rfl (pc0 := 152) (pc' := 156) rfl (hb hby at_152) (by decide) (by decide) ?_
      show Steps p.tables e below (T47.setTop (mkF m 156 (lc0_5 p1 p2 p3 b17) [(.int (1 : Int32))])) _
      refine XS.istore X47.here hx rfl (hb hby at_156) rfl (l' := (lc0_6 p1 p2 p3 b17)) rfl ?_
      show Steps p.tables e below (T47.setTop (mkF m 158 (lc0_6 p1 p2 p3 b17) [])) _
      refine XS.iload X47.here hx rfl (hb hby at_158) rfl ?_
      show Steps p.tables e below (T47.setTop (mkF m 160 (lc0_6 p1 p2 p3 b17) [(.int (1 : Int32))])) _
      refine XS.ifNo X47.here hx rfl (hb hby at_160) rfl ((if0 _ _).trans (feq (by decide)).1) ?_
      show Steps p.tables e below (T47.setTop (mkF m 163 (lc0_6 p1 p2 p3 b17) [])) _
      refine XS.iload X47.here hx rfl (hb hby at_163) rfl ?_
      show Steps p.tables e below (T47.setTop (mkF m 165 (lc0_6 p1 p2 p3 b17) [(.int (1 : Int32))])) _
      refine XS.ifNo X47.here hx rfl (hb hby at_165) rfl ((if0 _ _).trans (feq (by decide)).1) ?_
      show Steps p.tables e below (T47.setTop (mkF m 168 (lc0_6 p1 p2 p3 b17) [])) _
      refine XS.iconst X47.here hx rfl (hb hby at_168) ?_
      show Steps p.tables e below (T47.setTop (mkF m 169 (lc0_6 p1 p2 p3 b17) [(.int (1 : Int32))])) _
      refine XS.goto X47.here hx rfl (pc0 := 169) (pc' := 173) rfl (hb hby at_169) (by decide) (by decide) ?_
      show Steps p.tables e below (T47.setTop (mkF m 173 (lc0_6 p1 p2 p3 b17) [(.int (1 : Int32))])) _
      exact k)
    obtain ⟨fs, hr, hrun, hended, hW, hsame⟩ := X47.leave (v := some (.int (1 : Int32))) (fun h => by rw [Bd.returns] at h; cases h) hlk
    refine ⟨_, _, pre49 _ ?_, hrun, hended, _, _, rfl, ?_, ⟨_, rfl⟩, hW, hsame.mono (by decide) (by decide)⟩
    · show Steps p.tables e below (T47.setTop (mkF m 173 (lc0_6 p1 p2 p3 b17) [(.int (1 : Int32))])) _
      exact retN X47 hx (t := .boolean) Bd.returns (by simp) (hb hby at_173) hr
    · show Q0 Z p1 p2 p3 h0 n0 _ T47.heap _
      rw [e47]
      exact ⟨rfl, N47⟩
set_option maxRecDepth 65536 in
set_option maxHeartbeats 40000000 in
theorem comes_1 {Post : Tables → Env → Array Value → State → Outcome → State → Prop} (hpost : ∀ tb e args s v u, (limb_1_1.after args s (.returned v) u = true ∧ limb_1_2.after args s (.returned v) u = true ∧ True) → FrameEnd s (.returned v) u (Jvm.fieldLocs frame_1_writes args s ++ Jvm.arrayLocs frame_1_arrays args s ++ Jvm.staticLocs frame_1_statics s) 16 128 → Post tb e args s (.returned v) u) :
    ArmFor flags0 classFile x code maxLocals ret World_1 tables_1 room_1 Calls_1 rest_1 Pre_1 Post := by
  intro l hfl _ _ p e ha hc hk s m args below hf hA hF happ hP
  obtain ⟨hcalls, hrest, hpre⟩ := hP
  obtain ⟨-, -, -, hnamed, -, -, -, hat⟩ := (Spec.applies_iff hf).mp happ
  obtain ⟨hg, hn⟩ := and_e (Cond.before_iff.mp (show (Jvm.Cond.and given_1 narrow_1).before args s = true from hpre))
  obtain ⟨hcnt, g0⟩ := and_e hg
  obtain ⟨k0, g1⟩ := and_e g0
  obtain ⟨k1, g2⟩ := and_e g1
  have k2 := g2
  obtain ⟨w0, w1, w2, rfl⟩ : ∃ w0 w1 w2 : Value, args = #[w0, w1, w2] := by
    have hs : args.size = 3 := by simpa [Cond.value, given_1] using hcnt
    obtain ⟨L⟩ := args
    match L, hs with
    | [w0, w1, w2], _ => exact ⟨w0, w1, w2, rfl⟩
  have hw := fun d (hd : d ∈ tables_1) => atoms_spec (ws := Jvm.Cond.code x code maxLocals ret :: tables_1) hat d (List.mem_cons_of_mem _ hd)
  obtain ⟨i0, ei0⟩ := is_v k0
  obtain rfl : w0 = (.int i0) := Option.some.inj ei0
  obtain ⟨i1, ei1⟩ := is_v k1
  obtain rfl : w1 = (.int i1) := Option.some.inj ei1
  obtain ⟨i2, ei2⟩ := is_v k2
  obtain rfl : w2 = (.int i2) := Option.some.inj ei2
  obtain ⟨n, o, h1, h2, h3, _, L, rfl, ⟨rfl, N⟩, hq⟩ := rm0 l s _ hw tables_1 i0 i1 i2 s.heap s.heap.size (Nat.le_refl _) p e ha hc hk s m _ below hf ((Spec.applies_iff_loose hf).mp happ).1 ⟨rfl, State.Warmed39.refl s, rfl⟩ trivial
  refine ⟨n, _, h1, h2, h3, hpost _ _ _ _ _ _ ⟨Cond.after_iff.mpr rfl, Cond.after_iff.mpr (eq_i res_at (Term.int_eval (1)) rfl), trivial⟩ ⟨hq.1, hq.2.1, (hq.2.2.sift fun y hy => Or.inr (N y hy)).mono (by decide) (by decide)⟩⟩
theorem main_1_1 : Claimed_1_1 := comes_1 fun _ _ _ _ _ _ h hF => ⟨h.1, hF⟩
theorem main_1_2 : Claimed_1_2 := comes_1 fun _ _ _ _ _ _ h hF => ⟨h.2.1, hF⟩
end Jvm.Pilot.@@N@@
namespace Jvm.Pilot.@@N@@
open Jvm Jvm.ClassFile Sem Op Lib Jvm.Free Jvm.Stand Jvm.Pilot.@@N@@.Jvm.D
/-! MADE BY PROGRAM (witnessworld.py) out of the Statement's table words and the real class files: 10 classes; the members and pool entries that the words name. The judged class is class 1, her method 1. -/
namespace start1
open Jvm.ClassFile
def u (s : String) : CpInfo := .utf8 (stringToUtf16 s)
/-- a pool by its gaps: so many unusable entries, then the entry; so many at the end -/
def gap : Nat → List CpInfo → List CpInfo
  | 0, r => r
  | n + 1, r => .unusable :: gap n r
def poolList (es : List (Nat × CpInfo)) (last : Nat) : List CpInfo := es.foldr (fun e r => gap e.1 (e.2 :: r)) (gap last [])
def pool (es : List (Nat × CpInfo)) (last : Nat) : Array CpInfo := ⟨poolList es last⟩
def fileOf (pool : Array CpInfo) (this : Nat) (attrs : Array Attribute := #[]) (ms : Array MethodInfo := #[]) (fl : Nat := 33) (sup : Nat := 0) (ifs : Array Nat := #[]) (fds : Array FieldInfo := #[]) : ClassFile where
  minorVersion := 0
  majorVersion := 65
  constantPool := pool
  accessFlags := fl
  thisClass := this
  superClass := sup
  interfaces := ifs
  fields := fds
  methods := ms
  attributes := attrs
def plain (name : String) (sup : Option ClassId) : Class where
  name := name
  kind := .ordinary
  loader := none
  accessFlags := 33
  super := sup
  interfaces := #[]
  cf := none
  fields := #[]
  methods := #[]
  instanceTypes := #[]
  staticTypes := #[]
  resolved := #[]
  callSites := []
  init := .initialized
  statics := none
  mirror := none

def pool0 : Array CpInfo := pool [(5, u "<init>"), (0, u "()V"), (1, .class_ 10), (1, u "java/lang/Object")] 113

def k0c0 : Code := { maxStack := 0, maxLocals := 1, code := object_method_1_code, exceptionTable := #[], attributes := #[] }
def k0m0 : Method := { name := "<init>", desc := "()V", sig := { parameters := [], returnType := none }, accessFlags := 1, code := some k0c0 }
/-- java/lang/Object -/
def k0 : Class := { plain "java/lang/Object" none with
  accessFlags := 33
  interfaces := #[]
  cf := some (fileOf pool0 8 #[] #[{ accessFlags := 1, nameIndex := 5, descriptorIndex := 6, attributes := #[] }] 33 0 #[] #[])
  fields := #[]
  methods := #[k0m0]
  instanceTypes := #[]
  staticTypes := #[]
  resolved := Array.replicate 124 none
  statics := none }

def pool1 : Array CpInfo := pool [(2, .class_ 4), (0, .nameAndType 5 6), (0, u "java/lang/Object"), (0, u "<init>"), (0, u "()V"), (0, .integer 2147483647), (0, .methodref 9 10), (0, .class_ 11), (0, .nameAndType 12 13), (0, u "java/lang/Math"), (0, u "min"), (0, u "(II)I"), (0, .methodref 9 15), (0, .nameAndType 16 13), (0, u "max"), (0, .class_ 18), (0, u "com/example/mensura/mensura/parser/OpenParentheses"), (0, .methodref 17 3), (0, .methodref 17 21), (0, .nameAndType 22 23), (0, u "open"), (0, u "(IZ)V"), (0, .methodref 17 25), (0, .nameAndType 26 6), (0, u "close"), (0, .methodref 17 28), (0, .nameAndType 29 30), (0, u "innermost"), (0, u "()I"), (0, .methodref 17 32), (0, .nameAndType 33 34), (0, u "innermostInverted"), (0, u "()Z"), (0, .methodref 17 36), (0, .nameAndType 37 34), (0, u "isEmpty"), (0, .class_ 39), (0, u "com/example/mensura/mensura/parser/OpenParenthesesClosePinLaw"), (2, u "law"), (0, u "(III)Z")] 3

def k1m0 : Method := { name := "<init>", desc := "()V", sig := { parameters := [], returnType := none }, accessFlags := 1, code := none }
def k1c1 : Code := { maxStack := 3, maxLocals := 12, code := code, exceptionTable := #[], attributes := #[] }
def k1m1 : Method := { name := "law", desc := "(III)Z", sig := { parameters := [.int, .int, .int], returnType := some .boolean }, accessFlags := 9, code := some k1c1 }
/-- com/example/mensura/mensura/parser/OpenParenthesesClosePinLaw -/
def k1 : Class := { plain "com/example/mensura/mensura/parser/OpenParenthesesClosePinLaw" (some 0) with
  accessFlags := 49
  interfaces := #[]
  cf := some (fileOf pool1 38 #[] #[{ accessFlags := 1, nameIndex := 5, descriptorIndex := 6, attributes := #[] }, { accessFlags := 9, nameIndex := 42, descriptorIndex := 43, attributes := #[] }] 49 2 #[] #[])
  fields := #[]
  methods := #[k1m0, k1m1]
  instanceTypes := #[]
  staticTypes := #[]
  resolved := Array.replicate 47 none
  statics := none }

def pool2 : Array CpInfo := pool [(1, .class_ 2), (0, u "java/lang/Math"), (1, .class_ 6), (1, u "java/lang/Object"), (0, u "<init>"), (0, u "()V"), (89, .class_ 100), (1, u "java/lang/Math$RandomNumberGeneratorHolder"), (71, u "negativeZeroFloatBits"), (0, u "J"), (2, u "negativeZeroDoubleBits"), (21, u "max"), (2, u "min"), (43, u "$assertionsDisabled"), (0, u "Z"), (88, u "(II)I"), (2, u "twoToTheDoubleScaleDown"), (0, u "D"), (4, u "twoToTheDoubleScaleUp"), (9, u "E"), (3, u "PI"), (2, u "TAU"), (2, u "DEGREES_TO_RADIANS"), (0, u "RADIANS_TO_DEGREES")] 94

def k2m0 : Method := { name := "<init>", desc := "()V", sig := { parameters := [], returnType := none }, accessFlags := 2, code := none }
def k2c1 : Code := { maxStack := 2, maxLocals := 2, code := jdk_29_method_65_code, exceptionTable := #[], attributes := #[] }
def k2m1 : Method := { name := "max", desc := "(II)I", sig := { parameters := [.int, .int], returnType := some .int }, accessFlags := 9, code := some k2c1 }
def k2c2 : Code := { maxStack := 2, maxLocals := 2, code := jdk_29_method_69_code, exceptionTable := #[], attributes := #[] }
def k2m2 : Method := { name := "min", desc := "(II)I", sig := { parameters := [.int, .int], returnType := some .int }, accessFlags := 9, code := some k2c2 }
/-- java/lang/Math -/
def k2 : Class := { plain "java/lang/Math" (some 0) with
  accessFlags := 49
  interfaces := #[]
  cf := some (fileOf pool2 1 #[.nestMembers #[98]] #[{ accessFlags := 2, nameIndex := 7, descriptorIndex := 8, attributes := #[] }, { accessFlags := 9, nameIndex := 198, descriptorIndex := 335, attributes := #[] }, { accessFlags := 9, nameIndex := 201, descriptorIndex := 335, attributes := #[] }] 49 4 #[] #[{ accessFlags := 25, nameIndex := 354, descriptorIndex := 339, attributes := #[] }, { accessFlags := 25, nameIndex := 358, descriptorIndex := 339, attributes := #[] }, { accessFlags := 25, nameIndex := 361, descriptorIndex := 339, attributes := #[] }, { accessFlags := 26, nameIndex := 364, descriptorIndex := 339, attributes := #[] }, { accessFlags := 26, nameIndex := 365, descriptorIndex := 339, attributes := #[] }, { accessFlags := 26, nameIndex := 172, descriptorIndex := 173, attributes := #[] }, { accessFlags := 26, nameIndex := 176, descriptorIndex := 173, attributes := #[] }, { accessFlags := 8, nameIndex := 344, descriptorIndex := 339, attributes := #[] }, { accessFlags := 8, nameIndex := 338, descriptorIndex := 339, attributes := #[] }, { accessFlags := 4120, nameIndex := 245, descriptorIndex := 246, attributes := #[] }])
  fields := #[{ name := "E", type := .double, accessFlags := 25, slot := 0, constantValue := 0 }, { name := "PI", type := .double, accessFlags := 25, slot := 1, constantValue := 0 }, { name := "TAU", type := .double, accessFlags := 25, slot := 2, constantValue := 0 }, { name := "DEGREES_TO_RADIANS", type := .double, accessFlags := 26, slot := 3, constantValue := 0 }, { name := "RADIANS_TO_DEGREES", type := .double, accessFlags := 26, slot := 4, constantValue := 0 }, { name := "negativeZeroFloatBits", type := .long, accessFlags := 26, slot := 5, constantValue := 0 }, { name := "negativeZeroDoubleBits", type := .long, accessFlags := 26, slot := 6, constantValue := 0 }, { name := "twoToTheDoubleScaleUp", type := .double, accessFlags := 8, slot := 7, constantValue := 0 }, { name := "twoToTheDoubleScaleDown", type := .double, accessFlags := 8, slot := 8, constantValue := 0 }, { name := "$assertionsDisabled", type := .boolean, accessFlags := 4120, slot := 9, constantValue := 0 }]
  methods := #[k2m0, k2m1, k2m2]
  instanceTypes := #[]
  staticTypes := #[.double, .double, .double, .double, .double, .long, .long, .double, .double, .boolean]
  resolved := Array.replicate 460 none
  statics := none }

def pool3 : Array CpInfo := pool [(1, .methodref 2 3), (0, .class_ 4), (0, .nameAndType 5 6), (0, u "java/lang/Object"), (0, u "<init>"), (0, u "()V"), (0, .fieldref 8 9), (0, .class_ 10), (0, .nameAndType 11 12), (0, u "com/example/mensura/mensura/parser/OpenParentheses"), (0, u "groups"), (0, u "[B"), (0, .fieldref 8 14), (0, .nameAndType 15 16), (0, u "innermost"), (0, u "I"), (0, .fieldref 8 18), (0, .nameAndType 19 16), (0, u "size"), (0, .long 2), (3, .long 2147483639), (2, .class_ 29), (1, u "java/lang/Math"), (2, .methodref 27 33), (0, .nameAndType 34 35), (0, u "max"), (0, u "(II)I"), (6, .fieldref 8 43), (0, .nameAndType 44 16), (0, u "depth"), (2, u "open"), (0, u "(IZ)V"), (2, u "close"), (0, u "isEmpty"), (0, u "()Z"), (0, u "()I"), (0, u "innermostInverted")] 2

def k3c0 : Code := { maxStack := 2, maxLocals := 1, code := prog_32_method_1_code, exceptionTable := #[], attributes := #[] }
def k3m0 : Method := { name := "<init>", desc := "()V", sig := { parameters := [], returnType := none }, accessFlags := 0, code := some k3c0 }
def k3c1 : Code := { maxStack := 5, maxLocals := 8, code := prog_32_method_2_code, exceptionTable := #[], attributes := #[] }
def k3m1 : Method := { name := "open", desc := "(IZ)V", sig := { parameters := [.int, .boolean], returnType := none }, accessFlags := 0, code := some k3c1 }
def k3c2 : Code := { maxStack := 5, maxLocals := 5, code := prog_32_method_3_code, exceptionTable := #[], attributes := #[] }
def k3m2 : Method := { name := "close", desc := "()V", sig := { parameters := [], returnType := none }, accessFlags := 0, code := some k3c2 }
def k3c3 : Code := { maxStack := 1, maxLocals := 1, code := prog_32_method_4_code, exceptionTable := #[], attributes := #[] }
def k3m3 : Method := { name := "isEmpty", desc := "()Z", sig := { parameters := [], returnType := some .boolean }, accessFlags := 0, code := some k3c3 }
def k3c4 : Code := { maxStack := 1, maxLocals := 1, code := prog_32_method_5_code, exceptionTable := #[], attributes := #[] }
def k3m4 : Method := { name := "innermost", desc := "()I", sig := { parameters := [], returnType := some .int }, accessFlags := 0, code := some k3c4 }
def k3c5 : Code := { maxStack := 3, maxLocals := 1, code := prog_32_method_6_code, exceptionTable := #[], attributes := #[] }
def k3m5 : Method := { name := "innermostInverted", desc := "()Z", sig := { parameters := [], returnType := some .boolean }, accessFlags := 0, code := some k3c5 }
/-- com/example/mensura/mensura/parser/OpenParentheses -/
def k3 : Class := { plain "com/example/mensura/mensura/parser/OpenParentheses" (some 0) with
  accessFlags := 48
  interfaces := #[]
  cf := some (fileOf pool3 8 #[] #[{ accessFlags := 0, nameIndex := 5, descriptorIndex := 6, attributes := #[] }, { accessFlags := 0, nameIndex := 47, descriptorIndex := 48, attributes := #[] }, { accessFlags := 0, nameIndex := 51, descriptorIndex := 6, attributes := #[] }, { accessFlags := 0, nameIndex := 52, descriptorIndex := 53, attributes := #[] }, { accessFlags := 0, nameIndex := 15, descriptorIndex := 54, attributes := #[] }, { accessFlags := 0, nameIndex := 55, descriptorIndex := 53, attributes := #[] }] 48 2 #[] #[{ accessFlags := 2, nameIndex := 11, descriptorIndex := 12, attributes := #[] }, { accessFlags := 2, nameIndex := 19, descriptorIndex := 16, attributes := #[] }, { accessFlags := 2, nameIndex := 44, descriptorIndex := 16, attributes := #[] }, { accessFlags := 2, nameIndex := 15, descriptorIndex := 16, attributes := #[] }])
  fields := #[{ name := "groups", type := (.array .byte), accessFlags := 2, slot := 0, constantValue := 0 }, { name := "size", type := .int, accessFlags := 2, slot := 1, constantValue := 0 }, { name := "depth", type := .int, accessFlags := 2, slot := 2, constantValue := 0 }, { name := "innermost", type := .int, accessFlags := 2, slot := 3, constantValue := 0 }]
  methods := #[k3m0, k3m1, k3m2, k3m3, k3m4, k3m5]
  instanceTypes := #[(.array .byte), .int, .int, .int]
  staticTypes := #[]
  resolved := Array.replicate 58 none
  statics := none }

def pool4 : Array CpInfo := pool [(1, u "java/lang/Cloneable"), (0, .class_ 1), (0, u "java/lang/Object"), (0, .class_ 3)] 3

/-- java/lang/Cloneable -/
def k4 : Class := { plain "java/lang/Cloneable" (some 0) with
  accessFlags := 1537
  interfaces := #[]
  cf := some (fileOf pool4 2 #[] #[] 1537 4 #[] #[])
  fields := #[]
  methods := #[]
  instanceTypes := #[]
  staticTypes := #[]
  resolved := Array.replicate 8 none
  statics := none }

def pool5 : Array CpInfo := pool [(1, u "java/io/Serializable"), (0, .class_ 1), (0, u "java/lang/Object"), (0, .class_ 3)] 3

/-- java/io/Serializable -/
def k5 : Class := { plain "java/io/Serializable" (some 0) with
  accessFlags := 1537
  interfaces := #[]
  cf := some (fileOf pool5 2 #[] #[] 1537 4 #[] #[])
  fields := #[]
  methods := #[]
  instanceTypes := #[]
  staticTypes := #[]
  resolved := Array.replicate 8 none
  statics := none }

/-- the primitive byte -/
def k6 : Class := { plain "byte" none with kind := .primitive 'B', accessFlags := 0x411 }
/-- [B -/
def k7 : Class := { plain "[B" (some 0) with kind := .array 6 .byte, interfaces := #[4, 5], accessFlags := 1041 }

/-- the primitive int -/
def k8 : Class := { plain "int" none with kind := .primitive 'I', accessFlags := 0x411 }
/-- [I -/
def k9 : Class := { plain "[I" (some 0) with kind := .array 8 .int, interfaces := #[4, 5], accessFlags := 1041 }

def heap : Heap := #[]
def classes : Array Class := #[k0, k1, k2, k3, k4, k5, k6, k7, k8, k9]
def interned : List (Array UInt16 × Addr) := []
def slotsUsed : Nat := 0
def theMethod : MethodId := ⟨1, 1⟩
def args0 : Array Value := #[.int 5, .int 5, .int 5]
def aboutOver (below : List Frame) : State where
  vm := { classes := classes, interned := interned.toArray }
  heap := heap
  slotsUsed := slotsUsed
  threads := #[{ frames := .invoking theMethod args0 :: below }]
def below0 : List Frame := [.native { method := ⟨0, 0⟩, args := #[] }]
def about1 : State := aboutOver below0
def p0 : Program := .bare "" "" ""
def e0 : Env := launch0.env 0 0 0
theorem w_frames : about1.frames = Frame.invoking theMethod args0 :: below0 := rfl
set_option maxRecDepth 65536 in
theorem w_args : argsFit about1.vm theMethod args0 = true := by decide +kernel
set_option maxRecDepth 65536 in
theorem w_heap : heapFits about1 = true := by decide +kernel
set_option maxRecDepth 65536 in
theorem w_runnable : about1.curStatus? = some .runnable := by decide +kernel
set_option maxRecDepth 65536 in
theorem w_alone : about1.alone = true := by decide +kernel
set_option maxRecDepth 65536 in
theorem w_named : about1.methodNamed? x = some theMethod := by decide +kernel
set_option maxRecDepth 65536 in
theorem w_hears : about1.hears theMethod below0 = true := by decide +kernel
set_option maxRecDepth 65536 in
theorem w_ripe : about1.ripe theMethod args0 below0 = true := by decide +kernel
theorem w_running : about1.status = .running := rfl
set_option maxRecDepth 65536 in
theorem w_room : about1.hasRoom e0.platform room_1 = true :=
  launch0.hasRoom_least _ room_1 (by decide +kernel) (by decide +kernel) (by decide +kernel) (by decide +kernel) (by decide +kernel) (by decide +kernel)
theorem allAtoms_all (ts : List Jvm.Cond) (a : Array Jvm.Value) (st : Jvm.State) : (allAtoms ts).before a st = ts.all (fun c => c.before a st) := by
  induction ts with
  | nil => rfl
  | cons c t ih =>
    show (Jvm.Cond.and c (allAtoms t)).before a st = _
    rw [Jvm.Cond.before_and, ih, List.all_cons]
def words1 : List Jvm.Cond := Jvm.Cond.code x code maxLocals ret :: tables_1
/-- a 'code' word, met by the world's own term for the bytes: nothing is compared byte by byte -/
theorem code_word {y : MethodName} {bytes : ByteArray} {mx : Nat} {rt : Option FieldType} {a : Array Value} {s : State} {m : MethodId} {meth : Method} {c : Code} (h1 : s.methodNamed? y = some m) (h2 : s.vm.method? m = some meth) (h3 : meth.code = some c) (h4 : c.code = bytes)
    (h5 : (c.maxLocals == mx && c.exceptionTable.isEmpty && decide (c.maxStack ≤ mostOperands) && decide (meth.sig.returnType = rt) && !meth.locks && decide (parseMethodDescriptor y.desc = some meth.sig)) = true) : (Jvm.Cond.code y bytes mx rt).before a s = true := by
  simp only [Bool.and_eq_true, beq_iff_eq, Bool.not_eq_true', decide_eq_true_eq] at h5
  obtain ⟨⟨⟨⟨⟨g1, g2⟩, g3⟩, g4⟩, g5⟩, g6⟩ := h5
  simp [Cond.before, Cond.holds, Cond.value, h1, h2, h3, h4, g1, g2, g3, g4, g5, g6]
def isCode : Jvm.Cond → Bool
  | .code _ _ _ _ => true
  | _ => false
theorem all_split {L : List Jvm.Cond} {P : Jvm.Cond → Bool} (h1 : L.all (fun c => isCode c || P c) = true) (h2 : ∀ c ∈ L.filter isCode, P c = true) : L.all P = true := by
  refine List.all_eq_true.mpr fun c hc => ?_
  have h := List.all_eq_true.mp h1 c hc
  rcases Bool.eq_false_or_eq_true (isCode c) with hi | hi
  · exact h2 c (List.mem_filter.mpr ⟨hc, hi⟩)
  · simpa [hi] using h
set_option maxRecDepth 65536 in
theorem w_c0 : (Jvm.Cond.code x code maxLocals ret).before args0 about1 = true := code_word (m := ⟨1, 1⟩) (meth := k1m1) (c := k1c1) (by decide +kernel) rfl rfl rfl (by decide +kernel)
set_option maxRecDepth 65536 in
theorem w_c1 : (Jvm.Cond.code ({ cls := "java/lang/Math", name := "min", desc := "(II)I" } : Jvm.MethodName) jdk_29_method_69_code (2 : Nat) (Option.some Jvm.ClassFile.FieldType.int)).before args0 about1 = true := code_word (m := ⟨2, 2⟩) (meth := k2m2) (c := k2c2) (by decide +kernel) rfl rfl rfl (by decide +kernel)
set_option maxRecDepth 65536 in
theorem w_c2 : (Jvm.Cond.code ({ cls := "java/lang/Math", name := "max", desc := "(II)I" } : Jvm.MethodName) jdk_29_method_65_code (2 : Nat) (Option.some Jvm.ClassFile.FieldType.int)).before args0 about1 = true := code_word (m := ⟨2, 1⟩) (meth := k2m1) (c := k2c1) (by decide +kernel) rfl rfl rfl (by decide +kernel)
set_option maxRecDepth 65536 in
theorem w_c3 : (Jvm.Cond.code ({ cls := "com/example/mensura/mensura/parser/OpenParentheses", name := "<init>", desc := "()V" } : Jvm.MethodName) prog_32_method_1_code (1 : Nat) (Option.none : Option Jvm.ClassFile.FieldType)).before args0 about1 = true := code_word (m := ⟨3, 0⟩) (meth := k3m0) (c := k3c0) (by decide +kernel) rfl rfl rfl (by decide +kernel)
set_option maxRecDepth 65536 in
theorem w_c4 : (Jvm.Cond.code ({ cls := "java/lang/Object", name := "<init>", desc := "()V" } : Jvm.MethodName) object_method_1_code (1 : Nat) (Option.none : Option Jvm.ClassFile.FieldType)).before args0 about1 = true := code_word (m := ⟨0, 0⟩) (meth := k0m0) (c := k0c0) (by decide +kernel) rfl rfl rfl (by decide +kernel)
set_option maxRecDepth 65536 in
theorem w_c5 : (Jvm.Cond.code ({ cls := "com/example/mensura/mensura/parser/OpenParentheses", name := "open", desc := "(IZ)V" } : Jvm.MethodName) prog_32_method_2_code (8 : Nat) (Option.none : Option Jvm.ClassFile.FieldType)).before args0 about1 = true := code_word (m := ⟨3, 1⟩) (meth := k3m1) (c := k3c1) (by decide +kernel) rfl rfl rfl (by decide +kernel)
set_option maxRecDepth 65536 in
theorem w_c6 : (Jvm.Cond.code ({ cls := "com/example/mensura/mensura/parser/OpenParentheses", name := "close", desc := "()V" } : Jvm.MethodName) prog_32_method_3_code (5 : Nat) (Option.none : Option Jvm.ClassFile.FieldType)).before args0 about1 = true := code_word (m := ⟨3, 2⟩) (meth := k3m2) (c := k3c2) (by decide +kernel) rfl rfl rfl (by decide +kernel)
set_option maxRecDepth 65536 in
theorem w_c7 : (Jvm.Cond.code ({ cls := "com/example/mensura/mensura/parser/OpenParentheses", name := "innermost", desc := "()I" } : Jvm.MethodName) prog_32_method_5_code (1 : Nat) (Option.some Jvm.ClassFile.FieldType.int)).before args0 about1 = true := code_word (m := ⟨3, 4⟩) (meth := k3m4) (c := k3c4) (by decide +kernel) rfl rfl rfl (by decide +kernel)
set_option maxRecDepth 65536 in
theorem w_c8 : (Jvm.Cond.code ({ cls := "com/example/mensura/mensura/parser/OpenParentheses", name := "innermostInverted", desc := "()Z" } : Jvm.MethodName) prog_32_method_6_code (1 : Nat) (Option.some Jvm.ClassFile.FieldType.boolean)).before args0 about1 = true := code_word (m := ⟨3, 5⟩) (meth := k3m5) (c := k3c5) (by decide +kernel) rfl rfl rfl (by decide +kernel)
set_option maxRecDepth 65536 in
theorem w_c9 : (Jvm.Cond.code ({ cls := "com/example/mensura/mensura/parser/OpenParentheses", name := "isEmpty", desc := "()Z" } : Jvm.MethodName) prog_32_method_4_code (1 : Nat) (Option.some Jvm.ClassFile.FieldType.boolean)).before args0 about1 = true := code_word (m := ⟨3, 3⟩) (meth := k3m3) (c := k3c3) (by decide +kernel) rfl rfl rfl (by decide +kernel)
def codes1 : List Jvm.Cond := [Jvm.Cond.code x code maxLocals ret, Jvm.Cond.code ({ cls := "java/lang/Math", name := "min", desc := "(II)I" } : Jvm.MethodName) jdk_29_method_69_code (2 : Nat) (Option.some Jvm.ClassFile.FieldType.int), Jvm.Cond.code ({ cls := "java/lang/Math", name := "max", desc := "(II)I" } : Jvm.MethodName) jdk_29_method_65_code (2 : Nat) (Option.some Jvm.ClassFile.FieldType.int), Jvm.Cond.code ({ cls := "com/example/mensura/mensura/parser/OpenParentheses", name := "<init>", desc := "()V" } : Jvm.MethodName) prog_32_method_1_code (1 : Nat) (Option.none : Option Jvm.ClassFile.FieldType), Jvm.Cond.code ({ cls := "java/lang/Object", name := "<init>", desc := "()V" } : Jvm.MethodName) object_method_1_code (1 : Nat) (Option.none : Option Jvm.ClassFile.FieldType), Jvm.Cond.code ({ cls := "com/example/mensura/mensura/parser/OpenParentheses", name := "open", desc := "(IZ)V" } : Jvm.MethodName) prog_32_method_2_code (8 : Nat) (Option.none : Option Jvm.ClassFile.FieldType), Jvm.Cond.code ({ cls := "com/example/mensura/mensura/parser/OpenParentheses", name := "close", desc := "()V" } : Jvm.MethodName) prog_32_method_3_code (5 : Nat) (Option.none : Option Jvm.ClassFile.FieldType), Jvm.Cond.code ({ cls := "com/example/mensura/mensura/parser/OpenParentheses", name := "innermost", desc := "()I" } : Jvm.MethodName) prog_32_method_5_code (1 : Nat) (Option.some Jvm.ClassFile.FieldType.int), Jvm.Cond.code ({ cls := "com/example/mensura/mensura/parser/OpenParentheses", name := "innermostInverted", desc := "()Z" } : Jvm.MethodName) prog_32_method_6_code (1 : Nat) (Option.some Jvm.ClassFile.FieldType.boolean), Jvm.Cond.code ({ cls := "com/example/mensura/mensura/parser/OpenParentheses", name := "isEmpty", desc := "()Z" } : Jvm.MethodName) prog_32_method_4_code (1 : Nat) (Option.some Jvm.ClassFile.FieldType.boolean)]
set_option maxRecDepth 65536 in
theorem codes_eq : words1.filter isCode = codes1 := rfl
theorem w_codes : ∀ c ∈ words1.filter isCode, c.before args0 about1 = true := by
  rw [codes_eq]
  intro c hc
  simp only [codes1, List.mem_cons, List.not_mem_nil, or_false] at hc
  rcases hc with rfl | rfl | rfl | rfl | rfl | rfl | rfl | rfl | rfl | rfl
  · exact w_c0
  · exact w_c1
  · exact w_c2
  · exact w_c3
  · exact w_c4
  · exact w_c5
  · exact w_c6
  · exact w_c7
  · exact w_c8
  · exact w_c9
set_option maxRecDepth 65536 in
theorem w_t1 : (words1.take 24).all (fun c => isCode c || c.before args0 about1) = true := by decide +kernel
set_option maxRecDepth 65536 in
theorem w_t2 : ((words1.drop 24).take 24).all (fun c => isCode c || c.before args0 about1) = true := by decide +kernel
set_option maxRecDepth 65536 in
theorem w_t3 : ((words1.drop 24).drop 24).all (fun c => isCode c || c.before args0 about1) = true := by decide +kernel
theorem w_tables : (allAtoms (Jvm.Cond.code x code maxLocals ret :: tables_1)).before args0 about1 = true := by
  rw [allAtoms_all]
  show words1.all (fun c => c.before args0 about1) = true
  refine all_split ?_ w_codes
  rw [← List.take_append_drop 24 words1, List.all_append, w_t1, ← List.take_append_drop 24 (words1.drop 24), List.all_append, w_t2, w_t3]
  rfl
set_option maxRecDepth 65536 in
theorem w_case : (Jvm.Cond.and given_1 narrow_1).before args0 about1 = true := by decide +kernel
theorem w_applies : (headSpec (Jvm.Cond.code x code maxLocals ret :: tables_1) room_1).applies x e0.platform about1 = true :=
  (Spec.applies_iff w_frames).mpr ⟨w_running, w_runnable, w_alone, w_named, w_hears, w_ripe, w_room, w_tables⟩
theorem atStart : AtStart classFile x code maxLocals ret World_1 tables_1 room_1 Calls_1 rest_1 Pre_1 launch0 p0 e0 about1 theMethod args0 below0 :=
  ⟨lists_1, trivial, launch0.admits_env _ _ _, launch0.least_env, fairChoices_fair.cas, fairChoices_fair.clock, w_frames, w_args, w_heap, w_applies, trivial, trivial, w_case⟩
end start1
theorem witness_1 : WitnessClaimed_1 := ⟨start1.p0, start1.e0, start1.about1, start1.theMethod, start1.args0, start1.below0, start1.atStart⟩
end Jvm.Pilot.@@N@@
