import JvmDerived
import JvmDerived.Pilot.@@N@@Statement
import JvmDerived.Pilot.@@N@@Code
set_option linter.unusedVariables false
set_option linter.unusedSimpArgs false
@@BLOCK:NumsL.lean.txt@@
namespace Jvm.RoadKit
open Sem ClassFile Op Lib Jvm.Stand Jvm.Free Jvm.LawKit
section New
variable {p : Program} {l : Launch} {e : Env} {R : Room} {s : State} {m : MethodId} {args : Array Value} {below : List Frame} {meth : Method} {c : Code} {T : State} {locs : List Loc} {cells slots : Nat}
theorem retI (X : Stand p l e R s m args below meth c T locs cells slots) (hx : p.tables.exec = Jvm.exec) {pc : Nat} {Ls : Array Slot} {z : Int32} {rest : List Value} (hret : meth.sig.returnType = some .int) (hd : decode c.code pc = .ok (.ireturn, 1)) {fs : List Frame}
    (hl : ∀ (f : JFrame) (acts : List Action), f.method = m → f.locked = none → f.entered = [] → (doReturn e (T.setTop f) acts (some (.int z))).1 = T.setFrames fs) : Steps p.tables e below (T.setTop (mkF m pc Ls (.int z :: rest))) (T.setFrames fs) := by
  have hm' : T.vm.method? m = some meth := X.method'
  have hn : narrow .int (.int z) = .int z := rfl
  show Steps p.tables e below (T.setTop { method := m, pc := pc, locals := Ls, stack := _ :: rest, locked := none }) _
  jvm_step X.here [X.here.top, hx, hd, hm', hret, hn]
  first | (intro acts; rw [hl _ acts rfl rfl rfl]) | rw [hl _ _ rfl rfl rfl]
  exact Steps.refl _
end New
end Jvm.RoadKit
namespace Jvm.Pilot.@@N@@
open Jvm Jvm.ClassFile Sem Op Lib Jvm.Free Jvm.Stand Jvm.LawKit Jvm.RoadKit Bundle Jvm.Pilot.@@N@@.Jvm.D
def own_ush (x : Int64) (s : Int32) : Int64 := ((x.toUInt64 >>> (s &&& 0x3f).toInt64.toUInt64).toInt64)
def own_shl (x : Int64) (s : Int32) : Int64 := (x <<< (s &&& 0x3f).toInt64)
def own_shr (x : Int64) (s : Int32) : Int64 := (x >>> (s &&& 0x3f).toInt64)
def own_iush (x s : Int32) : Int32 := ((x.toUInt32 >>> (s &&& 31).toUInt32).toInt32)
def own_ishl (x s : Int32) : Int32 := (x <<< (s &&& 31))
def own_ishr (x s : Int32) : Int32 := (x >>> (s &&& 31))
def own_lrem (x y : Int64) : Int64 := x - (x / y) * y
def own_A (Z : State) (h : Heap) (a : Addr) (ty : FieldType) (n : Nat) (g : Nat → Int32) : Prop := ∃ c : Cell, Arr Z h a c ty ∧ c.slots.size = n ∧ ∀ i, i < n → c.slots[i]? = some (.int (g i))
def own_put (g : Nat → Int32) (j : Nat) (v : Int32) : Nat → Int32 := fun i => if i = j then v else g i
theorem own_A.lt {Z : State} {h : Heap} {a : Addr} {ty : FieldType} {n : Nat} {g : Nat → Int32} (F : own_A Z h a ty n g) : a < h.size := by obtain ⟨c, A, -⟩ := F; exact A.lt
theorem own_A.ext {Z : State} {h h' : Heap} {a : Addr} {ty : FieldType} {n : Nat} {g : Nat → Int32} (F : own_A Z h a ty n g) (E : Ext h h') : own_A Z h' a ty n g := by obtain ⟨c, A, r⟩ := F; exact ⟨c, A.ext E, r⟩
theorem own_A.other {Z : State} {h h' : Heap} {a b : Addr} {ty : FieldType} {n : Nat} {g : Nat → Int32} {sl : Nat} {v : Value} (F : own_A Z h b ty n g) (W : Wr h h' a sl v) (q : b ≠ a) : own_A Z h' b ty n g := by obtain ⟨c, A, r⟩ := F; exact ⟨c, A.other W q, r⟩
theorem own_A.keep {Z : State} {h h' : Heap} {a : Addr} {ty : FieldType} {n : Nat} {g : Nat → Int32} {ws : List Addr} (F : own_A Z h a ty n g) (K : Keep h h' ws) (q : a ∉ ws) : own_A Z h' a ty n g := by obtain ⟨c, A, r⟩ := F; exact ⟨c, ⟨K.2.1 a c A.1 q, A.2⟩, r⟩
theorem own_A.new {Z : State} {h : Heap} {a : Addr} {k : ClassId} {ty : FieldType} {z : Int32} (A : Arr Z h a (newA k ty z) ty) {n : Nat} (hn : z.toNatClampNeg = n) (hd : defaultValue ty = .int 0) : own_A Z h a ty n (fun _ => (0 : Int32)) := by
  subst hn
  exact ⟨_, A, sz_new _ _ _, fun i hi => by simp [newA, hi, hd]⟩
theorem own_A.congr {Z : State} {h : Heap} {a : Addr} {ty : FieldType} {n : Nat} {f g : Nat → Int32} (F : own_A Z h a ty n f) (q : ∀ i, i < n → f i = g i) : own_A Z h a ty n g := by
  obtain ⟨c, A, S, r⟩ := F; exact ⟨c, A, S, fun i hi => by rw [r i hi, q i hi]⟩
theorem own_A.set {Z : State} {h h' : Heap} {a : Addr} {ty : FieldType} {n : Nat} {g : Nat → Int32} {c : Cell} {j : Nat} {v : Int32} (A : Arr Z h a c ty) (S : c.slots.size = n) (H : ∀ i, i < n → c.slots[i]? = some (.int (g i))) (W : Wr h h' a j (.int v)) : own_A Z h' a ty n (own_put g j v) := by
  obtain ⟨c', h1, -, -, h4, -, h6, h7⟩ := wr_at W A.1
  obtain ⟨e1, e2, -⟩ := h7 rfl
  have A' := A.same W
  subst e1
  refine ⟨_, A', by rw [sz_set]; exact S, fun i hi => ?_⟩
  by_cases q : i = j
  · subst q; rw [e2, own_put, if_pos rfl]
  · rw [h6 i q, H i hi, own_put, if_neg q]
theorem own_inb {c : Cell} {n : Nat} {j : Int32} (S : c.slots.size = n) (q : 0 ≤ j.toInt ∧ j.toInt < n) : ¬ (j < 0 ∨ c.slots.size ≤ j.toNatClampNeg) := by
  rw [S, Int32.lt_iff_toInt_lt]
  have e : j.toNatClampNeg = j.toInt.toNat := rfl
  have z : (0 : Int32).toInt = 0 := by decide
  rw [e, z]; omega
theorem own_lt_of {n : Nat} {j : Int32} (q : 0 ≤ j.toInt ∧ j.toInt < n) : j.toNatClampNeg < n := by
  have e : j.toNatClampNeg = j.toInt.toNat := rfl
  rw [e]; omega
theorem own_len {c : Cell} {n : Nat} {z : Int32} (S : c.slots.size = n) (q : Int32.ofNat n = z) : c.slots.size.toInt32 = z := by rw [S]; exact q
theorem own_ush_eq (x : Int64) (s : Int32) (k : Nat) (hs : ((s &&& 0x3f).toInt64.toUInt64.toBitVec % 64#64).toNat = k) : (own_ush x s).toBitVec = x.toBitVec >>> k := by
  subst hs; rfl
theorem own_shl_eq (x : Int64) (s : Int32) (k : Nat) (hs : ((s &&& 0x3f).toInt64.toBitVec.smod 64#64).toNat = k) : (own_shl x s).toBitVec = x.toBitVec <<< k := by
  subst hs; rfl
theorem own_fin64 : ∀ k : Fin 64, ((Int32.ofNat k.val &&& 0x3f).toInt64.toUInt64.toBitVec % 64#64).toNat = k.val := by decide +kernel
theorem own_fin64' : ∀ k : Fin 64, ((Int32.ofNat k.val &&& 0x3f).toInt64.toBitVec.smod 64#64).toNat = k.val := by decide +kernel
theorem own_ushN (x : Int64) (k : Nat) (hk : k < 64) : (own_ush x (Int32.ofNat k)).toBitVec = x.toBitVec >>> k := own_ush_eq x _ k (own_fin64 ⟨k, hk⟩)
theorem own_shlN (x : Int64) (k : Nat) (hk : k < 64) : (own_shl x (Int32.ofNat k)).toBitVec = x.toBitVec <<< k := own_shl_eq x _ k (own_fin64' ⟨k, hk⟩)
theorem own_nat (s : Int32) (h0 : 0 ≤ s.toInt) : s = Int32.ofNat s.toInt.toNat := by
  have h := s.toInt_lt
  apply Int32.toInt_inj.mp
  rw [Int32.toInt_ofNat_of_lt (by omega)]
  omega
theorem own_natI (k : Nat) (h : k < 2 ^ 31) : (Int32.ofNat k).toInt = k := Int32.toInt_ofNat_of_lt h
theorem own_bit1 (x : BitVec 64) : x &&& 1#64 = if x.getLsbD 0 = true then 1#64 else 0#64 := by
  apply BitVec.eq_of_getLsbD_eq; intro i hi
  rw [BitVec.getLsbD_and, BitVec.getLsbD_one]
  by_cases h0 : i = 0
  · subst h0; cases h : x.getLsbD 0 <;> simp
  · have h1 : (if x.getLsbD 0 = true then 1#64 else 0#64).getLsbD i = false := by
      split
      · rw [BitVec.getLsbD_one]; simp; omega
      · exact BitVec.getLsbD_zero
    rw [h1]; simp [h0]
theorem own_shbit (x : Int64) (k : Nat) (hk : k < 64) : (own_ush x (Int32.ofNat k)) &&& (1 : Int64) = if x.toBitVec.getLsbD k = true then (1 : Int64) else (0 : Int64) := by
  apply Int64.toBitVec_inj.mp
  have e : ((own_ush x (Int32.ofNat k)) &&& (1 : Int64)).toBitVec = (x.toBitVec >>> k) &&& 1#64 := by rw [Int64.toBitVec_and, own_ushN x k hk]; rfl
  rw [e, own_bit1, BitVec.getLsbD_ushiftRight, Nat.add_zero]
  split <;> rfl
theorem own_rem (x m : Int32) (hm : 0 < m.toInt) : ∃ k : Nat, (k : Int) < m.toInt ∧ (x &&& (2147483647 : Int32)) % m = Int32.ofNat k := by
  have h1 : (x &&& (2147483647 : Int32)).toInt = x.toInt % 2 ^ 31 := Jvm.Kit.i32_mask x 2147483647 (k := 31) (by decide) (by decide)
  have h2 : 0 ≤ (x &&& (2147483647 : Int32)).toInt := by rw [h1]; exact Int.emod_nonneg _ (by decide)
  have h3 := Jvm.Kit.i32_rem_nonneg (y := m) h2
  have h4 : 0 ≤ ((x &&& (2147483647 : Int32)) % m).toInt := by rw [h3]; exact Int.emod_nonneg _ (by omega)
  have h5 : ((x &&& (2147483647 : Int32)) % m).toInt < m.toInt := by rw [h3]; exact Int.emod_lt_of_pos _ hm
  refine ⟨((x &&& (2147483647 : Int32)) % m).toInt.toNat, by omega, own_nat _ h4⟩
theorem own_m63 (x : Int32) : ∃ k : Nat, k < 64 ∧ x &&& (63 : Int32) = Int32.ofNat k := by
  have h1 : (x &&& (63 : Int32)).toInt = x.toInt % 2 ^ 6 := Jvm.Kit.i32_mask x 63 (k := 6) (by decide) (by decide)
  refine ⟨(x &&& (63 : Int32)).toInt.toNat, by omega, own_nat _ (by omega)⟩
theorem own_lt (a b : Nat) (ha : a < 2 ^ 31) (hb : b < 2 ^ 31) : (Int32.ofNat a < Int32.ofNat b) ↔ a < b := by
  rw [Int32.lt_iff_toInt_lt, own_natI a ha, own_natI b hb]; omega
theorem own_allones (i : Nat) (hi : i < 64) : (-1 : Int64).toBitVec.getLsbD i = true := by
  have h : ∀ k : Fin 64, (-1 : Int64).toBitVec.getLsbD k.val = true := by decide +kernel
  exact h ⟨i, hi⟩
def own_bit (p : Int32) : Int32 := own_iush (128 : Int32) (p % (8 : Int32))
def own_set (v p : Int32) : Int32 := if (v &&& own_bit p) = (0 : Int32) then (0 : Int32) else (1 : Int32)
def own_i (p : Int32) : Int32 := p &&& (63 : Int32)
def own_by (x : Int64) (i : Nat) : Int32 := nar .byte (if i = 7 then x.toInt32.toInt8.toInt32 else (own_ush x (Int32.ofNat (56 - 8 * i))).toInt32.toInt8.toInt32)
theorem own_bys (q1 : Int64) : ∀ i, i < 8 → (own_put (own_put (own_put (own_put (own_put (own_put (own_put (own_put (fun _ => (0 : Int32)) 0 (nar .byte (((own_ush q1 (56 : Int32)).toInt32).toInt8.toInt32))) 1 (nar .byte (((own_ush q1 (48 : Int32)).toInt32).toInt8.toInt32))) 2 (nar .byte (((own_ush q1 (40 : Int32)).toInt32).toInt8.toInt32))) 3 (nar .byte (((own_ush q1 (32 : Int32)).toInt32).toInt8.toInt32))) 4 (nar .byte (((own_ush q1 (24 : Int32)).toInt32).toInt8.toInt32))) 5 (nar .byte (((own_ush q1 (16 : Int32)).toInt32).toInt8.toInt32))) 6 (nar .byte (((own_ush q1 (8 : Int32)).toInt32).toInt8.toInt32))) 7 (nar .byte ((q1.toInt32).toInt8.toInt32))) i = own_by q1 i := by
  intro i hi
  rcases i with _ | _ | _ | _ | _ | _ | _ | _ | i
  · rfl
  · rfl
  · rfl
  · rfl
  · rfl
  · rfl
  · rfl
  · rfl
  · omega
theorem own_i64 (p : Int32) : 0 ≤ (own_i p).toInt ∧ (own_i p).toInt < 64 := by
  have h1 : (p &&& (63 : Int32)).toInt = p.toInt % 2 ^ 6 := Jvm.Kit.i32_mask p 63 (k := 6) (by decide) (by decide)
  unfold own_i; omega
theorem own_div8 {p : Int32} (h : 0 ≤ p.toInt ∧ p.toInt < 64) : 0 ≤ (p / (8 : Int32)).toInt ∧ (p / (8 : Int32)).toInt < (8 : Nat) := by
  have e8 : (8 : Int32).toInt = 8 := by decide
  have e : (p / (8 : Int32)).toInt = p.toInt / 8 := by
    rw [Jvm.Kit.i32_div (by rw [e8]; omega), e8, Int.tdiv_eq_ediv_of_nonneg h.1]
  omega
theorem own_bitp : ∀ k : Fin 64, (own_bit (Int32.ofNat k.val)).toBitVec = BitVec.twoPow 32 (7 - k.val % 8) := by decide +kernel
theorem own_div8p : ∀ k : Fin 64, (Int32.ofNat k.val / (8 : Int32)).toNatClampNeg = k.val / 8 := by decide +kernel
theorem own_narb (v : Int32) : (nar .byte v.toInt8.toInt32).toBitVec = ((((v.toBitVec.signExtend 8).signExtend 32).signExtend 8).signExtend 32) := rfl
theorem own_sx (y : BitVec 32) (k : Nat) (hk : k < 8) : ((((y.signExtend 8).signExtend 32).signExtend 8).signExtend 32).getLsbD k = y.getLsbD k := by
  have h1 : k < 32 := by omega
  simp only [BitVec.getLsbD_signExtend, if_pos hk, if_pos h1]
  simp [hk, h1]
theorem own_bybit (x : Int64) (j k : Nat) (hj : j < 8) (hk : k < 8) : (own_by x j).toBitVec.getLsbD k = x.toBitVec.getLsbD (56 - 8 * j + k) := by
  unfold own_by
  by_cases h : j = 7
  · subst h
    rw [if_pos rfl, own_narb, own_sx _ k hk]
    have e : x.toInt32.toBitVec = x.toBitVec.signExtend 32 := rfl
    have h1 : k < 32 := by omega
    rw [e, BitVec.getLsbD_signExtend, if_pos (by omega)]; simp [h1]
  · rw [if_neg h, own_narb, own_sx _ k hk]
    have e : (own_ush x (Int32.ofNat (56 - 8 * j))).toInt32.toBitVec = (own_ush x (Int32.ofNat (56 - 8 * j))).toBitVec.signExtend 32 := rfl
    have h1 : k < 32 := by omega
    rw [e, own_ushN _ _ (by omega), BitVec.getLsbD_signExtend, if_pos (by omega), BitVec.getLsbD_ushiftRight]; simp [h1]
theorem own_setN (x : Int64) (i : Nat) (hi : i < 64) : own_set (own_by x (i / 8)) (Int32.ofNat i) = if x.toBitVec.getLsbD (63 - i) = true then (1 : Int32) else (0 : Int32) := by
  unfold own_set
  have e : (own_by x (i / 8) &&& own_bit (Int32.ofNat i) = (0 : Int32)) ↔ ¬ x.toBitVec.getLsbD (63 - i) = true := by
    rw [← Int32.toBitVec_inj, Int32.toBitVec_and, own_bitp ⟨i, hi⟩, BitVec.and_twoPow, own_bybit x (i / 8) (7 - i % 8) (by omega) (by omega)]
    have h1 : 56 - 8 * (i / 8) + (7 - i % 8) = 63 - i := by omega
    rw [h1]
    by_cases h : x.toBitVec.getLsbD (63 - i) = true
    · rw [if_pos h]
      constructor
      · intro q
        have h2 : ∀ k : Fin 8, BitVec.twoPow 32 (7 - k.val) ≠ (0 : Int32).toBitVec := by decide
        exact absurd q (h2 ⟨i % 8, by omega⟩)
      · intro q; exact absurd h q
    · rw [if_neg h]
      constructor
      · intro _; exact h
      · intro _; rfl
  by_cases h : x.toBitVec.getLsbD (63 - i) = true
  · rw [if_neg (fun q => e.mp q h), if_pos h]
  · rw [if_pos (e.mpr h), if_neg h]
theorem own_neg (x : Int64) (i : Nat) (hi : i < 64) : own_shl x (Int32.ofNat i) < (0 : Int64) ↔ x.toBitVec.getLsbD (63 - i) = true := by
  have e : (own_shl x (Int32.ofNat i)).toInt = (x.toBitVec <<< i).toInt := by rw [← own_shlN x i hi]; rfl
  have z : (0 : Int64).toInt = 0 := by decide
  rw [Int64.lt_iff_toInt_lt, e, z]
  have m := BitVec.msb_eq_toInt (x := x.toBitVec <<< i)
  have m2 := BitVec.msb_eq_getLsbD_last (x.toBitVec <<< i)
  rw [BitVec.getLsbD_shiftLeft] at m2
  have h1 : ¬ (64 - 1 < i) := by omega
  have h2 : 64 - 1 - i = 63 - i := by omega
  rw [m2, h2] at m
  simp [h1] at m
  rw [m]; simp
theorem own_law (x : Int64) (p : Int32) : own_set (own_by x (own_i p / (8 : Int32)).toNatClampNeg) (own_i p) = (if own_shl x (own_i p) < (0 : Int64) then (1 : Int32) else (0 : Int32)) := by
  obtain ⟨i, hi, e⟩ := own_m63 p
  have e : own_i p = Int32.ofNat i := e
  rw [e, own_div8p ⟨i, hi⟩, own_setN x i hi]
  by_cases h : x.toBitVec.getLsbD (63 - i) = true
  · rw [if_pos h, if_pos ((own_neg x i hi).mpr h)]
  · rw [if_neg h, if_neg (fun q => h ((own_neg x i hi).mp q))]
theorem d2_0 : decode prog_12_method_5_code 0 = .ok (.sipush 128, 3) := by decide +kernel
theorem d2_3 : decode prog_12_method_5_code 3 = .ok (.iload_n 0, 1) := by decide +kernel
theorem d2_4 : decode prog_12_method_5_code 4 = .ok (.bipush 8, 2) := by decide +kernel
theorem d2_6 : decode prog_12_method_5_code 6 = .ok (.irem, 1) := by decide +kernel
theorem d2_7 : decode prog_12_method_5_code 7 = .ok (.iushr, 1) := by decide +kernel
theorem d2_8 : decode prog_12_method_5_code 8 = .ok (.ireturn, 1) := by decide +kernel
theorem pn_PresenceBitmap : plainName "com/example/tightwire/tightwire/codec/PresenceBitmap" = true := by first | (simp [plainName, overriddenIn]; done) | decide +kernel
theorem ef_2 (m : MethodId) (p1 : Int32) : entryFrame m #[(.int p1)] 1 = mkF m 0 #[.val (.int p1)] [] := by first | (simp [entryFrame, mkF, argsToLocals, Value.category]; done) | rfl
def Q2 (Z : State) (p1 : Int32) (h0 : Heap) (n0 : Nat) (v : Option Value) (h : Heap) (L : List Loc) : Prop := v = some (.int (own_bit p1)) ∧ Fr n0 L ∧ h = h0
set_option maxRecDepth 65536 in
set_option maxHeartbeats 40000000 in
theorem rm2 (l : Launch) (Z : State) (a0 : Array Value) (hw : ∀ d ∈ tables_1, d.before a0 Z = true) (ws : List Jvm.Cond) (p1 : Int32) (h0 : Heap) (n0 : Nat) (Z0 : n0 ≤ h0.size) :
    MetFree l (⟨"com/example/tightwire/tightwire/codec/PresenceBitmap", "bit", "(I)I"⟩ : MethodName) (head1 (Jvm.Cond.code (⟨"com/example/tightwire/tightwire/codec/PresenceBitmap", "bit", "(I)I"⟩ : MethodName) prog_12_method_5_code 1 (some .int) :: ws) ({ frames := 0, cells := 0, slots := 0, locals := 0 } : Room)) (fun aa U => aa = #[(.int p1)] ∧ Z.Warmed39 U.vm ∧ U.heap = h0) (fun _ _ _ _ _ => True) (fun _ U o U' => ∃ v L, o = .returned v ∧ Q2 Z p1 h0 n0 v U'.heap L ∧ FrameEnd U o U' L ({ frames := 0, cells := 0, slots := 0, locals := 0 } : Room).cells ({ frames := 0, cells := 0, slots := 0, locals := 0 } : Room).slots) := by
  refine MetFree.of_bodySF (plainFor_of_name pn_PresenceBitmap) hisR ?_
  intro p e s m args below meth c s₁ Bd hml0 hP hK
  obtain ⟨rfl, hZ, hh⟩ := hP
  have hx := Bd.exec
  have hby := Bd.bytes
  have hml : c.maxLocals = 1 := hml0
  have hown : s.vm.findClass "com/example/tightwire/tightwire/codec/PresenceBitmap" = some m.cls := findClass_of_methodNamed Bd.named
  have hnm := (name_of_methodNamed Bd.named Bd.method).1
  have X0 : Stand p l e ({ frames := 0, cells := 0, slots := 0, locals := 0 } : Room) s m #[(.int p1)] below meth c s₁ [] 0 0 := Stand.of_body Bd
  have e0 : s₁.heap = h0 := by rw [← hh, Bd.state]; rfl
  have N0 := Fr.nil n0
  have hlk : meth.locks = false := by first | exact BodyLoose.notSynchronized Bd | exact Body.notSynchronized Bd
  have pre0 : ∀ t, Steps p.tables e below (s₁.setTop (mkF m 0 #[.val (.int p1)] [])) t → Steps p.tables e below (s₁.setTop (entryFrame m #[(.int p1)] 1)) t := fun t k => castTop (ef_2 m p1) k
  have pre1 : ∀ t, Steps p.tables e below (s₁.setTop (mkF m 8 #[.val (.int p1)] [(.int (own_bit p1))])) t → Steps p.tables e below (s₁.setTop (entryFrame m #[(.int p1)] 1)) t := fun t k => pre0 t (by
    show Steps p.tables e below (s₁.setTop (mkF m 0 #[.val (.int p1)] [])) _
    refine XS.sipush X0.here hx rfl (hb hby d2_0) ?_
    show Steps p.tables e below (s₁.setTop (mkF m 3 #[.val (.int p1)] [(.int (128 : Int32))])) _
    refine XS.iloadN X0.here hx rfl (hb hby d2_3) rfl ?_
    show Steps p.tables e below (s₁.setTop (mkF m 4 #[.val (.int p1)] [(.int p1), (.int (128 : Int32))])) _
    refine XS.bipush X0.here hx rfl (hb hby d2_4) ?_
    show Steps p.tables e below (s₁.setTop (mkF m 6 #[.val (.int p1)] [(.int (8 : Int32)), (.int p1), (.int (128 : Int32))])) _
    refine iremM X0 hx rfl (hb hby d2_6) rfl (by decide) ?_
    show Steps p.tables e below (s₁.setTop (mkF m 7 #[.val (.int p1)] [(.int (p1 % (8 : Int32))), (.int (128 : Int32))])) _
    refine XS.iushr X0.here hx rfl (hb hby d2_7) rfl ?_
    show Steps p.tables e below (s₁.setTop (mkF m 8 #[.val (.int p1)] [(.int (own_bit p1))])) _
    exact k)
  obtain ⟨fs, hr, hrun, hended, hW, hsame⟩ := X0.leave (v := some (.int (own_bit p1))) (fun h => by rw [Bd.returns] at h; cases h) hlk
  refine ⟨_, _, pre1 _ ?_, hrun, hended, _, _, rfl, ?_, ⟨_, rfl⟩, hW, hsame.mono (by decide) (by decide)⟩
  · show Steps p.tables e below (s₁.setTop (mkF m 8 #[.val (.int p1)] [(.int (own_bit p1))])) _
    exact retI X0 hx Bd.returns (hb hby d2_8) hr
  · show Q2 Z p1 h0 n0 _ s₁.heap _
    rw [e0]
    exact ⟨rfl, N0, rfl⟩
theorem pd_1 : parseMethodDescriptor "(I)I" = some ⟨[.int], some .int⟩ := by decide +kernel
theorem d1_0 : decode prog_12_method_4_code 0 = .ok (.aload_n 0, 1) := by decide +kernel
theorem d1_1 : decode prog_12_method_4_code 1 = .ok (.iload_n 1, 1) := by decide +kernel
theorem d1_2 : decode prog_12_method_4_code 2 = .ok (.bipush 8, 2) := by decide +kernel
theorem d1_4 : decode prog_12_method_4_code 4 = .ok (.idiv, 1) := by decide +kernel
theorem d1_5 : decode prog_12_method_4_code 5 = .ok (.baload, 1) := by decide +kernel
theorem d1_6 : decode prog_12_method_4_code 6 = .ok (.iload_n 1, 1) := by decide +kernel
theorem d1_7 : decode prog_12_method_4_code 7 = .ok (.invokestatic 29, 3) := by decide +kernel
theorem d1_10 : decode prog_12_method_4_code 10 = .ok (.iand, 1) := by decide +kernel
theorem d1_11 : decode prog_12_method_4_code 11 = .ok (.ifCond .eq 7, 3) := by decide +kernel
theorem d1_14 : decode prog_12_method_4_code 14 = .ok (.iconst 1, 1) := by decide +kernel
theorem d1_15 : decode prog_12_method_4_code 15 = .ok (.goto 4, 3) := by decide +kernel
theorem d1_18 : decode prog_12_method_4_code 18 = .ok (.iconst 0, 1) := by decide +kernel
theorem d1_19 : decode prog_12_method_4_code 19 = .ok (.ireturn, 1) := by decide +kernel
theorem ef_1 (m : MethodId) (a1 : Addr) (p1 : Int32) : entryFrame m #[(.ref a1), (.int p1)] 2 = mkF m 0 #[.val (.ref a1), .val (.int p1)] [] := by first | (simp [entryFrame, mkF, argsToLocals, Value.category]; done) | rfl
def Q1 (Z : State) (a1 : Addr) (p1 : Int32) (f : Nat → Int32) (h0 : Heap) (n0 : Nat) (v : Option Value) (h : Heap) (L : List Loc) : Prop := v = some (.int (own_set (f (p1 / (8 : Int32)).toNatClampNeg) p1)) ∧ Fr n0 L ∧ h = h0
set_option maxRecDepth 65536 in
set_option maxHeartbeats 40000000 in
theorem rm1 (l : Launch) (Z : State) (a0 : Array Value) (hw : ∀ d ∈ tables_1, d.before a0 Z = true) (ws : List Jvm.Cond) (a1 : Addr) (p1 : Int32) (f : Nat → Int32) (h0 : Heap) (n0 : Nat) (Z0 : n0 ≤ h0.size) (A_a1 : own_A Z h0 a1 .byte 8 f) (hp : 0 ≤ p1.toInt ∧ p1.toInt < 64) :
    MetFree l (⟨"com/example/tightwire/tightwire/codec/PresenceBitmap", "isSet", "([BI)Z"⟩ : MethodName) (head1 (Jvm.Cond.code (⟨"com/example/tightwire/tightwire/codec/PresenceBitmap", "isSet", "([BI)Z"⟩ : MethodName) prog_12_method_4_code 2 (some .boolean) :: ws) ({ frames := 1, cells := 0, slots := 0, locals := 13 } : Room)) (fun aa U => aa = #[(.ref a1), (.int p1)] ∧ Z.Warmed39 U.vm ∧ U.heap = h0) (fun _ _ _ _ _ => True) (fun _ U o U' => ∃ v L, o = .returned v ∧ Q1 Z a1 p1 f h0 n0 v U'.heap L ∧ FrameEnd U o U' L ({ frames := 1, cells := 0, slots := 0, locals := 13 } : Room).cells ({ frames := 1, cells := 0, slots := 0, locals := 13 } : Room).slots) := by
  refine MetFree.of_bodySF (plainFor_of_name pn_PresenceBitmap) hisR ?_
  intro p e s m args below meth c s₁ Bd hml0 hP hK
  obtain ⟨rfl, hZ, hh⟩ := hP
  have hx := Bd.exec
  have hby := Bd.bytes
  have hml : c.maxLocals = 2 := hml0
  have hown : s.vm.findClass "com/example/tightwire/tightwire/codec/PresenceBitmap" = some m.cls := findClass_of_methodNamed Bd.named
  have hnm := (name_of_methodNamed Bd.named Bd.method).1
  have X0 : Stand p l e ({ frames := 1, cells := 0, slots := 0, locals := 13 } : Room) s m #[(.ref a1), (.int p1)] below meth c s₁ [] 0 0 := Stand.of_body Bd
  have e0 : s₁.heap = h0 := by rw [← hh, Bd.state]; rfl
  have N0 := Fr.nil n0
  have hlk : meth.locks = false := by first | exact BodyLoose.notSynchronized Bd | exact Body.notSynchronized Bd
  have pre0 : ∀ t, Steps p.tables e below (s₁.setTop (mkF m 0 #[.val (.ref a1), .val (.int p1)] [])) t → Steps p.tables e below (s₁.setTop (entryFrame m #[(.ref a1), (.int p1)] 2)) t := fun t k => castTop (ef_1 m a1 p1) k
  have K : Keep h0 h0 [] := Keep.refl _ _
  have pre1 : ∀ t, Steps p.tables e below (s₁.setTop (mkF m 5 #[.val (.ref a1), .val (.int p1)] [(.int (p1 / (8 : Int32))), (.ref a1)])) t → Steps p.tables e below (s₁.setTop (entryFrame m #[(.ref a1), (.int p1)] 2)) t := fun t k => pre0 t (by
    show Steps p.tables e below (s₁.setTop (mkF m 0 #[.val (.ref a1), .val (.int p1)] [])) _
    refine XS.aloadN X0.here hx rfl (hb hby d1_0) rfl rfl ?_
    show Steps p.tables e below (s₁.setTop (mkF m 1 #[.val (.ref a1), .val (.int p1)] [(.ref a1)])) _
    refine XS.iloadN X0.here hx rfl (hb hby d1_1) rfl ?_
    show Steps p.tables e below (s₁.setTop (mkF m 2 #[.val (.ref a1), .val (.int p1)] [(.int p1), (.ref a1)])) _
    refine XS.bipush X0.here hx rfl (hb hby d1_2) ?_
    show Steps p.tables e below (s₁.setTop (mkF m 4 #[.val (.ref a1), .val (.int p1)] [(.int (8 : Int32)), (.int p1), (.ref a1)])) _
    refine XS.idiv X0.here hx rfl (hb hby d1_4) rfl (by decide) ?_
    show Steps p.tables e below (s₁.setTop (mkF m 5 #[.val (.ref a1), .val (.int p1)] [(.int (p1 / (8 : Int32))), (.ref a1)])) _
    exact k)
  obtain ⟨cl2, Ar2, Sz2, Hf2⟩ := id A_a1
  have hat2 : cl2.slots[((p1 / (8 : Int32))).toNatClampNeg]? = some (.int (f (p1 / (8 : Int32)).toNatClampNeg)) := (Hf2 _ (own_lt_of (own_div8 hp))).trans (congrArg (fun z => some (Value.int z)) rfl)
  have pre3 : ∀ t, Steps p.tables e below (s₁.setTop (mkF m 6 #[.val (.ref a1), .val (.int p1)] [(.int (f (p1 / (8 : Int32)).toNatClampNeg))])) t → Steps p.tables e below (s₁.setTop (entryFrame m #[(.ref a1), (.int p1)] 2)) t := fun t k => pre1 t (X0.baloadBytes hx (j := (p1 / (8 : Int32))) (v := (.int (f (p1 / (8 : Int32)).toNatClampNeg))) (by rw [e0]; exact Ar2.1) (State.isArrayOf_alike hZ.alike Ar2.2.1) Ar2.2.2 (own_inb Sz2 (own_div8 hp)) hat2 (g := (mkF m 5 #[.val (.ref a1), .val (.int p1)] [(.int (p1 / (8 : Int32))), (.ref a1)])) rfl rfl (hb hby d1_5) _ k)
  have pre4 : ∀ t, Steps p.tables e below (s₁.setTop (mkF m 7 #[.val (.ref a1), .val (.int p1)] [(.int p1), (.int (f (p1 / (8 : Int32)).toNatClampNeg))])) t → Steps p.tables e below (s₁.setTop (entryFrame m #[(.ref a1), (.int p1)] 2)) t := fun t k => pre3 t (by
    show Steps p.tables e below (s₁.setTop (mkF m 6 #[.val (.ref a1), .val (.int p1)] [(.int (f (p1 / (8 : Int32)).toNatClampNeg))])) _
    refine XS.iloadN X0.here hx rfl (hb hby d1_6) rfl ?_
    show Steps p.tables e below (s₁.setTop (mkF m 7 #[.val (.ref a1), .val (.int p1)] [(.int p1), (.int (f (p1 / (8 : Int32)).toNatClampNeg))])) _
    exact k)
  obtain ⟨_, _, ⟨T5, L5, k5, n5⟩, -, X5, ⟨Lc5, hQ5, l5, y5, z5⟩, st5⟩ := Jvm.LawKit.callS X0 hx (y := (⟨"com/example/tightwire/tightwire/codec/PresenceBitmap", "bit", "(I)I"⟩ : MethodName)) hown (mvT hZ (hw _ (List.mem_of_getElem? (i := 5) rfl))) (mvT hZ (hw _ (List.mem_of_getElem? (i := 6) rfl))) (mvT hZ (hw _ (List.mem_of_getElem? (i := 3) rfl))) (mvT hZ (hw _ (List.mem_of_getElem? (i := 7) rfl))) (by decide) (backOf (W := 1) (rm2 l Z a0 hw [] p1 h0 n0 Z0) hZ (hw _ (List.mem_of_getElem? (i := 7) rfl)) (hw _ (List.mem_of_getElem? (i := 3) rfl)) (by decide) (by decide)) (g := (mkF m 7 #[.val (.ref a1), .val (.int p1)] [(.int p1), (.int (f (p1 / (8 : Int32)).toNatClampNeg))])) rfl (by rw [hml]; rfl) (argsL := [(.int p1)]) (rest := [(.int (f (p1 / (8 : Int32)).toNatClampNeg))]) (lenOf pd_1 rfl) rfl (by show 2 * 0 + _ ≤ _; exact Nat.le_of_eq rfl) (hb hby d1_7) (fun _ _ => ⟨rfl, e0, (by decide : 0 + 0 ≤ _), (by decide : 0 + 0 ≤ _)⟩)
  dsimp only [Pt.U, Pt.locs, Pt.cells, Pt.slots] at X5 l5 y5 z5 st5 hQ5
  subst l5 y5 z5
  obtain ⟨rfl, N5q, e5⟩ := hQ5
  have N5 := Fr.app N0 N5q
  have pre6 : ∀ t, Steps p.tables e below (T5.setTop (mkF m 10 #[.val (.ref a1), .val (.int p1)] [(.int (own_bit p1)), (.int (f (p1 / (8 : Int32)).toNatClampNeg))])) t → Steps p.tables e below (s₁.setTop (entryFrame m #[(.ref a1), (.int p1)] 2)) t := fun t k => pre4 t (st5 t k)
  have pre7 : ∀ t, Steps p.tables e below (T5.setTop (mkF m 11 #[.val (.ref a1), .val (.int p1)] [(.int ((f (p1 / (8 : Int32)).toNatClampNeg) &&& (own_bit p1)))])) t → Steps p.tables e below (s₁.setTop (entryFrame m #[(.ref a1), (.int p1)] 2)) t := fun t k => pre6 t (by
    show Steps p.tables e below (T5.setTop (mkF m 10 #[.val (.ref a1), .val (.int p1)] [(.int (own_bit p1)), (.int (f (p1 / (8 : Int32)).toNatClampNeg))])) _
    refine XS.iand X5.here hx rfl (hb hby d1_10) rfl ?_
    show Steps p.tables e below (T5.setTop (mkF m 11 #[.val (.ref a1), .val (.int p1)] [(.int ((f (p1 / (8 : Int32)).toNatClampNeg) &&& (own_bit p1)))])) _
    exact k)
  by_cases hc11_8 : ((f (p1 / (8 : Int32)).toNatClampNeg) &&& (own_bit p1)) = (0 : Int32)
  · have pre9 : ∀ t, Steps p.tables e below (T5.setTop (mkF m 19 #[.val (.ref a1), .val (.int p1)] [(.int (0 : Int32))])) t → Steps p.tables e below (s₁.setTop (entryFrame m #[(.ref a1), (.int p1)] 2)) t := fun t k => pre7 t (by
      show Steps p.tables e below (T5.setTop (mkF m 11 #[.val (.ref a1), .val (.int p1)] [(.int ((f (p1 / (8 : Int32)).toNatClampNeg) &&& (own_bit p1)))])) _
      refine XS.ifYes X5.here hx rfl (pc0 := 11) (pc' := 18) rfl (hb hby d1_11) rfl ((if0 _ _).trans (teq hc11_8).1) (by decide) (by decide) ?_
      show Steps p.tables e below (T5.setTop (mkF m 18 #[.val (.ref a1), .val (.int p1)] [])) _
      refine XS.iconst X5.here hx rfl (hb hby d1_18) ?_
      show Steps p.tables e below (T5.setTop (mkF m 19 #[.val (.ref a1), .val (.int p1)] [(.int (0 : Int32))])) _
      exact k)
    obtain ⟨fs, hr, hrun, hended, hW, hsame⟩ := X5.leave (v := some (.int (0 : Int32))) (fun h => by rw [Bd.returns] at h; cases h) hlk
    refine ⟨_, _, pre9 _ ?_, hrun, hended, _, _, rfl, ?_, ⟨_, rfl⟩, hW, hsame.mono (by decide) (by decide)⟩
    · show Steps p.tables e below (T5.setTop (mkF m 19 #[.val (.ref a1), .val (.int p1)] [(.int (0 : Int32))])) _
      exact retN X5 hx (t := .boolean) Bd.returns (by simp) (hb hby d1_19) hr
    · show Q1 Z a1 p1 f h0 n0 _ T5.heap _
      rw [e5]
      exact ⟨by simp only [own_set, if_pos hc11_8], N5, rfl⟩
  · have pre10 : ∀ t, Steps p.tables e below (T5.setTop (mkF m 19 #[.val (.ref a1), .val (.int p1)] [(.int (1 : Int32))])) t → Steps p.tables e below (s₁.setTop (entryFrame m #[(.ref a1), (.int p1)] 2)) t := fun t k => pre7 t (by
      show Steps p.tables e below (T5.setTop (mkF m 11 #[.val (.ref a1), .val (.int p1)] [(.int ((f (p1 / (8 : Int32)).toNatClampNeg) &&& (own_bit p1)))])) _
      refine XS.ifNo X5.here hx rfl (hb hby d1_11) rfl ((if0 _ _).trans (feq hc11_8).1) ?_
      show Steps p.tables e below (T5.setTop (mkF m 14 #[.val (.ref a1), .val (.int p1)] [])) _
      refine XS.iconst X5.here hx rfl (hb hby d1_14) ?_
      show Steps p.tables e below (T5.setTop (mkF m 15 #[.val (.ref a1), .val (.int p1)] [(.int (1 : Int32))])) _
      refine XS.goto X5.here hx rfl (pc0 := 15) (pc' := 19) rfl (hb hby d1_15) (by decide) (by decide) ?_
      show Steps p.tables e below (T5.setTop (mkF m 19 #[.val (.ref a1), .val (.int p1)] [(.int (1 : Int32))])) _
      exact k)
    obtain ⟨fs, hr, hrun, hended, hW, hsame⟩ := X5.leave (v := some (.int (1 : Int32))) (fun h => by rw [Bd.returns] at h; cases h) hlk
    refine ⟨_, _, pre10 _ ?_, hrun, hended, _, _, rfl, ?_, ⟨_, rfl⟩, hW, hsame.mono (by decide) (by decide)⟩
    · show Steps p.tables e below (T5.setTop (mkF m 19 #[.val (.ref a1), .val (.int p1)] [(.int (1 : Int32))])) _
      exact retN X5 hx (t := .boolean) Bd.returns (by simp) (hb hby d1_19) hr
    · show Q1 Z a1 p1 f h0 n0 _ T5.heap _
      rw [e5]
      exact ⟨by simp only [own_set, if_neg hc11_8], N5, rfl⟩
theorem pd_0 : parseMethodDescriptor "([BI)Z" = some ⟨[(.array .byte), .int], some .boolean⟩ := by decide +kernel
theorem pn_PresenceBitmapIsSetPinLaw : plainName "com/example/tightwire/tightwire/codec/PresenceBitmapIsSetPinLaw" = true := by first | (simp [plainName, overriddenIn]; done) | decide +kernel
theorem ef_0 (m : MethodId) (q1 : Int64) (p1 : Int32) : entryFrame m #[(.long q1), (.int p1)] maxLocals = mkF m 0 #[.val (.long q1), .second, .val (.int p1), .unset, .unset, .unset] [] := by first | (simp [entryFrame, mkF, argsToLocals, Value.category, maxLocals]; done) | rfl
def lc0_0 (q1 : Int64) (p1 : Int32) (b2 : Addr) : Array Slot := #[.val (.long q1), .second, .val (.int p1), .val (.ref b2), .val (.int (own_i p1)), .val (.int (if (own_shl q1 (own_i p1)) < (0 : Int64) then (1 : Int32) else (0 : Int32)))]
def Q0 (Z : State) (q1 : Int64) (p1 : Int32) (h0 : Heap) (n0 : Nat) (v : Option Value) (h : Heap) (L : List Loc) : Prop := v = some (.int (1 : Int32)) ∧ Fr n0 L
set_option maxRecDepth 65536 in
set_option maxHeartbeats 40000000 in
theorem rm0 (l : Launch) (Z : State) (a0 : Array Value) (hw : ∀ d ∈ tables_1, d.before a0 Z = true) (ws : List Jvm.Cond) (q1 : Int64) (p1 : Int32) (h0 : Heap) (n0 : Nat) (Z0 : n0 ≤ h0.size) :
    MetFree l x (head1 (Jvm.Cond.code x code maxLocals ret :: ws) room_1) (fun aa U => aa = #[(.long q1), (.int p1)] ∧ Z.Warmed39 U.vm ∧ U.heap = h0) (fun _ _ _ _ _ => True) (fun _ U o U' => ∃ v L, o = .returned v ∧ Q0 Z q1 p1 h0 n0 v U'.heap L ∧ FrameEnd U o U' L room_1.cells room_1.slots) := by
  refine MetFree.of_bodySF (plainFor_of_name pn_PresenceBitmapIsSetPinLaw) hisR ?_
  intro p e s m args below meth c s₁ Bd hml0 hP hK
  obtain ⟨rfl, hZ, hh⟩ := hP
  have hx := Bd.exec
  have hby := Bd.bytes
  have hml : c.maxLocals = 6 := hml0
  have hown : s.vm.findClass "com/example/tightwire/tightwire/codec/PresenceBitmapIsSetPinLaw" = some m.cls := findClass_of_methodNamed Bd.named
  have hnm := (name_of_methodNamed Bd.named Bd.method).1
  have X0 : Stand p l e room_1 s m #[(.long q1), (.int p1)] below meth c s₁ [] 0 0 := Stand.of_body Bd
  have e0 : s₁.heap = h0 := by rw [← hh, Bd.state]; rfl
  have N0 := Fr.nil n0
  have hlk : meth.locks = false := by first | exact BodyLoose.notSynchronized Bd | exact Body.notSynchronized Bd
  have pre0 : ∀ t, Steps p.tables e below (s₁.setTop (mkF m 0 #[.val (.long q1), .second, .val (.int p1), .unset, .unset, .unset] [])) t → Steps p.tables e below (s₁.setTop (entryFrame m #[(.long q1), (.int p1)] maxLocals)) t := fun t k => castTop (ef_0 m q1 p1) k
  have pre1 : ∀ t, Steps p.tables e below (s₁.setTop (mkF m 2 #[.val (.long q1), .second, .val (.int p1), .unset, .unset, .unset] [(.int (8 : Int32))])) t → Steps p.tables e below (s₁.setTop (entryFrame m #[(.long q1), (.int p1)] maxLocals)) t := fun t k => pre0 t (by
    show Steps p.tables e below (s₁.setTop (mkF m 0 #[.val (.long q1), .second, .val (.int p1), .unset, .unset, .unset] [])) _
    refine XS.bipush X0.here hx rfl (hb hby at_0) ?_
    show Steps p.tables e below (s₁.setTop (mkF m 2 #[.val (.long q1), .second, .val (.int p1), .unset, .unset, .unset] [(.int (8 : Int32))])) _
    exact k)
  obtain ⟨T2, h2, k2, X2, e2, E2, A2, st2⟩ := newP X0 hx hZ (hw _ (List.mem_of_getElem? (i := 0) rfl)) e0 (g := (mkF m 2 #[.val (.long q1), .second, .val (.int p1), .unset, .unset, .unset] [(.int (8 : Int32))])) rfl (hb hby at_2) rfl (by decide) (cap := 8) (by decide) (by decide) (by decide) (by decide)
  obtain ⟨b2, g2⟩ : ∃ z, z = h0.size := ⟨_, rfl⟩
  rw [← g2] at A2 st2
  have g_b2 : n0 ≤ b2 := Nat.le_trans Z0 (Nat.le_of_eq g2.symm)
  have Z2 : n0 ≤ h2.size := Nat.le_trans Z0 E2.1
  have A_b2 : own_A Z h2 b2 .byte 8 (fun _ => (0 : Int32)) := own_A.new A2 rfl rfl
  have pre3 : ∀ t, Steps p.tables e below (T2.setTop (mkF m 4 #[.val (.long q1), .second, .val (.int p1), .unset, .unset, .unset] [(.ref b2)])) t → Steps p.tables e below (s₁.setTop (entryFrame m #[(.long q1), (.int p1)] maxLocals)) t := fun t k => pre1 t (st2 t k)
  have pre4 : ∀ t, Steps p.tables e below (T2.setTop (mkF m 13 #[.val (.long q1), .second, .val (.int p1), .val (.ref b2), .unset, .unset] [(.int (((own_ush q1 (56 : Int32)).toInt32).toInt8.toInt32)), (.int (0 : Int32)), (.ref b2)])) t → Steps p.tables e below (s₁.setTop (entryFrame m #[(.long q1), (.int p1)] maxLocals)) t := fun t k => pre3 t (by
    show Steps p.tables e below (T2.setTop (mkF m 4 #[.val (.long q1), .second, .val (.int p1), .unset, .unset, .unset] [(.ref b2)])) _
    refine XS.astoreN X2.here hx rfl (hb hby at_4) rfl rfl (l' := #[.val (.long q1), .second, .val (.int p1), .val (.ref b2), .unset, .unset]) rfl ?_
    show Steps p.tables e below (T2.setTop (mkF m 5 #[.val (.long q1), .second, .val (.int p1), .val (.ref b2), .unset, .unset] [])) _
    refine XS.aloadN X2.here hx rfl (hb hby at_5) rfl rfl ?_
    show Steps p.tables e below (T2.setTop (mkF m 6 #[.val (.long q1), .second, .val (.int p1), .val (.ref b2), .unset, .unset] [(.ref b2)])) _
    refine XS.iconst X2.here hx rfl (hb hby at_6) ?_
    show Steps p.tables e below (T2.setTop (mkF m 7 #[.val (.long q1), .second, .val (.int p1), .val (.ref b2), .unset, .unset] [(.int (0 : Int32)), (.ref b2)])) _
    refine XS.lloadN X2.here hx rfl (hb hby at_7) rfl ?_
    show Steps p.tables e below (T2.setTop (mkF m 8 #[.val (.long q1), .second, .val (.int p1), .val (.ref b2), .unset, .unset] [(.long q1), (.int (0 : Int32)), (.ref b2)])) _
    refine XS.bipush X2.here hx rfl (hb hby at_8) ?_
    show Steps p.tables e below (T2.setTop (mkF m 10 #[.val (.long q1), .second, .val (.int p1), .val (.ref b2), .unset, .unset] [(.int (56 : Int32)), (.long q1), (.int (0 : Int32)), (.ref b2)])) _
    refine XS.lushr X2.here hx rfl (hb hby at_10) rfl ?_
    show Steps p.tables e below (T2.setTop (mkF m 11 #[.val (.long q1), .second, .val (.int p1), .val (.ref b2), .unset, .unset] [(.long (own_ush q1 (56 : Int32))), (.int (0 : Int32)), (.ref b2)])) _
    refine XS.l2i X2.here hx rfl (hb hby at_11) rfl ?_
    show Steps p.tables e below (T2.setTop (mkF m 12 #[.val (.long q1), .second, .val (.int p1), .val (.ref b2), .unset, .unset] [(.int ((own_ush q1 (56 : Int32)).toInt32)), (.int (0 : Int32)), (.ref b2)])) _
    refine XS.i2b X2.here hx rfl (hb hby at_12) rfl ?_
    show Steps p.tables e below (T2.setTop (mkF m 13 #[.val (.long q1), .second, .val (.int p1), .val (.ref b2), .unset, .unset] [(.int (((own_ush q1 (56 : Int32)).toInt32).toInt8.toInt32)), (.int (0 : Int32)), (.ref b2)])) _
    exact k)
  obtain ⟨cl5, Ar5, Sz5, Hf5⟩ := A_b2
  obtain ⟨T5, h5, X5, e5, W5, st5⟩ := stB X2 hx hZ e2 Ar5 (j := (0 : Int32)) (own_inb Sz5 ⟨by decide, by decide⟩) (g := (mkF m 13 #[.val (.long q1), .second, .val (.int p1), .val (.ref b2), .unset, .unset] [(.int (((own_ush q1 (56 : Int32)).toInt32).toInt8.toInt32)), (.int (0 : Int32)), (.ref b2)])) rfl rfl (hb hby at_13)
  have A_b2 : own_A Z h5 b2 .byte 8 (own_put (fun _ => (0 : Int32)) 0 (nar .byte (((own_ush q1 (56 : Int32)).toInt32).toInt8.toInt32))) := own_A.set Ar5 Sz5 Hf5 W5
  have Z5 : n0 ≤ h5.size := Nat.le_trans Z2 (Keep.of_wr W5).1
  have N5 := Fr.snoc X5 N0 g_b2
  have pre6 : ∀ t, Steps p.tables e below (T5.setTop (mkF m 14 #[.val (.long q1), .second, .val (.int p1), .val (.ref b2), .unset, .unset] [])) t → Steps p.tables e below (s₁.setTop (entryFrame m #[(.long q1), (.int p1)] maxLocals)) t := fun t k => pre4 t (st5 t k)
  have pre7 : ∀ t, Steps p.tables e below (T5.setTop (mkF m 22 #[.val (.long q1), .second, .val (.int p1), .val (.ref b2), .unset, .unset] [(.int (((own_ush q1 (48 : Int32)).toInt32).toInt8.toInt32)), (.int (1 : Int32)), (.ref b2)])) t → Steps p.tables e below (s₁.setTop (entryFrame m #[(.long q1), (.int p1)] maxLocals)) t := fun t k => pre6 t (by
    show Steps p.tables e below (T5.setTop (mkF m 14 #[.val (.long q1), .second, .val (.int p1), .val (.ref b2), .unset, .unset] [])) _
    refine XS.aloadN X5.here hx rfl (hb hby at_14) rfl rfl ?_
    show Steps p.tables e below (T5.setTop (mkF m 15 #[.val (.long q1), .second, .val (.int p1), .val (.ref b2), .unset, .unset] [(.ref b2)])) _
    refine XS.iconst X5.here hx rfl (hb hby at_15) ?_
    show Steps p.tables e below (T5.setTop (mkF m 16 #[.val (.long q1), .second, .val (.int p1), .val (.ref b2), .unset, .unset] [(.int (1 : Int32)), (.ref b2)])) _
    refine XS.lloadN X5.here hx rfl (hb hby at_16) rfl ?_
    show Steps p.tables e below (T5.setTop (mkF m 17 #[.val (.long q1), .second, .val (.int p1), .val (.ref b2), .unset, .unset] [(.long q1), (.int (1 : Int32)), (.ref b2)])) _
    refine XS.bipush X5.here hx rfl (hb hby at_17) ?_
    show Steps p.tables e below (T5.setTop (mkF m 19 #[.val (.long q1), .second, .val (.int p1), .val (.ref b2), .unset, .unset] [(.int (48 : Int32)), (.long q1), (.int (1 : Int32)), (.ref b2)])) _
    refine XS.lushr X5.here hx rfl (hb hby at_19) rfl ?_
    show Steps p.tables e below (T5.setTop (mkF m 20 #[.val (.long q1), .second, .val (.int p1), .val (.ref b2), .unset, .unset] [(.long (own_ush q1 (48 : Int32))), (.int (1 : Int32)), (.ref b2)])) _
    refine XS.l2i X5.here hx rfl (hb hby at_20) rfl ?_
    show Steps p.tables e below (T5.setTop (mkF m 21 #[.val (.long q1), .second, .val (.int p1), .val (.ref b2), .unset, .unset] [(.int ((own_ush q1 (48 : Int32)).toInt32)), (.int (1 : Int32)), (.ref b2)])) _
    refine XS.i2b X5.here hx rfl (hb hby at_21) rfl ?_
    show Steps p.tables e below (T5.setTop (mkF m 22 #[.val (.long q1), .second, .val (.int p1), .val (.ref b2), .unset, .unset] [(.int (((own_ush q1 (48 : Int32)).toInt32).toInt8.toInt32)), (.int (1 : Int32)), (.ref b2)])) _
    exact k)
  obtain ⟨cl8, Ar8, Sz8, Hf8⟩ := A_b2
  obtain ⟨T8, h8, X8, e8, W8, st8⟩ := stB X5 hx hZ e5 Ar8 (j := (1 : Int32)) (own_inb Sz8 ⟨by decide, by decide⟩) (g := (mkF m 22 #[.val (.long q1), .second, .val (.int p1), .val (.ref b2), .unset, .unset] [(.int (((own_ush q1 (48 : Int32)).toInt32).toInt8.toInt32)), (.int (1 : Int32)), (.ref b2)])) rfl rfl (hb hby at_22)
  have A_b2 : own_A Z h8 b2 .byte 8 (own_put (own_put (fun _ => (0 : Int32)) 0 (nar .byte (((own_ush q1 (56 : Int32)).toInt32).toInt8.toInt32))) 1 (nar .byte (((own_ush q1 (48 : Int32)).toInt32).toInt8.toInt32))) := own_A.set Ar8 Sz8 Hf8 W8
  have Z8 : n0 ≤ h8.size := Nat.le_trans Z5 (Keep.of_wr W8).1
  have N8 := Fr.snoc X8 N5 g_b2
  have pre9 : ∀ t, Steps p.tables e below (T8.setTop (mkF m 23 #[.val (.long q1), .second, .val (.int p1), .val (.ref b2), .unset, .unset] [])) t → Steps p.tables e below (s₁.setTop (entryFrame m #[(.long q1), (.int p1)] maxLocals)) t := fun t k => pre7 t (st8 t k)
  have pre10 : ∀ t, Steps p.tables e below (T8.setTop (mkF m 31 #[.val (.long q1), .second, .val (.int p1), .val (.ref b2), .unset, .unset] [(.int (((own_ush q1 (40 : Int32)).toInt32).toInt8.toInt32)), (.int (2 : Int32)), (.ref b2)])) t → Steps p.tables e below (s₁.setTop (entryFrame m #[(.long q1), (.int p1)] maxLocals)) t := fun t k => pre9 t (by
    show Steps p.tables e below (T8.setTop (mkF m 23 #[.val (.long q1), .second, .val (.int p1), .val (.ref b2), .unset, .unset] [])) _
    refine XS.aloadN X8.here hx rfl (hb hby at_23) rfl rfl ?_
    show Steps p.tables e below (T8.setTop (mkF m 24 #[.val (.long q1), .second, .val (.int p1), .val (.ref b2), .unset, .unset] [(.ref b2)])) _
    refine XS.iconst X8.here hx rfl (hb hby at_24) ?_
    show Steps p.tables e below (T8.setTop (mkF m 25 #[.val (.long q1), .second, .val (.int p1), .val (.ref b2), .unset, .unset] [(.int (2 : Int32)), (.ref b2)])) _
    refine XS.lloadN X8.here hx rfl (hb hby at_25) rfl ?_
    show Steps p.tables e below (T8.setTop (mkF m 26 #[.val (.long q1), .second, .val (.int p1), .val (.ref b2), .unset, .unset] [(.long q1), (.int (2 : Int32)), (.ref b2)])) _
    refine XS.bipush X8.here hx rfl (hb hby at_26) ?_
    show Steps p.tables e below (T8.setTop (mkF m 28 #[.val (.long q1), .second, .val (.int p1), .val (.ref b2), .unset, .unset] [(.int (40 : Int32)), (.long q1), (.int (2 : Int32)), (.ref b2)])) _
    refine XS.lushr X8.here hx rfl (hb hby at_28) rfl ?_
    show Steps p.tables e below (T8.setTop (mkF m 29 #[.val (.long q1), .second, .val (.int p1), .val (.ref b2), .unset, .unset] [(.long (own_ush q1 (40 : Int32))), (.int (2 : Int32)), (.ref b2)])) _
    refine XS.l2i X8.here hx rfl (hb hby at_29) rfl ?_
    show Steps p.tables e below (T8.setTop (mkF m 30 #[.val (.long q1), .second, .val (.int p1), .val (.ref b2), .unset, .unset] [(.int ((own_ush q1 (40 : Int32)).toInt32)), (.int (2 : Int32)), (.ref b2)])) _
    refine XS.i2b X8.here hx rfl (hb hby at_30) rfl ?_
    show Steps p.tables e below (T8.setTop (mkF m 31 #[.val (.long q1), .second, .val (.int p1), .val (.ref b2), .unset, .unset] [(.int (((own_ush q1 (40 : Int32)).toInt32).toInt8.toInt32)), (.int (2 : Int32)), (.ref b2)])) _
    exact k)
  obtain ⟨cl11, Ar11, Sz11, Hf11⟩ := A_b2
  obtain ⟨T11, h11, X11, e11, W11, st11⟩ := stB X8 hx hZ e8 Ar11 (j := (2 : Int32)) (own_inb Sz11 ⟨by decide, by decide⟩) (g := (mkF m 31 #[.val (.long q1), .second, .val (.int p1), .val (.ref b2), .unset, .unset] [(.int (((own_ush q1 (40 : Int32)).toInt32).toInt8.toInt32)), (.int (2 : Int32)), (.ref b2)])) rfl rfl (hb hby at_31)
  have A_b2 : own_A Z h11 b2 .byte 8 (own_put (own_put (own_put (fun _ => (0 : Int32)) 0 (nar .byte (((own_ush q1 (56 : Int32)).toInt32).toInt8.toInt32))) 1 (nar .byte (((own_ush q1 (48 : Int32)).toInt32).toInt8.toInt32))) 2 (nar .byte (((own_ush q1 (40 : Int32)).toInt32).toInt8.toInt32))) := own_A.set Ar11 Sz11 Hf11 W11
  have Z11 : n0 ≤ h11.size := Nat.le_trans Z8 (Keep.of_wr W11).1
  have N11 := Fr.snoc X11 N8 g_b2
  have pre12 : ∀ t, Steps p.tables e below (T11.setTop (mkF m 32 #[.val (.long q1), .second, .val (.int p1), .val (.ref b2), .unset, .unset] [])) t → Steps p.tables e below (s₁.setTop (entryFrame m #[(.long q1), (.int p1)] maxLocals)) t := fun t k => pre10 t (st11 t k)
  have pre13 : ∀ t, Steps p.tables e below (T11.setTop (mkF m 40 #[.val (.long q1), .second, .val (.int p1), .val (.ref b2), .unset, .unset] [(.int (((own_ush q1 (32 : Int32)).toInt32).toInt8.toInt32)), (.int (3 : Int32)), (.ref b2)])) t → Steps p.tables e below (s₁.setTop (entryFrame m #[(.long q1), (.int p1)] maxLocals)) t := fun t k => pre12 t (by
    show Steps p.tables e below (T11.setTop (mkF m 32 #[.val (.long q1), .second, .val (.int p1), .val (.ref b2), .unset, .unset] [])) _
    refine XS.aloadN X11.here hx rfl (hb hby at_32) rfl rfl ?_
    show Steps p.tables e below (T11.setTop (mkF m 33 #[.val (.long q1), .second, .val (.int p1), .val (.ref b2), .unset, .unset] [(.ref b2)])) _
    refine XS.iconst X11.here hx rfl (hb hby at_33) ?_
    show Steps p.tables e below (T11.setTop (mkF m 34 #[.val (.long q1), .second, .val (.int p1), .val (.ref b2), .unset, .unset] [(.int (3 : Int32)), (.ref b2)])) _
    refine XS.lloadN X11.here hx rfl (hb hby at_34) rfl ?_
    show Steps p.tables e below (T11.setTop (mkF m 35 #[.val (.long q1), .second, .val (.int p1), .val (.ref b2), .unset, .unset] [(.long q1), (.int (3 : Int32)), (.ref b2)])) _
    refine XS.bipush X11.here hx rfl (hb hby at_35) ?_
    show Steps p.tables e below (T11.setTop (mkF m 37 #[.val (.long q1), .second, .val (.int p1), .val (.ref b2), .unset, .unset] [(.int (32 : Int32)), (.long q1), (.int (3 : Int32)), (.ref b2)])) _
    refine XS.lushr X11.here hx rfl (hb hby at_37) rfl ?_
    show Steps p.tables e below (T11.setTop (mkF m 38 #[.val (.long q1), .second, .val (.int p1), .val (.ref b2), .unset, .unset] [(.long (own_ush q1 (32 : Int32))), (.int (3 : Int32)), (.ref b2)])) _
    refine XS.l2i X11.here hx rfl (hb hby at_38) rfl ?_
    show Steps p.tables e below (T11.setTop (mkF m 39 #[.val (.long q1), .second, .val (.int p1), .val (.ref b2), .unset, .unset] [(.int ((own_ush q1 (32 : Int32)).toInt32)), (.int (3 : Int32)), (.ref b2)])) _
    refine XS.i2b X11.here hx rfl (hb hby at_39) rfl ?_
    show Steps p.tables e below (T11.setTop (mkF m 40 #[.val (.long q1), .second, .val (.int p1), .val (.ref b2), .unset, .unset] [(.int (((own_ush q1 (32 : Int32)).toInt32).toInt8.toInt32)), (.int (3 : Int32)), (.ref b2)])) _
    exact k)
  obtain ⟨cl14, Ar14, Sz14, Hf14⟩ := A_b2
  obtain ⟨T14, h14, X14, e14, W14, st14⟩ := stB X11 hx hZ e11 Ar14 (j := (3 : Int32)) (own_inb Sz14 ⟨by decide, by decide⟩) (g := (mkF m 40 #[.val (.long q1), .second, .val (.int p1), .val (.ref b2), .unset, .unset] [(.int (((own_ush q1 (32 : Int32)).toInt32).toInt8.toInt32)), (.int (3 : Int32)), (.ref b2)])) rfl rfl (hb hby at_40)
  have A_b2 : own_A Z h14 b2 .byte 8 (own_put (own_put (own_put (own_put (fun _ => (0 : Int32)) 0 (nar .byte (((own_ush q1 (56 : Int32)).toInt32).toInt8.toInt32))) 1 (nar .byte (((own_ush q1 (48 : Int32)).toInt32).toInt8.toInt32))) 2 (nar .byte (((own_ush q1 (40 : Int32)).toInt32).toInt8.toInt32))) 3 (nar .byte (((own_ush q1 (32 : Int32)).toInt32).toInt8.toInt32))) := own_A.set Ar14 Sz14 Hf14 W14
  have Z14 : n0 ≤ h14.size := Nat.le_trans Z11 (Keep.of_wr W14).1
  have N14 := Fr.snoc X14 N11 g_b2
  have pre15 : ∀ t, Steps p.tables e below (T14.setTop (mkF m 41 #[.val (.long q1), .second, .val (.int p1), .val (.ref b2), .unset, .unset] [])) t → Steps p.tables e below (s₁.setTop (entryFrame m #[(.long q1), (.int p1)] maxLocals)) t := fun t k => pre13 t (st14 t k)
  have pre16 : ∀ t, Steps p.tables e below (T14.setTop (mkF m 49 #[.val (.long q1), .second, .val (.int p1), .val (.ref b2), .unset, .unset] [(.int (((own_ush q1 (24 : Int32)).toInt32).toInt8.toInt32)), (.int (4 : Int32)), (.ref b2)])) t → Steps p.tables e below (s₁.setTop (entryFrame m #[(.long q1), (.int p1)] maxLocals)) t := fun t k => pre15 t (by
    show Steps p.tables e below (T14.setTop (mkF m 41 #[.val (.long q1), .second, .val (.int p1), .val (.ref b2), .unset, .unset] [])) _
    refine XS.aloadN X14.here hx rfl (hb hby at_41) rfl rfl ?_
    show Steps p.tables e below (T14.setTop (mkF m 42 #[.val (.long q1), .second, .val (.int p1), .val (.ref b2), .unset, .unset] [(.ref b2)])) _
    refine XS.iconst X14.here hx rfl (hb hby at_42) ?_
    show Steps p.tables e below (T14.setTop (mkF m 43 #[.val (.long q1), .second, .val (.int p1), .val (.ref b2), .unset, .unset] [(.int (4 : Int32)), (.ref b2)])) _
    refine XS.lloadN X14.here hx rfl (hb hby at_43) rfl ?_
    show Steps p.tables e below (T14.setTop (mkF m 44 #[.val (.long q1), .second, .val (.int p1), .val (.ref b2), .unset, .unset] [(.long q1), (.int (4 : Int32)), (.ref b2)])) _
    refine XS.bipush X14.here hx rfl (hb hby at_44) ?_
    show Steps p.tables e below (T14.setTop (mkF m 46 #[.val (.long q1), .second, .val (.int p1), .val (.ref b2), .unset, .unset] [(.int (24 : Int32)), (.long q1), (.int (4 : Int32)), (.ref b2)])) _
    refine XS.lushr X14.here hx rfl (hb hby at_46) rfl ?_
    show Steps p.tables e below (T14.setTop (mkF m 47 #[.val (.long q1), .second, .val (.int p1), .val (.ref b2), .unset, .unset] [(.long (own_ush q1 (24 : Int32))), (.int (4 : Int32)), (.ref b2)])) _
    refine XS.l2i X14.here hx rfl (hb hby at_47) rfl ?_
    show Steps p.tables e below (T14.setTop (mkF m 48 #[.val (.long q1), .second, .val (.int p1), .val (.ref b2), .unset, .unset] [(.int ((own_ush q1 (24 : Int32)).toInt32)), (.int (4 : Int32)), (.ref b2)])) _
    refine XS.i2b X14.here hx rfl (hb hby at_48) rfl ?_
    show Steps p.tables e below (T14.setTop (mkF m 49 #[.val (.long q1), .second, .val (.int p1), .val (.ref b2), .unset, .unset] [(.int (((own_ush q1 (24 : Int32)).toInt32).toInt8.toInt32)), (.int (4 : Int32)), (.ref b2)])) _
    exact k)
  obtain ⟨cl17, Ar17, Sz17, Hf17⟩ := A_b2
  obtain ⟨T17, h17, X17, e17, W17, st17⟩ := stB X14 hx hZ e14 Ar17 (j := (4 : Int32)) (own_inb Sz17 ⟨by decide, by decide⟩) (g := (mkF m 49 #[.val (.long q1), .second, .val (.int p1), .val (.ref b2), .unset, .unset] [(.int (((own_ush q1 (24 : Int32)).toInt32).toInt8.toInt32)), (.int (4 : Int32)), (.ref b2)])) rfl rfl (hb hby at_49)
  have A_b2 : own_A Z h17 b2 .byte 8 (own_put (own_put (own_put (own_put (own_put (fun _ => (0 : Int32)) 0 (nar .byte (((own_ush q1 (56 : Int32)).toInt32).toInt8.toInt32))) 1 (nar .byte (((own_ush q1 (48 : Int32)).toInt32).toInt8.toInt32))) 2 (nar .byte (((own_ush q1 (40 : Int32)).toInt32).toInt8.toInt32))) 3 (nar .byte (((own_ush q1 (32 : Int32)).toInt32).toInt8.toInt32))) 4 (nar .byte (((own_ush q1 (24 : Int32)).toInt32).toInt8.toInt32))) := own_A.set Ar17 Sz17 Hf17 W17
  have Z17 : n0 ≤ h17.size := Nat.le_trans Z14 (Keep.of_wr W17).1
  have N17 := Fr.snoc X17 N14 g_b2
  have pre18 : ∀ t, Steps p.tables e below (T17.setTop (mkF m 50 #[.val (.long q1), .second, .val (.int p1), .val (.ref b2), .unset, .unset] [])) t → Steps p.tables e below (s₁.setTop (entryFrame m #[(.long q1), (.int p1)] maxLocals)) t := fun t k => pre16 t (st17 t k)
  have pre19 : ∀ t, Steps p.tables e below (T17.setTop (mkF m 58 #[.val (.long q1), .second, .val (.int p1), .val (.ref b2), .unset, .unset] [(.int (((own_ush q1 (16 : Int32)).toInt32).toInt8.toInt32)), (.int (5 : Int32)), (.ref b2)])) t → Steps p.tables e below (s₁.setTop (entryFrame m #[(.long q1), (.int p1)] maxLocals)) t := fun t k => pre18 t (by
    show Steps p.tables e below (T17.setTop (mkF m 50 #[.val (.long q1), .second, .val (.int p1), .val (.ref b2), .unset, .unset] [])) _
    refine XS.aloadN X17.here hx rfl (hb hby at_50) rfl rfl ?_
    show Steps p.tables e below (T17.setTop (mkF m 51 #[.val (.long q1), .second, .val (.int p1), .val (.ref b2), .unset, .unset] [(.ref b2)])) _
    refine XS.iconst X17.here hx rfl (hb hby at_51) ?_
    show Steps p.tables e below (T17.setTop (mkF m 52 #[.val (.long q1), .second, .val (.int p1), .val (.ref b2), .unset, .unset] [(.int (5 : Int32)), (.ref b2)])) _
    refine XS.lloadN X17.here hx rfl (hb hby at_52) rfl ?_
    show Steps p.tables e below (T17.setTop (mkF m 53 #[.val (.long q1), .second, .val (.int p1), .val (.ref b2), .unset, .unset] [(.long q1), (.int (5 : Int32)), (.ref b2)])) _
    refine XS.bipush X17.here hx rfl (hb hby at_53) ?_
    show Steps p.tables e below (T17.setTop (mkF m 55 #[.val (.long q1), .second, .val (.int p1), .val (.ref b2), .unset, .unset] [(.int (16 : Int32)), (.long q1), (.int (5 : Int32)), (.ref b2)])) _
    refine XS.lushr X17.here hx rfl (hb hby at_55) rfl ?_
    show Steps p.tables e below (T17.setTop (mkF m 56 #[.val (.long q1), .second, .val (.int p1), .val (.ref b2), .unset, .unset] [(.long (own_ush q1 (16 : Int32))), (.int (5 : Int32)), (.ref b2)])) _
    refine XS.l2i X17.here hx rfl (hb hby at_56) rfl ?_
    show Steps p.tables e below (T17.setTop (mkF m 57 #[.val (.long q1), .second, .val (.int p1), .val (.ref b2), .unset, .unset] [(.int ((own_ush q1 (16 : Int32)).toInt32)), (.int (5 : Int32)), (.ref b2)])) _
    refine XS.i2b X17.here hx rfl (hb hby at_57) rfl ?_
    show Steps p.tables e below (T17.setTop (mkF m 58 #[.val (.long q1), .second, .val (.int p1), .val (.ref b2), .unset, .unset] [(.int (((own_ush q1 (16 : Int32)).toInt32).toInt8.toInt32)), (.int (5 : Int32)), (.ref b2)])) _
    exact k)
  obtain ⟨cl20, Ar20, Sz20, Hf20⟩ := A_b2
  obtain ⟨T20, h20, X20, e20, W20, st20⟩ := stB X17 hx hZ e17 Ar20 (j := (5 : Int32)) (own_inb Sz20 ⟨by decide, by decide⟩) (g := (mkF m 58 #[.val (.long q1), .second, .val (.int p1), .val (.ref b2), .unset, .unset] [(.int (((own_ush q1 (16 : Int32)).toInt32).toInt8.toInt32)), (.int (5 : Int32)), (.ref b2)])) rfl rfl (hb hby at_58)
  have A_b2 : own_A Z h20 b2 .byte 8 (own_put (own_put (own_put (own_put (own_put (own_put (fun _ => (0 : Int32)) 0 (nar .byte (((own_ush q1 (56 : Int32)).toInt32).toInt8.toInt32))) 1 (nar .byte (((own_ush q1 (48 : Int32)).toInt32).toInt8.toInt32))) 2 (nar .byte (((own_ush q1 (40 : Int32)).toInt32).toInt8.toInt32))) 3 (nar .byte (((own_ush q1 (32 : Int32)).toInt32).toInt8.toInt32))) 4 (nar .byte (((own_ush q1 (24 : Int32)).toInt32).toInt8.toInt32))) 5 (nar .byte (((own_ush q1 (16 : Int32)).toInt32).toInt8.toInt32))) := own_A.set Ar20 Sz20 Hf20 W20
  have Z20 : n0 ≤ h20.size := Nat.le_trans Z17 (Keep.of_wr W20).1
  have N20 := Fr.snoc X20 N17 g_b2
  have pre21 : ∀ t, Steps p.tables e below (T20.setTop (mkF m 59 #[.val (.long q1), .second, .val (.int p1), .val (.ref b2), .unset, .unset] [])) t → Steps p.tables e below (s₁.setTop (entryFrame m #[(.long q1), (.int p1)] maxLocals)) t := fun t k => pre19 t (st20 t k)
  have pre22 : ∀ t, Steps p.tables e below (T20.setTop (mkF m 68 #[.val (.long q1), .second, .val (.int p1), .val (.ref b2), .unset, .unset] [(.int (((own_ush q1 (8 : Int32)).toInt32).toInt8.toInt32)), (.int (6 : Int32)), (.ref b2)])) t → Steps p.tables e below (s₁.setTop (entryFrame m #[(.long q1), (.int p1)] maxLocals)) t := fun t k => pre21 t (by
    show Steps p.tables e below (T20.setTop (mkF m 59 #[.val (.long q1), .second, .val (.int p1), .val (.ref b2), .unset, .unset] [])) _
    refine XS.aloadN X20.here hx rfl (hb hby at_59) rfl rfl ?_
    show Steps p.tables e below (T20.setTop (mkF m 60 #[.val (.long q1), .second, .val (.int p1), .val (.ref b2), .unset, .unset] [(.ref b2)])) _
    refine XS.bipush X20.here hx rfl (hb hby at_60) ?_
    show Steps p.tables e below (T20.setTop (mkF m 62 #[.val (.long q1), .second, .val (.int p1), .val (.ref b2), .unset, .unset] [(.int (6 : Int32)), (.ref b2)])) _
    refine XS.lloadN X20.here hx rfl (hb hby at_62) rfl ?_
    show Steps p.tables e below (T20.setTop (mkF m 63 #[.val (.long q1), .second, .val (.int p1), .val (.ref b2), .unset, .unset] [(.long q1), (.int (6 : Int32)), (.ref b2)])) _
    refine XS.bipush X20.here hx rfl (hb hby at_63) ?_
    show Steps p.tables e below (T20.setTop (mkF m 65 #[.val (.long q1), .second, .val (.int p1), .val (.ref b2), .unset, .unset] [(.int (8 : Int32)), (.long q1), (.int (6 : Int32)), (.ref b2)])) _
    refine XS.lushr X20.here hx rfl (hb hby at_65) rfl ?_
    show Steps p.tables e below (T20.setTop (mkF m 66 #[.val (.long q1), .second, .val (.int p1), .val (.ref b2), .unset, .unset] [(.long (own_ush q1 (8 : Int32))), (.int (6 : Int32)), (.ref b2)])) _
    refine XS.l2i X20.here hx rfl (hb hby at_66) rfl ?_
    show Steps p.tables e below (T20.setTop (mkF m 67 #[.val (.long q1), .second, .val (.int p1), .val (.ref b2), .unset, .unset] [(.int ((own_ush q1 (8 : Int32)).toInt32)), (.int (6 : Int32)), (.ref b2)])) _
    refine XS.i2b X20.here hx rfl (hb hby at_67) rfl ?_
    show Steps p.tables e below (T20.setTop (mkF m 68 #[.val (.long q1), .second, .val (.int p1), .val (.ref b2), .unset, .unset] [(.int (((own_ush q1 (8 : Int32)).toInt32).toInt8.toInt32)), (.int (6 : Int32)), (.ref b2)])) _
    exact k)
  obtain ⟨cl23, Ar23, Sz23, Hf23⟩ := A_b2
  obtain ⟨T23, h23, X23, e23, W23, st23⟩ := stB X20 hx hZ e20 Ar23 (j := (6 : Int32)) (own_inb Sz23 ⟨by decide, by decide⟩) (g := (mkF m 68 #[.val (.long q1), .second, .val (.int p1), .val (.ref b2), .unset, .unset] [(.int (((own_ush q1 (8 : Int32)).toInt32).toInt8.toInt32)), (.int (6 : Int32)), (.ref b2)])) rfl rfl (hb hby at_68)
  have A_b2 : own_A Z h23 b2 .byte 8 (own_put (own_put (own_put (own_put (own_put (own_put (own_put (fun _ => (0 : Int32)) 0 (nar .byte (((own_ush q1 (56 : Int32)).toInt32).toInt8.toInt32))) 1 (nar .byte (((own_ush q1 (48 : Int32)).toInt32).toInt8.toInt32))) 2 (nar .byte (((own_ush q1 (40 : Int32)).toInt32).toInt8.toInt32))) 3 (nar .byte (((own_ush q1 (32 : Int32)).toInt32).toInt8.toInt32))) 4 (nar .byte (((own_ush q1 (24 : Int32)).toInt32).toInt8.toInt32))) 5 (nar .byte (((own_ush q1 (16 : Int32)).toInt32).toInt8.toInt32))) 6 (nar .byte (((own_ush q1 (8 : Int32)).toInt32).toInt8.toInt32))) := own_A.set Ar23 Sz23 Hf23 W23
  have Z23 : n0 ≤ h23.size := Nat.le_trans Z20 (Keep.of_wr W23).1
  have N23 := Fr.snoc X23 N20 g_b2
  have pre24 : ∀ t, Steps p.tables e below (T23.setTop (mkF m 69 #[.val (.long q1), .second, .val (.int p1), .val (.ref b2), .unset, .unset] [])) t → Steps p.tables e below (s₁.setTop (entryFrame m #[(.long q1), (.int p1)] maxLocals)) t := fun t k => pre22 t (st23 t k)
  have pre25 : ∀ t, Steps p.tables e below (T23.setTop (mkF m 75 #[.val (.long q1), .second, .val (.int p1), .val (.ref b2), .unset, .unset] [(.int ((q1.toInt32).toInt8.toInt32)), (.int (7 : Int32)), (.ref b2)])) t → Steps p.tables e below (s₁.setTop (entryFrame m #[(.long q1), (.int p1)] maxLocals)) t := fun t k => pre24 t (by
    show Steps p.tables e below (T23.setTop (mkF m 69 #[.val (.long q1), .second, .val (.int p1), .val (.ref b2), .unset, .unset] [])) _
    refine XS.aloadN X23.here hx rfl (hb hby at_69) rfl rfl ?_
    show Steps p.tables e below (T23.setTop (mkF m 70 #[.val (.long q1), .second, .val (.int p1), .val (.ref b2), .unset, .unset] [(.ref b2)])) _
    refine XS.bipush X23.here hx rfl (hb hby at_70) ?_
    show Steps p.tables e below (T23.setTop (mkF m 72 #[.val (.long q1), .second, .val (.int p1), .val (.ref b2), .unset, .unset] [(.int (7 : Int32)), (.ref b2)])) _
    refine XS.lloadN X23.here hx rfl (hb hby at_72) rfl ?_
    show Steps p.tables e below (T23.setTop (mkF m 73 #[.val (.long q1), .second, .val (.int p1), .val (.ref b2), .unset, .unset] [(.long q1), (.int (7 : Int32)), (.ref b2)])) _
    refine XS.l2i X23.here hx rfl (hb hby at_73) rfl ?_
    show Steps p.tables e below (T23.setTop (mkF m 74 #[.val (.long q1), .second, .val (.int p1), .val (.ref b2), .unset, .unset] [(.int (q1.toInt32)), (.int (7 : Int32)), (.ref b2)])) _
    refine XS.i2b X23.here hx rfl (hb hby at_74) rfl ?_
    show Steps p.tables e below (T23.setTop (mkF m 75 #[.val (.long q1), .second, .val (.int p1), .val (.ref b2), .unset, .unset] [(.int ((q1.toInt32).toInt8.toInt32)), (.int (7 : Int32)), (.ref b2)])) _
    exact k)
  obtain ⟨cl26, Ar26, Sz26, Hf26⟩ := A_b2
  obtain ⟨T26, h26, X26, e26, W26, st26⟩ := stB X23 hx hZ e23 Ar26 (j := (7 : Int32)) (own_inb Sz26 ⟨by decide, by decide⟩) (g := (mkF m 75 #[.val (.long q1), .second, .val (.int p1), .val (.ref b2), .unset, .unset] [(.int ((q1.toInt32).toInt8.toInt32)), (.int (7 : Int32)), (.ref b2)])) rfl rfl (hb hby at_75)
  have A_b2 : own_A Z h26 b2 .byte 8 (own_put (own_put (own_put (own_put (own_put (own_put (own_put (own_put (fun _ => (0 : Int32)) 0 (nar .byte (((own_ush q1 (56 : Int32)).toInt32).toInt8.toInt32))) 1 (nar .byte (((own_ush q1 (48 : Int32)).toInt32).toInt8.toInt32))) 2 (nar .byte (((own_ush q1 (40 : Int32)).toInt32).toInt8.toInt32))) 3 (nar .byte (((own_ush q1 (32 : Int32)).toInt32).toInt8.toInt32))) 4 (nar .byte (((own_ush q1 (24 : Int32)).toInt32).toInt8.toInt32))) 5 (nar .byte (((own_ush q1 (16 : Int32)).toInt32).toInt8.toInt32))) 6 (nar .byte (((own_ush q1 (8 : Int32)).toInt32).toInt8.toInt32))) 7 (nar .byte ((q1.toInt32).toInt8.toInt32))) := own_A.set Ar26 Sz26 Hf26 W26
  have Z26 : n0 ≤ h26.size := Nat.le_trans Z23 (Keep.of_wr W26).1
  have N26 := Fr.snoc X26 N23 g_b2
  have pre27 : ∀ t, Steps p.tables e below (T26.setTop (mkF m 76 #[.val (.long q1), .second, .val (.int p1), .val (.ref b2), .unset, .unset] [])) t → Steps p.tables e below (s₁.setTop (entryFrame m #[(.long q1), (.int p1)] maxLocals)) t := fun t k => pre25 t (st26 t k)
  have pre28 : ∀ t, Steps p.tables e below (T26.setTop (mkF m 88 #[.val (.long q1), .second, .val (.int p1), .val (.ref b2), .val (.int (own_i p1)), .unset] [(.int (lcmpW (own_shl q1 (own_i p1)) (0 : Int64)))])) t → Steps p.tables e below (s₁.setTop (entryFrame m #[(.long q1), (.int p1)] maxLocals)) t := fun t k => pre27 t (by
    show Steps p.tables e below (T26.setTop (mkF m 76 #[.val (.long q1), .second, .val (.int p1), .val (.ref b2), .unset, .unset] [])) _
    refine XS.iloadN X26.here hx rfl (hb hby at_76) rfl ?_
    show Steps p.tables e below (T26.setTop (mkF m 77 #[.val (.long q1), .second, .val (.int p1), .val (.ref b2), .unset, .unset] [(.int p1)])) _
    refine XS.bipush X26.here hx rfl (hb hby at_77) ?_
    show Steps p.tables e below (T26.setTop (mkF m 79 #[.val (.long q1), .second, .val (.int p1), .val (.ref b2), .unset, .unset] [(.int (63 : Int32)), (.int p1)])) _
    refine XS.iand X26.here hx rfl (hb hby at_79) rfl ?_
    show Steps p.tables e below (T26.setTop (mkF m 80 #[.val (.long q1), .second, .val (.int p1), .val (.ref b2), .unset, .unset] [(.int (own_i p1))])) _
    refine XS.istore X26.here hx rfl (hb hby at_80) rfl (l' := #[.val (.long q1), .second, .val (.int p1), .val (.ref b2), .val (.int (own_i p1)), .unset]) rfl ?_
    show Steps p.tables e below (T26.setTop (mkF m 82 #[.val (.long q1), .second, .val (.int p1), .val (.ref b2), .val (.int (own_i p1)), .unset] [])) _
    refine XS.lloadN X26.here hx rfl (hb hby at_82) rfl ?_
    show Steps p.tables e below (T26.setTop (mkF m 83 #[.val (.long q1), .second, .val (.int p1), .val (.ref b2), .val (.int (own_i p1)), .unset] [(.long q1)])) _
    refine XS.iload X26.here hx rfl (hb hby at_83) rfl ?_
    show Steps p.tables e below (T26.setTop (mkF m 85 #[.val (.long q1), .second, .val (.int p1), .val (.ref b2), .val (.int (own_i p1)), .unset] [(.int (own_i p1)), (.long q1)])) _
    refine XS.lshl X26.here hx rfl (hb hby at_85) rfl ?_
    show Steps p.tables e below (T26.setTop (mkF m 86 #[.val (.long q1), .second, .val (.int p1), .val (.ref b2), .val (.int (own_i p1)), .unset] [(.long (own_shl q1 (own_i p1)))])) _
    refine XS.lconst X26.here hx rfl (hb hby at_86) ?_
    show Steps p.tables e below (T26.setTop (mkF m 87 #[.val (.long q1), .second, .val (.int p1), .val (.ref b2), .val (.int (own_i p1)), .unset] [(.long (0 : Int64)), (.long (own_shl q1 (own_i p1)))])) _
    refine XS.lcmp X26.here hx rfl (hb hby at_87) rfl ?_
    show Steps p.tables e below (T26.setTop (mkF m 88 #[.val (.long q1), .second, .val (.int p1), .val (.ref b2), .val (.int (own_i p1)), .unset] [(.int (lcmpW (own_shl q1 (own_i p1)) (0 : Int64)))])) _
    exact k)
  have pre30 : ∀ t, Steps p.tables e below (T26.setTop (mkF m 96 #[.val (.long q1), .second, .val (.int p1), .val (.ref b2), .val (.int (own_i p1)), .unset] [(.int (if (own_shl q1 (own_i p1)) < (0 : Int64) then (1 : Int32) else (0 : Int32)))])) t → Steps p.tables e below (s₁.setTop (entryFrame m #[(.long q1), (.int p1)] maxLocals)) t := fun t k => pre28 t (by
    show Steps p.tables e below (T26.setTop (mkF m 88 #[.val (.long q1), .second, .val (.int p1), .val (.ref b2), .val (.int (own_i p1)), .unset] [(.int (lcmpW (own_shl q1 (own_i p1)) (0 : Int64)))])) _
    by_cases hm88_29 : (own_shl q1 (own_i p1)) < (0 : Int64)
    · refine XS.ifNo X26.here hx rfl (hb hby at_88) rfl ((if0 _ _).trans (tlt ((lw_lt _ _).mpr hm88_29)).2.1) ?_
      show Steps p.tables e below (T26.setTop (mkF m 91 #[.val (.long q1), .second, .val (.int p1), .val (.ref b2), .val (.int (own_i p1)), .unset] [])) _
      refine XS.iconst X26.here hx rfl (hb hby at_91) ?_
      show Steps p.tables e below (T26.setTop (mkF m 92 #[.val (.long q1), .second, .val (.int p1), .val (.ref b2), .val (.int (own_i p1)), .unset] [(.int (1 : Int32))])) _
      refine XS.goto X26.here hx rfl (pc0 := 92) (pc' := 96) rfl (hb hby at_92) (by decide) (by decide) ?_
      show Steps p.tables e below (T26.setTop (mkF m 96 #[.val (.long q1), .second, .val (.int p1), .val (.ref b2), .val (.int (own_i p1)), .unset] [(.int (1 : Int32))])) _
      have q : (if (own_shl q1 (own_i p1)) < (0 : Int64) then (1 : Int32) else (0 : Int32)) = (1 : Int32) := by simp only [if_pos hm88_29]
      exact Eq.subst (motive := fun xI => Steps p.tables e below (T26.setTop (mkF m 96 #[.val (.long q1), .second, .val (.int p1), .val (.ref b2), .val (.int (own_i p1)), .unset] [(.int xI)])) t) q k
    · refine XS.ifYes X26.here hx rfl (pc0 := 88) (pc' := 95) rfl (hb hby at_88) rfl ((if0 _ _).trans (flt (fun q => hm88_29 ((lw_lt _ _).mp q))).2.1) (by decide) (by decide) ?_
      show Steps p.tables e below (T26.setTop (mkF m 95 #[.val (.long q1), .second, .val (.int p1), .val (.ref b2), .val (.int (own_i p1)), .unset] [])) _
      refine XS.iconst X26.here hx rfl (hb hby at_95) ?_
      show Steps p.tables e below (T26.setTop (mkF m 96 #[.val (.long q1), .second, .val (.int p1), .val (.ref b2), .val (.int (own_i p1)), .unset] [(.int (0 : Int32))])) _
      have q : (if (own_shl q1 (own_i p1)) < (0 : Int64) then (1 : Int32) else (0 : Int32)) = (0 : Int32) := by simp only [if_neg hm88_29]
      exact Eq.subst (motive := fun xI => Steps p.tables e below (T26.setTop (mkF m 96 #[.val (.long q1), .second, .val (.int p1), .val (.ref b2), .val (.int (own_i p1)), .unset] [(.int xI)])) t) q k)
  have pre31 : ∀ t, Steps p.tables e below (T26.setTop (mkF m 101 (lc0_0 q1 p1 b2) [(.int (own_i p1)), (.ref b2)])) t → Steps p.tables e below (s₁.setTop (entryFrame m #[(.long q1), (.int p1)] maxLocals)) t := fun t k => pre30 t (by
    show Steps p.tables e below (T26.setTop (mkF m 96 #[.val (.long q1), .second, .val (.int p1), .val (.ref b2), .val (.int (own_i p1)), .unset] [(.int (if (own_shl q1 (own_i p1)) < (0 : Int64) then (1 : Int32) else (0 : Int32)))])) _
    refine XS.istore X26.here hx rfl (hb hby at_96) rfl (l' := (lc0_0 q1 p1 b2)) rfl ?_
    show Steps p.tables e below (T26.setTop (mkF m 98 (lc0_0 q1 p1 b2) [])) _
    refine XS.aloadN X26.here hx rfl (hb hby at_98) rfl rfl ?_
    show Steps p.tables e below (T26.setTop (mkF m 99 (lc0_0 q1 p1 b2) [(.ref b2)])) _
    refine XS.iload X26.here hx rfl (hb hby at_99) rfl ?_
    show Steps p.tables e below (T26.setTop (mkF m 101 (lc0_0 q1 p1 b2) [(.int (own_i p1)), (.ref b2)])) _
    exact k)
  have A_b2 : own_A Z h26 b2 .byte 8 (own_by q1) := own_A.congr A_b2 (own_bys q1)
  obtain ⟨_, _, ⟨T32, L32, k32, n32⟩, -, X32, ⟨Lc32, hQ32, l32, y32, z32⟩, st32⟩ := Jvm.LawKit.callS X26 hx (y := (⟨"com/example/tightwire/tightwire/codec/PresenceBitmap", "isSet", "([BI)Z"⟩ : MethodName)) hown (mvT hZ (hw _ (List.mem_of_getElem? (i := 1) rfl))) (mvT hZ (hw _ (List.mem_of_getElem? (i := 2) rfl))) (mvT hZ (hw _ (List.mem_of_getElem? (i := 3) rfl))) (mvT hZ (hw _ (List.mem_of_getElem? (i := 4) rfl))) (by decide) (backOf (W := 0) (rm1 l Z a0 hw [] b2 (own_i p1) (own_by q1) h26 n0 Z26 A_b2 (own_i64 p1)) hZ (hw _ (List.mem_of_getElem? (i := 4) rfl)) (hw _ (List.mem_of_getElem? (i := 3) rfl)) (by decide) (by decide)) (g := (mkF m 101 (lc0_0 q1 p1 b2) [(.int (own_i p1)), (.ref b2)])) rfl (by rw [hml]; rfl) (argsL := [(.ref b2), (.int (own_i p1))]) (rest := []) (lenOf pd_0 rfl) rfl (by show 2 * 0 + _ ≤ _; exact Nat.le_of_eq rfl) (hb hby at_101) (fun _ _ => ⟨rfl, e26, (by decide : 1 + 0 ≤ _), (by decide : 8 + 0 ≤ _)⟩)
  dsimp only [Pt.U, Pt.locs, Pt.cells, Pt.slots] at X32 l32 y32 z32 st32 hQ32
  subst l32 y32 z32
  obtain ⟨rfl, N32q, e32⟩ := hQ32
  have N32 := Fr.app N26 N32q
  have pre33 : ∀ t, Steps p.tables e below (T32.setTop (mkF m 104 (lc0_0 q1 p1 b2) [(.int (own_set (own_by q1 ((own_i p1) / (8 : Int32)).toNatClampNeg) (own_i p1)))])) t → Steps p.tables e below (s₁.setTop (entryFrame m #[(.long q1), (.int p1)] maxLocals)) t := fun t k => pre31 t (st32 t k)
  have pre34 : ∀ t, Steps p.tables e below (T32.setTop (mkF m 114 (lc0_0 q1 p1 b2) [(.int (1 : Int32))])) t → Steps p.tables e below (s₁.setTop (entryFrame m #[(.long q1), (.int p1)] maxLocals)) t := fun t k => pre33 t (by
    show Steps p.tables e below (T32.setTop (mkF m 104 (lc0_0 q1 p1 b2) [(.int (own_set (own_by q1 ((own_i p1) / (8 : Int32)).toNatClampNeg) (own_i p1)))])) _
    refine XS.iload X32.here hx rfl (hb hby at_104) rfl ?_
    show Steps p.tables e below (T32.setTop (mkF m 106 (lc0_0 q1 p1 b2) [(.int (if (own_shl q1 (own_i p1)) < (0 : Int64) then (1 : Int32) else (0 : Int32))), (.int (own_set (own_by q1 ((own_i p1) / (8 : Int32)).toNatClampNeg) (own_i p1)))])) _
    refine XS.icmpNo X32.here hx rfl (hb hby at_106) rfl (teq (show (own_set (own_by q1 ((own_i p1) / (8 : Int32)).toNatClampNeg) (own_i p1)) = (if (own_shl q1 (own_i p1)) < (0 : Int64) then (1 : Int32) else (0 : Int32)) from own_law q1 p1)).2 ?_
    show Steps p.tables e below (T32.setTop (mkF m 109 (lc0_0 q1 p1 b2) [])) _
    refine XS.iconst X32.here hx rfl (hb hby at_109) ?_
    show Steps p.tables e below (T32.setTop (mkF m 110 (lc0_0 q1 p1 b2) [(.int (1 : Int32))])) _
    refine XS.goto X32.here hx rfl (pc0 := 110) (pc' := 114) rfl (hb hby at_110) (by decide) (by decide) ?_
    show Steps p.tables e below (T32.setTop (mkF m 114 (lc0_0 q1 p1 b2) [(.int (1 : Int32))])) _
    exact k)
  obtain ⟨fs, hr, hrun, hended, hW, hsame⟩ := X32.leave (v := some (.int (1 : Int32))) (fun h => by rw [Bd.returns] at h; cases h) hlk
  refine ⟨_, _, pre34 _ ?_, hrun, hended, _, _, rfl, ?_, ⟨_, rfl⟩, hW, hsame.mono (by decide) (by decide)⟩
  · show Steps p.tables e below (T32.setTop (mkF m 114 (lc0_0 q1 p1 b2) [(.int (1 : Int32))])) _
    exact retN X32 hx (t := .boolean) Bd.returns (by simp) (hb hby at_114) hr
  · show Q0 Z q1 p1 h0 n0 _ T32.heap _
    rw [e32]
    exact ⟨rfl, N32⟩
set_option maxRecDepth 65536 in
set_option maxHeartbeats 40000000 in
theorem comes_1 {Post : Tables → Env → Array Value → State → Outcome → State → Prop} (hpost : ∀ tb e args s v u, (limb_1_1.after args s (.returned v) u = true ∧ limb_1_2.after args s (.returned v) u = true ∧ True) → FrameEnd s (.returned v) u (Jvm.fieldLocs frame_1_writes args s ++ Jvm.arrayLocs frame_1_arrays args s ++ Jvm.staticLocs frame_1_statics s) 16 128 → Post tb e args s (.returned v) u) :
    ArmFor flags0 classFile x code maxLocals ret World_1 tables_1 room_1 Calls_1 rest_1 Pre_1 Post := by
  intro l hfl _ _ p e ha hc hk s m args below hf hA hF happ hP
  obtain ⟨hcalls, hrest, hpre⟩ := hP
  obtain ⟨-, -, -, hnamed, -, -, -, hat⟩ := (Spec.applies_iff hf).mp happ
  obtain ⟨hg, hn⟩ := and_e (Cond.before_iff.mp (show (Jvm.Cond.and given_1 narrow_1).before args s = true from hpre))
  obtain ⟨hcnt, g0⟩ := and_e hg
  obtain ⟨k0, g1⟩ := and_e g0
  have k1 := g1
  obtain ⟨w0, w1, rfl⟩ : ∃ w0 w1 : Value, args = #[w0, w1] := by
    have hs : args.size = 2 := by simpa [Cond.value, given_1] using hcnt
    obtain ⟨L⟩ := args
    match L, hs with
    | [w0, w1], _ => exact ⟨w0, w1, rfl⟩
  have hw := fun d (hd : d ∈ tables_1) => atoms_spec (ws := Jvm.Cond.code x code maxLocals ret :: tables_1) hat d (List.mem_cons_of_mem _ hd)
  obtain ⟨i0, ei0⟩ := isL_v k0
  obtain rfl : w0 = (.long i0) := Option.some.inj ei0
  obtain ⟨i1, ei1⟩ := is_v k1
  obtain rfl : w1 = (.int i1) := Option.some.inj ei1
  obtain ⟨n, o, h1, h2, h3, _, L, rfl, ⟨rfl, N⟩, hq⟩ := rm0 l s _ hw tables_1 i0 i1 s.heap s.heap.size (Nat.le_refl _) p e ha hc hk s m _ below hf ((Spec.applies_iff_loose hf).mp happ).1 ⟨rfl, State.Warmed39.refl s, rfl⟩ trivial
  refine ⟨n, _, h1, h2, h3, hpost _ _ _ _ _ _ ⟨Cond.after_iff.mpr rfl, Cond.after_iff.mpr (eq_i res_at (Term.int_eval (1)) rfl), trivial⟩ ⟨hq.1, hq.2.1, (hq.2.2.sift fun y hy => Or.inr (N y hy)).mono (by decide) (by decide)⟩⟩
theorem main_1_1 : Claimed_1_1 := comes_1 fun _ _ _ _ _ _ h hF => ⟨h.1, hF⟩
theorem main_1_2 : Claimed_1_2 := comes_1 fun _ _ _ _ _ _ h hF => ⟨h.2.1, hF⟩
end Jvm.Pilot.@@N@@
namespace Jvm.Pilot.@@N@@
open Jvm Jvm.ClassFile Sem Op Lib Jvm.Free Jvm.Stand Jvm.Pilot.@@N@@.Jvm.D
/-! MADE BY PROGRAM (witnessworld.py) out of the Statement's table words and the real class files: 9 classes; the members and pool entries that the words name. The judged class is class 1, her method 1. -/
namespace start1
open Jvm.ClassFile
def u (s : String) : CpInfo := .utf8 (stringToUtf16 s)
/-- a pool by its gaps: so many unusable entries, then the entry; so many at the end -/
def gap : Nat → List CpInfo → List CpInfo
  | 0, r => r
  | n + 1, r => .unusable :: gap n r
def poolList (es : List (Nat × CpInfo)) (last : Nat) : List CpInfo := es.foldr (fun e r => gap e.1 (e.2 :: r)) (gap last [])
def pool (es : List (Nat × CpInfo)) (last : Nat) : Array CpInfo := ⟨poolList es last⟩
def fileOf (pool : Array CpInfo) (this : Nat) (attrs : Array Attribute := #[]) (ms : Array MethodInfo := #[]) (fl : Nat := 33) (sup : Nat := 0) (ifs : Array Nat := #[]) (fds : Array FieldInfo := #[]) : ClassFile where
  minorVersion := 0
  majorVersion := 65
  constantPool := pool
  accessFlags := fl
  thisClass := this
  superClass := sup
  interfaces := ifs
  fields := fds
  methods := ms
  attributes := attrs
def plain (name : String) (sup : Option ClassId) : Class where
  name := name
  kind := .ordinary
  loader := none
  accessFlags := 33
  super := sup
  interfaces := #[]
  cf := none
  fields := #[]
  methods := #[]
  instanceTypes := #[]
  staticTypes := #[]
  resolved := #[]
  callSites := []
  init := .initialized
  statics := none
  mirror := none

def pool0 : Array CpInfo := pool [(5, u "<init>"), (0, u "()V"), (1, .class_ 10), (1, u "java/lang/Object")] 113

def k0m0 : Method := { name := "<init>", desc := "()V", sig := { parameters := [], returnType := none }, accessFlags := 1, code := none }
/-- java/lang/Object -/
def k0 : Class := { plain "java/lang/Object" none with
  accessFlags := 33
  interfaces := #[]
  cf := some (fileOf pool0 8 #[] #[{ accessFlags := 1, nameIndex := 5, descriptorIndex := 6, attributes := #[] }] 33 0 #[] #[])
  fields := #[]
  methods := #[k0m0]
  instanceTypes := #[]
  staticTypes := #[]
  resolved := Array.replicate 124 none
  statics := none }

def pool1 : Array CpInfo := pool [(2, .class_ 4), (1, u "java/lang/Object"), (0, u "<init>"), (0, u "()V"), (0, .methodref 8 9), (0, .class_ 10), (0, .nameAndType 11 12), (0, u "com/example/tightwire/tightwire/codec/PresenceBitmap"), (0, u "isSet"), (0, u "([BI)Z"), (0, .class_ 14), (0, u "com/example/tightwire/tightwire/codec/PresenceBitmapIsSetPinLaw"), (2, u "law"), (0, u "(JI)Z")] 5

def k1m0 : Method := { name := "<init>", desc := "()V", sig := { parameters := [], returnType := none }, accessFlags := 1, code := none }
def k1c1 : Code := { maxStack := 5, maxLocals := 6, code := code, exceptionTable := #[], attributes := #[] }
def k1m1 : Method := { name := "law", desc := "(JI)Z", sig := { parameters := [.long, .int], returnType := some .boolean }, accessFlags := 9, code := some k1c1 }
/-- com/example/tightwire/tightwire/codec/PresenceBitmapIsSetPinLaw -/
def k1 : Class := { plain "com/example/tightwire/tightwire/codec/PresenceBitmapIsSetPinLaw" (some 0) with
  accessFlags := 49
  interfaces := #[]
  cf := some (fileOf pool1 13 #[] #[{ accessFlags := 1, nameIndex := 5, descriptorIndex := 6, attributes := #[] }, { accessFlags := 9, nameIndex := 17, descriptorIndex := 18, attributes := #[] }] 49 2 #[] #[])
  fields := #[]
  methods := #[k1m0, k1m1]
  instanceTypes := #[]
  staticTypes := #[]
  resolved := Array.replicate 24 none
  statics := none }

def pool2 : Array CpInfo := pool [(2, .class_ 4), (1, u "java/lang/Object"), (0, u "<init>"), (0, u "()V"), (22, .methodref 30 31), (0, .class_ 32), (0, .nameAndType 33 34), (0, u "com/example/tightwire/tightwire/codec/PresenceBitmap"), (0, u "bit"), (0, u "(I)I"), (10, u "NONE"), (0, u "[B"), (46, u "isSet"), (0, u "([BI)Z")] 18

def k2m0 : Method := { name := "<init>", desc := "()V", sig := { parameters := [], returnType := none }, accessFlags := 2, code := none }
def k2c1 : Code := { maxStack := 3, maxLocals := 2, code := prog_12_method_4_code, exceptionTable := #[], attributes := #[] }
def k2m1 : Method := { name := "isSet", desc := "([BI)Z", sig := { parameters := [(.array .byte), .int], returnType := some .boolean }, accessFlags := 8, code := some k2c1 }
def k2c2 : Code := { maxStack := 3, maxLocals := 1, code := prog_12_method_5_code, exceptionTable := #[], attributes := #[] }
def k2m2 : Method := { name := "bit", desc := "(I)I", sig := { parameters := [.int], returnType := some .int }, accessFlags := 10, code := some k2c2 }
/-- com/example/tightwire/tightwire/codec/PresenceBitmap -/
def k2 : Class := { plain "com/example/tightwire/tightwire/codec/PresenceBitmap" (some 0) with
  accessFlags := 48
  interfaces := #[]
  cf := some (fileOf pool2 30 #[] #[{ accessFlags := 2, nameIndex := 5, descriptorIndex := 6, attributes := #[] }, { accessFlags := 8, nameIndex := 93, descriptorIndex := 94, attributes := #[] }, { accessFlags := 10, nameIndex := 33, descriptorIndex := 34, attributes := #[] }] 48 2 #[] #[{ accessFlags := 26, nameIndex := 45, descriptorIndex := 46, attributes := #[] }])
  fields := #[{ name := "NONE", type := (.array .byte), accessFlags := 26, slot := 0, constantValue := 0 }]
  methods := #[k2m0, k2m1, k2m2]
  instanceTypes := #[]
  staticTypes := #[(.array .byte)]
  resolved := Array.replicate 113 none
  statics := none }

def pool3 : Array CpInfo := pool [(1, u "java/lang/Cloneable"), (0, .class_ 1), (0, u "java/lang/Object"), (0, .class_ 3)] 3

/-- java/lang/Cloneable -/
def k3 : Class := { plain "java/lang/Cloneable" (some 0) with
  accessFlags := 1537
  interfaces := #[]
  cf := some (fileOf pool3 2 #[] #[] 1537 4 #[] #[])
  fields := #[]
  methods := #[]
  instanceTypes := #[]
  staticTypes := #[]
  resolved := Array.replicate 8 none
  statics := none }

def pool4 : Array CpInfo := pool [(1, u "java/io/Serializable"), (0, .class_ 1), (0, u "java/lang/Object"), (0, .class_ 3)] 3

/-- java/io/Serializable -/
def k4 : Class := { plain "java/io/Serializable" (some 0) with
  accessFlags := 1537
  interfaces := #[]
  cf := some (fileOf pool4 2 #[] #[] 1537 4 #[] #[])
  fields := #[]
  methods := #[]
  instanceTypes := #[]
  staticTypes := #[]
  resolved := Array.replicate 8 none
  statics := none }

/-- the primitive byte -/
def k5 : Class := { plain "byte" none with kind := .primitive 'B', accessFlags := 0x411 }
/-- [B -/
def k6 : Class := { plain "[B" (some 0) with kind := .array 5 .byte, interfaces := #[3, 4], accessFlags := 1041 }

/-- the primitive int -/
def k7 : Class := { plain "int" none with kind := .primitive 'I', accessFlags := 0x411 }
/-- [I -/
def k8 : Class := { plain "[I" (some 0) with kind := .array 7 .int, interfaces := #[3, 4], accessFlags := 1041 }

def heap : Heap := #[]
def classes : Array Class := #[k0, k1, k2, k3, k4, k5, k6, k7, k8]
def interned : List (Array UInt16 × Addr) := []
def slotsUsed : Nat := 0
def theMethod : MethodId := ⟨1, 1⟩
def args0 : Array Value := #[.long 5, .int 5]
def aboutOver (below : List Frame) : State where
  vm := { classes := classes, interned := interned.toArray }
  heap := heap
  slotsUsed := slotsUsed
  threads := #[{ frames := .invoking theMethod args0 :: below }]
def below0 : List Frame := [.native { method := ⟨0, 0⟩, args := #[] }]
def about1 : State := aboutOver below0
def p0 : Program := .bare "" "" ""
def e0 : Env := launch0.env 0 0 0
theorem w_frames : about1.frames = Frame.invoking theMethod args0 :: below0 := rfl
set_option maxRecDepth 65536 in
theorem w_args : argsFit about1.vm theMethod args0 = true := by decide +kernel
set_option maxRecDepth 65536 in
theorem w_heap : heapFits about1 = true := by decide +kernel
set_option maxRecDepth 65536 in
theorem w_runnable : about1.curStatus? = some .runnable := by decide +kernel
set_option maxRecDepth 65536 in
theorem w_alone : about1.alone = true := by decide +kernel
set_option maxRecDepth 65536 in
theorem w_named : about1.methodNamed? x = some theMethod := by decide +kernel
set_option maxRecDepth 65536 in
theorem w_hears : about1.hears theMethod below0 = true := by decide +kernel
set_option maxRecDepth 65536 in
theorem w_ripe : about1.ripe theMethod args0 below0 = true := by decide +kernel
theorem w_running : about1.status = .running := rfl
set_option maxRecDepth 65536 in
theorem w_room : about1.hasRoom e0.platform room_1 = true :=
  launch0.hasRoom_least _ room_1 (by decide +kernel) (by decide +kernel) (by decide +kernel) (by decide +kernel) (by decide +kernel) (by decide +kernel)
theorem allAtoms_all (ts : List Jvm.Cond) (a : Array Jvm.Value) (st : Jvm.State) : (allAtoms ts).before a st = ts.all (fun c => c.before a st) := by
  induction ts with
  | nil => rfl
  | cons c t ih =>
    show (Jvm.Cond.and c (allAtoms t)).before a st = _
    rw [Jvm.Cond.before_and, ih, List.all_cons]
def words1 : List Jvm.Cond := Jvm.Cond.code x code maxLocals ret :: tables_1
/-- a 'code' word, met by the world's own term for the bytes: nothing is compared byte by byte -/
theorem code_word {y : MethodName} {bytes : ByteArray} {mx : Nat} {rt : Option FieldType} {a : Array Value} {s : State} {m : MethodId} {meth : Method} {c : Code} (h1 : s.methodNamed? y = some m) (h2 : s.vm.method? m = some meth) (h3 : meth.code = some c) (h4 : c.code = bytes)
    (h5 : (c.maxLocals == mx && c.exceptionTable.isEmpty && decide (c.maxStack ≤ mostOperands) && decide (meth.sig.returnType = rt) && !meth.locks && decide (parseMethodDescriptor y.desc = some meth.sig)) = true) : (Jvm.Cond.code y bytes mx rt).before a s = true := by
  simp only [Bool.and_eq_true, beq_iff_eq, Bool.not_eq_true', decide_eq_true_eq] at h5
  obtain ⟨⟨⟨⟨⟨g1, g2⟩, g3⟩, g4⟩, g5⟩, g6⟩ := h5
  simp [Cond.before, Cond.holds, Cond.value, h1, h2, h3, h4, g1, g2, g3, g4, g5, g6]
def isCode : Jvm.Cond → Bool
  | .code _ _ _ _ => true
  | _ => false
theorem all_split {L : List Jvm.Cond} {P : Jvm.Cond → Bool} (h1 : L.all (fun c => isCode c || P c) = true) (h2 : ∀ c ∈ L.filter isCode, P c = true) : L.all P = true := by
  refine List.all_eq_true.mpr fun c hc => ?_
  have h := List.all_eq_true.mp h1 c hc
  rcases Bool.eq_false_or_eq_true (isCode c) with hi | hi
  · exact h2 c (List.mem_filter.mpr ⟨hc, hi⟩)
  · simpa [hi] using h
set_option maxRecDepth 65536 in
theorem w_c0 : (Jvm.Cond.code x code maxLocals ret).before args0 about1 = true := code_word (m := ⟨1, 1⟩) (meth := k1m1) (c := k1c1) (by decide +kernel) rfl rfl rfl (by decide +kernel)
set_option maxRecDepth 65536 in
theorem w_c1 : (Jvm.Cond.code ({ cls := "com/example/tightwire/tightwire/codec/PresenceBitmap", name := "isSet", desc := "([BI)Z" } : Jvm.MethodName) prog_12_method_4_code (2 : Nat) (Option.some Jvm.ClassFile.FieldType.boolean)).before args0 about1 = true := code_word (m := ⟨2, 1⟩) (meth := k2m1) (c := k2c1) (by decide +kernel) rfl rfl rfl (by decide +kernel)
set_option maxRecDepth 65536 in
theorem w_c2 : (Jvm.Cond.code ({ cls := "com/example/tightwire/tightwire/codec/PresenceBitmap", name := "bit", desc := "(I)I" } : Jvm.MethodName) prog_12_method_5_code (1 : Nat) (Option.some Jvm.ClassFile.FieldType.int)).before args0 about1 = true := code_word (m := ⟨2, 2⟩) (meth := k2m2) (c := k2c2) (by decide +kernel) rfl rfl rfl (by decide +kernel)
def codes1 : List Jvm.Cond := [Jvm.Cond.code x code maxLocals ret, Jvm.Cond.code ({ cls := "com/example/tightwire/tightwire/codec/PresenceBitmap", name := "isSet", desc := "([BI)Z" } : Jvm.MethodName) prog_12_method_4_code (2 : Nat) (Option.some Jvm.ClassFile.FieldType.boolean), Jvm.Cond.code ({ cls := "com/example/tightwire/tightwire/codec/PresenceBitmap", name := "bit", desc := "(I)I" } : Jvm.MethodName) prog_12_method_5_code (1 : Nat) (Option.some Jvm.ClassFile.FieldType.int)]
set_option maxRecDepth 65536 in
theorem codes_eq : words1.filter isCode = codes1 := rfl
theorem w_codes : ∀ c ∈ words1.filter isCode, c.before args0 about1 = true := by
  rw [codes_eq]
  intro c hc
  simp only [codes1, List.mem_cons, List.not_mem_nil, or_false] at hc
  rcases hc with rfl | rfl | rfl
  · exact w_c0
  · exact w_c1
  · exact w_c2
set_option maxRecDepth 65536 in
theorem w_t1 : words1.all (fun c => isCode c || c.before args0 about1) = true := by decide +kernel
theorem w_tables : (allAtoms (Jvm.Cond.code x code maxLocals ret :: tables_1)).before args0 about1 = true := by
  rw [allAtoms_all]
  show words1.all (fun c => c.before args0 about1) = true
  refine all_split ?_ w_codes
  rw [w_t1]
set_option maxRecDepth 65536 in
theorem w_case : (Jvm.Cond.and given_1 narrow_1).before args0 about1 = true := by decide +kernel
theorem w_applies : (headSpec (Jvm.Cond.code x code maxLocals ret :: tables_1) room_1).applies x e0.platform about1 = true :=
  (Spec.applies_iff w_frames).mpr ⟨w_running, w_runnable, w_alone, w_named, w_hears, w_ripe, w_room, w_tables⟩
theorem atStart : AtStart classFile x code maxLocals ret World_1 tables_1 room_1 Calls_1 rest_1 Pre_1 launch0 p0 e0 about1 theMethod args0 below0 :=
  ⟨lists_1, trivial, launch0.admits_env _ _ _, launch0.least_env, fairChoices_fair.cas, fairChoices_fair.clock, w_frames, w_args, w_heap, w_applies, trivial, trivial, w_case⟩
end start1
theorem witness_1 : WitnessClaimed_1 := ⟨start1.p0, start1.e0, start1.about1, start1.theMethod, start1.args0, start1.below0, start1.atStart⟩
end Jvm.Pilot.@@N@@
