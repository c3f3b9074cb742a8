import JvmDerived
import JvmDerived.Pilot.@@N@@Statement
import JvmDerived.Pilot.@@N@@Code
set_option linter.unusedVariables false
set_option linter.unusedSimpArgs false
@@BLOCK:NumsL.lean.txt@@
namespace Jvm.RoadKit
open Sem ClassFile Op Lib Jvm.Stand Jvm.Free Jvm.LawKit
section New
variable {p : Program} {l : Launch} {e : Env} {R : Room} {s : State} {m : MethodId} {args : Array Value} {below : List Frame} {meth : Method} {c : Code} {T : State} {locs : List Loc} {cells slots : Nat}
theorem retI (X : Stand p l e R s m args below meth c T locs cells slots) (hx : p.tables.exec = Jvm.exec) {pc : Nat} {Ls : Array Slot} {z : Int32} {rest : List Value} (hret : meth.sig.returnType = some .int) (hd : decode c.code pc = .ok (.ireturn, 1)) {fs : List Frame}
    (hl : ∀ (f : JFrame) (acts : List Action), f.method = m → f.locked = none → f.entered = [] → (doReturn e (T.setTop f) acts (some (.int z))).1 = T.setFrames fs) : Steps p.tables e below (T.setTop (mkF m pc Ls (.int z :: rest))) (T.setFrames fs) := by
  have hm' : T.vm.method? m = some meth := X.method'
  have hn : narrow .int (.int z) = .int z := rfl
  show Steps p.tables e below (T.setTop { method := m, pc := pc, locals := Ls, stack := _ :: rest, locked := none }) _
  jvm_step X.here [X.here.top, hx, hd, hm', hret, hn]
  first | (intro acts; rw [hl _ acts rfl rfl rfl]) | rw [hl _ _ rfl rfl rfl]
  exact Steps.refl _
end New
end Jvm.RoadKit
namespace Jvm.Pilot.@@N@@
open Jvm Jvm.ClassFile Sem Op Lib Jvm.Free Jvm.Stand Jvm.LawKit Jvm.RoadKit Bundle Jvm.Pilot.@@N@@.Jvm.D
def own_ush (x : Int64) (s : Int32) : Int64 := ((x.toUInt64 >>> (s &&& 0x3f).toInt64.toUInt64).toInt64)
def own_shl (x : Int64) (s : Int32) : Int64 := (x <<< (s &&& 0x3f).toInt64)
def own_shr (x : Int64) (s : Int32) : Int64 := (x >>> (s &&& 0x3f).toInt64)
def own_iush (x s : Int32) : Int32 := ((x.toUInt32 >>> (s &&& 31).toUInt32).toInt32)
def own_ishl (x s : Int32) : Int32 := (x <<< (s &&& 31))
def own_ishr (x s : Int32) : Int32 := (x >>> (s &&& 31))
def own_lrem (x y : Int64) : Int64 := x - (x / y) * y
def own_A (Z : State) (h : Heap) (a : Addr) (ty : FieldType) (n : Nat) (g : Nat → Int32) : Prop := ∃ c : Cell, Arr Z h a c ty ∧ c.slots.size = n ∧ ∀ i, i < n → c.slots[i]? = some (.int (g i))
def own_put (g : Nat → Int32) (j : Nat) (v : Int32) : Nat → Int32 := fun i => if i = j then v else g i
theorem own_A.lt {Z : State} {h : Heap} {a : Addr} {ty : FieldType} {n : Nat} {g : Nat → Int32} (F : own_A Z h a ty n g) : a < h.size := by obtain ⟨c, A, -⟩ := F; exact A.lt
theorem own_A.ext {Z : State} {h h' : Heap} {a : Addr} {ty : FieldType} {n : Nat} {g : Nat → Int32} (F : own_A Z h a ty n g) (E : Ext h h') : own_A Z h' a ty n g := by obtain ⟨c, A, r⟩ := F; exact ⟨c, A.ext E, r⟩
theorem own_A.other {Z : State} {h h' : Heap} {a b : Addr} {ty : FieldType} {n : Nat} {g : Nat → Int32} {sl : Nat} {v : Value} (F : own_A Z h b ty n g) (W : Wr h h' a sl v) (q : b ≠ a) : own_A Z h' b ty n g := by obtain ⟨c, A, r⟩ := F; exact ⟨c, A.other W q, r⟩
theorem own_A.keep {Z : State} {h h' : Heap} {a : Addr} {ty : FieldType} {n : Nat} {g : Nat → Int32} {ws : List Addr} (F : own_A Z h a ty n g) (K : Keep h h' ws) (q : a ∉ ws) : own_A Z h' a ty n g := by obtain ⟨c, A, r⟩ := F; exact ⟨c, ⟨K.2.1 a c A.1 q, A.2⟩, r⟩
theorem own_A.new {Z : State} {h : Heap} {a : Addr} {k : ClassId} {ty : FieldType} {z : Int32} (A : Arr Z h a (newA k ty z) ty) {n : Nat} (hn : z.toNatClampNeg = n) (hd : defaultValue ty = .int 0) : own_A Z h a ty n (fun _ => (0 : Int32)) := by
  subst hn
  exact ⟨_, A, sz_new _ _ _, fun i hi => by simp [newA, hi, hd]⟩
theorem own_A.congr {Z : State} {h : Heap} {a : Addr} {ty : FieldType} {n : Nat} {f g : Nat → Int32} (F : own_A Z h a ty n f) (q : ∀ i, i < n → f i = g i) : own_A Z h a ty n g := by
  obtain ⟨c, A, S, r⟩ := F; exact ⟨c, A, S, fun i hi => by rw [r i hi, q i hi]⟩
theorem own_A.set {Z : State} {h h' : Heap} {a : Addr} {ty : FieldType} {n : Nat} {g : Nat → Int32} {c : Cell} {j : Nat} {v : Int32} (A : Arr Z h a c ty) (S : c.slots.size = n) (H : ∀ i, i < n → c.slots[i]? = some (.int (g i))) (W : Wr h h' a j (.int v)) : own_A Z h' a ty n (own_put g j v) := by
  obtain ⟨c', h1, -, -, h4, -, h6, h7⟩ := wr_at W A.1
  obtain ⟨e1, e2, -⟩ := h7 rfl
  have A' := A.same W
  subst e1
  refine ⟨_, A', by rw [sz_set]; exact S, fun i hi => ?_⟩
  by_cases q : i = j
  · subst q; rw [e2, own_put, if_pos rfl]
  · rw [h6 i q, H i hi, own_put, if_neg q]
theorem own_inb {c : Cell} {n : Nat} {j : Int32} (S : c.slots.size = n) (q : 0 ≤ j.toInt ∧ j.toInt < n) : ¬ (j < 0 ∨ c.slots.size ≤ j.toNatClampNeg) := by
  rw [S, Int32.lt_iff_toInt_lt]
  have e : j.toNatClampNeg = j.toInt.toNat := rfl
  have z : (0 : Int32).toInt = 0 := by decide
  rw [e, z]; omega
theorem own_lt_of {n : Nat} {j : Int32} (q : 0 ≤ j.toInt ∧ j.toInt < n) : j.toNatClampNeg < n := by
  have e : j.toNatClampNeg = j.toInt.toNat := rfl
  rw [e]; omega
theorem own_len {c : Cell} {n : Nat} {z : Int32} (S : c.slots.size = n) (q : Int32.ofNat n = z) : c.slots.size.toInt32 = z := by rw [S]; exact q
def own_lost (any : Int32) (la fp t : Int64) : Int32 := if any = (0 : Int32) then (0 : Int32) else if (t - la) < fp then (1 : Int32) else (0 : Int32)
def own_rec (any : Int32) (fp la : Int64) (ll lc : Int32) (r t : Int64) : Int64 := if any = (0 : Int32) then r else if (t - la) < fp then r else if lc = (0 : Int32) then r else if ll = (0 : Int32) then (r + (1 : Int64)) else r
def own_arr (r : Int64) (p : Int32) : Int64 := if p = (0 : Int32) then r else (r + (1 : Int64))
def own_recv (lc ll : Int32) (r : Int64) : Int64 := if lc = (0 : Int32) then r else if ll = (0 : Int32) then (r + (1 : Int64)) else r
def own_fr (q : Int64) : Int64 := q &&& (63 : Int64)
def own_d1 (p : Int32) : Int64 := (p &&& (63 : Int32)).toInt64
def own_d2 (p : Int32) : Int64 := ((own_iush p (6 : Int32)) &&& (63 : Int32)).toInt64
def own_d3 (p : Int32) : Int64 := ((own_iush p (12 : Int32)) &&& (63 : Int32)).toInt64
def own_nn (p : Int32) : Int32 := ((own_iush p (4 : Int32)) &&& (7 : Int32)) % (5 : Int32)
def own_t0 (q : Int64) : Int64 := own_shr q (2 : Int32)
def own_t1 (q : Int64) (p : Int32) : Int64 := own_t0 q + own_d1 p
def own_t2 (q : Int64) (p : Int32) : Int64 := own_t1 q p + own_d2 p
def own_t3 (q : Int64) (p : Int32) : Int64 := own_t2 q p + own_d3 p
def own_k1 (e : Int64) (c : Prop) [Decidable c] : Int64 := if c then e else (e + (1 : Int64))
def own_k2 (e : Int64) (c x : Prop) [Decidable c] [Decidable x] : Int64 := if c then e else if x then e else (e + (1 : Int64))
def own_k3 (e : Int64) (c x y : Prop) [Decidable c] [Decidable x] [Decidable y] : Int64 := if c then e else if x then e else if y then e else (e + (1 : Int64))
theorem own_mono (p : Int32) {j k : Int32} (h : own_nn p < j) (hk : j ≤ k) : own_nn p < k := by
  rw [Int32.lt_iff_toInt_lt] at h ⊢
  rw [Int32.le_iff_toInt_le] at hk
  omega
theorem own_m (x : Int32) : 0 ≤ (x &&& (63 : Int32)).toInt64.toInt ∧ (x &&& (63 : Int32)).toInt64.toInt ≤ 63 := by
  have h1 : (x &&& (63 : Int32)).toInt = x.toInt % 2 ^ 6 := Jvm.Kit.i32_mask x 63 (k := 6) (by decide) (by decide)
  rw [Jvm.Kit.i64_of_i32]; omega
theorem own_t0b (q : Int64) : -2 ^ 61 ≤ (own_t0 q).toInt ∧ (own_t0 q).toInt < 2 ^ 61 := by
  have h : (own_t0 q).toInt = q.toInt / 2 ^ 2 := Jvm.Kit.i64_shr q _ (by decide)
  have a := q.toInt_lt; have b := q.le_toInt
  omega
theorem own_bounds (q : Int64) (p : Int32) : ((own_t1 q p).toInt = (own_t0 q).toInt + (own_d1 p).toInt ∧ (own_t2 q p).toInt = (own_t1 q p).toInt + (own_d2 p).toInt ∧ (own_t3 q p).toInt = (own_t2 q p).toInt + (own_d3 p).toInt) ∧ (0 ≤ (own_d1 p).toInt ∧ 0 ≤ (own_d2 p).toInt ∧ 0 ≤ (own_d3 p).toInt) := by
  have h0 := own_t0b q
  have m1 : 0 ≤ (own_d1 p).toInt ∧ (own_d1 p).toInt ≤ 63 := own_m _
  have m2 : 0 ≤ (own_d2 p).toInt ∧ (own_d2 p).toInt ≤ 63 := own_m _
  have m3 : 0 ≤ (own_d3 p).toInt ∧ (own_d3 p).toInt ≤ 63 := own_m _
  have e1 : (own_t1 q p).toInt = (own_t0 q).toInt + (own_d1 p).toInt := by unfold own_t1; exact Jvm.Kit.i64_add (by omega) (by omega)
  have e2 : (own_t2 q p).toInt = (own_t1 q p).toInt + (own_d2 p).toInt := by unfold own_t2; exact Jvm.Kit.i64_add (by omega) (by omega)
  have e3 : (own_t3 q p).toInt = (own_t2 q p).toInt + (own_d3 p).toInt := by unfold own_t3; exact Jvm.Kit.i64_add (by omega) (by omega)
  exact ⟨⟨e1, e2, e3⟩, m1.1, m2.1, m3.1⟩
theorem own_ge1 (q : Int64) (p : Int32) : ¬ (own_t1 q p < own_t0 q) := by have h := own_bounds q p; rw [Int64.lt_iff_toInt_lt]; omega
theorem own_ge2 (q : Int64) (p : Int32) : ¬ (own_t2 q p < own_t1 q p) := by have h := own_bounds q p; rw [Int64.lt_iff_toInt_lt]; omega
theorem own_ge3 (q : Int64) (p : Int32) : ¬ (own_t3 q p < own_t2 q p) := by have h := own_bounds q p; rw [Int64.lt_iff_toInt_lt]; omega
theorem own_sub (a d : Int64) : (a + d) - a = d := by rw [Int64.add_comm]; exact Int64.add_sub_cancel ..
theorem own_s1 (q : Int64) (p : Int32) : own_t1 q p - own_t0 q = own_d1 p := own_sub _ _
theorem own_s2 (q : Int64) (p : Int32) : own_t2 q p - own_t1 q p = own_d2 p := own_sub _ _
theorem own_s3 (q : Int64) (p : Int32) : own_t3 q p - own_t2 q p = own_d3 p := own_sub _ _
theorem own_nar (c : Prop) [Decidable c] : nar .boolean (if c then (0 : Int32) else (1 : Int32)) = if c then (0 : Int32) else (1 : Int32) := by split <;> rfl
theorem own_z {c : Prop} [Decidable c] : ((if c then (0 : Int32) else (1 : Int32)) = (0 : Int32)) ↔ c := by
  by_cases h : c
  · rw [if_pos h]; exact ⟨fun _ => h, fun _ => rfl⟩
  · rw [if_neg h]; exact ⟨fun q => absurd q (by decide), fun q => absurd q h⟩
theorem own_z1 {c : Prop} [Decidable c] : ((if c then (1 : Int32) else (0 : Int32)) = (0 : Int32)) ↔ ¬ c := by
  by_cases h : c
  · rw [if_pos h]; exact ⟨fun q => absurd q (by decide), fun q => absurd h q⟩
  · rw [if_neg h]; exact ⟨fun _ => h, fun _ => rfl⟩
theorem own_one : ¬ ((1 : Int32) = (0 : Int32)) := by decide
def own_recx (x : Prop) [Decidable x] (ll lc : Int32) (r : Int64) : Int64 := if x then r else if lc = (0 : Int32) then r else if ll = (0 : Int32) then (r + (1 : Int64)) else r
theorem own_rec1 (fp la : Int64) (ll lc : Int32) (r t : Int64) : own_rec (1 : Int32) fp la ll lc r t = own_recx ((t - la) < fp) ll lc r := by unfold own_rec own_recx; rw [if_neg own_one]
theorem own_rec0 (fp la : Int64) (ll lc : Int32) (r t : Int64) : own_rec (0 : Int32) fp la ll lc r t = r := by unfold own_rec; rw [if_pos rfl]
theorem own_lost1 (la fp t : Int64) : own_lost (1 : Int32) la fp t = if (t - la) < fp then (1 : Int32) else (0 : Int32) := by unfold own_lost; rw [if_neg own_one]
theorem own_lost0 (la fp t : Int64) : own_lost (0 : Int32) la fp t = (0 : Int32) := by unfold own_lost; rw [if_pos rfl]
theorem own_L1 (c0 : Prop) [Decidable c0] : own_recv (if c0 then (0 : Int32) else (1 : Int32)) (0 : Int32) (0 : Int64) = own_k1 (0 : Int64) c0 := by
  by_cases h0 : c0 <;> simp [own_recv, own_k1, h0]
theorem own_L2 (c0 c1 x1 : Prop) [Decidable c0] [Decidable c1] [Decidable x1] : own_recv (if c1 then (0 : Int32) else (1 : Int32)) (if x1 then (1 : Int32) else (0 : Int32)) (own_recx x1 (0 : Int32) (if c0 then (0 : Int32) else (1 : Int32)) (0 : Int64)) = own_k2 (own_k2 (0 : Int64) c0 x1) c1 x1 := by
  by_cases h0 : c0 <;> by_cases h1 : c1 <;> by_cases y1 : x1 <;> simp [own_recv, own_recx, own_k2, h0, h1, y1]
theorem own_L3 (c0 c1 c2 x1 x2 : Prop) [Decidable c0] [Decidable c1] [Decidable c2] [Decidable x1] [Decidable x2] : own_recv (if c2 then (0 : Int32) else (1 : Int32)) (if x2 then (1 : Int32) else (0 : Int32)) (own_recx x2 (if x1 then (1 : Int32) else (0 : Int32)) (if c1 then (0 : Int32) else (1 : Int32)) (own_recx x1 (0 : Int32) (if c0 then (0 : Int32) else (1 : Int32)) (0 : Int64))) = own_k2 (own_k3 (own_k2 (0 : Int64) c0 x1) c1 x1 x2) c2 x2 := by
  by_cases h0 : c0 <;> by_cases h1 : c1 <;> by_cases h2 : c2 <;> by_cases y1 : x1 <;> by_cases y2 : x2 <;> simp [own_recv, own_recx, own_k2, own_k3, h0, h1, h2, y1, y2]
theorem own_L4 (c0 c1 c2 c3 x1 x2 x3 : Prop) [Decidable c0] [Decidable c1] [Decidable c2] [Decidable c3] [Decidable x1] [Decidable x2] [Decidable x3] : own_recv (if c3 then (0 : Int32) else (1 : Int32)) (if x3 then (1 : Int32) else (0 : Int32)) (own_recx x3 (if x2 then (1 : Int32) else (0 : Int32)) (if c2 then (0 : Int32) else (1 : Int32)) (own_recx x2 (if x1 then (1 : Int32) else (0 : Int32)) (if c1 then (0 : Int32) else (1 : Int32)) (own_recx x1 (0 : Int32) (if c0 then (0 : Int32) else (1 : Int32)) (0 : Int64)))) = own_k2 (own_k3 (own_k3 (own_k2 (0 : Int64) c0 x1) c1 x1 x2) c2 x2 x3) c3 x3 := by
  by_cases h0 : c0 <;> by_cases h1 : c1 <;> by_cases h2 : c2 <;> by_cases h3 : c3 <;> by_cases y1 : x1 <;> by_cases y2 : x2 <;> by_cases y3 : x3 <;> simp [own_recv, own_recx, own_k2, own_k3, h0, h1, h2, h3, y1, y2, y3]
theorem own_law0 (q1 q2 : Int64) (p1 p2 : Int32) : (own_recv (0 : Int32) (0 : Int32) (0 : Int64)) = (0 : Int64) := by
  rfl
theorem own_law1 (q1 q2 : Int64) (p1 p2 : Int32) : (own_recv (nar .boolean (if (p2 &&& (1 : Int32)) = (0 : Int32) then (0 : Int32) else (1 : Int32))) (own_lost (0 : Int32) (0 : Int64) (own_fr q1) (own_t0 q2)) (own_rec (0 : Int32) (own_fr q1) (0 : Int64) (0 : Int32) (0 : Int32) (0 : Int64) (own_t0 q2))) = (own_k1 (0 : Int64) ((p2 &&& (1 : Int32)) = (0 : Int32))) := by
  simp only [own_rec1, own_rec0, own_lost1, own_lost0, own_nar, own_s1, own_s2, own_s3]
  exact own_L1 _
theorem own_law2 (q1 q2 : Int64) (p1 p2 : Int32) : (own_recv (nar .boolean (if (p2 &&& (2 : Int32)) = (0 : Int32) then (0 : Int32) else (1 : Int32))) (own_lost (1 : Int32) (own_t0 q2) (own_fr q1) (own_t1 q2 p1)) (own_rec (1 : Int32) (own_fr q1) (own_t0 q2) (own_lost (0 : Int32) (0 : Int64) (own_fr q1) (own_t0 q2)) (nar .boolean (if (p2 &&& (1 : Int32)) = (0 : Int32) then (0 : Int32) else (1 : Int32))) (own_rec (0 : Int32) (own_fr q1) (0 : Int64) (0 : Int32) (0 : Int32) (0 : Int64) (own_t0 q2)) (own_t1 q2 p1))) = (own_k2 (own_k2 (0 : Int64) ((p2 &&& (1 : Int32)) = (0 : Int32)) ((own_d1 p1) < (own_fr q1))) ((p2 &&& (2 : Int32)) = (0 : Int32)) ((own_d1 p1) < (own_fr q1))) := by
  simp only [own_rec1, own_rec0, own_lost1, own_lost0, own_nar, own_s1, own_s2, own_s3]
  exact own_L2 _ _ _
theorem own_law3 (q1 q2 : Int64) (p1 p2 : Int32) : (own_recv (nar .boolean (if (p2 &&& (4 : Int32)) = (0 : Int32) then (0 : Int32) else (1 : Int32))) (own_lost (1 : Int32) (own_t1 q2 p1) (own_fr q1) (own_t2 q2 p1)) (own_rec (1 : Int32) (own_fr q1) (own_t1 q2 p1) (own_lost (1 : Int32) (own_t0 q2) (own_fr q1) (own_t1 q2 p1)) (nar .boolean (if (p2 &&& (2 : Int32)) = (0 : Int32) then (0 : Int32) else (1 : Int32))) (own_rec (1 : Int32) (own_fr q1) (own_t0 q2) (own_lost (0 : Int32) (0 : Int64) (own_fr q1) (own_t0 q2)) (nar .boolean (if (p2 &&& (1 : Int32)) = (0 : Int32) then (0 : Int32) else (1 : Int32))) (own_rec (0 : Int32) (own_fr q1) (0 : Int64) (0 : Int32) (0 : Int32) (0 : Int64) (own_t0 q2)) (own_t1 q2 p1)) (own_t2 q2 p1))) = (own_k2 (own_k3 (own_k2 (0 : Int64) ((p2 &&& (1 : Int32)) = (0 : Int32)) ((own_d1 p1) < (own_fr q1))) ((p2 &&& (2 : Int32)) = (0 : Int32)) ((own_d1 p1) < (own_fr q1)) ((own_d2 p1) < (own_fr q1))) ((p2 &&& (4 : Int32)) = (0 : Int32)) ((own_d2 p1) < (own_fr q1))) := by
  simp only [own_rec1, own_rec0, own_lost1, own_lost0, own_nar, own_s1, own_s2, own_s3]
  exact own_L3 _ _ _ _ _
theorem own_law4 (q1 q2 : Int64) (p1 p2 : Int32) : (own_recv (nar .boolean (if (p2 &&& (8 : Int32)) = (0 : Int32) then (0 : Int32) else (1 : Int32))) (own_lost (1 : Int32) (own_t2 q2 p1) (own_fr q1) (own_t3 q2 p1)) (own_rec (1 : Int32) (own_fr q1) (own_t2 q2 p1) (own_lost (1 : Int32) (own_t1 q2 p1) (own_fr q1) (own_t2 q2 p1)) (nar .boolean (if (p2 &&& (4 : Int32)) = (0 : Int32) then (0 : Int32) else (1 : Int32))) (own_rec (1 : Int32) (own_fr q1) (own_t1 q2 p1) (own_lost (1 : Int32) (own_t0 q2) (own_fr q1) (own_t1 q2 p1)) (nar .boolean (if (p2 &&& (2 : Int32)) = (0 : Int32) then (0 : Int32) else (1 : Int32))) (own_rec (1 : Int32) (own_fr q1) (own_t0 q2) (own_lost (0 : Int32) (0 : Int64) (own_fr q1) (own_t0 q2)) (nar .boolean (if (p2 &&& (1 : Int32)) = (0 : Int32) then (0 : Int32) else (1 : Int32))) (own_rec (0 : Int32) (own_fr q1) (0 : Int64) (0 : Int32) (0 : Int32) (0 : Int64) (own_t0 q2)) (own_t1 q2 p1)) (own_t2 q2 p1)) (own_t3 q2 p1))) = (own_k2 (own_k3 (own_k3 (own_k2 (0 : Int64) ((p2 &&& (1 : Int32)) = (0 : Int32)) ((own_d1 p1) < (own_fr q1))) ((p2 &&& (2 : Int32)) = (0 : Int32)) ((own_d1 p1) < (own_fr q1)) ((own_d2 p1) < (own_fr q1))) ((p2 &&& (4 : Int32)) = (0 : Int32)) ((own_d2 p1) < (own_fr q1)) ((own_d3 p1) < (own_fr q1))) ((p2 &&& (8 : Int32)) = (0 : Int32)) ((own_d3 p1) < (own_fr q1))) := by
  simp only [own_rec1, own_rec0, own_lost1, own_lost0, own_nar, own_s1, own_s2, own_s3]
  exact own_L4 _ _ _ _ _ _ _
theorem d1_0 : decode prog_83_method_1_code 0 = .ok (.aload_n 0, 1) := by decide +kernel
theorem d1_1 : decode prog_83_method_1_code 1 = .ok (.invokespecial 1, 3) := by decide +kernel
theorem d1_4 : decode prog_83_method_1_code 4 = .ok (.aload_n 0, 1) := by decide +kernel
theorem d1_5 : decode prog_83_method_1_code 5 = .ok (.lload_n 1, 1) := by decide +kernel
theorem d1_6 : decode prog_83_method_1_code 6 = .ok (.putfield 7, 3) := by decide +kernel
theorem d1_9 : decode prog_83_method_1_code 9 = .ok (.return_, 1) := by decide +kernel
theorem pn_OverlapCounter : plainName "com/example/squitterlab/squitterlab/sim/OverlapCounter" = true := by first | (simp [plainName, overriddenIn]; done) | decide +kernel
theorem ef_1 (m : MethodId) (a : Addr) (q1 : Int64) : entryFrame m #[(.ref a), (.long q1)] 3 = mkF m 0 #[.val (.ref a), .val (.long q1), .second] [] := by first | (simp [entryFrame, mkF, argsToLocals, Value.category]; done) | rfl
def Q1 (Z : State) (a : Addr) (q1 : Int64) (h0 : Heap) (n0 : Nat) (v : Option Value) (h : Heap) (L : List Loc) : Prop := v = none ∧ Fr n0 L ∧ Keep h0 h [a] ∧ Fld Z h a "com/example/squitterlab/squitterlab/sim/OverlapCounter" "framePicos" "J" (.long q1) ∧ Fld Z h a "com/example/squitterlab/squitterlab/sim/OverlapCounter" "any" "Z" (.int (0 : Int32)) ∧ Fld Z h a "com/example/squitterlab/squitterlab/sim/OverlapCounter" "lastArrival" "J" (.long (0 : Int64)) ∧ Fld Z h a "com/example/squitterlab/squitterlab/sim/OverlapCounter" "lastLost" "Z" (.int (0 : Int32)) ∧ Fld Z h a "com/example/squitterlab/squitterlab/sim/OverlapCounter" "lastCounted" "Z" (.int (0 : Int32)) ∧ Fld Z h a "com/example/squitterlab/squitterlab/sim/OverlapCounter" "received" "J" (.long (0 : Int64)) ∧ Fld Z h a "com/example/squitterlab/squitterlab/sim/OverlapCounter" "arrived" "J" (.long (0 : Int64))
set_option maxRecDepth 65536 in
set_option maxHeartbeats 40000000 in
theorem rm1 (l : Launch) (Z : State) (a0 : Array Value) (hw : ∀ d ∈ tables_1, d.before a0 Z = true) (ws : List Jvm.Cond) (a : Addr) (q1 : Int64) (h0 : Heap) (n0 : Nat) (Z0 : n0 ≤ h0.size) (E_a : Exa Z h0 a "com/example/squitterlab/squitterlab/sim/OverlapCounter") (F_a_framePicos : Fld Z h0 a "com/example/squitterlab/squitterlab/sim/OverlapCounter" "framePicos" "J" (.long (0 : Int64))) (F_a_any : Fld Z h0 a "com/example/squitterlab/squitterlab/sim/OverlapCounter" "any" "Z" (.int (0 : Int32))) (F_a_lastArrival : Fld Z h0 a "com/example/squitterlab/squitterlab/sim/OverlapCounter" "lastArrival" "J" (.long (0 : Int64))) (F_a_lastLost : Fld Z h0 a "com/example/squitterlab/squitterlab/sim/OverlapCounter" "lastLost" "Z" (.int (0 : Int32))) (F_a_lastCounted : Fld Z h0 a "com/example/squitterlab/squitterlab/sim/OverlapCounter" "lastCounted" "Z" (.int (0 : Int32))) (F_a_received : Fld Z h0 a "com/example/squitterlab/squitterlab/sim/OverlapCounter" "received" "J" (.long (0 : Int64))) (F_a_arrived : Fld Z h0 a "com/example/squitterlab/squitterlab/sim/OverlapCounter" "arrived" "J" (.long (0 : Int64))) (g_a : n0 ≤ a) :
    MetFree l (⟨"com/example/squitterlab/squitterlab/sim/OverlapCounter", "<init>", "(J)V"⟩ : MethodName) (head1 (Jvm.Cond.code (⟨"com/example/squitterlab/squitterlab/sim/OverlapCounter", "<init>", "(J)V"⟩ : MethodName) prog_83_method_1_code 3 none :: ws) ({ frames := 1, cells := 0, slots := 0, locals := 12 } : Room)) (fun aa U => aa = #[(.ref a), (.long q1)] ∧ Z.Warmed39 U.vm ∧ U.heap = h0) (fun _ _ _ _ _ => True) (fun _ U o U' => ∃ v L, o = .returned v ∧ Q1 Z a q1 h0 n0 v U'.heap L ∧ FrameEnd U o U' L ({ frames := 1, cells := 0, slots := 0, locals := 12 } : Room).cells ({ frames := 1, cells := 0, slots := 0, locals := 12 } : Room).slots) := by
  refine MetFree.of_bodySF (plainFor_of_name pn_OverlapCounter) hisR ?_
  intro p e s m args below meth c s₁ Bd hml0 hP hK
  obtain ⟨rfl, hZ, hh⟩ := hP
  have hx := Bd.exec
  have hby := Bd.bytes
  have hml : c.maxLocals = 3 := hml0
  have hown : s.vm.findClass "com/example/squitterlab/squitterlab/sim/OverlapCounter" = some m.cls := findClass_of_methodNamed Bd.named
  have hnm := (name_of_methodNamed Bd.named Bd.method).1
  have X0 : Stand p l e ({ frames := 1, cells := 0, slots := 0, locals := 12 } : Room) s m #[(.ref a), (.long q1)] below meth c s₁ [] 0 0 := Stand.of_body Bd
  have e0 : s₁.heap = h0 := by rw [← hh, Bd.state]; rfl
  have N0 := Fr.nil n0
  have hlk : meth.locks = false := by first | exact BodyLoose.notSynchronized Bd | exact Body.notSynchronized Bd
  have pre0 : ∀ t, Steps p.tables e below (s₁.setTop (mkF m 0 #[.val (.ref a), .val (.long q1), .second] [])) t → Steps p.tables e below (s₁.setTop (entryFrame m #[(.ref a), (.long q1)] 3)) t := fun t k => castTop (ef_1 m a q1) k
  have K : Keep h0 h0 [a] := Keep.refl _ _
  have pre1 : ∀ t, Steps p.tables e below (s₁.setTop (mkF m 1 #[.val (.ref a), .val (.long q1), .second] [(.ref a)])) t → Steps p.tables e below (s₁.setTop (entryFrame m #[(.ref a), (.long q1)] 3)) t := fun t k => pre0 t (by
    show Steps p.tables e below (s₁.setTop (mkF m 0 #[.val (.ref a), .val (.long q1), .second] [])) _
    refine XS.aloadN X0.here hx rfl (hb hby d1_0) rfl rfl ?_
    show Steps p.tables e below (s₁.setTop (mkF m 1 #[.val (.ref a), .val (.long q1), .second] [(.ref a)])) _
    exact k)
  obtain ⟨T2, X2, e2, st2⟩ := initO X0 hx hZ hown (hw _ (List.mem_of_getElem? (i := 7) rfl)) (hw _ (List.mem_of_getElem? (i := 8) rfl)) (hw _ (List.mem_of_getElem? (i := 9) rfl)) e0 (g := (mkF m 1 #[.val (.ref a), .val (.long q1), .second] [(.ref a)])) rfl (by rw [hml]; rfl) rfl (hb hby d1_1) (by decide) (W := 0) (by show 2 * 0 + _ ≤ _; exact Nat.le_of_eq rfl) (by decide)
  have pre3 : ∀ t, Steps p.tables e below (T2.setTop (mkF m 4 #[.val (.ref a), .val (.long q1), .second] [])) t → Steps p.tables e below (s₁.setTop (entryFrame m #[(.ref a), (.long q1)] 3)) t := fun t k => pre1 t (st2 t k)
  have pre4 : ∀ t, Steps p.tables e below (T2.setTop (mkF m 6 #[.val (.ref a), .val (.long q1), .second] [(.long q1), (.ref a)])) t → Steps p.tables e below (s₁.setTop (entryFrame m #[(.ref a), (.long q1)] 3)) t := fun t k => pre3 t (by
    show Steps p.tables e below (T2.setTop (mkF m 4 #[.val (.ref a), .val (.long q1), .second] [])) _
    refine XS.aloadN X2.here hx rfl (hb hby d1_4) rfl rfl ?_
    show Steps p.tables e below (T2.setTop (mkF m 5 #[.val (.ref a), .val (.long q1), .second] [(.ref a)])) _
    refine XS.lloadN X2.here hx rfl (hb hby d1_5) rfl ?_
    show Steps p.tables e below (T2.setTop (mkF m 6 #[.val (.ref a), .val (.long q1), .second] [(.long q1), (.ref a)])) _
    exact k)
  obtain ⟨T5, h5, X5, e5, W5, st5⟩ := putF X2 hx hZ hown (host := "") (Or.inl (hw _ (List.mem_of_getElem? (i := 10) rfl))) Via.refl e2 F_a_framePicos E_a (Or.inr ⟨(hw _ (List.mem_of_getElem? (i := 11) rfl)), rfl, hnm⟩) (hw _ (List.mem_of_getElem? (i := 2) rfl)) (ty := .long) (by decide) rfl rfl (g := (mkF m 6 #[.val (.ref a), .val (.long q1), .second] [(.long q1), (.ref a)])) rfl rfl (hb hby d1_6)
  have F_a_framePicos : Fld Z h5 a "com/example/squitterlab/squitterlab/sim/OverlapCounter" "framePicos" "J" (.long q1) := F_a_framePicos.same W5
  have E_a := E_a.wr W5
  have F_a_any := F_a_any.other W5 (Or.inr (slot_ne (Or.inl (hw _ (List.mem_of_getElem? (i := 27) rfl))) (Or.inr (hw _ (List.mem_of_getElem? (i := 11) rfl))) (by decide) (t := .boolean) (t' := .long) (by decide) (by decide)))
  have F_a_lastArrival := F_a_lastArrival.other W5 (Or.inr (slot_ne (Or.inl (hw _ (List.mem_of_getElem? (i := 29) rfl))) (Or.inr (hw _ (List.mem_of_getElem? (i := 11) rfl))) (by decide) (t := .long) (t' := .long) (by decide) (by decide)))
  have F_a_lastLost := F_a_lastLost.other W5 (Or.inr (slot_ne (Or.inl (hw _ (List.mem_of_getElem? (i := 31) rfl))) (Or.inr (hw _ (List.mem_of_getElem? (i := 11) rfl))) (by decide) (t := .boolean) (t' := .long) (by decide) (by decide)))
  have F_a_lastCounted := F_a_lastCounted.other W5 (Or.inr (slot_ne (Or.inl (hw _ (List.mem_of_getElem? (i := 18) rfl))) (Or.inr (hw _ (List.mem_of_getElem? (i := 11) rfl))) (by decide) (t := .boolean) (t' := .long) (by decide) (by decide)))
  have F_a_received := F_a_received.other W5 (Or.inr (slot_ne (Or.inl (hw _ (List.mem_of_getElem? (i := 20) rfl))) (Or.inr (hw _ (List.mem_of_getElem? (i := 11) rfl))) (by decide) (t := .long) (t' := .long) (by decide) (by decide)))
  have F_a_arrived := F_a_arrived.other W5 (Or.inr (slot_ne (Or.inl (hw _ (List.mem_of_getElem? (i := 33) rfl))) (Or.inr (hw _ (List.mem_of_getElem? (i := 11) rfl))) (by decide) (t := .long) (t' := .long) (by decide) (by decide)))
  have K := K.wr W5 (Or.inl (List.mem_of_getElem? (i := 0) rfl))
  have Z5 : n0 ≤ h5.size := Nat.le_trans Z0 (Keep.of_wr W5).1
  have N5 := Fr.snoc X5 N0 g_a
  have pre6 : ∀ t, Steps p.tables e below (T5.setTop (mkF m 9 #[.val (.ref a), .val (.long q1), .second] [])) t → Steps p.tables e below (s₁.setTop (entryFrame m #[(.ref a), (.long q1)] 3)) t := fun t k => pre4 t (st5 t k)
  obtain ⟨fs, hr, hrun, hended, hW, hsame⟩ := X5.leave (v := none) (fun _ => rfl) hlk
  refine ⟨_, _, pre6 _ ?_, hrun, hended, _, _, rfl, ?_, ⟨_, rfl⟩, hW, hsame.mono (by decide) (by decide)⟩
  · show Steps p.tables e below (T5.setTop (mkF m 9 #[.val (.ref a), .val (.long q1), .second] [])) _
    exact X5.returnOut hx Bd.returns (hb hby d1_9) hr
  · show Q1 Z a q1 h0 n0 _ T5.heap _
    rw [e5]
    exact ⟨rfl, N5, K, F_a_framePicos, F_a_any, F_a_lastArrival, F_a_lastLost, F_a_lastCounted, F_a_received, F_a_arrived⟩
theorem d4_0 : decode prog_83_method_2_code 0 = .ok (.iconst 0, 1) := by decide +kernel
theorem d4_1 : decode prog_83_method_2_code 1 = .ok (.istore 4, 2) := by decide +kernel
theorem d4_3 : decode prog_83_method_2_code 3 = .ok (.aload_n 0, 1) := by decide +kernel
theorem d4_4 : decode prog_83_method_2_code 4 = .ok (.getfield 13, 3) := by decide +kernel
theorem d4_7 : decode prog_83_method_2_code 7 = .ok (.ifCond .eq 76, 3) := by decide +kernel
theorem d4_10 : decode prog_83_method_2_code 10 = .ok (.lload_n 1, 1) := by decide +kernel
theorem d4_11 : decode prog_83_method_2_code 11 = .ok (.aload_n 0, 1) := by decide +kernel
theorem d4_12 : decode prog_83_method_2_code 12 = .ok (.getfield 17, 3) := by decide +kernel
theorem d4_15 : decode prog_83_method_2_code 15 = .ok (.lcmp, 1) := by decide +kernel
theorem d4_16 : decode prog_83_method_2_code 16 = .ok (.ifCond .ge 21, 3) := by decide +kernel
theorem d4_37 : decode prog_83_method_2_code 37 = .ok (.lload_n 1, 1) := by decide +kernel
theorem d4_38 : decode prog_83_method_2_code 38 = .ok (.aload_n 0, 1) := by decide +kernel
theorem d4_39 : decode prog_83_method_2_code 39 = .ok (.getfield 17, 3) := by decide +kernel
theorem d4_42 : decode prog_83_method_2_code 42 = .ok (.lsub, 1) := by decide +kernel
theorem d4_43 : decode prog_83_method_2_code 43 = .ok (.aload_n 0, 1) := by decide +kernel
theorem d4_44 : decode prog_83_method_2_code 44 = .ok (.getfield 7, 3) := by decide +kernel
theorem d4_47 : decode prog_83_method_2_code 47 = .ok (.lcmp, 1) := by decide +kernel
theorem d4_48 : decode prog_83_method_2_code 48 = .ok (.ifCond .ge 11, 3) := by decide +kernel
theorem d4_51 : decode prog_83_method_2_code 51 = .ok (.iconst 1, 1) := by decide +kernel
theorem d4_52 : decode prog_83_method_2_code 52 = .ok (.istore 4, 2) := by decide +kernel
theorem d4_54 : decode prog_83_method_2_code 54 = .ok (.aload_n 0, 1) := by decide +kernel
theorem d4_55 : decode prog_83_method_2_code 55 = .ok (.iconst 1, 1) := by decide +kernel
theorem d4_56 : decode prog_83_method_2_code 56 = .ok (.putfield 29, 3) := by decide +kernel
theorem d4_59 : decode prog_83_method_2_code 59 = .ok (.aload_n 0, 1) := by decide +kernel
theorem d4_60 : decode prog_83_method_2_code 60 = .ok (.getfield 32, 3) := by decide +kernel
theorem d4_63 : decode prog_83_method_2_code 63 = .ok (.ifCond .eq 20, 3) := by decide +kernel
theorem d4_66 : decode prog_83_method_2_code 66 = .ok (.aload_n 0, 1) := by decide +kernel
theorem d4_67 : decode prog_83_method_2_code 67 = .ok (.getfield 29, 3) := by decide +kernel
theorem d4_70 : decode prog_83_method_2_code 70 = .ok (.ifCond .ne 13, 3) := by decide +kernel
theorem d4_73 : decode prog_83_method_2_code 73 = .ok (.aload_n 0, 1) := by decide +kernel
theorem d4_74 : decode prog_83_method_2_code 74 = .ok (.dup, 1) := by decide +kernel
theorem d4_75 : decode prog_83_method_2_code 75 = .ok (.getfield 35, 3) := by decide +kernel
theorem d4_78 : decode prog_83_method_2_code 78 = .ok (.lconst 1, 1) := by decide +kernel
theorem d4_79 : decode prog_83_method_2_code 79 = .ok (.ladd, 1) := by decide +kernel
theorem d4_80 : decode prog_83_method_2_code 80 = .ok (.putfield 35, 3) := by decide +kernel
theorem d4_83 : decode prog_83_method_2_code 83 = .ok (.aload_n 0, 1) := by decide +kernel
theorem d4_84 : decode prog_83_method_2_code 84 = .ok (.iconst 1, 1) := by decide +kernel
theorem d4_85 : decode prog_83_method_2_code 85 = .ok (.putfield 13, 3) := by decide +kernel
theorem d4_88 : decode prog_83_method_2_code 88 = .ok (.aload_n 0, 1) := by decide +kernel
theorem d4_89 : decode prog_83_method_2_code 89 = .ok (.lload_n 1, 1) := by decide +kernel
theorem d4_90 : decode prog_83_method_2_code 90 = .ok (.putfield 17, 3) := by decide +kernel
theorem d4_93 : decode prog_83_method_2_code 93 = .ok (.aload_n 0, 1) := by decide +kernel
theorem d4_94 : decode prog_83_method_2_code 94 = .ok (.iload_n 3, 1) := by decide +kernel
theorem d4_95 : decode prog_83_method_2_code 95 = .ok (.putfield 32, 3) := by decide +kernel
theorem d4_98 : decode prog_83_method_2_code 98 = .ok (.aload_n 0, 1) := by decide +kernel
theorem d4_99 : decode prog_83_method_2_code 99 = .ok (.iload 4, 2) := by decide +kernel
theorem d4_101 : decode prog_83_method_2_code 101 = .ok (.putfield 29, 3) := by decide +kernel
theorem d4_104 : decode prog_83_method_2_code 104 = .ok (.iload_n 3, 1) := by decide +kernel
theorem d4_105 : decode prog_83_method_2_code 105 = .ok (.ifCond .eq 13, 3) := by decide +kernel
theorem d4_108 : decode prog_83_method_2_code 108 = .ok (.aload_n 0, 1) := by decide +kernel
theorem d4_109 : decode prog_83_method_2_code 109 = .ok (.dup, 1) := by decide +kernel
theorem d4_110 : decode prog_83_method_2_code 110 = .ok (.getfield 38, 3) := by decide +kernel
theorem d4_113 : decode prog_83_method_2_code 113 = .ok (.lconst 1, 1) := by decide +kernel
theorem d4_114 : decode prog_83_method_2_code 114 = .ok (.ladd, 1) := by decide +kernel
theorem d4_115 : decode prog_83_method_2_code 115 = .ok (.putfield 38, 3) := by decide +kernel
theorem d4_118 : decode prog_83_method_2_code 118 = .ok (.return_, 1) := by decide +kernel
theorem ef_4 (m : MethodId) (a : Addr) (q1 : Int64) (p1 : Int32) : entryFrame m #[(.ref a), (.long q1), (.int p1)] 5 = mkF m 0 #[.val (.ref a), .val (.long q1), .second, .val (.int p1), .unset] [] := by first | (simp [entryFrame, mkF, argsToLocals, Value.category]; done) | rfl
def Q4 (Z : State) (a : Addr) (q1 : Int64) (p1 : Int32) (w_framePicos : Int64) (w_any : Int32) (w_lastArrival : Int64) (w_lastLost : Int32) (w_lastCounted : Int32) (w_received : Int64) (w_arrived : Int64) (h0 : Heap) (n0 : Nat) (v : Option Value) (h : Heap) (L : List Loc) : Prop := v = none ∧ Fr n0 L ∧ Keep h0 h [a] ∧ Fld Z h a "com/example/squitterlab/squitterlab/sim/OverlapCounter" "framePicos" "J" (.long w_framePicos) ∧ Fld Z h a "com/example/squitterlab/squitterlab/sim/OverlapCounter" "any" "Z" (.int (1 : Int32)) ∧ Fld Z h a "com/example/squitterlab/squitterlab/sim/OverlapCounter" "lastArrival" "J" (.long q1) ∧ Fld Z h a "com/example/squitterlab/squitterlab/sim/OverlapCounter" "lastLost" "Z" (.int (own_lost w_any w_lastArrival w_framePicos q1)) ∧ Fld Z h a "com/example/squitterlab/squitterlab/sim/OverlapCounter" "lastCounted" "Z" (.int (nar .boolean p1)) ∧ Fld Z h a "com/example/squitterlab/squitterlab/sim/OverlapCounter" "received" "J" (.long (own_rec w_any w_framePicos w_lastArrival w_lastLost w_lastCounted w_received q1)) ∧ Fld Z h a "com/example/squitterlab/squitterlab/sim/OverlapCounter" "arrived" "J" (.long (own_arr w_arrived p1))
set_option maxRecDepth 65536 in
set_option maxHeartbeats 40000000 in
theorem rm4 (l : Launch) (Z : State) (a0 : Array Value) (hw : ∀ d ∈ tables_1, d.before a0 Z = true) (ws : List Jvm.Cond) (a : Addr) (q1 : Int64) (p1 : Int32) (w_framePicos : Int64) (w_any : Int32) (w_lastArrival : Int64) (w_lastLost : Int32) (w_lastCounted : Int32) (w_received : Int64) (w_arrived : Int64) (h0 : Heap) (n0 : Nat) (Z0 : n0 ≤ h0.size) (E_a : Exa Z h0 a "com/example/squitterlab/squitterlab/sim/OverlapCounter") (F_a_framePicos : Fld Z h0 a "com/example/squitterlab/squitterlab/sim/OverlapCounter" "framePicos" "J" (.long w_framePicos)) (F_a_any : Fld Z h0 a "com/example/squitterlab/squitterlab/sim/OverlapCounter" "any" "Z" (.int w_any)) (F_a_lastArrival : Fld Z h0 a "com/example/squitterlab/squitterlab/sim/OverlapCounter" "lastArrival" "J" (.long w_lastArrival)) (F_a_lastLost : Fld Z h0 a "com/example/squitterlab/squitterlab/sim/OverlapCounter" "lastLost" "Z" (.int w_lastLost)) (F_a_lastCounted : Fld Z h0 a "com/example/squitterlab/squitterlab/sim/OverlapCounter" "lastCounted" "Z" (.int w_lastCounted)) (F_a_received : Fld Z h0 a "com/example/squitterlab/squitterlab/sim/OverlapCounter" "received" "J" (.long w_received)) (F_a_arrived : Fld Z h0 a "com/example/squitterlab/squitterlab/sim/OverlapCounter" "arrived" "J" (.long w_arrived)) (g_a : n0 ≤ a) (hge : ¬ (w_any = (0 : Int32)) → ¬ (q1 < w_lastArrival)) :
    MetFree l (⟨"com/example/squitterlab/squitterlab/sim/OverlapCounter", "arrive", "(JZ)V"⟩ : MethodName) (head1 (Jvm.Cond.code (⟨"com/example/squitterlab/squitterlab/sim/OverlapCounter", "arrive", "(JZ)V"⟩ : MethodName) prog_83_method_2_code 5 none :: ws) ({ frames := 0, cells := 0, slots := 0, locals := 0 } : Room)) (fun aa U => aa = #[(.ref a), (.long q1), (.int p1)] ∧ Z.Warmed39 U.vm ∧ U.heap = h0) (fun _ _ _ _ _ => True) (fun _ U o U' => ∃ v L, o = .returned v ∧ Q4 Z a q1 p1 w_framePicos w_any w_lastArrival w_lastLost w_lastCounted w_received w_arrived h0 n0 v U'.heap L ∧ FrameEnd U o U' L ({ frames := 0, cells := 0, slots := 0, locals := 0 } : Room).cells ({ frames := 0, cells := 0, slots := 0, locals := 0 } : Room).slots) := by
  refine MetFree.of_bodySF (plainFor_of_name pn_OverlapCounter) hisR ?_
  intro p e s m args below meth c s₁ Bd hml0 hP hK
  obtain ⟨rfl, hZ, hh⟩ := hP
  have hx := Bd.exec
  have hby := Bd.bytes
  have hml : c.maxLocals = 5 := hml0
  have hown : s.vm.findClass "com/example/squitterlab/squitterlab/sim/OverlapCounter" = some m.cls := findClass_of_methodNamed Bd.named
  have hnm := (name_of_methodNamed Bd.named Bd.method).1
  have X0 : Stand p l e ({ frames := 0, cells := 0, slots := 0, locals := 0 } : Room) s m #[(.ref a), (.long q1), (.int p1)] below meth c s₁ [] 0 0 := Stand.of_body Bd
  have e0 : s₁.heap = h0 := by rw [← hh, Bd.state]; rfl
  have N0 := Fr.nil n0
  have hlk : meth.locks = false := by first | exact BodyLoose.notSynchronized Bd | exact Body.notSynchronized Bd
  have pre0 : ∀ t, Steps p.tables e below (s₁.setTop (mkF m 0 #[.val (.ref a), .val (.long q1), .second, .val (.int p1), .unset] [])) t → Steps p.tables e below (s₁.setTop (entryFrame m #[(.ref a), (.long q1), (.int p1)] 5)) t := fun t k => castTop (ef_4 m a q1 p1) k
  have K : Keep h0 h0 [a] := Keep.refl _ _
  have pre1 : ∀ t, Steps p.tables e below (s₁.setTop (mkF m 4 #[.val (.ref a), .val (.long q1), .second, .val (.int p1), .val (.int (0 : Int32))] [(.ref a)])) t → Steps p.tables e below (s₁.setTop (entryFrame m #[(.ref a), (.long q1), (.int p1)] 5)) t := fun t k => pre0 t (by
    show Steps p.tables e below (s₁.setTop (mkF m 0 #[.val (.ref a), .val (.long q1), .second, .val (.int p1), .unset] [])) _
    refine XS.iconst X0.here hx rfl (hb hby d4_0) ?_
    show Steps p.tables e below (s₁.setTop (mkF m 1 #[.val (.ref a), .val (.long q1), .second, .val (.int p1), .unset] [(.int (0 : Int32))])) _
    refine XS.istore X0.here hx rfl (hb hby d4_1) rfl (l' := #[.val (.ref a), .val (.long q1), .second, .val (.int p1), .val (.int (0 : Int32))]) rfl ?_
    show Steps p.tables e below (s₁.setTop (mkF m 3 #[.val (.ref a), .val (.long q1), .second, .val (.int p1), .val (.int (0 : Int32))] [])) _
    refine XS.aloadN X0.here hx rfl (hb hby d4_3) rfl rfl ?_
    show Steps p.tables e below (s₁.setTop (mkF m 4 #[.val (.ref a), .val (.long q1), .second, .val (.int p1), .val (.int (0 : Int32))] [(.ref a)])) _
    exact k)
  obtain ⟨T2, X2, e2, st2⟩ := getF X0 hx hZ hown (host := "") (Or.inl (hw _ (List.mem_of_getElem? (i := 26) rfl))) Via.refl e0 F_a_any (g := (mkF m 4 #[.val (.ref a), .val (.long q1), .second, .val (.int p1), .val (.int (0 : Int32))] [(.ref a)])) rfl rfl (hb hby d4_4)
  have pre3 : ∀ t, Steps p.tables e below (T2.setTop (mkF m 7 #[.val (.ref a), .val (.long q1), .second, .val (.int p1), .val (.int (0 : Int32))] [(.int w_any)])) t → Steps p.tables e below (s₁.setTop (entryFrame m #[(.ref a), (.long q1), (.int p1)] 5)) t := fun t k => pre1 t (st2 t k)
  by_cases hc7_4 : w_any = (0 : Int32)
  · have pre5 : ∀ t, Steps p.tables e below (T2.setTop (mkF m 85 #[.val (.ref a), .val (.long q1), .second, .val (.int p1), .val (.int (0 : Int32))] [(.int (1 : Int32)), (.ref a)])) t → Steps p.tables e below (s₁.setTop (entryFrame m #[(.ref a), (.long q1), (.int p1)] 5)) t := fun t k => pre3 t (by
      show Steps p.tables e below (T2.setTop (mkF m 7 #[.val (.ref a), .val (.long q1), .second, .val (.int p1), .val (.int (0 : Int32))] [(.int w_any)])) _
      refine XS.ifYes X2.here hx rfl (pc0 := 7) (pc' := 83) rfl (hb hby d4_7) rfl ((if0 _ _).trans (teq hc7_4).1) (by decide) (by decide) ?_
      show Steps p.tables e below (T2.setTop (mkF m 83 #[.val (.ref a), .val (.long q1), .second, .val (.int p1), .val (.int (0 : Int32))] [])) _
      refine XS.aloadN X2.here hx rfl (hb hby d4_83) rfl rfl ?_
      show Steps p.tables e below (T2.setTop (mkF m 84 #[.val (.ref a), .val (.long q1), .second, .val (.int p1), .val (.int (0 : Int32))] [(.ref a)])) _
      refine XS.iconst X2.here hx rfl (hb hby d4_84) ?_
      show Steps p.tables e below (T2.setTop (mkF m 85 #[.val (.ref a), .val (.long q1), .second, .val (.int p1), .val (.int (0 : Int32))] [(.int (1 : Int32)), (.ref a)])) _
      exact k)
    obtain ⟨T6, h6, X6, e6, W6, st6⟩ := putFN X2 hx hZ hown (hw _ (List.mem_of_getElem? (i := 26) rfl)) Via.refl e2 F_a_any E_a (Or.inl (hw _ (List.mem_of_getElem? (i := 27) rfl))) (hw _ (List.mem_of_getElem? (i := 2) rfl)) (ty := .boolean) (v' := (.int (1 : Int32))) (by decide) rfl (by decide) (g := (mkF m 85 #[.val (.ref a), .val (.long q1), .second, .val (.int p1), .val (.int (0 : Int32))] [(.int (1 : Int32)), (.ref a)])) rfl rfl (hb hby d4_85)
    have F_a_any : Fld Z h6 a "com/example/squitterlab/squitterlab/sim/OverlapCounter" "any" "Z" (.int (1 : Int32)) := F_a_any.same W6
    have E_a := E_a.wr W6
    have F_a_framePicos := F_a_framePicos.other W6 (Or.inr (slot_ne (Or.inr (hw _ (List.mem_of_getElem? (i := 11) rfl))) (Or.inl (hw _ (List.mem_of_getElem? (i := 27) rfl))) (by decide) (t := .long) (t' := .boolean) (by decide) (by decide)))
    have F_a_lastArrival := F_a_lastArrival.other W6 (Or.inr (slot_ne (Or.inl (hw _ (List.mem_of_getElem? (i := 29) rfl))) (Or.inl (hw _ (List.mem_of_getElem? (i := 27) rfl))) (by decide) (t := .long) (t' := .boolean) (by decide) (by decide)))
    have F_a_lastLost := F_a_lastLost.other W6 (Or.inr (slot_ne (Or.inl (hw _ (List.mem_of_getElem? (i := 31) rfl))) (Or.inl (hw _ (List.mem_of_getElem? (i := 27) rfl))) (by decide) (t := .boolean) (t' := .boolean) (by decide) (by decide)))
    have F_a_lastCounted := F_a_lastCounted.other W6 (Or.inr (slot_ne (Or.inl (hw _ (List.mem_of_getElem? (i := 18) rfl))) (Or.inl (hw _ (List.mem_of_getElem? (i := 27) rfl))) (by decide) (t := .boolean) (t' := .boolean) (by decide) (by decide)))
    have F_a_received := F_a_received.other W6 (Or.inr (slot_ne (Or.inl (hw _ (List.mem_of_getElem? (i := 20) rfl))) (Or.inl (hw _ (List.mem_of_getElem? (i := 27) rfl))) (by decide) (t := .long) (t' := .boolean) (by decide) (by decide)))
    have F_a_arrived := F_a_arrived.other W6 (Or.inr (slot_ne (Or.inl (hw _ (List.mem_of_getElem? (i := 33) rfl))) (Or.inl (hw _ (List.mem_of_getElem? (i := 27) rfl))) (by decide) (t := .long) (t' := .boolean) (by decide) (by decide)))
    have K := K.wr W6 (Or.inl (List.mem_of_getElem? (i := 0) rfl))
    have Z6 : n0 ≤ h6.size := Nat.le_trans Z0 (Keep.of_wr W6).1
    have N6 := Fr.snoc X6 N0 g_a
    have pre7 : ∀ t, Steps p.tables e below (T6.setTop (mkF m 88 #[.val (.ref a), .val (.long q1), .second, .val (.int p1), .val (.int (0 : Int32))] [])) t → Steps p.tables e below (s₁.setTop (entryFrame m #[(.ref a), (.long q1), (.int p1)] 5)) t := fun t k => pre5 t (st6 t k)
    have pre8 : ∀ t, Steps p.tables e below (T6.setTop (mkF m 90 #[.val (.ref a), .val (.long q1), .second, .val (.int p1), .val (.int (0 : Int32))] [(.long q1), (.ref a)])) t → Steps p.tables e below (s₁.setTop (entryFrame m #[(.ref a), (.long q1), (.int p1)] 5)) t := fun t k => pre7 t (by
      show Steps p.tables e below (T6.setTop (mkF m 88 #[.val (.ref a), .val (.long q1), .second, .val (.int p1), .val (.int (0 : Int32))] [])) _
      refine XS.aloadN X6.here hx rfl (hb hby d4_88) rfl rfl ?_
      show Steps p.tables e below (T6.setTop (mkF m 89 #[.val (.ref a), .val (.long q1), .second, .val (.int p1), .val (.int (0 : Int32))] [(.ref a)])) _
      refine XS.lloadN X6.here hx rfl (hb hby d4_89) rfl ?_
      show Steps p.tables e below (T6.setTop (mkF m 90 #[.val (.ref a), .val (.long q1), .second, .val (.int p1), .val (.int (0 : Int32))] [(.long q1), (.ref a)])) _
      exact k)
    obtain ⟨T9, h9, X9, e9, W9, st9⟩ := putF X6 hx hZ hown (host := "") (Or.inl (hw _ (List.mem_of_getElem? (i := 28) rfl))) Via.refl e6 F_a_lastArrival E_a (Or.inl (hw _ (List.mem_of_getElem? (i := 29) rfl))) (hw _ (List.mem_of_getElem? (i := 2) rfl)) (ty := .long) (by decide) rfl rfl (g := (mkF m 90 #[.val (.ref a), .val (.long q1), .second, .val (.int p1), .val (.int (0 : Int32))] [(.long q1), (.ref a)])) rfl rfl (hb hby d4_90)
    have F_a_lastArrival : Fld Z h9 a "com/example/squitterlab/squitterlab/sim/OverlapCounter" "lastArrival" "J" (.long q1) := F_a_lastArrival.same W9
    have E_a := E_a.wr W9
    have F_a_framePicos := F_a_framePicos.other W9 (Or.inr (slot_ne (Or.inr (hw _ (List.mem_of_getElem? (i := 11) rfl))) (Or.inl (hw _ (List.mem_of_getElem? (i := 29) rfl))) (by decide) (t := .long) (t' := .long) (by decide) (by decide)))
    have F_a_any := F_a_any.other W9 (Or.inr (slot_ne (Or.inl (hw _ (List.mem_of_getElem? (i := 27) rfl))) (Or.inl (hw _ (List.mem_of_getElem? (i := 29) rfl))) (by decide) (t := .boolean) (t' := .long) (by decide) (by decide)))
    have F_a_lastLost := F_a_lastLost.other W9 (Or.inr (slot_ne (Or.inl (hw _ (List.mem_of_getElem? (i := 31) rfl))) (Or.inl (hw _ (List.mem_of_getElem? (i := 29) rfl))) (by decide) (t := .boolean) (t' := .long) (by decide) (by decide)))
    have F_a_lastCounted := F_a_lastCounted.other W9 (Or.inr (slot_ne (Or.inl (hw _ (List.mem_of_getElem? (i := 18) rfl))) (Or.inl (hw _ (List.mem_of_getElem? (i := 29) rfl))) (by decide) (t := .boolean) (t' := .long) (by decide) (by decide)))
    have F_a_received := F_a_received.other W9 (Or.inr (slot_ne (Or.inl (hw _ (List.mem_of_getElem? (i := 20) rfl))) (Or.inl (hw _ (List.mem_of_getElem? (i := 29) rfl))) (by decide) (t := .long) (t' := .long) (by decide) (by decide)))
    have F_a_arrived := F_a_arrived.other W9 (Or.inr (slot_ne (Or.inl (hw _ (List.mem_of_getElem? (i := 33) rfl))) (Or.inl (hw _ (List.mem_of_getElem? (i := 29) rfl))) (by decide) (t := .long) (t' := .long) (by decide) (by decide)))
    have K := K.wr W9 (Or.inl (List.mem_of_getElem? (i := 0) rfl))
    have Z9 : n0 ≤ h9.size := Nat.le_trans Z6 (Keep.of_wr W9).1
    have N9 := Fr.snoc X9 N6 g_a
    have pre10 : ∀ t, Steps p.tables e below (T9.setTop (mkF m 93 #[.val (.ref a), .val (.long q1), .second, .val (.int p1), .val (.int (0 : Int32))] [])) t → Steps p.tables e below (s₁.setTop (entryFrame m #[(.ref a), (.long q1), (.int p1)] 5)) t := fun t k => pre8 t (st9 t k)
    have pre11 : ∀ t, Steps p.tables e below (T9.setTop (mkF m 95 #[.val (.ref a), .val (.long q1), .second, .val (.int p1), .val (.int (0 : Int32))] [(.int p1), (.ref a)])) t → Steps p.tables e below (s₁.setTop (entryFrame m #[(.ref a), (.long q1), (.int p1)] 5)) t := fun t k => pre10 t (by
      show Steps p.tables e below (T9.setTop (mkF m 93 #[.val (.ref a), .val (.long q1), .second, .val (.int p1), .val (.int (0 : Int32))] [])) _
      refine XS.aloadN X9.here hx rfl (hb hby d4_93) rfl rfl ?_
      show Steps p.tables e below (T9.setTop (mkF m 94 #[.val (.ref a), .val (.long q1), .second, .val (.int p1), .val (.int (0 : Int32))] [(.ref a)])) _
      refine XS.iloadN X9.here hx rfl (hb hby d4_94) rfl ?_
      show Steps p.tables e below (T9.setTop (mkF m 95 #[.val (.ref a), .val (.long q1), .second, .val (.int p1), .val (.int (0 : Int32))] [(.int p1), (.ref a)])) _
      exact k)
    obtain ⟨T12, h12, X12, e12, W12, st12⟩ := putFN X9 hx hZ hown (hw _ (List.mem_of_getElem? (i := 17) rfl)) Via.refl e9 F_a_lastCounted E_a (Or.inl (hw _ (List.mem_of_getElem? (i := 18) rfl))) (hw _ (List.mem_of_getElem? (i := 2) rfl)) (ty := .boolean) (v' := (.int (nar .boolean p1))) (by decide) rfl (fits_nar_bool _) (g := (mkF m 95 #[.val (.ref a), .val (.long q1), .second, .val (.int p1), .val (.int (0 : Int32))] [(.int p1), (.ref a)])) rfl rfl (hb hby d4_95)
    have F_a_lastCounted : Fld Z h12 a "com/example/squitterlab/squitterlab/sim/OverlapCounter" "lastCounted" "Z" (.int (nar .boolean p1)) := F_a_lastCounted.same W12
    have E_a := E_a.wr W12
    have F_a_framePicos := F_a_framePicos.other W12 (Or.inr (slot_ne (Or.inr (hw _ (List.mem_of_getElem? (i := 11) rfl))) (Or.inl (hw _ (List.mem_of_getElem? (i := 18) rfl))) (by decide) (t := .long) (t' := .boolean) (by decide) (by decide)))
    have F_a_any := F_a_any.other W12 (Or.inr (slot_ne (Or.inl (hw _ (List.mem_of_getElem? (i := 27) rfl))) (Or.inl (hw _ (List.mem_of_getElem? (i := 18) rfl))) (by decide) (t := .boolean) (t' := .boolean) (by decide) (by decide)))
    have F_a_lastArrival := F_a_lastArrival.other W12 (Or.inr (slot_ne (Or.inl (hw _ (List.mem_of_getElem? (i := 29) rfl))) (Or.inl (hw _ (List.mem_of_getElem? (i := 18) rfl))) (by decide) (t := .long) (t' := .boolean) (by decide) (by decide)))
    have F_a_lastLost := F_a_lastLost.other W12 (Or.inr (slot_ne (Or.inl (hw _ (List.mem_of_getElem? (i := 31) rfl))) (Or.inl (hw _ (List.mem_of_getElem? (i := 18) rfl))) (by decide) (t := .boolean) (t' := .boolean) (by decide) (by decide)))
    have F_a_received := F_a_received.other W12 (Or.inr (slot_ne (Or.inl (hw _ (List.mem_of_getElem? (i := 20) rfl))) (Or.inl (hw _ (List.mem_of_getElem? (i := 18) rfl))) (by decide) (t := .long) (t' := .boolean) (by decide) (by decide)))
    have F_a_arrived := F_a_arrived.other W12 (Or.inr (slot_ne (Or.inl (hw _ (List.mem_of_getElem? (i := 33) rfl))) (Or.inl (hw _ (List.mem_of_getElem? (i := 18) rfl))) (by decide) (t := .long) (t' := .boolean) (by decide) (by decide)))
    have K := K.wr W12 (Or.inl (List.mem_of_getElem? (i := 0) rfl))
    have Z12 : n0 ≤ h12.size := Nat.le_trans Z9 (Keep.of_wr W12).1
    have N12 := Fr.snoc X12 N9 g_a
    have pre13 : ∀ t, Steps p.tables e below (T12.setTop (mkF m 98 #[.val (.ref a), .val (.long q1), .second, .val (.int p1), .val (.int (0 : Int32))] [])) t → Steps p.tables e below (s₁.setTop (entryFrame m #[(.ref a), (.long q1), (.int p1)] 5)) t := fun t k => pre11 t (st12 t k)
    have pre14 : ∀ t, Steps p.tables e below (T12.setTop (mkF m 101 #[.val (.ref a), .val (.long q1), .second, .val (.int p1), .val (.int (0 : Int32))] [(.int (0 : Int32)), (.ref a)])) t → Steps p.tables e below (s₁.setTop (entryFrame m #[(.ref a), (.long q1), (.int p1)] 5)) t := fun t k => pre13 t (by
      show Steps p.tables e below (T12.setTop (mkF m 98 #[.val (.ref a), .val (.long q1), .second, .val (.int p1), .val (.int (0 : Int32))] [])) _
      refine XS.aloadN X12.here hx rfl (hb hby d4_98) rfl rfl ?_
      show Steps p.tables e below (T12.setTop (mkF m 99 #[.val (.ref a), .val (.long q1), .second, .val (.int p1), .val (.int (0 : Int32))] [(.ref a)])) _
      refine XS.iload X12.here hx rfl (hb hby d4_99) rfl ?_
      show Steps p.tables e below (T12.setTop (mkF m 101 #[.val (.ref a), .val (.long q1), .second, .val (.int p1), .val (.int (0 : Int32))] [(.int (0 : Int32)), (.ref a)])) _
      exact k)
    obtain ⟨T15, h15, X15, e15, W15, st15⟩ := putFN X12 hx hZ hown (hw _ (List.mem_of_getElem? (i := 30) rfl)) Via.refl e12 F_a_lastLost E_a (Or.inl (hw _ (List.mem_of_getElem? (i := 31) rfl))) (hw _ (List.mem_of_getElem? (i := 2) rfl)) (ty := .boolean) (v' := (.int (0 : Int32))) (by decide) rfl (by decide) (g := (mkF m 101 #[.val (.ref a), .val (.long q1), .second, .val (.int p1), .val (.int (0 : Int32))] [(.int (0 : Int32)), (.ref a)])) rfl rfl (hb hby d4_101)
    have F_a_lastLost : Fld Z h15 a "com/example/squitterlab/squitterlab/sim/OverlapCounter" "lastLost" "Z" (.int (0 : Int32)) := F_a_lastLost.same W15
    have E_a := E_a.wr W15
    have F_a_framePicos := F_a_framePicos.other W15 (Or.inr (slot_ne (Or.inr (hw _ (List.mem_of_getElem? (i := 11) rfl))) (Or.inl (hw _ (List.mem_of_getElem? (i := 31) rfl))) (by decide) (t := .long) (t' := .boolean) (by decide) (by decide)))
    have F_a_any := F_a_any.other W15 (Or.inr (slot_ne (Or.inl (hw _ (List.mem_of_getElem? (i := 27) rfl))) (Or.inl (hw _ (List.mem_of_getElem? (i := 31) rfl))) (by decide) (t := .boolean) (t' := .boolean) (by decide) (by decide)))
    have F_a_lastArrival := F_a_lastArrival.other W15 (Or.inr (slot_ne (Or.inl (hw _ (List.mem_of_getElem? (i := 29) rfl))) (Or.inl (hw _ (List.mem_of_getElem? (i := 31) rfl))) (by decide) (t := .long) (t' := .boolean) (by decide) (by decide)))
    have F_a_lastCounted := F_a_lastCounted.other W15 (Or.inr (slot_ne (Or.inl (hw _ (List.mem_of_getElem? (i := 18) rfl))) (Or.inl (hw _ (List.mem_of_getElem? (i := 31) rfl))) (by decide) (t := .boolean) (t' := .boolean) (by decide) (by decide)))
    have F_a_received := F_a_received.other W15 (Or.inr (slot_ne (Or.inl (hw _ (List.mem_of_getElem? (i := 20) rfl))) (Or.inl (hw _ (List.mem_of_getElem? (i := 31) rfl))) (by decide) (t := .long) (t' := .boolean) (by decide) (by decide)))
    have F_a_arrived := F_a_arrived.other W15 (Or.inr (slot_ne (Or.inl (hw _ (List.mem_of_getElem? (i := 33) rfl))) (Or.inl (hw _ (List.mem_of_getElem? (i := 31) rfl))) (by decide) (t := .long) (t' := .boolean) (by decide) (by decide)))
    have K := K.wr W15 (Or.inl (List.mem_of_getElem? (i := 0) rfl))
    have Z15 : n0 ≤ h15.size := Nat.le_trans Z12 (Keep.of_wr W15).1
    have N15 := Fr.snoc X15 N12 g_a
    have pre16 : ∀ t, Steps p.tables e below (T15.setTop (mkF m 104 #[.val (.ref a), .val (.long q1), .second, .val (.int p1), .val (.int (0 : Int32))] [])) t → Steps p.tables e below (s₁.setTop (entryFrame m #[(.ref a), (.long q1), (.int p1)] 5)) t := fun t k => pre14 t (st15 t k)
    have pre17 : ∀ t, Steps p.tables e below (T15.setTop (mkF m 105 #[.val (.ref a), .val (.long q1), .second, .val (.int p1), .val (.int (0 : Int32))] [(.int p1)])) t → Steps p.tables e below (s₁.setTop (entryFrame m #[(.ref a), (.long q1), (.int p1)] 5)) t := fun t k => pre16 t (by
      show Steps p.tables e below (T15.setTop (mkF m 104 #[.val (.ref a), .val (.long q1), .second, .val (.int p1), .val (.int (0 : Int32))] [])) _
      refine XS.iloadN X15.here hx rfl (hb hby d4_104) rfl ?_
      show Steps p.tables e below (T15.setTop (mkF m 105 #[.val (.ref a), .val (.long q1), .second, .val (.int p1), .val (.int (0 : Int32))] [(.int p1)])) _
      exact k)
    by_cases hc105_18 : p1 = (0 : Int32)
    · have pre19 : ∀ t, Steps p.tables e below (T15.setTop (mkF m 118 #[.val (.ref a), .val (.long q1), .second, .val (.int p1), .val (.int (0 : Int32))] [])) t → Steps p.tables e below (s₁.setTop (entryFrame m #[(.ref a), (.long q1), (.int p1)] 5)) t := fun t k => pre17 t (by
        show Steps p.tables e below (T15.setTop (mkF m 105 #[.val (.ref a), .val (.long q1), .second, .val (.int p1), .val (.int (0 : Int32))] [(.int p1)])) _
        refine XS.ifYes X15.here hx rfl (pc0 := 105) (pc' := 118) rfl (hb hby d4_105) rfl ((if0 _ _).trans (teq hc105_18).1) (by decide) (by decide) ?_
        show Steps p.tables e below (T15.setTop (mkF m 118 #[.val (.ref a), .val (.long q1), .second, .val (.int p1), .val (.int (0 : Int32))] [])) _
        exact k)
      obtain ⟨fs, hr, hrun, hended, hW, hsame⟩ := X15.leave (v := none) (fun _ => rfl) hlk
      refine ⟨_, _, pre19 _ ?_, hrun, hended, _, _, rfl, ?_, ⟨_, rfl⟩, hW, hsame.mono (by decide) (by decide)⟩
      · show Steps p.tables e below (T15.setTop (mkF m 118 #[.val (.ref a), .val (.long q1), .second, .val (.int p1), .val (.int (0 : Int32))] [])) _
        exact X15.returnOut hx Bd.returns (hb hby d4_118) hr
      · show Q4 Z a q1 p1 w_framePicos w_any w_lastArrival w_lastLost w_lastCounted w_received w_arrived h0 n0 _ T15.heap _
        rw [e15]
        exact ⟨rfl, N15, K, F_a_framePicos, F_a_any, F_a_lastArrival, (by simp only [own_lost, own_rec, own_arr, if_pos hc7_4, if_pos hc105_18]; exact F_a_lastLost), F_a_lastCounted, (by simp only [own_lost, own_rec, own_arr, if_pos hc7_4, if_pos hc105_18]; exact F_a_received), (by simp only [own_lost, own_rec, own_arr, if_pos hc7_4, if_pos hc105_18]; exact F_a_arrived)⟩
    · have pre20 : ∀ t, Steps p.tables e below (T15.setTop (mkF m 110 #[.val (.ref a), .val (.long q1), .second, .val (.int p1), .val (.int (0 : Int32))] [(.ref a), (.ref a)])) t → Steps p.tables e below (s₁.setTop (entryFrame m #[(.ref a), (.long q1), (.int p1)] 5)) t := fun t k => pre17 t (by
        show Steps p.tables e below (T15.setTop (mkF m 105 #[.val (.ref a), .val (.long q1), .second, .val (.int p1), .val (.int (0 : Int32))] [(.int p1)])) _
        refine XS.ifNo X15.here hx rfl (hb hby d4_105) rfl ((if0 _ _).trans (feq hc105_18).1) ?_
        show Steps p.tables e below (T15.setTop (mkF m 108 #[.val (.ref a), .val (.long q1), .second, .val (.int p1), .val (.int (0 : Int32))] [])) _
        refine XS.aloadN X15.here hx rfl (hb hby d4_108) rfl rfl ?_
        show Steps p.tables e below (T15.setTop (mkF m 109 #[.val (.ref a), .val (.long q1), .second, .val (.int p1), .val (.int (0 : Int32))] [(.ref a)])) _
        refine XS.dup X15.here hx rfl (hb hby d4_109) rfl rfl ?_
        show Steps p.tables e below (T15.setTop (mkF m 110 #[.val (.ref a), .val (.long q1), .second, .val (.int p1), .val (.int (0 : Int32))] [(.ref a), (.ref a)])) _
        exact k)
      obtain ⟨T21, X21, e21, st21⟩ := getF X15 hx hZ hown (host := "") (Or.inl (hw _ (List.mem_of_getElem? (i := 32) rfl))) Via.refl e15 F_a_arrived (g := (mkF m 110 #[.val (.ref a), .val (.long q1), .second, .val (.int p1), .val (.int (0 : Int32))] [(.ref a), (.ref a)])) rfl rfl (hb hby d4_110)
      have pre22 : ∀ t, Steps p.tables e below (T21.setTop (mkF m 113 #[.val (.ref a), .val (.long q1), .second, .val (.int p1), .val (.int (0 : Int32))] [(.long w_arrived), (.ref a)])) t → Steps p.tables e below (s₁.setTop (entryFrame m #[(.ref a), (.long q1), (.int p1)] 5)) t := fun t k => pre20 t (st21 t k)
      have pre23 : ∀ t, Steps p.tables e below (T21.setTop (mkF m 115 #[.val (.ref a), .val (.long q1), .second, .val (.int p1), .val (.int (0 : Int32))] [(.long (w_arrived + (1 : Int64))), (.ref a)])) t → Steps p.tables e below (s₁.setTop (entryFrame m #[(.ref a), (.long q1), (.int p1)] 5)) t := fun t k => pre22 t (by
        show Steps p.tables e below (T21.setTop (mkF m 113 #[.val (.ref a), .val (.long q1), .second, .val (.int p1), .val (.int (0 : Int32))] [(.long w_arrived), (.ref a)])) _
        refine XS.lconst X21.here hx rfl (hb hby d4_113) ?_
        show Steps p.tables e below (T21.setTop (mkF m 114 #[.val (.ref a), .val (.long q1), .second, .val (.int p1), .val (.int (0 : Int32))] [(.long (1 : Int64)), (.long w_arrived), (.ref a)])) _
        refine XS.ladd X21.here hx rfl (hb hby d4_114) rfl ?_
        show Steps p.tables e below (T21.setTop (mkF m 115 #[.val (.ref a), .val (.long q1), .second, .val (.int p1), .val (.int (0 : Int32))] [(.long (w_arrived + (1 : Int64))), (.ref a)])) _
        exact k)
      obtain ⟨T24, h24, X24, e24, W24, st24⟩ := putF X21 hx hZ hown (host := "") (Or.inl (hw _ (List.mem_of_getElem? (i := 32) rfl))) Via.refl e21 F_a_arrived E_a (Or.inl (hw _ (List.mem_of_getElem? (i := 33) rfl))) (hw _ (List.mem_of_getElem? (i := 2) rfl)) (ty := .long) (by decide) rfl rfl (g := (mkF m 115 #[.val (.ref a), .val (.long q1), .second, .val (.int p1), .val (.int (0 : Int32))] [(.long (w_arrived + (1 : Int64))), (.ref a)])) rfl rfl (hb hby d4_115)
      have F_a_arrived : Fld Z h24 a "com/example/squitterlab/squitterlab/sim/OverlapCounter" "arrived" "J" (.long (w_arrived + (1 : Int64))) := F_a_arrived.same W24
      have E_a := E_a.wr W24
      have F_a_framePicos := F_a_framePicos.other W24 (Or.inr (slot_ne (Or.inr (hw _ (List.mem_of_getElem? (i := 11) rfl))) (Or.inl (hw _ (List.mem_of_getElem? (i := 33) rfl))) (by decide) (t := .long) (t' := .long) (by decide) (by decide)))
      have F_a_any := F_a_any.other W24 (Or.inr (slot_ne (Or.inl (hw _ (List.mem_of_getElem? (i := 27) rfl))) (Or.inl (hw _ (List.mem_of_getElem? (i := 33) rfl))) (by decide) (t := .boolean) (t' := .long) (by decide) (by decide)))
      have F_a_lastArrival := F_a_lastArrival.other W24 (Or.inr (slot_ne (Or.inl (hw _ (List.mem_of_getElem? (i := 29) rfl))) (Or.inl (hw _ (List.mem_of_getElem? (i := 33) rfl))) (by decide) (t := .long) (t' := .long) (by decide) (by decide)))
      have F_a_lastLost := F_a_lastLost.other W24 (Or.inr (slot_ne (Or.inl (hw _ (List.mem_of_getElem? (i := 31) rfl))) (Or.inl (hw _ (List.mem_of_getElem? (i := 33) rfl))) (by decide) (t := .boolean) (t' := .long) (by decide) (by decide)))
      have F_a_lastCounted := F_a_lastCounted.other W24 (Or.inr (slot_ne (Or.inl (hw _ (List.mem_of_getElem? (i := 18) rfl))) (Or.inl (hw _ (List.mem_of_getElem? (i := 33) rfl))) (by decide) (t := .boolean) (t' := .long) (by decide) (by decide)))
      have F_a_received := F_a_received.other W24 (Or.inr (slot_ne (Or.inl (hw _ (List.mem_of_getElem? (i := 20) rfl))) (Or.inl (hw _ (List.mem_of_getElem? (i := 33) rfl))) (by decide) (t := .long) (t' := .long) (by decide) (by decide)))
      have K := K.wr W24 (Or.inl (List.mem_of_getElem? (i := 0) rfl))
      have Z24 : n0 ≤ h24.size := Nat.le_trans Z15 (Keep.of_wr W24).1
      have N24 := Fr.snoc X24 N15 g_a
      have pre25 : ∀ t, Steps p.tables e below (T24.setTop (mkF m 118 #[.val (.ref a), .val (.long q1), .second, .val (.int p1), .val (.int (0 : Int32))] [])) t → Steps p.tables e below (s₁.setTop (entryFrame m #[(.ref a), (.long q1), (.int p1)] 5)) t := fun t k => pre23 t (st24 t k)
      obtain ⟨fs, hr, hrun, hended, hW, hsame⟩ := X24.leave (v := none) (fun _ => rfl) hlk
      refine ⟨_, _, pre25 _ ?_, hrun, hended, _, _, rfl, ?_, ⟨_, rfl⟩, hW, hsame.mono (by decide) (by decide)⟩
      · show Steps p.tables e below (T24.setTop (mkF m 118 #[.val (.ref a), .val (.long q1), .second, .val (.int p1), .val (.int (0 : Int32))] [])) _
        exact X24.returnOut hx Bd.returns (hb hby d4_118) hr
      · show Q4 Z a q1 p1 w_framePicos w_any w_lastArrival w_lastLost w_lastCounted w_received w_arrived h0 n0 _ T24.heap _
        rw [e24]
        exact ⟨rfl, N24, K, F_a_framePicos, F_a_any, F_a_lastArrival, (by simp only [own_lost, own_rec, own_arr, if_pos hc7_4, if_neg hc105_18]; exact F_a_lastLost), F_a_lastCounted, (by simp only [own_lost, own_rec, own_arr, if_pos hc7_4, if_neg hc105_18]; exact F_a_received), (by simp only [own_lost, own_rec, own_arr, if_pos hc7_4, if_neg hc105_18]; exact F_a_arrived)⟩
  · have pre26 : ∀ t, Steps p.tables e below (T2.setTop (mkF m 12 #[.val (.ref a), .val (.long q1), .second, .val (.int p1), .val (.int (0 : Int32))] [(.ref a), (.long q1)])) t → Steps p.tables e below (s₁.setTop (entryFrame m #[(.ref a), (.long q1), (.int p1)] 5)) t := fun t k => pre3 t (by
      show Steps p.tables e below (T2.setTop (mkF m 7 #[.val (.ref a), .val (.long q1), .second, .val (.int p1), .val (.int (0 : Int32))] [(.int w_any)])) _
      refine XS.ifNo X2.here hx rfl (hb hby d4_7) rfl ((if0 _ _).trans (feq hc7_4).1) ?_
      show Steps p.tables e below (T2.setTop (mkF m 10 #[.val (.ref a), .val (.long q1), .second, .val (.int p1), .val (.int (0 : Int32))] [])) _
      refine XS.lloadN X2.here hx rfl (hb hby d4_10) rfl ?_
      show Steps p.tables e below (T2.setTop (mkF m 11 #[.val (.ref a), .val (.long q1), .second, .val (.int p1), .val (.int (0 : Int32))] [(.long q1)])) _
      refine XS.aloadN X2.here hx rfl (hb hby d4_11) rfl rfl ?_
      show Steps p.tables e below (T2.setTop (mkF m 12 #[.val (.ref a), .val (.long q1), .second, .val (.int p1), .val (.int (0 : Int32))] [(.ref a), (.long q1)])) _
      exact k)
    obtain ⟨T27, X27, e27, st27⟩ := getF X2 hx hZ hown (host := "") (Or.inl (hw _ (List.mem_of_getElem? (i := 28) rfl))) Via.refl e2 F_a_lastArrival (g := (mkF m 12 #[.val (.ref a), .val (.long q1), .second, .val (.int p1), .val (.int (0 : Int32))] [(.ref a), (.long q1)])) rfl rfl (hb hby d4_12)
    have pre28 : ∀ t, Steps p.tables e below (T27.setTop (mkF m 15 #[.val (.ref a), .val (.long q1), .second, .val (.int p1), .val (.int (0 : Int32))] [(.long w_lastArrival), (.long q1)])) t → Steps p.tables e below (s₁.setTop (entryFrame m #[(.ref a), (.long q1), (.int p1)] 5)) t := fun t k => pre26 t (st27 t k)
    have pre29 : ∀ t, Steps p.tables e below (T27.setTop (mkF m 39 #[.val (.ref a), .val (.long q1), .second, .val (.int p1), .val (.int (0 : Int32))] [(.ref a), (.long q1)])) t → Steps p.tables e below (s₁.setTop (entryFrame m #[(.ref a), (.long q1), (.int p1)] 5)) t := fun t k => pre28 t (by
      show Steps p.tables e below (T27.setTop (mkF m 15 #[.val (.ref a), .val (.long q1), .second, .val (.int p1), .val (.int (0 : Int32))] [(.long w_lastArrival), (.long q1)])) _
      refine XS.lcmp X27.here hx rfl (hb hby d4_15) rfl ?_
      show Steps p.tables e below (T27.setTop (mkF m 16 #[.val (.ref a), .val (.long q1), .second, .val (.int p1), .val (.int (0 : Int32))] [(.int (lcmpW q1 w_lastArrival))])) _
      refine XS.ifYes X27.here hx rfl (pc0 := 16) (pc' := 37) rfl (hb hby d4_16) rfl ((if0 _ _).trans (flt (fun q => (show ¬ (q1 < w_lastArrival) from hge hc7_4) ((lw_lt _ _).mp q))).2.1) (by decide) (by decide) ?_
      show Steps p.tables e below (T27.setTop (mkF m 37 #[.val (.ref a), .val (.long q1), .second, .val (.int p1), .val (.int (0 : Int32))] [])) _
      refine XS.lloadN X27.here hx rfl (hb hby d4_37) rfl ?_
      show Steps p.tables e below (T27.setTop (mkF m 38 #[.val (.ref a), .val (.long q1), .second, .val (.int p1), .val (.int (0 : Int32))] [(.long q1)])) _
      refine XS.aloadN X27.here hx rfl (hb hby d4_38) rfl rfl ?_
      show Steps p.tables e below (T27.setTop (mkF m 39 #[.val (.ref a), .val (.long q1), .second, .val (.int p1), .val (.int (0 : Int32))] [(.ref a), (.long q1)])) _
      exact k)
    obtain ⟨T30, X30, e30, st30⟩ := getF X27 hx hZ hown (host := "") (Or.inl (hw _ (List.mem_of_getElem? (i := 28) rfl))) Via.refl e27 F_a_lastArrival (g := (mkF m 39 #[.val (.ref a), .val (.long q1), .second, .val (.int p1), .val (.int (0 : Int32))] [(.ref a), (.long q1)])) rfl rfl (hb hby d4_39)
    have pre31 : ∀ t, Steps p.tables e below (T30.setTop (mkF m 42 #[.val (.ref a), .val (.long q1), .second, .val (.int p1), .val (.int (0 : Int32))] [(.long w_lastArrival), (.long q1)])) t → Steps p.tables e below (s₁.setTop (entryFrame m #[(.ref a), (.long q1), (.int p1)] 5)) t := fun t k => pre29 t (st30 t k)
    have pre32 : ∀ t, Steps p.tables e below (T30.setTop (mkF m 44 #[.val (.ref a), .val (.long q1), .second, .val (.int p1), .val (.int (0 : Int32))] [(.ref a), (.long (q1 - w_lastArrival))])) t → Steps p.tables e below (s₁.setTop (entryFrame m #[(.ref a), (.long q1), (.int p1)] 5)) t := fun t k => pre31 t (by
      show Steps p.tables e below (T30.setTop (mkF m 42 #[.val (.ref a), .val (.long q1), .second, .val (.int p1), .val (.int (0 : Int32))] [(.long w_lastArrival), (.long q1)])) _
      refine XS.lsub X30.here hx rfl (hb hby d4_42) rfl ?_
      show Steps p.tables e below (T30.setTop (mkF m 43 #[.val (.ref a), .val (.long q1), .second, .val (.int p1), .val (.int (0 : Int32))] [(.long (q1 - w_lastArrival))])) _
      refine XS.aloadN X30.here hx rfl (hb hby d4_43) rfl rfl ?_
      show Steps p.tables e below (T30.setTop (mkF m 44 #[.val (.ref a), .val (.long q1), .second, .val (.int p1), .val (.int (0 : Int32))] [(.ref a), (.long (q1 - w_lastArrival))])) _
      exact k)
    obtain ⟨T33, X33, e33, st33⟩ := getF X30 hx hZ hown (host := "") (Or.inl (hw _ (List.mem_of_getElem? (i := 10) rfl))) Via.refl e30 F_a_framePicos (g := (mkF m 44 #[.val (.ref a), .val (.long q1), .second, .val (.int p1), .val (.int (0 : Int32))] [(.ref a), (.long (q1 - w_lastArrival))])) rfl rfl (hb hby d4_44)
    have pre34 : ∀ t, Steps p.tables e below (T33.setTop (mkF m 47 #[.val (.ref a), .val (.long q1), .second, .val (.int p1), .val (.int (0 : Int32))] [(.long w_framePicos), (.long (q1 - w_lastArrival))])) t → Steps p.tables e below (s₁.setTop (entryFrame m #[(.ref a), (.long q1), (.int p1)] 5)) t := fun t k => pre32 t (st33 t k)
    have pre35 : ∀ t, Steps p.tables e below (T33.setTop (mkF m 48 #[.val (.ref a), .val (.long q1), .second, .val (.int p1), .val (.int (0 : Int32))] [(.int (lcmpW (q1 - w_lastArrival) w_framePicos))])) t → Steps p.tables e below (s₁.setTop (entryFrame m #[(.ref a), (.long q1), (.int p1)] 5)) t := fun t k => pre34 t (by
      show Steps p.tables e below (T33.setTop (mkF m 47 #[.val (.ref a), .val (.long q1), .second, .val (.int p1), .val (.int (0 : Int32))] [(.long w_framePicos), (.long (q1 - w_lastArrival))])) _
      refine XS.lcmp X33.here hx rfl (hb hby d4_47) rfl ?_
      show Steps p.tables e below (T33.setTop (mkF m 48 #[.val (.ref a), .val (.long q1), .second, .val (.int p1), .val (.int (0 : Int32))] [(.int (lcmpW (q1 - w_lastArrival) w_framePicos))])) _
      exact k)
    by_cases hc48_36 : (q1 - w_lastArrival) < w_framePicos
    · have pre37 : ∀ t, Steps p.tables e below (T33.setTop (mkF m 56 #[.val (.ref a), .val (.long q1), .second, .val (.int p1), .val (.int (1 : Int32))] [(.int (1 : Int32)), (.ref a)])) t → Steps p.tables e below (s₁.setTop (entryFrame m #[(.ref a), (.long q1), (.int p1)] 5)) t := fun t k => pre35 t (by
        show Steps p.tables e below (T33.setTop (mkF m 48 #[.val (.ref a), .val (.long q1), .second, .val (.int p1), .val (.int (0 : Int32))] [(.int (lcmpW (q1 - w_lastArrival) w_framePicos))])) _
        refine XS.ifNo X33.here hx rfl (hb hby d4_48) rfl ((if0 _ _).trans (tlt ((lw_lt _ _).mpr hc48_36)).2.1) ?_
        show Steps p.tables e below (T33.setTop (mkF m 51 #[.val (.ref a), .val (.long q1), .second, .val (.int p1), .val (.int (0 : Int32))] [])) _
        refine XS.iconst X33.here hx rfl (hb hby d4_51) ?_
        show Steps p.tables e below (T33.setTop (mkF m 52 #[.val (.ref a), .val (.long q1), .second, .val (.int p1), .val (.int (0 : Int32))] [(.int (1 : Int32))])) _
        refine XS.istore X33.here hx rfl (hb hby d4_52) rfl (l' := #[.val (.ref a), .val (.long q1), .second, .val (.int p1), .val (.int (1 : Int32))]) rfl ?_
        show Steps p.tables e below (T33.setTop (mkF m 54 #[.val (.ref a), .val (.long q1), .second, .val (.int p1), .val (.int (1 : Int32))] [])) _
        refine XS.aloadN X33.here hx rfl (hb hby d4_54) rfl rfl ?_
        show Steps p.tables e below (T33.setTop (mkF m 55 #[.val (.ref a), .val (.long q1), .second, .val (.int p1), .val (.int (1 : Int32))] [(.ref a)])) _
        refine XS.iconst X33.here hx rfl (hb hby d4_55) ?_
        show Steps p.tables e below (T33.setTop (mkF m 56 #[.val (.ref a), .val (.long q1), .second, .val (.int p1), .val (.int (1 : Int32))] [(.int (1 : Int32)), (.ref a)])) _
        exact k)
      obtain ⟨T38, h38, X38, e38, W38, st38⟩ := putFN X33 hx hZ hown (hw _ (List.mem_of_getElem? (i := 30) rfl)) Via.refl e33 F_a_lastLost E_a (Or.inl (hw _ (List.mem_of_getElem? (i := 31) rfl))) (hw _ (List.mem_of_getElem? (i := 2) rfl)) (ty := .boolean) (v' := (.int (1 : Int32))) (by decide) rfl (by decide) (g := (mkF m 56 #[.val (.ref a), .val (.long q1), .second, .val (.int p1), .val (.int (1 : Int32))] [(.int (1 : Int32)), (.ref a)])) rfl rfl (hb hby d4_56)
      have F_a_lastLost : Fld Z h38 a "com/example/squitterlab/squitterlab/sim/OverlapCounter" "lastLost" "Z" (.int (1 : Int32)) := F_a_lastLost.same W38
      have E_a := E_a.wr W38
      have F_a_framePicos := F_a_framePicos.other W38 (Or.inr (slot_ne (Or.inr (hw _ (List.mem_of_getElem? (i := 11) rfl))) (Or.inl (hw _ (List.mem_of_getElem? (i := 31) rfl))) (by decide) (t := .long) (t' := .boolean) (by decide) (by decide)))
      have F_a_any := F_a_any.other W38 (Or.inr (slot_ne (Or.inl (hw _ (List.mem_of_getElem? (i := 27) rfl))) (Or.inl (hw _ (List.mem_of_getElem? (i := 31) rfl))) (by decide) (t := .boolean) (t' := .boolean) (by decide) (by decide)))
      have F_a_lastArrival := F_a_lastArrival.other W38 (Or.inr (slot_ne (Or.inl (hw _ (List.mem_of_getElem? (i := 29) rfl))) (Or.inl (hw _ (List.mem_of_getElem? (i := 31) rfl))) (by decide) (t := .long) (t' := .boolean) (by decide) (by decide)))
      have F_a_lastCounted := F_a_lastCounted.other W38 (Or.inr (slot_ne (Or.inl (hw _ (List.mem_of_getElem? (i := 18) rfl))) (Or.inl (hw _ (List.mem_of_getElem? (i := 31) rfl))) (by decide) (t := .boolean) (t' := .boolean) (by decide) (by decide)))
      have F_a_received := F_a_received.other W38 (Or.inr (slot_ne (Or.inl (hw _ (List.mem_of_getElem? (i := 20) rfl))) (Or.inl (hw _ (List.mem_of_getElem? (i := 31) rfl))) (by decide) (t := .long) (t' := .boolean) (by decide) (by decide)))
      have F_a_arrived := F_a_arrived.other W38 (Or.inr (slot_ne (Or.inl (hw _ (List.mem_of_getElem? (i := 33) rfl))) (Or.inl (hw _ (List.mem_of_getElem? (i := 31) rfl))) (by decide) (t := .long) (t' := .boolean) (by decide) (by decide)))
      have K := K.wr W38 (Or.inl (List.mem_of_getElem? (i := 0) rfl))
      have Z38 : n0 ≤ h38.size := Nat.le_trans Z0 (Keep.of_wr W38).1
      have N38 := Fr.snoc X38 N0 g_a
      have pre39 : ∀ t, Steps p.tables e below (T38.setTop (mkF m 59 #[.val (.ref a), .val (.long q1), .second, .val (.int p1), .val (.int (1 : Int32))] [])) t → Steps p.tables e below (s₁.setTop (entryFrame m #[(.ref a), (.long q1), (.int p1)] 5)) t := fun t k => pre37 t (st38 t k)
      have pre40 : ∀ t, Steps p.tables e below (T38.setTop (mkF m 60 #[.val (.ref a), .val (.long q1), .second, .val (.int p1), .val (.int (1 : Int32))] [(.ref a)])) t → Steps p.tables e below (s₁.setTop (entryFrame m #[(.ref a), (.long q1), (.int p1)] 5)) t := fun t k => pre39 t (by
        show Steps p.tables e below (T38.setTop (mkF m 59 #[.val (.ref a), .val (.long q1), .second, .val (.int p1), .val (.int (1 : Int32))] [])) _
        refine XS.aloadN X38.here hx rfl (hb hby d4_59) rfl rfl ?_
        show Steps p.tables e below (T38.setTop (mkF m 60 #[.val (.ref a), .val (.long q1), .second, .val (.int p1), .val (.int (1 : Int32))] [(.ref a)])) _
        exact k)
      obtain ⟨T41, X41, e41, st41⟩ := getF X38 hx hZ hown (host := "") (Or.inl (hw _ (List.mem_of_getElem? (i := 17) rfl))) Via.refl e38 F_a_lastCounted (g := (mkF m 60 #[.val (.ref a), .val (.long q1), .second, .val (.int p1), .val (.int (1 : Int32))] [(.ref a)])) rfl rfl (hb hby d4_60)
      have pre42 : ∀ t, Steps p.tables e below (T41.setTop (mkF m 63 #[.val (.ref a), .val (.long q1), .second, .val (.int p1), .val (.int (1 : Int32))] [(.int w_lastCounted)])) t → Steps p.tables e below (s₁.setTop (entryFrame m #[(.ref a), (.long q1), (.int p1)] 5)) t := fun t k => pre40 t (st41 t k)
      by_cases hc63_43 : w_lastCounted = (0 : Int32)
      · have pre44 : ∀ t, Steps p.tables e below (T41.setTop (mkF m 85 #[.val (.ref a), .val (.long q1), .second, .val (.int p1), .val (.int (1 : Int32))] [(.int (1 : Int32)), (.ref a)])) t → Steps p.tables e below (s₁.setTop (entryFrame m #[(.ref a), (.long q1), (.int p1)] 5)) t := fun t k => pre42 t (by
          show Steps p.tables e below (T41.setTop (mkF m 63 #[.val (.ref a), .val (.long q1), .second, .val (.int p1), .val (.int (1 : Int32))] [(.int w_lastCounted)])) _
          refine XS.ifYes X41.here hx rfl (pc0 := 63) (pc' := 83) rfl (hb hby d4_63) rfl ((if0 _ _).trans (teq hc63_43).1) (by decide) (by decide) ?_
          show Steps p.tables e below (T41.setTop (mkF m 83 #[.val (.ref a), .val (.long q1), .second, .val (.int p1), .val (.int (1 : Int32))] [])) _
          refine XS.aloadN X41.here hx rfl (hb hby d4_83) rfl rfl ?_
          show Steps p.tables e below (T41.setTop (mkF m 84 #[.val (.ref a), .val (.long q1), .second, .val (.int p1), .val (.int (1 : Int32))] [(.ref a)])) _
          refine XS.iconst X41.here hx rfl (hb hby d4_84) ?_
          show Steps p.tables e below (T41.setTop (mkF m 85 #[.val (.ref a), .val (.long q1), .second, .val (.int p1), .val (.int (1 : Int32))] [(.int (1 : Int32)), (.ref a)])) _
          exact k)
        obtain ⟨T45, h45, X45, e45, W45, st45⟩ := putFN X41 hx hZ hown (hw _ (List.mem_of_getElem? (i := 26) rfl)) Via.refl e41 F_a_any E_a (Or.inl (hw _ (List.mem_of_getElem? (i := 27) rfl))) (hw _ (List.mem_of_getElem? (i := 2) rfl)) (ty := .boolean) (v' := (.int (1 : Int32))) (by decide) rfl (by decide) (g := (mkF m 85 #[.val (.ref a), .val (.long q1), .second, .val (.int p1), .val (.int (1 : Int32))] [(.int (1 : Int32)), (.ref a)])) rfl rfl (hb hby d4_85)
        have F_a_any : Fld Z h45 a "com/example/squitterlab/squitterlab/sim/OverlapCounter" "any" "Z" (.int (1 : Int32)) := F_a_any.same W45
        have E_a := E_a.wr W45
        have F_a_framePicos := F_a_framePicos.other W45 (Or.inr (slot_ne (Or.inr (hw _ (List.mem_of_getElem? (i := 11) rfl))) (Or.inl (hw _ (List.mem_of_getElem? (i := 27) rfl))) (by decide) (t := .long) (t' := .boolean) (by decide) (by decide)))
        have F_a_lastArrival := F_a_lastArrival.other W45 (Or.inr (slot_ne (Or.inl (hw _ (List.mem_of_getElem? (i := 29) rfl))) (Or.inl (hw _ (List.mem_of_getElem? (i := 27) rfl))) (by decide) (t := .long) (t' := .boolean) (by decide) (by decide)))
        have F_a_lastLost := F_a_lastLost.other W45 (Or.inr (slot_ne (Or.inl (hw _ (List.mem_of_getElem? (i := 31) rfl))) (Or.inl (hw _ (List.mem_of_getElem? (i := 27) rfl))) (by decide) (t := .boolean) (t' := .boolean) (by decide) (by decide)))
        have F_a_lastCounted := F_a_lastCounted.other W45 (Or.inr (slot_ne (Or.inl (hw _ (List.mem_of_getElem? (i := 18) rfl))) (Or.inl (hw _ (List.mem_of_getElem? (i := 27) rfl))) (by decide) (t := .boolean) (t' := .boolean) (by decide) (by decide)))
        have F_a_received := F_a_received.other W45 (Or.inr (slot_ne (Or.inl (hw _ (List.mem_of_getElem? (i := 20) rfl))) (Or.inl (hw _ (List.mem_of_getElem? (i := 27) rfl))) (by decide) (t := .long) (t' := .boolean) (by decide) (by decide)))
        have F_a_arrived := F_a_arrived.other W45 (Or.inr (slot_ne (Or.inl (hw _ (List.mem_of_getElem? (i := 33) rfl))) (Or.inl (hw _ (List.mem_of_getElem? (i := 27) rfl))) (by decide) (t := .long) (t' := .boolean) (by decide) (by decide)))
        have K := K.wr W45 (Or.inl (List.mem_of_getElem? (i := 0) rfl))
        have Z45 : n0 ≤ h45.size := Nat.le_trans Z38 (Keep.of_wr W45).1
        have N45 := Fr.snoc X45 N38 g_a
        have pre46 : ∀ t, Steps p.tables e below (T45.setTop (mkF m 88 #[.val (.ref a), .val (.long q1), .second, .val (.int p1), .val (.int (1 : Int32))] [])) t → Steps p.tables e below (s₁.setTop (entryFrame m #[(.ref a), (.long q1), (.int p1)] 5)) t := fun t k => pre44 t (st45 t k)
        have pre47 : ∀ t, Steps p.tables e below (T45.setTop (mkF m 90 #[.val (.ref a), .val (.long q1), .second, .val (.int p1), .val (.int (1 : Int32))] [(.long q1), (.ref a)])) t → Steps p.tables e below (s₁.setTop (entryFrame m #[(.ref a), (.long q1), (.int p1)] 5)) t := fun t k => pre46 t (by
          show Steps p.tables e below (T45.setTop (mkF m 88 #[.val (.ref a), .val (.long q1), .second, .val (.int p1), .val (.int (1 : Int32))] [])) _
          refine XS.aloadN X45.here hx rfl (hb hby d4_88) rfl rfl ?_
          show Steps p.tables e below (T45.setTop (mkF m 89 #[.val (.ref a), .val (.long q1), .second, .val (.int p1), .val (.int (1 : Int32))] [(.ref a)])) _
          refine XS.lloadN X45.here hx rfl (hb hby d4_89) rfl ?_
          show Steps p.tables e below (T45.setTop (mkF m 90 #[.val (.ref a), .val (.long q1), .second, .val (.int p1), .val (.int (1 : Int32))] [(.long q1), (.ref a)])) _
          exact k)
        obtain ⟨T48, h48, X48, e48, W48, st48⟩ := putF X45 hx hZ hown (host := "") (Or.inl (hw _ (List.mem_of_getElem? (i := 28) rfl))) Via.refl e45 F_a_lastArrival E_a (Or.inl (hw _ (List.mem_of_getElem? (i := 29) rfl))) (hw _ (List.mem_of_getElem? (i := 2) rfl)) (ty := .long) (by decide) rfl rfl (g := (mkF m 90 #[.val (.ref a), .val (.long q1), .second, .val (.int p1), .val (.int (1 : Int32))] [(.long q1), (.ref a)])) rfl rfl (hb hby d4_90)
        have F_a_lastArrival : Fld Z h48 a "com/example/squitterlab/squitterlab/sim/OverlapCounter" "lastArrival" "J" (.long q1) := F_a_lastArrival.same W48
        have E_a := E_a.wr W48
        have F_a_framePicos := F_a_framePicos.other W48 (Or.inr (slot_ne (Or.inr (hw _ (List.mem_of_getElem? (i := 11) rfl))) (Or.inl (hw _ (List.mem_of_getElem? (i := 29) rfl))) (by decide) (t := .long) (t' := .long) (by decide) (by decide)))
        have F_a_any := F_a_any.other W48 (Or.inr (slot_ne (Or.inl (hw _ (List.mem_of_getElem? (i := 27) rfl))) (Or.inl (hw _ (List.mem_of_getElem? (i := 29) rfl))) (by decide) (t := .boolean) (t' := .long) (by decide) (by decide)))
        have F_a_lastLost := F_a_lastLost.other W48 (Or.inr (slot_ne (Or.inl (hw _ (List.mem_of_getElem? (i := 31) rfl))) (Or.inl (hw _ (List.mem_of_getElem? (i := 29) rfl))) (by decide) (t := .boolean) (t' := .long) (by decide) (by decide)))
        have F_a_lastCounted := F_a_lastCounted.other W48 (Or.inr (slot_ne (Or.inl (hw _ (List.mem_of_getElem? (i := 18) rfl))) (Or.inl (hw _ (List.mem_of_getElem? (i := 29) rfl))) (by decide) (t := .boolean) (t' := .long) (by decide) (by decide)))
        have F_a_received := F_a_received.other W48 (Or.inr (slot_ne (Or.inl (hw _ (List.mem_of_getElem? (i := 20) rfl))) (Or.inl (hw _ (List.mem_of_getElem? (i := 29) rfl))) (by decide) (t := .long) (t' := .long) (by decide) (by decide)))
        have F_a_arrived := F_a_arrived.other W48 (Or.inr (slot_ne (Or.inl (hw _ (List.mem_of_getElem? (i := 33) rfl))) (Or.inl (hw _ (List.mem_of_getElem? (i := 29) rfl))) (by decide) (t := .long) (t' := .long) (by decide) (by decide)))
        have K := K.wr W48 (Or.inl (List.mem_of_getElem? (i := 0) rfl))
        have Z48 : n0 ≤ h48.size := Nat.le_trans Z45 (Keep.of_wr W48).1
        have N48 := Fr.snoc X48 N45 g_a
        have pre49 : ∀ t, Steps p.tables e below (T48.setTop (mkF m 93 #[.val (.ref a), .val (.long q1), .second, .val (.int p1), .val (.int (1 : Int32))] [])) t → Steps p.tables e below (s₁.setTop (entryFrame m #[(.ref a), (.long q1), (.int p1)] 5)) t := fun t k => pre47 t (st48 t k)
        have pre50 : ∀ t, Steps p.tables e below (T48.setTop (mkF m 95 #[.val (.ref a), .val (.long q1), .second, .val (.int p1), .val (.int (1 : Int32))] [(.int p1), (.ref a)])) t → Steps p.tables e below (s₁.setTop (entryFrame m #[(.ref a), (.long q1), (.int p1)] 5)) t := fun t k => pre49 t (by
          show Steps p.tables e below (T48.setTop (mkF m 93 #[.val (.ref a), .val (.long q1), .second, .val (.int p1), .val (.int (1 : Int32))] [])) _
          refine XS.aloadN X48.here hx rfl (hb hby d4_93) rfl rfl ?_
          show Steps p.tables e below (T48.setTop (mkF m 94 #[.val (.ref a), .val (.long q1), .second, .val (.int p1), .val (.int (1 : Int32))] [(.ref a)])) _
          refine XS.iloadN X48.here hx rfl (hb hby d4_94) rfl ?_
          show Steps p.tables e below (T48.setTop (mkF m 95 #[.val (.ref a), .val (.long q1), .second, .val (.int p1), .val (.int (1 : Int32))] [(.int p1), (.ref a)])) _
          exact k)
        obtain ⟨T51, h51, X51, e51, W51, st51⟩ := putFN X48 hx hZ hown (hw _ (List.mem_of_getElem? (i := 17) rfl)) Via.refl e48 F_a_lastCounted E_a (Or.inl (hw _ (List.mem_of_getElem? (i := 18) rfl))) (hw _ (List.mem_of_getElem? (i := 2) rfl)) (ty := .boolean) (v' := (.int (nar .boolean p1))) (by decide) rfl (fits_nar_bool _) (g := (mkF m 95 #[.val (.ref a), .val (.long q1), .second, .val (.int p1), .val (.int (1 : Int32))] [(.int p1), (.ref a)])) rfl rfl (hb hby d4_95)
        have F_a_lastCounted : Fld Z h51 a "com/example/squitterlab/squitterlab/sim/OverlapCounter" "lastCounted" "Z" (.int (nar .boolean p1)) := F_a_lastCounted.same W51
        have E_a := E_a.wr W51
        have F_a_framePicos := F_a_framePicos.other W51 (Or.inr (slot_ne (Or.inr (hw _ (List.mem_of_getElem? (i := 11) rfl))) (Or.inl (hw _ (List.mem_of_getElem? (i := 18) rfl))) (by decide) (t := .long) (t' := .boolean) (by decide) (by decide)))
        have F_a_any := F_a_any.other W51 (Or.inr (slot_ne (Or.inl (hw _ (List.mem_of_getElem? (i := 27) rfl))) (Or.inl (hw _ (List.mem_of_getElem? (i := 18) rfl))) (by decide) (t := .boolean) (t' := .boolean) (by decide) (by decide)))
        have F_a_lastArrival := F_a_lastArrival.other W51 (Or.inr (slot_ne (Or.inl (hw _ (List.mem_of_getElem? (i := 29) rfl))) (Or.inl (hw _ (List.mem_of_getElem? (i := 18) rfl))) (by decide) (t := .long) (t' := .boolean) (by decide) (by decide)))
        have F_a_lastLost := F_a_lastLost.other W51 (Or.inr (slot_ne (Or.inl (hw _ (List.mem_of_getElem? (i := 31) rfl))) (Or.inl (hw _ (List.mem_of_getElem? (i := 18) rfl))) (by decide) (t := .boolean) (t' := .boolean) (by decide) (by decide)))
        have F_a_received := F_a_received.other W51 (Or.inr (slot_ne (Or.inl (hw _ (List.mem_of_getElem? (i := 20) rfl))) (Or.inl (hw _ (List.mem_of_getElem? (i := 18) rfl))) (by decide) (t := .long) (t' := .boolean) (by decide) (by decide)))
        have F_a_arrived := F_a_arrived.other W51 (Or.inr (slot_ne (Or.inl (hw _ (List.mem_of_getElem? (i := 33) rfl))) (Or.inl (hw _ (List.mem_of_getElem? (i := 18) rfl))) (by decide) (t := .long) (t' := .boolean) (by decide) (by decide)))
        have K := K.wr W51 (Or.inl (List.mem_of_getElem? (i := 0) rfl))
        have Z51 : n0 ≤ h51.size := Nat.le_trans Z48 (Keep.of_wr W51).1
        have N51 := Fr.snoc X51 N48 g_a
        have pre52 : ∀ t, Steps p.tables e below (T51.setTop (mkF m 98 #[.val (.ref a), .val (.long q1), .second, .val (.int p1), .val (.int (1 : Int32))] [])) t → Steps p.tables e below (s₁.setTop (entryFrame m #[(.ref a), (.long q1), (.int p1)] 5)) t := fun t k => pre50 t (st51 t k)
        have pre53 : ∀ t, Steps p.tables e below (T51.setTop (mkF m 101 #[.val (.ref a), .val (.long q1), .second, .val (.int p1), .val (.int (1 : Int32))] [(.int (1 : Int32)), (.ref a)])) t → Steps p.tables e below (s₁.setTop (entryFrame m #[(.ref a), (.long q1), (.int p1)] 5)) t := fun t k => pre52 t (by
          show Steps p.tables e below (T51.setTop (mkF m 98 #[.val (.ref a), .val (.long q1), .second, .val (.int p1), .val (.int (1 : Int32))] [])) _
          refine XS.aloadN X51.here hx rfl (hb hby d4_98) rfl rfl ?_
          show Steps p.tables e below (T51.setTop (mkF m 99 #[.val (.ref a), .val (.long q1), .second, .val (.int p1), .val (.int (1 : Int32))] [(.ref a)])) _
          refine XS.iload X51.here hx rfl (hb hby d4_99) rfl ?_
          show Steps p.tables e below (T51.setTop (mkF m 101 #[.val (.ref a), .val (.long q1), .second, .val (.int p1), .val (.int (1 : Int32))] [(.int (1 : Int32)), (.ref a)])) _
          exact k)
        obtain ⟨T54, h54, X54, e54, W54, st54⟩ := putFN X51 hx hZ hown (hw _ (List.mem_of_getElem? (i := 30) rfl)) Via.refl e51 F_a_lastLost E_a (Or.inl (hw _ (List.mem_of_getElem? (i := 31) rfl))) (hw _ (List.mem_of_getElem? (i := 2) rfl)) (ty := .boolean) (v' := (.int (1 : Int32))) (by decide) rfl (by decide) (g := (mkF m 101 #[.val (.ref a), .val (.long q1), .second, .val (.int p1), .val (.int (1 : Int32))] [(.int (1 : Int32)), (.ref a)])) rfl rfl (hb hby d4_101)
        have F_a_lastLost : Fld Z h54 a "com/example/squitterlab/squitterlab/sim/OverlapCounter" "lastLost" "Z" (.int (1 : Int32)) := F_a_lastLost.same W54
        have E_a := E_a.wr W54
        have F_a_framePicos := F_a_framePicos.other W54 (Or.inr (slot_ne (Or.inr (hw _ (List.mem_of_getElem? (i := 11) rfl))) (Or.inl (hw _ (List.mem_of_getElem? (i := 31) rfl))) (by decide) (t := .long) (t' := .boolean) (by decide) (by decide)))
        have F_a_any := F_a_any.other W54 (Or.inr (slot_ne (Or.inl (hw _ (List.mem_of_getElem? (i := 27) rfl))) (Or.inl (hw _ (List.mem_of_getElem? (i := 31) rfl))) (by decide) (t := .boolean) (t' := .boolean) (by decide) (by decide)))
        have F_a_lastArrival := F_a_lastArrival.other W54 (Or.inr (slot_ne (Or.inl (hw _ (List.mem_of_getElem? (i := 29) rfl))) (Or.inl (hw _ (List.mem_of_getElem? (i := 31) rfl))) (by decide) (t := .long) (t' := .boolean) (by decide) (by decide)))
        have F_a_lastCounted := F_a_lastCounted.other W54 (Or.inr (slot_ne (Or.inl (hw _ (List.mem_of_getElem? (i := 18) rfl))) (Or.inl (hw _ (List.mem_of_getElem? (i := 31) rfl))) (by decide) (t := .boolean) (t' := .boolean) (by decide) (by decide)))
        have F_a_received := F_a_received.other W54 (Or.inr (slot_ne (Or.inl (hw _ (List.mem_of_getElem? (i := 20) rfl))) (Or.inl (hw _ (List.mem_of_getElem? (i := 31) rfl))) (by decide) (t := .long) (t' := .boolean) (by decide) (by decide)))
        have F_a_arrived := F_a_arrived.other W54 (Or.inr (slot_ne (Or.inl (hw _ (List.mem_of_getElem? (i := 33) rfl))) (Or.inl (hw _ (List.mem_of_getElem? (i := 31) rfl))) (by decide) (t := .long) (t' := .boolean) (by decide) (by decide)))
        have K := K.wr W54 (Or.inl (List.mem_of_getElem? (i := 0) rfl))
        have Z54 : n0 ≤ h54.size := Nat.le_trans Z51 (Keep.of_wr W54).1
        have N54 := Fr.snoc X54 N51 g_a
        have pre55 : ∀ t, Steps p.tables e below (T54.setTop (mkF m 104 #[.val (.ref a), .val (.long q1), .second, .val (.int p1), .val (.int (1 : Int32))] [])) t → Steps p.tables e below (s₁.setTop (entryFrame m #[(.ref a), (.long q1), (.int p1)] 5)) t := fun t k => pre53 t (st54 t k)
        have pre56 : ∀ t, Steps p.tables e below (T54.setTop (mkF m 105 #[.val (.ref a), .val (.long q1), .second, .val (.int p1), .val (.int (1 : Int32))] [(.int p1)])) t → Steps p.tables e below (s₁.setTop (entryFrame m #[(.ref a), (.long q1), (.int p1)] 5)) t := fun t k => pre55 t (by
          show Steps p.tables e below (T54.setTop (mkF m 104 #[.val (.ref a), .val (.long q1), .second, .val (.int p1), .val (.int (1 : Int32))] [])) _
          refine XS.iloadN X54.here hx rfl (hb hby d4_104) rfl ?_
          show Steps p.tables e below (T54.setTop (mkF m 105 #[.val (.ref a), .val (.long q1), .second, .val (.int p1), .val (.int (1 : Int32))] [(.int p1)])) _
          exact k)
        by_cases hc105_57 : p1 = (0 : Int32)
        · have pre58 : ∀ t, Steps p.tables e below (T54.setTop (mkF m 118 #[.val (.ref a), .val (.long q1), .second, .val (.int p1), .val (.int (1 : Int32))] [])) t → Steps p.tables e below (s₁.setTop (entryFrame m #[(.ref a), (.long q1), (.int p1)] 5)) t := fun t k => pre56 t (by
            show Steps p.tables e below (T54.setTop (mkF m 105 #[.val (.ref a), .val (.long q1), .second, .val (.int p1), .val (.int (1 : Int32))] [(.int p1)])) _
            refine XS.ifYes X54.here hx rfl (pc0 := 105) (pc' := 118) rfl (hb hby d4_105) rfl ((if0 _ _).trans (teq hc105_57).1) (by decide) (by decide) ?_
            show Steps p.tables e below (T54.setTop (mkF m 118 #[.val (.ref a), .val (.long q1), .second, .val (.int p1), .val (.int (1 : Int32))] [])) _
            exact k)
          obtain ⟨fs, hr, hrun, hended, hW, hsame⟩ := X54.leave (v := none) (fun _ => rfl) hlk
          refine ⟨_, _, pre58 _ ?_, hrun, hended, _, _, rfl, ?_, ⟨_, rfl⟩, hW, hsame.mono (by decide) (by decide)⟩
          · show Steps p.tables e below (T54.setTop (mkF m 118 #[.val (.ref a), .val (.long q1), .second, .val (.int p1), .val (.int (1 : Int32))] [])) _
            exact X54.returnOut hx Bd.returns (hb hby d4_118) hr
          · show Q4 Z a q1 p1 w_framePicos w_any w_lastArrival w_lastLost w_lastCounted w_received w_arrived h0 n0 _ T54.heap _
            rw [e54]
            exact ⟨rfl, N54, K, F_a_framePicos, F_a_any, F_a_lastArrival, (by simp only [own_lost, own_rec, own_arr, if_neg hc7_4, if_pos hc48_36, if_pos hc63_43, if_pos hc105_57]; exact F_a_lastLost), F_a_lastCounted, (by simp only [own_lost, own_rec, own_arr, if_neg hc7_4, if_pos hc48_36, if_pos hc63_43, if_pos hc105_57]; exact F_a_received), (by simp only [own_lost, own_rec, own_arr, if_neg hc7_4, if_pos hc48_36, if_pos hc63_43, if_pos hc105_57]; exact F_a_arrived)⟩
        · have pre59 : ∀ t, Steps p.tables e below (T54.setTop (mkF m 110 #[.val (.ref a), .val (.long q1), .second, .val (.int p1), .val (.int (1 : Int32))] [(.ref a), (.ref a)])) t → Steps p.tables e below (s₁.setTop (entryFrame m #[(.ref a), (.long q1), (.int p1)] 5)) t := fun t k => pre56 t (by
            show Steps p.tables e below (T54.setTop (mkF m 105 #[.val (.ref a), .val (.long q1), .second, .val (.int p1), .val (.int (1 : Int32))] [(.int p1)])) _
            refine XS.ifNo X54.here hx rfl (hb hby d4_105) rfl ((if0 _ _).trans (feq hc105_57).1) ?_
            show Steps p.tables e below (T54.setTop (mkF m 108 #[.val (.ref a), .val (.long q1), .second, .val (.int p1), .val (.int (1 : Int32))] [])) _
            refine XS.aloadN X54.here hx rfl (hb hby d4_108) rfl rfl ?_
            show Steps p.tables e below (T54.setTop (mkF m 109 #[.val (.ref a), .val (.long q1), .second, .val (.int p1), .val (.int (1 : Int32))] [(.ref a)])) _
            refine XS.dup X54.here hx rfl (hb hby d4_109) rfl rfl ?_
            show Steps p.tables e below (T54.setTop (mkF m 110 #[.val (.ref a), .val (.long q1), .second, .val (.int p1), .val (.int (1 : Int32))] [(.ref a), (.ref a)])) _
            exact k)
          obtain ⟨T60, X60, e60, st60⟩ := getF X54 hx hZ hown (host := "") (Or.inl (hw _ (List.mem_of_getElem? (i := 32) rfl))) Via.refl e54 F_a_arrived (g := (mkF m 110 #[.val (.ref a), .val (.long q1), .second, .val (.int p1), .val (.int (1 : Int32))] [(.ref a), (.ref a)])) rfl rfl (hb hby d4_110)
          have pre61 : ∀ t, Steps p.tables e below (T60.setTop (mkF m 113 #[.val (.ref a), .val (.long q1), .second, .val (.int p1), .val (.int (1 : Int32))] [(.long w_arrived), (.ref a)])) t → Steps p.tables e below (s₁.setTop (entryFrame m #[(.ref a), (.long q1), (.int p1)] 5)) t := fun t k => pre59 t (st60 t k)
          have pre62 : ∀ t, Steps p.tables e below (T60.setTop (mkF m 115 #[.val (.ref a), .val (.long q1), .second, .val (.int p1), .val (.int (1 : Int32))] [(.long (w_arrived + (1 : Int64))), (.ref a)])) t → Steps p.tables e below (s₁.setTop (entryFrame m #[(.ref a), (.long q1), (.int p1)] 5)) t := fun t k => pre61 t (by
            show Steps p.tables e below (T60.setTop (mkF m 113 #[.val (.ref a), .val (.long q1), .second, .val (.int p1), .val (.int (1 : Int32))] [(.long w_arrived), (.ref a)])) _
            refine XS.lconst X60.here hx rfl (hb hby d4_113) ?_
            show Steps p.tables e below (T60.setTop (mkF m 114 #[.val (.ref a), .val (.long q1), .second, .val (.int p1), .val (.int (1 : Int32))] [(.long (1 : Int64)), (.long w_arrived), (.ref a)])) _
            refine XS.ladd X60.here hx rfl (hb hby d4_114) rfl ?_
            show Steps p.tables e below (T60.setTop (mkF m 115 #[.val (.ref a), .val (.long q1), .second, .val (.int p1), .val (.int (1 : Int32))] [(.long (w_arrived + (1 : Int64))), (.ref a)])) _
            exact k)
          obtain ⟨T63, h63, X63, e63, W63, st63⟩ := putF X60 hx hZ hown (host := "") (Or.inl (hw _ (List.mem_of_getElem? (i := 32) rfl))) Via.refl e60 F_a_arrived E_a (Or.inl (hw _ (List.mem_of_getElem? (i := 33) rfl))) (hw _ (List.mem_of_getElem? (i := 2) rfl)) (ty := .long) (by decide) rfl rfl (g := (mkF m 115 #[.val (.ref a), .val (.long q1), .second, .val (.int p1), .val (.int (1 : Int32))] [(.long (w_arrived + (1 : Int64))), (.ref a)])) rfl rfl (hb hby d4_115)
          have F_a_arrived : Fld Z h63 a "com/example/squitterlab/squitterlab/sim/OverlapCounter" "arrived" "J" (.long (w_arrived + (1 : Int64))) := F_a_arrived.same W63
          have E_a := E_a.wr W63
          have F_a_framePicos := F_a_framePicos.other W63 (Or.inr (slot_ne (Or.inr (hw _ (List.mem_of_getElem? (i := 11) rfl))) (Or.inl (hw _ (List.mem_of_getElem? (i := 33) rfl))) (by decide) (t := .long) (t' := .long) (by decide) (by decide)))
          have F_a_any := F_a_any.other W63 (Or.inr (slot_ne (Or.inl (hw _ (List.mem_of_getElem? (i := 27) rfl))) (Or.inl (hw _ (List.mem_of_getElem? (i := 33) rfl))) (by decide) (t := .boolean) (t' := .long) (by decide) (by decide)))
          have F_a_lastArrival := F_a_lastArrival.other W63 (Or.inr (slot_ne (Or.inl (hw _ (List.mem_of_getElem? (i := 29) rfl))) (Or.inl (hw _ (List.mem_of_getElem? (i := 33) rfl))) (by decide) (t := .long) (t' := .long) (by decide) (by decide)))
          have F_a_lastLost := F_a_lastLost.other W63 (Or.inr (slot_ne (Or.inl (hw _ (List.mem_of_getElem? (i := 31) rfl))) (Or.inl (hw _ (List.mem_of_getElem? (i := 33) rfl))) (by decide) (t := .boolean) (t' := .long) (by decide) (by decide)))
          have F_a_lastCounted := F_a_lastCounted.other W63 (Or.inr (slot_ne (Or.inl (hw _ (List.mem_of_getElem? (i := 18) rfl))) (Or.inl (hw _ (List.mem_of_getElem? (i := 33) rfl))) (by decide) (t := .boolean) (t' := .long) (by decide) (by decide)))
          have F_a_received := F_a_received.other W63 (Or.inr (slot_ne (Or.inl (hw _ (List.mem_of_getElem? (i := 20) rfl))) (Or.inl (hw _ (List.mem_of_getElem? (i := 33) rfl))) (by decide) (t := .long) (t' := .long) (by decide) (by decide)))
          have K := K.wr W63 (Or.inl (List.mem_of_getElem? (i := 0) rfl))
          have Z63 : n0 ≤ h63.size := Nat.le_trans Z54 (Keep.of_wr W63).1
          have N63 := Fr.snoc X63 N54 g_a
          have pre64 : ∀ t, Steps p.tables e below (T63.setTop (mkF m 118 #[.val (.ref a), .val (.long q1), .second, .val (.int p1), .val (.int (1 : Int32))] [])) t → Steps p.tables e below (s₁.setTop (entryFrame m #[(.ref a), (.long q1), (.int p1)] 5)) t := fun t k => pre62 t (st63 t k)
          obtain ⟨fs, hr, hrun, hended, hW, hsame⟩ := X63.leave (v := none) (fun _ => rfl) hlk
          refine ⟨_, _, pre64 _ ?_, hrun, hended, _, _, rfl, ?_, ⟨_, rfl⟩, hW, hsame.mono (by decide) (by decide)⟩
          · show Steps p.tables e below (T63.setTop (mkF m 118 #[.val (.ref a), .val (.long q1), .second, .val (.int p1), .val (.int (1 : Int32))] [])) _
            exact X63.returnOut hx Bd.returns (hb hby d4_118) hr
          · show Q4 Z a q1 p1 w_framePicos w_any w_lastArrival w_lastLost w_lastCounted w_received w_arrived h0 n0 _ T63.heap _
            rw [e63]
            exact ⟨rfl, N63, K, F_a_framePicos, F_a_any, F_a_lastArrival, (by simp only [own_lost, own_rec, own_arr, if_neg hc7_4, if_pos hc48_36, if_pos hc63_43, if_neg hc105_57]; exact F_a_lastLost), F_a_lastCounted, (by simp only [own_lost, own_rec, own_arr, if_neg hc7_4, if_pos hc48_36, if_pos hc63_43, if_neg hc105_57]; exact F_a_received), (by simp only [own_lost, own_rec, own_arr, if_neg hc7_4, if_pos hc48_36, if_pos hc63_43, if_neg hc105_57]; exact F_a_arrived)⟩
      · have pre65 : ∀ t, Steps p.tables e below (T41.setTop (mkF m 67 #[.val (.ref a), .val (.long q1), .second, .val (.int p1), .val (.int (1 : Int32))] [(.ref a)])) t → Steps p.tables e below (s₁.setTop (entryFrame m #[(.ref a), (.long q1), (.int p1)] 5)) t := fun t k => pre42 t (by
          show Steps p.tables e below (T41.setTop (mkF m 63 #[.val (.ref a), .val (.long q1), .second, .val (.int p1), .val (.int (1 : Int32))] [(.int w_lastCounted)])) _
          refine XS.ifNo X41.here hx rfl (hb hby d4_63) rfl ((if0 _ _).trans (feq hc63_43).1) ?_
          show Steps p.tables e below (T41.setTop (mkF m 66 #[.val (.ref a), .val (.long q1), .second, .val (.int p1), .val (.int (1 : Int32))] [])) _
          refine XS.aloadN X41.here hx rfl (hb hby d4_66) rfl rfl ?_
          show Steps p.tables e below (T41.setTop (mkF m 67 #[.val (.ref a), .val (.long q1), .second, .val (.int p1), .val (.int (1 : Int32))] [(.ref a)])) _
          exact k)
        obtain ⟨T66, X66, e66, st66⟩ := getF X41 hx hZ hown (host := "") (Or.inl (hw _ (List.mem_of_getElem? (i := 30) rfl))) Via.refl e41 F_a_lastLost (g := (mkF m 67 #[.val (.ref a), .val (.long q1), .second, .val (.int p1), .val (.int (1 : Int32))] [(.ref a)])) rfl rfl (hb hby d4_67)
        have pre67 : ∀ t, Steps p.tables e below (T66.setTop (mkF m 70 #[.val (.ref a), .val (.long q1), .second, .val (.int p1), .val (.int (1 : Int32))] [(.int (1 : Int32))])) t → Steps p.tables e below (s₁.setTop (entryFrame m #[(.ref a), (.long q1), (.int p1)] 5)) t := fun t k => pre65 t (st66 t k)
        have pre68 : ∀ t, Steps p.tables e below (T66.setTop (mkF m 85 #[.val (.ref a), .val (.long q1), .second, .val (.int p1), .val (.int (1 : Int32))] [(.int (1 : Int32)), (.ref a)])) t → Steps p.tables e below (s₁.setTop (entryFrame m #[(.ref a), (.long q1), (.int p1)] 5)) t := fun t k => pre67 t (by
          show Steps p.tables e below (T66.setTop (mkF m 70 #[.val (.ref a), .val (.long q1), .second, .val (.int p1), .val (.int (1 : Int32))] [(.int (1 : Int32))])) _
          refine XS.ifYes X66.here hx rfl (pc0 := 70) (pc' := 83) rfl (hb hby d4_70) rfl ((if0 _ _).trans (feq (by decide)).2) (by decide) (by decide) ?_
          show Steps p.tables e below (T66.setTop (mkF m 83 #[.val (.ref a), .val (.long q1), .second, .val (.int p1), .val (.int (1 : Int32))] [])) _
          refine XS.aloadN X66.here hx rfl (hb hby d4_83) rfl rfl ?_
          show Steps p.tables e below (T66.setTop (mkF m 84 #[.val (.ref a), .val (.long q1), .second, .val (.int p1), .val (.int (1 : Int32))] [(.ref a)])) _
          refine XS.iconst X66.here hx rfl (hb hby d4_84) ?_
          show Steps p.tables e below (T66.setTop (mkF m 85 #[.val (.ref a), .val (.long q1), .second, .val (.int p1), .val (.int (1 : Int32))] [(.int (1 : Int32)), (.ref a)])) _
          exact k)
        obtain ⟨T69, h69, X69, e69, W69, st69⟩ := putFN X66 hx hZ hown (hw _ (List.mem_of_getElem? (i := 26) rfl)) Via.refl e66 F_a_any E_a (Or.inl (hw _ (List.mem_of_getElem? (i := 27) rfl))) (hw _ (List.mem_of_getElem? (i := 2) rfl)) (ty := .boolean) (v' := (.int (1 : Int32))) (by decide) rfl (by decide) (g := (mkF m 85 #[.val (.ref a), .val (.long q1), .second, .val (.int p1), .val (.int (1 : Int32))] [(.int (1 : Int32)), (.ref a)])) rfl rfl (hb hby d4_85)
        have F_a_any : Fld Z h69 a "com/example/squitterlab/squitterlab/sim/OverlapCounter" "any" "Z" (.int (1 : Int32)) := F_a_any.same W69
        have E_a := E_a.wr W69
        have F_a_framePicos := F_a_framePicos.other W69 (Or.inr (slot_ne (Or.inr (hw _ (List.mem_of_getElem? (i := 11) rfl))) (Or.inl (hw _ (List.mem_of_getElem? (i := 27) rfl))) (by decide) (t := .long) (t' := .boolean) (by decide) (by decide)))
        have F_a_lastArrival := F_a_lastArrival.other W69 (Or.inr (slot_ne (Or.inl (hw _ (List.mem_of_getElem? (i := 29) rfl))) (Or.inl (hw _ (List.mem_of_getElem? (i := 27) rfl))) (by decide) (t := .long) (t' := .boolean) (by decide) (by decide)))
        have F_a_lastLost := F_a_lastLost.other W69 (Or.inr (slot_ne (Or.inl (hw _ (List.mem_of_getElem? (i := 31) rfl))) (Or.inl (hw _ (List.mem_of_getElem? (i := 27) rfl))) (by decide) (t := .boolean) (t' := .boolean) (by decide) (by decide)))
        have F_a_lastCounted := F_a_lastCounted.other W69 (Or.inr (slot_ne (Or.inl (hw _ (List.mem_of_getElem? (i := 18) rfl))) (Or.inl (hw _ (List.mem_of_getElem? (i := 27) rfl))) (by decide) (t := .boolean) (t' := .boolean) (by decide) (by decide)))
        have F_a_received := F_a_received.other W69 (Or.inr (slot_ne (Or.inl (hw _ (List.mem_of_getElem? (i := 20) rfl))) (Or.inl (hw _ (List.mem_of_getElem? (i := 27) rfl))) (by decide) (t := .long) (t' := .boolean) (by decide) (by decide)))
        have F_a_arrived := F_a_arrived.other W69 (Or.inr (slot_ne (Or.inl (hw _ (List.mem_of_getElem? (i := 33) rfl))) (Or.inl (hw _ (List.mem_of_getElem? (i := 27) rfl))) (by decide) (t := .long) (t' := .boolean) (by decide) (by decide)))
        have K := K.wr W69 (Or.inl (List.mem_of_getElem? (i := 0) rfl))
        have Z69 : n0 ≤ h69.size := Nat.le_trans Z38 (Keep.of_wr W69).1
        have N69 := Fr.snoc X69 N38 g_a
        have pre70 : ∀ t, Steps p.tables e below (T69.setTop (mkF m 88 #[.val (.ref a), .val (.long q1), .second, .val (.int p1), .val (.int (1 : Int32))] [])) t → Steps p.tables e below (s₁.setTop (entryFrame m #[(.ref a), (.long q1), (.int p1)] 5)) t := fun t k => pre68 t (st69 t k)
        have pre71 : ∀ t, Steps p.tables e below (T69.setTop (mkF m 90 #[.val (.ref a), .val (.long q1), .second, .val (.int p1), .val (.int (1 : Int32))] [(.long q1), (.ref a)])) t → Steps p.tables e below (s₁.setTop (entryFrame m #[(.ref a), (.long q1), (.int p1)] 5)) t := fun t k => pre70 t (by
          show Steps p.tables e below (T69.setTop (mkF m 88 #[.val (.ref a), .val (.long q1), .second, .val (.int p1), .val (.int (1 : Int32))] [])) _
          refine XS.aloadN X69.here hx rfl (hb hby d4_88) rfl rfl ?_
          show Steps p.tables e below (T69.setTop (mkF m 89 #[.val (.ref a), .val (.long q1), .second, .val (.int p1), .val (.int (1 : Int32))] [(.ref a)])) _
          refine XS.lloadN X69.here hx rfl (hb hby d4_89) rfl ?_
          show Steps p.tables e below (T69.setTop (mkF m 90 #[.val (.ref a), .val (.long q1), .second, .val (.int p1), .val (.int (1 : Int32))] [(.long q1), (.ref a)])) _
          exact k)
        obtain ⟨T72, h72, X72, e72, W72, st72⟩ := putF X69 hx hZ hown (host := "") (Or.inl (hw _ (List.mem_of_getElem? (i := 28) rfl))) Via.refl e69 F_a_lastArrival E_a (Or.inl (hw _ (List.mem_of_getElem? (i := 29) rfl))) (hw _ (List.mem_of_getElem? (i := 2) rfl)) (ty := .long) (by decide) rfl rfl (g := (mkF m 90 #[.val (.ref a), .val (.long q1), .second, .val (.int p1), .val (.int (1 : Int32))] [(.long q1), (.ref a)])) rfl rfl (hb hby d4_90)
        have F_a_lastArrival : Fld Z h72 a "com/example/squitterlab/squitterlab/sim/OverlapCounter" "lastArrival" "J" (.long q1) := F_a_lastArrival.same W72
        have E_a := E_a.wr W72
        have F_a_framePicos := F_a_framePicos.other W72 (Or.inr (slot_ne (Or.inr (hw _ (List.mem_of_getElem? (i := 11) rfl))) (Or.inl (hw _ (List.mem_of_getElem? (i := 29) rfl))) (by decide) (t := .long) (t' := .long) (by decide) (by decide)))
        have F_a_any := F_a_any.other W72 (Or.inr (slot_ne (Or.inl (hw _ (List.mem_of_getElem? (i := 27) rfl))) (Or.inl (hw _ (List.mem_of_getElem? (i := 29) rfl))) (by decide) (t := .boolean) (t' := .long) (by decide) (by decide)))
        have F_a_lastLost := F_a_lastLost.other W72 (Or.inr (slot_ne (Or.inl (hw _ (List.mem_of_getElem? (i := 31) rfl))) (Or.inl (hw _ (List.mem_of_getElem? (i := 29) rfl))) (by decide) (t := .boolean) (t' := .long) (by decide) (by decide)))
        have F_a_lastCounted := F_a_lastCounted.other W72 (Or.inr (slot_ne (Or.inl (hw _ (List.mem_of_getElem? (i := 18) rfl))) (Or.inl (hw _ (List.mem_of_getElem? (i := 29) rfl))) (by decide) (t := .boolean) (t' := .long) (by decide) (by decide)))
        have F_a_received := F_a_received.other W72 (Or.inr (slot_ne (Or.inl (hw _ (List.mem_of_getElem? (i := 20) rfl))) (Or.inl (hw _ (List.mem_of_getElem? (i := 29) rfl))) (by decide) (t := .long) (t' := .long) (by decide) (by decide)))
        have F_a_arrived := F_a_arrived.other W72 (Or.inr (slot_ne (Or.inl (hw _ (List.mem_of_getElem? (i := 33) rfl))) (Or.inl (hw _ (List.mem_of_getElem? (i := 29) rfl))) (by decide) (t := .long) (t' := .long) (by decide) (by decide)))
        have K := K.wr W72 (Or.inl (List.mem_of_getElem? (i := 0) rfl))
        have Z72 : n0 ≤ h72.size := Nat.le_trans Z69 (Keep.of_wr W72).1
        have N72 := Fr.snoc X72 N69 g_a
        have pre73 : ∀ t, Steps p.tables e below (T72.setTop (mkF m 93 #[.val (.ref a), .val (.long q1), .second, .val (.int p1), .val (.int (1 : Int32))] [])) t → Steps p.tables e below (s₁.setTop (entryFrame m #[(.ref a), (.long q1), (.int p1)] 5)) t := fun t k => pre71 t (st72 t k)
        have pre74 : ∀ t, Steps p.tables e below (T72.setTop (mkF m 95 #[.val (.ref a), .val (.long q1), .second, .val (.int p1), .val (.int (1 : Int32))] [(.int p1), (.ref a)])) t → Steps p.tables e below (s₁.setTop (entryFrame m #[(.ref a), (.long q1), (.int p1)] 5)) t := fun t k => pre73 t (by
          show Steps p.tables e below (T72.setTop (mkF m 93 #[.val (.ref a), .val (.long q1), .second, .val (.int p1), .val (.int (1 : Int32))] [])) _
          refine XS.aloadN X72.here hx rfl (hb hby d4_93) rfl rfl ?_
          show Steps p.tables e below (T72.setTop (mkF m 94 #[.val (.ref a), .val (.long q1), .second, .val (.int p1), .val (.int (1 : Int32))] [(.ref a)])) _
          refine XS.iloadN X72.here hx rfl (hb hby d4_94) rfl ?_
          show Steps p.tables e below (T72.setTop (mkF m 95 #[.val (.ref a), .val (.long q1), .second, .val (.int p1), .val (.int (1 : Int32))] [(.int p1), (.ref a)])) _
          exact k)
        obtain ⟨T75, h75, X75, e75, W75, st75⟩ := putFN X72 hx hZ hown (hw _ (List.mem_of_getElem? (i := 17) rfl)) Via.refl e72 F_a_lastCounted E_a (Or.inl (hw _ (List.mem_of_getElem? (i := 18) rfl))) (hw _ (List.mem_of_getElem? (i := 2) rfl)) (ty := .boolean) (v' := (.int (nar .boolean p1))) (by decide) rfl (fits_nar_bool _) (g := (mkF m 95 #[.val (.ref a), .val (.long q1), .second, .val (.int p1), .val (.int (1 : Int32))] [(.int p1), (.ref a)])) rfl rfl (hb hby d4_95)
        have F_a_lastCounted : Fld Z h75 a "com/example/squitterlab/squitterlab/sim/OverlapCounter" "lastCounted" "Z" (.int (nar .boolean p1)) := F_a_lastCounted.same W75
        have E_a := E_a.wr W75
        have F_a_framePicos := F_a_framePicos.other W75 (Or.inr (slot_ne (Or.inr (hw _ (List.mem_of_getElem? (i := 11) rfl))) (Or.inl (hw _ (List.mem_of_getElem? (i := 18) rfl))) (by decide) (t := .long) (t' := .boolean) (by decide) (by decide)))
        have F_a_any := F_a_any.other W75 (Or.inr (slot_ne (Or.inl (hw _ (List.mem_of_getElem? (i := 27) rfl))) (Or.inl (hw _ (List.mem_of_getElem? (i := 18) rfl))) (by decide) (t := .boolean) (t' := .boolean) (by decide) (by decide)))
        have F_a_lastArrival := F_a_lastArrival.other W75 (Or.inr (slot_ne (Or.inl (hw _ (List.mem_of_getElem? (i := 29) rfl))) (Or.inl (hw _ (List.mem_of_getElem? (i := 18) rfl))) (by decide) (t := .long) (t' := .boolean) (by decide) (by decide)))
        have F_a_lastLost := F_a_lastLost.other W75 (Or.inr (slot_ne (Or.inl (hw _ (List.mem_of_getElem? (i := 31) rfl))) (Or.inl (hw _ (List.mem_of_getElem? (i := 18) rfl))) (by decide) (t := .boolean) (t' := .boolean) (by decide) (by decide)))
        have F_a_received := F_a_received.other W75 (Or.inr (slot_ne (Or.inl (hw _ (List.mem_of_getElem? (i := 20) rfl))) (Or.inl (hw _ (List.mem_of_getElem? (i := 18) rfl))) (by decide) (t := .long) (t' := .boolean) (by decide) (by decide)))
        have F_a_arrived := F_a_arrived.other W75 (Or.inr (slot_ne (Or.inl (hw _ (List.mem_of_getElem? (i := 33) rfl))) (Or.inl (hw _ (List.mem_of_getElem? (i := 18) rfl))) (by decide) (t := .long) (t' := .boolean) (by decide) (by decide)))
        have K := K.wr W75 (Or.inl (List.mem_of_getElem? (i := 0) rfl))
        have Z75 : n0 ≤ h75.size := Nat.le_trans Z72 (Keep.of_wr W75).1
        have N75 := Fr.snoc X75 N72 g_a
        have pre76 : ∀ t, Steps p.tables e below (T75.setTop (mkF m 98 #[.val (.ref a), .val (.long q1), .second, .val (.int p1), .val (.int (1 : Int32))] [])) t → Steps p.tables e below (s₁.setTop (entryFrame m #[(.ref a), (.long q1), (.int p1)] 5)) t := fun t k => pre74 t (st75 t k)
        have pre77 : ∀ t, Steps p.tables e below (T75.setTop (mkF m 101 #[.val (.ref a), .val (.long q1), .second, .val (.int p1), .val (.int (1 : Int32))] [(.int (1 : Int32)), (.ref a)])) t → Steps p.tables e below (s₁.setTop (entryFrame m #[(.ref a), (.long q1), (.int p1)] 5)) t := fun t k => pre76 t (by
          show Steps p.tables e below (T75.setTop (mkF m 98 #[.val (.ref a), .val (.long q1), .second, .val (.int p1), .val (.int (1 : Int32))] [])) _
          refine XS.aloadN X75.here hx rfl (hb hby d4_98) rfl rfl ?_
          show Steps p.tables e below (T75.setTop (mkF m 99 #[.val (.ref a), .val (.long q1), .second, .val (.int p1), .val (.int (1 : Int32))] [(.ref a)])) _
          refine XS.iload X75.here hx rfl (hb hby d4_99) rfl ?_
          show Steps p.tables e below (T75.setTop (mkF m 101 #[.val (.ref a), .val (.long q1), .second, .val (.int p1), .val (.int (1 : Int32))] [(.int (1 : Int32)), (.ref a)])) _
          exact k)
        obtain ⟨T78, h78, X78, e78, W78, st78⟩ := putFN X75 hx hZ hown (hw _ (List.mem_of_getElem? (i := 30) rfl)) Via.refl e75 F_a_lastLost E_a (Or.inl (hw _ (List.mem_of_getElem? (i := 31) rfl))) (hw _ (List.mem_of_getElem? (i := 2) rfl)) (ty := .boolean) (v' := (.int (1 : Int32))) (by decide) rfl (by decide) (g := (mkF m 101 #[.val (.ref a), .val (.long q1), .second, .val (.int p1), .val (.int (1 : Int32))] [(.int (1 : Int32)), (.ref a)])) rfl rfl (hb hby d4_101)
        have F_a_lastLost : Fld Z h78 a "com/example/squitterlab/squitterlab/sim/OverlapCounter" "lastLost" "Z" (.int (1 : Int32)) := F_a_lastLost.same W78
        have E_a := E_a.wr W78
        have F_a_framePicos := F_a_framePicos.other W78 (Or.inr (slot_ne (Or.inr (hw _ (List.mem_of_getElem? (i := 11) rfl))) (Or.inl (hw _ (List.mem_of_getElem? (i := 31) rfl))) (by decide) (t := .long) (t' := .boolean) (by decide) (by decide)))
        have F_a_any := F_a_any.other W78 (Or.inr (slot_ne (Or.inl (hw _ (List.mem_of_getElem? (i := 27) rfl))) (Or.inl (hw _ (List.mem_of_getElem? (i := 31) rfl))) (by decide) (t := .boolean) (t' := .boolean) (by decide) (by decide)))
        have F_a_lastArrival := F_a_lastArrival.other W78 (Or.inr (slot_ne (Or.inl (hw _ (List.mem_of_getElem? (i := 29) rfl))) (Or.inl (hw _ (List.mem_of_getElem? (i := 31) rfl))) (by decide) (t := .long) (t' := .boolean) (by decide) (by decide)))
        have F_a_lastCounted := F_a_lastCounted.other W78 (Or.inr (slot_ne (Or.inl (hw _ (List.mem_of_getElem? (i := 18) rfl))) (Or.inl (hw _ (List.mem_of_getElem? (i := 31) rfl))) (by decide) (t := .boolean) (t' := .boolean) (by decide) (by decide)))
        have F_a_received := F_a_received.other W78 (Or.inr (slot_ne (Or.inl (hw _ (List.mem_of_getElem? (i := 20) rfl))) (Or.inl (hw _ (List.mem_of_getElem? (i := 31) rfl))) (by decide) (t := .long) (t' := .boolean) (by decide) (by decide)))
        have F_a_arrived := F_a_arrived.other W78 (Or.inr (slot_ne (Or.inl (hw _ (List.mem_of_getElem? (i := 33) rfl))) (Or.inl (hw _ (List.mem_of_getElem? (i := 31) rfl))) (by decide) (t := .long) (t' := .boolean) (by decide) (by decide)))
        have K := K.wr W78 (Or.inl (List.mem_of_getElem? (i := 0) rfl))
        have Z78 : n0 ≤ h78.size := Nat.le_trans Z75 (Keep.of_wr W78).1
        have N78 := Fr.snoc X78 N75 g_a
        have pre79 : ∀ t, Steps p.tables e below (T78.setTop (mkF m 104 #[.val (.ref a), .val (.long q1), .second, .val (.int p1), .val (.int (1 : Int32))] [])) t → Steps p.tables e below (s₁.setTop (entryFrame m #[(.ref a), (.long q1), (.int p1)] 5)) t := fun t k => pre77 t (st78 t k)
        have pre80 : ∀ t, Steps p.tables e below (T78.setTop (mkF m 105 #[.val (.ref a), .val (.long q1), .second, .val (.int p1), .val (.int (1 : Int32))] [(.int p1)])) t → Steps p.tables e below (s₁.setTop (entryFrame m #[(.ref a), (.long q1), (.int p1)] 5)) t := fun t k => pre79 t (by
          show Steps p.tables e below (T78.setTop (mkF m 104 #[.val (.ref a), .val (.long q1), .second, .val (.int p1), .val (.int (1 : Int32))] [])) _
          refine XS.iloadN X78.here hx rfl (hb hby d4_104) rfl ?_
          show Steps p.tables e below (T78.setTop (mkF m 105 #[.val (.ref a), .val (.long q1), .second, .val (.int p1), .val (.int (1 : Int32))] [(.int p1)])) _
          exact k)
        by_cases hc105_81 : p1 = (0 : Int32)
        · have pre82 : ∀ t, Steps p.tables e below (T78.setTop (mkF m 118 #[.val (.ref a), .val (.long q1), .second, .val (.int p1), .val (.int (1 : Int32))] [])) t → Steps p.tables e below (s₁.setTop (entryFrame m #[(.ref a), (.long q1), (.int p1)] 5)) t := fun t k => pre80 t (by
            show Steps p.tables e below (T78.setTop (mkF m 105 #[.val (.ref a), .val (.long q1), .second, .val (.int p1), .val (.int (1 : Int32))] [(.int p1)])) _
            refine XS.ifYes X78.here hx rfl (pc0 := 105) (pc' := 118) rfl (hb hby d4_105) rfl ((if0 _ _).trans (teq hc105_81).1) (by decide) (by decide) ?_
            show Steps p.tables e below (T78.setTop (mkF m 118 #[.val (.ref a), .val (.long q1), .second, .val (.int p1), .val (.int (1 : Int32))] [])) _
            exact k)
          obtain ⟨fs, hr, hrun, hended, hW, hsame⟩ := X78.leave (v := none) (fun _ => rfl) hlk
          refine ⟨_, _, pre82 _ ?_, hrun, hended, _, _, rfl, ?_, ⟨_, rfl⟩, hW, hsame.mono (by decide) (by decide)⟩
          · show Steps p.tables e below (T78.setTop (mkF m 118 #[.val (.ref a), .val (.long q1), .second, .val (.int p1), .val (.int (1 : Int32))] [])) _
            exact X78.returnOut hx Bd.returns (hb hby d4_118) hr
          · show Q4 Z a q1 p1 w_framePicos w_any w_lastArrival w_lastLost w_lastCounted w_received w_arrived h0 n0 _ T78.heap _
            rw [e78]
            exact ⟨rfl, N78, K, F_a_framePicos, F_a_any, F_a_lastArrival, (by simp only [own_lost, own_rec, own_arr, if_neg hc7_4, if_pos hc48_36, if_neg hc63_43, if_pos hc105_81]; exact F_a_lastLost), F_a_lastCounted, (by simp only [own_lost, own_rec, own_arr, if_neg hc7_4, if_pos hc48_36, if_neg hc63_43, if_pos hc105_81]; exact F_a_received), (by simp only [own_lost, own_rec, own_arr, if_neg hc7_4, if_pos hc48_36, if_neg hc63_43, if_pos hc105_81]; exact F_a_arrived)⟩
        · have pre83 : ∀ t, Steps p.tables e below (T78.setTop (mkF m 110 #[.val (.ref a), .val (.long q1), .second, .val (.int p1), .val (.int (1 : Int32))] [(.ref a), (.ref a)])) t → Steps p.tables e below (s₁.setTop (entryFrame m #[(.ref a), (.long q1), (.int p1)] 5)) t := fun t k => pre80 t (by
            show Steps p.tables e below (T78.setTop (mkF m 105 #[.val (.ref a), .val (.long q1), .second, .val (.int p1), .val (.int (1 : Int32))] [(.int p1)])) _
            refine XS.ifNo X78.here hx rfl (hb hby d4_105) rfl ((if0 _ _).trans (feq hc105_81).1) ?_
            show Steps p.tables e below (T78.setTop (mkF m 108 #[.val (.ref a), .val (.long q1), .second, .val (.int p1), .val (.int (1 : Int32))] [])) _
            refine XS.aloadN X78.here hx rfl (hb hby d4_108) rfl rfl ?_
            show Steps p.tables e below (T78.setTop (mkF m 109 #[.val (.ref a), .val (.long q1), .second, .val (.int p1), .val (.int (1 : Int32))] [(.ref a)])) _
            refine XS.dup X78.here hx rfl (hb hby d4_109) rfl rfl ?_
            show Steps p.tables e below (T78.setTop (mkF m 110 #[.val (.ref a), .val (.long q1), .second, .val (.int p1), .val (.int (1 : Int32))] [(.ref a), (.ref a)])) _
            exact k)
          obtain ⟨T84, X84, e84, st84⟩ := getF X78 hx hZ hown (host := "") (Or.inl (hw _ (List.mem_of_getElem? (i := 32) rfl))) Via.refl e78 F_a_arrived (g := (mkF m 110 #[.val (.ref a), .val (.long q1), .second, .val (.int p1), .val (.int (1 : Int32))] [(.ref a), (.ref a)])) rfl rfl (hb hby d4_110)
          have pre85 : ∀ t, Steps p.tables e below (T84.setTop (mkF m 113 #[.val (.ref a), .val (.long q1), .second, .val (.int p1), .val (.int (1 : Int32))] [(.long w_arrived), (.ref a)])) t → Steps p.tables e below (s₁.setTop (entryFrame m #[(.ref a), (.long q1), (.int p1)] 5)) t := fun t k => pre83 t (st84 t k)
          have pre86 : ∀ t, Steps p.tables e below (T84.setTop (mkF m 115 #[.val (.ref a), .val (.long q1), .second, .val (.int p1), .val (.int (1 : Int32))] [(.long (w_arrived + (1 : Int64))), (.ref a)])) t → Steps p.tables e below (s₁.setTop (entryFrame m #[(.ref a), (.long q1), (.int p1)] 5)) t := fun t k => pre85 t (by
            show Steps p.tables e below (T84.setTop (mkF m 113 #[.val (.ref a), .val (.long q1), .second, .val (.int p1), .val (.int (1 : Int32))] [(.long w_arrived), (.ref a)])) _
            refine XS.lconst X84.here hx rfl (hb hby d4_113) ?_
            show Steps p.tables e below (T84.setTop (mkF m 114 #[.val (.ref a), .val (.long q1), .second, .val (.int p1), .val (.int (1 : Int32))] [(.long (1 : Int64)), (.long w_arrived), (.ref a)])) _
            refine XS.ladd X84.here hx rfl (hb hby d4_114) rfl ?_
            show Steps p.tables e below (T84.setTop (mkF m 115 #[.val (.ref a), .val (.long q1), .second, .val (.int p1), .val (.int (1 : Int32))] [(.long (w_arrived + (1 : Int64))), (.ref a)])) _
            exact k)
          obtain ⟨T87, h87, X87, e87, W87, st87⟩ := putF X84 hx hZ hown (host := "") (Or.inl (hw _ (List.mem_of_getElem? (i := 32) rfl))) Via.refl e84 F_a_arrived E_a (Or.inl (hw _ (List.mem_of_getElem? (i := 33) rfl))) (hw _ (List.mem_of_getElem? (i := 2) rfl)) (ty := .long) (by decide) rfl rfl (g := (mkF m 115 #[.val (.ref a), .val (.long q1), .second, .val (.int p1), .val (.int (1 : Int32))] [(.long (w_arrived + (1 : Int64))), (.ref a)])) rfl rfl (hb hby d4_115)
          have F_a_arrived : Fld Z h87 a "com/example/squitterlab/squitterlab/sim/OverlapCounter" "arrived" "J" (.long (w_arrived + (1 : Int64))) := F_a_arrived.same W87
          have E_a := E_a.wr W87
          have F_a_framePicos := F_a_framePicos.other W87 (Or.inr (slot_ne (Or.inr (hw _ (List.mem_of_getElem? (i := 11) rfl))) (Or.inl (hw _ (List.mem_of_getElem? (i := 33) rfl))) (by decide) (t := .long) (t' := .long) (by decide) (by decide)))
          have F_a_any := F_a_any.other W87 (Or.inr (slot_ne (Or.inl (hw _ (List.mem_of_getElem? (i := 27) rfl))) (Or.inl (hw _ (List.mem_of_getElem? (i := 33) rfl))) (by decide) (t := .boolean) (t' := .long) (by decide) (by decide)))
          have F_a_lastArrival := F_a_lastArrival.other W87 (Or.inr (slot_ne (Or.inl (hw _ (List.mem_of_getElem? (i := 29) rfl))) (Or.inl (hw _ (List.mem_of_getElem? (i := 33) rfl))) (by decide) (t := .long) (t' := .long) (by decide) (by decide)))
          have F_a_lastLost := F_a_lastLost.other W87 (Or.inr (slot_ne (Or.inl (hw _ (List.mem_of_getElem? (i := 31) rfl))) (Or.inl (hw _ (List.mem_of_getElem? (i := 33) rfl))) (by decide) (t := .boolean) (t' := .long) (by decide) (by decide)))
          have F_a_lastCounted := F_a_lastCounted.other W87 (Or.inr (slot_ne (Or.inl (hw _ (List.mem_of_getElem? (i := 18) rfl))) (Or.inl (hw _ (List.mem_of_getElem? (i := 33) rfl))) (by decide) (t := .boolean) (t' := .long) (by decide) (by decide)))
          have F_a_received := F_a_received.other W87 (Or.inr (slot_ne (Or.inl (hw _ (List.mem_of_getElem? (i := 20) rfl))) (Or.inl (hw _ (List.mem_of_getElem? (i := 33) rfl))) (by decide) (t := .long) (t' := .long) (by decide) (by decide)))
          have K := K.wr W87 (Or.inl (List.mem_of_getElem? (i := 0) rfl))
          have Z87 : n0 ≤ h87.size := Nat.le_trans Z78 (Keep.of_wr W87).1
          have N87 := Fr.snoc X87 N78 g_a
          have pre88 : ∀ t, Steps p.tables e below (T87.setTop (mkF m 118 #[.val (.ref a), .val (.long q1), .second, .val (.int p1), .val (.int (1 : Int32))] [])) t → Steps p.tables e below (s₁.setTop (entryFrame m #[(.ref a), (.long q1), (.int p1)] 5)) t := fun t k => pre86 t (st87 t k)
          obtain ⟨fs, hr, hrun, hended, hW, hsame⟩ := X87.leave (v := none) (fun _ => rfl) hlk
          refine ⟨_, _, pre88 _ ?_, hrun, hended, _, _, rfl, ?_, ⟨_, rfl⟩, hW, hsame.mono (by decide) (by decide)⟩
          · show Steps p.tables e below (T87.setTop (mkF m 118 #[.val (.ref a), .val (.long q1), .second, .val (.int p1), .val (.int (1 : Int32))] [])) _
            exact X87.returnOut hx Bd.returns (hb hby d4_118) hr
          · show Q4 Z a q1 p1 w_framePicos w_any w_lastArrival w_lastLost w_lastCounted w_received w_arrived h0 n0 _ T87.heap _
            rw [e87]
            exact ⟨rfl, N87, K, F_a_framePicos, F_a_any, F_a_lastArrival, (by simp only [own_lost, own_rec, own_arr, if_neg hc7_4, if_pos hc48_36, if_neg hc63_43, if_neg hc105_81]; exact F_a_lastLost), F_a_lastCounted, (by simp only [own_lost, own_rec, own_arr, if_neg hc7_4, if_pos hc48_36, if_neg hc63_43, if_neg hc105_81]; exact F_a_received), (by simp only [own_lost, own_rec, own_arr, if_neg hc7_4, if_pos hc48_36, if_neg hc63_43, if_neg hc105_81]; exact F_a_arrived)⟩
    · have pre89 : ∀ t, Steps p.tables e below (T33.setTop (mkF m 60 #[.val (.ref a), .val (.long q1), .second, .val (.int p1), .val (.int (0 : Int32))] [(.ref a)])) t → Steps p.tables e below (s₁.setTop (entryFrame m #[(.ref a), (.long q1), (.int p1)] 5)) t := fun t k => pre35 t (by
        show Steps p.tables e below (T33.setTop (mkF m 48 #[.val (.ref a), .val (.long q1), .second, .val (.int p1), .val (.int (0 : Int32))] [(.int (lcmpW (q1 - w_lastArrival) w_framePicos))])) _
        refine XS.ifYes X33.here hx rfl (pc0 := 48) (pc' := 59) rfl (hb hby d4_48) rfl ((if0 _ _).trans (flt (fun q => hc48_36 ((lw_lt _ _).mp q))).2.1) (by decide) (by decide) ?_
        show Steps p.tables e below (T33.setTop (mkF m 59 #[.val (.ref a), .val (.long q1), .second, .val (.int p1), .val (.int (0 : Int32))] [])) _
        refine XS.aloadN X33.here hx rfl (hb hby d4_59) rfl rfl ?_
        show Steps p.tables e below (T33.setTop (mkF m 60 #[.val (.ref a), .val (.long q1), .second, .val (.int p1), .val (.int (0 : Int32))] [(.ref a)])) _
        exact k)
      obtain ⟨T90, X90, e90, st90⟩ := getF X33 hx hZ hown (host := "") (Or.inl (hw _ (List.mem_of_getElem? (i := 17) rfl))) Via.refl e33 F_a_lastCounted (g := (mkF m 60 #[.val (.ref a), .val (.long q1), .second, .val (.int p1), .val (.int (0 : Int32))] [(.ref a)])) rfl rfl (hb hby d4_60)
      have pre91 : ∀ t, Steps p.tables e below (T90.setTop (mkF m 63 #[.val (.ref a), .val (.long q1), .second, .val (.int p1), .val (.int (0 : Int32))] [(.int w_lastCounted)])) t → Steps p.tables e below (s₁.setTop (entryFrame m #[(.ref a), (.long q1), (.int p1)] 5)) t := fun t k => pre89 t (st90 t k)
      by_cases hc63_92 : w_lastCounted = (0 : Int32)
      · have pre93 : ∀ t, Steps p.tables e below (T90.setTop (mkF m 85 #[.val (.ref a), .val (.long q1), .second, .val (.int p1), .val (.int (0 : Int32))] [(.int (1 : Int32)), (.ref a)])) t → Steps p.tables e below (s₁.setTop (entryFrame m #[(.ref a), (.long q1), (.int p1)] 5)) t := fun t k => pre91 t (by
          show Steps p.tables e below (T90.setTop (mkF m 63 #[.val (.ref a), .val (.long q1), .second, .val (.int p1), .val (.int (0 : Int32))] [(.int w_lastCounted)])) _
          refine XS.ifYes X90.here hx rfl (pc0 := 63) (pc' := 83) rfl (hb hby d4_63) rfl ((if0 _ _).trans (teq hc63_92).1) (by decide) (by decide) ?_
          show Steps p.tables e below (T90.setTop (mkF m 83 #[.val (.ref a), .val (.long q1), .second, .val (.int p1), .val (.int (0 : Int32))] [])) _
          refine XS.aloadN X90.here hx rfl (hb hby d4_83) rfl rfl ?_
          show Steps p.tables e below (T90.setTop (mkF m 84 #[.val (.ref a), .val (.long q1), .second, .val (.int p1), .val (.int (0 : Int32))] [(.ref a)])) _
          refine XS.iconst X90.here hx rfl (hb hby d4_84) ?_
          show Steps p.tables e below (T90.setTop (mkF m 85 #[.val (.ref a), .val (.long q1), .second, .val (.int p1), .val (.int (0 : Int32))] [(.int (1 : Int32)), (.ref a)])) _
          exact k)
        obtain ⟨T94, h94, X94, e94, W94, st94⟩ := putFN X90 hx hZ hown (hw _ (List.mem_of_getElem? (i := 26) rfl)) Via.refl e90 F_a_any E_a (Or.inl (hw _ (List.mem_of_getElem? (i := 27) rfl))) (hw _ (List.mem_of_getElem? (i := 2) rfl)) (ty := .boolean) (v' := (.int (1 : Int32))) (by decide) rfl (by decide) (g := (mkF m 85 #[.val (.ref a), .val (.long q1), .second, .val (.int p1), .val (.int (0 : Int32))] [(.int (1 : Int32)), (.ref a)])) rfl rfl (hb hby d4_85)
        have F_a_any : Fld Z h94 a "com/example/squitterlab/squitterlab/sim/OverlapCounter" "any" "Z" (.int (1 : Int32)) := F_a_any.same W94
        have E_a := E_a.wr W94
        have F_a_framePicos := F_a_framePicos.other W94 (Or.inr (slot_ne (Or.inr (hw _ (List.mem_of_getElem? (i := 11) rfl))) (Or.inl (hw _ (List.mem_of_getElem? (i := 27) rfl))) (by decide) (t := .long) (t' := .boolean) (by decide) (by decide)))
        have F_a_lastArrival := F_a_lastArrival.other W94 (Or.inr (slot_ne (Or.inl (hw _ (List.mem_of_getElem? (i := 29) rfl))) (Or.inl (hw _ (List.mem_of_getElem? (i := 27) rfl))) (by decide) (t := .long) (t' := .boolean) (by decide) (by decide)))
        have F_a_lastLost := F_a_lastLost.other W94 (Or.inr (slot_ne (Or.inl (hw _ (List.mem_of_getElem? (i := 31) rfl))) (Or.inl (hw _ (List.mem_of_getElem? (i := 27) rfl))) (by decide) (t := .boolean) (t' := .boolean) (by decide) (by decide)))
        have F_a_lastCounted := F_a_lastCounted.other W94 (Or.inr (slot_ne (Or.inl (hw _ (List.mem_of_getElem? (i := 18) rfl))) (Or.inl (hw _ (List.mem_of_getElem? (i := 27) rfl))) (by decide) (t := .boolean) (t' := .boolean) (by decide) (by decide)))
        have F_a_received := F_a_received.other W94 (Or.inr (slot_ne (Or.inl (hw _ (List.mem_of_getElem? (i := 20) rfl))) (Or.inl (hw _ (List.mem_of_getElem? (i := 27) rfl))) (by decide) (t := .long) (t' := .boolean) (by decide) (by decide)))
        have F_a_arrived := F_a_arrived.other W94 (Or.inr (slot_ne (Or.inl (hw _ (List.mem_of_getElem? (i := 33) rfl))) (Or.inl (hw _ (List.mem_of_getElem? (i := 27) rfl))) (by decide) (t := .long) (t' := .boolean) (by decide) (by decide)))
        have K := K.wr W94 (Or.inl (List.mem_of_getElem? (i := 0) rfl))
        have Z94 : n0 ≤ h94.size := Nat.le_trans Z0 (Keep.of_wr W94).1
        have N94 := Fr.snoc X94 N0 g_a
        have pre95 : ∀ t, Steps p.tables e below (T94.setTop (mkF m 88 #[.val (.ref a), .val (.long q1), .second, .val (.int p1), .val (.int (0 : Int32))] [])) t → Steps p.tables e below (s₁.setTop (entryFrame m #[(.ref a), (.long q1), (.int p1)] 5)) t := fun t k => pre93 t (st94 t k)
        have pre96 : ∀ t, Steps p.tables e below (T94.setTop (mkF m 90 #[.val (.ref a), .val (.long q1), .second, .val (.int p1), .val (.int (0 : Int32))] [(.long q1), (.ref a)])) t → Steps p.tables e below (s₁.setTop (entryFrame m #[(.ref a), (.long q1), (.int p1)] 5)) t := fun t k => pre95 t (by
          show Steps p.tables e below (T94.setTop (mkF m 88 #[.val (.ref a), .val (.long q1), .second, .val (.int p1), .val (.int (0 : Int32))] [])) _
          refine XS.aloadN X94.here hx rfl (hb hby d4_88) rfl rfl ?_
          show Steps p.tables e below (T94.setTop (mkF m 89 #[.val (.ref a), .val (.long q1), .second, .val (.int p1), .val (.int (0 : Int32))] [(.ref a)])) _
          refine XS.lloadN X94.here hx rfl (hb hby d4_89) rfl ?_
          show Steps p.tables e below (T94.setTop (mkF m 90 #[.val (.ref a), .val (.long q1), .second, .val (.int p1), .val (.int (0 : Int32))] [(.long q1), (.ref a)])) _
          exact k)
        obtain ⟨T97, h97, X97, e97, W97, st97⟩ := putF X94 hx hZ hown (host := "") (Or.inl (hw _ (List.mem_of_getElem? (i := 28) rfl))) Via.refl e94 F_a_lastArrival E_a (Or.inl (hw _ (List.mem_of_getElem? (i := 29) rfl))) (hw _ (List.mem_of_getElem? (i := 2) rfl)) (ty := .long) (by decide) rfl rfl (g := (mkF m 90 #[.val (.ref a), .val (.long q1), .second, .val (.int p1), .val (.int (0 : Int32))] [(.long q1), (.ref a)])) rfl rfl (hb hby d4_90)
        have F_a_lastArrival : Fld Z h97 a "com/example/squitterlab/squitterlab/sim/OverlapCounter" "lastArrival" "J" (.long q1) := F_a_lastArrival.same W97
        have E_a := E_a.wr W97
        have F_a_framePicos := F_a_framePicos.other W97 (Or.inr (slot_ne (Or.inr (hw _ (List.mem_of_getElem? (i := 11) rfl))) (Or.inl (hw _ (List.mem_of_getElem? (i := 29) rfl))) (by decide) (t := .long) (t' := .long) (by decide) (by decide)))
        have F_a_any := F_a_any.other W97 (Or.inr (slot_ne (Or.inl (hw _ (List.mem_of_getElem? (i := 27) rfl))) (Or.inl (hw _ (List.mem_of_getElem? (i := 29) rfl))) (by decide) (t := .boolean) (t' := .long) (by decide) (by decide)))
        have F_a_lastLost := F_a_lastLost.other W97 (Or.inr (slot_ne (Or.inl (hw _ (List.mem_of_getElem? (i := 31) rfl))) (Or.inl (hw _ (List.mem_of_getElem? (i := 29) rfl))) (by decide) (t := .boolean) (t' := .long) (by decide) (by decide)))
        have F_a_lastCounted := F_a_lastCounted.other W97 (Or.inr (slot_ne (Or.inl (hw _ (List.mem_of_getElem? (i := 18) rfl))) (Or.inl (hw _ (List.mem_of_getElem? (i := 29) rfl))) (by decide) (t := .boolean) (t' := .long) (by decide) (by decide)))
        have F_a_received := F_a_received.other W97 (Or.inr (slot_ne (Or.inl (hw _ (List.mem_of_getElem? (i := 20) rfl))) (Or.inl (hw _ (List.mem_of_getElem? (i := 29) rfl))) (by decide) (t := .long) (t' := .long) (by decide) (by decide)))
        have F_a_arrived := F_a_arrived.other W97 (Or.inr (slot_ne (Or.inl (hw _ (List.mem_of_getElem? (i := 33) rfl))) (Or.inl (hw _ (List.mem_of_getElem? (i := 29) rfl))) (by decide) (t := .long) (t' := .long) (by decide) (by decide)))
        have K := K.wr W97 (Or.inl (List.mem_of_getElem? (i := 0) rfl))
        have Z97 : n0 ≤ h97.size := Nat.le_trans Z94 (Keep.of_wr W97).1
        have N97 := Fr.snoc X97 N94 g_a
        have pre98 : ∀ t, Steps p.tables e below (T97.setTop (mkF m 93 #[.val (.ref a), .val (.long q1), .second, .val (.int p1), .val (.int (0 : Int32))] [])) t → Steps p.tables e below (s₁.setTop (entryFrame m #[(.ref a), (.long q1), (.int p1)] 5)) t := fun t k => pre96 t (st97 t k)
        have pre99 : ∀ t, Steps p.tables e below (T97.setTop (mkF m 95 #[.val (.ref a), .val (.long q1), .second, .val (.int p1), .val (.int (0 : Int32))] [(.int p1), (.ref a)])) t → Steps p.tables e below (s₁.setTop (entryFrame m #[(.ref a), (.long q1), (.int p1)] 5)) t := fun t k => pre98 t (by
          show Steps p.tables e below (T97.setTop (mkF m 93 #[.val (.ref a), .val (.long q1), .second, .val (.int p1), .val (.int (0 : Int32))] [])) _
          refine XS.aloadN X97.here hx rfl (hb hby d4_93) rfl rfl ?_
          show Steps p.tables e below (T97.setTop (mkF m 94 #[.val (.ref a), .val (.long q1), .second, .val (.int p1), .val (.int (0 : Int32))] [(.ref a)])) _
          refine XS.iloadN X97.here hx rfl (hb hby d4_94) rfl ?_
          show Steps p.tables e below (T97.setTop (mkF m 95 #[.val (.ref a), .val (.long q1), .second, .val (.int p1), .val (.int (0 : Int32))] [(.int p1), (.ref a)])) _
          exact k)
        obtain ⟨T100, h100, X100, e100, W100, st100⟩ := putFN X97 hx hZ hown (hw _ (List.mem_of_getElem? (i := 17) rfl)) Via.refl e97 F_a_lastCounted E_a (Or.inl (hw _ (List.mem_of_getElem? (i := 18) rfl))) (hw _ (List.mem_of_getElem? (i := 2) rfl)) (ty := .boolean) (v' := (.int (nar .boolean p1))) (by decide) rfl (fits_nar_bool _) (g := (mkF m 95 #[.val (.ref a), .val (.long q1), .second, .val (.int p1), .val (.int (0 : Int32))] [(.int p1), (.ref a)])) rfl rfl (hb hby d4_95)
        have F_a_lastCounted : Fld Z h100 a "com/example/squitterlab/squitterlab/sim/OverlapCounter" "lastCounted" "Z" (.int (nar .boolean p1)) := F_a_lastCounted.same W100
        have E_a := E_a.wr W100
        have F_a_framePicos := F_a_framePicos.other W100 (Or.inr (slot_ne (Or.inr (hw _ (List.mem_of_getElem? (i := 11) rfl))) (Or.inl (hw _ (List.mem_of_getElem? (i := 18) rfl))) (by decide) (t := .long) (t' := .boolean) (by decide) (by decide)))
        have F_a_any := F_a_any.other W100 (Or.inr (slot_ne (Or.inl (hw _ (List.mem_of_getElem? (i := 27) rfl))) (Or.inl (hw _ (List.mem_of_getElem? (i := 18) rfl))) (by decide) (t := .boolean) (t' := .boolean) (by decide) (by decide)))
        have F_a_lastArrival := F_a_lastArrival.other W100 (Or.inr (slot_ne (Or.inl (hw _ (List.mem_of_getElem? (i := 29) rfl))) (Or.inl (hw _ (List.mem_of_getElem? (i := 18) rfl))) (by decide) (t := .long) (t' := .boolean) (by decide) (by decide)))
        have F_a_lastLost := F_a_lastLost.other W100 (Or.inr (slot_ne (Or.inl (hw _ (List.mem_of_getElem? (i := 31) rfl))) (Or.inl (hw _ (List.mem_of_getElem? (i := 18) rfl))) (by decide) (t := .boolean) (t' := .boolean) (by decide) (by decide)))
        have F_a_received := F_a_received.other W100 (Or.inr (slot_ne (Or.inl (hw _ (List.mem_of_getElem? (i := 20) rfl))) (Or.inl (hw _ (List.mem_of_getElem? (i := 18) rfl))) (by decide) (t := .long) (t' := .boolean) (by decide) (by decide)))
        have F_a_arrived := F_a_arrived.other W100 (Or.inr (slot_ne (Or.inl (hw _ (List.mem_of_getElem? (i := 33) rfl))) (Or.inl (hw _ (List.mem_of_getElem? (i := 18) rfl))) (by decide) (t := .long) (t' := .boolean) (by decide) (by decide)))
        have K := K.wr W100 (Or.inl (List.mem_of_getElem? (i := 0) rfl))
        have Z100 : n0 ≤ h100.size := Nat.le_trans Z97 (Keep.of_wr W100).1
        have N100 := Fr.snoc X100 N97 g_a
        have pre101 : ∀ t, Steps p.tables e below (T100.setTop (mkF m 98 #[.val (.ref a), .val (.long q1), .second, .val (.int p1), .val (.int (0 : Int32))] [])) t → Steps p.tables e below (s₁.setTop (entryFrame m #[(.ref a), (.long q1), (.int p1)] 5)) t := fun t k => pre99 t (st100 t k)
        have pre102 : ∀ t, Steps p.tables e below (T100.setTop (mkF m 101 #[.val (.ref a), .val (.long q1), .second, .val (.int p1), .val (.int (0 : Int32))] [(.int (0 : Int32)), (.ref a)])) t → Steps p.tables e below (s₁.setTop (entryFrame m #[(.ref a), (.long q1), (.int p1)] 5)) t := fun t k => pre101 t (by
          show Steps p.tables e below (T100.setTop (mkF m 98 #[.val (.ref a), .val (.long q1), .second, .val (.int p1), .val (.int (0 : Int32))] [])) _
          refine XS.aloadN X100.here hx rfl (hb hby d4_98) rfl rfl ?_
          show Steps p.tables e below (T100.setTop (mkF m 99 #[.val (.ref a), .val (.long q1), .second, .val (.int p1), .val (.int (0 : Int32))] [(.ref a)])) _
          refine XS.iload X100.here hx rfl (hb hby d4_99) rfl ?_
          show Steps p.tables e below (T100.setTop (mkF m 101 #[.val (.ref a), .val (.long q1), .second, .val (.int p1), .val (.int (0 : Int32))] [(.int (0 : Int32)), (.ref a)])) _
          exact k)
        obtain ⟨T103, h103, X103, e103, W103, st103⟩ := putFN X100 hx hZ hown (hw _ (List.mem_of_getElem? (i := 30) rfl)) Via.refl e100 F_a_lastLost E_a (Or.inl (hw _ (List.mem_of_getElem? (i := 31) rfl))) (hw _ (List.mem_of_getElem? (i := 2) rfl)) (ty := .boolean) (v' := (.int (0 : Int32))) (by decide) rfl (by decide) (g := (mkF m 101 #[.val (.ref a), .val (.long q1), .second, .val (.int p1), .val (.int (0 : Int32))] [(.int (0 : Int32)), (.ref a)])) rfl rfl (hb hby d4_101)
        have F_a_lastLost : Fld Z h103 a "com/example/squitterlab/squitterlab/sim/OverlapCounter" "lastLost" "Z" (.int (0 : Int32)) := F_a_lastLost.same W103
        have E_a := E_a.wr W103
        have F_a_framePicos := F_a_framePicos.other W103 (Or.inr (slot_ne (Or.inr (hw _ (List.mem_of_getElem? (i := 11) rfl))) (Or.inl (hw _ (List.mem_of_getElem? (i := 31) rfl))) (by decide) (t := .long) (t' := .boolean) (by decide) (by decide)))
        have F_a_any := F_a_any.other W103 (Or.inr (slot_ne (Or.inl (hw _ (List.mem_of_getElem? (i := 27) rfl))) (Or.inl (hw _ (List.mem_of_getElem? (i := 31) rfl))) (by decide) (t := .boolean) (t' := .boolean) (by decide) (by decide)))
        have F_a_lastArrival := F_a_lastArrival.other W103 (Or.inr (slot_ne (Or.inl (hw _ (List.mem_of_getElem? (i := 29) rfl))) (Or.inl (hw _ (List.mem_of_getElem? (i := 31) rfl))) (by decide) (t := .long) (t' := .boolean) (by decide) (by decide)))
        have F_a_lastCounted := F_a_lastCounted.other W103 (Or.inr (slot_ne (Or.inl (hw _ (List.mem_of_getElem? (i := 18) rfl))) (Or.inl (hw _ (List.mem_of_getElem? (i := 31) rfl))) (by decide) (t := .boolean) (t' := .boolean) (by decide) (by decide)))
        have F_a_received := F_a_received.other W103 (Or.inr (slot_ne (Or.inl (hw _ (List.mem_of_getElem? (i := 20) rfl))) (Or.inl (hw _ (List.mem_of_getElem? (i := 31) rfl))) (by decide) (t := .long) (t' := .boolean) (by decide) (by decide)))
        have F_a_arrived := F_a_arrived.other W103 (Or.inr (slot_ne (Or.inl (hw _ (List.mem_of_getElem? (i := 33) rfl))) (Or.inl (hw _ (List.mem_of_getElem? (i := 31) rfl))) (by decide) (t := .long) (t' := .boolean) (by decide) (by decide)))
        have K := K.wr W103 (Or.inl (List.mem_of_getElem? (i := 0) rfl))
        have Z103 : n0 ≤ h103.size := Nat.le_trans Z100 (Keep.of_wr W103).1
        have N103 := Fr.snoc X103 N100 g_a
        have pre104 : ∀ t, Steps p.tables e below (T103.setTop (mkF m 104 #[.val (.ref a), .val (.long q1), .second, .val (.int p1), .val (.int (0 : Int32))] [])) t → Steps p.tables e below (s₁.setTop (entryFrame m #[(.ref a), (.long q1), (.int p1)] 5)) t := fun t k => pre102 t (st103 t k)
        have pre105 : ∀ t, Steps p.tables e below (T103.setTop (mkF m 105 #[.val (.ref a), .val (.long q1), .second, .val (.int p1), .val (.int (0 : Int32))] [(.int p1)])) t → Steps p.tables e below (s₁.setTop (entryFrame m #[(.ref a), (.long q1), (.int p1)] 5)) t := fun t k => pre104 t (by
          show Steps p.tables e below (T103.setTop (mkF m 104 #[.val (.ref a), .val (.long q1), .second, .val (.int p1), .val (.int (0 : Int32))] [])) _
          refine XS.iloadN X103.here hx rfl (hb hby d4_104) rfl ?_
          show Steps p.tables e below (T103.setTop (mkF m 105 #[.val (.ref a), .val (.long q1), .second, .val (.int p1), .val (.int (0 : Int32))] [(.int p1)])) _
          exact k)
        by_cases hc105_106 : p1 = (0 : Int32)
        · have pre107 : ∀ t, Steps p.tables e below (T103.setTop (mkF m 118 #[.val (.ref a), .val (.long q1), .second, .val (.int p1), .val (.int (0 : Int32))] [])) t → Steps p.tables e below (s₁.setTop (entryFrame m #[(.ref a), (.long q1), (.int p1)] 5)) t := fun t k => pre105 t (by
            show Steps p.tables e below (T103.setTop (mkF m 105 #[.val (.ref a), .val (.long q1), .second, .val (.int p1), .val (.int (0 : Int32))] [(.int p1)])) _
            refine XS.ifYes X103.here hx rfl (pc0 := 105) (pc' := 118) rfl (hb hby d4_105) rfl ((if0 _ _).trans (teq hc105_106).1) (by decide) (by decide) ?_
            show Steps p.tables e below (T103.setTop (mkF m 118 #[.val (.ref a), .val (.long q1), .second, .val (.int p1), .val (.int (0 : Int32))] [])) _
            exact k)
          obtain ⟨fs, hr, hrun, hended, hW, hsame⟩ := X103.leave (v := none) (fun _ => rfl) hlk
          refine ⟨_, _, pre107 _ ?_, hrun, hended, _, _, rfl, ?_, ⟨_, rfl⟩, hW, hsame.mono (by decide) (by decide)⟩
          · show Steps p.tables e below (T103.setTop (mkF m 118 #[.val (.ref a), .val (.long q1), .second, .val (.int p1), .val (.int (0 : Int32))] [])) _
            exact X103.returnOut hx Bd.returns (hb hby d4_118) hr
          · show Q4 Z a q1 p1 w_framePicos w_any w_lastArrival w_lastLost w_lastCounted w_received w_arrived h0 n0 _ T103.heap _
            rw [e103]
            exact ⟨rfl, N103, K, F_a_framePicos, F_a_any, F_a_lastArrival, (by simp only [own_lost, own_rec, own_arr, if_neg hc7_4, if_neg hc48_36, if_pos hc63_92, if_pos hc105_106]; exact F_a_lastLost), F_a_lastCounted, (by simp only [own_lost, own_rec, own_arr, if_neg hc7_4, if_neg hc48_36, if_pos hc63_92, if_pos hc105_106]; exact F_a_received), (by simp only [own_lost, own_rec, own_arr, if_neg hc7_4, if_neg hc48_36, if_pos hc63_92, if_pos hc105_106]; exact F_a_arrived)⟩
        · have pre108 : ∀ t, Steps p.tables e below (T103.setTop (mkF m 110 #[.val (.ref a), .val (.long q1), .second, .val (.int p1), .val (.int (0 : Int32))] [(.ref a), (.ref a)])) t → Steps p.tables e below (s₁.setTop (entryFrame m #[(.ref a), (.long q1), (.int p1)] 5)) t := fun t k => pre105 t (by
            show Steps p.tables e below (T103.setTop (mkF m 105 #[.val (.ref a), .val (.long q1), .second, .val (.int p1), .val (.int (0 : Int32))] [(.int p1)])) _
            refine XS.ifNo X103.here hx rfl (hb hby d4_105) rfl ((if0 _ _).trans (feq hc105_106).1) ?_
            show Steps p.tables e below (T103.setTop (mkF m 108 #[.val (.ref a), .val (.long q1), .second, .val (.int p1), .val (.int (0 : Int32))] [])) _
            refine XS.aloadN X103.here hx rfl (hb hby d4_108) rfl rfl ?_
            show Steps p.tables e below (T103.setTop (mkF m 109 #[.val (.ref a), .val (.long q1), .second, .val (.int p1), .val (.int (0 : Int32))] [(.ref a)])) _
            refine XS.dup X103.here hx rfl (hb hby d4_109) rfl rfl ?_
            show Steps p.tables e below (T103.setTop (mkF m 110 #[.val (.ref a), .val (.long q1), .second, .val (.int p1), .val (.int (0 : Int32))] [(.ref a), (.ref a)])) _
            exact k)
          obtain ⟨T109, X109, e109, st109⟩ := getF X103 hx hZ hown (host := "") (Or.inl (hw _ (List.mem_of_getElem? (i := 32) rfl))) Via.refl e103 F_a_arrived (g := (mkF m 110 #[.val (.ref a), .val (.long q1), .second, .val (.int p1), .val (.int (0 : Int32))] [(.ref a), (.ref a)])) rfl rfl (hb hby d4_110)
          have pre110 : ∀ t, Steps p.tables e below (T109.setTop (mkF m 113 #[.val (.ref a), .val (.long q1), .second, .val (.int p1), .val (.int (0 : Int32))] [(.long w_arrived), (.ref a)])) t → Steps p.tables e below (s₁.setTop (entryFrame m #[(.ref a), (.long q1), (.int p1)] 5)) t := fun t k => pre108 t (st109 t k)
          have pre111 : ∀ t, Steps p.tables e below (T109.setTop (mkF m 115 #[.val (.ref a), .val (.long q1), .second, .val (.int p1), .val (.int (0 : Int32))] [(.long (w_arrived + (1 : Int64))), (.ref a)])) t → Steps p.tables e below (s₁.setTop (entryFrame m #[(.ref a), (.long q1), (.int p1)] 5)) t := fun t k => pre110 t (by
            show Steps p.tables e below (T109.setTop (mkF m 113 #[.val (.ref a), .val (.long q1), .second, .val (.int p1), .val (.int (0 : Int32))] [(.long w_arrived), (.ref a)])) _
            refine XS.lconst X109.here hx rfl (hb hby d4_113) ?_
            show Steps p.tables e below (T109.setTop (mkF m 114 #[.val (.ref a), .val (.long q1), .second, .val (.int p1), .val (.int (0 : Int32))] [(.long (1 : Int64)), (.long w_arrived), (.ref a)])) _
            refine XS.ladd X109.here hx rfl (hb hby d4_114) rfl ?_
            show Steps p.tables e below (T109.setTop (mkF m 115 #[.val (.ref a), .val (.long q1), .second, .val (.int p1), .val (.int (0 : Int32))] [(.long (w_arrived + (1 : Int64))), (.ref a)])) _
            exact k)
          obtain ⟨T112, h112, X112, e112, W112, st112⟩ := putF X109 hx hZ hown (host := "") (Or.inl (hw _ (List.mem_of_getElem? (i := 32) rfl))) Via.refl e109 F_a_arrived E_a (Or.inl (hw _ (List.mem_of_getElem? (i := 33) rfl))) (hw _ (List.mem_of_getElem? (i := 2) rfl)) (ty := .long) (by decide) rfl rfl (g := (mkF m 115 #[.val (.ref a), .val (.long q1), .second, .val (.int p1), .val (.int (0 : Int32))] [(.long (w_arrived + (1 : Int64))), (.ref a)])) rfl rfl (hb hby d4_115)
          have F_a_arrived : Fld Z h112 a "com/example/squitterlab/squitterlab/sim/OverlapCounter" "arrived" "J" (.long (w_arrived + (1 : Int64))) := F_a_arrived.same W112
          have E_a := E_a.wr W112
          have F_a_framePicos := F_a_framePicos.other W112 (Or.inr (slot_ne (Or.inr (hw _ (List.mem_of_getElem? (i := 11) rfl))) (Or.inl (hw _ (List.mem_of_getElem? (i := 33) rfl))) (by decide) (t := .long) (t' := .long) (by decide) (by decide)))
          have F_a_any := F_a_any.other W112 (Or.inr (slot_ne (Or.inl (hw _ (List.mem_of_getElem? (i := 27) rfl))) (Or.inl (hw _ (List.mem_of_getElem? (i := 33) rfl))) (by decide) (t := .boolean) (t' := .long) (by decide) (by decide)))
          have F_a_lastArrival := F_a_lastArrival.other W112 (Or.inr (slot_ne (Or.inl (hw _ (List.mem_of_getElem? (i := 29) rfl))) (Or.inl (hw _ (List.mem_of_getElem? (i := 33) rfl))) (by decide) (t := .long) (t' := .long) (by decide) (by decide)))
          have F_a_lastLost := F_a_lastLost.other W112 (Or.inr (slot_ne (Or.inl (hw _ (List.mem_of_getElem? (i := 31) rfl))) (Or.inl (hw _ (List.mem_of_getElem? (i := 33) rfl))) (by decide) (t := .boolean) (t' := .long) (by decide) (by decide)))
          have F_a_lastCounted := F_a_lastCounted.other W112 (Or.inr (slot_ne (Or.inl (hw _ (List.mem_of_getElem? (i := 18) rfl))) (Or.inl (hw _ (List.mem_of_getElem? (i := 33) rfl))) (by decide) (t := .boolean) (t' := .long) (by decide) (by decide)))
          have F_a_received := F_a_received.other W112 (Or.inr (slot_ne (Or.inl (hw _ (List.mem_of_getElem? (i := 20) rfl))) (Or.inl (hw _ (List.mem_of_getElem? (i := 33) rfl))) (by decide) (t := .long) (t' := .long) (by decide) (by decide)))
          have K := K.wr W112 (Or.inl (List.mem_of_getElem? (i := 0) rfl))
          have Z112 : n0 ≤ h112.size := Nat.le_trans Z103 (Keep.of_wr W112).1
          have N112 := Fr.snoc X112 N103 g_a
          have pre113 : ∀ t, Steps p.tables e below (T112.setTop (mkF m 118 #[.val (.ref a), .val (.long q1), .second, .val (.int p1), .val (.int (0 : Int32))] [])) t → Steps p.tables e below (s₁.setTop (entryFrame m #[(.ref a), (.long q1), (.int p1)] 5)) t := fun t k => pre111 t (st112 t k)
          obtain ⟨fs, hr, hrun, hended, hW, hsame⟩ := X112.leave (v := none) (fun _ => rfl) hlk
          refine ⟨_, _, pre113 _ ?_, hrun, hended, _, _, rfl, ?_, ⟨_, rfl⟩, hW, hsame.mono (by decide) (by decide)⟩
          · show Steps p.tables e below (T112.setTop (mkF m 118 #[.val (.ref a), .val (.long q1), .second, .val (.int p1), .val (.int (0 : Int32))] [])) _
            exact X112.returnOut hx Bd.returns (hb hby d4_118) hr
          · show Q4 Z a q1 p1 w_framePicos w_any w_lastArrival w_lastLost w_lastCounted w_received w_arrived h0 n0 _ T112.heap _
            rw [e112]
            exact ⟨rfl, N112, K, F_a_framePicos, F_a_any, F_a_lastArrival, (by simp only [own_lost, own_rec, own_arr, if_neg hc7_4, if_neg hc48_36, if_pos hc63_92, if_neg hc105_106]; exact F_a_lastLost), F_a_lastCounted, (by simp only [own_lost, own_rec, own_arr, if_neg hc7_4, if_neg hc48_36, if_pos hc63_92, if_neg hc105_106]; exact F_a_received), (by simp only [own_lost, own_rec, own_arr, if_neg hc7_4, if_neg hc48_36, if_pos hc63_92, if_neg hc105_106]; exact F_a_arrived)⟩
      · have pre114 : ∀ t, Steps p.tables e below (T90.setTop (mkF m 67 #[.val (.ref a), .val (.long q1), .second, .val (.int p1), .val (.int (0 : Int32))] [(.ref a)])) t → Steps p.tables e below (s₁.setTop (entryFrame m #[(.ref a), (.long q1), (.int p1)] 5)) t := fun t k => pre91 t (by
          show Steps p.tables e below (T90.setTop (mkF m 63 #[.val (.ref a), .val (.long q1), .second, .val (.int p1), .val (.int (0 : Int32))] [(.int w_lastCounted)])) _
          refine XS.ifNo X90.here hx rfl (hb hby d4_63) rfl ((if0 _ _).trans (feq hc63_92).1) ?_
          show Steps p.tables e below (T90.setTop (mkF m 66 #[.val (.ref a), .val (.long q1), .second, .val (.int p1), .val (.int (0 : Int32))] [])) _
          refine XS.aloadN X90.here hx rfl (hb hby d4_66) rfl rfl ?_
          show Steps p.tables e below (T90.setTop (mkF m 67 #[.val (.ref a), .val (.long q1), .second, .val (.int p1), .val (.int (0 : Int32))] [(.ref a)])) _
          exact k)
        obtain ⟨T115, X115, e115, st115⟩ := getF X90 hx hZ hown (host := "") (Or.inl (hw _ (List.mem_of_getElem? (i := 30) rfl))) Via.refl e90 F_a_lastLost (g := (mkF m 67 #[.val (.ref a), .val (.long q1), .second, .val (.int p1), .val (.int (0 : Int32))] [(.ref a)])) rfl rfl (hb hby d4_67)
        have pre116 : ∀ t, Steps p.tables e below (T115.setTop (mkF m 70 #[.val (.ref a), .val (.long q1), .second, .val (.int p1), .val (.int (0 : Int32))] [(.int w_lastLost)])) t → Steps p.tables e below (s₁.setTop (entryFrame m #[(.ref a), (.long q1), (.int p1)] 5)) t := fun t k => pre114 t (st115 t k)
        by_cases hc70_117 : w_lastLost = (0 : Int32)
        · have pre118 : ∀ t, Steps p.tables e below (T115.setTop (mkF m 75 #[.val (.ref a), .val (.long q1), .second, .val (.int p1), .val (.int (0 : Int32))] [(.ref a), (.ref a)])) t → Steps p.tables e below (s₁.setTop (entryFrame m #[(.ref a), (.long q1), (.int p1)] 5)) t := fun t k => pre116 t (by
            show Steps p.tables e below (T115.setTop (mkF m 70 #[.val (.ref a), .val (.long q1), .second, .val (.int p1), .val (.int (0 : Int32))] [(.int w_lastLost)])) _
            refine XS.ifNo X115.here hx rfl (hb hby d4_70) rfl ((if0 _ _).trans (teq hc70_117).2) ?_
            show Steps p.tables e below (T115.setTop (mkF m 73 #[.val (.ref a), .val (.long q1), .second, .val (.int p1), .val (.int (0 : Int32))] [])) _
            refine XS.aloadN X115.here hx rfl (hb hby d4_73) rfl rfl ?_
            show Steps p.tables e below (T115.setTop (mkF m 74 #[.val (.ref a), .val (.long q1), .second, .val (.int p1), .val (.int (0 : Int32))] [(.ref a)])) _
            refine XS.dup X115.here hx rfl (hb hby d4_74) rfl rfl ?_
            show Steps p.tables e below (T115.setTop (mkF m 75 #[.val (.ref a), .val (.long q1), .second, .val (.int p1), .val (.int (0 : Int32))] [(.ref a), (.ref a)])) _
            exact k)
          obtain ⟨T119, X119, e119, st119⟩ := getF X115 hx hZ hown (host := "") (Or.inl (hw _ (List.mem_of_getElem? (i := 19) rfl))) Via.refl e115 F_a_received (g := (mkF m 75 #[.val (.ref a), .val (.long q1), .second, .val (.int p1), .val (.int (0 : Int32))] [(.ref a), (.ref a)])) rfl rfl (hb hby d4_75)
          have pre120 : ∀ t, Steps p.tables e below (T119.setTop (mkF m 78 #[.val (.ref a), .val (.long q1), .second, .val (.int p1), .val (.int (0 : Int32))] [(.long w_received), (.ref a)])) t → Steps p.tables e below (s₁.setTop (entryFrame m #[(.ref a), (.long q1), (.int p1)] 5)) t := fun t k => pre118 t (st119 t k)
          have pre121 : ∀ t, Steps p.tables e below (T119.setTop (mkF m 80 #[.val (.ref a), .val (.long q1), .second, .val (.int p1), .val (.int (0 : Int32))] [(.long (w_received + (1 : Int64))), (.ref a)])) t → Steps p.tables e below (s₁.setTop (entryFrame m #[(.ref a), (.long q1), (.int p1)] 5)) t := fun t k => pre120 t (by
            show Steps p.tables e below (T119.setTop (mkF m 78 #[.val (.ref a), .val (.long q1), .second, .val (.int p1), .val (.int (0 : Int32))] [(.long w_received), (.ref a)])) _
            refine XS.lconst X119.here hx rfl (hb hby d4_78) ?_
            show Steps p.tables e below (T119.setTop (mkF m 79 #[.val (.ref a), .val (.long q1), .second, .val (.int p1), .val (.int (0 : Int32))] [(.long (1 : Int64)), (.long w_received), (.ref a)])) _
            refine XS.ladd X119.here hx rfl (hb hby d4_79) rfl ?_
            show Steps p.tables e below (T119.setTop (mkF m 80 #[.val (.ref a), .val (.long q1), .second, .val (.int p1), .val (.int (0 : Int32))] [(.long (w_received + (1 : Int64))), (.ref a)])) _
            exact k)
          obtain ⟨T122, h122, X122, e122, W122, st122⟩ := putF X119 hx hZ hown (host := "") (Or.inl (hw _ (List.mem_of_getElem? (i := 19) rfl))) Via.refl e119 F_a_received E_a (Or.inl (hw _ (List.mem_of_getElem? (i := 20) rfl))) (hw _ (List.mem_of_getElem? (i := 2) rfl)) (ty := .long) (by decide) rfl rfl (g := (mkF m 80 #[.val (.ref a), .val (.long q1), .second, .val (.int p1), .val (.int (0 : Int32))] [(.long (w_received + (1 : Int64))), (.ref a)])) rfl rfl (hb hby d4_80)
          have F_a_received : Fld Z h122 a "com/example/squitterlab/squitterlab/sim/OverlapCounter" "received" "J" (.long (w_received + (1 : Int64))) := F_a_received.same W122
          have E_a := E_a.wr W122
          have F_a_framePicos := F_a_framePicos.other W122 (Or.inr (slot_ne (Or.inr (hw _ (List.mem_of_getElem? (i := 11) rfl))) (Or.inl (hw _ (List.mem_of_getElem? (i := 20) rfl))) (by decide) (t := .long) (t' := .long) (by decide) (by decide)))
          have F_a_any := F_a_any.other W122 (Or.inr (slot_ne (Or.inl (hw _ (List.mem_of_getElem? (i := 27) rfl))) (Or.inl (hw _ (List.mem_of_getElem? (i := 20) rfl))) (by decide) (t := .boolean) (t' := .long) (by decide) (by decide)))
          have F_a_lastArrival := F_a_lastArrival.other W122 (Or.inr (slot_ne (Or.inl (hw _ (List.mem_of_getElem? (i := 29) rfl))) (Or.inl (hw _ (List.mem_of_getElem? (i := 20) rfl))) (by decide) (t := .long) (t' := .long) (by decide) (by decide)))
          have F_a_lastLost := F_a_lastLost.other W122 (Or.inr (slot_ne (Or.inl (hw _ (List.mem_of_getElem? (i := 31) rfl))) (Or.inl (hw _ (List.mem_of_getElem? (i := 20) rfl))) (by decide) (t := .boolean) (t' := .long) (by decide) (by decide)))
          have F_a_lastCounted := F_a_lastCounted.other W122 (Or.inr (slot_ne (Or.inl (hw _ (List.mem_of_getElem? (i := 18) rfl))) (Or.inl (hw _ (List.mem_of_getElem? (i := 20) rfl))) (by decide) (t := .boolean) (t' := .long) (by decide) (by decide)))
          have F_a_arrived := F_a_arrived.other W122 (Or.inr (slot_ne (Or.inl (hw _ (List.mem_of_getElem? (i := 33) rfl))) (Or.inl (hw _ (List.mem_of_getElem? (i := 20) rfl))) (by decide) (t := .long) (t' := .long) (by decide) (by decide)))
          have K := K.wr W122 (Or.inl (List.mem_of_getElem? (i := 0) rfl))
          have Z122 : n0 ≤ h122.size := Nat.le_trans Z0 (Keep.of_wr W122).1
          have N122 := Fr.snoc X122 N0 g_a
          have pre123 : ∀ t, Steps p.tables e below (T122.setTop (mkF m 83 #[.val (.ref a), .val (.long q1), .second, .val (.int p1), .val (.int (0 : Int32))] [])) t → Steps p.tables e below (s₁.setTop (entryFrame m #[(.ref a), (.long q1), (.int p1)] 5)) t := fun t k => pre121 t (st122 t k)
          have pre124 : ∀ t, Steps p.tables e below (T122.setTop (mkF m 85 #[.val (.ref a), .val (.long q1), .second, .val (.int p1), .val (.int (0 : Int32))] [(.int (1 : Int32)), (.ref a)])) t → Steps p.tables e below (s₁.setTop (entryFrame m #[(.ref a), (.long q1), (.int p1)] 5)) t := fun t k => pre123 t (by
            show Steps p.tables e below (T122.setTop (mkF m 83 #[.val (.ref a), .val (.long q1), .second, .val (.int p1), .val (.int (0 : Int32))] [])) _
            refine XS.aloadN X122.here hx rfl (hb hby d4_83) rfl rfl ?_
            show Steps p.tables e below (T122.setTop (mkF m 84 #[.val (.ref a), .val (.long q1), .second, .val (.int p1), .val (.int (0 : Int32))] [(.ref a)])) _
            refine XS.iconst X122.here hx rfl (hb hby d4_84) ?_
            show Steps p.tables e below (T122.setTop (mkF m 85 #[.val (.ref a), .val (.long q1), .second, .val (.int p1), .val (.int (0 : Int32))] [(.int (1 : Int32)), (.ref a)])) _
            exact k)
          obtain ⟨T125, h125, X125, e125, W125, st125⟩ := putFN X122 hx hZ hown (hw _ (List.mem_of_getElem? (i := 26) rfl)) Via.refl e122 F_a_any E_a (Or.inl (hw _ (List.mem_of_getElem? (i := 27) rfl))) (hw _ (List.mem_of_getElem? (i := 2) rfl)) (ty := .boolean) (v' := (.int (1 : Int32))) (by decide) rfl (by decide) (g := (mkF m 85 #[.val (.ref a), .val (.long q1), .second, .val (.int p1), .val (.int (0 : Int32))] [(.int (1 : Int32)), (.ref a)])) rfl rfl (hb hby d4_85)
          have F_a_any : Fld Z h125 a "com/example/squitterlab/squitterlab/sim/OverlapCounter" "any" "Z" (.int (1 : Int32)) := F_a_any.same W125
          have E_a := E_a.wr W125
          have F_a_framePicos := F_a_framePicos.other W125 (Or.inr (slot_ne (Or.inr (hw _ (List.mem_of_getElem? (i := 11) rfl))) (Or.inl (hw _ (List.mem_of_getElem? (i := 27) rfl))) (by decide) (t := .long) (t' := .boolean) (by decide) (by decide)))
          have F_a_lastArrival := F_a_lastArrival.other W125 (Or.inr (slot_ne (Or.inl (hw _ (List.mem_of_getElem? (i := 29) rfl))) (Or.inl (hw _ (List.mem_of_getElem? (i := 27) rfl))) (by decide) (t := .long) (t' := .boolean) (by decide) (by decide)))
          have F_a_lastLost := F_a_lastLost.other W125 (Or.inr (slot_ne (Or.inl (hw _ (List.mem_of_getElem? (i := 31) rfl))) (Or.inl (hw _ (List.mem_of_getElem? (i := 27) rfl))) (by decide) (t := .boolean) (t' := .boolean) (by decide) (by decide)))
          have F_a_lastCounted := F_a_lastCounted.other W125 (Or.inr (slot_ne (Or.inl (hw _ (List.mem_of_getElem? (i := 18) rfl))) (Or.inl (hw _ (List.mem_of_getElem? (i := 27) rfl))) (by decide) (t := .boolean) (t' := .boolean) (by decide) (by decide)))
          have F_a_received := F_a_received.other W125 (Or.inr (slot_ne (Or.inl (hw _ (List.mem_of_getElem? (i := 20) rfl))) (Or.inl (hw _ (List.mem_of_getElem? (i := 27) rfl))) (by decide) (t := .long) (t' := .boolean) (by decide) (by decide)))
          have F_a_arrived := F_a_arrived.other W125 (Or.inr (slot_ne (Or.inl (hw _ (List.mem_of_getElem? (i := 33) rfl))) (Or.inl (hw _ (List.mem_of_getElem? (i := 27) rfl))) (by decide) (t := .long) (t' := .boolean) (by decide) (by decide)))
          have K := K.wr W125 (Or.inl (List.mem_of_getElem? (i := 0) rfl))
          have Z125 : n0 ≤ h125.size := Nat.le_trans Z122 (Keep.of_wr W125).1
          have N125 := Fr.snoc X125 N122 g_a
          have pre126 : ∀ t, Steps p.tables e below (T125.setTop (mkF m 88 #[.val (.ref a), .val (.long q1), .second, .val (.int p1), .val (.int (0 : Int32))] [])) t → Steps p.tables e below (s₁.setTop (entryFrame m #[(.ref a), (.long q1), (.int p1)] 5)) t := fun t k => pre124 t (st125 t k)
          have pre127 : ∀ t, Steps p.tables e below (T125.setTop (mkF m 90 #[.val (.ref a), .val (.long q1), .second, .val (.int p1), .val (.int (0 : Int32))] [(.long q1), (.ref a)])) t → Steps p.tables e below (s₁.setTop (entryFrame m #[(.ref a), (.long q1), (.int p1)] 5)) t := fun t k => pre126 t (by
            show Steps p.tables e below (T125.setTop (mkF m 88 #[.val (.ref a), .val (.long q1), .second, .val (.int p1), .val (.int (0 : Int32))] [])) _
            refine XS.aloadN X125.here hx rfl (hb hby d4_88) rfl rfl ?_
            show Steps p.tables e below (T125.setTop (mkF m 89 #[.val (.ref a), .val (.long q1), .second, .val (.int p1), .val (.int (0 : Int32))] [(.ref a)])) _
            refine XS.lloadN X125.here hx rfl (hb hby d4_89) rfl ?_
            show Steps p.tables e below (T125.setTop (mkF m 90 #[.val (.ref a), .val (.long q1), .second, .val (.int p1), .val (.int (0 : Int32))] [(.long q1), (.ref a)])) _
            exact k)
          obtain ⟨T128, h128, X128, e128, W128, st128⟩ := putF X125 hx hZ hown (host := "") (Or.inl (hw _ (List.mem_of_getElem? (i := 28) rfl))) Via.refl e125 F_a_lastArrival E_a (Or.inl (hw _ (List.mem_of_getElem? (i := 29) rfl))) (hw _ (List.mem_of_getElem? (i := 2) rfl)) (ty := .long) (by decide) rfl rfl (g := (mkF m 90 #[.val (.ref a), .val (.long q1), .second, .val (.int p1), .val (.int (0 : Int32))] [(.long q1), (.ref a)])) rfl rfl (hb hby d4_90)
          have F_a_lastArrival : Fld Z h128 a "com/example/squitterlab/squitterlab/sim/OverlapCounter" "lastArrival" "J" (.long q1) := F_a_lastArrival.same W128
          have E_a := E_a.wr W128
          have F_a_framePicos := F_a_framePicos.other W128 (Or.inr (slot_ne (Or.inr (hw _ (List.mem_of_getElem? (i := 11) rfl))) (Or.inl (hw _ (List.mem_of_getElem? (i := 29) rfl))) (by decide) (t := .long) (t' := .long) (by decide) (by decide)))
          have F_a_any := F_a_any.other W128 (Or.inr (slot_ne (Or.inl (hw _ (List.mem_of_getElem? (i := 27) rfl))) (Or.inl (hw _ (List.mem_of_getElem? (i := 29) rfl))) (by decide) (t := .boolean) (t' := .long) (by decide) (by decide)))
          have F_a_lastLost := F_a_lastLost.other W128 (Or.inr (slot_ne (Or.inl (hw _ (List.mem_of_getElem? (i := 31) rfl))) (Or.inl (hw _ (List.mem_of_getElem? (i := 29) rfl))) (by decide) (t := .boolean) (t' := .long) (by decide) (by decide)))
          have F_a_lastCounted := F_a_lastCounted.other W128 (Or.inr (slot_ne (Or.inl (hw _ (List.mem_of_getElem? (i := 18) rfl))) (Or.inl (hw _ (List.mem_of_getElem? (i := 29) rfl))) (by decide) (t := .boolean) (t' := .long) (by decide) (by decide)))
          have F_a_received := F_a_received.other W128 (Or.inr (slot_ne (Or.inl (hw _ (List.mem_of_getElem? (i := 20) rfl))) (Or.inl (hw _ (List.mem_of_getElem? (i := 29) rfl))) (by decide) (t := .long) (t' := .long) (by decide) (by decide)))
          have F_a_arrived := F_a_arrived.other W128 (Or.inr (slot_ne (Or.inl (hw _ (List.mem_of_getElem? (i := 33) rfl))) (Or.inl (hw _ (List.mem_of_getElem? (i := 29) rfl))) (by decide) (t := .long) (t' := .long) (by decide) (by decide)))
          have K := K.wr W128 (Or.inl (List.mem_of_getElem? (i := 0) rfl))
          have Z128 : n0 ≤ h128.size := Nat.le_trans Z125 (Keep.of_wr W128).1
          have N128 := Fr.snoc X128 N125 g_a
          have pre129 : ∀ t, Steps p.tables e below (T128.setTop (mkF m 93 #[.val (.ref a), .val (.long q1), .second, .val (.int p1), .val (.int (0 : Int32))] [])) t → Steps p.tables e below (s₁.setTop (entryFrame m #[(.ref a), (.long q1), (.int p1)] 5)) t := fun t k => pre127 t (st128 t k)
          have pre130 : ∀ t, Steps p.tables e below (T128.setTop (mkF m 95 #[.val (.ref a), .val (.long q1), .second, .val (.int p1), .val (.int (0 : Int32))] [(.int p1), (.ref a)])) t → Steps p.tables e below (s₁.setTop (entryFrame m #[(.ref a), (.long q1), (.int p1)] 5)) t := fun t k => pre129 t (by
            show Steps p.tables e below (T128.setTop (mkF m 93 #[.val (.ref a), .val (.long q1), .second, .val (.int p1), .val (.int (0 : Int32))] [])) _
            refine XS.aloadN X128.here hx rfl (hb hby d4_93) rfl rfl ?_
            show Steps p.tables e below (T128.setTop (mkF m 94 #[.val (.ref a), .val (.long q1), .second, .val (.int p1), .val (.int (0 : Int32))] [(.ref a)])) _
            refine XS.iloadN X128.here hx rfl (hb hby d4_94) rfl ?_
            show Steps p.tables e below (T128.setTop (mkF m 95 #[.val (.ref a), .val (.long q1), .second, .val (.int p1), .val (.int (0 : Int32))] [(.int p1), (.ref a)])) _
            exact k)
          obtain ⟨T131, h131, X131, e131, W131, st131⟩ := putFN X128 hx hZ hown (hw _ (List.mem_of_getElem? (i := 17) rfl)) Via.refl e128 F_a_lastCounted E_a (Or.inl (hw _ (List.mem_of_getElem? (i := 18) rfl))) (hw _ (List.mem_of_getElem? (i := 2) rfl)) (ty := .boolean) (v' := (.int (nar .boolean p1))) (by decide) rfl (fits_nar_bool _) (g := (mkF m 95 #[.val (.ref a), .val (.long q1), .second, .val (.int p1), .val (.int (0 : Int32))] [(.int p1), (.ref a)])) rfl rfl (hb hby d4_95)
          have F_a_lastCounted : Fld Z h131 a "com/example/squitterlab/squitterlab/sim/OverlapCounter" "lastCounted" "Z" (.int (nar .boolean p1)) := F_a_lastCounted.same W131
          have E_a := E_a.wr W131
          have F_a_framePicos := F_a_framePicos.other W131 (Or.inr (slot_ne (Or.inr (hw _ (List.mem_of_getElem? (i := 11) rfl))) (Or.inl (hw _ (List.mem_of_getElem? (i := 18) rfl))) (by decide) (t := .long) (t' := .boolean) (by decide) (by decide)))
          have F_a_any := F_a_any.other W131 (Or.inr (slot_ne (Or.inl (hw _ (List.mem_of_getElem? (i := 27) rfl))) (Or.inl (hw _ (List.mem_of_getElem? (i := 18) rfl))) (by decide) (t := .boolean) (t' := .boolean) (by decide) (by decide)))
          have F_a_lastArrival := F_a_lastArrival.other W131 (Or.inr (slot_ne (Or.inl (hw _ (List.mem_of_getElem? (i := 29) rfl))) (Or.inl (hw _ (List.mem_of_getElem? (i := 18) rfl))) (by decide) (t := .long) (t' := .boolean) (by decide) (by decide)))
          have F_a_lastLost := F_a_lastLost.other W131 (Or.inr (slot_ne (Or.inl (hw _ (List.mem_of_getElem? (i := 31) rfl))) (Or.inl (hw _ (List.mem_of_getElem? (i := 18) rfl))) (by decide) (t := .boolean) (t' := .boolean) (by decide) (by decide)))
          have F_a_received := F_a_received.other W131 (Or.inr (slot_ne (Or.inl (hw _ (List.mem_of_getElem? (i := 20) rfl))) (Or.inl (hw _ (List.mem_of_getElem? (i := 18) rfl))) (by decide) (t := .long) (t' := .boolean) (by decide) (by decide)))
          have F_a_arrived := F_a_arrived.other W131 (Or.inr (slot_ne (Or.inl (hw _ (List.mem_of_getElem? (i := 33) rfl))) (Or.inl (hw _ (List.mem_of_getElem? (i := 18) rfl))) (by decide) (t := .long) (t' := .boolean) (by decide) (by decide)))
          have K := K.wr W131 (Or.inl (List.mem_of_getElem? (i := 0) rfl))
          have Z131 : n0 ≤ h131.size := Nat.le_trans Z128 (Keep.of_wr W131).1
          have N131 := Fr.snoc X131 N128 g_a
          have pre132 : ∀ t, Steps p.tables e below (T131.setTop (mkF m 98 #[.val (.ref a), .val (.long q1), .second, .val (.int p1), .val (.int (0 : Int32))] [])) t → Steps p.tables e below (s₁.setTop (entryFrame m #[(.ref a), (.long q1), (.int p1)] 5)) t := fun t k => pre130 t (st131 t k)
          have pre133 : ∀ t, Steps p.tables e below (T131.setTop (mkF m 101 #[.val (.ref a), .val (.long q1), .second, .val (.int p1), .val (.int (0 : Int32))] [(.int (0 : Int32)), (.ref a)])) t → Steps p.tables e below (s₁.setTop (entryFrame m #[(.ref a), (.long q1), (.int p1)] 5)) t := fun t k => pre132 t (by
            show Steps p.tables e below (T131.setTop (mkF m 98 #[.val (.ref a), .val (.long q1), .second, .val (.int p1), .val (.int (0 : Int32))] [])) _
            refine XS.aloadN X131.here hx rfl (hb hby d4_98) rfl rfl ?_
            show Steps p.tables e below (T131.setTop (mkF m 99 #[.val (.ref a), .val (.long q1), .second, .val (.int p1), .val (.int (0 : Int32))] [(.ref a)])) _
            refine XS.iload X131.here hx rfl (hb hby d4_99) rfl ?_
            show Steps p.tables e below (T131.setTop (mkF m 101 #[.val (.ref a), .val (.long q1), .second, .val (.int p1), .val (.int (0 : Int32))] [(.int (0 : Int32)), (.ref a)])) _
            exact k)
          obtain ⟨T134, h134, X134, e134, W134, st134⟩ := putFN X131 hx hZ hown (hw _ (List.mem_of_getElem? (i := 30) rfl)) Via.refl e131 F_a_lastLost E_a (Or.inl (hw _ (List.mem_of_getElem? (i := 31) rfl))) (hw _ (List.mem_of_getElem? (i := 2) rfl)) (ty := .boolean) (v' := (.int (0 : Int32))) (by decide) rfl (by decide) (g := (mkF m 101 #[.val (.ref a), .val (.long q1), .second, .val (.int p1), .val (.int (0 : Int32))] [(.int (0 : Int32)), (.ref a)])) rfl rfl (hb hby d4_101)
          have F_a_lastLost : Fld Z h134 a "com/example/squitterlab/squitterlab/sim/OverlapCounter" "lastLost" "Z" (.int (0 : Int32)) := F_a_lastLost.same W134
          have E_a := E_a.wr W134
          have F_a_framePicos := F_a_framePicos.other W134 (Or.inr (slot_ne (Or.inr (hw _ (List.mem_of_getElem? (i := 11) rfl))) (Or.inl (hw _ (List.mem_of_getElem? (i := 31) rfl))) (by decide) (t := .long) (t' := .boolean) (by decide) (by decide)))
          have F_a_any := F_a_any.other W134 (Or.inr (slot_ne (Or.inl (hw _ (List.mem_of_getElem? (i := 27) rfl))) (Or.inl (hw _ (List.mem_of_getElem? (i := 31) rfl))) (by decide) (t := .boolean) (t' := .boolean) (by decide) (by decide)))
          have F_a_lastArrival := F_a_lastArrival.other W134 (Or.inr (slot_ne (Or.inl (hw _ (List.mem_of_getElem? (i := 29) rfl))) (Or.inl (hw _ (List.mem_of_getElem? (i := 31) rfl))) (by decide) (t := .long) (t' := .boolean) (by decide) (by decide)))
          have F_a_lastCounted := F_a_lastCounted.other W134 (Or.inr (slot_ne (Or.inl (hw _ (List.mem_of_getElem? (i := 18) rfl))) (Or.inl (hw _ (List.mem_of_getElem? (i := 31) rfl))) (by decide) (t := .boolean) (t' := .boolean) (by decide) (by decide)))
          have F_a_received := F_a_received.other W134 (Or.inr (slot_ne (Or.inl (hw _ (List.mem_of_getElem? (i := 20) rfl))) (Or.inl (hw _ (List.mem_of_getElem? (i := 31) rfl))) (by decide) (t := .long) (t' := .boolean) (by decide) (by decide)))
          have F_a_arrived := F_a_arrived.other W134 (Or.inr (slot_ne (Or.inl (hw _ (List.mem_of_getElem? (i := 33) rfl))) (Or.inl (hw _ (List.mem_of_getElem? (i := 31) rfl))) (by decide) (t := .long) (t' := .boolean) (by decide) (by decide)))
          have K := K.wr W134 (Or.inl (List.mem_of_getElem? (i := 0) rfl))
          have Z134 : n0 ≤ h134.size := Nat.le_trans Z131 (Keep.of_wr W134).1
          have N134 := Fr.snoc X134 N131 g_a
          have pre135 : ∀ t, Steps p.tables e below (T134.setTop (mkF m 104 #[.val (.ref a), .val (.long q1), .second, .val (.int p1), .val (.int (0 : Int32))] [])) t → Steps p.tables e below (s₁.setTop (entryFrame m #[(.ref a), (.long q1), (.int p1)] 5)) t := fun t k => pre133 t (st134 t k)
          have pre136 : ∀ t, Steps p.tables e below (T134.setTop (mkF m 105 #[.val (.ref a), .val (.long q1), .second, .val (.int p1), .val (.int (0 : Int32))] [(.int p1)])) t → Steps p.tables e below (s₁.setTop (entryFrame m #[(.ref a), (.long q1), (.int p1)] 5)) t := fun t k => pre135 t (by
            show Steps p.tables e below (T134.setTop (mkF m 104 #[.val (.ref a), .val (.long q1), .second, .val (.int p1), .val (.int (0 : Int32))] [])) _
            refine XS.iloadN X134.here hx rfl (hb hby d4_104) rfl ?_
            show Steps p.tables e below (T134.setTop (mkF m 105 #[.val (.ref a), .val (.long q1), .second, .val (.int p1), .val (.int (0 : Int32))] [(.int p1)])) _
            exact k)
          by_cases hc105_137 : p1 = (0 : Int32)
          · have pre138 : ∀ t, Steps p.tables e below (T134.setTop (mkF m 118 #[.val (.ref a), .val (.long q1), .second, .val (.int p1), .val (.int (0 : Int32))] [])) t → Steps p.tables e below (s₁.setTop (entryFrame m #[(.ref a), (.long q1), (.int p1)] 5)) t := fun t k => pre136 t (by
              show Steps p.tables e below (T134.setTop (mkF m 105 #[.val (.ref a), .val (.long q1), .second, .val (.int p1), .val (.int (0 : Int32))] [(.int p1)])) _
              refine XS.ifYes X134.here hx rfl (pc0 := 105) (pc' := 118) rfl (hb hby d4_105) rfl ((if0 _ _).trans (teq hc105_137).1) (by decide) (by decide) ?_
              show Steps p.tables e below (T134.setTop (mkF m 118 #[.val (.ref a), .val (.long q1), .second, .val (.int p1), .val (.int (0 : Int32))] [])) _
              exact k)
            obtain ⟨fs, hr, hrun, hended, hW, hsame⟩ := X134.leave (v := none) (fun _ => rfl) hlk
            refine ⟨_, _, pre138 _ ?_, hrun, hended, _, _, rfl, ?_, ⟨_, rfl⟩, hW, hsame.mono (by decide) (by decide)⟩
            · show Steps p.tables e below (T134.setTop (mkF m 118 #[.val (.ref a), .val (.long q1), .second, .val (.int p1), .val (.int (0 : Int32))] [])) _
              exact X134.returnOut hx Bd.returns (hb hby d4_118) hr
            · show Q4 Z a q1 p1 w_framePicos w_any w_lastArrival w_lastLost w_lastCounted w_received w_arrived h0 n0 _ T134.heap _
              rw [e134]
              exact ⟨rfl, N134, K, F_a_framePicos, F_a_any, F_a_lastArrival, (by simp only [own_lost, own_rec, own_arr, if_neg hc7_4, if_neg hc48_36, if_neg hc63_92, if_pos hc70_117, if_pos hc105_137]; exact F_a_lastLost), F_a_lastCounted, (by simp only [own_lost, own_rec, own_arr, if_neg hc7_4, if_neg hc48_36, if_neg hc63_92, if_pos hc70_117, if_pos hc105_137]; exact F_a_received), (by simp only [own_lost, own_rec, own_arr, if_neg hc7_4, if_neg hc48_36, if_neg hc63_92, if_pos hc70_117, if_pos hc105_137]; exact F_a_arrived)⟩
          · have pre139 : ∀ t, Steps p.tables e below (T134.setTop (mkF m 110 #[.val (.ref a), .val (.long q1), .second, .val (.int p1), .val (.int (0 : Int32))] [(.ref a), (.ref a)])) t → Steps p.tables e below (s₁.setTop (entryFrame m #[(.ref a), (.long q1), (.int p1)] 5)) t := fun t k => pre136 t (by
              show Steps p.tables e below (T134.setTop (mkF m 105 #[.val (.ref a), .val (.long q1), .second, .val (.int p1), .val (.int (0 : Int32))] [(.int p1)])) _
              refine XS.ifNo X134.here hx rfl (hb hby d4_105) rfl ((if0 _ _).trans (feq hc105_137).1) ?_
              show Steps p.tables e below (T134.setTop (mkF m 108 #[.val (.ref a), .val (.long q1), .second, .val (.int p1), .val (.int (0 : Int32))] [])) _
              refine XS.aloadN X134.here hx rfl (hb hby d4_108) rfl rfl ?_
              show Steps p.tables e below (T134.setTop (mkF m 109 #[.val (.ref a), .val (.long q1), .second, .val (.int p1), .val (.int (0 : Int32))] [(.ref a)])) _
              refine XS.dup X134.here hx rfl (hb hby d4_109) rfl rfl ?_
              show Steps p.tables e below (T134.setTop (mkF m 110 #[.val (.ref a), .val (.long q1), .second, .val (.int p1), .val (.int (0 : Int32))] [(.ref a), (.ref a)])) _
              exact k)
            obtain ⟨T140, X140, e140, st140⟩ := getF X134 hx hZ hown (host := "") (Or.inl (hw _ (List.mem_of_getElem? (i := 32) rfl))) Via.refl e134 F_a_arrived (g := (mkF m 110 #[.val (.ref a), .val (.long q1), .second, .val (.int p1), .val (.int (0 : Int32))] [(.ref a), (.ref a)])) rfl rfl (hb hby d4_110)
            have pre141 : ∀ t, Steps p.tables e below (T140.setTop (mkF m 113 #[.val (.ref a), .val (.long q1), .second, .val (.int p1), .val (.int (0 : Int32))] [(.long w_arrived), (.ref a)])) t → Steps p.tables e below (s₁.setTop (entryFrame m #[(.ref a), (.long q1), (.int p1)] 5)) t := fun t k => pre139 t (st140 t k)
            have pre142 : ∀ t, Steps p.tables e below (T140.setTop (mkF m 115 #[.val (.ref a), .val (.long q1), .second, .val (.int p1), .val (.int (0 : Int32))] [(.long (w_arrived + (1 : Int64))), (.ref a)])) t → Steps p.tables e below (s₁.setTop (entryFrame m #[(.ref a), (.long q1), (.int p1)] 5)) t := fun t k => pre141 t (by
              show Steps p.tables e below (T140.setTop (mkF m 113 #[.val (.ref a), .val (.long q1), .second, .val (.int p1), .val (.int (0 : Int32))] [(.long w_arrived), (.ref a)])) _
              refine XS.lconst X140.here hx rfl (hb hby d4_113) ?_
              show Steps p.tables e below (T140.setTop (mkF m 114 #[.val (.ref a), .val (.long q1), .second, .val (.int p1), .val (.int (0 : Int32))] [(.long (1 : Int64)), (.long w_arrived), (.ref a)])) _
              refine XS.ladd X140.here hx rfl (hb hby d4_114) rfl ?_
              show Steps p.tables e below (T140.setTop (mkF m 115 #[.val (.ref a), .val (.long q1), .second, .val (.int p1), .val (.int (0 : Int32))] [(.long (w_arrived + (1 : Int64))), (.ref a)])) _
              exact k)
            obtain ⟨T143, h143, X143, e143, W143, st143⟩ := putF X140 hx hZ hown (host := "") (Or.inl (hw _ (List.mem_of_getElem? (i := 32) rfl))) Via.refl e140 F_a_arrived E_a (Or.inl (hw _ (List.mem_of_getElem? (i := 33) rfl))) (hw _ (List.mem_of_getElem? (i := 2) rfl)) (ty := .long) (by decide) rfl rfl (g := (mkF m 115 #[.val (.ref a), .val (.long q1), .second, .val (.int p1), .val (.int (0 : Int32))] [(.long (w_arrived + (1 : Int64))), (.ref a)])) rfl rfl (hb hby d4_115)
            have F_a_arrived : Fld Z h143 a "com/example/squitterlab/squitterlab/sim/OverlapCounter" "arrived" "J" (.long (w_arrived + (1 : Int64))) := F_a_arrived.same W143
            have E_a := E_a.wr W143
            have F_a_framePicos := F_a_framePicos.other W143 (Or.inr (slot_ne (Or.inr (hw _ (List.mem_of_getElem? (i := 11) rfl))) (Or.inl (hw _ (List.mem_of_getElem? (i := 33) rfl))) (by decide) (t := .long) (t' := .long) (by decide) (by decide)))
            have F_a_any := F_a_any.other W143 (Or.inr (slot_ne (Or.inl (hw _ (List.mem_of_getElem? (i := 27) rfl))) (Or.inl (hw _ (List.mem_of_getElem? (i := 33) rfl))) (by decide) (t := .boolean) (t' := .long) (by decide) (by decide)))
            have F_a_lastArrival := F_a_lastArrival.other W143 (Or.inr (slot_ne (Or.inl (hw _ (List.mem_of_getElem? (i := 29) rfl))) (Or.inl (hw _ (List.mem_of_getElem? (i := 33) rfl))) (by decide) (t := .long) (t' := .long) (by decide) (by decide)))
            have F_a_lastLost := F_a_lastLost.other W143 (Or.inr (slot_ne (Or.inl (hw _ (List.mem_of_getElem? (i := 31) rfl))) (Or.inl (hw _ (List.mem_of_getElem? (i := 33) rfl))) (by decide) (t := .boolean) (t' := .long) (by decide) (by decide)))
            have F_a_lastCounted := F_a_lastCounted.other W143 (Or.inr (slot_ne (Or.inl (hw _ (List.mem_of_getElem? (i := 18) rfl))) (Or.inl (hw _ (List.mem_of_getElem? (i := 33) rfl))) (by decide) (t := .boolean) (t' := .long) (by decide) (by decide)))
            have F_a_received := F_a_received.other W143 (Or.inr (slot_ne (Or.inl (hw _ (List.mem_of_getElem? (i := 20) rfl))) (Or.inl (hw _ (List.mem_of_getElem? (i := 33) rfl))) (by decide) (t := .long) (t' := .long) (by decide) (by decide)))
            have K := K.wr W143 (Or.inl (List.mem_of_getElem? (i := 0) rfl))
            have Z143 : n0 ≤ h143.size := Nat.le_trans Z134 (Keep.of_wr W143).1
            have N143 := Fr.snoc X143 N134 g_a
            have pre144 : ∀ t, Steps p.tables e below (T143.setTop (mkF m 118 #[.val (.ref a), .val (.long q1), .second, .val (.int p1), .val (.int (0 : Int32))] [])) t → Steps p.tables e below (s₁.setTop (entryFrame m #[(.ref a), (.long q1), (.int p1)] 5)) t := fun t k => pre142 t (st143 t k)
            obtain ⟨fs, hr, hrun, hended, hW, hsame⟩ := X143.leave (v := none) (fun _ => rfl) hlk
            refine ⟨_, _, pre144 _ ?_, hrun, hended, _, _, rfl, ?_, ⟨_, rfl⟩, hW, hsame.mono (by decide) (by decide)⟩
            · show Steps p.tables e below (T143.setTop (mkF m 118 #[.val (.ref a), .val (.long q1), .second, .val (.int p1), .val (.int (0 : Int32))] [])) _
              exact X143.returnOut hx Bd.returns (hb hby d4_118) hr
            · show Q4 Z a q1 p1 w_framePicos w_any w_lastArrival w_lastLost w_lastCounted w_received w_arrived h0 n0 _ T143.heap _
              rw [e143]
              exact ⟨rfl, N143, K, F_a_framePicos, F_a_any, F_a_lastArrival, (by simp only [own_lost, own_rec, own_arr, if_neg hc7_4, if_neg hc48_36, if_neg hc63_92, if_pos hc70_117, if_neg hc105_137]; exact F_a_lastLost), F_a_lastCounted, (by simp only [own_lost, own_rec, own_arr, if_neg hc7_4, if_neg hc48_36, if_neg hc63_92, if_pos hc70_117, if_neg hc105_137]; exact F_a_received), (by simp only [own_lost, own_rec, own_arr, if_neg hc7_4, if_neg hc48_36, if_neg hc63_92, if_pos hc70_117, if_neg hc105_137]; exact F_a_arrived)⟩
        · have pre145 : ∀ t, Steps p.tables e below (T115.setTop (mkF m 85 #[.val (.ref a), .val (.long q1), .second, .val (.int p1), .val (.int (0 : Int32))] [(.int (1 : Int32)), (.ref a)])) t → Steps p.tables e below (s₁.setTop (entryFrame m #[(.ref a), (.long q1), (.int p1)] 5)) t := fun t k => pre116 t (by
            show Steps p.tables e below (T115.setTop (mkF m 70 #[.val (.ref a), .val (.long q1), .second, .val (.int p1), .val (.int (0 : Int32))] [(.int w_lastLost)])) _
            refine XS.ifYes X115.here hx rfl (pc0 := 70) (pc' := 83) rfl (hb hby d4_70) rfl ((if0 _ _).trans (feq hc70_117).2) (by decide) (by decide) ?_
            show Steps p.tables e below (T115.setTop (mkF m 83 #[.val (.ref a), .val (.long q1), .second, .val (.int p1), .val (.int (0 : Int32))] [])) _
            refine XS.aloadN X115.here hx rfl (hb hby d4_83) rfl rfl ?_
            show Steps p.tables e below (T115.setTop (mkF m 84 #[.val (.ref a), .val (.long q1), .second, .val (.int p1), .val (.int (0 : Int32))] [(.ref a)])) _
            refine XS.iconst X115.here hx rfl (hb hby d4_84) ?_
            show Steps p.tables e below (T115.setTop (mkF m 85 #[.val (.ref a), .val (.long q1), .second, .val (.int p1), .val (.int (0 : Int32))] [(.int (1 : Int32)), (.ref a)])) _
            exact k)
          obtain ⟨T146, h146, X146, e146, W146, st146⟩ := putFN X115 hx hZ hown (hw _ (List.mem_of_getElem? (i := 26) rfl)) Via.refl e115 F_a_any E_a (Or.inl (hw _ (List.mem_of_getElem? (i := 27) rfl))) (hw _ (List.mem_of_getElem? (i := 2) rfl)) (ty := .boolean) (v' := (.int (1 : Int32))) (by decide) rfl (by decide) (g := (mkF m 85 #[.val (.ref a), .val (.long q1), .second, .val (.int p1), .val (.int (0 : Int32))] [(.int (1 : Int32)), (.ref a)])) rfl rfl (hb hby d4_85)
          have F_a_any : Fld Z h146 a "com/example/squitterlab/squitterlab/sim/OverlapCounter" "any" "Z" (.int (1 : Int32)) := F_a_any.same W146
          have E_a := E_a.wr W146
          have F_a_framePicos := F_a_framePicos.other W146 (Or.inr (slot_ne (Or.inr (hw _ (List.mem_of_getElem? (i := 11) rfl))) (Or.inl (hw _ (List.mem_of_getElem? (i := 27) rfl))) (by decide) (t := .long) (t' := .boolean) (by decide) (by decide)))
          have F_a_lastArrival := F_a_lastArrival.other W146 (Or.inr (slot_ne (Or.inl (hw _ (List.mem_of_getElem? (i := 29) rfl))) (Or.inl (hw _ (List.mem_of_getElem? (i := 27) rfl))) (by decide) (t := .long) (t' := .boolean) (by decide) (by decide)))
          have F_a_lastLost := F_a_lastLost.other W146 (Or.inr (slot_ne (Or.inl (hw _ (List.mem_of_getElem? (i := 31) rfl))) (Or.inl (hw _ (List.mem_of_getElem? (i := 27) rfl))) (by decide) (t := .boolean) (t' := .boolean) (by decide) (by decide)))
          have F_a_lastCounted := F_a_lastCounted.other W146 (Or.inr (slot_ne (Or.inl (hw _ (List.mem_of_getElem? (i := 18) rfl))) (Or.inl (hw _ (List.mem_of_getElem? (i := 27) rfl))) (by decide) (t := .boolean) (t' := .boolean) (by decide) (by decide)))
          have F_a_received := F_a_received.other W146 (Or.inr (slot_ne (Or.inl (hw _ (List.mem_of_getElem? (i := 20) rfl))) (Or.inl (hw _ (List.mem_of_getElem? (i := 27) rfl))) (by decide) (t := .long) (t' := .boolean) (by decide) (by decide)))
          have F_a_arrived := F_a_arrived.other W146 (Or.inr (slot_ne (Or.inl (hw _ (List.mem_of_getElem? (i := 33) rfl))) (Or.inl (hw _ (List.mem_of_getElem? (i := 27) rfl))) (by decide) (t := .long) (t' := .boolean) (by decide) (by decide)))
          have K := K.wr W146 (Or.inl (List.mem_of_getElem? (i := 0) rfl))
          have Z146 : n0 ≤ h146.size := Nat.le_trans Z0 (Keep.of_wr W146).1
          have N146 := Fr.snoc X146 N0 g_a
          have pre147 : ∀ t, Steps p.tables e below (T146.setTop (mkF m 88 #[.val (.ref a), .val (.long q1), .second, .val (.int p1), .val (.int (0 : Int32))] [])) t → Steps p.tables e below (s₁.setTop (entryFrame m #[(.ref a), (.long q1), (.int p1)] 5)) t := fun t k => pre145 t (st146 t k)
          have pre148 : ∀ t, Steps p.tables e below (T146.setTop (mkF m 90 #[.val (.ref a), .val (.long q1), .second, .val (.int p1), .val (.int (0 : Int32))] [(.long q1), (.ref a)])) t → Steps p.tables e below (s₁.setTop (entryFrame m #[(.ref a), (.long q1), (.int p1)] 5)) t := fun t k => pre147 t (by
            show Steps p.tables e below (T146.setTop (mkF m 88 #[.val (.ref a), .val (.long q1), .second, .val (.int p1), .val (.int (0 : Int32))] [])) _
            refine XS.aloadN X146.here hx rfl (hb hby d4_88) rfl rfl ?_
            show Steps p.tables e below (T146.setTop (mkF m 89 #[.val (.ref a), .val (.long q1), .second, .val (.int p1), .val (.int (0 : Int32))] [(.ref a)])) _
            refine XS.lloadN X146.here hx rfl (hb hby d4_89) rfl ?_
            show Steps p.tables e below (T146.setTop (mkF m 90 #[.val (.ref a), .val (.long q1), .second, .val (.int p1), .val (.int (0 : Int32))] [(.long q1), (.ref a)])) _
            exact k)
          obtain ⟨T149, h149, X149, e149, W149, st149⟩ := putF X146 hx hZ hown (host := "") (Or.inl (hw _ (List.mem_of_getElem? (i := 28) rfl))) Via.refl e146 F_a_lastArrival E_a (Or.inl (hw _ (List.mem_of_getElem? (i := 29) rfl))) (hw _ (List.mem_of_getElem? (i := 2) rfl)) (ty := .long) (by decide) rfl rfl (g := (mkF m 90 #[.val (.ref a), .val (.long q1), .second, .val (.int p1), .val (.int (0 : Int32))] [(.long q1), (.ref a)])) rfl rfl (hb hby d4_90)
          have F_a_lastArrival : Fld Z h149 a "com/example/squitterlab/squitterlab/sim/OverlapCounter" "lastArrival" "J" (.long q1) := F_a_lastArrival.same W149
          have E_a := E_a.wr W149
          have F_a_framePicos := F_a_framePicos.other W149 (Or.inr (slot_ne (Or.inr (hw _ (List.mem_of_getElem? (i := 11) rfl))) (Or.inl (hw _ (List.mem_of_getElem? (i := 29) rfl))) (by decide) (t := .long) (t' := .long) (by decide) (by decide)))
          have F_a_any := F_a_any.other W149 (Or.inr (slot_ne (Or.inl (hw _ (List.mem_of_getElem? (i := 27) rfl))) (Or.inl (hw _ (List.mem_of_getElem? (i := 29) rfl))) (by decide) (t := .boolean) (t' := .long) (by decide) (by decide)))
          have F_a_lastLost := F_a_lastLost.other W149 (Or.inr (slot_ne (Or.inl (hw _ (List.mem_of_getElem? (i := 31) rfl))) (Or.inl (hw _ (List.mem_of_getElem? (i := 29) rfl))) (by decide) (t := .boolean) (t' := .long) (by decide) (by decide)))
          have F_a_lastCounted := F_a_lastCounted.other W149 (Or.inr (slot_ne (Or.inl (hw _ (List.mem_of_getElem? (i := 18) rfl))) (Or.inl (hw _ (List.mem_of_getElem? (i := 29) rfl))) (by decide) (t := .boolean) (t' := .long) (by decide) (by decide)))
          have F_a_received := F_a_received.other W149 (Or.inr (slot_ne (Or.inl (hw _ (List.mem_of_getElem? (i := 20) rfl))) (Or.inl (hw _ (List.mem_of_getElem? (i := 29) rfl))) (by decide) (t := .long) (t' := .long) (by decide) (by decide)))
          have F_a_arrived := F_a_arrived.other W149 (Or.inr (slot_ne (Or.inl (hw _ (List.mem_of_getElem? (i := 33) rfl))) (Or.inl (hw _ (List.mem_of_getElem? (i := 29) rfl))) (by decide) (t := .long) (t' := .long) (by decide) (by decide)))
          have K := K.wr W149 (Or.inl (List.mem_of_getElem? (i := 0) rfl))
          have Z149 : n0 ≤ h149.size := Nat.le_trans Z146 (Keep.of_wr W149).1
          have N149 := Fr.snoc X149 N146 g_a
          have pre150 : ∀ t, Steps p.tables e below (T149.setTop (mkF m 93 #[.val (.ref a), .val (.long q1), .second, .val (.int p1), .val (.int (0 : Int32))] [])) t → Steps p.tables e below (s₁.setTop (entryFrame m #[(.ref a), (.long q1), (.int p1)] 5)) t := fun t k => pre148 t (st149 t k)
          have pre151 : ∀ t, Steps p.tables e below (T149.setTop (mkF m 95 #[.val (.ref a), .val (.long q1), .second, .val (.int p1), .val (.int (0 : Int32))] [(.int p1), (.ref a)])) t → Steps p.tables e below (s₁.setTop (entryFrame m #[(.ref a), (.long q1), (.int p1)] 5)) t := fun t k => pre150 t (by
            show Steps p.tables e below (T149.setTop (mkF m 93 #[.val (.ref a), .val (.long q1), .second, .val (.int p1), .val (.int (0 : Int32))] [])) _
            refine XS.aloadN X149.here hx rfl (hb hby d4_93) rfl rfl ?_
            show Steps p.tables e below (T149.setTop (mkF m 94 #[.val (.ref a), .val (.long q1), .second, .val (.int p1), .val (.int (0 : Int32))] [(.ref a)])) _
            refine XS.iloadN X149.here hx rfl (hb hby d4_94) rfl ?_
            show Steps p.tables e below (T149.setTop (mkF m 95 #[.val (.ref a), .val (.long q1), .second, .val (.int p1), .val (.int (0 : Int32))] [(.int p1), (.ref a)])) _
            exact k)
          obtain ⟨T152, h152, X152, e152, W152, st152⟩ := putFN X149 hx hZ hown (hw _ (List.mem_of_getElem? (i := 17) rfl)) Via.refl e149 F_a_lastCounted E_a (Or.inl (hw _ (List.mem_of_getElem? (i := 18) rfl))) (hw _ (List.mem_of_getElem? (i := 2) rfl)) (ty := .boolean) (v' := (.int (nar .boolean p1))) (by decide) rfl (fits_nar_bool _) (g := (mkF m 95 #[.val (.ref a), .val (.long q1), .second, .val (.int p1), .val (.int (0 : Int32))] [(.int p1), (.ref a)])) rfl rfl (hb hby d4_95)
          have F_a_lastCounted : Fld Z h152 a "com/example/squitterlab/squitterlab/sim/OverlapCounter" "lastCounted" "Z" (.int (nar .boolean p1)) := F_a_lastCounted.same W152
          have E_a := E_a.wr W152
          have F_a_framePicos := F_a_framePicos.other W152 (Or.inr (slot_ne (Or.inr (hw _ (List.mem_of_getElem? (i := 11) rfl))) (Or.inl (hw _ (List.mem_of_getElem? (i := 18) rfl))) (by decide) (t := .long) (t' := .boolean) (by decide) (by decide)))
          have F_a_any := F_a_any.other W152 (Or.inr (slot_ne (Or.inl (hw _ (List.mem_of_getElem? (i := 27) rfl))) (Or.inl (hw _ (List.mem_of_getElem? (i := 18) rfl))) (by decide) (t := .boolean) (t' := .boolean) (by decide) (by decide)))
          have F_a_lastArrival := F_a_lastArrival.other W152 (Or.inr (slot_ne (Or.inl (hw _ (List.mem_of_getElem? (i := 29) rfl))) (Or.inl (hw _ (List.mem_of_getElem? (i := 18) rfl))) (by decide) (t := .long) (t' := .boolean) (by decide) (by decide)))
          have F_a_lastLost := F_a_lastLost.other W152 (Or.inr (slot_ne (Or.inl (hw _ (List.mem_of_getElem? (i := 31) rfl))) (Or.inl (hw _ (List.mem_of_getElem? (i := 18) rfl))) (by decide) (t := .boolean) (t' := .boolean) (by decide) (by decide)))
          have F_a_received := F_a_received.other W152 (Or.inr (slot_ne (Or.inl (hw _ (List.mem_of_getElem? (i := 20) rfl))) (Or.inl (hw _ (List.mem_of_getElem? (i := 18) rfl))) (by decide) (t := .long) (t' := .boolean) (by decide) (by decide)))
          have F_a_arrived := F_a_arrived.other W152 (Or.inr (slot_ne (Or.inl (hw _ (List.mem_of_getElem? (i := 33) rfl))) (Or.inl (hw _ (List.mem_of_getElem? (i := 18) rfl))) (by decide) (t := .long) (t' := .boolean) (by decide) (by decide)))
          have K := K.wr W152 (Or.inl (List.mem_of_getElem? (i := 0) rfl))
          have Z152 : n0 ≤ h152.size := Nat.le_trans Z149 (Keep.of_wr W152).1
          have N152 := Fr.snoc X152 N149 g_a
          have pre153 : ∀ t, Steps p.tables e below (T152.setTop (mkF m 98 #[.val (.ref a), .val (.long q1), .second, .val (.int p1), .val (.int (0 : Int32))] [])) t → Steps p.tables e below (s₁.setTop (entryFrame m #[(.ref a), (.long q1), (.int p1)] 5)) t := fun t k => pre151 t (st152 t k)
          have pre154 : ∀ t, Steps p.tables e below (T152.setTop (mkF m 101 #[.val (.ref a), .val (.long q1), .second, .val (.int p1), .val (.int (0 : Int32))] [(.int (0 : Int32)), (.ref a)])) t → Steps p.tables e below (s₁.setTop (entryFrame m #[(.ref a), (.long q1), (.int p1)] 5)) t := fun t k => pre153 t (by
            show Steps p.tables e below (T152.setTop (mkF m 98 #[.val (.ref a), .val (.long q1), .second, .val (.int p1), .val (.int (0 : Int32))] [])) _
            refine XS.aloadN X152.here hx rfl (hb hby d4_98) rfl rfl ?_
            show Steps p.tables e below (T152.setTop (mkF m 99 #[.val (.ref a), .val (.long q1), .second, .val (.int p1), .val (.int (0 : Int32))] [(.ref a)])) _
            refine XS.iload X152.here hx rfl (hb hby d4_99) rfl ?_
            show Steps p.tables e below (T152.setTop (mkF m 101 #[.val (.ref a), .val (.long q1), .second, .val (.int p1), .val (.int (0 : Int32))] [(.int (0 : Int32)), (.ref a)])) _
            exact k)
          obtain ⟨T155, h155, X155, e155, W155, st155⟩ := putFN X152 hx hZ hown (hw _ (List.mem_of_getElem? (i := 30) rfl)) Via.refl e152 F_a_lastLost E_a (Or.inl (hw _ (List.mem_of_getElem? (i := 31) rfl))) (hw _ (List.mem_of_getElem? (i := 2) rfl)) (ty := .boolean) (v' := (.int (0 : Int32))) (by decide) rfl (by decide) (g := (mkF m 101 #[.val (.ref a), .val (.long q1), .second, .val (.int p1), .val (.int (0 : Int32))] [(.int (0 : Int32)), (.ref a)])) rfl rfl (hb hby d4_101)
          have F_a_lastLost : Fld Z h155 a "com/example/squitterlab/squitterlab/sim/OverlapCounter" "lastLost" "Z" (.int (0 : Int32)) := F_a_lastLost.same W155
          have E_a := E_a.wr W155
          have F_a_framePicos := F_a_framePicos.other W155 (Or.inr (slot_ne (Or.inr (hw _ (List.mem_of_getElem? (i := 11) rfl))) (Or.inl (hw _ (List.mem_of_getElem? (i := 31) rfl))) (by decide) (t := .long) (t' := .boolean) (by decide) (by decide)))
          have F_a_any := F_a_any.other W155 (Or.inr (slot_ne (Or.inl (hw _ (List.mem_of_getElem? (i := 27) rfl))) (Or.inl (hw _ (List.mem_of_getElem? (i := 31) rfl))) (by decide) (t := .boolean) (t' := .boolean) (by decide) (by decide)))
          have F_a_lastArrival := F_a_lastArrival.other W155 (Or.inr (slot_ne (Or.inl (hw _ (List.mem_of_getElem? (i := 29) rfl))) (Or.inl (hw _ (List.mem_of_getElem? (i := 31) rfl))) (by decide) (t := .long) (t' := .boolean) (by decide) (by decide)))
          have F_a_lastCounted := F_a_lastCounted.other W155 (Or.inr (slot_ne (Or.inl (hw _ (List.mem_of_getElem? (i := 18) rfl))) (Or.inl (hw _ (List.mem_of_getElem? (i := 31) rfl))) (by decide) (t := .boolean) (t' := .boolean) (by decide) (by decide)))
          have F_a_received := F_a_received.other W155 (Or.inr (slot_ne (Or.inl (hw _ (List.mem_of_getElem? (i := 20) rfl))) (Or.inl (hw _ (List.mem_of_getElem? (i := 31) rfl))) (by decide) (t := .long) (t' := .boolean) (by decide) (by decide)))
          have F_a_arrived := F_a_arrived.other W155 (Or.inr (slot_ne (Or.inl (hw _ (List.mem_of_getElem? (i := 33) rfl))) (Or.inl (hw _ (List.mem_of_getElem? (i := 31) rfl))) (by decide) (t := .long) (t' := .boolean) (by decide) (by decide)))
          have K := K.wr W155 (Or.inl (List.mem_of_getElem? (i := 0) rfl))
          have Z155 : n0 ≤ h155.size := Nat.le_trans Z152 (Keep.of_wr W155).1
          have N155 := Fr.snoc X155 N152 g_a
          have pre156 : ∀ t, Steps p.tables e below (T155.setTop (mkF m 104 #[.val (.ref a), .val (.long q1), .second, .val (.int p1), .val (.int (0 : Int32))] [])) t → Steps p.tables e below (s₁.setTop (entryFrame m #[(.ref a), (.long q1), (.int p1)] 5)) t := fun t k => pre154 t (st155 t k)
          have pre157 : ∀ t, Steps p.tables e below (T155.setTop (mkF m 105 #[.val (.ref a), .val (.long q1), .second, .val (.int p1), .val (.int (0 : Int32))] [(.int p1)])) t → Steps p.tables e below (s₁.setTop (entryFrame m #[(.ref a), (.long q1), (.int p1)] 5)) t := fun t k => pre156 t (by
            show Steps p.tables e below (T155.setTop (mkF m 104 #[.val (.ref a), .val (.long q1), .second, .val (.int p1), .val (.int (0 : Int32))] [])) _
            refine XS.iloadN X155.here hx rfl (hb hby d4_104) rfl ?_
            show Steps p.tables e below (T155.setTop (mkF m 105 #[.val (.ref a), .val (.long q1), .second, .val (.int p1), .val (.int (0 : Int32))] [(.int p1)])) _
            exact k)
          by_cases hc105_158 : p1 = (0 : Int32)
          · have pre159 : ∀ t, Steps p.tables e below (T155.setTop (mkF m 118 #[.val (.ref a), .val (.long q1), .second, .val (.int p1), .val (.int (0 : Int32))] [])) t → Steps p.tables e below (s₁.setTop (entryFrame m #[(.ref a), (.long q1), (.int p1)] 5)) t := fun t k => pre157 t (by
              show Steps p.tables e below (T155.setTop (mkF m 105 #[.val (.ref a), .val (.long q1), .second, .val (.int p1), .val (.int (0 : Int32))] [(.int p1)])) _
              refine XS.ifYes X155.here hx rfl (pc0 := 105) (pc' := 118) rfl (hb hby d4_105) rfl ((if0 _ _).trans (teq hc105_158).1) (by decide) (by decide) ?_
              show Steps p.tables e below (T155.setTop (mkF m 118 #[.val (.ref a), .val (.long q1), .second, .val (.int p1), .val (.int (0 : Int32))] [])) _
              exact k)
            obtain ⟨fs, hr, hrun, hended, hW, hsame⟩ := X155.leave (v := none) (fun _ => rfl) hlk
            refine ⟨_, _, pre159 _ ?_, hrun, hended, _, _, rfl, ?_, ⟨_, rfl⟩, hW, hsame.mono (by decide) (by decide)⟩
            · show Steps p.tables e below (T155.setTop (mkF m 118 #[.val (.ref a), .val (.long q1), .second, .val (.int p1), .val (.int (0 : Int32))] [])) _
              exact X155.returnOut hx Bd.returns (hb hby d4_118) hr
            · show Q4 Z a q1 p1 w_framePicos w_any w_lastArrival w_lastLost w_lastCounted w_received w_arrived h0 n0 _ T155.heap _
              rw [e155]
              exact ⟨rfl, N155, K, F_a_framePicos, F_a_any, F_a_lastArrival, (by simp only [own_lost, own_rec, own_arr, if_neg hc7_4, if_neg hc48_36, if_neg hc63_92, if_neg hc70_117, if_pos hc105_158]; exact F_a_lastLost), F_a_lastCounted, (by simp only [own_lost, own_rec, own_arr, if_neg hc7_4, if_neg hc48_36, if_neg hc63_92, if_neg hc70_117, if_pos hc105_158]; exact F_a_received), (by simp only [own_lost, own_rec, own_arr, if_neg hc7_4, if_neg hc48_36, if_neg hc63_92, if_neg hc70_117, if_pos hc105_158]; exact F_a_arrived)⟩
          · have pre160 : ∀ t, Steps p.tables e below (T155.setTop (mkF m 110 #[.val (.ref a), .val (.long q1), .second, .val (.int p1), .val (.int (0 : Int32))] [(.ref a), (.ref a)])) t → Steps p.tables e below (s₁.setTop (entryFrame m #[(.ref a), (.long q1), (.int p1)] 5)) t := fun t k => pre157 t (by
              show Steps p.tables e below (T155.setTop (mkF m 105 #[.val (.ref a), .val (.long q1), .second, .val (.int p1), .val (.int (0 : Int32))] [(.int p1)])) _
              refine XS.ifNo X155.here hx rfl (hb hby d4_105) rfl ((if0 _ _).trans (feq hc105_158).1) ?_
              show Steps p.tables e below (T155.setTop (mkF m 108 #[.val (.ref a), .val (.long q1), .second, .val (.int p1), .val (.int (0 : Int32))] [])) _
              refine XS.aloadN X155.here hx rfl (hb hby d4_108) rfl rfl ?_
              show Steps p.tables e below (T155.setTop (mkF m 109 #[.val (.ref a), .val (.long q1), .second, .val (.int p1), .val (.int (0 : Int32))] [(.ref a)])) _
              refine XS.dup X155.here hx rfl (hb hby d4_109) rfl rfl ?_
              show Steps p.tables e below (T155.setTop (mkF m 110 #[.val (.ref a), .val (.long q1), .second, .val (.int p1), .val (.int (0 : Int32))] [(.ref a), (.ref a)])) _
              exact k)
            obtain ⟨T161, X161, e161, st161⟩ := getF X155 hx hZ hown (host := "") (Or.inl (hw _ (List.mem_of_getElem? (i := 32) rfl))) Via.refl e155 F_a_arrived (g := (mkF m 110 #[.val (.ref a), .val (.long q1), .second, .val (.int p1), .val (.int (0 : Int32))] [(.ref a), (.ref a)])) rfl rfl (hb hby d4_110)
            have pre162 : ∀ t, Steps p.tables e below (T161.setTop (mkF m 113 #[.val (.ref a), .val (.long q1), .second, .val (.int p1), .val (.int (0 : Int32))] [(.long w_arrived), (.ref a)])) t → Steps p.tables e below (s₁.setTop (entryFrame m #[(.ref a), (.long q1), (.int p1)] 5)) t := fun t k => pre160 t (st161 t k)
            have pre163 : ∀ t, Steps p.tables e below (T161.setTop (mkF m 115 #[.val (.ref a), .val (.long q1), .second, .val (.int p1), .val (.int (0 : Int32))] [(.long (w_arrived + (1 : Int64))), (.ref a)])) t → Steps p.tables e below (s₁.setTop (entryFrame m #[(.ref a), (.long q1), (.int p1)] 5)) t := fun t k => pre162 t (by
              show Steps p.tables e below (T161.setTop (mkF m 113 #[.val (.ref a), .val (.long q1), .second, .val (.int p1), .val (.int (0 : Int32))] [(.long w_arrived), (.ref a)])) _
              refine XS.lconst X161.here hx rfl (hb hby d4_113) ?_
              show Steps p.tables e below (T161.setTop (mkF m 114 #[.val (.ref a), .val (.long q1), .second, .val (.int p1), .val (.int (0 : Int32))] [(.long (1 : Int64)), (.long w_arrived), (.ref a)])) _
              refine XS.ladd X161.here hx rfl (hb hby d4_114) rfl ?_
              show Steps p.tables e below (T161.setTop (mkF m 115 #[.val (.ref a), .val (.long q1), .second, .val (.int p1), .val (.int (0 : Int32))] [(.long (w_arrived + (1 : Int64))), (.ref a)])) _
              exact k)
            obtain ⟨T164, h164, X164, e164, W164, st164⟩ := putF X161 hx hZ hown (host := "") (Or.inl (hw _ (List.mem_of_getElem? (i := 32) rfl))) Via.refl e161 F_a_arrived E_a (Or.inl (hw _ (List.mem_of_getElem? (i := 33) rfl))) (hw _ (List.mem_of_getElem? (i := 2) rfl)) (ty := .long) (by decide) rfl rfl (g := (mkF m 115 #[.val (.ref a), .val (.long q1), .second, .val (.int p1), .val (.int (0 : Int32))] [(.long (w_arrived + (1 : Int64))), (.ref a)])) rfl rfl (hb hby d4_115)
            have F_a_arrived : Fld Z h164 a "com/example/squitterlab/squitterlab/sim/OverlapCounter" "arrived" "J" (.long (w_arrived + (1 : Int64))) := F_a_arrived.same W164
            have E_a := E_a.wr W164
            have F_a_framePicos := F_a_framePicos.other W164 (Or.inr (slot_ne (Or.inr (hw _ (List.mem_of_getElem? (i := 11) rfl))) (Or.inl (hw _ (List.mem_of_getElem? (i := 33) rfl))) (by decide) (t := .long) (t' := .long) (by decide) (by decide)))
            have F_a_any := F_a_any.other W164 (Or.inr (slot_ne (Or.inl (hw _ (List.mem_of_getElem? (i := 27) rfl))) (Or.inl (hw _ (List.mem_of_getElem? (i := 33) rfl))) (by decide) (t := .boolean) (t' := .long) (by decide) (by decide)))
            have F_a_lastArrival := F_a_lastArrival.other W164 (Or.inr (slot_ne (Or.inl (hw _ (List.mem_of_getElem? (i := 29) rfl))) (Or.inl (hw _ (List.mem_of_getElem? (i := 33) rfl))) (by decide) (t := .long) (t' := .long) (by decide) (by decide)))
            have F_a_lastLost := F_a_lastLost.other W164 (Or.inr (slot_ne (Or.inl (hw _ (List.mem_of_getElem? (i := 31) rfl))) (Or.inl (hw _ (List.mem_of_getElem? (i := 33) rfl))) (by decide) (t := .boolean) (t' := .long) (by decide) (by decide)))
            have F_a_lastCounted := F_a_lastCounted.other W164 (Or.inr (slot_ne (Or.inl (hw _ (List.mem_of_getElem? (i := 18) rfl))) (Or.inl (hw _ (List.mem_of_getElem? (i := 33) rfl))) (by decide) (t := .boolean) (t' := .long) (by decide) (by decide)))
            have F_a_received := F_a_received.other W164 (Or.inr (slot_ne (Or.inl (hw _ (List.mem_of_getElem? (i := 20) rfl))) (Or.inl (hw _ (List.mem_of_getElem? (i := 33) rfl))) (by decide) (t := .long) (t' := .long) (by decide) (by decide)))
            have K := K.wr W164 (Or.inl (List.mem_of_getElem? (i := 0) rfl))
            have Z164 : n0 ≤ h164.size := Nat.le_trans Z155 (Keep.of_wr W164).1
            have N164 := Fr.snoc X164 N155 g_a
            have pre165 : ∀ t, Steps p.tables e below (T164.setTop (mkF m 118 #[.val (.ref a), .val (.long q1), .second, .val (.int p1), .val (.int (0 : Int32))] [])) t → Steps p.tables e below (s₁.setTop (entryFrame m #[(.ref a), (.long q1), (.int p1)] 5)) t := fun t k => pre163 t (st164 t k)
            obtain ⟨fs, hr, hrun, hended, hW, hsame⟩ := X164.leave (v := none) (fun _ => rfl) hlk
            refine ⟨_, _, pre165 _ ?_, hrun, hended, _, _, rfl, ?_, ⟨_, rfl⟩, hW, hsame.mono (by decide) (by decide)⟩
            · show Steps p.tables e below (T164.setTop (mkF m 118 #[.val (.ref a), .val (.long q1), .second, .val (.int p1), .val (.int (0 : Int32))] [])) _
              exact X164.returnOut hx Bd.returns (hb hby d4_118) hr
            · show Q4 Z a q1 p1 w_framePicos w_any w_lastArrival w_lastLost w_lastCounted w_received w_arrived h0 n0 _ T164.heap _
              rw [e164]
              exact ⟨rfl, N164, K, F_a_framePicos, F_a_any, F_a_lastArrival, (by simp only [own_lost, own_rec, own_arr, if_neg hc7_4, if_neg hc48_36, if_neg hc63_92, if_neg hc70_117, if_neg hc105_158]; exact F_a_lastLost), F_a_lastCounted, (by simp only [own_lost, own_rec, own_arr, if_neg hc7_4, if_neg hc48_36, if_neg hc63_92, if_neg hc70_117, if_neg hc105_158]; exact F_a_received), (by simp only [own_lost, own_rec, own_arr, if_neg hc7_4, if_neg hc48_36, if_neg hc63_92, if_neg hc70_117, if_neg hc105_158]; exact F_a_arrived)⟩
theorem d3_0 : decode prog_83_method_4_code 0 = .ok (.aload_n 0, 1) := by decide +kernel
theorem d3_1 : decode prog_83_method_4_code 1 = .ok (.getfield 32, 3) := by decide +kernel
theorem d3_4 : decode prog_83_method_4_code 4 = .ok (.ifCond .eq 19, 3) := by decide +kernel
theorem d3_7 : decode prog_83_method_4_code 7 = .ok (.aload_n 0, 1) := by decide +kernel
theorem d3_8 : decode prog_83_method_4_code 8 = .ok (.getfield 29, 3) := by decide +kernel
theorem d3_11 : decode prog_83_method_4_code 11 = .ok (.ifCond .ne 12, 3) := by decide +kernel
theorem d3_14 : decode prog_83_method_4_code 14 = .ok (.aload_n 0, 1) := by decide +kernel
theorem d3_15 : decode prog_83_method_4_code 15 = .ok (.getfield 35, 3) := by decide +kernel
theorem d3_18 : decode prog_83_method_4_code 18 = .ok (.lconst 1, 1) := by decide +kernel
theorem d3_19 : decode prog_83_method_4_code 19 = .ok (.ladd, 1) := by decide +kernel
theorem d3_20 : decode prog_83_method_4_code 20 = .ok (.goto 7, 3) := by decide +kernel
theorem d3_23 : decode prog_83_method_4_code 23 = .ok (.aload_n 0, 1) := by decide +kernel
theorem d3_24 : decode prog_83_method_4_code 24 = .ok (.getfield 35, 3) := by decide +kernel
theorem d3_27 : decode prog_83_method_4_code 27 = .ok (.lreturn, 1) := by decide +kernel
theorem ef_3 (m : MethodId) (a : Addr) : entryFrame m #[(.ref a)] 1 = mkF m 0 #[.val (.ref a)] [] := by first | (simp [entryFrame, mkF, argsToLocals, Value.category]; done) | rfl
def Q3 (Z : State) (a : Addr) (w_lastLost : Int32) (w_lastCounted : Int32) (w_received : Int64) (h0 : Heap) (n0 : Nat) (v : Option Value) (h : Heap) (L : List Loc) : Prop := v = some (.long (own_recv w_lastCounted w_lastLost w_received)) ∧ Fr n0 L ∧ h = h0
set_option maxRecDepth 65536 in
set_option maxHeartbeats 40000000 in
theorem rm3 (l : Launch) (Z : State) (a0 : Array Value) (hw : ∀ d ∈ tables_1, d.before a0 Z = true) (ws : List Jvm.Cond) (a : Addr) (w_lastLost : Int32) (w_lastCounted : Int32) (w_received : Int64) (h0 : Heap) (n0 : Nat) (Z0 : n0 ≤ h0.size) (E_a : Exa Z h0 a "com/example/squitterlab/squitterlab/sim/OverlapCounter") (F_a_lastLost : Fld Z h0 a "com/example/squitterlab/squitterlab/sim/OverlapCounter" "lastLost" "Z" (.int w_lastLost)) (F_a_lastCounted : Fld Z h0 a "com/example/squitterlab/squitterlab/sim/OverlapCounter" "lastCounted" "Z" (.int w_lastCounted)) (F_a_received : Fld Z h0 a "com/example/squitterlab/squitterlab/sim/OverlapCounter" "received" "J" (.long w_received)) :
    MetFree l (⟨"com/example/squitterlab/squitterlab/sim/OverlapCounter", "received", "()J"⟩ : MethodName) (head1 (Jvm.Cond.code (⟨"com/example/squitterlab/squitterlab/sim/OverlapCounter", "received", "()J"⟩ : MethodName) prog_83_method_4_code 1 (some .long) :: ws) ({ frames := 0, cells := 0, slots := 0, locals := 0 } : Room)) (fun aa U => aa = #[(.ref a)] ∧ Z.Warmed39 U.vm ∧ U.heap = h0) (fun _ _ _ _ _ => True) (fun _ U o U' => ∃ v L, o = .returned v ∧ Q3 Z a w_lastLost w_lastCounted w_received h0 n0 v U'.heap L ∧ FrameEnd U o U' L ({ frames := 0, cells := 0, slots := 0, locals := 0 } : Room).cells ({ frames := 0, cells := 0, slots := 0, locals := 0 } : Room).slots) := by
  refine MetFree.of_bodySF (plainFor_of_name pn_OverlapCounter) hisR ?_
  intro p e s m args below meth c s₁ Bd hml0 hP hK
  obtain ⟨rfl, hZ, hh⟩ := hP
  have hx := Bd.exec
  have hby := Bd.bytes
  have hml : c.maxLocals = 1 := hml0
  have hown : s.vm.findClass "com/example/squitterlab/squitterlab/sim/OverlapCounter" = some m.cls := findClass_of_methodNamed Bd.named
  have hnm := (name_of_methodNamed Bd.named Bd.method).1
  have X0 : Stand p l e ({ frames := 0, cells := 0, slots := 0, locals := 0 } : Room) s m #[(.ref a)] below meth c s₁ [] 0 0 := Stand.of_body Bd
  have e0 : s₁.heap = h0 := by rw [← hh, Bd.state]; rfl
  have N0 := Fr.nil n0
  have hlk : meth.locks = false := by first | exact BodyLoose.notSynchronized Bd | exact Body.notSynchronized Bd
  have pre0 : ∀ t, Steps p.tables e below (s₁.setTop (mkF m 0 #[.val (.ref a)] [])) t → Steps p.tables e below (s₁.setTop (entryFrame m #[(.ref a)] 1)) t := fun t k => castTop (ef_3 m a) k
  have K : Keep h0 h0 [] := Keep.refl _ _
  have pre1 : ∀ t, Steps p.tables e below (s₁.setTop (mkF m 1 #[.val (.ref a)] [(.ref a)])) t → Steps p.tables e below (s₁.setTop (entryFrame m #[(.ref a)] 1)) t := fun t k => pre0 t (by
    show Steps p.tables e below (s₁.setTop (mkF m 0 #[.val (.ref a)] [])) _
    refine XS.aloadN X0.here hx rfl (hb hby d3_0) rfl rfl ?_
    show Steps p.tables e below (s₁.setTop (mkF m 1 #[.val (.ref a)] [(.ref a)])) _
    exact k)
  obtain ⟨T2, X2, e2, st2⟩ := getF X0 hx hZ hown (host := "") (Or.inl (hw _ (List.mem_of_getElem? (i := 17) rfl))) Via.refl e0 F_a_lastCounted (g := (mkF m 1 #[.val (.ref a)] [(.ref a)])) rfl rfl (hb hby d3_1)
  have pre3 : ∀ t, Steps p.tables e below (T2.setTop (mkF m 4 #[.val (.ref a)] [(.int w_lastCounted)])) t → Steps p.tables e below (s₁.setTop (entryFrame m #[(.ref a)] 1)) t := fun t k => pre1 t (st2 t k)
  by_cases hc4_4 : w_lastCounted = (0 : Int32)
  · have pre5 : ∀ t, Steps p.tables e below (T2.setTop (mkF m 24 #[.val (.ref a)] [(.ref a)])) t → Steps p.tables e below (s₁.setTop (entryFrame m #[(.ref a)] 1)) t := fun t k => pre3 t (by
      show Steps p.tables e below (T2.setTop (mkF m 4 #[.val (.ref a)] [(.int w_lastCounted)])) _
      refine XS.ifYes X2.here hx rfl (pc0 := 4) (pc' := 23) rfl (hb hby d3_4) rfl ((if0 _ _).trans (teq hc4_4).1) (by decide) (by decide) ?_
      show Steps p.tables e below (T2.setTop (mkF m 23 #[.val (.ref a)] [])) _
      refine XS.aloadN X2.here hx rfl (hb hby d3_23) rfl rfl ?_
      show Steps p.tables e below (T2.setTop (mkF m 24 #[.val (.ref a)] [(.ref a)])) _
      exact k)
    obtain ⟨T6, X6, e6, st6⟩ := getF X2 hx hZ hown (host := "") (Or.inl (hw _ (List.mem_of_getElem? (i := 19) rfl))) Via.refl e2 F_a_received (g := (mkF m 24 #[.val (.ref a)] [(.ref a)])) rfl rfl (hb hby d3_24)
    have pre7 : ∀ t, Steps p.tables e below (T6.setTop (mkF m 27 #[.val (.ref a)] [(.long w_received)])) t → Steps p.tables e below (s₁.setTop (entryFrame m #[(.ref a)] 1)) t := fun t k => pre5 t (st6 t k)
    obtain ⟨fs, hr, hrun, hended, hW, hsame⟩ := X6.leave (v := some (.long w_received)) (fun h => by rw [Bd.returns] at h; cases h) hlk
    refine ⟨_, _, pre7 _ ?_, hrun, hended, _, _, rfl, ?_, ⟨_, rfl⟩, hW, hsame.mono (by decide) (by decide)⟩
    · show Steps p.tables e below (T6.setTop (mkF m 27 #[.val (.ref a)] [(.long w_received)])) _
      exact X6.lreturnOut hx Bd.returns (hb hby d3_27) hr
    · show Q3 Z a w_lastLost w_lastCounted w_received h0 n0 _ T6.heap _
      rw [e6]
      exact ⟨by simp only [own_recv, if_pos hc4_4], N0, rfl⟩
  · have pre8 : ∀ t, Steps p.tables e below (T2.setTop (mkF m 8 #[.val (.ref a)] [(.ref a)])) t → Steps p.tables e below (s₁.setTop (entryFrame m #[(.ref a)] 1)) t := fun t k => pre3 t (by
      show Steps p.tables e below (T2.setTop (mkF m 4 #[.val (.ref a)] [(.int w_lastCounted)])) _
      refine XS.ifNo X2.here hx rfl (hb hby d3_4) rfl ((if0 _ _).trans (feq hc4_4).1) ?_
      show Steps p.tables e below (T2.setTop (mkF m 7 #[.val (.ref a)] [])) _
      refine XS.aloadN X2.here hx rfl (hb hby d3_7) rfl rfl ?_
      show Steps p.tables e below (T2.setTop (mkF m 8 #[.val (.ref a)] [(.ref a)])) _
      exact k)
    obtain ⟨T9, X9, e9, st9⟩ := getF X2 hx hZ hown (host := "") (Or.inl (hw _ (List.mem_of_getElem? (i := 30) rfl))) Via.refl e2 F_a_lastLost (g := (mkF m 8 #[.val (.ref a)] [(.ref a)])) rfl rfl (hb hby d3_8)
    have pre10 : ∀ t, Steps p.tables e below (T9.setTop (mkF m 11 #[.val (.ref a)] [(.int w_lastLost)])) t → Steps p.tables e below (s₁.setTop (entryFrame m #[(.ref a)] 1)) t := fun t k => pre8 t (st9 t k)
    by_cases hc11_11 : w_lastLost = (0 : Int32)
    · have pre12 : ∀ t, Steps p.tables e below (T9.setTop (mkF m 15 #[.val (.ref a)] [(.ref a)])) t → Steps p.tables e below (s₁.setTop (entryFrame m #[(.ref a)] 1)) t := fun t k => pre10 t (by
        show Steps p.tables e below (T9.setTop (mkF m 11 #[.val (.ref a)] [(.int w_lastLost)])) _
        refine XS.ifNo X9.here hx rfl (hb hby d3_11) rfl ((if0 _ _).trans (teq hc11_11).2) ?_
        show Steps p.tables e below (T9.setTop (mkF m 14 #[.val (.ref a)] [])) _
        refine XS.aloadN X9.here hx rfl (hb hby d3_14) rfl rfl ?_
        show Steps p.tables e below (T9.setTop (mkF m 15 #[.val (.ref a)] [(.ref a)])) _
        exact k)
      obtain ⟨T13, X13, e13, st13⟩ := getF X9 hx hZ hown (host := "") (Or.inl (hw _ (List.mem_of_getElem? (i := 19) rfl))) Via.refl e9 F_a_received (g := (mkF m 15 #[.val (.ref a)] [(.ref a)])) rfl rfl (hb hby d3_15)
      have pre14 : ∀ t, Steps p.tables e below (T13.setTop (mkF m 18 #[.val (.ref a)] [(.long w_received)])) t → Steps p.tables e below (s₁.setTop (entryFrame m #[(.ref a)] 1)) t := fun t k => pre12 t (st13 t k)
      have pre15 : ∀ t, Steps p.tables e below (T13.setTop (mkF m 27 #[.val (.ref a)] [(.long (w_received + (1 : Int64)))])) t → Steps p.tables e below (s₁.setTop (entryFrame m #[(.ref a)] 1)) t := fun t k => pre14 t (by
        show Steps p.tables e below (T13.setTop (mkF m 18 #[.val (.ref a)] [(.long w_received)])) _
        refine XS.lconst X13.here hx rfl (hb hby d3_18) ?_
        show Steps p.tables e below (T13.setTop (mkF m 19 #[.val (.ref a)] [(.long (1 : Int64)), (.long w_received)])) _
        refine XS.ladd X13.here hx rfl (hb hby d3_19) rfl ?_
        show Steps p.tables e below (T13.setTop (mkF m 20 #[.val (.ref a)] [(.long (w_received + (1 : Int64)))])) _
        refine XS.goto X13.here hx rfl (pc0 := 20) (pc' := 27) rfl (hb hby d3_20) (by decide) (by decide) ?_
        show Steps p.tables e below (T13.setTop (mkF m 27 #[.val (.ref a)] [(.long (w_received + (1 : Int64)))])) _
        exact k)
      obtain ⟨fs, hr, hrun, hended, hW, hsame⟩ := X13.leave (v := some (.long (w_received + (1 : Int64)))) (fun h => by rw [Bd.returns] at h; cases h) hlk
      refine ⟨_, _, pre15 _ ?_, hrun, hended, _, _, rfl, ?_, ⟨_, rfl⟩, hW, hsame.mono (by decide) (by decide)⟩
      · show Steps p.tables e below (T13.setTop (mkF m 27 #[.val (.ref a)] [(.long (w_received + (1 : Int64)))])) _
        exact X13.lreturnOut hx Bd.returns (hb hby d3_27) hr
      · show Q3 Z a w_lastLost w_lastCounted w_received h0 n0 _ T13.heap _
        rw [e13]
        exact ⟨by simp only [own_recv, if_neg hc4_4, if_pos hc11_11], N0, rfl⟩
    · have pre16 : ∀ t, Steps p.tables e below (T9.setTop (mkF m 24 #[.val (.ref a)] [(.ref a)])) t → Steps p.tables e below (s₁.setTop (entryFrame m #[(.ref a)] 1)) t := fun t k => pre10 t (by
        show Steps p.tables e below (T9.setTop (mkF m 11 #[.val (.ref a)] [(.int w_lastLost)])) _
        refine XS.ifYes X9.here hx rfl (pc0 := 11) (pc' := 23) rfl (hb hby d3_11) rfl ((if0 _ _).trans (feq hc11_11).2) (by decide) (by decide) ?_
        show Steps p.tables e below (T9.setTop (mkF m 23 #[.val (.ref a)] [])) _
        refine XS.aloadN X9.here hx rfl (hb hby d3_23) rfl rfl ?_
        show Steps p.tables e below (T9.setTop (mkF m 24 #[.val (.ref a)] [(.ref a)])) _
        exact k)
      obtain ⟨T17, X17, e17, st17⟩ := getF X9 hx hZ hown (host := "") (Or.inl (hw _ (List.mem_of_getElem? (i := 19) rfl))) Via.refl e9 F_a_received (g := (mkF m 24 #[.val (.ref a)] [(.ref a)])) rfl rfl (hb hby d3_24)
      have pre18 : ∀ t, Steps p.tables e below (T17.setTop (mkF m 27 #[.val (.ref a)] [(.long w_received)])) t → Steps p.tables e below (s₁.setTop (entryFrame m #[(.ref a)] 1)) t := fun t k => pre16 t (st17 t k)
      obtain ⟨fs, hr, hrun, hended, hW, hsame⟩ := X17.leave (v := some (.long w_received)) (fun h => by rw [Bd.returns] at h; cases h) hlk
      refine ⟨_, _, pre18 _ ?_, hrun, hended, _, _, rfl, ?_, ⟨_, rfl⟩, hW, hsame.mono (by decide) (by decide)⟩
      · show Steps p.tables e below (T17.setTop (mkF m 27 #[.val (.ref a)] [(.long w_received)])) _
        exact X17.lreturnOut hx Bd.returns (hb hby d3_27) hr
      · show Q3 Z a w_lastLost w_lastCounted w_received h0 n0 _ T17.heap _
        rw [e17]
        exact ⟨by simp only [own_recv, if_neg hc4_4, if_neg hc11_11], N0, rfl⟩
theorem pd_0 : parseMethodDescriptor "(J)V" = some ⟨[.long], none⟩ := by decide +kernel
theorem pd_2 : parseMethodDescriptor "()J" = some ⟨[], some .long⟩ := by decide +kernel
theorem pd_3 : parseMethodDescriptor "(JZ)V" = some ⟨[.long, .boolean], none⟩ := by decide +kernel
theorem pn_OverlapCounterReceivedPinLaw : plainName "com/example/squitterlab/squitterlab/sim/OverlapCounterReceivedPinLaw" = true := by first | (simp [plainName, overriddenIn]; done) | decide +kernel
theorem ef_0 (m : MethodId) (q1 : Int64) (q2 : Int64) (p1 : Int32) (p2 : Int32) : entryFrame m #[(.long q1), (.long q2), (.int p1), (.int p2)] maxLocals = mkF m 0 #[.val (.long q1), .second, .val (.long q2), .second, .val (.int p1), .val (.int p2), .unset, .unset, .unset, .unset, .unset, .unset, .unset, .unset, .unset, .unset, .unset, .unset, .unset, .unset, .unset, .unset, .unset, .unset, .unset, .unset, .unset, .unset, .unset, .unset, .unset, .unset, .unset, .unset, .unset] [] := by first | (simp [entryFrame, mkF, argsToLocals, Value.category, maxLocals]; done) | rfl
def lc0_0 (q1 : Int64) (q2 : Int64) (p1 : Int32) (p2 : Int32) : Array Slot := #[.val (.long q1), .second, .val (.long q2), .second, .val (.int p1), .val (.int p2), .unset, .unset, .unset, .unset, .unset, .unset, .unset, .unset, .unset, .unset, .unset, .unset, .unset, .unset, .unset, .unset, .unset, .unset, .unset, .unset, .unset, .unset, .unset, .unset, .unset, .unset, .unset, .unset, .unset]
def lc0_1 (q1 : Int64) (q2 : Int64) (p1 : Int32) (p2 : Int32) : Array Slot := #[.val (.long q1), .second, .val (.long q2), .second, .val (.int p1), .val (.int p2), .val (.long (own_fr q1)), .second, .unset, .unset, .unset, .unset, .unset, .unset, .unset, .unset, .unset, .unset, .unset, .unset, .unset, .unset, .unset, .unset, .unset, .unset, .unset, .unset, .unset, .unset, .unset, .unset, .unset, .unset, .unset]
def lc0_2 (q1 : Int64) (q2 : Int64) (p1 : Int32) (p2 : Int32) : Array Slot := #[.val (.long q1), .second, .val (.long q2), .second, .val (.int p1), .val (.int p2), .val (.long (own_fr q1)), .second, .val (.long (own_d1 p1)), .second, .unset, .unset, .unset, .unset, .unset, .unset, .unset, .unset, .unset, .unset, .unset, .unset, .unset, .unset, .unset, .unset, .unset, .unset, .unset, .unset, .unset, .unset, .unset, .unset, .unset]
def lc0_3 (q1 : Int64) (q2 : Int64) (p1 : Int32) (p2 : Int32) : Array Slot := #[.val (.long q1), .second, .val (.long q2), .second, .val (.int p1), .val (.int p2), .val (.long (own_fr q1)), .second, .val (.long (own_d1 p1)), .second, .val (.long (own_d2 p1)), .second, .unset, .unset, .unset, .unset, .unset, .unset, .unset, .unset, .unset, .unset, .unset, .unset, .unset, .unset, .unset, .unset, .unset, .unset, .unset, .unset, .unset, .unset, .unset]
def lc0_4 (q1 : Int64) (q2 : Int64) (p1 : Int32) (p2 : Int32) : Array Slot := #[.val (.long q1), .second, .val (.long q2), .second, .val (.int p1), .val (.int p2), .val (.long (own_fr q1)), .second, .val (.long (own_d1 p1)), .second, .val (.long (own_d2 p1)), .second, .val (.long (own_d3 p1)), .second, .unset, .unset, .unset, .unset, .unset, .unset, .unset, .unset, .unset, .unset, .unset, .unset, .unset, .unset, .unset, .unset, .unset, .unset, .unset, .unset, .unset]
def lc0_5 (q1 : Int64) (q2 : Int64) (p1 : Int32) (p2 : Int32) : Array Slot := #[.val (.long q1), .second, .val (.long q2), .second, .val (.int p1), .val (.int p2), .val (.long (own_fr q1)), .second, .val (.long (own_d1 p1)), .second, .val (.long (own_d2 p1)), .second, .val (.long (own_d3 p1)), .second, .val (.int (if (p2 &&& (1 : Int32)) = (0 : Int32) then (0 : Int32) else (1 : Int32))), .unset, .unset, .unset, .unset, .unset, .unset, .unset, .unset, .unset, .unset, .unset, .unset, .unset, .unset, .unset, .unset, .unset, .unset, .unset, .unset]
def lc0_6 (q1 : Int64) (q2 : Int64) (p1 : Int32) (p2 : Int32) : Array Slot := #[.val (.long q1), .second, .val (.long q2), .second, .val (.int p1), .val (.int p2), .val (.long (own_fr q1)), .second, .val (.long (own_d1 p1)), .second, .val (.long (own_d2 p1)), .second, .val (.long (own_d3 p1)), .second, .val (.int (if (p2 &&& (1 : Int32)) = (0 : Int32) then (0 : Int32) else (1 : Int32))), .val (.int (if (p2 &&& (2 : Int32)) = (0 : Int32) then (0 : Int32) else (1 : Int32))), .unset, .unset, .unset, .unset, .unset, .unset, .unset, .unset, .unset, .unset, .unset, .unset, .unset, .unset, .unset, .unset, .unset, .unset, .unset]
def lc0_7 (q1 : Int64) (q2 : Int64) (p1 : Int32) (p2 : Int32) : Array Slot := #[.val (.long q1), .second, .val (.long q2), .second, .val (.int p1), .val (.int p2), .val (.long (own_fr q1)), .second, .val (.long (own_d1 p1)), .second, .val (.long (own_d2 p1)), .second, .val (.long (own_d3 p1)), .second, .val (.int (if (p2 &&& (1 : Int32)) = (0 : Int32) then (0 : Int32) else (1 : Int32))), .val (.int (if (p2 &&& (2 : Int32)) = (0 : Int32) then (0 : Int32) else (1 : Int32))), .val (.int (if (p2 &&& (4 : Int32)) = (0 : Int32) then (0 : Int32) else (1 : Int32))), .unset, .unset, .unset, .unset, .unset, .unset, .unset, .unset, .unset, .unset, .unset, .unset, .unset, .unset, .unset, .unset, .unset, .unset]
def lc0_8 (q1 : Int64) (q2 : Int64) (p1 : Int32) (p2 : Int32) : Array Slot := #[.val (.long q1), .second, .val (.long q2), .second, .val (.int p1), .val (.int p2), .val (.long (own_fr q1)), .second, .val (.long (own_d1 p1)), .second, .val (.long (own_d2 p1)), .second, .val (.long (own_d3 p1)), .second, .val (.int (if (p2 &&& (1 : Int32)) = (0 : Int32) then (0 : Int32) else (1 : Int32))), .val (.int (if (p2 &&& (2 : Int32)) = (0 : Int32) then (0 : Int32) else (1 : Int32))), .val (.int (if (p2 &&& (4 : Int32)) = (0 : Int32) then (0 : Int32) else (1 : Int32))), .val (.int (if (p2 &&& (8 : Int32)) = (0 : Int32) then (0 : Int32) else (1 : Int32))), .unset, .unset, .unset, .unset, .unset, .unset, .unset, .unset, .unset, .unset, .unset, .unset, .unset, .unset, .unset, .unset, .unset]
def lc0_9 (q1 : Int64) (q2 : Int64) (p1 : Int32) (p2 : Int32) : Array Slot := #[.val (.long q1), .second, .val (.long q2), .second, .val (.int p1), .val (.int p2), .val (.long (own_fr q1)), .second, .val (.long (own_d1 p1)), .second, .val (.long (own_d2 p1)), .second, .val (.long (own_d3 p1)), .second, .val (.int (if (p2 &&& (1 : Int32)) = (0 : Int32) then (0 : Int32) else (1 : Int32))), .val (.int (if (p2 &&& (2 : Int32)) = (0 : Int32) then (0 : Int32) else (1 : Int32))), .val (.int (if (p2 &&& (4 : Int32)) = (0 : Int32) then (0 : Int32) else (1 : Int32))), .val (.int (if (p2 &&& (8 : Int32)) = (0 : Int32) then (0 : Int32) else (1 : Int32))), .val (.int (own_nn p2)), .unset, .unset, .unset, .unset, .unset, .unset, .unset, .unset, .unset, .unset, .unset, .unset, .unset, .unset, .unset, .unset]
def lc0_10 (q1 : Int64) (q2 : Int64) (p1 : Int32) (p2 : Int32) : Array Slot := #[.val (.long q1), .second, .val (.long q2), .second, .val (.int p1), .val (.int p2), .val (.long (own_fr q1)), .second, .val (.long (own_d1 p1)), .second, .val (.long (own_d2 p1)), .second, .val (.long (own_d3 p1)), .second, .val (.int (if (p2 &&& (1 : Int32)) = (0 : Int32) then (0 : Int32) else (1 : Int32))), .val (.int (if (p2 &&& (2 : Int32)) = (0 : Int32) then (0 : Int32) else (1 : Int32))), .val (.int (if (p2 &&& (4 : Int32)) = (0 : Int32) then (0 : Int32) else (1 : Int32))), .val (.int (if (p2 &&& (8 : Int32)) = (0 : Int32) then (0 : Int32) else (1 : Int32))), .val (.int (own_nn p2)), .val (.long (own_t0 q2)), .second, .unset, .unset, .unset, .unset, .unset, .unset, .unset, .unset, .unset, .unset, .unset, .unset, .unset, .unset]
def lc0_11 (q1 : Int64) (q2 : Int64) (p1 : Int32) (p2 : Int32) : Array Slot := #[.val (.long q1), .second, .val (.long q2), .second, .val (.int p1), .val (.int p2), .val (.long (own_fr q1)), .second, .val (.long (own_d1 p1)), .second, .val (.long (own_d2 p1)), .second, .val (.long (own_d3 p1)), .second, .val (.int (if (p2 &&& (1 : Int32)) = (0 : Int32) then (0 : Int32) else (1 : Int32))), .val (.int (if (p2 &&& (2 : Int32)) = (0 : Int32) then (0 : Int32) else (1 : Int32))), .val (.int (if (p2 &&& (4 : Int32)) = (0 : Int32) then (0 : Int32) else (1 : Int32))), .val (.int (if (p2 &&& (8 : Int32)) = (0 : Int32) then (0 : Int32) else (1 : Int32))), .val (.int (own_nn p2)), .val (.long (own_t0 q2)), .second, .val (.long (own_t1 q2 p1)), .second, .unset, .unset, .unset, .unset, .unset, .unset, .unset, .unset, .unset, .unset, .unset, .unset]
def lc0_12 (q1 : Int64) (q2 : Int64) (p1 : Int32) (p2 : Int32) : Array Slot := #[.val (.long q1), .second, .val (.long q2), .second, .val (.int p1), .val (.int p2), .val (.long (own_fr q1)), .second, .val (.long (own_d1 p1)), .second, .val (.long (own_d2 p1)), .second, .val (.long (own_d3 p1)), .second, .val (.int (if (p2 &&& (1 : Int32)) = (0 : Int32) then (0 : Int32) else (1 : Int32))), .val (.int (if (p2 &&& (2 : Int32)) = (0 : Int32) then (0 : Int32) else (1 : Int32))), .val (.int (if (p2 &&& (4 : Int32)) = (0 : Int32) then (0 : Int32) else (1 : Int32))), .val (.int (if (p2 &&& (8 : Int32)) = (0 : Int32) then (0 : Int32) else (1 : Int32))), .val (.int (own_nn p2)), .val (.long (own_t0 q2)), .second, .val (.long (own_t1 q2 p1)), .second, .val (.long (own_t2 q2 p1)), .second, .unset, .unset, .unset, .unset, .unset, .unset, .unset, .unset, .unset, .unset]
def lc0_13 (q1 : Int64) (q2 : Int64) (p1 : Int32) (p2 : Int32) : Array Slot := #[.val (.long q1), .second, .val (.long q2), .second, .val (.int p1), .val (.int p2), .val (.long (own_fr q1)), .second, .val (.long (own_d1 p1)), .second, .val (.long (own_d2 p1)), .second, .val (.long (own_d3 p1)), .second, .val (.int (if (p2 &&& (1 : Int32)) = (0 : Int32) then (0 : Int32) else (1 : Int32))), .val (.int (if (p2 &&& (2 : Int32)) = (0 : Int32) then (0 : Int32) else (1 : Int32))), .val (.int (if (p2 &&& (4 : Int32)) = (0 : Int32) then (0 : Int32) else (1 : Int32))), .val (.int (if (p2 &&& (8 : Int32)) = (0 : Int32) then (0 : Int32) else (1 : Int32))), .val (.int (own_nn p2)), .val (.long (own_t0 q2)), .second, .val (.long (own_t1 q2 p1)), .second, .val (.long (own_t2 q2 p1)), .second, .val (.long (own_t3 q2 p1)), .second, .unset, .unset, .unset, .unset, .unset, .unset, .unset, .unset]
def lc0_14 (q1 : Int64) (q2 : Int64) (p1 : Int32) (p2 : Int32) (b14 : Addr) : Array Slot := #[.val (.long q1), .second, .val (.long q2), .second, .val (.int p1), .val (.int p2), .val (.long (own_fr q1)), .second, .val (.long (own_d1 p1)), .second, .val (.long (own_d2 p1)), .second, .val (.long (own_d3 p1)), .second, .val (.int (if (p2 &&& (1 : Int32)) = (0 : Int32) then (0 : Int32) else (1 : Int32))), .val (.int (if (p2 &&& (2 : Int32)) = (0 : Int32) then (0 : Int32) else (1 : Int32))), .val (.int (if (p2 &&& (4 : Int32)) = (0 : Int32) then (0 : Int32) else (1 : Int32))), .val (.int (if (p2 &&& (8 : Int32)) = (0 : Int32) then (0 : Int32) else (1 : Int32))), .val (.int (own_nn p2)), .val (.long (own_t0 q2)), .second, .val (.long (own_t1 q2 p1)), .second, .val (.long (own_t2 q2 p1)), .second, .val (.long (own_t3 q2 p1)), .second, .val (.ref b14), .unset, .unset, .unset, .unset, .unset, .unset, .unset]
def lc0_15 (q1 : Int64) (q2 : Int64) (p1 : Int32) (p2 : Int32) (b14 : Addr) : Array Slot := #[.val (.long q1), .second, .val (.long q2), .second, .val (.int p1), .val (.int p2), .val (.long (own_fr q1)), .second, .val (.long (own_d1 p1)), .second, .val (.long (own_d2 p1)), .second, .val (.long (own_d3 p1)), .second, .val (.int (if (p2 &&& (1 : Int32)) = (0 : Int32) then (0 : Int32) else (1 : Int32))), .val (.int (if (p2 &&& (2 : Int32)) = (0 : Int32) then (0 : Int32) else (1 : Int32))), .val (.int (if (p2 &&& (4 : Int32)) = (0 : Int32) then (0 : Int32) else (1 : Int32))), .val (.int (if (p2 &&& (8 : Int32)) = (0 : Int32) then (0 : Int32) else (1 : Int32))), .val (.int (own_nn p2)), .val (.long (own_t0 q2)), .second, .val (.long (own_t1 q2 p1)), .second, .val (.long (own_t2 q2 p1)), .second, .val (.long (own_t3 q2 p1)), .second, .val (.ref b14), .val (.long (own_recv (0 : Int32) (0 : Int32) (0 : Int64))), .second, .unset, .unset, .unset, .unset, .unset]
def lc0_16 (q1 : Int64) (q2 : Int64) (p1 : Int32) (p2 : Int32) (b14 : Addr) : Array Slot := #[.val (.long q1), .second, .val (.long q2), .second, .val (.int p1), .val (.int p2), .val (.long (own_fr q1)), .second, .val (.long (own_d1 p1)), .second, .val (.long (own_d2 p1)), .second, .val (.long (own_d3 p1)), .second, .val (.int (if (p2 &&& (1 : Int32)) = (0 : Int32) then (0 : Int32) else (1 : Int32))), .val (.int (if (p2 &&& (2 : Int32)) = (0 : Int32) then (0 : Int32) else (1 : Int32))), .val (.int (if (p2 &&& (4 : Int32)) = (0 : Int32) then (0 : Int32) else (1 : Int32))), .val (.int (if (p2 &&& (8 : Int32)) = (0 : Int32) then (0 : Int32) else (1 : Int32))), .val (.int (own_nn p2)), .val (.long (own_t0 q2)), .second, .val (.long (own_t1 q2 p1)), .second, .val (.long (own_t2 q2 p1)), .second, .val (.long (own_t3 q2 p1)), .second, .val (.ref b14), .val (.long (own_recv (0 : Int32) (0 : Int32) (0 : Int64))), .second, .val (.int (0 : Int32)), .unset, .unset, .unset, .unset]
def lc0_17 (q1 : Int64) (q2 : Int64) (p1 : Int32) (p2 : Int32) (b14 : Addr) : Array Slot := #[.val (.long q1), .second, .val (.long q2), .second, .val (.int p1), .val (.int p2), .val (.long (own_fr q1)), .second, .val (.long (own_d1 p1)), .second, .val (.long (own_d2 p1)), .second, .val (.long (own_d3 p1)), .second, .val (.int (if (p2 &&& (1 : Int32)) = (0 : Int32) then (0 : Int32) else (1 : Int32))), .val (.int (if (p2 &&& (2 : Int32)) = (0 : Int32) then (0 : Int32) else (1 : Int32))), .val (.int (if (p2 &&& (4 : Int32)) = (0 : Int32) then (0 : Int32) else (1 : Int32))), .val (.int (if (p2 &&& (8 : Int32)) = (0 : Int32) then (0 : Int32) else (1 : Int32))), .val (.int (own_nn p2)), .val (.long (own_t0 q2)), .second, .val (.long (own_t1 q2 p1)), .second, .val (.long (own_t2 q2 p1)), .second, .val (.long (own_t3 q2 p1)), .second, .val (.ref b14), .val (.long (own_recv (0 : Int32) (0 : Int32) (0 : Int64))), .second, .val (.int (0 : Int32)), .val (.int (0 : Int32)), .unset, .unset, .unset]
def lc0_18 (q1 : Int64) (q2 : Int64) (p1 : Int32) (p2 : Int32) (b14 : Addr) : Array Slot := #[.val (.long q1), .second, .val (.long q2), .second, .val (.int p1), .val (.int p2), .val (.long (own_fr q1)), .second, .val (.long (own_d1 p1)), .second, .val (.long (own_d2 p1)), .second, .val (.long (own_d3 p1)), .second, .val (.int (if (p2 &&& (1 : Int32)) = (0 : Int32) then (0 : Int32) else (1 : Int32))), .val (.int (if (p2 &&& (2 : Int32)) = (0 : Int32) then (0 : Int32) else (1 : Int32))), .val (.int (if (p2 &&& (4 : Int32)) = (0 : Int32) then (0 : Int32) else (1 : Int32))), .val (.int (if (p2 &&& (8 : Int32)) = (0 : Int32) then (0 : Int32) else (1 : Int32))), .val (.int (own_nn p2)), .val (.long (own_t0 q2)), .second, .val (.long (own_t1 q2 p1)), .second, .val (.long (own_t2 q2 p1)), .second, .val (.long (own_t3 q2 p1)), .second, .val (.ref b14), .val (.long (own_recv (0 : Int32) (0 : Int32) (0 : Int64))), .second, .val (.int (0 : Int32)), .val (.int (0 : Int32)), .val (.int (0 : Int32)), .unset, .unset]
def lc0_19 (q1 : Int64) (q2 : Int64) (p1 : Int32) (p2 : Int32) (b14 : Addr) : Array Slot := #[.val (.long q1), .second, .val (.long q2), .second, .val (.int p1), .val (.int p2), .val (.long (own_fr q1)), .second, .val (.long (own_d1 p1)), .second, .val (.long (own_d2 p1)), .second, .val (.long (own_d3 p1)), .second, .val (.int (if (p2 &&& (1 : Int32)) = (0 : Int32) then (0 : Int32) else (1 : Int32))), .val (.int (if (p2 &&& (2 : Int32)) = (0 : Int32) then (0 : Int32) else (1 : Int32))), .val (.int (if (p2 &&& (4 : Int32)) = (0 : Int32) then (0 : Int32) else (1 : Int32))), .val (.int (if (p2 &&& (8 : Int32)) = (0 : Int32) then (0 : Int32) else (1 : Int32))), .val (.int (own_nn p2)), .val (.long (own_t0 q2)), .second, .val (.long (own_t1 q2 p1)), .second, .val (.long (own_t2 q2 p1)), .second, .val (.long (own_t3 q2 p1)), .second, .val (.ref b14), .val (.long (own_recv (0 : Int32) (0 : Int32) (0 : Int64))), .second, .val (.int (0 : Int32)), .val (.int (0 : Int32)), .val (.int (0 : Int32)), .val (.long (0 : Int64)), .second]
def lc0_20 (q1 : Int64) (q2 : Int64) (p1 : Int32) (p2 : Int32) (b14 : Addr) : Array Slot := #[.val (.long q1), .second, .val (.long q2), .second, .val (.int p1), .val (.int p2), .val (.long (own_fr q1)), .second, .val (.long (own_d1 p1)), .second, .val (.long (own_d2 p1)), .second, .val (.long (own_d3 p1)), .second, .val (.int (if (p2 &&& (1 : Int32)) = (0 : Int32) then (0 : Int32) else (1 : Int32))), .val (.int (if (p2 &&& (2 : Int32)) = (0 : Int32) then (0 : Int32) else (1 : Int32))), .val (.int (if (p2 &&& (4 : Int32)) = (0 : Int32) then (0 : Int32) else (1 : Int32))), .val (.int (if (p2 &&& (8 : Int32)) = (0 : Int32) then (0 : Int32) else (1 : Int32))), .val (.int (own_nn p2)), .val (.long (own_t0 q2)), .second, .val (.long (own_t1 q2 p1)), .second, .val (.long (own_t2 q2 p1)), .second, .val (.long (own_t3 q2 p1)), .second, .val (.ref b14), .val (.long (own_recv (nar .boolean (if (p2 &&& (1 : Int32)) = (0 : Int32) then (0 : Int32) else (1 : Int32))) (own_lost (0 : Int32) (0 : Int64) (own_fr q1) (own_t0 q2)) (own_rec (0 : Int32) (own_fr q1) (0 : Int64) (0 : Int32) (0 : Int32) (0 : Int64) (own_t0 q2)))), .second, .unset, .unset, .unset, .unset, .unset]
def lc0_21 (q1 : Int64) (q2 : Int64) (p1 : Int32) (p2 : Int32) (b14 : Addr) : Array Slot := #[.val (.long q1), .second, .val (.long q2), .second, .val (.int p1), .val (.int p2), .val (.long (own_fr q1)), .second, .val (.long (own_d1 p1)), .second, .val (.long (own_d2 p1)), .second, .val (.long (own_d3 p1)), .second, .val (.int (if (p2 &&& (1 : Int32)) = (0 : Int32) then (0 : Int32) else (1 : Int32))), .val (.int (if (p2 &&& (2 : Int32)) = (0 : Int32) then (0 : Int32) else (1 : Int32))), .val (.int (if (p2 &&& (4 : Int32)) = (0 : Int32) then (0 : Int32) else (1 : Int32))), .val (.int (if (p2 &&& (8 : Int32)) = (0 : Int32) then (0 : Int32) else (1 : Int32))), .val (.int (own_nn p2)), .val (.long (own_t0 q2)), .second, .val (.long (own_t1 q2 p1)), .second, .val (.long (own_t2 q2 p1)), .second, .val (.long (own_t3 q2 p1)), .second, .val (.ref b14), .val (.long (own_recv (nar .boolean (if (p2 &&& (1 : Int32)) = (0 : Int32) then (0 : Int32) else (1 : Int32))) (own_lost (0 : Int32) (0 : Int64) (own_fr q1) (own_t0 q2)) (own_rec (0 : Int32) (own_fr q1) (0 : Int64) (0 : Int32) (0 : Int32) (0 : Int64) (own_t0 q2)))), .second, .val (.int (0 : Int32)), .unset, .unset, .unset, .unset]
def lc0_22 (q1 : Int64) (q2 : Int64) (p1 : Int32) (p2 : Int32) (b14 : Addr) : Array Slot := #[.val (.long q1), .second, .val (.long q2), .second, .val (.int p1), .val (.int p2), .val (.long (own_fr q1)), .second, .val (.long (own_d1 p1)), .second, .val (.long (own_d2 p1)), .second, .val (.long (own_d3 p1)), .second, .val (.int (if (p2 &&& (1 : Int32)) = (0 : Int32) then (0 : Int32) else (1 : Int32))), .val (.int (if (p2 &&& (2 : Int32)) = (0 : Int32) then (0 : Int32) else (1 : Int32))), .val (.int (if (p2 &&& (4 : Int32)) = (0 : Int32) then (0 : Int32) else (1 : Int32))), .val (.int (if (p2 &&& (8 : Int32)) = (0 : Int32) then (0 : Int32) else (1 : Int32))), .val (.int (own_nn p2)), .val (.long (own_t0 q2)), .second, .val (.long (own_t1 q2 p1)), .second, .val (.long (own_t2 q2 p1)), .second, .val (.long (own_t3 q2 p1)), .second, .val (.ref b14), .val (.long (own_recv (nar .boolean (if (p2 &&& (1 : Int32)) = (0 : Int32) then (0 : Int32) else (1 : Int32))) (own_lost (0 : Int32) (0 : Int64) (own_fr q1) (own_t0 q2)) (own_rec (0 : Int32) (own_fr q1) (0 : Int64) (0 : Int32) (0 : Int32) (0 : Int64) (own_t0 q2)))), .second, .val (.int (0 : Int32)), .val (.int (0 : Int32)), .unset, .unset, .unset]
def lc0_23 (q1 : Int64) (q2 : Int64) (p1 : Int32) (p2 : Int32) (b14 : Addr) : Array Slot := #[.val (.long q1), .second, .val (.long q2), .second, .val (.int p1), .val (.int p2), .val (.long (own_fr q1)), .second, .val (.long (own_d1 p1)), .second, .val (.long (own_d2 p1)), .second, .val (.long (own_d3 p1)), .second, .val (.int (if (p2 &&& (1 : Int32)) = (0 : Int32) then (0 : Int32) else (1 : Int32))), .val (.int (if (p2 &&& (2 : Int32)) = (0 : Int32) then (0 : Int32) else (1 : Int32))), .val (.int (if (p2 &&& (4 : Int32)) = (0 : Int32) then (0 : Int32) else (1 : Int32))), .val (.int (if (p2 &&& (8 : Int32)) = (0 : Int32) then (0 : Int32) else (1 : Int32))), .val (.int (own_nn p2)), .val (.long (own_t0 q2)), .second, .val (.long (own_t1 q2 p1)), .second, .val (.long (own_t2 q2 p1)), .second, .val (.long (own_t3 q2 p1)), .second, .val (.ref b14), .val (.long (own_recv (nar .boolean (if (p2 &&& (1 : Int32)) = (0 : Int32) then (0 : Int32) else (1 : Int32))) (own_lost (0 : Int32) (0 : Int64) (own_fr q1) (own_t0 q2)) (own_rec (0 : Int32) (own_fr q1) (0 : Int64) (0 : Int32) (0 : Int32) (0 : Int64) (own_t0 q2)))), .second, .val (.int (0 : Int32)), .val (.int (0 : Int32)), .val (.int (0 : Int32)), .unset, .unset]
def lc0_24 (q1 : Int64) (q2 : Int64) (p1 : Int32) (p2 : Int32) (b14 : Addr) : Array Slot := #[.val (.long q1), .second, .val (.long q2), .second, .val (.int p1), .val (.int p2), .val (.long (own_fr q1)), .second, .val (.long (own_d1 p1)), .second, .val (.long (own_d2 p1)), .second, .val (.long (own_d3 p1)), .second, .val (.int (if (p2 &&& (1 : Int32)) = (0 : Int32) then (0 : Int32) else (1 : Int32))), .val (.int (if (p2 &&& (2 : Int32)) = (0 : Int32) then (0 : Int32) else (1 : Int32))), .val (.int (if (p2 &&& (4 : Int32)) = (0 : Int32) then (0 : Int32) else (1 : Int32))), .val (.int (if (p2 &&& (8 : Int32)) = (0 : Int32) then (0 : Int32) else (1 : Int32))), .val (.int (own_nn p2)), .val (.long (own_t0 q2)), .second, .val (.long (own_t1 q2 p1)), .second, .val (.long (own_t2 q2 p1)), .second, .val (.long (own_t3 q2 p1)), .second, .val (.ref b14), .val (.long (own_recv (nar .boolean (if (p2 &&& (1 : Int32)) = (0 : Int32) then (0 : Int32) else (1 : Int32))) (own_lost (0 : Int32) (0 : Int64) (own_fr q1) (own_t0 q2)) (own_rec (0 : Int32) (own_fr q1) (0 : Int64) (0 : Int32) (0 : Int32) (0 : Int64) (own_t0 q2)))), .second, .val (.int (0 : Int32)), .val (.int (0 : Int32)), .val (.int (0 : Int32)), .val (.long (0 : Int64)), .second]
def lc0_25 (q1 : Int64) (q2 : Int64) (p1 : Int32) (p2 : Int32) (b14 : Addr) : Array Slot := #[.val (.long q1), .second, .val (.long q2), .second, .val (.int p1), .val (.int p2), .val (.long (own_fr q1)), .second, .val (.long (own_d1 p1)), .second, .val (.long (own_d2 p1)), .second, .val (.long (own_d3 p1)), .second, .val (.int (if (p2 &&& (1 : Int32)) = (0 : Int32) then (0 : Int32) else (1 : Int32))), .val (.int (if (p2 &&& (2 : Int32)) = (0 : Int32) then (0 : Int32) else (1 : Int32))), .val (.int (if (p2 &&& (4 : Int32)) = (0 : Int32) then (0 : Int32) else (1 : Int32))), .val (.int (if (p2 &&& (8 : Int32)) = (0 : Int32) then (0 : Int32) else (1 : Int32))), .val (.int (own_nn p2)), .val (.long (own_t0 q2)), .second, .val (.long (own_t1 q2 p1)), .second, .val (.long (own_t2 q2 p1)), .second, .val (.long (own_t3 q2 p1)), .second, .val (.ref b14), .val (.long (own_recv (nar .boolean (if (p2 &&& (1 : Int32)) = (0 : Int32) then (0 : Int32) else (1 : Int32))) (own_lost (0 : Int32) (0 : Int64) (own_fr q1) (own_t0 q2)) (own_rec (0 : Int32) (own_fr q1) (0 : Int64) (0 : Int32) (0 : Int32) (0 : Int64) (own_t0 q2)))), .second, .val (.int (0 : Int32)), .val (.int (0 : Int32)), .val (.int (0 : Int32)), .val (.long ((0 : Int64) + (1 : Int64))), .second]
def lc0_26 (q1 : Int64) (q2 : Int64) (p1 : Int32) (p2 : Int32) (b14 : Addr) (xJ : Int64) : Array Slot := #[.val (.long q1), .second, .val (.long q2), .second, .val (.int p1), .val (.int p2), .val (.long (own_fr q1)), .second, .val (.long (own_d1 p1)), .second, .val (.long (own_d2 p1)), .second, .val (.long (own_d3 p1)), .second, .val (.int (if (p2 &&& (1 : Int32)) = (0 : Int32) then (0 : Int32) else (1 : Int32))), .val (.int (if (p2 &&& (2 : Int32)) = (0 : Int32) then (0 : Int32) else (1 : Int32))), .val (.int (if (p2 &&& (4 : Int32)) = (0 : Int32) then (0 : Int32) else (1 : Int32))), .val (.int (if (p2 &&& (8 : Int32)) = (0 : Int32) then (0 : Int32) else (1 : Int32))), .val (.int (own_nn p2)), .val (.long (own_t0 q2)), .second, .val (.long (own_t1 q2 p1)), .second, .val (.long (own_t2 q2 p1)), .second, .val (.long (own_t3 q2 p1)), .second, .val (.ref b14), .val (.long (own_recv (nar .boolean (if (p2 &&& (1 : Int32)) = (0 : Int32) then (0 : Int32) else (1 : Int32))) (own_lost (0 : Int32) (0 : Int64) (own_fr q1) (own_t0 q2)) (own_rec (0 : Int32) (own_fr q1) (0 : Int64) (0 : Int32) (0 : Int32) (0 : Int64) (own_t0 q2)))), .second, .val (.int (0 : Int32)), .val (.int (0 : Int32)), .val (.int (0 : Int32)), .val (.long xJ), .second]
def lc0_27 (q1 : Int64) (q2 : Int64) (p1 : Int32) (p2 : Int32) (b14 : Addr) : Array Slot := #[.val (.long q1), .second, .val (.long q2), .second, .val (.int p1), .val (.int p2), .val (.long (own_fr q1)), .second, .val (.long (own_d1 p1)), .second, .val (.long (own_d2 p1)), .second, .val (.long (own_d3 p1)), .second, .val (.int (if (p2 &&& (1 : Int32)) = (0 : Int32) then (0 : Int32) else (1 : Int32))), .val (.int (if (p2 &&& (2 : Int32)) = (0 : Int32) then (0 : Int32) else (1 : Int32))), .val (.int (if (p2 &&& (4 : Int32)) = (0 : Int32) then (0 : Int32) else (1 : Int32))), .val (.int (if (p2 &&& (8 : Int32)) = (0 : Int32) then (0 : Int32) else (1 : Int32))), .val (.int (own_nn p2)), .val (.long (own_t0 q2)), .second, .val (.long (own_t1 q2 p1)), .second, .val (.long (own_t2 q2 p1)), .second, .val (.long (own_t3 q2 p1)), .second, .val (.ref b14), .val (.long (own_recv (nar .boolean (if (p2 &&& (1 : Int32)) = (0 : Int32) then (0 : Int32) else (1 : Int32))) (own_lost (0 : Int32) (0 : Int64) (own_fr q1) (own_t0 q2)) (own_rec (0 : Int32) (own_fr q1) (0 : Int64) (0 : Int32) (0 : Int32) (0 : Int64) (own_t0 q2)))), .second, .val (.int (0 : Int32)), .val (.int (0 : Int32)), .val (.int (0 : Int32)), .val (.long (own_k1 (0 : Int64) ((p2 &&& (1 : Int32)) = (0 : Int32)))), .second]
def lc0_28 (q1 : Int64) (q2 : Int64) (p1 : Int32) (p2 : Int32) (b14 : Addr) : Array Slot := #[.val (.long q1), .second, .val (.long q2), .second, .val (.int p1), .val (.int p2), .val (.long (own_fr q1)), .second, .val (.long (own_d1 p1)), .second, .val (.long (own_d2 p1)), .second, .val (.long (own_d3 p1)), .second, .val (.int (if (p2 &&& (1 : Int32)) = (0 : Int32) then (0 : Int32) else (1 : Int32))), .val (.int (if (p2 &&& (2 : Int32)) = (0 : Int32) then (0 : Int32) else (1 : Int32))), .val (.int (if (p2 &&& (4 : Int32)) = (0 : Int32) then (0 : Int32) else (1 : Int32))), .val (.int (if (p2 &&& (8 : Int32)) = (0 : Int32) then (0 : Int32) else (1 : Int32))), .val (.int (own_nn p2)), .val (.long (own_t0 q2)), .second, .val (.long (own_t1 q2 p1)), .second, .val (.long (own_t2 q2 p1)), .second, .val (.long (own_t3 q2 p1)), .second, .val (.ref b14), .val (.long (own_recv (nar .boolean (if (p2 &&& (2 : Int32)) = (0 : Int32) then (0 : Int32) else (1 : Int32))) (own_lost (1 : Int32) (own_t0 q2) (own_fr q1) (own_t1 q2 p1)) (own_rec (1 : Int32) (own_fr q1) (own_t0 q2) (own_lost (0 : Int32) (0 : Int64) (own_fr q1) (own_t0 q2)) (nar .boolean (if (p2 &&& (1 : Int32)) = (0 : Int32) then (0 : Int32) else (1 : Int32))) (own_rec (0 : Int32) (own_fr q1) (0 : Int64) (0 : Int32) (0 : Int32) (0 : Int64) (own_t0 q2)) (own_t1 q2 p1)))), .second, .unset, .unset, .unset, .unset, .unset]
def lc0_29 (q1 : Int64) (q2 : Int64) (p1 : Int32) (p2 : Int32) (b14 : Addr) : Array Slot := #[.val (.long q1), .second, .val (.long q2), .second, .val (.int p1), .val (.int p2), .val (.long (own_fr q1)), .second, .val (.long (own_d1 p1)), .second, .val (.long (own_d2 p1)), .second, .val (.long (own_d3 p1)), .second, .val (.int (if (p2 &&& (1 : Int32)) = (0 : Int32) then (0 : Int32) else (1 : Int32))), .val (.int (if (p2 &&& (2 : Int32)) = (0 : Int32) then (0 : Int32) else (1 : Int32))), .val (.int (if (p2 &&& (4 : Int32)) = (0 : Int32) then (0 : Int32) else (1 : Int32))), .val (.int (if (p2 &&& (8 : Int32)) = (0 : Int32) then (0 : Int32) else (1 : Int32))), .val (.int (own_nn p2)), .val (.long (own_t0 q2)), .second, .val (.long (own_t1 q2 p1)), .second, .val (.long (own_t2 q2 p1)), .second, .val (.long (own_t3 q2 p1)), .second, .val (.ref b14), .val (.long (own_recv (nar .boolean (if (p2 &&& (2 : Int32)) = (0 : Int32) then (0 : Int32) else (1 : Int32))) (own_lost (1 : Int32) (own_t0 q2) (own_fr q1) (own_t1 q2 p1)) (own_rec (1 : Int32) (own_fr q1) (own_t0 q2) (own_lost (0 : Int32) (0 : Int64) (own_fr q1) (own_t0 q2)) (nar .boolean (if (p2 &&& (1 : Int32)) = (0 : Int32) then (0 : Int32) else (1 : Int32))) (own_rec (0 : Int32) (own_fr q1) (0 : Int64) (0 : Int32) (0 : Int32) (0 : Int64) (own_t0 q2)) (own_t1 q2 p1)))), .second, .val (.int (if (own_d1 p1) < (own_fr q1) then (1 : Int32) else (0 : Int32))), .unset, .unset, .unset, .unset]
def lc0_30 (q1 : Int64) (q2 : Int64) (p1 : Int32) (p2 : Int32) (b14 : Addr) : Array Slot := #[.val (.long q1), .second, .val (.long q2), .second, .val (.int p1), .val (.int p2), .val (.long (own_fr q1)), .second, .val (.long (own_d1 p1)), .second, .val (.long (own_d2 p1)), .second, .val (.long (own_d3 p1)), .second, .val (.int (if (p2 &&& (1 : Int32)) = (0 : Int32) then (0 : Int32) else (1 : Int32))), .val (.int (if (p2 &&& (2 : Int32)) = (0 : Int32) then (0 : Int32) else (1 : Int32))), .val (.int (if (p2 &&& (4 : Int32)) = (0 : Int32) then (0 : Int32) else (1 : Int32))), .val (.int (if (p2 &&& (8 : Int32)) = (0 : Int32) then (0 : Int32) else (1 : Int32))), .val (.int (own_nn p2)), .val (.long (own_t0 q2)), .second, .val (.long (own_t1 q2 p1)), .second, .val (.long (own_t2 q2 p1)), .second, .val (.long (own_t3 q2 p1)), .second, .val (.ref b14), .val (.long (own_recv (nar .boolean (if (p2 &&& (2 : Int32)) = (0 : Int32) then (0 : Int32) else (1 : Int32))) (own_lost (1 : Int32) (own_t0 q2) (own_fr q1) (own_t1 q2 p1)) (own_rec (1 : Int32) (own_fr q1) (own_t0 q2) (own_lost (0 : Int32) (0 : Int64) (own_fr q1) (own_t0 q2)) (nar .boolean (if (p2 &&& (1 : Int32)) = (0 : Int32) then (0 : Int32) else (1 : Int32))) (own_rec (0 : Int32) (own_fr q1) (0 : Int64) (0 : Int32) (0 : Int32) (0 : Int64) (own_t0 q2)) (own_t1 q2 p1)))), .second, .val (.int (if (own_d1 p1) < (own_fr q1) then (1 : Int32) else (0 : Int32))), .val (.int (0 : Int32)), .unset, .unset, .unset]
def lc0_31 (q1 : Int64) (q2 : Int64) (p1 : Int32) (p2 : Int32) (b14 : Addr) : Array Slot := #[.val (.long q1), .second, .val (.long q2), .second, .val (.int p1), .val (.int p2), .val (.long (own_fr q1)), .second, .val (.long (own_d1 p1)), .second, .val (.long (own_d2 p1)), .second, .val (.long (own_d3 p1)), .second, .val (.int (if (p2 &&& (1 : Int32)) = (0 : Int32) then (0 : Int32) else (1 : Int32))), .val (.int (if (p2 &&& (2 : Int32)) = (0 : Int32) then (0 : Int32) else (1 : Int32))), .val (.int (if (p2 &&& (4 : Int32)) = (0 : Int32) then (0 : Int32) else (1 : Int32))), .val (.int (if (p2 &&& (8 : Int32)) = (0 : Int32) then (0 : Int32) else (1 : Int32))), .val (.int (own_nn p2)), .val (.long (own_t0 q2)), .second, .val (.long (own_t1 q2 p1)), .second, .val (.long (own_t2 q2 p1)), .second, .val (.long (own_t3 q2 p1)), .second, .val (.ref b14), .val (.long (own_recv (nar .boolean (if (p2 &&& (2 : Int32)) = (0 : Int32) then (0 : Int32) else (1 : Int32))) (own_lost (1 : Int32) (own_t0 q2) (own_fr q1) (own_t1 q2 p1)) (own_rec (1 : Int32) (own_fr q1) (own_t0 q2) (own_lost (0 : Int32) (0 : Int64) (own_fr q1) (own_t0 q2)) (nar .boolean (if (p2 &&& (1 : Int32)) = (0 : Int32) then (0 : Int32) else (1 : Int32))) (own_rec (0 : Int32) (own_fr q1) (0 : Int64) (0 : Int32) (0 : Int32) (0 : Int64) (own_t0 q2)) (own_t1 q2 p1)))), .second, .val (.int (if (own_d1 p1) < (own_fr q1) then (1 : Int32) else (0 : Int32))), .val (.int (0 : Int32)), .val (.int (0 : Int32)), .unset, .unset]
def lc0_32 (q1 : Int64) (q2 : Int64) (p1 : Int32) (p2 : Int32) (b14 : Addr) : Array Slot := #[.val (.long q1), .second, .val (.long q2), .second, .val (.int p1), .val (.int p2), .val (.long (own_fr q1)), .second, .val (.long (own_d1 p1)), .second, .val (.long (own_d2 p1)), .second, .val (.long (own_d3 p1)), .second, .val (.int (if (p2 &&& (1 : Int32)) = (0 : Int32) then (0 : Int32) else (1 : Int32))), .val (.int (if (p2 &&& (2 : Int32)) = (0 : Int32) then (0 : Int32) else (1 : Int32))), .val (.int (if (p2 &&& (4 : Int32)) = (0 : Int32) then (0 : Int32) else (1 : Int32))), .val (.int (if (p2 &&& (8 : Int32)) = (0 : Int32) then (0 : Int32) else (1 : Int32))), .val (.int (own_nn p2)), .val (.long (own_t0 q2)), .second, .val (.long (own_t1 q2 p1)), .second, .val (.long (own_t2 q2 p1)), .second, .val (.long (own_t3 q2 p1)), .second, .val (.ref b14), .val (.long (own_recv (nar .boolean (if (p2 &&& (2 : Int32)) = (0 : Int32) then (0 : Int32) else (1 : Int32))) (own_lost (1 : Int32) (own_t0 q2) (own_fr q1) (own_t1 q2 p1)) (own_rec (1 : Int32) (own_fr q1) (own_t0 q2) (own_lost (0 : Int32) (0 : Int64) (own_fr q1) (own_t0 q2)) (nar .boolean (if (p2 &&& (1 : Int32)) = (0 : Int32) then (0 : Int32) else (1 : Int32))) (own_rec (0 : Int32) (own_fr q1) (0 : Int64) (0 : Int32) (0 : Int32) (0 : Int64) (own_t0 q2)) (own_t1 q2 p1)))), .second, .val (.int (if (own_d1 p1) < (own_fr q1) then (1 : Int32) else (0 : Int32))), .val (.int (0 : Int32)), .val (.int (0 : Int32)), .val (.long (0 : Int64)), .second]
def lc0_33 (q1 : Int64) (q2 : Int64) (p1 : Int32) (p2 : Int32) (b14 : Addr) : Array Slot := #[.val (.long q1), .second, .val (.long q2), .second, .val (.int p1), .val (.int p2), .val (.long (own_fr q1)), .second, .val (.long (own_d1 p1)), .second, .val (.long (own_d2 p1)), .second, .val (.long (own_d3 p1)), .second, .val (.int (if (p2 &&& (1 : Int32)) = (0 : Int32) then (0 : Int32) else (1 : Int32))), .val (.int (if (p2 &&& (2 : Int32)) = (0 : Int32) then (0 : Int32) else (1 : Int32))), .val (.int (if (p2 &&& (4 : Int32)) = (0 : Int32) then (0 : Int32) else (1 : Int32))), .val (.int (if (p2 &&& (8 : Int32)) = (0 : Int32) then (0 : Int32) else (1 : Int32))), .val (.int (own_nn p2)), .val (.long (own_t0 q2)), .second, .val (.long (own_t1 q2 p1)), .second, .val (.long (own_t2 q2 p1)), .second, .val (.long (own_t3 q2 p1)), .second, .val (.ref b14), .val (.long (own_recv (nar .boolean (if (p2 &&& (2 : Int32)) = (0 : Int32) then (0 : Int32) else (1 : Int32))) (own_lost (1 : Int32) (own_t0 q2) (own_fr q1) (own_t1 q2 p1)) (own_rec (1 : Int32) (own_fr q1) (own_t0 q2) (own_lost (0 : Int32) (0 : Int64) (own_fr q1) (own_t0 q2)) (nar .boolean (if (p2 &&& (1 : Int32)) = (0 : Int32) then (0 : Int32) else (1 : Int32))) (own_rec (0 : Int32) (own_fr q1) (0 : Int64) (0 : Int32) (0 : Int32) (0 : Int64) (own_t0 q2)) (own_t1 q2 p1)))), .second, .val (.int (if (own_d1 p1) < (own_fr q1) then (1 : Int32) else (0 : Int32))), .val (.int (0 : Int32)), .val (.int (0 : Int32)), .val (.long ((0 : Int64) + (1 : Int64))), .second]
def lc0_34 (q1 : Int64) (q2 : Int64) (p1 : Int32) (p2 : Int32) (b14 : Addr) (xJ : Int64) : Array Slot := #[.val (.long q1), .second, .val (.long q2), .second, .val (.int p1), .val (.int p2), .val (.long (own_fr q1)), .second, .val (.long (own_d1 p1)), .second, .val (.long (own_d2 p1)), .second, .val (.long (own_d3 p1)), .second, .val (.int (if (p2 &&& (1 : Int32)) = (0 : Int32) then (0 : Int32) else (1 : Int32))), .val (.int (if (p2 &&& (2 : Int32)) = (0 : Int32) then (0 : Int32) else (1 : Int32))), .val (.int (if (p2 &&& (4 : Int32)) = (0 : Int32) then (0 : Int32) else (1 : Int32))), .val (.int (if (p2 &&& (8 : Int32)) = (0 : Int32) then (0 : Int32) else (1 : Int32))), .val (.int (own_nn p2)), .val (.long (own_t0 q2)), .second, .val (.long (own_t1 q2 p1)), .second, .val (.long (own_t2 q2 p1)), .second, .val (.long (own_t3 q2 p1)), .second, .val (.ref b14), .val (.long (own_recv (nar .boolean (if (p2 &&& (2 : Int32)) = (0 : Int32) then (0 : Int32) else (1 : Int32))) (own_lost (1 : Int32) (own_t0 q2) (own_fr q1) (own_t1 q2 p1)) (own_rec (1 : Int32) (own_fr q1) (own_t0 q2) (own_lost (0 : Int32) (0 : Int64) (own_fr q1) (own_t0 q2)) (nar .boolean (if (p2 &&& (1 : Int32)) = (0 : Int32) then (0 : Int32) else (1 : Int32))) (own_rec (0 : Int32) (own_fr q1) (0 : Int64) (0 : Int32) (0 : Int32) (0 : Int64) (own_t0 q2)) (own_t1 q2 p1)))), .second, .val (.int (if (own_d1 p1) < (own_fr q1) then (1 : Int32) else (0 : Int32))), .val (.int (0 : Int32)), .val (.int (0 : Int32)), .val (.long xJ), .second]
def lc0_35 (q1 : Int64) (q2 : Int64) (p1 : Int32) (p2 : Int32) (b14 : Addr) : Array Slot := #[.val (.long q1), .second, .val (.long q2), .second, .val (.int p1), .val (.int p2), .val (.long (own_fr q1)), .second, .val (.long (own_d1 p1)), .second, .val (.long (own_d2 p1)), .second, .val (.long (own_d3 p1)), .second, .val (.int (if (p2 &&& (1 : Int32)) = (0 : Int32) then (0 : Int32) else (1 : Int32))), .val (.int (if (p2 &&& (2 : Int32)) = (0 : Int32) then (0 : Int32) else (1 : Int32))), .val (.int (if (p2 &&& (4 : Int32)) = (0 : Int32) then (0 : Int32) else (1 : Int32))), .val (.int (if (p2 &&& (8 : Int32)) = (0 : Int32) then (0 : Int32) else (1 : Int32))), .val (.int (own_nn p2)), .val (.long (own_t0 q2)), .second, .val (.long (own_t1 q2 p1)), .second, .val (.long (own_t2 q2 p1)), .second, .val (.long (own_t3 q2 p1)), .second, .val (.ref b14), .val (.long (own_recv (nar .boolean (if (p2 &&& (2 : Int32)) = (0 : Int32) then (0 : Int32) else (1 : Int32))) (own_lost (1 : Int32) (own_t0 q2) (own_fr q1) (own_t1 q2 p1)) (own_rec (1 : Int32) (own_fr q1) (own_t0 q2) (own_lost (0 : Int32) (0 : Int64) (own_fr q1) (own_t0 q2)) (nar .boolean (if (p2 &&& (1 : Int32)) = (0 : Int32) then (0 : Int32) else (1 : Int32))) (own_rec (0 : Int32) (own_fr q1) (0 : Int64) (0 : Int32) (0 : Int32) (0 : Int64) (own_t0 q2)) (own_t1 q2 p1)))), .second, .val (.int (if (own_d1 p1) < (own_fr q1) then (1 : Int32) else (0 : Int32))), .val (.int (0 : Int32)), .val (.int (0 : Int32)), .val (.long (own_k2 (0 : Int64) ((p2 &&& (1 : Int32)) = (0 : Int32)) ((own_d1 p1) < (own_fr q1)))), .second]
def lc0_36 (q1 : Int64) (q2 : Int64) (p1 : Int32) (p2 : Int32) (b14 : Addr) : Array Slot := #[.val (.long q1), .second, .val (.long q2), .second, .val (.int p1), .val (.int p2), .val (.long (own_fr q1)), .second, .val (.long (own_d1 p1)), .second, .val (.long (own_d2 p1)), .second, .val (.long (own_d3 p1)), .second, .val (.int (if (p2 &&& (1 : Int32)) = (0 : Int32) then (0 : Int32) else (1 : Int32))), .val (.int (if (p2 &&& (2 : Int32)) = (0 : Int32) then (0 : Int32) else (1 : Int32))), .val (.int (if (p2 &&& (4 : Int32)) = (0 : Int32) then (0 : Int32) else (1 : Int32))), .val (.int (if (p2 &&& (8 : Int32)) = (0 : Int32) then (0 : Int32) else (1 : Int32))), .val (.int (own_nn p2)), .val (.long (own_t0 q2)), .second, .val (.long (own_t1 q2 p1)), .second, .val (.long (own_t2 q2 p1)), .second, .val (.long (own_t3 q2 p1)), .second, .val (.ref b14), .val (.long (own_recv (nar .boolean (if (p2 &&& (2 : Int32)) = (0 : Int32) then (0 : Int32) else (1 : Int32))) (own_lost (1 : Int32) (own_t0 q2) (own_fr q1) (own_t1 q2 p1)) (own_rec (1 : Int32) (own_fr q1) (own_t0 q2) (own_lost (0 : Int32) (0 : Int64) (own_fr q1) (own_t0 q2)) (nar .boolean (if (p2 &&& (1 : Int32)) = (0 : Int32) then (0 : Int32) else (1 : Int32))) (own_rec (0 : Int32) (own_fr q1) (0 : Int64) (0 : Int32) (0 : Int32) (0 : Int64) (own_t0 q2)) (own_t1 q2 p1)))), .second, .val (.int (if (own_d1 p1) < (own_fr q1) then (1 : Int32) else (0 : Int32))), .val (.int (0 : Int32)), .val (.int (0 : Int32)), .val (.long ((own_k2 (0 : Int64) ((p2 &&& (1 : Int32)) = (0 : Int32)) ((own_d1 p1) < (own_fr q1))) + (1 : Int64))), .second]
def lc0_37 (q1 : Int64) (q2 : Int64) (p1 : Int32) (p2 : Int32) (b14 : Addr) : Array Slot := #[.val (.long q1), .second, .val (.long q2), .second, .val (.int p1), .val (.int p2), .val (.long (own_fr q1)), .second, .val (.long (own_d1 p1)), .second, .val (.long (own_d2 p1)), .second, .val (.long (own_d3 p1)), .second, .val (.int (if (p2 &&& (1 : Int32)) = (0 : Int32) then (0 : Int32) else (1 : Int32))), .val (.int (if (p2 &&& (2 : Int32)) = (0 : Int32) then (0 : Int32) else (1 : Int32))), .val (.int (if (p2 &&& (4 : Int32)) = (0 : Int32) then (0 : Int32) else (1 : Int32))), .val (.int (if (p2 &&& (8 : Int32)) = (0 : Int32) then (0 : Int32) else (1 : Int32))), .val (.int (own_nn p2)), .val (.long (own_t0 q2)), .second, .val (.long (own_t1 q2 p1)), .second, .val (.long (own_t2 q2 p1)), .second, .val (.long (own_t3 q2 p1)), .second, .val (.ref b14), .val (.long (own_recv (nar .boolean (if (p2 &&& (2 : Int32)) = (0 : Int32) then (0 : Int32) else (1 : Int32))) (own_lost (1 : Int32) (own_t0 q2) (own_fr q1) (own_t1 q2 p1)) (own_rec (1 : Int32) (own_fr q1) (own_t0 q2) (own_lost (0 : Int32) (0 : Int64) (own_fr q1) (own_t0 q2)) (nar .boolean (if (p2 &&& (1 : Int32)) = (0 : Int32) then (0 : Int32) else (1 : Int32))) (own_rec (0 : Int32) (own_fr q1) (0 : Int64) (0 : Int32) (0 : Int32) (0 : Int64) (own_t0 q2)) (own_t1 q2 p1)))), .second, .val (.int (if (own_d1 p1) < (own_fr q1) then (1 : Int32) else (0 : Int32))), .val (.int (0 : Int32)), .val (.int (0 : Int32)), .val (.long (own_k2 (own_k2 (0 : Int64) ((p2 &&& (1 : Int32)) = (0 : Int32)) ((own_d1 p1) < (own_fr q1))) ((p2 &&& (2 : Int32)) = (0 : Int32)) ((own_d1 p1) < (own_fr q1)))), .second]
def lc0_38 (q1 : Int64) (q2 : Int64) (p1 : Int32) (p2 : Int32) (b14 : Addr) : Array Slot := #[.val (.long q1), .second, .val (.long q2), .second, .val (.int p1), .val (.int p2), .val (.long (own_fr q1)), .second, .val (.long (own_d1 p1)), .second, .val (.long (own_d2 p1)), .second, .val (.long (own_d3 p1)), .second, .val (.int (if (p2 &&& (1 : Int32)) = (0 : Int32) then (0 : Int32) else (1 : Int32))), .val (.int (if (p2 &&& (2 : Int32)) = (0 : Int32) then (0 : Int32) else (1 : Int32))), .val (.int (if (p2 &&& (4 : Int32)) = (0 : Int32) then (0 : Int32) else (1 : Int32))), .val (.int (if (p2 &&& (8 : Int32)) = (0 : Int32) then (0 : Int32) else (1 : Int32))), .val (.int (own_nn p2)), .val (.long (own_t0 q2)), .second, .val (.long (own_t1 q2 p1)), .second, .val (.long (own_t2 q2 p1)), .second, .val (.long (own_t3 q2 p1)), .second, .val (.ref b14), .val (.long (own_recv (nar .boolean (if (p2 &&& (4 : Int32)) = (0 : Int32) then (0 : Int32) else (1 : Int32))) (own_lost (1 : Int32) (own_t1 q2 p1) (own_fr q1) (own_t2 q2 p1)) (own_rec (1 : Int32) (own_fr q1) (own_t1 q2 p1) (own_lost (1 : Int32) (own_t0 q2) (own_fr q1) (own_t1 q2 p1)) (nar .boolean (if (p2 &&& (2 : Int32)) = (0 : Int32) then (0 : Int32) else (1 : Int32))) (own_rec (1 : Int32) (own_fr q1) (own_t0 q2) (own_lost (0 : Int32) (0 : Int64) (own_fr q1) (own_t0 q2)) (nar .boolean (if (p2 &&& (1 : Int32)) = (0 : Int32) then (0 : Int32) else (1 : Int32))) (own_rec (0 : Int32) (own_fr q1) (0 : Int64) (0 : Int32) (0 : Int32) (0 : Int64) (own_t0 q2)) (own_t1 q2 p1)) (own_t2 q2 p1)))), .second, .unset, .unset, .unset, .unset, .unset]
def lc0_39 (q1 : Int64) (q2 : Int64) (p1 : Int32) (p2 : Int32) (b14 : Addr) : Array Slot := #[.val (.long q1), .second, .val (.long q2), .second, .val (.int p1), .val (.int p2), .val (.long (own_fr q1)), .second, .val (.long (own_d1 p1)), .second, .val (.long (own_d2 p1)), .second, .val (.long (own_d3 p1)), .second, .val (.int (if (p2 &&& (1 : Int32)) = (0 : Int32) then (0 : Int32) else (1 : Int32))), .val (.int (if (p2 &&& (2 : Int32)) = (0 : Int32) then (0 : Int32) else (1 : Int32))), .val (.int (if (p2 &&& (4 : Int32)) = (0 : Int32) then (0 : Int32) else (1 : Int32))), .val (.int (if (p2 &&& (8 : Int32)) = (0 : Int32) then (0 : Int32) else (1 : Int32))), .val (.int (own_nn p2)), .val (.long (own_t0 q2)), .second, .val (.long (own_t1 q2 p1)), .second, .val (.long (own_t2 q2 p1)), .second, .val (.long (own_t3 q2 p1)), .second, .val (.ref b14), .val (.long (own_recv (nar .boolean (if (p2 &&& (4 : Int32)) = (0 : Int32) then (0 : Int32) else (1 : Int32))) (own_lost (1 : Int32) (own_t1 q2 p1) (own_fr q1) (own_t2 q2 p1)) (own_rec (1 : Int32) (own_fr q1) (own_t1 q2 p1) (own_lost (1 : Int32) (own_t0 q2) (own_fr q1) (own_t1 q2 p1)) (nar .boolean (if (p2 &&& (2 : Int32)) = (0 : Int32) then (0 : Int32) else (1 : Int32))) (own_rec (1 : Int32) (own_fr q1) (own_t0 q2) (own_lost (0 : Int32) (0 : Int64) (own_fr q1) (own_t0 q2)) (nar .boolean (if (p2 &&& (1 : Int32)) = (0 : Int32) then (0 : Int32) else (1 : Int32))) (own_rec (0 : Int32) (own_fr q1) (0 : Int64) (0 : Int32) (0 : Int32) (0 : Int64) (own_t0 q2)) (own_t1 q2 p1)) (own_t2 q2 p1)))), .second, .val (.int (if (own_d1 p1) < (own_fr q1) then (1 : Int32) else (0 : Int32))), .unset, .unset, .unset, .unset]
def lc0_40 (q1 : Int64) (q2 : Int64) (p1 : Int32) (p2 : Int32) (b14 : Addr) : Array Slot := #[.val (.long q1), .second, .val (.long q2), .second, .val (.int p1), .val (.int p2), .val (.long (own_fr q1)), .second, .val (.long (own_d1 p1)), .second, .val (.long (own_d2 p1)), .second, .val (.long (own_d3 p1)), .second, .val (.int (if (p2 &&& (1 : Int32)) = (0 : Int32) then (0 : Int32) else (1 : Int32))), .val (.int (if (p2 &&& (2 : Int32)) = (0 : Int32) then (0 : Int32) else (1 : Int32))), .val (.int (if (p2 &&& (4 : Int32)) = (0 : Int32) then (0 : Int32) else (1 : Int32))), .val (.int (if (p2 &&& (8 : Int32)) = (0 : Int32) then (0 : Int32) else (1 : Int32))), .val (.int (own_nn p2)), .val (.long (own_t0 q2)), .second, .val (.long (own_t1 q2 p1)), .second, .val (.long (own_t2 q2 p1)), .second, .val (.long (own_t3 q2 p1)), .second, .val (.ref b14), .val (.long (own_recv (nar .boolean (if (p2 &&& (4 : Int32)) = (0 : Int32) then (0 : Int32) else (1 : Int32))) (own_lost (1 : Int32) (own_t1 q2 p1) (own_fr q1) (own_t2 q2 p1)) (own_rec (1 : Int32) (own_fr q1) (own_t1 q2 p1) (own_lost (1 : Int32) (own_t0 q2) (own_fr q1) (own_t1 q2 p1)) (nar .boolean (if (p2 &&& (2 : Int32)) = (0 : Int32) then (0 : Int32) else (1 : Int32))) (own_rec (1 : Int32) (own_fr q1) (own_t0 q2) (own_lost (0 : Int32) (0 : Int64) (own_fr q1) (own_t0 q2)) (nar .boolean (if (p2 &&& (1 : Int32)) = (0 : Int32) then (0 : Int32) else (1 : Int32))) (own_rec (0 : Int32) (own_fr q1) (0 : Int64) (0 : Int32) (0 : Int32) (0 : Int64) (own_t0 q2)) (own_t1 q2 p1)) (own_t2 q2 p1)))), .second, .val (.int (if (own_d1 p1) < (own_fr q1) then (1 : Int32) else (0 : Int32))), .val (.int (if (own_d2 p1) < (own_fr q1) then (1 : Int32) else (0 : Int32))), .unset, .unset, .unset]
def lc0_41 (q1 : Int64) (q2 : Int64) (p1 : Int32) (p2 : Int32) (b14 : Addr) : Array Slot := #[.val (.long q1), .second, .val (.long q2), .second, .val (.int p1), .val (.int p2), .val (.long (own_fr q1)), .second, .val (.long (own_d1 p1)), .second, .val (.long (own_d2 p1)), .second, .val (.long (own_d3 p1)), .second, .val (.int (if (p2 &&& (1 : Int32)) = (0 : Int32) then (0 : Int32) else (1 : Int32))), .val (.int (if (p2 &&& (2 : Int32)) = (0 : Int32) then (0 : Int32) else (1 : Int32))), .val (.int (if (p2 &&& (4 : Int32)) = (0 : Int32) then (0 : Int32) else (1 : Int32))), .val (.int (if (p2 &&& (8 : Int32)) = (0 : Int32) then (0 : Int32) else (1 : Int32))), .val (.int (own_nn p2)), .val (.long (own_t0 q2)), .second, .val (.long (own_t1 q2 p1)), .second, .val (.long (own_t2 q2 p1)), .second, .val (.long (own_t3 q2 p1)), .second, .val (.ref b14), .val (.long (own_recv (nar .boolean (if (p2 &&& (4 : Int32)) = (0 : Int32) then (0 : Int32) else (1 : Int32))) (own_lost (1 : Int32) (own_t1 q2 p1) (own_fr q1) (own_t2 q2 p1)) (own_rec (1 : Int32) (own_fr q1) (own_t1 q2 p1) (own_lost (1 : Int32) (own_t0 q2) (own_fr q1) (own_t1 q2 p1)) (nar .boolean (if (p2 &&& (2 : Int32)) = (0 : Int32) then (0 : Int32) else (1 : Int32))) (own_rec (1 : Int32) (own_fr q1) (own_t0 q2) (own_lost (0 : Int32) (0 : Int64) (own_fr q1) (own_t0 q2)) (nar .boolean (if (p2 &&& (1 : Int32)) = (0 : Int32) then (0 : Int32) else (1 : Int32))) (own_rec (0 : Int32) (own_fr q1) (0 : Int64) (0 : Int32) (0 : Int32) (0 : Int64) (own_t0 q2)) (own_t1 q2 p1)) (own_t2 q2 p1)))), .second, .val (.int (if (own_d1 p1) < (own_fr q1) then (1 : Int32) else (0 : Int32))), .val (.int (if (own_d2 p1) < (own_fr q1) then (1 : Int32) else (0 : Int32))), .val (.int (0 : Int32)), .unset, .unset]
def lc0_42 (q1 : Int64) (q2 : Int64) (p1 : Int32) (p2 : Int32) (b14 : Addr) : Array Slot := #[.val (.long q1), .second, .val (.long q2), .second, .val (.int p1), .val (.int p2), .val (.long (own_fr q1)), .second, .val (.long (own_d1 p1)), .second, .val (.long (own_d2 p1)), .second, .val (.long (own_d3 p1)), .second, .val (.int (if (p2 &&& (1 : Int32)) = (0 : Int32) then (0 : Int32) else (1 : Int32))), .val (.int (if (p2 &&& (2 : Int32)) = (0 : Int32) then (0 : Int32) else (1 : Int32))), .val (.int (if (p2 &&& (4 : Int32)) = (0 : Int32) then (0 : Int32) else (1 : Int32))), .val (.int (if (p2 &&& (8 : Int32)) = (0 : Int32) then (0 : Int32) else (1 : Int32))), .val (.int (own_nn p2)), .val (.long (own_t0 q2)), .second, .val (.long (own_t1 q2 p1)), .second, .val (.long (own_t2 q2 p1)), .second, .val (.long (own_t3 q2 p1)), .second, .val (.ref b14), .val (.long (own_recv (nar .boolean (if (p2 &&& (4 : Int32)) = (0 : Int32) then (0 : Int32) else (1 : Int32))) (own_lost (1 : Int32) (own_t1 q2 p1) (own_fr q1) (own_t2 q2 p1)) (own_rec (1 : Int32) (own_fr q1) (own_t1 q2 p1) (own_lost (1 : Int32) (own_t0 q2) (own_fr q1) (own_t1 q2 p1)) (nar .boolean (if (p2 &&& (2 : Int32)) = (0 : Int32) then (0 : Int32) else (1 : Int32))) (own_rec (1 : Int32) (own_fr q1) (own_t0 q2) (own_lost (0 : Int32) (0 : Int64) (own_fr q1) (own_t0 q2)) (nar .boolean (if (p2 &&& (1 : Int32)) = (0 : Int32) then (0 : Int32) else (1 : Int32))) (own_rec (0 : Int32) (own_fr q1) (0 : Int64) (0 : Int32) (0 : Int32) (0 : Int64) (own_t0 q2)) (own_t1 q2 p1)) (own_t2 q2 p1)))), .second, .val (.int (if (own_d1 p1) < (own_fr q1) then (1 : Int32) else (0 : Int32))), .val (.int (if (own_d2 p1) < (own_fr q1) then (1 : Int32) else (0 : Int32))), .val (.int (0 : Int32)), .val (.long (0 : Int64)), .second]
def lc0_43 (q1 : Int64) (q2 : Int64) (p1 : Int32) (p2 : Int32) (b14 : Addr) : Array Slot := #[.val (.long q1), .second, .val (.long q2), .second, .val (.int p1), .val (.int p2), .val (.long (own_fr q1)), .second, .val (.long (own_d1 p1)), .second, .val (.long (own_d2 p1)), .second, .val (.long (own_d3 p1)), .second, .val (.int (if (p2 &&& (1 : Int32)) = (0 : Int32) then (0 : Int32) else (1 : Int32))), .val (.int (if (p2 &&& (2 : Int32)) = (0 : Int32) then (0 : Int32) else (1 : Int32))), .val (.int (if (p2 &&& (4 : Int32)) = (0 : Int32) then (0 : Int32) else (1 : Int32))), .val (.int (if (p2 &&& (8 : Int32)) = (0 : Int32) then (0 : Int32) else (1 : Int32))), .val (.int (own_nn p2)), .val (.long (own_t0 q2)), .second, .val (.long (own_t1 q2 p1)), .second, .val (.long (own_t2 q2 p1)), .second, .val (.long (own_t3 q2 p1)), .second, .val (.ref b14), .val (.long (own_recv (nar .boolean (if (p2 &&& (4 : Int32)) = (0 : Int32) then (0 : Int32) else (1 : Int32))) (own_lost (1 : Int32) (own_t1 q2 p1) (own_fr q1) (own_t2 q2 p1)) (own_rec (1 : Int32) (own_fr q1) (own_t1 q2 p1) (own_lost (1 : Int32) (own_t0 q2) (own_fr q1) (own_t1 q2 p1)) (nar .boolean (if (p2 &&& (2 : Int32)) = (0 : Int32) then (0 : Int32) else (1 : Int32))) (own_rec (1 : Int32) (own_fr q1) (own_t0 q2) (own_lost (0 : Int32) (0 : Int64) (own_fr q1) (own_t0 q2)) (nar .boolean (if (p2 &&& (1 : Int32)) = (0 : Int32) then (0 : Int32) else (1 : Int32))) (own_rec (0 : Int32) (own_fr q1) (0 : Int64) (0 : Int32) (0 : Int32) (0 : Int64) (own_t0 q2)) (own_t1 q2 p1)) (own_t2 q2 p1)))), .second, .val (.int (if (own_d1 p1) < (own_fr q1) then (1 : Int32) else (0 : Int32))), .val (.int (if (own_d2 p1) < (own_fr q1) then (1 : Int32) else (0 : Int32))), .val (.int (0 : Int32)), .val (.long ((0 : Int64) + (1 : Int64))), .second]
def lc0_44 (q1 : Int64) (q2 : Int64) (p1 : Int32) (p2 : Int32) (b14 : Addr) (xJ : Int64) : Array Slot := #[.val (.long q1), .second, .val (.long q2), .second, .val (.int p1), .val (.int p2), .val (.long (own_fr q1)), .second, .val (.long (own_d1 p1)), .second, .val (.long (own_d2 p1)), .second, .val (.long (own_d3 p1)), .second, .val (.int (if (p2 &&& (1 : Int32)) = (0 : Int32) then (0 : Int32) else (1 : Int32))), .val (.int (if (p2 &&& (2 : Int32)) = (0 : Int32) then (0 : Int32) else (1 : Int32))), .val (.int (if (p2 &&& (4 : Int32)) = (0 : Int32) then (0 : Int32) else (1 : Int32))), .val (.int (if (p2 &&& (8 : Int32)) = (0 : Int32) then (0 : Int32) else (1 : Int32))), .val (.int (own_nn p2)), .val (.long (own_t0 q2)), .second, .val (.long (own_t1 q2 p1)), .second, .val (.long (own_t2 q2 p1)), .second, .val (.long (own_t3 q2 p1)), .second, .val (.ref b14), .val (.long (own_recv (nar .boolean (if (p2 &&& (4 : Int32)) = (0 : Int32) then (0 : Int32) else (1 : Int32))) (own_lost (1 : Int32) (own_t1 q2 p1) (own_fr q1) (own_t2 q2 p1)) (own_rec (1 : Int32) (own_fr q1) (own_t1 q2 p1) (own_lost (1 : Int32) (own_t0 q2) (own_fr q1) (own_t1 q2 p1)) (nar .boolean (if (p2 &&& (2 : Int32)) = (0 : Int32) then (0 : Int32) else (1 : Int32))) (own_rec (1 : Int32) (own_fr q1) (own_t0 q2) (own_lost (0 : Int32) (0 : Int64) (own_fr q1) (own_t0 q2)) (nar .boolean (if (p2 &&& (1 : Int32)) = (0 : Int32) then (0 : Int32) else (1 : Int32))) (own_rec (0 : Int32) (own_fr q1) (0 : Int64) (0 : Int32) (0 : Int32) (0 : Int64) (own_t0 q2)) (own_t1 q2 p1)) (own_t2 q2 p1)))), .second, .val (.int (if (own_d1 p1) < (own_fr q1) then (1 : Int32) else (0 : Int32))), .val (.int (if (own_d2 p1) < (own_fr q1) then (1 : Int32) else (0 : Int32))), .val (.int (0 : Int32)), .val (.long xJ), .second]
def lc0_45 (q1 : Int64) (q2 : Int64) (p1 : Int32) (p2 : Int32) (b14 : Addr) : Array Slot := #[.val (.long q1), .second, .val (.long q2), .second, .val (.int p1), .val (.int p2), .val (.long (own_fr q1)), .second, .val (.long (own_d1 p1)), .second, .val (.long (own_d2 p1)), .second, .val (.long (own_d3 p1)), .second, .val (.int (if (p2 &&& (1 : Int32)) = (0 : Int32) then (0 : Int32) else (1 : Int32))), .val (.int (if (p2 &&& (2 : Int32)) = (0 : Int32) then (0 : Int32) else (1 : Int32))), .val (.int (if (p2 &&& (4 : Int32)) = (0 : Int32) then (0 : Int32) else (1 : Int32))), .val (.int (if (p2 &&& (8 : Int32)) = (0 : Int32) then (0 : Int32) else (1 : Int32))), .val (.int (own_nn p2)), .val (.long (own_t0 q2)), .second, .val (.long (own_t1 q2 p1)), .second, .val (.long (own_t2 q2 p1)), .second, .val (.long (own_t3 q2 p1)), .second, .val (.ref b14), .val (.long (own_recv (nar .boolean (if (p2 &&& (4 : Int32)) = (0 : Int32) then (0 : Int32) else (1 : Int32))) (own_lost (1 : Int32) (own_t1 q2 p1) (own_fr q1) (own_t2 q2 p1)) (own_rec (1 : Int32) (own_fr q1) (own_t1 q2 p1) (own_lost (1 : Int32) (own_t0 q2) (own_fr q1) (own_t1 q2 p1)) (nar .boolean (if (p2 &&& (2 : Int32)) = (0 : Int32) then (0 : Int32) else (1 : Int32))) (own_rec (1 : Int32) (own_fr q1) (own_t0 q2) (own_lost (0 : Int32) (0 : Int64) (own_fr q1) (own_t0 q2)) (nar .boolean (if (p2 &&& (1 : Int32)) = (0 : Int32) then (0 : Int32) else (1 : Int32))) (own_rec (0 : Int32) (own_fr q1) (0 : Int64) (0 : Int32) (0 : Int32) (0 : Int64) (own_t0 q2)) (own_t1 q2 p1)) (own_t2 q2 p1)))), .second, .val (.int (if (own_d1 p1) < (own_fr q1) then (1 : Int32) else (0 : Int32))), .val (.int (if (own_d2 p1) < (own_fr q1) then (1 : Int32) else (0 : Int32))), .val (.int (0 : Int32)), .val (.long (own_k2 (0 : Int64) ((p2 &&& (1 : Int32)) = (0 : Int32)) ((own_d1 p1) < (own_fr q1)))), .second]
def lc0_46 (q1 : Int64) (q2 : Int64) (p1 : Int32) (p2 : Int32) (b14 : Addr) : Array Slot := #[.val (.long q1), .second, .val (.long q2), .second, .val (.int p1), .val (.int p2), .val (.long (own_fr q1)), .second, .val (.long (own_d1 p1)), .second, .val (.long (own_d2 p1)), .second, .val (.long (own_d3 p1)), .second, .val (.int (if (p2 &&& (1 : Int32)) = (0 : Int32) then (0 : Int32) else (1 : Int32))), .val (.int (if (p2 &&& (2 : Int32)) = (0 : Int32) then (0 : Int32) else (1 : Int32))), .val (.int (if (p2 &&& (4 : Int32)) = (0 : Int32) then (0 : Int32) else (1 : Int32))), .val (.int (if (p2 &&& (8 : Int32)) = (0 : Int32) then (0 : Int32) else (1 : Int32))), .val (.int (own_nn p2)), .val (.long (own_t0 q2)), .second, .val (.long (own_t1 q2 p1)), .second, .val (.long (own_t2 q2 p1)), .second, .val (.long (own_t3 q2 p1)), .second, .val (.ref b14), .val (.long (own_recv (nar .boolean (if (p2 &&& (4 : Int32)) = (0 : Int32) then (0 : Int32) else (1 : Int32))) (own_lost (1 : Int32) (own_t1 q2 p1) (own_fr q1) (own_t2 q2 p1)) (own_rec (1 : Int32) (own_fr q1) (own_t1 q2 p1) (own_lost (1 : Int32) (own_t0 q2) (own_fr q1) (own_t1 q2 p1)) (nar .boolean (if (p2 &&& (2 : Int32)) = (0 : Int32) then (0 : Int32) else (1 : Int32))) (own_rec (1 : Int32) (own_fr q1) (own_t0 q2) (own_lost (0 : Int32) (0 : Int64) (own_fr q1) (own_t0 q2)) (nar .boolean (if (p2 &&& (1 : Int32)) = (0 : Int32) then (0 : Int32) else (1 : Int32))) (own_rec (0 : Int32) (own_fr q1) (0 : Int64) (0 : Int32) (0 : Int32) (0 : Int64) (own_t0 q2)) (own_t1 q2 p1)) (own_t2 q2 p1)))), .second, .val (.int (if (own_d1 p1) < (own_fr q1) then (1 : Int32) else (0 : Int32))), .val (.int (if (own_d2 p1) < (own_fr q1) then (1 : Int32) else (0 : Int32))), .val (.int (0 : Int32)), .val (.long ((own_k2 (0 : Int64) ((p2 &&& (1 : Int32)) = (0 : Int32)) ((own_d1 p1) < (own_fr q1))) + (1 : Int64))), .second]
def lc0_47 (q1 : Int64) (q2 : Int64) (p1 : Int32) (p2 : Int32) (b14 : Addr) : Array Slot := #[.val (.long q1), .second, .val (.long q2), .second, .val (.int p1), .val (.int p2), .val (.long (own_fr q1)), .second, .val (.long (own_d1 p1)), .second, .val (.long (own_d2 p1)), .second, .val (.long (own_d3 p1)), .second, .val (.int (if (p2 &&& (1 : Int32)) = (0 : Int32) then (0 : Int32) else (1 : Int32))), .val (.int (if (p2 &&& (2 : Int32)) = (0 : Int32) then (0 : Int32) else (1 : Int32))), .val (.int (if (p2 &&& (4 : Int32)) = (0 : Int32) then (0 : Int32) else (1 : Int32))), .val (.int (if (p2 &&& (8 : Int32)) = (0 : Int32) then (0 : Int32) else (1 : Int32))), .val (.int (own_nn p2)), .val (.long (own_t0 q2)), .second, .val (.long (own_t1 q2 p1)), .second, .val (.long (own_t2 q2 p1)), .second, .val (.long (own_t3 q2 p1)), .second, .val (.ref b14), .val (.long (own_recv (nar .boolean (if (p2 &&& (4 : Int32)) = (0 : Int32) then (0 : Int32) else (1 : Int32))) (own_lost (1 : Int32) (own_t1 q2 p1) (own_fr q1) (own_t2 q2 p1)) (own_rec (1 : Int32) (own_fr q1) (own_t1 q2 p1) (own_lost (1 : Int32) (own_t0 q2) (own_fr q1) (own_t1 q2 p1)) (nar .boolean (if (p2 &&& (2 : Int32)) = (0 : Int32) then (0 : Int32) else (1 : Int32))) (own_rec (1 : Int32) (own_fr q1) (own_t0 q2) (own_lost (0 : Int32) (0 : Int64) (own_fr q1) (own_t0 q2)) (nar .boolean (if (p2 &&& (1 : Int32)) = (0 : Int32) then (0 : Int32) else (1 : Int32))) (own_rec (0 : Int32) (own_fr q1) (0 : Int64) (0 : Int32) (0 : Int32) (0 : Int64) (own_t0 q2)) (own_t1 q2 p1)) (own_t2 q2 p1)))), .second, .val (.int (if (own_d1 p1) < (own_fr q1) then (1 : Int32) else (0 : Int32))), .val (.int (if (own_d2 p1) < (own_fr q1) then (1 : Int32) else (0 : Int32))), .val (.int (0 : Int32)), .val (.long (own_k3 (own_k2 (0 : Int64) ((p2 &&& (1 : Int32)) = (0 : Int32)) ((own_d1 p1) < (own_fr q1))) ((p2 &&& (2 : Int32)) = (0 : Int32)) ((own_d1 p1) < (own_fr q1)) ((own_d2 p1) < (own_fr q1)))), .second]
def lc0_48 (q1 : Int64) (q2 : Int64) (p1 : Int32) (p2 : Int32) (b14 : Addr) : Array Slot := #[.val (.long q1), .second, .val (.long q2), .second, .val (.int p1), .val (.int p2), .val (.long (own_fr q1)), .second, .val (.long (own_d1 p1)), .second, .val (.long (own_d2 p1)), .second, .val (.long (own_d3 p1)), .second, .val (.int (if (p2 &&& (1 : Int32)) = (0 : Int32) then (0 : Int32) else (1 : Int32))), .val (.int (if (p2 &&& (2 : Int32)) = (0 : Int32) then (0 : Int32) else (1 : Int32))), .val (.int (if (p2 &&& (4 : Int32)) = (0 : Int32) then (0 : Int32) else (1 : Int32))), .val (.int (if (p2 &&& (8 : Int32)) = (0 : Int32) then (0 : Int32) else (1 : Int32))), .val (.int (own_nn p2)), .val (.long (own_t0 q2)), .second, .val (.long (own_t1 q2 p1)), .second, .val (.long (own_t2 q2 p1)), .second, .val (.long (own_t3 q2 p1)), .second, .val (.ref b14), .val (.long (own_recv (nar .boolean (if (p2 &&& (4 : Int32)) = (0 : Int32) then (0 : Int32) else (1 : Int32))) (own_lost (1 : Int32) (own_t1 q2 p1) (own_fr q1) (own_t2 q2 p1)) (own_rec (1 : Int32) (own_fr q1) (own_t1 q2 p1) (own_lost (1 : Int32) (own_t0 q2) (own_fr q1) (own_t1 q2 p1)) (nar .boolean (if (p2 &&& (2 : Int32)) = (0 : Int32) then (0 : Int32) else (1 : Int32))) (own_rec (1 : Int32) (own_fr q1) (own_t0 q2) (own_lost (0 : Int32) (0 : Int64) (own_fr q1) (own_t0 q2)) (nar .boolean (if (p2 &&& (1 : Int32)) = (0 : Int32) then (0 : Int32) else (1 : Int32))) (own_rec (0 : Int32) (own_fr q1) (0 : Int64) (0 : Int32) (0 : Int32) (0 : Int64) (own_t0 q2)) (own_t1 q2 p1)) (own_t2 q2 p1)))), .second, .val (.int (if (own_d1 p1) < (own_fr q1) then (1 : Int32) else (0 : Int32))), .val (.int (if (own_d2 p1) < (own_fr q1) then (1 : Int32) else (0 : Int32))), .val (.int (0 : Int32)), .val (.long ((own_k3 (own_k2 (0 : Int64) ((p2 &&& (1 : Int32)) = (0 : Int32)) ((own_d1 p1) < (own_fr q1))) ((p2 &&& (2 : Int32)) = (0 : Int32)) ((own_d1 p1) < (own_fr q1)) ((own_d2 p1) < (own_fr q1))) + (1 : Int64))), .second]
def lc0_49 (q1 : Int64) (q2 : Int64) (p1 : Int32) (p2 : Int32) (b14 : Addr) : Array Slot := #[.val (.long q1), .second, .val (.long q2), .second, .val (.int p1), .val (.int p2), .val (.long (own_fr q1)), .second, .val (.long (own_d1 p1)), .second, .val (.long (own_d2 p1)), .second, .val (.long (own_d3 p1)), .second, .val (.int (if (p2 &&& (1 : Int32)) = (0 : Int32) then (0 : Int32) else (1 : Int32))), .val (.int (if (p2 &&& (2 : Int32)) = (0 : Int32) then (0 : Int32) else (1 : Int32))), .val (.int (if (p2 &&& (4 : Int32)) = (0 : Int32) then (0 : Int32) else (1 : Int32))), .val (.int (if (p2 &&& (8 : Int32)) = (0 : Int32) then (0 : Int32) else (1 : Int32))), .val (.int (own_nn p2)), .val (.long (own_t0 q2)), .second, .val (.long (own_t1 q2 p1)), .second, .val (.long (own_t2 q2 p1)), .second, .val (.long (own_t3 q2 p1)), .second, .val (.ref b14), .val (.long (own_recv (nar .boolean (if (p2 &&& (4 : Int32)) = (0 : Int32) then (0 : Int32) else (1 : Int32))) (own_lost (1 : Int32) (own_t1 q2 p1) (own_fr q1) (own_t2 q2 p1)) (own_rec (1 : Int32) (own_fr q1) (own_t1 q2 p1) (own_lost (1 : Int32) (own_t0 q2) (own_fr q1) (own_t1 q2 p1)) (nar .boolean (if (p2 &&& (2 : Int32)) = (0 : Int32) then (0 : Int32) else (1 : Int32))) (own_rec (1 : Int32) (own_fr q1) (own_t0 q2) (own_lost (0 : Int32) (0 : Int64) (own_fr q1) (own_t0 q2)) (nar .boolean (if (p2 &&& (1 : Int32)) = (0 : Int32) then (0 : Int32) else (1 : Int32))) (own_rec (0 : Int32) (own_fr q1) (0 : Int64) (0 : Int32) (0 : Int32) (0 : Int64) (own_t0 q2)) (own_t1 q2 p1)) (own_t2 q2 p1)))), .second, .val (.int (if (own_d1 p1) < (own_fr q1) then (1 : Int32) else (0 : Int32))), .val (.int (if (own_d2 p1) < (own_fr q1) then (1 : Int32) else (0 : Int32))), .val (.int (0 : Int32)), .val (.long (own_k2 (own_k3 (own_k2 (0 : Int64) ((p2 &&& (1 : Int32)) = (0 : Int32)) ((own_d1 p1) < (own_fr q1))) ((p2 &&& (2 : Int32)) = (0 : Int32)) ((own_d1 p1) < (own_fr q1)) ((own_d2 p1) < (own_fr q1))) ((p2 &&& (4 : Int32)) = (0 : Int32)) ((own_d2 p1) < (own_fr q1)))), .second]
def lc0_50 (q1 : Int64) (q2 : Int64) (p1 : Int32) (p2 : Int32) (b14 : Addr) : Array Slot := #[.val (.long q1), .second, .val (.long q2), .second, .val (.int p1), .val (.int p2), .val (.long (own_fr q1)), .second, .val (.long (own_d1 p1)), .second, .val (.long (own_d2 p1)), .second, .val (.long (own_d3 p1)), .second, .val (.int (if (p2 &&& (1 : Int32)) = (0 : Int32) then (0 : Int32) else (1 : Int32))), .val (.int (if (p2 &&& (2 : Int32)) = (0 : Int32) then (0 : Int32) else (1 : Int32))), .val (.int (if (p2 &&& (4 : Int32)) = (0 : Int32) then (0 : Int32) else (1 : Int32))), .val (.int (if (p2 &&& (8 : Int32)) = (0 : Int32) then (0 : Int32) else (1 : Int32))), .val (.int (own_nn p2)), .val (.long (own_t0 q2)), .second, .val (.long (own_t1 q2 p1)), .second, .val (.long (own_t2 q2 p1)), .second, .val (.long (own_t3 q2 p1)), .second, .val (.ref b14), .val (.long (own_recv (nar .boolean (if (p2 &&& (8 : Int32)) = (0 : Int32) then (0 : Int32) else (1 : Int32))) (own_lost (1 : Int32) (own_t2 q2 p1) (own_fr q1) (own_t3 q2 p1)) (own_rec (1 : Int32) (own_fr q1) (own_t2 q2 p1) (own_lost (1 : Int32) (own_t1 q2 p1) (own_fr q1) (own_t2 q2 p1)) (nar .boolean (if (p2 &&& (4 : Int32)) = (0 : Int32) then (0 : Int32) else (1 : Int32))) (own_rec (1 : Int32) (own_fr q1) (own_t1 q2 p1) (own_lost (1 : Int32) (own_t0 q2) (own_fr q1) (own_t1 q2 p1)) (nar .boolean (if (p2 &&& (2 : Int32)) = (0 : Int32) then (0 : Int32) else (1 : Int32))) (own_rec (1 : Int32) (own_fr q1) (own_t0 q2) (own_lost (0 : Int32) (0 : Int64) (own_fr q1) (own_t0 q2)) (nar .boolean (if (p2 &&& (1 : Int32)) = (0 : Int32) then (0 : Int32) else (1 : Int32))) (own_rec (0 : Int32) (own_fr q1) (0 : Int64) (0 : Int32) (0 : Int32) (0 : Int64) (own_t0 q2)) (own_t1 q2 p1)) (own_t2 q2 p1)) (own_t3 q2 p1)))), .second, .unset, .unset, .unset, .unset, .unset]
def lc0_51 (q1 : Int64) (q2 : Int64) (p1 : Int32) (p2 : Int32) (b14 : Addr) : Array Slot := #[.val (.long q1), .second, .val (.long q2), .second, .val (.int p1), .val (.int p2), .val (.long (own_fr q1)), .second, .val (.long (own_d1 p1)), .second, .val (.long (own_d2 p1)), .second, .val (.long (own_d3 p1)), .second, .val (.int (if (p2 &&& (1 : Int32)) = (0 : Int32) then (0 : Int32) else (1 : Int32))), .val (.int (if (p2 &&& (2 : Int32)) = (0 : Int32) then (0 : Int32) else (1 : Int32))), .val (.int (if (p2 &&& (4 : Int32)) = (0 : Int32) then (0 : Int32) else (1 : Int32))), .val (.int (if (p2 &&& (8 : Int32)) = (0 : Int32) then (0 : Int32) else (1 : Int32))), .val (.int (own_nn p2)), .val (.long (own_t0 q2)), .second, .val (.long (own_t1 q2 p1)), .second, .val (.long (own_t2 q2 p1)), .second, .val (.long (own_t3 q2 p1)), .second, .val (.ref b14), .val (.long (own_recv (nar .boolean (if (p2 &&& (8 : Int32)) = (0 : Int32) then (0 : Int32) else (1 : Int32))) (own_lost (1 : Int32) (own_t2 q2 p1) (own_fr q1) (own_t3 q2 p1)) (own_rec (1 : Int32) (own_fr q1) (own_t2 q2 p1) (own_lost (1 : Int32) (own_t1 q2 p1) (own_fr q1) (own_t2 q2 p1)) (nar .boolean (if (p2 &&& (4 : Int32)) = (0 : Int32) then (0 : Int32) else (1 : Int32))) (own_rec (1 : Int32) (own_fr q1) (own_t1 q2 p1) (own_lost (1 : Int32) (own_t0 q2) (own_fr q1) (own_t1 q2 p1)) (nar .boolean (if (p2 &&& (2 : Int32)) = (0 : Int32) then (0 : Int32) else (1 : Int32))) (own_rec (1 : Int32) (own_fr q1) (own_t0 q2) (own_lost (0 : Int32) (0 : Int64) (own_fr q1) (own_t0 q2)) (nar .boolean (if (p2 &&& (1 : Int32)) = (0 : Int32) then (0 : Int32) else (1 : Int32))) (own_rec (0 : Int32) (own_fr q1) (0 : Int64) (0 : Int32) (0 : Int32) (0 : Int64) (own_t0 q2)) (own_t1 q2 p1)) (own_t2 q2 p1)) (own_t3 q2 p1)))), .second, .val (.int (if (own_d1 p1) < (own_fr q1) then (1 : Int32) else (0 : Int32))), .unset, .unset, .unset, .unset]
def lc0_52 (q1 : Int64) (q2 : Int64) (p1 : Int32) (p2 : Int32) (b14 : Addr) : Array Slot := #[.val (.long q1), .second, .val (.long q2), .second, .val (.int p1), .val (.int p2), .val (.long (own_fr q1)), .second, .val (.long (own_d1 p1)), .second, .val (.long (own_d2 p1)), .second, .val (.long (own_d3 p1)), .second, .val (.int (if (p2 &&& (1 : Int32)) = (0 : Int32) then (0 : Int32) else (1 : Int32))), .val (.int (if (p2 &&& (2 : Int32)) = (0 : Int32) then (0 : Int32) else (1 : Int32))), .val (.int (if (p2 &&& (4 : Int32)) = (0 : Int32) then (0 : Int32) else (1 : Int32))), .val (.int (if (p2 &&& (8 : Int32)) = (0 : Int32) then (0 : Int32) else (1 : Int32))), .val (.int (own_nn p2)), .val (.long (own_t0 q2)), .second, .val (.long (own_t1 q2 p1)), .second, .val (.long (own_t2 q2 p1)), .second, .val (.long (own_t3 q2 p1)), .second, .val (.ref b14), .val (.long (own_recv (nar .boolean (if (p2 &&& (8 : Int32)) = (0 : Int32) then (0 : Int32) else (1 : Int32))) (own_lost (1 : Int32) (own_t2 q2 p1) (own_fr q1) (own_t3 q2 p1)) (own_rec (1 : Int32) (own_fr q1) (own_t2 q2 p1) (own_lost (1 : Int32) (own_t1 q2 p1) (own_fr q1) (own_t2 q2 p1)) (nar .boolean (if (p2 &&& (4 : Int32)) = (0 : Int32) then (0 : Int32) else (1 : Int32))) (own_rec (1 : Int32) (own_fr q1) (own_t1 q2 p1) (own_lost (1 : Int32) (own_t0 q2) (own_fr q1) (own_t1 q2 p1)) (nar .boolean (if (p2 &&& (2 : Int32)) = (0 : Int32) then (0 : Int32) else (1 : Int32))) (own_rec (1 : Int32) (own_fr q1) (own_t0 q2) (own_lost (0 : Int32) (0 : Int64) (own_fr q1) (own_t0 q2)) (nar .boolean (if (p2 &&& (1 : Int32)) = (0 : Int32) then (0 : Int32) else (1 : Int32))) (own_rec (0 : Int32) (own_fr q1) (0 : Int64) (0 : Int32) (0 : Int32) (0 : Int64) (own_t0 q2)) (own_t1 q2 p1)) (own_t2 q2 p1)) (own_t3 q2 p1)))), .second, .val (.int (if (own_d1 p1) < (own_fr q1) then (1 : Int32) else (0 : Int32))), .val (.int (if (own_d2 p1) < (own_fr q1) then (1 : Int32) else (0 : Int32))), .unset, .unset, .unset]
def lc0_53 (q1 : Int64) (q2 : Int64) (p1 : Int32) (p2 : Int32) (b14 : Addr) : Array Slot := #[.val (.long q1), .second, .val (.long q2), .second, .val (.int p1), .val (.int p2), .val (.long (own_fr q1)), .second, .val (.long (own_d1 p1)), .second, .val (.long (own_d2 p1)), .second, .val (.long (own_d3 p1)), .second, .val (.int (if (p2 &&& (1 : Int32)) = (0 : Int32) then (0 : Int32) else (1 : Int32))), .val (.int (if (p2 &&& (2 : Int32)) = (0 : Int32) then (0 : Int32) else (1 : Int32))), .val (.int (if (p2 &&& (4 : Int32)) = (0 : Int32) then (0 : Int32) else (1 : Int32))), .val (.int (if (p2 &&& (8 : Int32)) = (0 : Int32) then (0 : Int32) else (1 : Int32))), .val (.int (own_nn p2)), .val (.long (own_t0 q2)), .second, .val (.long (own_t1 q2 p1)), .second, .val (.long (own_t2 q2 p1)), .second, .val (.long (own_t3 q2 p1)), .second, .val (.ref b14), .val (.long (own_recv (nar .boolean (if (p2 &&& (8 : Int32)) = (0 : Int32) then (0 : Int32) else (1 : Int32))) (own_lost (1 : Int32) (own_t2 q2 p1) (own_fr q1) (own_t3 q2 p1)) (own_rec (1 : Int32) (own_fr q1) (own_t2 q2 p1) (own_lost (1 : Int32) (own_t1 q2 p1) (own_fr q1) (own_t2 q2 p1)) (nar .boolean (if (p2 &&& (4 : Int32)) = (0 : Int32) then (0 : Int32) else (1 : Int32))) (own_rec (1 : Int32) (own_fr q1) (own_t1 q2 p1) (own_lost (1 : Int32) (own_t0 q2) (own_fr q1) (own_t1 q2 p1)) (nar .boolean (if (p2 &&& (2 : Int32)) = (0 : Int32) then (0 : Int32) else (1 : Int32))) (own_rec (1 : Int32) (own_fr q1) (own_t0 q2) (own_lost (0 : Int32) (0 : Int64) (own_fr q1) (own_t0 q2)) (nar .boolean (if (p2 &&& (1 : Int32)) = (0 : Int32) then (0 : Int32) else (1 : Int32))) (own_rec (0 : Int32) (own_fr q1) (0 : Int64) (0 : Int32) (0 : Int32) (0 : Int64) (own_t0 q2)) (own_t1 q2 p1)) (own_t2 q2 p1)) (own_t3 q2 p1)))), .second, .val (.int (if (own_d1 p1) < (own_fr q1) then (1 : Int32) else (0 : Int32))), .val (.int (if (own_d2 p1) < (own_fr q1) then (1 : Int32) else (0 : Int32))), .val (.int (if (own_d3 p1) < (own_fr q1) then (1 : Int32) else (0 : Int32))), .unset, .unset]
def lc0_54 (q1 : Int64) (q2 : Int64) (p1 : Int32) (p2 : Int32) (b14 : Addr) : Array Slot := #[.val (.long q1), .second, .val (.long q2), .second, .val (.int p1), .val (.int p2), .val (.long (own_fr q1)), .second, .val (.long (own_d1 p1)), .second, .val (.long (own_d2 p1)), .second, .val (.long (own_d3 p1)), .second, .val (.int (if (p2 &&& (1 : Int32)) = (0 : Int32) then (0 : Int32) else (1 : Int32))), .val (.int (if (p2 &&& (2 : Int32)) = (0 : Int32) then (0 : Int32) else (1 : Int32))), .val (.int (if (p2 &&& (4 : Int32)) = (0 : Int32) then (0 : Int32) else (1 : Int32))), .val (.int (if (p2 &&& (8 : Int32)) = (0 : Int32) then (0 : Int32) else (1 : Int32))), .val (.int (own_nn p2)), .val (.long (own_t0 q2)), .second, .val (.long (own_t1 q2 p1)), .second, .val (.long (own_t2 q2 p1)), .second, .val (.long (own_t3 q2 p1)), .second, .val (.ref b14), .val (.long (own_recv (nar .boolean (if (p2 &&& (8 : Int32)) = (0 : Int32) then (0 : Int32) else (1 : Int32))) (own_lost (1 : Int32) (own_t2 q2 p1) (own_fr q1) (own_t3 q2 p1)) (own_rec (1 : Int32) (own_fr q1) (own_t2 q2 p1) (own_lost (1 : Int32) (own_t1 q2 p1) (own_fr q1) (own_t2 q2 p1)) (nar .boolean (if (p2 &&& (4 : Int32)) = (0 : Int32) then (0 : Int32) else (1 : Int32))) (own_rec (1 : Int32) (own_fr q1) (own_t1 q2 p1) (own_lost (1 : Int32) (own_t0 q2) (own_fr q1) (own_t1 q2 p1)) (nar .boolean (if (p2 &&& (2 : Int32)) = (0 : Int32) then (0 : Int32) else (1 : Int32))) (own_rec (1 : Int32) (own_fr q1) (own_t0 q2) (own_lost (0 : Int32) (0 : Int64) (own_fr q1) (own_t0 q2)) (nar .boolean (if (p2 &&& (1 : Int32)) = (0 : Int32) then (0 : Int32) else (1 : Int32))) (own_rec (0 : Int32) (own_fr q1) (0 : Int64) (0 : Int32) (0 : Int32) (0 : Int64) (own_t0 q2)) (own_t1 q2 p1)) (own_t2 q2 p1)) (own_t3 q2 p1)))), .second, .val (.int (if (own_d1 p1) < (own_fr q1) then (1 : Int32) else (0 : Int32))), .val (.int (if (own_d2 p1) < (own_fr q1) then (1 : Int32) else (0 : Int32))), .val (.int (if (own_d3 p1) < (own_fr q1) then (1 : Int32) else (0 : Int32))), .val (.long (0 : Int64)), .second]
def lc0_55 (q1 : Int64) (q2 : Int64) (p1 : Int32) (p2 : Int32) (b14 : Addr) : Array Slot := #[.val (.long q1), .second, .val (.long q2), .second, .val (.int p1), .val (.int p2), .val (.long (own_fr q1)), .second, .val (.long (own_d1 p1)), .second, .val (.long (own_d2 p1)), .second, .val (.long (own_d3 p1)), .second, .val (.int (if (p2 &&& (1 : Int32)) = (0 : Int32) then (0 : Int32) else (1 : Int32))), .val (.int (if (p2 &&& (2 : Int32)) = (0 : Int32) then (0 : Int32) else (1 : Int32))), .val (.int (if (p2 &&& (4 : Int32)) = (0 : Int32) then (0 : Int32) else (1 : Int32))), .val (.int (if (p2 &&& (8 : Int32)) = (0 : Int32) then (0 : Int32) else (1 : Int32))), .val (.int (own_nn p2)), .val (.long (own_t0 q2)), .second, .val (.long (own_t1 q2 p1)), .second, .val (.long (own_t2 q2 p1)), .second, .val (.long (own_t3 q2 p1)), .second, .val (.ref b14), .val (.long (own_recv (nar .boolean (if (p2 &&& (8 : Int32)) = (0 : Int32) then (0 : Int32) else (1 : Int32))) (own_lost (1 : Int32) (own_t2 q2 p1) (own_fr q1) (own_t3 q2 p1)) (own_rec (1 : Int32) (own_fr q1) (own_t2 q2 p1) (own_lost (1 : Int32) (own_t1 q2 p1) (own_fr q1) (own_t2 q2 p1)) (nar .boolean (if (p2 &&& (4 : Int32)) = (0 : Int32) then (0 : Int32) else (1 : Int32))) (own_rec (1 : Int32) (own_fr q1) (own_t1 q2 p1) (own_lost (1 : Int32) (own_t0 q2) (own_fr q1) (own_t1 q2 p1)) (nar .boolean (if (p2 &&& (2 : Int32)) = (0 : Int32) then (0 : Int32) else (1 : Int32))) (own_rec (1 : Int32) (own_fr q1) (own_t0 q2) (own_lost (0 : Int32) (0 : Int64) (own_fr q1) (own_t0 q2)) (nar .boolean (if (p2 &&& (1 : Int32)) = (0 : Int32) then (0 : Int32) else (1 : Int32))) (own_rec (0 : Int32) (own_fr q1) (0 : Int64) (0 : Int32) (0 : Int32) (0 : Int64) (own_t0 q2)) (own_t1 q2 p1)) (own_t2 q2 p1)) (own_t3 q2 p1)))), .second, .val (.int (if (own_d1 p1) < (own_fr q1) then (1 : Int32) else (0 : Int32))), .val (.int (if (own_d2 p1) < (own_fr q1) then (1 : Int32) else (0 : Int32))), .val (.int (if (own_d3 p1) < (own_fr q1) then (1 : Int32) else (0 : Int32))), .val (.long ((0 : Int64) + (1 : Int64))), .second]
def lc0_56 (q1 : Int64) (q2 : Int64) (p1 : Int32) (p2 : Int32) (b14 : Addr) (xJ : Int64) : Array Slot := #[.val (.long q1), .second, .val (.long q2), .second, .val (.int p1), .val (.int p2), .val (.long (own_fr q1)), .second, .val (.long (own_d1 p1)), .second, .val (.long (own_d2 p1)), .second, .val (.long (own_d3 p1)), .second, .val (.int (if (p2 &&& (1 : Int32)) = (0 : Int32) then (0 : Int32) else (1 : Int32))), .val (.int (if (p2 &&& (2 : Int32)) = (0 : Int32) then (0 : Int32) else (1 : Int32))), .val (.int (if (p2 &&& (4 : Int32)) = (0 : Int32) then (0 : Int32) else (1 : Int32))), .val (.int (if (p2 &&& (8 : Int32)) = (0 : Int32) then (0 : Int32) else (1 : Int32))), .val (.int (own_nn p2)), .val (.long (own_t0 q2)), .second, .val (.long (own_t1 q2 p1)), .second, .val (.long (own_t2 q2 p1)), .second, .val (.long (own_t3 q2 p1)), .second, .val (.ref b14), .val (.long (own_recv (nar .boolean (if (p2 &&& (8 : Int32)) = (0 : Int32) then (0 : Int32) else (1 : Int32))) (own_lost (1 : Int32) (own_t2 q2 p1) (own_fr q1) (own_t3 q2 p1)) (own_rec (1 : Int32) (own_fr q1) (own_t2 q2 p1) (own_lost (1 : Int32) (own_t1 q2 p1) (own_fr q1) (own_t2 q2 p1)) (nar .boolean (if (p2 &&& (4 : Int32)) = (0 : Int32) then (0 : Int32) else (1 : Int32))) (own_rec (1 : Int32) (own_fr q1) (own_t1 q2 p1) (own_lost (1 : Int32) (own_t0 q2) (own_fr q1) (own_t1 q2 p1)) (nar .boolean (if (p2 &&& (2 : Int32)) = (0 : Int32) then (0 : Int32) else (1 : Int32))) (own_rec (1 : Int32) (own_fr q1) (own_t0 q2) (own_lost (0 : Int32) (0 : Int64) (own_fr q1) (own_t0 q2)) (nar .boolean (if (p2 &&& (1 : Int32)) = (0 : Int32) then (0 : Int32) else (1 : Int32))) (own_rec (0 : Int32) (own_fr q1) (0 : Int64) (0 : Int32) (0 : Int32) (0 : Int64) (own_t0 q2)) (own_t1 q2 p1)) (own_t2 q2 p1)) (own_t3 q2 p1)))), .second, .val (.int (if (own_d1 p1) < (own_fr q1) then (1 : Int32) else (0 : Int32))), .val (.int (if (own_d2 p1) < (own_fr q1) then (1 : Int32) else (0 : Int32))), .val (.int (if (own_d3 p1) < (own_fr q1) then (1 : Int32) else (0 : Int32))), .val (.long xJ), .second]
def lc0_57 (q1 : Int64) (q2 : Int64) (p1 : Int32) (p2 : Int32) (b14 : Addr) : Array Slot := #[.val (.long q1), .second, .val (.long q2), .second, .val (.int p1), .val (.int p2), .val (.long (own_fr q1)), .second, .val (.long (own_d1 p1)), .second, .val (.long (own_d2 p1)), .second, .val (.long (own_d3 p1)), .second, .val (.int (if (p2 &&& (1 : Int32)) = (0 : Int32) then (0 : Int32) else (1 : Int32))), .val (.int (if (p2 &&& (2 : Int32)) = (0 : Int32) then (0 : Int32) else (1 : Int32))), .val (.int (if (p2 &&& (4 : Int32)) = (0 : Int32) then (0 : Int32) else (1 : Int32))), .val (.int (if (p2 &&& (8 : Int32)) = (0 : Int32) then (0 : Int32) else (1 : Int32))), .val (.int (own_nn p2)), .val (.long (own_t0 q2)), .second, .val (.long (own_t1 q2 p1)), .second, .val (.long (own_t2 q2 p1)), .second, .val (.long (own_t3 q2 p1)), .second, .val (.ref b14), .val (.long (own_recv (nar .boolean (if (p2 &&& (8 : Int32)) = (0 : Int32) then (0 : Int32) else (1 : Int32))) (own_lost (1 : Int32) (own_t2 q2 p1) (own_fr q1) (own_t3 q2 p1)) (own_rec (1 : Int32) (own_fr q1) (own_t2 q2 p1) (own_lost (1 : Int32) (own_t1 q2 p1) (own_fr q1) (own_t2 q2 p1)) (nar .boolean (if (p2 &&& (4 : Int32)) = (0 : Int32) then (0 : Int32) else (1 : Int32))) (own_rec (1 : Int32) (own_fr q1) (own_t1 q2 p1) (own_lost (1 : Int32) (own_t0 q2) (own_fr q1) (own_t1 q2 p1)) (nar .boolean (if (p2 &&& (2 : Int32)) = (0 : Int32) then (0 : Int32) else (1 : Int32))) (own_rec (1 : Int32) (own_fr q1) (own_t0 q2) (own_lost (0 : Int32) (0 : Int64) (own_fr q1) (own_t0 q2)) (nar .boolean (if (p2 &&& (1 : Int32)) = (0 : Int32) then (0 : Int32) else (1 : Int32))) (own_rec (0 : Int32) (own_fr q1) (0 : Int64) (0 : Int32) (0 : Int32) (0 : Int64) (own_t0 q2)) (own_t1 q2 p1)) (own_t2 q2 p1)) (own_t3 q2 p1)))), .second, .val (.int (if (own_d1 p1) < (own_fr q1) then (1 : Int32) else (0 : Int32))), .val (.int (if (own_d2 p1) < (own_fr q1) then (1 : Int32) else (0 : Int32))), .val (.int (if (own_d3 p1) < (own_fr q1) then (1 : Int32) else (0 : Int32))), .val (.long (own_k2 (0 : Int64) ((p2 &&& (1 : Int32)) = (0 : Int32)) ((own_d1 p1) < (own_fr q1)))), .second]
def lc0_58 (q1 : Int64) (q2 : Int64) (p1 : Int32) (p2 : Int32) (b14 : Addr) : Array Slot := #[.val (.long q1), .second, .val (.long q2), .second, .val (.int p1), .val (.int p2), .val (.long (own_fr q1)), .second, .val (.long (own_d1 p1)), .second, .val (.long (own_d2 p1)), .second, .val (.long (own_d3 p1)), .second, .val (.int (if (p2 &&& (1 : Int32)) = (0 : Int32) then (0 : Int32) else (1 : Int32))), .val (.int (if (p2 &&& (2 : Int32)) = (0 : Int32) then (0 : Int32) else (1 : Int32))), .val (.int (if (p2 &&& (4 : Int32)) = (0 : Int32) then (0 : Int32) else (1 : Int32))), .val (.int (if (p2 &&& (8 : Int32)) = (0 : Int32) then (0 : Int32) else (1 : Int32))), .val (.int (own_nn p2)), .val (.long (own_t0 q2)), .second, .val (.long (own_t1 q2 p1)), .second, .val (.long (own_t2 q2 p1)), .second, .val (.long (own_t3 q2 p1)), .second, .val (.ref b14), .val (.long (own_recv (nar .boolean (if (p2 &&& (8 : Int32)) = (0 : Int32) then (0 : Int32) else (1 : Int32))) (own_lost (1 : Int32) (own_t2 q2 p1) (own_fr q1) (own_t3 q2 p1)) (own_rec (1 : Int32) (own_fr q1) (own_t2 q2 p1) (own_lost (1 : Int32) (own_t1 q2 p1) (own_fr q1) (own_t2 q2 p1)) (nar .boolean (if (p2 &&& (4 : Int32)) = (0 : Int32) then (0 : Int32) else (1 : Int32))) (own_rec (1 : Int32) (own_fr q1) (own_t1 q2 p1) (own_lost (1 : Int32) (own_t0 q2) (own_fr q1) (own_t1 q2 p1)) (nar .boolean (if (p2 &&& (2 : Int32)) = (0 : Int32) then (0 : Int32) else (1 : Int32))) (own_rec (1 : Int32) (own_fr q1) (own_t0 q2) (own_lost (0 : Int32) (0 : Int64) (own_fr q1) (own_t0 q2)) (nar .boolean (if (p2 &&& (1 : Int32)) = (0 : Int32) then (0 : Int32) else (1 : Int32))) (own_rec (0 : Int32) (own_fr q1) (0 : Int64) (0 : Int32) (0 : Int32) (0 : Int64) (own_t0 q2)) (own_t1 q2 p1)) (own_t2 q2 p1)) (own_t3 q2 p1)))), .second, .val (.int (if (own_d1 p1) < (own_fr q1) then (1 : Int32) else (0 : Int32))), .val (.int (if (own_d2 p1) < (own_fr q1) then (1 : Int32) else (0 : Int32))), .val (.int (if (own_d3 p1) < (own_fr q1) then (1 : Int32) else (0 : Int32))), .val (.long ((own_k2 (0 : Int64) ((p2 &&& (1 : Int32)) = (0 : Int32)) ((own_d1 p1) < (own_fr q1))) + (1 : Int64))), .second]
def lc0_59 (q1 : Int64) (q2 : Int64) (p1 : Int32) (p2 : Int32) (b14 : Addr) : Array Slot := #[.val (.long q1), .second, .val (.long q2), .second, .val (.int p1), .val (.int p2), .val (.long (own_fr q1)), .second, .val (.long (own_d1 p1)), .second, .val (.long (own_d2 p1)), .second, .val (.long (own_d3 p1)), .second, .val (.int (if (p2 &&& (1 : Int32)) = (0 : Int32) then (0 : Int32) else (1 : Int32))), .val (.int (if (p2 &&& (2 : Int32)) = (0 : Int32) then (0 : Int32) else (1 : Int32))), .val (.int (if (p2 &&& (4 : Int32)) = (0 : Int32) then (0 : Int32) else (1 : Int32))), .val (.int (if (p2 &&& (8 : Int32)) = (0 : Int32) then (0 : Int32) else (1 : Int32))), .val (.int (own_nn p2)), .val (.long (own_t0 q2)), .second, .val (.long (own_t1 q2 p1)), .second, .val (.long (own_t2 q2 p1)), .second, .val (.long (own_t3 q2 p1)), .second, .val (.ref b14), .val (.long (own_recv (nar .boolean (if (p2 &&& (8 : Int32)) = (0 : Int32) then (0 : Int32) else (1 : Int32))) (own_lost (1 : Int32) (own_t2 q2 p1) (own_fr q1) (own_t3 q2 p1)) (own_rec (1 : Int32) (own_fr q1) (own_t2 q2 p1) (own_lost (1 : Int32) (own_t1 q2 p1) (own_fr q1) (own_t2 q2 p1)) (nar .boolean (if (p2 &&& (4 : Int32)) = (0 : Int32) then (0 : Int32) else (1 : Int32))) (own_rec (1 : Int32) (own_fr q1) (own_t1 q2 p1) (own_lost (1 : Int32) (own_t0 q2) (own_fr q1) (own_t1 q2 p1)) (nar .boolean (if (p2 &&& (2 : Int32)) = (0 : Int32) then (0 : Int32) else (1 : Int32))) (own_rec (1 : Int32) (own_fr q1) (own_t0 q2) (own_lost (0 : Int32) (0 : Int64) (own_fr q1) (own_t0 q2)) (nar .boolean (if (p2 &&& (1 : Int32)) = (0 : Int32) then (0 : Int32) else (1 : Int32))) (own_rec (0 : Int32) (own_fr q1) (0 : Int64) (0 : Int32) (0 : Int32) (0 : Int64) (own_t0 q2)) (own_t1 q2 p1)) (own_t2 q2 p1)) (own_t3 q2 p1)))), .second, .val (.int (if (own_d1 p1) < (own_fr q1) then (1 : Int32) else (0 : Int32))), .val (.int (if (own_d2 p1) < (own_fr q1) then (1 : Int32) else (0 : Int32))), .val (.int (if (own_d3 p1) < (own_fr q1) then (1 : Int32) else (0 : Int32))), .val (.long (own_k3 (own_k2 (0 : Int64) ((p2 &&& (1 : Int32)) = (0 : Int32)) ((own_d1 p1) < (own_fr q1))) ((p2 &&& (2 : Int32)) = (0 : Int32)) ((own_d1 p1) < (own_fr q1)) ((own_d2 p1) < (own_fr q1)))), .second]
def lc0_60 (q1 : Int64) (q2 : Int64) (p1 : Int32) (p2 : Int32) (b14 : Addr) : Array Slot := #[.val (.long q1), .second, .val (.long q2), .second, .val (.int p1), .val (.int p2), .val (.long (own_fr q1)), .second, .val (.long (own_d1 p1)), .second, .val (.long (own_d2 p1)), .second, .val (.long (own_d3 p1)), .second, .val (.int (if (p2 &&& (1 : Int32)) = (0 : Int32) then (0 : Int32) else (1 : Int32))), .val (.int (if (p2 &&& (2 : Int32)) = (0 : Int32) then (0 : Int32) else (1 : Int32))), .val (.int (if (p2 &&& (4 : Int32)) = (0 : Int32) then (0 : Int32) else (1 : Int32))), .val (.int (if (p2 &&& (8 : Int32)) = (0 : Int32) then (0 : Int32) else (1 : Int32))), .val (.int (own_nn p2)), .val (.long (own_t0 q2)), .second, .val (.long (own_t1 q2 p1)), .second, .val (.long (own_t2 q2 p1)), .second, .val (.long (own_t3 q2 p1)), .second, .val (.ref b14), .val (.long (own_recv (nar .boolean (if (p2 &&& (8 : Int32)) = (0 : Int32) then (0 : Int32) else (1 : Int32))) (own_lost (1 : Int32) (own_t2 q2 p1) (own_fr q1) (own_t3 q2 p1)) (own_rec (1 : Int32) (own_fr q1) (own_t2 q2 p1) (own_lost (1 : Int32) (own_t1 q2 p1) (own_fr q1) (own_t2 q2 p1)) (nar .boolean (if (p2 &&& (4 : Int32)) = (0 : Int32) then (0 : Int32) else (1 : Int32))) (own_rec (1 : Int32) (own_fr q1) (own_t1 q2 p1) (own_lost (1 : Int32) (own_t0 q2) (own_fr q1) (own_t1 q2 p1)) (nar .boolean (if (p2 &&& (2 : Int32)) = (0 : Int32) then (0 : Int32) else (1 : Int32))) (own_rec (1 : Int32) (own_fr q1) (own_t0 q2) (own_lost (0 : Int32) (0 : Int64) (own_fr q1) (own_t0 q2)) (nar .boolean (if (p2 &&& (1 : Int32)) = (0 : Int32) then (0 : Int32) else (1 : Int32))) (own_rec (0 : Int32) (own_fr q1) (0 : Int64) (0 : Int32) (0 : Int32) (0 : Int64) (own_t0 q2)) (own_t1 q2 p1)) (own_t2 q2 p1)) (own_t3 q2 p1)))), .second, .val (.int (if (own_d1 p1) < (own_fr q1) then (1 : Int32) else (0 : Int32))), .val (.int (if (own_d2 p1) < (own_fr q1) then (1 : Int32) else (0 : Int32))), .val (.int (if (own_d3 p1) < (own_fr q1) then (1 : Int32) else (0 : Int32))), .val (.long ((own_k3 (own_k2 (0 : Int64) ((p2 &&& (1 : Int32)) = (0 : Int32)) ((own_d1 p1) < (own_fr q1))) ((p2 &&& (2 : Int32)) = (0 : Int32)) ((own_d1 p1) < (own_fr q1)) ((own_d2 p1) < (own_fr q1))) + (1 : Int64))), .second]
def lc0_61 (q1 : Int64) (q2 : Int64) (p1 : Int32) (p2 : Int32) (b14 : Addr) : Array Slot := #[.val (.long q1), .second, .val (.long q2), .second, .val (.int p1), .val (.int p2), .val (.long (own_fr q1)), .second, .val (.long (own_d1 p1)), .second, .val (.long (own_d2 p1)), .second, .val (.long (own_d3 p1)), .second, .val (.int (if (p2 &&& (1 : Int32)) = (0 : Int32) then (0 : Int32) else (1 : Int32))), .val (.int (if (p2 &&& (2 : Int32)) = (0 : Int32) then (0 : Int32) else (1 : Int32))), .val (.int (if (p2 &&& (4 : Int32)) = (0 : Int32) then (0 : Int32) else (1 : Int32))), .val (.int (if (p2 &&& (8 : Int32)) = (0 : Int32) then (0 : Int32) else (1 : Int32))), .val (.int (own_nn p2)), .val (.long (own_t0 q2)), .second, .val (.long (own_t1 q2 p1)), .second, .val (.long (own_t2 q2 p1)), .second, .val (.long (own_t3 q2 p1)), .second, .val (.ref b14), .val (.long (own_recv (nar .boolean (if (p2 &&& (8 : Int32)) = (0 : Int32) then (0 : Int32) else (1 : Int32))) (own_lost (1 : Int32) (own_t2 q2 p1) (own_fr q1) (own_t3 q2 p1)) (own_rec (1 : Int32) (own_fr q1) (own_t2 q2 p1) (own_lost (1 : Int32) (own_t1 q2 p1) (own_fr q1) (own_t2 q2 p1)) (nar .boolean (if (p2 &&& (4 : Int32)) = (0 : Int32) then (0 : Int32) else (1 : Int32))) (own_rec (1 : Int32) (own_fr q1) (own_t1 q2 p1) (own_lost (1 : Int32) (own_t0 q2) (own_fr q1) (own_t1 q2 p1)) (nar .boolean (if (p2 &&& (2 : Int32)) = (0 : Int32) then (0 : Int32) else (1 : Int32))) (own_rec (1 : Int32) (own_fr q1) (own_t0 q2) (own_lost (0 : Int32) (0 : Int64) (own_fr q1) (own_t0 q2)) (nar .boolean (if (p2 &&& (1 : Int32)) = (0 : Int32) then (0 : Int32) else (1 : Int32))) (own_rec (0 : Int32) (own_fr q1) (0 : Int64) (0 : Int32) (0 : Int32) (0 : Int64) (own_t0 q2)) (own_t1 q2 p1)) (own_t2 q2 p1)) (own_t3 q2 p1)))), .second, .val (.int (if (own_d1 p1) < (own_fr q1) then (1 : Int32) else (0 : Int32))), .val (.int (if (own_d2 p1) < (own_fr q1) then (1 : Int32) else (0 : Int32))), .val (.int (if (own_d3 p1) < (own_fr q1) then (1 : Int32) else (0 : Int32))), .val (.long (own_k3 (own_k3 (own_k2 (0 : Int64) ((p2 &&& (1 : Int32)) = (0 : Int32)) ((own_d1 p1) < (own_fr q1))) ((p2 &&& (2 : Int32)) = (0 : Int32)) ((own_d1 p1) < (own_fr q1)) ((own_d2 p1) < (own_fr q1))) ((p2 &&& (4 : Int32)) = (0 : Int32)) ((own_d2 p1) < (own_fr q1)) ((own_d3 p1) < (own_fr q1)))), .second]
def lc0_62 (q1 : Int64) (q2 : Int64) (p1 : Int32) (p2 : Int32) (b14 : Addr) : Array Slot := #[.val (.long q1), .second, .val (.long q2), .second, .val (.int p1), .val (.int p2), .val (.long (own_fr q1)), .second, .val (.long (own_d1 p1)), .second, .val (.long (own_d2 p1)), .second, .val (.long (own_d3 p1)), .second, .val (.int (if (p2 &&& (1 : Int32)) = (0 : Int32) then (0 : Int32) else (1 : Int32))), .val (.int (if (p2 &&& (2 : Int32)) = (0 : Int32) then (0 : Int32) else (1 : Int32))), .val (.int (if (p2 &&& (4 : Int32)) = (0 : Int32) then (0 : Int32) else (1 : Int32))), .val (.int (if (p2 &&& (8 : Int32)) = (0 : Int32) then (0 : Int32) else (1 : Int32))), .val (.int (own_nn p2)), .val (.long (own_t0 q2)), .second, .val (.long (own_t1 q2 p1)), .second, .val (.long (own_t2 q2 p1)), .second, .val (.long (own_t3 q2 p1)), .second, .val (.ref b14), .val (.long (own_recv (nar .boolean (if (p2 &&& (8 : Int32)) = (0 : Int32) then (0 : Int32) else (1 : Int32))) (own_lost (1 : Int32) (own_t2 q2 p1) (own_fr q1) (own_t3 q2 p1)) (own_rec (1 : Int32) (own_fr q1) (own_t2 q2 p1) (own_lost (1 : Int32) (own_t1 q2 p1) (own_fr q1) (own_t2 q2 p1)) (nar .boolean (if (p2 &&& (4 : Int32)) = (0 : Int32) then (0 : Int32) else (1 : Int32))) (own_rec (1 : Int32) (own_fr q1) (own_t1 q2 p1) (own_lost (1 : Int32) (own_t0 q2) (own_fr q1) (own_t1 q2 p1)) (nar .boolean (if (p2 &&& (2 : Int32)) = (0 : Int32) then (0 : Int32) else (1 : Int32))) (own_rec (1 : Int32) (own_fr q1) (own_t0 q2) (own_lost (0 : Int32) (0 : Int64) (own_fr q1) (own_t0 q2)) (nar .boolean (if (p2 &&& (1 : Int32)) = (0 : Int32) then (0 : Int32) else (1 : Int32))) (own_rec (0 : Int32) (own_fr q1) (0 : Int64) (0 : Int32) (0 : Int32) (0 : Int64) (own_t0 q2)) (own_t1 q2 p1)) (own_t2 q2 p1)) (own_t3 q2 p1)))), .second, .val (.int (if (own_d1 p1) < (own_fr q1) then (1 : Int32) else (0 : Int32))), .val (.int (if (own_d2 p1) < (own_fr q1) then (1 : Int32) else (0 : Int32))), .val (.int (if (own_d3 p1) < (own_fr q1) then (1 : Int32) else (0 : Int32))), .val (.long ((own_k3 (own_k3 (own_k2 (0 : Int64) ((p2 &&& (1 : Int32)) = (0 : Int32)) ((own_d1 p1) < (own_fr q1))) ((p2 &&& (2 : Int32)) = (0 : Int32)) ((own_d1 p1) < (own_fr q1)) ((own_d2 p1) < (own_fr q1))) ((p2 &&& (4 : Int32)) = (0 : Int32)) ((own_d2 p1) < (own_fr q1)) ((own_d3 p1) < (own_fr q1))) + (1 : Int64))), .second]
def lc0_63 (q1 : Int64) (q2 : Int64) (p1 : Int32) (p2 : Int32) (b14 : Addr) : Array Slot := #[.val (.long q1), .second, .val (.long q2), .second, .val (.int p1), .val (.int p2), .val (.long (own_fr q1)), .second, .val (.long (own_d1 p1)), .second, .val (.long (own_d2 p1)), .second, .val (.long (own_d3 p1)), .second, .val (.int (if (p2 &&& (1 : Int32)) = (0 : Int32) then (0 : Int32) else (1 : Int32))), .val (.int (if (p2 &&& (2 : Int32)) = (0 : Int32) then (0 : Int32) else (1 : Int32))), .val (.int (if (p2 &&& (4 : Int32)) = (0 : Int32) then (0 : Int32) else (1 : Int32))), .val (.int (if (p2 &&& (8 : Int32)) = (0 : Int32) then (0 : Int32) else (1 : Int32))), .val (.int (own_nn p2)), .val (.long (own_t0 q2)), .second, .val (.long (own_t1 q2 p1)), .second, .val (.long (own_t2 q2 p1)), .second, .val (.long (own_t3 q2 p1)), .second, .val (.ref b14), .val (.long (own_recv (nar .boolean (if (p2 &&& (8 : Int32)) = (0 : Int32) then (0 : Int32) else (1 : Int32))) (own_lost (1 : Int32) (own_t2 q2 p1) (own_fr q1) (own_t3 q2 p1)) (own_rec (1 : Int32) (own_fr q1) (own_t2 q2 p1) (own_lost (1 : Int32) (own_t1 q2 p1) (own_fr q1) (own_t2 q2 p1)) (nar .boolean (if (p2 &&& (4 : Int32)) = (0 : Int32) then (0 : Int32) else (1 : Int32))) (own_rec (1 : Int32) (own_fr q1) (own_t1 q2 p1) (own_lost (1 : Int32) (own_t0 q2) (own_fr q1) (own_t1 q2 p1)) (nar .boolean (if (p2 &&& (2 : Int32)) = (0 : Int32) then (0 : Int32) else (1 : Int32))) (own_rec (1 : Int32) (own_fr q1) (own_t0 q2) (own_lost (0 : Int32) (0 : Int64) (own_fr q1) (own_t0 q2)) (nar .boolean (if (p2 &&& (1 : Int32)) = (0 : Int32) then (0 : Int32) else (1 : Int32))) (own_rec (0 : Int32) (own_fr q1) (0 : Int64) (0 : Int32) (0 : Int32) (0 : Int64) (own_t0 q2)) (own_t1 q2 p1)) (own_t2 q2 p1)) (own_t3 q2 p1)))), .second, .val (.int (if (own_d1 p1) < (own_fr q1) then (1 : Int32) else (0 : Int32))), .val (.int (if (own_d2 p1) < (own_fr q1) then (1 : Int32) else (0 : Int32))), .val (.int (if (own_d3 p1) < (own_fr q1) then (1 : Int32) else (0 : Int32))), .val (.long (own_k2 (own_k3 (own_k3 (own_k2 (0 : Int64) ((p2 &&& (1 : Int32)) = (0 : Int32)) ((own_d1 p1) < (own_fr q1))) ((p2 &&& (2 : Int32)) = (0 : Int32)) ((own_d1 p1) < (own_fr q1)) ((own_d2 p1) < (own_fr q1))) ((p2 &&& (4 : Int32)) = (0 : Int32)) ((own_d2 p1) < (own_fr q1)) ((own_d3 p1) < (own_fr q1))) ((p2 &&& (8 : Int32)) = (0 : Int32)) ((own_d3 p1) < (own_fr q1)))), .second]
def Q0 (Z : State) (q1 : Int64) (q2 : Int64) (p1 : Int32) (p2 : Int32) (h0 : Heap) (n0 : Nat) (v : Option Value) (h : Heap) (L : List Loc) : Prop := v = some (.int (1 : Int32)) ∧ Fr n0 L
set_option maxRecDepth 65536 in
set_option maxHeartbeats 40000000 in
theorem rm0 (l : Launch) (Z : State) (a0 : Array Value) (hw : ∀ d ∈ tables_1, d.before a0 Z = true) (ws : List Jvm.Cond) (q1 : Int64) (q2 : Int64) (p1 : Int32) (p2 : Int32) (h0 : Heap) (n0 : Nat) (Z0 : n0 ≤ h0.size) :
    MetFree l x (head1 (Jvm.Cond.code x code maxLocals ret :: ws) room_1) (fun aa U => aa = #[(.long q1), (.long q2), (.int p1), (.int p2)] ∧ Z.Warmed39 U.vm ∧ U.heap = h0) (fun _ _ _ _ _ => True) (fun _ U o U' => ∃ v L, o = .returned v ∧ Q0 Z q1 q2 p1 p2 h0 n0 v U'.heap L ∧ FrameEnd U o U' L room_1.cells room_1.slots) := by
  refine MetFree.of_bodySF (plainFor_of_name pn_OverlapCounterReceivedPinLaw) hisR ?_
  intro p e s m args below meth c s₁ Bd hml0 hP hK
  obtain ⟨rfl, hZ, hh⟩ := hP
  have hx := Bd.exec
  have hby := Bd.bytes
  have hml : c.maxLocals = 35 := hml0
  have hown : s.vm.findClass "com/example/squitterlab/squitterlab/sim/OverlapCounterReceivedPinLaw" = some m.cls := findClass_of_methodNamed Bd.named
  have hnm := (name_of_methodNamed Bd.named Bd.method).1
  have X0 : Stand p l e room_1 s m #[(.long q1), (.long q2), (.int p1), (.int p2)] below meth c s₁ [] 0 0 := Stand.of_body Bd
  have e0 : s₁.heap = h0 := by rw [← hh, Bd.state]; rfl
  have N0 := Fr.nil n0
  have hlk : meth.locks = false := by first | exact BodyLoose.notSynchronized Bd | exact Body.notSynchronized Bd
  have pre0 : ∀ t, Steps p.tables e below (s₁.setTop (mkF m 0 #[.val (.long q1), .second, .val (.long q2), .second, .val (.int p1), .val (.int p2), .unset, .unset, .unset, .unset, .unset, .unset, .unset, .unset, .unset, .unset, .unset, .unset, .unset, .unset, .unset, .unset, .unset, .unset, .unset, .unset, .unset, .unset, .unset, .unset, .unset, .unset, .unset, .unset, .unset] [])) t → Steps p.tables e below (s₁.setTop (entryFrame m #[(.long q1), (.long q2), (.int p1), (.int p2)] maxLocals)) t := fun t k => castTop (ef_0 m q1 q2 p1 p2) k
  have pre1 : ∀ t, Steps p.tables e below (s₁.setTop (mkF m 41 (lc0_4 q1 q2 p1 p2) [(.int (p2 &&& (1 : Int32)))])) t → Steps p.tables e below (s₁.setTop (entryFrame m #[(.long q1), (.long q2), (.int p1), (.int p2)] maxLocals)) t := fun t k => pre0 t (by
    show Steps p.tables e below (s₁.setTop (mkF m 0 (lc0_0 q1 q2 p1 p2) [])) _
    refine XS.lloadN X0.here hx rfl (hb hby at_0) rfl ?_
    show Steps p.tables e below (s₁.setTop (mkF m 1 (lc0_0 q1 q2 p1 p2) [(.long q1)])) _
    refine X0.ldc2Long hx hown (mvT hZ (hw _ (List.mem_of_getElem? (i := 0) rfl))) (g := (mkF m 1 (lc0_0 q1 q2 p1 p2) [(.long q1)])) rfl (hb hby at_1) _ ?_
    show Steps p.tables e below (s₁.setTop (mkF m 4 (lc0_0 q1 q2 p1 p2) [(.long (63 : Int64)), (.long q1)])) _
    refine XS.land X0.here hx rfl (hb hby at_4) rfl ?_
    show Steps p.tables e below (s₁.setTop (mkF m 5 (lc0_0 q1 q2 p1 p2) [(.long (own_fr q1))])) _
    refine XS.lstore X0.here hx rfl (hb hby at_5) rfl (l' := (lc0_1 q1 q2 p1 p2)) rfl ?_
    show Steps p.tables e below (s₁.setTop (mkF m 7 (lc0_1 q1 q2 p1 p2) [])) _
    refine XS.iload X0.here hx rfl (hb hby at_7) rfl ?_
    show Steps p.tables e below (s₁.setTop (mkF m 9 (lc0_1 q1 q2 p1 p2) [(.int p1)])) _
    refine XS.bipush X0.here hx rfl (hb hby at_9) ?_
    show Steps p.tables e below (s₁.setTop (mkF m 11 (lc0_1 q1 q2 p1 p2) [(.int (63 : Int32)), (.int p1)])) _
    refine XS.iand X0.here hx rfl (hb hby at_11) rfl ?_
    show Steps p.tables e below (s₁.setTop (mkF m 12 (lc0_1 q1 q2 p1 p2) [(.int (p1 &&& (63 : Int32)))])) _
    refine XS.i2l X0.here hx rfl (hb hby at_12) rfl ?_
    show Steps p.tables e below (s₁.setTop (mkF m 13 (lc0_1 q1 q2 p1 p2) [(.long (own_d1 p1))])) _
    refine XS.lstore X0.here hx rfl (hb hby at_13) rfl (l' := (lc0_2 q1 q2 p1 p2)) rfl ?_
    show Steps p.tables e below (s₁.setTop (mkF m 15 (lc0_2 q1 q2 p1 p2) [])) _
    refine XS.iload X0.here hx rfl (hb hby at_15) rfl ?_
    show Steps p.tables e below (s₁.setTop (mkF m 17 (lc0_2 q1 q2 p1 p2) [(.int p1)])) _
    refine XS.bipush X0.here hx rfl (hb hby at_17) ?_
    show Steps p.tables e below (s₁.setTop (mkF m 19 (lc0_2 q1 q2 p1 p2) [(.int (6 : Int32)), (.int p1)])) _
    refine XS.iushr X0.here hx rfl (hb hby at_19) rfl ?_
    show Steps p.tables e below (s₁.setTop (mkF m 20 (lc0_2 q1 q2 p1 p2) [(.int (own_iush p1 (6 : Int32)))])) _
    refine XS.bipush X0.here hx rfl (hb hby at_20) ?_
    show Steps p.tables e below (s₁.setTop (mkF m 22 (lc0_2 q1 q2 p1 p2) [(.int (63 : Int32)), (.int (own_iush p1 (6 : Int32)))])) _
    refine XS.iand X0.here hx rfl (hb hby at_22) rfl ?_
    show Steps p.tables e below (s₁.setTop (mkF m 23 (lc0_2 q1 q2 p1 p2) [(.int ((own_iush p1 (6 : Int32)) &&& (63 : Int32)))])) _
    refine XS.i2l X0.here hx rfl (hb hby at_23) rfl ?_
    show Steps p.tables e below (s₁.setTop (mkF m 24 (lc0_2 q1 q2 p1 p2) [(.long (own_d2 p1))])) _
    refine XS.lstore X0.here hx rfl (hb hby at_24) rfl (l' := (lc0_3 q1 q2 p1 p2)) rfl ?_
    show Steps p.tables e below (s₁.setTop (mkF m 26 (lc0_3 q1 q2 p1 p2) [])) _
    refine XS.iload X0.here hx rfl (hb hby at_26) rfl ?_
    show Steps p.tables e below (s₁.setTop (mkF m 28 (lc0_3 q1 q2 p1 p2) [(.int p1)])) _
    refine XS.bipush X0.here hx rfl (hb hby at_28) ?_
    show Steps p.tables e below (s₁.setTop (mkF m 30 (lc0_3 q1 q2 p1 p2) [(.int (12 : Int32)), (.int p1)])) _
    refine XS.iushr X0.here hx rfl (hb hby at_30) rfl ?_
    show Steps p.tables e below (s₁.setTop (mkF m 31 (lc0_3 q1 q2 p1 p2) [(.int (own_iush p1 (12 : Int32)))])) _
    refine XS.bipush X0.here hx rfl (hb hby at_31) ?_
    show Steps p.tables e below (s₁.setTop (mkF m 33 (lc0_3 q1 q2 p1 p2) [(.int (63 : Int32)), (.int (own_iush p1 (12 : Int32)))])) _
    refine XS.iand X0.here hx rfl (hb hby at_33) rfl ?_
    show Steps p.tables e below (s₁.setTop (mkF m 34 (lc0_3 q1 q2 p1 p2) [(.int ((own_iush p1 (12 : Int32)) &&& (63 : Int32)))])) _
    refine XS.i2l X0.here hx rfl (hb hby at_34) rfl ?_
    show Steps p.tables e below (s₁.setTop (mkF m 35 (lc0_3 q1 q2 p1 p2) [(.long (own_d3 p1))])) _
    refine XS.lstore X0.here hx rfl (hb hby at_35) rfl (l' := (lc0_4 q1 q2 p1 p2)) rfl ?_
    show Steps p.tables e below (s₁.setTop (mkF m 37 (lc0_4 q1 q2 p1 p2) [])) _
    refine XS.iload X0.here hx rfl (hb hby at_37) rfl ?_
    show Steps p.tables e below (s₁.setTop (mkF m 39 (lc0_4 q1 q2 p1 p2) [(.int p2)])) _
    refine XS.iconst X0.here hx rfl (hb hby at_39) ?_
    show Steps p.tables e below (s₁.setTop (mkF m 40 (lc0_4 q1 q2 p1 p2) [(.int (1 : Int32)), (.int p2)])) _
    refine XS.iand X0.here hx rfl (hb hby at_40) rfl ?_
    show Steps p.tables e below (s₁.setTop (mkF m 41 (lc0_4 q1 q2 p1 p2) [(.int (p2 &&& (1 : Int32)))])) _
    exact k)
  have pre3 : ∀ t, Steps p.tables e below (s₁.setTop (mkF m 49 (lc0_4 q1 q2 p1 p2) [(.int (if (p2 &&& (1 : Int32)) = (0 : Int32) then (0 : Int32) else (1 : Int32)))])) t → Steps p.tables e below (s₁.setTop (entryFrame m #[(.long q1), (.long q2), (.int p1), (.int p2)] maxLocals)) t := fun t k => pre1 t (by
    show Steps p.tables e below (s₁.setTop (mkF m 41 (lc0_4 q1 q2 p1 p2) [(.int (p2 &&& (1 : Int32)))])) _
    by_cases hm41_2 : (p2 &&& (1 : Int32)) = (0 : Int32)
    · refine XS.ifYes X0.here hx rfl (pc0 := 41) (pc' := 48) rfl (hb hby at_41) rfl ((if0 _ _).trans (teq hm41_2).1) (by decide) (by decide) ?_
      show Steps p.tables e below (s₁.setTop (mkF m 48 (lc0_4 q1 q2 p1 p2) [])) _
      refine XS.iconst X0.here hx rfl (hb hby at_48) ?_
      show Steps p.tables e below (s₁.setTop (mkF m 49 (lc0_4 q1 q2 p1 p2) [(.int (0 : Int32))])) _
      have q : (if (p2 &&& (1 : Int32)) = (0 : Int32) then (0 : Int32) else (1 : Int32)) = (0 : Int32) := by simp only [if_pos hm41_2]
      exact Eq.subst (motive := fun xI => Steps p.tables e below (s₁.setTop (mkF m 49 (lc0_4 q1 q2 p1 p2) [(.int xI)])) t) q k
    · refine XS.ifNo X0.here hx rfl (hb hby at_41) rfl ((if0 _ _).trans (feq hm41_2).1) ?_
      show Steps p.tables e below (s₁.setTop (mkF m 44 (lc0_4 q1 q2 p1 p2) [])) _
      refine XS.iconst X0.here hx rfl (hb hby at_44) ?_
      show Steps p.tables e below (s₁.setTop (mkF m 45 (lc0_4 q1 q2 p1 p2) [(.int (1 : Int32))])) _
      refine XS.goto X0.here hx rfl (pc0 := 45) (pc' := 49) rfl (hb hby at_45) (by decide) (by decide) ?_
      show Steps p.tables e below (s₁.setTop (mkF m 49 (lc0_4 q1 q2 p1 p2) [(.int (1 : Int32))])) _
      have q : (if (p2 &&& (1 : Int32)) = (0 : Int32) then (0 : Int32) else (1 : Int32)) = (1 : Int32) := by simp only [if_neg hm41_2]
      exact Eq.subst (motive := fun xI => Steps p.tables e below (s₁.setTop (mkF m 49 (lc0_4 q1 q2 p1 p2) [(.int xI)])) t) q k)
  have pre4 : ∀ t, Steps p.tables e below (s₁.setTop (mkF m 55 (lc0_5 q1 q2 p1 p2) [(.int (p2 &&& (2 : Int32)))])) t → Steps p.tables e below (s₁.setTop (entryFrame m #[(.long q1), (.long q2), (.int p1), (.int p2)] maxLocals)) t := fun t k => pre3 t (by
    show Steps p.tables e below (s₁.setTop (mkF m 49 (lc0_4 q1 q2 p1 p2) [(.int (if (p2 &&& (1 : Int32)) = (0 : Int32) then (0 : Int32) else (1 : Int32)))])) _
    refine XS.istore X0.here hx rfl (hb hby at_49) rfl (l' := (lc0_5 q1 q2 p1 p2)) rfl ?_
    show Steps p.tables e below (s₁.setTop (mkF m 51 (lc0_5 q1 q2 p1 p2) [])) _
    refine XS.iload X0.here hx rfl (hb hby at_51) rfl ?_
    show Steps p.tables e below (s₁.setTop (mkF m 53 (lc0_5 q1 q2 p1 p2) [(.int p2)])) _
    refine XS.iconst X0.here hx rfl (hb hby at_53) ?_
    show Steps p.tables e below (s₁.setTop (mkF m 54 (lc0_5 q1 q2 p1 p2) [(.int (2 : Int32)), (.int p2)])) _
    refine XS.iand X0.here hx rfl (hb hby at_54) rfl ?_
    show Steps p.tables e below (s₁.setTop (mkF m 55 (lc0_5 q1 q2 p1 p2) [(.int (p2 &&& (2 : Int32)))])) _
    exact k)
  have pre6 : ∀ t, Steps p.tables e below (s₁.setTop (mkF m 63 (lc0_5 q1 q2 p1 p2) [(.int (if (p2 &&& (2 : Int32)) = (0 : Int32) then (0 : Int32) else (1 : Int32)))])) t → Steps p.tables e below (s₁.setTop (entryFrame m #[(.long q1), (.long q2), (.int p1), (.int p2)] maxLocals)) t := fun t k => pre4 t (by
    show Steps p.tables e below (s₁.setTop (mkF m 55 (lc0_5 q1 q2 p1 p2) [(.int (p2 &&& (2 : Int32)))])) _
    by_cases hm55_5 : (p2 &&& (2 : Int32)) = (0 : Int32)
    · refine XS.ifYes X0.here hx rfl (pc0 := 55) (pc' := 62) rfl (hb hby at_55) rfl ((if0 _ _).trans (teq hm55_5).1) (by decide) (by decide) ?_
      show Steps p.tables e below (s₁.setTop (mkF m 62 (lc0_5 q1 q2 p1 p2) [])) _
      refine XS.iconst X0.here hx rfl (hb hby at_62) ?_
      show Steps p.tables e below (s₁.setTop (mkF m 63 (lc0_5 q1 q2 p1 p2) [(.int (0 : Int32))])) _
      have q : (if (p2 &&& (2 : Int32)) = (0 : Int32) then (0 : Int32) else (1 : Int32)) = (0 : Int32) := by simp only [if_pos hm55_5]
      exact Eq.subst (motive := fun xI => Steps p.tables e below (s₁.setTop (mkF m 63 (lc0_5 q1 q2 p1 p2) [(.int xI)])) t) q k
    · refine XS.ifNo X0.here hx rfl (hb hby at_55) rfl ((if0 _ _).trans (feq hm55_5).1) ?_
      show Steps p.tables e below (s₁.setTop (mkF m 58 (lc0_5 q1 q2 p1 p2) [])) _
      refine XS.iconst X0.here hx rfl (hb hby at_58) ?_
      show Steps p.tables e below (s₁.setTop (mkF m 59 (lc0_5 q1 q2 p1 p2) [(.int (1 : Int32))])) _
      refine XS.goto X0.here hx rfl (pc0 := 59) (pc' := 63) rfl (hb hby at_59) (by decide) (by decide) ?_
      show Steps p.tables e below (s₁.setTop (mkF m 63 (lc0_5 q1 q2 p1 p2) [(.int (1 : Int32))])) _
      have q : (if (p2 &&& (2 : Int32)) = (0 : Int32) then (0 : Int32) else (1 : Int32)) = (1 : Int32) := by simp only [if_neg hm55_5]
      exact Eq.subst (motive := fun xI => Steps p.tables e below (s₁.setTop (mkF m 63 (lc0_5 q1 q2 p1 p2) [(.int xI)])) t) q k)
  have pre7 : ∀ t, Steps p.tables e below (s₁.setTop (mkF m 69 (lc0_6 q1 q2 p1 p2) [(.int (p2 &&& (4 : Int32)))])) t → Steps p.tables e below (s₁.setTop (entryFrame m #[(.long q1), (.long q2), (.int p1), (.int p2)] maxLocals)) t := fun t k => pre6 t (by
    show Steps p.tables e below (s₁.setTop (mkF m 63 (lc0_5 q1 q2 p1 p2) [(.int (if (p2 &&& (2 : Int32)) = (0 : Int32) then (0 : Int32) else (1 : Int32)))])) _
    refine XS.istore X0.here hx rfl (hb hby at_63) rfl (l' := (lc0_6 q1 q2 p1 p2)) rfl ?_
    show Steps p.tables e below (s₁.setTop (mkF m 65 (lc0_6 q1 q2 p1 p2) [])) _
    refine XS.iload X0.here hx rfl (hb hby at_65) rfl ?_
    show Steps p.tables e below (s₁.setTop (mkF m 67 (lc0_6 q1 q2 p1 p2) [(.int p2)])) _
    refine XS.iconst X0.here hx rfl (hb hby at_67) ?_
    show Steps p.tables e below (s₁.setTop (mkF m 68 (lc0_6 q1 q2 p1 p2) [(.int (4 : Int32)), (.int p2)])) _
    refine XS.iand X0.here hx rfl (hb hby at_68) rfl ?_
    show Steps p.tables e below (s₁.setTop (mkF m 69 (lc0_6 q1 q2 p1 p2) [(.int (p2 &&& (4 : Int32)))])) _
    exact k)
  have pre9 : ∀ t, Steps p.tables e below (s₁.setTop (mkF m 77 (lc0_6 q1 q2 p1 p2) [(.int (if (p2 &&& (4 : Int32)) = (0 : Int32) then (0 : Int32) else (1 : Int32)))])) t → Steps p.tables e below (s₁.setTop (entryFrame m #[(.long q1), (.long q2), (.int p1), (.int p2)] maxLocals)) t := fun t k => pre7 t (by
    show Steps p.tables e below (s₁.setTop (mkF m 69 (lc0_6 q1 q2 p1 p2) [(.int (p2 &&& (4 : Int32)))])) _
    by_cases hm69_8 : (p2 &&& (4 : Int32)) = (0 : Int32)
    · refine XS.ifYes X0.here hx rfl (pc0 := 69) (pc' := 76) rfl (hb hby at_69) rfl ((if0 _ _).trans (teq hm69_8).1) (by decide) (by decide) ?_
      show Steps p.tables e below (s₁.setTop (mkF m 76 (lc0_6 q1 q2 p1 p2) [])) _
      refine XS.iconst X0.here hx rfl (hb hby at_76) ?_
      show Steps p.tables e below (s₁.setTop (mkF m 77 (lc0_6 q1 q2 p1 p2) [(.int (0 : Int32))])) _
      have q : (if (p2 &&& (4 : Int32)) = (0 : Int32) then (0 : Int32) else (1 : Int32)) = (0 : Int32) := by simp only [if_pos hm69_8]
      exact Eq.subst (motive := fun xI => Steps p.tables e below (s₁.setTop (mkF m 77 (lc0_6 q1 q2 p1 p2) [(.int xI)])) t) q k
    · refine XS.ifNo X0.here hx rfl (hb hby at_69) rfl ((if0 _ _).trans (feq hm69_8).1) ?_
      show Steps p.tables e below (s₁.setTop (mkF m 72 (lc0_6 q1 q2 p1 p2) [])) _
      refine XS.iconst X0.here hx rfl (hb hby at_72) ?_
      show Steps p.tables e below (s₁.setTop (mkF m 73 (lc0_6 q1 q2 p1 p2) [(.int (1 : Int32))])) _
      refine XS.goto X0.here hx rfl (pc0 := 73) (pc' := 77) rfl (hb hby at_73) (by decide) (by decide) ?_
      show Steps p.tables e below (s₁.setTop (mkF m 77 (lc0_6 q1 q2 p1 p2) [(.int (1 : Int32))])) _
      have q : (if (p2 &&& (4 : Int32)) = (0 : Int32) then (0 : Int32) else (1 : Int32)) = (1 : Int32) := by simp only [if_neg hm69_8]
      exact Eq.subst (motive := fun xI => Steps p.tables e below (s₁.setTop (mkF m 77 (lc0_6 q1 q2 p1 p2) [(.int xI)])) t) q k)
  have pre10 : ∀ t, Steps p.tables e below (s₁.setTop (mkF m 84 (lc0_7 q1 q2 p1 p2) [(.int (p2 &&& (8 : Int32)))])) t → Steps p.tables e below (s₁.setTop (entryFrame m #[(.long q1), (.long q2), (.int p1), (.int p2)] maxLocals)) t := fun t k => pre9 t (by
    show Steps p.tables e below (s₁.setTop (mkF m 77 (lc0_6 q1 q2 p1 p2) [(.int (if (p2 &&& (4 : Int32)) = (0 : Int32) then (0 : Int32) else (1 : Int32)))])) _
    refine XS.istore X0.here hx rfl (hb hby at_77) rfl (l' := (lc0_7 q1 q2 p1 p2)) rfl ?_
    show Steps p.tables e below (s₁.setTop (mkF m 79 (lc0_7 q1 q2 p1 p2) [])) _
    refine XS.iload X0.here hx rfl (hb hby at_79) rfl ?_
    show Steps p.tables e below (s₁.setTop (mkF m 81 (lc0_7 q1 q2 p1 p2) [(.int p2)])) _
    refine XS.bipush X0.here hx rfl (hb hby at_81) ?_
    show Steps p.tables e below (s₁.setTop (mkF m 83 (lc0_7 q1 q2 p1 p2) [(.int (8 : Int32)), (.int p2)])) _
    refine XS.iand X0.here hx rfl (hb hby at_83) rfl ?_
    show Steps p.tables e below (s₁.setTop (mkF m 84 (lc0_7 q1 q2 p1 p2) [(.int (p2 &&& (8 : Int32)))])) _
    exact k)
  have pre12 : ∀ t, Steps p.tables e below (s₁.setTop (mkF m 92 (lc0_7 q1 q2 p1 p2) [(.int (if (p2 &&& (8 : Int32)) = (0 : Int32) then (0 : Int32) else (1 : Int32)))])) t → Steps p.tables e below (s₁.setTop (entryFrame m #[(.long q1), (.long q2), (.int p1), (.int p2)] maxLocals)) t := fun t k => pre10 t (by
    show Steps p.tables e below (s₁.setTop (mkF m 84 (lc0_7 q1 q2 p1 p2) [(.int (p2 &&& (8 : Int32)))])) _
    by_cases hm84_11 : (p2 &&& (8 : Int32)) = (0 : Int32)
    · refine XS.ifYes X0.here hx rfl (pc0 := 84) (pc' := 91) rfl (hb hby at_84) rfl ((if0 _ _).trans (teq hm84_11).1) (by decide) (by decide) ?_
      show Steps p.tables e below (s₁.setTop (mkF m 91 (lc0_7 q1 q2 p1 p2) [])) _
      refine XS.iconst X0.here hx rfl (hb hby at_91) ?_
      show Steps p.tables e below (s₁.setTop (mkF m 92 (lc0_7 q1 q2 p1 p2) [(.int (0 : Int32))])) _
      have q : (if (p2 &&& (8 : Int32)) = (0 : Int32) then (0 : Int32) else (1 : Int32)) = (0 : Int32) := by simp only [if_pos hm84_11]
      exact Eq.subst (motive := fun xI => Steps p.tables e below (s₁.setTop (mkF m 92 (lc0_7 q1 q2 p1 p2) [(.int xI)])) t) q k
    · refine XS.ifNo X0.here hx rfl (hb hby at_84) rfl ((if0 _ _).trans (feq hm84_11).1) ?_
      show Steps p.tables e below (s₁.setTop (mkF m 87 (lc0_7 q1 q2 p1 p2) [])) _
      refine XS.iconst X0.here hx rfl (hb hby at_87) ?_
      show Steps p.tables e below (s₁.setTop (mkF m 88 (lc0_7 q1 q2 p1 p2) [(.int (1 : Int32))])) _
      refine XS.goto X0.here hx rfl (pc0 := 88) (pc' := 92) rfl (hb hby at_88) (by decide) (by decide) ?_
      show Steps p.tables e below (s₁.setTop (mkF m 92 (lc0_7 q1 q2 p1 p2) [(.int (1 : Int32))])) _
      have q : (if (p2 &&& (8 : Int32)) = (0 : Int32) then (0 : Int32) else (1 : Int32)) = (1 : Int32) := by simp only [if_neg hm84_11]
      exact Eq.subst (motive := fun xI => Steps p.tables e below (s₁.setTop (mkF m 92 (lc0_7 q1 q2 p1 p2) [(.int xI)])) t) q k)
  have pre13 : ∀ t, Steps p.tables e below (s₁.setTop (mkF m 131 (lc0_13 q1 q2 p1 p2) [])) t → Steps p.tables e below (s₁.setTop (entryFrame m #[(.long q1), (.long q2), (.int p1), (.int p2)] maxLocals)) t := fun t k => pre12 t (by
    show Steps p.tables e below (s₁.setTop (mkF m 92 (lc0_7 q1 q2 p1 p2) [(.int (if (p2 &&& (8 : Int32)) = (0 : Int32) then (0 : Int32) else (1 : Int32)))])) _
    refine XS.istore X0.here hx rfl (hb hby at_92) rfl (l' := (lc0_8 q1 q2 p1 p2)) rfl ?_
    show Steps p.tables e below (s₁.setTop (mkF m 94 (lc0_8 q1 q2 p1 p2) [])) _
    refine XS.iload X0.here hx rfl (hb hby at_94) rfl ?_
    show Steps p.tables e below (s₁.setTop (mkF m 96 (lc0_8 q1 q2 p1 p2) [(.int p2)])) _
    refine XS.iconst X0.here hx rfl (hb hby at_96) ?_
    show Steps p.tables e below (s₁.setTop (mkF m 97 (lc0_8 q1 q2 p1 p2) [(.int (4 : Int32)), (.int p2)])) _
    refine XS.iushr X0.here hx rfl (hb hby at_97) rfl ?_
    show Steps p.tables e below (s₁.setTop (mkF m 98 (lc0_8 q1 q2 p1 p2) [(.int (own_iush p2 (4 : Int32)))])) _
    refine XS.bipush X0.here hx rfl (hb hby at_98) ?_
    show Steps p.tables e below (s₁.setTop (mkF m 100 (lc0_8 q1 q2 p1 p2) [(.int (7 : Int32)), (.int (own_iush p2 (4 : Int32)))])) _
    refine XS.iand X0.here hx rfl (hb hby at_100) rfl ?_
    show Steps p.tables e below (s₁.setTop (mkF m 101 (lc0_8 q1 q2 p1 p2) [(.int ((own_iush p2 (4 : Int32)) &&& (7 : Int32)))])) _
    refine XS.iconst X0.here hx rfl (hb hby at_101) ?_
    show Steps p.tables e below (s₁.setTop (mkF m 102 (lc0_8 q1 q2 p1 p2) [(.int (5 : Int32)), (.int ((own_iush p2 (4 : Int32)) &&& (7 : Int32)))])) _
    refine iremM X0 hx rfl (hb hby at_102) rfl (by decide) ?_
    show Steps p.tables e below (s₁.setTop (mkF m 103 (lc0_8 q1 q2 p1 p2) [(.int (own_nn p2))])) _
    refine XS.istore X0.here hx rfl (hb hby at_103) rfl (l' := (lc0_9 q1 q2 p1 p2)) rfl ?_
    show Steps p.tables e below (s₁.setTop (mkF m 105 (lc0_9 q1 q2 p1 p2) [])) _
    refine XS.lloadN X0.here hx rfl (hb hby at_105) rfl ?_
    show Steps p.tables e below (s₁.setTop (mkF m 106 (lc0_9 q1 q2 p1 p2) [(.long q2)])) _
    refine XS.iconst X0.here hx rfl (hb hby at_106) ?_
    show Steps p.tables e below (s₁.setTop (mkF m 107 (lc0_9 q1 q2 p1 p2) [(.int (2 : Int32)), (.long q2)])) _
    refine XS.lshr X0.here hx rfl (hb hby at_107) rfl ?_
    show Steps p.tables e below (s₁.setTop (mkF m 108 (lc0_9 q1 q2 p1 p2) [(.long (own_t0 q2))])) _
    refine XS.lstore X0.here hx rfl (hb hby at_108) rfl (l' := (lc0_10 q1 q2 p1 p2)) rfl ?_
    show Steps p.tables e below (s₁.setTop (mkF m 110 (lc0_10 q1 q2 p1 p2) [])) _
    refine XS.lload X0.here hx rfl (hb hby at_110) rfl ?_
    show Steps p.tables e below (s₁.setTop (mkF m 112 (lc0_10 q1 q2 p1 p2) [(.long (own_t0 q2))])) _
    refine XS.lload X0.here hx rfl (hb hby at_112) rfl ?_
    show Steps p.tables e below (s₁.setTop (mkF m 114 (lc0_10 q1 q2 p1 p2) [(.long (own_d1 p1)), (.long (own_t0 q2))])) _
    refine XS.ladd X0.here hx rfl (hb hby at_114) rfl ?_
    show Steps p.tables e below (s₁.setTop (mkF m 115 (lc0_10 q1 q2 p1 p2) [(.long (own_t1 q2 p1))])) _
    refine XS.lstore X0.here hx rfl (hb hby at_115) rfl (l' := (lc0_11 q1 q2 p1 p2)) rfl ?_
    show Steps p.tables e below (s₁.setTop (mkF m 117 (lc0_11 q1 q2 p1 p2) [])) _
    refine XS.lload X0.here hx rfl (hb hby at_117) rfl ?_
    show Steps p.tables e below (s₁.setTop (mkF m 119 (lc0_11 q1 q2 p1 p2) [(.long (own_t1 q2 p1))])) _
    refine XS.lload X0.here hx rfl (hb hby at_119) rfl ?_
    show Steps p.tables e below (s₁.setTop (mkF m 121 (lc0_11 q1 q2 p1 p2) [(.long (own_d2 p1)), (.long (own_t1 q2 p1))])) _
    refine XS.ladd X0.here hx rfl (hb hby at_121) rfl ?_
    show Steps p.tables e below (s₁.setTop (mkF m 122 (lc0_11 q1 q2 p1 p2) [(.long (own_t2 q2 p1))])) _
    refine XS.lstore X0.here hx rfl (hb hby at_122) rfl (l' := (lc0_12 q1 q2 p1 p2)) rfl ?_
    show Steps p.tables e below (s₁.setTop (mkF m 124 (lc0_12 q1 q2 p1 p2) [])) _
    refine XS.lload X0.here hx rfl (hb hby at_124) rfl ?_
    show Steps p.tables e below (s₁.setTop (mkF m 126 (lc0_12 q1 q2 p1 p2) [(.long (own_t2 q2 p1))])) _
    refine XS.lload X0.here hx rfl (hb hby at_126) rfl ?_
    show Steps p.tables e below (s₁.setTop (mkF m 128 (lc0_12 q1 q2 p1 p2) [(.long (own_d3 p1)), (.long (own_t2 q2 p1))])) _
    refine XS.ladd X0.here hx rfl (hb hby at_128) rfl ?_
    show Steps p.tables e below (s₁.setTop (mkF m 129 (lc0_12 q1 q2 p1 p2) [(.long (own_t3 q2 p1))])) _
    refine XS.lstore X0.here hx rfl (hb hby at_129) rfl (l' := (lc0_13 q1 q2 p1 p2)) rfl ?_
    show Steps p.tables e below (s₁.setTop (mkF m 131 (lc0_13 q1 q2 p1 p2) [])) _
    exact k)
  obtain ⟨T14, h14, X14, e14, E14, A14, D14, -, st14⟩ := newO X0 hx hZ hown (hw _ (List.mem_of_getElem? (i := 1) rfl)) (hw _ (List.mem_of_getElem? (i := 2) rfl)) (hw _ (List.mem_of_getElem? (i := 3) rfl)) e0 (g := (mkF m 131 (lc0_13 q1 q2 p1 p2) [])) rfl (hb hby at_131) (by decide) (by decide)
  obtain ⟨b14, g14⟩ : ∃ z, z = h0.size := ⟨_, rfl⟩
  rw [← g14] at A14 D14 st14
  have g_b14 : n0 ≤ b14 := Nat.le_trans Z0 (Nat.le_of_eq g14.symm)
  have Z14 : n0 ≤ h14.size := Nat.le_trans Z0 E14.1
  have E_b14 := A14
  have F_b14_framePicos : Fld Z h14 b14 "com/example/squitterlab/squitterlab/sim/OverlapCounter" "framePicos" "J" (.long (0 : Int64)) := D14 (Or.inr (hw _ (List.mem_of_getElem? (i := 11) rfl))) (ty := .long) (by decide)
  have F_b14_lastCounted : Fld Z h14 b14 "com/example/squitterlab/squitterlab/sim/OverlapCounter" "lastCounted" "Z" (.int (0 : Int32)) := D14 (Or.inl (hw _ (List.mem_of_getElem? (i := 18) rfl))) (ty := .boolean) (by decide)
  have F_b14_received : Fld Z h14 b14 "com/example/squitterlab/squitterlab/sim/OverlapCounter" "received" "J" (.long (0 : Int64)) := D14 (Or.inl (hw _ (List.mem_of_getElem? (i := 20) rfl))) (ty := .long) (by decide)
  have F_b14_any : Fld Z h14 b14 "com/example/squitterlab/squitterlab/sim/OverlapCounter" "any" "Z" (.int (0 : Int32)) := D14 (Or.inl (hw _ (List.mem_of_getElem? (i := 27) rfl))) (ty := .boolean) (by decide)
  have F_b14_lastArrival : Fld Z h14 b14 "com/example/squitterlab/squitterlab/sim/OverlapCounter" "lastArrival" "J" (.long (0 : Int64)) := D14 (Or.inl (hw _ (List.mem_of_getElem? (i := 29) rfl))) (ty := .long) (by decide)
  have F_b14_lastLost : Fld Z h14 b14 "com/example/squitterlab/squitterlab/sim/OverlapCounter" "lastLost" "Z" (.int (0 : Int32)) := D14 (Or.inl (hw _ (List.mem_of_getElem? (i := 31) rfl))) (ty := .boolean) (by decide)
  have F_b14_arrived : Fld Z h14 b14 "com/example/squitterlab/squitterlab/sim/OverlapCounter" "arrived" "J" (.long (0 : Int64)) := D14 (Or.inl (hw _ (List.mem_of_getElem? (i := 33) rfl))) (ty := .long) (by decide)
  have pre15 : ∀ t, Steps p.tables e below (T14.setTop (mkF m 134 (lc0_13 q1 q2 p1 p2) [(.ref b14)])) t → Steps p.tables e below (s₁.setTop (entryFrame m #[(.long q1), (.long q2), (.int p1), (.int p2)] maxLocals)) t := fun t k => pre13 t (st14 t k)
  have pre16 : ∀ t, Steps p.tables e below (T14.setTop (mkF m 137 (lc0_13 q1 q2 p1 p2) [(.long (own_fr q1)), (.ref b14), (.ref b14)])) t → Steps p.tables e below (s₁.setTop (entryFrame m #[(.long q1), (.long q2), (.int p1), (.int p2)] maxLocals)) t := fun t k => pre15 t (by
    show Steps p.tables e below (T14.setTop (mkF m 134 (lc0_13 q1 q2 p1 p2) [(.ref b14)])) _
    refine XS.dup X14.here hx rfl (hb hby at_134) rfl rfl ?_
    show Steps p.tables e below (T14.setTop (mkF m 135 (lc0_13 q1 q2 p1 p2) [(.ref b14), (.ref b14)])) _
    refine XS.lload X14.here hx rfl (hb hby at_135) rfl ?_
    show Steps p.tables e below (T14.setTop (mkF m 137 (lc0_13 q1 q2 p1 p2) [(.long (own_fr q1)), (.ref b14), (.ref b14)])) _
    exact k)
  obtain ⟨_, _, ⟨T17, L17, k17, n17⟩, -, X17, ⟨Lc17, hQ17, l17, y17, z17⟩, st17⟩ := X14.specialBack hx (y := (⟨"com/example/squitterlab/squitterlab/sim/OverlapCounter", "<init>", "(J)V"⟩ : MethodName)) rfl hown (mvT hZ (hw _ (List.mem_of_getElem? (i := 4) rfl))) (mvT hZ (hw _ (List.mem_of_getElem? (i := 5) rfl))) (mvT hZ (hw _ (List.mem_of_getElem? (i := 6) rfl))) (by decide) (backOf (W := 1) (rm1 l Z a0 hw [] b14 (own_fr q1) h14 n0 Z14 E_b14 F_b14_framePicos F_b14_any F_b14_lastArrival F_b14_lastLost F_b14_lastCounted F_b14_received F_b14_arrived g_b14) hZ (hw _ (List.mem_of_getElem? (i := 6) rfl)) (hw _ (List.mem_of_getElem? (i := 3) rfl)) (by decide) (by decide)) (g := (mkF m 137 (lc0_13 q1 q2 p1 p2) [(.long (own_fr q1)), (.ref b14), (.ref b14)])) rfl (by rw [hml]; rfl) (Steps.refl _) (a := b14) (argsL := [(.long (own_fr q1))]) (rest := [(.ref b14)]) (lenOf pd_0 rfl) rfl (by show 2 * 0 + _ ≤ _; exact Nat.le_of_eq rfl) (hb hby at_137) (fun _ _ => ⟨rfl, e14, (by decide : 1 + 0 ≤ _), (by decide : 7 + 0 ≤ _)⟩)
  dsimp only [Pt.U, Pt.locs, Pt.cells, Pt.slots] at X17 l17 y17 z17 st17 hQ17
  subst l17 y17 z17
  obtain ⟨rfl, N17q, K17, q17_0, q17_1, q17_2, q17_3, q17_4, q17_5, q17_6⟩ := hQ17
  have E_b14 := E_b14.keep K17
  have Z17 : n0 ≤ T17.heap.size := Nat.le_trans Z14 K17.1
  have F_b14_framePicos := q17_0
  have F_b14_any := q17_1
  have F_b14_lastArrival := q17_2
  have F_b14_lastLost := q17_3
  have F_b14_lastCounted := q17_4
  have F_b14_received := q17_5
  have F_b14_arrived := q17_6
  have N17 := Fr.app N0 N17q
  have pre18 : ∀ t, Steps p.tables e below (T17.setTop (mkF m 140 (lc0_13 q1 q2 p1 p2) [(.ref b14)])) t → Steps p.tables e below (s₁.setTop (entryFrame m #[(.long q1), (.long q2), (.int p1), (.int p2)] maxLocals)) t := fun t k => pre16 t (st17.trans k)
  have pre19 : ∀ t, Steps p.tables e below (T17.setTop (mkF m 145 (lc0_14 q1 q2 p1 p2 b14) [(.int (1 : Int32)), (.int (own_nn p2))])) t → Steps p.tables e below (s₁.setTop (entryFrame m #[(.long q1), (.long q2), (.int p1), (.int p2)] maxLocals)) t := fun t k => pre18 t (by
    show Steps p.tables e below (T17.setTop (mkF m 140 (lc0_13 q1 q2 p1 p2) [(.ref b14)])) _
    refine XS.astore X17.here hx rfl (hb hby at_140) rfl rfl (l' := (lc0_14 q1 q2 p1 p2 b14)) rfl ?_
    show Steps p.tables e below (T17.setTop (mkF m 142 (lc0_14 q1 q2 p1 p2 b14) [])) _
    refine XS.iload X17.here hx rfl (hb hby at_142) rfl ?_
    show Steps p.tables e below (T17.setTop (mkF m 144 (lc0_14 q1 q2 p1 p2 b14) [(.int (own_nn p2))])) _
    refine XS.iconst X17.here hx rfl (hb hby at_144) ?_
    show Steps p.tables e below (T17.setTop (mkF m 145 (lc0_14 q1 q2 p1 p2 b14) [(.int (1 : Int32)), (.int (own_nn p2))])) _
    exact k)
  by_cases hc145_20 : (own_nn p2) < (1 : Int32)
  · have pre21 : ∀ t, Steps p.tables e below (T17.setTop (mkF m 204 (lc0_14 q1 q2 p1 p2 b14) [(.ref b14)])) t → Steps p.tables e below (s₁.setTop (entryFrame m #[(.long q1), (.long q2), (.int p1), (.int p2)] maxLocals)) t := fun t k => pre19 t (by
      show Steps p.tables e below (T17.setTop (mkF m 145 (lc0_14 q1 q2 p1 p2 b14) [(.int (1 : Int32)), (.int (own_nn p2))])) _
      refine XS.icmpYes X17.here hx rfl (pc0 := 145) (pc' := 157) rfl (hb hby at_145) rfl (tlt hc145_20).1 (by decide) (by decide) ?_
      show Steps p.tables e below (T17.setTop (mkF m 157 (lc0_14 q1 q2 p1 p2 b14) [])) _
      refine XS.iload X17.here hx rfl (hb hby at_157) rfl ?_
      show Steps p.tables e below (T17.setTop (mkF m 159 (lc0_14 q1 q2 p1 p2 b14) [(.int (own_nn p2))])) _
      refine XS.iconst X17.here hx rfl (hb hby at_159) ?_
      show Steps p.tables e below (T17.setTop (mkF m 160 (lc0_14 q1 q2 p1 p2 b14) [(.int (2 : Int32)), (.int (own_nn p2))])) _
      refine XS.icmpYes X17.here hx rfl (pc0 := 160) (pc' := 172) rfl (hb hby at_160) rfl (tlt (show (own_nn p2) < (2 : Int32) from own_mono p2 hc145_20 (by decide))).1 (by decide) (by decide) ?_
      show Steps p.tables e below (T17.setTop (mkF m 172 (lc0_14 q1 q2 p1 p2 b14) [])) _
      refine XS.iload X17.here hx rfl (hb hby at_172) rfl ?_
      show Steps p.tables e below (T17.setTop (mkF m 174 (lc0_14 q1 q2 p1 p2 b14) [(.int (own_nn p2))])) _
      refine XS.iconst X17.here hx rfl (hb hby at_174) ?_
      show Steps p.tables e below (T17.setTop (mkF m 175 (lc0_14 q1 q2 p1 p2 b14) [(.int (3 : Int32)), (.int (own_nn p2))])) _
      refine XS.icmpYes X17.here hx rfl (pc0 := 175) (pc' := 187) rfl (hb hby at_175) rfl (tlt (show (own_nn p2) < (3 : Int32) from own_mono p2 hc145_20 (by decide))).1 (by decide) (by decide) ?_
      show Steps p.tables e below (T17.setTop (mkF m 187 (lc0_14 q1 q2 p1 p2 b14) [])) _
      refine XS.iload X17.here hx rfl (hb hby at_187) rfl ?_
      show Steps p.tables e below (T17.setTop (mkF m 189 (lc0_14 q1 q2 p1 p2 b14) [(.int (own_nn p2))])) _
      refine XS.iconst X17.here hx rfl (hb hby at_189) ?_
      show Steps p.tables e below (T17.setTop (mkF m 190 (lc0_14 q1 q2 p1 p2 b14) [(.int (4 : Int32)), (.int (own_nn p2))])) _
      refine XS.icmpYes X17.here hx rfl (pc0 := 190) (pc' := 202) rfl (hb hby at_190) rfl (tlt (show (own_nn p2) < (4 : Int32) from own_mono p2 hc145_20 (by decide))).1 (by decide) (by decide) ?_
      show Steps p.tables e below (T17.setTop (mkF m 202 (lc0_14 q1 q2 p1 p2 b14) [])) _
      refine XS.aload X17.here hx rfl (hb hby at_202) rfl rfl ?_
      show Steps p.tables e below (T17.setTop (mkF m 204 (lc0_14 q1 q2 p1 p2 b14) [(.ref b14)])) _
      exact k)
    obtain ⟨cq22, kq22, q22a, q22b, q22c⟩ := isOf hZ rfl E_b14
    obtain ⟨_, _, ⟨T22, L22, k22, n22⟩, -, X22, ⟨Lc22, hQ22, l22, y22, z22⟩, st22⟩ := X17.virtualBack hx (y := (⟨"com/example/squitterlab/squitterlab/sim/OverlapCounter", "received", "()J"⟩ : MethodName)) (z := (⟨"com/example/squitterlab/squitterlab/sim/OverlapCounter", "received", "()J"⟩ : MethodName)) hown (mvT hZ (hw _ (List.mem_of_getElem? (i := 12) rfl))) (mvT hZ (hw _ (List.mem_of_getElem? (i := 13) rfl))) (notFace_of_selects (args := #[]) (mvT hZ (hw _ (List.mem_of_getElem? (i := 15) rfl)))) (mvT hZ (hw _ (List.mem_of_getElem? (i := 15) rfl))) (mvT hZ (hw _ (List.mem_of_getElem? (i := 14) rfl))) (by decide) (backOf (W := 0) (rm3 l Z a0 hw [] b14 (0 : Int32) (0 : Int32) (0 : Int64) T17.heap n0 Z17 E_b14 F_b14_lastLost F_b14_lastCounted F_b14_received) hZ (hw _ (List.mem_of_getElem? (i := 16) rfl)) (hw _ (List.mem_of_getElem? (i := 3) rfl)) (by decide) (by decide)) q22a q22c (g := (mkF m 204 (lc0_14 q1 q2 p1 p2 b14) [(.ref b14)])) rfl (by rw [hml]; rfl) (Steps.refl _) (argsL := []) (rest := []) (lenOf pd_2 rfl) rfl (by show 2 * 0 + _ ≤ _; exact Nat.le_of_eq rfl) (hb hby at_204) (fun _ _ => ⟨rfl, rfl, (by decide : 1 + 0 ≤ _), (by decide : 7 + 0 ≤ _)⟩)
    dsimp only [Pt.U, Pt.locs, Pt.cells, Pt.slots] at X22 l22 y22 z22 st22 hQ22
    subst l22 y22 z22
    obtain ⟨rfl, N22q, e22⟩ := hQ22
    have N22 := Fr.app N17 N22q
    have pre23 : ∀ t, Steps p.tables e below (T22.setTop (mkF m 207 (lc0_14 q1 q2 p1 p2 b14) [(.long (own_recv (0 : Int32) (0 : Int32) (0 : Int64)))])) t → Steps p.tables e below (s₁.setTop (entryFrame m #[(.long q1), (.long q2), (.int p1), (.int p2)] maxLocals)) t := fun t k => pre21 t (st22.trans k)
    have pre24 : ∀ t, Steps p.tables e below (T22.setTop (mkF m 386 (lc0_19 q1 q2 p1 p2 b14) [(.int (1 : Int32))])) t → Steps p.tables e below (s₁.setTop (entryFrame m #[(.long q1), (.long q2), (.int p1), (.int p2)] maxLocals)) t := fun t k => pre23 t (by
      show Steps p.tables e below (T22.setTop (mkF m 207 (lc0_14 q1 q2 p1 p2 b14) [(.long (own_recv (0 : Int32) (0 : Int32) (0 : Int64)))])) _
      refine XS.lstore X22.here hx rfl (hb hby at_207) rfl (l' := (lc0_15 q1 q2 p1 p2 b14)) rfl ?_
      show Steps p.tables e below (T22.setTop (mkF m 209 (lc0_15 q1 q2 p1 p2 b14) [])) _
      refine XS.iload X22.here hx rfl (hb hby at_209) rfl ?_
      show Steps p.tables e below (T22.setTop (mkF m 211 (lc0_15 q1 q2 p1 p2 b14) [(.int (own_nn p2))])) _
      refine XS.iconst X22.here hx rfl (hb hby at_211) ?_
      show Steps p.tables e below (T22.setTop (mkF m 212 (lc0_15 q1 q2 p1 p2 b14) [(.int (2 : Int32)), (.int (own_nn p2))])) _
      refine XS.icmpYes X22.here hx rfl (pc0 := 212) (pc' := 227) rfl (hb hby at_212) rfl (tlt (show (own_nn p2) < (2 : Int32) from own_mono p2 hc145_20 (by decide))).1 (by decide) (by decide) ?_
      show Steps p.tables e below (T22.setTop (mkF m 227 (lc0_15 q1 q2 p1 p2 b14) [])) _
      refine XS.iconst X22.here hx rfl (hb hby at_227) ?_
      show Steps p.tables e below (T22.setTop (mkF m 228 (lc0_15 q1 q2 p1 p2 b14) [(.int (0 : Int32))])) _
      refine XS.istore X22.here hx rfl (hb hby at_228) rfl (l' := (lc0_16 q1 q2 p1 p2 b14)) rfl ?_
      show Steps p.tables e below (T22.setTop (mkF m 230 (lc0_16 q1 q2 p1 p2 b14) [])) _
      refine XS.iload X22.here hx rfl (hb hby at_230) rfl ?_
      show Steps p.tables e below (T22.setTop (mkF m 232 (lc0_16 q1 q2 p1 p2 b14) [(.int (own_nn p2))])) _
      refine XS.iconst X22.here hx rfl (hb hby at_232) ?_
      show Steps p.tables e below (T22.setTop (mkF m 233 (lc0_16 q1 q2 p1 p2 b14) [(.int (3 : Int32)), (.int (own_nn p2))])) _
      refine XS.icmpYes X22.here hx rfl (pc0 := 233) (pc' := 248) rfl (hb hby at_233) rfl (tlt (show (own_nn p2) < (3 : Int32) from own_mono p2 hc145_20 (by decide))).1 (by decide) (by decide) ?_
      show Steps p.tables e below (T22.setTop (mkF m 248 (lc0_16 q1 q2 p1 p2 b14) [])) _
      refine XS.iconst X22.here hx rfl (hb hby at_248) ?_
      show Steps p.tables e below (T22.setTop (mkF m 249 (lc0_16 q1 q2 p1 p2 b14) [(.int (0 : Int32))])) _
      refine XS.istore X22.here hx rfl (hb hby at_249) rfl (l' := (lc0_17 q1 q2 p1 p2 b14)) rfl ?_
      show Steps p.tables e below (T22.setTop (mkF m 251 (lc0_17 q1 q2 p1 p2 b14) [])) _
      refine XS.iload X22.here hx rfl (hb hby at_251) rfl ?_
      show Steps p.tables e below (T22.setTop (mkF m 253 (lc0_17 q1 q2 p1 p2 b14) [(.int (own_nn p2))])) _
      refine XS.iconst X22.here hx rfl (hb hby at_253) ?_
      show Steps p.tables e below (T22.setTop (mkF m 254 (lc0_17 q1 q2 p1 p2 b14) [(.int (4 : Int32)), (.int (own_nn p2))])) _
      refine XS.icmpYes X22.here hx rfl (pc0 := 254) (pc' := 269) rfl (hb hby at_254) rfl (tlt (show (own_nn p2) < (4 : Int32) from own_mono p2 hc145_20 (by decide))).1 (by decide) (by decide) ?_
      show Steps p.tables e below (T22.setTop (mkF m 269 (lc0_17 q1 q2 p1 p2 b14) [])) _
      refine XS.iconst X22.here hx rfl (hb hby at_269) ?_
      show Steps p.tables e below (T22.setTop (mkF m 270 (lc0_17 q1 q2 p1 p2 b14) [(.int (0 : Int32))])) _
      refine XS.istore X22.here hx rfl (hb hby at_270) rfl (l' := (lc0_18 q1 q2 p1 p2 b14)) rfl ?_
      show Steps p.tables e below (T22.setTop (mkF m 272 (lc0_18 q1 q2 p1 p2 b14) [])) _
      refine XS.lconst X22.here hx rfl (hb hby at_272) ?_
      show Steps p.tables e below (T22.setTop (mkF m 273 (lc0_18 q1 q2 p1 p2 b14) [(.long (0 : Int64))])) _
      refine XS.lstore X22.here hx rfl (hb hby at_273) rfl (l' := (lc0_19 q1 q2 p1 p2 b14)) rfl ?_
      show Steps p.tables e below (T22.setTop (mkF m 275 (lc0_19 q1 q2 p1 p2 b14) [])) _
      refine XS.iload X22.here hx rfl (hb hby at_275) rfl ?_
      show Steps p.tables e below (T22.setTop (mkF m 277 (lc0_19 q1 q2 p1 p2 b14) [(.int (own_nn p2))])) _
      refine XS.iconst X22.here hx rfl (hb hby at_277) ?_
      show Steps p.tables e below (T22.setTop (mkF m 278 (lc0_19 q1 q2 p1 p2 b14) [(.int (1 : Int32)), (.int (own_nn p2))])) _
      refine XS.icmpYes X22.here hx rfl (pc0 := 278) (pc' := 297) rfl (hb hby at_278) rfl (tlt hc145_20).1 (by decide) (by decide) ?_
      show Steps p.tables e below (T22.setTop (mkF m 297 (lc0_19 q1 q2 p1 p2 b14) [])) _
      refine XS.iload X22.here hx rfl (hb hby at_297) rfl ?_
      show Steps p.tables e below (T22.setTop (mkF m 299 (lc0_19 q1 q2 p1 p2 b14) [(.int (own_nn p2))])) _
      refine XS.iconst X22.here hx rfl (hb hby at_299) ?_
      show Steps p.tables e below (T22.setTop (mkF m 300 (lc0_19 q1 q2 p1 p2 b14) [(.int (2 : Int32)), (.int (own_nn p2))])) _
      refine XS.icmpYes X22.here hx rfl (pc0 := 300) (pc' := 324) rfl (hb hby at_300) rfl (tlt (show (own_nn p2) < (2 : Int32) from own_mono p2 hc145_20 (by decide))).1 (by decide) (by decide) ?_
      show Steps p.tables e below (T22.setTop (mkF m 324 (lc0_19 q1 q2 p1 p2 b14) [])) _
      refine XS.iload X22.here hx rfl (hb hby at_324) rfl ?_
      show Steps p.tables e below (T22.setTop (mkF m 326 (lc0_19 q1 q2 p1 p2 b14) [(.int (own_nn p2))])) _
      refine XS.iconst X22.here hx rfl (hb hby at_326) ?_
      show Steps p.tables e below (T22.setTop (mkF m 327 (lc0_19 q1 q2 p1 p2 b14) [(.int (3 : Int32)), (.int (own_nn p2))])) _
      refine XS.icmpYes X22.here hx rfl (pc0 := 327) (pc' := 351) rfl (hb hby at_327) rfl (tlt (show (own_nn p2) < (3 : Int32) from own_mono p2 hc145_20 (by decide))).1 (by decide) (by decide) ?_
      show Steps p.tables e below (T22.setTop (mkF m 351 (lc0_19 q1 q2 p1 p2 b14) [])) _
      refine XS.iload X22.here hx rfl (hb hby at_351) rfl ?_
      show Steps p.tables e below (T22.setTop (mkF m 353 (lc0_19 q1 q2 p1 p2 b14) [(.int (own_nn p2))])) _
      refine XS.iconst X22.here hx rfl (hb hby at_353) ?_
      show Steps p.tables e below (T22.setTop (mkF m 354 (lc0_19 q1 q2 p1 p2 b14) [(.int (4 : Int32)), (.int (own_nn p2))])) _
      refine XS.icmpYes X22.here hx rfl (pc0 := 354) (pc' := 373) rfl (hb hby at_354) rfl (tlt (show (own_nn p2) < (4 : Int32) from own_mono p2 hc145_20 (by decide))).1 (by decide) (by decide) ?_
      show Steps p.tables e below (T22.setTop (mkF m 373 (lc0_19 q1 q2 p1 p2 b14) [])) _
      refine XS.lload X22.here hx rfl (hb hby at_373) rfl ?_
      show Steps p.tables e below (T22.setTop (mkF m 375 (lc0_19 q1 q2 p1 p2 b14) [(.long (own_recv (0 : Int32) (0 : Int32) (0 : Int64)))])) _
      refine XS.lload X22.here hx rfl (hb hby at_375) rfl ?_
      show Steps p.tables e below (T22.setTop (mkF m 377 (lc0_19 q1 q2 p1 p2 b14) [(.long (0 : Int64)), (.long (own_recv (0 : Int32) (0 : Int32) (0 : Int64)))])) _
      refine XS.lcmp X22.here hx rfl (hb hby at_377) rfl ?_
      show Steps p.tables e below (T22.setTop (mkF m 378 (lc0_19 q1 q2 p1 p2 b14) [(.int (lcmpW (own_recv (0 : Int32) (0 : Int32) (0 : Int64)) (0 : Int64)))])) _
      refine XS.ifNo X22.here hx rfl (hb hby at_378) rfl ((if0 _ _).trans (teq ((lw_eq _ _).mpr (show (own_recv (0 : Int32) (0 : Int32) (0 : Int64)) = (0 : Int64) from own_law0 q1 q2 p1 p2))).2) ?_
      show Steps p.tables e below (T22.setTop (mkF m 381 (lc0_19 q1 q2 p1 p2 b14) [])) _
      refine XS.iconst X22.here hx rfl (hb hby at_381) ?_
      show Steps p.tables e below (T22.setTop (mkF m 382 (lc0_19 q1 q2 p1 p2 b14) [(.int (1 : Int32))])) _
      refine XS.goto X22.here hx rfl (pc0 := 382) (pc' := 386) rfl (hb hby at_382) (by decide) (by decide) ?_
      show Steps p.tables e below (T22.setTop (mkF m 386 (lc0_19 q1 q2 p1 p2 b14) [(.int (1 : Int32))])) _
      exact k)
    obtain ⟨fs, hr, hrun, hended, hW, hsame⟩ := X22.leave (v := some (.int (1 : Int32))) (fun h => by rw [Bd.returns] at h; cases h) hlk
    refine ⟨_, _, pre24 _ ?_, hrun, hended, _, _, rfl, ?_, ⟨_, rfl⟩, hW, hsame.mono (by decide) (by decide)⟩
    · show Steps p.tables e below (T22.setTop (mkF m 386 (lc0_19 q1 q2 p1 p2 b14) [(.int (1 : Int32))])) _
      exact retN X22 hx (t := .boolean) Bd.returns (by simp) (hb hby at_386) hr
    · show Q0 Z q1 q2 p1 p2 h0 n0 _ T22.heap _
      rw [e22]
      exact ⟨rfl, N22⟩
  · have pre25 : ∀ t, Steps p.tables e below (T17.setTop (mkF m 154 (lc0_14 q1 q2 p1 p2 b14) [(.int (if (p2 &&& (1 : Int32)) = (0 : Int32) then (0 : Int32) else (1 : Int32))), (.long (own_t0 q2)), (.ref b14)])) t → Steps p.tables e below (s₁.setTop (entryFrame m #[(.long q1), (.long q2), (.int p1), (.int p2)] maxLocals)) t := fun t k => pre19 t (by
      show Steps p.tables e below (T17.setTop (mkF m 145 (lc0_14 q1 q2 p1 p2 b14) [(.int (1 : Int32)), (.int (own_nn p2))])) _
      refine XS.icmpNo X17.here hx rfl (hb hby at_145) rfl (flt hc145_20).1 ?_
      show Steps p.tables e below (T17.setTop (mkF m 148 (lc0_14 q1 q2 p1 p2 b14) [])) _
      refine XS.aload X17.here hx rfl (hb hby at_148) rfl rfl ?_
      show Steps p.tables e below (T17.setTop (mkF m 150 (lc0_14 q1 q2 p1 p2 b14) [(.ref b14)])) _
      refine XS.lload X17.here hx rfl (hb hby at_150) rfl ?_
      show Steps p.tables e below (T17.setTop (mkF m 152 (lc0_14 q1 q2 p1 p2 b14) [(.long (own_t0 q2)), (.ref b14)])) _
      refine XS.iload X17.here hx rfl (hb hby at_152) rfl ?_
      show Steps p.tables e below (T17.setTop (mkF m 154 (lc0_14 q1 q2 p1 p2 b14) [(.int (if (p2 &&& (1 : Int32)) = (0 : Int32) then (0 : Int32) else (1 : Int32))), (.long (own_t0 q2)), (.ref b14)])) _
      exact k)
    obtain ⟨cq26, kq26, q26a, q26b, q26c⟩ := isOf hZ rfl E_b14
    obtain ⟨_, _, ⟨T26, L26, k26, n26⟩, -, X26, ⟨Lc26, hQ26, l26, y26, z26⟩, st26⟩ := X17.virtualBack hx (y := (⟨"com/example/squitterlab/squitterlab/sim/OverlapCounter", "arrive", "(JZ)V"⟩ : MethodName)) (z := (⟨"com/example/squitterlab/squitterlab/sim/OverlapCounter", "arrive", "(JZ)V"⟩ : MethodName)) hown (mvT hZ (hw _ (List.mem_of_getElem? (i := 21) rfl))) (mvT hZ (hw _ (List.mem_of_getElem? (i := 22) rfl))) (notFace_of_selects (args := #[]) (mvT hZ (hw _ (List.mem_of_getElem? (i := 24) rfl)))) (mvT hZ (hw _ (List.mem_of_getElem? (i := 24) rfl))) (mvT hZ (hw _ (List.mem_of_getElem? (i := 23) rfl))) (by decide) (backOf (W := 0) (rm4 l Z a0 hw [] b14 (own_t0 q2) (if (p2 &&& (1 : Int32)) = (0 : Int32) then (0 : Int32) else (1 : Int32)) (own_fr q1) (0 : Int32) (0 : Int64) (0 : Int32) (0 : Int32) (0 : Int64) (0 : Int64) T17.heap n0 Z17 E_b14 F_b14_framePicos F_b14_any F_b14_lastArrival F_b14_lastLost F_b14_lastCounted F_b14_received F_b14_arrived g_b14 (fun h => absurd rfl h)) hZ (hw _ (List.mem_of_getElem? (i := 25) rfl)) (hw _ (List.mem_of_getElem? (i := 3) rfl)) (by decide) (by decide)) q26a q26c (g := (mkF m 154 (lc0_14 q1 q2 p1 p2 b14) [(.int (if (p2 &&& (1 : Int32)) = (0 : Int32) then (0 : Int32) else (1 : Int32))), (.long (own_t0 q2)), (.ref b14)])) rfl (by rw [hml]; rfl) (Steps.refl _) (argsL := [(.long (own_t0 q2)), (.int (if (p2 &&& (1 : Int32)) = (0 : Int32) then (0 : Int32) else (1 : Int32)))]) (rest := []) (lenOf pd_3 rfl) rfl (by show 2 * 0 + _ ≤ _; exact Nat.le_of_eq rfl) (hb hby at_154) (fun _ _ => ⟨rfl, rfl, (by decide : 1 + 0 ≤ _), (by decide : 7 + 0 ≤ _)⟩)
    dsimp only [Pt.U, Pt.locs, Pt.cells, Pt.slots] at X26 l26 y26 z26 st26 hQ26
    subst l26 y26 z26
    obtain ⟨rfl, N26q, K26, q26_0, q26_1, q26_2, q26_3, q26_4, q26_5, q26_6⟩ := hQ26
    have E_b14 := E_b14.keep K26
    have Z26 : n0 ≤ T26.heap.size := Nat.le_trans Z17 K26.1
    have F_b14_framePicos := q26_0
    have F_b14_any := q26_1
    have F_b14_lastArrival := q26_2
    have F_b14_lastLost := q26_3
    have F_b14_lastCounted := q26_4
    have F_b14_received := q26_5
    have F_b14_arrived := q26_6
    have N26 := Fr.app N17 N26q
    have pre27 : ∀ t, Steps p.tables e below (T26.setTop (mkF m 157 (lc0_14 q1 q2 p1 p2 b14) [])) t → Steps p.tables e below (s₁.setTop (entryFrame m #[(.long q1), (.long q2), (.int p1), (.int p2)] maxLocals)) t := fun t k => pre25 t (st26.trans k)
    have pre28 : ∀ t, Steps p.tables e below (T26.setTop (mkF m 160 (lc0_14 q1 q2 p1 p2 b14) [(.int (2 : Int32)), (.int (own_nn p2))])) t → Steps p.tables e below (s₁.setTop (entryFrame m #[(.long q1), (.long q2), (.int p1), (.int p2)] maxLocals)) t := fun t k => pre27 t (by
      show Steps p.tables e below (T26.setTop (mkF m 157 (lc0_14 q1 q2 p1 p2 b14) [])) _
      refine XS.iload X26.here hx rfl (hb hby at_157) rfl ?_
      show Steps p.tables e below (T26.setTop (mkF m 159 (lc0_14 q1 q2 p1 p2 b14) [(.int (own_nn p2))])) _
      refine XS.iconst X26.here hx rfl (hb hby at_159) ?_
      show Steps p.tables e below (T26.setTop (mkF m 160 (lc0_14 q1 q2 p1 p2 b14) [(.int (2 : Int32)), (.int (own_nn p2))])) _
      exact k)
    by_cases hc160_29 : (own_nn p2) < (2 : Int32)
    · have pre30 : ∀ t, Steps p.tables e below (T26.setTop (mkF m 204 (lc0_14 q1 q2 p1 p2 b14) [(.ref b14)])) t → Steps p.tables e below (s₁.setTop (entryFrame m #[(.long q1), (.long q2), (.int p1), (.int p2)] maxLocals)) t := fun t k => pre28 t (by
        show Steps p.tables e below (T26.setTop (mkF m 160 (lc0_14 q1 q2 p1 p2 b14) [(.int (2 : Int32)), (.int (own_nn p2))])) _
        refine XS.icmpYes X26.here hx rfl (pc0 := 160) (pc' := 172) rfl (hb hby at_160) rfl (tlt hc160_29).1 (by decide) (by decide) ?_
        show Steps p.tables e below (T26.setTop (mkF m 172 (lc0_14 q1 q2 p1 p2 b14) [])) _
        refine XS.iload X26.here hx rfl (hb hby at_172) rfl ?_
        show Steps p.tables e below (T26.setTop (mkF m 174 (lc0_14 q1 q2 p1 p2 b14) [(.int (own_nn p2))])) _
        refine XS.iconst X26.here hx rfl (hb hby at_174) ?_
        show Steps p.tables e below (T26.setTop (mkF m 175 (lc0_14 q1 q2 p1 p2 b14) [(.int (3 : Int32)), (.int (own_nn p2))])) _
        refine XS.icmpYes X26.here hx rfl (pc0 := 175) (pc' := 187) rfl (hb hby at_175) rfl (tlt (show (own_nn p2) < (3 : Int32) from own_mono p2 hc160_29 (by decide))).1 (by decide) (by decide) ?_
        show Steps p.tables e below (T26.setTop (mkF m 187 (lc0_14 q1 q2 p1 p2 b14) [])) _
        refine XS.iload X26.here hx rfl (hb hby at_187) rfl ?_
        show Steps p.tables e below (T26.setTop (mkF m 189 (lc0_14 q1 q2 p1 p2 b14) [(.int (own_nn p2))])) _
        refine XS.iconst X26.here hx rfl (hb hby at_189) ?_
        show Steps p.tables e below (T26.setTop (mkF m 190 (lc0_14 q1 q2 p1 p2 b14) [(.int (4 : Int32)), (.int (own_nn p2))])) _
        refine XS.icmpYes X26.here hx rfl (pc0 := 190) (pc' := 202) rfl (hb hby at_190) rfl (tlt (show (own_nn p2) < (4 : Int32) from own_mono p2 hc160_29 (by decide))).1 (by decide) (by decide) ?_
        show Steps p.tables e below (T26.setTop (mkF m 202 (lc0_14 q1 q2 p1 p2 b14) [])) _
        refine XS.aload X26.here hx rfl (hb hby at_202) rfl rfl ?_
        show Steps p.tables e below (T26.setTop (mkF m 204 (lc0_14 q1 q2 p1 p2 b14) [(.ref b14)])) _
        exact k)
      obtain ⟨cq31, kq31, q31a, q31b, q31c⟩ := isOf hZ rfl E_b14
      obtain ⟨_, _, ⟨T31, L31, k31, n31⟩, -, X31, ⟨Lc31, hQ31, l31, y31, z31⟩, st31⟩ := X26.virtualBack hx (y := (⟨"com/example/squitterlab/squitterlab/sim/OverlapCounter", "received", "()J"⟩ : MethodName)) (z := (⟨"com/example/squitterlab/squitterlab/sim/OverlapCounter", "received", "()J"⟩ : MethodName)) hown (mvT hZ (hw _ (List.mem_of_getElem? (i := 12) rfl))) (mvT hZ (hw _ (List.mem_of_getElem? (i := 13) rfl))) (notFace_of_selects (args := #[]) (mvT hZ (hw _ (List.mem_of_getElem? (i := 15) rfl)))) (mvT hZ (hw _ (List.mem_of_getElem? (i := 15) rfl))) (mvT hZ (hw _ (List.mem_of_getElem? (i := 14) rfl))) (by decide) (backOf (W := 0) (rm3 l Z a0 hw [] b14 (own_lost (0 : Int32) (0 : Int64) (own_fr q1) (own_t0 q2)) (nar .boolean (if (p2 &&& (1 : Int32)) = (0 : Int32) then (0 : Int32) else (1 : Int32))) (own_rec (0 : Int32) (own_fr q1) (0 : Int64) (0 : Int32) (0 : Int32) (0 : Int64) (own_t0 q2)) T26.heap n0 Z26 E_b14 F_b14_lastLost F_b14_lastCounted F_b14_received) hZ (hw _ (List.mem_of_getElem? (i := 16) rfl)) (hw _ (List.mem_of_getElem? (i := 3) rfl)) (by decide) (by decide)) q31a q31c (g := (mkF m 204 (lc0_14 q1 q2 p1 p2 b14) [(.ref b14)])) rfl (by rw [hml]; rfl) (Steps.refl _) (argsL := []) (rest := []) (lenOf pd_2 rfl) rfl (by show 2 * 0 + _ ≤ _; exact Nat.le_of_eq rfl) (hb hby at_204) (fun _ _ => ⟨rfl, rfl, (by decide : 1 + 0 ≤ _), (by decide : 7 + 0 ≤ _)⟩)
      dsimp only [Pt.U, Pt.locs, Pt.cells, Pt.slots] at X31 l31 y31 z31 st31 hQ31
      subst l31 y31 z31
      obtain ⟨rfl, N31q, e31⟩ := hQ31
      have N31 := Fr.app N26 N31q
      have pre32 : ∀ t, Steps p.tables e below (T31.setTop (mkF m 207 (lc0_14 q1 q2 p1 p2 b14) [(.long (own_recv (nar .boolean (if (p2 &&& (1 : Int32)) = (0 : Int32) then (0 : Int32) else (1 : Int32))) (own_lost (0 : Int32) (0 : Int64) (own_fr q1) (own_t0 q2)) (own_rec (0 : Int32) (own_fr q1) (0 : Int64) (0 : Int32) (0 : Int32) (0 : Int64) (own_t0 q2))))])) t → Steps p.tables e below (s₁.setTop (entryFrame m #[(.long q1), (.long q2), (.int p1), (.int p2)] maxLocals)) t := fun t k => pre30 t (st31.trans k)
      have pre33 : ∀ t, Steps p.tables e below (T31.setTop (mkF m 283 (lc0_24 q1 q2 p1 p2 b14) [(.int (if (p2 &&& (1 : Int32)) = (0 : Int32) then (0 : Int32) else (1 : Int32)))])) t → Steps p.tables e below (s₁.setTop (entryFrame m #[(.long q1), (.long q2), (.int p1), (.int p2)] maxLocals)) t := fun t k => pre32 t (by
        show Steps p.tables e below (T31.setTop (mkF m 207 (lc0_14 q1 q2 p1 p2 b14) [(.long (own_recv (nar .boolean (if (p2 &&& (1 : Int32)) = (0 : Int32) then (0 : Int32) else (1 : Int32))) (own_lost (0 : Int32) (0 : Int64) (own_fr q1) (own_t0 q2)) (own_rec (0 : Int32) (own_fr q1) (0 : Int64) (0 : Int32) (0 : Int32) (0 : Int64) (own_t0 q2))))])) _
        refine XS.lstore X31.here hx rfl (hb hby at_207) rfl (l' := (lc0_20 q1 q2 p1 p2 b14)) rfl ?_
        show Steps p.tables e below (T31.setTop (mkF m 209 (lc0_20 q1 q2 p1 p2 b14) [])) _
        refine XS.iload X31.here hx rfl (hb hby at_209) rfl ?_
        show Steps p.tables e below (T31.setTop (mkF m 211 (lc0_20 q1 q2 p1 p2 b14) [(.int (own_nn p2))])) _
        refine XS.iconst X31.here hx rfl (hb hby at_211) ?_
        show Steps p.tables e below (T31.setTop (mkF m 212 (lc0_20 q1 q2 p1 p2 b14) [(.int (2 : Int32)), (.int (own_nn p2))])) _
        refine XS.icmpYes X31.here hx rfl (pc0 := 212) (pc' := 227) rfl (hb hby at_212) rfl (tlt hc160_29).1 (by decide) (by decide) ?_
        show Steps p.tables e below (T31.setTop (mkF m 227 (lc0_20 q1 q2 p1 p2 b14) [])) _
        refine XS.iconst X31.here hx rfl (hb hby at_227) ?_
        show Steps p.tables e below (T31.setTop (mkF m 228 (lc0_20 q1 q2 p1 p2 b14) [(.int (0 : Int32))])) _
        refine XS.istore X31.here hx rfl (hb hby at_228) rfl (l' := (lc0_21 q1 q2 p1 p2 b14)) rfl ?_
        show Steps p.tables e below (T31.setTop (mkF m 230 (lc0_21 q1 q2 p1 p2 b14) [])) _
        refine XS.iload X31.here hx rfl (hb hby at_230) rfl ?_
        show Steps p.tables e below (T31.setTop (mkF m 232 (lc0_21 q1 q2 p1 p2 b14) [(.int (own_nn p2))])) _
        refine XS.iconst X31.here hx rfl (hb hby at_232) ?_
        show Steps p.tables e below (T31.setTop (mkF m 233 (lc0_21 q1 q2 p1 p2 b14) [(.int (3 : Int32)), (.int (own_nn p2))])) _
        refine XS.icmpYes X31.here hx rfl (pc0 := 233) (pc' := 248) rfl (hb hby at_233) rfl (tlt (show (own_nn p2) < (3 : Int32) from own_mono p2 hc160_29 (by decide))).1 (by decide) (by decide) ?_
        show Steps p.tables e below (T31.setTop (mkF m 248 (lc0_21 q1 q2 p1 p2 b14) [])) _
        refine XS.iconst X31.here hx rfl (hb hby at_248) ?_
        show Steps p.tables e below (T31.setTop (mkF m 249 (lc0_21 q1 q2 p1 p2 b14) [(.int (0 : Int32))])) _
        refine XS.istore X31.here hx rfl (hb hby at_249) rfl (l' := (lc0_22 q1 q2 p1 p2 b14)) rfl ?_
        show Steps p.tables e below (T31.setTop (mkF m 251 (lc0_22 q1 q2 p1 p2 b14) [])) _
        refine XS.iload X31.here hx rfl (hb hby at_251) rfl ?_
        show Steps p.tables e below (T31.setTop (mkF m 253 (lc0_22 q1 q2 p1 p2 b14) [(.int (own_nn p2))])) _
        refine XS.iconst X31.here hx rfl (hb hby at_253) ?_
        show Steps p.tables e below (T31.setTop (mkF m 254 (lc0_22 q1 q2 p1 p2 b14) [(.int (4 : Int32)), (.int (own_nn p2))])) _
        refine XS.icmpYes X31.here hx rfl (pc0 := 254) (pc' := 269) rfl (hb hby at_254) rfl (tlt (show (own_nn p2) < (4 : Int32) from own_mono p2 hc160_29 (by decide))).1 (by decide) (by decide) ?_
        show Steps p.tables e below (T31.setTop (mkF m 269 (lc0_22 q1 q2 p1 p2 b14) [])) _
        refine XS.iconst X31.here hx rfl (hb hby at_269) ?_
        show Steps p.tables e below (T31.setTop (mkF m 270 (lc0_22 q1 q2 p1 p2 b14) [(.int (0 : Int32))])) _
        refine XS.istore X31.here hx rfl (hb hby at_270) rfl (l' := (lc0_23 q1 q2 p1 p2 b14)) rfl ?_
        show Steps p.tables e below (T31.setTop (mkF m 272 (lc0_23 q1 q2 p1 p2 b14) [])) _
        refine XS.lconst X31.here hx rfl (hb hby at_272) ?_
        show Steps p.tables e below (T31.setTop (mkF m 273 (lc0_23 q1 q2 p1 p2 b14) [(.long (0 : Int64))])) _
        refine XS.lstore X31.here hx rfl (hb hby at_273) rfl (l' := (lc0_24 q1 q2 p1 p2 b14)) rfl ?_
        show Steps p.tables e below (T31.setTop (mkF m 275 (lc0_24 q1 q2 p1 p2 b14) [])) _
        refine XS.iload X31.here hx rfl (hb hby at_275) rfl ?_
        show Steps p.tables e below (T31.setTop (mkF m 277 (lc0_24 q1 q2 p1 p2 b14) [(.int (own_nn p2))])) _
        refine XS.iconst X31.here hx rfl (hb hby at_277) ?_
        show Steps p.tables e below (T31.setTop (mkF m 278 (lc0_24 q1 q2 p1 p2 b14) [(.int (1 : Int32)), (.int (own_nn p2))])) _
        refine XS.icmpNo X31.here hx rfl (hb hby at_278) rfl (flt hc145_20).1 ?_
        show Steps p.tables e below (T31.setTop (mkF m 281 (lc0_24 q1 q2 p1 p2 b14) [])) _
        refine XS.iload X31.here hx rfl (hb hby at_281) rfl ?_
        show Steps p.tables e below (T31.setTop (mkF m 283 (lc0_24 q1 q2 p1 p2 b14) [(.int (if (p2 &&& (1 : Int32)) = (0 : Int32) then (0 : Int32) else (1 : Int32)))])) _
        exact k)
      have pre35 : ∀ t, Steps p.tables e below (T31.setTop (mkF m 297 (lc0_27 q1 q2 p1 p2 b14) [])) t → Steps p.tables e below (s₁.setTop (entryFrame m #[(.long q1), (.long q2), (.int p1), (.int p2)] maxLocals)) t := fun t k => pre33 t (by
        show Steps p.tables e below (T31.setTop (mkF m 283 (lc0_24 q1 q2 p1 p2 b14) [(.int (if (p2 &&& (1 : Int32)) = (0 : Int32) then (0 : Int32) else (1 : Int32)))])) _
        by_cases hm283_34 : (p2 &&& (1 : Int32)) = (0 : Int32)
        · refine XS.ifYes X31.here hx rfl (pc0 := 283) (pc' := 297) rfl (hb hby at_283) rfl ((if0 _ _).trans (teq (by simp only [if_pos hm283_34] <;> decide)).1) (by decide) (by decide) ?_
          show Steps p.tables e below (T31.setTop (mkF m 297 (lc0_24 q1 q2 p1 p2 b14) [])) _
          have q : (own_k1 (0 : Int64) ((p2 &&& (1 : Int32)) = (0 : Int32))) = (0 : Int64) := by simp only [own_k1, if_pos hm283_34]
          exact Eq.subst (motive := fun xJ => Steps p.tables e below (T31.setTop (mkF m 297 (lc0_26 q1 q2 p1 p2 b14 xJ) [])) t) q k
        · refine XS.ifNo X31.here hx rfl (hb hby at_283) rfl ((if0 _ _).trans (feq (by simp only [if_neg hm283_34] <;> decide)).1) ?_
          show Steps p.tables e below (T31.setTop (mkF m 286 (lc0_24 q1 q2 p1 p2 b14) [])) _
          refine XS.iload X31.here hx rfl (hb hby at_286) rfl ?_
          show Steps p.tables e below (T31.setTop (mkF m 288 (lc0_24 q1 q2 p1 p2 b14) [(.int (0 : Int32))])) _
          refine XS.ifNo X31.here hx rfl (hb hby at_288) rfl ((if0 _ _).trans (teq (by decide)).2) ?_
          show Steps p.tables e below (T31.setTop (mkF m 291 (lc0_24 q1 q2 p1 p2 b14) [])) _
          refine XS.lload X31.here hx rfl (hb hby at_291) rfl ?_
          show Steps p.tables e below (T31.setTop (mkF m 293 (lc0_24 q1 q2 p1 p2 b14) [(.long (0 : Int64))])) _
          refine XS.lconst X31.here hx rfl (hb hby at_293) ?_
          show Steps p.tables e below (T31.setTop (mkF m 294 (lc0_24 q1 q2 p1 p2 b14) [(.long (1 : Int64)), (.long (0 : Int64))])) _
          refine XS.ladd X31.here hx rfl (hb hby at_294) rfl ?_
          show Steps p.tables e below (T31.setTop (mkF m 295 (lc0_24 q1 q2 p1 p2 b14) [(.long ((0 : Int64) + (1 : Int64)))])) _
          refine XS.lstore X31.here hx rfl (hb hby at_295) rfl (l' := (lc0_25 q1 q2 p1 p2 b14)) rfl ?_
          show Steps p.tables e below (T31.setTop (mkF m 297 (lc0_25 q1 q2 p1 p2 b14) [])) _
          have q : (own_k1 (0 : Int64) ((p2 &&& (1 : Int32)) = (0 : Int32))) = ((0 : Int64) + (1 : Int64)) := by simp only [own_k1, if_neg hm283_34]
          exact Eq.subst (motive := fun xJ => Steps p.tables e below (T31.setTop (mkF m 297 (lc0_26 q1 q2 p1 p2 b14 xJ) [])) t) q k)
      have pre36 : ∀ t, Steps p.tables e below (T31.setTop (mkF m 386 (lc0_27 q1 q2 p1 p2 b14) [(.int (1 : Int32))])) t → Steps p.tables e below (s₁.setTop (entryFrame m #[(.long q1), (.long q2), (.int p1), (.int p2)] maxLocals)) t := fun t k => pre35 t (by
        show Steps p.tables e below (T31.setTop (mkF m 297 (lc0_27 q1 q2 p1 p2 b14) [])) _
        refine XS.iload X31.here hx rfl (hb hby at_297) rfl ?_
        show Steps p.tables e below (T31.setTop (mkF m 299 (lc0_27 q1 q2 p1 p2 b14) [(.int (own_nn p2))])) _
        refine XS.iconst X31.here hx rfl (hb hby at_299) ?_
        show Steps p.tables e below (T31.setTop (mkF m 300 (lc0_27 q1 q2 p1 p2 b14) [(.int (2 : Int32)), (.int (own_nn p2))])) _
        refine XS.icmpYes X31.here hx rfl (pc0 := 300) (pc' := 324) rfl (hb hby at_300) rfl (tlt hc160_29).1 (by decide) (by decide) ?_
        show Steps p.tables e below (T31.setTop (mkF m 324 (lc0_27 q1 q2 p1 p2 b14) [])) _
        refine XS.iload X31.here hx rfl (hb hby at_324) rfl ?_
        show Steps p.tables e below (T31.setTop (mkF m 326 (lc0_27 q1 q2 p1 p2 b14) [(.int (own_nn p2))])) _
        refine XS.iconst X31.here hx rfl (hb hby at_326) ?_
        show Steps p.tables e below (T31.setTop (mkF m 327 (lc0_27 q1 q2 p1 p2 b14) [(.int (3 : Int32)), (.int (own_nn p2))])) _
        refine XS.icmpYes X31.here hx rfl (pc0 := 327) (pc' := 351) rfl (hb hby at_327) rfl (tlt (show (own_nn p2) < (3 : Int32) from own_mono p2 hc160_29 (by decide))).1 (by decide) (by decide) ?_
        show Steps p.tables e below (T31.setTop (mkF m 351 (lc0_27 q1 q2 p1 p2 b14) [])) _
        refine XS.iload X31.here hx rfl (hb hby at_351) rfl ?_
        show Steps p.tables e below (T31.setTop (mkF m 353 (lc0_27 q1 q2 p1 p2 b14) [(.int (own_nn p2))])) _
        refine XS.iconst X31.here hx rfl (hb hby at_353) ?_
        show Steps p.tables e below (T31.setTop (mkF m 354 (lc0_27 q1 q2 p1 p2 b14) [(.int (4 : Int32)), (.int (own_nn p2))])) _
        refine XS.icmpYes X31.here hx rfl (pc0 := 354) (pc' := 373) rfl (hb hby at_354) rfl (tlt (show (own_nn p2) < (4 : Int32) from own_mono p2 hc160_29 (by decide))).1 (by decide) (by decide) ?_
        show Steps p.tables e below (T31.setTop (mkF m 373 (lc0_27 q1 q2 p1 p2 b14) [])) _
        refine XS.lload X31.here hx rfl (hb hby at_373) rfl ?_
        show Steps p.tables e below (T31.setTop (mkF m 375 (lc0_27 q1 q2 p1 p2 b14) [(.long (own_recv (nar .boolean (if (p2 &&& (1 : Int32)) = (0 : Int32) then (0 : Int32) else (1 : Int32))) (own_lost (0 : Int32) (0 : Int64) (own_fr q1) (own_t0 q2)) (own_rec (0 : Int32) (own_fr q1) (0 : Int64) (0 : Int32) (0 : Int32) (0 : Int64) (own_t0 q2))))])) _
        refine XS.lload X31.here hx rfl (hb hby at_375) rfl ?_
        show Steps p.tables e below (T31.setTop (mkF m 377 (lc0_27 q1 q2 p1 p2 b14) [(.long (own_k1 (0 : Int64) ((p2 &&& (1 : Int32)) = (0 : Int32)))), (.long (own_recv (nar .boolean (if (p2 &&& (1 : Int32)) = (0 : Int32) then (0 : Int32) else (1 : Int32))) (own_lost (0 : Int32) (0 : Int64) (own_fr q1) (own_t0 q2)) (own_rec (0 : Int32) (own_fr q1) (0 : Int64) (0 : Int32) (0 : Int32) (0 : Int64) (own_t0 q2))))])) _
        refine XS.lcmp X31.here hx rfl (hb hby at_377) rfl ?_
        show Steps p.tables e below (T31.setTop (mkF m 378 (lc0_27 q1 q2 p1 p2 b14) [(.int (lcmpW (own_recv (nar .boolean (if (p2 &&& (1 : Int32)) = (0 : Int32) then (0 : Int32) else (1 : Int32))) (own_lost (0 : Int32) (0 : Int64) (own_fr q1) (own_t0 q2)) (own_rec (0 : Int32) (own_fr q1) (0 : Int64) (0 : Int32) (0 : Int32) (0 : Int64) (own_t0 q2))) (own_k1 (0 : Int64) ((p2 &&& (1 : Int32)) = (0 : Int32)))))])) _
        refine XS.ifNo X31.here hx rfl (hb hby at_378) rfl ((if0 _ _).trans (teq ((lw_eq _ _).mpr (show (own_recv (nar .boolean (if (p2 &&& (1 : Int32)) = (0 : Int32) then (0 : Int32) else (1 : Int32))) (own_lost (0 : Int32) (0 : Int64) (own_fr q1) (own_t0 q2)) (own_rec (0 : Int32) (own_fr q1) (0 : Int64) (0 : Int32) (0 : Int32) (0 : Int64) (own_t0 q2))) = (own_k1 (0 : Int64) ((p2 &&& (1 : Int32)) = (0 : Int32))) from own_law1 q1 q2 p1 p2))).2) ?_
        show Steps p.tables e below (T31.setTop (mkF m 381 (lc0_27 q1 q2 p1 p2 b14) [])) _
        refine XS.iconst X31.here hx rfl (hb hby at_381) ?_
        show Steps p.tables e below (T31.setTop (mkF m 382 (lc0_27 q1 q2 p1 p2 b14) [(.int (1 : Int32))])) _
        refine XS.goto X31.here hx rfl (pc0 := 382) (pc' := 386) rfl (hb hby at_382) (by decide) (by decide) ?_
        show Steps p.tables e below (T31.setTop (mkF m 386 (lc0_27 q1 q2 p1 p2 b14) [(.int (1 : Int32))])) _
        exact k)
      obtain ⟨fs, hr, hrun, hended, hW, hsame⟩ := X31.leave (v := some (.int (1 : Int32))) (fun h => by rw [Bd.returns] at h; cases h) hlk
      refine ⟨_, _, pre36 _ ?_, hrun, hended, _, _, rfl, ?_, ⟨_, rfl⟩, hW, hsame.mono (by decide) (by decide)⟩
      · show Steps p.tables e below (T31.setTop (mkF m 386 (lc0_27 q1 q2 p1 p2 b14) [(.int (1 : Int32))])) _
        exact retN X31 hx (t := .boolean) Bd.returns (by simp) (hb hby at_386) hr
      · show Q0 Z q1 q2 p1 p2 h0 n0 _ T31.heap _
        rw [e31]
        exact ⟨rfl, N31⟩
    · have pre37 : ∀ t, Steps p.tables e below (T26.setTop (mkF m 169 (lc0_14 q1 q2 p1 p2 b14) [(.int (if (p2 &&& (2 : Int32)) = (0 : Int32) then (0 : Int32) else (1 : Int32))), (.long (own_t1 q2 p1)), (.ref b14)])) t → Steps p.tables e below (s₁.setTop (entryFrame m #[(.long q1), (.long q2), (.int p1), (.int p2)] maxLocals)) t := fun t k => pre28 t (by
        show Steps p.tables e below (T26.setTop (mkF m 160 (lc0_14 q1 q2 p1 p2 b14) [(.int (2 : Int32)), (.int (own_nn p2))])) _
        refine XS.icmpNo X26.here hx rfl (hb hby at_160) rfl (flt hc160_29).1 ?_
        show Steps p.tables e below (T26.setTop (mkF m 163 (lc0_14 q1 q2 p1 p2 b14) [])) _
        refine XS.aload X26.here hx rfl (hb hby at_163) rfl rfl ?_
        show Steps p.tables e below (T26.setTop (mkF m 165 (lc0_14 q1 q2 p1 p2 b14) [(.ref b14)])) _
        refine XS.lload X26.here hx rfl (hb hby at_165) rfl ?_
        show Steps p.tables e below (T26.setTop (mkF m 167 (lc0_14 q1 q2 p1 p2 b14) [(.long (own_t1 q2 p1)), (.ref b14)])) _
        refine XS.iload X26.here hx rfl (hb hby at_167) rfl ?_
        show Steps p.tables e below (T26.setTop (mkF m 169 (lc0_14 q1 q2 p1 p2 b14) [(.int (if (p2 &&& (2 : Int32)) = (0 : Int32) then (0 : Int32) else (1 : Int32))), (.long (own_t1 q2 p1)), (.ref b14)])) _
        exact k)
      obtain ⟨cq38, kq38, q38a, q38b, q38c⟩ := isOf hZ rfl E_b14
      obtain ⟨_, _, ⟨T38, L38, k38, n38⟩, -, X38, ⟨Lc38, hQ38, l38, y38, z38⟩, st38⟩ := X26.virtualBack hx (y := (⟨"com/example/squitterlab/squitterlab/sim/OverlapCounter", "arrive", "(JZ)V"⟩ : MethodName)) (z := (⟨"com/example/squitterlab/squitterlab/sim/OverlapCounter", "arrive", "(JZ)V"⟩ : MethodName)) hown (mvT hZ (hw _ (List.mem_of_getElem? (i := 21) rfl))) (mvT hZ (hw _ (List.mem_of_getElem? (i := 22) rfl))) (notFace_of_selects (args := #[]) (mvT hZ (hw _ (List.mem_of_getElem? (i := 24) rfl)))) (mvT hZ (hw _ (List.mem_of_getElem? (i := 24) rfl))) (mvT hZ (hw _ (List.mem_of_getElem? (i := 23) rfl))) (by decide) (backOf (W := 0) (rm4 l Z a0 hw [] b14 (own_t1 q2 p1) (if (p2 &&& (2 : Int32)) = (0 : Int32) then (0 : Int32) else (1 : Int32)) (own_fr q1) (1 : Int32) (own_t0 q2) (own_lost (0 : Int32) (0 : Int64) (own_fr q1) (own_t0 q2)) (nar .boolean (if (p2 &&& (1 : Int32)) = (0 : Int32) then (0 : Int32) else (1 : Int32))) (own_rec (0 : Int32) (own_fr q1) (0 : Int64) (0 : Int32) (0 : Int32) (0 : Int64) (own_t0 q2)) (own_arr (0 : Int64) (if (p2 &&& (1 : Int32)) = (0 : Int32) then (0 : Int32) else (1 : Int32))) T26.heap n0 Z26 E_b14 F_b14_framePicos F_b14_any F_b14_lastArrival F_b14_lastLost F_b14_lastCounted F_b14_received F_b14_arrived g_b14 (fun _ => own_ge1 q2 p1)) hZ (hw _ (List.mem_of_getElem? (i := 25) rfl)) (hw _ (List.mem_of_getElem? (i := 3) rfl)) (by decide) (by decide)) q38a q38c (g := (mkF m 169 (lc0_14 q1 q2 p1 p2 b14) [(.int (if (p2 &&& (2 : Int32)) = (0 : Int32) then (0 : Int32) else (1 : Int32))), (.long (own_t1 q2 p1)), (.ref b14)])) rfl (by rw [hml]; rfl) (Steps.refl _) (argsL := [(.long (own_t1 q2 p1)), (.int (if (p2 &&& (2 : Int32)) = (0 : Int32) then (0 : Int32) else (1 : Int32)))]) (rest := []) (lenOf pd_3 rfl) rfl (by show 2 * 0 + _ ≤ _; exact Nat.le_of_eq rfl) (hb hby at_169) (fun _ _ => ⟨rfl, rfl, (by decide : 1 + 0 ≤ _), (by decide : 7 + 0 ≤ _)⟩)
      dsimp only [Pt.U, Pt.locs, Pt.cells, Pt.slots] at X38 l38 y38 z38 st38 hQ38
      subst l38 y38 z38
      obtain ⟨rfl, N38q, K38, q38_0, q38_1, q38_2, q38_3, q38_4, q38_5, q38_6⟩ := hQ38
      have E_b14 := E_b14.keep K38
      have Z38 : n0 ≤ T38.heap.size := Nat.le_trans Z26 K38.1
      have F_b14_framePicos := q38_0
      have F_b14_any := q38_1
      have F_b14_lastArrival := q38_2
      have F_b14_lastLost := q38_3
      have F_b14_lastCounted := q38_4
      have F_b14_received := q38_5
      have F_b14_arrived := q38_6
      have N38 := Fr.app N26 N38q
      have pre39 : ∀ t, Steps p.tables e below (T38.setTop (mkF m 172 (lc0_14 q1 q2 p1 p2 b14) [])) t → Steps p.tables e below (s₁.setTop (entryFrame m #[(.long q1), (.long q2), (.int p1), (.int p2)] maxLocals)) t := fun t k => pre37 t (st38.trans k)
      have pre40 : ∀ t, Steps p.tables e below (T38.setTop (mkF m 175 (lc0_14 q1 q2 p1 p2 b14) [(.int (3 : Int32)), (.int (own_nn p2))])) t → Steps p.tables e below (s₁.setTop (entryFrame m #[(.long q1), (.long q2), (.int p1), (.int p2)] maxLocals)) t := fun t k => pre39 t (by
        show Steps p.tables e below (T38.setTop (mkF m 172 (lc0_14 q1 q2 p1 p2 b14) [])) _
        refine XS.iload X38.here hx rfl (hb hby at_172) rfl ?_
        show Steps p.tables e below (T38.setTop (mkF m 174 (lc0_14 q1 q2 p1 p2 b14) [(.int (own_nn p2))])) _
        refine XS.iconst X38.here hx rfl (hb hby at_174) ?_
        show Steps p.tables e below (T38.setTop (mkF m 175 (lc0_14 q1 q2 p1 p2 b14) [(.int (3 : Int32)), (.int (own_nn p2))])) _
        exact k)
      by_cases hc175_41 : (own_nn p2) < (3 : Int32)
      · have pre42 : ∀ t, Steps p.tables e below (T38.setTop (mkF m 204 (lc0_14 q1 q2 p1 p2 b14) [(.ref b14)])) t → Steps p.tables e below (s₁.setTop (entryFrame m #[(.long q1), (.long q2), (.int p1), (.int p2)] maxLocals)) t := fun t k => pre40 t (by
          show Steps p.tables e below (T38.setTop (mkF m 175 (lc0_14 q1 q2 p1 p2 b14) [(.int (3 : Int32)), (.int (own_nn p2))])) _
          refine XS.icmpYes X38.here hx rfl (pc0 := 175) (pc' := 187) rfl (hb hby at_175) rfl (tlt hc175_41).1 (by decide) (by decide) ?_
          show Steps p.tables e below (T38.setTop (mkF m 187 (lc0_14 q1 q2 p1 p2 b14) [])) _
          refine XS.iload X38.here hx rfl (hb hby at_187) rfl ?_
          show Steps p.tables e below (T38.setTop (mkF m 189 (lc0_14 q1 q2 p1 p2 b14) [(.int (own_nn p2))])) _
          refine XS.iconst X38.here hx rfl (hb hby at_189) ?_
          show Steps p.tables e below (T38.setTop (mkF m 190 (lc0_14 q1 q2 p1 p2 b14) [(.int (4 : Int32)), (.int (own_nn p2))])) _
          refine XS.icmpYes X38.here hx rfl (pc0 := 190) (pc' := 202) rfl (hb hby at_190) rfl (tlt (show (own_nn p2) < (4 : Int32) from own_mono p2 hc175_41 (by decide))).1 (by decide) (by decide) ?_
          show Steps p.tables e below (T38.setTop (mkF m 202 (lc0_14 q1 q2 p1 p2 b14) [])) _
          refine XS.aload X38.here hx rfl (hb hby at_202) rfl rfl ?_
          show Steps p.tables e below (T38.setTop (mkF m 204 (lc0_14 q1 q2 p1 p2 b14) [(.ref b14)])) _
          exact k)
        obtain ⟨cq43, kq43, q43a, q43b, q43c⟩ := isOf hZ rfl E_b14
        obtain ⟨_, _, ⟨T43, L43, k43, n43⟩, -, X43, ⟨Lc43, hQ43, l43, y43, z43⟩, st43⟩ := X38.virtualBack hx (y := (⟨"com/example/squitterlab/squitterlab/sim/OverlapCounter", "received", "()J"⟩ : MethodName)) (z := (⟨"com/example/squitterlab/squitterlab/sim/OverlapCounter", "received", "()J"⟩ : MethodName)) hown (mvT hZ (hw _ (List.mem_of_getElem? (i := 12) rfl))) (mvT hZ (hw _ (List.mem_of_getElem? (i := 13) rfl))) (notFace_of_selects (args := #[]) (mvT hZ (hw _ (List.mem_of_getElem? (i := 15) rfl)))) (mvT hZ (hw _ (List.mem_of_getElem? (i := 15) rfl))) (mvT hZ (hw _ (List.mem_of_getElem? (i := 14) rfl))) (by decide) (backOf (W := 0) (rm3 l Z a0 hw [] b14 (own_lost (1 : Int32) (own_t0 q2) (own_fr q1) (own_t1 q2 p1)) (nar .boolean (if (p2 &&& (2 : Int32)) = (0 : Int32) then (0 : Int32) else (1 : Int32))) (own_rec (1 : Int32) (own_fr q1) (own_t0 q2) (own_lost (0 : Int32) (0 : Int64) (own_fr q1) (own_t0 q2)) (nar .boolean (if (p2 &&& (1 : Int32)) = (0 : Int32) then (0 : Int32) else (1 : Int32))) (own_rec (0 : Int32) (own_fr q1) (0 : Int64) (0 : Int32) (0 : Int32) (0 : Int64) (own_t0 q2)) (own_t1 q2 p1)) T38.heap n0 Z38 E_b14 F_b14_lastLost F_b14_lastCounted F_b14_received) hZ (hw _ (List.mem_of_getElem? (i := 16) rfl)) (hw _ (List.mem_of_getElem? (i := 3) rfl)) (by decide) (by decide)) q43a q43c (g := (mkF m 204 (lc0_14 q1 q2 p1 p2 b14) [(.ref b14)])) rfl (by rw [hml]; rfl) (Steps.refl _) (argsL := []) (rest := []) (lenOf pd_2 rfl) rfl (by show 2 * 0 + _ ≤ _; exact Nat.le_of_eq rfl) (hb hby at_204) (fun _ _ => ⟨rfl, rfl, (by decide : 1 + 0 ≤ _), (by decide : 7 + 0 ≤ _)⟩)
        dsimp only [Pt.U, Pt.locs, Pt.cells, Pt.slots] at X43 l43 y43 z43 st43 hQ43
        subst l43 y43 z43
        obtain ⟨rfl, N43q, e43⟩ := hQ43
        have N43 := Fr.app N38 N43q
        have pre44 : ∀ t, Steps p.tables e below (T43.setTop (mkF m 207 (lc0_14 q1 q2 p1 p2 b14) [(.long (own_recv (nar .boolean (if (p2 &&& (2 : Int32)) = (0 : Int32) then (0 : Int32) else (1 : Int32))) (own_lost (1 : Int32) (own_t0 q2) (own_fr q1) (own_t1 q2 p1)) (own_rec (1 : Int32) (own_fr q1) (own_t0 q2) (own_lost (0 : Int32) (0 : Int64) (own_fr q1) (own_t0 q2)) (nar .boolean (if (p2 &&& (1 : Int32)) = (0 : Int32) then (0 : Int32) else (1 : Int32))) (own_rec (0 : Int32) (own_fr q1) (0 : Int64) (0 : Int32) (0 : Int32) (0 : Int64) (own_t0 q2)) (own_t1 q2 p1))))])) t → Steps p.tables e below (s₁.setTop (entryFrame m #[(.long q1), (.long q2), (.int p1), (.int p2)] maxLocals)) t := fun t k => pre42 t (st43.trans k)
        have pre45 : ∀ t, Steps p.tables e below (T43.setTop (mkF m 220 (lc0_28 q1 q2 p1 p2 b14) [(.int (lcmpW (own_d1 p1) (own_fr q1)))])) t → Steps p.tables e below (s₁.setTop (entryFrame m #[(.long q1), (.long q2), (.int p1), (.int p2)] maxLocals)) t := fun t k => pre44 t (by
          show Steps p.tables e below (T43.setTop (mkF m 207 (lc0_14 q1 q2 p1 p2 b14) [(.long (own_recv (nar .boolean (if (p2 &&& (2 : Int32)) = (0 : Int32) then (0 : Int32) else (1 : Int32))) (own_lost (1 : Int32) (own_t0 q2) (own_fr q1) (own_t1 q2 p1)) (own_rec (1 : Int32) (own_fr q1) (own_t0 q2) (own_lost (0 : Int32) (0 : Int64) (own_fr q1) (own_t0 q2)) (nar .boolean (if (p2 &&& (1 : Int32)) = (0 : Int32) then (0 : Int32) else (1 : Int32))) (own_rec (0 : Int32) (own_fr q1) (0 : Int64) (0 : Int32) (0 : Int32) (0 : Int64) (own_t0 q2)) (own_t1 q2 p1))))])) _
          refine XS.lstore X43.here hx rfl (hb hby at_207) rfl (l' := (lc0_28 q1 q2 p1 p2 b14)) rfl ?_
          show Steps p.tables e below (T43.setTop (mkF m 209 (lc0_28 q1 q2 p1 p2 b14) [])) _
          refine XS.iload X43.here hx rfl (hb hby at_209) rfl ?_
          show Steps p.tables e below (T43.setTop (mkF m 211 (lc0_28 q1 q2 p1 p2 b14) [(.int (own_nn p2))])) _
          refine XS.iconst X43.here hx rfl (hb hby at_211) ?_
          show Steps p.tables e below (T43.setTop (mkF m 212 (lc0_28 q1 q2 p1 p2 b14) [(.int (2 : Int32)), (.int (own_nn p2))])) _
          refine XS.icmpNo X43.here hx rfl (hb hby at_212) rfl (flt hc160_29).1 ?_
          show Steps p.tables e below (T43.setTop (mkF m 215 (lc0_28 q1 q2 p1 p2 b14) [])) _
          refine XS.lload X43.here hx rfl (hb hby at_215) rfl ?_
          show Steps p.tables e below (T43.setTop (mkF m 217 (lc0_28 q1 q2 p1 p2 b14) [(.long (own_d1 p1))])) _
          refine XS.lload X43.here hx rfl (hb hby at_217) rfl ?_
          show Steps p.tables e below (T43.setTop (mkF m 219 (lc0_28 q1 q2 p1 p2 b14) [(.long (own_fr q1)), (.long (own_d1 p1))])) _
          refine XS.lcmp X43.here hx rfl (hb hby at_219) rfl ?_
          show Steps p.tables e below (T43.setTop (mkF m 220 (lc0_28 q1 q2 p1 p2 b14) [(.int (lcmpW (own_d1 p1) (own_fr q1)))])) _
          exact k)
        have pre47 : ∀ t, Steps p.tables e below (T43.setTop (mkF m 228 (lc0_28 q1 q2 p1 p2 b14) [(.int (if (own_d1 p1) < (own_fr q1) then (1 : Int32) else (0 : Int32)))])) t → Steps p.tables e below (s₁.setTop (entryFrame m #[(.long q1), (.long q2), (.int p1), (.int p2)] maxLocals)) t := fun t k => pre45 t (by
          show Steps p.tables e below (T43.setTop (mkF m 220 (lc0_28 q1 q2 p1 p2 b14) [(.int (lcmpW (own_d1 p1) (own_fr q1)))])) _
          by_cases hm220_46 : (own_d1 p1) < (own_fr q1)
          · refine XS.ifNo X43.here hx rfl (hb hby at_220) rfl ((if0 _ _).trans (tlt ((lw_lt _ _).mpr hm220_46)).2.1) ?_
            show Steps p.tables e below (T43.setTop (mkF m 223 (lc0_28 q1 q2 p1 p2 b14) [])) _
            refine XS.iconst X43.here hx rfl (hb hby at_223) ?_
            show Steps p.tables e below (T43.setTop (mkF m 224 (lc0_28 q1 q2 p1 p2 b14) [(.int (1 : Int32))])) _
            refine XS.goto X43.here hx rfl (pc0 := 224) (pc' := 228) rfl (hb hby at_224) (by decide) (by decide) ?_
            show Steps p.tables e below (T43.setTop (mkF m 228 (lc0_28 q1 q2 p1 p2 b14) [(.int (1 : Int32))])) _
            have q : (if (own_d1 p1) < (own_fr q1) then (1 : Int32) else (0 : Int32)) = (1 : Int32) := by simp only [if_pos hm220_46]
            exact Eq.subst (motive := fun xI => Steps p.tables e below (T43.setTop (mkF m 228 (lc0_28 q1 q2 p1 p2 b14) [(.int xI)])) t) q k
          · refine XS.ifYes X43.here hx rfl (pc0 := 220) (pc' := 227) rfl (hb hby at_220) rfl ((if0 _ _).trans (flt (fun q => hm220_46 ((lw_lt _ _).mp q))).2.1) (by decide) (by decide) ?_
            show Steps p.tables e below (T43.setTop (mkF m 227 (lc0_28 q1 q2 p1 p2 b14) [])) _
            refine XS.iconst X43.here hx rfl (hb hby at_227) ?_
            show Steps p.tables e below (T43.setTop (mkF m 228 (lc0_28 q1 q2 p1 p2 b14) [(.int (0 : Int32))])) _
            have q : (if (own_d1 p1) < (own_fr q1) then (1 : Int32) else (0 : Int32)) = (0 : Int32) := by simp only [if_neg hm220_46]
            exact Eq.subst (motive := fun xI => Steps p.tables e below (T43.setTop (mkF m 228 (lc0_28 q1 q2 p1 p2 b14) [(.int xI)])) t) q k)
        have pre48 : ∀ t, Steps p.tables e below (T43.setTop (mkF m 283 (lc0_32 q1 q2 p1 p2 b14) [(.int (if (p2 &&& (1 : Int32)) = (0 : Int32) then (0 : Int32) else (1 : Int32)))])) t → Steps p.tables e below (s₁.setTop (entryFrame m #[(.long q1), (.long q2), (.int p1), (.int p2)] maxLocals)) t := fun t k => pre47 t (by
          show Steps p.tables e below (T43.setTop (mkF m 228 (lc0_28 q1 q2 p1 p2 b14) [(.int (if (own_d1 p1) < (own_fr q1) then (1 : Int32) else (0 : Int32)))])) _
          refine XS.istore X43.here hx rfl (hb hby at_228) rfl (l' := (lc0_29 q1 q2 p1 p2 b14)) rfl ?_
          show Steps p.tables e below (T43.setTop (mkF m 230 (lc0_29 q1 q2 p1 p2 b14) [])) _
          refine XS.iload X43.here hx rfl (hb hby at_230) rfl ?_
          show Steps p.tables e below (T43.setTop (mkF m 232 (lc0_29 q1 q2 p1 p2 b14) [(.int (own_nn p2))])) _
          refine XS.iconst X43.here hx rfl (hb hby at_232) ?_
          show Steps p.tables e below (T43.setTop (mkF m 233 (lc0_29 q1 q2 p1 p2 b14) [(.int (3 : Int32)), (.int (own_nn p2))])) _
          refine XS.icmpYes X43.here hx rfl (pc0 := 233) (pc' := 248) rfl (hb hby at_233) rfl (tlt hc175_41).1 (by decide) (by decide) ?_
          show Steps p.tables e below (T43.setTop (mkF m 248 (lc0_29 q1 q2 p1 p2 b14) [])) _
          refine XS.iconst X43.here hx rfl (hb hby at_248) ?_
          show Steps p.tables e below (T43.setTop (mkF m 249 (lc0_29 q1 q2 p1 p2 b14) [(.int (0 : Int32))])) _
          refine XS.istore X43.here hx rfl (hb hby at_249) rfl (l' := (lc0_30 q1 q2 p1 p2 b14)) rfl ?_
          show Steps p.tables e below (T43.setTop (mkF m 251 (lc0_30 q1 q2 p1 p2 b14) [])) _
          refine XS.iload X43.here hx rfl (hb hby at_251) rfl ?_
          show Steps p.tables e below (T43.setTop (mkF m 253 (lc0_30 q1 q2 p1 p2 b14) [(.int (own_nn p2))])) _
          refine XS.iconst X43.here hx rfl (hb hby at_253) ?_
          show Steps p.tables e below (T43.setTop (mkF m 254 (lc0_30 q1 q2 p1 p2 b14) [(.int (4 : Int32)), (.int (own_nn p2))])) _
          refine XS.icmpYes X43.here hx rfl (pc0 := 254) (pc' := 269) rfl (hb hby at_254) rfl (tlt (show (own_nn p2) < (4 : Int32) from own_mono p2 hc175_41 (by decide))).1 (by decide) (by decide) ?_
          show Steps p.tables e below (T43.setTop (mkF m 269 (lc0_30 q1 q2 p1 p2 b14) [])) _
          refine XS.iconst X43.here hx rfl (hb hby at_269) ?_
          show Steps p.tables e below (T43.setTop (mkF m 270 (lc0_30 q1 q2 p1 p2 b14) [(.int (0 : Int32))])) _
          refine XS.istore X43.here hx rfl (hb hby at_270) rfl (l' := (lc0_31 q1 q2 p1 p2 b14)) rfl ?_
          show Steps p.tables e below (T43.setTop (mkF m 272 (lc0_31 q1 q2 p1 p2 b14) [])) _
          refine XS.lconst X43.here hx rfl (hb hby at_272) ?_
          show Steps p.tables e below (T43.setTop (mkF m 273 (lc0_31 q1 q2 p1 p2 b14) [(.long (0 : Int64))])) _
          refine XS.lstore X43.here hx rfl (hb hby at_273) rfl (l' := (lc0_32 q1 q2 p1 p2 b14)) rfl ?_
          show Steps p.tables e below (T43.setTop (mkF m 275 (lc0_32 q1 q2 p1 p2 b14) [])) _
          refine XS.iload X43.here hx rfl (hb hby at_275) rfl ?_
          show Steps p.tables e below (T43.setTop (mkF m 277 (lc0_32 q1 q2 p1 p2 b14) [(.int (own_nn p2))])) _
          refine XS.iconst X43.here hx rfl (hb hby at_277) ?_
          show Steps p.tables e below (T43.setTop (mkF m 278 (lc0_32 q1 q2 p1 p2 b14) [(.int (1 : Int32)), (.int (own_nn p2))])) _
          refine XS.icmpNo X43.here hx rfl (hb hby at_278) rfl (flt hc145_20).1 ?_
          show Steps p.tables e below (T43.setTop (mkF m 281 (lc0_32 q1 q2 p1 p2 b14) [])) _
          refine XS.iload X43.here hx rfl (hb hby at_281) rfl ?_
          show Steps p.tables e below (T43.setTop (mkF m 283 (lc0_32 q1 q2 p1 p2 b14) [(.int (if (p2 &&& (1 : Int32)) = (0 : Int32) then (0 : Int32) else (1 : Int32)))])) _
          exact k)
        have pre51 : ∀ t, Steps p.tables e below (T43.setTop (mkF m 297 (lc0_35 q1 q2 p1 p2 b14) [])) t → Steps p.tables e below (s₁.setTop (entryFrame m #[(.long q1), (.long q2), (.int p1), (.int p2)] maxLocals)) t := fun t k => pre48 t (by
          show Steps p.tables e below (T43.setTop (mkF m 283 (lc0_32 q1 q2 p1 p2 b14) [(.int (if (p2 &&& (1 : Int32)) = (0 : Int32) then (0 : Int32) else (1 : Int32)))])) _
          by_cases hm283_49 : (p2 &&& (1 : Int32)) = (0 : Int32)
          · refine XS.ifYes X43.here hx rfl (pc0 := 283) (pc' := 297) rfl (hb hby at_283) rfl ((if0 _ _).trans (teq (by simp only [if_pos hm283_49] <;> decide)).1) (by decide) (by decide) ?_
            show Steps p.tables e below (T43.setTop (mkF m 297 (lc0_32 q1 q2 p1 p2 b14) [])) _
            have q : (own_k2 (0 : Int64) ((p2 &&& (1 : Int32)) = (0 : Int32)) ((own_d1 p1) < (own_fr q1))) = (0 : Int64) := by simp only [own_k2, if_pos hm283_49]
            exact Eq.subst (motive := fun xJ => Steps p.tables e below (T43.setTop (mkF m 297 (lc0_34 q1 q2 p1 p2 b14 xJ) [])) t) q k
          · refine XS.ifNo X43.here hx rfl (hb hby at_283) rfl ((if0 _ _).trans (feq (by simp only [if_neg hm283_49] <;> decide)).1) ?_
            show Steps p.tables e below (T43.setTop (mkF m 286 (lc0_32 q1 q2 p1 p2 b14) [])) _
            refine XS.iload X43.here hx rfl (hb hby at_286) rfl ?_
            show Steps p.tables e below (T43.setTop (mkF m 288 (lc0_32 q1 q2 p1 p2 b14) [(.int (if (own_d1 p1) < (own_fr q1) then (1 : Int32) else (0 : Int32)))])) _
            by_cases hm288_50 : (own_d1 p1) < (own_fr q1)
            · refine XS.ifYes X43.here hx rfl (pc0 := 288) (pc' := 297) rfl (hb hby at_288) rfl ((if0 _ _).trans (feq (by simp only [if_pos hm288_50] <;> decide)).2) (by decide) (by decide) ?_
              show Steps p.tables e below (T43.setTop (mkF m 297 (lc0_32 q1 q2 p1 p2 b14) [])) _
              have q : (own_k2 (0 : Int64) ((p2 &&& (1 : Int32)) = (0 : Int32)) ((own_d1 p1) < (own_fr q1))) = (0 : Int64) := by simp only [own_k2, if_neg hm283_49, if_pos hm288_50]
              exact Eq.subst (motive := fun xJ => Steps p.tables e below (T43.setTop (mkF m 297 (lc0_34 q1 q2 p1 p2 b14 xJ) [])) t) q k
            · refine XS.ifNo X43.here hx rfl (hb hby at_288) rfl ((if0 _ _).trans (teq (by simp only [if_neg hm288_50] <;> decide)).2) ?_
              show Steps p.tables e below (T43.setTop (mkF m 291 (lc0_32 q1 q2 p1 p2 b14) [])) _
              refine XS.lload X43.here hx rfl (hb hby at_291) rfl ?_
              show Steps p.tables e below (T43.setTop (mkF m 293 (lc0_32 q1 q2 p1 p2 b14) [(.long (0 : Int64))])) _
              refine XS.lconst X43.here hx rfl (hb hby at_293) ?_
              show Steps p.tables e below (T43.setTop (mkF m 294 (lc0_32 q1 q2 p1 p2 b14) [(.long (1 : Int64)), (.long (0 : Int64))])) _
              refine XS.ladd X43.here hx rfl (hb hby at_294) rfl ?_
              show Steps p.tables e below (T43.setTop (mkF m 295 (lc0_32 q1 q2 p1 p2 b14) [(.long ((0 : Int64) + (1 : Int64)))])) _
              refine XS.lstore X43.here hx rfl (hb hby at_295) rfl (l' := (lc0_33 q1 q2 p1 p2 b14)) rfl ?_
              show Steps p.tables e below (T43.setTop (mkF m 297 (lc0_33 q1 q2 p1 p2 b14) [])) _
              have q : (own_k2 (0 : Int64) ((p2 &&& (1 : Int32)) = (0 : Int32)) ((own_d1 p1) < (own_fr q1))) = ((0 : Int64) + (1 : Int64)) := by simp only [own_k2, if_neg hm283_49, if_neg hm288_50]
              exact Eq.subst (motive := fun xJ => Steps p.tables e below (T43.setTop (mkF m 297 (lc0_34 q1 q2 p1 p2 b14 xJ) [])) t) q k)
        have pre52 : ∀ t, Steps p.tables e below (T43.setTop (mkF m 305 (lc0_35 q1 q2 p1 p2 b14) [(.int (if (p2 &&& (2 : Int32)) = (0 : Int32) then (0 : Int32) else (1 : Int32)))])) t → Steps p.tables e below (s₁.setTop (entryFrame m #[(.long q1), (.long q2), (.int p1), (.int p2)] maxLocals)) t := fun t k => pre51 t (by
          show Steps p.tables e below (T43.setTop (mkF m 297 (lc0_35 q1 q2 p1 p2 b14) [])) _
          refine XS.iload X43.here hx rfl (hb hby at_297) rfl ?_
          show Steps p.tables e below (T43.setTop (mkF m 299 (lc0_35 q1 q2 p1 p2 b14) [(.int (own_nn p2))])) _
          refine XS.iconst X43.here hx rfl (hb hby at_299) ?_
          show Steps p.tables e below (T43.setTop (mkF m 300 (lc0_35 q1 q2 p1 p2 b14) [(.int (2 : Int32)), (.int (own_nn p2))])) _
          refine XS.icmpNo X43.here hx rfl (hb hby at_300) rfl (flt hc160_29).1 ?_
          show Steps p.tables e below (T43.setTop (mkF m 303 (lc0_35 q1 q2 p1 p2 b14) [])) _
          refine XS.iload X43.here hx rfl (hb hby at_303) rfl ?_
          show Steps p.tables e below (T43.setTop (mkF m 305 (lc0_35 q1 q2 p1 p2 b14) [(.int (if (p2 &&& (2 : Int32)) = (0 : Int32) then (0 : Int32) else (1 : Int32)))])) _
          exact k)
        have pre55 : ∀ t, Steps p.tables e below (T43.setTop (mkF m 324 (lc0_37 q1 q2 p1 p2 b14) [])) t → Steps p.tables e below (s₁.setTop (entryFrame m #[(.long q1), (.long q2), (.int p1), (.int p2)] maxLocals)) t := fun t k => pre52 t (by
          show Steps p.tables e below (T43.setTop (mkF m 305 (lc0_35 q1 q2 p1 p2 b14) [(.int (if (p2 &&& (2 : Int32)) = (0 : Int32) then (0 : Int32) else (1 : Int32)))])) _
          by_cases hm305_53 : (p2 &&& (2 : Int32)) = (0 : Int32)
          · refine XS.ifYes X43.here hx rfl (pc0 := 305) (pc' := 324) rfl (hb hby at_305) rfl ((if0 _ _).trans (teq (by simp only [if_pos hm305_53] <;> decide)).1) (by decide) (by decide) ?_
            show Steps p.tables e below (T43.setTop (mkF m 324 (lc0_35 q1 q2 p1 p2 b14) [])) _
            have q : (own_k2 (own_k2 (0 : Int64) ((p2 &&& (1 : Int32)) = (0 : Int32)) ((own_d1 p1) < (own_fr q1))) ((p2 &&& (2 : Int32)) = (0 : Int32)) ((own_d1 p1) < (own_fr q1))) = (own_k2 (0 : Int64) ((p2 &&& (1 : Int32)) = (0 : Int32)) ((own_d1 p1) < (own_fr q1))) := by simp only [own_k2, if_pos hm305_53]
            exact Eq.subst (motive := fun xJ => Steps p.tables e below (T43.setTop (mkF m 324 (lc0_34 q1 q2 p1 p2 b14 xJ) [])) t) q k
          · refine XS.ifNo X43.here hx rfl (hb hby at_305) rfl ((if0 _ _).trans (feq (by simp only [if_neg hm305_53] <;> decide)).1) ?_
            show Steps p.tables e below (T43.setTop (mkF m 308 (lc0_35 q1 q2 p1 p2 b14) [])) _
            refine XS.iload X43.here hx rfl (hb hby at_308) rfl ?_
            show Steps p.tables e below (T43.setTop (mkF m 310 (lc0_35 q1 q2 p1 p2 b14) [(.int (if (own_d1 p1) < (own_fr q1) then (1 : Int32) else (0 : Int32)))])) _
            by_cases hm310_54 : (own_d1 p1) < (own_fr q1)
            · refine XS.ifYes X43.here hx rfl (pc0 := 310) (pc' := 324) rfl (hb hby at_310) rfl ((if0 _ _).trans (feq (by simp only [if_pos hm310_54] <;> decide)).2) (by decide) (by decide) ?_
              show Steps p.tables e below (T43.setTop (mkF m 324 (lc0_35 q1 q2 p1 p2 b14) [])) _
              have q : (own_k2 (own_k2 (0 : Int64) ((p2 &&& (1 : Int32)) = (0 : Int32)) ((own_d1 p1) < (own_fr q1))) ((p2 &&& (2 : Int32)) = (0 : Int32)) ((own_d1 p1) < (own_fr q1))) = (own_k2 (0 : Int64) ((p2 &&& (1 : Int32)) = (0 : Int32)) ((own_d1 p1) < (own_fr q1))) := by simp only [own_k2, if_neg hm305_53, if_pos hm310_54]
              exact Eq.subst (motive := fun xJ => Steps p.tables e below (T43.setTop (mkF m 324 (lc0_34 q1 q2 p1 p2 b14 xJ) [])) t) q k
            · refine XS.ifNo X43.here hx rfl (hb hby at_310) rfl ((if0 _ _).trans (teq (by simp only [if_neg hm310_54] <;> decide)).2) ?_
              show Steps p.tables e below (T43.setTop (mkF m 313 (lc0_35 q1 q2 p1 p2 b14) [])) _
              refine XS.iload X43.here hx rfl (hb hby at_313) rfl ?_
              show Steps p.tables e below (T43.setTop (mkF m 315 (lc0_35 q1 q2 p1 p2 b14) [(.int (0 : Int32))])) _
              refine XS.ifNo X43.here hx rfl (hb hby at_315) rfl ((if0 _ _).trans (teq (by decide)).2) ?_
              show Steps p.tables e below (T43.setTop (mkF m 318 (lc0_35 q1 q2 p1 p2 b14) [])) _
              refine XS.lload X43.here hx rfl (hb hby at_318) rfl ?_
              show Steps p.tables e below (T43.setTop (mkF m 320 (lc0_35 q1 q2 p1 p2 b14) [(.long (own_k2 (0 : Int64) ((p2 &&& (1 : Int32)) = (0 : Int32)) ((own_d1 p1) < (own_fr q1))))])) _
              refine XS.lconst X43.here hx rfl (hb hby at_320) ?_
              show Steps p.tables e below (T43.setTop (mkF m 321 (lc0_35 q1 q2 p1 p2 b14) [(.long (1 : Int64)), (.long (own_k2 (0 : Int64) ((p2 &&& (1 : Int32)) = (0 : Int32)) ((own_d1 p1) < (own_fr q1))))])) _
              refine XS.ladd X43.here hx rfl (hb hby at_321) rfl ?_
              show Steps p.tables e below (T43.setTop (mkF m 322 (lc0_35 q1 q2 p1 p2 b14) [(.long ((own_k2 (0 : Int64) ((p2 &&& (1 : Int32)) = (0 : Int32)) ((own_d1 p1) < (own_fr q1))) + (1 : Int64)))])) _
              refine XS.lstore X43.here hx rfl (hb hby at_322) rfl (l' := (lc0_36 q1 q2 p1 p2 b14)) rfl ?_
              show Steps p.tables e below (T43.setTop (mkF m 324 (lc0_36 q1 q2 p1 p2 b14) [])) _
              have q : (own_k2 (own_k2 (0 : Int64) ((p2 &&& (1 : Int32)) = (0 : Int32)) ((own_d1 p1) < (own_fr q1))) ((p2 &&& (2 : Int32)) = (0 : Int32)) ((own_d1 p1) < (own_fr q1))) = ((own_k2 (0 : Int64) ((p2 &&& (1 : Int32)) = (0 : Int32)) ((own_d1 p1) < (own_fr q1))) + (1 : Int64)) := by simp only [own_k2, if_neg hm305_53, if_neg hm310_54]
              exact Eq.subst (motive := fun xJ => Steps p.tables e below (T43.setTop (mkF m 324 (lc0_34 q1 q2 p1 p2 b14 xJ) [])) t) q k)
        have pre56 : ∀ t, Steps p.tables e below (T43.setTop (mkF m 386 (lc0_37 q1 q2 p1 p2 b14) [(.int (1 : Int32))])) t → Steps p.tables e below (s₁.setTop (entryFrame m #[(.long q1), (.long q2), (.int p1), (.int p2)] maxLocals)) t := fun t k => pre55 t (by
          show Steps p.tables e below (T43.setTop (mkF m 324 (lc0_37 q1 q2 p1 p2 b14) [])) _
          refine XS.iload X43.here hx rfl (hb hby at_324) rfl ?_
          show Steps p.tables e below (T43.setTop (mkF m 326 (lc0_37 q1 q2 p1 p2 b14) [(.int (own_nn p2))])) _
          refine XS.iconst X43.here hx rfl (hb hby at_326) ?_
          show Steps p.tables e below (T43.setTop (mkF m 327 (lc0_37 q1 q2 p1 p2 b14) [(.int (3 : Int32)), (.int (own_nn p2))])) _
          refine XS.icmpYes X43.here hx rfl (pc0 := 327) (pc' := 351) rfl (hb hby at_327) rfl (tlt hc175_41).1 (by decide) (by decide) ?_
          show Steps p.tables e below (T43.setTop (mkF m 351 (lc0_37 q1 q2 p1 p2 b14) [])) _
          refine XS.iload X43.here hx rfl (hb hby at_351) rfl ?_
          show Steps p.tables e below (T43.setTop (mkF m 353 (lc0_37 q1 q2 p1 p2 b14) [(.int (own_nn p2))])) _
          refine XS.iconst X43.here hx rfl (hb hby at_353) ?_
          show Steps p.tables e below (T43.setTop (mkF m 354 (lc0_37 q1 q2 p1 p2 b14) [(.int (4 : Int32)), (.int (own_nn p2))])) _
          refine XS.icmpYes X43.here hx rfl (pc0 := 354) (pc' := 373) rfl (hb hby at_354) rfl (tlt (show (own_nn p2) < (4 : Int32) from own_mono p2 hc175_41 (by decide))).1 (by decide) (by decide) ?_
          show Steps p.tables e below (T43.setTop (mkF m 373 (lc0_37 q1 q2 p1 p2 b14) [])) _
          refine XS.lload X43.here hx rfl (hb hby at_373) rfl ?_
          show Steps p.tables e below (T43.setTop (mkF m 375 (lc0_37 q1 q2 p1 p2 b14) [(.long (own_recv (nar .boolean (if (p2 &&& (2 : Int32)) = (0 : Int32) then (0 : Int32) else (1 : Int32))) (own_lost (1 : Int32) (own_t0 q2) (own_fr q1) (own_t1 q2 p1)) (own_rec (1 : Int32) (own_fr q1) (own_t0 q2) (own_lost (0 : Int32) (0 : Int64) (own_fr q1) (own_t0 q2)) (nar .boolean (if (p2 &&& (1 : Int32)) = (0 : Int32) then (0 : Int32) else (1 : Int32))) (own_rec (0 : Int32) (own_fr q1) (0 : Int64) (0 : Int32) (0 : Int32) (0 : Int64) (own_t0 q2)) (own_t1 q2 p1))))])) _
          refine XS.lload X43.here hx rfl (hb hby at_375) rfl ?_
          show Steps p.tables e below (T43.setTop (mkF m 377 (lc0_37 q1 q2 p1 p2 b14) [(.long (own_k2 (own_k2 (0 : Int64) ((p2 &&& (1 : Int32)) = (0 : Int32)) ((own_d1 p1) < (own_fr q1))) ((p2 &&& (2 : Int32)) = (0 : Int32)) ((own_d1 p1) < (own_fr q1)))), (.long (own_recv (nar .boolean (if (p2 &&& (2 : Int32)) = (0 : Int32) then (0 : Int32) else (1 : Int32))) (own_lost (1 : Int32) (own_t0 q2) (own_fr q1) (own_t1 q2 p1)) (own_rec (1 : Int32) (own_fr q1) (own_t0 q2) (own_lost (0 : Int32) (0 : Int64) (own_fr q1) (own_t0 q2)) (nar .boolean (if (p2 &&& (1 : Int32)) = (0 : Int32) then (0 : Int32) else (1 : Int32))) (own_rec (0 : Int32) (own_fr q1) (0 : Int64) (0 : Int32) (0 : Int32) (0 : Int64) (own_t0 q2)) (own_t1 q2 p1))))])) _
          refine XS.lcmp X43.here hx rfl (hb hby at_377) rfl ?_
          show Steps p.tables e below (T43.setTop (mkF m 378 (lc0_37 q1 q2 p1 p2 b14) [(.int (lcmpW (own_recv (nar .boolean (if (p2 &&& (2 : Int32)) = (0 : Int32) then (0 : Int32) else (1 : Int32))) (own_lost (1 : Int32) (own_t0 q2) (own_fr q1) (own_t1 q2 p1)) (own_rec (1 : Int32) (own_fr q1) (own_t0 q2) (own_lost (0 : Int32) (0 : Int64) (own_fr q1) (own_t0 q2)) (nar .boolean (if (p2 &&& (1 : Int32)) = (0 : Int32) then (0 : Int32) else (1 : Int32))) (own_rec (0 : Int32) (own_fr q1) (0 : Int64) (0 : Int32) (0 : Int32) (0 : Int64) (own_t0 q2)) (own_t1 q2 p1))) (own_k2 (own_k2 (0 : Int64) ((p2 &&& (1 : Int32)) = (0 : Int32)) ((own_d1 p1) < (own_fr q1))) ((p2 &&& (2 : Int32)) = (0 : Int32)) ((own_d1 p1) < (own_fr q1)))))])) _
          refine XS.ifNo X43.here hx rfl (hb hby at_378) rfl ((if0 _ _).trans (teq ((lw_eq _ _).mpr (show (own_recv (nar .boolean (if (p2 &&& (2 : Int32)) = (0 : Int32) then (0 : Int32) else (1 : Int32))) (own_lost (1 : Int32) (own_t0 q2) (own_fr q1) (own_t1 q2 p1)) (own_rec (1 : Int32) (own_fr q1) (own_t0 q2) (own_lost (0 : Int32) (0 : Int64) (own_fr q1) (own_t0 q2)) (nar .boolean (if (p2 &&& (1 : Int32)) = (0 : Int32) then (0 : Int32) else (1 : Int32))) (own_rec (0 : Int32) (own_fr q1) (0 : Int64) (0 : Int32) (0 : Int32) (0 : Int64) (own_t0 q2)) (own_t1 q2 p1))) = (own_k2 (own_k2 (0 : Int64) ((p2 &&& (1 : Int32)) = (0 : Int32)) ((own_d1 p1) < (own_fr q1))) ((p2 &&& (2 : Int32)) = (0 : Int32)) ((own_d1 p1) < (own_fr q1))) from own_law2 q1 q2 p1 p2))).2) ?_
          show Steps p.tables e below (T43.setTop (mkF m 381 (lc0_37 q1 q2 p1 p2 b14) [])) _
          refine XS.iconst X43.here hx rfl (hb hby at_381) ?_
          show Steps p.tables e below (T43.setTop (mkF m 382 (lc0_37 q1 q2 p1 p2 b14) [(.int (1 : Int32))])) _
          refine XS.goto X43.here hx rfl (pc0 := 382) (pc' := 386) rfl (hb hby at_382) (by decide) (by decide) ?_
          show Steps p.tables e below (T43.setTop (mkF m 386 (lc0_37 q1 q2 p1 p2 b14) [(.int (1 : Int32))])) _
          exact k)
        obtain ⟨fs, hr, hrun, hended, hW, hsame⟩ := X43.leave (v := some (.int (1 : Int32))) (fun h => by rw [Bd.returns] at h; cases h) hlk
        refine ⟨_, _, pre56 _ ?_, hrun, hended, _, _, rfl, ?_, ⟨_, rfl⟩, hW, hsame.mono (by decide) (by decide)⟩
        · show Steps p.tables e below (T43.setTop (mkF m 386 (lc0_37 q1 q2 p1 p2 b14) [(.int (1 : Int32))])) _
          exact retN X43 hx (t := .boolean) Bd.returns (by simp) (hb hby at_386) hr
        · show Q0 Z q1 q2 p1 p2 h0 n0 _ T43.heap _
          rw [e43]
          exact ⟨rfl, N43⟩
      · have pre57 : ∀ t, Steps p.tables e below (T38.setTop (mkF m 184 (lc0_14 q1 q2 p1 p2 b14) [(.int (if (p2 &&& (4 : Int32)) = (0 : Int32) then (0 : Int32) else (1 : Int32))), (.long (own_t2 q2 p1)), (.ref b14)])) t → Steps p.tables e below (s₁.setTop (entryFrame m #[(.long q1), (.long q2), (.int p1), (.int p2)] maxLocals)) t := fun t k => pre40 t (by
          show Steps p.tables e below (T38.setTop (mkF m 175 (lc0_14 q1 q2 p1 p2 b14) [(.int (3 : Int32)), (.int (own_nn p2))])) _
          refine XS.icmpNo X38.here hx rfl (hb hby at_175) rfl (flt hc175_41).1 ?_
          show Steps p.tables e below (T38.setTop (mkF m 178 (lc0_14 q1 q2 p1 p2 b14) [])) _
          refine XS.aload X38.here hx rfl (hb hby at_178) rfl rfl ?_
          show Steps p.tables e below (T38.setTop (mkF m 180 (lc0_14 q1 q2 p1 p2 b14) [(.ref b14)])) _
          refine XS.lload X38.here hx rfl (hb hby at_180) rfl ?_
          show Steps p.tables e below (T38.setTop (mkF m 182 (lc0_14 q1 q2 p1 p2 b14) [(.long (own_t2 q2 p1)), (.ref b14)])) _
          refine XS.iload X38.here hx rfl (hb hby at_182) rfl ?_
          show Steps p.tables e below (T38.setTop (mkF m 184 (lc0_14 q1 q2 p1 p2 b14) [(.int (if (p2 &&& (4 : Int32)) = (0 : Int32) then (0 : Int32) else (1 : Int32))), (.long (own_t2 q2 p1)), (.ref b14)])) _
          exact k)
        obtain ⟨cq58, kq58, q58a, q58b, q58c⟩ := isOf hZ rfl E_b14
        obtain ⟨_, _, ⟨T58, L58, k58, n58⟩, -, X58, ⟨Lc58, hQ58, l58, y58, z58⟩, st58⟩ := X38.virtualBack hx (y := (⟨"com/example/squitterlab/squitterlab/sim/OverlapCounter", "arrive", "(JZ)V"⟩ : MethodName)) (z := (⟨"com/example/squitterlab/squitterlab/sim/OverlapCounter", "arrive", "(JZ)V"⟩ : MethodName)) hown (mvT hZ (hw _ (List.mem_of_getElem? (i := 21) rfl))) (mvT hZ (hw _ (List.mem_of_getElem? (i := 22) rfl))) (notFace_of_selects (args := #[]) (mvT hZ (hw _ (List.mem_of_getElem? (i := 24) rfl)))) (mvT hZ (hw _ (List.mem_of_getElem? (i := 24) rfl))) (mvT hZ (hw _ (List.mem_of_getElem? (i := 23) rfl))) (by decide) (backOf (W := 0) (rm4 l Z a0 hw [] b14 (own_t2 q2 p1) (if (p2 &&& (4 : Int32)) = (0 : Int32) then (0 : Int32) else (1 : Int32)) (own_fr q1) (1 : Int32) (own_t1 q2 p1) (own_lost (1 : Int32) (own_t0 q2) (own_fr q1) (own_t1 q2 p1)) (nar .boolean (if (p2 &&& (2 : Int32)) = (0 : Int32) then (0 : Int32) else (1 : Int32))) (own_rec (1 : Int32) (own_fr q1) (own_t0 q2) (own_lost (0 : Int32) (0 : Int64) (own_fr q1) (own_t0 q2)) (nar .boolean (if (p2 &&& (1 : Int32)) = (0 : Int32) then (0 : Int32) else (1 : Int32))) (own_rec (0 : Int32) (own_fr q1) (0 : Int64) (0 : Int32) (0 : Int32) (0 : Int64) (own_t0 q2)) (own_t1 q2 p1)) (own_arr (own_arr (0 : Int64) (if (p2 &&& (1 : Int32)) = (0 : Int32) then (0 : Int32) else (1 : Int32))) (if (p2 &&& (2 : Int32)) = (0 : Int32) then (0 : Int32) else (1 : Int32))) T38.heap n0 Z38 E_b14 F_b14_framePicos F_b14_any F_b14_lastArrival F_b14_lastLost F_b14_lastCounted F_b14_received F_b14_arrived g_b14 (fun _ => own_ge2 q2 p1)) hZ (hw _ (List.mem_of_getElem? (i := 25) rfl)) (hw _ (List.mem_of_getElem? (i := 3) rfl)) (by decide) (by decide)) q58a q58c (g := (mkF m 184 (lc0_14 q1 q2 p1 p2 b14) [(.int (if (p2 &&& (4 : Int32)) = (0 : Int32) then (0 : Int32) else (1 : Int32))), (.long (own_t2 q2 p1)), (.ref b14)])) rfl (by rw [hml]; rfl) (Steps.refl _) (argsL := [(.long (own_t2 q2 p1)), (.int (if (p2 &&& (4 : Int32)) = (0 : Int32) then (0 : Int32) else (1 : Int32)))]) (rest := []) (lenOf pd_3 rfl) rfl (by show 2 * 0 + _ ≤ _; exact Nat.le_of_eq rfl) (hb hby at_184) (fun _ _ => ⟨rfl, rfl, (by decide : 1 + 0 ≤ _), (by decide : 7 + 0 ≤ _)⟩)
        dsimp only [Pt.U, Pt.locs, Pt.cells, Pt.slots] at X58 l58 y58 z58 st58 hQ58
        subst l58 y58 z58
        obtain ⟨rfl, N58q, K58, q58_0, q58_1, q58_2, q58_3, q58_4, q58_5, q58_6⟩ := hQ58
        have E_b14 := E_b14.keep K58
        have Z58 : n0 ≤ T58.heap.size := Nat.le_trans Z38 K58.1
        have F_b14_framePicos := q58_0
        have F_b14_any := q58_1
        have F_b14_lastArrival := q58_2
        have F_b14_lastLost := q58_3
        have F_b14_lastCounted := q58_4
        have F_b14_received := q58_5
        have F_b14_arrived := q58_6
        have N58 := Fr.app N38 N58q
        have pre59 : ∀ t, Steps p.tables e below (T58.setTop (mkF m 187 (lc0_14 q1 q2 p1 p2 b14) [])) t → Steps p.tables e below (s₁.setTop (entryFrame m #[(.long q1), (.long q2), (.int p1), (.int p2)] maxLocals)) t := fun t k => pre57 t (st58.trans k)
        have pre60 : ∀ t, Steps p.tables e below (T58.setTop (mkF m 190 (lc0_14 q1 q2 p1 p2 b14) [(.int (4 : Int32)), (.int (own_nn p2))])) t → Steps p.tables e below (s₁.setTop (entryFrame m #[(.long q1), (.long q2), (.int p1), (.int p2)] maxLocals)) t := fun t k => pre59 t (by
          show Steps p.tables e below (T58.setTop (mkF m 187 (lc0_14 q1 q2 p1 p2 b14) [])) _
          refine XS.iload X58.here hx rfl (hb hby at_187) rfl ?_
          show Steps p.tables e below (T58.setTop (mkF m 189 (lc0_14 q1 q2 p1 p2 b14) [(.int (own_nn p2))])) _
          refine XS.iconst X58.here hx rfl (hb hby at_189) ?_
          show Steps p.tables e below (T58.setTop (mkF m 190 (lc0_14 q1 q2 p1 p2 b14) [(.int (4 : Int32)), (.int (own_nn p2))])) _
          exact k)
        by_cases hc190_61 : (own_nn p2) < (4 : Int32)
        · have pre62 : ∀ t, Steps p.tables e below (T58.setTop (mkF m 204 (lc0_14 q1 q2 p1 p2 b14) [(.ref b14)])) t → Steps p.tables e below (s₁.setTop (entryFrame m #[(.long q1), (.long q2), (.int p1), (.int p2)] maxLocals)) t := fun t k => pre60 t (by
            show Steps p.tables e below (T58.setTop (mkF m 190 (lc0_14 q1 q2 p1 p2 b14) [(.int (4 : Int32)), (.int (own_nn p2))])) _
            refine XS.icmpYes X58.here hx rfl (pc0 := 190) (pc' := 202) rfl (hb hby at_190) rfl (tlt hc190_61).1 (by decide) (by decide) ?_
            show Steps p.tables e below (T58.setTop (mkF m 202 (lc0_14 q1 q2 p1 p2 b14) [])) _
            refine XS.aload X58.here hx rfl (hb hby at_202) rfl rfl ?_
            show Steps p.tables e below (T58.setTop (mkF m 204 (lc0_14 q1 q2 p1 p2 b14) [(.ref b14)])) _
            exact k)
          obtain ⟨cq63, kq63, q63a, q63b, q63c⟩ := isOf hZ rfl E_b14
          obtain ⟨_, _, ⟨T63, L63, k63, n63⟩, -, X63, ⟨Lc63, hQ63, l63, y63, z63⟩, st63⟩ := X58.virtualBack hx (y := (⟨"com/example/squitterlab/squitterlab/sim/OverlapCounter", "received", "()J"⟩ : MethodName)) (z := (⟨"com/example/squitterlab/squitterlab/sim/OverlapCounter", "received", "()J"⟩ : MethodName)) hown (mvT hZ (hw _ (List.mem_of_getElem? (i := 12) rfl))) (mvT hZ (hw _ (List.mem_of_getElem? (i := 13) rfl))) (notFace_of_selects (args := #[]) (mvT hZ (hw _ (List.mem_of_getElem? (i := 15) rfl)))) (mvT hZ (hw _ (List.mem_of_getElem? (i := 15) rfl))) (mvT hZ (hw _ (List.mem_of_getElem? (i := 14) rfl))) (by decide) (backOf (W := 0) (rm3 l Z a0 hw [] b14 (own_lost (1 : Int32) (own_t1 q2 p1) (own_fr q1) (own_t2 q2 p1)) (nar .boolean (if (p2 &&& (4 : Int32)) = (0 : Int32) then (0 : Int32) else (1 : Int32))) (own_rec (1 : Int32) (own_fr q1) (own_t1 q2 p1) (own_lost (1 : Int32) (own_t0 q2) (own_fr q1) (own_t1 q2 p1)) (nar .boolean (if (p2 &&& (2 : Int32)) = (0 : Int32) then (0 : Int32) else (1 : Int32))) (own_rec (1 : Int32) (own_fr q1) (own_t0 q2) (own_lost (0 : Int32) (0 : Int64) (own_fr q1) (own_t0 q2)) (nar .boolean (if (p2 &&& (1 : Int32)) = (0 : Int32) then (0 : Int32) else (1 : Int32))) (own_rec (0 : Int32) (own_fr q1) (0 : Int64) (0 : Int32) (0 : Int32) (0 : Int64) (own_t0 q2)) (own_t1 q2 p1)) (own_t2 q2 p1)) T58.heap n0 Z58 E_b14 F_b14_lastLost F_b14_lastCounted F_b14_received) hZ (hw _ (List.mem_of_getElem? (i := 16) rfl)) (hw _ (List.mem_of_getElem? (i := 3) rfl)) (by decide) (by decide)) q63a q63c (g := (mkF m 204 (lc0_14 q1 q2 p1 p2 b14) [(.ref b14)])) rfl (by rw [hml]; rfl) (Steps.refl _) (argsL := []) (rest := []) (lenOf pd_2 rfl) rfl (by show 2 * 0 + _ ≤ _; exact Nat.le_of_eq rfl) (hb hby at_204) (fun _ _ => ⟨rfl, rfl, (by decide : 1 + 0 ≤ _), (by decide : 7 + 0 ≤ _)⟩)
          dsimp only [Pt.U, Pt.locs, Pt.cells, Pt.slots] at X63 l63 y63 z63 st63 hQ63
          subst l63 y63 z63
          obtain ⟨rfl, N63q, e63⟩ := hQ63
          have N63 := Fr.app N58 N63q
          have pre64 : ∀ t, Steps p.tables e below (T63.setTop (mkF m 207 (lc0_14 q1 q2 p1 p2 b14) [(.long (own_recv (nar .boolean (if (p2 &&& (4 : Int32)) = (0 : Int32) then (0 : Int32) else (1 : Int32))) (own_lost (1 : Int32) (own_t1 q2 p1) (own_fr q1) (own_t2 q2 p1)) (own_rec (1 : Int32) (own_fr q1) (own_t1 q2 p1) (own_lost (1 : Int32) (own_t0 q2) (own_fr q1) (own_t1 q2 p1)) (nar .boolean (if (p2 &&& (2 : Int32)) = (0 : Int32) then (0 : Int32) else (1 : Int32))) (own_rec (1 : Int32) (own_fr q1) (own_t0 q2) (own_lost (0 : Int32) (0 : Int64) (own_fr q1) (own_t0 q2)) (nar .boolean (if (p2 &&& (1 : Int32)) = (0 : Int32) then (0 : Int32) else (1 : Int32))) (own_rec (0 : Int32) (own_fr q1) (0 : Int64) (0 : Int32) (0 : Int32) (0 : Int64) (own_t0 q2)) (own_t1 q2 p1)) (own_t2 q2 p1))))])) t → Steps p.tables e below (s₁.setTop (entryFrame m #[(.long q1), (.long q2), (.int p1), (.int p2)] maxLocals)) t := fun t k => pre62 t (st63.trans k)
          have pre65 : ∀ t, Steps p.tables e below (T63.setTop (mkF m 220 (lc0_38 q1 q2 p1 p2 b14) [(.int (lcmpW (own_d1 p1) (own_fr q1)))])) t → Steps p.tables e below (s₁.setTop (entryFrame m #[(.long q1), (.long q2), (.int p1), (.int p2)] maxLocals)) t := fun t k => pre64 t (by
            show Steps p.tables e below (T63.setTop (mkF m 207 (lc0_14 q1 q2 p1 p2 b14) [(.long (own_recv (nar .boolean (if (p2 &&& (4 : Int32)) = (0 : Int32) then (0 : Int32) else (1 : Int32))) (own_lost (1 : Int32) (own_t1 q2 p1) (own_fr q1) (own_t2 q2 p1)) (own_rec (1 : Int32) (own_fr q1) (own_t1 q2 p1) (own_lost (1 : Int32) (own_t0 q2) (own_fr q1) (own_t1 q2 p1)) (nar .boolean (if (p2 &&& (2 : Int32)) = (0 : Int32) then (0 : Int32) else (1 : Int32))) (own_rec (1 : Int32) (own_fr q1) (own_t0 q2) (own_lost (0 : Int32) (0 : Int64) (own_fr q1) (own_t0 q2)) (nar .boolean (if (p2 &&& (1 : Int32)) = (0 : Int32) then (0 : Int32) else (1 : Int32))) (own_rec (0 : Int32) (own_fr q1) (0 : Int64) (0 : Int32) (0 : Int32) (0 : Int64) (own_t0 q2)) (own_t1 q2 p1)) (own_t2 q2 p1))))])) _
            refine XS.lstore X63.here hx rfl (hb hby at_207) rfl (l' := (lc0_38 q1 q2 p1 p2 b14)) rfl ?_
            show Steps p.tables e below (T63.setTop (mkF m 209 (lc0_38 q1 q2 p1 p2 b14) [])) _
            refine XS.iload X63.here hx rfl (hb hby at_209) rfl ?_
            show Steps p.tables e below (T63.setTop (mkF m 211 (lc0_38 q1 q2 p1 p2 b14) [(.int (own_nn p2))])) _
            refine XS.iconst X63.here hx rfl (hb hby at_211) ?_
            show Steps p.tables e below (T63.setTop (mkF m 212 (lc0_38 q1 q2 p1 p2 b14) [(.int (2 : Int32)), (.int (own_nn p2))])) _
            refine XS.icmpNo X63.here hx rfl (hb hby at_212) rfl (flt hc160_29).1 ?_
            show Steps p.tables e below (T63.setTop (mkF m 215 (lc0_38 q1 q2 p1 p2 b14) [])) _
            refine XS.lload X63.here hx rfl (hb hby at_215) rfl ?_
            show Steps p.tables e below (T63.setTop (mkF m 217 (lc0_38 q1 q2 p1 p2 b14) [(.long (own_d1 p1))])) _
            refine XS.lload X63.here hx rfl (hb hby at_217) rfl ?_
            show Steps p.tables e below (T63.setTop (mkF m 219 (lc0_38 q1 q2 p1 p2 b14) [(.long (own_fr q1)), (.long (own_d1 p1))])) _
            refine XS.lcmp X63.here hx rfl (hb hby at_219) rfl ?_
            show Steps p.tables e below (T63.setTop (mkF m 220 (lc0_38 q1 q2 p1 p2 b14) [(.int (lcmpW (own_d1 p1) (own_fr q1)))])) _
            exact k)
          have pre67 : ∀ t, Steps p.tables e below (T63.setTop (mkF m 228 (lc0_38 q1 q2 p1 p2 b14) [(.int (if (own_d1 p1) < (own_fr q1) then (1 : Int32) else (0 : Int32)))])) t → Steps p.tables e below (s₁.setTop (entryFrame m #[(.long q1), (.long q2), (.int p1), (.int p2)] maxLocals)) t := fun t k => pre65 t (by
            show Steps p.tables e below (T63.setTop (mkF m 220 (lc0_38 q1 q2 p1 p2 b14) [(.int (lcmpW (own_d1 p1) (own_fr q1)))])) _
            by_cases hm220_66 : (own_d1 p1) < (own_fr q1)
            · refine XS.ifNo X63.here hx rfl (hb hby at_220) rfl ((if0 _ _).trans (tlt ((lw_lt _ _).mpr hm220_66)).2.1) ?_
              show Steps p.tables e below (T63.setTop (mkF m 223 (lc0_38 q1 q2 p1 p2 b14) [])) _
              refine XS.iconst X63.here hx rfl (hb hby at_223) ?_
              show Steps p.tables e below (T63.setTop (mkF m 224 (lc0_38 q1 q2 p1 p2 b14) [(.int (1 : Int32))])) _
              refine XS.goto X63.here hx rfl (pc0 := 224) (pc' := 228) rfl (hb hby at_224) (by decide) (by decide) ?_
              show Steps p.tables e below (T63.setTop (mkF m 228 (lc0_38 q1 q2 p1 p2 b14) [(.int (1 : Int32))])) _
              have q : (if (own_d1 p1) < (own_fr q1) then (1 : Int32) else (0 : Int32)) = (1 : Int32) := by simp only [if_pos hm220_66]
              exact Eq.subst (motive := fun xI => Steps p.tables e below (T63.setTop (mkF m 228 (lc0_38 q1 q2 p1 p2 b14) [(.int xI)])) t) q k
            · refine XS.ifYes X63.here hx rfl (pc0 := 220) (pc' := 227) rfl (hb hby at_220) rfl ((if0 _ _).trans (flt (fun q => hm220_66 ((lw_lt _ _).mp q))).2.1) (by decide) (by decide) ?_
              show Steps p.tables e below (T63.setTop (mkF m 227 (lc0_38 q1 q2 p1 p2 b14) [])) _
              refine XS.iconst X63.here hx rfl (hb hby at_227) ?_
              show Steps p.tables e below (T63.setTop (mkF m 228 (lc0_38 q1 q2 p1 p2 b14) [(.int (0 : Int32))])) _
              have q : (if (own_d1 p1) < (own_fr q1) then (1 : Int32) else (0 : Int32)) = (0 : Int32) := by simp only [if_neg hm220_66]
              exact Eq.subst (motive := fun xI => Steps p.tables e below (T63.setTop (mkF m 228 (lc0_38 q1 q2 p1 p2 b14) [(.int xI)])) t) q k)
          have pre68 : ∀ t, Steps p.tables e below (T63.setTop (mkF m 241 (lc0_39 q1 q2 p1 p2 b14) [(.int (lcmpW (own_d2 p1) (own_fr q1)))])) t → Steps p.tables e below (s₁.setTop (entryFrame m #[(.long q1), (.long q2), (.int p1), (.int p2)] maxLocals)) t := fun t k => pre67 t (by
            show Steps p.tables e below (T63.setTop (mkF m 228 (lc0_38 q1 q2 p1 p2 b14) [(.int (if (own_d1 p1) < (own_fr q1) then (1 : Int32) else (0 : Int32)))])) _
            refine XS.istore X63.here hx rfl (hb hby at_228) rfl (l' := (lc0_39 q1 q2 p1 p2 b14)) rfl ?_
            show Steps p.tables e below (T63.setTop (mkF m 230 (lc0_39 q1 q2 p1 p2 b14) [])) _
            refine XS.iload X63.here hx rfl (hb hby at_230) rfl ?_
            show Steps p.tables e below (T63.setTop (mkF m 232 (lc0_39 q1 q2 p1 p2 b14) [(.int (own_nn p2))])) _
            refine XS.iconst X63.here hx rfl (hb hby at_232) ?_
            show Steps p.tables e below (T63.setTop (mkF m 233 (lc0_39 q1 q2 p1 p2 b14) [(.int (3 : Int32)), (.int (own_nn p2))])) _
            refine XS.icmpNo X63.here hx rfl (hb hby at_233) rfl (flt hc175_41).1 ?_
            show Steps p.tables e below (T63.setTop (mkF m 236 (lc0_39 q1 q2 p1 p2 b14) [])) _
            refine XS.lload X63.here hx rfl (hb hby at_236) rfl ?_
            show Steps p.tables e below (T63.setTop (mkF m 238 (lc0_39 q1 q2 p1 p2 b14) [(.long (own_d2 p1))])) _
            refine XS.lload X63.here hx rfl (hb hby at_238) rfl ?_
            show Steps p.tables e below (T63.setTop (mkF m 240 (lc0_39 q1 q2 p1 p2 b14) [(.long (own_fr q1)), (.long (own_d2 p1))])) _
            refine XS.lcmp X63.here hx rfl (hb hby at_240) rfl ?_
            show Steps p.tables e below (T63.setTop (mkF m 241 (lc0_39 q1 q2 p1 p2 b14) [(.int (lcmpW (own_d2 p1) (own_fr q1)))])) _
            exact k)
          have pre70 : ∀ t, Steps p.tables e below (T63.setTop (mkF m 249 (lc0_39 q1 q2 p1 p2 b14) [(.int (if (own_d2 p1) < (own_fr q1) then (1 : Int32) else (0 : Int32)))])) t → Steps p.tables e below (s₁.setTop (entryFrame m #[(.long q1), (.long q2), (.int p1), (.int p2)] maxLocals)) t := fun t k => pre68 t (by
            show Steps p.tables e below (T63.setTop (mkF m 241 (lc0_39 q1 q2 p1 p2 b14) [(.int (lcmpW (own_d2 p1) (own_fr q1)))])) _
            by_cases hm241_69 : (own_d2 p1) < (own_fr q1)
            · refine XS.ifNo X63.here hx rfl (hb hby at_241) rfl ((if0 _ _).trans (tlt ((lw_lt _ _).mpr hm241_69)).2.1) ?_
              show Steps p.tables e below (T63.setTop (mkF m 244 (lc0_39 q1 q2 p1 p2 b14) [])) _
              refine XS.iconst X63.here hx rfl (hb hby at_244) ?_
              show Steps p.tables e below (T63.setTop (mkF m 245 (lc0_39 q1 q2 p1 p2 b14) [(.int (1 : Int32))])) _
              refine XS.goto X63.here hx rfl (pc0 := 245) (pc' := 249) rfl (hb hby at_245) (by decide) (by decide) ?_
              show Steps p.tables e below (T63.setTop (mkF m 249 (lc0_39 q1 q2 p1 p2 b14) [(.int (1 : Int32))])) _
              have q : (if (own_d2 p1) < (own_fr q1) then (1 : Int32) else (0 : Int32)) = (1 : Int32) := by simp only [if_pos hm241_69]
              exact Eq.subst (motive := fun xI => Steps p.tables e below (T63.setTop (mkF m 249 (lc0_39 q1 q2 p1 p2 b14) [(.int xI)])) t) q k
            · refine XS.ifYes X63.here hx rfl (pc0 := 241) (pc' := 248) rfl (hb hby at_241) rfl ((if0 _ _).trans (flt (fun q => hm241_69 ((lw_lt _ _).mp q))).2.1) (by decide) (by decide) ?_
              show Steps p.tables e below (T63.setTop (mkF m 248 (lc0_39 q1 q2 p1 p2 b14) [])) _
              refine XS.iconst X63.here hx rfl (hb hby at_248) ?_
              show Steps p.tables e below (T63.setTop (mkF m 249 (lc0_39 q1 q2 p1 p2 b14) [(.int (0 : Int32))])) _
              have q : (if (own_d2 p1) < (own_fr q1) then (1 : Int32) else (0 : Int32)) = (0 : Int32) := by simp only [if_neg hm241_69]
              exact Eq.subst (motive := fun xI => Steps p.tables e below (T63.setTop (mkF m 249 (lc0_39 q1 q2 p1 p2 b14) [(.int xI)])) t) q k)
          have pre71 : ∀ t, Steps p.tables e below (T63.setTop (mkF m 283 (lc0_42 q1 q2 p1 p2 b14) [(.int (if (p2 &&& (1 : Int32)) = (0 : Int32) then (0 : Int32) else (1 : Int32)))])) t → Steps p.tables e below (s₁.setTop (entryFrame m #[(.long q1), (.long q2), (.int p1), (.int p2)] maxLocals)) t := fun t k => pre70 t (by
            show Steps p.tables e below (T63.setTop (mkF m 249 (lc0_39 q1 q2 p1 p2 b14) [(.int (if (own_d2 p1) < (own_fr q1) then (1 : Int32) else (0 : Int32)))])) _
            refine XS.istore X63.here hx rfl (hb hby at_249) rfl (l' := (lc0_40 q1 q2 p1 p2 b14)) rfl ?_
            show Steps p.tables e below (T63.setTop (mkF m 251 (lc0_40 q1 q2 p1 p2 b14) [])) _
            refine XS.iload X63.here hx rfl (hb hby at_251) rfl ?_
            show Steps p.tables e below (T63.setTop (mkF m 253 (lc0_40 q1 q2 p1 p2 b14) [(.int (own_nn p2))])) _
            refine XS.iconst X63.here hx rfl (hb hby at_253) ?_
            show Steps p.tables e below (T63.setTop (mkF m 254 (lc0_40 q1 q2 p1 p2 b14) [(.int (4 : Int32)), (.int (own_nn p2))])) _
            refine XS.icmpYes X63.here hx rfl (pc0 := 254) (pc' := 269) rfl (hb hby at_254) rfl (tlt hc190_61).1 (by decide) (by decide) ?_
            show Steps p.tables e below (T63.setTop (mkF m 269 (lc0_40 q1 q2 p1 p2 b14) [])) _
            refine XS.iconst X63.here hx rfl (hb hby at_269) ?_
            show Steps p.tables e below (T63.setTop (mkF m 270 (lc0_40 q1 q2 p1 p2 b14) [(.int (0 : Int32))])) _
            refine XS.istore X63.here hx rfl (hb hby at_270) rfl (l' := (lc0_41 q1 q2 p1 p2 b14)) rfl ?_
            show Steps p.tables e below (T63.setTop (mkF m 272 (lc0_41 q1 q2 p1 p2 b14) [])) _
            refine XS.lconst X63.here hx rfl (hb hby at_272) ?_
            show Steps p.tables e below (T63.setTop (mkF m 273 (lc0_41 q1 q2 p1 p2 b14) [(.long (0 : Int64))])) _
            refine XS.lstore X63.here hx rfl (hb hby at_273) rfl (l' := (lc0_42 q1 q2 p1 p2 b14)) rfl ?_
            show Steps p.tables e below (T63.setTop (mkF m 275 (lc0_42 q1 q2 p1 p2 b14) [])) _
            refine XS.iload X63.here hx rfl (hb hby at_275) rfl ?_
            show Steps p.tables e below (T63.setTop (mkF m 277 (lc0_42 q1 q2 p1 p2 b14) [(.int (own_nn p2))])) _
            refine XS.iconst X63.here hx rfl (hb hby at_277) ?_
            show Steps p.tables e below (T63.setTop (mkF m 278 (lc0_42 q1 q2 p1 p2 b14) [(.int (1 : Int32)), (.int (own_nn p2))])) _
            refine XS.icmpNo X63.here hx rfl (hb hby at_278) rfl (flt hc145_20).1 ?_
            show Steps p.tables e below (T63.setTop (mkF m 281 (lc0_42 q1 q2 p1 p2 b14) [])) _
            refine XS.iload X63.here hx rfl (hb hby at_281) rfl ?_
            show Steps p.tables e below (T63.setTop (mkF m 283 (lc0_42 q1 q2 p1 p2 b14) [(.int (if (p2 &&& (1 : Int32)) = (0 : Int32) then (0 : Int32) else (1 : Int32)))])) _
            exact k)
          have pre74 : ∀ t, Steps p.tables e below (T63.setTop (mkF m 297 (lc0_45 q1 q2 p1 p2 b14) [])) t → Steps p.tables e below (s₁.setTop (entryFrame m #[(.long q1), (.long q2), (.int p1), (.int p2)] maxLocals)) t := fun t k => pre71 t (by
            show Steps p.tables e below (T63.setTop (mkF m 283 (lc0_42 q1 q2 p1 p2 b14) [(.int (if (p2 &&& (1 : Int32)) = (0 : Int32) then (0 : Int32) else (1 : Int32)))])) _
            by_cases hm283_72 : (p2 &&& (1 : Int32)) = (0 : Int32)
            · refine XS.ifYes X63.here hx rfl (pc0 := 283) (pc' := 297) rfl (hb hby at_283) rfl ((if0 _ _).trans (teq (by simp only [if_pos hm283_72] <;> decide)).1) (by decide) (by decide) ?_
              show Steps p.tables e below (T63.setTop (mkF m 297 (lc0_42 q1 q2 p1 p2 b14) [])) _
              have q : (own_k2 (0 : Int64) ((p2 &&& (1 : Int32)) = (0 : Int32)) ((own_d1 p1) < (own_fr q1))) = (0 : Int64) := by simp only [own_k2, if_pos hm283_72]
              exact Eq.subst (motive := fun xJ => Steps p.tables e below (T63.setTop (mkF m 297 (lc0_44 q1 q2 p1 p2 b14 xJ) [])) t) q k
            · refine XS.ifNo X63.here hx rfl (hb hby at_283) rfl ((if0 _ _).trans (feq (by simp only [if_neg hm283_72] <;> decide)).1) ?_
              show Steps p.tables e below (T63.setTop (mkF m 286 (lc0_42 q1 q2 p1 p2 b14) [])) _
              refine XS.iload X63.here hx rfl (hb hby at_286) rfl ?_
              show Steps p.tables e below (T63.setTop (mkF m 288 (lc0_42 q1 q2 p1 p2 b14) [(.int (if (own_d1 p1) < (own_fr q1) then (1 : Int32) else (0 : Int32)))])) _
              by_cases hm288_73 : (own_d1 p1) < (own_fr q1)
              · refine XS.ifYes X63.here hx rfl (pc0 := 288) (pc' := 297) rfl (hb hby at_288) rfl ((if0 _ _).trans (feq (by simp only [if_pos hm288_73] <;> decide)).2) (by decide) (by decide) ?_
                show Steps p.tables e below (T63.setTop (mkF m 297 (lc0_42 q1 q2 p1 p2 b14) [])) _
                have q : (own_k2 (0 : Int64) ((p2 &&& (1 : Int32)) = (0 : Int32)) ((own_d1 p1) < (own_fr q1))) = (0 : Int64) := by simp only [own_k2, if_neg hm283_72, if_pos hm288_73]
                exact Eq.subst (motive := fun xJ => Steps p.tables e below (T63.setTop (mkF m 297 (lc0_44 q1 q2 p1 p2 b14 xJ) [])) t) q k
              · refine XS.ifNo X63.here hx rfl (hb hby at_288) rfl ((if0 _ _).trans (teq (by simp only [if_neg hm288_73] <;> decide)).2) ?_
                show Steps p.tables e below (T63.setTop (mkF m 291 (lc0_42 q1 q2 p1 p2 b14) [])) _
                refine XS.lload X63.here hx rfl (hb hby at_291) rfl ?_
                show Steps p.tables e below (T63.setTop (mkF m 293 (lc0_42 q1 q2 p1 p2 b14) [(.long (0 : Int64))])) _
                refine XS.lconst X63.here hx rfl (hb hby at_293) ?_
                show Steps p.tables e below (T63.setTop (mkF m 294 (lc0_42 q1 q2 p1 p2 b14) [(.long (1 : Int64)), (.long (0 : Int64))])) _
                refine XS.ladd X63.here hx rfl (hb hby at_294) rfl ?_
                show Steps p.tables e below (T63.setTop (mkF m 295 (lc0_42 q1 q2 p1 p2 b14) [(.long ((0 : Int64) + (1 : Int64)))])) _
                refine XS.lstore X63.here hx rfl (hb hby at_295) rfl (l' := (lc0_43 q1 q2 p1 p2 b14)) rfl ?_
                show Steps p.tables e below (T63.setTop (mkF m 297 (lc0_43 q1 q2 p1 p2 b14) [])) _
                have q : (own_k2 (0 : Int64) ((p2 &&& (1 : Int32)) = (0 : Int32)) ((own_d1 p1) < (own_fr q1))) = ((0 : Int64) + (1 : Int64)) := by simp only [own_k2, if_neg hm283_72, if_neg hm288_73]
                exact Eq.subst (motive := fun xJ => Steps p.tables e below (T63.setTop (mkF m 297 (lc0_44 q1 q2 p1 p2 b14 xJ) [])) t) q k)
          have pre75 : ∀ t, Steps p.tables e below (T63.setTop (mkF m 305 (lc0_45 q1 q2 p1 p2 b14) [(.int (if (p2 &&& (2 : Int32)) = (0 : Int32) then (0 : Int32) else (1 : Int32)))])) t → Steps p.tables e below (s₁.setTop (entryFrame m #[(.long q1), (.long q2), (.int p1), (.int p2)] maxLocals)) t := fun t k => pre74 t (by
            show Steps p.tables e below (T63.setTop (mkF m 297 (lc0_45 q1 q2 p1 p2 b14) [])) _
            refine XS.iload X63.here hx rfl (hb hby at_297) rfl ?_
            show Steps p.tables e below (T63.setTop (mkF m 299 (lc0_45 q1 q2 p1 p2 b14) [(.int (own_nn p2))])) _
            refine XS.iconst X63.here hx rfl (hb hby at_299) ?_
            show Steps p.tables e below (T63.setTop (mkF m 300 (lc0_45 q1 q2 p1 p2 b14) [(.int (2 : Int32)), (.int (own_nn p2))])) _
            refine XS.icmpNo X63.here hx rfl (hb hby at_300) rfl (flt hc160_29).1 ?_
            show Steps p.tables e below (T63.setTop (mkF m 303 (lc0_45 q1 q2 p1 p2 b14) [])) _
            refine XS.iload X63.here hx rfl (hb hby at_303) rfl ?_
            show Steps p.tables e below (T63.setTop (mkF m 305 (lc0_45 q1 q2 p1 p2 b14) [(.int (if (p2 &&& (2 : Int32)) = (0 : Int32) then (0 : Int32) else (1 : Int32)))])) _
            exact k)
          have pre79 : ∀ t, Steps p.tables e below (T63.setTop (mkF m 324 (lc0_47 q1 q2 p1 p2 b14) [])) t → Steps p.tables e below (s₁.setTop (entryFrame m #[(.long q1), (.long q2), (.int p1), (.int p2)] maxLocals)) t := fun t k => pre75 t (by
            show Steps p.tables e below (T63.setTop (mkF m 305 (lc0_45 q1 q2 p1 p2 b14) [(.int (if (p2 &&& (2 : Int32)) = (0 : Int32) then (0 : Int32) else (1 : Int32)))])) _
            by_cases hm305_76 : (p2 &&& (2 : Int32)) = (0 : Int32)
            · refine XS.ifYes X63.here hx rfl (pc0 := 305) (pc' := 324) rfl (hb hby at_305) rfl ((if0 _ _).trans (teq (by simp only [if_pos hm305_76] <;> decide)).1) (by decide) (by decide) ?_
              show Steps p.tables e below (T63.setTop (mkF m 324 (lc0_45 q1 q2 p1 p2 b14) [])) _
              have q : (own_k3 (own_k2 (0 : Int64) ((p2 &&& (1 : Int32)) = (0 : Int32)) ((own_d1 p1) < (own_fr q1))) ((p2 &&& (2 : Int32)) = (0 : Int32)) ((own_d1 p1) < (own_fr q1)) ((own_d2 p1) < (own_fr q1))) = (own_k2 (0 : Int64) ((p2 &&& (1 : Int32)) = (0 : Int32)) ((own_d1 p1) < (own_fr q1))) := by simp only [own_k3, if_pos hm305_76]
              exact Eq.subst (motive := fun xJ => Steps p.tables e below (T63.setTop (mkF m 324 (lc0_44 q1 q2 p1 p2 b14 xJ) [])) t) q k
            · refine XS.ifNo X63.here hx rfl (hb hby at_305) rfl ((if0 _ _).trans (feq (by simp only [if_neg hm305_76] <;> decide)).1) ?_
              show Steps p.tables e below (T63.setTop (mkF m 308 (lc0_45 q1 q2 p1 p2 b14) [])) _
              refine XS.iload X63.here hx rfl (hb hby at_308) rfl ?_
              show Steps p.tables e below (T63.setTop (mkF m 310 (lc0_45 q1 q2 p1 p2 b14) [(.int (if (own_d1 p1) < (own_fr q1) then (1 : Int32) else (0 : Int32)))])) _
              by_cases hm310_77 : (own_d1 p1) < (own_fr q1)
              · refine XS.ifYes X63.here hx rfl (pc0 := 310) (pc' := 324) rfl (hb hby at_310) rfl ((if0 _ _).trans (feq (by simp only [if_pos hm310_77] <;> decide)).2) (by decide) (by decide) ?_
                show Steps p.tables e below (T63.setTop (mkF m 324 (lc0_45 q1 q2 p1 p2 b14) [])) _
                have q : (own_k3 (own_k2 (0 : Int64) ((p2 &&& (1 : Int32)) = (0 : Int32)) ((own_d1 p1) < (own_fr q1))) ((p2 &&& (2 : Int32)) = (0 : Int32)) ((own_d1 p1) < (own_fr q1)) ((own_d2 p1) < (own_fr q1))) = (own_k2 (0 : Int64) ((p2 &&& (1 : Int32)) = (0 : Int32)) ((own_d1 p1) < (own_fr q1))) := by simp only [own_k3, if_neg hm305_76, if_pos hm310_77]
                exact Eq.subst (motive := fun xJ => Steps p.tables e below (T63.setTop (mkF m 324 (lc0_44 q1 q2 p1 p2 b14 xJ) [])) t) q k
              · refine XS.ifNo X63.here hx rfl (hb hby at_310) rfl ((if0 _ _).trans (teq (by simp only [if_neg hm310_77] <;> decide)).2) ?_
                show Steps p.tables e below (T63.setTop (mkF m 313 (lc0_45 q1 q2 p1 p2 b14) [])) _
                refine XS.iload X63.here hx rfl (hb hby at_313) rfl ?_
                show Steps p.tables e below (T63.setTop (mkF m 315 (lc0_45 q1 q2 p1 p2 b14) [(.int (if (own_d2 p1) < (own_fr q1) then (1 : Int32) else (0 : Int32)))])) _
                by_cases hm315_78 : (own_d2 p1) < (own_fr q1)
                · refine XS.ifYes X63.here hx rfl (pc0 := 315) (pc' := 324) rfl (hb hby at_315) rfl ((if0 _ _).trans (feq (by simp only [if_pos hm315_78] <;> decide)).2) (by decide) (by decide) ?_
                  show Steps p.tables e below (T63.setTop (mkF m 324 (lc0_45 q1 q2 p1 p2 b14) [])) _
                  have q : (own_k3 (own_k2 (0 : Int64) ((p2 &&& (1 : Int32)) = (0 : Int32)) ((own_d1 p1) < (own_fr q1))) ((p2 &&& (2 : Int32)) = (0 : Int32)) ((own_d1 p1) < (own_fr q1)) ((own_d2 p1) < (own_fr q1))) = (own_k2 (0 : Int64) ((p2 &&& (1 : Int32)) = (0 : Int32)) ((own_d1 p1) < (own_fr q1))) := by simp only [own_k3, if_neg hm305_76, if_neg hm310_77, if_pos hm315_78]
                  exact Eq.subst (motive := fun xJ => Steps p.tables e below (T63.setTop (mkF m 324 (lc0_44 q1 q2 p1 p2 b14 xJ) [])) t) q k
                · refine XS.ifNo X63.here hx rfl (hb hby at_315) rfl ((if0 _ _).trans (teq (by simp only [if_neg hm315_78] <;> decide)).2) ?_
                  show Steps p.tables e below (T63.setTop (mkF m 318 (lc0_45 q1 q2 p1 p2 b14) [])) _
                  refine XS.lload X63.here hx rfl (hb hby at_318) rfl ?_
                  show Steps p.tables e below (T63.setTop (mkF m 320 (lc0_45 q1 q2 p1 p2 b14) [(.long (own_k2 (0 : Int64) ((p2 &&& (1 : Int32)) = (0 : Int32)) ((own_d1 p1) < (own_fr q1))))])) _
                  refine XS.lconst X63.here hx rfl (hb hby at_320) ?_
                  show Steps p.tables e below (T63.setTop (mkF m 321 (lc0_45 q1 q2 p1 p2 b14) [(.long (1 : Int64)), (.long (own_k2 (0 : Int64) ((p2 &&& (1 : Int32)) = (0 : Int32)) ((own_d1 p1) < (own_fr q1))))])) _
                  refine XS.ladd X63.here hx rfl (hb hby at_321) rfl ?_
                  show Steps p.tables e below (T63.setTop (mkF m 322 (lc0_45 q1 q2 p1 p2 b14) [(.long ((own_k2 (0 : Int64) ((p2 &&& (1 : Int32)) = (0 : Int32)) ((own_d1 p1) < (own_fr q1))) + (1 : Int64)))])) _
                  refine XS.lstore X63.here hx rfl (hb hby at_322) rfl (l' := (lc0_46 q1 q2 p1 p2 b14)) rfl ?_
                  show Steps p.tables e below (T63.setTop (mkF m 324 (lc0_46 q1 q2 p1 p2 b14) [])) _
                  have q : (own_k3 (own_k2 (0 : Int64) ((p2 &&& (1 : Int32)) = (0 : Int32)) ((own_d1 p1) < (own_fr q1))) ((p2 &&& (2 : Int32)) = (0 : Int32)) ((own_d1 p1) < (own_fr q1)) ((own_d2 p1) < (own_fr q1))) = ((own_k2 (0 : Int64) ((p2 &&& (1 : Int32)) = (0 : Int32)) ((own_d1 p1) < (own_fr q1))) + (1 : Int64)) := by simp only [own_k3, if_neg hm305_76, if_neg hm310_77, if_neg hm315_78]
                  exact Eq.subst (motive := fun xJ => Steps p.tables e below (T63.setTop (mkF m 324 (lc0_44 q1 q2 p1 p2 b14 xJ) [])) t) q k)
          have pre80 : ∀ t, Steps p.tables e below (T63.setTop (mkF m 332 (lc0_47 q1 q2 p1 p2 b14) [(.int (if (p2 &&& (4 : Int32)) = (0 : Int32) then (0 : Int32) else (1 : Int32)))])) t → Steps p.tables e below (s₁.setTop (entryFrame m #[(.long q1), (.long q2), (.int p1), (.int p2)] maxLocals)) t := fun t k => pre79 t (by
            show Steps p.tables e below (T63.setTop (mkF m 324 (lc0_47 q1 q2 p1 p2 b14) [])) _
            refine XS.iload X63.here hx rfl (hb hby at_324) rfl ?_
            show Steps p.tables e below (T63.setTop (mkF m 326 (lc0_47 q1 q2 p1 p2 b14) [(.int (own_nn p2))])) _
            refine XS.iconst X63.here hx rfl (hb hby at_326) ?_
            show Steps p.tables e below (T63.setTop (mkF m 327 (lc0_47 q1 q2 p1 p2 b14) [(.int (3 : Int32)), (.int (own_nn p2))])) _
            refine XS.icmpNo X63.here hx rfl (hb hby at_327) rfl (flt hc175_41).1 ?_
            show Steps p.tables e below (T63.setTop (mkF m 330 (lc0_47 q1 q2 p1 p2 b14) [])) _
            refine XS.iload X63.here hx rfl (hb hby at_330) rfl ?_
            show Steps p.tables e below (T63.setTop (mkF m 332 (lc0_47 q1 q2 p1 p2 b14) [(.int (if (p2 &&& (4 : Int32)) = (0 : Int32) then (0 : Int32) else (1 : Int32)))])) _
            exact k)
          have pre83 : ∀ t, Steps p.tables e below (T63.setTop (mkF m 351 (lc0_49 q1 q2 p1 p2 b14) [])) t → Steps p.tables e below (s₁.setTop (entryFrame m #[(.long q1), (.long q2), (.int p1), (.int p2)] maxLocals)) t := fun t k => pre80 t (by
            show Steps p.tables e below (T63.setTop (mkF m 332 (lc0_47 q1 q2 p1 p2 b14) [(.int (if (p2 &&& (4 : Int32)) = (0 : Int32) then (0 : Int32) else (1 : Int32)))])) _
            by_cases hm332_81 : (p2 &&& (4 : Int32)) = (0 : Int32)
            · refine XS.ifYes X63.here hx rfl (pc0 := 332) (pc' := 351) rfl (hb hby at_332) rfl ((if0 _ _).trans (teq (by simp only [if_pos hm332_81] <;> decide)).1) (by decide) (by decide) ?_
              show Steps p.tables e below (T63.setTop (mkF m 351 (lc0_47 q1 q2 p1 p2 b14) [])) _
              have q : (own_k2 (own_k3 (own_k2 (0 : Int64) ((p2 &&& (1 : Int32)) = (0 : Int32)) ((own_d1 p1) < (own_fr q1))) ((p2 &&& (2 : Int32)) = (0 : Int32)) ((own_d1 p1) < (own_fr q1)) ((own_d2 p1) < (own_fr q1))) ((p2 &&& (4 : Int32)) = (0 : Int32)) ((own_d2 p1) < (own_fr q1))) = (own_k3 (own_k2 (0 : Int64) ((p2 &&& (1 : Int32)) = (0 : Int32)) ((own_d1 p1) < (own_fr q1))) ((p2 &&& (2 : Int32)) = (0 : Int32)) ((own_d1 p1) < (own_fr q1)) ((own_d2 p1) < (own_fr q1))) := by simp only [own_k2, if_pos hm332_81]
              exact Eq.subst (motive := fun xJ => Steps p.tables e below (T63.setTop (mkF m 351 (lc0_44 q1 q2 p1 p2 b14 xJ) [])) t) q k
            · refine XS.ifNo X63.here hx rfl (hb hby at_332) rfl ((if0 _ _).trans (feq (by simp only [if_neg hm332_81] <;> decide)).1) ?_
              show Steps p.tables e below (T63.setTop (mkF m 335 (lc0_47 q1 q2 p1 p2 b14) [])) _
              refine XS.iload X63.here hx rfl (hb hby at_335) rfl ?_
              show Steps p.tables e below (T63.setTop (mkF m 337 (lc0_47 q1 q2 p1 p2 b14) [(.int (if (own_d2 p1) < (own_fr q1) then (1 : Int32) else (0 : Int32)))])) _
              by_cases hm337_82 : (own_d2 p1) < (own_fr q1)
              · refine XS.ifYes X63.here hx rfl (pc0 := 337) (pc' := 351) rfl (hb hby at_337) rfl ((if0 _ _).trans (feq (by simp only [if_pos hm337_82] <;> decide)).2) (by decide) (by decide) ?_
                show Steps p.tables e below (T63.setTop (mkF m 351 (lc0_47 q1 q2 p1 p2 b14) [])) _
                have q : (own_k2 (own_k3 (own_k2 (0 : Int64) ((p2 &&& (1 : Int32)) = (0 : Int32)) ((own_d1 p1) < (own_fr q1))) ((p2 &&& (2 : Int32)) = (0 : Int32)) ((own_d1 p1) < (own_fr q1)) ((own_d2 p1) < (own_fr q1))) ((p2 &&& (4 : Int32)) = (0 : Int32)) ((own_d2 p1) < (own_fr q1))) = (own_k3 (own_k2 (0 : Int64) ((p2 &&& (1 : Int32)) = (0 : Int32)) ((own_d1 p1) < (own_fr q1))) ((p2 &&& (2 : Int32)) = (0 : Int32)) ((own_d1 p1) < (own_fr q1)) ((own_d2 p1) < (own_fr q1))) := by simp only [own_k2, if_neg hm332_81, if_pos hm337_82]
                exact Eq.subst (motive := fun xJ => Steps p.tables e below (T63.setTop (mkF m 351 (lc0_44 q1 q2 p1 p2 b14 xJ) [])) t) q k
              · refine XS.ifNo X63.here hx rfl (hb hby at_337) rfl ((if0 _ _).trans (teq (by simp only [if_neg hm337_82] <;> decide)).2) ?_
                show Steps p.tables e below (T63.setTop (mkF m 340 (lc0_47 q1 q2 p1 p2 b14) [])) _
                refine XS.iload X63.here hx rfl (hb hby at_340) rfl ?_
                show Steps p.tables e below (T63.setTop (mkF m 342 (lc0_47 q1 q2 p1 p2 b14) [(.int (0 : Int32))])) _
                refine XS.ifNo X63.here hx rfl (hb hby at_342) rfl ((if0 _ _).trans (teq (by decide)).2) ?_
                show Steps p.tables e below (T63.setTop (mkF m 345 (lc0_47 q1 q2 p1 p2 b14) [])) _
                refine XS.lload X63.here hx rfl (hb hby at_345) rfl ?_
                show Steps p.tables e below (T63.setTop (mkF m 347 (lc0_47 q1 q2 p1 p2 b14) [(.long (own_k3 (own_k2 (0 : Int64) ((p2 &&& (1 : Int32)) = (0 : Int32)) ((own_d1 p1) < (own_fr q1))) ((p2 &&& (2 : Int32)) = (0 : Int32)) ((own_d1 p1) < (own_fr q1)) ((own_d2 p1) < (own_fr q1))))])) _
                refine XS.lconst X63.here hx rfl (hb hby at_347) ?_
                show Steps p.tables e below (T63.setTop (mkF m 348 (lc0_47 q1 q2 p1 p2 b14) [(.long (1 : Int64)), (.long (own_k3 (own_k2 (0 : Int64) ((p2 &&& (1 : Int32)) = (0 : Int32)) ((own_d1 p1) < (own_fr q1))) ((p2 &&& (2 : Int32)) = (0 : Int32)) ((own_d1 p1) < (own_fr q1)) ((own_d2 p1) < (own_fr q1))))])) _
                refine XS.ladd X63.here hx rfl (hb hby at_348) rfl ?_
                show Steps p.tables e below (T63.setTop (mkF m 349 (lc0_47 q1 q2 p1 p2 b14) [(.long ((own_k3 (own_k2 (0 : Int64) ((p2 &&& (1 : Int32)) = (0 : Int32)) ((own_d1 p1) < (own_fr q1))) ((p2 &&& (2 : Int32)) = (0 : Int32)) ((own_d1 p1) < (own_fr q1)) ((own_d2 p1) < (own_fr q1))) + (1 : Int64)))])) _
                refine XS.lstore X63.here hx rfl (hb hby at_349) rfl (l' := (lc0_48 q1 q2 p1 p2 b14)) rfl ?_
                show Steps p.tables e below (T63.setTop (mkF m 351 (lc0_48 q1 q2 p1 p2 b14) [])) _
                have q : (own_k2 (own_k3 (own_k2 (0 : Int64) ((p2 &&& (1 : Int32)) = (0 : Int32)) ((own_d1 p1) < (own_fr q1))) ((p2 &&& (2 : Int32)) = (0 : Int32)) ((own_d1 p1) < (own_fr q1)) ((own_d2 p1) < (own_fr q1))) ((p2 &&& (4 : Int32)) = (0 : Int32)) ((own_d2 p1) < (own_fr q1))) = ((own_k3 (own_k2 (0 : Int64) ((p2 &&& (1 : Int32)) = (0 : Int32)) ((own_d1 p1) < (own_fr q1))) ((p2 &&& (2 : Int32)) = (0 : Int32)) ((own_d1 p1) < (own_fr q1)) ((own_d2 p1) < (own_fr q1))) + (1 : Int64)) := by simp only [own_k2, if_neg hm332_81, if_neg hm337_82]
                exact Eq.subst (motive := fun xJ => Steps p.tables e below (T63.setTop (mkF m 351 (lc0_44 q1 q2 p1 p2 b14 xJ) [])) t) q k)
          have pre84 : ∀ t, Steps p.tables e below (T63.setTop (mkF m 386 (lc0_49 q1 q2 p1 p2 b14) [(.int (1 : Int32))])) t → Steps p.tables e below (s₁.setTop (entryFrame m #[(.long q1), (.long q2), (.int p1), (.int p2)] maxLocals)) t := fun t k => pre83 t (by
            show Steps p.tables e below (T63.setTop (mkF m 351 (lc0_49 q1 q2 p1 p2 b14) [])) _
            refine XS.iload X63.here hx rfl (hb hby at_351) rfl ?_
            show Steps p.tables e below (T63.setTop (mkF m 353 (lc0_49 q1 q2 p1 p2 b14) [(.int (own_nn p2))])) _
            refine XS.iconst X63.here hx rfl (hb hby at_353) ?_
            show Steps p.tables e below (T63.setTop (mkF m 354 (lc0_49 q1 q2 p1 p2 b14) [(.int (4 : Int32)), (.int (own_nn p2))])) _
            refine XS.icmpYes X63.here hx rfl (pc0 := 354) (pc' := 373) rfl (hb hby at_354) rfl (tlt hc190_61).1 (by decide) (by decide) ?_
            show Steps p.tables e below (T63.setTop (mkF m 373 (lc0_49 q1 q2 p1 p2 b14) [])) _
            refine XS.lload X63.here hx rfl (hb hby at_373) rfl ?_
            show Steps p.tables e below (T63.setTop (mkF m 375 (lc0_49 q1 q2 p1 p2 b14) [(.long (own_recv (nar .boolean (if (p2 &&& (4 : Int32)) = (0 : Int32) then (0 : Int32) else (1 : Int32))) (own_lost (1 : Int32) (own_t1 q2 p1) (own_fr q1) (own_t2 q2 p1)) (own_rec (1 : Int32) (own_fr q1) (own_t1 q2 p1) (own_lost (1 : Int32) (own_t0 q2) (own_fr q1) (own_t1 q2 p1)) (nar .boolean (if (p2 &&& (2 : Int32)) = (0 : Int32) then (0 : Int32) else (1 : Int32))) (own_rec (1 : Int32) (own_fr q1) (own_t0 q2) (own_lost (0 : Int32) (0 : Int64) (own_fr q1) (own_t0 q2)) (nar .boolean (if (p2 &&& (1 : Int32)) = (0 : Int32) then (0 : Int32) else (1 : Int32))) (own_rec (0 : Int32) (own_fr q1) (0 : Int64) (0 : Int32) (0 : Int32) (0 : Int64) (own_t0 q2)) (own_t1 q2 p1)) (own_t2 q2 p1))))])) _
            refine XS.lload X63.here hx rfl (hb hby at_375) rfl ?_
            show Steps p.tables e below (T63.setTop (mkF m 377 (lc0_49 q1 q2 p1 p2 b14) [(.long (own_k2 (own_k3 (own_k2 (0 : Int64) ((p2 &&& (1 : Int32)) = (0 : Int32)) ((own_d1 p1) < (own_fr q1))) ((p2 &&& (2 : Int32)) = (0 : Int32)) ((own_d1 p1) < (own_fr q1)) ((own_d2 p1) < (own_fr q1))) ((p2 &&& (4 : Int32)) = (0 : Int32)) ((own_d2 p1) < (own_fr q1)))), (.long (own_recv (nar .boolean (if (p2 &&& (4 : Int32)) = (0 : Int32) then (0 : Int32) else (1 : Int32))) (own_lost (1 : Int32) (own_t1 q2 p1) (own_fr q1) (own_t2 q2 p1)) (own_rec (1 : Int32) (own_fr q1) (own_t1 q2 p1) (own_lost (1 : Int32) (own_t0 q2) (own_fr q1) (own_t1 q2 p1)) (nar .boolean (if (p2 &&& (2 : Int32)) = (0 : Int32) then (0 : Int32) else (1 : Int32))) (own_rec (1 : Int32) (own_fr q1) (own_t0 q2) (own_lost (0 : Int32) (0 : Int64) (own_fr q1) (own_t0 q2)) (nar .boolean (if (p2 &&& (1 : Int32)) = (0 : Int32) then (0 : Int32) else (1 : Int32))) (own_rec (0 : Int32) (own_fr q1) (0 : Int64) (0 : Int32) (0 : Int32) (0 : Int64) (own_t0 q2)) (own_t1 q2 p1)) (own_t2 q2 p1))))])) _
            refine XS.lcmp X63.here hx rfl (hb hby at_377) rfl ?_
            show Steps p.tables e below (T63.setTop (mkF m 378 (lc0_49 q1 q2 p1 p2 b14) [(.int (lcmpW (own_recv (nar .boolean (if (p2 &&& (4 : Int32)) = (0 : Int32) then (0 : Int32) else (1 : Int32))) (own_lost (1 : Int32) (own_t1 q2 p1) (own_fr q1) (own_t2 q2 p1)) (own_rec (1 : Int32) (own_fr q1) (own_t1 q2 p1) (own_lost (1 : Int32) (own_t0 q2) (own_fr q1) (own_t1 q2 p1)) (nar .boolean (if (p2 &&& (2 : Int32)) = (0 : Int32) then (0 : Int32) else (1 : Int32))) (own_rec (1 : Int32) (own_fr q1) (own_t0 q2) (own_lost (0 : Int32) (0 : Int64) (own_fr q1) (own_t0 q2)) (nar .boolean (if (p2 &&& (1 : Int32)) = (0 : Int32) then (0 : Int32) else (1 : Int32))) (own_rec (0 : Int32) (own_fr q1) (0 : Int64) (0 : Int32) (0 : Int32) (0 : Int64) (own_t0 q2)) (own_t1 q2 p1)) (own_t2 q2 p1))) (own_k2 (own_k3 (own_k2 (0 : Int64) ((p2 &&& (1 : Int32)) = (0 : Int32)) ((own_d1 p1) < (own_fr q1))) ((p2 &&& (2 : Int32)) = (0 : Int32)) ((own_d1 p1) < (own_fr q1)) ((own_d2 p1) < (own_fr q1))) ((p2 &&& (4 : Int32)) = (0 : Int32)) ((own_d2 p1) < (own_fr q1)))))])) _
            refine XS.ifNo X63.here hx rfl (hb hby at_378) rfl ((if0 _ _).trans (teq ((lw_eq _ _).mpr (show (own_recv (nar .boolean (if (p2 &&& (4 : Int32)) = (0 : Int32) then (0 : Int32) else (1 : Int32))) (own_lost (1 : Int32) (own_t1 q2 p1) (own_fr q1) (own_t2 q2 p1)) (own_rec (1 : Int32) (own_fr q1) (own_t1 q2 p1) (own_lost (1 : Int32) (own_t0 q2) (own_fr q1) (own_t1 q2 p1)) (nar .boolean (if (p2 &&& (2 : Int32)) = (0 : Int32) then (0 : Int32) else (1 : Int32))) (own_rec (1 : Int32) (own_fr q1) (own_t0 q2) (own_lost (0 : Int32) (0 : Int64) (own_fr q1) (own_t0 q2)) (nar .boolean (if (p2 &&& (1 : Int32)) = (0 : Int32) then (0 : Int32) else (1 : Int32))) (own_rec (0 : Int32) (own_fr q1) (0 : Int64) (0 : Int32) (0 : Int32) (0 : Int64) (own_t0 q2)) (own_t1 q2 p1)) (own_t2 q2 p1))) = (own_k2 (own_k3 (own_k2 (0 : Int64) ((p2 &&& (1 : Int32)) = (0 : Int32)) ((own_d1 p1) < (own_fr q1))) ((p2 &&& (2 : Int32)) = (0 : Int32)) ((own_d1 p1) < (own_fr q1)) ((own_d2 p1) < (own_fr q1))) ((p2 &&& (4 : Int32)) = (0 : Int32)) ((own_d2 p1) < (own_fr q1))) from own_law3 q1 q2 p1 p2))).2) ?_
            show Steps p.tables e below (T63.setTop (mkF m 381 (lc0_49 q1 q2 p1 p2 b14) [])) _
            refine XS.iconst X63.here hx rfl (hb hby at_381) ?_
            show Steps p.tables e below (T63.setTop (mkF m 382 (lc0_49 q1 q2 p1 p2 b14) [(.int (1 : Int32))])) _
            refine XS.goto X63.here hx rfl (pc0 := 382) (pc' := 386) rfl (hb hby at_382) (by decide) (by decide) ?_
            show Steps p.tables e below (T63.setTop (mkF m 386 (lc0_49 q1 q2 p1 p2 b14) [(.int (1 : Int32))])) _
            exact k)
          obtain ⟨fs, hr, hrun, hended, hW, hsame⟩ := X63.leave (v := some (.int (1 : Int32))) (fun h => by rw [Bd.returns] at h; cases h) hlk
          refine ⟨_, _, pre84 _ ?_, hrun, hended, _, _, rfl, ?_, ⟨_, rfl⟩, hW, hsame.mono (by decide) (by decide)⟩
          · show Steps p.tables e below (T63.setTop (mkF m 386 (lc0_49 q1 q2 p1 p2 b14) [(.int (1 : Int32))])) _
            exact retN X63 hx (t := .boolean) Bd.returns (by simp) (hb hby at_386) hr
          · show Q0 Z q1 q2 p1 p2 h0 n0 _ T63.heap _
            rw [e63]
            exact ⟨rfl, N63⟩
        · have pre85 : ∀ t, Steps p.tables e below (T58.setTop (mkF m 199 (lc0_14 q1 q2 p1 p2 b14) [(.int (if (p2 &&& (8 : Int32)) = (0 : Int32) then (0 : Int32) else (1 : Int32))), (.long (own_t3 q2 p1)), (.ref b14)])) t → Steps p.tables e below (s₁.setTop (entryFrame m #[(.long q1), (.long q2), (.int p1), (.int p2)] maxLocals)) t := fun t k => pre60 t (by
            show Steps p.tables e below (T58.setTop (mkF m 190 (lc0_14 q1 q2 p1 p2 b14) [(.int (4 : Int32)), (.int (own_nn p2))])) _
            refine XS.icmpNo X58.here hx rfl (hb hby at_190) rfl (flt hc190_61).1 ?_
            show Steps p.tables e below (T58.setTop (mkF m 193 (lc0_14 q1 q2 p1 p2 b14) [])) _
            refine XS.aload X58.here hx rfl (hb hby at_193) rfl rfl ?_
            show Steps p.tables e below (T58.setTop (mkF m 195 (lc0_14 q1 q2 p1 p2 b14) [(.ref b14)])) _
            refine XS.lload X58.here hx rfl (hb hby at_195) rfl ?_
            show Steps p.tables e below (T58.setTop (mkF m 197 (lc0_14 q1 q2 p1 p2 b14) [(.long (own_t3 q2 p1)), (.ref b14)])) _
            refine XS.iload X58.here hx rfl (hb hby at_197) rfl ?_
            show Steps p.tables e below (T58.setTop (mkF m 199 (lc0_14 q1 q2 p1 p2 b14) [(.int (if (p2 &&& (8 : Int32)) = (0 : Int32) then (0 : Int32) else (1 : Int32))), (.long (own_t3 q2 p1)), (.ref b14)])) _
            exact k)
          obtain ⟨cq86, kq86, q86a, q86b, q86c⟩ := isOf hZ rfl E_b14
          obtain ⟨_, _, ⟨T86, L86, k86, n86⟩, -, X86, ⟨Lc86, hQ86, l86, y86, z86⟩, st86⟩ := X58.virtualBack hx (y := (⟨"com/example/squitterlab/squitterlab/sim/OverlapCounter", "arrive", "(JZ)V"⟩ : MethodName)) (z := (⟨"com/example/squitterlab/squitterlab/sim/OverlapCounter", "arrive", "(JZ)V"⟩ : MethodName)) hown (mvT hZ (hw _ (List.mem_of_getElem? (i := 21) rfl))) (mvT hZ (hw _ (List.mem_of_getElem? (i := 22) rfl))) (notFace_of_selects (args := #[]) (mvT hZ (hw _ (List.mem_of_getElem? (i := 24) rfl)))) (mvT hZ (hw _ (List.mem_of_getElem? (i := 24) rfl))) (mvT hZ (hw _ (List.mem_of_getElem? (i := 23) rfl))) (by decide) (backOf (W := 0) (rm4 l Z a0 hw [] b14 (own_t3 q2 p1) (if (p2 &&& (8 : Int32)) = (0 : Int32) then (0 : Int32) else (1 : Int32)) (own_fr q1) (1 : Int32) (own_t2 q2 p1) (own_lost (1 : Int32) (own_t1 q2 p1) (own_fr q1) (own_t2 q2 p1)) (nar .boolean (if (p2 &&& (4 : Int32)) = (0 : Int32) then (0 : Int32) else (1 : Int32))) (own_rec (1 : Int32) (own_fr q1) (own_t1 q2 p1) (own_lost (1 : Int32) (own_t0 q2) (own_fr q1) (own_t1 q2 p1)) (nar .boolean (if (p2 &&& (2 : Int32)) = (0 : Int32) then (0 : Int32) else (1 : Int32))) (own_rec (1 : Int32) (own_fr q1) (own_t0 q2) (own_lost (0 : Int32) (0 : Int64) (own_fr q1) (own_t0 q2)) (nar .boolean (if (p2 &&& (1 : Int32)) = (0 : Int32) then (0 : Int32) else (1 : Int32))) (own_rec (0 : Int32) (own_fr q1) (0 : Int64) (0 : Int32) (0 : Int32) (0 : Int64) (own_t0 q2)) (own_t1 q2 p1)) (own_t2 q2 p1)) (own_arr (own_arr (own_arr (0 : Int64) (if (p2 &&& (1 : Int32)) = (0 : Int32) then (0 : Int32) else (1 : Int32))) (if (p2 &&& (2 : Int32)) = (0 : Int32) then (0 : Int32) else (1 : Int32))) (if (p2 &&& (4 : Int32)) = (0 : Int32) then (0 : Int32) else (1 : Int32))) T58.heap n0 Z58 E_b14 F_b14_framePicos F_b14_any F_b14_lastArrival F_b14_lastLost F_b14_lastCounted F_b14_received F_b14_arrived g_b14 (fun _ => own_ge3 q2 p1)) hZ (hw _ (List.mem_of_getElem? (i := 25) rfl)) (hw _ (List.mem_of_getElem? (i := 3) rfl)) (by decide) (by decide)) q86a q86c (g := (mkF m 199 (lc0_14 q1 q2 p1 p2 b14) [(.int (if (p2 &&& (8 : Int32)) = (0 : Int32) then (0 : Int32) else (1 : Int32))), (.long (own_t3 q2 p1)), (.ref b14)])) rfl (by rw [hml]; rfl) (Steps.refl _) (argsL := [(.long (own_t3 q2 p1)), (.int (if (p2 &&& (8 : Int32)) = (0 : Int32) then (0 : Int32) else (1 : Int32)))]) (rest := []) (lenOf pd_3 rfl) rfl (by show 2 * 0 + _ ≤ _; exact Nat.le_of_eq rfl) (hb hby at_199) (fun _ _ => ⟨rfl, rfl, (by decide : 1 + 0 ≤ _), (by decide : 7 + 0 ≤ _)⟩)
          dsimp only [Pt.U, Pt.locs, Pt.cells, Pt.slots] at X86 l86 y86 z86 st86 hQ86
          subst l86 y86 z86
          obtain ⟨rfl, N86q, K86, q86_0, q86_1, q86_2, q86_3, q86_4, q86_5, q86_6⟩ := hQ86
          have E_b14 := E_b14.keep K86
          have Z86 : n0 ≤ T86.heap.size := Nat.le_trans Z58 K86.1
          have F_b14_framePicos := q86_0
          have F_b14_any := q86_1
          have F_b14_lastArrival := q86_2
          have F_b14_lastLost := q86_3
          have F_b14_lastCounted := q86_4
          have F_b14_received := q86_5
          have F_b14_arrived := q86_6
          have N86 := Fr.app N58 N86q
          have pre87 : ∀ t, Steps p.tables e below (T86.setTop (mkF m 202 (lc0_14 q1 q2 p1 p2 b14) [])) t → Steps p.tables e below (s₁.setTop (entryFrame m #[(.long q1), (.long q2), (.int p1), (.int p2)] maxLocals)) t := fun t k => pre85 t (st86.trans k)
          have pre88 : ∀ t, Steps p.tables e below (T86.setTop (mkF m 204 (lc0_14 q1 q2 p1 p2 b14) [(.ref b14)])) t → Steps p.tables e below (s₁.setTop (entryFrame m #[(.long q1), (.long q2), (.int p1), (.int p2)] maxLocals)) t := fun t k => pre87 t (by
            show Steps p.tables e below (T86.setTop (mkF m 202 (lc0_14 q1 q2 p1 p2 b14) [])) _
            refine XS.aload X86.here hx rfl (hb hby at_202) rfl rfl ?_
            show Steps p.tables e below (T86.setTop (mkF m 204 (lc0_14 q1 q2 p1 p2 b14) [(.ref b14)])) _
            exact k)
          obtain ⟨cq89, kq89, q89a, q89b, q89c⟩ := isOf hZ rfl E_b14
          obtain ⟨_, _, ⟨T89, L89, k89, n89⟩, -, X89, ⟨Lc89, hQ89, l89, y89, z89⟩, st89⟩ := X86.virtualBack hx (y := (⟨"com/example/squitterlab/squitterlab/sim/OverlapCounter", "received", "()J"⟩ : MethodName)) (z := (⟨"com/example/squitterlab/squitterlab/sim/OverlapCounter", "received", "()J"⟩ : MethodName)) hown (mvT hZ (hw _ (List.mem_of_getElem? (i := 12) rfl))) (mvT hZ (hw _ (List.mem_of_getElem? (i := 13) rfl))) (notFace_of_selects (args := #[]) (mvT hZ (hw _ (List.mem_of_getElem? (i := 15) rfl)))) (mvT hZ (hw _ (List.mem_of_getElem? (i := 15) rfl))) (mvT hZ (hw _ (List.mem_of_getElem? (i := 14) rfl))) (by decide) (backOf (W := 0) (rm3 l Z a0 hw [] b14 (own_lost (1 : Int32) (own_t2 q2 p1) (own_fr q1) (own_t3 q2 p1)) (nar .boolean (if (p2 &&& (8 : Int32)) = (0 : Int32) then (0 : Int32) else (1 : Int32))) (own_rec (1 : Int32) (own_fr q1) (own_t2 q2 p1) (own_lost (1 : Int32) (own_t1 q2 p1) (own_fr q1) (own_t2 q2 p1)) (nar .boolean (if (p2 &&& (4 : Int32)) = (0 : Int32) then (0 : Int32) else (1 : Int32))) (own_rec (1 : Int32) (own_fr q1) (own_t1 q2 p1) (own_lost (1 : Int32) (own_t0 q2) (own_fr q1) (own_t1 q2 p1)) (nar .boolean (if (p2 &&& (2 : Int32)) = (0 : Int32) then (0 : Int32) else (1 : Int32))) (own_rec (1 : Int32) (own_fr q1) (own_t0 q2) (own_lost (0 : Int32) (0 : Int64) (own_fr q1) (own_t0 q2)) (nar .boolean (if (p2 &&& (1 : Int32)) = (0 : Int32) then (0 : Int32) else (1 : Int32))) (own_rec (0 : Int32) (own_fr q1) (0 : Int64) (0 : Int32) (0 : Int32) (0 : Int64) (own_t0 q2)) (own_t1 q2 p1)) (own_t2 q2 p1)) (own_t3 q2 p1)) T86.heap n0 Z86 E_b14 F_b14_lastLost F_b14_lastCounted F_b14_received) hZ (hw _ (List.mem_of_getElem? (i := 16) rfl)) (hw _ (List.mem_of_getElem? (i := 3) rfl)) (by decide) (by decide)) q89a q89c (g := (mkF m 204 (lc0_14 q1 q2 p1 p2 b14) [(.ref b14)])) rfl (by rw [hml]; rfl) (Steps.refl _) (argsL := []) (rest := []) (lenOf pd_2 rfl) rfl (by show 2 * 0 + _ ≤ _; exact Nat.le_of_eq rfl) (hb hby at_204) (fun _ _ => ⟨rfl, rfl, (by decide : 1 + 0 ≤ _), (by decide : 7 + 0 ≤ _)⟩)
          dsimp only [Pt.U, Pt.locs, Pt.cells, Pt.slots] at X89 l89 y89 z89 st89 hQ89
          subst l89 y89 z89
          obtain ⟨rfl, N89q, e89⟩ := hQ89
          have N89 := Fr.app N86 N89q
          have pre90 : ∀ t, Steps p.tables e below (T89.setTop (mkF m 207 (lc0_14 q1 q2 p1 p2 b14) [(.long (own_recv (nar .boolean (if (p2 &&& (8 : Int32)) = (0 : Int32) then (0 : Int32) else (1 : Int32))) (own_lost (1 : Int32) (own_t2 q2 p1) (own_fr q1) (own_t3 q2 p1)) (own_rec (1 : Int32) (own_fr q1) (own_t2 q2 p1) (own_lost (1 : Int32) (own_t1 q2 p1) (own_fr q1) (own_t2 q2 p1)) (nar .boolean (if (p2 &&& (4 : Int32)) = (0 : Int32) then (0 : Int32) else (1 : Int32))) (own_rec (1 : Int32) (own_fr q1) (own_t1 q2 p1) (own_lost (1 : Int32) (own_t0 q2) (own_fr q1) (own_t1 q2 p1)) (nar .boolean (if (p2 &&& (2 : Int32)) = (0 : Int32) then (0 : Int32) else (1 : Int32))) (own_rec (1 : Int32) (own_fr q1) (own_t0 q2) (own_lost (0 : Int32) (0 : Int64) (own_fr q1) (own_t0 q2)) (nar .boolean (if (p2 &&& (1 : Int32)) = (0 : Int32) then (0 : Int32) else (1 : Int32))) (own_rec (0 : Int32) (own_fr q1) (0 : Int64) (0 : Int32) (0 : Int32) (0 : Int64) (own_t0 q2)) (own_t1 q2 p1)) (own_t2 q2 p1)) (own_t3 q2 p1))))])) t → Steps p.tables e below (s₁.setTop (entryFrame m #[(.long q1), (.long q2), (.int p1), (.int p2)] maxLocals)) t := fun t k => pre88 t (st89.trans k)
          have pre91 : ∀ t, Steps p.tables e below (T89.setTop (mkF m 220 (lc0_50 q1 q2 p1 p2 b14) [(.int (lcmpW (own_d1 p1) (own_fr q1)))])) t → Steps p.tables e below (s₁.setTop (entryFrame m #[(.long q1), (.long q2), (.int p1), (.int p2)] maxLocals)) t := fun t k => pre90 t (by
            show Steps p.tables e below (T89.setTop (mkF m 207 (lc0_14 q1 q2 p1 p2 b14) [(.long (own_recv (nar .boolean (if (p2 &&& (8 : Int32)) = (0 : Int32) then (0 : Int32) else (1 : Int32))) (own_lost (1 : Int32) (own_t2 q2 p1) (own_fr q1) (own_t3 q2 p1)) (own_rec (1 : Int32) (own_fr q1) (own_t2 q2 p1) (own_lost (1 : Int32) (own_t1 q2 p1) (own_fr q1) (own_t2 q2 p1)) (nar .boolean (if (p2 &&& (4 : Int32)) = (0 : Int32) then (0 : Int32) else (1 : Int32))) (own_rec (1 : Int32) (own_fr q1) (own_t1 q2 p1) (own_lost (1 : Int32) (own_t0 q2) (own_fr q1) (own_t1 q2 p1)) (nar .boolean (if (p2 &&& (2 : Int32)) = (0 : Int32) then (0 : Int32) else (1 : Int32))) (own_rec (1 : Int32) (own_fr q1) (own_t0 q2) (own_lost (0 : Int32) (0 : Int64) (own_fr q1) (own_t0 q2)) (nar .boolean (if (p2 &&& (1 : Int32)) = (0 : Int32) then (0 : Int32) else (1 : Int32))) (own_rec (0 : Int32) (own_fr q1) (0 : Int64) (0 : Int32) (0 : Int32) (0 : Int64) (own_t0 q2)) (own_t1 q2 p1)) (own_t2 q2 p1)) (own_t3 q2 p1))))])) _
            refine XS.lstore X89.here hx rfl (hb hby at_207) rfl (l' := (lc0_50 q1 q2 p1 p2 b14)) rfl ?_
            show Steps p.tables e below (T89.setTop (mkF m 209 (lc0_50 q1 q2 p1 p2 b14) [])) _
            refine XS.iload X89.here hx rfl (hb hby at_209) rfl ?_
            show Steps p.tables e below (T89.setTop (mkF m 211 (lc0_50 q1 q2 p1 p2 b14) [(.int (own_nn p2))])) _
            refine XS.iconst X89.here hx rfl (hb hby at_211) ?_
            show Steps p.tables e below (T89.setTop (mkF m 212 (lc0_50 q1 q2 p1 p2 b14) [(.int (2 : Int32)), (.int (own_nn p2))])) _
            refine XS.icmpNo X89.here hx rfl (hb hby at_212) rfl (flt hc160_29).1 ?_
            show Steps p.tables e below (T89.setTop (mkF m 215 (lc0_50 q1 q2 p1 p2 b14) [])) _
            refine XS.lload X89.here hx rfl (hb hby at_215) rfl ?_
            show Steps p.tables e below (T89.setTop (mkF m 217 (lc0_50 q1 q2 p1 p2 b14) [(.long (own_d1 p1))])) _
            refine XS.lload X89.here hx rfl (hb hby at_217) rfl ?_
            show Steps p.tables e below (T89.setTop (mkF m 219 (lc0_50 q1 q2 p1 p2 b14) [(.long (own_fr q1)), (.long (own_d1 p1))])) _
            refine XS.lcmp X89.here hx rfl (hb hby at_219) rfl ?_
            show Steps p.tables e below (T89.setTop (mkF m 220 (lc0_50 q1 q2 p1 p2 b14) [(.int (lcmpW (own_d1 p1) (own_fr q1)))])) _
            exact k)
          have pre93 : ∀ t, Steps p.tables e below (T89.setTop (mkF m 228 (lc0_50 q1 q2 p1 p2 b14) [(.int (if (own_d1 p1) < (own_fr q1) then (1 : Int32) else (0 : Int32)))])) t → Steps p.tables e below (s₁.setTop (entryFrame m #[(.long q1), (.long q2), (.int p1), (.int p2)] maxLocals)) t := fun t k => pre91 t (by
            show Steps p.tables e below (T89.setTop (mkF m 220 (lc0_50 q1 q2 p1 p2 b14) [(.int (lcmpW (own_d1 p1) (own_fr q1)))])) _
            by_cases hm220_92 : (own_d1 p1) < (own_fr q1)
            · refine XS.ifNo X89.here hx rfl (hb hby at_220) rfl ((if0 _ _).trans (tlt ((lw_lt _ _).mpr hm220_92)).2.1) ?_
              show Steps p.tables e below (T89.setTop (mkF m 223 (lc0_50 q1 q2 p1 p2 b14) [])) _
              refine XS.iconst X89.here hx rfl (hb hby at_223) ?_
              show Steps p.tables e below (T89.setTop (mkF m 224 (lc0_50 q1 q2 p1 p2 b14) [(.int (1 : Int32))])) _
              refine XS.goto X89.here hx rfl (pc0 := 224) (pc' := 228) rfl (hb hby at_224) (by decide) (by decide) ?_
              show Steps p.tables e below (T89.setTop (mkF m 228 (lc0_50 q1 q2 p1 p2 b14) [(.int (1 : Int32))])) _
              have q : (if (own_d1 p1) < (own_fr q1) then (1 : Int32) else (0 : Int32)) = (1 : Int32) := by simp only [if_pos hm220_92]
              exact Eq.subst (motive := fun xI => Steps p.tables e below (T89.setTop (mkF m 228 (lc0_50 q1 q2 p1 p2 b14) [(.int xI)])) t) q k
            · refine XS.ifYes X89.here hx rfl (pc0 := 220) (pc' := 227) rfl (hb hby at_220) rfl ((if0 _ _).trans (flt (fun q => hm220_92 ((lw_lt _ _).mp q))).2.1) (by decide) (by decide) ?_
              show Steps p.tables e below (T89.setTop (mkF m 227 (lc0_50 q1 q2 p1 p2 b14) [])) _
              refine XS.iconst X89.here hx rfl (hb hby at_227) ?_
              show Steps p.tables e below (T89.setTop (mkF m 228 (lc0_50 q1 q2 p1 p2 b14) [(.int (0 : Int32))])) _
              have q : (if (own_d1 p1) < (own_fr q1) then (1 : Int32) else (0 : Int32)) = (0 : Int32) := by simp only [if_neg hm220_92]
              exact Eq.subst (motive := fun xI => Steps p.tables e below (T89.setTop (mkF m 228 (lc0_50 q1 q2 p1 p2 b14) [(.int xI)])) t) q k)
          have pre94 : ∀ t, Steps p.tables e below (T89.setTop (mkF m 241 (lc0_51 q1 q2 p1 p2 b14) [(.int (lcmpW (own_d2 p1) (own_fr q1)))])) t → Steps p.tables e below (s₁.setTop (entryFrame m #[(.long q1), (.long q2), (.int p1), (.int p2)] maxLocals)) t := fun t k => pre93 t (by
            show Steps p.tables e below (T89.setTop (mkF m 228 (lc0_50 q1 q2 p1 p2 b14) [(.int (if (own_d1 p1) < (own_fr q1) then (1 : Int32) else (0 : Int32)))])) _
            refine XS.istore X89.here hx rfl (hb hby at_228) rfl (l' := (lc0_51 q1 q2 p1 p2 b14)) rfl ?_
            show Steps p.tables e below (T89.setTop (mkF m 230 (lc0_51 q1 q2 p1 p2 b14) [])) _
            refine XS.iload X89.here hx rfl (hb hby at_230) rfl ?_
            show Steps p.tables e below (T89.setTop (mkF m 232 (lc0_51 q1 q2 p1 p2 b14) [(.int (own_nn p2))])) _
            refine XS.iconst X89.here hx rfl (hb hby at_232) ?_
            show Steps p.tables e below (T89.setTop (mkF m 233 (lc0_51 q1 q2 p1 p2 b14) [(.int (3 : Int32)), (.int (own_nn p2))])) _
            refine XS.icmpNo X89.here hx rfl (hb hby at_233) rfl (flt hc175_41).1 ?_
            show Steps p.tables e below (T89.setTop (mkF m 236 (lc0_51 q1 q2 p1 p2 b14) [])) _
            refine XS.lload X89.here hx rfl (hb hby at_236) rfl ?_
            show Steps p.tables e below (T89.setTop (mkF m 238 (lc0_51 q1 q2 p1 p2 b14) [(.long (own_d2 p1))])) _
            refine XS.lload X89.here hx rfl (hb hby at_238) rfl ?_
            show Steps p.tables e below (T89.setTop (mkF m 240 (lc0_51 q1 q2 p1 p2 b14) [(.long (own_fr q1)), (.long (own_d2 p1))])) _
            refine XS.lcmp X89.here hx rfl (hb hby at_240) rfl ?_
            show Steps p.tables e below (T89.setTop (mkF m 241 (lc0_51 q1 q2 p1 p2 b14) [(.int (lcmpW (own_d2 p1) (own_fr q1)))])) _
            exact k)
          have pre96 : ∀ t, Steps p.tables e below (T89.setTop (mkF m 249 (lc0_51 q1 q2 p1 p2 b14) [(.int (if (own_d2 p1) < (own_fr q1) then (1 : Int32) else (0 : Int32)))])) t → Steps p.tables e below (s₁.setTop (entryFrame m #[(.long q1), (.long q2), (.int p1), (.int p2)] maxLocals)) t := fun t k => pre94 t (by
            show Steps p.tables e below (T89.setTop (mkF m 241 (lc0_51 q1 q2 p1 p2 b14) [(.int (lcmpW (own_d2 p1) (own_fr q1)))])) _
            by_cases hm241_95 : (own_d2 p1) < (own_fr q1)
            · refine XS.ifNo X89.here hx rfl (hb hby at_241) rfl ((if0 _ _).trans (tlt ((lw_lt _ _).mpr hm241_95)).2.1) ?_
              show Steps p.tables e below (T89.setTop (mkF m 244 (lc0_51 q1 q2 p1 p2 b14) [])) _
              refine XS.iconst X89.here hx rfl (hb hby at_244) ?_
              show Steps p.tables e below (T89.setTop (mkF m 245 (lc0_51 q1 q2 p1 p2 b14) [(.int (1 : Int32))])) _
              refine XS.goto X89.here hx rfl (pc0 := 245) (pc' := 249) rfl (hb hby at_245) (by decide) (by decide) ?_
              show Steps p.tables e below (T89.setTop (mkF m 249 (lc0_51 q1 q2 p1 p2 b14) [(.int (1 : Int32))])) _
              have q : (if (own_d2 p1) < (own_fr q1) then (1 : Int32) else (0 : Int32)) = (1 : Int32) := by simp only [if_pos hm241_95]
              exact Eq.subst (motive := fun xI => Steps p.tables e below (T89.setTop (mkF m 249 (lc0_51 q1 q2 p1 p2 b14) [(.int xI)])) t) q k
            · refine XS.ifYes X89.here hx rfl (pc0 := 241) (pc' := 248) rfl (hb hby at_241) rfl ((if0 _ _).trans (flt (fun q => hm241_95 ((lw_lt _ _).mp q))).2.1) (by decide) (by decide) ?_
              show Steps p.tables e below (T89.setTop (mkF m 248 (lc0_51 q1 q2 p1 p2 b14) [])) _
              refine XS.iconst X89.here hx rfl (hb hby at_248) ?_
              show Steps p.tables e below (T89.setTop (mkF m 249 (lc0_51 q1 q2 p1 p2 b14) [(.int (0 : Int32))])) _
              have q : (if (own_d2 p1) < (own_fr q1) then (1 : Int32) else (0 : Int32)) = (0 : Int32) := by simp only [if_neg hm241_95]
              exact Eq.subst (motive := fun xI => Steps p.tables e below (T89.setTop (mkF m 249 (lc0_51 q1 q2 p1 p2 b14) [(.int xI)])) t) q k)
          have pre97 : ∀ t, Steps p.tables e below (T89.setTop (mkF m 262 (lc0_52 q1 q2 p1 p2 b14) [(.int (lcmpW (own_d3 p1) (own_fr q1)))])) t → Steps p.tables e below (s₁.setTop (entryFrame m #[(.long q1), (.long q2), (.int p1), (.int p2)] maxLocals)) t := fun t k => pre96 t (by
            show Steps p.tables e below (T89.setTop (mkF m 249 (lc0_51 q1 q2 p1 p2 b14) [(.int (if (own_d2 p1) < (own_fr q1) then (1 : Int32) else (0 : Int32)))])) _
            refine XS.istore X89.here hx rfl (hb hby at_249) rfl (l' := (lc0_52 q1 q2 p1 p2 b14)) rfl ?_
            show Steps p.tables e below (T89.setTop (mkF m 251 (lc0_52 q1 q2 p1 p2 b14) [])) _
            refine XS.iload X89.here hx rfl (hb hby at_251) rfl ?_
            show Steps p.tables e below (T89.setTop (mkF m 253 (lc0_52 q1 q2 p1 p2 b14) [(.int (own_nn p2))])) _
            refine XS.iconst X89.here hx rfl (hb hby at_253) ?_
            show Steps p.tables e below (T89.setTop (mkF m 254 (lc0_52 q1 q2 p1 p2 b14) [(.int (4 : Int32)), (.int (own_nn p2))])) _
            refine XS.icmpNo X89.here hx rfl (hb hby at_254) rfl (flt hc190_61).1 ?_
            show Steps p.tables e below (T89.setTop (mkF m 257 (lc0_52 q1 q2 p1 p2 b14) [])) _
            refine XS.lload X89.here hx rfl (hb hby at_257) rfl ?_
            show Steps p.tables e below (T89.setTop (mkF m 259 (lc0_52 q1 q2 p1 p2 b14) [(.long (own_d3 p1))])) _
            refine XS.lload X89.here hx rfl (hb hby at_259) rfl ?_
            show Steps p.tables e below (T89.setTop (mkF m 261 (lc0_52 q1 q2 p1 p2 b14) [(.long (own_fr q1)), (.long (own_d3 p1))])) _
            refine XS.lcmp X89.here hx rfl (hb hby at_261) rfl ?_
            show Steps p.tables e below (T89.setTop (mkF m 262 (lc0_52 q1 q2 p1 p2 b14) [(.int (lcmpW (own_d3 p1) (own_fr q1)))])) _
            exact k)
          have pre99 : ∀ t, Steps p.tables e below (T89.setTop (mkF m 270 (lc0_52 q1 q2 p1 p2 b14) [(.int (if (own_d3 p1) < (own_fr q1) then (1 : Int32) else (0 : Int32)))])) t → Steps p.tables e below (s₁.setTop (entryFrame m #[(.long q1), (.long q2), (.int p1), (.int p2)] maxLocals)) t := fun t k => pre97 t (by
            show Steps p.tables e below (T89.setTop (mkF m 262 (lc0_52 q1 q2 p1 p2 b14) [(.int (lcmpW (own_d3 p1) (own_fr q1)))])) _
            by_cases hm262_98 : (own_d3 p1) < (own_fr q1)
            · refine XS.ifNo X89.here hx rfl (hb hby at_262) rfl ((if0 _ _).trans (tlt ((lw_lt _ _).mpr hm262_98)).2.1) ?_
              show Steps p.tables e below (T89.setTop (mkF m 265 (lc0_52 q1 q2 p1 p2 b14) [])) _
              refine XS.iconst X89.here hx rfl (hb hby at_265) ?_
              show Steps p.tables e below (T89.setTop (mkF m 266 (lc0_52 q1 q2 p1 p2 b14) [(.int (1 : Int32))])) _
              refine XS.goto X89.here hx rfl (pc0 := 266) (pc' := 270) rfl (hb hby at_266) (by decide) (by decide) ?_
              show Steps p.tables e below (T89.setTop (mkF m 270 (lc0_52 q1 q2 p1 p2 b14) [(.int (1 : Int32))])) _
              have q : (if (own_d3 p1) < (own_fr q1) then (1 : Int32) else (0 : Int32)) = (1 : Int32) := by simp only [if_pos hm262_98]
              exact Eq.subst (motive := fun xI => Steps p.tables e below (T89.setTop (mkF m 270 (lc0_52 q1 q2 p1 p2 b14) [(.int xI)])) t) q k
            · refine XS.ifYes X89.here hx rfl (pc0 := 262) (pc' := 269) rfl (hb hby at_262) rfl ((if0 _ _).trans (flt (fun q => hm262_98 ((lw_lt _ _).mp q))).2.1) (by decide) (by decide) ?_
              show Steps p.tables e below (T89.setTop (mkF m 269 (lc0_52 q1 q2 p1 p2 b14) [])) _
              refine XS.iconst X89.here hx rfl (hb hby at_269) ?_
              show Steps p.tables e below (T89.setTop (mkF m 270 (lc0_52 q1 q2 p1 p2 b14) [(.int (0 : Int32))])) _
              have q : (if (own_d3 p1) < (own_fr q1) then (1 : Int32) else (0 : Int32)) = (0 : Int32) := by simp only [if_neg hm262_98]
              exact Eq.subst (motive := fun xI => Steps p.tables e below (T89.setTop (mkF m 270 (lc0_52 q1 q2 p1 p2 b14) [(.int xI)])) t) q k)
          have pre100 : ∀ t, Steps p.tables e below (T89.setTop (mkF m 283 (lc0_54 q1 q2 p1 p2 b14) [(.int (if (p2 &&& (1 : Int32)) = (0 : Int32) then (0 : Int32) else (1 : Int32)))])) t → Steps p.tables e below (s₁.setTop (entryFrame m #[(.long q1), (.long q2), (.int p1), (.int p2)] maxLocals)) t := fun t k => pre99 t (by
            show Steps p.tables e below (T89.setTop (mkF m 270 (lc0_52 q1 q2 p1 p2 b14) [(.int (if (own_d3 p1) < (own_fr q1) then (1 : Int32) else (0 : Int32)))])) _
            refine XS.istore X89.here hx rfl (hb hby at_270) rfl (l' := (lc0_53 q1 q2 p1 p2 b14)) rfl ?_
            show Steps p.tables e below (T89.setTop (mkF m 272 (lc0_53 q1 q2 p1 p2 b14) [])) _
            refine XS.lconst X89.here hx rfl (hb hby at_272) ?_
            show Steps p.tables e below (T89.setTop (mkF m 273 (lc0_53 q1 q2 p1 p2 b14) [(.long (0 : Int64))])) _
            refine XS.lstore X89.here hx rfl (hb hby at_273) rfl (l' := (lc0_54 q1 q2 p1 p2 b14)) rfl ?_
            show Steps p.tables e below (T89.setTop (mkF m 275 (lc0_54 q1 q2 p1 p2 b14) [])) _
            refine XS.iload X89.here hx rfl (hb hby at_275) rfl ?_
            show Steps p.tables e below (T89.setTop (mkF m 277 (lc0_54 q1 q2 p1 p2 b14) [(.int (own_nn p2))])) _
            refine XS.iconst X89.here hx rfl (hb hby at_277) ?_
            show Steps p.tables e below (T89.setTop (mkF m 278 (lc0_54 q1 q2 p1 p2 b14) [(.int (1 : Int32)), (.int (own_nn p2))])) _
            refine XS.icmpNo X89.here hx rfl (hb hby at_278) rfl (flt hc145_20).1 ?_
            show Steps p.tables e below (T89.setTop (mkF m 281 (lc0_54 q1 q2 p1 p2 b14) [])) _
            refine XS.iload X89.here hx rfl (hb hby at_281) rfl ?_
            show Steps p.tables e below (T89.setTop (mkF m 283 (lc0_54 q1 q2 p1 p2 b14) [(.int (if (p2 &&& (1 : Int32)) = (0 : Int32) then (0 : Int32) else (1 : Int32)))])) _
            exact k)
          have pre103 : ∀ t, Steps p.tables e below (T89.setTop (mkF m 297 (lc0_57 q1 q2 p1 p2 b14) [])) t → Steps p.tables e below (s₁.setTop (entryFrame m #[(.long q1), (.long q2), (.int p1), (.int p2)] maxLocals)) t := fun t k => pre100 t (by
            show Steps p.tables e below (T89.setTop (mkF m 283 (lc0_54 q1 q2 p1 p2 b14) [(.int (if (p2 &&& (1 : Int32)) = (0 : Int32) then (0 : Int32) else (1 : Int32)))])) _
            by_cases hm283_101 : (p2 &&& (1 : Int32)) = (0 : Int32)
            · refine XS.ifYes X89.here hx rfl (pc0 := 283) (pc' := 297) rfl (hb hby at_283) rfl ((if0 _ _).trans (teq (by simp only [if_pos hm283_101] <;> decide)).1) (by decide) (by decide) ?_
              show Steps p.tables e below (T89.setTop (mkF m 297 (lc0_54 q1 q2 p1 p2 b14) [])) _
              have q : (own_k2 (0 : Int64) ((p2 &&& (1 : Int32)) = (0 : Int32)) ((own_d1 p1) < (own_fr q1))) = (0 : Int64) := by simp only [own_k2, if_pos hm283_101]
              exact Eq.subst (motive := fun xJ => Steps p.tables e below (T89.setTop (mkF m 297 (lc0_56 q1 q2 p1 p2 b14 xJ) [])) t) q k
            · refine XS.ifNo X89.here hx rfl (hb hby at_283) rfl ((if0 _ _).trans (feq (by simp only [if_neg hm283_101] <;> decide)).1) ?_
              show Steps p.tables e below (T89.setTop (mkF m 286 (lc0_54 q1 q2 p1 p2 b14) [])) _
              refine XS.iload X89.here hx rfl (hb hby at_286) rfl ?_
              show Steps p.tables e below (T89.setTop (mkF m 288 (lc0_54 q1 q2 p1 p2 b14) [(.int (if (own_d1 p1) < (own_fr q1) then (1 : Int32) else (0 : Int32)))])) _
              by_cases hm288_102 : (own_d1 p1) < (own_fr q1)
              · refine XS.ifYes X89.here hx rfl (pc0 := 288) (pc' := 297) rfl (hb hby at_288) rfl ((if0 _ _).trans (feq (by simp only [if_pos hm288_102] <;> decide)).2) (by decide) (by decide) ?_
                show Steps p.tables e below (T89.setTop (mkF m 297 (lc0_54 q1 q2 p1 p2 b14) [])) _
                have q : (own_k2 (0 : Int64) ((p2 &&& (1 : Int32)) = (0 : Int32)) ((own_d1 p1) < (own_fr q1))) = (0 : Int64) := by simp only [own_k2, if_neg hm283_101, if_pos hm288_102]
                exact Eq.subst (motive := fun xJ => Steps p.tables e below (T89.setTop (mkF m 297 (lc0_56 q1 q2 p1 p2 b14 xJ) [])) t) q k
              · refine XS.ifNo X89.here hx rfl (hb hby at_288) rfl ((if0 _ _).trans (teq (by simp only [if_neg hm288_102] <;> decide)).2) ?_
                show Steps p.tables e below (T89.setTop (mkF m 291 (lc0_54 q1 q2 p1 p2 b14) [])) _
                refine XS.lload X89.here hx rfl (hb hby at_291) rfl ?_
                show Steps p.tables e below (T89.setTop (mkF m 293 (lc0_54 q1 q2 p1 p2 b14) [(.long (0 : Int64))])) _
                refine XS.lconst X89.here hx rfl (hb hby at_293) ?_
                show Steps p.tables e below (T89.setTop (mkF m 294 (lc0_54 q1 q2 p1 p2 b14) [(.long (1 : Int64)), (.long (0 : Int64))])) _
                refine XS.ladd X89.here hx rfl (hb hby at_294) rfl ?_
                show Steps p.tables e below (T89.setTop (mkF m 295 (lc0_54 q1 q2 p1 p2 b14) [(.long ((0 : Int64) + (1 : Int64)))])) _
                refine XS.lstore X89.here hx rfl (hb hby at_295) rfl (l' := (lc0_55 q1 q2 p1 p2 b14)) rfl ?_
                show Steps p.tables e below (T89.setTop (mkF m 297 (lc0_55 q1 q2 p1 p2 b14) [])) _
                have q : (own_k2 (0 : Int64) ((p2 &&& (1 : Int32)) = (0 : Int32)) ((own_d1 p1) < (own_fr q1))) = ((0 : Int64) + (1 : Int64)) := by simp only [own_k2, if_neg hm283_101, if_neg hm288_102]
                exact Eq.subst (motive := fun xJ => Steps p.tables e below (T89.setTop (mkF m 297 (lc0_56 q1 q2 p1 p2 b14 xJ) [])) t) q k)
          have pre104 : ∀ t, Steps p.tables e below (T89.setTop (mkF m 305 (lc0_57 q1 q2 p1 p2 b14) [(.int (if (p2 &&& (2 : Int32)) = (0 : Int32) then (0 : Int32) else (1 : Int32)))])) t → Steps p.tables e below (s₁.setTop (entryFrame m #[(.long q1), (.long q2), (.int p1), (.int p2)] maxLocals)) t := fun t k => pre103 t (by
            show Steps p.tables e below (T89.setTop (mkF m 297 (lc0_57 q1 q2 p1 p2 b14) [])) _
            refine XS.iload X89.here hx rfl (hb hby at_297) rfl ?_
            show Steps p.tables e below (T89.setTop (mkF m 299 (lc0_57 q1 q2 p1 p2 b14) [(.int (own_nn p2))])) _
            refine XS.iconst X89.here hx rfl (hb hby at_299) ?_
            show Steps p.tables e below (T89.setTop (mkF m 300 (lc0_57 q1 q2 p1 p2 b14) [(.int (2 : Int32)), (.int (own_nn p2))])) _
            refine XS.icmpNo X89.here hx rfl (hb hby at_300) rfl (flt hc160_29).1 ?_
            show Steps p.tables e below (T89.setTop (mkF m 303 (lc0_57 q1 q2 p1 p2 b14) [])) _
            refine XS.iload X89.here hx rfl (hb hby at_303) rfl ?_
            show Steps p.tables e below (T89.setTop (mkF m 305 (lc0_57 q1 q2 p1 p2 b14) [(.int (if (p2 &&& (2 : Int32)) = (0 : Int32) then (0 : Int32) else (1 : Int32)))])) _
            exact k)
          have pre108 : ∀ t, Steps p.tables e below (T89.setTop (mkF m 324 (lc0_59 q1 q2 p1 p2 b14) [])) t → Steps p.tables e below (s₁.setTop (entryFrame m #[(.long q1), (.long q2), (.int p1), (.int p2)] maxLocals)) t := fun t k => pre104 t (by
            show Steps p.tables e below (T89.setTop (mkF m 305 (lc0_57 q1 q2 p1 p2 b14) [(.int (if (p2 &&& (2 : Int32)) = (0 : Int32) then (0 : Int32) else (1 : Int32)))])) _
            by_cases hm305_105 : (p2 &&& (2 : Int32)) = (0 : Int32)
            · refine XS.ifYes X89.here hx rfl (pc0 := 305) (pc' := 324) rfl (hb hby at_305) rfl ((if0 _ _).trans (teq (by simp only [if_pos hm305_105] <;> decide)).1) (by decide) (by decide) ?_
              show Steps p.tables e below (T89.setTop (mkF m 324 (lc0_57 q1 q2 p1 p2 b14) [])) _
              have q : (own_k3 (own_k2 (0 : Int64) ((p2 &&& (1 : Int32)) = (0 : Int32)) ((own_d1 p1) < (own_fr q1))) ((p2 &&& (2 : Int32)) = (0 : Int32)) ((own_d1 p1) < (own_fr q1)) ((own_d2 p1) < (own_fr q1))) = (own_k2 (0 : Int64) ((p2 &&& (1 : Int32)) = (0 : Int32)) ((own_d1 p1) < (own_fr q1))) := by simp only [own_k3, if_pos hm305_105]
              exact Eq.subst (motive := fun xJ => Steps p.tables e below (T89.setTop (mkF m 324 (lc0_56 q1 q2 p1 p2 b14 xJ) [])) t) q k
            · refine XS.ifNo X89.here hx rfl (hb hby at_305) rfl ((if0 _ _).trans (feq (by simp only [if_neg hm305_105] <;> decide)).1) ?_
              show Steps p.tables e below (T89.setTop (mkF m 308 (lc0_57 q1 q2 p1 p2 b14) [])) _
              refine XS.iload X89.here hx rfl (hb hby at_308) rfl ?_
              show Steps p.tables e below (T89.setTop (mkF m 310 (lc0_57 q1 q2 p1 p2 b14) [(.int (if (own_d1 p1) < (own_fr q1) then (1 : Int32) else (0 : Int32)))])) _
              by_cases hm310_106 : (own_d1 p1) < (own_fr q1)
              · refine XS.ifYes X89.here hx rfl (pc0 := 310) (pc' := 324) rfl (hb hby at_310) rfl ((if0 _ _).trans (feq (by simp only [if_pos hm310_106] <;> decide)).2) (by decide) (by decide) ?_
                show Steps p.tables e below (T89.setTop (mkF m 324 (lc0_57 q1 q2 p1 p2 b14) [])) _
                have q : (own_k3 (own_k2 (0 : Int64) ((p2 &&& (1 : Int32)) = (0 : Int32)) ((own_d1 p1) < (own_fr q1))) ((p2 &&& (2 : Int32)) = (0 : Int32)) ((own_d1 p1) < (own_fr q1)) ((own_d2 p1) < (own_fr q1))) = (own_k2 (0 : Int64) ((p2 &&& (1 : Int32)) = (0 : Int32)) ((own_d1 p1) < (own_fr q1))) := by simp only [own_k3, if_neg hm305_105, if_pos hm310_106]
                exact Eq.subst (motive := fun xJ => Steps p.tables e below (T89.setTop (mkF m 324 (lc0_56 q1 q2 p1 p2 b14 xJ) [])) t) q k
              · refine XS.ifNo X89.here hx rfl (hb hby at_310) rfl ((if0 _ _).trans (teq (by simp only [if_neg hm310_106] <;> decide)).2) ?_
                show Steps p.tables e below (T89.setTop (mkF m 313 (lc0_57 q1 q2 p1 p2 b14) [])) _
                refine XS.iload X89.here hx rfl (hb hby at_313) rfl ?_
                show Steps p.tables e below (T89.setTop (mkF m 315 (lc0_57 q1 q2 p1 p2 b14) [(.int (if (own_d2 p1) < (own_fr q1) then (1 : Int32) else (0 : Int32)))])) _
                by_cases hm315_107 : (own_d2 p1) < (own_fr q1)
                · refine XS.ifYes X89.here hx rfl (pc0 := 315) (pc' := 324) rfl (hb hby at_315) rfl ((if0 _ _).trans (feq (by simp only [if_pos hm315_107] <;> decide)).2) (by decide) (by decide) ?_
                  show Steps p.tables e below (T89.setTop (mkF m 324 (lc0_57 q1 q2 p1 p2 b14) [])) _
                  have q : (own_k3 (own_k2 (0 : Int64) ((p2 &&& (1 : Int32)) = (0 : Int32)) ((own_d1 p1) < (own_fr q1))) ((p2 &&& (2 : Int32)) = (0 : Int32)) ((own_d1 p1) < (own_fr q1)) ((own_d2 p1) < (own_fr q1))) = (own_k2 (0 : Int64) ((p2 &&& (1 : Int32)) = (0 : Int32)) ((own_d1 p1) < (own_fr q1))) := by simp only [own_k3, if_neg hm305_105, if_neg hm310_106, if_pos hm315_107]
                  exact Eq.subst (motive := fun xJ => Steps p.tables e below (T89.setTop (mkF m 324 (lc0_56 q1 q2 p1 p2 b14 xJ) [])) t) q k
                · refine XS.ifNo X89.here hx rfl (hb hby at_315) rfl ((if0 _ _).trans (teq (by simp only [if_neg hm315_107] <;> decide)).2) ?_
                  show Steps p.tables e below (T89.setTop (mkF m 318 (lc0_57 q1 q2 p1 p2 b14) [])) _
                  refine XS.lload X89.here hx rfl (hb hby at_318) rfl ?_
                  show Steps p.tables e below (T89.setTop (mkF m 320 (lc0_57 q1 q2 p1 p2 b14) [(.long (own_k2 (0 : Int64) ((p2 &&& (1 : Int32)) = (0 : Int32)) ((own_d1 p1) < (own_fr q1))))])) _
                  refine XS.lconst X89.here hx rfl (hb hby at_320) ?_
                  show Steps p.tables e below (T89.setTop (mkF m 321 (lc0_57 q1 q2 p1 p2 b14) [(.long (1 : Int64)), (.long (own_k2 (0 : Int64) ((p2 &&& (1 : Int32)) = (0 : Int32)) ((own_d1 p1) < (own_fr q1))))])) _
                  refine XS.ladd X89.here hx rfl (hb hby at_321) rfl ?_
                  show Steps p.tables e below (T89.setTop (mkF m 322 (lc0_57 q1 q2 p1 p2 b14) [(.long ((own_k2 (0 : Int64) ((p2 &&& (1 : Int32)) = (0 : Int32)) ((own_d1 p1) < (own_fr q1))) + (1 : Int64)))])) _
                  refine XS.lstore X89.here hx rfl (hb hby at_322) rfl (l' := (lc0_58 q1 q2 p1 p2 b14)) rfl ?_
                  show Steps p.tables e below (T89.setTop (mkF m 324 (lc0_58 q1 q2 p1 p2 b14) [])) _
                  have q : (own_k3 (own_k2 (0 : Int64) ((p2 &&& (1 : Int32)) = (0 : Int32)) ((own_d1 p1) < (own_fr q1))) ((p2 &&& (2 : Int32)) = (0 : Int32)) ((own_d1 p1) < (own_fr q1)) ((own_d2 p1) < (own_fr q1))) = ((own_k2 (0 : Int64) ((p2 &&& (1 : Int32)) = (0 : Int32)) ((own_d1 p1) < (own_fr q1))) + (1 : Int64)) := by simp only [own_k3, if_neg hm305_105, if_neg hm310_106, if_neg hm315_107]
                  exact Eq.subst (motive := fun xJ => Steps p.tables e below (T89.setTop (mkF m 324 (lc0_56 q1 q2 p1 p2 b14 xJ) [])) t) q k)
          have pre109 : ∀ t, Steps p.tables e below (T89.setTop (mkF m 332 (lc0_59 q1 q2 p1 p2 b14) [(.int (if (p2 &&& (4 : Int32)) = (0 : Int32) then (0 : Int32) else (1 : Int32)))])) t → Steps p.tables e below (s₁.setTop (entryFrame m #[(.long q1), (.long q2), (.int p1), (.int p2)] maxLocals)) t := fun t k => pre108 t (by
            show Steps p.tables e below (T89.setTop (mkF m 324 (lc0_59 q1 q2 p1 p2 b14) [])) _
            refine XS.iload X89.here hx rfl (hb hby at_324) rfl ?_
            show Steps p.tables e below (T89.setTop (mkF m 326 (lc0_59 q1 q2 p1 p2 b14) [(.int (own_nn p2))])) _
            refine XS.iconst X89.here hx rfl (hb hby at_326) ?_
            show Steps p.tables e below (T89.setTop (mkF m 327 (lc0_59 q1 q2 p1 p2 b14) [(.int (3 : Int32)), (.int (own_nn p2))])) _
            refine XS.icmpNo X89.here hx rfl (hb hby at_327) rfl (flt hc175_41).1 ?_
            show Steps p.tables e below (T89.setTop (mkF m 330 (lc0_59 q1 q2 p1 p2 b14) [])) _
            refine XS.iload X89.here hx rfl (hb hby at_330) rfl ?_
            show Steps p.tables e below (T89.setTop (mkF m 332 (lc0_59 q1 q2 p1 p2 b14) [(.int (if (p2 &&& (4 : Int32)) = (0 : Int32) then (0 : Int32) else (1 : Int32)))])) _
            exact k)
          have pre113 : ∀ t, Steps p.tables e below (T89.setTop (mkF m 351 (lc0_61 q1 q2 p1 p2 b14) [])) t → Steps p.tables e below (s₁.setTop (entryFrame m #[(.long q1), (.long q2), (.int p1), (.int p2)] maxLocals)) t := fun t k => pre109 t (by
            show Steps p.tables e below (T89.setTop (mkF m 332 (lc0_59 q1 q2 p1 p2 b14) [(.int (if (p2 &&& (4 : Int32)) = (0 : Int32) then (0 : Int32) else (1 : Int32)))])) _
            by_cases hm332_110 : (p2 &&& (4 : Int32)) = (0 : Int32)
            · refine XS.ifYes X89.here hx rfl (pc0 := 332) (pc' := 351) rfl (hb hby at_332) rfl ((if0 _ _).trans (teq (by simp only [if_pos hm332_110] <;> decide)).1) (by decide) (by decide) ?_
              show Steps p.tables e below (T89.setTop (mkF m 351 (lc0_59 q1 q2 p1 p2 b14) [])) _
              have q : (own_k3 (own_k3 (own_k2 (0 : Int64) ((p2 &&& (1 : Int32)) = (0 : Int32)) ((own_d1 p1) < (own_fr q1))) ((p2 &&& (2 : Int32)) = (0 : Int32)) ((own_d1 p1) < (own_fr q1)) ((own_d2 p1) < (own_fr q1))) ((p2 &&& (4 : Int32)) = (0 : Int32)) ((own_d2 p1) < (own_fr q1)) ((own_d3 p1) < (own_fr q1))) = (own_k3 (own_k2 (0 : Int64) ((p2 &&& (1 : Int32)) = (0 : Int32)) ((own_d1 p1) < (own_fr q1))) ((p2 &&& (2 : Int32)) = (0 : Int32)) ((own_d1 p1) < (own_fr q1)) ((own_d2 p1) < (own_fr q1))) := by simp only [own_k3, if_pos hm332_110]
              exact Eq.subst (motive := fun xJ => Steps p.tables e below (T89.setTop (mkF m 351 (lc0_56 q1 q2 p1 p2 b14 xJ) [])) t) q k
            · refine XS.ifNo X89.here hx rfl (hb hby at_332) rfl ((if0 _ _).trans (feq (by simp only [if_neg hm332_110] <;> decide)).1) ?_
              show Steps p.tables e below (T89.setTop (mkF m 335 (lc0_59 q1 q2 p1 p2 b14) [])) _
              refine XS.iload X89.here hx rfl (hb hby at_335) rfl ?_
              show Steps p.tables e below (T89.setTop (mkF m 337 (lc0_59 q1 q2 p1 p2 b14) [(.int (if (own_d2 p1) < (own_fr q1) then (1 : Int32) else (0 : Int32)))])) _
              by_cases hm337_111 : (own_d2 p1) < (own_fr q1)
              · refine XS.ifYes X89.here hx rfl (pc0 := 337) (pc' := 351) rfl (hb hby at_337) rfl ((if0 _ _).trans (feq (by simp only [if_pos hm337_111] <;> decide)).2) (by decide) (by decide) ?_
                show Steps p.tables e below (T89.setTop (mkF m 351 (lc0_59 q1 q2 p1 p2 b14) [])) _
                have q : (own_k3 (own_k3 (own_k2 (0 : Int64) ((p2 &&& (1 : Int32)) = (0 : Int32)) ((own_d1 p1) < (own_fr q1))) ((p2 &&& (2 : Int32)) = (0 : Int32)) ((own_d1 p1) < (own_fr q1)) ((own_d2 p1) < (own_fr q1))) ((p2 &&& (4 : Int32)) = (0 : Int32)) ((own_d2 p1) < (own_fr q1)) ((own_d3 p1) < (own_fr q1))) = (own_k3 (own_k2 (0 : Int64) ((p2 &&& (1 : Int32)) = (0 : Int32)) ((own_d1 p1) < (own_fr q1))) ((p2 &&& (2 : Int32)) = (0 : Int32)) ((own_d1 p1) < (own_fr q1)) ((own_d2 p1) < (own_fr q1))) := by simp only [own_k3, if_neg hm332_110, if_pos hm337_111]
                exact Eq.subst (motive := fun xJ => Steps p.tables e below (T89.setTop (mkF m 351 (lc0_56 q1 q2 p1 p2 b14 xJ) [])) t) q k
              · refine XS.ifNo X89.here hx rfl (hb hby at_337) rfl ((if0 _ _).trans (teq (by simp only [if_neg hm337_111] <;> decide)).2) ?_
                show Steps p.tables e below (T89.setTop (mkF m 340 (lc0_59 q1 q2 p1 p2 b14) [])) _
                refine XS.iload X89.here hx rfl (hb hby at_340) rfl ?_
                show Steps p.tables e below (T89.setTop (mkF m 342 (lc0_59 q1 q2 p1 p2 b14) [(.int (if (own_d3 p1) < (own_fr q1) then (1 : Int32) else (0 : Int32)))])) _
                by_cases hm342_112 : (own_d3 p1) < (own_fr q1)
                · refine XS.ifYes X89.here hx rfl (pc0 := 342) (pc' := 351) rfl (hb hby at_342) rfl ((if0 _ _).trans (feq (by simp only [if_pos hm342_112] <;> decide)).2) (by decide) (by decide) ?_
                  show Steps p.tables e below (T89.setTop (mkF m 351 (lc0_59 q1 q2 p1 p2 b14) [])) _
                  have q : (own_k3 (own_k3 (own_k2 (0 : Int64) ((p2 &&& (1 : Int32)) = (0 : Int32)) ((own_d1 p1) < (own_fr q1))) ((p2 &&& (2 : Int32)) = (0 : Int32)) ((own_d1 p1) < (own_fr q1)) ((own_d2 p1) < (own_fr q1))) ((p2 &&& (4 : Int32)) = (0 : Int32)) ((own_d2 p1) < (own_fr q1)) ((own_d3 p1) < (own_fr q1))) = (own_k3 (own_k2 (0 : Int64) ((p2 &&& (1 : Int32)) = (0 : Int32)) ((own_d1 p1) < (own_fr q1))) ((p2 &&& (2 : Int32)) = (0 : Int32)) ((own_d1 p1) < (own_fr q1)) ((own_d2 p1) < (own_fr q1))) := by simp only [own_k3, if_neg hm332_110, if_neg hm337_111, if_pos hm342_112]
                  exact Eq.subst (motive := fun xJ => Steps p.tables e below (T89.setTop (mkF m 351 (lc0_56 q1 q2 p1 p2 b14 xJ) [])) t) q k
                · refine XS.ifNo X89.here hx rfl (hb hby at_342) rfl ((if0 _ _).trans (teq (by simp only [if_neg hm342_112] <;> decide)).2) ?_
                  show Steps p.tables e below (T89.setTop (mkF m 345 (lc0_59 q1 q2 p1 p2 b14) [])) _
                  refine XS.lload X89.here hx rfl (hb hby at_345) rfl ?_
                  show Steps p.tables e below (T89.setTop (mkF m 347 (lc0_59 q1 q2 p1 p2 b14) [(.long (own_k3 (own_k2 (0 : Int64) ((p2 &&& (1 : Int32)) = (0 : Int32)) ((own_d1 p1) < (own_fr q1))) ((p2 &&& (2 : Int32)) = (0 : Int32)) ((own_d1 p1) < (own_fr q1)) ((own_d2 p1) < (own_fr q1))))])) _
                  refine XS.lconst X89.here hx rfl (hb hby at_347) ?_
                  show Steps p.tables e below (T89.setTop (mkF m 348 (lc0_59 q1 q2 p1 p2 b14) [(.long (1 : Int64)), (.long (own_k3 (own_k2 (0 : Int64) ((p2 &&& (1 : Int32)) = (0 : Int32)) ((own_d1 p1) < (own_fr q1))) ((p2 &&& (2 : Int32)) = (0 : Int32)) ((own_d1 p1) < (own_fr q1)) ((own_d2 p1) < (own_fr q1))))])) _
                  refine XS.ladd X89.here hx rfl (hb hby at_348) rfl ?_
                  show Steps p.tables e below (T89.setTop (mkF m 349 (lc0_59 q1 q2 p1 p2 b14) [(.long ((own_k3 (own_k2 (0 : Int64) ((p2 &&& (1 : Int32)) = (0 : Int32)) ((own_d1 p1) < (own_fr q1))) ((p2 &&& (2 : Int32)) = (0 : Int32)) ((own_d1 p1) < (own_fr q1)) ((own_d2 p1) < (own_fr q1))) + (1 : Int64)))])) _
                  refine XS.lstore X89.here hx rfl (hb hby at_349) rfl (l' := (lc0_60 q1 q2 p1 p2 b14)) rfl ?_
                  show Steps p.tables e below (T89.setTop (mkF m 351 (lc0_60 q1 q2 p1 p2 b14) [])) _
                  have q : (own_k3 (own_k3 (own_k2 (0 : Int64) ((p2 &&& (1 : Int32)) = (0 : Int32)) ((own_d1 p1) < (own_fr q1))) ((p2 &&& (2 : Int32)) = (0 : Int32)) ((own_d1 p1) < (own_fr q1)) ((own_d2 p1) < (own_fr q1))) ((p2 &&& (4 : Int32)) = (0 : Int32)) ((own_d2 p1) < (own_fr q1)) ((own_d3 p1) < (own_fr q1))) = ((own_k3 (own_k2 (0 : Int64) ((p2 &&& (1 : Int32)) = (0 : Int32)) ((own_d1 p1) < (own_fr q1))) ((p2 &&& (2 : Int32)) = (0 : Int32)) ((own_d1 p1) < (own_fr q1)) ((own_d2 p1) < (own_fr q1))) + (1 : Int64)) := by simp only [own_k3, if_neg hm332_110, if_neg hm337_111, if_neg hm342_112]
                  exact Eq.subst (motive := fun xJ => Steps p.tables e below (T89.setTop (mkF m 351 (lc0_56 q1 q2 p1 p2 b14 xJ) [])) t) q k)
          have pre114 : ∀ t, Steps p.tables e below (T89.setTop (mkF m 359 (lc0_61 q1 q2 p1 p2 b14) [(.int (if (p2 &&& (8 : Int32)) = (0 : Int32) then (0 : Int32) else (1 : Int32)))])) t → Steps p.tables e below (s₁.setTop (entryFrame m #[(.long q1), (.long q2), (.int p1), (.int p2)] maxLocals)) t := fun t k => pre113 t (by
            show Steps p.tables e below (T89.setTop (mkF m 351 (lc0_61 q1 q2 p1 p2 b14) [])) _
            refine XS.iload X89.here hx rfl (hb hby at_351) rfl ?_
            show Steps p.tables e below (T89.setTop (mkF m 353 (lc0_61 q1 q2 p1 p2 b14) [(.int (own_nn p2))])) _
            refine XS.iconst X89.here hx rfl (hb hby at_353) ?_
            show Steps p.tables e below (T89.setTop (mkF m 354 (lc0_61 q1 q2 p1 p2 b14) [(.int (4 : Int32)), (.int (own_nn p2))])) _
            refine XS.icmpNo X89.here hx rfl (hb hby at_354) rfl (flt hc190_61).1 ?_
            show Steps p.tables e below (T89.setTop (mkF m 357 (lc0_61 q1 q2 p1 p2 b14) [])) _
            refine XS.iload X89.here hx rfl (hb hby at_357) rfl ?_
            show Steps p.tables e below (T89.setTop (mkF m 359 (lc0_61 q1 q2 p1 p2 b14) [(.int (if (p2 &&& (8 : Int32)) = (0 : Int32) then (0 : Int32) else (1 : Int32)))])) _
            exact k)
          have pre117 : ∀ t, Steps p.tables e below (T89.setTop (mkF m 373 (lc0_63 q1 q2 p1 p2 b14) [])) t → Steps p.tables e below (s₁.setTop (entryFrame m #[(.long q1), (.long q2), (.int p1), (.int p2)] maxLocals)) t := fun t k => pre114 t (by
            show Steps p.tables e below (T89.setTop (mkF m 359 (lc0_61 q1 q2 p1 p2 b14) [(.int (if (p2 &&& (8 : Int32)) = (0 : Int32) then (0 : Int32) else (1 : Int32)))])) _
            by_cases hm359_115 : (p2 &&& (8 : Int32)) = (0 : Int32)
            · refine XS.ifYes X89.here hx rfl (pc0 := 359) (pc' := 373) rfl (hb hby at_359) rfl ((if0 _ _).trans (teq (by simp only [if_pos hm359_115] <;> decide)).1) (by decide) (by decide) ?_
              show Steps p.tables e below (T89.setTop (mkF m 373 (lc0_61 q1 q2 p1 p2 b14) [])) _
              have q : (own_k2 (own_k3 (own_k3 (own_k2 (0 : Int64) ((p2 &&& (1 : Int32)) = (0 : Int32)) ((own_d1 p1) < (own_fr q1))) ((p2 &&& (2 : Int32)) = (0 : Int32)) ((own_d1 p1) < (own_fr q1)) ((own_d2 p1) < (own_fr q1))) ((p2 &&& (4 : Int32)) = (0 : Int32)) ((own_d2 p1) < (own_fr q1)) ((own_d3 p1) < (own_fr q1))) ((p2 &&& (8 : Int32)) = (0 : Int32)) ((own_d3 p1) < (own_fr q1))) = (own_k3 (own_k3 (own_k2 (0 : Int64) ((p2 &&& (1 : Int32)) = (0 : Int32)) ((own_d1 p1) < (own_fr q1))) ((p2 &&& (2 : Int32)) = (0 : Int32)) ((own_d1 p1) < (own_fr q1)) ((own_d2 p1) < (own_fr q1))) ((p2 &&& (4 : Int32)) = (0 : Int32)) ((own_d2 p1) < (own_fr q1)) ((own_d3 p1) < (own_fr q1))) := by simp only [own_k2, if_pos hm359_115]
              exact Eq.subst (motive := fun xJ => Steps p.tables e below (T89.setTop (mkF m 373 (lc0_56 q1 q2 p1 p2 b14 xJ) [])) t) q k
            · refine XS.ifNo X89.here hx rfl (hb hby at_359) rfl ((if0 _ _).trans (feq (by simp only [if_neg hm359_115] <;> decide)).1) ?_
              show Steps p.tables e below (T89.setTop (mkF m 362 (lc0_61 q1 q2 p1 p2 b14) [])) _
              refine XS.iload X89.here hx rfl (hb hby at_362) rfl ?_
              show Steps p.tables e below (T89.setTop (mkF m 364 (lc0_61 q1 q2 p1 p2 b14) [(.int (if (own_d3 p1) < (own_fr q1) then (1 : Int32) else (0 : Int32)))])) _
              by_cases hm364_116 : (own_d3 p1) < (own_fr q1)
              · refine XS.ifYes X89.here hx rfl (pc0 := 364) (pc' := 373) rfl (hb hby at_364) rfl ((if0 _ _).trans (feq (by simp only [if_pos hm364_116] <;> decide)).2) (by decide) (by decide) ?_
                show Steps p.tables e below (T89.setTop (mkF m 373 (lc0_61 q1 q2 p1 p2 b14) [])) _
                have q : (own_k2 (own_k3 (own_k3 (own_k2 (0 : Int64) ((p2 &&& (1 : Int32)) = (0 : Int32)) ((own_d1 p1) < (own_fr q1))) ((p2 &&& (2 : Int32)) = (0 : Int32)) ((own_d1 p1) < (own_fr q1)) ((own_d2 p1) < (own_fr q1))) ((p2 &&& (4 : Int32)) = (0 : Int32)) ((own_d2 p1) < (own_fr q1)) ((own_d3 p1) < (own_fr q1))) ((p2 &&& (8 : Int32)) = (0 : Int32)) ((own_d3 p1) < (own_fr q1))) = (own_k3 (own_k3 (own_k2 (0 : Int64) ((p2 &&& (1 : Int32)) = (0 : Int32)) ((own_d1 p1) < (own_fr q1))) ((p2 &&& (2 : Int32)) = (0 : Int32)) ((own_d1 p1) < (own_fr q1)) ((own_d2 p1) < (own_fr q1))) ((p2 &&& (4 : Int32)) = (0 : Int32)) ((own_d2 p1) < (own_fr q1)) ((own_d3 p1) < (own_fr q1))) := by simp only [own_k2, if_neg hm359_115, if_pos hm364_116]
                exact Eq.subst (motive := fun xJ => Steps p.tables e below (T89.setTop (mkF m 373 (lc0_56 q1 q2 p1 p2 b14 xJ) [])) t) q k
              · refine XS.ifNo X89.here hx rfl (hb hby at_364) rfl ((if0 _ _).trans (teq (by simp only [if_neg hm364_116] <;> decide)).2) ?_
                show Steps p.tables e below (T89.setTop (mkF m 367 (lc0_61 q1 q2 p1 p2 b14) [])) _
                refine XS.lload X89.here hx rfl (hb hby at_367) rfl ?_
                show Steps p.tables e below (T89.setTop (mkF m 369 (lc0_61 q1 q2 p1 p2 b14) [(.long (own_k3 (own_k3 (own_k2 (0 : Int64) ((p2 &&& (1 : Int32)) = (0 : Int32)) ((own_d1 p1) < (own_fr q1))) ((p2 &&& (2 : Int32)) = (0 : Int32)) ((own_d1 p1) < (own_fr q1)) ((own_d2 p1) < (own_fr q1))) ((p2 &&& (4 : Int32)) = (0 : Int32)) ((own_d2 p1) < (own_fr q1)) ((own_d3 p1) < (own_fr q1))))])) _
                refine XS.lconst X89.here hx rfl (hb hby at_369) ?_
                show Steps p.tables e below (T89.setTop (mkF m 370 (lc0_61 q1 q2 p1 p2 b14) [(.long (1 : Int64)), (.long (own_k3 (own_k3 (own_k2 (0 : Int64) ((p2 &&& (1 : Int32)) = (0 : Int32)) ((own_d1 p1) < (own_fr q1))) ((p2 &&& (2 : Int32)) = (0 : Int32)) ((own_d1 p1) < (own_fr q1)) ((own_d2 p1) < (own_fr q1))) ((p2 &&& (4 : Int32)) = (0 : Int32)) ((own_d2 p1) < (own_fr q1)) ((own_d3 p1) < (own_fr q1))))])) _
                refine XS.ladd X89.here hx rfl (hb hby at_370) rfl ?_
                show Steps p.tables e below (T89.setTop (mkF m 371 (lc0_61 q1 q2 p1 p2 b14) [(.long ((own_k3 (own_k3 (own_k2 (0 : Int64) ((p2 &&& (1 : Int32)) = (0 : Int32)) ((own_d1 p1) < (own_fr q1))) ((p2 &&& (2 : Int32)) = (0 : Int32)) ((own_d1 p1) < (own_fr q1)) ((own_d2 p1) < (own_fr q1))) ((p2 &&& (4 : Int32)) = (0 : Int32)) ((own_d2 p1) < (own_fr q1)) ((own_d3 p1) < (own_fr q1))) + (1 : Int64)))])) _
                refine XS.lstore X89.here hx rfl (hb hby at_371) rfl (l' := (lc0_62 q1 q2 p1 p2 b14)) rfl ?_
                show Steps p.tables e below (T89.setTop (mkF m 373 (lc0_62 q1 q2 p1 p2 b14) [])) _
                have q : (own_k2 (own_k3 (own_k3 (own_k2 (0 : Int64) ((p2 &&& (1 : Int32)) = (0 : Int32)) ((own_d1 p1) < (own_fr q1))) ((p2 &&& (2 : Int32)) = (0 : Int32)) ((own_d1 p1) < (own_fr q1)) ((own_d2 p1) < (own_fr q1))) ((p2 &&& (4 : Int32)) = (0 : Int32)) ((own_d2 p1) < (own_fr q1)) ((own_d3 p1) < (own_fr q1))) ((p2 &&& (8 : Int32)) = (0 : Int32)) ((own_d3 p1) < (own_fr q1))) = ((own_k3 (own_k3 (own_k2 (0 : Int64) ((p2 &&& (1 : Int32)) = (0 : Int32)) ((own_d1 p1) < (own_fr q1))) ((p2 &&& (2 : Int32)) = (0 : Int32)) ((own_d1 p1) < (own_fr q1)) ((own_d2 p1) < (own_fr q1))) ((p2 &&& (4 : Int32)) = (0 : Int32)) ((own_d2 p1) < (own_fr q1)) ((own_d3 p1) < (own_fr q1))) + (1 : Int64)) := by simp only [own_k2, if_neg hm359_115, if_neg hm364_116]
                exact Eq.subst (motive := fun xJ => Steps p.tables e below (T89.setTop (mkF m 373 (lc0_56 q1 q2 p1 p2 b14 xJ) [])) t) q k)
          have pre118 : ∀ t, Steps p.tables e below (T89.setTop (mkF m 386 (lc0_63 q1 q2 p1 p2 b14) [(.int (1 : Int32))])) t → Steps p.tables e below (s₁.setTop (entryFrame m #[(.long q1), (.long q2), (.int p1), (.int p2)] maxLocals)) t := fun t k => pre117 t (by
            show Steps p.tables e below (T89.setTop (mkF m 373 (lc0_63 q1 q2 p1 p2 b14) [])) _
            refine XS.lload X89.here hx rfl (hb hby at_373) rfl ?_
            show Steps p.tables e below (T89.setTop (mkF m 375 (lc0_63 q1 q2 p1 p2 b14) [(.long (own_recv (nar .boolean (if (p2 &&& (8 : Int32)) = (0 : Int32) then (0 : Int32) else (1 : Int32))) (own_lost (1 : Int32) (own_t2 q2 p1) (own_fr q1) (own_t3 q2 p1)) (own_rec (1 : Int32) (own_fr q1) (own_t2 q2 p1) (own_lost (1 : Int32) (own_t1 q2 p1) (own_fr q1) (own_t2 q2 p1)) (nar .boolean (if (p2 &&& (4 : Int32)) = (0 : Int32) then (0 : Int32) else (1 : Int32))) (own_rec (1 : Int32) (own_fr q1) (own_t1 q2 p1) (own_lost (1 : Int32) (own_t0 q2) (own_fr q1) (own_t1 q2 p1)) (nar .boolean (if (p2 &&& (2 : Int32)) = (0 : Int32) then (0 : Int32) else (1 : Int32))) (own_rec (1 : Int32) (own_fr q1) (own_t0 q2) (own_lost (0 : Int32) (0 : Int64) (own_fr q1) (own_t0 q2)) (nar .boolean (if (p2 &&& (1 : Int32)) = (0 : Int32) then (0 : Int32) else (1 : Int32))) (own_rec (0 : Int32) (own_fr q1) (0 : Int64) (0 : Int32) (0 : Int32) (0 : Int64) (own_t0 q2)) (own_t1 q2 p1)) (own_t2 q2 p1)) (own_t3 q2 p1))))])) _
            refine XS.lload X89.here hx rfl (hb hby at_375) rfl ?_
            show Steps p.tables e below (T89.setTop (mkF m 377 (lc0_63 q1 q2 p1 p2 b14) [(.long (own_k2 (own_k3 (own_k3 (own_k2 (0 : Int64) ((p2 &&& (1 : Int32)) = (0 : Int32)) ((own_d1 p1) < (own_fr q1))) ((p2 &&& (2 : Int32)) = (0 : Int32)) ((own_d1 p1) < (own_fr q1)) ((own_d2 p1) < (own_fr q1))) ((p2 &&& (4 : Int32)) = (0 : Int32)) ((own_d2 p1) < (own_fr q1)) ((own_d3 p1) < (own_fr q1))) ((p2 &&& (8 : Int32)) = (0 : Int32)) ((own_d3 p1) < (own_fr q1)))), (.long (own_recv (nar .boolean (if (p2 &&& (8 : Int32)) = (0 : Int32) then (0 : Int32) else (1 : Int32))) (own_lost (1 : Int32) (own_t2 q2 p1) (own_fr q1) (own_t3 q2 p1)) (own_rec (1 : Int32) (own_fr q1) (own_t2 q2 p1) (own_lost (1 : Int32) (own_t1 q2 p1) (own_fr q1) (own_t2 q2 p1)) (nar .boolean (if (p2 &&& (4 : Int32)) = (0 : Int32) then (0 : Int32) else (1 : Int32))) (own_rec (1 : Int32) (own_fr q1) (own_t1 q2 p1) (own_lost (1 : Int32) (own_t0 q2) (own_fr q1) (own_t1 q2 p1)) (nar .boolean (if (p2 &&& (2 : Int32)) = (0 : Int32) then (0 : Int32) else (1 : Int32))) (own_rec (1 : Int32) (own_fr q1) (own_t0 q2) (own_lost (0 : Int32) (0 : Int64) (own_fr q1) (own_t0 q2)) (nar .boolean (if (p2 &&& (1 : Int32)) = (0 : Int32) then (0 : Int32) else (1 : Int32))) (own_rec (0 : Int32) (own_fr q1) (0 : Int64) (0 : Int32) (0 : Int32) (0 : Int64) (own_t0 q2)) (own_t1 q2 p1)) (own_t2 q2 p1)) (own_t3 q2 p1))))])) _
            refine XS.lcmp X89.here hx rfl (hb hby at_377) rfl ?_
            show Steps p.tables e below (T89.setTop (mkF m 378 (lc0_63 q1 q2 p1 p2 b14) [(.int (lcmpW (own_recv (nar .boolean (if (p2 &&& (8 : Int32)) = (0 : Int32) then (0 : Int32) else (1 : Int32))) (own_lost (1 : Int32) (own_t2 q2 p1) (own_fr q1) (own_t3 q2 p1)) (own_rec (1 : Int32) (own_fr q1) (own_t2 q2 p1) (own_lost (1 : Int32) (own_t1 q2 p1) (own_fr q1) (own_t2 q2 p1)) (nar .boolean (if (p2 &&& (4 : Int32)) = (0 : Int32) then (0 : Int32) else (1 : Int32))) (own_rec (1 : Int32) (own_fr q1) (own_t1 q2 p1) (own_lost (1 : Int32) (own_t0 q2) (own_fr q1) (own_t1 q2 p1)) (nar .boolean (if (p2 &&& (2 : Int32)) = (0 : Int32) then (0 : Int32) else (1 : Int32))) (own_rec (1 : Int32) (own_fr q1) (own_t0 q2) (own_lost (0 : Int32) (0 : Int64) (own_fr q1) (own_t0 q2)) (nar .boolean (if (p2 &&& (1 : Int32)) = (0 : Int32) then (0 : Int32) else (1 : Int32))) (own_rec (0 : Int32) (own_fr q1) (0 : Int64) (0 : Int32) (0 : Int32) (0 : Int64) (own_t0 q2)) (own_t1 q2 p1)) (own_t2 q2 p1)) (own_t3 q2 p1))) (own_k2 (own_k3 (own_k3 (own_k2 (0 : Int64) ((p2 &&& (1 : Int32)) = (0 : Int32)) ((own_d1 p1) < (own_fr q1))) ((p2 &&& (2 : Int32)) = (0 : Int32)) ((own_d1 p1) < (own_fr q1)) ((own_d2 p1) < (own_fr q1))) ((p2 &&& (4 : Int32)) = (0 : Int32)) ((own_d2 p1) < (own_fr q1)) ((own_d3 p1) < (own_fr q1))) ((p2 &&& (8 : Int32)) = (0 : Int32)) ((own_d3 p1) < (own_fr q1)))))])) _
            refine XS.ifNo X89.here hx rfl (hb hby at_378) rfl ((if0 _ _).trans (teq ((lw_eq _ _).mpr (show (own_recv (nar .boolean (if (p2 &&& (8 : Int32)) = (0 : Int32) then (0 : Int32) else (1 : Int32))) (own_lost (1 : Int32) (own_t2 q2 p1) (own_fr q1) (own_t3 q2 p1)) (own_rec (1 : Int32) (own_fr q1) (own_t2 q2 p1) (own_lost (1 : Int32) (own_t1 q2 p1) (own_fr q1) (own_t2 q2 p1)) (nar .boolean (if (p2 &&& (4 : Int32)) = (0 : Int32) then (0 : Int32) else (1 : Int32))) (own_rec (1 : Int32) (own_fr q1) (own_t1 q2 p1) (own_lost (1 : Int32) (own_t0 q2) (own_fr q1) (own_t1 q2 p1)) (nar .boolean (if (p2 &&& (2 : Int32)) = (0 : Int32) then (0 : Int32) else (1 : Int32))) (own_rec (1 : Int32) (own_fr q1) (own_t0 q2) (own_lost (0 : Int32) (0 : Int64) (own_fr q1) (own_t0 q2)) (nar .boolean (if (p2 &&& (1 : Int32)) = (0 : Int32) then (0 : Int32) else (1 : Int32))) (own_rec (0 : Int32) (own_fr q1) (0 : Int64) (0 : Int32) (0 : Int32) (0 : Int64) (own_t0 q2)) (own_t1 q2 p1)) (own_t2 q2 p1)) (own_t3 q2 p1))) = (own_k2 (own_k3 (own_k3 (own_k2 (0 : Int64) ((p2 &&& (1 : Int32)) = (0 : Int32)) ((own_d1 p1) < (own_fr q1))) ((p2 &&& (2 : Int32)) = (0 : Int32)) ((own_d1 p1) < (own_fr q1)) ((own_d2 p1) < (own_fr q1))) ((p2 &&& (4 : Int32)) = (0 : Int32)) ((own_d2 p1) < (own_fr q1)) ((own_d3 p1) < (own_fr q1))) ((p2 &&& (8 : Int32)) = (0 : Int32)) ((own_d3 p1) < (own_fr q1))) from own_law4 q1 q2 p1 p2))).2) ?_
            show Steps p.tables e below (T89.setTop (mkF m 381 (lc0_63 q1 q2 p1 p2 b14) [])) _
            refine XS.iconst X89.here hx rfl (hb hby at_381) ?_
            show Steps p.tables e below (T89.setTop (mkF m 382 (lc0_63 q1 q2 p1 p2 b14) [(.int (1 : Int32))])) _
            refine XS.goto X89.here hx rfl (pc0 := 382) (pc' := 386) rfl (hb hby at_382) (by decide) (by decide) ?_
            show Steps p.tables e below (T89.setTop (mkF m 386 (lc0_63 q1 q2 p1 p2 b14) [(.int (1 : Int32))])) _
            exact k)
          obtain ⟨fs, hr, hrun, hended, hW, hsame⟩ := X89.leave (v := some (.int (1 : Int32))) (fun h => by rw [Bd.returns] at h; cases h) hlk
          refine ⟨_, _, pre118 _ ?_, hrun, hended, _, _, rfl, ?_, ⟨_, rfl⟩, hW, hsame.mono (by decide) (by decide)⟩
          · show Steps p.tables e below (T89.setTop (mkF m 386 (lc0_63 q1 q2 p1 p2 b14) [(.int (1 : Int32))])) _
            exact retN X89 hx (t := .boolean) Bd.returns (by simp) (hb hby at_386) hr
          · show Q0 Z q1 q2 p1 p2 h0 n0 _ T89.heap _
            rw [e89]
            exact ⟨rfl, N89⟩
set_option maxRecDepth 65536 in
set_option maxHeartbeats 40000000 in
theorem comes_1 {Post : Tables → Env → Array Value → State → Outcome → State → Prop} (hpost : ∀ tb e args s v u, (limb_1_1.after args s (.returned v) u = true ∧ limb_1_2.after args s (.returned v) u = true ∧ True) → FrameEnd s (.returned v) u (Jvm.fieldLocs frame_1_writes args s ++ Jvm.arrayLocs frame_1_arrays args s ++ Jvm.staticLocs frame_1_statics s) 16 128 → Post tb e args s (.returned v) u) :
    ArmFor flags0 classFile x code maxLocals ret World_1 tables_1 room_1 Calls_1 rest_1 Pre_1 Post := by
  intro l hfl _ _ p e ha hc hk s m args below hf hA hF happ hP
  obtain ⟨hcalls, hrest, hpre⟩ := hP
  obtain ⟨-, -, -, hnamed, -, -, -, hat⟩ := (Spec.applies_iff hf).mp happ
  obtain ⟨hg, hn⟩ := and_e (Cond.before_iff.mp (show (Jvm.Cond.and given_1 narrow_1).before args s = true from hpre))
  obtain ⟨hcnt, g0⟩ := and_e hg
  obtain ⟨k0, g1⟩ := and_e g0
  obtain ⟨k1, g2⟩ := and_e g1
  obtain ⟨k2, g3⟩ := and_e g2
  have k3 := g3
  obtain ⟨w0, w1, w2, w3, rfl⟩ : ∃ w0 w1 w2 w3 : Value, args = #[w0, w1, w2, w3] := by
    have hs : args.size = 4 := by simpa [Cond.value, given_1] using hcnt
    obtain ⟨L⟩ := args
    match L, hs with
    | [w0, w1, w2, w3], _ => exact ⟨w0, w1, w2, w3, rfl⟩
  have hw := fun d (hd : d ∈ tables_1) => atoms_spec (ws := Jvm.Cond.code x code maxLocals ret :: tables_1) hat d (List.mem_cons_of_mem _ hd)
  obtain ⟨i0, ei0⟩ := isL_v k0
  obtain rfl : w0 = (.long i0) := Option.some.inj ei0
  obtain ⟨i1, ei1⟩ := isL_v k1
  obtain rfl : w1 = (.long i1) := Option.some.inj ei1
  obtain ⟨i2, ei2⟩ := is_v k2
  obtain rfl : w2 = (.int i2) := Option.some.inj ei2
  obtain ⟨i3, ei3⟩ := is_v k3
  obtain rfl : w3 = (.int i3) := Option.some.inj ei3
  obtain ⟨n, o, h1, h2, h3, _, L, rfl, ⟨rfl, N⟩, hq⟩ := rm0 l s _ hw tables_1 i0 i1 i2 i3 s.heap s.heap.size (Nat.le_refl _) p e ha hc hk s m _ below hf ((Spec.applies_iff_loose hf).mp happ).1 ⟨rfl, State.Warmed39.refl s, rfl⟩ trivial
  refine ⟨n, _, h1, h2, h3, hpost _ _ _ _ _ _ ⟨Cond.after_iff.mpr rfl, Cond.after_iff.mpr (eq_i res_at (Term.int_eval (1)) rfl), trivial⟩ ⟨hq.1, hq.2.1, (hq.2.2.sift fun y hy => Or.inr (N y hy)).mono (by decide) (by decide)⟩⟩
theorem main_1_1 : Claimed_1_1 := comes_1 fun _ _ _ _ _ _ h hF => ⟨h.1, hF⟩
theorem main_1_2 : Claimed_1_2 := comes_1 fun _ _ _ _ _ _ h hF => ⟨h.2.1, hF⟩
end Jvm.Pilot.@@N@@
namespace Jvm.Pilot.@@N@@
open Jvm Jvm.ClassFile Sem Op Lib Jvm.Free Jvm.Stand Jvm.Pilot.@@N@@.Jvm.D
/-! MADE BY PROGRAM (witnessworld.py) out of the Statement's table words and the real class files: 9 classes; the members and pool entries that the words name. The judged class is class 1, her method 1. -/
namespace start1
open Jvm.ClassFile
def u (s : String) : CpInfo := .utf8 (stringToUtf16 s)
/-- a pool by its gaps: so many unusable entries, then the entry; so many at the end -/
def gap : Nat → List CpInfo → List CpInfo
  | 0, r => r
  | n + 1, r => .unusable :: gap n r
def poolList (es : List (Nat × CpInfo)) (last : Nat) : List CpInfo := es.foldr (fun e r => gap e.1 (e.2 :: r)) (gap last [])
def pool (es : List (Nat × CpInfo)) (last : Nat) : Array CpInfo := ⟨poolList es last⟩
def fileOf (pool : Array CpInfo) (this : Nat) (attrs : Array Attribute := #[]) (ms : Array MethodInfo := #[]) (fl : Nat := 33) (sup : Nat := 0) (ifs : Array Nat := #[]) (fds : Array FieldInfo := #[]) : ClassFile where
  minorVersion := 0
  majorVersion := 65
  constantPool := pool
  accessFlags := fl
  thisClass := this
  superClass := sup
  interfaces := ifs
  fields := fds
  methods := ms
  attributes := attrs
def plain (name : String) (sup : Option ClassId) : Class where
  name := name
  kind := .ordinary
  loader := none
  accessFlags := 33
  super := sup
  interfaces := #[]
  cf := none
  fields := #[]
  methods := #[]
  instanceTypes := #[]
  staticTypes := #[]
  resolved := #[]
  callSites := []
  init := .initialized
  statics := none
  mirror := none

def pool0 : Array CpInfo := pool [(5, u "<init>"), (0, u "()V"), (1, .class_ 10), (1, u "java/lang/Object")] 113

def k0c0 : Code := { maxStack := 0, maxLocals := 1, code := object_method_1_code, exceptionTable := #[], attributes := #[] }
def k0m0 : Method := { name := "<init>", desc := "()V", sig := { parameters := [], returnType := none }, accessFlags := 1, code := some k0c0 }
/-- java/lang/Object -/
def k0 : Class := { plain "java/lang/Object" none with
  accessFlags := 33
  interfaces := #[]
  cf := some (fileOf pool0 8 #[] #[{ accessFlags := 1, nameIndex := 5, descriptorIndex := 6, attributes := #[] }] 33 0 #[] #[])
  fields := #[]
  methods := #[k0m0]
  instanceTypes := #[]
  staticTypes := #[]
  resolved := Array.replicate 124 none
  statics := none }

def pool1 : Array CpInfo := pool [(2, .class_ 4), (1, u "java/lang/Object"), (0, u "<init>"), (0, u "()V"), (0, .long 63), (1, .class_ 10), (0, u "com/example/squitterlab/squitterlab/sim/OverlapCounter"), (0, .methodref 9 12), (0, .nameAndType 5 13), (0, u "(J)V"), (0, .methodref 9 15), (0, .nameAndType 16 17), (0, u "arrive"), (0, u "(JZ)V"), (0, .methodref 9 19), (0, .nameAndType 20 21), (0, u "received"), (0, u "()J"), (0, .class_ 23), (0, u "com/example/squitterlab/squitterlab/sim/OverlapCounterReceivedPinLaw"), (2, u "law"), (0, u "(JJII)Z")] 3

def k1m0 : Method := { name := "<init>", desc := "()V", sig := { parameters := [], returnType := none }, accessFlags := 1, code := none }
def k1c1 : Code := { maxStack := 4, maxLocals := 35, code := code, exceptionTable := #[], attributes := #[] }
def k1m1 : Method := { name := "law", desc := "(JJII)Z", sig := { parameters := [.long, .long, .int, .int], returnType := some .boolean }, accessFlags := 9, code := some k1c1 }
/-- com/example/squitterlab/squitterlab/sim/OverlapCounterReceivedPinLaw -/
def k1 : Class := { plain "com/example/squitterlab/squitterlab/sim/OverlapCounterReceivedPinLaw" (some 0) with
  accessFlags := 49
  interfaces := #[]
  cf := some (fileOf pool1 22 #[] #[{ accessFlags := 1, nameIndex := 5, descriptorIndex := 6, attributes := #[] }, { accessFlags := 9, nameIndex := 26, descriptorIndex := 27, attributes := #[] }] 49 2 #[] #[])
  fields := #[]
  methods := #[k1m0, k1m1]
  instanceTypes := #[]
  staticTypes := #[]
  resolved := Array.replicate 31 none
  statics := none }

def pool2 : Array CpInfo := pool [(1, .methodref 2 3), (0, .class_ 4), (0, .nameAndType 5 6), (0, u "java/lang/Object"), (0, u "<init>"), (0, u "()V"), (0, .fieldref 8 9), (0, .class_ 10), (0, .nameAndType 11 12), (0, u "com/example/squitterlab/squitterlab/sim/OverlapCounter"), (0, u "framePicos"), (0, u "J"), (0, .fieldref 8 14), (0, .nameAndType 15 16), (0, u "any"), (0, u "Z"), (0, .fieldref 8 18), (0, .nameAndType 19 12), (0, u "lastArrival"), (9, .fieldref 8 30), (0, .nameAndType 31 16), (0, u "lastLost"), (0, .fieldref 8 33), (0, .nameAndType 34 16), (0, u "lastCounted"), (0, .fieldref 8 36), (0, .nameAndType 37 12), (0, u "received"), (0, .fieldref 8 39), (0, .nameAndType 40 12), (0, u "arrived"), (0, u "(J)V"), (2, u "arrive"), (0, u "(JZ)V"), (1, u "()J")] 17

def k2c0 : Code := { maxStack := 3, maxLocals := 3, code := prog_83_method_1_code, exceptionTable := #[], attributes := #[] }
def k2m0 : Method := { name := "<init>", desc := "(J)V", sig := { parameters := [.long], returnType := none }, accessFlags := 0, code := some k2c0 }
def k2c1 : Code := { maxStack := 6, maxLocals := 5, code := prog_83_method_2_code, exceptionTable := #[], attributes := #[] }
def k2m1 : Method := { name := "arrive", desc := "(JZ)V", sig := { parameters := [.long, .boolean], returnType := none }, accessFlags := 0, code := some k2c1 }
def k2c2 : Code := { maxStack := 4, maxLocals := 1, code := prog_83_method_4_code, exceptionTable := #[], attributes := #[] }
def k2m2 : Method := { name := "received", desc := "()J", sig := { parameters := [], returnType := some .long }, accessFlags := 0, code := some k2c2 }
/-- com/example/squitterlab/squitterlab/sim/OverlapCounter -/
def k2 : Class := { plain "com/example/squitterlab/squitterlab/sim/OverlapCounter" (some 0) with
  accessFlags := 48
  interfaces := #[]
  cf := some (fileOf pool2 8 #[] #[{ accessFlags := 0, nameIndex := 5, descriptorIndex := 41, attributes := #[] }, { accessFlags := 0, nameIndex := 44, descriptorIndex := 45, attributes := #[] }, { accessFlags := 0, nameIndex := 37, descriptorIndex := 47, attributes := #[] }] 48 2 #[] #[{ accessFlags := 18, nameIndex := 11, descriptorIndex := 12, attributes := #[] }, { accessFlags := 2, nameIndex := 40, descriptorIndex := 12, attributes := #[] }, { accessFlags := 2, nameIndex := 37, descriptorIndex := 12, attributes := #[] }, { accessFlags := 2, nameIndex := 15, descriptorIndex := 16, attributes := #[] }, { accessFlags := 2, nameIndex := 19, descriptorIndex := 12, attributes := #[] }, { accessFlags := 2, nameIndex := 34, descriptorIndex := 16, attributes := #[] }, { accessFlags := 2, nameIndex := 31, descriptorIndex := 16, attributes := #[] }])
  fields := #[{ name := "framePicos", type := .long, accessFlags := 18, slot := 0, constantValue := 0 }, { name := "arrived", type := .long, accessFlags := 2, slot := 1, constantValue := 0 }, { name := "received", type := .long, accessFlags := 2, slot := 2, constantValue := 0 }, { name := "any", type := .boolean, accessFlags := 2, slot := 3, constantValue := 0 }, { name := "lastArrival", type := .long, accessFlags := 2, slot := 4, constantValue := 0 }, { name := "lastCounted", type := .boolean, accessFlags := 2, slot := 5, constantValue := 0 }, { name := "lastLost", type := .boolean, accessFlags := 2, slot := 6, constantValue := 0 }]
  methods := #[k2m0, k2m1, k2m2]
  instanceTypes := #[.long, .long, .long, .boolean, .long, .boolean, .boolean]
  staticTypes := #[]
  resolved := Array.replicate 65 none
  statics := none }

def pool3 : Array CpInfo := pool [(1, u "java/lang/Cloneable"), (0, .class_ 1), (0, u "java/lang/Object"), (0, .class_ 3)] 3

/-- java/lang/Cloneable -/
def k3 : Class := { plain "java/lang/Cloneable" (some 0) with
  accessFlags := 1537
  interfaces := #[]
  cf := some (fileOf pool3 2 #[] #[] 1537 4 #[] #[])
  fields := #[]
  methods := #[]
  instanceTypes := #[]
  staticTypes := #[]
  resolved := Array.replicate 8 none
  statics := none }

def pool4 : Array CpInfo := pool [(1, u "java/io/Serializable"), (0, .class_ 1), (0, u "java/lang/Object"), (0, .class_ 3)] 3

/-- java/io/Serializable -/
def k4 : Class := { plain "java/io/Serializable" (some 0) with
  accessFlags := 1537
  interfaces := #[]
  cf := some (fileOf pool4 2 #[] #[] 1537 4 #[] #[])
  fields := #[]
  methods := #[]
  instanceTypes := #[]
  staticTypes := #[]
  resolved := Array.replicate 8 none
  statics := none }

/-- the primitive byte -/
def k5 : Class := { plain "byte" none with kind := .primitive 'B', accessFlags := 0x411 }
/-- [B -/
def k6 : Class := { plain "[B" (some 0) with kind := .array 5 .byte, interfaces := #[3, 4], accessFlags := 1041 }

/-- the primitive int -/
def k7 : Class := { plain "int" none with kind := .primitive 'I', accessFlags := 0x411 }
/-- [I -/
def k8 : Class := { plain "[I" (some 0) with kind := .array 7 .int, interfaces := #[3, 4], accessFlags := 1041 }

def heap : Heap := #[]
def classes : Array Class := #[k0, k1, k2, k3, k4, k5, k6, k7, k8]
def interned : List (Array UInt16 × Addr) := []
def slotsUsed : Nat := 0
def theMethod : MethodId := ⟨1, 1⟩
def args0 : Array Value := #[.long 5, .long 5, .int 5, .int 5]
def aboutOver (below : List Frame) : State where
  vm := { classes := classes, interned := interned.toArray }
  heap := heap
  slotsUsed := slotsUsed
  threads := #[{ frames := .invoking theMethod args0 :: below }]
def below0 : List Frame := [.native { method := ⟨0, 0⟩, args := #[] }]
def about1 : State := aboutOver below0
def p0 : Program := .bare "" "" ""
def e0 : Env := launch0.env 0 0 0
theorem w_frames : about1.frames = Frame.invoking theMethod args0 :: below0 := rfl
set_option maxRecDepth 65536 in
theorem w_args : argsFit about1.vm theMethod args0 = true := by decide +kernel
set_option maxRecDepth 65536 in
theorem w_heap : heapFits about1 = true := by decide +kernel
set_option maxRecDepth 65536 in
theorem w_runnable : about1.curStatus? = some .runnable := by decide +kernel
set_option maxRecDepth 65536 in
theorem w_alone : about1.alone = true := by decide +kernel
set_option maxRecDepth 65536 in
theorem w_named : about1.methodNamed? x = some theMethod := by decide +kernel
set_option maxRecDepth 65536 in
theorem w_hears : about1.hears theMethod below0 = true := by decide +kernel
set_option maxRecDepth 65536 in
theorem w_ripe : about1.ripe theMethod args0 below0 = true := by decide +kernel
theorem w_running : about1.status = .running := rfl
set_option maxRecDepth 65536 in
theorem w_room : about1.hasRoom e0.platform room_1 = true :=
  launch0.hasRoom_least _ room_1 (by decide +kernel) (by decide +kernel) (by decide +kernel) (by decide +kernel) (by decide +kernel) (by decide +kernel)
theorem allAtoms_all (ts : List Jvm.Cond) (a : Array Jvm.Value) (st : Jvm.State) : (allAtoms ts).before a st = ts.all (fun c => c.before a st) := by
  induction ts with
  | nil => rfl
  | cons c t ih =>
    show (Jvm.Cond.and c (allAtoms t)).before a st = _
    rw [Jvm.Cond.before_and, ih, List.all_cons]
def words1 : List Jvm.Cond := Jvm.Cond.code x code maxLocals ret :: tables_1
/-- a 'code' word, met by the world's own term for the bytes: nothing is compared byte by byte -/
theorem code_word {y : MethodName} {bytes : ByteArray} {mx : Nat} {rt : Option FieldType} {a : Array Value} {s : State} {m : MethodId} {meth : Method} {c : Code} (h1 : s.methodNamed? y = some m) (h2 : s.vm.method? m = some meth) (h3 : meth.code = some c) (h4 : c.code = bytes)
    (h5 : (c.maxLocals == mx && c.exceptionTable.isEmpty && decide (c.maxStack ≤ mostOperands) && decide (meth.sig.returnType = rt) && !meth.locks && decide (parseMethodDescriptor y.desc = some meth.sig)) = true) : (Jvm.Cond.code y bytes mx rt).before a s = true := by
  simp only [Bool.and_eq_true, beq_iff_eq, Bool.not_eq_true', decide_eq_true_eq] at h5
  obtain ⟨⟨⟨⟨⟨g1, g2⟩, g3⟩, g4⟩, g5⟩, g6⟩ := h5
  simp [Cond.before, Cond.holds, Cond.value, h1, h2, h3, h4, g1, g2, g3, g4, g5, g6]
def isCode : Jvm.Cond → Bool
  | .code _ _ _ _ => true
  | _ => false
theorem all_split {L : List Jvm.Cond} {P : Jvm.Cond → Bool} (h1 : L.all (fun c => isCode c || P c) = true) (h2 : ∀ c ∈ L.filter isCode, P c = true) : L.all P = true := by
  refine List.all_eq_true.mpr fun c hc => ?_
  have h := List.all_eq_true.mp h1 c hc
  rcases Bool.eq_false_or_eq_true (isCode c) with hi | hi
  · exact h2 c (List.mem_filter.mpr ⟨hc, hi⟩)
  · simpa [hi] using h
set_option maxRecDepth 65536 in
theorem w_c0 : (Jvm.Cond.code x code maxLocals ret).before args0 about1 = true := code_word (m := ⟨1, 1⟩) (meth := k1m1) (c := k1c1) (by decide +kernel) rfl rfl rfl (by decide +kernel)
set_option maxRecDepth 65536 in
theorem w_c1 : (Jvm.Cond.code ({ cls := "com/example/squitterlab/squitterlab/sim/OverlapCounter", name := "<init>", desc := "(J)V" } : Jvm.MethodName) prog_83_method_1_code (3 : Nat) (Option.none : Option Jvm.ClassFile.FieldType)).before args0 about1 = true := code_word (m := ⟨2, 0⟩) (meth := k2m0) (c := k2c0) (by decide +kernel) rfl rfl rfl (by decide +kernel)
set_option maxRecDepth 65536 in
theorem w_c2 : (Jvm.Cond.code ({ cls := "java/lang/Object", name := "<init>", desc := "()V" } : Jvm.MethodName) object_method_1_code (1 : Nat) (Option.none : Option Jvm.ClassFile.FieldType)).before args0 about1 = true := code_word (m := ⟨0, 0⟩) (meth := k0m0) (c := k0c0) (by decide +kernel) rfl rfl rfl (by decide +kernel)
set_option maxRecDepth 65536 in
theorem w_c3 : (Jvm.Cond.code ({ cls := "com/example/squitterlab/squitterlab/sim/OverlapCounter", name := "received", desc := "()J" } : Jvm.MethodName) prog_83_method_4_code (1 : Nat) (Option.some Jvm.ClassFile.FieldType.long)).before args0 about1 = true := code_word (m := ⟨2, 2⟩) (meth := k2m2) (c := k2c2) (by decide +kernel) rfl rfl rfl (by decide +kernel)
set_option maxRecDepth 65536 in
theorem w_c4 : (Jvm.Cond.code ({ cls := "com/example/squitterlab/squitterlab/sim/OverlapCounter", name := "arrive", desc := "(JZ)V" } : Jvm.MethodName) prog_83_method_2_code (5 : Nat) (Option.none : Option Jvm.ClassFile.FieldType)).before args0 about1 = true := code_word (m := ⟨2, 1⟩) (meth := k2m1) (c := k2c1) (by decide +kernel) rfl rfl rfl (by decide +kernel)
def codes1 : List Jvm.Cond := [Jvm.Cond.code x code maxLocals ret, Jvm.Cond.code ({ cls := "com/example/squitterlab/squitterlab/sim/OverlapCounter", name := "<init>", desc := "(J)V" } : Jvm.MethodName) prog_83_method_1_code (3 : Nat) (Option.none : Option Jvm.ClassFile.FieldType), Jvm.Cond.code ({ cls := "java/lang/Object", name := "<init>", desc := "()V" } : Jvm.MethodName) object_method_1_code (1 : Nat) (Option.none : Option Jvm.ClassFile.FieldType), Jvm.Cond.code ({ cls := "com/example/squitterlab/squitterlab/sim/OverlapCounter", name := "received", desc := "()J" } : Jvm.MethodName) prog_83_method_4_code (1 : Nat) (Option.some Jvm.ClassFile.FieldType.long), Jvm.Cond.code ({ cls := "com/example/squitterlab/squitterlab/sim/OverlapCounter", name := "arrive", desc := "(JZ)V" } : Jvm.MethodName) prog_83_method_2_code (5 : Nat) (Option.none : Option Jvm.ClassFile.FieldType)]
set_option maxRecDepth 65536 in
theorem codes_eq : words1.filter isCode = codes1 := rfl
theorem w_codes : ∀ c ∈ words1.filter isCode, c.before args0 about1 = true := by
  rw [codes_eq]
  intro c hc
  simp only [codes1, List.mem_cons, List.not_mem_nil, or_false] at hc
  rcases hc with rfl | rfl | rfl | rfl | rfl
  · exact w_c0
  · exact w_c1
  · exact w_c2
  · exact w_c3
  · exact w_c4
set_option maxRecDepth 65536 in
theorem w_t1 : (words1.take 24).all (fun c => isCode c || c.before args0 about1) = true := by decide +kernel
set_option maxRecDepth 65536 in
theorem w_t2 : (words1.drop 24).all (fun c => isCode c || c.before args0 about1) = true := by decide +kernel
theorem w_tables : (allAtoms (Jvm.Cond.code x code maxLocals ret :: tables_1)).before args0 about1 = true := by
  rw [allAtoms_all]
  show words1.all (fun c => c.before args0 about1) = true
  refine all_split ?_ w_codes
  rw [← List.take_append_drop 24 words1, List.all_append, w_t1, w_t2]
  rfl
set_option maxRecDepth 65536 in
theorem w_case : (Jvm.Cond.and given_1 narrow_1).before args0 about1 = true := by decide +kernel
theorem w_applies : (headSpec (Jvm.Cond.code x code maxLocals ret :: tables_1) room_1).applies x e0.platform about1 = true :=
  (Spec.applies_iff w_frames).mpr ⟨w_running, w_runnable, w_alone, w_named, w_hears, w_ripe, w_room, w_tables⟩
theorem atStart : AtStart classFile x code maxLocals ret World_1 tables_1 room_1 Calls_1 rest_1 Pre_1 launch0 p0 e0 about1 theMethod args0 below0 :=
  ⟨lists_1, trivial, launch0.admits_env _ _ _, launch0.least_env, fairChoices_fair.cas, fairChoices_fair.clock, w_frames, w_args, w_heap, w_applies, trivial, trivial, w_case⟩
end start1
theorem witness_1 : WitnessClaimed_1 := ⟨start1.p0, start1.e0, start1.about1, start1.theMethod, start1.args0, start1.below0, start1.atStart⟩
end Jvm.Pilot.@@N@@
