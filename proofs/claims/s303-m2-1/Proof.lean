import JvmDerived
import JvmDerived.Pilot.@@N@@Statement
import JvmDerived.Pilot.@@N@@Code
set_option linter.unusedVariables false
set_option linter.unusedSimpArgs false
@@BLOCK:NumsL.lean.txt@@
namespace Jvm.RoadKit
open Sem ClassFile Op Lib Jvm.Stand Jvm.Free Jvm.LawKit
section New
variable {p : Program} {l : Launch} {e : Env} {R : Room} {s : State} {m : MethodId} {args : Array Value} {below : List Frame} {meth : Method} {c : Code} {T : State} {locs : List Loc} {cells slots : Nat}
theorem retI (X : Stand p l e R s m args below meth c T locs cells slots) (hx : p.tables.exec = Jvm.exec) {pc : Nat} {Ls : Array Slot} {z : Int32} {rest : List Value} (hret : meth.sig.returnType = some .int) (hd : decode c.code pc = .ok (.ireturn, 1)) {fs : List Frame}
    (hl : ∀ (f : JFrame) (acts : List Action), f.method = m → f.locked = none → f.entered = [] → (doReturn e (T.setTop f) acts (some (.int z))).1 = T.setFrames fs) : Steps p.tables e below (T.setTop (mkF m pc Ls (.int z :: rest))) (T.setFrames fs) := by
  have hm' : T.vm.method? m = some meth := X.method'
  have hn : narrow .int (.int z) = .int z := rfl
  show Steps p.tables e below (T.setTop { method := m, pc := pc, locals := Ls, stack := _ :: rest, locked := none }) _
  jvm_step X.here [X.here.top, hx, hd, hm', hret, hn]
  first | (intro acts; rw [hl _ acts rfl rfl rfl]) | rw [hl _ _ rfl rfl rfl]
  exact Steps.refl _
end New
end Jvm.RoadKit
namespace Jvm.Pilot.@@N@@
open Jvm Jvm.ClassFile Sem Op Lib Jvm.Free Jvm.Stand Jvm.LawKit Jvm.RoadKit Bundle Jvm.Pilot.@@N@@.Jvm.D
def own_ush (x : Int64) (s : Int32) : Int64 := ((x.toUInt64 >>> (s &&& 0x3f).toInt64.toUInt64).toInt64)
def own_shl (x : Int64) (s : Int32) : Int64 := (x <<< (s &&& 0x3f).toInt64)
def own_shr (x : Int64) (s : Int32) : Int64 := (x >>> (s &&& 0x3f).toInt64)
def own_iush (x s : Int32) : Int32 := ((x.toUInt32 >>> (s &&& 31).toUInt32).toInt32)
def own_ishl (x s : Int32) : Int32 := (x <<< (s &&& 31))
def own_ishr (x s : Int32) : Int32 := (x >>> (s &&& 31))
def own_lrem (x y : Int64) : Int64 := x - (x / y) * y
def own_A (Z : State) (h : Heap) (a : Addr) (ty : FieldType) (n : Nat) (g : Nat → Int32) : Prop := ∃ c : Cell, Arr Z h a c ty ∧ c.slots.size = n ∧ ∀ i, i < n → c.slots[i]? = some (.int (g i))
def own_put (g : Nat → Int32) (j : Nat) (v : Int32) : Nat → Int32 := fun i => if i = j then v else g i
theorem own_A.lt {Z : State} {h : Heap} {a : Addr} {ty : FieldType} {n : Nat} {g : Nat → Int32} (F : own_A Z h a ty n g) : a < h.size := by obtain ⟨c, A, -⟩ := F; exact A.lt
theorem own_A.ext {Z : State} {h h' : Heap} {a : Addr} {ty : FieldType} {n : Nat} {g : Nat → Int32} (F : own_A Z h a ty n g) (E : Ext h h') : own_A Z h' a ty n g := by obtain ⟨c, A, r⟩ := F; exact ⟨c, A.ext E, r⟩
theorem own_A.other {Z : State} {h h' : Heap} {a b : Addr} {ty : FieldType} {n : Nat} {g : Nat → Int32} {sl : Nat} {v : Value} (F : own_A Z h b ty n g) (W : Wr h h' a sl v) (q : b ≠ a) : own_A Z h' b ty n g := by obtain ⟨c, A, r⟩ := F; exact ⟨c, A.other W q, r⟩
theorem own_A.keep {Z : State} {h h' : Heap} {a : Addr} {ty : FieldType} {n : Nat} {g : Nat → Int32} {ws : List Addr} (F : own_A Z h a ty n g) (K : Keep h h' ws) (q : a ∉ ws) : own_A Z h' a ty n g := by obtain ⟨c, A, r⟩ := F; exact ⟨c, ⟨K.2.1 a c A.1 q, A.2⟩, r⟩
theorem own_A.new {Z : State} {h : Heap} {a : Addr} {k : ClassId} {ty : FieldType} {z : Int32} (A : Arr Z h a (newA k ty z) ty) {n : Nat} (hn : z.toNatClampNeg = n) (hd : defaultValue ty = .int 0) : own_A Z h a ty n (fun _ => (0 : Int32)) := by
  subst hn
  exact ⟨_, A, sz_new _ _ _, fun i hi => by simp [newA, hi, hd]⟩
theorem own_A.congr {Z : State} {h : Heap} {a : Addr} {ty : FieldType} {n : Nat} {f g : Nat → Int32} (F : own_A Z h a ty n f) (q : ∀ i, i < n → f i = g i) : own_A Z h a ty n g := by
  obtain ⟨c, A, S, r⟩ := F; exact ⟨c, A, S, fun i hi => by rw [r i hi, q i hi]⟩
theorem own_A.set {Z : State} {h h' : Heap} {a : Addr} {ty : FieldType} {n : Nat} {g : Nat → Int32} {c : Cell} {j : Nat} {v : Int32} (A : Arr Z h a c ty) (S : c.slots.size = n) (H : ∀ i, i < n → c.slots[i]? = some (.int (g i))) (W : Wr h h' a j (.int v)) : own_A Z h' a ty n (own_put g j v) := by
  obtain ⟨c', h1, -, -, h4, -, h6, h7⟩ := wr_at W A.1
  obtain ⟨e1, e2, -⟩ := h7 rfl
  have A' := A.same W
  subst e1
  refine ⟨_, A', by rw [sz_set]; exact S, fun i hi => ?_⟩
  by_cases q : i = j
  · subst q; rw [e2, own_put, if_pos rfl]
  · rw [h6 i q, H i hi, own_put, if_neg q]
theorem own_inb {c : Cell} {n : Nat} {j : Int32} (S : c.slots.size = n) (q : 0 ≤ j.toInt ∧ j.toInt < n) : ¬ (j < 0 ∨ c.slots.size ≤ j.toNatClampNeg) := by
  rw [S, Int32.lt_iff_toInt_lt]
  have e : j.toNatClampNeg = j.toInt.toNat := rfl
  have z : (0 : Int32).toInt = 0 := by decide
  rw [e, z]; omega
theorem own_lt_of {n : Nat} {j : Int32} (q : 0 ≤ j.toInt ∧ j.toInt < n) : j.toNatClampNeg < n := by
  have e : j.toNatClampNeg = j.toInt.toNat := rfl
  rw [e]; omega
theorem own_len {c : Cell} {n : Nat} {z : Int32} (S : c.slots.size = n) (q : Int32.ofNat n = z) : c.slots.size.toInt32 = z := by rw [S]; exact q
def own_node (p : Int32) : Int32 := if p < (0 : Int32) then (-1 : Int32) else p
def own_vec (a b c d : Int32) (i : Nat) : Int32 := if i = 0 then a else if i = 1 then b else if i = 2 then c else d
def own_rel0 (f : Nat → Int32) : Int32 := (0 : Int32)
def own_rel1 (f : Nat → Int32) : Int32 := ((0 : Int32) + (if (f 0) < (0 : Int32) then (1 : Int32) else (0 : Int32)))
def own_rel2 (f : Nat → Int32) : Int32 := (((0 : Int32) + (if (f 0) < (0 : Int32) then (1 : Int32) else (0 : Int32))) + (if (f 1) < (0 : Int32) then (1 : Int32) else (0 : Int32)))
def own_rel3 (f : Nat → Int32) : Int32 := ((((0 : Int32) + (if (f 0) < (0 : Int32) then (1 : Int32) else (0 : Int32))) + (if (f 1) < (0 : Int32) then (1 : Int32) else (0 : Int32))) + (if (f 2) < (0 : Int32) then (1 : Int32) else (0 : Int32)))
def own_rel4 (f : Nat → Int32) : Int32 := (((((0 : Int32) + (if (f 0) < (0 : Int32) then (1 : Int32) else (0 : Int32))) + (if (f 1) < (0 : Int32) then (1 : Int32) else (0 : Int32))) + (if (f 2) < (0 : Int32) then (1 : Int32) else (0 : Int32))) + (if (f 3) < (0 : Int32) then (1 : Int32) else (0 : Int32)))
theorem own_n5 (x : Int32) : ∃ k : Nat, k < 5 ∧ (x &&& (2147483647 : Int32)) % (5 : Int32) = Int32.ofNat k := by
  have h1 : (x &&& (2147483647 : Int32)).toInt = x.toInt % 2 ^ 31 := Jvm.Kit.i32_mask x 2147483647 (k := 31) (by decide) (by decide)
  have e5 : (5 : Int32).toInt = 5 := by decide
  have h3 := Jvm.Kit.i32_rem_nonneg (x := x &&& (2147483647 : Int32)) (y := 5) (by omega)
  rw [e5] at h3
  refine ⟨((x &&& (2147483647 : Int32)) % (5 : Int32)).toInt.toNat, by omega, ?_⟩
  apply Int32.toInt_inj.mp
  rw [Int32.toInt_ofNat_of_lt (by omega)]
  omega
theorem own_nlt (p : Int32) : own_node p < (0 : Int32) ↔ own_node p = (-1 : Int32) := by
  unfold own_node
  by_cases h : p < (0 : Int32)
  · rw [if_pos h]; decide
  · rw [if_neg h]
    constructor
    · intro q; exact absurd q h
    · intro q; rw [q]; decide
theorem own_v0 (a b c d : Int32) : own_vec a b c d 0 = a ∧ own_vec a b c d 1 = b ∧ own_vec a b c d 2 = c ∧ own_vec a b c d 3 = d := ⟨rfl, rfl, rfl, rfl⟩
theorem own_law0 (p2 p3 p4 p5 : Int32) : (own_rel0 (own_vec (own_node p2) (own_node p3) (own_node p4) (own_node p5))) = (0 : Int32) := by
  simp only [own_rel0, (own_v0 _ _ _ _).1, (own_v0 _ _ _ _).2.1, (own_v0 _ _ _ _).2.2.1, (own_v0 _ _ _ _).2.2.2, own_nlt]
theorem own_law1 (p2 p3 p4 p5 : Int32) : (own_rel1 (own_vec (own_node p2) (own_node p3) (own_node p4) (own_node p5))) = (if (own_node p2) = (-1 : Int32) then (1 : Int32) else (0 : Int32)) := by
  simp only [own_rel1, (own_v0 _ _ _ _).1, (own_v0 _ _ _ _).2.1, (own_v0 _ _ _ _).2.2.1, (own_v0 _ _ _ _).2.2.2, own_nlt]
  repeat' split
  all_goals rfl
theorem own_law2 (p2 p3 p4 p5 : Int32) : (own_rel2 (own_vec (own_node p2) (own_node p3) (own_node p4) (own_node p5))) = (if (own_node p3) = (-1 : Int32) then ((if (own_node p2) = (-1 : Int32) then (1 : Int32) else (0 : Int32)) + (1 : Int32)) else (if (own_node p2) = (-1 : Int32) then (1 : Int32) else (0 : Int32))) := by
  simp only [own_rel2, (own_v0 _ _ _ _).1, (own_v0 _ _ _ _).2.1, (own_v0 _ _ _ _).2.2.1, (own_v0 _ _ _ _).2.2.2, own_nlt]
  repeat' split
  all_goals rfl
theorem own_law3 (p2 p3 p4 p5 : Int32) : (own_rel3 (own_vec (own_node p2) (own_node p3) (own_node p4) (own_node p5))) = (if (own_node p4) = (-1 : Int32) then ((if (own_node p3) = (-1 : Int32) then ((if (own_node p2) = (-1 : Int32) then (1 : Int32) else (0 : Int32)) + (1 : Int32)) else (if (own_node p2) = (-1 : Int32) then (1 : Int32) else (0 : Int32))) + (1 : Int32)) else (if (own_node p3) = (-1 : Int32) then ((if (own_node p2) = (-1 : Int32) then (1 : Int32) else (0 : Int32)) + (1 : Int32)) else (if (own_node p2) = (-1 : Int32) then (1 : Int32) else (0 : Int32)))) := by
  simp only [own_rel3, (own_v0 _ _ _ _).1, (own_v0 _ _ _ _).2.1, (own_v0 _ _ _ _).2.2.1, (own_v0 _ _ _ _).2.2.2, own_nlt]
  repeat' split
  all_goals rfl
theorem own_law4 (p2 p3 p4 p5 : Int32) : (own_rel4 (own_vec (own_node p2) (own_node p3) (own_node p4) (own_node p5))) = (if (own_node p5) = (-1 : Int32) then ((if (own_node p4) = (-1 : Int32) then ((if (own_node p3) = (-1 : Int32) then ((if (own_node p2) = (-1 : Int32) then (1 : Int32) else (0 : Int32)) + (1 : Int32)) else (if (own_node p2) = (-1 : Int32) then (1 : Int32) else (0 : Int32))) + (1 : Int32)) else (if (own_node p3) = (-1 : Int32) then ((if (own_node p2) = (-1 : Int32) then (1 : Int32) else (0 : Int32)) + (1 : Int32)) else (if (own_node p2) = (-1 : Int32) then (1 : Int32) else (0 : Int32)))) + (1 : Int32)) else (if (own_node p4) = (-1 : Int32) then ((if (own_node p3) = (-1 : Int32) then ((if (own_node p2) = (-1 : Int32) then (1 : Int32) else (0 : Int32)) + (1 : Int32)) else (if (own_node p2) = (-1 : Int32) then (1 : Int32) else (0 : Int32))) + (1 : Int32)) else (if (own_node p3) = (-1 : Int32) then ((if (own_node p2) = (-1 : Int32) then (1 : Int32) else (0 : Int32)) + (1 : Int32)) else (if (own_node p2) = (-1 : Int32) then (1 : Int32) else (0 : Int32))))) := by
  simp only [own_rel4, (own_v0 _ _ _ _).1, (own_v0 _ _ _ _).2.1, (own_v0 _ _ _ _).2.2.1, (own_v0 _ _ _ _).2.2.2, own_nlt]
  repeat' split
  all_goals rfl
theorem d1_0 : decode method_2_code 0 = .ok (.iload_n 0, 1) := by decide +kernel
theorem d1_1 : decode method_2_code 1 = .ok (.ifCond .ge 7, 3) := by decide +kernel
theorem d1_4 : decode method_2_code 4 = .ok (.iconst (-1), 1) := by decide +kernel
theorem d1_5 : decode method_2_code 5 = .ok (.goto 4, 3) := by decide +kernel
theorem d1_8 : decode method_2_code 8 = .ok (.iload_n 0, 1) := by decide +kernel
theorem d1_9 : decode method_2_code 9 = .ok (.ireturn, 1) := by decide +kernel
theorem pn_StripePlanRelocationsPinLaw : plainName "com/example/rackstripe/rackstripe/StripePlanRelocationsPinLaw" = true := by first | (simp [plainName, overriddenIn]; done) | decide +kernel
theorem ef_1 (m : MethodId) (p1 : Int32) : entryFrame m #[(.int p1)] 1 = mkF m 0 #[.val (.int p1)] [] := by first | (simp [entryFrame, mkF, argsToLocals, Value.category]; done) | rfl
def Q1 (Z : State) (p1 : Int32) (h0 : Heap) (n0 : Nat) (v : Option Value) (h : Heap) (L : List Loc) : Prop := v = some (.int (own_node p1)) ∧ Fr n0 L ∧ h = h0
set_option maxRecDepth 65536 in
set_option maxHeartbeats 40000000 in
theorem rm1 (l : Launch) (Z : State) (a0 : Array Value) (hw : ∀ d ∈ tables_1, d.before a0 Z = true) (ws : List Jvm.Cond) (p1 : Int32) (h0 : Heap) (n0 : Nat) (Z0 : n0 ≤ h0.size) :
    MetFree l (⟨"com/example/rackstripe/rackstripe/StripePlanRelocationsPinLaw", "node", "(I)I"⟩ : MethodName) (head1 (Jvm.Cond.code (⟨"com/example/rackstripe/rackstripe/StripePlanRelocationsPinLaw", "node", "(I)I"⟩ : MethodName) method_2_code 1 (some .int) :: ws) ({ frames := 0, cells := 0, slots := 0, locals := 0 } : Room)) (fun aa U => aa = #[(.int p1)] ∧ Z.Warmed39 U.vm ∧ U.heap = h0) (fun _ _ _ _ _ => True) (fun _ U o U' => ∃ v L, o = .returned v ∧ Q1 Z p1 h0 n0 v U'.heap L ∧ FrameEnd U o U' L ({ frames := 0, cells := 0, slots := 0, locals := 0 } : Room).cells ({ frames := 0, cells := 0, slots := 0, locals := 0 } : Room).slots) := by
  refine MetFree.of_bodySF (plainFor_of_name pn_StripePlanRelocationsPinLaw) hisR ?_
  intro p e s m args below meth c s₁ Bd hml0 hP hK
  obtain ⟨rfl, hZ, hh⟩ := hP
  have hx := Bd.exec
  have hby := Bd.bytes
  have hml : c.maxLocals = 1 := hml0
  have hown : s.vm.findClass "com/example/rackstripe/rackstripe/StripePlanRelocationsPinLaw" = some m.cls := findClass_of_methodNamed Bd.named
  have hnm := (name_of_methodNamed Bd.named Bd.method).1
  have X0 : Stand p l e ({ frames := 0, cells := 0, slots := 0, locals := 0 } : Room) s m #[(.int p1)] below meth c s₁ [] 0 0 := Stand.of_body Bd
  have e0 : s₁.heap = h0 := by rw [← hh, Bd.state]; rfl
  have N0 := Fr.nil n0
  have hlk : meth.locks = false := by first | exact BodyLoose.notSynchronized Bd | exact Body.notSynchronized Bd
  have pre0 : ∀ t, Steps p.tables e below (s₁.setTop (mkF m 0 #[.val (.int p1)] [])) t → Steps p.tables e below (s₁.setTop (entryFrame m #[(.int p1)] 1)) t := fun t k => castTop (ef_1 m p1) k
  have pre1 : ∀ t, Steps p.tables e below (s₁.setTop (mkF m 1 #[.val (.int p1)] [(.int p1)])) t → Steps p.tables e below (s₁.setTop (entryFrame m #[(.int p1)] 1)) t := fun t k => pre0 t (by
    show Steps p.tables e below (s₁.setTop (mkF m 0 #[.val (.int p1)] [])) _
    refine XS.iloadN X0.here hx rfl (hb hby d1_0) rfl ?_
    show Steps p.tables e below (s₁.setTop (mkF m 1 #[.val (.int p1)] [(.int p1)])) _
    exact k)
  by_cases hc1_2 : p1 < (0 : Int32)
  · have pre3 : ∀ t, Steps p.tables e below (s₁.setTop (mkF m 9 #[.val (.int p1)] [(.int (-1 : Int32))])) t → Steps p.tables e below (s₁.setTop (entryFrame m #[(.int p1)] 1)) t := fun t k => pre1 t (by
      show Steps p.tables e below (s₁.setTop (mkF m 1 #[.val (.int p1)] [(.int p1)])) _
      refine XS.ifNo X0.here hx rfl (hb hby d1_1) rfl ((if0 _ _).trans (tlt hc1_2).2.1) ?_
      show Steps p.tables e below (s₁.setTop (mkF m 4 #[.val (.int p1)] [])) _
      refine XS.iconst X0.here hx rfl (hb hby d1_4) ?_
      show Steps p.tables e below (s₁.setTop (mkF m 5 #[.val (.int p1)] [(.int (-1 : Int32))])) _
      refine XS.goto X0.here hx rfl (pc0 := 5) (pc' := 9) rfl (hb hby d1_5) (by decide) (by decide) ?_
      show Steps p.tables e below (s₁.setTop (mkF m 9 #[.val (.int p1)] [(.int (-1 : Int32))])) _
      exact k)
    obtain ⟨fs, hr, hrun, hended, hW, hsame⟩ := X0.leave (v := some (.int (-1 : Int32))) (fun h => by rw [Bd.returns] at h; cases h) hlk
    refine ⟨_, _, pre3 _ ?_, hrun, hended, _, _, rfl, ?_, ⟨_, rfl⟩, hW, hsame.mono (by decide) (by decide)⟩
    · show Steps p.tables e below (s₁.setTop (mkF m 9 #[.val (.int p1)] [(.int (-1 : Int32))])) _
      exact retI X0 hx Bd.returns (hb hby d1_9) hr
    · show Q1 Z p1 h0 n0 _ s₁.heap _
      rw [e0]
      exact ⟨by simp only [own_node, if_pos hc1_2], N0, rfl⟩
  · have pre4 : ∀ t, Steps p.tables e below (s₁.setTop (mkF m 9 #[.val (.int p1)] [(.int p1)])) t → Steps p.tables e below (s₁.setTop (entryFrame m #[(.int p1)] 1)) t := fun t k => pre1 t (by
      show Steps p.tables e below (s₁.setTop (mkF m 1 #[.val (.int p1)] [(.int p1)])) _
      refine XS.ifYes X0.here hx rfl (pc0 := 1) (pc' := 8) rfl (hb hby d1_1) rfl ((if0 _ _).trans (flt hc1_2).2.1) (by decide) (by decide) ?_
      show Steps p.tables e below (s₁.setTop (mkF m 8 #[.val (.int p1)] [])) _
      refine XS.iloadN X0.here hx rfl (hb hby d1_8) rfl ?_
      show Steps p.tables e below (s₁.setTop (mkF m 9 #[.val (.int p1)] [(.int p1)])) _
      exact k)
    obtain ⟨fs, hr, hrun, hended, hW, hsame⟩ := X0.leave (v := some (.int p1)) (fun h => by rw [Bd.returns] at h; cases h) hlk
    refine ⟨_, _, pre4 _ ?_, hrun, hended, _, _, rfl, ?_, ⟨_, rfl⟩, hW, hsame.mono (by decide) (by decide)⟩
    · show Steps p.tables e below (s₁.setTop (mkF m 9 #[.val (.int p1)] [(.int p1)])) _
      exact retI X0 hx Bd.returns (hb hby d1_9) hr
    · show Q1 Z p1 h0 n0 _ s₁.heap _
      rw [e0]
      exact ⟨by simp only [own_node, if_neg hc1_2], N0, rfl⟩
theorem d2_0 : decode prog_48_method_1_code 0 = .ok (.aload_n 0, 1) := by decide +kernel
theorem d2_1 : decode prog_48_method_1_code 1 = .ok (.invokespecial 1, 3) := by decide +kernel
theorem d2_4 : decode prog_48_method_1_code 4 = .ok (.aload_n 0, 1) := by decide +kernel
theorem d2_5 : decode prog_48_method_1_code 5 = .ok (.iload_n 1, 1) := by decide +kernel
theorem d2_6 : decode prog_48_method_1_code 6 = .ok (.putfield 7, 3) := by decide +kernel
theorem d2_9 : decode prog_48_method_1_code 9 = .ok (.aload_n 0, 1) := by decide +kernel
theorem d2_10 : decode prog_48_method_1_code 10 = .ok (.aload_n 2, 1) := by decide +kernel
theorem d2_11 : decode prog_48_method_1_code 11 = .ok (.putfield 13, 3) := by decide +kernel
theorem d2_14 : decode prog_48_method_1_code 14 = .ok (.aload_n 0, 1) := by decide +kernel
theorem d2_15 : decode prog_48_method_1_code 15 = .ok (.iload_n 3, 1) := by decide +kernel
theorem d2_16 : decode prog_48_method_1_code 16 = .ok (.putfield 17, 3) := by decide +kernel
theorem d2_19 : decode prog_48_method_1_code 19 = .ok (.aload_n 0, 1) := by decide +kernel
theorem d2_20 : decode prog_48_method_1_code 20 = .ok (.iload 4, 2) := by decide +kernel
theorem d2_22 : decode prog_48_method_1_code 22 = .ok (.putfield 20, 3) := by decide +kernel
theorem d2_25 : decode prog_48_method_1_code 25 = .ok (.aload_n 0, 1) := by decide +kernel
theorem d2_26 : decode prog_48_method_1_code 26 = .ok (.aload 5, 2) := by decide +kernel
theorem d2_28 : decode prog_48_method_1_code 28 = .ok (.putfield 23, 3) := by decide +kernel
theorem d2_31 : decode prog_48_method_1_code 31 = .ok (.aload_n 0, 1) := by decide +kernel
theorem d2_32 : decode prog_48_method_1_code 32 = .ok (.aload 6, 2) := by decide +kernel
theorem d2_34 : decode prog_48_method_1_code 34 = .ok (.putfield 26, 3) := by decide +kernel
theorem d2_37 : decode prog_48_method_1_code 37 = .ok (.aload_n 0, 1) := by decide +kernel
theorem d2_38 : decode prog_48_method_1_code 38 = .ok (.iload 7, 2) := by decide +kernel
theorem d2_40 : decode prog_48_method_1_code 40 = .ok (.putfield 29, 3) := by decide +kernel
theorem d2_43 : decode prog_48_method_1_code 43 = .ok (.return_, 1) := by decide +kernel
theorem pn_StripePlan : plainName "com/example/rackstripe/rackstripe/StripePlan" = true := by first | (simp [plainName, overriddenIn]; done) | decide +kernel
theorem ef_2 (m : MethodId) (a : Addr) (p1 : Int32) (r2 : Addr) (p3 : Int32) (p4 : Int32) (r5 : Addr) (r6 : Addr) (p7 : Int32) : entryFrame m #[(.ref a), (.int p1), (.ref r2), (.int p3), (.int p4), (.ref r5), (.ref r6), (.int p7)] 8 = mkF m 0 #[.val (.ref a), .val (.int p1), .val (.ref r2), .val (.int p3), .val (.int p4), .val (.ref r5), .val (.ref r6), .val (.int p7)] [] := by first | (simp [entryFrame, mkF, argsToLocals, Value.category]; done) | rfl
def Q2 (Z : State) (a : Addr) (p1 : Int32) (r2 : Addr) (p3 : Int32) (p4 : Int32) (r5 : Addr) (r6 : Addr) (p7 : Int32) (h0 : Heap) (n0 : Nat) (v : Option Value) (h : Heap) (L : List Loc) : Prop := v = none ∧ Fr n0 L ∧ Keep h0 h [a] ∧ Fld Z h a "com/example/rackstripe/rackstripe/StripePlan" "kept" "[I" (.ref r5)
set_option maxRecDepth 65536 in
set_option maxHeartbeats 40000000 in
theorem rm2 (l : Launch) (Z : State) (a0 : Array Value) (hw : ∀ d ∈ tables_1, d.before a0 Z = true) (ws : List Jvm.Cond) (a : Addr) (p1 : Int32) (r2 : Addr) (p3 : Int32) (p4 : Int32) (r5 : Addr) (r6 : Addr) (p7 : Int32) (h0 : Heap) (n0 : Nat) (Z0 : n0 ≤ h0.size) (E_a : Exa Z h0 a "com/example/rackstripe/rackstripe/StripePlan") (F_a_encoder : Fld Z h0 a "com/example/rackstripe/rackstripe/StripePlan" "encoder" "I" (.int (0 : Int32))) (F_a_sources : Fld Z h0 a "com/example/rackstripe/rackstripe/StripePlan" "sources" "[I" .null) (F_a_crossRackDownloads : Fld Z h0 a "com/example/rackstripe/rackstripe/StripePlan" "crossRackDownloads" "I" (.int (0 : Int32))) (F_a_intraRackDownloads : Fld Z h0 a "com/example/rackstripe/rackstripe/StripePlan" "intraRackDownloads" "I" (.int (0 : Int32))) (F_a_kept : Fld Z h0 a "com/example/rackstripe/rackstripe/StripePlan" "kept" "[I" .null) (F_a_parity : Fld Z h0 a "com/example/rackstripe/rackstripe/StripePlan" "parity" "[I" .null) (F_a_parityUnplaced : Fld Z h0 a "com/example/rackstripe/rackstripe/StripePlan" "parityUnplaced" "I" (.int (0 : Int32))) (g_a : n0 ≤ a) :
    MetFree l (⟨"com/example/rackstripe/rackstripe/StripePlan", "<init>", "(I[III[I[II)V"⟩ : MethodName) (head1 (Jvm.Cond.code (⟨"com/example/rackstripe/rackstripe/StripePlan", "<init>", "(I[III[I[II)V"⟩ : MethodName) prog_48_method_1_code 8 none :: ws) ({ frames := 1, cells := 0, slots := 0, locals := 12 } : Room)) (fun aa U => aa = #[(.ref a), (.int p1), (.ref r2), (.int p3), (.int p4), (.ref r5), (.ref r6), (.int p7)] ∧ Z.Warmed39 U.vm ∧ U.heap = h0) (fun _ _ _ _ _ => True) (fun _ U o U' => ∃ v L, o = .returned v ∧ Q2 Z a p1 r2 p3 p4 r5 r6 p7 h0 n0 v U'.heap L ∧ FrameEnd U o U' L ({ frames := 1, cells := 0, slots := 0, locals := 12 } : Room).cells ({ frames := 1, cells := 0, slots := 0, locals := 12 } : Room).slots) := by
  refine MetFree.of_bodySF (plainFor_of_name pn_StripePlan) hisR ?_
  intro p e s m args below meth c s₁ Bd hml0 hP hK
  obtain ⟨rfl, hZ, hh⟩ := hP
  have hx := Bd.exec
  have hby := Bd.bytes
  have hml : c.maxLocals = 8 := hml0
  have hown : s.vm.findClass "com/example/rackstripe/rackstripe/StripePlan" = some m.cls := findClass_of_methodNamed Bd.named
  have hnm := (name_of_methodNamed Bd.named Bd.method).1
  have X0 : Stand p l e ({ frames := 1, cells := 0, slots := 0, locals := 12 } : Room) s m #[(.ref a), (.int p1), (.ref r2), (.int p3), (.int p4), (.ref r5), (.ref r6), (.int p7)] below meth c s₁ [] 0 0 := Stand.of_body Bd
  have e0 : s₁.heap = h0 := by rw [← hh, Bd.state]; rfl
  have N0 := Fr.nil n0
  have hlk : meth.locks = false := by first | exact BodyLoose.notSynchronized Bd | exact Body.notSynchronized Bd
  have pre0 : ∀ t, Steps p.tables e below (s₁.setTop (mkF m 0 #[.val (.ref a), .val (.int p1), .val (.ref r2), .val (.int p3), .val (.int p4), .val (.ref r5), .val (.ref r6), .val (.int p7)] [])) t → Steps p.tables e below (s₁.setTop (entryFrame m #[(.ref a), (.int p1), (.ref r2), (.int p3), (.int p4), (.ref r5), (.ref r6), (.int p7)] 8)) t := fun t k => castTop (ef_2 m a p1 r2 p3 p4 r5 r6 p7) k
  have K : Keep h0 h0 [a] := Keep.refl _ _
  have pre1 : ∀ t, Steps p.tables e below (s₁.setTop (mkF m 1 #[.val (.ref a), .val (.int p1), .val (.ref r2), .val (.int p3), .val (.int p4), .val (.ref r5), .val (.ref r6), .val (.int p7)] [(.ref a)])) t → Steps p.tables e below (s₁.setTop (entryFrame m #[(.ref a), (.int p1), (.ref r2), (.int p3), (.int p4), (.ref r5), (.ref r6), (.int p7)] 8)) t := fun t k => pre0 t (by
    show Steps p.tables e below (s₁.setTop (mkF m 0 #[.val (.ref a), .val (.int p1), .val (.ref r2), .val (.int p3), .val (.int p4), .val (.ref r5), .val (.ref r6), .val (.int p7)] [])) _
    refine XS.aloadN X0.here hx rfl (hb hby d2_0) rfl rfl ?_
    show Steps p.tables e below (s₁.setTop (mkF m 1 #[.val (.ref a), .val (.int p1), .val (.ref r2), .val (.int p3), .val (.int p4), .val (.ref r5), .val (.ref r6), .val (.int p7)] [(.ref a)])) _
    exact k)
  obtain ⟨T2, X2, e2, st2⟩ := initO X0 hx hZ hown (hw _ (List.mem_of_getElem? (i := 12) rfl)) (hw _ (List.mem_of_getElem? (i := 13) rfl)) (hw _ (List.mem_of_getElem? (i := 14) rfl)) e0 (g := (mkF m 1 #[.val (.ref a), .val (.int p1), .val (.ref r2), .val (.int p3), .val (.int p4), .val (.ref r5), .val (.ref r6), .val (.int p7)] [(.ref a)])) rfl (by rw [hml]; rfl) rfl (hb hby d2_1) (by decide) (W := 0) (by show 2 * 0 + _ ≤ _; exact Nat.le_of_eq rfl) (by decide)
  have pre3 : ∀ t, Steps p.tables e below (T2.setTop (mkF m 4 #[.val (.ref a), .val (.int p1), .val (.ref r2), .val (.int p3), .val (.int p4), .val (.ref r5), .val (.ref r6), .val (.int p7)] [])) t → Steps p.tables e below (s₁.setTop (entryFrame m #[(.ref a), (.int p1), (.ref r2), (.int p3), (.int p4), (.ref r5), (.ref r6), (.int p7)] 8)) t := fun t k => pre1 t (st2 t k)
  have pre4 : ∀ t, Steps p.tables e below (T2.setTop (mkF m 6 #[.val (.ref a), .val (.int p1), .val (.ref r2), .val (.int p3), .val (.int p4), .val (.ref r5), .val (.ref r6), .val (.int p7)] [(.int p1), (.ref a)])) t → Steps p.tables e below (s₁.setTop (entryFrame m #[(.ref a), (.int p1), (.ref r2), (.int p3), (.int p4), (.ref r5), (.ref r6), (.int p7)] 8)) t := fun t k => pre3 t (by
    show Steps p.tables e below (T2.setTop (mkF m 4 #[.val (.ref a), .val (.int p1), .val (.ref r2), .val (.int p3), .val (.int p4), .val (.ref r5), .val (.ref r6), .val (.int p7)] [])) _
    refine XS.aloadN X2.here hx rfl (hb hby d2_4) rfl rfl ?_
    show Steps p.tables e below (T2.setTop (mkF m 5 #[.val (.ref a), .val (.int p1), .val (.ref r2), .val (.int p3), .val (.int p4), .val (.ref r5), .val (.ref r6), .val (.int p7)] [(.ref a)])) _
    refine XS.iloadN X2.here hx rfl (hb hby d2_5) rfl ?_
    show Steps p.tables e below (T2.setTop (mkF m 6 #[.val (.ref a), .val (.int p1), .val (.ref r2), .val (.int p3), .val (.int p4), .val (.ref r5), .val (.ref r6), .val (.int p7)] [(.int p1), (.ref a)])) _
    exact k)
  obtain ⟨T5, h5, X5, e5, W5, st5⟩ := putF X2 hx hZ hown (host := "") (Or.inl (hw _ (List.mem_of_getElem? (i := 15) rfl))) Via.refl e2 F_a_encoder E_a (Or.inr ⟨(hw _ (List.mem_of_getElem? (i := 16) rfl)), rfl, hnm⟩) (hw _ (List.mem_of_getElem? (i := 7) rfl)) (ty := .int) (by decide) rfl rfl (g := (mkF m 6 #[.val (.ref a), .val (.int p1), .val (.ref r2), .val (.int p3), .val (.int p4), .val (.ref r5), .val (.ref r6), .val (.int p7)] [(.int p1), (.ref a)])) rfl rfl (hb hby d2_6)
  have F_a_encoder : Fld Z h5 a "com/example/rackstripe/rackstripe/StripePlan" "encoder" "I" (.int p1) := F_a_encoder.same W5
  have E_a := E_a.wr W5
  have F_a_sources := F_a_sources.other W5 (Or.inr (slot_ne (Or.inr (hw _ (List.mem_of_getElem? (i := 18) rfl))) (Or.inr (hw _ (List.mem_of_getElem? (i := 16) rfl))) (by decide) (t := (.array .int)) (t' := .int) (by decide) (by decide)))
  have F_a_crossRackDownloads := F_a_crossRackDownloads.other W5 (Or.inr (slot_ne (Or.inr (hw _ (List.mem_of_getElem? (i := 20) rfl))) (Or.inr (hw _ (List.mem_of_getElem? (i := 16) rfl))) (by decide) (t := .int) (t' := .int) (by decide) (by decide)))
  have F_a_intraRackDownloads := F_a_intraRackDownloads.other W5 (Or.inr (slot_ne (Or.inr (hw _ (List.mem_of_getElem? (i := 22) rfl))) (Or.inr (hw _ (List.mem_of_getElem? (i := 16) rfl))) (by decide) (t := .int) (t' := .int) (by decide) (by decide)))
  have F_a_kept := F_a_kept.other W5 (Or.inr (slot_ne (Or.inr (hw _ (List.mem_of_getElem? (i := 24) rfl))) (Or.inr (hw _ (List.mem_of_getElem? (i := 16) rfl))) (by decide) (t := (.array .int)) (t' := .int) (by decide) (by decide)))
  have F_a_parity := F_a_parity.other W5 (Or.inr (slot_ne (Or.inr (hw _ (List.mem_of_getElem? (i := 26) rfl))) (Or.inr (hw _ (List.mem_of_getElem? (i := 16) rfl))) (by decide) (t := (.array .int)) (t' := .int) (by decide) (by decide)))
  have F_a_parityUnplaced := F_a_parityUnplaced.other W5 (Or.inr (slot_ne (Or.inr (hw _ (List.mem_of_getElem? (i := 28) rfl))) (Or.inr (hw _ (List.mem_of_getElem? (i := 16) rfl))) (by decide) (t := .int) (t' := .int) (by decide) (by decide)))
  have K := K.wr W5 (Or.inl (List.mem_of_getElem? (i := 0) rfl))
  have Z5 : n0 ≤ h5.size := Nat.le_trans Z0 (Keep.of_wr W5).1
  have N5 := Fr.snoc X5 N0 g_a
  have pre6 : ∀ t, Steps p.tables e below (T5.setTop (mkF m 9 #[.val (.ref a), .val (.int p1), .val (.ref r2), .val (.int p3), .val (.int p4), .val (.ref r5), .val (.ref r6), .val (.int p7)] [])) t → Steps p.tables e below (s₁.setTop (entryFrame m #[(.ref a), (.int p1), (.ref r2), (.int p3), (.int p4), (.ref r5), (.ref r6), (.int p7)] 8)) t := fun t k => pre4 t (st5 t k)
  have pre7 : ∀ t, Steps p.tables e below (T5.setTop (mkF m 11 #[.val (.ref a), .val (.int p1), .val (.ref r2), .val (.int p3), .val (.int p4), .val (.ref r5), .val (.ref r6), .val (.int p7)] [(.ref r2), (.ref a)])) t → Steps p.tables e below (s₁.setTop (entryFrame m #[(.ref a), (.int p1), (.ref r2), (.int p3), (.int p4), (.ref r5), (.ref r6), (.int p7)] 8)) t := fun t k => pre6 t (by
    show Steps p.tables e below (T5.setTop (mkF m 9 #[.val (.ref a), .val (.int p1), .val (.ref r2), .val (.int p3), .val (.int p4), .val (.ref r5), .val (.ref r6), .val (.int p7)] [])) _
    refine XS.aloadN X5.here hx rfl (hb hby d2_9) rfl rfl ?_
    show Steps p.tables e below (T5.setTop (mkF m 10 #[.val (.ref a), .val (.int p1), .val (.ref r2), .val (.int p3), .val (.int p4), .val (.ref r5), .val (.ref r6), .val (.int p7)] [(.ref a)])) _
    refine XS.aloadN X5.here hx rfl (hb hby d2_10) rfl rfl ?_
    show Steps p.tables e below (T5.setTop (mkF m 11 #[.val (.ref a), .val (.int p1), .val (.ref r2), .val (.int p3), .val (.int p4), .val (.ref r5), .val (.ref r6), .val (.int p7)] [(.ref r2), (.ref a)])) _
    exact k)
  obtain ⟨T8, h8, X8, e8, W8, st8⟩ := putF X5 hx hZ hown (host := "") (Or.inl (hw _ (List.mem_of_getElem? (i := 17) rfl))) Via.refl e5 F_a_sources E_a (Or.inr ⟨(hw _ (List.mem_of_getElem? (i := 18) rfl)), rfl, hnm⟩) (hw _ (List.mem_of_getElem? (i := 7) rfl)) (ty := (.array .int)) (by decide) rfl rfl (g := (mkF m 11 #[.val (.ref a), .val (.int p1), .val (.ref r2), .val (.int p3), .val (.int p4), .val (.ref r5), .val (.ref r6), .val (.int p7)] [(.ref r2), (.ref a)])) rfl rfl (hb hby d2_11)
  have F_a_sources : Fld Z h8 a "com/example/rackstripe/rackstripe/StripePlan" "sources" "[I" (.ref r2) := F_a_sources.same W8
  have E_a := E_a.wr W8
  have F_a_encoder := F_a_encoder.other W8 (Or.inr (slot_ne (Or.inr (hw _ (List.mem_of_getElem? (i := 16) rfl))) (Or.inr (hw _ (List.mem_of_getElem? (i := 18) rfl))) (by decide) (t := .int) (t' := (.array .int)) (by decide) (by decide)))
  have F_a_crossRackDownloads := F_a_crossRackDownloads.other W8 (Or.inr (slot_ne (Or.inr (hw _ (List.mem_of_getElem? (i := 20) rfl))) (Or.inr (hw _ (List.mem_of_getElem? (i := 18) rfl))) (by decide) (t := .int) (t' := (.array .int)) (by decide) (by decide)))
  have F_a_intraRackDownloads := F_a_intraRackDownloads.other W8 (Or.inr (slot_ne (Or.inr (hw _ (List.mem_of_getElem? (i := 22) rfl))) (Or.inr (hw _ (List.mem_of_getElem? (i := 18) rfl))) (by decide) (t := .int) (t' := (.array .int)) (by decide) (by decide)))
  have F_a_kept := F_a_kept.other W8 (Or.inr (slot_ne (Or.inr (hw _ (List.mem_of_getElem? (i := 24) rfl))) (Or.inr (hw _ (List.mem_of_getElem? (i := 18) rfl))) (by decide) (t := (.array .int)) (t' := (.array .int)) (by decide) (by decide)))
  have F_a_parity := F_a_parity.other W8 (Or.inr (slot_ne (Or.inr (hw _ (List.mem_of_getElem? (i := 26) rfl))) (Or.inr (hw _ (List.mem_of_getElem? (i := 18) rfl))) (by decide) (t := (.array .int)) (t' := (.array .int)) (by decide) (by decide)))
  have F_a_parityUnplaced := F_a_parityUnplaced.other W8 (Or.inr (slot_ne (Or.inr (hw _ (List.mem_of_getElem? (i := 28) rfl))) (Or.inr (hw _ (List.mem_of_getElem? (i := 18) rfl))) (by decide) (t := .int) (t' := (.array .int)) (by decide) (by decide)))
  have K := K.wr W8 (Or.inl (List.mem_of_getElem? (i := 0) rfl))
  have Z8 : n0 ≤ h8.size := Nat.le_trans Z5 (Keep.of_wr W8).1
  have N8 := Fr.snoc X8 N5 g_a
  have pre9 : ∀ t, Steps p.tables e below (T8.setTop (mkF m 14 #[.val (.ref a), .val (.int p1), .val (.ref r2), .val (.int p3), .val (.int p4), .val (.ref r5), .val (.ref r6), .val (.int p7)] [])) t → Steps p.tables e below (s₁.setTop (entryFrame m #[(.ref a), (.int p1), (.ref r2), (.int p3), (.int p4), (.ref r5), (.ref r6), (.int p7)] 8)) t := fun t k => pre7 t (st8 t k)
  have pre10 : ∀ t, Steps p.tables e below (T8.setTop (mkF m 16 #[.val (.ref a), .val (.int p1), .val (.ref r2), .val (.int p3), .val (.int p4), .val (.ref r5), .val (.ref r6), .val (.int p7)] [(.int p3), (.ref a)])) t → Steps p.tables e below (s₁.setTop (entryFrame m #[(.ref a), (.int p1), (.ref r2), (.int p3), (.int p4), (.ref r5), (.ref r6), (.int p7)] 8)) t := fun t k => pre9 t (by
    show Steps p.tables e below (T8.setTop (mkF m 14 #[.val (.ref a), .val (.int p1), .val (.ref r2), .val (.int p3), .val (.int p4), .val (.ref r5), .val (.ref r6), .val (.int p7)] [])) _
    refine XS.aloadN X8.here hx rfl (hb hby d2_14) rfl rfl ?_
    show Steps p.tables e below (T8.setTop (mkF m 15 #[.val (.ref a), .val (.int p1), .val (.ref r2), .val (.int p3), .val (.int p4), .val (.ref r5), .val (.ref r6), .val (.int p7)] [(.ref a)])) _
    refine XS.iloadN X8.here hx rfl (hb hby d2_15) rfl ?_
    show Steps p.tables e below (T8.setTop (mkF m 16 #[.val (.ref a), .val (.int p1), .val (.ref r2), .val (.int p3), .val (.int p4), .val (.ref r5), .val (.ref r6), .val (.int p7)] [(.int p3), (.ref a)])) _
    exact k)
  obtain ⟨T11, h11, X11, e11, W11, st11⟩ := putF X8 hx hZ hown (host := "") (Or.inl (hw _ (List.mem_of_getElem? (i := 19) rfl))) Via.refl e8 F_a_crossRackDownloads E_a (Or.inr ⟨(hw _ (List.mem_of_getElem? (i := 20) rfl)), rfl, hnm⟩) (hw _ (List.mem_of_getElem? (i := 7) rfl)) (ty := .int) (by decide) rfl rfl (g := (mkF m 16 #[.val (.ref a), .val (.int p1), .val (.ref r2), .val (.int p3), .val (.int p4), .val (.ref r5), .val (.ref r6), .val (.int p7)] [(.int p3), (.ref a)])) rfl rfl (hb hby d2_16)
  have F_a_crossRackDownloads : Fld Z h11 a "com/example/rackstripe/rackstripe/StripePlan" "crossRackDownloads" "I" (.int p3) := F_a_crossRackDownloads.same W11
  have E_a := E_a.wr W11
  have F_a_encoder := F_a_encoder.other W11 (Or.inr (slot_ne (Or.inr (hw _ (List.mem_of_getElem? (i := 16) rfl))) (Or.inr (hw _ (List.mem_of_getElem? (i := 20) rfl))) (by decide) (t := .int) (t' := .int) (by decide) (by decide)))
  have F_a_sources := F_a_sources.other W11 (Or.inr (slot_ne (Or.inr (hw _ (List.mem_of_getElem? (i := 18) rfl))) (Or.inr (hw _ (List.mem_of_getElem? (i := 20) rfl))) (by decide) (t := (.array .int)) (t' := .int) (by decide) (by decide)))
  have F_a_intraRackDownloads := F_a_intraRackDownloads.other W11 (Or.inr (slot_ne (Or.inr (hw _ (List.mem_of_getElem? (i := 22) rfl))) (Or.inr (hw _ (List.mem_of_getElem? (i := 20) rfl))) (by decide) (t := .int) (t' := .int) (by decide) (by decide)))
  have F_a_kept := F_a_kept.other W11 (Or.inr (slot_ne (Or.inr (hw _ (List.mem_of_getElem? (i := 24) rfl))) (Or.inr (hw _ (List.mem_of_getElem? (i := 20) rfl))) (by decide) (t := (.array .int)) (t' := .int) (by decide) (by decide)))
  have F_a_parity := F_a_parity.other W11 (Or.inr (slot_ne (Or.inr (hw _ (List.mem_of_getElem? (i := 26) rfl))) (Or.inr (hw _ (List.mem_of_getElem? (i := 20) rfl))) (by decide) (t := (.array .int)) (t' := .int) (by decide) (by decide)))
  have F_a_parityUnplaced := F_a_parityUnplaced.other W11 (Or.inr (slot_ne (Or.inr (hw _ (List.mem_of_getElem? (i := 28) rfl))) (Or.inr (hw _ (List.mem_of_getElem? (i := 20) rfl))) (by decide) (t := .int) (t' := .int) (by decide) (by decide)))
  have K := K.wr W11 (Or.inl (List.mem_of_getElem? (i := 0) rfl))
  have Z11 : n0 ≤ h11.size := Nat.le_trans Z8 (Keep.of_wr W11).1
  have N11 := Fr.snoc X11 N8 g_a
  have pre12 : ∀ t, Steps p.tables e below (T11.setTop (mkF m 19 #[.val (.ref a), .val (.int p1), .val (.ref r2), .val (.int p3), .val (.int p4), .val (.ref r5), .val (.ref r6), .val (.int p7)] [])) t → Steps p.tables e below (s₁.setTop (entryFrame m #[(.ref a), (.int p1), (.ref r2), (.int p3), (.int p4), (.ref r5), (.ref r6), (.int p7)] 8)) t := fun t k => pre10 t (st11 t k)
  have pre13 : ∀ t, Steps p.tables e below (T11.setTop (mkF m 22 #[.val (.ref a), .val (.int p1), .val (.ref r2), .val (.int p3), .val (.int p4), .val (.ref r5), .val (.ref r6), .val (.int p7)] [(.int p4), (.ref a)])) t → Steps p.tables e below (s₁.setTop (entryFrame m #[(.ref a), (.int p1), (.ref r2), (.int p3), (.int p4), (.ref r5), (.ref r6), (.int p7)] 8)) t := fun t k => pre12 t (by
    show Steps p.tables e below (T11.setTop (mkF m 19 #[.val (.ref a), .val (.int p1), .val (.ref r2), .val (.int p3), .val (.int p4), .val (.ref r5), .val (.ref r6), .val (.int p7)] [])) _
    refine XS.aloadN X11.here hx rfl (hb hby d2_19) rfl rfl ?_
    show Steps p.tables e below (T11.setTop (mkF m 20 #[.val (.ref a), .val (.int p1), .val (.ref r2), .val (.int p3), .val (.int p4), .val (.ref r5), .val (.ref r6), .val (.int p7)] [(.ref a)])) _
    refine XS.iload X11.here hx rfl (hb hby d2_20) rfl ?_
    show Steps p.tables e below (T11.setTop (mkF m 22 #[.val (.ref a), .val (.int p1), .val (.ref r2), .val (.int p3), .val (.int p4), .val (.ref r5), .val (.ref r6), .val (.int p7)] [(.int p4), (.ref a)])) _
    exact k)
  obtain ⟨T14, h14, X14, e14, W14, st14⟩ := putF X11 hx hZ hown (host := "") (Or.inl (hw _ (List.mem_of_getElem? (i := 21) rfl))) Via.refl e11 F_a_intraRackDownloads E_a (Or.inr ⟨(hw _ (List.mem_of_getElem? (i := 22) rfl)), rfl, hnm⟩) (hw _ (List.mem_of_getElem? (i := 7) rfl)) (ty := .int) (by decide) rfl rfl (g := (mkF m 22 #[.val (.ref a), .val (.int p1), .val (.ref r2), .val (.int p3), .val (.int p4), .val (.ref r5), .val (.ref r6), .val (.int p7)] [(.int p4), (.ref a)])) rfl rfl (hb hby d2_22)
  have F_a_intraRackDownloads : Fld Z h14 a "com/example/rackstripe/rackstripe/StripePlan" "intraRackDownloads" "I" (.int p4) := F_a_intraRackDownloads.same W14
  have E_a := E_a.wr W14
  have F_a_encoder := F_a_encoder.other W14 (Or.inr (slot_ne (Or.inr (hw _ (List.mem_of_getElem? (i := 16) rfl))) (Or.inr (hw _ (List.mem_of_getElem? (i := 22) rfl))) (by decide) (t := .int) (t' := .int) (by decide) (by decide)))
  have F_a_sources := F_a_sources.other W14 (Or.inr (slot_ne (Or.inr (hw _ (List.mem_of_getElem? (i := 18) rfl))) (Or.inr (hw _ (List.mem_of_getElem? (i := 22) rfl))) (by decide) (t := (.array .int)) (t' := .int) (by decide) (by decide)))
  have F_a_crossRackDownloads := F_a_crossRackDownloads.other W14 (Or.inr (slot_ne (Or.inr (hw _ (List.mem_of_getElem? (i := 20) rfl))) (Or.inr (hw _ (List.mem_of_getElem? (i := 22) rfl))) (by decide) (t := .int) (t' := .int) (by decide) (by decide)))
  have F_a_kept := F_a_kept.other W14 (Or.inr (slot_ne (Or.inr (hw _ (List.mem_of_getElem? (i := 24) rfl))) (Or.inr (hw _ (List.mem_of_getElem? (i := 22) rfl))) (by decide) (t := (.array .int)) (t' := .int) (by decide) (by decide)))
  have F_a_parity := F_a_parity.other W14 (Or.inr (slot_ne (Or.inr (hw _ (List.mem_of_getElem? (i := 26) rfl))) (Or.inr (hw _ (List.mem_of_getElem? (i := 22) rfl))) (by decide) (t := (.array .int)) (t' := .int) (by decide) (by decide)))
  have F_a_parityUnplaced := F_a_parityUnplaced.other W14 (Or.inr (slot_ne (Or.inr (hw _ (List.mem_of_getElem? (i := 28) rfl))) (Or.inr (hw _ (List.mem_of_getElem? (i := 22) rfl))) (by decide) (t := .int) (t' := .int) (by decide) (by decide)))
  have K := K.wr W14 (Or.inl (List.mem_of_getElem? (i := 0) rfl))
  have Z14 : n0 ≤ h14.size := Nat.le_trans Z11 (Keep.of_wr W14).1
  have N14 := Fr.snoc X14 N11 g_a
  have pre15 : ∀ t, Steps p.tables e below (T14.setTop (mkF m 25 #[.val (.ref a), .val (.int p1), .val (.ref r2), .val (.int p3), .val (.int p4), .val (.ref r5), .val (.ref r6), .val (.int p7)] [])) t → Steps p.tables e below (s₁.setTop (entryFrame m #[(.ref a), (.int p1), (.ref r2), (.int p3), (.int p4), (.ref r5), (.ref r6), (.int p7)] 8)) t := fun t k => pre13 t (st14 t k)
  have pre16 : ∀ t, Steps p.tables e below (T14.setTop (mkF m 28 #[.val (.ref a), .val (.int p1), .val (.ref r2), .val (.int p3), .val (.int p4), .val (.ref r5), .val (.ref r6), .val (.int p7)] [(.ref r5), (.ref a)])) t → Steps p.tables e below (s₁.setTop (entryFrame m #[(.ref a), (.int p1), (.ref r2), (.int p3), (.int p4), (.ref r5), (.ref r6), (.int p7)] 8)) t := fun t k => pre15 t (by
    show Steps p.tables e below (T14.setTop (mkF m 25 #[.val (.ref a), .val (.int p1), .val (.ref r2), .val (.int p3), .val (.int p4), .val (.ref r5), .val (.ref r6), .val (.int p7)] [])) _
    refine XS.aloadN X14.here hx rfl (hb hby d2_25) rfl rfl ?_
    show Steps p.tables e below (T14.setTop (mkF m 26 #[.val (.ref a), .val (.int p1), .val (.ref r2), .val (.int p3), .val (.int p4), .val (.ref r5), .val (.ref r6), .val (.int p7)] [(.ref a)])) _
    refine XS.aload X14.here hx rfl (hb hby d2_26) rfl rfl ?_
    show Steps p.tables e below (T14.setTop (mkF m 28 #[.val (.ref a), .val (.int p1), .val (.ref r2), .val (.int p3), .val (.int p4), .val (.ref r5), .val (.ref r6), .val (.int p7)] [(.ref r5), (.ref a)])) _
    exact k)
  obtain ⟨T17, h17, X17, e17, W17, st17⟩ := putF X14 hx hZ hown (host := "") (Or.inl (hw _ (List.mem_of_getElem? (i := 23) rfl))) Via.refl e14 F_a_kept E_a (Or.inr ⟨(hw _ (List.mem_of_getElem? (i := 24) rfl)), rfl, hnm⟩) (hw _ (List.mem_of_getElem? (i := 7) rfl)) (ty := (.array .int)) (by decide) rfl rfl (g := (mkF m 28 #[.val (.ref a), .val (.int p1), .val (.ref r2), .val (.int p3), .val (.int p4), .val (.ref r5), .val (.ref r6), .val (.int p7)] [(.ref r5), (.ref a)])) rfl rfl (hb hby d2_28)
  have F_a_kept : Fld Z h17 a "com/example/rackstripe/rackstripe/StripePlan" "kept" "[I" (.ref r5) := F_a_kept.same W17
  have E_a := E_a.wr W17
  have F_a_encoder := F_a_encoder.other W17 (Or.inr (slot_ne (Or.inr (hw _ (List.mem_of_getElem? (i := 16) rfl))) (Or.inr (hw _ (List.mem_of_getElem? (i := 24) rfl))) (by decide) (t := .int) (t' := (.array .int)) (by decide) (by decide)))
  have F_a_sources := F_a_sources.other W17 (Or.inr (slot_ne (Or.inr (hw _ (List.mem_of_getElem? (i := 18) rfl))) (Or.inr (hw _ (List.mem_of_getElem? (i := 24) rfl))) (by decide) (t := (.array .int)) (t' := (.array .int)) (by decide) (by decide)))
  have F_a_crossRackDownloads := F_a_crossRackDownloads.other W17 (Or.inr (slot_ne (Or.inr (hw _ (List.mem_of_getElem? (i := 20) rfl))) (Or.inr (hw _ (List.mem_of_getElem? (i := 24) rfl))) (by decide) (t := .int) (t' := (.array .int)) (by decide) (by decide)))
  have F_a_intraRackDownloads := F_a_intraRackDownloads.other W17 (Or.inr (slot_ne (Or.inr (hw _ (List.mem_of_getElem? (i := 22) rfl))) (Or.inr (hw _ (List.mem_of_getElem? (i := 24) rfl))) (by decide) (t := .int) (t' := (.array .int)) (by decide) (by decide)))
  have F_a_parity := F_a_parity.other W17 (Or.inr (slot_ne (Or.inr (hw _ (List.mem_of_getElem? (i := 26) rfl))) (Or.inr (hw _ (List.mem_of_getElem? (i := 24) rfl))) (by decide) (t := (.array .int)) (t' := (.array .int)) (by decide) (by decide)))
  have F_a_parityUnplaced := F_a_parityUnplaced.other W17 (Or.inr (slot_ne (Or.inr (hw _ (List.mem_of_getElem? (i := 28) rfl))) (Or.inr (hw _ (List.mem_of_getElem? (i := 24) rfl))) (by decide) (t := .int) (t' := (.array .int)) (by decide) (by decide)))
  have K := K.wr W17 (Or.inl (List.mem_of_getElem? (i := 0) rfl))
  have Z17 : n0 ≤ h17.size := Nat.le_trans Z14 (Keep.of_wr W17).1
  have N17 := Fr.snoc X17 N14 g_a
  have pre18 : ∀ t, Steps p.tables e below (T17.setTop (mkF m 31 #[.val (.ref a), .val (.int p1), .val (.ref r2), .val (.int p3), .val (.int p4), .val (.ref r5), .val (.ref r6), .val (.int p7)] [])) t → Steps p.tables e below (s₁.setTop (entryFrame m #[(.ref a), (.int p1), (.ref r2), (.int p3), (.int p4), (.ref r5), (.ref r6), (.int p7)] 8)) t := fun t k => pre16 t (st17 t k)
  have pre19 : ∀ t, Steps p.tables e below (T17.setTop (mkF m 34 #[.val (.ref a), .val (.int p1), .val (.ref r2), .val (.int p3), .val (.int p4), .val (.ref r5), .val (.ref r6), .val (.int p7)] [(.ref r6), (.ref a)])) t → Steps p.tables e below (s₁.setTop (entryFrame m #[(.ref a), (.int p1), (.ref r2), (.int p3), (.int p4), (.ref r5), (.ref r6), (.int p7)] 8)) t := fun t k => pre18 t (by
    show Steps p.tables e below (T17.setTop (mkF m 31 #[.val (.ref a), .val (.int p1), .val (.ref r2), .val (.int p3), .val (.int p4), .val (.ref r5), .val (.ref r6), .val (.int p7)] [])) _
    refine XS.aloadN X17.here hx rfl (hb hby d2_31) rfl rfl ?_
    show Steps p.tables e below (T17.setTop (mkF m 32 #[.val (.ref a), .val (.int p1), .val (.ref r2), .val (.int p3), .val (.int p4), .val (.ref r5), .val (.ref r6), .val (.int p7)] [(.ref a)])) _
    refine XS.aload X17.here hx rfl (hb hby d2_32) rfl rfl ?_
    show Steps p.tables e below (T17.setTop (mkF m 34 #[.val (.ref a), .val (.int p1), .val (.ref r2), .val (.int p3), .val (.int p4), .val (.ref r5), .val (.ref r6), .val (.int p7)] [(.ref r6), (.ref a)])) _
    exact k)
  obtain ⟨T20, h20, X20, e20, W20, st20⟩ := putF X17 hx hZ hown (host := "") (Or.inl (hw _ (List.mem_of_getElem? (i := 25) rfl))) Via.refl e17 F_a_parity E_a (Or.inr ⟨(hw _ (List.mem_of_getElem? (i := 26) rfl)), rfl, hnm⟩) (hw _ (List.mem_of_getElem? (i := 7) rfl)) (ty := (.array .int)) (by decide) rfl rfl (g := (mkF m 34 #[.val (.ref a), .val (.int p1), .val (.ref r2), .val (.int p3), .val (.int p4), .val (.ref r5), .val (.ref r6), .val (.int p7)] [(.ref r6), (.ref a)])) rfl rfl (hb hby d2_34)
  have F_a_parity : Fld Z h20 a "com/example/rackstripe/rackstripe/StripePlan" "parity" "[I" (.ref r6) := F_a_parity.same W20
  have E_a := E_a.wr W20
  have F_a_encoder := F_a_encoder.other W20 (Or.inr (slot_ne (Or.inr (hw _ (List.mem_of_getElem? (i := 16) rfl))) (Or.inr (hw _ (List.mem_of_getElem? (i := 26) rfl))) (by decide) (t := .int) (t' := (.array .int)) (by decide) (by decide)))
  have F_a_sources := F_a_sources.other W20 (Or.inr (slot_ne (Or.inr (hw _ (List.mem_of_getElem? (i := 18) rfl))) (Or.inr (hw _ (List.mem_of_getElem? (i := 26) rfl))) (by decide) (t := (.array .int)) (t' := (.array .int)) (by decide) (by decide)))
  have F_a_crossRackDownloads := F_a_crossRackDownloads.other W20 (Or.inr (slot_ne (Or.inr (hw _ (List.mem_of_getElem? (i := 20) rfl))) (Or.inr (hw _ (List.mem_of_getElem? (i := 26) rfl))) (by decide) (t := .int) (t' := (.array .int)) (by decide) (by decide)))
  have F_a_intraRackDownloads := F_a_intraRackDownloads.other W20 (Or.inr (slot_ne (Or.inr (hw _ (List.mem_of_getElem? (i := 22) rfl))) (Or.inr (hw _ (List.mem_of_getElem? (i := 26) rfl))) (by decide) (t := .int) (t' := (.array .int)) (by decide) (by decide)))
  have F_a_kept := F_a_kept.other W20 (Or.inr (slot_ne (Or.inr (hw _ (List.mem_of_getElem? (i := 24) rfl))) (Or.inr (hw _ (List.mem_of_getElem? (i := 26) rfl))) (by decide) (t := (.array .int)) (t' := (.array .int)) (by decide) (by decide)))
  have F_a_parityUnplaced := F_a_parityUnplaced.other W20 (Or.inr (slot_ne (Or.inr (hw _ (List.mem_of_getElem? (i := 28) rfl))) (Or.inr (hw _ (List.mem_of_getElem? (i := 26) rfl))) (by decide) (t := .int) (t' := (.array .int)) (by decide) (by decide)))
  have K := K.wr W20 (Or.inl (List.mem_of_getElem? (i := 0) rfl))
  have Z20 : n0 ≤ h20.size := Nat.le_trans Z17 (Keep.of_wr W20).1
  have N20 := Fr.snoc X20 N17 g_a
  have pre21 : ∀ t, Steps p.tables e below (T20.setTop (mkF m 37 #[.val (.ref a), .val (.int p1), .val (.ref r2), .val (.int p3), .val (.int p4), .val (.ref r5), .val (.ref r6), .val (.int p7)] [])) t → Steps p.tables e below (s₁.setTop (entryFrame m #[(.ref a), (.int p1), (.ref r2), (.int p3), (.int p4), (.ref r5), (.ref r6), (.int p7)] 8)) t := fun t k => pre19 t (st20 t k)
  have pre22 : ∀ t, Steps p.tables e below (T20.setTop (mkF m 40 #[.val (.ref a), .val (.int p1), .val (.ref r2), .val (.int p3), .val (.int p4), .val (.ref r5), .val (.ref r6), .val (.int p7)] [(.int p7), (.ref a)])) t → Steps p.tables e below (s₁.setTop (entryFrame m #[(.ref a), (.int p1), (.ref r2), (.int p3), (.int p4), (.ref r5), (.ref r6), (.int p7)] 8)) t := fun t k => pre21 t (by
    show Steps p.tables e below (T20.setTop (mkF m 37 #[.val (.ref a), .val (.int p1), .val (.ref r2), .val (.int p3), .val (.int p4), .val (.ref r5), .val (.ref r6), .val (.int p7)] [])) _
    refine XS.aloadN X20.here hx rfl (hb hby d2_37) rfl rfl ?_
    show Steps p.tables e below (T20.setTop (mkF m 38 #[.val (.ref a), .val (.int p1), .val (.ref r2), .val (.int p3), .val (.int p4), .val (.ref r5), .val (.ref r6), .val (.int p7)] [(.ref a)])) _
    refine XS.iload X20.here hx rfl (hb hby d2_38) rfl ?_
    show Steps p.tables e below (T20.setTop (mkF m 40 #[.val (.ref a), .val (.int p1), .val (.ref r2), .val (.int p3), .val (.int p4), .val (.ref r5), .val (.ref r6), .val (.int p7)] [(.int p7), (.ref a)])) _
    exact k)
  obtain ⟨T23, h23, X23, e23, W23, st23⟩ := putF X20 hx hZ hown (host := "") (Or.inl (hw _ (List.mem_of_getElem? (i := 27) rfl))) Via.refl e20 F_a_parityUnplaced E_a (Or.inr ⟨(hw _ (List.mem_of_getElem? (i := 28) rfl)), rfl, hnm⟩) (hw _ (List.mem_of_getElem? (i := 7) rfl)) (ty := .int) (by decide) rfl rfl (g := (mkF m 40 #[.val (.ref a), .val (.int p1), .val (.ref r2), .val (.int p3), .val (.int p4), .val (.ref r5), .val (.ref r6), .val (.int p7)] [(.int p7), (.ref a)])) rfl rfl (hb hby d2_40)
  have F_a_parityUnplaced : Fld Z h23 a "com/example/rackstripe/rackstripe/StripePlan" "parityUnplaced" "I" (.int p7) := F_a_parityUnplaced.same W23
  have E_a := E_a.wr W23
  have F_a_encoder := F_a_encoder.other W23 (Or.inr (slot_ne (Or.inr (hw _ (List.mem_of_getElem? (i := 16) rfl))) (Or.inr (hw _ (List.mem_of_getElem? (i := 28) rfl))) (by decide) (t := .int) (t' := .int) (by decide) (by decide)))
  have F_a_sources := F_a_sources.other W23 (Or.inr (slot_ne (Or.inr (hw _ (List.mem_of_getElem? (i := 18) rfl))) (Or.inr (hw _ (List.mem_of_getElem? (i := 28) rfl))) (by decide) (t := (.array .int)) (t' := .int) (by decide) (by decide)))
  have F_a_crossRackDownloads := F_a_crossRackDownloads.other W23 (Or.inr (slot_ne (Or.inr (hw _ (List.mem_of_getElem? (i := 20) rfl))) (Or.inr (hw _ (List.mem_of_getElem? (i := 28) rfl))) (by decide) (t := .int) (t' := .int) (by decide) (by decide)))
  have F_a_intraRackDownloads := F_a_intraRackDownloads.other W23 (Or.inr (slot_ne (Or.inr (hw _ (List.mem_of_getElem? (i := 22) rfl))) (Or.inr (hw _ (List.mem_of_getElem? (i := 28) rfl))) (by decide) (t := .int) (t' := .int) (by decide) (by decide)))
  have F_a_kept := F_a_kept.other W23 (Or.inr (slot_ne (Or.inr (hw _ (List.mem_of_getElem? (i := 24) rfl))) (Or.inr (hw _ (List.mem_of_getElem? (i := 28) rfl))) (by decide) (t := (.array .int)) (t' := .int) (by decide) (by decide)))
  have F_a_parity := F_a_parity.other W23 (Or.inr (slot_ne (Or.inr (hw _ (List.mem_of_getElem? (i := 26) rfl))) (Or.inr (hw _ (List.mem_of_getElem? (i := 28) rfl))) (by decide) (t := (.array .int)) (t' := .int) (by decide) (by decide)))
  have K := K.wr W23 (Or.inl (List.mem_of_getElem? (i := 0) rfl))
  have Z23 : n0 ≤ h23.size := Nat.le_trans Z20 (Keep.of_wr W23).1
  have N23 := Fr.snoc X23 N20 g_a
  have pre24 : ∀ t, Steps p.tables e below (T23.setTop (mkF m 43 #[.val (.ref a), .val (.int p1), .val (.ref r2), .val (.int p3), .val (.int p4), .val (.ref r5), .val (.ref r6), .val (.int p7)] [])) t → Steps p.tables e below (s₁.setTop (entryFrame m #[(.ref a), (.int p1), (.ref r2), (.int p3), (.int p4), (.ref r5), (.ref r6), (.int p7)] 8)) t := fun t k => pre22 t (st23 t k)
  obtain ⟨fs, hr, hrun, hended, hW, hsame⟩ := X23.leave (v := none) (fun _ => rfl) hlk
  refine ⟨_, _, pre24 _ ?_, hrun, hended, _, _, rfl, ?_, ⟨_, rfl⟩, hW, hsame.mono (by decide) (by decide)⟩
  · show Steps p.tables e below (T23.setTop (mkF m 43 #[.val (.ref a), .val (.int p1), .val (.ref r2), .val (.int p3), .val (.int p4), .val (.ref r5), .val (.ref r6), .val (.int p7)] [])) _
    exact X23.returnOut hx Bd.returns (hb hby d2_43) hr
  · show Q2 Z a p1 r2 p3 p4 r5 r6 p7 h0 n0 _ T23.heap _
    rw [e23]
    exact ⟨rfl, N23, K, F_a_kept⟩
theorem d4_0 : decode prog_48_method_9_code 0 = .ok (.iconst 0, 1) := by decide +kernel
theorem d4_1 : decode prog_48_method_9_code 1 = .ok (.istore_n 1, 1) := by decide +kernel
theorem d4_2 : decode prog_48_method_9_code 2 = .ok (.aload_n 0, 1) := by decide +kernel
theorem d4_3 : decode prog_48_method_9_code 3 = .ok (.getfield 23, 3) := by decide +kernel
theorem d4_6 : decode prog_48_method_9_code 6 = .ok (.astore_n 2, 1) := by decide +kernel
theorem d4_7 : decode prog_48_method_9_code 7 = .ok (.aload_n 2, 1) := by decide +kernel
theorem d4_8 : decode prog_48_method_9_code 8 = .ok (.arraylength, 1) := by decide +kernel
theorem d4_9 : decode prog_48_method_9_code 9 = .ok (.istore_n 3, 1) := by decide +kernel
theorem d4_10 : decode prog_48_method_9_code 10 = .ok (.iconst 0, 1) := by decide +kernel
theorem d4_11 : decode prog_48_method_9_code 11 = .ok (.istore 4, 2) := by decide +kernel
theorem d4_13 : decode prog_48_method_9_code 13 = .ok (.iload 4, 2) := by decide +kernel
theorem d4_15 : decode prog_48_method_9_code 15 = .ok (.iload_n 3, 1) := by decide +kernel
theorem d4_16 : decode prog_48_method_9_code 16 = .ok (.if_icmp .ge 28, 3) := by decide +kernel
theorem d4_44 : decode prog_48_method_9_code 44 = .ok (.iload_n 1, 1) := by decide +kernel
theorem d4_45 : decode prog_48_method_9_code 45 = .ok (.ireturn, 1) := by decide +kernel
theorem ef_4 (m : MethodId) (a : Addr) : entryFrame m #[(.ref a)] 6 = mkF m 0 #[.val (.ref a), .unset, .unset, .unset, .unset, .unset] [] := by first | (simp [entryFrame, mkF, argsToLocals, Value.category]; done) | rfl
def QR0 (Z : State) (a : Addr) (f : Nat → Int32) (w_kept : Addr) (h0 : Heap) (n0 : Nat) (v : Option Value) (h : Heap) (L : List Loc) : Prop := v = some (.int (own_rel0 f)) ∧ Fr n0 L ∧ h = h0
set_option maxRecDepth 65536 in
set_option maxHeartbeats 40000000 in
theorem rmR0 (l : Launch) (Z : State) (a0 : Array Value) (hw : ∀ d ∈ tables_1, d.before a0 Z = true) (ws : List Jvm.Cond) (a : Addr) (f : Nat → Int32) (w_kept : Addr) (h0 : Heap) (n0 : Nat) (Z0 : n0 ≤ h0.size) (E_a : Exa Z h0 a "com/example/rackstripe/rackstripe/StripePlan") (F_a_kept : Fld Z h0 a "com/example/rackstripe/rackstripe/StripePlan" "kept" "[I" (.ref w_kept)) (A_w_kept : own_A Z h0 w_kept .int 0 f) :
    MetFree l (⟨"com/example/rackstripe/rackstripe/StripePlan", "relocations", "()I"⟩ : MethodName) (head1 (Jvm.Cond.code (⟨"com/example/rackstripe/rackstripe/StripePlan", "relocations", "()I"⟩ : MethodName) prog_48_method_9_code 6 (some .int) :: ws) ({ frames := 0, cells := 0, slots := 0, locals := 0 } : Room)) (fun aa U => aa = #[(.ref a)] ∧ Z.Warmed39 U.vm ∧ U.heap = h0) (fun _ _ _ _ _ => True) (fun _ U o U' => ∃ v L, o = .returned v ∧ QR0 Z a f w_kept h0 n0 v U'.heap L ∧ FrameEnd U o U' L ({ frames := 0, cells := 0, slots := 0, locals := 0 } : Room).cells ({ frames := 0, cells := 0, slots := 0, locals := 0 } : Room).slots) := by
  refine MetFree.of_bodySF (plainFor_of_name pn_StripePlan) hisR ?_
  intro p e s m args below meth c s₁ Bd hml0 hP hK
  obtain ⟨rfl, hZ, hh⟩ := hP
  have hx := Bd.exec
  have hby := Bd.bytes
  have hml : c.maxLocals = 6 := hml0
  have hown : s.vm.findClass "com/example/rackstripe/rackstripe/StripePlan" = some m.cls := findClass_of_methodNamed Bd.named
  have hnm := (name_of_methodNamed Bd.named Bd.method).1
  have X0 : Stand p l e ({ frames := 0, cells := 0, slots := 0, locals := 0 } : Room) s m #[(.ref a)] below meth c s₁ [] 0 0 := Stand.of_body Bd
  have e0 : s₁.heap = h0 := by rw [← hh, Bd.state]; rfl
  have N0 := Fr.nil n0
  have hlk : meth.locks = false := by first | exact BodyLoose.notSynchronized Bd | exact Body.notSynchronized Bd
  have pre0 : ∀ t, Steps p.tables e below (s₁.setTop (mkF m 0 #[.val (.ref a), .unset, .unset, .unset, .unset, .unset] [])) t → Steps p.tables e below (s₁.setTop (entryFrame m #[(.ref a)] 6)) t := fun t k => castTop (ef_4 m a) k
  have K : Keep h0 h0 [] := Keep.refl _ _
  have pre1 : ∀ t, Steps p.tables e below (s₁.setTop (mkF m 3 #[.val (.ref a), .val (.int (0 : Int32)), .unset, .unset, .unset, .unset] [(.ref a)])) t → Steps p.tables e below (s₁.setTop (entryFrame m #[(.ref a)] 6)) t := fun t k => pre0 t (by
    show Steps p.tables e below (s₁.setTop (mkF m 0 #[.val (.ref a), .unset, .unset, .unset, .unset, .unset] [])) _
    refine XS.iconst X0.here hx rfl (hb hby d4_0) ?_
    show Steps p.tables e below (s₁.setTop (mkF m 1 #[.val (.ref a), .unset, .unset, .unset, .unset, .unset] [(.int (0 : Int32))])) _
    refine XS.istoreN X0.here hx rfl (hb hby d4_1) rfl (l' := #[.val (.ref a), .val (.int (0 : Int32)), .unset, .unset, .unset, .unset]) rfl ?_
    show Steps p.tables e below (s₁.setTop (mkF m 2 #[.val (.ref a), .val (.int (0 : Int32)), .unset, .unset, .unset, .unset] [])) _
    refine XS.aloadN X0.here hx rfl (hb hby d4_2) rfl rfl ?_
    show Steps p.tables e below (s₁.setTop (mkF m 3 #[.val (.ref a), .val (.int (0 : Int32)), .unset, .unset, .unset, .unset] [(.ref a)])) _
    exact k)
  obtain ⟨T2, X2, e2, st2⟩ := getF X0 hx hZ hown (host := "") (Or.inl (hw _ (List.mem_of_getElem? (i := 23) rfl))) Via.refl e0 F_a_kept (g := (mkF m 3 #[.val (.ref a), .val (.int (0 : Int32)), .unset, .unset, .unset, .unset] [(.ref a)])) rfl rfl (hb hby d4_3)
  have pre3 : ∀ t, Steps p.tables e below (T2.setTop (mkF m 6 #[.val (.ref a), .val (.int (0 : Int32)), .unset, .unset, .unset, .unset] [(.ref w_kept)])) t → Steps p.tables e below (s₁.setTop (entryFrame m #[(.ref a)] 6)) t := fun t k => pre1 t (st2 t k)
  have pre4 : ∀ t, Steps p.tables e below (T2.setTop (mkF m 8 #[.val (.ref a), .val (.int (0 : Int32)), .val (.ref w_kept), .unset, .unset, .unset] [(.ref w_kept)])) t → Steps p.tables e below (s₁.setTop (entryFrame m #[(.ref a)] 6)) t := fun t k => pre3 t (by
    show Steps p.tables e below (T2.setTop (mkF m 6 #[.val (.ref a), .val (.int (0 : Int32)), .unset, .unset, .unset, .unset] [(.ref w_kept)])) _
    refine XS.astoreN X2.here hx rfl (hb hby d4_6) rfl rfl (l' := #[.val (.ref a), .val (.int (0 : Int32)), .val (.ref w_kept), .unset, .unset, .unset]) rfl ?_
    show Steps p.tables e below (T2.setTop (mkF m 7 #[.val (.ref a), .val (.int (0 : Int32)), .val (.ref w_kept), .unset, .unset, .unset] [])) _
    refine XS.aloadN X2.here hx rfl (hb hby d4_7) rfl rfl ?_
    show Steps p.tables e below (T2.setTop (mkF m 8 #[.val (.ref a), .val (.int (0 : Int32)), .val (.ref w_kept), .unset, .unset, .unset] [(.ref w_kept)])) _
    exact k)
  obtain ⟨cl5, Ar5, Sz5, Hf5⟩ := id A_w_kept
  have pre6 : ∀ t, Steps p.tables e below (T2.setTop (mkF m 9 #[.val (.ref a), .val (.int (0 : Int32)), .val (.ref w_kept), .unset, .unset, .unset] [(.int (0 : Int32))])) t → Steps p.tables e below (s₁.setTop (entryFrame m #[(.ref a)] 6)) t := fun t k => pre4 t (X2.arraylength hx (by rw [e2]; exact Ar5.1) (State.isArrayOf_alike hZ.alike Ar5.2.1) (g := (mkF m 8 #[.val (.ref a), .val (.int (0 : Int32)), .val (.ref w_kept), .unset, .unset, .unset] [(.ref w_kept)])) rfl rfl (hb hby d4_8) _ (by rw [own_len Sz5 rfl]; exact k))
  have pre7 : ∀ t, Steps p.tables e below (T2.setTop (mkF m 45 #[.val (.ref a), .val (.int (0 : Int32)), .val (.ref w_kept), .val (.int (0 : Int32)), .val (.int (0 : Int32)), .unset] [(.int (0 : Int32))])) t → Steps p.tables e below (s₁.setTop (entryFrame m #[(.ref a)] 6)) t := fun t k => pre6 t (by
    show Steps p.tables e below (T2.setTop (mkF m 9 #[.val (.ref a), .val (.int (0 : Int32)), .val (.ref w_kept), .unset, .unset, .unset] [(.int (0 : Int32))])) _
    refine XS.istoreN X2.here hx rfl (hb hby d4_9) rfl (l' := #[.val (.ref a), .val (.int (0 : Int32)), .val (.ref w_kept), .val (.int (0 : Int32)), .unset, .unset]) rfl ?_
    show Steps p.tables e below (T2.setTop (mkF m 10 #[.val (.ref a), .val (.int (0 : Int32)), .val (.ref w_kept), .val (.int (0 : Int32)), .unset, .unset] [])) _
    refine XS.iconst X2.here hx rfl (hb hby d4_10) ?_
    show Steps p.tables e below (T2.setTop (mkF m 11 #[.val (.ref a), .val (.int (0 : Int32)), .val (.ref w_kept), .val (.int (0 : Int32)), .unset, .unset] [(.int (0 : Int32))])) _
    refine XS.istore X2.here hx rfl (hb hby d4_11) rfl (l' := #[.val (.ref a), .val (.int (0 : Int32)), .val (.ref w_kept), .val (.int (0 : Int32)), .val (.int (0 : Int32)), .unset]) rfl ?_
    show Steps p.tables e below (T2.setTop (mkF m 13 #[.val (.ref a), .val (.int (0 : Int32)), .val (.ref w_kept), .val (.int (0 : Int32)), .val (.int (0 : Int32)), .unset] [])) _
    refine XS.iload X2.here hx rfl (hb hby d4_13) rfl ?_
    show Steps p.tables e below (T2.setTop (mkF m 15 #[.val (.ref a), .val (.int (0 : Int32)), .val (.ref w_kept), .val (.int (0 : Int32)), .val (.int (0 : Int32)), .unset] [(.int (0 : Int32))])) _
    refine XS.iloadN X2.here hx rfl (hb hby d4_15) rfl ?_
    show Steps p.tables e below (T2.setTop (mkF m 16 #[.val (.ref a), .val (.int (0 : Int32)), .val (.ref w_kept), .val (.int (0 : Int32)), .val (.int (0 : Int32)), .unset] [(.int (0 : Int32)), (.int (0 : Int32))])) _
    refine XS.icmpYes X2.here hx rfl (pc0 := 16) (pc' := 44) rfl (hb hby d4_16) rfl (flt (by decide)).2.1 (by decide) (by decide) ?_
    show Steps p.tables e below (T2.setTop (mkF m 44 #[.val (.ref a), .val (.int (0 : Int32)), .val (.ref w_kept), .val (.int (0 : Int32)), .val (.int (0 : Int32)), .unset] [])) _
    refine XS.iloadN X2.here hx rfl (hb hby d4_44) rfl ?_
    show Steps p.tables e below (T2.setTop (mkF m 45 #[.val (.ref a), .val (.int (0 : Int32)), .val (.ref w_kept), .val (.int (0 : Int32)), .val (.int (0 : Int32)), .unset] [(.int (0 : Int32))])) _
    exact k)
  obtain ⟨fs, hr, hrun, hended, hW, hsame⟩ := X2.leave (v := some (.int (0 : Int32))) (fun h => by rw [Bd.returns] at h; cases h) hlk
  refine ⟨_, _, pre7 _ ?_, hrun, hended, _, _, rfl, ?_, ⟨_, rfl⟩, hW, hsame.mono (by decide) (by decide)⟩
  · show Steps p.tables e below (T2.setTop (mkF m 45 #[.val (.ref a), .val (.int (0 : Int32)), .val (.ref w_kept), .val (.int (0 : Int32)), .val (.int (0 : Int32)), .unset] [(.int (0 : Int32))])) _
    exact retI X2 hx Bd.returns (hb hby d4_45) hr
  · show QR0 Z a f w_kept h0 n0 _ T2.heap _
    rw [e2]
    exact ⟨by simp only [own_rel0], N0, rfl⟩
theorem d4_19 : decode prog_48_method_9_code 19 = .ok (.aload_n 2, 1) := by decide +kernel
theorem d4_20 : decode prog_48_method_9_code 20 = .ok (.iload 4, 2) := by decide +kernel
theorem d4_22 : decode prog_48_method_9_code 22 = .ok (.iaload, 1) := by decide +kernel
theorem d4_23 : decode prog_48_method_9_code 23 = .ok (.istore 5, 2) := by decide +kernel
theorem d4_25 : decode prog_48_method_9_code 25 = .ok (.iload_n 1, 1) := by decide +kernel
theorem d4_26 : decode prog_48_method_9_code 26 = .ok (.iload 5, 2) := by decide +kernel
theorem d4_28 : decode prog_48_method_9_code 28 = .ok (.ifCond .ge 7, 3) := by decide +kernel
theorem d4_31 : decode prog_48_method_9_code 31 = .ok (.iconst 1, 1) := by decide +kernel
theorem d4_32 : decode prog_48_method_9_code 32 = .ok (.goto 4, 3) := by decide +kernel
theorem d4_35 : decode prog_48_method_9_code 35 = .ok (.iconst 0, 1) := by decide +kernel
theorem d4_36 : decode prog_48_method_9_code 36 = .ok (.iadd, 1) := by decide +kernel
theorem d4_37 : decode prog_48_method_9_code 37 = .ok (.istore_n 1, 1) := by decide +kernel
theorem d4_38 : decode prog_48_method_9_code 38 = .ok (.iinc 4 1, 3) := by decide +kernel
theorem d4_41 : decode prog_48_method_9_code 41 = .ok (.goto (-28), 3) := by decide +kernel
def lcR1_0 (a : Addr) (f : Nat → Int32) (w_kept : Addr) : Array Slot := #[.val (.ref a), .val (.int ((0 : Int32) + (if (f 0) < (0 : Int32) then (1 : Int32) else (0 : Int32)))), .val (.ref w_kept), .val (.int (1 : Int32)), .val (.int (0 : Int32)), .val (.int (f 0))]
def lcR1_1 (a : Addr) (f : Nat → Int32) (w_kept : Addr) : Array Slot := #[.val (.ref a), .val (.int ((0 : Int32) + (if (f 0) < (0 : Int32) then (1 : Int32) else (0 : Int32)))), .val (.ref w_kept), .val (.int (1 : Int32)), .val (.int (1 : Int32)), .val (.int (f 0))]
def QR1 (Z : State) (a : Addr) (f : Nat → Int32) (w_kept : Addr) (h0 : Heap) (n0 : Nat) (v : Option Value) (h : Heap) (L : List Loc) : Prop := v = some (.int (own_rel1 f)) ∧ Fr n0 L ∧ h = h0
set_option maxRecDepth 65536 in
set_option maxHeartbeats 40000000 in
theorem rmR1 (l : Launch) (Z : State) (a0 : Array Value) (hw : ∀ d ∈ tables_1, d.before a0 Z = true) (ws : List Jvm.Cond) (a : Addr) (f : Nat → Int32) (w_kept : Addr) (h0 : Heap) (n0 : Nat) (Z0 : n0 ≤ h0.size) (E_a : Exa Z h0 a "com/example/rackstripe/rackstripe/StripePlan") (F_a_kept : Fld Z h0 a "com/example/rackstripe/rackstripe/StripePlan" "kept" "[I" (.ref w_kept)) (A_w_kept : own_A Z h0 w_kept .int 1 f) :
    MetFree l (⟨"com/example/rackstripe/rackstripe/StripePlan", "relocations", "()I"⟩ : MethodName) (head1 (Jvm.Cond.code (⟨"com/example/rackstripe/rackstripe/StripePlan", "relocations", "()I"⟩ : MethodName) prog_48_method_9_code 6 (some .int) :: ws) ({ frames := 0, cells := 0, slots := 0, locals := 0 } : Room)) (fun aa U => aa = #[(.ref a)] ∧ Z.Warmed39 U.vm ∧ U.heap = h0) (fun _ _ _ _ _ => True) (fun _ U o U' => ∃ v L, o = .returned v ∧ QR1 Z a f w_kept h0 n0 v U'.heap L ∧ FrameEnd U o U' L ({ frames := 0, cells := 0, slots := 0, locals := 0 } : Room).cells ({ frames := 0, cells := 0, slots := 0, locals := 0 } : Room).slots) := by
  refine MetFree.of_bodySF (plainFor_of_name pn_StripePlan) hisR ?_
  intro p e s m args below meth c s₁ Bd hml0 hP hK
  obtain ⟨rfl, hZ, hh⟩ := hP
  have hx := Bd.exec
  have hby := Bd.bytes
  have hml : c.maxLocals = 6 := hml0
  have hown : s.vm.findClass "com/example/rackstripe/rackstripe/StripePlan" = some m.cls := findClass_of_methodNamed Bd.named
  have hnm := (name_of_methodNamed Bd.named Bd.method).1
  have X0 : Stand p l e ({ frames := 0, cells := 0, slots := 0, locals := 0 } : Room) s m #[(.ref a)] below meth c s₁ [] 0 0 := Stand.of_body Bd
  have e0 : s₁.heap = h0 := by rw [← hh, Bd.state]; rfl
  have N0 := Fr.nil n0
  have hlk : meth.locks = false := by first | exact BodyLoose.notSynchronized Bd | exact Body.notSynchronized Bd
  have pre0 : ∀ t, Steps p.tables e below (s₁.setTop (mkF m 0 #[.val (.ref a), .unset, .unset, .unset, .unset, .unset] [])) t → Steps p.tables e below (s₁.setTop (entryFrame m #[(.ref a)] 6)) t := fun t k => castTop (ef_4 m a) k
  have K : Keep h0 h0 [] := Keep.refl _ _
  have pre1 : ∀ t, Steps p.tables e below (s₁.setTop (mkF m 3 #[.val (.ref a), .val (.int (0 : Int32)), .unset, .unset, .unset, .unset] [(.ref a)])) t → Steps p.tables e below (s₁.setTop (entryFrame m #[(.ref a)] 6)) t := fun t k => pre0 t (by
    show Steps p.tables e below (s₁.setTop (mkF m 0 #[.val (.ref a), .unset, .unset, .unset, .unset, .unset] [])) _
    refine XS.iconst X0.here hx rfl (hb hby d4_0) ?_
    show Steps p.tables e below (s₁.setTop (mkF m 1 #[.val (.ref a), .unset, .unset, .unset, .unset, .unset] [(.int (0 : Int32))])) _
    refine XS.istoreN X0.here hx rfl (hb hby d4_1) rfl (l' := #[.val (.ref a), .val (.int (0 : Int32)), .unset, .unset, .unset, .unset]) rfl ?_
    show Steps p.tables e below (s₁.setTop (mkF m 2 #[.val (.ref a), .val (.int (0 : Int32)), .unset, .unset, .unset, .unset] [])) _
    refine XS.aloadN X0.here hx rfl (hb hby d4_2) rfl rfl ?_
    show Steps p.tables e below (s₁.setTop (mkF m 3 #[.val (.ref a), .val (.int (0 : Int32)), .unset, .unset, .unset, .unset] [(.ref a)])) _
    exact k)
  obtain ⟨T2, X2, e2, st2⟩ := getF X0 hx hZ hown (host := "") (Or.inl (hw _ (List.mem_of_getElem? (i := 23) rfl))) Via.refl e0 F_a_kept (g := (mkF m 3 #[.val (.ref a), .val (.int (0 : Int32)), .unset, .unset, .unset, .unset] [(.ref a)])) rfl rfl (hb hby d4_3)
  have pre3 : ∀ t, Steps p.tables e below (T2.setTop (mkF m 6 #[.val (.ref a), .val (.int (0 : Int32)), .unset, .unset, .unset, .unset] [(.ref w_kept)])) t → Steps p.tables e below (s₁.setTop (entryFrame m #[(.ref a)] 6)) t := fun t k => pre1 t (st2 t k)
  have pre4 : ∀ t, Steps p.tables e below (T2.setTop (mkF m 8 #[.val (.ref a), .val (.int (0 : Int32)), .val (.ref w_kept), .unset, .unset, .unset] [(.ref w_kept)])) t → Steps p.tables e below (s₁.setTop (entryFrame m #[(.ref a)] 6)) t := fun t k => pre3 t (by
    show Steps p.tables e below (T2.setTop (mkF m 6 #[.val (.ref a), .val (.int (0 : Int32)), .unset, .unset, .unset, .unset] [(.ref w_kept)])) _
    refine XS.astoreN X2.here hx rfl (hb hby d4_6) rfl rfl (l' := #[.val (.ref a), .val (.int (0 : Int32)), .val (.ref w_kept), .unset, .unset, .unset]) rfl ?_
    show Steps p.tables e below (T2.setTop (mkF m 7 #[.val (.ref a), .val (.int (0 : Int32)), .val (.ref w_kept), .unset, .unset, .unset] [])) _
    refine XS.aloadN X2.here hx rfl (hb hby d4_7) rfl rfl ?_
    show Steps p.tables e below (T2.setTop (mkF m 8 #[.val (.ref a), .val (.int (0 : Int32)), .val (.ref w_kept), .unset, .unset, .unset] [(.ref w_kept)])) _
    exact k)
  obtain ⟨cl5, Ar5, Sz5, Hf5⟩ := id A_w_kept
  have pre6 : ∀ t, Steps p.tables e below (T2.setTop (mkF m 9 #[.val (.ref a), .val (.int (0 : Int32)), .val (.ref w_kept), .unset, .unset, .unset] [(.int (1 : Int32))])) t → Steps p.tables e below (s₁.setTop (entryFrame m #[(.ref a)] 6)) t := fun t k => pre4 t (X2.arraylength hx (by rw [e2]; exact Ar5.1) (State.isArrayOf_alike hZ.alike Ar5.2.1) (g := (mkF m 8 #[.val (.ref a), .val (.int (0 : Int32)), .val (.ref w_kept), .unset, .unset, .unset] [(.ref w_kept)])) rfl rfl (hb hby d4_8) _ (by rw [own_len Sz5 rfl]; exact k))
  have pre7 : ∀ t, Steps p.tables e below (T2.setTop (mkF m 22 #[.val (.ref a), .val (.int (0 : Int32)), .val (.ref w_kept), .val (.int (1 : Int32)), .val (.int (0 : Int32)), .unset] [(.int (0 : Int32)), (.ref w_kept)])) t → Steps p.tables e below (s₁.setTop (entryFrame m #[(.ref a)] 6)) t := fun t k => pre6 t (by
    show Steps p.tables e below (T2.setTop (mkF m 9 #[.val (.ref a), .val (.int (0 : Int32)), .val (.ref w_kept), .unset, .unset, .unset] [(.int (1 : Int32))])) _
    refine XS.istoreN X2.here hx rfl (hb hby d4_9) rfl (l' := #[.val (.ref a), .val (.int (0 : Int32)), .val (.ref w_kept), .val (.int (1 : Int32)), .unset, .unset]) rfl ?_
    show Steps p.tables e below (T2.setTop (mkF m 10 #[.val (.ref a), .val (.int (0 : Int32)), .val (.ref w_kept), .val (.int (1 : Int32)), .unset, .unset] [])) _
    refine XS.iconst X2.here hx rfl (hb hby d4_10) ?_
    show Steps p.tables e below (T2.setTop (mkF m 11 #[.val (.ref a), .val (.int (0 : Int32)), .val (.ref w_kept), .val (.int (1 : Int32)), .unset, .unset] [(.int (0 : Int32))])) _
    refine XS.istore X2.here hx rfl (hb hby d4_11) rfl (l' := #[.val (.ref a), .val (.int (0 : Int32)), .val (.ref w_kept), .val (.int (1 : Int32)), .val (.int (0 : Int32)), .unset]) rfl ?_
    show Steps p.tables e below (T2.setTop (mkF m 13 #[.val (.ref a), .val (.int (0 : Int32)), .val (.ref w_kept), .val (.int (1 : Int32)), .val (.int (0 : Int32)), .unset] [])) _
    refine XS.iload X2.here hx rfl (hb hby d4_13) rfl ?_
    show Steps p.tables e below (T2.setTop (mkF m 15 #[.val (.ref a), .val (.int (0 : Int32)), .val (.ref w_kept), .val (.int (1 : Int32)), .val (.int (0 : Int32)), .unset] [(.int (0 : Int32))])) _
    refine XS.iloadN X2.here hx rfl (hb hby d4_15) rfl ?_
    show Steps p.tables e below (T2.setTop (mkF m 16 #[.val (.ref a), .val (.int (0 : Int32)), .val (.ref w_kept), .val (.int (1 : Int32)), .val (.int (0 : Int32)), .unset] [(.int (1 : Int32)), (.int (0 : Int32))])) _
    refine XS.icmpNo X2.here hx rfl (hb hby d4_16) rfl (tlt (by decide)).2.1 ?_
    show Steps p.tables e below (T2.setTop (mkF m 19 #[.val (.ref a), .val (.int (0 : Int32)), .val (.ref w_kept), .val (.int (1 : Int32)), .val (.int (0 : Int32)), .unset] [])) _
    refine XS.aloadN X2.here hx rfl (hb hby d4_19) rfl rfl ?_
    show Steps p.tables e below (T2.setTop (mkF m 20 #[.val (.ref a), .val (.int (0 : Int32)), .val (.ref w_kept), .val (.int (1 : Int32)), .val (.int (0 : Int32)), .unset] [(.ref w_kept)])) _
    refine XS.iload X2.here hx rfl (hb hby d4_20) rfl ?_
    show Steps p.tables e below (T2.setTop (mkF m 22 #[.val (.ref a), .val (.int (0 : Int32)), .val (.ref w_kept), .val (.int (1 : Int32)), .val (.int (0 : Int32)), .unset] [(.int (0 : Int32)), (.ref w_kept)])) _
    exact k)
  obtain ⟨cl8, Ar8, Sz8, Hf8⟩ := id A_w_kept
  have hat8 : cl8.slots[((0 : Int32)).toNatClampNeg]? = some (.int (f 0)) := (Hf8 _ (own_lt_of ⟨by decide, by decide⟩)).trans (congrArg (fun z => some (Value.int z)) rfl)
  have pre9 : ∀ t, Steps p.tables e below (T2.setTop (mkF m 23 #[.val (.ref a), .val (.int (0 : Int32)), .val (.ref w_kept), .val (.int (1 : Int32)), .val (.int (0 : Int32)), .unset] [(.int (f 0))])) t → Steps p.tables e below (s₁.setTop (entryFrame m #[(.ref a)] 6)) t := fun t k => pre7 t (X2.iaload hx (j := (0 : Int32)) (v := (.int (f 0))) (by rw [e2]; exact Ar8.1) (State.isArrayOf_alike hZ.alike Ar8.2.1) Ar8.2.2 (own_inb Sz8 ⟨by decide, by decide⟩) hat8 (g := (mkF m 22 #[.val (.ref a), .val (.int (0 : Int32)), .val (.ref w_kept), .val (.int (1 : Int32)), .val (.int (0 : Int32)), .unset] [(.int (0 : Int32)), (.ref w_kept)])) rfl rfl (hb hby d4_22) _ k)
  have pre10 : ∀ t, Steps p.tables e below (T2.setTop (mkF m 28 #[.val (.ref a), .val (.int (0 : Int32)), .val (.ref w_kept), .val (.int (1 : Int32)), .val (.int (0 : Int32)), .val (.int (f 0))] [(.int (f 0)), (.int (0 : Int32))])) t → Steps p.tables e below (s₁.setTop (entryFrame m #[(.ref a)] 6)) t := fun t k => pre9 t (by
    show Steps p.tables e below (T2.setTop (mkF m 23 #[.val (.ref a), .val (.int (0 : Int32)), .val (.ref w_kept), .val (.int (1 : Int32)), .val (.int (0 : Int32)), .unset] [(.int (f 0))])) _
    refine XS.istore X2.here hx rfl (hb hby d4_23) rfl (l' := #[.val (.ref a), .val (.int (0 : Int32)), .val (.ref w_kept), .val (.int (1 : Int32)), .val (.int (0 : Int32)), .val (.int (f 0))]) rfl ?_
    show Steps p.tables e below (T2.setTop (mkF m 25 #[.val (.ref a), .val (.int (0 : Int32)), .val (.ref w_kept), .val (.int (1 : Int32)), .val (.int (0 : Int32)), .val (.int (f 0))] [])) _
    refine XS.iloadN X2.here hx rfl (hb hby d4_25) rfl ?_
    show Steps p.tables e below (T2.setTop (mkF m 26 #[.val (.ref a), .val (.int (0 : Int32)), .val (.ref w_kept), .val (.int (1 : Int32)), .val (.int (0 : Int32)), .val (.int (f 0))] [(.int (0 : Int32))])) _
    refine XS.iload X2.here hx rfl (hb hby d4_26) rfl ?_
    show Steps p.tables e below (T2.setTop (mkF m 28 #[.val (.ref a), .val (.int (0 : Int32)), .val (.ref w_kept), .val (.int (1 : Int32)), .val (.int (0 : Int32)), .val (.int (f 0))] [(.int (f 0)), (.int (0 : Int32))])) _
    exact k)
  have pre12 : ∀ t, Steps p.tables e below (T2.setTop (mkF m 36 #[.val (.ref a), .val (.int (0 : Int32)), .val (.ref w_kept), .val (.int (1 : Int32)), .val (.int (0 : Int32)), .val (.int (f 0))] [(.int (if (f 0) < (0 : Int32) then (1 : Int32) else (0 : Int32))), (.int (0 : Int32))])) t → Steps p.tables e below (s₁.setTop (entryFrame m #[(.ref a)] 6)) t := fun t k => pre10 t (by
    show Steps p.tables e below (T2.setTop (mkF m 28 #[.val (.ref a), .val (.int (0 : Int32)), .val (.ref w_kept), .val (.int (1 : Int32)), .val (.int (0 : Int32)), .val (.int (f 0))] [(.int (f 0)), (.int (0 : Int32))])) _
    by_cases hm28_11 : (f 0) < (0 : Int32)
    · refine XS.ifNo X2.here hx rfl (hb hby d4_28) rfl ((if0 _ _).trans (tlt hm28_11).2.1) ?_
      show Steps p.tables e below (T2.setTop (mkF m 31 #[.val (.ref a), .val (.int (0 : Int32)), .val (.ref w_kept), .val (.int (1 : Int32)), .val (.int (0 : Int32)), .val (.int (f 0))] [(.int (0 : Int32))])) _
      refine XS.iconst X2.here hx rfl (hb hby d4_31) ?_
      show Steps p.tables e below (T2.setTop (mkF m 32 #[.val (.ref a), .val (.int (0 : Int32)), .val (.ref w_kept), .val (.int (1 : Int32)), .val (.int (0 : Int32)), .val (.int (f 0))] [(.int (1 : Int32)), (.int (0 : Int32))])) _
      refine XS.goto X2.here hx rfl (pc0 := 32) (pc' := 36) rfl (hb hby d4_32) (by decide) (by decide) ?_
      show Steps p.tables e below (T2.setTop (mkF m 36 #[.val (.ref a), .val (.int (0 : Int32)), .val (.ref w_kept), .val (.int (1 : Int32)), .val (.int (0 : Int32)), .val (.int (f 0))] [(.int (1 : Int32)), (.int (0 : Int32))])) _
      have q : (if (f 0) < (0 : Int32) then (1 : Int32) else (0 : Int32)) = (1 : Int32) := by simp only [if_pos hm28_11]
      exact Eq.subst (motive := fun xI => Steps p.tables e below (T2.setTop (mkF m 36 #[.val (.ref a), .val (.int (0 : Int32)), .val (.ref w_kept), .val (.int (1 : Int32)), .val (.int (0 : Int32)), .val (.int (f 0))] [(.int xI), (.int (0 : Int32))])) t) q k
    · refine XS.ifYes X2.here hx rfl (pc0 := 28) (pc' := 35) rfl (hb hby d4_28) rfl ((if0 _ _).trans (flt hm28_11).2.1) (by decide) (by decide) ?_
      show Steps p.tables e below (T2.setTop (mkF m 35 #[.val (.ref a), .val (.int (0 : Int32)), .val (.ref w_kept), .val (.int (1 : Int32)), .val (.int (0 : Int32)), .val (.int (f 0))] [(.int (0 : Int32))])) _
      refine XS.iconst X2.here hx rfl (hb hby d4_35) ?_
      show Steps p.tables e below (T2.setTop (mkF m 36 #[.val (.ref a), .val (.int (0 : Int32)), .val (.ref w_kept), .val (.int (1 : Int32)), .val (.int (0 : Int32)), .val (.int (f 0))] [(.int (0 : Int32)), (.int (0 : Int32))])) _
      have q : (if (f 0) < (0 : Int32) then (1 : Int32) else (0 : Int32)) = (0 : Int32) := by simp only [if_neg hm28_11]
      exact Eq.subst (motive := fun xI => Steps p.tables e below (T2.setTop (mkF m 36 #[.val (.ref a), .val (.int (0 : Int32)), .val (.ref w_kept), .val (.int (1 : Int32)), .val (.int (0 : Int32)), .val (.int (f 0))] [(.int xI), (.int (0 : Int32))])) t) q k)
  have pre13 : ∀ t, Steps p.tables e below (T2.setTop (mkF m 45 (lcR1_1 a f w_kept) [(.int ((0 : Int32) + (if (f 0) < (0 : Int32) then (1 : Int32) else (0 : Int32))))])) t → Steps p.tables e below (s₁.setTop (entryFrame m #[(.ref a)] 6)) t := fun t k => pre12 t (by
    show Steps p.tables e below (T2.setTop (mkF m 36 #[.val (.ref a), .val (.int (0 : Int32)), .val (.ref w_kept), .val (.int (1 : Int32)), .val (.int (0 : Int32)), .val (.int (f 0))] [(.int (if (f 0) < (0 : Int32) then (1 : Int32) else (0 : Int32))), (.int (0 : Int32))])) _
    refine XS.iadd X2.here hx rfl (hb hby d4_36) rfl ?_
    show Steps p.tables e below (T2.setTop (mkF m 37 #[.val (.ref a), .val (.int (0 : Int32)), .val (.ref w_kept), .val (.int (1 : Int32)), .val (.int (0 : Int32)), .val (.int (f 0))] [(.int ((0 : Int32) + (if (f 0) < (0 : Int32) then (1 : Int32) else (0 : Int32))))])) _
    refine XS.istoreN X2.here hx rfl (hb hby d4_37) rfl (l' := (lcR1_0 a f w_kept)) rfl ?_
    show Steps p.tables e below (T2.setTop (mkF m 38 (lcR1_0 a f w_kept) [])) _
    refine XS.iinc X2.here hx rfl (hb hby d4_38) rfl (l' := (lcR1_1 a f w_kept)) rfl ?_
    show Steps p.tables e below (T2.setTop (mkF m 41 (lcR1_1 a f w_kept) [])) _
    refine XS.goto X2.here hx rfl (pc0 := 41) (pc' := 13) rfl (hb hby d4_41) (by decide) (by decide) ?_
    show Steps p.tables e below (T2.setTop (mkF m 13 (lcR1_1 a f w_kept) [])) _
    refine XS.iload X2.here hx rfl (hb hby d4_13) rfl ?_
    show Steps p.tables e below (T2.setTop (mkF m 15 (lcR1_1 a f w_kept) [(.int (1 : Int32))])) _
    refine XS.iloadN X2.here hx rfl (hb hby d4_15) rfl ?_
    show Steps p.tables e below (T2.setTop (mkF m 16 (lcR1_1 a f w_kept) [(.int (1 : Int32)), (.int (1 : Int32))])) _
    refine XS.icmpYes X2.here hx rfl (pc0 := 16) (pc' := 44) rfl (hb hby d4_16) rfl (flt (by decide)).2.1 (by decide) (by decide) ?_
    show Steps p.tables e below (T2.setTop (mkF m 44 (lcR1_1 a f w_kept) [])) _
    refine XS.iloadN X2.here hx rfl (hb hby d4_44) rfl ?_
    show Steps p.tables e below (T2.setTop (mkF m 45 (lcR1_1 a f w_kept) [(.int ((0 : Int32) + (if (f 0) < (0 : Int32) then (1 : Int32) else (0 : Int32))))])) _
    exact k)
  obtain ⟨fs, hr, hrun, hended, hW, hsame⟩ := X2.leave (v := some (.int ((0 : Int32) + (if (f 0) < (0 : Int32) then (1 : Int32) else (0 : Int32))))) (fun h => by rw [Bd.returns] at h; cases h) hlk
  refine ⟨_, _, pre13 _ ?_, hrun, hended, _, _, rfl, ?_, ⟨_, rfl⟩, hW, hsame.mono (by decide) (by decide)⟩
  · show Steps p.tables e below (T2.setTop (mkF m 45 (lcR1_1 a f w_kept) [(.int ((0 : Int32) + (if (f 0) < (0 : Int32) then (1 : Int32) else (0 : Int32))))])) _
    exact retI X2 hx Bd.returns (hb hby d4_45) hr
  · show QR1 Z a f w_kept h0 n0 _ T2.heap _
    rw [e2]
    exact ⟨by simp only [own_rel1], N0, rfl⟩
def lcR2_0 (a : Addr) (f : Nat → Int32) (w_kept : Addr) : Array Slot := #[.val (.ref a), .val (.int ((0 : Int32) + (if (f 0) < (0 : Int32) then (1 : Int32) else (0 : Int32)))), .val (.ref w_kept), .val (.int (2 : Int32)), .val (.int (0 : Int32)), .val (.int (f 0))]
def lcR2_1 (a : Addr) (f : Nat → Int32) (w_kept : Addr) : Array Slot := #[.val (.ref a), .val (.int ((0 : Int32) + (if (f 0) < (0 : Int32) then (1 : Int32) else (0 : Int32)))), .val (.ref w_kept), .val (.int (2 : Int32)), .val (.int (1 : Int32)), .val (.int (f 0))]
def lcR2_2 (a : Addr) (f : Nat → Int32) (w_kept : Addr) : Array Slot := #[.val (.ref a), .val (.int ((0 : Int32) + (if (f 0) < (0 : Int32) then (1 : Int32) else (0 : Int32)))), .val (.ref w_kept), .val (.int (2 : Int32)), .val (.int (1 : Int32)), .val (.int (f 1))]
def lcR2_3 (a : Addr) (f : Nat → Int32) (w_kept : Addr) : Array Slot := #[.val (.ref a), .val (.int (((0 : Int32) + (if (f 0) < (0 : Int32) then (1 : Int32) else (0 : Int32))) + (if (f 1) < (0 : Int32) then (1 : Int32) else (0 : Int32)))), .val (.ref w_kept), .val (.int (2 : Int32)), .val (.int (1 : Int32)), .val (.int (f 1))]
def lcR2_4 (a : Addr) (f : Nat → Int32) (w_kept : Addr) : Array Slot := #[.val (.ref a), .val (.int (((0 : Int32) + (if (f 0) < (0 : Int32) then (1 : Int32) else (0 : Int32))) + (if (f 1) < (0 : Int32) then (1 : Int32) else (0 : Int32)))), .val (.ref w_kept), .val (.int (2 : Int32)), .val (.int (2 : Int32)), .val (.int (f 1))]
def QR2 (Z : State) (a : Addr) (f : Nat → Int32) (w_kept : Addr) (h0 : Heap) (n0 : Nat) (v : Option Value) (h : Heap) (L : List Loc) : Prop := v = some (.int (own_rel2 f)) ∧ Fr n0 L ∧ h = h0
set_option maxRecDepth 65536 in
set_option maxHeartbeats 40000000 in
theorem rmR2 (l : Launch) (Z : State) (a0 : Array Value) (hw : ∀ d ∈ tables_1, d.before a0 Z = true) (ws : List Jvm.Cond) (a : Addr) (f : Nat → Int32) (w_kept : Addr) (h0 : Heap) (n0 : Nat) (Z0 : n0 ≤ h0.size) (E_a : Exa Z h0 a "com/example/rackstripe/rackstripe/StripePlan") (F_a_kept : Fld Z h0 a "com/example/rackstripe/rackstripe/StripePlan" "kept" "[I" (.ref w_kept)) (A_w_kept : own_A Z h0 w_kept .int 2 f) :
    MetFree l (⟨"com/example/rackstripe/rackstripe/StripePlan", "relocations", "()I"⟩ : MethodName) (head1 (Jvm.Cond.code (⟨"com/example/rackstripe/rackstripe/StripePlan", "relocations", "()I"⟩ : MethodName) prog_48_method_9_code 6 (some .int) :: ws) ({ frames := 0, cells := 0, slots := 0, locals := 0 } : Room)) (fun aa U => aa = #[(.ref a)] ∧ Z.Warmed39 U.vm ∧ U.heap = h0) (fun _ _ _ _ _ => True) (fun _ U o U' => ∃ v L, o = .returned v ∧ QR2 Z a f w_kept h0 n0 v U'.heap L ∧ FrameEnd U o U' L ({ frames := 0, cells := 0, slots := 0, locals := 0 } : Room).cells ({ frames := 0, cells := 0, slots := 0, locals := 0 } : Room).slots) := by
  refine MetFree.of_bodySF (plainFor_of_name pn_StripePlan) hisR ?_
  intro p e s m args below meth c s₁ Bd hml0 hP hK
  obtain ⟨rfl, hZ, hh⟩ := hP
  have hx := Bd.exec
  have hby := Bd.bytes
  have hml : c.maxLocals = 6 := hml0
  have hown : s.vm.findClass "com/example/rackstripe/rackstripe/StripePlan" = some m.cls := findClass_of_methodNamed Bd.named
  have hnm := (name_of_methodNamed Bd.named Bd.method).1
  have X0 : Stand p l e ({ frames := 0, cells := 0, slots := 0, locals := 0 } : Room) s m #[(.ref a)] below meth c s₁ [] 0 0 := Stand.of_body Bd
  have e0 : s₁.heap = h0 := by rw [← hh, Bd.state]; rfl
  have N0 := Fr.nil n0
  have hlk : meth.locks = false := by first | exact BodyLoose.notSynchronized Bd | exact Body.notSynchronized Bd
  have pre0 : ∀ t, Steps p.tables e below (s₁.setTop (mkF m 0 #[.val (.ref a), .unset, .unset, .unset, .unset, .unset] [])) t → Steps p.tables e below (s₁.setTop (entryFrame m #[(.ref a)] 6)) t := fun t k => castTop (ef_4 m a) k
  have K : Keep h0 h0 [] := Keep.refl _ _
  have pre1 : ∀ t, Steps p.tables e below (s₁.setTop (mkF m 3 #[.val (.ref a), .val (.int (0 : Int32)), .unset, .unset, .unset, .unset] [(.ref a)])) t → Steps p.tables e below (s₁.setTop (entryFrame m #[(.ref a)] 6)) t := fun t k => pre0 t (by
    show Steps p.tables e below (s₁.setTop (mkF m 0 #[.val (.ref a), .unset, .unset, .unset, .unset, .unset] [])) _
    refine XS.iconst X0.here hx rfl (hb hby d4_0) ?_
    show Steps p.tables e below (s₁.setTop (mkF m 1 #[.val (.ref a), .unset, .unset, .unset, .unset, .unset] [(.int (0 : Int32))])) _
    refine XS.istoreN X0.here hx rfl (hb hby d4_1) rfl (l' := #[.val (.ref a), .val (.int (0 : Int32)), .unset, .unset, .unset, .unset]) rfl ?_
    show Steps p.tables e below (s₁.setTop (mkF m 2 #[.val (.ref a), .val (.int (0 : Int32)), .unset, .unset, .unset, .unset] [])) _
    refine XS.aloadN X0.here hx rfl (hb hby d4_2) rfl rfl ?_
    show Steps p.tables e below (s₁.setTop (mkF m 3 #[.val (.ref a), .val (.int (0 : Int32)), .unset, .unset, .unset, .unset] [(.ref a)])) _
    exact k)
  obtain ⟨T2, X2, e2, st2⟩ := getF X0 hx hZ hown (host := "") (Or.inl (hw _ (List.mem_of_getElem? (i := 23) rfl))) Via.refl e0 F_a_kept (g := (mkF m 3 #[.val (.ref a), .val (.int (0 : Int32)), .unset, .unset, .unset, .unset] [(.ref a)])) rfl rfl (hb hby d4_3)
  have pre3 : ∀ t, Steps p.tables e below (T2.setTop (mkF m 6 #[.val (.ref a), .val (.int (0 : Int32)), .unset, .unset, .unset, .unset] [(.ref w_kept)])) t → Steps p.tables e below (s₁.setTop (entryFrame m #[(.ref a)] 6)) t := fun t k => pre1 t (st2 t k)
  have pre4 : ∀ t, Steps p.tables e below (T2.setTop (mkF m 8 #[.val (.ref a), .val (.int (0 : Int32)), .val (.ref w_kept), .unset, .unset, .unset] [(.ref w_kept)])) t → Steps p.tables e below (s₁.setTop (entryFrame m #[(.ref a)] 6)) t := fun t k => pre3 t (by
    show Steps p.tables e below (T2.setTop (mkF m 6 #[.val (.ref a), .val (.int (0 : Int32)), .unset, .unset, .unset, .unset] [(.ref w_kept)])) _
    refine XS.astoreN X2.here hx rfl (hb hby d4_6) rfl rfl (l' := #[.val (.ref a), .val (.int (0 : Int32)), .val (.ref w_kept), .unset, .unset, .unset]) rfl ?_
    show Steps p.tables e below (T2.setTop (mkF m 7 #[.val (.ref a), .val (.int (0 : Int32)), .val (.ref w_kept), .unset, .unset, .unset] [])) _
    refine XS.aloadN X2.here hx rfl (hb hby d4_7) rfl rfl ?_
    show Steps p.tables e below (T2.setTop (mkF m 8 #[.val (.ref a), .val (.int (0 : Int32)), .val (.ref w_kept), .unset, .unset, .unset] [(.ref w_kept)])) _
    exact k)
  obtain ⟨cl5, Ar5, Sz5, Hf5⟩ := id A_w_kept
  have pre6 : ∀ t, Steps p.tables e below (T2.setTop (mkF m 9 #[.val (.ref a), .val (.int (0 : Int32)), .val (.ref w_kept), .unset, .unset, .unset] [(.int (2 : Int32))])) t → Steps p.tables e below (s₁.setTop (entryFrame m #[(.ref a)] 6)) t := fun t k => pre4 t (X2.arraylength hx (by rw [e2]; exact Ar5.1) (State.isArrayOf_alike hZ.alike Ar5.2.1) (g := (mkF m 8 #[.val (.ref a), .val (.int (0 : Int32)), .val (.ref w_kept), .unset, .unset, .unset] [(.ref w_kept)])) rfl rfl (hb hby d4_8) _ (by rw [own_len Sz5 rfl]; exact k))
  have pre7 : ∀ t, Steps p.tables e below (T2.setTop (mkF m 22 #[.val (.ref a), .val (.int (0 : Int32)), .val (.ref w_kept), .val (.int (2 : Int32)), .val (.int (0 : Int32)), .unset] [(.int (0 : Int32)), (.ref w_kept)])) t → Steps p.tables e below (s₁.setTop (entryFrame m #[(.ref a)] 6)) t := fun t k => pre6 t (by
    show Steps p.tables e below (T2.setTop (mkF m 9 #[.val (.ref a), .val (.int (0 : Int32)), .val (.ref w_kept), .unset, .unset, .unset] [(.int (2 : Int32))])) _
    refine XS.istoreN X2.here hx rfl (hb hby d4_9) rfl (l' := #[.val (.ref a), .val (.int (0 : Int32)), .val (.ref w_kept), .val (.int (2 : Int32)), .unset, .unset]) rfl ?_
    show Steps p.tables e below (T2.setTop (mkF m 10 #[.val (.ref a), .val (.int (0 : Int32)), .val (.ref w_kept), .val (.int (2 : Int32)), .unset, .unset] [])) _
    refine XS.iconst X2.here hx rfl (hb hby d4_10) ?_
    show Steps p.tables e below (T2.setTop (mkF m 11 #[.val (.ref a), .val (.int (0 : Int32)), .val (.ref w_kept), .val (.int (2 : Int32)), .unset, .unset] [(.int (0 : Int32))])) _
    refine XS.istore X2.here hx rfl (hb hby d4_11) rfl (l' := #[.val (.ref a), .val (.int (0 : Int32)), .val (.ref w_kept), .val (.int (2 : Int32)), .val (.int (0 : Int32)), .unset]) rfl ?_
    show Steps p.tables e below (T2.setTop (mkF m 13 #[.val (.ref a), .val (.int (0 : Int32)), .val (.ref w_kept), .val (.int (2 : Int32)), .val (.int (0 : Int32)), .unset] [])) _
    refine XS.iload X2.here hx rfl (hb hby d4_13) rfl ?_
    show Steps p.tables e below (T2.setTop (mkF m 15 #[.val (.ref a), .val (.int (0 : Int32)), .val (.ref w_kept), .val (.int (2 : Int32)), .val (.int (0 : Int32)), .unset] [(.int (0 : Int32))])) _
    refine XS.iloadN X2.here hx rfl (hb hby d4_15) rfl ?_
    show Steps p.tables e below (T2.setTop (mkF m 16 #[.val (.ref a), .val (.int (0 : Int32)), .val (.ref w_kept), .val (.int (2 : Int32)), .val (.int (0 : Int32)), .unset] [(.int (2 : Int32)), (.int (0 : Int32))])) _
    refine XS.icmpNo X2.here hx rfl (hb hby d4_16) rfl (tlt (by decide)).2.1 ?_
    show Steps p.tables e below (T2.setTop (mkF m 19 #[.val (.ref a), .val (.int (0 : Int32)), .val (.ref w_kept), .val (.int (2 : Int32)), .val (.int (0 : Int32)), .unset] [])) _
    refine XS.aloadN X2.here hx rfl (hb hby d4_19) rfl rfl ?_
    show Steps p.tables e below (T2.setTop (mkF m 20 #[.val (.ref a), .val (.int (0 : Int32)), .val (.ref w_kept), .val (.int (2 : Int32)), .val (.int (0 : Int32)), .unset] [(.ref w_kept)])) _
    refine XS.iload X2.here hx rfl (hb hby d4_20) rfl ?_
    show Steps p.tables e below (T2.setTop (mkF m 22 #[.val (.ref a), .val (.int (0 : Int32)), .val (.ref w_kept), .val (.int (2 : Int32)), .val (.int (0 : Int32)), .unset] [(.int (0 : Int32)), (.ref w_kept)])) _
    exact k)
  obtain ⟨cl8, Ar8, Sz8, Hf8⟩ := id A_w_kept
  have hat8 : cl8.slots[((0 : Int32)).toNatClampNeg]? = some (.int (f 0)) := (Hf8 _ (own_lt_of ⟨by decide, by decide⟩)).trans (congrArg (fun z => some (Value.int z)) rfl)
  have pre9 : ∀ t, Steps p.tables e below (T2.setTop (mkF m 23 #[.val (.ref a), .val (.int (0 : Int32)), .val (.ref w_kept), .val (.int (2 : Int32)), .val (.int (0 : Int32)), .unset] [(.int (f 0))])) t → Steps p.tables e below (s₁.setTop (entryFrame m #[(.ref a)] 6)) t := fun t k => pre7 t (X2.iaload hx (j := (0 : Int32)) (v := (.int (f 0))) (by rw [e2]; exact Ar8.1) (State.isArrayOf_alike hZ.alike Ar8.2.1) Ar8.2.2 (own_inb Sz8 ⟨by decide, by decide⟩) hat8 (g := (mkF m 22 #[.val (.ref a), .val (.int (0 : Int32)), .val (.ref w_kept), .val (.int (2 : Int32)), .val (.int (0 : Int32)), .unset] [(.int (0 : Int32)), (.ref w_kept)])) rfl rfl (hb hby d4_22) _ k)
  have pre10 : ∀ t, Steps p.tables e below (T2.setTop (mkF m 28 #[.val (.ref a), .val (.int (0 : Int32)), .val (.ref w_kept), .val (.int (2 : Int32)), .val (.int (0 : Int32)), .val (.int (f 0))] [(.int (f 0)), (.int (0 : Int32))])) t → Steps p.tables e below (s₁.setTop (entryFrame m #[(.ref a)] 6)) t := fun t k => pre9 t (by
    show Steps p.tables e below (T2.setTop (mkF m 23 #[.val (.ref a), .val (.int (0 : Int32)), .val (.ref w_kept), .val (.int (2 : Int32)), .val (.int (0 : Int32)), .unset] [(.int (f 0))])) _
    refine XS.istore X2.here hx rfl (hb hby d4_23) rfl (l' := #[.val (.ref a), .val (.int (0 : Int32)), .val (.ref w_kept), .val (.int (2 : Int32)), .val (.int (0 : Int32)), .val (.int (f 0))]) rfl ?_
    show Steps p.tables e below (T2.setTop (mkF m 25 #[.val (.ref a), .val (.int (0 : Int32)), .val (.ref w_kept), .val (.int (2 : Int32)), .val (.int (0 : Int32)), .val (.int (f 0))] [])) _
    refine XS.iloadN X2.here hx rfl (hb hby d4_25) rfl ?_
    show Steps p.tables e below (T2.setTop (mkF m 26 #[.val (.ref a), .val (.int (0 : Int32)), .val (.ref w_kept), .val (.int (2 : Int32)), .val (.int (0 : Int32)), .val (.int (f 0))] [(.int (0 : Int32))])) _
    refine XS.iload X2.here hx rfl (hb hby d4_26) rfl ?_
    show Steps p.tables e below (T2.setTop (mkF m 28 #[.val (.ref a), .val (.int (0 : Int32)), .val (.ref w_kept), .val (.int (2 : Int32)), .val (.int (0 : Int32)), .val (.int (f 0))] [(.int (f 0)), (.int (0 : Int32))])) _
    exact k)
  have pre12 : ∀ t, Steps p.tables e below (T2.setTop (mkF m 36 #[.val (.ref a), .val (.int (0 : Int32)), .val (.ref w_kept), .val (.int (2 : Int32)), .val (.int (0 : Int32)), .val (.int (f 0))] [(.int (if (f 0) < (0 : Int32) then (1 : Int32) else (0 : Int32))), (.int (0 : Int32))])) t → Steps p.tables e below (s₁.setTop (entryFrame m #[(.ref a)] 6)) t := fun t k => pre10 t (by
    show Steps p.tables e below (T2.setTop (mkF m 28 #[.val (.ref a), .val (.int (0 : Int32)), .val (.ref w_kept), .val (.int (2 : Int32)), .val (.int (0 : Int32)), .val (.int (f 0))] [(.int (f 0)), (.int (0 : Int32))])) _
    by_cases hm28_11 : (f 0) < (0 : Int32)
    · refine XS.ifNo X2.here hx rfl (hb hby d4_28) rfl ((if0 _ _).trans (tlt hm28_11).2.1) ?_
      show Steps p.tables e below (T2.setTop (mkF m 31 #[.val (.ref a), .val (.int (0 : Int32)), .val (.ref w_kept), .val (.int (2 : Int32)), .val (.int (0 : Int32)), .val (.int (f 0))] [(.int (0 : Int32))])) _
      refine XS.iconst X2.here hx rfl (hb hby d4_31) ?_
      show Steps p.tables e below (T2.setTop (mkF m 32 #[.val (.ref a), .val (.int (0 : Int32)), .val (.ref w_kept), .val (.int (2 : Int32)), .val (.int (0 : Int32)), .val (.int (f 0))] [(.int (1 : Int32)), (.int (0 : Int32))])) _
      refine XS.goto X2.here hx rfl (pc0 := 32) (pc' := 36) rfl (hb hby d4_32) (by decide) (by decide) ?_
      show Steps p.tables e below (T2.setTop (mkF m 36 #[.val (.ref a), .val (.int (0 : Int32)), .val (.ref w_kept), .val (.int (2 : Int32)), .val (.int (0 : Int32)), .val (.int (f 0))] [(.int (1 : Int32)), (.int (0 : Int32))])) _
      have q : (if (f 0) < (0 : Int32) then (1 : Int32) else (0 : Int32)) = (1 : Int32) := by simp only [if_pos hm28_11]
      exact Eq.subst (motive := fun xI => Steps p.tables e below (T2.setTop (mkF m 36 #[.val (.ref a), .val (.int (0 : Int32)), .val (.ref w_kept), .val (.int (2 : Int32)), .val (.int (0 : Int32)), .val (.int (f 0))] [(.int xI), (.int (0 : Int32))])) t) q k
    · refine XS.ifYes X2.here hx rfl (pc0 := 28) (pc' := 35) rfl (hb hby d4_28) rfl ((if0 _ _).trans (flt hm28_11).2.1) (by decide) (by decide) ?_
      show Steps p.tables e below (T2.setTop (mkF m 35 #[.val (.ref a), .val (.int (0 : Int32)), .val (.ref w_kept), .val (.int (2 : Int32)), .val (.int (0 : Int32)), .val (.int (f 0))] [(.int (0 : Int32))])) _
      refine XS.iconst X2.here hx rfl (hb hby d4_35) ?_
      show Steps p.tables e below (T2.setTop (mkF m 36 #[.val (.ref a), .val (.int (0 : Int32)), .val (.ref w_kept), .val (.int (2 : Int32)), .val (.int (0 : Int32)), .val (.int (f 0))] [(.int (0 : Int32)), (.int (0 : Int32))])) _
      have q : (if (f 0) < (0 : Int32) then (1 : Int32) else (0 : Int32)) = (0 : Int32) := by simp only [if_neg hm28_11]
      exact Eq.subst (motive := fun xI => Steps p.tables e below (T2.setTop (mkF m 36 #[.val (.ref a), .val (.int (0 : Int32)), .val (.ref w_kept), .val (.int (2 : Int32)), .val (.int (0 : Int32)), .val (.int (f 0))] [(.int xI), (.int (0 : Int32))])) t) q k)
  have pre13 : ∀ t, Steps p.tables e below (T2.setTop (mkF m 22 (lcR2_1 a f w_kept) [(.int (1 : Int32)), (.ref w_kept)])) t → Steps p.tables e below (s₁.setTop (entryFrame m #[(.ref a)] 6)) t := fun t k => pre12 t (by
    show Steps p.tables e below (T2.setTop (mkF m 36 #[.val (.ref a), .val (.int (0 : Int32)), .val (.ref w_kept), .val (.int (2 : Int32)), .val (.int (0 : Int32)), .val (.int (f 0))] [(.int (if (f 0) < (0 : Int32) then (1 : Int32) else (0 : Int32))), (.int (0 : Int32))])) _
    refine XS.iadd X2.here hx rfl (hb hby d4_36) rfl ?_
    show Steps p.tables e below (T2.setTop (mkF m 37 #[.val (.ref a), .val (.int (0 : Int32)), .val (.ref w_kept), .val (.int (2 : Int32)), .val (.int (0 : Int32)), .val (.int (f 0))] [(.int ((0 : Int32) + (if (f 0) < (0 : Int32) then (1 : Int32) else (0 : Int32))))])) _
    refine XS.istoreN X2.here hx rfl (hb hby d4_37) rfl (l' := (lcR2_0 a f w_kept)) rfl ?_
    show Steps p.tables e below (T2.setTop (mkF m 38 (lcR2_0 a f w_kept) [])) _
    refine XS.iinc X2.here hx rfl (hb hby d4_38) rfl (l' := (lcR2_1 a f w_kept)) rfl ?_
    show Steps p.tables e below (T2.setTop (mkF m 41 (lcR2_1 a f w_kept) [])) _
    refine XS.goto X2.here hx rfl (pc0 := 41) (pc' := 13) rfl (hb hby d4_41) (by decide) (by decide) ?_
    show Steps p.tables e below (T2.setTop (mkF m 13 (lcR2_1 a f w_kept) [])) _
    refine XS.iload X2.here hx rfl (hb hby d4_13) rfl ?_
    show Steps p.tables e below (T2.setTop (mkF m 15 (lcR2_1 a f w_kept) [(.int (1 : Int32))])) _
    refine XS.iloadN X2.here hx rfl (hb hby d4_15) rfl ?_
    show Steps p.tables e below (T2.setTop (mkF m 16 (lcR2_1 a f w_kept) [(.int (2 : Int32)), (.int (1 : Int32))])) _
    refine XS.icmpNo X2.here hx rfl (hb hby d4_16) rfl (tlt (by decide)).2.1 ?_
    show Steps p.tables e below (T2.setTop (mkF m 19 (lcR2_1 a f w_kept) [])) _
    refine XS.aloadN X2.here hx rfl (hb hby d4_19) rfl rfl ?_
    show Steps p.tables e below (T2.setTop (mkF m 20 (lcR2_1 a f w_kept) [(.ref w_kept)])) _
    refine XS.iload X2.here hx rfl (hb hby d4_20) rfl ?_
    show Steps p.tables e below (T2.setTop (mkF m 22 (lcR2_1 a f w_kept) [(.int (1 : Int32)), (.ref w_kept)])) _
    exact k)
  obtain ⟨cl14, Ar14, Sz14, Hf14⟩ := id A_w_kept
  have hat14 : cl14.slots[((1 : Int32)).toNatClampNeg]? = some (.int (f 1)) := (Hf14 _ (own_lt_of ⟨by decide, by decide⟩)).trans (congrArg (fun z => some (Value.int z)) rfl)
  have pre15 : ∀ t, Steps p.tables e below (T2.setTop (mkF m 23 (lcR2_1 a f w_kept) [(.int (f 1))])) t → Steps p.tables e below (s₁.setTop (entryFrame m #[(.ref a)] 6)) t := fun t k => pre13 t (X2.iaload hx (j := (1 : Int32)) (v := (.int (f 1))) (by rw [e2]; exact Ar14.1) (State.isArrayOf_alike hZ.alike Ar14.2.1) Ar14.2.2 (own_inb Sz14 ⟨by decide, by decide⟩) hat14 (g := (mkF m 22 (lcR2_1 a f w_kept) [(.int (1 : Int32)), (.ref w_kept)])) rfl rfl (hb hby d4_22) _ k)
  have pre16 : ∀ t, Steps p.tables e below (T2.setTop (mkF m 28 (lcR2_2 a f w_kept) [(.int (f 1)), (.int ((0 : Int32) + (if (f 0) < (0 : Int32) then (1 : Int32) else (0 : Int32))))])) t → Steps p.tables e below (s₁.setTop (entryFrame m #[(.ref a)] 6)) t := fun t k => pre15 t (by
    show Steps p.tables e below (T2.setTop (mkF m 23 (lcR2_1 a f w_kept) [(.int (f 1))])) _
    refine XS.istore X2.here hx rfl (hb hby d4_23) rfl (l' := (lcR2_2 a f w_kept)) rfl ?_
    show Steps p.tables e below (T2.setTop (mkF m 25 (lcR2_2 a f w_kept) [])) _
    refine XS.iloadN X2.here hx rfl (hb hby d4_25) rfl ?_
    show Steps p.tables e below (T2.setTop (mkF m 26 (lcR2_2 a f w_kept) [(.int ((0 : Int32) + (if (f 0) < (0 : Int32) then (1 : Int32) else (0 : Int32))))])) _
    refine XS.iload X2.here hx rfl (hb hby d4_26) rfl ?_
    show Steps p.tables e below (T2.setTop (mkF m 28 (lcR2_2 a f w_kept) [(.int (f 1)), (.int ((0 : Int32) + (if (f 0) < (0 : Int32) then (1 : Int32) else (0 : Int32))))])) _
    exact k)
  have pre18 : ∀ t, Steps p.tables e below (T2.setTop (mkF m 36 (lcR2_2 a f w_kept) [(.int (if (f 1) < (0 : Int32) then (1 : Int32) else (0 : Int32))), (.int ((0 : Int32) + (if (f 0) < (0 : Int32) then (1 : Int32) else (0 : Int32))))])) t → Steps p.tables e below (s₁.setTop (entryFrame m #[(.ref a)] 6)) t := fun t k => pre16 t (by
    show Steps p.tables e below (T2.setTop (mkF m 28 (lcR2_2 a f w_kept) [(.int (f 1)), (.int ((0 : Int32) + (if (f 0) < (0 : Int32) then (1 : Int32) else (0 : Int32))))])) _
    by_cases hm28_17 : (f 1) < (0 : Int32)
    · refine XS.ifNo X2.here hx rfl (hb hby d4_28) rfl ((if0 _ _).trans (tlt hm28_17).2.1) ?_
      show Steps p.tables e below (T2.setTop (mkF m 31 (lcR2_2 a f w_kept) [(.int ((0 : Int32) + (if (f 0) < (0 : Int32) then (1 : Int32) else (0 : Int32))))])) _
      refine XS.iconst X2.here hx rfl (hb hby d4_31) ?_
      show Steps p.tables e below (T2.setTop (mkF m 32 (lcR2_2 a f w_kept) [(.int (1 : Int32)), (.int ((0 : Int32) + (if (f 0) < (0 : Int32) then (1 : Int32) else (0 : Int32))))])) _
      refine XS.goto X2.here hx rfl (pc0 := 32) (pc' := 36) rfl (hb hby d4_32) (by decide) (by decide) ?_
      show Steps p.tables e below (T2.setTop (mkF m 36 (lcR2_2 a f w_kept) [(.int (1 : Int32)), (.int ((0 : Int32) + (if (f 0) < (0 : Int32) then (1 : Int32) else (0 : Int32))))])) _
      have q : (if (f 1) < (0 : Int32) then (1 : Int32) else (0 : Int32)) = (1 : Int32) := by simp only [if_pos hm28_17]
      exact Eq.subst (motive := fun xI => Steps p.tables e below (T2.setTop (mkF m 36 (lcR2_2 a f w_kept) [(.int xI), (.int ((0 : Int32) + (if (f 0) < (0 : Int32) then (1 : Int32) else (0 : Int32))))])) t) q k
    · refine XS.ifYes X2.here hx rfl (pc0 := 28) (pc' := 35) rfl (hb hby d4_28) rfl ((if0 _ _).trans (flt hm28_17).2.1) (by decide) (by decide) ?_
      show Steps p.tables e below (T2.setTop (mkF m 35 (lcR2_2 a f w_kept) [(.int ((0 : Int32) + (if (f 0) < (0 : Int32) then (1 : Int32) else (0 : Int32))))])) _
      refine XS.iconst X2.here hx rfl (hb hby d4_35) ?_
      show Steps p.tables e below (T2.setTop (mkF m 36 (lcR2_2 a f w_kept) [(.int (0 : Int32)), (.int ((0 : Int32) + (if (f 0) < (0 : Int32) then (1 : Int32) else (0 : Int32))))])) _
      have q : (if (f 1) < (0 : Int32) then (1 : Int32) else (0 : Int32)) = (0 : Int32) := by simp only [if_neg hm28_17]
      exact Eq.subst (motive := fun xI => Steps p.tables e below (T2.setTop (mkF m 36 (lcR2_2 a f w_kept) [(.int xI), (.int ((0 : Int32) + (if (f 0) < (0 : Int32) then (1 : Int32) else (0 : Int32))))])) t) q k)
  have pre19 : ∀ t, Steps p.tables e below (T2.setTop (mkF m 45 (lcR2_4 a f w_kept) [(.int (((0 : Int32) + (if (f 0) < (0 : Int32) then (1 : Int32) else (0 : Int32))) + (if (f 1) < (0 : Int32) then (1 : Int32) else (0 : Int32))))])) t → Steps p.tables e below (s₁.setTop (entryFrame m #[(.ref a)] 6)) t := fun t k => pre18 t (by
    show Steps p.tables e below (T2.setTop (mkF m 36 (lcR2_2 a f w_kept) [(.int (if (f 1) < (0 : Int32) then (1 : Int32) else (0 : Int32))), (.int ((0 : Int32) + (if (f 0) < (0 : Int32) then (1 : Int32) else (0 : Int32))))])) _
    refine XS.iadd X2.here hx rfl (hb hby d4_36) rfl ?_
    show Steps p.tables e below (T2.setTop (mkF m 37 (lcR2_2 a f w_kept) [(.int (((0 : Int32) + (if (f 0) < (0 : Int32) then (1 : Int32) else (0 : Int32))) + (if (f 1) < (0 : Int32) then (1 : Int32) else (0 : Int32))))])) _
    refine XS.istoreN X2.here hx rfl (hb hby d4_37) rfl (l' := (lcR2_3 a f w_kept)) rfl ?_
    show Steps p.tables e below (T2.setTop (mkF m 38 (lcR2_3 a f w_kept) [])) _
    refine XS.iinc X2.here hx rfl (hb hby d4_38) rfl (l' := (lcR2_4 a f w_kept)) rfl ?_
    show Steps p.tables e below (T2.setTop (mkF m 41 (lcR2_4 a f w_kept) [])) _
    refine XS.goto X2.here hx rfl (pc0 := 41) (pc' := 13) rfl (hb hby d4_41) (by decide) (by decide) ?_
    show Steps p.tables e below (T2.setTop (mkF m 13 (lcR2_4 a f w_kept) [])) _
    refine XS.iload X2.here hx rfl (hb hby d4_13) rfl ?_
    show Steps p.tables e below (T2.setTop (mkF m 15 (lcR2_4 a f w_kept) [(.int (2 : Int32))])) _
    refine XS.iloadN X2.here hx rfl (hb hby d4_15) rfl ?_
    show Steps p.tables e below (T2.setTop (mkF m 16 (lcR2_4 a f w_kept) [(.int (2 : Int32)), (.int (2 : Int32))])) _
    refine XS.icmpYes X2.here hx rfl (pc0 := 16) (pc' := 44) rfl (hb hby d4_16) rfl (flt (by decide)).2.1 (by decide) (by decide) ?_
    show Steps p.tables e below (T2.setTop (mkF m 44 (lcR2_4 a f w_kept) [])) _
    refine XS.iloadN X2.here hx rfl (hb hby d4_44) rfl ?_
    show Steps p.tables e below (T2.setTop (mkF m 45 (lcR2_4 a f w_kept) [(.int (((0 : Int32) + (if (f 0) < (0 : Int32) then (1 : Int32) else (0 : Int32))) + (if (f 1) < (0 : Int32) then (1 : Int32) else (0 : Int32))))])) _
    exact k)
  obtain ⟨fs, hr, hrun, hended, hW, hsame⟩ := X2.leave (v := some (.int (((0 : Int32) + (if (f 0) < (0 : Int32) then (1 : Int32) else (0 : Int32))) + (if (f 1) < (0 : Int32) then (1 : Int32) else (0 : Int32))))) (fun h => by rw [Bd.returns] at h; cases h) hlk
  refine ⟨_, _, pre19 _ ?_, hrun, hended, _, _, rfl, ?_, ⟨_, rfl⟩, hW, hsame.mono (by decide) (by decide)⟩
  · show Steps p.tables e below (T2.setTop (mkF m 45 (lcR2_4 a f w_kept) [(.int (((0 : Int32) + (if (f 0) < (0 : Int32) then (1 : Int32) else (0 : Int32))) + (if (f 1) < (0 : Int32) then (1 : Int32) else (0 : Int32))))])) _
    exact retI X2 hx Bd.returns (hb hby d4_45) hr
  · show QR2 Z a f w_kept h0 n0 _ T2.heap _
    rw [e2]
    exact ⟨by simp only [own_rel2], N0, rfl⟩
def lcR3_0 (a : Addr) (f : Nat → Int32) (w_kept : Addr) : Array Slot := #[.val (.ref a), .val (.int ((0 : Int32) + (if (f 0) < (0 : Int32) then (1 : Int32) else (0 : Int32)))), .val (.ref w_kept), .val (.int (3 : Int32)), .val (.int (0 : Int32)), .val (.int (f 0))]
def lcR3_1 (a : Addr) (f : Nat → Int32) (w_kept : Addr) : Array Slot := #[.val (.ref a), .val (.int ((0 : Int32) + (if (f 0) < (0 : Int32) then (1 : Int32) else (0 : Int32)))), .val (.ref w_kept), .val (.int (3 : Int32)), .val (.int (1 : Int32)), .val (.int (f 0))]
def lcR3_2 (a : Addr) (f : Nat → Int32) (w_kept : Addr) : Array Slot := #[.val (.ref a), .val (.int ((0 : Int32) + (if (f 0) < (0 : Int32) then (1 : Int32) else (0 : Int32)))), .val (.ref w_kept), .val (.int (3 : Int32)), .val (.int (1 : Int32)), .val (.int (f 1))]
def lcR3_3 (a : Addr) (f : Nat → Int32) (w_kept : Addr) : Array Slot := #[.val (.ref a), .val (.int (((0 : Int32) + (if (f 0) < (0 : Int32) then (1 : Int32) else (0 : Int32))) + (if (f 1) < (0 : Int32) then (1 : Int32) else (0 : Int32)))), .val (.ref w_kept), .val (.int (3 : Int32)), .val (.int (1 : Int32)), .val (.int (f 1))]
def lcR3_4 (a : Addr) (f : Nat → Int32) (w_kept : Addr) : Array Slot := #[.val (.ref a), .val (.int (((0 : Int32) + (if (f 0) < (0 : Int32) then (1 : Int32) else (0 : Int32))) + (if (f 1) < (0 : Int32) then (1 : Int32) else (0 : Int32)))), .val (.ref w_kept), .val (.int (3 : Int32)), .val (.int (2 : Int32)), .val (.int (f 1))]
def lcR3_5 (a : Addr) (f : Nat → Int32) (w_kept : Addr) : Array Slot := #[.val (.ref a), .val (.int (((0 : Int32) + (if (f 0) < (0 : Int32) then (1 : Int32) else (0 : Int32))) + (if (f 1) < (0 : Int32) then (1 : Int32) else (0 : Int32)))), .val (.ref w_kept), .val (.int (3 : Int32)), .val (.int (2 : Int32)), .val (.int (f 2))]
def lcR3_6 (a : Addr) (f : Nat → Int32) (w_kept : Addr) : Array Slot := #[.val (.ref a), .val (.int ((((0 : Int32) + (if (f 0) < (0 : Int32) then (1 : Int32) else (0 : Int32))) + (if (f 1) < (0 : Int32) then (1 : Int32) else (0 : Int32))) + (if (f 2) < (0 : Int32) then (1 : Int32) else (0 : Int32)))), .val (.ref w_kept), .val (.int (3 : Int32)), .val (.int (2 : Int32)), .val (.int (f 2))]
def lcR3_7 (a : Addr) (f : Nat → Int32) (w_kept : Addr) : Array Slot := #[.val (.ref a), .val (.int ((((0 : Int32) + (if (f 0) < (0 : Int32) then (1 : Int32) else (0 : Int32))) + (if (f 1) < (0 : Int32) then (1 : Int32) else (0 : Int32))) + (if (f 2) < (0 : Int32) then (1 : Int32) else (0 : Int32)))), .val (.ref w_kept), .val (.int (3 : Int32)), .val (.int (3 : Int32)), .val (.int (f 2))]
def QR3 (Z : State) (a : Addr) (f : Nat → Int32) (w_kept : Addr) (h0 : Heap) (n0 : Nat) (v : Option Value) (h : Heap) (L : List Loc) : Prop := v = some (.int (own_rel3 f)) ∧ Fr n0 L ∧ h = h0
set_option maxRecDepth 65536 in
set_option maxHeartbeats 40000000 in
theorem rmR3 (l : Launch) (Z : State) (a0 : Array Value) (hw : ∀ d ∈ tables_1, d.before a0 Z = true) (ws : List Jvm.Cond) (a : Addr) (f : Nat → Int32) (w_kept : Addr) (h0 : Heap) (n0 : Nat) (Z0 : n0 ≤ h0.size) (E_a : Exa Z h0 a "com/example/rackstripe/rackstripe/StripePlan") (F_a_kept : Fld Z h0 a "com/example/rackstripe/rackstripe/StripePlan" "kept" "[I" (.ref w_kept)) (A_w_kept : own_A Z h0 w_kept .int 3 f) :
    MetFree l (⟨"com/example/rackstripe/rackstripe/StripePlan", "relocations", "()I"⟩ : MethodName) (head1 (Jvm.Cond.code (⟨"com/example/rackstripe/rackstripe/StripePlan", "relocations", "()I"⟩ : MethodName) prog_48_method_9_code 6 (some .int) :: ws) ({ frames := 0, cells := 0, slots := 0, locals := 0 } : Room)) (fun aa U => aa = #[(.ref a)] ∧ Z.Warmed39 U.vm ∧ U.heap = h0) (fun _ _ _ _ _ => True) (fun _ U o U' => ∃ v L, o = .returned v ∧ QR3 Z a f w_kept h0 n0 v U'.heap L ∧ FrameEnd U o U' L ({ frames := 0, cells := 0, slots := 0, locals := 0 } : Room).cells ({ frames := 0, cells := 0, slots := 0, locals := 0 } : Room).slots) := by
  refine MetFree.of_bodySF (plainFor_of_name pn_StripePlan) hisR ?_
  intro p e s m args below meth c s₁ Bd hml0 hP hK
  obtain ⟨rfl, hZ, hh⟩ := hP
  have hx := Bd.exec
  have hby := Bd.bytes
  have hml : c.maxLocals = 6 := hml0
  have hown : s.vm.findClass "com/example/rackstripe/rackstripe/StripePlan" = some m.cls := findClass_of_methodNamed Bd.named
  have hnm := (name_of_methodNamed Bd.named Bd.method).1
  have X0 : Stand p l e ({ frames := 0, cells := 0, slots := 0, locals := 0 } : Room) s m #[(.ref a)] below meth c s₁ [] 0 0 := Stand.of_body Bd
  have e0 : s₁.heap = h0 := by rw [← hh, Bd.state]; rfl
  have N0 := Fr.nil n0
  have hlk : meth.locks = false := by first | exact BodyLoose.notSynchronized Bd | exact Body.notSynchronized Bd
  have pre0 : ∀ t, Steps p.tables e below (s₁.setTop (mkF m 0 #[.val (.ref a), .unset, .unset, .unset, .unset, .unset] [])) t → Steps p.tables e below (s₁.setTop (entryFrame m #[(.ref a)] 6)) t := fun t k => castTop (ef_4 m a) k
  have K : Keep h0 h0 [] := Keep.refl _ _
  have pre1 : ∀ t, Steps p.tables e below (s₁.setTop (mkF m 3 #[.val (.ref a), .val (.int (0 : Int32)), .unset, .unset, .unset, .unset] [(.ref a)])) t → Steps p.tables e below (s₁.setTop (entryFrame m #[(.ref a)] 6)) t := fun t k => pre0 t (by
    show Steps p.tables e below (s₁.setTop (mkF m 0 #[.val (.ref a), .unset, .unset, .unset, .unset, .unset] [])) _
    refine XS.iconst X0.here hx rfl (hb hby d4_0) ?_
    show Steps p.tables e below (s₁.setTop (mkF m 1 #[.val (.ref a), .unset, .unset, .unset, .unset, .unset] [(.int (0 : Int32))])) _
    refine XS.istoreN X0.here hx rfl (hb hby d4_1) rfl (l' := #[.val (.ref a), .val (.int (0 : Int32)), .unset, .unset, .unset, .unset]) rfl ?_
    show Steps p.tables e below (s₁.setTop (mkF m 2 #[.val (.ref a), .val (.int (0 : Int32)), .unset, .unset, .unset, .unset] [])) _
    refine XS.aloadN X0.here hx rfl (hb hby d4_2) rfl rfl ?_
    show Steps p.tables e below (s₁.setTop (mkF m 3 #[.val (.ref a), .val (.int (0 : Int32)), .unset, .unset, .unset, .unset] [(.ref a)])) _
    exact k)
  obtain ⟨T2, X2, e2, st2⟩ := getF X0 hx hZ hown (host := "") (Or.inl (hw _ (List.mem_of_getElem? (i := 23) rfl))) Via.refl e0 F_a_kept (g := (mkF m 3 #[.val (.ref a), .val (.int (0 : Int32)), .unset, .unset, .unset, .unset] [(.ref a)])) rfl rfl (hb hby d4_3)
  have pre3 : ∀ t, Steps p.tables e below (T2.setTop (mkF m 6 #[.val (.ref a), .val (.int (0 : Int32)), .unset, .unset, .unset, .unset] [(.ref w_kept)])) t → Steps p.tables e below (s₁.setTop (entryFrame m #[(.ref a)] 6)) t := fun t k => pre1 t (st2 t k)
  have pre4 : ∀ t, Steps p.tables e below (T2.setTop (mkF m 8 #[.val (.ref a), .val (.int (0 : Int32)), .val (.ref w_kept), .unset, .unset, .unset] [(.ref w_kept)])) t → Steps p.tables e below (s₁.setTop (entryFrame m #[(.ref a)] 6)) t := fun t k => pre3 t (by
    show Steps p.tables e below (T2.setTop (mkF m 6 #[.val (.ref a), .val (.int (0 : Int32)), .unset, .unset, .unset, .unset] [(.ref w_kept)])) _
    refine XS.astoreN X2.here hx rfl (hb hby d4_6) rfl rfl (l' := #[.val (.ref a), .val (.int (0 : Int32)), .val (.ref w_kept), .unset, .unset, .unset]) rfl ?_
    show Steps p.tables e below (T2.setTop (mkF m 7 #[.val (.ref a), .val (.int (0 : Int32)), .val (.ref w_kept), .unset, .unset, .unset] [])) _
    refine XS.aloadN X2.here hx rfl (hb hby d4_7) rfl rfl ?_
    show Steps p.tables e below (T2.setTop (mkF m 8 #[.val (.ref a), .val (.int (0 : Int32)), .val (.ref w_kept), .unset, .unset, .unset] [(.ref w_kept)])) _
    exact k)
  obtain ⟨cl5, Ar5, Sz5, Hf5⟩ := id A_w_kept
  have pre6 : ∀ t, Steps p.tables e below (T2.setTop (mkF m 9 #[.val (.ref a), .val (.int (0 : Int32)), .val (.ref w_kept), .unset, .unset, .unset] [(.int (3 : Int32))])) t → Steps p.tables e below (s₁.setTop (entryFrame m #[(.ref a)] 6)) t := fun t k => pre4 t (X2.arraylength hx (by rw [e2]; exact Ar5.1) (State.isArrayOf_alike hZ.alike Ar5.2.1) (g := (mkF m 8 #[.val (.ref a), .val (.int (0 : Int32)), .val (.ref w_kept), .unset, .unset, .unset] [(.ref w_kept)])) rfl rfl (hb hby d4_8) _ (by rw [own_len Sz5 rfl]; exact k))
  have pre7 : ∀ t, Steps p.tables e below (T2.setTop (mkF m 22 #[.val (.ref a), .val (.int (0 : Int32)), .val (.ref w_kept), .val (.int (3 : Int32)), .val (.int (0 : Int32)), .unset] [(.int (0 : Int32)), (.ref w_kept)])) t → Steps p.tables e below (s₁.setTop (entryFrame m #[(.ref a)] 6)) t := fun t k => pre6 t (by
    show Steps p.tables e below (T2.setTop (mkF m 9 #[.val (.ref a), .val (.int (0 : Int32)), .val (.ref w_kept), .unset, .unset, .unset] [(.int (3 : Int32))])) _
    refine XS.istoreN X2.here hx rfl (hb hby d4_9) rfl (l' := #[.val (.ref a), .val (.int (0 : Int32)), .val (.ref w_kept), .val (.int (3 : Int32)), .unset, .unset]) rfl ?_
    show Steps p.tables e below (T2.setTop (mkF m 10 #[.val (.ref a), .val (.int (0 : Int32)), .val (.ref w_kept), .val (.int (3 : Int32)), .unset, .unset] [])) _
    refine XS.iconst X2.here hx rfl (hb hby d4_10) ?_
    show Steps p.tables e below (T2.setTop (mkF m 11 #[.val (.ref a), .val (.int (0 : Int32)), .val (.ref w_kept), .val (.int (3 : Int32)), .unset, .unset] [(.int (0 : Int32))])) _
    refine XS.istore X2.here hx rfl (hb hby d4_11) rfl (l' := #[.val (.ref a), .val (.int (0 : Int32)), .val (.ref w_kept), .val (.int (3 : Int32)), .val (.int (0 : Int32)), .unset]) rfl ?_
    show Steps p.tables e below (T2.setTop (mkF m 13 #[.val (.ref a), .val (.int (0 : Int32)), .val (.ref w_kept), .val (.int (3 : Int32)), .val (.int (0 : Int32)), .unset] [])) _
    refine XS.iload X2.here hx rfl (hb hby d4_13) rfl ?_
    show Steps p.tables e below (T2.setTop (mkF m 15 #[.val (.ref a), .val (.int (0 : Int32)), .val (.ref w_kept), .val (.int (3 : Int32)), .val (.int (0 : Int32)), .unset] [(.int (0 : Int32))])) _
    refine XS.iloadN X2.here hx rfl (hb hby d4_15) rfl ?_
    show Steps p.tables e below (T2.setTop (mkF m 16 #[.val (.ref a), .val (.int (0 : Int32)), .val (.ref w_kept), .val (.int (3 : Int32)), .val (.int (0 : Int32)), .unset] [(.int (3 : Int32)), (.int (0 : Int32))])) _
    refine XS.icmpNo X2.here hx rfl (hb hby d4_16) rfl (tlt (by decide)).2.1 ?_
    show Steps p.tables e below (T2.setTop (mkF m 19 #[.val (.ref a), .val (.int (0 : Int32)), .val (.ref w_kept), .val (.int (3 : Int32)), .val (.int (0 : Int32)), .unset] [])) _
    refine XS.aloadN X2.here hx rfl (hb hby d4_19) rfl rfl ?_
    show Steps p.tables e below (T2.setTop (mkF m 20 #[.val (.ref a), .val (.int (0 : Int32)), .val (.ref w_kept), .val (.int (3 : Int32)), .val (.int (0 : Int32)), .unset] [(.ref w_kept)])) _
    refine XS.iload X2.here hx rfl (hb hby d4_20) rfl ?_
    show Steps p.tables e below (T2.setTop (mkF m 22 #[.val (.ref a), .val (.int (0 : Int32)), .val (.ref w_kept), .val (.int (3 : Int32)), .val (.int (0 : Int32)), .unset] [(.int (0 : Int32)), (.ref w_kept)])) _
    exact k)
  obtain ⟨cl8, Ar8, Sz8, Hf8⟩ := id A_w_kept
  have hat8 : cl8.slots[((0 : Int32)).toNatClampNeg]? = some (.int (f 0)) := (Hf8 _ (own_lt_of ⟨by decide, by decide⟩)).trans (congrArg (fun z => some (Value.int z)) rfl)
  have pre9 : ∀ t, Steps p.tables e below (T2.setTop (mkF m 23 #[.val (.ref a), .val (.int (0 : Int32)), .val (.ref w_kept), .val (.int (3 : Int32)), .val (.int (0 : Int32)), .unset] [(.int (f 0))])) t → Steps p.tables e below (s₁.setTop (entryFrame m #[(.ref a)] 6)) t := fun t k => pre7 t (X2.iaload hx (j := (0 : Int32)) (v := (.int (f 0))) (by rw [e2]; exact Ar8.1) (State.isArrayOf_alike hZ.alike Ar8.2.1) Ar8.2.2 (own_inb Sz8 ⟨by decide, by decide⟩) hat8 (g := (mkF m 22 #[.val (.ref a), .val (.int (0 : Int32)), .val (.ref w_kept), .val (.int (3 : Int32)), .val (.int (0 : Int32)), .unset] [(.int (0 : Int32)), (.ref w_kept)])) rfl rfl (hb hby d4_22) _ k)
  have pre10 : ∀ t, Steps p.tables e below (T2.setTop (mkF m 28 #[.val (.ref a), .val (.int (0 : Int32)), .val (.ref w_kept), .val (.int (3 : Int32)), .val (.int (0 : Int32)), .val (.int (f 0))] [(.int (f 0)), (.int (0 : Int32))])) t → Steps p.tables e below (s₁.setTop (entryFrame m #[(.ref a)] 6)) t := fun t k => pre9 t (by
    show Steps p.tables e below (T2.setTop (mkF m 23 #[.val (.ref a), .val (.int (0 : Int32)), .val (.ref w_kept), .val (.int (3 : Int32)), .val (.int (0 : Int32)), .unset] [(.int (f 0))])) _
    refine XS.istore X2.here hx rfl (hb hby d4_23) rfl (l' := #[.val (.ref a), .val (.int (0 : Int32)), .val (.ref w_kept), .val (.int (3 : Int32)), .val (.int (0 : Int32)), .val (.int (f 0))]) rfl ?_
    show Steps p.tables e below (T2.setTop (mkF m 25 #[.val (.ref a), .val (.int (0 : Int32)), .val (.ref w_kept), .val (.int (3 : Int32)), .val (.int (0 : Int32)), .val (.int (f 0))] [])) _
    refine XS.iloadN X2.here hx rfl (hb hby d4_25) rfl ?_
    show Steps p.tables e below (T2.setTop (mkF m 26 #[.val (.ref a), .val (.int (0 : Int32)), .val (.ref w_kept), .val (.int (3 : Int32)), .val (.int (0 : Int32)), .val (.int (f 0))] [(.int (0 : Int32))])) _
    refine XS.iload X2.here hx rfl (hb hby d4_26) rfl ?_
    show Steps p.tables e below (T2.setTop (mkF m 28 #[.val (.ref a), .val (.int (0 : Int32)), .val (.ref w_kept), .val (.int (3 : Int32)), .val (.int (0 : Int32)), .val (.int (f 0))] [(.int (f 0)), (.int (0 : Int32))])) _
    exact k)
  have pre12 : ∀ t, Steps p.tables e below (T2.setTop (mkF m 36 #[.val (.ref a), .val (.int (0 : Int32)), .val (.ref w_kept), .val (.int (3 : Int32)), .val (.int (0 : Int32)), .val (.int (f 0))] [(.int (if (f 0) < (0 : Int32) then (1 : Int32) else (0 : Int32))), (.int (0 : Int32))])) t → Steps p.tables e below (s₁.setTop (entryFrame m #[(.ref a)] 6)) t := fun t k => pre10 t (by
    show Steps p.tables e below (T2.setTop (mkF m 28 #[.val (.ref a), .val (.int (0 : Int32)), .val (.ref w_kept), .val (.int (3 : Int32)), .val (.int (0 : Int32)), .val (.int (f 0))] [(.int (f 0)), (.int (0 : Int32))])) _
    by_cases hm28_11 : (f 0) < (0 : Int32)
    · refine XS.ifNo X2.here hx rfl (hb hby d4_28) rfl ((if0 _ _).trans (tlt hm28_11).2.1) ?_
      show Steps p.tables e below (T2.setTop (mkF m 31 #[.val (.ref a), .val (.int (0 : Int32)), .val (.ref w_kept), .val (.int (3 : Int32)), .val (.int (0 : Int32)), .val (.int (f 0))] [(.int (0 : Int32))])) _
      refine XS.iconst X2.here hx rfl (hb hby d4_31) ?_
      show Steps p.tables e below (T2.setTop (mkF m 32 #[.val (.ref a), .val (.int (0 : Int32)), .val (.ref w_kept), .val (.int (3 : Int32)), .val (.int (0 : Int32)), .val (.int (f 0))] [(.int (1 : Int32)), (.int (0 : Int32))])) _
      refine XS.goto X2.here hx rfl (pc0 := 32) (pc' := 36) rfl (hb hby d4_32) (by decide) (by decide) ?_
      show Steps p.tables e below (T2.setTop (mkF m 36 #[.val (.ref a), .val (.int (0 : Int32)), .val (.ref w_kept), .val (.int (3 : Int32)), .val (.int (0 : Int32)), .val (.int (f 0))] [(.int (1 : Int32)), (.int (0 : Int32))])) _
      have q : (if (f 0) < (0 : Int32) then (1 : Int32) else (0 : Int32)) = (1 : Int32) := by simp only [if_pos hm28_11]
      exact Eq.subst (motive := fun xI => Steps p.tables e below (T2.setTop (mkF m 36 #[.val (.ref a), .val (.int (0 : Int32)), .val (.ref w_kept), .val (.int (3 : Int32)), .val (.int (0 : Int32)), .val (.int (f 0))] [(.int xI), (.int (0 : Int32))])) t) q k
    · refine XS.ifYes X2.here hx rfl (pc0 := 28) (pc' := 35) rfl (hb hby d4_28) rfl ((if0 _ _).trans (flt hm28_11).2.1) (by decide) (by decide) ?_
      show Steps p.tables e below (T2.setTop (mkF m 35 #[.val (.ref a), .val (.int (0 : Int32)), .val (.ref w_kept), .val (.int (3 : Int32)), .val (.int (0 : Int32)), .val (.int (f 0))] [(.int (0 : Int32))])) _
      refine XS.iconst X2.here hx rfl (hb hby d4_35) ?_
      show Steps p.tables e below (T2.setTop (mkF m 36 #[.val (.ref a), .val (.int (0 : Int32)), .val (.ref w_kept), .val (.int (3 : Int32)), .val (.int (0 : Int32)), .val (.int (f 0))] [(.int (0 : Int32)), (.int (0 : Int32))])) _
      have q : (if (f 0) < (0 : Int32) then (1 : Int32) else (0 : Int32)) = (0 : Int32) := by simp only [if_neg hm28_11]
      exact Eq.subst (motive := fun xI => Steps p.tables e below (T2.setTop (mkF m 36 #[.val (.ref a), .val (.int (0 : Int32)), .val (.ref w_kept), .val (.int (3 : Int32)), .val (.int (0 : Int32)), .val (.int (f 0))] [(.int xI), (.int (0 : Int32))])) t) q k)
  have pre13 : ∀ t, Steps p.tables e below (T2.setTop (mkF m 22 (lcR3_1 a f w_kept) [(.int (1 : Int32)), (.ref w_kept)])) t → Steps p.tables e below (s₁.setTop (entryFrame m #[(.ref a)] 6)) t := fun t k => pre12 t (by
    show Steps p.tables e below (T2.setTop (mkF m 36 #[.val (.ref a), .val (.int (0 : Int32)), .val (.ref w_kept), .val (.int (3 : Int32)), .val (.int (0 : Int32)), .val (.int (f 0))] [(.int (if (f 0) < (0 : Int32) then (1 : Int32) else (0 : Int32))), (.int (0 : Int32))])) _
    refine XS.iadd X2.here hx rfl (hb hby d4_36) rfl ?_
    show Steps p.tables e below (T2.setTop (mkF m 37 #[.val (.ref a), .val (.int (0 : Int32)), .val (.ref w_kept), .val (.int (3 : Int32)), .val (.int (0 : Int32)), .val (.int (f 0))] [(.int ((0 : Int32) + (if (f 0) < (0 : Int32) then (1 : Int32) else (0 : Int32))))])) _
    refine XS.istoreN X2.here hx rfl (hb hby d4_37) rfl (l' := (lcR3_0 a f w_kept)) rfl ?_
    show Steps p.tables e below (T2.setTop (mkF m 38 (lcR3_0 a f w_kept) [])) _
    refine XS.iinc X2.here hx rfl (hb hby d4_38) rfl (l' := (lcR3_1 a f w_kept)) rfl ?_
    show Steps p.tables e below (T2.setTop (mkF m 41 (lcR3_1 a f w_kept) [])) _
    refine XS.goto X2.here hx rfl (pc0 := 41) (pc' := 13) rfl (hb hby d4_41) (by decide) (by decide) ?_
    show Steps p.tables e below (T2.setTop (mkF m 13 (lcR3_1 a f w_kept) [])) _
    refine XS.iload X2.here hx rfl (hb hby d4_13) rfl ?_
    show Steps p.tables e below (T2.setTop (mkF m 15 (lcR3_1 a f w_kept) [(.int (1 : Int32))])) _
    refine XS.iloadN X2.here hx rfl (hb hby d4_15) rfl ?_
    show Steps p.tables e below (T2.setTop (mkF m 16 (lcR3_1 a f w_kept) [(.int (3 : Int32)), (.int (1 : Int32))])) _
    refine XS.icmpNo X2.here hx rfl (hb hby d4_16) rfl (tlt (by decide)).2.1 ?_
    show Steps p.tables e below (T2.setTop (mkF m 19 (lcR3_1 a f w_kept) [])) _
    refine XS.aloadN X2.here hx rfl (hb hby d4_19) rfl rfl ?_
    show Steps p.tables e below (T2.setTop (mkF m 20 (lcR3_1 a f w_kept) [(.ref w_kept)])) _
    refine XS.iload X2.here hx rfl (hb hby d4_20) rfl ?_
    show Steps p.tables e below (T2.setTop (mkF m 22 (lcR3_1 a f w_kept) [(.int (1 : Int32)), (.ref w_kept)])) _
    exact k)
  obtain ⟨cl14, Ar14, Sz14, Hf14⟩ := id A_w_kept
  have hat14 : cl14.slots[((1 : Int32)).toNatClampNeg]? = some (.int (f 1)) := (Hf14 _ (own_lt_of ⟨by decide, by decide⟩)).trans (congrArg (fun z => some (Value.int z)) rfl)
  have pre15 : ∀ t, Steps p.tables e below (T2.setTop (mkF m 23 (lcR3_1 a f w_kept) [(.int (f 1))])) t → Steps p.tables e below (s₁.setTop (entryFrame m #[(.ref a)] 6)) t := fun t k => pre13 t (X2.iaload hx (j := (1 : Int32)) (v := (.int (f 1))) (by rw [e2]; exact Ar14.1) (State.isArrayOf_alike hZ.alike Ar14.2.1) Ar14.2.2 (own_inb Sz14 ⟨by decide, by decide⟩) hat14 (g := (mkF m 22 (lcR3_1 a f w_kept) [(.int (1 : Int32)), (.ref w_kept)])) rfl rfl (hb hby d4_22) _ k)
  have pre16 : ∀ t, Steps p.tables e below (T2.setTop (mkF m 28 (lcR3_2 a f w_kept) [(.int (f 1)), (.int ((0 : Int32) + (if (f 0) < (0 : Int32) then (1 : Int32) else (0 : Int32))))])) t → Steps p.tables e below (s₁.setTop (entryFrame m #[(.ref a)] 6)) t := fun t k => pre15 t (by
    show Steps p.tables e below (T2.setTop (mkF m 23 (lcR3_1 a f w_kept) [(.int (f 1))])) _
    refine XS.istore X2.here hx rfl (hb hby d4_23) rfl (l' := (lcR3_2 a f w_kept)) rfl ?_
    show Steps p.tables e below (T2.setTop (mkF m 25 (lcR3_2 a f w_kept) [])) _
    refine XS.iloadN X2.here hx rfl (hb hby d4_25) rfl ?_
    show Steps p.tables e below (T2.setTop (mkF m 26 (lcR3_2 a f w_kept) [(.int ((0 : Int32) + (if (f 0) < (0 : Int32) then (1 : Int32) else (0 : Int32))))])) _
    refine XS.iload X2.here hx rfl (hb hby d4_26) rfl ?_
    show Steps p.tables e below (T2.setTop (mkF m 28 (lcR3_2 a f w_kept) [(.int (f 1)), (.int ((0 : Int32) + (if (f 0) < (0 : Int32) then (1 : Int32) else (0 : Int32))))])) _
    exact k)
  have pre18 : ∀ t, Steps p.tables e below (T2.setTop (mkF m 36 (lcR3_2 a f w_kept) [(.int (if (f 1) < (0 : Int32) then (1 : Int32) else (0 : Int32))), (.int ((0 : Int32) + (if (f 0) < (0 : Int32) then (1 : Int32) else (0 : Int32))))])) t → Steps p.tables e below (s₁.setTop (entryFrame m #[(.ref a)] 6)) t := fun t k => pre16 t (by
    show Steps p.tables e below (T2.setTop (mkF m 28 (lcR3_2 a f w_kept) [(.int (f 1)), (.int ((0 : Int32) + (if (f 0) < (0 : Int32) then (1 : Int32) else (0 : Int32))))])) _
    by_cases hm28_17 : (f 1) < (0 : Int32)
    · refine XS.ifNo X2.here hx rfl (hb hby d4_28) rfl ((if0 _ _).trans (tlt hm28_17).2.1) ?_
      show Steps p.tables e below (T2.setTop (mkF m 31 (lcR3_2 a f w_kept) [(.int ((0 : Int32) + (if (f 0) < (0 : Int32) then (1 : Int32) else (0 : Int32))))])) _
      refine XS.iconst X2.here hx rfl (hb hby d4_31) ?_
      show Steps p.tables e below (T2.setTop (mkF m 32 (lcR3_2 a f w_kept) [(.int (1 : Int32)), (.int ((0 : Int32) + (if (f 0) < (0 : Int32) then (1 : Int32) else (0 : Int32))))])) _
      refine XS.goto X2.here hx rfl (pc0 := 32) (pc' := 36) rfl (hb hby d4_32) (by decide) (by decide) ?_
      show Steps p.tables e below (T2.setTop (mkF m 36 (lcR3_2 a f w_kept) [(.int (1 : Int32)), (.int ((0 : Int32) + (if (f 0) < (0 : Int32) then (1 : Int32) else (0 : Int32))))])) _
      have q : (if (f 1) < (0 : Int32) then (1 : Int32) else (0 : Int32)) = (1 : Int32) := by simp only [if_pos hm28_17]
      exact Eq.subst (motive := fun xI => Steps p.tables e below (T2.setTop (mkF m 36 (lcR3_2 a f w_kept) [(.int xI), (.int ((0 : Int32) + (if (f 0) < (0 : Int32) then (1 : Int32) else (0 : Int32))))])) t) q k
    · refine XS.ifYes X2.here hx rfl (pc0 := 28) (pc' := 35) rfl (hb hby d4_28) rfl ((if0 _ _).trans (flt hm28_17).2.1) (by decide) (by decide) ?_
      show Steps p.tables e below (T2.setTop (mkF m 35 (lcR3_2 a f w_kept) [(.int ((0 : Int32) + (if (f 0) < (0 : Int32) then (1 : Int32) else (0 : Int32))))])) _
      refine XS.iconst X2.here hx rfl (hb hby d4_35) ?_
      show Steps p.tables e below (T2.setTop (mkF m 36 (lcR3_2 a f w_kept) [(.int (0 : Int32)), (.int ((0 : Int32) + (if (f 0) < (0 : Int32) then (1 : Int32) else (0 : Int32))))])) _
      have q : (if (f 1) < (0 : Int32) then (1 : Int32) else (0 : Int32)) = (0 : Int32) := by simp only [if_neg hm28_17]
      exact Eq.subst (motive := fun xI => Steps p.tables e below (T2.setTop (mkF m 36 (lcR3_2 a f w_kept) [(.int xI), (.int ((0 : Int32) + (if (f 0) < (0 : Int32) then (1 : Int32) else (0 : Int32))))])) t) q k)
  have pre19 : ∀ t, Steps p.tables e below (T2.setTop (mkF m 22 (lcR3_4 a f w_kept) [(.int (2 : Int32)), (.ref w_kept)])) t → Steps p.tables e below (s₁.setTop (entryFrame m #[(.ref a)] 6)) t := fun t k => pre18 t (by
    show Steps p.tables e below (T2.setTop (mkF m 36 (lcR3_2 a f w_kept) [(.int (if (f 1) < (0 : Int32) then (1 : Int32) else (0 : Int32))), (.int ((0 : Int32) + (if (f 0) < (0 : Int32) then (1 : Int32) else (0 : Int32))))])) _
    refine XS.iadd X2.here hx rfl (hb hby d4_36) rfl ?_
    show Steps p.tables e below (T2.setTop (mkF m 37 (lcR3_2 a f w_kept) [(.int (((0 : Int32) + (if (f 0) < (0 : Int32) then (1 : Int32) else (0 : Int32))) + (if (f 1) < (0 : Int32) then (1 : Int32) else (0 : Int32))))])) _
    refine XS.istoreN X2.here hx rfl (hb hby d4_37) rfl (l' := (lcR3_3 a f w_kept)) rfl ?_
    show Steps p.tables e below (T2.setTop (mkF m 38 (lcR3_3 a f w_kept) [])) _
    refine XS.iinc X2.here hx rfl (hb hby d4_38) rfl (l' := (lcR3_4 a f w_kept)) rfl ?_
    show Steps p.tables e below (T2.setTop (mkF m 41 (lcR3_4 a f w_kept) [])) _
    refine XS.goto X2.here hx rfl (pc0 := 41) (pc' := 13) rfl (hb hby d4_41) (by decide) (by decide) ?_
    show Steps p.tables e below (T2.setTop (mkF m 13 (lcR3_4 a f w_kept) [])) _
    refine XS.iload X2.here hx rfl (hb hby d4_13) rfl ?_
    show Steps p.tables e below (T2.setTop (mkF m 15 (lcR3_4 a f w_kept) [(.int (2 : Int32))])) _
    refine XS.iloadN X2.here hx rfl (hb hby d4_15) rfl ?_
    show Steps p.tables e below (T2.setTop (mkF m 16 (lcR3_4 a f w_kept) [(.int (3 : Int32)), (.int (2 : Int32))])) _
    refine XS.icmpNo X2.here hx rfl (hb hby d4_16) rfl (tlt (by decide)).2.1 ?_
    show Steps p.tables e below (T2.setTop (mkF m 19 (lcR3_4 a f w_kept) [])) _
    refine XS.aloadN X2.here hx rfl (hb hby d4_19) rfl rfl ?_
    show Steps p.tables e below (T2.setTop (mkF m 20 (lcR3_4 a f w_kept) [(.ref w_kept)])) _
    refine XS.iload X2.here hx rfl (hb hby d4_20) rfl ?_
    show Steps p.tables e below (T2.setTop (mkF m 22 (lcR3_4 a f w_kept) [(.int (2 : Int32)), (.ref w_kept)])) _
    exact k)
  obtain ⟨cl20, Ar20, Sz20, Hf20⟩ := id A_w_kept
  have hat20 : cl20.slots[((2 : Int32)).toNatClampNeg]? = some (.int (f 2)) := (Hf20 _ (own_lt_of ⟨by decide, by decide⟩)).trans (congrArg (fun z => some (Value.int z)) rfl)
  have pre21 : ∀ t, Steps p.tables e below (T2.setTop (mkF m 23 (lcR3_4 a f w_kept) [(.int (f 2))])) t → Steps p.tables e below (s₁.setTop (entryFrame m #[(.ref a)] 6)) t := fun t k => pre19 t (X2.iaload hx (j := (2 : Int32)) (v := (.int (f 2))) (by rw [e2]; exact Ar20.1) (State.isArrayOf_alike hZ.alike Ar20.2.1) Ar20.2.2 (own_inb Sz20 ⟨by decide, by decide⟩) hat20 (g := (mkF m 22 (lcR3_4 a f w_kept) [(.int (2 : Int32)), (.ref w_kept)])) rfl rfl (hb hby d4_22) _ k)
  have pre22 : ∀ t, Steps p.tables e below (T2.setTop (mkF m 28 (lcR3_5 a f w_kept) [(.int (f 2)), (.int (((0 : Int32) + (if (f 0) < (0 : Int32) then (1 : Int32) else (0 : Int32))) + (if (f 1) < (0 : Int32) then (1 : Int32) else (0 : Int32))))])) t → Steps p.tables e below (s₁.setTop (entryFrame m #[(.ref a)] 6)) t := fun t k => pre21 t (by
    show Steps p.tables e below (T2.setTop (mkF m 23 (lcR3_4 a f w_kept) [(.int (f 2))])) _
    refine XS.istore X2.here hx rfl (hb hby d4_23) rfl (l' := (lcR3_5 a f w_kept)) rfl ?_
    show Steps p.tables e below (T2.setTop (mkF m 25 (lcR3_5 a f w_kept) [])) _
    refine XS.iloadN X2.here hx rfl (hb hby d4_25) rfl ?_
    show Steps p.tables e below (T2.setTop (mkF m 26 (lcR3_5 a f w_kept) [(.int (((0 : Int32) + (if (f 0) < (0 : Int32) then (1 : Int32) else (0 : Int32))) + (if (f 1) < (0 : Int32) then (1 : Int32) else (0 : Int32))))])) _
    refine XS.iload X2.here hx rfl (hb hby d4_26) rfl ?_
    show Steps p.tables e below (T2.setTop (mkF m 28 (lcR3_5 a f w_kept) [(.int (f 2)), (.int (((0 : Int32) + (if (f 0) < (0 : Int32) then (1 : Int32) else (0 : Int32))) + (if (f 1) < (0 : Int32) then (1 : Int32) else (0 : Int32))))])) _
    exact k)
  have pre24 : ∀ t, Steps p.tables e below (T2.setTop (mkF m 36 (lcR3_5 a f w_kept) [(.int (if (f 2) < (0 : Int32) then (1 : Int32) else (0 : Int32))), (.int (((0 : Int32) + (if (f 0) < (0 : Int32) then (1 : Int32) else (0 : Int32))) + (if (f 1) < (0 : Int32) then (1 : Int32) else (0 : Int32))))])) t → Steps p.tables e below (s₁.setTop (entryFrame m #[(.ref a)] 6)) t := fun t k => pre22 t (by
    show Steps p.tables e below (T2.setTop (mkF m 28 (lcR3_5 a f w_kept) [(.int (f 2)), (.int (((0 : Int32) + (if (f 0) < (0 : Int32) then (1 : Int32) else (0 : Int32))) + (if (f 1) < (0 : Int32) then (1 : Int32) else (0 : Int32))))])) _
    by_cases hm28_23 : (f 2) < (0 : Int32)
    · refine XS.ifNo X2.here hx rfl (hb hby d4_28) rfl ((if0 _ _).trans (tlt hm28_23).2.1) ?_
      show Steps p.tables e below (T2.setTop (mkF m 31 (lcR3_5 a f w_kept) [(.int (((0 : Int32) + (if (f 0) < (0 : Int32) then (1 : Int32) else (0 : Int32))) + (if (f 1) < (0 : Int32) then (1 : Int32) else (0 : Int32))))])) _
      refine XS.iconst X2.here hx rfl (hb hby d4_31) ?_
      show Steps p.tables e below (T2.setTop (mkF m 32 (lcR3_5 a f w_kept) [(.int (1 : Int32)), (.int (((0 : Int32) + (if (f 0) < (0 : Int32) then (1 : Int32) else (0 : Int32))) + (if (f 1) < (0 : Int32) then (1 : Int32) else (0 : Int32))))])) _
      refine XS.goto X2.here hx rfl (pc0 := 32) (pc' := 36) rfl (hb hby d4_32) (by decide) (by decide) ?_
      show Steps p.tables e below (T2.setTop (mkF m 36 (lcR3_5 a f w_kept) [(.int (1 : Int32)), (.int (((0 : Int32) + (if (f 0) < (0 : Int32) then (1 : Int32) else (0 : Int32))) + (if (f 1) < (0 : Int32) then (1 : Int32) else (0 : Int32))))])) _
      have q : (if (f 2) < (0 : Int32) then (1 : Int32) else (0 : Int32)) = (1 : Int32) := by simp only [if_pos hm28_23]
      exact Eq.subst (motive := fun xI => Steps p.tables e below (T2.setTop (mkF m 36 (lcR3_5 a f w_kept) [(.int xI), (.int (((0 : Int32) + (if (f 0) < (0 : Int32) then (1 : Int32) else (0 : Int32))) + (if (f 1) < (0 : Int32) then (1 : Int32) else (0 : Int32))))])) t) q k
    · refine XS.ifYes X2.here hx rfl (pc0 := 28) (pc' := 35) rfl (hb hby d4_28) rfl ((if0 _ _).trans (flt hm28_23).2.1) (by decide) (by decide) ?_
      show Steps p.tables e below (T2.setTop (mkF m 35 (lcR3_5 a f w_kept) [(.int (((0 : Int32) + (if (f 0) < (0 : Int32) then (1 : Int32) else (0 : Int32))) + (if (f 1) < (0 : Int32) then (1 : Int32) else (0 : Int32))))])) _
      refine XS.iconst X2.here hx rfl (hb hby d4_35) ?_
      show Steps p.tables e below (T2.setTop (mkF m 36 (lcR3_5 a f w_kept) [(.int (0 : Int32)), (.int (((0 : Int32) + (if (f 0) < (0 : Int32) then (1 : Int32) else (0 : Int32))) + (if (f 1) < (0 : Int32) then (1 : Int32) else (0 : Int32))))])) _
      have q : (if (f 2) < (0 : Int32) then (1 : Int32) else (0 : Int32)) = (0 : Int32) := by simp only [if_neg hm28_23]
      exact Eq.subst (motive := fun xI => Steps p.tables e below (T2.setTop (mkF m 36 (lcR3_5 a f w_kept) [(.int xI), (.int (((0 : Int32) + (if (f 0) < (0 : Int32) then (1 : Int32) else (0 : Int32))) + (if (f 1) < (0 : Int32) then (1 : Int32) else (0 : Int32))))])) t) q k)
  have pre25 : ∀ t, Steps p.tables e below (T2.setTop (mkF m 45 (lcR3_7 a f w_kept) [(.int ((((0 : Int32) + (if (f 0) < (0 : Int32) then (1 : Int32) else (0 : Int32))) + (if (f 1) < (0 : Int32) then (1 : Int32) else (0 : Int32))) + (if (f 2) < (0 : Int32) then (1 : Int32) else (0 : Int32))))])) t → Steps p.tables e below (s₁.setTop (entryFrame m #[(.ref a)] 6)) t := fun t k => pre24 t (by
    show Steps p.tables e below (T2.setTop (mkF m 36 (lcR3_5 a f w_kept) [(.int (if (f 2) < (0 : Int32) then (1 : Int32) else (0 : Int32))), (.int (((0 : Int32) + (if (f 0) < (0 : Int32) then (1 : Int32) else (0 : Int32))) + (if (f 1) < (0 : Int32) then (1 : Int32) else (0 : Int32))))])) _
    refine XS.iadd X2.here hx rfl (hb hby d4_36) rfl ?_
    show Steps p.tables e below (T2.setTop (mkF m 37 (lcR3_5 a f w_kept) [(.int ((((0 : Int32) + (if (f 0) < (0 : Int32) then (1 : Int32) else (0 : Int32))) + (if (f 1) < (0 : Int32) then (1 : Int32) else (0 : Int32))) + (if (f 2) < (0 : Int32) then (1 : Int32) else (0 : Int32))))])) _
    refine XS.istoreN X2.here hx rfl (hb hby d4_37) rfl (l' := (lcR3_6 a f w_kept)) rfl ?_
    show Steps p.tables e below (T2.setTop (mkF m 38 (lcR3_6 a f w_kept) [])) _
    refine XS.iinc X2.here hx rfl (hb hby d4_38) rfl (l' := (lcR3_7 a f w_kept)) rfl ?_
    show Steps p.tables e below (T2.setTop (mkF m 41 (lcR3_7 a f w_kept) [])) _
    refine XS.goto X2.here hx rfl (pc0 := 41) (pc' := 13) rfl (hb hby d4_41) (by decide) (by decide) ?_
    show Steps p.tables e below (T2.setTop (mkF m 13 (lcR3_7 a f w_kept) [])) _
    refine XS.iload X2.here hx rfl (hb hby d4_13) rfl ?_
    show Steps p.tables e below (T2.setTop (mkF m 15 (lcR3_7 a f w_kept) [(.int (3 : Int32))])) _
    refine XS.iloadN X2.here hx rfl (hb hby d4_15) rfl ?_
    show Steps p.tables e below (T2.setTop (mkF m 16 (lcR3_7 a f w_kept) [(.int (3 : Int32)), (.int (3 : Int32))])) _
    refine XS.icmpYes X2.here hx rfl (pc0 := 16) (pc' := 44) rfl (hb hby d4_16) rfl (flt (by decide)).2.1 (by decide) (by decide) ?_
    show Steps p.tables e below (T2.setTop (mkF m 44 (lcR3_7 a f w_kept) [])) _
    refine XS.iloadN X2.here hx rfl (hb hby d4_44) rfl ?_
    show Steps p.tables e below (T2.setTop (mkF m 45 (lcR3_7 a f w_kept) [(.int ((((0 : Int32) + (if (f 0) < (0 : Int32) then (1 : Int32) else (0 : Int32))) + (if (f 1) < (0 : Int32) then (1 : Int32) else (0 : Int32))) + (if (f 2) < (0 : Int32) then (1 : Int32) else (0 : Int32))))])) _
    exact k)
  obtain ⟨fs, hr, hrun, hended, hW, hsame⟩ := X2.leave (v := some (.int ((((0 : Int32) + (if (f 0) < (0 : Int32) then (1 : Int32) else (0 : Int32))) + (if (f 1) < (0 : Int32) then (1 : Int32) else (0 : Int32))) + (if (f 2) < (0 : Int32) then (1 : Int32) else (0 : Int32))))) (fun h => by rw [Bd.returns] at h; cases h) hlk
  refine ⟨_, _, pre25 _ ?_, hrun, hended, _, _, rfl, ?_, ⟨_, rfl⟩, hW, hsame.mono (by decide) (by decide)⟩
  · show Steps p.tables e below (T2.setTop (mkF m 45 (lcR3_7 a f w_kept) [(.int ((((0 : Int32) + (if (f 0) < (0 : Int32) then (1 : Int32) else (0 : Int32))) + (if (f 1) < (0 : Int32) then (1 : Int32) else (0 : Int32))) + (if (f 2) < (0 : Int32) then (1 : Int32) else (0 : Int32))))])) _
    exact retI X2 hx Bd.returns (hb hby d4_45) hr
  · show QR3 Z a f w_kept h0 n0 _ T2.heap _
    rw [e2]
    exact ⟨by simp only [own_rel3], N0, rfl⟩
def lcR4_0 (a : Addr) (f : Nat → Int32) (w_kept : Addr) : Array Slot := #[.val (.ref a), .val (.int ((0 : Int32) + (if (f 0) < (0 : Int32) then (1 : Int32) else (0 : Int32)))), .val (.ref w_kept), .val (.int (4 : Int32)), .val (.int (0 : Int32)), .val (.int (f 0))]
def lcR4_1 (a : Addr) (f : Nat → Int32) (w_kept : Addr) : Array Slot := #[.val (.ref a), .val (.int ((0 : Int32) + (if (f 0) < (0 : Int32) then (1 : Int32) else (0 : Int32)))), .val (.ref w_kept), .val (.int (4 : Int32)), .val (.int (1 : Int32)), .val (.int (f 0))]
def lcR4_2 (a : Addr) (f : Nat → Int32) (w_kept : Addr) : Array Slot := #[.val (.ref a), .val (.int ((0 : Int32) + (if (f 0) < (0 : Int32) then (1 : Int32) else (0 : Int32)))), .val (.ref w_kept), .val (.int (4 : Int32)), .val (.int (1 : Int32)), .val (.int (f 1))]
def lcR4_3 (a : Addr) (f : Nat → Int32) (w_kept : Addr) : Array Slot := #[.val (.ref a), .val (.int (((0 : Int32) + (if (f 0) < (0 : Int32) then (1 : Int32) else (0 : Int32))) + (if (f 1) < (0 : Int32) then (1 : Int32) else (0 : Int32)))), .val (.ref w_kept), .val (.int (4 : Int32)), .val (.int (1 : Int32)), .val (.int (f 1))]
def lcR4_4 (a : Addr) (f : Nat → Int32) (w_kept : Addr) : Array Slot := #[.val (.ref a), .val (.int (((0 : Int32) + (if (f 0) < (0 : Int32) then (1 : Int32) else (0 : Int32))) + (if (f 1) < (0 : Int32) then (1 : Int32) else (0 : Int32)))), .val (.ref w_kept), .val (.int (4 : Int32)), .val (.int (2 : Int32)), .val (.int (f 1))]
def lcR4_5 (a : Addr) (f : Nat → Int32) (w_kept : Addr) : Array Slot := #[.val (.ref a), .val (.int (((0 : Int32) + (if (f 0) < (0 : Int32) then (1 : Int32) else (0 : Int32))) + (if (f 1) < (0 : Int32) then (1 : Int32) else (0 : Int32)))), .val (.ref w_kept), .val (.int (4 : Int32)), .val (.int (2 : Int32)), .val (.int (f 2))]
def lcR4_6 (a : Addr) (f : Nat → Int32) (w_kept : Addr) : Array Slot := #[.val (.ref a), .val (.int ((((0 : Int32) + (if (f 0) < (0 : Int32) then (1 : Int32) else (0 : Int32))) + (if (f 1) < (0 : Int32) then (1 : Int32) else (0 : Int32))) + (if (f 2) < (0 : Int32) then (1 : Int32) else (0 : Int32)))), .val (.ref w_kept), .val (.int (4 : Int32)), .val (.int (2 : Int32)), .val (.int (f 2))]
def lcR4_7 (a : Addr) (f : Nat → Int32) (w_kept : Addr) : Array Slot := #[.val (.ref a), .val (.int ((((0 : Int32) + (if (f 0) < (0 : Int32) then (1 : Int32) else (0 : Int32))) + (if (f 1) < (0 : Int32) then (1 : Int32) else (0 : Int32))) + (if (f 2) < (0 : Int32) then (1 : Int32) else (0 : Int32)))), .val (.ref w_kept), .val (.int (4 : Int32)), .val (.int (3 : Int32)), .val (.int (f 2))]
def lcR4_8 (a : Addr) (f : Nat → Int32) (w_kept : Addr) : Array Slot := #[.val (.ref a), .val (.int ((((0 : Int32) + (if (f 0) < (0 : Int32) then (1 : Int32) else (0 : Int32))) + (if (f 1) < (0 : Int32) then (1 : Int32) else (0 : Int32))) + (if (f 2) < (0 : Int32) then (1 : Int32) else (0 : Int32)))), .val (.ref w_kept), .val (.int (4 : Int32)), .val (.int (3 : Int32)), .val (.int (f 3))]
def lcR4_9 (a : Addr) (f : Nat → Int32) (w_kept : Addr) : Array Slot := #[.val (.ref a), .val (.int (((((0 : Int32) + (if (f 0) < (0 : Int32) then (1 : Int32) else (0 : Int32))) + (if (f 1) < (0 : Int32) then (1 : Int32) else (0 : Int32))) + (if (f 2) < (0 : Int32) then (1 : Int32) else (0 : Int32))) + (if (f 3) < (0 : Int32) then (1 : Int32) else (0 : Int32)))), .val (.ref w_kept), .val (.int (4 : Int32)), .val (.int (3 : Int32)), .val (.int (f 3))]
def lcR4_10 (a : Addr) (f : Nat → Int32) (w_kept : Addr) : Array Slot := #[.val (.ref a), .val (.int (((((0 : Int32) + (if (f 0) < (0 : Int32) then (1 : Int32) else (0 : Int32))) + (if (f 1) < (0 : Int32) then (1 : Int32) else (0 : Int32))) + (if (f 2) < (0 : Int32) then (1 : Int32) else (0 : Int32))) + (if (f 3) < (0 : Int32) then (1 : Int32) else (0 : Int32)))), .val (.ref w_kept), .val (.int (4 : Int32)), .val (.int (4 : Int32)), .val (.int (f 3))]
def QR4 (Z : State) (a : Addr) (f : Nat → Int32) (w_kept : Addr) (h0 : Heap) (n0 : Nat) (v : Option Value) (h : Heap) (L : List Loc) : Prop := v = some (.int (own_rel4 f)) ∧ Fr n0 L ∧ h = h0
set_option maxRecDepth 65536 in
set_option maxHeartbeats 40000000 in
theorem rmR4 (l : Launch) (Z : State) (a0 : Array Value) (hw : ∀ d ∈ tables_1, d.before a0 Z = true) (ws : List Jvm.Cond) (a : Addr) (f : Nat → Int32) (w_kept : Addr) (h0 : Heap) (n0 : Nat) (Z0 : n0 ≤ h0.size) (E_a : Exa Z h0 a "com/example/rackstripe/rackstripe/StripePlan") (F_a_kept : Fld Z h0 a "com/example/rackstripe/rackstripe/StripePlan" "kept" "[I" (.ref w_kept)) (A_w_kept : own_A Z h0 w_kept .int 4 f) :
    MetFree l (⟨"com/example/rackstripe/rackstripe/StripePlan", "relocations", "()I"⟩ : MethodName) (head1 (Jvm.Cond.code (⟨"com/example/rackstripe/rackstripe/StripePlan", "relocations", "()I"⟩ : MethodName) prog_48_method_9_code 6 (some .int) :: ws) ({ frames := 0, cells := 0, slots := 0, locals := 0 } : Room)) (fun aa U => aa = #[(.ref a)] ∧ Z.Warmed39 U.vm ∧ U.heap = h0) (fun _ _ _ _ _ => True) (fun _ U o U' => ∃ v L, o = .returned v ∧ QR4 Z a f w_kept h0 n0 v U'.heap L ∧ FrameEnd U o U' L ({ frames := 0, cells := 0, slots := 0, locals := 0 } : Room).cells ({ frames := 0, cells := 0, slots := 0, locals := 0 } : Room).slots) := by
  refine MetFree.of_bodySF (plainFor_of_name pn_StripePlan) hisR ?_
  intro p e s m args below meth c s₁ Bd hml0 hP hK
  obtain ⟨rfl, hZ, hh⟩ := hP
  have hx := Bd.exec
  have hby := Bd.bytes
  have hml : c.maxLocals = 6 := hml0
  have hown : s.vm.findClass "com/example/rackstripe/rackstripe/StripePlan" = some m.cls := findClass_of_methodNamed Bd.named
  have hnm := (name_of_methodNamed Bd.named Bd.method).1
  have X0 : Stand p l e ({ frames := 0, cells := 0, slots := 0, locals := 0 } : Room) s m #[(.ref a)] below meth c s₁ [] 0 0 := Stand.of_body Bd
  have e0 : s₁.heap = h0 := by rw [← hh, Bd.state]; rfl
  have N0 := Fr.nil n0
  have hlk : meth.locks = false := by first | exact BodyLoose.notSynchronized Bd | exact Body.notSynchronized Bd
  have pre0 : ∀ t, Steps p.tables e below (s₁.setTop (mkF m 0 #[.val (.ref a), .unset, .unset, .unset, .unset, .unset] [])) t → Steps p.tables e below (s₁.setTop (entryFrame m #[(.ref a)] 6)) t := fun t k => castTop (ef_4 m a) k
  have K : Keep h0 h0 [] := Keep.refl _ _
  have pre1 : ∀ t, Steps p.tables e below (s₁.setTop (mkF m 3 #[.val (.ref a), .val (.int (0 : Int32)), .unset, .unset, .unset, .unset] [(.ref a)])) t → Steps p.tables e below (s₁.setTop (entryFrame m #[(.ref a)] 6)) t := fun t k => pre0 t (by
    show Steps p.tables e below (s₁.setTop (mkF m 0 #[.val (.ref a), .unset, .unset, .unset, .unset, .unset] [])) _
    refine XS.iconst X0.here hx rfl (hb hby d4_0) ?_
    show Steps p.tables e below (s₁.setTop (mkF m 1 #[.val (.ref a), .unset, .unset, .unset, .unset, .unset] [(.int (0 : Int32))])) _
    refine XS.istoreN X0.here hx rfl (hb hby d4_1) rfl (l' := #[.val (.ref a), .val (.int (0 : Int32)), .unset, .unset, .unset, .unset]) rfl ?_
    show Steps p.tables e below (s₁.setTop (mkF m 2 #[.val (.ref a), .val (.int (0 : Int32)), .unset, .unset, .unset, .unset] [])) _
    refine XS.aloadN X0.here hx rfl (hb hby d4_2) rfl rfl ?_
    show Steps p.tables e below (s₁.setTop (mkF m 3 #[.val (.ref a), .val (.int (0 : Int32)), .unset, .unset, .unset, .unset] [(.ref a)])) _
    exact k)
  obtain ⟨T2, X2, e2, st2⟩ := getF X0 hx hZ hown (host := "") (Or.inl (hw _ (List.mem_of_getElem? (i := 23) rfl))) Via.refl e0 F_a_kept (g := (mkF m 3 #[.val (.ref a), .val (.int (0 : Int32)), .unset, .unset, .unset, .unset] [(.ref a)])) rfl rfl (hb hby d4_3)
  have pre3 : ∀ t, Steps p.tables e below (T2.setTop (mkF m 6 #[.val (.ref a), .val (.int (0 : Int32)), .unset, .unset, .unset, .unset] [(.ref w_kept)])) t → Steps p.tables e below (s₁.setTop (entryFrame m #[(.ref a)] 6)) t := fun t k => pre1 t (st2 t k)
  have pre4 : ∀ t, Steps p.tables e below (T2.setTop (mkF m 8 #[.val (.ref a), .val (.int (0 : Int32)), .val (.ref w_kept), .unset, .unset, .unset] [(.ref w_kept)])) t → Steps p.tables e below (s₁.setTop (entryFrame m #[(.ref a)] 6)) t := fun t k => pre3 t (by
    show Steps p.tables e below (T2.setTop (mkF m 6 #[.val (.ref a), .val (.int (0 : Int32)), .unset, .unset, .unset, .unset] [(.ref w_kept)])) _
    refine XS.astoreN X2.here hx rfl (hb hby d4_6) rfl rfl (l' := #[.val (.ref a), .val (.int (0 : Int32)), .val (.ref w_kept), .unset, .unset, .unset]) rfl ?_
    show Steps p.tables e below (T2.setTop (mkF m 7 #[.val (.ref a), .val (.int (0 : Int32)), .val (.ref w_kept), .unset, .unset, .unset] [])) _
    refine XS.aloadN X2.here hx rfl (hb hby d4_7) rfl rfl ?_
    show Steps p.tables e below (T2.setTop (mkF m 8 #[.val (.ref a), .val (.int (0 : Int32)), .val (.ref w_kept), .unset, .unset, .unset] [(.ref w_kept)])) _
    exact k)
  obtain ⟨cl5, Ar5, Sz5, Hf5⟩ := id A_w_kept
  have pre6 : ∀ t, Steps p.tables e below (T2.setTop (mkF m 9 #[.val (.ref a), .val (.int (0 : Int32)), .val (.ref w_kept), .unset, .unset, .unset] [(.int (4 : Int32))])) t → Steps p.tables e below (s₁.setTop (entryFrame m #[(.ref a)] 6)) t := fun t k => pre4 t (X2.arraylength hx (by rw [e2]; exact Ar5.1) (State.isArrayOf_alike hZ.alike Ar5.2.1) (g := (mkF m 8 #[.val (.ref a), .val (.int (0 : Int32)), .val (.ref w_kept), .unset, .unset, .unset] [(.ref w_kept)])) rfl rfl (hb hby d4_8) _ (by rw [own_len Sz5 rfl]; exact k))
  have pre7 : ∀ t, Steps p.tables e below (T2.setTop (mkF m 22 #[.val (.ref a), .val (.int (0 : Int32)), .val (.ref w_kept), .val (.int (4 : Int32)), .val (.int (0 : Int32)), .unset] [(.int (0 : Int32)), (.ref w_kept)])) t → Steps p.tables e below (s₁.setTop (entryFrame m #[(.ref a)] 6)) t := fun t k => pre6 t (by
    show Steps p.tables e below (T2.setTop (mkF m 9 #[.val (.ref a), .val (.int (0 : Int32)), .val (.ref w_kept), .unset, .unset, .unset] [(.int (4 : Int32))])) _
    refine XS.istoreN X2.here hx rfl (hb hby d4_9) rfl (l' := #[.val (.ref a), .val (.int (0 : Int32)), .val (.ref w_kept), .val (.int (4 : Int32)), .unset, .unset]) rfl ?_
    show Steps p.tables e below (T2.setTop (mkF m 10 #[.val (.ref a), .val (.int (0 : Int32)), .val (.ref w_kept), .val (.int (4 : Int32)), .unset, .unset] [])) _
    refine XS.iconst X2.here hx rfl (hb hby d4_10) ?_
    show Steps p.tables e below (T2.setTop (mkF m 11 #[.val (.ref a), .val (.int (0 : Int32)), .val (.ref w_kept), .val (.int (4 : Int32)), .unset, .unset] [(.int (0 : Int32))])) _
    refine XS.istore X2.here hx rfl (hb hby d4_11) rfl (l' := #[.val (.ref a), .val (.int (0 : Int32)), .val (.ref w_kept), .val (.int (4 : Int32)), .val (.int (0 : Int32)), .unset]) rfl ?_
    show Steps p.tables e below (T2.setTop (mkF m 13 #[.val (.ref a), .val (.int (0 : Int32)), .val (.ref w_kept), .val (.int (4 : Int32)), .val (.int (0 : Int32)), .unset] [])) _
    refine XS.iload X2.here hx rfl (hb hby d4_13) rfl ?_
    show Steps p.tables e below (T2.setTop (mkF m 15 #[.val (.ref a), .val (.int (0 : Int32)), .val (.ref w_kept), .val (.int (4 : Int32)), .val (.int (0 : Int32)), .unset] [(.int (0 : Int32))])) _
    refine XS.iloadN X2.here hx rfl (hb hby d4_15) rfl ?_
    show Steps p.tables e below (T2.setTop (mkF m 16 #[.val (.ref a), .val (.int (0 : Int32)), .val (.ref w_kept), .val (.int (4 : Int32)), .val (.int (0 : Int32)), .unset] [(.int (4 : Int32)), (.int (0 : Int32))])) _
    refine XS.icmpNo X2.here hx rfl (hb hby d4_16) rfl (tlt (by decide)).2.1 ?_
    show Steps p.tables e below (T2.setTop (mkF m 19 #[.val (.ref a), .val (.int (0 : Int32)), .val (.ref w_kept), .val (.int (4 : Int32)), .val (.int (0 : Int32)), .unset] [])) _
    refine XS.aloadN X2.here hx rfl (hb hby d4_19) rfl rfl ?_
    show Steps p.tables e below (T2.setTop (mkF m 20 #[.val (.ref a), .val (.int (0 : Int32)), .val (.ref w_kept), .val (.int (4 : Int32)), .val (.int (0 : Int32)), .unset] [(.ref w_kept)])) _
    refine XS.iload X2.here hx rfl (hb hby d4_20) rfl ?_
    show Steps p.tables e below (T2.setTop (mkF m 22 #[.val (.ref a), .val (.int (0 : Int32)), .val (.ref w_kept), .val (.int (4 : Int32)), .val (.int (0 : Int32)), .unset] [(.int (0 : Int32)), (.ref w_kept)])) _
    exact k)
  obtain ⟨cl8, Ar8, Sz8, Hf8⟩ := id A_w_kept
  have hat8 : cl8.slots[((0 : Int32)).toNatClampNeg]? = some (.int (f 0)) := (Hf8 _ (own_lt_of ⟨by decide, by decide⟩)).trans (congrArg (fun z => some (Value.int z)) rfl)
  have pre9 : ∀ t, Steps p.tables e below (T2.setTop (mkF m 23 #[.val (.ref a), .val (.int (0 : Int32)), .val (.ref w_kept), .val (.int (4 : Int32)), .val (.int (0 : Int32)), .unset] [(.int (f 0))])) t → Steps p.tables e below (s₁.setTop (entryFrame m #[(.ref a)] 6)) t := fun t k => pre7 t (X2.iaload hx (j := (0 : Int32)) (v := (.int (f 0))) (by rw [e2]; exact Ar8.1) (State.isArrayOf_alike hZ.alike Ar8.2.1) Ar8.2.2 (own_inb Sz8 ⟨by decide, by decide⟩) hat8 (g := (mkF m 22 #[.val (.ref a), .val (.int (0 : Int32)), .val (.ref w_kept), .val (.int (4 : Int32)), .val (.int (0 : Int32)), .unset] [(.int (0 : Int32)), (.ref w_kept)])) rfl rfl (hb hby d4_22) _ k)
  have pre10 : ∀ t, Steps p.tables e below (T2.setTop (mkF m 28 #[.val (.ref a), .val (.int (0 : Int32)), .val (.ref w_kept), .val (.int (4 : Int32)), .val (.int (0 : Int32)), .val (.int (f 0))] [(.int (f 0)), (.int (0 : Int32))])) t → Steps p.tables e below (s₁.setTop (entryFrame m #[(.ref a)] 6)) t := fun t k => pre9 t (by
    show Steps p.tables e below (T2.setTop (mkF m 23 #[.val (.ref a), .val (.int (0 : Int32)), .val (.ref w_kept), .val (.int (4 : Int32)), .val (.int (0 : Int32)), .unset] [(.int (f 0))])) _
    refine XS.istore X2.here hx rfl (hb hby d4_23) rfl (l' := #[.val (.ref a), .val (.int (0 : Int32)), .val (.ref w_kept), .val (.int (4 : Int32)), .val (.int (0 : Int32)), .val (.int (f 0))]) rfl ?_
    show Steps p.tables e below (T2.setTop (mkF m 25 #[.val (.ref a), .val (.int (0 : Int32)), .val (.ref w_kept), .val (.int (4 : Int32)), .val (.int (0 : Int32)), .val (.int (f 0))] [])) _
    refine XS.iloadN X2.here hx rfl (hb hby d4_25) rfl ?_
    show Steps p.tables e below (T2.setTop (mkF m 26 #[.val (.ref a), .val (.int (0 : Int32)), .val (.ref w_kept), .val (.int (4 : Int32)), .val (.int (0 : Int32)), .val (.int (f 0))] [(.int (0 : Int32))])) _
    refine XS.iload X2.here hx rfl (hb hby d4_26) rfl ?_
    show Steps p.tables e below (T2.setTop (mkF m 28 #[.val (.ref a), .val (.int (0 : Int32)), .val (.ref w_kept), .val (.int (4 : Int32)), .val (.int (0 : Int32)), .val (.int (f 0))] [(.int (f 0)), (.int (0 : Int32))])) _
    exact k)
  have pre12 : ∀ t, Steps p.tables e below (T2.setTop (mkF m 36 #[.val (.ref a), .val (.int (0 : Int32)), .val (.ref w_kept), .val (.int (4 : Int32)), .val (.int (0 : Int32)), .val (.int (f 0))] [(.int (if (f 0) < (0 : Int32) then (1 : Int32) else (0 : Int32))), (.int (0 : Int32))])) t → Steps p.tables e below (s₁.setTop (entryFrame m #[(.ref a)] 6)) t := fun t k => pre10 t (by
    show Steps p.tables e below (T2.setTop (mkF m 28 #[.val (.ref a), .val (.int (0 : Int32)), .val (.ref w_kept), .val (.int (4 : Int32)), .val (.int (0 : Int32)), .val (.int (f 0))] [(.int (f 0)), (.int (0 : Int32))])) _
    by_cases hm28_11 : (f 0) < (0 : Int32)
    · refine XS.ifNo X2.here hx rfl (hb hby d4_28) rfl ((if0 _ _).trans (tlt hm28_11).2.1) ?_
      show Steps p.tables e below (T2.setTop (mkF m 31 #[.val (.ref a), .val (.int (0 : Int32)), .val (.ref w_kept), .val (.int (4 : Int32)), .val (.int (0 : Int32)), .val (.int (f 0))] [(.int (0 : Int32))])) _
      refine XS.iconst X2.here hx rfl (hb hby d4_31) ?_
      show Steps p.tables e below (T2.setTop (mkF m 32 #[.val (.ref a), .val (.int (0 : Int32)), .val (.ref w_kept), .val (.int (4 : Int32)), .val (.int (0 : Int32)), .val (.int (f 0))] [(.int (1 : Int32)), (.int (0 : Int32))])) _
      refine XS.goto X2.here hx rfl (pc0 := 32) (pc' := 36) rfl (hb hby d4_32) (by decide) (by decide) ?_
      show Steps p.tables e below (T2.setTop (mkF m 36 #[.val (.ref a), .val (.int (0 : Int32)), .val (.ref w_kept), .val (.int (4 : Int32)), .val (.int (0 : Int32)), .val (.int (f 0))] [(.int (1 : Int32)), (.int (0 : Int32))])) _
      have q : (if (f 0) < (0 : Int32) then (1 : Int32) else (0 : Int32)) = (1 : Int32) := by simp only [if_pos hm28_11]
      exact Eq.subst (motive := fun xI => Steps p.tables e below (T2.setTop (mkF m 36 #[.val (.ref a), .val (.int (0 : Int32)), .val (.ref w_kept), .val (.int (4 : Int32)), .val (.int (0 : Int32)), .val (.int (f 0))] [(.int xI), (.int (0 : Int32))])) t) q k
    · refine XS.ifYes X2.here hx rfl (pc0 := 28) (pc' := 35) rfl (hb hby d4_28) rfl ((if0 _ _).trans (flt hm28_11).2.1) (by decide) (by decide) ?_
      show Steps p.tables e below (T2.setTop (mkF m 35 #[.val (.ref a), .val (.int (0 : Int32)), .val (.ref w_kept), .val (.int (4 : Int32)), .val (.int (0 : Int32)), .val (.int (f 0))] [(.int (0 : Int32))])) _
      refine XS.iconst X2.here hx rfl (hb hby d4_35) ?_
      show Steps p.tables e below (T2.setTop (mkF m 36 #[.val (.ref a), .val (.int (0 : Int32)), .val (.ref w_kept), .val (.int (4 : Int32)), .val (.int (0 : Int32)), .val (.int (f 0))] [(.int (0 : Int32)), (.int (0 : Int32))])) _
      have q : (if (f 0) < (0 : Int32) then (1 : Int32) else (0 : Int32)) = (0 : Int32) := by simp only [if_neg hm28_11]
      exact Eq.subst (motive := fun xI => Steps p.tables e below (T2.setTop (mkF m 36 #[.val (.ref a), .val (.int (0 : Int32)), .val (.ref w_kept), .val (.int (4 : Int32)), .val (.int (0 : Int32)), .val (.int (f 0))] [(.int xI), (.int (0 : Int32))])) t) q k)
  have pre13 : ∀ t, Steps p.tables e below (T2.setTop (mkF m 22 (lcR4_1 a f w_kept) [(.int (1 : Int32)), (.ref w_kept)])) t → Steps p.tables e below (s₁.setTop (entryFrame m #[(.ref a)] 6)) t := fun t k => pre12 t (by
    show Steps p.tables e below (T2.setTop (mkF m 36 #[.val (.ref a), .val (.int (0 : Int32)), .val (.ref w_kept), .val (.int (4 : Int32)), .val (.int (0 : Int32)), .val (.int (f 0))] [(.int (if (f 0) < (0 : Int32) then (1 : Int32) else (0 : Int32))), (.int (0 : Int32))])) _
    refine XS.iadd X2.here hx rfl (hb hby d4_36) rfl ?_
    show Steps p.tables e below (T2.setTop (mkF m 37 #[.val (.ref a), .val (.int (0 : Int32)), .val (.ref w_kept), .val (.int (4 : Int32)), .val (.int (0 : Int32)), .val (.int (f 0))] [(.int ((0 : Int32) + (if (f 0) < (0 : Int32) then (1 : Int32) else (0 : Int32))))])) _
    refine XS.istoreN X2.here hx rfl (hb hby d4_37) rfl (l' := (lcR4_0 a f w_kept)) rfl ?_
    show Steps p.tables e below (T2.setTop (mkF m 38 (lcR4_0 a f w_kept) [])) _
    refine XS.iinc X2.here hx rfl (hb hby d4_38) rfl (l' := (lcR4_1 a f w_kept)) rfl ?_
    show Steps p.tables e below (T2.setTop (mkF m 41 (lcR4_1 a f w_kept) [])) _
    refine XS.goto X2.here hx rfl (pc0 := 41) (pc' := 13) rfl (hb hby d4_41) (by decide) (by decide) ?_
    show Steps p.tables e below (T2.setTop (mkF m 13 (lcR4_1 a f w_kept) [])) _
    refine XS.iload X2.here hx rfl (hb hby d4_13) rfl ?_
    show Steps p.tables e below (T2.setTop (mkF m 15 (lcR4_1 a f w_kept) [(.int (1 : Int32))])) _
    refine XS.iloadN X2.here hx rfl (hb hby d4_15) rfl ?_
    show Steps p.tables e below (T2.setTop (mkF m 16 (lcR4_1 a f w_kept) [(.int (4 : Int32)), (.int (1 : Int32))])) _
    refine XS.icmpNo X2.here hx rfl (hb hby d4_16) rfl (tlt (by decide)).2.1 ?_
    show Steps p.tables e below (T2.setTop (mkF m 19 (lcR4_1 a f w_kept) [])) _
    refine XS.aloadN X2.here hx rfl (hb hby d4_19) rfl rfl ?_
    show Steps p.tables e below (T2.setTop (mkF m 20 (lcR4_1 a f w_kept) [(.ref w_kept)])) _
    refine XS.iload X2.here hx rfl (hb hby d4_20) rfl ?_
    show Steps p.tables e below (T2.setTop (mkF m 22 (lcR4_1 a f w_kept) [(.int (1 : Int32)), (.ref w_kept)])) _
    exact k)
  obtain ⟨cl14, Ar14, Sz14, Hf14⟩ := id A_w_kept
  have hat14 : cl14.slots[((1 : Int32)).toNatClampNeg]? = some (.int (f 1)) := (Hf14 _ (own_lt_of ⟨by decide, by decide⟩)).trans (congrArg (fun z => some (Value.int z)) rfl)
  have pre15 : ∀ t, Steps p.tables e below (T2.setTop (mkF m 23 (lcR4_1 a f w_kept) [(.int (f 1))])) t → Steps p.tables e below (s₁.setTop (entryFrame m #[(.ref a)] 6)) t := fun t k => pre13 t (X2.iaload hx (j := (1 : Int32)) (v := (.int (f 1))) (by rw [e2]; exact Ar14.1) (State.isArrayOf_alike hZ.alike Ar14.2.1) Ar14.2.2 (own_inb Sz14 ⟨by decide, by decide⟩) hat14 (g := (mkF m 22 (lcR4_1 a f w_kept) [(.int (1 : Int32)), (.ref w_kept)])) rfl rfl (hb hby d4_22) _ k)
  have pre16 : ∀ t, Steps p.tables e below (T2.setTop (mkF m 28 (lcR4_2 a f w_kept) [(.int (f 1)), (.int ((0 : Int32) + (if (f 0) < (0 : Int32) then (1 : Int32) else (0 : Int32))))])) t → Steps p.tables e below (s₁.setTop (entryFrame m #[(.ref a)] 6)) t := fun t k => pre15 t (by
    show Steps p.tables e below (T2.setTop (mkF m 23 (lcR4_1 a f w_kept) [(.int (f 1))])) _
    refine XS.istore X2.here hx rfl (hb hby d4_23) rfl (l' := (lcR4_2 a f w_kept)) rfl ?_
    show Steps p.tables e below (T2.setTop (mkF m 25 (lcR4_2 a f w_kept) [])) _
    refine XS.iloadN X2.here hx rfl (hb hby d4_25) rfl ?_
    show Steps p.tables e below (T2.setTop (mkF m 26 (lcR4_2 a f w_kept) [(.int ((0 : Int32) + (if (f 0) < (0 : Int32) then (1 : Int32) else (0 : Int32))))])) _
    refine XS.iload X2.here hx rfl (hb hby d4_26) rfl ?_
    show Steps p.tables e below (T2.setTop (mkF m 28 (lcR4_2 a f w_kept) [(.int (f 1)), (.int ((0 : Int32) + (if (f 0) < (0 : Int32) then (1 : Int32) else (0 : Int32))))])) _
    exact k)
  have pre18 : ∀ t, Steps p.tables e below (T2.setTop (mkF m 36 (lcR4_2 a f w_kept) [(.int (if (f 1) < (0 : Int32) then (1 : Int32) else (0 : Int32))), (.int ((0 : Int32) + (if (f 0) < (0 : Int32) then (1 : Int32) else (0 : Int32))))])) t → Steps p.tables e below (s₁.setTop (entryFrame m #[(.ref a)] 6)) t := fun t k => pre16 t (by
    show Steps p.tables e below (T2.setTop (mkF m 28 (lcR4_2 a f w_kept) [(.int (f 1)), (.int ((0 : Int32) + (if (f 0) < (0 : Int32) then (1 : Int32) else (0 : Int32))))])) _
    by_cases hm28_17 : (f 1) < (0 : Int32)
    · refine XS.ifNo X2.here hx rfl (hb hby d4_28) rfl ((if0 _ _).trans (tlt hm28_17).2.1) ?_
      show Steps p.tables e below (T2.setTop (mkF m 31 (lcR4_2 a f w_kept) [(.int ((0 : Int32) + (if (f 0) < (0 : Int32) then (1 : Int32) else (0 : Int32))))])) _
      refine XS.iconst X2.here hx rfl (hb hby d4_31) ?_
      show Steps p.tables e below (T2.setTop (mkF m 32 (lcR4_2 a f w_kept) [(.int (1 : Int32)), (.int ((0 : Int32) + (if (f 0) < (0 : Int32) then (1 : Int32) else (0 : Int32))))])) _
      refine XS.goto X2.here hx rfl (pc0 := 32) (pc' := 36) rfl (hb hby d4_32) (by decide) (by decide) ?_
      show Steps p.tables e below (T2.setTop (mkF m 36 (lcR4_2 a f w_kept) [(.int (1 : Int32)), (.int ((0 : Int32) + (if (f 0) < (0 : Int32) then (1 : Int32) else (0 : Int32))))])) _
      have q : (if (f 1) < (0 : Int32) then (1 : Int32) else (0 : Int32)) = (1 : Int32) := by simp only [if_pos hm28_17]
      exact Eq.subst (motive := fun xI => Steps p.tables e below (T2.setTop (mkF m 36 (lcR4_2 a f w_kept) [(.int xI), (.int ((0 : Int32) + (if (f 0) < (0 : Int32) then (1 : Int32) else (0 : Int32))))])) t) q k
    · refine XS.ifYes X2.here hx rfl (pc0 := 28) (pc' := 35) rfl (hb hby d4_28) rfl ((if0 _ _).trans (flt hm28_17).2.1) (by decide) (by decide) ?_
      show Steps p.tables e below (T2.setTop (mkF m 35 (lcR4_2 a f w_kept) [(.int ((0 : Int32) + (if (f 0) < (0 : Int32) then (1 : Int32) else (0 : Int32))))])) _
      refine XS.iconst X2.here hx rfl (hb hby d4_35) ?_
      show Steps p.tables e below (T2.setTop (mkF m 36 (lcR4_2 a f w_kept) [(.int (0 : Int32)), (.int ((0 : Int32) + (if (f 0) < (0 : Int32) then (1 : Int32) else (0 : Int32))))])) _
      have q : (if (f 1) < (0 : Int32) then (1 : Int32) else (0 : Int32)) = (0 : Int32) := by simp only [if_neg hm28_17]
      exact Eq.subst (motive := fun xI => Steps p.tables e below (T2.setTop (mkF m 36 (lcR4_2 a f w_kept) [(.int xI), (.int ((0 : Int32) + (if (f 0) < (0 : Int32) then (1 : Int32) else (0 : Int32))))])) t) q k)
  have pre19 : ∀ t, Steps p.tables e below (T2.setTop (mkF m 22 (lcR4_4 a f w_kept) [(.int (2 : Int32)), (.ref w_kept)])) t → Steps p.tables e below (s₁.setTop (entryFrame m #[(.ref a)] 6)) t := fun t k => pre18 t (by
    show Steps p.tables e below (T2.setTop (mkF m 36 (lcR4_2 a f w_kept) [(.int (if (f 1) < (0 : Int32) then (1 : Int32) else (0 : Int32))), (.int ((0 : Int32) + (if (f 0) < (0 : Int32) then (1 : Int32) else (0 : Int32))))])) _
    refine XS.iadd X2.here hx rfl (hb hby d4_36) rfl ?_
    show Steps p.tables e below (T2.setTop (mkF m 37 (lcR4_2 a f w_kept) [(.int (((0 : Int32) + (if (f 0) < (0 : Int32) then (1 : Int32) else (0 : Int32))) + (if (f 1) < (0 : Int32) then (1 : Int32) else (0 : Int32))))])) _
    refine XS.istoreN X2.here hx rfl (hb hby d4_37) rfl (l' := (lcR4_3 a f w_kept)) rfl ?_
    show Steps p.tables e below (T2.setTop (mkF m 38 (lcR4_3 a f w_kept) [])) _
    refine XS.iinc X2.here hx rfl (hb hby d4_38) rfl (l' := (lcR4_4 a f w_kept)) rfl ?_
    show Steps p.tables e below (T2.setTop (mkF m 41 (lcR4_4 a f w_kept) [])) _
    refine XS.goto X2.here hx rfl (pc0 := 41) (pc' := 13) rfl (hb hby d4_41) (by decide) (by decide) ?_
    show Steps p.tables e below (T2.setTop (mkF m 13 (lcR4_4 a f w_kept) [])) _
    refine XS.iload X2.here hx rfl (hb hby d4_13) rfl ?_
    show Steps p.tables e below (T2.setTop (mkF m 15 (lcR4_4 a f w_kept) [(.int (2 : Int32))])) _
    refine XS.iloadN X2.here hx rfl (hb hby d4_15) rfl ?_
    show Steps p.tables e below (T2.setTop (mkF m 16 (lcR4_4 a f w_kept) [(.int (4 : Int32)), (.int (2 : Int32))])) _
    refine XS.icmpNo X2.here hx rfl (hb hby d4_16) rfl (tlt (by decide)).2.1 ?_
    show Steps p.tables e below (T2.setTop (mkF m 19 (lcR4_4 a f w_kept) [])) _
    refine XS.aloadN X2.here hx rfl (hb hby d4_19) rfl rfl ?_
    show Steps p.tables e below (T2.setTop (mkF m 20 (lcR4_4 a f w_kept) [(.ref w_kept)])) _
    refine XS.iload X2.here hx rfl (hb hby d4_20) rfl ?_
    show Steps p.tables e below (T2.setTop (mkF m 22 (lcR4_4 a f w_kept) [(.int (2 : Int32)), (.ref w_kept)])) _
    exact k)
  obtain ⟨cl20, Ar20, Sz20, Hf20⟩ := id A_w_kept
  have hat20 : cl20.slots[((2 : Int32)).toNatClampNeg]? = some (.int (f 2)) := (Hf20 _ (own_lt_of ⟨by decide, by decide⟩)).trans (congrArg (fun z => some (Value.int z)) rfl)
  have pre21 : ∀ t, Steps p.tables e below (T2.setTop (mkF m 23 (lcR4_4 a f w_kept) [(.int (f 2))])) t → Steps p.tables e below (s₁.setTop (entryFrame m #[(.ref a)] 6)) t := fun t k => pre19 t (X2.iaload hx (j := (2 : Int32)) (v := (.int (f 2))) (by rw [e2]; exact Ar20.1) (State.isArrayOf_alike hZ.alike Ar20.2.1) Ar20.2.2 (own_inb Sz20 ⟨by decide, by decide⟩) hat20 (g := (mkF m 22 (lcR4_4 a f w_kept) [(.int (2 : Int32)), (.ref w_kept)])) rfl rfl (hb hby d4_22) _ k)
  have pre22 : ∀ t, Steps p.tables e below (T2.setTop (mkF m 28 (lcR4_5 a f w_kept) [(.int (f 2)), (.int (((0 : Int32) + (if (f 0) < (0 : Int32) then (1 : Int32) else (0 : Int32))) + (if (f 1) < (0 : Int32) then (1 : Int32) else (0 : Int32))))])) t → Steps p.tables e below (s₁.setTop (entryFrame m #[(.ref a)] 6)) t := fun t k => pre21 t (by
    show Steps p.tables e below (T2.setTop (mkF m 23 (lcR4_4 a f w_kept) [(.int (f 2))])) _
    refine XS.istore X2.here hx rfl (hb hby d4_23) rfl (l' := (lcR4_5 a f w_kept)) rfl ?_
    show Steps p.tables e below (T2.setTop (mkF m 25 (lcR4_5 a f w_kept) [])) _
    refine XS.iloadN X2.here hx rfl (hb hby d4_25) rfl ?_
    show Steps p.tables e below (T2.setTop (mkF m 26 (lcR4_5 a f w_kept) [(.int (((0 : Int32) + (if (f 0) < (0 : Int32) then (1 : Int32) else (0 : Int32))) + (if (f 1) < (0 : Int32) then (1 : Int32) else (0 : Int32))))])) _
    refine XS.iload X2.here hx rfl (hb hby d4_26) rfl ?_
    show Steps p.tables e below (T2.setTop (mkF m 28 (lcR4_5 a f w_kept) [(.int (f 2)), (.int (((0 : Int32) + (if (f 0) < (0 : Int32) then (1 : Int32) else (0 : Int32))) + (if (f 1) < (0 : Int32) then (1 : Int32) else (0 : Int32))))])) _
    exact k)
  have pre24 : ∀ t, Steps p.tables e below (T2.setTop (mkF m 36 (lcR4_5 a f w_kept) [(.int (if (f 2) < (0 : Int32) then (1 : Int32) else (0 : Int32))), (.int (((0 : Int32) + (if (f 0) < (0 : Int32) then (1 : Int32) else (0 : Int32))) + (if (f 1) < (0 : Int32) then (1 : Int32) else (0 : Int32))))])) t → Steps p.tables e below (s₁.setTop (entryFrame m #[(.ref a)] 6)) t := fun t k => pre22 t (by
    show Steps p.tables e below (T2.setTop (mkF m 28 (lcR4_5 a f w_kept) [(.int (f 2)), (.int (((0 : Int32) + (if (f 0) < (0 : Int32) then (1 : Int32) else (0 : Int32))) + (if (f 1) < (0 : Int32) then (1 : Int32) else (0 : Int32))))])) _
    by_cases hm28_23 : (f 2) < (0 : Int32)
    · refine XS.ifNo X2.here hx rfl (hb hby d4_28) rfl ((if0 _ _).trans (tlt hm28_23).2.1) ?_
      show Steps p.tables e below (T2.setTop (mkF m 31 (lcR4_5 a f w_kept) [(.int (((0 : Int32) + (if (f 0) < (0 : Int32) then (1 : Int32) else (0 : Int32))) + (if (f 1) < (0 : Int32) then (1 : Int32) else (0 : Int32))))])) _
      refine XS.iconst X2.here hx rfl (hb hby d4_31) ?_
      show Steps p.tables e below (T2.setTop (mkF m 32 (lcR4_5 a f w_kept) [(.int (1 : Int32)), (.int (((0 : Int32) + (if (f 0) < (0 : Int32) then (1 : Int32) else (0 : Int32))) + (if (f 1) < (0 : Int32) then (1 : Int32) else (0 : Int32))))])) _
      refine XS.goto X2.here hx rfl (pc0 := 32) (pc' := 36) rfl (hb hby d4_32) (by decide) (by decide) ?_
      show Steps p.tables e below (T2.setTop (mkF m 36 (lcR4_5 a f w_kept) [(.int (1 : Int32)), (.int (((0 : Int32) + (if (f 0) < (0 : Int32) then (1 : Int32) else (0 : Int32))) + (if (f 1) < (0 : Int32) then (1 : Int32) else (0 : Int32))))])) _
      have q : (if (f 2) < (0 : Int32) then (1 : Int32) else (0 : Int32)) = (1 : Int32) := by simp only [if_pos hm28_23]
      exact Eq.subst (motive := fun xI => Steps p.tables e below (T2.setTop (mkF m 36 (lcR4_5 a f w_kept) [(.int xI), (.int (((0 : Int32) + (if (f 0) < (0 : Int32) then (1 : Int32) else (0 : Int32))) + (if (f 1) < (0 : Int32) then (1 : Int32) else (0 : Int32))))])) t) q k
    · refine XS.ifYes X2.here hx rfl (pc0 := 28) (pc' := 35) rfl (hb hby d4_28) rfl ((if0 _ _).trans (flt hm28_23).2.1) (by decide) (by decide) ?_
      show Steps p.tables e below (T2.setTop (mkF m 35 (lcR4_5 a f w_kept) [(.int (((0 : Int32) + (if (f 0) < (0 : Int32) then (1 : Int32) else (0 : Int32))) + (if (f 1) < (0 : Int32) then (1 : Int32) else (0 : Int32))))])) _
      refine XS.iconst X2.here hx rfl (hb hby d4_35) ?_
      show Steps p.tables e below (T2.setTop (mkF m 36 (lcR4_5 a f w_kept) [(.int (0 : Int32)), (.int (((0 : Int32) + (if (f 0) < (0 : Int32) then (1 : Int32) else (0 : Int32))) + (if (f 1) < (0 : Int32) then (1 : Int32) else (0 : Int32))))])) _
      have q : (if (f 2) < (0 : Int32) then (1 : Int32) else (0 : Int32)) = (0 : Int32) := by simp only [if_neg hm28_23]
      exact Eq.subst (motive := fun xI => Steps p.tables e below (T2.setTop (mkF m 36 (lcR4_5 a f w_kept) [(.int xI), (.int (((0 : Int32) + (if (f 0) < (0 : Int32) then (1 : Int32) else (0 : Int32))) + (if (f 1) < (0 : Int32) then (1 : Int32) else (0 : Int32))))])) t) q k)
  have pre25 : ∀ t, Steps p.tables e below (T2.setTop (mkF m 22 (lcR4_7 a f w_kept) [(.int (3 : Int32)), (.ref w_kept)])) t → Steps p.tables e below (s₁.setTop (entryFrame m #[(.ref a)] 6)) t := fun t k => pre24 t (by
    show Steps p.tables e below (T2.setTop (mkF m 36 (lcR4_5 a f w_kept) [(.int (if (f 2) < (0 : Int32) then (1 : Int32) else (0 : Int32))), (.int (((0 : Int32) + (if (f 0) < (0 : Int32) then (1 : Int32) else (0 : Int32))) + (if (f 1) < (0 : Int32) then (1 : Int32) else (0 : Int32))))])) _
    refine XS.iadd X2.here hx rfl (hb hby d4_36) rfl ?_
    show Steps p.tables e below (T2.setTop (mkF m 37 (lcR4_5 a f w_kept) [(.int ((((0 : Int32) + (if (f 0) < (0 : Int32) then (1 : Int32) else (0 : Int32))) + (if (f 1) < (0 : Int32) then (1 : Int32) else (0 : Int32))) + (if (f 2) < (0 : Int32) then (1 : Int32) else (0 : Int32))))])) _
    refine XS.istoreN X2.here hx rfl (hb hby d4_37) rfl (l' := (lcR4_6 a f w_kept)) rfl ?_
    show Steps p.tables e below (T2.setTop (mkF m 38 (lcR4_6 a f w_kept) [])) _
    refine XS.iinc X2.here hx rfl (hb hby d4_38) rfl (l' := (lcR4_7 a f w_kept)) rfl ?_
    show Steps p.tables e below (T2.setTop (mkF m 41 (lcR4_7 a f w_kept) [])) _
    refine XS.goto X2.here hx rfl (pc0 := 41) (pc' := 13) rfl (hb hby d4_41) (by decide) (by decide) ?_
    show Steps p.tables e below (T2.setTop (mkF m 13 (lcR4_7 a f w_kept) [])) _
    refine XS.iload X2.here hx rfl (hb hby d4_13) rfl ?_
    show Steps p.tables e below (T2.setTop (mkF m 15 (lcR4_7 a f w_kept) [(.int (3 : Int32))])) _
    refine XS.iloadN X2.here hx rfl (hb hby d4_15) rfl ?_
    show Steps p.tables e below (T2.setTop (mkF m 16 (lcR4_7 a f w_kept) [(.int (4 : Int32)), (.int (3 : Int32))])) _
    refine XS.icmpNo X2.here hx rfl (hb hby d4_16) rfl (tlt (by decide)).2.1 ?_
    show Steps p.tables e below (T2.setTop (mkF m 19 (lcR4_7 a f w_kept) [])) _
    refine XS.aloadN X2.here hx rfl (hb hby d4_19) rfl rfl ?_
    show Steps p.tables e below (T2.setTop (mkF m 20 (lcR4_7 a f w_kept) [(.ref w_kept)])) _
    refine XS.iload X2.here hx rfl (hb hby d4_20) rfl ?_
    show Steps p.tables e below (T2.setTop (mkF m 22 (lcR4_7 a f w_kept) [(.int (3 : Int32)), (.ref w_kept)])) _
    exact k)
  obtain ⟨cl26, Ar26, Sz26, Hf26⟩ := id A_w_kept
  have hat26 : cl26.slots[((3 : Int32)).toNatClampNeg]? = some (.int (f 3)) := (Hf26 _ (own_lt_of ⟨by decide, by decide⟩)).trans (congrArg (fun z => some (Value.int z)) rfl)
  have pre27 : ∀ t, Steps p.tables e below (T2.setTop (mkF m 23 (lcR4_7 a f w_kept) [(.int (f 3))])) t → Steps p.tables e below (s₁.setTop (entryFrame m #[(.ref a)] 6)) t := fun t k => pre25 t (X2.iaload hx (j := (3 : Int32)) (v := (.int (f 3))) (by rw [e2]; exact Ar26.1) (State.isArrayOf_alike hZ.alike Ar26.2.1) Ar26.2.2 (own_inb Sz26 ⟨by decide, by decide⟩) hat26 (g := (mkF m 22 (lcR4_7 a f w_kept) [(.int (3 : Int32)), (.ref w_kept)])) rfl rfl (hb hby d4_22) _ k)
  have pre28 : ∀ t, Steps p.tables e below (T2.setTop (mkF m 28 (lcR4_8 a f w_kept) [(.int (f 3)), (.int ((((0 : Int32) + (if (f 0) < (0 : Int32) then (1 : Int32) else (0 : Int32))) + (if (f 1) < (0 : Int32) then (1 : Int32) else (0 : Int32))) + (if (f 2) < (0 : Int32) then (1 : Int32) else (0 : Int32))))])) t → Steps p.tables e below (s₁.setTop (entryFrame m #[(.ref a)] 6)) t := fun t k => pre27 t (by
    show Steps p.tables e below (T2.setTop (mkF m 23 (lcR4_7 a f w_kept) [(.int (f 3))])) _
    refine XS.istore X2.here hx rfl (hb hby d4_23) rfl (l' := (lcR4_8 a f w_kept)) rfl ?_
    show Steps p.tables e below (T2.setTop (mkF m 25 (lcR4_8 a f w_kept) [])) _
    refine XS.iloadN X2.here hx rfl (hb hby d4_25) rfl ?_
    show Steps p.tables e below (T2.setTop (mkF m 26 (lcR4_8 a f w_kept) [(.int ((((0 : Int32) + (if (f 0) < (0 : Int32) then (1 : Int32) else (0 : Int32))) + (if (f 1) < (0 : Int32) then (1 : Int32) else (0 : Int32))) + (if (f 2) < (0 : Int32) then (1 : Int32) else (0 : Int32))))])) _
    refine XS.iload X2.here hx rfl (hb hby d4_26) rfl ?_
    show Steps p.tables e below (T2.setTop (mkF m 28 (lcR4_8 a f w_kept) [(.int (f 3)), (.int ((((0 : Int32) + (if (f 0) < (0 : Int32) then (1 : Int32) else (0 : Int32))) + (if (f 1) < (0 : Int32) then (1 : Int32) else (0 : Int32))) + (if (f 2) < (0 : Int32) then (1 : Int32) else (0 : Int32))))])) _
    exact k)
  have pre30 : ∀ t, Steps p.tables e below (T2.setTop (mkF m 36 (lcR4_8 a f w_kept) [(.int (if (f 3) < (0 : Int32) then (1 : Int32) else (0 : Int32))), (.int ((((0 : Int32) + (if (f 0) < (0 : Int32) then (1 : Int32) else (0 : Int32))) + (if (f 1) < (0 : Int32) then (1 : Int32) else (0 : Int32))) + (if (f 2) < (0 : Int32) then (1 : Int32) else (0 : Int32))))])) t → Steps p.tables e below (s₁.setTop (entryFrame m #[(.ref a)] 6)) t := fun t k => pre28 t (by
    show Steps p.tables e below (T2.setTop (mkF m 28 (lcR4_8 a f w_kept) [(.int (f 3)), (.int ((((0 : Int32) + (if (f 0) < (0 : Int32) then (1 : Int32) else (0 : Int32))) + (if (f 1) < (0 : Int32) then (1 : Int32) else (0 : Int32))) + (if (f 2) < (0 : Int32) then (1 : Int32) else (0 : Int32))))])) _
    by_cases hm28_29 : (f 3) < (0 : Int32)
    · refine XS.ifNo X2.here hx rfl (hb hby d4_28) rfl ((if0 _ _).trans (tlt hm28_29).2.1) ?_
      show Steps p.tables e below (T2.setTop (mkF m 31 (lcR4_8 a f w_kept) [(.int ((((0 : Int32) + (if (f 0) < (0 : Int32) then (1 : Int32) else (0 : Int32))) + (if (f 1) < (0 : Int32) then (1 : Int32) else (0 : Int32))) + (if (f 2) < (0 : Int32) then (1 : Int32) else (0 : Int32))))])) _
      refine XS.iconst X2.here hx rfl (hb hby d4_31) ?_
      show Steps p.tables e below (T2.setTop (mkF m 32 (lcR4_8 a f w_kept) [(.int (1 : Int32)), (.int ((((0 : Int32) + (if (f 0) < (0 : Int32) then (1 : Int32) else (0 : Int32))) + (if (f 1) < (0 : Int32) then (1 : Int32) else (0 : Int32))) + (if (f 2) < (0 : Int32) then (1 : Int32) else (0 : Int32))))])) _
      refine XS.goto X2.here hx rfl (pc0 := 32) (pc' := 36) rfl (hb hby d4_32) (by decide) (by decide) ?_
      show Steps p.tables e below (T2.setTop (mkF m 36 (lcR4_8 a f w_kept) [(.int (1 : Int32)), (.int ((((0 : Int32) + (if (f 0) < (0 : Int32) then (1 : Int32) else (0 : Int32))) + (if (f 1) < (0 : Int32) then (1 : Int32) else (0 : Int32))) + (if (f 2) < (0 : Int32) then (1 : Int32) else (0 : Int32))))])) _
      have q : (if (f 3) < (0 : Int32) then (1 : Int32) else (0 : Int32)) = (1 : Int32) := by simp only [if_pos hm28_29]
      exact Eq.subst (motive := fun xI => Steps p.tables e below (T2.setTop (mkF m 36 (lcR4_8 a f w_kept) [(.int xI), (.int ((((0 : Int32) + (if (f 0) < (0 : Int32) then (1 : Int32) else (0 : Int32))) + (if (f 1) < (0 : Int32) then (1 : Int32) else (0 : Int32))) + (if (f 2) < (0 : Int32) then (1 : Int32) else (0 : Int32))))])) t) q k
    · refine XS.ifYes X2.here hx rfl (pc0 := 28) (pc' := 35) rfl (hb hby d4_28) rfl ((if0 _ _).trans (flt hm28_29).2.1) (by decide) (by decide) ?_
      show Steps p.tables e below (T2.setTop (mkF m 35 (lcR4_8 a f w_kept) [(.int ((((0 : Int32) + (if (f 0) < (0 : Int32) then (1 : Int32) else (0 : Int32))) + (if (f 1) < (0 : Int32) then (1 : Int32) else (0 : Int32))) + (if (f 2) < (0 : Int32) then (1 : Int32) else (0 : Int32))))])) _
      refine XS.iconst X2.here hx rfl (hb hby d4_35) ?_
      show Steps p.tables e below (T2.setTop (mkF m 36 (lcR4_8 a f w_kept) [(.int (0 : Int32)), (.int ((((0 : Int32) + (if (f 0) < (0 : Int32) then (1 : Int32) else (0 : Int32))) + (if (f 1) < (0 : Int32) then (1 : Int32) else (0 : Int32))) + (if (f 2) < (0 : Int32) then (1 : Int32) else (0 : Int32))))])) _
      have q : (if (f 3) < (0 : Int32) then (1 : Int32) else (0 : Int32)) = (0 : Int32) := by simp only [if_neg hm28_29]
      exact Eq.subst (motive := fun xI => Steps p.tables e below (T2.setTop (mkF m 36 (lcR4_8 a f w_kept) [(.int xI), (.int ((((0 : Int32) + (if (f 0) < (0 : Int32) then (1 : Int32) else (0 : Int32))) + (if (f 1) < (0 : Int32) then (1 : Int32) else (0 : Int32))) + (if (f 2) < (0 : Int32) then (1 : Int32) else (0 : Int32))))])) t) q k)
  have pre31 : ∀ t, Steps p.tables e below (T2.setTop (mkF m 45 (lcR4_10 a f w_kept) [(.int (((((0 : Int32) + (if (f 0) < (0 : Int32) then (1 : Int32) else (0 : Int32))) + (if (f 1) < (0 : Int32) then (1 : Int32) else (0 : Int32))) + (if (f 2) < (0 : Int32) then (1 : Int32) else (0 : Int32))) + (if (f 3) < (0 : Int32) then (1 : Int32) else (0 : Int32))))])) t → Steps p.tables e below (s₁.setTop (entryFrame m #[(.ref a)] 6)) t := fun t k => pre30 t (by
    show Steps p.tables e below (T2.setTop (mkF m 36 (lcR4_8 a f w_kept) [(.int (if (f 3) < (0 : Int32) then (1 : Int32) else (0 : Int32))), (.int ((((0 : Int32) + (if (f 0) < (0 : Int32) then (1 : Int32) else (0 : Int32))) + (if (f 1) < (0 : Int32) then (1 : Int32) else (0 : Int32))) + (if (f 2) < (0 : Int32) then (1 : Int32) else (0 : Int32))))])) _
    refine XS.iadd X2.here hx rfl (hb hby d4_36) rfl ?_
    show Steps p.tables e below (T2.setTop (mkF m 37 (lcR4_8 a f w_kept) [(.int (((((0 : Int32) + (if (f 0) < (0 : Int32) then (1 : Int32) else (0 : Int32))) + (if (f 1) < (0 : Int32) then (1 : Int32) else (0 : Int32))) + (if (f 2) < (0 : Int32) then (1 : Int32) else (0 : Int32))) + (if (f 3) < (0 : Int32) then (1 : Int32) else (0 : Int32))))])) _
    refine XS.istoreN X2.here hx rfl (hb hby d4_37) rfl (l' := (lcR4_9 a f w_kept)) rfl ?_
    show Steps p.tables e below (T2.setTop (mkF m 38 (lcR4_9 a f w_kept) [])) _
    refine XS.iinc X2.here hx rfl (hb hby d4_38) rfl (l' := (lcR4_10 a f w_kept)) rfl ?_
    show Steps p.tables e below (T2.setTop (mkF m 41 (lcR4_10 a f w_kept) [])) _
    refine XS.goto X2.here hx rfl (pc0 := 41) (pc' := 13) rfl (hb hby d4_41) (by decide) (by decide) ?_
    show Steps p.tables e below (T2.setTop (mkF m 13 (lcR4_10 a f w_kept) [])) _
    refine XS.iload X2.here hx rfl (hb hby d4_13) rfl ?_
    show Steps p.tables e below (T2.setTop (mkF m 15 (lcR4_10 a f w_kept) [(.int (4 : Int32))])) _
    refine XS.iloadN X2.here hx rfl (hb hby d4_15) rfl ?_
    show Steps p.tables e below (T2.setTop (mkF m 16 (lcR4_10 a f w_kept) [(.int (4 : Int32)), (.int (4 : Int32))])) _
    refine XS.icmpYes X2.here hx rfl (pc0 := 16) (pc' := 44) rfl (hb hby d4_16) rfl (flt (by decide)).2.1 (by decide) (by decide) ?_
    show Steps p.tables e below (T2.setTop (mkF m 44 (lcR4_10 a f w_kept) [])) _
    refine XS.iloadN X2.here hx rfl (hb hby d4_44) rfl ?_
    show Steps p.tables e below (T2.setTop (mkF m 45 (lcR4_10 a f w_kept) [(.int (((((0 : Int32) + (if (f 0) < (0 : Int32) then (1 : Int32) else (0 : Int32))) + (if (f 1) < (0 : Int32) then (1 : Int32) else (0 : Int32))) + (if (f 2) < (0 : Int32) then (1 : Int32) else (0 : Int32))) + (if (f 3) < (0 : Int32) then (1 : Int32) else (0 : Int32))))])) _
    exact k)
  obtain ⟨fs, hr, hrun, hended, hW, hsame⟩ := X2.leave (v := some (.int (((((0 : Int32) + (if (f 0) < (0 : Int32) then (1 : Int32) else (0 : Int32))) + (if (f 1) < (0 : Int32) then (1 : Int32) else (0 : Int32))) + (if (f 2) < (0 : Int32) then (1 : Int32) else (0 : Int32))) + (if (f 3) < (0 : Int32) then (1 : Int32) else (0 : Int32))))) (fun h => by rw [Bd.returns] at h; cases h) hlk
  refine ⟨_, _, pre31 _ ?_, hrun, hended, _, _, rfl, ?_, ⟨_, rfl⟩, hW, hsame.mono (by decide) (by decide)⟩
  · show Steps p.tables e below (T2.setTop (mkF m 45 (lcR4_10 a f w_kept) [(.int (((((0 : Int32) + (if (f 0) < (0 : Int32) then (1 : Int32) else (0 : Int32))) + (if (f 1) < (0 : Int32) then (1 : Int32) else (0 : Int32))) + (if (f 2) < (0 : Int32) then (1 : Int32) else (0 : Int32))) + (if (f 3) < (0 : Int32) then (1 : Int32) else (0 : Int32))))])) _
    exact retI X2 hx Bd.returns (hb hby d4_45) hr
  · show QR4 Z a f w_kept h0 n0 _ T2.heap _
    rw [e2]
    exact ⟨by simp only [own_rel4], N0, rfl⟩
theorem pd_0 : parseMethodDescriptor "(I)I" = some ⟨[.int], some .int⟩ := by decide +kernel
theorem pd_1 : parseMethodDescriptor "(I[III[I[II)V" = some ⟨[.int, (.array .int), .int, .int, (.array .int), (.array .int), .int], none⟩ := by decide +kernel
theorem pd_3 : parseMethodDescriptor "()I" = some ⟨[], some .int⟩ := by decide +kernel
theorem ef_0 (m : MethodId) (p1 : Int32) (p2 : Int32) (p3 : Int32) (p4 : Int32) (p5 : Int32) : entryFrame m #[(.int p1), (.int p2), (.int p3), (.int p4), (.int p5)] maxLocals = mkF m 0 #[.val (.int p1), .val (.int p2), .val (.int p3), .val (.int p4), .val (.int p5), .unset, .unset, .unset, .unset, .unset, .unset, .unset, .unset] [] := by first | (simp [entryFrame, mkF, argsToLocals, Value.category, maxLocals]; done) | rfl
def lc0n0_0 (p1 : Int32) (p2 : Int32) (p3 : Int32) (p4 : Int32) (p5 : Int32) : Array Slot := #[.val (.int p1), .val (.int p2), .val (.int p3), .val (.int p4), .val (.int p5), .val (.int (0 : Int32)), .unset, .unset, .unset, .unset, .unset, .unset, .unset]
def lc0n0_1 (p1 : Int32) (p2 : Int32) (p3 : Int32) (p4 : Int32) (p5 : Int32) : Array Slot := #[.val (.int p1), .val (.int p2), .val (.int p3), .val (.int p4), .val (.int p5), .val (.int (0 : Int32)), .val (.int (own_node p2)), .unset, .unset, .unset, .unset, .unset, .unset]
def lc0n0_2 (p1 : Int32) (p2 : Int32) (p3 : Int32) (p4 : Int32) (p5 : Int32) : Array Slot := #[.val (.int p1), .val (.int p2), .val (.int p3), .val (.int p4), .val (.int p5), .val (.int (0 : Int32)), .val (.int (own_node p2)), .val (.int (own_node p3)), .unset, .unset, .unset, .unset, .unset]
def lc0n0_3 (p1 : Int32) (p2 : Int32) (p3 : Int32) (p4 : Int32) (p5 : Int32) : Array Slot := #[.val (.int p1), .val (.int p2), .val (.int p3), .val (.int p4), .val (.int p5), .val (.int (0 : Int32)), .val (.int (own_node p2)), .val (.int (own_node p3)), .val (.int (own_node p4)), .unset, .unset, .unset, .unset]
def lc0n0_4 (p1 : Int32) (p2 : Int32) (p3 : Int32) (p4 : Int32) (p5 : Int32) : Array Slot := #[.val (.int p1), .val (.int p2), .val (.int p3), .val (.int p4), .val (.int p5), .val (.int (0 : Int32)), .val (.int (own_node p2)), .val (.int (own_node p3)), .val (.int (own_node p4)), .val (.int (own_node p5)), .unset, .unset, .unset]
def lc0n0_5 (p1 : Int32) (p2 : Int32) (p3 : Int32) (p4 : Int32) (p5 : Int32) (b16 : Addr) : Array Slot := #[.val (.int p1), .val (.int p2), .val (.int p3), .val (.int p4), .val (.int p5), .val (.int (0 : Int32)), .val (.int (own_node p2)), .val (.int (own_node p3)), .val (.int (own_node p4)), .val (.int (own_node p5)), .val (.ref b16), .unset, .unset]
def lc0n0_6 (p1 : Int32) (p2 : Int32) (p3 : Int32) (p4 : Int32) (p5 : Int32) (b16 : Addr) : Array Slot := #[.val (.int p1), .val (.int p2), .val (.int p3), .val (.int p4), .val (.int p5), .val (.int (0 : Int32)), .val (.int (own_node p2)), .val (.int (own_node p3)), .val (.int (own_node p4)), .val (.int (own_node p5)), .val (.ref b16), .val (.int (0 : Int32)), .unset]
def lc0n0_7 (p1 : Int32) (p2 : Int32) (p3 : Int32) (p4 : Int32) (p5 : Int32) (b16 : Addr) (b19 : Addr) : Array Slot := #[.val (.int p1), .val (.int p2), .val (.int p3), .val (.int p4), .val (.int p5), .val (.int (0 : Int32)), .val (.int (own_node p2)), .val (.int (own_node p3)), .val (.int (own_node p4)), .val (.int (own_node p5)), .val (.ref b16), .val (.int (0 : Int32)), .val (.ref b19)]
def Q0n0 (Z : State) (p1 : Int32) (p2 : Int32) (p3 : Int32) (p4 : Int32) (p5 : Int32) (h0 : Heap) (n0 : Nat) (v : Option Value) (h : Heap) (L : List Loc) : Prop := v = some (.int (1 : Int32)) ∧ Fr n0 L
set_option maxRecDepth 65536 in
set_option maxHeartbeats 40000000 in
theorem rm0n0 (l : Launch) (Z : State) (a0 : Array Value) (hw : ∀ d ∈ tables_1, d.before a0 Z = true) (ws : List Jvm.Cond) (p1 : Int32) (p2 : Int32) (p3 : Int32) (p4 : Int32) (p5 : Int32) (h0 : Heap) (n0 : Nat) (Z0 : n0 ≤ h0.size) (ek : ((p1 &&& (2147483647 : Int32)) % (5 : Int32)) = (0 : Int32)) :
    MetFree l x (head1 (Jvm.Cond.code x code maxLocals ret :: ws) room_1) (fun aa U => aa = #[(.int p1), (.int p2), (.int p3), (.int p4), (.int p5)] ∧ Z.Warmed39 U.vm ∧ U.heap = h0) (fun _ _ _ _ _ => True) (fun _ U o U' => ∃ v L, o = .returned v ∧ Q0n0 Z p1 p2 p3 p4 p5 h0 n0 v U'.heap L ∧ FrameEnd U o U' L room_1.cells room_1.slots) := by
  refine MetFree.of_bodySF (plainFor_of_name pn_StripePlanRelocationsPinLaw) hisR ?_
  intro p e s m args below meth c s₁ Bd hml0 hP hK
  obtain ⟨rfl, hZ, hh⟩ := hP
  have hx := Bd.exec
  have hby := Bd.bytes
  have hml : c.maxLocals = 13 := hml0
  have hown : s.vm.findClass "com/example/rackstripe/rackstripe/StripePlanRelocationsPinLaw" = some m.cls := findClass_of_methodNamed Bd.named
  have hnm := (name_of_methodNamed Bd.named Bd.method).1
  have X0 : Stand p l e room_1 s m #[(.int p1), (.int p2), (.int p3), (.int p4), (.int p5)] below meth c s₁ [] 0 0 := Stand.of_body Bd
  have e0 : s₁.heap = h0 := by rw [← hh, Bd.state]; rfl
  have N0 := Fr.nil n0
  have hlk : meth.locks = false := by first | exact BodyLoose.notSynchronized Bd | exact Body.notSynchronized Bd
  have pre0 : ∀ t, Steps p.tables e below (s₁.setTop (mkF m 0 #[.val (.int p1), .val (.int p2), .val (.int p3), .val (.int p4), .val (.int p5), .unset, .unset, .unset, .unset, .unset, .unset, .unset, .unset] [])) t → Steps p.tables e below (s₁.setTop (entryFrame m #[(.int p1), (.int p2), (.int p3), (.int p4), (.int p5)] maxLocals)) t := fun t k => castTop (ef_0 m p1 p2 p3 p4 p5) k
  have pre1 : ∀ t, Steps p.tables e below (s₁.setTop (mkF m 6 #[.val (.int p1), .val (.int p2), .val (.int p3), .val (.int p4), .val (.int p5), .unset, .unset, .unset, .unset, .unset, .unset, .unset, .unset] [(.int ((p1 &&& (2147483647 : Int32)) % (5 : Int32)))])) t → Steps p.tables e below (s₁.setTop (entryFrame m #[(.int p1), (.int p2), (.int p3), (.int p4), (.int p5)] maxLocals)) t := fun t k => pre0 t (by
    show Steps p.tables e below (s₁.setTop (mkF m 0 #[.val (.int p1), .val (.int p2), .val (.int p3), .val (.int p4), .val (.int p5), .unset, .unset, .unset, .unset, .unset, .unset, .unset, .unset] [])) _
    refine XS.iloadN X0.here hx rfl (hb hby at_0) rfl ?_
    show Steps p.tables e below (s₁.setTop (mkF m 1 #[.val (.int p1), .val (.int p2), .val (.int p3), .val (.int p4), .val (.int p5), .unset, .unset, .unset, .unset, .unset, .unset, .unset, .unset] [(.int p1)])) _
    refine X0.ldcInt hx hown (mvT hZ (hw _ (List.mem_of_getElem? (i := 0) rfl))) (g := (mkF m 1 #[.val (.int p1), .val (.int p2), .val (.int p3), .val (.int p4), .val (.int p5), .unset, .unset, .unset, .unset, .unset, .unset, .unset, .unset] [(.int p1)])) rfl (hb hby at_1) _ ?_
    show Steps p.tables e below (s₁.setTop (mkF m 3 #[.val (.int p1), .val (.int p2), .val (.int p3), .val (.int p4), .val (.int p5), .unset, .unset, .unset, .unset, .unset, .unset, .unset, .unset] [(.int (2147483647 : Int32)), (.int p1)])) _
    refine XS.iand X0.here hx rfl (hb hby at_3) rfl ?_
    show Steps p.tables e below (s₁.setTop (mkF m 4 #[.val (.int p1), .val (.int p2), .val (.int p3), .val (.int p4), .val (.int p5), .unset, .unset, .unset, .unset, .unset, .unset, .unset, .unset] [(.int (p1 &&& (2147483647 : Int32)))])) _
    refine XS.iconst X0.here hx rfl (hb hby at_4) ?_
    show Steps p.tables e below (s₁.setTop (mkF m 5 #[.val (.int p1), .val (.int p2), .val (.int p3), .val (.int p4), .val (.int p5), .unset, .unset, .unset, .unset, .unset, .unset, .unset, .unset] [(.int (5 : Int32)), (.int (p1 &&& (2147483647 : Int32)))])) _
    refine iremM X0 hx rfl (hb hby at_5) rfl (by decide) ?_
    show Steps p.tables e below (s₁.setTop (mkF m 6 #[.val (.int p1), .val (.int p2), .val (.int p3), .val (.int p4), .val (.int p5), .unset, .unset, .unset, .unset, .unset, .unset, .unset, .unset] [(.int ((p1 &&& (2147483647 : Int32)) % (5 : Int32)))])) _
    exact k)
  have pre2 : ∀ t, Steps p.tables e below (s₁.setTop (mkF m 6 #[.val (.int p1), .val (.int p2), .val (.int p3), .val (.int p4), .val (.int p5), .unset, .unset, .unset, .unset, .unset, .unset, .unset, .unset] [(.int (0 : Int32))])) t → Steps p.tables e below (s₁.setTop (entryFrame m #[(.int p1), (.int p2), (.int p3), (.int p4), (.int p5)] maxLocals)) t := fun t k => pre1 t (by rw [ek]; exact k)
  have pre3 : ∀ t, Steps p.tables e below (s₁.setTop (mkF m 9 (lc0n0_0 p1 p2 p3 p4 p5) [(.int p2)])) t → Steps p.tables e below (s₁.setTop (entryFrame m #[(.int p1), (.int p2), (.int p3), (.int p4), (.int p5)] maxLocals)) t := fun t k => pre2 t (by
    show Steps p.tables e below (s₁.setTop (mkF m 6 #[.val (.int p1), .val (.int p2), .val (.int p3), .val (.int p4), .val (.int p5), .unset, .unset, .unset, .unset, .unset, .unset, .unset, .unset] [(.int (0 : Int32))])) _
    refine XS.istore X0.here hx rfl (hb hby at_6) rfl (l' := (lc0n0_0 p1 p2 p3 p4 p5)) rfl ?_
    show Steps p.tables e below (s₁.setTop (mkF m 8 (lc0n0_0 p1 p2 p3 p4 p5) [])) _
    refine XS.iloadN X0.here hx rfl (hb hby at_8) rfl ?_
    show Steps p.tables e below (s₁.setTop (mkF m 9 (lc0n0_0 p1 p2 p3 p4 p5) [(.int p2)])) _
    exact k)
  obtain ⟨_, _, ⟨T4, L4, k4, n4⟩, -, X4, ⟨Lc4, hQ4, l4, y4, z4⟩, st4⟩ := Jvm.LawKit.callS X0 hx (y := (⟨"com/example/rackstripe/rackstripe/StripePlanRelocationsPinLaw", "node", "(I)I"⟩ : MethodName)) hown (mvT hZ (hw _ (List.mem_of_getElem? (i := 1) rfl))) (mvT hZ (hw _ (List.mem_of_getElem? (i := 2) rfl))) (mvT hZ (hw _ (List.mem_of_getElem? (i := 3) rfl))) (mvT hZ (hw _ (List.mem_of_getElem? (i := 4) rfl))) (by decide) (backOf (W := 0) (rm1 l Z a0 hw [] p2 h0 n0 Z0) hZ (hw _ (List.mem_of_getElem? (i := 4) rfl)) (hw _ (List.mem_of_getElem? (i := 3) rfl)) (by decide) (by decide)) (g := (mkF m 9 (lc0n0_0 p1 p2 p3 p4 p5) [(.int p2)])) rfl (by rw [hml]; rfl) (argsL := [(.int p2)]) (rest := []) (lenOf pd_0 rfl) rfl (by show 2 * 0 + _ ≤ _; exact Nat.le_of_eq rfl) (hb hby at_9) (fun _ _ => ⟨rfl, e0, (by decide : 0 + 0 ≤ _), (by decide : 0 + 0 ≤ _)⟩)
  dsimp only [Pt.U, Pt.locs, Pt.cells, Pt.slots] at X4 l4 y4 z4 st4 hQ4
  subst l4 y4 z4
  obtain ⟨rfl, N4q, e4⟩ := hQ4
  have N4 := Fr.app N0 N4q
  have pre5 : ∀ t, Steps p.tables e below (T4.setTop (mkF m 12 (lc0n0_0 p1 p2 p3 p4 p5) [(.int (own_node p2))])) t → Steps p.tables e below (s₁.setTop (entryFrame m #[(.int p1), (.int p2), (.int p3), (.int p4), (.int p5)] maxLocals)) t := fun t k => pre3 t (st4 t k)
  have pre6 : ∀ t, Steps p.tables e below (T4.setTop (mkF m 15 (lc0n0_1 p1 p2 p3 p4 p5) [(.int p3)])) t → Steps p.tables e below (s₁.setTop (entryFrame m #[(.int p1), (.int p2), (.int p3), (.int p4), (.int p5)] maxLocals)) t := fun t k => pre5 t (by
    show Steps p.tables e below (T4.setTop (mkF m 12 (lc0n0_0 p1 p2 p3 p4 p5) [(.int (own_node p2))])) _
    refine XS.istore X4.here hx rfl (hb hby at_12) rfl (l' := (lc0n0_1 p1 p2 p3 p4 p5)) rfl ?_
    show Steps p.tables e below (T4.setTop (mkF m 14 (lc0n0_1 p1 p2 p3 p4 p5) [])) _
    refine XS.iloadN X4.here hx rfl (hb hby at_14) rfl ?_
    show Steps p.tables e below (T4.setTop (mkF m 15 (lc0n0_1 p1 p2 p3 p4 p5) [(.int p3)])) _
    exact k)
  obtain ⟨_, _, ⟨T7, L7, k7, n7⟩, -, X7, ⟨Lc7, hQ7, l7, y7, z7⟩, st7⟩ := Jvm.LawKit.callS X4 hx (y := (⟨"com/example/rackstripe/rackstripe/StripePlanRelocationsPinLaw", "node", "(I)I"⟩ : MethodName)) hown (mvT hZ (hw _ (List.mem_of_getElem? (i := 1) rfl))) (mvT hZ (hw _ (List.mem_of_getElem? (i := 2) rfl))) (mvT hZ (hw _ (List.mem_of_getElem? (i := 3) rfl))) (mvT hZ (hw _ (List.mem_of_getElem? (i := 4) rfl))) (by decide) (backOf (W := 0) (rm1 l Z a0 hw [] p3 h0 n0 Z0) hZ (hw _ (List.mem_of_getElem? (i := 4) rfl)) (hw _ (List.mem_of_getElem? (i := 3) rfl)) (by decide) (by decide)) (g := (mkF m 15 (lc0n0_1 p1 p2 p3 p4 p5) [(.int p3)])) rfl (by rw [hml]; rfl) (argsL := [(.int p3)]) (rest := []) (lenOf pd_0 rfl) rfl (by show 2 * 0 + _ ≤ _; exact Nat.le_of_eq rfl) (hb hby at_15) (fun _ _ => ⟨rfl, e4, (by decide : 0 + 0 ≤ _), (by decide : 0 + 0 ≤ _)⟩)
  dsimp only [Pt.U, Pt.locs, Pt.cells, Pt.slots] at X7 l7 y7 z7 st7 hQ7
  subst l7 y7 z7
  obtain ⟨rfl, N7q, e7⟩ := hQ7
  have N7 := Fr.app N4 N7q
  have pre8 : ∀ t, Steps p.tables e below (T7.setTop (mkF m 18 (lc0n0_1 p1 p2 p3 p4 p5) [(.int (own_node p3))])) t → Steps p.tables e below (s₁.setTop (entryFrame m #[(.int p1), (.int p2), (.int p3), (.int p4), (.int p5)] maxLocals)) t := fun t k => pre6 t (st7 t k)
  have pre9 : ∀ t, Steps p.tables e below (T7.setTop (mkF m 21 (lc0n0_2 p1 p2 p3 p4 p5) [(.int p4)])) t → Steps p.tables e below (s₁.setTop (entryFrame m #[(.int p1), (.int p2), (.int p3), (.int p4), (.int p5)] maxLocals)) t := fun t k => pre8 t (by
    show Steps p.tables e below (T7.setTop (mkF m 18 (lc0n0_1 p1 p2 p3 p4 p5) [(.int (own_node p3))])) _
    refine XS.istore X7.here hx rfl (hb hby at_18) rfl (l' := (lc0n0_2 p1 p2 p3 p4 p5)) rfl ?_
    show Steps p.tables e below (T7.setTop (mkF m 20 (lc0n0_2 p1 p2 p3 p4 p5) [])) _
    refine XS.iloadN X7.here hx rfl (hb hby at_20) rfl ?_
    show Steps p.tables e below (T7.setTop (mkF m 21 (lc0n0_2 p1 p2 p3 p4 p5) [(.int p4)])) _
    exact k)
  obtain ⟨_, _, ⟨T10, L10, k10, n10⟩, -, X10, ⟨Lc10, hQ10, l10, y10, z10⟩, st10⟩ := Jvm.LawKit.callS X7 hx (y := (⟨"com/example/rackstripe/rackstripe/StripePlanRelocationsPinLaw", "node", "(I)I"⟩ : MethodName)) hown (mvT hZ (hw _ (List.mem_of_getElem? (i := 1) rfl))) (mvT hZ (hw _ (List.mem_of_getElem? (i := 2) rfl))) (mvT hZ (hw _ (List.mem_of_getElem? (i := 3) rfl))) (mvT hZ (hw _ (List.mem_of_getElem? (i := 4) rfl))) (by decide) (backOf (W := 0) (rm1 l Z a0 hw [] p4 h0 n0 Z0) hZ (hw _ (List.mem_of_getElem? (i := 4) rfl)) (hw _ (List.mem_of_getElem? (i := 3) rfl)) (by decide) (by decide)) (g := (mkF m 21 (lc0n0_2 p1 p2 p3 p4 p5) [(.int p4)])) rfl (by rw [hml]; rfl) (argsL := [(.int p4)]) (rest := []) (lenOf pd_0 rfl) rfl (by show 2 * 0 + _ ≤ _; exact Nat.le_of_eq rfl) (hb hby at_21) (fun _ _ => ⟨rfl, e7, (by decide : 0 + 0 ≤ _), (by decide : 0 + 0 ≤ _)⟩)
  dsimp only [Pt.U, Pt.locs, Pt.cells, Pt.slots] at X10 l10 y10 z10 st10 hQ10
  subst l10 y10 z10
  obtain ⟨rfl, N10q, e10⟩ := hQ10
  have N10 := Fr.app N7 N10q
  have pre11 : ∀ t, Steps p.tables e below (T10.setTop (mkF m 24 (lc0n0_2 p1 p2 p3 p4 p5) [(.int (own_node p4))])) t → Steps p.tables e below (s₁.setTop (entryFrame m #[(.int p1), (.int p2), (.int p3), (.int p4), (.int p5)] maxLocals)) t := fun t k => pre9 t (st10 t k)
  have pre12 : ∀ t, Steps p.tables e below (T10.setTop (mkF m 28 (lc0n0_3 p1 p2 p3 p4 p5) [(.int p5)])) t → Steps p.tables e below (s₁.setTop (entryFrame m #[(.int p1), (.int p2), (.int p3), (.int p4), (.int p5)] maxLocals)) t := fun t k => pre11 t (by
    show Steps p.tables e below (T10.setTop (mkF m 24 (lc0n0_2 p1 p2 p3 p4 p5) [(.int (own_node p4))])) _
    refine XS.istore X10.here hx rfl (hb hby at_24) rfl (l' := (lc0n0_3 p1 p2 p3 p4 p5)) rfl ?_
    show Steps p.tables e below (T10.setTop (mkF m 26 (lc0n0_3 p1 p2 p3 p4 p5) [])) _
    refine XS.iload X10.here hx rfl (hb hby at_26) rfl ?_
    show Steps p.tables e below (T10.setTop (mkF m 28 (lc0n0_3 p1 p2 p3 p4 p5) [(.int p5)])) _
    exact k)
  obtain ⟨_, _, ⟨T13, L13, k13, n13⟩, -, X13, ⟨Lc13, hQ13, l13, y13, z13⟩, st13⟩ := Jvm.LawKit.callS X10 hx (y := (⟨"com/example/rackstripe/rackstripe/StripePlanRelocationsPinLaw", "node", "(I)I"⟩ : MethodName)) hown (mvT hZ (hw _ (List.mem_of_getElem? (i := 1) rfl))) (mvT hZ (hw _ (List.mem_of_getElem? (i := 2) rfl))) (mvT hZ (hw _ (List.mem_of_getElem? (i := 3) rfl))) (mvT hZ (hw _ (List.mem_of_getElem? (i := 4) rfl))) (by decide) (backOf (W := 0) (rm1 l Z a0 hw [] p5 h0 n0 Z0) hZ (hw _ (List.mem_of_getElem? (i := 4) rfl)) (hw _ (List.mem_of_getElem? (i := 3) rfl)) (by decide) (by decide)) (g := (mkF m 28 (lc0n0_3 p1 p2 p3 p4 p5) [(.int p5)])) rfl (by rw [hml]; rfl) (argsL := [(.int p5)]) (rest := []) (lenOf pd_0 rfl) rfl (by show 2 * 0 + _ ≤ _; exact Nat.le_of_eq rfl) (hb hby at_28) (fun _ _ => ⟨rfl, e10, (by decide : 0 + 0 ≤ _), (by decide : 0 + 0 ≤ _)⟩)
  dsimp only [Pt.U, Pt.locs, Pt.cells, Pt.slots] at X13 l13 y13 z13 st13 hQ13
  subst l13 y13 z13
  obtain ⟨rfl, N13q, e13⟩ := hQ13
  have N13 := Fr.app N10 N13q
  have pre14 : ∀ t, Steps p.tables e below (T13.setTop (mkF m 31 (lc0n0_3 p1 p2 p3 p4 p5) [(.int (own_node p5))])) t → Steps p.tables e below (s₁.setTop (entryFrame m #[(.int p1), (.int p2), (.int p3), (.int p4), (.int p5)] maxLocals)) t := fun t k => pre12 t (st13 t k)
  have pre15 : ∀ t, Steps p.tables e below (T13.setTop (mkF m 35 (lc0n0_4 p1 p2 p3 p4 p5) [(.int (0 : Int32))])) t → Steps p.tables e below (s₁.setTop (entryFrame m #[(.int p1), (.int p2), (.int p3), (.int p4), (.int p5)] maxLocals)) t := fun t k => pre14 t (by
    show Steps p.tables e below (T13.setTop (mkF m 31 (lc0n0_3 p1 p2 p3 p4 p5) [(.int (own_node p5))])) _
    refine XS.istore X13.here hx rfl (hb hby at_31) rfl (l' := (lc0n0_4 p1 p2 p3 p4 p5)) rfl ?_
    show Steps p.tables e below (T13.setTop (mkF m 33 (lc0n0_4 p1 p2 p3 p4 p5) [])) _
    refine XS.iload X13.here hx rfl (hb hby at_33) rfl ?_
    show Steps p.tables e below (T13.setTop (mkF m 35 (lc0n0_4 p1 p2 p3 p4 p5) [(.int (0 : Int32))])) _
    exact k)
  obtain ⟨T16, h16, k16, X16, e16, E16, A16, st16⟩ := newP X13 hx hZ (hw _ (List.mem_of_getElem? (i := 5) rfl)) e13 (g := (mkF m 35 (lc0n0_4 p1 p2 p3 p4 p5) [(.int (0 : Int32))])) rfl (hb hby at_35) rfl (by decide) (cap := 0) (by decide) (by decide) (by decide) (by decide)
  obtain ⟨b16, g16⟩ : ∃ z, z = h0.size := ⟨_, rfl⟩
  rw [← g16] at A16 st16
  have g_b16 : n0 ≤ b16 := Nat.le_trans Z0 (Nat.le_of_eq g16.symm)
  have Z16 : n0 ≤ h16.size := Nat.le_trans Z0 E16.1
  have A_b16 : own_A Z h16 b16 .int 0 (fun _ => (0 : Int32)) := own_A.new A16 rfl rfl
  have pre17 : ∀ t, Steps p.tables e below (T16.setTop (mkF m 37 (lc0n0_4 p1 p2 p3 p4 p5) [(.ref b16)])) t → Steps p.tables e below (s₁.setTop (entryFrame m #[(.int p1), (.int p2), (.int p3), (.int p4), (.int p5)] maxLocals)) t := fun t k => pre15 t (st16 t k)
  have pre18 : ∀ t, Steps p.tables e below (T16.setTop (mkF m 160 (lc0n0_6 p1 p2 p3 p4 p5 b16) [])) t → Steps p.tables e below (s₁.setTop (entryFrame m #[(.int p1), (.int p2), (.int p3), (.int p4), (.int p5)] maxLocals)) t := fun t k => pre17 t (by
    show Steps p.tables e below (T16.setTop (mkF m 37 (lc0n0_4 p1 p2 p3 p4 p5) [(.ref b16)])) _
    refine XS.astore X16.here hx rfl (hb hby at_37) rfl rfl (l' := (lc0n0_5 p1 p2 p3 p4 p5 b16)) rfl ?_
    show Steps p.tables e below (T16.setTop (mkF m 39 (lc0n0_5 p1 p2 p3 p4 p5 b16) [])) _
    refine XS.iload X16.here hx rfl (hb hby at_39) rfl ?_
    show Steps p.tables e below (T16.setTop (mkF m 41 (lc0n0_5 p1 p2 p3 p4 p5 b16) [(.int (0 : Int32))])) _
    refine XS.ifYes X16.here hx rfl (pc0 := 41) (pc' := 50) rfl (hb hby at_41) rfl ((if0 _ _).trans (flt (by decide)).2.2.2) (by decide) (by decide) ?_
    show Steps p.tables e below (T16.setTop (mkF m 50 (lc0n0_5 p1 p2 p3 p4 p5 b16) [])) _
    refine XS.iload X16.here hx rfl (hb hby at_50) rfl ?_
    show Steps p.tables e below (T16.setTop (mkF m 52 (lc0n0_5 p1 p2 p3 p4 p5 b16) [(.int (0 : Int32))])) _
    refine XS.iconst X16.here hx rfl (hb hby at_52) ?_
    show Steps p.tables e below (T16.setTop (mkF m 53 (lc0n0_5 p1 p2 p3 p4 p5 b16) [(.int (1 : Int32)), (.int (0 : Int32))])) _
    refine XS.icmpYes X16.here hx rfl (pc0 := 53) (pc' := 62) rfl (hb hby at_53) rfl (flt (by decide)).2.2.2 (by decide) (by decide) ?_
    show Steps p.tables e below (T16.setTop (mkF m 62 (lc0n0_5 p1 p2 p3 p4 p5 b16) [])) _
    refine XS.iload X16.here hx rfl (hb hby at_62) rfl ?_
    show Steps p.tables e below (T16.setTop (mkF m 64 (lc0n0_5 p1 p2 p3 p4 p5 b16) [(.int (0 : Int32))])) _
    refine XS.iconst X16.here hx rfl (hb hby at_64) ?_
    show Steps p.tables e below (T16.setTop (mkF m 65 (lc0n0_5 p1 p2 p3 p4 p5 b16) [(.int (2 : Int32)), (.int (0 : Int32))])) _
    refine XS.icmpYes X16.here hx rfl (pc0 := 65) (pc' := 74) rfl (hb hby at_65) rfl (flt (by decide)).2.2.2 (by decide) (by decide) ?_
    show Steps p.tables e below (T16.setTop (mkF m 74 (lc0n0_5 p1 p2 p3 p4 p5 b16) [])) _
    refine XS.iload X16.here hx rfl (hb hby at_74) rfl ?_
    show Steps p.tables e below (T16.setTop (mkF m 76 (lc0n0_5 p1 p2 p3 p4 p5 b16) [(.int (0 : Int32))])) _
    refine XS.iconst X16.here hx rfl (hb hby at_76) ?_
    show Steps p.tables e below (T16.setTop (mkF m 77 (lc0n0_5 p1 p2 p3 p4 p5 b16) [(.int (3 : Int32)), (.int (0 : Int32))])) _
    refine XS.icmpYes X16.here hx rfl (pc0 := 77) (pc' := 86) rfl (hb hby at_77) rfl (flt (by decide)).2.2.2 (by decide) (by decide) ?_
    show Steps p.tables e below (T16.setTop (mkF m 86 (lc0n0_5 p1 p2 p3 p4 p5 b16) [])) _
    refine XS.iconst X16.here hx rfl (hb hby at_86) ?_
    show Steps p.tables e below (T16.setTop (mkF m 87 (lc0n0_5 p1 p2 p3 p4 p5 b16) [(.int (0 : Int32))])) _
    refine XS.istore X16.here hx rfl (hb hby at_87) rfl (l' := (lc0n0_6 p1 p2 p3 p4 p5 b16)) rfl ?_
    show Steps p.tables e below (T16.setTop (mkF m 89 (lc0n0_6 p1 p2 p3 p4 p5 b16) [])) _
    refine XS.iload X16.here hx rfl (hb hby at_89) rfl ?_
    show Steps p.tables e below (T16.setTop (mkF m 91 (lc0n0_6 p1 p2 p3 p4 p5 b16) [(.int (0 : Int32))])) _
    refine XS.ifYes X16.here hx rfl (pc0 := 91) (pc' := 106) rfl (hb hby at_91) rfl ((if0 _ _).trans (flt (by decide)).2.2.2) (by decide) (by decide) ?_
    show Steps p.tables e below (T16.setTop (mkF m 106 (lc0n0_6 p1 p2 p3 p4 p5 b16) [])) _
    refine XS.iload X16.here hx rfl (hb hby at_106) rfl ?_
    show Steps p.tables e below (T16.setTop (mkF m 108 (lc0n0_6 p1 p2 p3 p4 p5 b16) [(.int (0 : Int32))])) _
    refine XS.iconst X16.here hx rfl (hb hby at_108) ?_
    show Steps p.tables e below (T16.setTop (mkF m 109 (lc0n0_6 p1 p2 p3 p4 p5 b16) [(.int (1 : Int32)), (.int (0 : Int32))])) _
    refine XS.icmpYes X16.here hx rfl (pc0 := 109) (pc' := 124) rfl (hb hby at_109) rfl (flt (by decide)).2.2.2 (by decide) (by decide) ?_
    show Steps p.tables e below (T16.setTop (mkF m 124 (lc0n0_6 p1 p2 p3 p4 p5 b16) [])) _
    refine XS.iload X16.here hx rfl (hb hby at_124) rfl ?_
    show Steps p.tables e below (T16.setTop (mkF m 126 (lc0n0_6 p1 p2 p3 p4 p5 b16) [(.int (0 : Int32))])) _
    refine XS.iconst X16.here hx rfl (hb hby at_126) ?_
    show Steps p.tables e below (T16.setTop (mkF m 127 (lc0n0_6 p1 p2 p3 p4 p5 b16) [(.int (2 : Int32)), (.int (0 : Int32))])) _
    refine XS.icmpYes X16.here hx rfl (pc0 := 127) (pc' := 142) rfl (hb hby at_127) rfl (flt (by decide)).2.2.2 (by decide) (by decide) ?_
    show Steps p.tables e below (T16.setTop (mkF m 142 (lc0n0_6 p1 p2 p3 p4 p5 b16) [])) _
    refine XS.iload X16.here hx rfl (hb hby at_142) rfl ?_
    show Steps p.tables e below (T16.setTop (mkF m 144 (lc0n0_6 p1 p2 p3 p4 p5 b16) [(.int (0 : Int32))])) _
    refine XS.iconst X16.here hx rfl (hb hby at_144) ?_
    show Steps p.tables e below (T16.setTop (mkF m 145 (lc0n0_6 p1 p2 p3 p4 p5 b16) [(.int (3 : Int32)), (.int (0 : Int32))])) _
    refine XS.icmpYes X16.here hx rfl (pc0 := 145) (pc' := 160) rfl (hb hby at_145) rfl (flt (by decide)).2.2.2 (by decide) (by decide) ?_
    show Steps p.tables e below (T16.setTop (mkF m 160 (lc0n0_6 p1 p2 p3 p4 p5 b16) [])) _
    exact k)
  obtain ⟨T19, h19, X19, e19, E19, A19, D19, -, st19⟩ := newO X16 hx hZ hown (hw _ (List.mem_of_getElem? (i := 6) rfl)) (hw _ (List.mem_of_getElem? (i := 7) rfl)) (hw _ (List.mem_of_getElem? (i := 8) rfl)) e16 (g := (mkF m 160 (lc0n0_6 p1 p2 p3 p4 p5 b16) [])) rfl (hb hby at_160) (by decide) (by decide)
  obtain ⟨b19, g19⟩ : ∃ z, z = h16.size := ⟨_, rfl⟩
  rw [← g19] at A19 D19 st19
  have g_b19 : n0 ≤ b19 := Nat.le_trans Z16 (Nat.le_of_eq g19.symm)
  have ne_b16_b19 : b16 ≠ b19 := Nat.ne_of_lt (Nat.lt_of_lt_of_le A_b16.lt (Nat.le_of_eq g19.symm))
  have A_b16 := A_b16.ext E19
  have Z19 : n0 ≤ h19.size := Nat.le_trans Z16 E19.1
  have E_b19 := A19
  have F_b19_encoder : Fld Z h19 b19 "com/example/rackstripe/rackstripe/StripePlan" "encoder" "I" (.int (0 : Int32)) := D19 (Or.inr (hw _ (List.mem_of_getElem? (i := 16) rfl))) (ty := .int) (by decide)
  have F_b19_sources : Fld Z h19 b19 "com/example/rackstripe/rackstripe/StripePlan" "sources" "[I" .null := D19 (Or.inr (hw _ (List.mem_of_getElem? (i := 18) rfl))) (ty := (.array .int)) (by decide)
  have F_b19_crossRackDownloads : Fld Z h19 b19 "com/example/rackstripe/rackstripe/StripePlan" "crossRackDownloads" "I" (.int (0 : Int32)) := D19 (Or.inr (hw _ (List.mem_of_getElem? (i := 20) rfl))) (ty := .int) (by decide)
  have F_b19_intraRackDownloads : Fld Z h19 b19 "com/example/rackstripe/rackstripe/StripePlan" "intraRackDownloads" "I" (.int (0 : Int32)) := D19 (Or.inr (hw _ (List.mem_of_getElem? (i := 22) rfl))) (ty := .int) (by decide)
  have F_b19_kept : Fld Z h19 b19 "com/example/rackstripe/rackstripe/StripePlan" "kept" "[I" .null := D19 (Or.inr (hw _ (List.mem_of_getElem? (i := 24) rfl))) (ty := (.array .int)) (by decide)
  have F_b19_parity : Fld Z h19 b19 "com/example/rackstripe/rackstripe/StripePlan" "parity" "[I" .null := D19 (Or.inr (hw _ (List.mem_of_getElem? (i := 26) rfl))) (ty := (.array .int)) (by decide)
  have F_b19_parityUnplaced : Fld Z h19 b19 "com/example/rackstripe/rackstripe/StripePlan" "parityUnplaced" "I" (.int (0 : Int32)) := D19 (Or.inr (hw _ (List.mem_of_getElem? (i := 28) rfl))) (ty := .int) (by decide)
  have pre20 : ∀ t, Steps p.tables e below (T19.setTop (mkF m 163 (lc0n0_6 p1 p2 p3 p4 p5 b16) [(.ref b19)])) t → Steps p.tables e below (s₁.setTop (entryFrame m #[(.int p1), (.int p2), (.int p3), (.int p4), (.int p5)] maxLocals)) t := fun t k => pre18 t (st19 t k)
  have pre21 : ∀ t, Steps p.tables e below (T19.setTop (mkF m 166 (lc0n0_6 p1 p2 p3 p4 p5 b16) [(.int (0 : Int32)), (.int (0 : Int32)), (.ref b19), (.ref b19)])) t → Steps p.tables e below (s₁.setTop (entryFrame m #[(.int p1), (.int p2), (.int p3), (.int p4), (.int p5)] maxLocals)) t := fun t k => pre20 t (by
    show Steps p.tables e below (T19.setTop (mkF m 163 (lc0n0_6 p1 p2 p3 p4 p5 b16) [(.ref b19)])) _
    refine XS.dup X19.here hx rfl (hb hby at_163) rfl rfl ?_
    show Steps p.tables e below (T19.setTop (mkF m 164 (lc0n0_6 p1 p2 p3 p4 p5 b16) [(.ref b19), (.ref b19)])) _
    refine XS.iconst X19.here hx rfl (hb hby at_164) ?_
    show Steps p.tables e below (T19.setTop (mkF m 165 (lc0n0_6 p1 p2 p3 p4 p5 b16) [(.int (0 : Int32)), (.ref b19), (.ref b19)])) _
    refine XS.iconst X19.here hx rfl (hb hby at_165) ?_
    show Steps p.tables e below (T19.setTop (mkF m 166 (lc0n0_6 p1 p2 p3 p4 p5 b16) [(.int (0 : Int32)), (.int (0 : Int32)), (.ref b19), (.ref b19)])) _
    exact k)
  obtain ⟨T22, h22, k22, X22, e22, E22, A22, st22⟩ := newP X19 hx hZ (hw _ (List.mem_of_getElem? (i := 5) rfl)) e19 (g := (mkF m 166 (lc0n0_6 p1 p2 p3 p4 p5 b16) [(.int (0 : Int32)), (.int (0 : Int32)), (.ref b19), (.ref b19)])) rfl (hb hby at_166) rfl (by decide) (cap := 0) (by decide) (by decide) (by decide) (by decide)
  obtain ⟨b22, g22⟩ : ∃ z, z = h19.size := ⟨_, rfl⟩
  rw [← g22] at A22 st22
  have g_b22 : n0 ≤ b22 := Nat.le_trans Z19 (Nat.le_of_eq g22.symm)
  have ne_b16_b22 : b16 ≠ b22 := Nat.ne_of_lt (Nat.lt_of_lt_of_le A_b16.lt (Nat.le_of_eq g22.symm))
  have ne_b19_b22 : b19 ≠ b22 := Nat.ne_of_lt (Nat.lt_of_lt_of_le E_b19.lt (Nat.le_of_eq g22.symm))
  have A_b16 := A_b16.ext E22
  have E_b19 := E_b19.ext E22
  have F_b19_encoder := F_b19_encoder.ext E22
  have F_b19_sources := F_b19_sources.ext E22
  have F_b19_crossRackDownloads := F_b19_crossRackDownloads.ext E22
  have F_b19_intraRackDownloads := F_b19_intraRackDownloads.ext E22
  have F_b19_kept := F_b19_kept.ext E22
  have F_b19_parity := F_b19_parity.ext E22
  have F_b19_parityUnplaced := F_b19_parityUnplaced.ext E22
  have Z22 : n0 ≤ h22.size := Nat.le_trans Z19 E22.1
  have A_b22 : own_A Z h22 b22 .int 0 (fun _ => (0 : Int32)) := own_A.new A22 rfl rfl
  have pre23 : ∀ t, Steps p.tables e below (T22.setTop (mkF m 168 (lc0n0_6 p1 p2 p3 p4 p5 b16) [(.ref b22), (.int (0 : Int32)), (.ref b19), (.ref b19)])) t → Steps p.tables e below (s₁.setTop (entryFrame m #[(.int p1), (.int p2), (.int p3), (.int p4), (.int p5)] maxLocals)) t := fun t k => pre21 t (st22 t k)
  have pre24 : ∀ t, Steps p.tables e below (T22.setTop (mkF m 173 (lc0n0_6 p1 p2 p3 p4 p5 b16) [(.int (0 : Int32)), (.ref b16), (.int (0 : Int32)), (.int (0 : Int32)), (.ref b22), (.int (0 : Int32)), (.ref b19), (.ref b19)])) t → Steps p.tables e below (s₁.setTop (entryFrame m #[(.int p1), (.int p2), (.int p3), (.int p4), (.int p5)] maxLocals)) t := fun t k => pre23 t (by
    show Steps p.tables e below (T22.setTop (mkF m 168 (lc0n0_6 p1 p2 p3 p4 p5 b16) [(.ref b22), (.int (0 : Int32)), (.ref b19), (.ref b19)])) _
    refine XS.iconst X22.here hx rfl (hb hby at_168) ?_
    show Steps p.tables e below (T22.setTop (mkF m 169 (lc0n0_6 p1 p2 p3 p4 p5 b16) [(.int (0 : Int32)), (.ref b22), (.int (0 : Int32)), (.ref b19), (.ref b19)])) _
    refine XS.iconst X22.here hx rfl (hb hby at_169) ?_
    show Steps p.tables e below (T22.setTop (mkF m 170 (lc0n0_6 p1 p2 p3 p4 p5 b16) [(.int (0 : Int32)), (.int (0 : Int32)), (.ref b22), (.int (0 : Int32)), (.ref b19), (.ref b19)])) _
    refine XS.aload X22.here hx rfl (hb hby at_170) rfl rfl ?_
    show Steps p.tables e below (T22.setTop (mkF m 172 (lc0n0_6 p1 p2 p3 p4 p5 b16) [(.ref b16), (.int (0 : Int32)), (.int (0 : Int32)), (.ref b22), (.int (0 : Int32)), (.ref b19), (.ref b19)])) _
    refine XS.iconst X22.here hx rfl (hb hby at_172) ?_
    show Steps p.tables e below (T22.setTop (mkF m 173 (lc0n0_6 p1 p2 p3 p4 p5 b16) [(.int (0 : Int32)), (.ref b16), (.int (0 : Int32)), (.int (0 : Int32)), (.ref b22), (.int (0 : Int32)), (.ref b19), (.ref b19)])) _
    exact k)
  obtain ⟨T25, h25, k25, X25, e25, E25, A25, st25⟩ := newP X22 hx hZ (hw _ (List.mem_of_getElem? (i := 5) rfl)) e22 (g := (mkF m 173 (lc0n0_6 p1 p2 p3 p4 p5 b16) [(.int (0 : Int32)), (.ref b16), (.int (0 : Int32)), (.int (0 : Int32)), (.ref b22), (.int (0 : Int32)), (.ref b19), (.ref b19)])) rfl (hb hby at_173) rfl (by decide) (cap := 0) (by decide) (by decide) (by decide) (by decide)
  obtain ⟨b25, g25⟩ : ∃ z, z = h22.size := ⟨_, rfl⟩
  rw [← g25] at A25 st25
  have g_b25 : n0 ≤ b25 := Nat.le_trans Z22 (Nat.le_of_eq g25.symm)
  have ne_b16_b25 : b16 ≠ b25 := Nat.ne_of_lt (Nat.lt_of_lt_of_le A_b16.lt (Nat.le_of_eq g25.symm))
  have ne_b19_b25 : b19 ≠ b25 := Nat.ne_of_lt (Nat.lt_of_lt_of_le E_b19.lt (Nat.le_of_eq g25.symm))
  have ne_b22_b25 : b22 ≠ b25 := Nat.ne_of_lt (Nat.lt_of_lt_of_le A_b22.lt (Nat.le_of_eq g25.symm))
  have A_b16 := A_b16.ext E25
  have E_b19 := E_b19.ext E25
  have F_b19_encoder := F_b19_encoder.ext E25
  have F_b19_sources := F_b19_sources.ext E25
  have F_b19_crossRackDownloads := F_b19_crossRackDownloads.ext E25
  have F_b19_intraRackDownloads := F_b19_intraRackDownloads.ext E25
  have F_b19_kept := F_b19_kept.ext E25
  have F_b19_parity := F_b19_parity.ext E25
  have F_b19_parityUnplaced := F_b19_parityUnplaced.ext E25
  have A_b22 := A_b22.ext E25
  have Z25 : n0 ≤ h25.size := Nat.le_trans Z22 E25.1
  have A_b25 : own_A Z h25 b25 .int 0 (fun _ => (0 : Int32)) := own_A.new A25 rfl rfl
  have pre26 : ∀ t, Steps p.tables e below (T25.setTop (mkF m 175 (lc0n0_6 p1 p2 p3 p4 p5 b16) [(.ref b25), (.ref b16), (.int (0 : Int32)), (.int (0 : Int32)), (.ref b22), (.int (0 : Int32)), (.ref b19), (.ref b19)])) t → Steps p.tables e below (s₁.setTop (entryFrame m #[(.int p1), (.int p2), (.int p3), (.int p4), (.int p5)] maxLocals)) t := fun t k => pre24 t (st25 t k)
  have pre27 : ∀ t, Steps p.tables e below (T25.setTop (mkF m 176 (lc0n0_6 p1 p2 p3 p4 p5 b16) [(.int (0 : Int32)), (.ref b25), (.ref b16), (.int (0 : Int32)), (.int (0 : Int32)), (.ref b22), (.int (0 : Int32)), (.ref b19), (.ref b19)])) t → Steps p.tables e below (s₁.setTop (entryFrame m #[(.int p1), (.int p2), (.int p3), (.int p4), (.int p5)] maxLocals)) t := fun t k => pre26 t (by
    show Steps p.tables e below (T25.setTop (mkF m 175 (lc0n0_6 p1 p2 p3 p4 p5 b16) [(.ref b25), (.ref b16), (.int (0 : Int32)), (.int (0 : Int32)), (.ref b22), (.int (0 : Int32)), (.ref b19), (.ref b19)])) _
    refine XS.iconst X25.here hx rfl (hb hby at_175) ?_
    show Steps p.tables e below (T25.setTop (mkF m 176 (lc0n0_6 p1 p2 p3 p4 p5 b16) [(.int (0 : Int32)), (.ref b25), (.ref b16), (.int (0 : Int32)), (.int (0 : Int32)), (.ref b22), (.int (0 : Int32)), (.ref b19), (.ref b19)])) _
    exact k)
  obtain ⟨_, _, ⟨T28, L28, k28, n28⟩, -, X28, ⟨Lc28, hQ28, l28, y28, z28⟩, st28⟩ := X25.specialBack hx (y := (⟨"com/example/rackstripe/rackstripe/StripePlan", "<init>", "(I[III[I[II)V"⟩ : MethodName)) rfl hown (mvT hZ (hw _ (List.mem_of_getElem? (i := 9) rfl))) (mvT hZ (hw _ (List.mem_of_getElem? (i := 10) rfl))) (mvT hZ (hw _ (List.mem_of_getElem? (i := 11) rfl))) (by decide) (backOf (W := 1) (rm2 l Z a0 hw [] b19 (0 : Int32) b22 (0 : Int32) (0 : Int32) b16 b25 (0 : Int32) h25 n0 Z25 E_b19 F_b19_encoder F_b19_sources F_b19_crossRackDownloads F_b19_intraRackDownloads F_b19_kept F_b19_parity F_b19_parityUnplaced g_b19) hZ (hw _ (List.mem_of_getElem? (i := 11) rfl)) (hw _ (List.mem_of_getElem? (i := 8) rfl)) (by decide) (by decide)) (g := (mkF m 176 (lc0n0_6 p1 p2 p3 p4 p5 b16) [(.int (0 : Int32)), (.ref b25), (.ref b16), (.int (0 : Int32)), (.int (0 : Int32)), (.ref b22), (.int (0 : Int32)), (.ref b19), (.ref b19)])) rfl (by rw [hml]; rfl) (Steps.refl _) (a := b19) (argsL := [(.int (0 : Int32)), (.ref b22), (.int (0 : Int32)), (.int (0 : Int32)), (.ref b16), (.ref b25), (.int (0 : Int32))]) (rest := [(.ref b19)]) (lenOf pd_1 rfl) rfl (by show 2 * 0 + _ ≤ _; exact Nat.le_of_eq rfl) (hb hby at_176) (fun _ _ => ⟨rfl, e25, (by decide : 4 + 0 ≤ _), (by decide : 7 + 0 ≤ _)⟩)
  dsimp only [Pt.U, Pt.locs, Pt.cells, Pt.slots] at X28 l28 y28 z28 st28 hQ28
  subst l28 y28 z28
  obtain ⟨rfl, N28q, K28, q28_0⟩ := hQ28
  have A_b16 := A_b16.keep K28 (ninS ne_b16_b19 nin0)
  have E_b19 := E_b19.keep K28
  have A_b22 := A_b22.keep K28 (ninS (Ne.symm ne_b19_b22) nin0)
  have A_b25 := A_b25.keep K28 (ninS (Ne.symm ne_b19_b25) nin0)
  have Z28 : n0 ≤ T28.heap.size := Nat.le_trans Z25 K28.1
  have F_b19_kept := q28_0
  have N28 := Fr.app N13 N28q
  have pre29 : ∀ t, Steps p.tables e below (T28.setTop (mkF m 179 (lc0n0_6 p1 p2 p3 p4 p5 b16) [(.ref b19)])) t → Steps p.tables e below (s₁.setTop (entryFrame m #[(.int p1), (.int p2), (.int p3), (.int p4), (.int p5)] maxLocals)) t := fun t k => pre27 t (st28.trans k)
  have pre30 : ∀ t, Steps p.tables e below (T28.setTop (mkF m 183 (lc0n0_7 p1 p2 p3 p4 p5 b16 b19) [(.ref b19)])) t → Steps p.tables e below (s₁.setTop (entryFrame m #[(.int p1), (.int p2), (.int p3), (.int p4), (.int p5)] maxLocals)) t := fun t k => pre29 t (by
    show Steps p.tables e below (T28.setTop (mkF m 179 (lc0n0_6 p1 p2 p3 p4 p5 b16) [(.ref b19)])) _
    refine XS.astore X28.here hx rfl (hb hby at_179) rfl rfl (l' := (lc0n0_7 p1 p2 p3 p4 p5 b16 b19)) rfl ?_
    show Steps p.tables e below (T28.setTop (mkF m 181 (lc0n0_7 p1 p2 p3 p4 p5 b16 b19) [])) _
    refine XS.aload X28.here hx rfl (hb hby at_181) rfl rfl ?_
    show Steps p.tables e below (T28.setTop (mkF m 183 (lc0n0_7 p1 p2 p3 p4 p5 b16 b19) [(.ref b19)])) _
    exact k)
  have A_b16 : own_A Z T28.heap b16 .int 0 (own_vec (own_node p2) (own_node p3) (own_node p4) (own_node p5)) := own_A.congr A_b16 (by
    intro i hi
    rcases i with _ | _ | _ | _ | i
    all_goals first | omega | simp [own_put, own_vec])
  obtain ⟨cq31, kq31, q31a, q31b, q31c⟩ := isOf hZ rfl E_b19
  obtain ⟨_, _, ⟨T31, L31, k31, n31⟩, -, X31, ⟨Lc31, hQ31, l31, y31, z31⟩, st31⟩ := X28.virtualBack hx (y := (⟨"com/example/rackstripe/rackstripe/StripePlan", "relocations", "()I"⟩ : MethodName)) (z := (⟨"com/example/rackstripe/rackstripe/StripePlan", "relocations", "()I"⟩ : MethodName)) hown (mvT hZ (hw _ (List.mem_of_getElem? (i := 29) rfl))) (mvT hZ (hw _ (List.mem_of_getElem? (i := 30) rfl))) (notFace_of_selects (args := #[]) (mvT hZ (hw _ (List.mem_of_getElem? (i := 32) rfl)))) (mvT hZ (hw _ (List.mem_of_getElem? (i := 32) rfl))) (mvT hZ (hw _ (List.mem_of_getElem? (i := 31) rfl))) (by decide) (backOf (W := 0) (rmR0 l Z a0 hw [] b19 (own_vec (own_node p2) (own_node p3) (own_node p4) (own_node p5)) b16 T28.heap n0 Z28 E_b19 F_b19_kept A_b16) hZ (hw _ (List.mem_of_getElem? (i := 33) rfl)) (hw _ (List.mem_of_getElem? (i := 8) rfl)) (by decide) (by decide)) q31a q31c (g := (mkF m 183 (lc0n0_7 p1 p2 p3 p4 p5 b16 b19) [(.ref b19)])) rfl (by rw [hml]; rfl) (Steps.refl _) (argsL := []) (rest := []) (lenOf pd_3 rfl) rfl (by show 2 * 0 + _ ≤ _; exact Nat.le_of_eq rfl) (hb hby at_183) (fun _ _ => ⟨rfl, rfl, (by decide : 4 + 0 ≤ _), (by decide : 7 + 0 ≤ _)⟩)
  dsimp only [Pt.U, Pt.locs, Pt.cells, Pt.slots] at X31 l31 y31 z31 st31 hQ31
  subst l31 y31 z31
  obtain ⟨rfl, N31q, e31⟩ := hQ31
  have N31 := Fr.app N28 N31q
  have pre32 : ∀ t, Steps p.tables e below (T31.setTop (mkF m 186 (lc0n0_7 p1 p2 p3 p4 p5 b16 b19) [(.int (own_rel0 (own_vec (own_node p2) (own_node p3) (own_node p4) (own_node p5))))])) t → Steps p.tables e below (s₁.setTop (entryFrame m #[(.int p1), (.int p2), (.int p3), (.int p4), (.int p5)] maxLocals)) t := fun t k => pre30 t (st31.trans k)
  have pre33 : ∀ t, Steps p.tables e below (T31.setTop (mkF m 196 (lc0n0_7 p1 p2 p3 p4 p5 b16 b19) [(.int (1 : Int32))])) t → Steps p.tables e below (s₁.setTop (entryFrame m #[(.int p1), (.int p2), (.int p3), (.int p4), (.int p5)] maxLocals)) t := fun t k => pre32 t (by
    show Steps p.tables e below (T31.setTop (mkF m 186 (lc0n0_7 p1 p2 p3 p4 p5 b16 b19) [(.int (own_rel0 (own_vec (own_node p2) (own_node p3) (own_node p4) (own_node p5))))])) _
    refine XS.iload X31.here hx rfl (hb hby at_186) rfl ?_
    show Steps p.tables e below (T31.setTop (mkF m 188 (lc0n0_7 p1 p2 p3 p4 p5 b16 b19) [(.int (0 : Int32)), (.int (own_rel0 (own_vec (own_node p2) (own_node p3) (own_node p4) (own_node p5))))])) _
    refine XS.icmpNo X31.here hx rfl (hb hby at_188) rfl (teq (show (own_rel0 (own_vec (own_node p2) (own_node p3) (own_node p4) (own_node p5))) = (0 : Int32) from own_law0 p2 p3 p4 p5)).2 ?_
    show Steps p.tables e below (T31.setTop (mkF m 191 (lc0n0_7 p1 p2 p3 p4 p5 b16 b19) [])) _
    refine XS.iconst X31.here hx rfl (hb hby at_191) ?_
    show Steps p.tables e below (T31.setTop (mkF m 192 (lc0n0_7 p1 p2 p3 p4 p5 b16 b19) [(.int (1 : Int32))])) _
    refine XS.goto X31.here hx rfl (pc0 := 192) (pc' := 196) rfl (hb hby at_192) (by decide) (by decide) ?_
    show Steps p.tables e below (T31.setTop (mkF m 196 (lc0n0_7 p1 p2 p3 p4 p5 b16 b19) [(.int (1 : Int32))])) _
    exact k)
  obtain ⟨fs, hr, hrun, hended, hW, hsame⟩ := X31.leave (v := some (.int (1 : Int32))) (fun h => by rw [Bd.returns] at h; cases h) hlk
  refine ⟨_, _, pre33 _ ?_, hrun, hended, _, _, rfl, ?_, ⟨_, rfl⟩, hW, hsame.mono (by decide) (by decide)⟩
  · show Steps p.tables e below (T31.setTop (mkF m 196 (lc0n0_7 p1 p2 p3 p4 p5 b16 b19) [(.int (1 : Int32))])) _
    exact retN X31 hx (t := .boolean) Bd.returns (by simp) (hb hby at_196) hr
  · show Q0n0 Z p1 p2 p3 p4 p5 h0 n0 _ T31.heap _
    rw [e31]
    exact ⟨rfl, N31⟩
def lc0n1_0 (p1 : Int32) (p2 : Int32) (p3 : Int32) (p4 : Int32) (p5 : Int32) : Array Slot := #[.val (.int p1), .val (.int p2), .val (.int p3), .val (.int p4), .val (.int p5), .val (.int (1 : Int32)), .unset, .unset, .unset, .unset, .unset, .unset, .unset]
def lc0n1_1 (p1 : Int32) (p2 : Int32) (p3 : Int32) (p4 : Int32) (p5 : Int32) : Array Slot := #[.val (.int p1), .val (.int p2), .val (.int p3), .val (.int p4), .val (.int p5), .val (.int (1 : Int32)), .val (.int (own_node p2)), .unset, .unset, .unset, .unset, .unset, .unset]
def lc0n1_2 (p1 : Int32) (p2 : Int32) (p3 : Int32) (p4 : Int32) (p5 : Int32) : Array Slot := #[.val (.int p1), .val (.int p2), .val (.int p3), .val (.int p4), .val (.int p5), .val (.int (1 : Int32)), .val (.int (own_node p2)), .val (.int (own_node p3)), .unset, .unset, .unset, .unset, .unset]
def lc0n1_3 (p1 : Int32) (p2 : Int32) (p3 : Int32) (p4 : Int32) (p5 : Int32) : Array Slot := #[.val (.int p1), .val (.int p2), .val (.int p3), .val (.int p4), .val (.int p5), .val (.int (1 : Int32)), .val (.int (own_node p2)), .val (.int (own_node p3)), .val (.int (own_node p4)), .unset, .unset, .unset, .unset]
def lc0n1_4 (p1 : Int32) (p2 : Int32) (p3 : Int32) (p4 : Int32) (p5 : Int32) : Array Slot := #[.val (.int p1), .val (.int p2), .val (.int p3), .val (.int p4), .val (.int p5), .val (.int (1 : Int32)), .val (.int (own_node p2)), .val (.int (own_node p3)), .val (.int (own_node p4)), .val (.int (own_node p5)), .unset, .unset, .unset]
def lc0n1_5 (p1 : Int32) (p2 : Int32) (p3 : Int32) (p4 : Int32) (p5 : Int32) (b16 : Addr) : Array Slot := #[.val (.int p1), .val (.int p2), .val (.int p3), .val (.int p4), .val (.int p5), .val (.int (1 : Int32)), .val (.int (own_node p2)), .val (.int (own_node p3)), .val (.int (own_node p4)), .val (.int (own_node p5)), .val (.ref b16), .unset, .unset]
def lc0n1_6 (p1 : Int32) (p2 : Int32) (p3 : Int32) (p4 : Int32) (p5 : Int32) (b16 : Addr) : Array Slot := #[.val (.int p1), .val (.int p2), .val (.int p3), .val (.int p4), .val (.int p5), .val (.int (1 : Int32)), .val (.int (own_node p2)), .val (.int (own_node p3)), .val (.int (own_node p4)), .val (.int (own_node p5)), .val (.ref b16), .val (.int (0 : Int32)), .unset]
def lc0n1_7 (p1 : Int32) (p2 : Int32) (p3 : Int32) (p4 : Int32) (p5 : Int32) (b16 : Addr) : Array Slot := #[.val (.int p1), .val (.int p2), .val (.int p3), .val (.int p4), .val (.int p5), .val (.int (1 : Int32)), .val (.int (own_node p2)), .val (.int (own_node p3)), .val (.int (own_node p4)), .val (.int (own_node p5)), .val (.ref b16), .val (.int (1 : Int32)), .unset]
def lc0n1_8 (p1 : Int32) (p2 : Int32) (p3 : Int32) (p4 : Int32) (p5 : Int32) (b16 : Addr) (xI : Int32) : Array Slot := #[.val (.int p1), .val (.int p2), .val (.int p3), .val (.int p4), .val (.int p5), .val (.int (1 : Int32)), .val (.int (own_node p2)), .val (.int (own_node p3)), .val (.int (own_node p4)), .val (.int (own_node p5)), .val (.ref b16), .val (.int xI), .unset]
def lc0n1_9 (p1 : Int32) (p2 : Int32) (p3 : Int32) (p4 : Int32) (p5 : Int32) (b16 : Addr) : Array Slot := #[.val (.int p1), .val (.int p2), .val (.int p3), .val (.int p4), .val (.int p5), .val (.int (1 : Int32)), .val (.int (own_node p2)), .val (.int (own_node p3)), .val (.int (own_node p4)), .val (.int (own_node p5)), .val (.ref b16), .val (.int (if (own_node p2) = (-1 : Int32) then (1 : Int32) else (0 : Int32))), .unset]
def lc0n1_10 (p1 : Int32) (p2 : Int32) (p3 : Int32) (p4 : Int32) (p5 : Int32) (b16 : Addr) (b25 : Addr) : Array Slot := #[.val (.int p1), .val (.int p2), .val (.int p3), .val (.int p4), .val (.int p5), .val (.int (1 : Int32)), .val (.int (own_node p2)), .val (.int (own_node p3)), .val (.int (own_node p4)), .val (.int (own_node p5)), .val (.ref b16), .val (.int (if (own_node p2) = (-1 : Int32) then (1 : Int32) else (0 : Int32))), .val (.ref b25)]
def Q0n1 (Z : State) (p1 : Int32) (p2 : Int32) (p3 : Int32) (p4 : Int32) (p5 : Int32) (h0 : Heap) (n0 : Nat) (v : Option Value) (h : Heap) (L : List Loc) : Prop := v = some (.int (1 : Int32)) ∧ Fr n0 L
set_option maxRecDepth 65536 in
set_option maxHeartbeats 40000000 in
theorem rm0n1 (l : Launch) (Z : State) (a0 : Array Value) (hw : ∀ d ∈ tables_1, d.before a0 Z = true) (ws : List Jvm.Cond) (p1 : Int32) (p2 : Int32) (p3 : Int32) (p4 : Int32) (p5 : Int32) (h0 : Heap) (n0 : Nat) (Z0 : n0 ≤ h0.size) (ek : ((p1 &&& (2147483647 : Int32)) % (5 : Int32)) = (1 : Int32)) :
    MetFree l x (head1 (Jvm.Cond.code x code maxLocals ret :: ws) room_1) (fun aa U => aa = #[(.int p1), (.int p2), (.int p3), (.int p4), (.int p5)] ∧ Z.Warmed39 U.vm ∧ U.heap = h0) (fun _ _ _ _ _ => True) (fun _ U o U' => ∃ v L, o = .returned v ∧ Q0n1 Z p1 p2 p3 p4 p5 h0 n0 v U'.heap L ∧ FrameEnd U o U' L room_1.cells room_1.slots) := by
  refine MetFree.of_bodySF (plainFor_of_name pn_StripePlanRelocationsPinLaw) hisR ?_
  intro p e s m args below meth c s₁ Bd hml0 hP hK
  obtain ⟨rfl, hZ, hh⟩ := hP
  have hx := Bd.exec
  have hby := Bd.bytes
  have hml : c.maxLocals = 13 := hml0
  have hown : s.vm.findClass "com/example/rackstripe/rackstripe/StripePlanRelocationsPinLaw" = some m.cls := findClass_of_methodNamed Bd.named
  have hnm := (name_of_methodNamed Bd.named Bd.method).1
  have X0 : Stand p l e room_1 s m #[(.int p1), (.int p2), (.int p3), (.int p4), (.int p5)] below meth c s₁ [] 0 0 := Stand.of_body Bd
  have e0 : s₁.heap = h0 := by rw [← hh, Bd.state]; rfl
  have N0 := Fr.nil n0
  have hlk : meth.locks = false := by first | exact BodyLoose.notSynchronized Bd | exact Body.notSynchronized Bd
  have pre0 : ∀ t, Steps p.tables e below (s₁.setTop (mkF m 0 #[.val (.int p1), .val (.int p2), .val (.int p3), .val (.int p4), .val (.int p5), .unset, .unset, .unset, .unset, .unset, .unset, .unset, .unset] [])) t → Steps p.tables e below (s₁.setTop (entryFrame m #[(.int p1), (.int p2), (.int p3), (.int p4), (.int p5)] maxLocals)) t := fun t k => castTop (ef_0 m p1 p2 p3 p4 p5) k
  have pre1 : ∀ t, Steps p.tables e below (s₁.setTop (mkF m 6 #[.val (.int p1), .val (.int p2), .val (.int p3), .val (.int p4), .val (.int p5), .unset, .unset, .unset, .unset, .unset, .unset, .unset, .unset] [(.int ((p1 &&& (2147483647 : Int32)) % (5 : Int32)))])) t → Steps p.tables e below (s₁.setTop (entryFrame m #[(.int p1), (.int p2), (.int p3), (.int p4), (.int p5)] maxLocals)) t := fun t k => pre0 t (by
    show Steps p.tables e below (s₁.setTop (mkF m 0 #[.val (.int p1), .val (.int p2), .val (.int p3), .val (.int p4), .val (.int p5), .unset, .unset, .unset, .unset, .unset, .unset, .unset, .unset] [])) _
    refine XS.iloadN X0.here hx rfl (hb hby at_0) rfl ?_
    show Steps p.tables e below (s₁.setTop (mkF m 1 #[.val (.int p1), .val (.int p2), .val (.int p3), .val (.int p4), .val (.int p5), .unset, .unset, .unset, .unset, .unset, .unset, .unset, .unset] [(.int p1)])) _
    refine X0.ldcInt hx hown (mvT hZ (hw _ (List.mem_of_getElem? (i := 0) rfl))) (g := (mkF m 1 #[.val (.int p1), .val (.int p2), .val (.int p3), .val (.int p4), .val (.int p5), .unset, .unset, .unset, .unset, .unset, .unset, .unset, .unset] [(.int p1)])) rfl (hb hby at_1) _ ?_
    show Steps p.tables e below (s₁.setTop (mkF m 3 #[.val (.int p1), .val (.int p2), .val (.int p3), .val (.int p4), .val (.int p5), .unset, .unset, .unset, .unset, .unset, .unset, .unset, .unset] [(.int (2147483647 : Int32)), (.int p1)])) _
    refine XS.iand X0.here hx rfl (hb hby at_3) rfl ?_
    show Steps p.tables e below (s₁.setTop (mkF m 4 #[.val (.int p1), .val (.int p2), .val (.int p3), .val (.int p4), .val (.int p5), .unset, .unset, .unset, .unset, .unset, .unset, .unset, .unset] [(.int (p1 &&& (2147483647 : Int32)))])) _
    refine XS.iconst X0.here hx rfl (hb hby at_4) ?_
    show Steps p.tables e below (s₁.setTop (mkF m 5 #[.val (.int p1), .val (.int p2), .val (.int p3), .val (.int p4), .val (.int p5), .unset, .unset, .unset, .unset, .unset, .unset, .unset, .unset] [(.int (5 : Int32)), (.int (p1 &&& (2147483647 : Int32)))])) _
    refine iremM X0 hx rfl (hb hby at_5) rfl (by decide) ?_
    show Steps p.tables e below (s₁.setTop (mkF m 6 #[.val (.int p1), .val (.int p2), .val (.int p3), .val (.int p4), .val (.int p5), .unset, .unset, .unset, .unset, .unset, .unset, .unset, .unset] [(.int ((p1 &&& (2147483647 : Int32)) % (5 : Int32)))])) _
    exact k)
  have pre2 : ∀ t, Steps p.tables e below (s₁.setTop (mkF m 6 #[.val (.int p1), .val (.int p2), .val (.int p3), .val (.int p4), .val (.int p5), .unset, .unset, .unset, .unset, .unset, .unset, .unset, .unset] [(.int (1 : Int32))])) t → Steps p.tables e below (s₁.setTop (entryFrame m #[(.int p1), (.int p2), (.int p3), (.int p4), (.int p5)] maxLocals)) t := fun t k => pre1 t (by rw [ek]; exact k)
  have pre3 : ∀ t, Steps p.tables e below (s₁.setTop (mkF m 9 (lc0n1_0 p1 p2 p3 p4 p5) [(.int p2)])) t → Steps p.tables e below (s₁.setTop (entryFrame m #[(.int p1), (.int p2), (.int p3), (.int p4), (.int p5)] maxLocals)) t := fun t k => pre2 t (by
    show Steps p.tables e below (s₁.setTop (mkF m 6 #[.val (.int p1), .val (.int p2), .val (.int p3), .val (.int p4), .val (.int p5), .unset, .unset, .unset, .unset, .unset, .unset, .unset, .unset] [(.int (1 : Int32))])) _
    refine XS.istore X0.here hx rfl (hb hby at_6) rfl (l' := (lc0n1_0 p1 p2 p3 p4 p5)) rfl ?_
    show Steps p.tables e below (s₁.setTop (mkF m 8 (lc0n1_0 p1 p2 p3 p4 p5) [])) _
    refine XS.iloadN X0.here hx rfl (hb hby at_8) rfl ?_
    show Steps p.tables e below (s₁.setTop (mkF m 9 (lc0n1_0 p1 p2 p3 p4 p5) [(.int p2)])) _
    exact k)
  obtain ⟨_, _, ⟨T4, L4, k4, n4⟩, -, X4, ⟨Lc4, hQ4, l4, y4, z4⟩, st4⟩ := Jvm.LawKit.callS X0 hx (y := (⟨"com/example/rackstripe/rackstripe/StripePlanRelocationsPinLaw", "node", "(I)I"⟩ : MethodName)) hown (mvT hZ (hw _ (List.mem_of_getElem? (i := 1) rfl))) (mvT hZ (hw _ (List.mem_of_getElem? (i := 2) rfl))) (mvT hZ (hw _ (List.mem_of_getElem? (i := 3) rfl))) (mvT hZ (hw _ (List.mem_of_getElem? (i := 4) rfl))) (by decide) (backOf (W := 0) (rm1 l Z a0 hw [] p2 h0 n0 Z0) hZ (hw _ (List.mem_of_getElem? (i := 4) rfl)) (hw _ (List.mem_of_getElem? (i := 3) rfl)) (by decide) (by decide)) (g := (mkF m 9 (lc0n1_0 p1 p2 p3 p4 p5) [(.int p2)])) rfl (by rw [hml]; rfl) (argsL := [(.int p2)]) (rest := []) (lenOf pd_0 rfl) rfl (by show 2 * 0 + _ ≤ _; exact Nat.le_of_eq rfl) (hb hby at_9) (fun _ _ => ⟨rfl, e0, (by decide : 0 + 0 ≤ _), (by decide : 0 + 0 ≤ _)⟩)
  dsimp only [Pt.U, Pt.locs, Pt.cells, Pt.slots] at X4 l4 y4 z4 st4 hQ4
  subst l4 y4 z4
  obtain ⟨rfl, N4q, e4⟩ := hQ4
  have N4 := Fr.app N0 N4q
  have pre5 : ∀ t, Steps p.tables e below (T4.setTop (mkF m 12 (lc0n1_0 p1 p2 p3 p4 p5) [(.int (own_node p2))])) t → Steps p.tables e below (s₁.setTop (entryFrame m #[(.int p1), (.int p2), (.int p3), (.int p4), (.int p5)] maxLocals)) t := fun t k => pre3 t (st4 t k)
  have pre6 : ∀ t, Steps p.tables e below (T4.setTop (mkF m 15 (lc0n1_1 p1 p2 p3 p4 p5) [(.int p3)])) t → Steps p.tables e below (s₁.setTop (entryFrame m #[(.int p1), (.int p2), (.int p3), (.int p4), (.int p5)] maxLocals)) t := fun t k => pre5 t (by
    show Steps p.tables e below (T4.setTop (mkF m 12 (lc0n1_0 p1 p2 p3 p4 p5) [(.int (own_node p2))])) _
    refine XS.istore X4.here hx rfl (hb hby at_12) rfl (l' := (lc0n1_1 p1 p2 p3 p4 p5)) rfl ?_
    show Steps p.tables e below (T4.setTop (mkF m 14 (lc0n1_1 p1 p2 p3 p4 p5) [])) _
    refine XS.iloadN X4.here hx rfl (hb hby at_14) rfl ?_
    show Steps p.tables e below (T4.setTop (mkF m 15 (lc0n1_1 p1 p2 p3 p4 p5) [(.int p3)])) _
    exact k)
  obtain ⟨_, _, ⟨T7, L7, k7, n7⟩, -, X7, ⟨Lc7, hQ7, l7, y7, z7⟩, st7⟩ := Jvm.LawKit.callS X4 hx (y := (⟨"com/example/rackstripe/rackstripe/StripePlanRelocationsPinLaw", "node", "(I)I"⟩ : MethodName)) hown (mvT hZ (hw _ (List.mem_of_getElem? (i := 1) rfl))) (mvT hZ (hw _ (List.mem_of_getElem? (i := 2) rfl))) (mvT hZ (hw _ (List.mem_of_getElem? (i := 3) rfl))) (mvT hZ (hw _ (List.mem_of_getElem? (i := 4) rfl))) (by decide) (backOf (W := 0) (rm1 l Z a0 hw [] p3 h0 n0 Z0) hZ (hw _ (List.mem_of_getElem? (i := 4) rfl)) (hw _ (List.mem_of_getElem? (i := 3) rfl)) (by decide) (by decide)) (g := (mkF m 15 (lc0n1_1 p1 p2 p3 p4 p5) [(.int p3)])) rfl (by rw [hml]; rfl) (argsL := [(.int p3)]) (rest := []) (lenOf pd_0 rfl) rfl (by show 2 * 0 + _ ≤ _; exact Nat.le_of_eq rfl) (hb hby at_15) (fun _ _ => ⟨rfl, e4, (by decide : 0 + 0 ≤ _), (by decide : 0 + 0 ≤ _)⟩)
  dsimp only [Pt.U, Pt.locs, Pt.cells, Pt.slots] at X7 l7 y7 z7 st7 hQ7
  subst l7 y7 z7
  obtain ⟨rfl, N7q, e7⟩ := hQ7
  have N7 := Fr.app N4 N7q
  have pre8 : ∀ t, Steps p.tables e below (T7.setTop (mkF m 18 (lc0n1_1 p1 p2 p3 p4 p5) [(.int (own_node p3))])) t → Steps p.tables e below (s₁.setTop (entryFrame m #[(.int p1), (.int p2), (.int p3), (.int p4), (.int p5)] maxLocals)) t := fun t k => pre6 t (st7 t k)
  have pre9 : ∀ t, Steps p.tables e below (T7.setTop (mkF m 21 (lc0n1_2 p1 p2 p3 p4 p5) [(.int p4)])) t → Steps p.tables e below (s₁.setTop (entryFrame m #[(.int p1), (.int p2), (.int p3), (.int p4), (.int p5)] maxLocals)) t := fun t k => pre8 t (by
    show Steps p.tables e below (T7.setTop (mkF m 18 (lc0n1_1 p1 p2 p3 p4 p5) [(.int (own_node p3))])) _
    refine XS.istore X7.here hx rfl (hb hby at_18) rfl (l' := (lc0n1_2 p1 p2 p3 p4 p5)) rfl ?_
    show Steps p.tables e below (T7.setTop (mkF m 20 (lc0n1_2 p1 p2 p3 p4 p5) [])) _
    refine XS.iloadN X7.here hx rfl (hb hby at_20) rfl ?_
    show Steps p.tables e below (T7.setTop (mkF m 21 (lc0n1_2 p1 p2 p3 p4 p5) [(.int p4)])) _
    exact k)
  obtain ⟨_, _, ⟨T10, L10, k10, n10⟩, -, X10, ⟨Lc10, hQ10, l10, y10, z10⟩, st10⟩ := Jvm.LawKit.callS X7 hx (y := (⟨"com/example/rackstripe/rackstripe/StripePlanRelocationsPinLaw", "node", "(I)I"⟩ : MethodName)) hown (mvT hZ (hw _ (List.mem_of_getElem? (i := 1) rfl))) (mvT hZ (hw _ (List.mem_of_getElem? (i := 2) rfl))) (mvT hZ (hw _ (List.mem_of_getElem? (i := 3) rfl))) (mvT hZ (hw _ (List.mem_of_getElem? (i := 4) rfl))) (by decide) (backOf (W := 0) (rm1 l Z a0 hw [] p4 h0 n0 Z0) hZ (hw _ (List.mem_of_getElem? (i := 4) rfl)) (hw _ (List.mem_of_getElem? (i := 3) rfl)) (by decide) (by decide)) (g := (mkF m 21 (lc0n1_2 p1 p2 p3 p4 p5) [(.int p4)])) rfl (by rw [hml]; rfl) (argsL := [(.int p4)]) (rest := []) (lenOf pd_0 rfl) rfl (by show 2 * 0 + _ ≤ _; exact Nat.le_of_eq rfl) (hb hby at_21) (fun _ _ => ⟨rfl, e7, (by decide : 0 + 0 ≤ _), (by decide : 0 + 0 ≤ _)⟩)
  dsimp only [Pt.U, Pt.locs, Pt.cells, Pt.slots] at X10 l10 y10 z10 st10 hQ10
  subst l10 y10 z10
  obtain ⟨rfl, N10q, e10⟩ := hQ10
  have N10 := Fr.app N7 N10q
  have pre11 : ∀ t, Steps p.tables e below (T10.setTop (mkF m 24 (lc0n1_2 p1 p2 p3 p4 p5) [(.int (own_node p4))])) t → Steps p.tables e below (s₁.setTop (entryFrame m #[(.int p1), (.int p2), (.int p3), (.int p4), (.int p5)] maxLocals)) t := fun t k => pre9 t (st10 t k)
  have pre12 : ∀ t, Steps p.tables e below (T10.setTop (mkF m 28 (lc0n1_3 p1 p2 p3 p4 p5) [(.int p5)])) t → Steps p.tables e below (s₁.setTop (entryFrame m #[(.int p1), (.int p2), (.int p3), (.int p4), (.int p5)] maxLocals)) t := fun t k => pre11 t (by
    show Steps p.tables e below (T10.setTop (mkF m 24 (lc0n1_2 p1 p2 p3 p4 p5) [(.int (own_node p4))])) _
    refine XS.istore X10.here hx rfl (hb hby at_24) rfl (l' := (lc0n1_3 p1 p2 p3 p4 p5)) rfl ?_
    show Steps p.tables e below (T10.setTop (mkF m 26 (lc0n1_3 p1 p2 p3 p4 p5) [])) _
    refine XS.iload X10.here hx rfl (hb hby at_26) rfl ?_
    show Steps p.tables e below (T10.setTop (mkF m 28 (lc0n1_3 p1 p2 p3 p4 p5) [(.int p5)])) _
    exact k)
  obtain ⟨_, _, ⟨T13, L13, k13, n13⟩, -, X13, ⟨Lc13, hQ13, l13, y13, z13⟩, st13⟩ := Jvm.LawKit.callS X10 hx (y := (⟨"com/example/rackstripe/rackstripe/StripePlanRelocationsPinLaw", "node", "(I)I"⟩ : MethodName)) hown (mvT hZ (hw _ (List.mem_of_getElem? (i := 1) rfl))) (mvT hZ (hw _ (List.mem_of_getElem? (i := 2) rfl))) (mvT hZ (hw _ (List.mem_of_getElem? (i := 3) rfl))) (mvT hZ (hw _ (List.mem_of_getElem? (i := 4) rfl))) (by decide) (backOf (W := 0) (rm1 l Z a0 hw [] p5 h0 n0 Z0) hZ (hw _ (List.mem_of_getElem? (i := 4) rfl)) (hw _ (List.mem_of_getElem? (i := 3) rfl)) (by decide) (by decide)) (g := (mkF m 28 (lc0n1_3 p1 p2 p3 p4 p5) [(.int p5)])) rfl (by rw [hml]; rfl) (argsL := [(.int p5)]) (rest := []) (lenOf pd_0 rfl) rfl (by show 2 * 0 + _ ≤ _; exact Nat.le_of_eq rfl) (hb hby at_28) (fun _ _ => ⟨rfl, e10, (by decide : 0 + 0 ≤ _), (by decide : 0 + 0 ≤ _)⟩)
  dsimp only [Pt.U, Pt.locs, Pt.cells, Pt.slots] at X13 l13 y13 z13 st13 hQ13
  subst l13 y13 z13
  obtain ⟨rfl, N13q, e13⟩ := hQ13
  have N13 := Fr.app N10 N13q
  have pre14 : ∀ t, Steps p.tables e below (T13.setTop (mkF m 31 (lc0n1_3 p1 p2 p3 p4 p5) [(.int (own_node p5))])) t → Steps p.tables e below (s₁.setTop (entryFrame m #[(.int p1), (.int p2), (.int p3), (.int p4), (.int p5)] maxLocals)) t := fun t k => pre12 t (st13 t k)
  have pre15 : ∀ t, Steps p.tables e below (T13.setTop (mkF m 35 (lc0n1_4 p1 p2 p3 p4 p5) [(.int (1 : Int32))])) t → Steps p.tables e below (s₁.setTop (entryFrame m #[(.int p1), (.int p2), (.int p3), (.int p4), (.int p5)] maxLocals)) t := fun t k => pre14 t (by
    show Steps p.tables e below (T13.setTop (mkF m 31 (lc0n1_3 p1 p2 p3 p4 p5) [(.int (own_node p5))])) _
    refine XS.istore X13.here hx rfl (hb hby at_31) rfl (l' := (lc0n1_4 p1 p2 p3 p4 p5)) rfl ?_
    show Steps p.tables e below (T13.setTop (mkF m 33 (lc0n1_4 p1 p2 p3 p4 p5) [])) _
    refine XS.iload X13.here hx rfl (hb hby at_33) rfl ?_
    show Steps p.tables e below (T13.setTop (mkF m 35 (lc0n1_4 p1 p2 p3 p4 p5) [(.int (1 : Int32))])) _
    exact k)
  obtain ⟨T16, h16, k16, X16, e16, E16, A16, st16⟩ := newP X13 hx hZ (hw _ (List.mem_of_getElem? (i := 5) rfl)) e13 (g := (mkF m 35 (lc0n1_4 p1 p2 p3 p4 p5) [(.int (1 : Int32))])) rfl (hb hby at_35) rfl (by decide) (cap := 1) (by decide) (by decide) (by decide) (by decide)
  obtain ⟨b16, g16⟩ : ∃ z, z = h0.size := ⟨_, rfl⟩
  rw [← g16] at A16 st16
  have g_b16 : n0 ≤ b16 := Nat.le_trans Z0 (Nat.le_of_eq g16.symm)
  have Z16 : n0 ≤ h16.size := Nat.le_trans Z0 E16.1
  have A_b16 : own_A Z h16 b16 .int 1 (fun _ => (0 : Int32)) := own_A.new A16 rfl rfl
  have pre17 : ∀ t, Steps p.tables e below (T16.setTop (mkF m 37 (lc0n1_4 p1 p2 p3 p4 p5) [(.ref b16)])) t → Steps p.tables e below (s₁.setTop (entryFrame m #[(.int p1), (.int p2), (.int p3), (.int p4), (.int p5)] maxLocals)) t := fun t k => pre15 t (st16 t k)
  have pre18 : ∀ t, Steps p.tables e below (T16.setTop (mkF m 49 (lc0n1_5 p1 p2 p3 p4 p5 b16) [(.int (own_node p2)), (.int (0 : Int32)), (.ref b16)])) t → Steps p.tables e below (s₁.setTop (entryFrame m #[(.int p1), (.int p2), (.int p3), (.int p4), (.int p5)] maxLocals)) t := fun t k => pre17 t (by
    show Steps p.tables e below (T16.setTop (mkF m 37 (lc0n1_4 p1 p2 p3 p4 p5) [(.ref b16)])) _
    refine XS.astore X16.here hx rfl (hb hby at_37) rfl rfl (l' := (lc0n1_5 p1 p2 p3 p4 p5 b16)) rfl ?_
    show Steps p.tables e below (T16.setTop (mkF m 39 (lc0n1_5 p1 p2 p3 p4 p5 b16) [])) _
    refine XS.iload X16.here hx rfl (hb hby at_39) rfl ?_
    show Steps p.tables e below (T16.setTop (mkF m 41 (lc0n1_5 p1 p2 p3 p4 p5 b16) [(.int (1 : Int32))])) _
    refine XS.ifNo X16.here hx rfl (hb hby at_41) rfl ((if0 _ _).trans (tlt (by decide)).2.2.2) ?_
    show Steps p.tables e below (T16.setTop (mkF m 44 (lc0n1_5 p1 p2 p3 p4 p5 b16) [])) _
    refine XS.aload X16.here hx rfl (hb hby at_44) rfl rfl ?_
    show Steps p.tables e below (T16.setTop (mkF m 46 (lc0n1_5 p1 p2 p3 p4 p5 b16) [(.ref b16)])) _
    refine XS.iconst X16.here hx rfl (hb hby at_46) ?_
    show Steps p.tables e below (T16.setTop (mkF m 47 (lc0n1_5 p1 p2 p3 p4 p5 b16) [(.int (0 : Int32)), (.ref b16)])) _
    refine XS.iload X16.here hx rfl (hb hby at_47) rfl ?_
    show Steps p.tables e below (T16.setTop (mkF m 49 (lc0n1_5 p1 p2 p3 p4 p5 b16) [(.int (own_node p2)), (.int (0 : Int32)), (.ref b16)])) _
    exact k)
  obtain ⟨cl19, Ar19, Sz19, Hf19⟩ := A_b16
  obtain ⟨T19, h19, X19, e19, W19, st19⟩ := stI X16 hx hZ e16 Ar19 (j := (0 : Int32)) (own_inb Sz19 ⟨by decide, by decide⟩) (g := (mkF m 49 (lc0n1_5 p1 p2 p3 p4 p5 b16) [(.int (own_node p2)), (.int (0 : Int32)), (.ref b16)])) rfl rfl (hb hby at_49)
  have A_b16 : own_A Z h19 b16 .int 1 (own_put (fun _ => (0 : Int32)) 0 (own_node p2)) := own_A.set Ar19 Sz19 Hf19 W19
  have Z19 : n0 ≤ h19.size := Nat.le_trans Z16 (Keep.of_wr W19).1
  have N19 := Fr.snoc X19 N13 g_b16
  have pre20 : ∀ t, Steps p.tables e below (T19.setTop (mkF m 50 (lc0n1_5 p1 p2 p3 p4 p5 b16) [])) t → Steps p.tables e below (s₁.setTop (entryFrame m #[(.int p1), (.int p2), (.int p3), (.int p4), (.int p5)] maxLocals)) t := fun t k => pre18 t (st19 t k)
  have pre21 : ∀ t, Steps p.tables e below (T19.setTop (mkF m 97 (lc0n1_6 p1 p2 p3 p4 p5 b16) [(.int (-1 : Int32)), (.int (own_node p2))])) t → Steps p.tables e below (s₁.setTop (entryFrame m #[(.int p1), (.int p2), (.int p3), (.int p4), (.int p5)] maxLocals)) t := fun t k => pre20 t (by
    show Steps p.tables e below (T19.setTop (mkF m 50 (lc0n1_5 p1 p2 p3 p4 p5 b16) [])) _
    refine XS.iload X19.here hx rfl (hb hby at_50) rfl ?_
    show Steps p.tables e below (T19.setTop (mkF m 52 (lc0n1_5 p1 p2 p3 p4 p5 b16) [(.int (1 : Int32))])) _
    refine XS.iconst X19.here hx rfl (hb hby at_52) ?_
    show Steps p.tables e below (T19.setTop (mkF m 53 (lc0n1_5 p1 p2 p3 p4 p5 b16) [(.int (1 : Int32)), (.int (1 : Int32))])) _
    refine XS.icmpYes X19.here hx rfl (pc0 := 53) (pc' := 62) rfl (hb hby at_53) rfl (flt (by decide)).2.2.2 (by decide) (by decide) ?_
    show Steps p.tables e below (T19.setTop (mkF m 62 (lc0n1_5 p1 p2 p3 p4 p5 b16) [])) _
    refine XS.iload X19.here hx rfl (hb hby at_62) rfl ?_
    show Steps p.tables e below (T19.setTop (mkF m 64 (lc0n1_5 p1 p2 p3 p4 p5 b16) [(.int (1 : Int32))])) _
    refine XS.iconst X19.here hx rfl (hb hby at_64) ?_
    show Steps p.tables e below (T19.setTop (mkF m 65 (lc0n1_5 p1 p2 p3 p4 p5 b16) [(.int (2 : Int32)), (.int (1 : Int32))])) _
    refine XS.icmpYes X19.here hx rfl (pc0 := 65) (pc' := 74) rfl (hb hby at_65) rfl (flt (by decide)).2.2.2 (by decide) (by decide) ?_
    show Steps p.tables e below (T19.setTop (mkF m 74 (lc0n1_5 p1 p2 p3 p4 p5 b16) [])) _
    refine XS.iload X19.here hx rfl (hb hby at_74) rfl ?_
    show Steps p.tables e below (T19.setTop (mkF m 76 (lc0n1_5 p1 p2 p3 p4 p5 b16) [(.int (1 : Int32))])) _
    refine XS.iconst X19.here hx rfl (hb hby at_76) ?_
    show Steps p.tables e below (T19.setTop (mkF m 77 (lc0n1_5 p1 p2 p3 p4 p5 b16) [(.int (3 : Int32)), (.int (1 : Int32))])) _
    refine XS.icmpYes X19.here hx rfl (pc0 := 77) (pc' := 86) rfl (hb hby at_77) rfl (flt (by decide)).2.2.2 (by decide) (by decide) ?_
    show Steps p.tables e below (T19.setTop (mkF m 86 (lc0n1_5 p1 p2 p3 p4 p5 b16) [])) _
    refine XS.iconst X19.here hx rfl (hb hby at_86) ?_
    show Steps p.tables e below (T19.setTop (mkF m 87 (lc0n1_5 p1 p2 p3 p4 p5 b16) [(.int (0 : Int32))])) _
    refine XS.istore X19.here hx rfl (hb hby at_87) rfl (l' := (lc0n1_6 p1 p2 p3 p4 p5 b16)) rfl ?_
    show Steps p.tables e below (T19.setTop (mkF m 89 (lc0n1_6 p1 p2 p3 p4 p5 b16) [])) _
    refine XS.iload X19.here hx rfl (hb hby at_89) rfl ?_
    show Steps p.tables e below (T19.setTop (mkF m 91 (lc0n1_6 p1 p2 p3 p4 p5 b16) [(.int (1 : Int32))])) _
    refine XS.ifNo X19.here hx rfl (hb hby at_91) rfl ((if0 _ _).trans (tlt (by decide)).2.2.2) ?_
    show Steps p.tables e below (T19.setTop (mkF m 94 (lc0n1_6 p1 p2 p3 p4 p5 b16) [])) _
    refine XS.iload X19.here hx rfl (hb hby at_94) rfl ?_
    show Steps p.tables e below (T19.setTop (mkF m 96 (lc0n1_6 p1 p2 p3 p4 p5 b16) [(.int (own_node p2))])) _
    refine XS.iconst X19.here hx rfl (hb hby at_96) ?_
    show Steps p.tables e below (T19.setTop (mkF m 97 (lc0n1_6 p1 p2 p3 p4 p5 b16) [(.int (-1 : Int32)), (.int (own_node p2))])) _
    exact k)
  have pre23 : ∀ t, Steps p.tables e below (T19.setTop (mkF m 106 (lc0n1_9 p1 p2 p3 p4 p5 b16) [])) t → Steps p.tables e below (s₁.setTop (entryFrame m #[(.int p1), (.int p2), (.int p3), (.int p4), (.int p5)] maxLocals)) t := fun t k => pre21 t (by
    show Steps p.tables e below (T19.setTop (mkF m 97 (lc0n1_6 p1 p2 p3 p4 p5 b16) [(.int (-1 : Int32)), (.int (own_node p2))])) _
    by_cases hm97_22 : (own_node p2) = (-1 : Int32)
    · refine XS.icmpNo X19.here hx rfl (hb hby at_97) rfl (teq hm97_22).2 ?_
      show Steps p.tables e below (T19.setTop (mkF m 100 (lc0n1_6 p1 p2 p3 p4 p5 b16) [])) _
      refine XS.iload X19.here hx rfl (hb hby at_100) rfl ?_
      show Steps p.tables e below (T19.setTop (mkF m 102 (lc0n1_6 p1 p2 p3 p4 p5 b16) [(.int (0 : Int32))])) _
      refine XS.iconst X19.here hx rfl (hb hby at_102) ?_
      show Steps p.tables e below (T19.setTop (mkF m 103 (lc0n1_6 p1 p2 p3 p4 p5 b16) [(.int (1 : Int32)), (.int (0 : Int32))])) _
      refine XS.iadd X19.here hx rfl (hb hby at_103) rfl ?_
      show Steps p.tables e below (T19.setTop (mkF m 104 (lc0n1_6 p1 p2 p3 p4 p5 b16) [(.int (1 : Int32))])) _
      refine XS.istore X19.here hx rfl (hb hby at_104) rfl (l' := (lc0n1_7 p1 p2 p3 p4 p5 b16)) rfl ?_
      show Steps p.tables e below (T19.setTop (mkF m 106 (lc0n1_7 p1 p2 p3 p4 p5 b16) [])) _
      have q : (if (own_node p2) = (-1 : Int32) then (1 : Int32) else (0 : Int32)) = (1 : Int32) := by simp only [if_pos hm97_22]
      exact Eq.subst (motive := fun xI => Steps p.tables e below (T19.setTop (mkF m 106 (lc0n1_8 p1 p2 p3 p4 p5 b16 xI) [])) t) q k
    · refine XS.icmpYes X19.here hx rfl (pc0 := 97) (pc' := 106) rfl (hb hby at_97) rfl (feq hm97_22).2 (by decide) (by decide) ?_
      show Steps p.tables e below (T19.setTop (mkF m 106 (lc0n1_6 p1 p2 p3 p4 p5 b16) [])) _
      have q : (if (own_node p2) = (-1 : Int32) then (1 : Int32) else (0 : Int32)) = (0 : Int32) := by simp only [if_neg hm97_22]
      exact Eq.subst (motive := fun xI => Steps p.tables e below (T19.setTop (mkF m 106 (lc0n1_8 p1 p2 p3 p4 p5 b16 xI) [])) t) q k)
  have pre24 : ∀ t, Steps p.tables e below (T19.setTop (mkF m 160 (lc0n1_9 p1 p2 p3 p4 p5 b16) [])) t → Steps p.tables e below (s₁.setTop (entryFrame m #[(.int p1), (.int p2), (.int p3), (.int p4), (.int p5)] maxLocals)) t := fun t k => pre23 t (by
    show Steps p.tables e below (T19.setTop (mkF m 106 (lc0n1_9 p1 p2 p3 p4 p5 b16) [])) _
    refine XS.iload X19.here hx rfl (hb hby at_106) rfl ?_
    show Steps p.tables e below (T19.setTop (mkF m 108 (lc0n1_9 p1 p2 p3 p4 p5 b16) [(.int (1 : Int32))])) _
    refine XS.iconst X19.here hx rfl (hb hby at_108) ?_
    show Steps p.tables e below (T19.setTop (mkF m 109 (lc0n1_9 p1 p2 p3 p4 p5 b16) [(.int (1 : Int32)), (.int (1 : Int32))])) _
    refine XS.icmpYes X19.here hx rfl (pc0 := 109) (pc' := 124) rfl (hb hby at_109) rfl (flt (by decide)).2.2.2 (by decide) (by decide) ?_
    show Steps p.tables e below (T19.setTop (mkF m 124 (lc0n1_9 p1 p2 p3 p4 p5 b16) [])) _
    refine XS.iload X19.here hx rfl (hb hby at_124) rfl ?_
    show Steps p.tables e below (T19.setTop (mkF m 126 (lc0n1_9 p1 p2 p3 p4 p5 b16) [(.int (1 : Int32))])) _
    refine XS.iconst X19.here hx rfl (hb hby at_126) ?_
    show Steps p.tables e below (T19.setTop (mkF m 127 (lc0n1_9 p1 p2 p3 p4 p5 b16) [(.int (2 : Int32)), (.int (1 : Int32))])) _
    refine XS.icmpYes X19.here hx rfl (pc0 := 127) (pc' := 142) rfl (hb hby at_127) rfl (flt (by decide)).2.2.2 (by decide) (by decide) ?_
    show Steps p.tables e below (T19.setTop (mkF m 142 (lc0n1_9 p1 p2 p3 p4 p5 b16) [])) _
    refine XS.iload X19.here hx rfl (hb hby at_142) rfl ?_
    show Steps p.tables e below (T19.setTop (mkF m 144 (lc0n1_9 p1 p2 p3 p4 p5 b16) [(.int (1 : Int32))])) _
    refine XS.iconst X19.here hx rfl (hb hby at_144) ?_
    show Steps p.tables e below (T19.setTop (mkF m 145 (lc0n1_9 p1 p2 p3 p4 p5 b16) [(.int (3 : Int32)), (.int (1 : Int32))])) _
    refine XS.icmpYes X19.here hx rfl (pc0 := 145) (pc' := 160) rfl (hb hby at_145) rfl (flt (by decide)).2.2.2 (by decide) (by decide) ?_
    show Steps p.tables e below (T19.setTop (mkF m 160 (lc0n1_9 p1 p2 p3 p4 p5 b16) [])) _
    exact k)
  obtain ⟨T25, h25, X25, e25, E25, A25, D25, -, st25⟩ := newO X19 hx hZ hown (hw _ (List.mem_of_getElem? (i := 6) rfl)) (hw _ (List.mem_of_getElem? (i := 7) rfl)) (hw _ (List.mem_of_getElem? (i := 8) rfl)) e19 (g := (mkF m 160 (lc0n1_9 p1 p2 p3 p4 p5 b16) [])) rfl (hb hby at_160) (by decide) (by decide)
  obtain ⟨b25, g25⟩ : ∃ z, z = h19.size := ⟨_, rfl⟩
  rw [← g25] at A25 D25 st25
  have g_b25 : n0 ≤ b25 := Nat.le_trans Z19 (Nat.le_of_eq g25.symm)
  have ne_b16_b25 : b16 ≠ b25 := Nat.ne_of_lt (Nat.lt_of_lt_of_le A_b16.lt (Nat.le_of_eq g25.symm))
  have A_b16 := A_b16.ext E25
  have Z25 : n0 ≤ h25.size := Nat.le_trans Z19 E25.1
  have E_b25 := A25
  have F_b25_encoder : Fld Z h25 b25 "com/example/rackstripe/rackstripe/StripePlan" "encoder" "I" (.int (0 : Int32)) := D25 (Or.inr (hw _ (List.mem_of_getElem? (i := 16) rfl))) (ty := .int) (by decide)
  have F_b25_sources : Fld Z h25 b25 "com/example/rackstripe/rackstripe/StripePlan" "sources" "[I" .null := D25 (Or.inr (hw _ (List.mem_of_getElem? (i := 18) rfl))) (ty := (.array .int)) (by decide)
  have F_b25_crossRackDownloads : Fld Z h25 b25 "com/example/rackstripe/rackstripe/StripePlan" "crossRackDownloads" "I" (.int (0 : Int32)) := D25 (Or.inr (hw _ (List.mem_of_getElem? (i := 20) rfl))) (ty := .int) (by decide)
  have F_b25_intraRackDownloads : Fld Z h25 b25 "com/example/rackstripe/rackstripe/StripePlan" "intraRackDownloads" "I" (.int (0 : Int32)) := D25 (Or.inr (hw _ (List.mem_of_getElem? (i := 22) rfl))) (ty := .int) (by decide)
  have F_b25_kept : Fld Z h25 b25 "com/example/rackstripe/rackstripe/StripePlan" "kept" "[I" .null := D25 (Or.inr (hw _ (List.mem_of_getElem? (i := 24) rfl))) (ty := (.array .int)) (by decide)
  have F_b25_parity : Fld Z h25 b25 "com/example/rackstripe/rackstripe/StripePlan" "parity" "[I" .null := D25 (Or.inr (hw _ (List.mem_of_getElem? (i := 26) rfl))) (ty := (.array .int)) (by decide)
  have F_b25_parityUnplaced : Fld Z h25 b25 "com/example/rackstripe/rackstripe/StripePlan" "parityUnplaced" "I" (.int (0 : Int32)) := D25 (Or.inr (hw _ (List.mem_of_getElem? (i := 28) rfl))) (ty := .int) (by decide)
  have pre26 : ∀ t, Steps p.tables e below (T25.setTop (mkF m 163 (lc0n1_9 p1 p2 p3 p4 p5 b16) [(.ref b25)])) t → Steps p.tables e below (s₁.setTop (entryFrame m #[(.int p1), (.int p2), (.int p3), (.int p4), (.int p5)] maxLocals)) t := fun t k => pre24 t (st25 t k)
  have pre27 : ∀ t, Steps p.tables e below (T25.setTop (mkF m 166 (lc0n1_9 p1 p2 p3 p4 p5 b16) [(.int (0 : Int32)), (.int (0 : Int32)), (.ref b25), (.ref b25)])) t → Steps p.tables e below (s₁.setTop (entryFrame m #[(.int p1), (.int p2), (.int p3), (.int p4), (.int p5)] maxLocals)) t := fun t k => pre26 t (by
    show Steps p.tables e below (T25.setTop (mkF m 163 (lc0n1_9 p1 p2 p3 p4 p5 b16) [(.ref b25)])) _
    refine XS.dup X25.here hx rfl (hb hby at_163) rfl rfl ?_
    show Steps p.tables e below (T25.setTop (mkF m 164 (lc0n1_9 p1 p2 p3 p4 p5 b16) [(.ref b25), (.ref b25)])) _
    refine XS.iconst X25.here hx rfl (hb hby at_164) ?_
    show Steps p.tables e below (T25.setTop (mkF m 165 (lc0n1_9 p1 p2 p3 p4 p5 b16) [(.int (0 : Int32)), (.ref b25), (.ref b25)])) _
    refine XS.iconst X25.here hx rfl (hb hby at_165) ?_
    show Steps p.tables e below (T25.setTop (mkF m 166 (lc0n1_9 p1 p2 p3 p4 p5 b16) [(.int (0 : Int32)), (.int (0 : Int32)), (.ref b25), (.ref b25)])) _
    exact k)
  obtain ⟨T28, h28, k28, X28, e28, E28, A28, st28⟩ := newP X25 hx hZ (hw _ (List.mem_of_getElem? (i := 5) rfl)) e25 (g := (mkF m 166 (lc0n1_9 p1 p2 p3 p4 p5 b16) [(.int (0 : Int32)), (.int (0 : Int32)), (.ref b25), (.ref b25)])) rfl (hb hby at_166) rfl (by decide) (cap := 0) (by decide) (by decide) (by decide) (by decide)
  obtain ⟨b28, g28⟩ : ∃ z, z = h25.size := ⟨_, rfl⟩
  rw [← g28] at A28 st28
  have g_b28 : n0 ≤ b28 := Nat.le_trans Z25 (Nat.le_of_eq g28.symm)
  have ne_b16_b28 : b16 ≠ b28 := Nat.ne_of_lt (Nat.lt_of_lt_of_le A_b16.lt (Nat.le_of_eq g28.symm))
  have ne_b25_b28 : b25 ≠ b28 := Nat.ne_of_lt (Nat.lt_of_lt_of_le E_b25.lt (Nat.le_of_eq g28.symm))
  have A_b16 := A_b16.ext E28
  have E_b25 := E_b25.ext E28
  have F_b25_encoder := F_b25_encoder.ext E28
  have F_b25_sources := F_b25_sources.ext E28
  have F_b25_crossRackDownloads := F_b25_crossRackDownloads.ext E28
  have F_b25_intraRackDownloads := F_b25_intraRackDownloads.ext E28
  have F_b25_kept := F_b25_kept.ext E28
  have F_b25_parity := F_b25_parity.ext E28
  have F_b25_parityUnplaced := F_b25_parityUnplaced.ext E28
  have Z28 : n0 ≤ h28.size := Nat.le_trans Z25 E28.1
  have A_b28 : own_A Z h28 b28 .int 0 (fun _ => (0 : Int32)) := own_A.new A28 rfl rfl
  have pre29 : ∀ t, Steps p.tables e below (T28.setTop (mkF m 168 (lc0n1_9 p1 p2 p3 p4 p5 b16) [(.ref b28), (.int (0 : Int32)), (.ref b25), (.ref b25)])) t → Steps p.tables e below (s₁.setTop (entryFrame m #[(.int p1), (.int p2), (.int p3), (.int p4), (.int p5)] maxLocals)) t := fun t k => pre27 t (st28 t k)
  have pre30 : ∀ t, Steps p.tables e below (T28.setTop (mkF m 173 (lc0n1_9 p1 p2 p3 p4 p5 b16) [(.int (0 : Int32)), (.ref b16), (.int (0 : Int32)), (.int (0 : Int32)), (.ref b28), (.int (0 : Int32)), (.ref b25), (.ref b25)])) t → Steps p.tables e below (s₁.setTop (entryFrame m #[(.int p1), (.int p2), (.int p3), (.int p4), (.int p5)] maxLocals)) t := fun t k => pre29 t (by
    show Steps p.tables e below (T28.setTop (mkF m 168 (lc0n1_9 p1 p2 p3 p4 p5 b16) [(.ref b28), (.int (0 : Int32)), (.ref b25), (.ref b25)])) _
    refine XS.iconst X28.here hx rfl (hb hby at_168) ?_
    show Steps p.tables e below (T28.setTop (mkF m 169 (lc0n1_9 p1 p2 p3 p4 p5 b16) [(.int (0 : Int32)), (.ref b28), (.int (0 : Int32)), (.ref b25), (.ref b25)])) _
    refine XS.iconst X28.here hx rfl (hb hby at_169) ?_
    show Steps p.tables e below (T28.setTop (mkF m 170 (lc0n1_9 p1 p2 p3 p4 p5 b16) [(.int (0 : Int32)), (.int (0 : Int32)), (.ref b28), (.int (0 : Int32)), (.ref b25), (.ref b25)])) _
    refine XS.aload X28.here hx rfl (hb hby at_170) rfl rfl ?_
    show Steps p.tables e below (T28.setTop (mkF m 172 (lc0n1_9 p1 p2 p3 p4 p5 b16) [(.ref b16), (.int (0 : Int32)), (.int (0 : Int32)), (.ref b28), (.int (0 : Int32)), (.ref b25), (.ref b25)])) _
    refine XS.iconst X28.here hx rfl (hb hby at_172) ?_
    show Steps p.tables e below (T28.setTop (mkF m 173 (lc0n1_9 p1 p2 p3 p4 p5 b16) [(.int (0 : Int32)), (.ref b16), (.int (0 : Int32)), (.int (0 : Int32)), (.ref b28), (.int (0 : Int32)), (.ref b25), (.ref b25)])) _
    exact k)
  obtain ⟨T31, h31, k31, X31, e31, E31, A31, st31⟩ := newP X28 hx hZ (hw _ (List.mem_of_getElem? (i := 5) rfl)) e28 (g := (mkF m 173 (lc0n1_9 p1 p2 p3 p4 p5 b16) [(.int (0 : Int32)), (.ref b16), (.int (0 : Int32)), (.int (0 : Int32)), (.ref b28), (.int (0 : Int32)), (.ref b25), (.ref b25)])) rfl (hb hby at_173) rfl (by decide) (cap := 0) (by decide) (by decide) (by decide) (by decide)
  obtain ⟨b31, g31⟩ : ∃ z, z = h28.size := ⟨_, rfl⟩
  rw [← g31] at A31 st31
  have g_b31 : n0 ≤ b31 := Nat.le_trans Z28 (Nat.le_of_eq g31.symm)
  have ne_b16_b31 : b16 ≠ b31 := Nat.ne_of_lt (Nat.lt_of_lt_of_le A_b16.lt (Nat.le_of_eq g31.symm))
  have ne_b25_b31 : b25 ≠ b31 := Nat.ne_of_lt (Nat.lt_of_lt_of_le E_b25.lt (Nat.le_of_eq g31.symm))
  have ne_b28_b31 : b28 ≠ b31 := Nat.ne_of_lt (Nat.lt_of_lt_of_le A_b28.lt (Nat.le_of_eq g31.symm))
  have A_b16 := A_b16.ext E31
  have E_b25 := E_b25.ext E31
  have F_b25_encoder := F_b25_encoder.ext E31
  have F_b25_sources := F_b25_sources.ext E31
  have F_b25_crossRackDownloads := F_b25_crossRackDownloads.ext E31
  have F_b25_intraRackDownloads := F_b25_intraRackDownloads.ext E31
  have F_b25_kept := F_b25_kept.ext E31
  have F_b25_parity := F_b25_parity.ext E31
  have F_b25_parityUnplaced := F_b25_parityUnplaced.ext E31
  have A_b28 := A_b28.ext E31
  have Z31 : n0 ≤ h31.size := Nat.le_trans Z28 E31.1
  have A_b31 : own_A Z h31 b31 .int 0 (fun _ => (0 : Int32)) := own_A.new A31 rfl rfl
  have pre32 : ∀ t, Steps p.tables e below (T31.setTop (mkF m 175 (lc0n1_9 p1 p2 p3 p4 p5 b16) [(.ref b31), (.ref b16), (.int (0 : Int32)), (.int (0 : Int32)), (.ref b28), (.int (0 : Int32)), (.ref b25), (.ref b25)])) t → Steps p.tables e below (s₁.setTop (entryFrame m #[(.int p1), (.int p2), (.int p3), (.int p4), (.int p5)] maxLocals)) t := fun t k => pre30 t (st31 t k)
  have pre33 : ∀ t, Steps p.tables e below (T31.setTop (mkF m 176 (lc0n1_9 p1 p2 p3 p4 p5 b16) [(.int (0 : Int32)), (.ref b31), (.ref b16), (.int (0 : Int32)), (.int (0 : Int32)), (.ref b28), (.int (0 : Int32)), (.ref b25), (.ref b25)])) t → Steps p.tables e below (s₁.setTop (entryFrame m #[(.int p1), (.int p2), (.int p3), (.int p4), (.int p5)] maxLocals)) t := fun t k => pre32 t (by
    show Steps p.tables e below (T31.setTop (mkF m 175 (lc0n1_9 p1 p2 p3 p4 p5 b16) [(.ref b31), (.ref b16), (.int (0 : Int32)), (.int (0 : Int32)), (.ref b28), (.int (0 : Int32)), (.ref b25), (.ref b25)])) _
    refine XS.iconst X31.here hx rfl (hb hby at_175) ?_
    show Steps p.tables e below (T31.setTop (mkF m 176 (lc0n1_9 p1 p2 p3 p4 p5 b16) [(.int (0 : Int32)), (.ref b31), (.ref b16), (.int (0 : Int32)), (.int (0 : Int32)), (.ref b28), (.int (0 : Int32)), (.ref b25), (.ref b25)])) _
    exact k)
  obtain ⟨_, _, ⟨T34, L34, k34, n34⟩, -, X34, ⟨Lc34, hQ34, l34, y34, z34⟩, st34⟩ := X31.specialBack hx (y := (⟨"com/example/rackstripe/rackstripe/StripePlan", "<init>", "(I[III[I[II)V"⟩ : MethodName)) rfl hown (mvT hZ (hw _ (List.mem_of_getElem? (i := 9) rfl))) (mvT hZ (hw _ (List.mem_of_getElem? (i := 10) rfl))) (mvT hZ (hw _ (List.mem_of_getElem? (i := 11) rfl))) (by decide) (backOf (W := 1) (rm2 l Z a0 hw [] b25 (0 : Int32) b28 (0 : Int32) (0 : Int32) b16 b31 (0 : Int32) h31 n0 Z31 E_b25 F_b25_encoder F_b25_sources F_b25_crossRackDownloads F_b25_intraRackDownloads F_b25_kept F_b25_parity F_b25_parityUnplaced g_b25) hZ (hw _ (List.mem_of_getElem? (i := 11) rfl)) (hw _ (List.mem_of_getElem? (i := 8) rfl)) (by decide) (by decide)) (g := (mkF m 176 (lc0n1_9 p1 p2 p3 p4 p5 b16) [(.int (0 : Int32)), (.ref b31), (.ref b16), (.int (0 : Int32)), (.int (0 : Int32)), (.ref b28), (.int (0 : Int32)), (.ref b25), (.ref b25)])) rfl (by rw [hml]; rfl) (Steps.refl _) (a := b25) (argsL := [(.int (0 : Int32)), (.ref b28), (.int (0 : Int32)), (.int (0 : Int32)), (.ref b16), (.ref b31), (.int (0 : Int32))]) (rest := [(.ref b25)]) (lenOf pd_1 rfl) rfl (by show 2 * 0 + _ ≤ _; exact Nat.le_of_eq rfl) (hb hby at_176) (fun _ _ => ⟨rfl, e31, (by decide : 4 + 0 ≤ _), (by decide : 8 + 0 ≤ _)⟩)
  dsimp only [Pt.U, Pt.locs, Pt.cells, Pt.slots] at X34 l34 y34 z34 st34 hQ34
  subst l34 y34 z34
  obtain ⟨rfl, N34q, K34, q34_0⟩ := hQ34
  have A_b16 := A_b16.keep K34 (ninS ne_b16_b25 nin0)
  have E_b25 := E_b25.keep K34
  have A_b28 := A_b28.keep K34 (ninS (Ne.symm ne_b25_b28) nin0)
  have A_b31 := A_b31.keep K34 (ninS (Ne.symm ne_b25_b31) nin0)
  have Z34 : n0 ≤ T34.heap.size := Nat.le_trans Z31 K34.1
  have F_b25_kept := q34_0
  have N34 := Fr.app N19 N34q
  have pre35 : ∀ t, Steps p.tables e below (T34.setTop (mkF m 179 (lc0n1_9 p1 p2 p3 p4 p5 b16) [(.ref b25)])) t → Steps p.tables e below (s₁.setTop (entryFrame m #[(.int p1), (.int p2), (.int p3), (.int p4), (.int p5)] maxLocals)) t := fun t k => pre33 t (st34.trans k)
  have pre36 : ∀ t, Steps p.tables e below (T34.setTop (mkF m 183 (lc0n1_10 p1 p2 p3 p4 p5 b16 b25) [(.ref b25)])) t → Steps p.tables e below (s₁.setTop (entryFrame m #[(.int p1), (.int p2), (.int p3), (.int p4), (.int p5)] maxLocals)) t := fun t k => pre35 t (by
    show Steps p.tables e below (T34.setTop (mkF m 179 (lc0n1_9 p1 p2 p3 p4 p5 b16) [(.ref b25)])) _
    refine XS.astore X34.here hx rfl (hb hby at_179) rfl rfl (l' := (lc0n1_10 p1 p2 p3 p4 p5 b16 b25)) rfl ?_
    show Steps p.tables e below (T34.setTop (mkF m 181 (lc0n1_10 p1 p2 p3 p4 p5 b16 b25) [])) _
    refine XS.aload X34.here hx rfl (hb hby at_181) rfl rfl ?_
    show Steps p.tables e below (T34.setTop (mkF m 183 (lc0n1_10 p1 p2 p3 p4 p5 b16 b25) [(.ref b25)])) _
    exact k)
  have A_b16 : own_A Z T34.heap b16 .int 1 (own_vec (own_node p2) (own_node p3) (own_node p4) (own_node p5)) := own_A.congr A_b16 (by
    intro i hi
    rcases i with _ | _ | _ | _ | i
    all_goals first | omega | simp [own_put, own_vec])
  obtain ⟨cq37, kq37, q37a, q37b, q37c⟩ := isOf hZ rfl E_b25
  obtain ⟨_, _, ⟨T37, L37, k37, n37⟩, -, X37, ⟨Lc37, hQ37, l37, y37, z37⟩, st37⟩ := X34.virtualBack hx (y := (⟨"com/example/rackstripe/rackstripe/StripePlan", "relocations", "()I"⟩ : MethodName)) (z := (⟨"com/example/rackstripe/rackstripe/StripePlan", "relocations", "()I"⟩ : MethodName)) hown (mvT hZ (hw _ (List.mem_of_getElem? (i := 29) rfl))) (mvT hZ (hw _ (List.mem_of_getElem? (i := 30) rfl))) (notFace_of_selects (args := #[]) (mvT hZ (hw _ (List.mem_of_getElem? (i := 32) rfl)))) (mvT hZ (hw _ (List.mem_of_getElem? (i := 32) rfl))) (mvT hZ (hw _ (List.mem_of_getElem? (i := 31) rfl))) (by decide) (backOf (W := 0) (rmR1 l Z a0 hw [] b25 (own_vec (own_node p2) (own_node p3) (own_node p4) (own_node p5)) b16 T34.heap n0 Z34 E_b25 F_b25_kept A_b16) hZ (hw _ (List.mem_of_getElem? (i := 33) rfl)) (hw _ (List.mem_of_getElem? (i := 8) rfl)) (by decide) (by decide)) q37a q37c (g := (mkF m 183 (lc0n1_10 p1 p2 p3 p4 p5 b16 b25) [(.ref b25)])) rfl (by rw [hml]; rfl) (Steps.refl _) (argsL := []) (rest := []) (lenOf pd_3 rfl) rfl (by show 2 * 0 + _ ≤ _; exact Nat.le_of_eq rfl) (hb hby at_183) (fun _ _ => ⟨rfl, rfl, (by decide : 4 + 0 ≤ _), (by decide : 8 + 0 ≤ _)⟩)
  dsimp only [Pt.U, Pt.locs, Pt.cells, Pt.slots] at X37 l37 y37 z37 st37 hQ37
  subst l37 y37 z37
  obtain ⟨rfl, N37q, e37⟩ := hQ37
  have N37 := Fr.app N34 N37q
  have pre38 : ∀ t, Steps p.tables e below (T37.setTop (mkF m 186 (lc0n1_10 p1 p2 p3 p4 p5 b16 b25) [(.int (own_rel1 (own_vec (own_node p2) (own_node p3) (own_node p4) (own_node p5))))])) t → Steps p.tables e below (s₁.setTop (entryFrame m #[(.int p1), (.int p2), (.int p3), (.int p4), (.int p5)] maxLocals)) t := fun t k => pre36 t (st37.trans k)
  have pre39 : ∀ t, Steps p.tables e below (T37.setTop (mkF m 196 (lc0n1_10 p1 p2 p3 p4 p5 b16 b25) [(.int (1 : Int32))])) t → Steps p.tables e below (s₁.setTop (entryFrame m #[(.int p1), (.int p2), (.int p3), (.int p4), (.int p5)] maxLocals)) t := fun t k => pre38 t (by
    show Steps p.tables e below (T37.setTop (mkF m 186 (lc0n1_10 p1 p2 p3 p4 p5 b16 b25) [(.int (own_rel1 (own_vec (own_node p2) (own_node p3) (own_node p4) (own_node p5))))])) _
    refine XS.iload X37.here hx rfl (hb hby at_186) rfl ?_
    show Steps p.tables e below (T37.setTop (mkF m 188 (lc0n1_10 p1 p2 p3 p4 p5 b16 b25) [(.int (if (own_node p2) = (-1 : Int32) then (1 : Int32) else (0 : Int32))), (.int (own_rel1 (own_vec (own_node p2) (own_node p3) (own_node p4) (own_node p5))))])) _
    refine XS.icmpNo X37.here hx rfl (hb hby at_188) rfl (teq (show (own_rel1 (own_vec (own_node p2) (own_node p3) (own_node p4) (own_node p5))) = (if (own_node p2) = (-1 : Int32) then (1 : Int32) else (0 : Int32)) from own_law1 p2 p3 p4 p5)).2 ?_
    show Steps p.tables e below (T37.setTop (mkF m 191 (lc0n1_10 p1 p2 p3 p4 p5 b16 b25) [])) _
    refine XS.iconst X37.here hx rfl (hb hby at_191) ?_
    show Steps p.tables e below (T37.setTop (mkF m 192 (lc0n1_10 p1 p2 p3 p4 p5 b16 b25) [(.int (1 : Int32))])) _
    refine XS.goto X37.here hx rfl (pc0 := 192) (pc' := 196) rfl (hb hby at_192) (by decide) (by decide) ?_
    show Steps p.tables e below (T37.setTop (mkF m 196 (lc0n1_10 p1 p2 p3 p4 p5 b16 b25) [(.int (1 : Int32))])) _
    exact k)
  obtain ⟨fs, hr, hrun, hended, hW, hsame⟩ := X37.leave (v := some (.int (1 : Int32))) (fun h => by rw [Bd.returns] at h; cases h) hlk
  refine ⟨_, _, pre39 _ ?_, hrun, hended, _, _, rfl, ?_, ⟨_, rfl⟩, hW, hsame.mono (by decide) (by decide)⟩
  · show Steps p.tables e below (T37.setTop (mkF m 196 (lc0n1_10 p1 p2 p3 p4 p5 b16 b25) [(.int (1 : Int32))])) _
    exact retN X37 hx (t := .boolean) Bd.returns (by simp) (hb hby at_196) hr
  · show Q0n1 Z p1 p2 p3 p4 p5 h0 n0 _ T37.heap _
    rw [e37]
    exact ⟨rfl, N37⟩
def lc0n2_0 (p1 : Int32) (p2 : Int32) (p3 : Int32) (p4 : Int32) (p5 : Int32) : Array Slot := #[.val (.int p1), .val (.int p2), .val (.int p3), .val (.int p4), .val (.int p5), .val (.int (2 : Int32)), .unset, .unset, .unset, .unset, .unset, .unset, .unset]
def lc0n2_1 (p1 : Int32) (p2 : Int32) (p3 : Int32) (p4 : Int32) (p5 : Int32) : Array Slot := #[.val (.int p1), .val (.int p2), .val (.int p3), .val (.int p4), .val (.int p5), .val (.int (2 : Int32)), .val (.int (own_node p2)), .unset, .unset, .unset, .unset, .unset, .unset]
def lc0n2_2 (p1 : Int32) (p2 : Int32) (p3 : Int32) (p4 : Int32) (p5 : Int32) : Array Slot := #[.val (.int p1), .val (.int p2), .val (.int p3), .val (.int p4), .val (.int p5), .val (.int (2 : Int32)), .val (.int (own_node p2)), .val (.int (own_node p3)), .unset, .unset, .unset, .unset, .unset]
def lc0n2_3 (p1 : Int32) (p2 : Int32) (p3 : Int32) (p4 : Int32) (p5 : Int32) : Array Slot := #[.val (.int p1), .val (.int p2), .val (.int p3), .val (.int p4), .val (.int p5), .val (.int (2 : Int32)), .val (.int (own_node p2)), .val (.int (own_node p3)), .val (.int (own_node p4)), .unset, .unset, .unset, .unset]
def lc0n2_4 (p1 : Int32) (p2 : Int32) (p3 : Int32) (p4 : Int32) (p5 : Int32) : Array Slot := #[.val (.int p1), .val (.int p2), .val (.int p3), .val (.int p4), .val (.int p5), .val (.int (2 : Int32)), .val (.int (own_node p2)), .val (.int (own_node p3)), .val (.int (own_node p4)), .val (.int (own_node p5)), .unset, .unset, .unset]
def lc0n2_5 (p1 : Int32) (p2 : Int32) (p3 : Int32) (p4 : Int32) (p5 : Int32) (b16 : Addr) : Array Slot := #[.val (.int p1), .val (.int p2), .val (.int p3), .val (.int p4), .val (.int p5), .val (.int (2 : Int32)), .val (.int (own_node p2)), .val (.int (own_node p3)), .val (.int (own_node p4)), .val (.int (own_node p5)), .val (.ref b16), .unset, .unset]
def lc0n2_6 (p1 : Int32) (p2 : Int32) (p3 : Int32) (p4 : Int32) (p5 : Int32) (b16 : Addr) : Array Slot := #[.val (.int p1), .val (.int p2), .val (.int p3), .val (.int p4), .val (.int p5), .val (.int (2 : Int32)), .val (.int (own_node p2)), .val (.int (own_node p3)), .val (.int (own_node p4)), .val (.int (own_node p5)), .val (.ref b16), .val (.int (0 : Int32)), .unset]
def lc0n2_7 (p1 : Int32) (p2 : Int32) (p3 : Int32) (p4 : Int32) (p5 : Int32) (b16 : Addr) : Array Slot := #[.val (.int p1), .val (.int p2), .val (.int p3), .val (.int p4), .val (.int p5), .val (.int (2 : Int32)), .val (.int (own_node p2)), .val (.int (own_node p3)), .val (.int (own_node p4)), .val (.int (own_node p5)), .val (.ref b16), .val (.int (1 : Int32)), .unset]
def lc0n2_8 (p1 : Int32) (p2 : Int32) (p3 : Int32) (p4 : Int32) (p5 : Int32) (b16 : Addr) (xI : Int32) : Array Slot := #[.val (.int p1), .val (.int p2), .val (.int p3), .val (.int p4), .val (.int p5), .val (.int (2 : Int32)), .val (.int (own_node p2)), .val (.int (own_node p3)), .val (.int (own_node p4)), .val (.int (own_node p5)), .val (.ref b16), .val (.int xI), .unset]
def lc0n2_9 (p1 : Int32) (p2 : Int32) (p3 : Int32) (p4 : Int32) (p5 : Int32) (b16 : Addr) : Array Slot := #[.val (.int p1), .val (.int p2), .val (.int p3), .val (.int p4), .val (.int p5), .val (.int (2 : Int32)), .val (.int (own_node p2)), .val (.int (own_node p3)), .val (.int (own_node p4)), .val (.int (own_node p5)), .val (.ref b16), .val (.int (if (own_node p2) = (-1 : Int32) then (1 : Int32) else (0 : Int32))), .unset]
def lc0n2_10 (p1 : Int32) (p2 : Int32) (p3 : Int32) (p4 : Int32) (p5 : Int32) (b16 : Addr) : Array Slot := #[.val (.int p1), .val (.int p2), .val (.int p3), .val (.int p4), .val (.int p5), .val (.int (2 : Int32)), .val (.int (own_node p2)), .val (.int (own_node p3)), .val (.int (own_node p4)), .val (.int (own_node p5)), .val (.ref b16), .val (.int ((if (own_node p2) = (-1 : Int32) then (1 : Int32) else (0 : Int32)) + (1 : Int32))), .unset]
def lc0n2_11 (p1 : Int32) (p2 : Int32) (p3 : Int32) (p4 : Int32) (p5 : Int32) (b16 : Addr) : Array Slot := #[.val (.int p1), .val (.int p2), .val (.int p3), .val (.int p4), .val (.int p5), .val (.int (2 : Int32)), .val (.int (own_node p2)), .val (.int (own_node p3)), .val (.int (own_node p4)), .val (.int (own_node p5)), .val (.ref b16), .val (.int (if (own_node p3) = (-1 : Int32) then ((if (own_node p2) = (-1 : Int32) then (1 : Int32) else (0 : Int32)) + (1 : Int32)) else (if (own_node p2) = (-1 : Int32) then (1 : Int32) else (0 : Int32)))), .unset]
def lc0n2_12 (p1 : Int32) (p2 : Int32) (p3 : Int32) (p4 : Int32) (p5 : Int32) (b16 : Addr) (b31 : Addr) : Array Slot := #[.val (.int p1), .val (.int p2), .val (.int p3), .val (.int p4), .val (.int p5), .val (.int (2 : Int32)), .val (.int (own_node p2)), .val (.int (own_node p3)), .val (.int (own_node p4)), .val (.int (own_node p5)), .val (.ref b16), .val (.int (if (own_node p3) = (-1 : Int32) then ((if (own_node p2) = (-1 : Int32) then (1 : Int32) else (0 : Int32)) + (1 : Int32)) else (if (own_node p2) = (-1 : Int32) then (1 : Int32) else (0 : Int32)))), .val (.ref b31)]
def Q0n2 (Z : State) (p1 : Int32) (p2 : Int32) (p3 : Int32) (p4 : Int32) (p5 : Int32) (h0 : Heap) (n0 : Nat) (v : Option Value) (h : Heap) (L : List Loc) : Prop := v = some (.int (1 : Int32)) ∧ Fr n0 L
set_option maxRecDepth 65536 in
set_option maxHeartbeats 40000000 in
theorem rm0n2 (l : Launch) (Z : State) (a0 : Array Value) (hw : ∀ d ∈ tables_1, d.before a0 Z = true) (ws : List Jvm.Cond) (p1 : Int32) (p2 : Int32) (p3 : Int32) (p4 : Int32) (p5 : Int32) (h0 : Heap) (n0 : Nat) (Z0 : n0 ≤ h0.size) (ek : ((p1 &&& (2147483647 : Int32)) % (5 : Int32)) = (2 : Int32)) :
    MetFree l x (head1 (Jvm.Cond.code x code maxLocals ret :: ws) room_1) (fun aa U => aa = #[(.int p1), (.int p2), (.int p3), (.int p4), (.int p5)] ∧ Z.Warmed39 U.vm ∧ U.heap = h0) (fun _ _ _ _ _ => True) (fun _ U o U' => ∃ v L, o = .returned v ∧ Q0n2 Z p1 p2 p3 p4 p5 h0 n0 v U'.heap L ∧ FrameEnd U o U' L room_1.cells room_1.slots) := by
  refine MetFree.of_bodySF (plainFor_of_name pn_StripePlanRelocationsPinLaw) hisR ?_
  intro p e s m args below meth c s₁ Bd hml0 hP hK
  obtain ⟨rfl, hZ, hh⟩ := hP
  have hx := Bd.exec
  have hby := Bd.bytes
  have hml : c.maxLocals = 13 := hml0
  have hown : s.vm.findClass "com/example/rackstripe/rackstripe/StripePlanRelocationsPinLaw" = some m.cls := findClass_of_methodNamed Bd.named
  have hnm := (name_of_methodNamed Bd.named Bd.method).1
  have X0 : Stand p l e room_1 s m #[(.int p1), (.int p2), (.int p3), (.int p4), (.int p5)] below meth c s₁ [] 0 0 := Stand.of_body Bd
  have e0 : s₁.heap = h0 := by rw [← hh, Bd.state]; rfl
  have N0 := Fr.nil n0
  have hlk : meth.locks = false := by first | exact BodyLoose.notSynchronized Bd | exact Body.notSynchronized Bd
  have pre0 : ∀ t, Steps p.tables e below (s₁.setTop (mkF m 0 #[.val (.int p1), .val (.int p2), .val (.int p3), .val (.int p4), .val (.int p5), .unset, .unset, .unset, .unset, .unset, .unset, .unset, .unset] [])) t → Steps p.tables e below (s₁.setTop (entryFrame m #[(.int p1), (.int p2), (.int p3), (.int p4), (.int p5)] maxLocals)) t := fun t k => castTop (ef_0 m p1 p2 p3 p4 p5) k
  have pre1 : ∀ t, Steps p.tables e below (s₁.setTop (mkF m 6 #[.val (.int p1), .val (.int p2), .val (.int p3), .val (.int p4), .val (.int p5), .unset, .unset, .unset, .unset, .unset, .unset, .unset, .unset] [(.int ((p1 &&& (2147483647 : Int32)) % (5 : Int32)))])) t → Steps p.tables e below (s₁.setTop (entryFrame m #[(.int p1), (.int p2), (.int p3), (.int p4), (.int p5)] maxLocals)) t := fun t k => pre0 t (by
    show Steps p.tables e below (s₁.setTop (mkF m 0 #[.val (.int p1), .val (.int p2), .val (.int p3), .val (.int p4), .val (.int p5), .unset, .unset, .unset, .unset, .unset, .unset, .unset, .unset] [])) _
    refine XS.iloadN X0.here hx rfl (hb hby at_0) rfl ?_
    show Steps p.tables e below (s₁.setTop (mkF m 1 #[.val (.int p1), .val (.int p2), .val (.int p3), .val (.int p4), .val (.int p5), .unset, .unset, .unset, .unset, .unset, .unset, .unset, .unset] [(.int p1)])) _
    refine X0.ldcInt hx hown (mvT hZ (hw _ (List.mem_of_getElem? (i := 0) rfl))) (g := (mkF m 1 #[.val (.int p1), .val (.int p2), .val (.int p3), .val (.int p4), .val (.int p5), .unset, .unset, .unset, .unset, .unset, .unset, .unset, .unset] [(.int p1)])) rfl (hb hby at_1) _ ?_
    show Steps p.tables e below (s₁.setTop (mkF m 3 #[.val (.int p1), .val (.int p2), .val (.int p3), .val (.int p4), .val (.int p5), .unset, .unset, .unset, .unset, .unset, .unset, .unset, .unset] [(.int (2147483647 : Int32)), (.int p1)])) _
    refine XS.iand X0.here hx rfl (hb hby at_3) rfl ?_
    show Steps p.tables e below (s₁.setTop (mkF m 4 #[.val (.int p1), .val (.int p2), .val (.int p3), .val (.int p4), .val (.int p5), .unset, .unset, .unset, .unset, .unset, .unset, .unset, .unset] [(.int (p1 &&& (2147483647 : Int32)))])) _
    refine XS.iconst X0.here hx rfl (hb hby at_4) ?_
    show Steps p.tables e below (s₁.setTop (mkF m 5 #[.val (.int p1), .val (.int p2), .val (.int p3), .val (.int p4), .val (.int p5), .unset, .unset, .unset, .unset, .unset, .unset, .unset, .unset] [(.int (5 : Int32)), (.int (p1 &&& (2147483647 : Int32)))])) _
    refine iremM X0 hx rfl (hb hby at_5) rfl (by decide) ?_
    show Steps p.tables e below (s₁.setTop (mkF m 6 #[.val (.int p1), .val (.int p2), .val (.int p3), .val (.int p4), .val (.int p5), .unset, .unset, .unset, .unset, .unset, .unset, .unset, .unset] [(.int ((p1 &&& (2147483647 : Int32)) % (5 : Int32)))])) _
    exact k)
  have pre2 : ∀ t, Steps p.tables e below (s₁.setTop (mkF m 6 #[.val (.int p1), .val (.int p2), .val (.int p3), .val (.int p4), .val (.int p5), .unset, .unset, .unset, .unset, .unset, .unset, .unset, .unset] [(.int (2 : Int32))])) t → Steps p.tables e below (s₁.setTop (entryFrame m #[(.int p1), (.int p2), (.int p3), (.int p4), (.int p5)] maxLocals)) t := fun t k => pre1 t (by rw [ek]; exact k)
  have pre3 : ∀ t, Steps p.tables e below (s₁.setTop (mkF m 9 (lc0n2_0 p1 p2 p3 p4 p5) [(.int p2)])) t → Steps p.tables e below (s₁.setTop (entryFrame m #[(.int p1), (.int p2), (.int p3), (.int p4), (.int p5)] maxLocals)) t := fun t k => pre2 t (by
    show Steps p.tables e below (s₁.setTop (mkF m 6 #[.val (.int p1), .val (.int p2), .val (.int p3), .val (.int p4), .val (.int p5), .unset, .unset, .unset, .unset, .unset, .unset, .unset, .unset] [(.int (2 : Int32))])) _
    refine XS.istore X0.here hx rfl (hb hby at_6) rfl (l' := (lc0n2_0 p1 p2 p3 p4 p5)) rfl ?_
    show Steps p.tables e below (s₁.setTop (mkF m 8 (lc0n2_0 p1 p2 p3 p4 p5) [])) _
    refine XS.iloadN X0.here hx rfl (hb hby at_8) rfl ?_
    show Steps p.tables e below (s₁.setTop (mkF m 9 (lc0n2_0 p1 p2 p3 p4 p5) [(.int p2)])) _
    exact k)
  obtain ⟨_, _, ⟨T4, L4, k4, n4⟩, -, X4, ⟨Lc4, hQ4, l4, y4, z4⟩, st4⟩ := Jvm.LawKit.callS X0 hx (y := (⟨"com/example/rackstripe/rackstripe/StripePlanRelocationsPinLaw", "node", "(I)I"⟩ : MethodName)) hown (mvT hZ (hw _ (List.mem_of_getElem? (i := 1) rfl))) (mvT hZ (hw _ (List.mem_of_getElem? (i := 2) rfl))) (mvT hZ (hw _ (List.mem_of_getElem? (i := 3) rfl))) (mvT hZ (hw _ (List.mem_of_getElem? (i := 4) rfl))) (by decide) (backOf (W := 0) (rm1 l Z a0 hw [] p2 h0 n0 Z0) hZ (hw _ (List.mem_of_getElem? (i := 4) rfl)) (hw _ (List.mem_of_getElem? (i := 3) rfl)) (by decide) (by decide)) (g := (mkF m 9 (lc0n2_0 p1 p2 p3 p4 p5) [(.int p2)])) rfl (by rw [hml]; rfl) (argsL := [(.int p2)]) (rest := []) (lenOf pd_0 rfl) rfl (by show 2 * 0 + _ ≤ _; exact Nat.le_of_eq rfl) (hb hby at_9) (fun _ _ => ⟨rfl, e0, (by decide : 0 + 0 ≤ _), (by decide : 0 + 0 ≤ _)⟩)
  dsimp only [Pt.U, Pt.locs, Pt.cells, Pt.slots] at X4 l4 y4 z4 st4 hQ4
  subst l4 y4 z4
  obtain ⟨rfl, N4q, e4⟩ := hQ4
  have N4 := Fr.app N0 N4q
  have pre5 : ∀ t, Steps p.tables e below (T4.setTop (mkF m 12 (lc0n2_0 p1 p2 p3 p4 p5) [(.int (own_node p2))])) t → Steps p.tables e below (s₁.setTop (entryFrame m #[(.int p1), (.int p2), (.int p3), (.int p4), (.int p5)] maxLocals)) t := fun t k => pre3 t (st4 t k)
  have pre6 : ∀ t, Steps p.tables e below (T4.setTop (mkF m 15 (lc0n2_1 p1 p2 p3 p4 p5) [(.int p3)])) t → Steps p.tables e below (s₁.setTop (entryFrame m #[(.int p1), (.int p2), (.int p3), (.int p4), (.int p5)] maxLocals)) t := fun t k => pre5 t (by
    show Steps p.tables e below (T4.setTop (mkF m 12 (lc0n2_0 p1 p2 p3 p4 p5) [(.int (own_node p2))])) _
    refine XS.istore X4.here hx rfl (hb hby at_12) rfl (l' := (lc0n2_1 p1 p2 p3 p4 p5)) rfl ?_
    show Steps p.tables e below (T4.setTop (mkF m 14 (lc0n2_1 p1 p2 p3 p4 p5) [])) _
    refine XS.iloadN X4.here hx rfl (hb hby at_14) rfl ?_
    show Steps p.tables e below (T4.setTop (mkF m 15 (lc0n2_1 p1 p2 p3 p4 p5) [(.int p3)])) _
    exact k)
  obtain ⟨_, _, ⟨T7, L7, k7, n7⟩, -, X7, ⟨Lc7, hQ7, l7, y7, z7⟩, st7⟩ := Jvm.LawKit.callS X4 hx (y := (⟨"com/example/rackstripe/rackstripe/StripePlanRelocationsPinLaw", "node", "(I)I"⟩ : MethodName)) hown (mvT hZ (hw _ (List.mem_of_getElem? (i := 1) rfl))) (mvT hZ (hw _ (List.mem_of_getElem? (i := 2) rfl))) (mvT hZ (hw _ (List.mem_of_getElem? (i := 3) rfl))) (mvT hZ (hw _ (List.mem_of_getElem? (i := 4) rfl))) (by decide) (backOf (W := 0) (rm1 l Z a0 hw [] p3 h0 n0 Z0) hZ (hw _ (List.mem_of_getElem? (i := 4) rfl)) (hw _ (List.mem_of_getElem? (i := 3) rfl)) (by decide) (by decide)) (g := (mkF m 15 (lc0n2_1 p1 p2 p3 p4 p5) [(.int p3)])) rfl (by rw [hml]; rfl) (argsL := [(.int p3)]) (rest := []) (lenOf pd_0 rfl) rfl (by show 2 * 0 + _ ≤ _; exact Nat.le_of_eq rfl) (hb hby at_15) (fun _ _ => ⟨rfl, e4, (by decide : 0 + 0 ≤ _), (by decide : 0 + 0 ≤ _)⟩)
  dsimp only [Pt.U, Pt.locs, Pt.cells, Pt.slots] at X7 l7 y7 z7 st7 hQ7
  subst l7 y7 z7
  obtain ⟨rfl, N7q, e7⟩ := hQ7
  have N7 := Fr.app N4 N7q
  have pre8 : ∀ t, Steps p.tables e below (T7.setTop (mkF m 18 (lc0n2_1 p1 p2 p3 p4 p5) [(.int (own_node p3))])) t → Steps p.tables e below (s₁.setTop (entryFrame m #[(.int p1), (.int p2), (.int p3), (.int p4), (.int p5)] maxLocals)) t := fun t k => pre6 t (st7 t k)
  have pre9 : ∀ t, Steps p.tables e below (T7.setTop (mkF m 21 (lc0n2_2 p1 p2 p3 p4 p5) [(.int p4)])) t → Steps p.tables e below (s₁.setTop (entryFrame m #[(.int p1), (.int p2), (.int p3), (.int p4), (.int p5)] maxLocals)) t := fun t k => pre8 t (by
    show Steps p.tables e below (T7.setTop (mkF m 18 (lc0n2_1 p1 p2 p3 p4 p5) [(.int (own_node p3))])) _
    refine XS.istore X7.here hx rfl (hb hby at_18) rfl (l' := (lc0n2_2 p1 p2 p3 p4 p5)) rfl ?_
    show Steps p.tables e below (T7.setTop (mkF m 20 (lc0n2_2 p1 p2 p3 p4 p5) [])) _
    refine XS.iloadN X7.here hx rfl (hb hby at_20) rfl ?_
    show Steps p.tables e below (T7.setTop (mkF m 21 (lc0n2_2 p1 p2 p3 p4 p5) [(.int p4)])) _
    exact k)
  obtain ⟨_, _, ⟨T10, L10, k10, n10⟩, -, X10, ⟨Lc10, hQ10, l10, y10, z10⟩, st10⟩ := Jvm.LawKit.callS X7 hx (y := (⟨"com/example/rackstripe/rackstripe/StripePlanRelocationsPinLaw", "node", "(I)I"⟩ : MethodName)) hown (mvT hZ (hw _ (List.mem_of_getElem? (i := 1) rfl))) (mvT hZ (hw _ (List.mem_of_getElem? (i := 2) rfl))) (mvT hZ (hw _ (List.mem_of_getElem? (i := 3) rfl))) (mvT hZ (hw _ (List.mem_of_getElem? (i := 4) rfl))) (by decide) (backOf (W := 0) (rm1 l Z a0 hw [] p4 h0 n0 Z0) hZ (hw _ (List.mem_of_getElem? (i := 4) rfl)) (hw _ (List.mem_of_getElem? (i := 3) rfl)) (by decide) (by decide)) (g := (mkF m 21 (lc0n2_2 p1 p2 p3 p4 p5) [(.int p4)])) rfl (by rw [hml]; rfl) (argsL := [(.int p4)]) (rest := []) (lenOf pd_0 rfl) rfl (by show 2 * 0 + _ ≤ _; exact Nat.le_of_eq rfl) (hb hby at_21) (fun _ _ => ⟨rfl, e7, (by decide : 0 + 0 ≤ _), (by decide : 0 + 0 ≤ _)⟩)
  dsimp only [Pt.U, Pt.locs, Pt.cells, Pt.slots] at X10 l10 y10 z10 st10 hQ10
  subst l10 y10 z10
  obtain ⟨rfl, N10q, e10⟩ := hQ10
  have N10 := Fr.app N7 N10q
  have pre11 : ∀ t, Steps p.tables e below (T10.setTop (mkF m 24 (lc0n2_2 p1 p2 p3 p4 p5) [(.int (own_node p4))])) t → Steps p.tables e below (s₁.setTop (entryFrame m #[(.int p1), (.int p2), (.int p3), (.int p4), (.int p5)] maxLocals)) t := fun t k => pre9 t (st10 t k)
  have pre12 : ∀ t, Steps p.tables e below (T10.setTop (mkF m 28 (lc0n2_3 p1 p2 p3 p4 p5) [(.int p5)])) t → Steps p.tables e below (s₁.setTop (entryFrame m #[(.int p1), (.int p2), (.int p3), (.int p4), (.int p5)] maxLocals)) t := fun t k => pre11 t (by
    show Steps p.tables e below (T10.setTop (mkF m 24 (lc0n2_2 p1 p2 p3 p4 p5) [(.int (own_node p4))])) _
    refine XS.istore X10.here hx rfl (hb hby at_24) rfl (l' := (lc0n2_3 p1 p2 p3 p4 p5)) rfl ?_
    show Steps p.tables e below (T10.setTop (mkF m 26 (lc0n2_3 p1 p2 p3 p4 p5) [])) _
    refine XS.iload X10.here hx rfl (hb hby at_26) rfl ?_
    show Steps p.tables e below (T10.setTop (mkF m 28 (lc0n2_3 p1 p2 p3 p4 p5) [(.int p5)])) _
    exact k)
  obtain ⟨_, _, ⟨T13, L13, k13, n13⟩, -, X13, ⟨Lc13, hQ13, l13, y13, z13⟩, st13⟩ := Jvm.LawKit.callS X10 hx (y := (⟨"com/example/rackstripe/rackstripe/StripePlanRelocationsPinLaw", "node", "(I)I"⟩ : MethodName)) hown (mvT hZ (hw _ (List.mem_of_getElem? (i := 1) rfl))) (mvT hZ (hw _ (List.mem_of_getElem? (i := 2) rfl))) (mvT hZ (hw _ (List.mem_of_getElem? (i := 3) rfl))) (mvT hZ (hw _ (List.mem_of_getElem? (i := 4) rfl))) (by decide) (backOf (W := 0) (rm1 l Z a0 hw [] p5 h0 n0 Z0) hZ (hw _ (List.mem_of_getElem? (i := 4) rfl)) (hw _ (List.mem_of_getElem? (i := 3) rfl)) (by decide) (by decide)) (g := (mkF m 28 (lc0n2_3 p1 p2 p3 p4 p5) [(.int p5)])) rfl (by rw [hml]; rfl) (argsL := [(.int p5)]) (rest := []) (lenOf pd_0 rfl) rfl (by show 2 * 0 + _ ≤ _; exact Nat.le_of_eq rfl) (hb hby at_28) (fun _ _ => ⟨rfl, e10, (by decide : 0 + 0 ≤ _), (by decide : 0 + 0 ≤ _)⟩)
  dsimp only [Pt.U, Pt.locs, Pt.cells, Pt.slots] at X13 l13 y13 z13 st13 hQ13
  subst l13 y13 z13
  obtain ⟨rfl, N13q, e13⟩ := hQ13
  have N13 := Fr.app N10 N13q
  have pre14 : ∀ t, Steps p.tables e below (T13.setTop (mkF m 31 (lc0n2_3 p1 p2 p3 p4 p5) [(.int (own_node p5))])) t → Steps p.tables e below (s₁.setTop (entryFrame m #[(.int p1), (.int p2), (.int p3), (.int p4), (.int p5)] maxLocals)) t := fun t k => pre12 t (st13 t k)
  have pre15 : ∀ t, Steps p.tables e below (T13.setTop (mkF m 35 (lc0n2_4 p1 p2 p3 p4 p5) [(.int (2 : Int32))])) t → Steps p.tables e below (s₁.setTop (entryFrame m #[(.int p1), (.int p2), (.int p3), (.int p4), (.int p5)] maxLocals)) t := fun t k => pre14 t (by
    show Steps p.tables e below (T13.setTop (mkF m 31 (lc0n2_3 p1 p2 p3 p4 p5) [(.int (own_node p5))])) _
    refine XS.istore X13.here hx rfl (hb hby at_31) rfl (l' := (lc0n2_4 p1 p2 p3 p4 p5)) rfl ?_
    show Steps p.tables e below (T13.setTop (mkF m 33 (lc0n2_4 p1 p2 p3 p4 p5) [])) _
    refine XS.iload X13.here hx rfl (hb hby at_33) rfl ?_
    show Steps p.tables e below (T13.setTop (mkF m 35 (lc0n2_4 p1 p2 p3 p4 p5) [(.int (2 : Int32))])) _
    exact k)
  obtain ⟨T16, h16, k16, X16, e16, E16, A16, st16⟩ := newP X13 hx hZ (hw _ (List.mem_of_getElem? (i := 5) rfl)) e13 (g := (mkF m 35 (lc0n2_4 p1 p2 p3 p4 p5) [(.int (2 : Int32))])) rfl (hb hby at_35) rfl (by decide) (cap := 2) (by decide) (by decide) (by decide) (by decide)
  obtain ⟨b16, g16⟩ : ∃ z, z = h0.size := ⟨_, rfl⟩
  rw [← g16] at A16 st16
  have g_b16 : n0 ≤ b16 := Nat.le_trans Z0 (Nat.le_of_eq g16.symm)
  have Z16 : n0 ≤ h16.size := Nat.le_trans Z0 E16.1
  have A_b16 : own_A Z h16 b16 .int 2 (fun _ => (0 : Int32)) := own_A.new A16 rfl rfl
  have pre17 : ∀ t, Steps p.tables e below (T16.setTop (mkF m 37 (lc0n2_4 p1 p2 p3 p4 p5) [(.ref b16)])) t → Steps p.tables e below (s₁.setTop (entryFrame m #[(.int p1), (.int p2), (.int p3), (.int p4), (.int p5)] maxLocals)) t := fun t k => pre15 t (st16 t k)
  have pre18 : ∀ t, Steps p.tables e below (T16.setTop (mkF m 49 (lc0n2_5 p1 p2 p3 p4 p5 b16) [(.int (own_node p2)), (.int (0 : Int32)), (.ref b16)])) t → Steps p.tables e below (s₁.setTop (entryFrame m #[(.int p1), (.int p2), (.int p3), (.int p4), (.int p5)] maxLocals)) t := fun t k => pre17 t (by
    show Steps p.tables e below (T16.setTop (mkF m 37 (lc0n2_4 p1 p2 p3 p4 p5) [(.ref b16)])) _
    refine XS.astore X16.here hx rfl (hb hby at_37) rfl rfl (l' := (lc0n2_5 p1 p2 p3 p4 p5 b16)) rfl ?_
    show Steps p.tables e below (T16.setTop (mkF m 39 (lc0n2_5 p1 p2 p3 p4 p5 b16) [])) _
    refine XS.iload X16.here hx rfl (hb hby at_39) rfl ?_
    show Steps p.tables e below (T16.setTop (mkF m 41 (lc0n2_5 p1 p2 p3 p4 p5 b16) [(.int (2 : Int32))])) _
    refine XS.ifNo X16.here hx rfl (hb hby at_41) rfl ((if0 _ _).trans (tlt (by decide)).2.2.2) ?_
    show Steps p.tables e below (T16.setTop (mkF m 44 (lc0n2_5 p1 p2 p3 p4 p5 b16) [])) _
    refine XS.aload X16.here hx rfl (hb hby at_44) rfl rfl ?_
    show Steps p.tables e below (T16.setTop (mkF m 46 (lc0n2_5 p1 p2 p3 p4 p5 b16) [(.ref b16)])) _
    refine XS.iconst X16.here hx rfl (hb hby at_46) ?_
    show Steps p.tables e below (T16.setTop (mkF m 47 (lc0n2_5 p1 p2 p3 p4 p5 b16) [(.int (0 : Int32)), (.ref b16)])) _
    refine XS.iload X16.here hx rfl (hb hby at_47) rfl ?_
    show Steps p.tables e below (T16.setTop (mkF m 49 (lc0n2_5 p1 p2 p3 p4 p5 b16) [(.int (own_node p2)), (.int (0 : Int32)), (.ref b16)])) _
    exact k)
  obtain ⟨cl19, Ar19, Sz19, Hf19⟩ := A_b16
  obtain ⟨T19, h19, X19, e19, W19, st19⟩ := stI X16 hx hZ e16 Ar19 (j := (0 : Int32)) (own_inb Sz19 ⟨by decide, by decide⟩) (g := (mkF m 49 (lc0n2_5 p1 p2 p3 p4 p5 b16) [(.int (own_node p2)), (.int (0 : Int32)), (.ref b16)])) rfl rfl (hb hby at_49)
  have A_b16 : own_A Z h19 b16 .int 2 (own_put (fun _ => (0 : Int32)) 0 (own_node p2)) := own_A.set Ar19 Sz19 Hf19 W19
  have Z19 : n0 ≤ h19.size := Nat.le_trans Z16 (Keep.of_wr W19).1
  have N19 := Fr.snoc X19 N13 g_b16
  have pre20 : ∀ t, Steps p.tables e below (T19.setTop (mkF m 50 (lc0n2_5 p1 p2 p3 p4 p5 b16) [])) t → Steps p.tables e below (s₁.setTop (entryFrame m #[(.int p1), (.int p2), (.int p3), (.int p4), (.int p5)] maxLocals)) t := fun t k => pre18 t (st19 t k)
  have pre21 : ∀ t, Steps p.tables e below (T19.setTop (mkF m 61 (lc0n2_5 p1 p2 p3 p4 p5 b16) [(.int (own_node p3)), (.int (1 : Int32)), (.ref b16)])) t → Steps p.tables e below (s₁.setTop (entryFrame m #[(.int p1), (.int p2), (.int p3), (.int p4), (.int p5)] maxLocals)) t := fun t k => pre20 t (by
    show Steps p.tables e below (T19.setTop (mkF m 50 (lc0n2_5 p1 p2 p3 p4 p5 b16) [])) _
    refine XS.iload X19.here hx rfl (hb hby at_50) rfl ?_
    show Steps p.tables e below (T19.setTop (mkF m 52 (lc0n2_5 p1 p2 p3 p4 p5 b16) [(.int (2 : Int32))])) _
    refine XS.iconst X19.here hx rfl (hb hby at_52) ?_
    show Steps p.tables e below (T19.setTop (mkF m 53 (lc0n2_5 p1 p2 p3 p4 p5 b16) [(.int (1 : Int32)), (.int (2 : Int32))])) _
    refine XS.icmpNo X19.here hx rfl (hb hby at_53) rfl (tlt (by decide)).2.2.2 ?_
    show Steps p.tables e below (T19.setTop (mkF m 56 (lc0n2_5 p1 p2 p3 p4 p5 b16) [])) _
    refine XS.aload X19.here hx rfl (hb hby at_56) rfl rfl ?_
    show Steps p.tables e below (T19.setTop (mkF m 58 (lc0n2_5 p1 p2 p3 p4 p5 b16) [(.ref b16)])) _
    refine XS.iconst X19.here hx rfl (hb hby at_58) ?_
    show Steps p.tables e below (T19.setTop (mkF m 59 (lc0n2_5 p1 p2 p3 p4 p5 b16) [(.int (1 : Int32)), (.ref b16)])) _
    refine XS.iload X19.here hx rfl (hb hby at_59) rfl ?_
    show Steps p.tables e below (T19.setTop (mkF m 61 (lc0n2_5 p1 p2 p3 p4 p5 b16) [(.int (own_node p3)), (.int (1 : Int32)), (.ref b16)])) _
    exact k)
  obtain ⟨cl22, Ar22, Sz22, Hf22⟩ := A_b16
  obtain ⟨T22, h22, X22, e22, W22, st22⟩ := stI X19 hx hZ e19 Ar22 (j := (1 : Int32)) (own_inb Sz22 ⟨by decide, by decide⟩) (g := (mkF m 61 (lc0n2_5 p1 p2 p3 p4 p5 b16) [(.int (own_node p3)), (.int (1 : Int32)), (.ref b16)])) rfl rfl (hb hby at_61)
  have A_b16 : own_A Z h22 b16 .int 2 (own_put (own_put (fun _ => (0 : Int32)) 0 (own_node p2)) 1 (own_node p3)) := own_A.set Ar22 Sz22 Hf22 W22
  have Z22 : n0 ≤ h22.size := Nat.le_trans Z19 (Keep.of_wr W22).1
  have N22 := Fr.snoc X22 N19 g_b16
  have pre23 : ∀ t, Steps p.tables e below (T22.setTop (mkF m 62 (lc0n2_5 p1 p2 p3 p4 p5 b16) [])) t → Steps p.tables e below (s₁.setTop (entryFrame m #[(.int p1), (.int p2), (.int p3), (.int p4), (.int p5)] maxLocals)) t := fun t k => pre21 t (st22 t k)
  have pre24 : ∀ t, Steps p.tables e below (T22.setTop (mkF m 97 (lc0n2_6 p1 p2 p3 p4 p5 b16) [(.int (-1 : Int32)), (.int (own_node p2))])) t → Steps p.tables e below (s₁.setTop (entryFrame m #[(.int p1), (.int p2), (.int p3), (.int p4), (.int p5)] maxLocals)) t := fun t k => pre23 t (by
    show Steps p.tables e below (T22.setTop (mkF m 62 (lc0n2_5 p1 p2 p3 p4 p5 b16) [])) _
    refine XS.iload X22.here hx rfl (hb hby at_62) rfl ?_
    show Steps p.tables e below (T22.setTop (mkF m 64 (lc0n2_5 p1 p2 p3 p4 p5 b16) [(.int (2 : Int32))])) _
    refine XS.iconst X22.here hx rfl (hb hby at_64) ?_
    show Steps p.tables e below (T22.setTop (mkF m 65 (lc0n2_5 p1 p2 p3 p4 p5 b16) [(.int (2 : Int32)), (.int (2 : Int32))])) _
    refine XS.icmpYes X22.here hx rfl (pc0 := 65) (pc' := 74) rfl (hb hby at_65) rfl (flt (by decide)).2.2.2 (by decide) (by decide) ?_
    show Steps p.tables e below (T22.setTop (mkF m 74 (lc0n2_5 p1 p2 p3 p4 p5 b16) [])) _
    refine XS.iload X22.here hx rfl (hb hby at_74) rfl ?_
    show Steps p.tables e below (T22.setTop (mkF m 76 (lc0n2_5 p1 p2 p3 p4 p5 b16) [(.int (2 : Int32))])) _
    refine XS.iconst X22.here hx rfl (hb hby at_76) ?_
    show Steps p.tables e below (T22.setTop (mkF m 77 (lc0n2_5 p1 p2 p3 p4 p5 b16) [(.int (3 : Int32)), (.int (2 : Int32))])) _
    refine XS.icmpYes X22.here hx rfl (pc0 := 77) (pc' := 86) rfl (hb hby at_77) rfl (flt (by decide)).2.2.2 (by decide) (by decide) ?_
    show Steps p.tables e below (T22.setTop (mkF m 86 (lc0n2_5 p1 p2 p3 p4 p5 b16) [])) _
    refine XS.iconst X22.here hx rfl (hb hby at_86) ?_
    show Steps p.tables e below (T22.setTop (mkF m 87 (lc0n2_5 p1 p2 p3 p4 p5 b16) [(.int (0 : Int32))])) _
    refine XS.istore X22.here hx rfl (hb hby at_87) rfl (l' := (lc0n2_6 p1 p2 p3 p4 p5 b16)) rfl ?_
    show Steps p.tables e below (T22.setTop (mkF m 89 (lc0n2_6 p1 p2 p3 p4 p5 b16) [])) _
    refine XS.iload X22.here hx rfl (hb hby at_89) rfl ?_
    show Steps p.tables e below (T22.setTop (mkF m 91 (lc0n2_6 p1 p2 p3 p4 p5 b16) [(.int (2 : Int32))])) _
    refine XS.ifNo X22.here hx rfl (hb hby at_91) rfl ((if0 _ _).trans (tlt (by decide)).2.2.2) ?_
    show Steps p.tables e below (T22.setTop (mkF m 94 (lc0n2_6 p1 p2 p3 p4 p5 b16) [])) _
    refine XS.iload X22.here hx rfl (hb hby at_94) rfl ?_
    show Steps p.tables e below (T22.setTop (mkF m 96 (lc0n2_6 p1 p2 p3 p4 p5 b16) [(.int (own_node p2))])) _
    refine XS.iconst X22.here hx rfl (hb hby at_96) ?_
    show Steps p.tables e below (T22.setTop (mkF m 97 (lc0n2_6 p1 p2 p3 p4 p5 b16) [(.int (-1 : Int32)), (.int (own_node p2))])) _
    exact k)
  have pre26 : ∀ t, Steps p.tables e below (T22.setTop (mkF m 106 (lc0n2_9 p1 p2 p3 p4 p5 b16) [])) t → Steps p.tables e below (s₁.setTop (entryFrame m #[(.int p1), (.int p2), (.int p3), (.int p4), (.int p5)] maxLocals)) t := fun t k => pre24 t (by
    show Steps p.tables e below (T22.setTop (mkF m 97 (lc0n2_6 p1 p2 p3 p4 p5 b16) [(.int (-1 : Int32)), (.int (own_node p2))])) _
    by_cases hm97_25 : (own_node p2) = (-1 : Int32)
    · refine XS.icmpNo X22.here hx rfl (hb hby at_97) rfl (teq hm97_25).2 ?_
      show Steps p.tables e below (T22.setTop (mkF m 100 (lc0n2_6 p1 p2 p3 p4 p5 b16) [])) _
      refine XS.iload X22.here hx rfl (hb hby at_100) rfl ?_
      show Steps p.tables e below (T22.setTop (mkF m 102 (lc0n2_6 p1 p2 p3 p4 p5 b16) [(.int (0 : Int32))])) _
      refine XS.iconst X22.here hx rfl (hb hby at_102) ?_
      show Steps p.tables e below (T22.setTop (mkF m 103 (lc0n2_6 p1 p2 p3 p4 p5 b16) [(.int (1 : Int32)), (.int (0 : Int32))])) _
      refine XS.iadd X22.here hx rfl (hb hby at_103) rfl ?_
      show Steps p.tables e below (T22.setTop (mkF m 104 (lc0n2_6 p1 p2 p3 p4 p5 b16) [(.int (1 : Int32))])) _
      refine XS.istore X22.here hx rfl (hb hby at_104) rfl (l' := (lc0n2_7 p1 p2 p3 p4 p5 b16)) rfl ?_
      show Steps p.tables e below (T22.setTop (mkF m 106 (lc0n2_7 p1 p2 p3 p4 p5 b16) [])) _
      have q : (if (own_node p2) = (-1 : Int32) then (1 : Int32) else (0 : Int32)) = (1 : Int32) := by simp only [if_pos hm97_25]
      exact Eq.subst (motive := fun xI => Steps p.tables e below (T22.setTop (mkF m 106 (lc0n2_8 p1 p2 p3 p4 p5 b16 xI) [])) t) q k
    · refine XS.icmpYes X22.here hx rfl (pc0 := 97) (pc' := 106) rfl (hb hby at_97) rfl (feq hm97_25).2 (by decide) (by decide) ?_
      show Steps p.tables e below (T22.setTop (mkF m 106 (lc0n2_6 p1 p2 p3 p4 p5 b16) [])) _
      have q : (if (own_node p2) = (-1 : Int32) then (1 : Int32) else (0 : Int32)) = (0 : Int32) := by simp only [if_neg hm97_25]
      exact Eq.subst (motive := fun xI => Steps p.tables e below (T22.setTop (mkF m 106 (lc0n2_8 p1 p2 p3 p4 p5 b16 xI) [])) t) q k)
  have pre27 : ∀ t, Steps p.tables e below (T22.setTop (mkF m 115 (lc0n2_9 p1 p2 p3 p4 p5 b16) [(.int (-1 : Int32)), (.int (own_node p3))])) t → Steps p.tables e below (s₁.setTop (entryFrame m #[(.int p1), (.int p2), (.int p3), (.int p4), (.int p5)] maxLocals)) t := fun t k => pre26 t (by
    show Steps p.tables e below (T22.setTop (mkF m 106 (lc0n2_9 p1 p2 p3 p4 p5 b16) [])) _
    refine XS.iload X22.here hx rfl (hb hby at_106) rfl ?_
    show Steps p.tables e below (T22.setTop (mkF m 108 (lc0n2_9 p1 p2 p3 p4 p5 b16) [(.int (2 : Int32))])) _
    refine XS.iconst X22.here hx rfl (hb hby at_108) ?_
    show Steps p.tables e below (T22.setTop (mkF m 109 (lc0n2_9 p1 p2 p3 p4 p5 b16) [(.int (1 : Int32)), (.int (2 : Int32))])) _
    refine XS.icmpNo X22.here hx rfl (hb hby at_109) rfl (tlt (by decide)).2.2.2 ?_
    show Steps p.tables e below (T22.setTop (mkF m 112 (lc0n2_9 p1 p2 p3 p4 p5 b16) [])) _
    refine XS.iload X22.here hx rfl (hb hby at_112) rfl ?_
    show Steps p.tables e below (T22.setTop (mkF m 114 (lc0n2_9 p1 p2 p3 p4 p5 b16) [(.int (own_node p3))])) _
    refine XS.iconst X22.here hx rfl (hb hby at_114) ?_
    show Steps p.tables e below (T22.setTop (mkF m 115 (lc0n2_9 p1 p2 p3 p4 p5 b16) [(.int (-1 : Int32)), (.int (own_node p3))])) _
    exact k)
  have pre29 : ∀ t, Steps p.tables e below (T22.setTop (mkF m 124 (lc0n2_11 p1 p2 p3 p4 p5 b16) [])) t → Steps p.tables e below (s₁.setTop (entryFrame m #[(.int p1), (.int p2), (.int p3), (.int p4), (.int p5)] maxLocals)) t := fun t k => pre27 t (by
    show Steps p.tables e below (T22.setTop (mkF m 115 (lc0n2_9 p1 p2 p3 p4 p5 b16) [(.int (-1 : Int32)), (.int (own_node p3))])) _
    by_cases hm115_28 : (own_node p3) = (-1 : Int32)
    · refine XS.icmpNo X22.here hx rfl (hb hby at_115) rfl (teq hm115_28).2 ?_
      show Steps p.tables e below (T22.setTop (mkF m 118 (lc0n2_9 p1 p2 p3 p4 p5 b16) [])) _
      refine XS.iload X22.here hx rfl (hb hby at_118) rfl ?_
      show Steps p.tables e below (T22.setTop (mkF m 120 (lc0n2_9 p1 p2 p3 p4 p5 b16) [(.int (if (own_node p2) = (-1 : Int32) then (1 : Int32) else (0 : Int32)))])) _
      refine XS.iconst X22.here hx rfl (hb hby at_120) ?_
      show Steps p.tables e below (T22.setTop (mkF m 121 (lc0n2_9 p1 p2 p3 p4 p5 b16) [(.int (1 : Int32)), (.int (if (own_node p2) = (-1 : Int32) then (1 : Int32) else (0 : Int32)))])) _
      refine XS.iadd X22.here hx rfl (hb hby at_121) rfl ?_
      show Steps p.tables e below (T22.setTop (mkF m 122 (lc0n2_9 p1 p2 p3 p4 p5 b16) [(.int ((if (own_node p2) = (-1 : Int32) then (1 : Int32) else (0 : Int32)) + (1 : Int32)))])) _
      refine XS.istore X22.here hx rfl (hb hby at_122) rfl (l' := (lc0n2_10 p1 p2 p3 p4 p5 b16)) rfl ?_
      show Steps p.tables e below (T22.setTop (mkF m 124 (lc0n2_10 p1 p2 p3 p4 p5 b16) [])) _
      have q : (if (own_node p3) = (-1 : Int32) then ((if (own_node p2) = (-1 : Int32) then (1 : Int32) else (0 : Int32)) + (1 : Int32)) else (if (own_node p2) = (-1 : Int32) then (1 : Int32) else (0 : Int32))) = ((if (own_node p2) = (-1 : Int32) then (1 : Int32) else (0 : Int32)) + (1 : Int32)) := by simp only [if_pos hm115_28]
      exact Eq.subst (motive := fun xI => Steps p.tables e below (T22.setTop (mkF m 124 (lc0n2_8 p1 p2 p3 p4 p5 b16 xI) [])) t) q k
    · refine XS.icmpYes X22.here hx rfl (pc0 := 115) (pc' := 124) rfl (hb hby at_115) rfl (feq hm115_28).2 (by decide) (by decide) ?_
      show Steps p.tables e below (T22.setTop (mkF m 124 (lc0n2_9 p1 p2 p3 p4 p5 b16) [])) _
      have q : (if (own_node p3) = (-1 : Int32) then ((if (own_node p2) = (-1 : Int32) then (1 : Int32) else (0 : Int32)) + (1 : Int32)) else (if (own_node p2) = (-1 : Int32) then (1 : Int32) else (0 : Int32))) = (if (own_node p2) = (-1 : Int32) then (1 : Int32) else (0 : Int32)) := by simp only [if_neg hm115_28]
      exact Eq.subst (motive := fun xI => Steps p.tables e below (T22.setTop (mkF m 124 (lc0n2_8 p1 p2 p3 p4 p5 b16 xI) [])) t) q k)
  have pre30 : ∀ t, Steps p.tables e below (T22.setTop (mkF m 160 (lc0n2_11 p1 p2 p3 p4 p5 b16) [])) t → Steps p.tables e below (s₁.setTop (entryFrame m #[(.int p1), (.int p2), (.int p3), (.int p4), (.int p5)] maxLocals)) t := fun t k => pre29 t (by
    show Steps p.tables e below (T22.setTop (mkF m 124 (lc0n2_11 p1 p2 p3 p4 p5 b16) [])) _
    refine XS.iload X22.here hx rfl (hb hby at_124) rfl ?_
    show Steps p.tables e below (T22.setTop (mkF m 126 (lc0n2_11 p1 p2 p3 p4 p5 b16) [(.int (2 : Int32))])) _
    refine XS.iconst X22.here hx rfl (hb hby at_126) ?_
    show Steps p.tables e below (T22.setTop (mkF m 127 (lc0n2_11 p1 p2 p3 p4 p5 b16) [(.int (2 : Int32)), (.int (2 : Int32))])) _
    refine XS.icmpYes X22.here hx rfl (pc0 := 127) (pc' := 142) rfl (hb hby at_127) rfl (flt (by decide)).2.2.2 (by decide) (by decide) ?_
    show Steps p.tables e below (T22.setTop (mkF m 142 (lc0n2_11 p1 p2 p3 p4 p5 b16) [])) _
    refine XS.iload X22.here hx rfl (hb hby at_142) rfl ?_
    show Steps p.tables e below (T22.setTop (mkF m 144 (lc0n2_11 p1 p2 p3 p4 p5 b16) [(.int (2 : Int32))])) _
    refine XS.iconst X22.here hx rfl (hb hby at_144) ?_
    show Steps p.tables e below (T22.setTop (mkF m 145 (lc0n2_11 p1 p2 p3 p4 p5 b16) [(.int (3 : Int32)), (.int (2 : Int32))])) _
    refine XS.icmpYes X22.here hx rfl (pc0 := 145) (pc' := 160) rfl (hb hby at_145) rfl (flt (by decide)).2.2.2 (by decide) (by decide) ?_
    show Steps p.tables e below (T22.setTop (mkF m 160 (lc0n2_11 p1 p2 p3 p4 p5 b16) [])) _
    exact k)
  obtain ⟨T31, h31, X31, e31, E31, A31, D31, -, st31⟩ := newO X22 hx hZ hown (hw _ (List.mem_of_getElem? (i := 6) rfl)) (hw _ (List.mem_of_getElem? (i := 7) rfl)) (hw _ (List.mem_of_getElem? (i := 8) rfl)) e22 (g := (mkF m 160 (lc0n2_11 p1 p2 p3 p4 p5 b16) [])) rfl (hb hby at_160) (by decide) (by decide)
  obtain ⟨b31, g31⟩ : ∃ z, z = h22.size := ⟨_, rfl⟩
  rw [← g31] at A31 D31 st31
  have g_b31 : n0 ≤ b31 := Nat.le_trans Z22 (Nat.le_of_eq g31.symm)
  have ne_b16_b31 : b16 ≠ b31 := Nat.ne_of_lt (Nat.lt_of_lt_of_le A_b16.lt (Nat.le_of_eq g31.symm))
  have A_b16 := A_b16.ext E31
  have Z31 : n0 ≤ h31.size := Nat.le_trans Z22 E31.1
  have E_b31 := A31
  have F_b31_encoder : Fld Z h31 b31 "com/example/rackstripe/rackstripe/StripePlan" "encoder" "I" (.int (0 : Int32)) := D31 (Or.inr (hw _ (List.mem_of_getElem? (i := 16) rfl))) (ty := .int) (by decide)
  have F_b31_sources : Fld Z h31 b31 "com/example/rackstripe/rackstripe/StripePlan" "sources" "[I" .null := D31 (Or.inr (hw _ (List.mem_of_getElem? (i := 18) rfl))) (ty := (.array .int)) (by decide)
  have F_b31_crossRackDownloads : Fld Z h31 b31 "com/example/rackstripe/rackstripe/StripePlan" "crossRackDownloads" "I" (.int (0 : Int32)) := D31 (Or.inr (hw _ (List.mem_of_getElem? (i := 20) rfl))) (ty := .int) (by decide)
  have F_b31_intraRackDownloads : Fld Z h31 b31 "com/example/rackstripe/rackstripe/StripePlan" "intraRackDownloads" "I" (.int (0 : Int32)) := D31 (Or.inr (hw _ (List.mem_of_getElem? (i := 22) rfl))) (ty := .int) (by decide)
  have F_b31_kept : Fld Z h31 b31 "com/example/rackstripe/rackstripe/StripePlan" "kept" "[I" .null := D31 (Or.inr (hw _ (List.mem_of_getElem? (i := 24) rfl))) (ty := (.array .int)) (by decide)
  have F_b31_parity : Fld Z h31 b31 "com/example/rackstripe/rackstripe/StripePlan" "parity" "[I" .null := D31 (Or.inr (hw _ (List.mem_of_getElem? (i := 26) rfl))) (ty := (.array .int)) (by decide)
  have F_b31_parityUnplaced : Fld Z h31 b31 "com/example/rackstripe/rackstripe/StripePlan" "parityUnplaced" "I" (.int (0 : Int32)) := D31 (Or.inr (hw _ (List.mem_of_getElem? (i := 28) rfl))) (ty := .int) (by decide)
  have pre32 : ∀ t, Steps p.tables e below (T31.setTop (mkF m 163 (lc0n2_11 p1 p2 p3 p4 p5 b16) [(.ref b31)])) t → Steps p.tables e below (s₁.setTop (entryFrame m #[(.int p1), (.int p2), (.int p3), (.int p4), (.int p5)] maxLocals)) t := fun t k => pre30 t (st31 t k)
  have pre33 : ∀ t, Steps p.tables e below (T31.setTop (mkF m 166 (lc0n2_11 p1 p2 p3 p4 p5 b16) [(.int (0 : Int32)), (.int (0 : Int32)), (.ref b31), (.ref b31)])) t → Steps p.tables e below (s₁.setTop (entryFrame m #[(.int p1), (.int p2), (.int p3), (.int p4), (.int p5)] maxLocals)) t := fun t k => pre32 t (by
    show Steps p.tables e below (T31.setTop (mkF m 163 (lc0n2_11 p1 p2 p3 p4 p5 b16) [(.ref b31)])) _
    refine XS.dup X31.here hx rfl (hb hby at_163) rfl rfl ?_
    show Steps p.tables e below (T31.setTop (mkF m 164 (lc0n2_11 p1 p2 p3 p4 p5 b16) [(.ref b31), (.ref b31)])) _
    refine XS.iconst X31.here hx rfl (hb hby at_164) ?_
    show Steps p.tables e below (T31.setTop (mkF m 165 (lc0n2_11 p1 p2 p3 p4 p5 b16) [(.int (0 : Int32)), (.ref b31), (.ref b31)])) _
    refine XS.iconst X31.here hx rfl (hb hby at_165) ?_
    show Steps p.tables e below (T31.setTop (mkF m 166 (lc0n2_11 p1 p2 p3 p4 p5 b16) [(.int (0 : Int32)), (.int (0 : Int32)), (.ref b31), (.ref b31)])) _
    exact k)
  obtain ⟨T34, h34, k34, X34, e34, E34, A34, st34⟩ := newP X31 hx hZ (hw _ (List.mem_of_getElem? (i := 5) rfl)) e31 (g := (mkF m 166 (lc0n2_11 p1 p2 p3 p4 p5 b16) [(.int (0 : Int32)), (.int (0 : Int32)), (.ref b31), (.ref b31)])) rfl (hb hby at_166) rfl (by decide) (cap := 0) (by decide) (by decide) (by decide) (by decide)
  obtain ⟨b34, g34⟩ : ∃ z, z = h31.size := ⟨_, rfl⟩
  rw [← g34] at A34 st34
  have g_b34 : n0 ≤ b34 := Nat.le_trans Z31 (Nat.le_of_eq g34.symm)
  have ne_b16_b34 : b16 ≠ b34 := Nat.ne_of_lt (Nat.lt_of_lt_of_le A_b16.lt (Nat.le_of_eq g34.symm))
  have ne_b31_b34 : b31 ≠ b34 := Nat.ne_of_lt (Nat.lt_of_lt_of_le E_b31.lt (Nat.le_of_eq g34.symm))
  have A_b16 := A_b16.ext E34
  have E_b31 := E_b31.ext E34
  have F_b31_encoder := F_b31_encoder.ext E34
  have F_b31_sources := F_b31_sources.ext E34
  have F_b31_crossRackDownloads := F_b31_crossRackDownloads.ext E34
  have F_b31_intraRackDownloads := F_b31_intraRackDownloads.ext E34
  have F_b31_kept := F_b31_kept.ext E34
  have F_b31_parity := F_b31_parity.ext E34
  have F_b31_parityUnplaced := F_b31_parityUnplaced.ext E34
  have Z34 : n0 ≤ h34.size := Nat.le_trans Z31 E34.1
  have A_b34 : own_A Z h34 b34 .int 0 (fun _ => (0 : Int32)) := own_A.new A34 rfl rfl
  have pre35 : ∀ t, Steps p.tables e below (T34.setTop (mkF m 168 (lc0n2_11 p1 p2 p3 p4 p5 b16) [(.ref b34), (.int (0 : Int32)), (.ref b31), (.ref b31)])) t → Steps p.tables e below (s₁.setTop (entryFrame m #[(.int p1), (.int p2), (.int p3), (.int p4), (.int p5)] maxLocals)) t := fun t k => pre33 t (st34 t k)
  have pre36 : ∀ t, Steps p.tables e below (T34.setTop (mkF m 173 (lc0n2_11 p1 p2 p3 p4 p5 b16) [(.int (0 : Int32)), (.ref b16), (.int (0 : Int32)), (.int (0 : Int32)), (.ref b34), (.int (0 : Int32)), (.ref b31), (.ref b31)])) t → Steps p.tables e below (s₁.setTop (entryFrame m #[(.int p1), (.int p2), (.int p3), (.int p4), (.int p5)] maxLocals)) t := fun t k => pre35 t (by
    show Steps p.tables e below (T34.setTop (mkF m 168 (lc0n2_11 p1 p2 p3 p4 p5 b16) [(.ref b34), (.int (0 : Int32)), (.ref b31), (.ref b31)])) _
    refine XS.iconst X34.here hx rfl (hb hby at_168) ?_
    show Steps p.tables e below (T34.setTop (mkF m 169 (lc0n2_11 p1 p2 p3 p4 p5 b16) [(.int (0 : Int32)), (.ref b34), (.int (0 : Int32)), (.ref b31), (.ref b31)])) _
    refine XS.iconst X34.here hx rfl (hb hby at_169) ?_
    show Steps p.tables e below (T34.setTop (mkF m 170 (lc0n2_11 p1 p2 p3 p4 p5 b16) [(.int (0 : Int32)), (.int (0 : Int32)), (.ref b34), (.int (0 : Int32)), (.ref b31), (.ref b31)])) _
    refine XS.aload X34.here hx rfl (hb hby at_170) rfl rfl ?_
    show Steps p.tables e below (T34.setTop (mkF m 172 (lc0n2_11 p1 p2 p3 p4 p5 b16) [(.ref b16), (.int (0 : Int32)), (.int (0 : Int32)), (.ref b34), (.int (0 : Int32)), (.ref b31), (.ref b31)])) _
    refine XS.iconst X34.here hx rfl (hb hby at_172) ?_
    show Steps p.tables e below (T34.setTop (mkF m 173 (lc0n2_11 p1 p2 p3 p4 p5 b16) [(.int (0 : Int32)), (.ref b16), (.int (0 : Int32)), (.int (0 : Int32)), (.ref b34), (.int (0 : Int32)), (.ref b31), (.ref b31)])) _
    exact k)
  obtain ⟨T37, h37, k37, X37, e37, E37, A37, st37⟩ := newP X34 hx hZ (hw _ (List.mem_of_getElem? (i := 5) rfl)) e34 (g := (mkF m 173 (lc0n2_11 p1 p2 p3 p4 p5 b16) [(.int (0 : Int32)), (.ref b16), (.int (0 : Int32)), (.int (0 : Int32)), (.ref b34), (.int (0 : Int32)), (.ref b31), (.ref b31)])) rfl (hb hby at_173) rfl (by decide) (cap := 0) (by decide) (by decide) (by decide) (by decide)
  obtain ⟨b37, g37⟩ : ∃ z, z = h34.size := ⟨_, rfl⟩
  rw [← g37] at A37 st37
  have g_b37 : n0 ≤ b37 := Nat.le_trans Z34 (Nat.le_of_eq g37.symm)
  have ne_b16_b37 : b16 ≠ b37 := Nat.ne_of_lt (Nat.lt_of_lt_of_le A_b16.lt (Nat.le_of_eq g37.symm))
  have ne_b31_b37 : b31 ≠ b37 := Nat.ne_of_lt (Nat.lt_of_lt_of_le E_b31.lt (Nat.le_of_eq g37.symm))
  have ne_b34_b37 : b34 ≠ b37 := Nat.ne_of_lt (Nat.lt_of_lt_of_le A_b34.lt (Nat.le_of_eq g37.symm))
  have A_b16 := A_b16.ext E37
  have E_b31 := E_b31.ext E37
  have F_b31_encoder := F_b31_encoder.ext E37
  have F_b31_sources := F_b31_sources.ext E37
  have F_b31_crossRackDownloads := F_b31_crossRackDownloads.ext E37
  have F_b31_intraRackDownloads := F_b31_intraRackDownloads.ext E37
  have F_b31_kept := F_b31_kept.ext E37
  have F_b31_parity := F_b31_parity.ext E37
  have F_b31_parityUnplaced := F_b31_parityUnplaced.ext E37
  have A_b34 := A_b34.ext E37
  have Z37 : n0 ≤ h37.size := Nat.le_trans Z34 E37.1
  have A_b37 : own_A Z h37 b37 .int 0 (fun _ => (0 : Int32)) := own_A.new A37 rfl rfl
  have pre38 : ∀ t, Steps p.tables e below (T37.setTop (mkF m 175 (lc0n2_11 p1 p2 p3 p4 p5 b16) [(.ref b37), (.ref b16), (.int (0 : Int32)), (.int (0 : Int32)), (.ref b34), (.int (0 : Int32)), (.ref b31), (.ref b31)])) t → Steps p.tables e below (s₁.setTop (entryFrame m #[(.int p1), (.int p2), (.int p3), (.int p4), (.int p5)] maxLocals)) t := fun t k => pre36 t (st37 t k)
  have pre39 : ∀ t, Steps p.tables e below (T37.setTop (mkF m 176 (lc0n2_11 p1 p2 p3 p4 p5 b16) [(.int (0 : Int32)), (.ref b37), (.ref b16), (.int (0 : Int32)), (.int (0 : Int32)), (.ref b34), (.int (0 : Int32)), (.ref b31), (.ref b31)])) t → Steps p.tables e below (s₁.setTop (entryFrame m #[(.int p1), (.int p2), (.int p3), (.int p4), (.int p5)] maxLocals)) t := fun t k => pre38 t (by
    show Steps p.tables e below (T37.setTop (mkF m 175 (lc0n2_11 p1 p2 p3 p4 p5 b16) [(.ref b37), (.ref b16), (.int (0 : Int32)), (.int (0 : Int32)), (.ref b34), (.int (0 : Int32)), (.ref b31), (.ref b31)])) _
    refine XS.iconst X37.here hx rfl (hb hby at_175) ?_
    show Steps p.tables e below (T37.setTop (mkF m 176 (lc0n2_11 p1 p2 p3 p4 p5 b16) [(.int (0 : Int32)), (.ref b37), (.ref b16), (.int (0 : Int32)), (.int (0 : Int32)), (.ref b34), (.int (0 : Int32)), (.ref b31), (.ref b31)])) _
    exact k)
  obtain ⟨_, _, ⟨T40, L40, k40, n40⟩, -, X40, ⟨Lc40, hQ40, l40, y40, z40⟩, st40⟩ := X37.specialBack hx (y := (⟨"com/example/rackstripe/rackstripe/StripePlan", "<init>", "(I[III[I[II)V"⟩ : MethodName)) rfl hown (mvT hZ (hw _ (List.mem_of_getElem? (i := 9) rfl))) (mvT hZ (hw _ (List.mem_of_getElem? (i := 10) rfl))) (mvT hZ (hw _ (List.mem_of_getElem? (i := 11) rfl))) (by decide) (backOf (W := 1) (rm2 l Z a0 hw [] b31 (0 : Int32) b34 (0 : Int32) (0 : Int32) b16 b37 (0 : Int32) h37 n0 Z37 E_b31 F_b31_encoder F_b31_sources F_b31_crossRackDownloads F_b31_intraRackDownloads F_b31_kept F_b31_parity F_b31_parityUnplaced g_b31) hZ (hw _ (List.mem_of_getElem? (i := 11) rfl)) (hw _ (List.mem_of_getElem? (i := 8) rfl)) (by decide) (by decide)) (g := (mkF m 176 (lc0n2_11 p1 p2 p3 p4 p5 b16) [(.int (0 : Int32)), (.ref b37), (.ref b16), (.int (0 : Int32)), (.int (0 : Int32)), (.ref b34), (.int (0 : Int32)), (.ref b31), (.ref b31)])) rfl (by rw [hml]; rfl) (Steps.refl _) (a := b31) (argsL := [(.int (0 : Int32)), (.ref b34), (.int (0 : Int32)), (.int (0 : Int32)), (.ref b16), (.ref b37), (.int (0 : Int32))]) (rest := [(.ref b31)]) (lenOf pd_1 rfl) rfl (by show 2 * 0 + _ ≤ _; exact Nat.le_of_eq rfl) (hb hby at_176) (fun _ _ => ⟨rfl, e37, (by decide : 4 + 0 ≤ _), (by decide : 9 + 0 ≤ _)⟩)
  dsimp only [Pt.U, Pt.locs, Pt.cells, Pt.slots] at X40 l40 y40 z40 st40 hQ40
  subst l40 y40 z40
  obtain ⟨rfl, N40q, K40, q40_0⟩ := hQ40
  have A_b16 := A_b16.keep K40 (ninS ne_b16_b31 nin0)
  have E_b31 := E_b31.keep K40
  have A_b34 := A_b34.keep K40 (ninS (Ne.symm ne_b31_b34) nin0)
  have A_b37 := A_b37.keep K40 (ninS (Ne.symm ne_b31_b37) nin0)
  have Z40 : n0 ≤ T40.heap.size := Nat.le_trans Z37 K40.1
  have F_b31_kept := q40_0
  have N40 := Fr.app N22 N40q
  have pre41 : ∀ t, Steps p.tables e below (T40.setTop (mkF m 179 (lc0n2_11 p1 p2 p3 p4 p5 b16) [(.ref b31)])) t → Steps p.tables e below (s₁.setTop (entryFrame m #[(.int p1), (.int p2), (.int p3), (.int p4), (.int p5)] maxLocals)) t := fun t k => pre39 t (st40.trans k)
  have pre42 : ∀ t, Steps p.tables e below (T40.setTop (mkF m 183 (lc0n2_12 p1 p2 p3 p4 p5 b16 b31) [(.ref b31)])) t → Steps p.tables e below (s₁.setTop (entryFrame m #[(.int p1), (.int p2), (.int p3), (.int p4), (.int p5)] maxLocals)) t := fun t k => pre41 t (by
    show Steps p.tables e below (T40.setTop (mkF m 179 (lc0n2_11 p1 p2 p3 p4 p5 b16) [(.ref b31)])) _
    refine XS.astore X40.here hx rfl (hb hby at_179) rfl rfl (l' := (lc0n2_12 p1 p2 p3 p4 p5 b16 b31)) rfl ?_
    show Steps p.tables e below (T40.setTop (mkF m 181 (lc0n2_12 p1 p2 p3 p4 p5 b16 b31) [])) _
    refine XS.aload X40.here hx rfl (hb hby at_181) rfl rfl ?_
    show Steps p.tables e below (T40.setTop (mkF m 183 (lc0n2_12 p1 p2 p3 p4 p5 b16 b31) [(.ref b31)])) _
    exact k)
  have A_b16 : own_A Z T40.heap b16 .int 2 (own_vec (own_node p2) (own_node p3) (own_node p4) (own_node p5)) := own_A.congr A_b16 (by
    intro i hi
    rcases i with _ | _ | _ | _ | i
    all_goals first | omega | simp [own_put, own_vec])
  obtain ⟨cq43, kq43, q43a, q43b, q43c⟩ := isOf hZ rfl E_b31
  obtain ⟨_, _, ⟨T43, L43, k43, n43⟩, -, X43, ⟨Lc43, hQ43, l43, y43, z43⟩, st43⟩ := X40.virtualBack hx (y := (⟨"com/example/rackstripe/rackstripe/StripePlan", "relocations", "()I"⟩ : MethodName)) (z := (⟨"com/example/rackstripe/rackstripe/StripePlan", "relocations", "()I"⟩ : MethodName)) hown (mvT hZ (hw _ (List.mem_of_getElem? (i := 29) rfl))) (mvT hZ (hw _ (List.mem_of_getElem? (i := 30) rfl))) (notFace_of_selects (args := #[]) (mvT hZ (hw _ (List.mem_of_getElem? (i := 32) rfl)))) (mvT hZ (hw _ (List.mem_of_getElem? (i := 32) rfl))) (mvT hZ (hw _ (List.mem_of_getElem? (i := 31) rfl))) (by decide) (backOf (W := 0) (rmR2 l Z a0 hw [] b31 (own_vec (own_node p2) (own_node p3) (own_node p4) (own_node p5)) b16 T40.heap n0 Z40 E_b31 F_b31_kept A_b16) hZ (hw _ (List.mem_of_getElem? (i := 33) rfl)) (hw _ (List.mem_of_getElem? (i := 8) rfl)) (by decide) (by decide)) q43a q43c (g := (mkF m 183 (lc0n2_12 p1 p2 p3 p4 p5 b16 b31) [(.ref b31)])) rfl (by rw [hml]; rfl) (Steps.refl _) (argsL := []) (rest := []) (lenOf pd_3 rfl) rfl (by show 2 * 0 + _ ≤ _; exact Nat.le_of_eq rfl) (hb hby at_183) (fun _ _ => ⟨rfl, rfl, (by decide : 4 + 0 ≤ _), (by decide : 9 + 0 ≤ _)⟩)
  dsimp only [Pt.U, Pt.locs, Pt.cells, Pt.slots] at X43 l43 y43 z43 st43 hQ43
  subst l43 y43 z43
  obtain ⟨rfl, N43q, e43⟩ := hQ43
  have N43 := Fr.app N40 N43q
  have pre44 : ∀ t, Steps p.tables e below (T43.setTop (mkF m 186 (lc0n2_12 p1 p2 p3 p4 p5 b16 b31) [(.int (own_rel2 (own_vec (own_node p2) (own_node p3) (own_node p4) (own_node p5))))])) t → Steps p.tables e below (s₁.setTop (entryFrame m #[(.int p1), (.int p2), (.int p3), (.int p4), (.int p5)] maxLocals)) t := fun t k => pre42 t (st43.trans k)
  have pre45 : ∀ t, Steps p.tables e below (T43.setTop (mkF m 196 (lc0n2_12 p1 p2 p3 p4 p5 b16 b31) [(.int (1 : Int32))])) t → Steps p.tables e below (s₁.setTop (entryFrame m #[(.int p1), (.int p2), (.int p3), (.int p4), (.int p5)] maxLocals)) t := fun t k => pre44 t (by
    show Steps p.tables e below (T43.setTop (mkF m 186 (lc0n2_12 p1 p2 p3 p4 p5 b16 b31) [(.int (own_rel2 (own_vec (own_node p2) (own_node p3) (own_node p4) (own_node p5))))])) _
    refine XS.iload X43.here hx rfl (hb hby at_186) rfl ?_
    show Steps p.tables e below (T43.setTop (mkF m 188 (lc0n2_12 p1 p2 p3 p4 p5 b16 b31) [(.int (if (own_node p3) = (-1 : Int32) then ((if (own_node p2) = (-1 : Int32) then (1 : Int32) else (0 : Int32)) + (1 : Int32)) else (if (own_node p2) = (-1 : Int32) then (1 : Int32) else (0 : Int32)))), (.int (own_rel2 (own_vec (own_node p2) (own_node p3) (own_node p4) (own_node p5))))])) _
    refine XS.icmpNo X43.here hx rfl (hb hby at_188) rfl (teq (show (own_rel2 (own_vec (own_node p2) (own_node p3) (own_node p4) (own_node p5))) = (if (own_node p3) = (-1 : Int32) then ((if (own_node p2) = (-1 : Int32) then (1 : Int32) else (0 : Int32)) + (1 : Int32)) else (if (own_node p2) = (-1 : Int32) then (1 : Int32) else (0 : Int32))) from own_law2 p2 p3 p4 p5)).2 ?_
    show Steps p.tables e below (T43.setTop (mkF m 191 (lc0n2_12 p1 p2 p3 p4 p5 b16 b31) [])) _
    refine XS.iconst X43.here hx rfl (hb hby at_191) ?_
    show Steps p.tables e below (T43.setTop (mkF m 192 (lc0n2_12 p1 p2 p3 p4 p5 b16 b31) [(.int (1 : Int32))])) _
    refine XS.goto X43.here hx rfl (pc0 := 192) (pc' := 196) rfl (hb hby at_192) (by decide) (by decide) ?_
    show Steps p.tables e below (T43.setTop (mkF m 196 (lc0n2_12 p1 p2 p3 p4 p5 b16 b31) [(.int (1 : Int32))])) _
    exact k)
  obtain ⟨fs, hr, hrun, hended, hW, hsame⟩ := X43.leave (v := some (.int (1 : Int32))) (fun h => by rw [Bd.returns] at h; cases h) hlk
  refine ⟨_, _, pre45 _ ?_, hrun, hended, _, _, rfl, ?_, ⟨_, rfl⟩, hW, hsame.mono (by decide) (by decide)⟩
  · show Steps p.tables e below (T43.setTop (mkF m 196 (lc0n2_12 p1 p2 p3 p4 p5 b16 b31) [(.int (1 : Int32))])) _
    exact retN X43 hx (t := .boolean) Bd.returns (by simp) (hb hby at_196) hr
  · show Q0n2 Z p1 p2 p3 p4 p5 h0 n0 _ T43.heap _
    rw [e43]
    exact ⟨rfl, N43⟩
def lc0n3_0 (p1 : Int32) (p2 : Int32) (p3 : Int32) (p4 : Int32) (p5 : Int32) : Array Slot := #[.val (.int p1), .val (.int p2), .val (.int p3), .val (.int p4), .val (.int p5), .val (.int (3 : Int32)), .unset, .unset, .unset, .unset, .unset, .unset, .unset]
def lc0n3_1 (p1 : Int32) (p2 : Int32) (p3 : Int32) (p4 : Int32) (p5 : Int32) : Array Slot := #[.val (.int p1), .val (.int p2), .val (.int p3), .val (.int p4), .val (.int p5), .val (.int (3 : Int32)), .val (.int (own_node p2)), .unset, .unset, .unset, .unset, .unset, .unset]
def lc0n3_2 (p1 : Int32) (p2 : Int32) (p3 : Int32) (p4 : Int32) (p5 : Int32) : Array Slot := #[.val (.int p1), .val (.int p2), .val (.int p3), .val (.int p4), .val (.int p5), .val (.int (3 : Int32)), .val (.int (own_node p2)), .val (.int (own_node p3)), .unset, .unset, .unset, .unset, .unset]
def lc0n3_3 (p1 : Int32) (p2 : Int32) (p3 : Int32) (p4 : Int32) (p5 : Int32) : Array Slot := #[.val (.int p1), .val (.int p2), .val (.int p3), .val (.int p4), .val (.int p5), .val (.int (3 : Int32)), .val (.int (own_node p2)), .val (.int (own_node p3)), .val (.int (own_node p4)), .unset, .unset, .unset, .unset]
def lc0n3_4 (p1 : Int32) (p2 : Int32) (p3 : Int32) (p4 : Int32) (p5 : Int32) : Array Slot := #[.val (.int p1), .val (.int p2), .val (.int p3), .val (.int p4), .val (.int p5), .val (.int (3 : Int32)), .val (.int (own_node p2)), .val (.int (own_node p3)), .val (.int (own_node p4)), .val (.int (own_node p5)), .unset, .unset, .unset]
def lc0n3_5 (p1 : Int32) (p2 : Int32) (p3 : Int32) (p4 : Int32) (p5 : Int32) (b16 : Addr) : Array Slot := #[.val (.int p1), .val (.int p2), .val (.int p3), .val (.int p4), .val (.int p5), .val (.int (3 : Int32)), .val (.int (own_node p2)), .val (.int (own_node p3)), .val (.int (own_node p4)), .val (.int (own_node p5)), .val (.ref b16), .unset, .unset]
def lc0n3_6 (p1 : Int32) (p2 : Int32) (p3 : Int32) (p4 : Int32) (p5 : Int32) (b16 : Addr) : Array Slot := #[.val (.int p1), .val (.int p2), .val (.int p3), .val (.int p4), .val (.int p5), .val (.int (3 : Int32)), .val (.int (own_node p2)), .val (.int (own_node p3)), .val (.int (own_node p4)), .val (.int (own_node p5)), .val (.ref b16), .val (.int (0 : Int32)), .unset]
def lc0n3_7 (p1 : Int32) (p2 : Int32) (p3 : Int32) (p4 : Int32) (p5 : Int32) (b16 : Addr) : Array Slot := #[.val (.int p1), .val (.int p2), .val (.int p3), .val (.int p4), .val (.int p5), .val (.int (3 : Int32)), .val (.int (own_node p2)), .val (.int (own_node p3)), .val (.int (own_node p4)), .val (.int (own_node p5)), .val (.ref b16), .val (.int (1 : Int32)), .unset]
def lc0n3_8 (p1 : Int32) (p2 : Int32) (p3 : Int32) (p4 : Int32) (p5 : Int32) (b16 : Addr) (xI : Int32) : Array Slot := #[.val (.int p1), .val (.int p2), .val (.int p3), .val (.int p4), .val (.int p5), .val (.int (3 : Int32)), .val (.int (own_node p2)), .val (.int (own_node p3)), .val (.int (own_node p4)), .val (.int (own_node p5)), .val (.ref b16), .val (.int xI), .unset]
def lc0n3_9 (p1 : Int32) (p2 : Int32) (p3 : Int32) (p4 : Int32) (p5 : Int32) (b16 : Addr) : Array Slot := #[.val (.int p1), .val (.int p2), .val (.int p3), .val (.int p4), .val (.int p5), .val (.int (3 : Int32)), .val (.int (own_node p2)), .val (.int (own_node p3)), .val (.int (own_node p4)), .val (.int (own_node p5)), .val (.ref b16), .val (.int (if (own_node p2) = (-1 : Int32) then (1 : Int32) else (0 : Int32))), .unset]
def lc0n3_10 (p1 : Int32) (p2 : Int32) (p3 : Int32) (p4 : Int32) (p5 : Int32) (b16 : Addr) : Array Slot := #[.val (.int p1), .val (.int p2), .val (.int p3), .val (.int p4), .val (.int p5), .val (.int (3 : Int32)), .val (.int (own_node p2)), .val (.int (own_node p3)), .val (.int (own_node p4)), .val (.int (own_node p5)), .val (.ref b16), .val (.int ((if (own_node p2) = (-1 : Int32) then (1 : Int32) else (0 : Int32)) + (1 : Int32))), .unset]
def lc0n3_11 (p1 : Int32) (p2 : Int32) (p3 : Int32) (p4 : Int32) (p5 : Int32) (b16 : Addr) : Array Slot := #[.val (.int p1), .val (.int p2), .val (.int p3), .val (.int p4), .val (.int p5), .val (.int (3 : Int32)), .val (.int (own_node p2)), .val (.int (own_node p3)), .val (.int (own_node p4)), .val (.int (own_node p5)), .val (.ref b16), .val (.int (if (own_node p3) = (-1 : Int32) then ((if (own_node p2) = (-1 : Int32) then (1 : Int32) else (0 : Int32)) + (1 : Int32)) else (if (own_node p2) = (-1 : Int32) then (1 : Int32) else (0 : Int32)))), .unset]
def lc0n3_12 (p1 : Int32) (p2 : Int32) (p3 : Int32) (p4 : Int32) (p5 : Int32) (b16 : Addr) : Array Slot := #[.val (.int p1), .val (.int p2), .val (.int p3), .val (.int p4), .val (.int p5), .val (.int (3 : Int32)), .val (.int (own_node p2)), .val (.int (own_node p3)), .val (.int (own_node p4)), .val (.int (own_node p5)), .val (.ref b16), .val (.int ((if (own_node p3) = (-1 : Int32) then ((if (own_node p2) = (-1 : Int32) then (1 : Int32) else (0 : Int32)) + (1 : Int32)) else (if (own_node p2) = (-1 : Int32) then (1 : Int32) else (0 : Int32))) + (1 : Int32))), .unset]
def lc0n3_13 (p1 : Int32) (p2 : Int32) (p3 : Int32) (p4 : Int32) (p5 : Int32) (b16 : Addr) : Array Slot := #[.val (.int p1), .val (.int p2), .val (.int p3), .val (.int p4), .val (.int p5), .val (.int (3 : Int32)), .val (.int (own_node p2)), .val (.int (own_node p3)), .val (.int (own_node p4)), .val (.int (own_node p5)), .val (.ref b16), .val (.int (if (own_node p4) = (-1 : Int32) then ((if (own_node p3) = (-1 : Int32) then ((if (own_node p2) = (-1 : Int32) then (1 : Int32) else (0 : Int32)) + (1 : Int32)) else (if (own_node p2) = (-1 : Int32) then (1 : Int32) else (0 : Int32))) + (1 : Int32)) else (if (own_node p3) = (-1 : Int32) then ((if (own_node p2) = (-1 : Int32) then (1 : Int32) else (0 : Int32)) + (1 : Int32)) else (if (own_node p2) = (-1 : Int32) then (1 : Int32) else (0 : Int32))))), .unset]
def lc0n3_14 (p1 : Int32) (p2 : Int32) (p3 : Int32) (p4 : Int32) (p5 : Int32) (b16 : Addr) (b37 : Addr) : Array Slot := #[.val (.int p1), .val (.int p2), .val (.int p3), .val (.int p4), .val (.int p5), .val (.int (3 : Int32)), .val (.int (own_node p2)), .val (.int (own_node p3)), .val (.int (own_node p4)), .val (.int (own_node p5)), .val (.ref b16), .val (.int (if (own_node p4) = (-1 : Int32) then ((if (own_node p3) = (-1 : Int32) then ((if (own_node p2) = (-1 : Int32) then (1 : Int32) else (0 : Int32)) + (1 : Int32)) else (if (own_node p2) = (-1 : Int32) then (1 : Int32) else (0 : Int32))) + (1 : Int32)) else (if (own_node p3) = (-1 : Int32) then ((if (own_node p2) = (-1 : Int32) then (1 : Int32) else (0 : Int32)) + (1 : Int32)) else (if (own_node p2) = (-1 : Int32) then (1 : Int32) else (0 : Int32))))), .val (.ref b37)]
def Q0n3 (Z : State) (p1 : Int32) (p2 : Int32) (p3 : Int32) (p4 : Int32) (p5 : Int32) (h0 : Heap) (n0 : Nat) (v : Option Value) (h : Heap) (L : List Loc) : Prop := v = some (.int (1 : Int32)) ∧ Fr n0 L
set_option maxRecDepth 65536 in
set_option maxHeartbeats 40000000 in
theorem rm0n3 (l : Launch) (Z : State) (a0 : Array Value) (hw : ∀ d ∈ tables_1, d.before a0 Z = true) (ws : List Jvm.Cond) (p1 : Int32) (p2 : Int32) (p3 : Int32) (p4 : Int32) (p5 : Int32) (h0 : Heap) (n0 : Nat) (Z0 : n0 ≤ h0.size) (ek : ((p1 &&& (2147483647 : Int32)) % (5 : Int32)) = (3 : Int32)) :
    MetFree l x (head1 (Jvm.Cond.code x code maxLocals ret :: ws) room_1) (fun aa U => aa = #[(.int p1), (.int p2), (.int p3), (.int p4), (.int p5)] ∧ Z.Warmed39 U.vm ∧ U.heap = h0) (fun _ _ _ _ _ => True) (fun _ U o U' => ∃ v L, o = .returned v ∧ Q0n3 Z p1 p2 p3 p4 p5 h0 n0 v U'.heap L ∧ FrameEnd U o U' L room_1.cells room_1.slots) := by
  refine MetFree.of_bodySF (plainFor_of_name pn_StripePlanRelocationsPinLaw) hisR ?_
  intro p e s m args below meth c s₁ Bd hml0 hP hK
  obtain ⟨rfl, hZ, hh⟩ := hP
  have hx := Bd.exec
  have hby := Bd.bytes
  have hml : c.maxLocals = 13 := hml0
  have hown : s.vm.findClass "com/example/rackstripe/rackstripe/StripePlanRelocationsPinLaw" = some m.cls := findClass_of_methodNamed Bd.named
  have hnm := (name_of_methodNamed Bd.named Bd.method).1
  have X0 : Stand p l e room_1 s m #[(.int p1), (.int p2), (.int p3), (.int p4), (.int p5)] below meth c s₁ [] 0 0 := Stand.of_body Bd
  have e0 : s₁.heap = h0 := by rw [← hh, Bd.state]; rfl
  have N0 := Fr.nil n0
  have hlk : meth.locks = false := by first | exact BodyLoose.notSynchronized Bd | exact Body.notSynchronized Bd
  have pre0 : ∀ t, Steps p.tables e below (s₁.setTop (mkF m 0 #[.val (.int p1), .val (.int p2), .val (.int p3), .val (.int p4), .val (.int p5), .unset, .unset, .unset, .unset, .unset, .unset, .unset, .unset] [])) t → Steps p.tables e below (s₁.setTop (entryFrame m #[(.int p1), (.int p2), (.int p3), (.int p4), (.int p5)] maxLocals)) t := fun t k => castTop (ef_0 m p1 p2 p3 p4 p5) k
  have pre1 : ∀ t, Steps p.tables e below (s₁.setTop (mkF m 6 #[.val (.int p1), .val (.int p2), .val (.int p3), .val (.int p4), .val (.int p5), .unset, .unset, .unset, .unset, .unset, .unset, .unset, .unset] [(.int ((p1 &&& (2147483647 : Int32)) % (5 : Int32)))])) t → Steps p.tables e below (s₁.setTop (entryFrame m #[(.int p1), (.int p2), (.int p3), (.int p4), (.int p5)] maxLocals)) t := fun t k => pre0 t (by
    show Steps p.tables e below (s₁.setTop (mkF m 0 #[.val (.int p1), .val (.int p2), .val (.int p3), .val (.int p4), .val (.int p5), .unset, .unset, .unset, .unset, .unset, .unset, .unset, .unset] [])) _
    refine XS.iloadN X0.here hx rfl (hb hby at_0) rfl ?_
    show Steps p.tables e below (s₁.setTop (mkF m 1 #[.val (.int p1), .val (.int p2), .val (.int p3), .val (.int p4), .val (.int p5), .unset, .unset, .unset, .unset, .unset, .unset, .unset, .unset] [(.int p1)])) _
    refine X0.ldcInt hx hown (mvT hZ (hw _ (List.mem_of_getElem? (i := 0) rfl))) (g := (mkF m 1 #[.val (.int p1), .val (.int p2), .val (.int p3), .val (.int p4), .val (.int p5), .unset, .unset, .unset, .unset, .unset, .unset, .unset, .unset] [(.int p1)])) rfl (hb hby at_1) _ ?_
    show Steps p.tables e below (s₁.setTop (mkF m 3 #[.val (.int p1), .val (.int p2), .val (.int p3), .val (.int p4), .val (.int p5), .unset, .unset, .unset, .unset, .unset, .unset, .unset, .unset] [(.int (2147483647 : Int32)), (.int p1)])) _
    refine XS.iand X0.here hx rfl (hb hby at_3) rfl ?_
    show Steps p.tables e below (s₁.setTop (mkF m 4 #[.val (.int p1), .val (.int p2), .val (.int p3), .val (.int p4), .val (.int p5), .unset, .unset, .unset, .unset, .unset, .unset, .unset, .unset] [(.int (p1 &&& (2147483647 : Int32)))])) _
    refine XS.iconst X0.here hx rfl (hb hby at_4) ?_
    show Steps p.tables e below (s₁.setTop (mkF m 5 #[.val (.int p1), .val (.int p2), .val (.int p3), .val (.int p4), .val (.int p5), .unset, .unset, .unset, .unset, .unset, .unset, .unset, .unset] [(.int (5 : Int32)), (.int (p1 &&& (2147483647 : Int32)))])) _
    refine iremM X0 hx rfl (hb hby at_5) rfl (by decide) ?_
    show Steps p.tables e below (s₁.setTop (mkF m 6 #[.val (.int p1), .val (.int p2), .val (.int p3), .val (.int p4), .val (.int p5), .unset, .unset, .unset, .unset, .unset, .unset, .unset, .unset] [(.int ((p1 &&& (2147483647 : Int32)) % (5 : Int32)))])) _
    exact k)
  have pre2 : ∀ t, Steps p.tables e below (s₁.setTop (mkF m 6 #[.val (.int p1), .val (.int p2), .val (.int p3), .val (.int p4), .val (.int p5), .unset, .unset, .unset, .unset, .unset, .unset, .unset, .unset] [(.int (3 : Int32))])) t → Steps p.tables e below (s₁.setTop (entryFrame m #[(.int p1), (.int p2), (.int p3), (.int p4), (.int p5)] maxLocals)) t := fun t k => pre1 t (by rw [ek]; exact k)
  have pre3 : ∀ t, Steps p.tables e below (s₁.setTop (mkF m 9 (lc0n3_0 p1 p2 p3 p4 p5) [(.int p2)])) t → Steps p.tables e below (s₁.setTop (entryFrame m #[(.int p1), (.int p2), (.int p3), (.int p4), (.int p5)] maxLocals)) t := fun t k => pre2 t (by
    show Steps p.tables e below (s₁.setTop (mkF m 6 #[.val (.int p1), .val (.int p2), .val (.int p3), .val (.int p4), .val (.int p5), .unset, .unset, .unset, .unset, .unset, .unset, .unset, .unset] [(.int (3 : Int32))])) _
    refine XS.istore X0.here hx rfl (hb hby at_6) rfl (l' := (lc0n3_0 p1 p2 p3 p4 p5)) rfl ?_
    show Steps p.tables e below (s₁.setTop (mkF m 8 (lc0n3_0 p1 p2 p3 p4 p5) [])) _
    refine XS.iloadN X0.here hx rfl (hb hby at_8) rfl ?_
    show Steps p.tables e below (s₁.setTop (mkF m 9 (lc0n3_0 p1 p2 p3 p4 p5) [(.int p2)])) _
    exact k)
  obtain ⟨_, _, ⟨T4, L4, k4, n4⟩, -, X4, ⟨Lc4, hQ4, l4, y4, z4⟩, st4⟩ := Jvm.LawKit.callS X0 hx (y := (⟨"com/example/rackstripe/rackstripe/StripePlanRelocationsPinLaw", "node", "(I)I"⟩ : MethodName)) hown (mvT hZ (hw _ (List.mem_of_getElem? (i := 1) rfl))) (mvT hZ (hw _ (List.mem_of_getElem? (i := 2) rfl))) (mvT hZ (hw _ (List.mem_of_getElem? (i := 3) rfl))) (mvT hZ (hw _ (List.mem_of_getElem? (i := 4) rfl))) (by decide) (backOf (W := 0) (rm1 l Z a0 hw [] p2 h0 n0 Z0) hZ (hw _ (List.mem_of_getElem? (i := 4) rfl)) (hw _ (List.mem_of_getElem? (i := 3) rfl)) (by decide) (by decide)) (g := (mkF m 9 (lc0n3_0 p1 p2 p3 p4 p5) [(.int p2)])) rfl (by rw [hml]; rfl) (argsL := [(.int p2)]) (rest := []) (lenOf pd_0 rfl) rfl (by show 2 * 0 + _ ≤ _; exact Nat.le_of_eq rfl) (hb hby at_9) (fun _ _ => ⟨rfl, e0, (by decide : 0 + 0 ≤ _), (by decide : 0 + 0 ≤ _)⟩)
  dsimp only [Pt.U, Pt.locs, Pt.cells, Pt.slots] at X4 l4 y4 z4 st4 hQ4
  subst l4 y4 z4
  obtain ⟨rfl, N4q, e4⟩ := hQ4
  have N4 := Fr.app N0 N4q
  have pre5 : ∀ t, Steps p.tables e below (T4.setTop (mkF m 12 (lc0n3_0 p1 p2 p3 p4 p5) [(.int (own_node p2))])) t → Steps p.tables e below (s₁.setTop (entryFrame m #[(.int p1), (.int p2), (.int p3), (.int p4), (.int p5)] maxLocals)) t := fun t k => pre3 t (st4 t k)
  have pre6 : ∀ t, Steps p.tables e below (T4.setTop (mkF m 15 (lc0n3_1 p1 p2 p3 p4 p5) [(.int p3)])) t → Steps p.tables e below (s₁.setTop (entryFrame m #[(.int p1), (.int p2), (.int p3), (.int p4), (.int p5)] maxLocals)) t := fun t k => pre5 t (by
    show Steps p.tables e below (T4.setTop (mkF m 12 (lc0n3_0 p1 p2 p3 p4 p5) [(.int (own_node p2))])) _
    refine XS.istore X4.here hx rfl (hb hby at_12) rfl (l' := (lc0n3_1 p1 p2 p3 p4 p5)) rfl ?_
    show Steps p.tables e below (T4.setTop (mkF m 14 (lc0n3_1 p1 p2 p3 p4 p5) [])) _
    refine XS.iloadN X4.here hx rfl (hb hby at_14) rfl ?_
    show Steps p.tables e below (T4.setTop (mkF m 15 (lc0n3_1 p1 p2 p3 p4 p5) [(.int p3)])) _
    exact k)
  obtain ⟨_, _, ⟨T7, L7, k7, n7⟩, -, X7, ⟨Lc7, hQ7, l7, y7, z7⟩, st7⟩ := Jvm.LawKit.callS X4 hx (y := (⟨"com/example/rackstripe/rackstripe/StripePlanRelocationsPinLaw", "node", "(I)I"⟩ : MethodName)) hown (mvT hZ (hw _ (List.mem_of_getElem? (i := 1) rfl))) (mvT hZ (hw _ (List.mem_of_getElem? (i := 2) rfl))) (mvT hZ (hw _ (List.mem_of_getElem? (i := 3) rfl))) (mvT hZ (hw _ (List.mem_of_getElem? (i := 4) rfl))) (by decide) (backOf (W := 0) (rm1 l Z a0 hw [] p3 h0 n0 Z0) hZ (hw _ (List.mem_of_getElem? (i := 4) rfl)) (hw _ (List.mem_of_getElem? (i := 3) rfl)) (by decide) (by decide)) (g := (mkF m 15 (lc0n3_1 p1 p2 p3 p4 p5) [(.int p3)])) rfl (by rw [hml]; rfl) (argsL := [(.int p3)]) (rest := []) (lenOf pd_0 rfl) rfl (by show 2 * 0 + _ ≤ _; exact Nat.le_of_eq rfl) (hb hby at_15) (fun _ _ => ⟨rfl, e4, (by decide : 0 + 0 ≤ _), (by decide : 0 + 0 ≤ _)⟩)
  dsimp only [Pt.U, Pt.locs, Pt.cells, Pt.slots] at X7 l7 y7 z7 st7 hQ7
  subst l7 y7 z7
  obtain ⟨rfl, N7q, e7⟩ := hQ7
  have N7 := Fr.app N4 N7q
  have pre8 : ∀ t, Steps p.tables e below (T7.setTop (mkF m 18 (lc0n3_1 p1 p2 p3 p4 p5) [(.int (own_node p3))])) t → Steps p.tables e below (s₁.setTop (entryFrame m #[(.int p1), (.int p2), (.int p3), (.int p4), (.int p5)] maxLocals)) t := fun t k => pre6 t (st7 t k)
  have pre9 : ∀ t, Steps p.tables e below (T7.setTop (mkF m 21 (lc0n3_2 p1 p2 p3 p4 p5) [(.int p4)])) t → Steps p.tables e below (s₁.setTop (entryFrame m #[(.int p1), (.int p2), (.int p3), (.int p4), (.int p5)] maxLocals)) t := fun t k => pre8 t (by
    show Steps p.tables e below (T7.setTop (mkF m 18 (lc0n3_1 p1 p2 p3 p4 p5) [(.int (own_node p3))])) _
    refine XS.istore X7.here hx rfl (hb hby at_18) rfl (l' := (lc0n3_2 p1 p2 p3 p4 p5)) rfl ?_
    show Steps p.tables e below (T7.setTop (mkF m 20 (lc0n3_2 p1 p2 p3 p4 p5) [])) _
    refine XS.iloadN X7.here hx rfl (hb hby at_20) rfl ?_
    show Steps p.tables e below (T7.setTop (mkF m 21 (lc0n3_2 p1 p2 p3 p4 p5) [(.int p4)])) _
    exact k)
  obtain ⟨_, _, ⟨T10, L10, k10, n10⟩, -, X10, ⟨Lc10, hQ10, l10, y10, z10⟩, st10⟩ := Jvm.LawKit.callS X7 hx (y := (⟨"com/example/rackstripe/rackstripe/StripePlanRelocationsPinLaw", "node", "(I)I"⟩ : MethodName)) hown (mvT hZ (hw _ (List.mem_of_getElem? (i := 1) rfl))) (mvT hZ (hw _ (List.mem_of_getElem? (i := 2) rfl))) (mvT hZ (hw _ (List.mem_of_getElem? (i := 3) rfl))) (mvT hZ (hw _ (List.mem_of_getElem? (i := 4) rfl))) (by decide) (backOf (W := 0) (rm1 l Z a0 hw [] p4 h0 n0 Z0) hZ (hw _ (List.mem_of_getElem? (i := 4) rfl)) (hw _ (List.mem_of_getElem? (i := 3) rfl)) (by decide) (by decide)) (g := (mkF m 21 (lc0n3_2 p1 p2 p3 p4 p5) [(.int p4)])) rfl (by rw [hml]; rfl) (argsL := [(.int p4)]) (rest := []) (lenOf pd_0 rfl) rfl (by show 2 * 0 + _ ≤ _; exact Nat.le_of_eq rfl) (hb hby at_21) (fun _ _ => ⟨rfl, e7, (by decide : 0 + 0 ≤ _), (by decide : 0 + 0 ≤ _)⟩)
  dsimp only [Pt.U, Pt.locs, Pt.cells, Pt.slots] at X10 l10 y10 z10 st10 hQ10
  subst l10 y10 z10
  obtain ⟨rfl, N10q, e10⟩ := hQ10
  have N10 := Fr.app N7 N10q
  have pre11 : ∀ t, Steps p.tables e below (T10.setTop (mkF m 24 (lc0n3_2 p1 p2 p3 p4 p5) [(.int (own_node p4))])) t → Steps p.tables e below (s₁.setTop (entryFrame m #[(.int p1), (.int p2), (.int p3), (.int p4), (.int p5)] maxLocals)) t := fun t k => pre9 t (st10 t k)
  have pre12 : ∀ t, Steps p.tables e below (T10.setTop (mkF m 28 (lc0n3_3 p1 p2 p3 p4 p5) [(.int p5)])) t → Steps p.tables e below (s₁.setTop (entryFrame m #[(.int p1), (.int p2), (.int p3), (.int p4), (.int p5)] maxLocals)) t := fun t k => pre11 t (by
    show Steps p.tables e below (T10.setTop (mkF m 24 (lc0n3_2 p1 p2 p3 p4 p5) [(.int (own_node p4))])) _
    refine XS.istore X10.here hx rfl (hb hby at_24) rfl (l' := (lc0n3_3 p1 p2 p3 p4 p5)) rfl ?_
    show Steps p.tables e below (T10.setTop (mkF m 26 (lc0n3_3 p1 p2 p3 p4 p5) [])) _
    refine XS.iload X10.here hx rfl (hb hby at_26) rfl ?_
    show Steps p.tables e below (T10.setTop (mkF m 28 (lc0n3_3 p1 p2 p3 p4 p5) [(.int p5)])) _
    exact k)
  obtain ⟨_, _, ⟨T13, L13, k13, n13⟩, -, X13, ⟨Lc13, hQ13, l13, y13, z13⟩, st13⟩ := Jvm.LawKit.callS X10 hx (y := (⟨"com/example/rackstripe/rackstripe/StripePlanRelocationsPinLaw", "node", "(I)I"⟩ : MethodName)) hown (mvT hZ (hw _ (List.mem_of_getElem? (i := 1) rfl))) (mvT hZ (hw _ (List.mem_of_getElem? (i := 2) rfl))) (mvT hZ (hw _ (List.mem_of_getElem? (i := 3) rfl))) (mvT hZ (hw _ (List.mem_of_getElem? (i := 4) rfl))) (by decide) (backOf (W := 0) (rm1 l Z a0 hw [] p5 h0 n0 Z0) hZ (hw _ (List.mem_of_getElem? (i := 4) rfl)) (hw _ (List.mem_of_getElem? (i := 3) rfl)) (by decide) (by decide)) (g := (mkF m 28 (lc0n3_3 p1 p2 p3 p4 p5) [(.int p5)])) rfl (by rw [hml]; rfl) (argsL := [(.int p5)]) (rest := []) (lenOf pd_0 rfl) rfl (by show 2 * 0 + _ ≤ _; exact Nat.le_of_eq rfl) (hb hby at_28) (fun _ _ => ⟨rfl, e10, (by decide : 0 + 0 ≤ _), (by decide : 0 + 0 ≤ _)⟩)
  dsimp only [Pt.U, Pt.locs, Pt.cells, Pt.slots] at X13 l13 y13 z13 st13 hQ13
  subst l13 y13 z13
  obtain ⟨rfl, N13q, e13⟩ := hQ13
  have N13 := Fr.app N10 N13q
  have pre14 : ∀ t, Steps p.tables e below (T13.setTop (mkF m 31 (lc0n3_3 p1 p2 p3 p4 p5) [(.int (own_node p5))])) t → Steps p.tables e below (s₁.setTop (entryFrame m #[(.int p1), (.int p2), (.int p3), (.int p4), (.int p5)] maxLocals)) t := fun t k => pre12 t (st13 t k)
  have pre15 : ∀ t, Steps p.tables e below (T13.setTop (mkF m 35 (lc0n3_4 p1 p2 p3 p4 p5) [(.int (3 : Int32))])) t → Steps p.tables e below (s₁.setTop (entryFrame m #[(.int p1), (.int p2), (.int p3), (.int p4), (.int p5)] maxLocals)) t := fun t k => pre14 t (by
    show Steps p.tables e below (T13.setTop (mkF m 31 (lc0n3_3 p1 p2 p3 p4 p5) [(.int (own_node p5))])) _
    refine XS.istore X13.here hx rfl (hb hby at_31) rfl (l' := (lc0n3_4 p1 p2 p3 p4 p5)) rfl ?_
    show Steps p.tables e below (T13.setTop (mkF m 33 (lc0n3_4 p1 p2 p3 p4 p5) [])) _
    refine XS.iload X13.here hx rfl (hb hby at_33) rfl ?_
    show Steps p.tables e below (T13.setTop (mkF m 35 (lc0n3_4 p1 p2 p3 p4 p5) [(.int (3 : Int32))])) _
    exact k)
  obtain ⟨T16, h16, k16, X16, e16, E16, A16, st16⟩ := newP X13 hx hZ (hw _ (List.mem_of_getElem? (i := 5) rfl)) e13 (g := (mkF m 35 (lc0n3_4 p1 p2 p3 p4 p5) [(.int (3 : Int32))])) rfl (hb hby at_35) rfl (by decide) (cap := 3) (by decide) (by decide) (by decide) (by decide)
  obtain ⟨b16, g16⟩ : ∃ z, z = h0.size := ⟨_, rfl⟩
  rw [← g16] at A16 st16
  have g_b16 : n0 ≤ b16 := Nat.le_trans Z0 (Nat.le_of_eq g16.symm)
  have Z16 : n0 ≤ h16.size := Nat.le_trans Z0 E16.1
  have A_b16 : own_A Z h16 b16 .int 3 (fun _ => (0 : Int32)) := own_A.new A16 rfl rfl
  have pre17 : ∀ t, Steps p.tables e below (T16.setTop (mkF m 37 (lc0n3_4 p1 p2 p3 p4 p5) [(.ref b16)])) t → Steps p.tables e below (s₁.setTop (entryFrame m #[(.int p1), (.int p2), (.int p3), (.int p4), (.int p5)] maxLocals)) t := fun t k => pre15 t (st16 t k)
  have pre18 : ∀ t, Steps p.tables e below (T16.setTop (mkF m 49 (lc0n3_5 p1 p2 p3 p4 p5 b16) [(.int (own_node p2)), (.int (0 : Int32)), (.ref b16)])) t → Steps p.tables e below (s₁.setTop (entryFrame m #[(.int p1), (.int p2), (.int p3), (.int p4), (.int p5)] maxLocals)) t := fun t k => pre17 t (by
    show Steps p.tables e below (T16.setTop (mkF m 37 (lc0n3_4 p1 p2 p3 p4 p5) [(.ref b16)])) _
    refine XS.astore X16.here hx rfl (hb hby at_37) rfl rfl (l' := (lc0n3_5 p1 p2 p3 p4 p5 b16)) rfl ?_
    show Steps p.tables e below (T16.setTop (mkF m 39 (lc0n3_5 p1 p2 p3 p4 p5 b16) [])) _
    refine XS.iload X16.here hx rfl (hb hby at_39) rfl ?_
    show Steps p.tables e below (T16.setTop (mkF m 41 (lc0n3_5 p1 p2 p3 p4 p5 b16) [(.int (3 : Int32))])) _
    refine XS.ifNo X16.here hx rfl (hb hby at_41) rfl ((if0 _ _).trans (tlt (by decide)).2.2.2) ?_
    show Steps p.tables e below (T16.setTop (mkF m 44 (lc0n3_5 p1 p2 p3 p4 p5 b16) [])) _
    refine XS.aload X16.here hx rfl (hb hby at_44) rfl rfl ?_
    show Steps p.tables e below (T16.setTop (mkF m 46 (lc0n3_5 p1 p2 p3 p4 p5 b16) [(.ref b16)])) _
    refine XS.iconst X16.here hx rfl (hb hby at_46) ?_
    show Steps p.tables e below (T16.setTop (mkF m 47 (lc0n3_5 p1 p2 p3 p4 p5 b16) [(.int (0 : Int32)), (.ref b16)])) _
    refine XS.iload X16.here hx rfl (hb hby at_47) rfl ?_
    show Steps p.tables e below (T16.setTop (mkF m 49 (lc0n3_5 p1 p2 p3 p4 p5 b16) [(.int (own_node p2)), (.int (0 : Int32)), (.ref b16)])) _
    exact k)
  obtain ⟨cl19, Ar19, Sz19, Hf19⟩ := A_b16
  obtain ⟨T19, h19, X19, e19, W19, st19⟩ := stI X16 hx hZ e16 Ar19 (j := (0 : Int32)) (own_inb Sz19 ⟨by decide, by decide⟩) (g := (mkF m 49 (lc0n3_5 p1 p2 p3 p4 p5 b16) [(.int (own_node p2)), (.int (0 : Int32)), (.ref b16)])) rfl rfl (hb hby at_49)
  have A_b16 : own_A Z h19 b16 .int 3 (own_put (fun _ => (0 : Int32)) 0 (own_node p2)) := own_A.set Ar19 Sz19 Hf19 W19
  have Z19 : n0 ≤ h19.size := Nat.le_trans Z16 (Keep.of_wr W19).1
  have N19 := Fr.snoc X19 N13 g_b16
  have pre20 : ∀ t, Steps p.tables e below (T19.setTop (mkF m 50 (lc0n3_5 p1 p2 p3 p4 p5 b16) [])) t → Steps p.tables e below (s₁.setTop (entryFrame m #[(.int p1), (.int p2), (.int p3), (.int p4), (.int p5)] maxLocals)) t := fun t k => pre18 t (st19 t k)
  have pre21 : ∀ t, Steps p.tables e below (T19.setTop (mkF m 61 (lc0n3_5 p1 p2 p3 p4 p5 b16) [(.int (own_node p3)), (.int (1 : Int32)), (.ref b16)])) t → Steps p.tables e below (s₁.setTop (entryFrame m #[(.int p1), (.int p2), (.int p3), (.int p4), (.int p5)] maxLocals)) t := fun t k => pre20 t (by
    show Steps p.tables e below (T19.setTop (mkF m 50 (lc0n3_5 p1 p2 p3 p4 p5 b16) [])) _
    refine XS.iload X19.here hx rfl (hb hby at_50) rfl ?_
    show Steps p.tables e below (T19.setTop (mkF m 52 (lc0n3_5 p1 p2 p3 p4 p5 b16) [(.int (3 : Int32))])) _
    refine XS.iconst X19.here hx rfl (hb hby at_52) ?_
    show Steps p.tables e below (T19.setTop (mkF m 53 (lc0n3_5 p1 p2 p3 p4 p5 b16) [(.int (1 : Int32)), (.int (3 : Int32))])) _
    refine XS.icmpNo X19.here hx rfl (hb hby at_53) rfl (tlt (by decide)).2.2.2 ?_
    show Steps p.tables e below (T19.setTop (mkF m 56 (lc0n3_5 p1 p2 p3 p4 p5 b16) [])) _
    refine XS.aload X19.here hx rfl (hb hby at_56) rfl rfl ?_
    show Steps p.tables e below (T19.setTop (mkF m 58 (lc0n3_5 p1 p2 p3 p4 p5 b16) [(.ref b16)])) _
    refine XS.iconst X19.here hx rfl (hb hby at_58) ?_
    show Steps p.tables e below (T19.setTop (mkF m 59 (lc0n3_5 p1 p2 p3 p4 p5 b16) [(.int (1 : Int32)), (.ref b16)])) _
    refine XS.iload X19.here hx rfl (hb hby at_59) rfl ?_
    show Steps p.tables e below (T19.setTop (mkF m 61 (lc0n3_5 p1 p2 p3 p4 p5 b16) [(.int (own_node p3)), (.int (1 : Int32)), (.ref b16)])) _
    exact k)
  obtain ⟨cl22, Ar22, Sz22, Hf22⟩ := A_b16
  obtain ⟨T22, h22, X22, e22, W22, st22⟩ := stI X19 hx hZ e19 Ar22 (j := (1 : Int32)) (own_inb Sz22 ⟨by decide, by decide⟩) (g := (mkF m 61 (lc0n3_5 p1 p2 p3 p4 p5 b16) [(.int (own_node p3)), (.int (1 : Int32)), (.ref b16)])) rfl rfl (hb hby at_61)
  have A_b16 : own_A Z h22 b16 .int 3 (own_put (own_put (fun _ => (0 : Int32)) 0 (own_node p2)) 1 (own_node p3)) := own_A.set Ar22 Sz22 Hf22 W22
  have Z22 : n0 ≤ h22.size := Nat.le_trans Z19 (Keep.of_wr W22).1
  have N22 := Fr.snoc X22 N19 g_b16
  have pre23 : ∀ t, Steps p.tables e below (T22.setTop (mkF m 62 (lc0n3_5 p1 p2 p3 p4 p5 b16) [])) t → Steps p.tables e below (s₁.setTop (entryFrame m #[(.int p1), (.int p2), (.int p3), (.int p4), (.int p5)] maxLocals)) t := fun t k => pre21 t (st22 t k)
  have pre24 : ∀ t, Steps p.tables e below (T22.setTop (mkF m 73 (lc0n3_5 p1 p2 p3 p4 p5 b16) [(.int (own_node p4)), (.int (2 : Int32)), (.ref b16)])) t → Steps p.tables e below (s₁.setTop (entryFrame m #[(.int p1), (.int p2), (.int p3), (.int p4), (.int p5)] maxLocals)) t := fun t k => pre23 t (by
    show Steps p.tables e below (T22.setTop (mkF m 62 (lc0n3_5 p1 p2 p3 p4 p5 b16) [])) _
    refine XS.iload X22.here hx rfl (hb hby at_62) rfl ?_
    show Steps p.tables e below (T22.setTop (mkF m 64 (lc0n3_5 p1 p2 p3 p4 p5 b16) [(.int (3 : Int32))])) _
    refine XS.iconst X22.here hx rfl (hb hby at_64) ?_
    show Steps p.tables e below (T22.setTop (mkF m 65 (lc0n3_5 p1 p2 p3 p4 p5 b16) [(.int (2 : Int32)), (.int (3 : Int32))])) _
    refine XS.icmpNo X22.here hx rfl (hb hby at_65) rfl (tlt (by decide)).2.2.2 ?_
    show Steps p.tables e below (T22.setTop (mkF m 68 (lc0n3_5 p1 p2 p3 p4 p5 b16) [])) _
    refine XS.aload X22.here hx rfl (hb hby at_68) rfl rfl ?_
    show Steps p.tables e below (T22.setTop (mkF m 70 (lc0n3_5 p1 p2 p3 p4 p5 b16) [(.ref b16)])) _
    refine XS.iconst X22.here hx rfl (hb hby at_70) ?_
    show Steps p.tables e below (T22.setTop (mkF m 71 (lc0n3_5 p1 p2 p3 p4 p5 b16) [(.int (2 : Int32)), (.ref b16)])) _
    refine XS.iload X22.here hx rfl (hb hby at_71) rfl ?_
    show Steps p.tables e below (T22.setTop (mkF m 73 (lc0n3_5 p1 p2 p3 p4 p5 b16) [(.int (own_node p4)), (.int (2 : Int32)), (.ref b16)])) _
    exact k)
  obtain ⟨cl25, Ar25, Sz25, Hf25⟩ := A_b16
  obtain ⟨T25, h25, X25, e25, W25, st25⟩ := stI X22 hx hZ e22 Ar25 (j := (2 : Int32)) (own_inb Sz25 ⟨by decide, by decide⟩) (g := (mkF m 73 (lc0n3_5 p1 p2 p3 p4 p5 b16) [(.int (own_node p4)), (.int (2 : Int32)), (.ref b16)])) rfl rfl (hb hby at_73)
  have A_b16 : own_A Z h25 b16 .int 3 (own_put (own_put (own_put (fun _ => (0 : Int32)) 0 (own_node p2)) 1 (own_node p3)) 2 (own_node p4)) := own_A.set Ar25 Sz25 Hf25 W25
  have Z25 : n0 ≤ h25.size := Nat.le_trans Z22 (Keep.of_wr W25).1
  have N25 := Fr.snoc X25 N22 g_b16
  have pre26 : ∀ t, Steps p.tables e below (T25.setTop (mkF m 74 (lc0n3_5 p1 p2 p3 p4 p5 b16) [])) t → Steps p.tables e below (s₁.setTop (entryFrame m #[(.int p1), (.int p2), (.int p3), (.int p4), (.int p5)] maxLocals)) t := fun t k => pre24 t (st25 t k)
  have pre27 : ∀ t, Steps p.tables e below (T25.setTop (mkF m 97 (lc0n3_6 p1 p2 p3 p4 p5 b16) [(.int (-1 : Int32)), (.int (own_node p2))])) t → Steps p.tables e below (s₁.setTop (entryFrame m #[(.int p1), (.int p2), (.int p3), (.int p4), (.int p5)] maxLocals)) t := fun t k => pre26 t (by
    show Steps p.tables e below (T25.setTop (mkF m 74 (lc0n3_5 p1 p2 p3 p4 p5 b16) [])) _
    refine XS.iload X25.here hx rfl (hb hby at_74) rfl ?_
    show Steps p.tables e below (T25.setTop (mkF m 76 (lc0n3_5 p1 p2 p3 p4 p5 b16) [(.int (3 : Int32))])) _
    refine XS.iconst X25.here hx rfl (hb hby at_76) ?_
    show Steps p.tables e below (T25.setTop (mkF m 77 (lc0n3_5 p1 p2 p3 p4 p5 b16) [(.int (3 : Int32)), (.int (3 : Int32))])) _
    refine XS.icmpYes X25.here hx rfl (pc0 := 77) (pc' := 86) rfl (hb hby at_77) rfl (flt (by decide)).2.2.2 (by decide) (by decide) ?_
    show Steps p.tables e below (T25.setTop (mkF m 86 (lc0n3_5 p1 p2 p3 p4 p5 b16) [])) _
    refine XS.iconst X25.here hx rfl (hb hby at_86) ?_
    show Steps p.tables e below (T25.setTop (mkF m 87 (lc0n3_5 p1 p2 p3 p4 p5 b16) [(.int (0 : Int32))])) _
    refine XS.istore X25.here hx rfl (hb hby at_87) rfl (l' := (lc0n3_6 p1 p2 p3 p4 p5 b16)) rfl ?_
    show Steps p.tables e below (T25.setTop (mkF m 89 (lc0n3_6 p1 p2 p3 p4 p5 b16) [])) _
    refine XS.iload X25.here hx rfl (hb hby at_89) rfl ?_
    show Steps p.tables e below (T25.setTop (mkF m 91 (lc0n3_6 p1 p2 p3 p4 p5 b16) [(.int (3 : Int32))])) _
    refine XS.ifNo X25.here hx rfl (hb hby at_91) rfl ((if0 _ _).trans (tlt (by decide)).2.2.2) ?_
    show Steps p.tables e below (T25.setTop (mkF m 94 (lc0n3_6 p1 p2 p3 p4 p5 b16) [])) _
    refine XS.iload X25.here hx rfl (hb hby at_94) rfl ?_
    show Steps p.tables e below (T25.setTop (mkF m 96 (lc0n3_6 p1 p2 p3 p4 p5 b16) [(.int (own_node p2))])) _
    refine XS.iconst X25.here hx rfl (hb hby at_96) ?_
    show Steps p.tables e below (T25.setTop (mkF m 97 (lc0n3_6 p1 p2 p3 p4 p5 b16) [(.int (-1 : Int32)), (.int (own_node p2))])) _
    exact k)
  have pre29 : ∀ t, Steps p.tables e below (T25.setTop (mkF m 106 (lc0n3_9 p1 p2 p3 p4 p5 b16) [])) t → Steps p.tables e below (s₁.setTop (entryFrame m #[(.int p1), (.int p2), (.int p3), (.int p4), (.int p5)] maxLocals)) t := fun t k => pre27 t (by
    show Steps p.tables e below (T25.setTop (mkF m 97 (lc0n3_6 p1 p2 p3 p4 p5 b16) [(.int (-1 : Int32)), (.int (own_node p2))])) _
    by_cases hm97_28 : (own_node p2) = (-1 : Int32)
    · refine XS.icmpNo X25.here hx rfl (hb hby at_97) rfl (teq hm97_28).2 ?_
      show Steps p.tables e below (T25.setTop (mkF m 100 (lc0n3_6 p1 p2 p3 p4 p5 b16) [])) _
      refine XS.iload X25.here hx rfl (hb hby at_100) rfl ?_
      show Steps p.tables e below (T25.setTop (mkF m 102 (lc0n3_6 p1 p2 p3 p4 p5 b16) [(.int (0 : Int32))])) _
      refine XS.iconst X25.here hx rfl (hb hby at_102) ?_
      show Steps p.tables e below (T25.setTop (mkF m 103 (lc0n3_6 p1 p2 p3 p4 p5 b16) [(.int (1 : Int32)), (.int (0 : Int32))])) _
      refine XS.iadd X25.here hx rfl (hb hby at_103) rfl ?_
      show Steps p.tables e below (T25.setTop (mkF m 104 (lc0n3_6 p1 p2 p3 p4 p5 b16) [(.int (1 : Int32))])) _
      refine XS.istore X25.here hx rfl (hb hby at_104) rfl (l' := (lc0n3_7 p1 p2 p3 p4 p5 b16)) rfl ?_
      show Steps p.tables e below (T25.setTop (mkF m 106 (lc0n3_7 p1 p2 p3 p4 p5 b16) [])) _
      have q : (if (own_node p2) = (-1 : Int32) then (1 : Int32) else (0 : Int32)) = (1 : Int32) := by simp only [if_pos hm97_28]
      exact Eq.subst (motive := fun xI => Steps p.tables e below (T25.setTop (mkF m 106 (lc0n3_8 p1 p2 p3 p4 p5 b16 xI) [])) t) q k
    · refine XS.icmpYes X25.here hx rfl (pc0 := 97) (pc' := 106) rfl (hb hby at_97) rfl (feq hm97_28).2 (by decide) (by decide) ?_
      show Steps p.tables e below (T25.setTop (mkF m 106 (lc0n3_6 p1 p2 p3 p4 p5 b16) [])) _
      have q : (if (own_node p2) = (-1 : Int32) then (1 : Int32) else (0 : Int32)) = (0 : Int32) := by simp only [if_neg hm97_28]
      exact Eq.subst (motive := fun xI => Steps p.tables e below (T25.setTop (mkF m 106 (lc0n3_8 p1 p2 p3 p4 p5 b16 xI) [])) t) q k)
  have pre30 : ∀ t, Steps p.tables e below (T25.setTop (mkF m 115 (lc0n3_9 p1 p2 p3 p4 p5 b16) [(.int (-1 : Int32)), (.int (own_node p3))])) t → Steps p.tables e below (s₁.setTop (entryFrame m #[(.int p1), (.int p2), (.int p3), (.int p4), (.int p5)] maxLocals)) t := fun t k => pre29 t (by
    show Steps p.tables e below (T25.setTop (mkF m 106 (lc0n3_9 p1 p2 p3 p4 p5 b16) [])) _
    refine XS.iload X25.here hx rfl (hb hby at_106) rfl ?_
    show Steps p.tables e below (T25.setTop (mkF m 108 (lc0n3_9 p1 p2 p3 p4 p5 b16) [(.int (3 : Int32))])) _
    refine XS.iconst X25.here hx rfl (hb hby at_108) ?_
    show Steps p.tables e below (T25.setTop (mkF m 109 (lc0n3_9 p1 p2 p3 p4 p5 b16) [(.int (1 : Int32)), (.int (3 : Int32))])) _
    refine XS.icmpNo X25.here hx rfl (hb hby at_109) rfl (tlt (by decide)).2.2.2 ?_
    show Steps p.tables e below (T25.setTop (mkF m 112 (lc0n3_9 p1 p2 p3 p4 p5 b16) [])) _
    refine XS.iload X25.here hx rfl (hb hby at_112) rfl ?_
    show Steps p.tables e below (T25.setTop (mkF m 114 (lc0n3_9 p1 p2 p3 p4 p5 b16) [(.int (own_node p3))])) _
    refine XS.iconst X25.here hx rfl (hb hby at_114) ?_
    show Steps p.tables e below (T25.setTop (mkF m 115 (lc0n3_9 p1 p2 p3 p4 p5 b16) [(.int (-1 : Int32)), (.int (own_node p3))])) _
    exact k)
  have pre32 : ∀ t, Steps p.tables e below (T25.setTop (mkF m 124 (lc0n3_11 p1 p2 p3 p4 p5 b16) [])) t → Steps p.tables e below (s₁.setTop (entryFrame m #[(.int p1), (.int p2), (.int p3), (.int p4), (.int p5)] maxLocals)) t := fun t k => pre30 t (by
    show Steps p.tables e below (T25.setTop (mkF m 115 (lc0n3_9 p1 p2 p3 p4 p5 b16) [(.int (-1 : Int32)), (.int (own_node p3))])) _
    by_cases hm115_31 : (own_node p3) = (-1 : Int32)
    · refine XS.icmpNo X25.here hx rfl (hb hby at_115) rfl (teq hm115_31).2 ?_
      show Steps p.tables e below (T25.setTop (mkF m 118 (lc0n3_9 p1 p2 p3 p4 p5 b16) [])) _
      refine XS.iload X25.here hx rfl (hb hby at_118) rfl ?_
      show Steps p.tables e below (T25.setTop (mkF m 120 (lc0n3_9 p1 p2 p3 p4 p5 b16) [(.int (if (own_node p2) = (-1 : Int32) then (1 : Int32) else (0 : Int32)))])) _
      refine XS.iconst X25.here hx rfl (hb hby at_120) ?_
      show Steps p.tables e below (T25.setTop (mkF m 121 (lc0n3_9 p1 p2 p3 p4 p5 b16) [(.int (1 : Int32)), (.int (if (own_node p2) = (-1 : Int32) then (1 : Int32) else (0 : Int32)))])) _
      refine XS.iadd X25.here hx rfl (hb hby at_121) rfl ?_
      show Steps p.tables e below (T25.setTop (mkF m 122 (lc0n3_9 p1 p2 p3 p4 p5 b16) [(.int ((if (own_node p2) = (-1 : Int32) then (1 : Int32) else (0 : Int32)) + (1 : Int32)))])) _
      refine XS.istore X25.here hx rfl (hb hby at_122) rfl (l' := (lc0n3_10 p1 p2 p3 p4 p5 b16)) rfl ?_
      show Steps p.tables e below (T25.setTop (mkF m 124 (lc0n3_10 p1 p2 p3 p4 p5 b16) [])) _
      have q : (if (own_node p3) = (-1 : Int32) then ((if (own_node p2) = (-1 : Int32) then (1 : Int32) else (0 : Int32)) + (1 : Int32)) else (if (own_node p2) = (-1 : Int32) then (1 : Int32) else (0 : Int32))) = ((if (own_node p2) = (-1 : Int32) then (1 : Int32) else (0 : Int32)) + (1 : Int32)) := by simp only [if_pos hm115_31]
      exact Eq.subst (motive := fun xI => Steps p.tables e below (T25.setTop (mkF m 124 (lc0n3_8 p1 p2 p3 p4 p5 b16 xI) [])) t) q k
    · refine XS.icmpYes X25.here hx rfl (pc0 := 115) (pc' := 124) rfl (hb hby at_115) rfl (feq hm115_31).2 (by decide) (by decide) ?_
      show Steps p.tables e below (T25.setTop (mkF m 124 (lc0n3_9 p1 p2 p3 p4 p5 b16) [])) _
      have q : (if (own_node p3) = (-1 : Int32) then ((if (own_node p2) = (-1 : Int32) then (1 : Int32) else (0 : Int32)) + (1 : Int32)) else (if (own_node p2) = (-1 : Int32) then (1 : Int32) else (0 : Int32))) = (if (own_node p2) = (-1 : Int32) then (1 : Int32) else (0 : Int32)) := by simp only [if_neg hm115_31]
      exact Eq.subst (motive := fun xI => Steps p.tables e below (T25.setTop (mkF m 124 (lc0n3_8 p1 p2 p3 p4 p5 b16 xI) [])) t) q k)
  have pre33 : ∀ t, Steps p.tables e below (T25.setTop (mkF m 133 (lc0n3_11 p1 p2 p3 p4 p5 b16) [(.int (-1 : Int32)), (.int (own_node p4))])) t → Steps p.tables e below (s₁.setTop (entryFrame m #[(.int p1), (.int p2), (.int p3), (.int p4), (.int p5)] maxLocals)) t := fun t k => pre32 t (by
    show Steps p.tables e below (T25.setTop (mkF m 124 (lc0n3_11 p1 p2 p3 p4 p5 b16) [])) _
    refine XS.iload X25.here hx rfl (hb hby at_124) rfl ?_
    show Steps p.tables e below (T25.setTop (mkF m 126 (lc0n3_11 p1 p2 p3 p4 p5 b16) [(.int (3 : Int32))])) _
    refine XS.iconst X25.here hx rfl (hb hby at_126) ?_
    show Steps p.tables e below (T25.setTop (mkF m 127 (lc0n3_11 p1 p2 p3 p4 p5 b16) [(.int (2 : Int32)), (.int (3 : Int32))])) _
    refine XS.icmpNo X25.here hx rfl (hb hby at_127) rfl (tlt (by decide)).2.2.2 ?_
    show Steps p.tables e below (T25.setTop (mkF m 130 (lc0n3_11 p1 p2 p3 p4 p5 b16) [])) _
    refine XS.iload X25.here hx rfl (hb hby at_130) rfl ?_
    show Steps p.tables e below (T25.setTop (mkF m 132 (lc0n3_11 p1 p2 p3 p4 p5 b16) [(.int (own_node p4))])) _
    refine XS.iconst X25.here hx rfl (hb hby at_132) ?_
    show Steps p.tables e below (T25.setTop (mkF m 133 (lc0n3_11 p1 p2 p3 p4 p5 b16) [(.int (-1 : Int32)), (.int (own_node p4))])) _
    exact k)
  have pre35 : ∀ t, Steps p.tables e below (T25.setTop (mkF m 142 (lc0n3_13 p1 p2 p3 p4 p5 b16) [])) t → Steps p.tables e below (s₁.setTop (entryFrame m #[(.int p1), (.int p2), (.int p3), (.int p4), (.int p5)] maxLocals)) t := fun t k => pre33 t (by
    show Steps p.tables e below (T25.setTop (mkF m 133 (lc0n3_11 p1 p2 p3 p4 p5 b16) [(.int (-1 : Int32)), (.int (own_node p4))])) _
    by_cases hm133_34 : (own_node p4) = (-1 : Int32)
    · refine XS.icmpNo X25.here hx rfl (hb hby at_133) rfl (teq hm133_34).2 ?_
      show Steps p.tables e below (T25.setTop (mkF m 136 (lc0n3_11 p1 p2 p3 p4 p5 b16) [])) _
      refine XS.iload X25.here hx rfl (hb hby at_136) rfl ?_
      show Steps p.tables e below (T25.setTop (mkF m 138 (lc0n3_11 p1 p2 p3 p4 p5 b16) [(.int (if (own_node p3) = (-1 : Int32) then ((if (own_node p2) = (-1 : Int32) then (1 : Int32) else (0 : Int32)) + (1 : Int32)) else (if (own_node p2) = (-1 : Int32) then (1 : Int32) else (0 : Int32))))])) _
      refine XS.iconst X25.here hx rfl (hb hby at_138) ?_
      show Steps p.tables e below (T25.setTop (mkF m 139 (lc0n3_11 p1 p2 p3 p4 p5 b16) [(.int (1 : Int32)), (.int (if (own_node p3) = (-1 : Int32) then ((if (own_node p2) = (-1 : Int32) then (1 : Int32) else (0 : Int32)) + (1 : Int32)) else (if (own_node p2) = (-1 : Int32) then (1 : Int32) else (0 : Int32))))])) _
      refine XS.iadd X25.here hx rfl (hb hby at_139) rfl ?_
      show Steps p.tables e below (T25.setTop (mkF m 140 (lc0n3_11 p1 p2 p3 p4 p5 b16) [(.int ((if (own_node p3) = (-1 : Int32) then ((if (own_node p2) = (-1 : Int32) then (1 : Int32) else (0 : Int32)) + (1 : Int32)) else (if (own_node p2) = (-1 : Int32) then (1 : Int32) else (0 : Int32))) + (1 : Int32)))])) _
      refine XS.istore X25.here hx rfl (hb hby at_140) rfl (l' := (lc0n3_12 p1 p2 p3 p4 p5 b16)) rfl ?_
      show Steps p.tables e below (T25.setTop (mkF m 142 (lc0n3_12 p1 p2 p3 p4 p5 b16) [])) _
      have q : (if (own_node p4) = (-1 : Int32) then ((if (own_node p3) = (-1 : Int32) then ((if (own_node p2) = (-1 : Int32) then (1 : Int32) else (0 : Int32)) + (1 : Int32)) else (if (own_node p2) = (-1 : Int32) then (1 : Int32) else (0 : Int32))) + (1 : Int32)) else (if (own_node p3) = (-1 : Int32) then ((if (own_node p2) = (-1 : Int32) then (1 : Int32) else (0 : Int32)) + (1 : Int32)) else (if (own_node p2) = (-1 : Int32) then (1 : Int32) else (0 : Int32)))) = ((if (own_node p3) = (-1 : Int32) then ((if (own_node p2) = (-1 : Int32) then (1 : Int32) else (0 : Int32)) + (1 : Int32)) else (if (own_node p2) = (-1 : Int32) then (1 : Int32) else (0 : Int32))) + (1 : Int32)) := by simp only [if_pos hm133_34]
      exact Eq.subst (motive := fun xI => Steps p.tables e below (T25.setTop (mkF m 142 (lc0n3_8 p1 p2 p3 p4 p5 b16 xI) [])) t) q k
    · refine XS.icmpYes X25.here hx rfl (pc0 := 133) (pc' := 142) rfl (hb hby at_133) rfl (feq hm133_34).2 (by decide) (by decide) ?_
      show Steps p.tables e below (T25.setTop (mkF m 142 (lc0n3_11 p1 p2 p3 p4 p5 b16) [])) _
      have q : (if (own_node p4) = (-1 : Int32) then ((if (own_node p3) = (-1 : Int32) then ((if (own_node p2) = (-1 : Int32) then (1 : Int32) else (0 : Int32)) + (1 : Int32)) else (if (own_node p2) = (-1 : Int32) then (1 : Int32) else (0 : Int32))) + (1 : Int32)) else (if (own_node p3) = (-1 : Int32) then ((if (own_node p2) = (-1 : Int32) then (1 : Int32) else (0 : Int32)) + (1 : Int32)) else (if (own_node p2) = (-1 : Int32) then (1 : Int32) else (0 : Int32)))) = (if (own_node p3) = (-1 : Int32) then ((if (own_node p2) = (-1 : Int32) then (1 : Int32) else (0 : Int32)) + (1 : Int32)) else (if (own_node p2) = (-1 : Int32) then (1 : Int32) else (0 : Int32))) := by simp only [if_neg hm133_34]
      exact Eq.subst (motive := fun xI => Steps p.tables e below (T25.setTop (mkF m 142 (lc0n3_8 p1 p2 p3 p4 p5 b16 xI) [])) t) q k)
  have pre36 : ∀ t, Steps p.tables e below (T25.setTop (mkF m 160 (lc0n3_13 p1 p2 p3 p4 p5 b16) [])) t → Steps p.tables e below (s₁.setTop (entryFrame m #[(.int p1), (.int p2), (.int p3), (.int p4), (.int p5)] maxLocals)) t := fun t k => pre35 t (by
    show Steps p.tables e below (T25.setTop (mkF m 142 (lc0n3_13 p1 p2 p3 p4 p5 b16) [])) _
    refine XS.iload X25.here hx rfl (hb hby at_142) rfl ?_
    show Steps p.tables e below (T25.setTop (mkF m 144 (lc0n3_13 p1 p2 p3 p4 p5 b16) [(.int (3 : Int32))])) _
    refine XS.iconst X25.here hx rfl (hb hby at_144) ?_
    show Steps p.tables e below (T25.setTop (mkF m 145 (lc0n3_13 p1 p2 p3 p4 p5 b16) [(.int (3 : Int32)), (.int (3 : Int32))])) _
    refine XS.icmpYes X25.here hx rfl (pc0 := 145) (pc' := 160) rfl (hb hby at_145) rfl (flt (by decide)).2.2.2 (by decide) (by decide) ?_
    show Steps p.tables e below (T25.setTop (mkF m 160 (lc0n3_13 p1 p2 p3 p4 p5 b16) [])) _
    exact k)
  obtain ⟨T37, h37, X37, e37, E37, A37, D37, -, st37⟩ := newO X25 hx hZ hown (hw _ (List.mem_of_getElem? (i := 6) rfl)) (hw _ (List.mem_of_getElem? (i := 7) rfl)) (hw _ (List.mem_of_getElem? (i := 8) rfl)) e25 (g := (mkF m 160 (lc0n3_13 p1 p2 p3 p4 p5 b16) [])) rfl (hb hby at_160) (by decide) (by decide)
  obtain ⟨b37, g37⟩ : ∃ z, z = h25.size := ⟨_, rfl⟩
  rw [← g37] at A37 D37 st37
  have g_b37 : n0 ≤ b37 := Nat.le_trans Z25 (Nat.le_of_eq g37.symm)
  have ne_b16_b37 : b16 ≠ b37 := Nat.ne_of_lt (Nat.lt_of_lt_of_le A_b16.lt (Nat.le_of_eq g37.symm))
  have A_b16 := A_b16.ext E37
  have Z37 : n0 ≤ h37.size := Nat.le_trans Z25 E37.1
  have E_b37 := A37
  have F_b37_encoder : Fld Z h37 b37 "com/example/rackstripe/rackstripe/StripePlan" "encoder" "I" (.int (0 : Int32)) := D37 (Or.inr (hw _ (List.mem_of_getElem? (i := 16) rfl))) (ty := .int) (by decide)
  have F_b37_sources : Fld Z h37 b37 "com/example/rackstripe/rackstripe/StripePlan" "sources" "[I" .null := D37 (Or.inr (hw _ (List.mem_of_getElem? (i := 18) rfl))) (ty := (.array .int)) (by decide)
  have F_b37_crossRackDownloads : Fld Z h37 b37 "com/example/rackstripe/rackstripe/StripePlan" "crossRackDownloads" "I" (.int (0 : Int32)) := D37 (Or.inr (hw _ (List.mem_of_getElem? (i := 20) rfl))) (ty := .int) (by decide)
  have F_b37_intraRackDownloads : Fld Z h37 b37 "com/example/rackstripe/rackstripe/StripePlan" "intraRackDownloads" "I" (.int (0 : Int32)) := D37 (Or.inr (hw _ (List.mem_of_getElem? (i := 22) rfl))) (ty := .int) (by decide)
  have F_b37_kept : Fld Z h37 b37 "com/example/rackstripe/rackstripe/StripePlan" "kept" "[I" .null := D37 (Or.inr (hw _ (List.mem_of_getElem? (i := 24) rfl))) (ty := (.array .int)) (by decide)
  have F_b37_parity : Fld Z h37 b37 "com/example/rackstripe/rackstripe/StripePlan" "parity" "[I" .null := D37 (Or.inr (hw _ (List.mem_of_getElem? (i := 26) rfl))) (ty := (.array .int)) (by decide)
  have F_b37_parityUnplaced : Fld Z h37 b37 "com/example/rackstripe/rackstripe/StripePlan" "parityUnplaced" "I" (.int (0 : Int32)) := D37 (Or.inr (hw _ (List.mem_of_getElem? (i := 28) rfl))) (ty := .int) (by decide)
  have pre38 : ∀ t, Steps p.tables e below (T37.setTop (mkF m 163 (lc0n3_13 p1 p2 p3 p4 p5 b16) [(.ref b37)])) t → Steps p.tables e below (s₁.setTop (entryFrame m #[(.int p1), (.int p2), (.int p3), (.int p4), (.int p5)] maxLocals)) t := fun t k => pre36 t (st37 t k)
  have pre39 : ∀ t, Steps p.tables e below (T37.setTop (mkF m 166 (lc0n3_13 p1 p2 p3 p4 p5 b16) [(.int (0 : Int32)), (.int (0 : Int32)), (.ref b37), (.ref b37)])) t → Steps p.tables e below (s₁.setTop (entryFrame m #[(.int p1), (.int p2), (.int p3), (.int p4), (.int p5)] maxLocals)) t := fun t k => pre38 t (by
    show Steps p.tables e below (T37.setTop (mkF m 163 (lc0n3_13 p1 p2 p3 p4 p5 b16) [(.ref b37)])) _
    refine XS.dup X37.here hx rfl (hb hby at_163) rfl rfl ?_
    show Steps p.tables e below (T37.setTop (mkF m 164 (lc0n3_13 p1 p2 p3 p4 p5 b16) [(.ref b37), (.ref b37)])) _
    refine XS.iconst X37.here hx rfl (hb hby at_164) ?_
    show Steps p.tables e below (T37.setTop (mkF m 165 (lc0n3_13 p1 p2 p3 p4 p5 b16) [(.int (0 : Int32)), (.ref b37), (.ref b37)])) _
    refine XS.iconst X37.here hx rfl (hb hby at_165) ?_
    show Steps p.tables e below (T37.setTop (mkF m 166 (lc0n3_13 p1 p2 p3 p4 p5 b16) [(.int (0 : Int32)), (.int (0 : Int32)), (.ref b37), (.ref b37)])) _
    exact k)
  obtain ⟨T40, h40, k40, X40, e40, E40, A40, st40⟩ := newP X37 hx hZ (hw _ (List.mem_of_getElem? (i := 5) rfl)) e37 (g := (mkF m 166 (lc0n3_13 p1 p2 p3 p4 p5 b16) [(.int (0 : Int32)), (.int (0 : Int32)), (.ref b37), (.ref b37)])) rfl (hb hby at_166) rfl (by decide) (cap := 0) (by decide) (by decide) (by decide) (by decide)
  obtain ⟨b40, g40⟩ : ∃ z, z = h37.size := ⟨_, rfl⟩
  rw [← g40] at A40 st40
  have g_b40 : n0 ≤ b40 := Nat.le_trans Z37 (Nat.le_of_eq g40.symm)
  have ne_b16_b40 : b16 ≠ b40 := Nat.ne_of_lt (Nat.lt_of_lt_of_le A_b16.lt (Nat.le_of_eq g40.symm))
  have ne_b37_b40 : b37 ≠ b40 := Nat.ne_of_lt (Nat.lt_of_lt_of_le E_b37.lt (Nat.le_of_eq g40.symm))
  have A_b16 := A_b16.ext E40
  have E_b37 := E_b37.ext E40
  have F_b37_encoder := F_b37_encoder.ext E40
  have F_b37_sources := F_b37_sources.ext E40
  have F_b37_crossRackDownloads := F_b37_crossRackDownloads.ext E40
  have F_b37_intraRackDownloads := F_b37_intraRackDownloads.ext E40
  have F_b37_kept := F_b37_kept.ext E40
  have F_b37_parity := F_b37_parity.ext E40
  have F_b37_parityUnplaced := F_b37_parityUnplaced.ext E40
  have Z40 : n0 ≤ h40.size := Nat.le_trans Z37 E40.1
  have A_b40 : own_A Z h40 b40 .int 0 (fun _ => (0 : Int32)) := own_A.new A40 rfl rfl
  have pre41 : ∀ t, Steps p.tables e below (T40.setTop (mkF m 168 (lc0n3_13 p1 p2 p3 p4 p5 b16) [(.ref b40), (.int (0 : Int32)), (.ref b37), (.ref b37)])) t → Steps p.tables e below (s₁.setTop (entryFrame m #[(.int p1), (.int p2), (.int p3), (.int p4), (.int p5)] maxLocals)) t := fun t k => pre39 t (st40 t k)
  have pre42 : ∀ t, Steps p.tables e below (T40.setTop (mkF m 173 (lc0n3_13 p1 p2 p3 p4 p5 b16) [(.int (0 : Int32)), (.ref b16), (.int (0 : Int32)), (.int (0 : Int32)), (.ref b40), (.int (0 : Int32)), (.ref b37), (.ref b37)])) t → Steps p.tables e below (s₁.setTop (entryFrame m #[(.int p1), (.int p2), (.int p3), (.int p4), (.int p5)] maxLocals)) t := fun t k => pre41 t (by
    show Steps p.tables e below (T40.setTop (mkF m 168 (lc0n3_13 p1 p2 p3 p4 p5 b16) [(.ref b40), (.int (0 : Int32)), (.ref b37), (.ref b37)])) _
    refine XS.iconst X40.here hx rfl (hb hby at_168) ?_
    show Steps p.tables e below (T40.setTop (mkF m 169 (lc0n3_13 p1 p2 p3 p4 p5 b16) [(.int (0 : Int32)), (.ref b40), (.int (0 : Int32)), (.ref b37), (.ref b37)])) _
    refine XS.iconst X40.here hx rfl (hb hby at_169) ?_
    show Steps p.tables e below (T40.setTop (mkF m 170 (lc0n3_13 p1 p2 p3 p4 p5 b16) [(.int (0 : Int32)), (.int (0 : Int32)), (.ref b40), (.int (0 : Int32)), (.ref b37), (.ref b37)])) _
    refine XS.aload X40.here hx rfl (hb hby at_170) rfl rfl ?_
    show Steps p.tables e below (T40.setTop (mkF m 172 (lc0n3_13 p1 p2 p3 p4 p5 b16) [(.ref b16), (.int (0 : Int32)), (.int (0 : Int32)), (.ref b40), (.int (0 : Int32)), (.ref b37), (.ref b37)])) _
    refine XS.iconst X40.here hx rfl (hb hby at_172) ?_
    show Steps p.tables e below (T40.setTop (mkF m 173 (lc0n3_13 p1 p2 p3 p4 p5 b16) [(.int (0 : Int32)), (.ref b16), (.int (0 : Int32)), (.int (0 : Int32)), (.ref b40), (.int (0 : Int32)), (.ref b37), (.ref b37)])) _
    exact k)
  obtain ⟨T43, h43, k43, X43, e43, E43, A43, st43⟩ := newP X40 hx hZ (hw _ (List.mem_of_getElem? (i := 5) rfl)) e40 (g := (mkF m 173 (lc0n3_13 p1 p2 p3 p4 p5 b16) [(.int (0 : Int32)), (.ref b16), (.int (0 : Int32)), (.int (0 : Int32)), (.ref b40), (.int (0 : Int32)), (.ref b37), (.ref b37)])) rfl (hb hby at_173) rfl (by decide) (cap := 0) (by decide) (by decide) (by decide) (by decide)
  obtain ⟨b43, g43⟩ : ∃ z, z = h40.size := ⟨_, rfl⟩
  rw [← g43] at A43 st43
  have g_b43 : n0 ≤ b43 := Nat.le_trans Z40 (Nat.le_of_eq g43.symm)
  have ne_b16_b43 : b16 ≠ b43 := Nat.ne_of_lt (Nat.lt_of_lt_of_le A_b16.lt (Nat.le_of_eq g43.symm))
  have ne_b37_b43 : b37 ≠ b43 := Nat.ne_of_lt (Nat.lt_of_lt_of_le E_b37.lt (Nat.le_of_eq g43.symm))
  have ne_b40_b43 : b40 ≠ b43 := Nat.ne_of_lt (Nat.lt_of_lt_of_le A_b40.lt (Nat.le_of_eq g43.symm))
  have A_b16 := A_b16.ext E43
  have E_b37 := E_b37.ext E43
  have F_b37_encoder := F_b37_encoder.ext E43
  have F_b37_sources := F_b37_sources.ext E43
  have F_b37_crossRackDownloads := F_b37_crossRackDownloads.ext E43
  have F_b37_intraRackDownloads := F_b37_intraRackDownloads.ext E43
  have F_b37_kept := F_b37_kept.ext E43
  have F_b37_parity := F_b37_parity.ext E43
  have F_b37_parityUnplaced := F_b37_parityUnplaced.ext E43
  have A_b40 := A_b40.ext E43
  have Z43 : n0 ≤ h43.size := Nat.le_trans Z40 E43.1
  have A_b43 : own_A Z h43 b43 .int 0 (fun _ => (0 : Int32)) := own_A.new A43 rfl rfl
  have pre44 : ∀ t, Steps p.tables e below (T43.setTop (mkF m 175 (lc0n3_13 p1 p2 p3 p4 p5 b16) [(.ref b43), (.ref b16), (.int (0 : Int32)), (.int (0 : Int32)), (.ref b40), (.int (0 : Int32)), (.ref b37), (.ref b37)])) t → Steps p.tables e below (s₁.setTop (entryFrame m #[(.int p1), (.int p2), (.int p3), (.int p4), (.int p5)] maxLocals)) t := fun t k => pre42 t (st43 t k)
  have pre45 : ∀ t, Steps p.tables e below (T43.setTop (mkF m 176 (lc0n3_13 p1 p2 p3 p4 p5 b16) [(.int (0 : Int32)), (.ref b43), (.ref b16), (.int (0 : Int32)), (.int (0 : Int32)), (.ref b40), (.int (0 : Int32)), (.ref b37), (.ref b37)])) t → Steps p.tables e below (s₁.setTop (entryFrame m #[(.int p1), (.int p2), (.int p3), (.int p4), (.int p5)] maxLocals)) t := fun t k => pre44 t (by
    show Steps p.tables e below (T43.setTop (mkF m 175 (lc0n3_13 p1 p2 p3 p4 p5 b16) [(.ref b43), (.ref b16), (.int (0 : Int32)), (.int (0 : Int32)), (.ref b40), (.int (0 : Int32)), (.ref b37), (.ref b37)])) _
    refine XS.iconst X43.here hx rfl (hb hby at_175) ?_
    show Steps p.tables e below (T43.setTop (mkF m 176 (lc0n3_13 p1 p2 p3 p4 p5 b16) [(.int (0 : Int32)), (.ref b43), (.ref b16), (.int (0 : Int32)), (.int (0 : Int32)), (.ref b40), (.int (0 : Int32)), (.ref b37), (.ref b37)])) _
    exact k)
  obtain ⟨_, _, ⟨T46, L46, k46, n46⟩, -, X46, ⟨Lc46, hQ46, l46, y46, z46⟩, st46⟩ := X43.specialBack hx (y := (⟨"com/example/rackstripe/rackstripe/StripePlan", "<init>", "(I[III[I[II)V"⟩ : MethodName)) rfl hown (mvT hZ (hw _ (List.mem_of_getElem? (i := 9) rfl))) (mvT hZ (hw _ (List.mem_of_getElem? (i := 10) rfl))) (mvT hZ (hw _ (List.mem_of_getElem? (i := 11) rfl))) (by decide) (backOf (W := 1) (rm2 l Z a0 hw [] b37 (0 : Int32) b40 (0 : Int32) (0 : Int32) b16 b43 (0 : Int32) h43 n0 Z43 E_b37 F_b37_encoder F_b37_sources F_b37_crossRackDownloads F_b37_intraRackDownloads F_b37_kept F_b37_parity F_b37_parityUnplaced g_b37) hZ (hw _ (List.mem_of_getElem? (i := 11) rfl)) (hw _ (List.mem_of_getElem? (i := 8) rfl)) (by decide) (by decide)) (g := (mkF m 176 (lc0n3_13 p1 p2 p3 p4 p5 b16) [(.int (0 : Int32)), (.ref b43), (.ref b16), (.int (0 : Int32)), (.int (0 : Int32)), (.ref b40), (.int (0 : Int32)), (.ref b37), (.ref b37)])) rfl (by rw [hml]; rfl) (Steps.refl _) (a := b37) (argsL := [(.int (0 : Int32)), (.ref b40), (.int (0 : Int32)), (.int (0 : Int32)), (.ref b16), (.ref b43), (.int (0 : Int32))]) (rest := [(.ref b37)]) (lenOf pd_1 rfl) rfl (by show 2 * 0 + _ ≤ _; exact Nat.le_of_eq rfl) (hb hby at_176) (fun _ _ => ⟨rfl, e43, (by decide : 4 + 0 ≤ _), (by decide : 10 + 0 ≤ _)⟩)
  dsimp only [Pt.U, Pt.locs, Pt.cells, Pt.slots] at X46 l46 y46 z46 st46 hQ46
  subst l46 y46 z46
  obtain ⟨rfl, N46q, K46, q46_0⟩ := hQ46
  have A_b16 := A_b16.keep K46 (ninS ne_b16_b37 nin0)
  have E_b37 := E_b37.keep K46
  have A_b40 := A_b40.keep K46 (ninS (Ne.symm ne_b37_b40) nin0)
  have A_b43 := A_b43.keep K46 (ninS (Ne.symm ne_b37_b43) nin0)
  have Z46 : n0 ≤ T46.heap.size := Nat.le_trans Z43 K46.1
  have F_b37_kept := q46_0
  have N46 := Fr.app N25 N46q
  have pre47 : ∀ t, Steps p.tables e below (T46.setTop (mkF m 179 (lc0n3_13 p1 p2 p3 p4 p5 b16) [(.ref b37)])) t → Steps p.tables e below (s₁.setTop (entryFrame m #[(.int p1), (.int p2), (.int p3), (.int p4), (.int p5)] maxLocals)) t := fun t k => pre45 t (st46.trans k)
  have pre48 : ∀ t, Steps p.tables e below (T46.setTop (mkF m 183 (lc0n3_14 p1 p2 p3 p4 p5 b16 b37) [(.ref b37)])) t → Steps p.tables e below (s₁.setTop (entryFrame m #[(.int p1), (.int p2), (.int p3), (.int p4), (.int p5)] maxLocals)) t := fun t k => pre47 t (by
    show Steps p.tables e below (T46.setTop (mkF m 179 (lc0n3_13 p1 p2 p3 p4 p5 b16) [(.ref b37)])) _
    refine XS.astore X46.here hx rfl (hb hby at_179) rfl rfl (l' := (lc0n3_14 p1 p2 p3 p4 p5 b16 b37)) rfl ?_
    show Steps p.tables e below (T46.setTop (mkF m 181 (lc0n3_14 p1 p2 p3 p4 p5 b16 b37) [])) _
    refine XS.aload X46.here hx rfl (hb hby at_181) rfl rfl ?_
    show Steps p.tables e below (T46.setTop (mkF m 183 (lc0n3_14 p1 p2 p3 p4 p5 b16 b37) [(.ref b37)])) _
    exact k)
  have A_b16 : own_A Z T46.heap b16 .int 3 (own_vec (own_node p2) (own_node p3) (own_node p4) (own_node p5)) := own_A.congr A_b16 (by
    intro i hi
    rcases i with _ | _ | _ | _ | i
    all_goals first | omega | simp [own_put, own_vec])
  obtain ⟨cq49, kq49, q49a, q49b, q49c⟩ := isOf hZ rfl E_b37
  obtain ⟨_, _, ⟨T49, L49, k49, n49⟩, -, X49, ⟨Lc49, hQ49, l49, y49, z49⟩, st49⟩ := X46.virtualBack hx (y := (⟨"com/example/rackstripe/rackstripe/StripePlan", "relocations", "()I"⟩ : MethodName)) (z := (⟨"com/example/rackstripe/rackstripe/StripePlan", "relocations", "()I"⟩ : MethodName)) hown (mvT hZ (hw _ (List.mem_of_getElem? (i := 29) rfl))) (mvT hZ (hw _ (List.mem_of_getElem? (i := 30) rfl))) (notFace_of_selects (args := #[]) (mvT hZ (hw _ (List.mem_of_getElem? (i := 32) rfl)))) (mvT hZ (hw _ (List.mem_of_getElem? (i := 32) rfl))) (mvT hZ (hw _ (List.mem_of_getElem? (i := 31) rfl))) (by decide) (backOf (W := 0) (rmR3 l Z a0 hw [] b37 (own_vec (own_node p2) (own_node p3) (own_node p4) (own_node p5)) b16 T46.heap n0 Z46 E_b37 F_b37_kept A_b16) hZ (hw _ (List.mem_of_getElem? (i := 33) rfl)) (hw _ (List.mem_of_getElem? (i := 8) rfl)) (by decide) (by decide)) q49a q49c (g := (mkF m 183 (lc0n3_14 p1 p2 p3 p4 p5 b16 b37) [(.ref b37)])) rfl (by rw [hml]; rfl) (Steps.refl _) (argsL := []) (rest := []) (lenOf pd_3 rfl) rfl (by show 2 * 0 + _ ≤ _; exact Nat.le_of_eq rfl) (hb hby at_183) (fun _ _ => ⟨rfl, rfl, (by decide : 4 + 0 ≤ _), (by decide : 10 + 0 ≤ _)⟩)
  dsimp only [Pt.U, Pt.locs, Pt.cells, Pt.slots] at X49 l49 y49 z49 st49 hQ49
  subst l49 y49 z49
  obtain ⟨rfl, N49q, e49⟩ := hQ49
  have N49 := Fr.app N46 N49q
  have pre50 : ∀ t, Steps p.tables e below (T49.setTop (mkF m 186 (lc0n3_14 p1 p2 p3 p4 p5 b16 b37) [(.int (own_rel3 (own_vec (own_node p2) (own_node p3) (own_node p4) (own_node p5))))])) t → Steps p.tables e below (s₁.setTop (entryFrame m #[(.int p1), (.int p2), (.int p3), (.int p4), (.int p5)] maxLocals)) t := fun t k => pre48 t (st49.trans k)
  have pre51 : ∀ t, Steps p.tables e below (T49.setTop (mkF m 196 (lc0n3_14 p1 p2 p3 p4 p5 b16 b37) [(.int (1 : Int32))])) t → Steps p.tables e below (s₁.setTop (entryFrame m #[(.int p1), (.int p2), (.int p3), (.int p4), (.int p5)] maxLocals)) t := fun t k => pre50 t (by
    show Steps p.tables e below (T49.setTop (mkF m 186 (lc0n3_14 p1 p2 p3 p4 p5 b16 b37) [(.int (own_rel3 (own_vec (own_node p2) (own_node p3) (own_node p4) (own_node p5))))])) _
    refine XS.iload X49.here hx rfl (hb hby at_186) rfl ?_
    show Steps p.tables e below (T49.setTop (mkF m 188 (lc0n3_14 p1 p2 p3 p4 p5 b16 b37) [(.int (if (own_node p4) = (-1 : Int32) then ((if (own_node p3) = (-1 : Int32) then ((if (own_node p2) = (-1 : Int32) then (1 : Int32) else (0 : Int32)) + (1 : Int32)) else (if (own_node p2) = (-1 : Int32) then (1 : Int32) else (0 : Int32))) + (1 : Int32)) else (if (own_node p3) = (-1 : Int32) then ((if (own_node p2) = (-1 : Int32) then (1 : Int32) else (0 : Int32)) + (1 : Int32)) else (if (own_node p2) = (-1 : Int32) then (1 : Int32) else (0 : Int32))))), (.int (own_rel3 (own_vec (own_node p2) (own_node p3) (own_node p4) (own_node p5))))])) _
    refine XS.icmpNo X49.here hx rfl (hb hby at_188) rfl (teq (show (own_rel3 (own_vec (own_node p2) (own_node p3) (own_node p4) (own_node p5))) = (if (own_node p4) = (-1 : Int32) then ((if (own_node p3) = (-1 : Int32) then ((if (own_node p2) = (-1 : Int32) then (1 : Int32) else (0 : Int32)) + (1 : Int32)) else (if (own_node p2) = (-1 : Int32) then (1 : Int32) else (0 : Int32))) + (1 : Int32)) else (if (own_node p3) = (-1 : Int32) then ((if (own_node p2) = (-1 : Int32) then (1 : Int32) else (0 : Int32)) + (1 : Int32)) else (if (own_node p2) = (-1 : Int32) then (1 : Int32) else (0 : Int32)))) from own_law3 p2 p3 p4 p5)).2 ?_
    show Steps p.tables e below (T49.setTop (mkF m 191 (lc0n3_14 p1 p2 p3 p4 p5 b16 b37) [])) _
    refine XS.iconst X49.here hx rfl (hb hby at_191) ?_
    show Steps p.tables e below (T49.setTop (mkF m 192 (lc0n3_14 p1 p2 p3 p4 p5 b16 b37) [(.int (1 : Int32))])) _
    refine XS.goto X49.here hx rfl (pc0 := 192) (pc' := 196) rfl (hb hby at_192) (by decide) (by decide) ?_
    show Steps p.tables e below (T49.setTop (mkF m 196 (lc0n3_14 p1 p2 p3 p4 p5 b16 b37) [(.int (1 : Int32))])) _
    exact k)
  obtain ⟨fs, hr, hrun, hended, hW, hsame⟩ := X49.leave (v := some (.int (1 : Int32))) (fun h => by rw [Bd.returns] at h; cases h) hlk
  refine ⟨_, _, pre51 _ ?_, hrun, hended, _, _, rfl, ?_, ⟨_, rfl⟩, hW, hsame.mono (by decide) (by decide)⟩
  · show Steps p.tables e below (T49.setTop (mkF m 196 (lc0n3_14 p1 p2 p3 p4 p5 b16 b37) [(.int (1 : Int32))])) _
    exact retN X49 hx (t := .boolean) Bd.returns (by simp) (hb hby at_196) hr
  · show Q0n3 Z p1 p2 p3 p4 p5 h0 n0 _ T49.heap _
    rw [e49]
    exact ⟨rfl, N49⟩
def lc0n4_0 (p1 : Int32) (p2 : Int32) (p3 : Int32) (p4 : Int32) (p5 : Int32) : Array Slot := #[.val (.int p1), .val (.int p2), .val (.int p3), .val (.int p4), .val (.int p5), .val (.int (4 : Int32)), .unset, .unset, .unset, .unset, .unset, .unset, .unset]
def lc0n4_1 (p1 : Int32) (p2 : Int32) (p3 : Int32) (p4 : Int32) (p5 : Int32) : Array Slot := #[.val (.int p1), .val (.int p2), .val (.int p3), .val (.int p4), .val (.int p5), .val (.int (4 : Int32)), .val (.int (own_node p2)), .unset, .unset, .unset, .unset, .unset, .unset]
def lc0n4_2 (p1 : Int32) (p2 : Int32) (p3 : Int32) (p4 : Int32) (p5 : Int32) : Array Slot := #[.val (.int p1), .val (.int p2), .val (.int p3), .val (.int p4), .val (.int p5), .val (.int (4 : Int32)), .val (.int (own_node p2)), .val (.int (own_node p3)), .unset, .unset, .unset, .unset, .unset]
def lc0n4_3 (p1 : Int32) (p2 : Int32) (p3 : Int32) (p4 : Int32) (p5 : Int32) : Array Slot := #[.val (.int p1), .val (.int p2), .val (.int p3), .val (.int p4), .val (.int p5), .val (.int (4 : Int32)), .val (.int (own_node p2)), .val (.int (own_node p3)), .val (.int (own_node p4)), .unset, .unset, .unset, .unset]
def lc0n4_4 (p1 : Int32) (p2 : Int32) (p3 : Int32) (p4 : Int32) (p5 : Int32) : Array Slot := #[.val (.int p1), .val (.int p2), .val (.int p3), .val (.int p4), .val (.int p5), .val (.int (4 : Int32)), .val (.int (own_node p2)), .val (.int (own_node p3)), .val (.int (own_node p4)), .val (.int (own_node p5)), .unset, .unset, .unset]
def lc0n4_5 (p1 : Int32) (p2 : Int32) (p3 : Int32) (p4 : Int32) (p5 : Int32) (b16 : Addr) : Array Slot := #[.val (.int p1), .val (.int p2), .val (.int p3), .val (.int p4), .val (.int p5), .val (.int (4 : Int32)), .val (.int (own_node p2)), .val (.int (own_node p3)), .val (.int (own_node p4)), .val (.int (own_node p5)), .val (.ref b16), .unset, .unset]
def lc0n4_6 (p1 : Int32) (p2 : Int32) (p3 : Int32) (p4 : Int32) (p5 : Int32) (b16 : Addr) : Array Slot := #[.val (.int p1), .val (.int p2), .val (.int p3), .val (.int p4), .val (.int p5), .val (.int (4 : Int32)), .val (.int (own_node p2)), .val (.int (own_node p3)), .val (.int (own_node p4)), .val (.int (own_node p5)), .val (.ref b16), .val (.int (0 : Int32)), .unset]
def lc0n4_7 (p1 : Int32) (p2 : Int32) (p3 : Int32) (p4 : Int32) (p5 : Int32) (b16 : Addr) : Array Slot := #[.val (.int p1), .val (.int p2), .val (.int p3), .val (.int p4), .val (.int p5), .val (.int (4 : Int32)), .val (.int (own_node p2)), .val (.int (own_node p3)), .val (.int (own_node p4)), .val (.int (own_node p5)), .val (.ref b16), .val (.int (1 : Int32)), .unset]
def lc0n4_8 (p1 : Int32) (p2 : Int32) (p3 : Int32) (p4 : Int32) (p5 : Int32) (b16 : Addr) (xI : Int32) : Array Slot := #[.val (.int p1), .val (.int p2), .val (.int p3), .val (.int p4), .val (.int p5), .val (.int (4 : Int32)), .val (.int (own_node p2)), .val (.int (own_node p3)), .val (.int (own_node p4)), .val (.int (own_node p5)), .val (.ref b16), .val (.int xI), .unset]
def lc0n4_9 (p1 : Int32) (p2 : Int32) (p3 : Int32) (p4 : Int32) (p5 : Int32) (b16 : Addr) : Array Slot := #[.val (.int p1), .val (.int p2), .val (.int p3), .val (.int p4), .val (.int p5), .val (.int (4 : Int32)), .val (.int (own_node p2)), .val (.int (own_node p3)), .val (.int (own_node p4)), .val (.int (own_node p5)), .val (.ref b16), .val (.int (if (own_node p2) = (-1 : Int32) then (1 : Int32) else (0 : Int32))), .unset]
def lc0n4_10 (p1 : Int32) (p2 : Int32) (p3 : Int32) (p4 : Int32) (p5 : Int32) (b16 : Addr) : Array Slot := #[.val (.int p1), .val (.int p2), .val (.int p3), .val (.int p4), .val (.int p5), .val (.int (4 : Int32)), .val (.int (own_node p2)), .val (.int (own_node p3)), .val (.int (own_node p4)), .val (.int (own_node p5)), .val (.ref b16), .val (.int ((if (own_node p2) = (-1 : Int32) then (1 : Int32) else (0 : Int32)) + (1 : Int32))), .unset]
def lc0n4_11 (p1 : Int32) (p2 : Int32) (p3 : Int32) (p4 : Int32) (p5 : Int32) (b16 : Addr) : Array Slot := #[.val (.int p1), .val (.int p2), .val (.int p3), .val (.int p4), .val (.int p5), .val (.int (4 : Int32)), .val (.int (own_node p2)), .val (.int (own_node p3)), .val (.int (own_node p4)), .val (.int (own_node p5)), .val (.ref b16), .val (.int (if (own_node p3) = (-1 : Int32) then ((if (own_node p2) = (-1 : Int32) then (1 : Int32) else (0 : Int32)) + (1 : Int32)) else (if (own_node p2) = (-1 : Int32) then (1 : Int32) else (0 : Int32)))), .unset]
def lc0n4_12 (p1 : Int32) (p2 : Int32) (p3 : Int32) (p4 : Int32) (p5 : Int32) (b16 : Addr) : Array Slot := #[.val (.int p1), .val (.int p2), .val (.int p3), .val (.int p4), .val (.int p5), .val (.int (4 : Int32)), .val (.int (own_node p2)), .val (.int (own_node p3)), .val (.int (own_node p4)), .val (.int (own_node p5)), .val (.ref b16), .val (.int ((if (own_node p3) = (-1 : Int32) then ((if (own_node p2) = (-1 : Int32) then (1 : Int32) else (0 : Int32)) + (1 : Int32)) else (if (own_node p2) = (-1 : Int32) then (1 : Int32) else (0 : Int32))) + (1 : Int32))), .unset]
def lc0n4_13 (p1 : Int32) (p2 : Int32) (p3 : Int32) (p4 : Int32) (p5 : Int32) (b16 : Addr) : Array Slot := #[.val (.int p1), .val (.int p2), .val (.int p3), .val (.int p4), .val (.int p5), .val (.int (4 : Int32)), .val (.int (own_node p2)), .val (.int (own_node p3)), .val (.int (own_node p4)), .val (.int (own_node p5)), .val (.ref b16), .val (.int (if (own_node p4) = (-1 : Int32) then ((if (own_node p3) = (-1 : Int32) then ((if (own_node p2) = (-1 : Int32) then (1 : Int32) else (0 : Int32)) + (1 : Int32)) else (if (own_node p2) = (-1 : Int32) then (1 : Int32) else (0 : Int32))) + (1 : Int32)) else (if (own_node p3) = (-1 : Int32) then ((if (own_node p2) = (-1 : Int32) then (1 : Int32) else (0 : Int32)) + (1 : Int32)) else (if (own_node p2) = (-1 : Int32) then (1 : Int32) else (0 : Int32))))), .unset]
def lc0n4_14 (p1 : Int32) (p2 : Int32) (p3 : Int32) (p4 : Int32) (p5 : Int32) (b16 : Addr) : Array Slot := #[.val (.int p1), .val (.int p2), .val (.int p3), .val (.int p4), .val (.int p5), .val (.int (4 : Int32)), .val (.int (own_node p2)), .val (.int (own_node p3)), .val (.int (own_node p4)), .val (.int (own_node p5)), .val (.ref b16), .val (.int ((if (own_node p4) = (-1 : Int32) then ((if (own_node p3) = (-1 : Int32) then ((if (own_node p2) = (-1 : Int32) then (1 : Int32) else (0 : Int32)) + (1 : Int32)) else (if (own_node p2) = (-1 : Int32) then (1 : Int32) else (0 : Int32))) + (1 : Int32)) else (if (own_node p3) = (-1 : Int32) then ((if (own_node p2) = (-1 : Int32) then (1 : Int32) else (0 : Int32)) + (1 : Int32)) else (if (own_node p2) = (-1 : Int32) then (1 : Int32) else (0 : Int32)))) + (1 : Int32))), .unset]
def lc0n4_15 (p1 : Int32) (p2 : Int32) (p3 : Int32) (p4 : Int32) (p5 : Int32) (b16 : Addr) : Array Slot := #[.val (.int p1), .val (.int p2), .val (.int p3), .val (.int p4), .val (.int p5), .val (.int (4 : Int32)), .val (.int (own_node p2)), .val (.int (own_node p3)), .val (.int (own_node p4)), .val (.int (own_node p5)), .val (.ref b16), .val (.int (if (own_node p5) = (-1 : Int32) then ((if (own_node p4) = (-1 : Int32) then ((if (own_node p3) = (-1 : Int32) then ((if (own_node p2) = (-1 : Int32) then (1 : Int32) else (0 : Int32)) + (1 : Int32)) else (if (own_node p2) = (-1 : Int32) then (1 : Int32) else (0 : Int32))) + (1 : Int32)) else (if (own_node p3) = (-1 : Int32) then ((if (own_node p2) = (-1 : Int32) then (1 : Int32) else (0 : Int32)) + (1 : Int32)) else (if (own_node p2) = (-1 : Int32) then (1 : Int32) else (0 : Int32)))) + (1 : Int32)) else (if (own_node p4) = (-1 : Int32) then ((if (own_node p3) = (-1 : Int32) then ((if (own_node p2) = (-1 : Int32) then (1 : Int32) else (0 : Int32)) + (1 : Int32)) else (if (own_node p2) = (-1 : Int32) then (1 : Int32) else (0 : Int32))) + (1 : Int32)) else (if (own_node p3) = (-1 : Int32) then ((if (own_node p2) = (-1 : Int32) then (1 : Int32) else (0 : Int32)) + (1 : Int32)) else (if (own_node p2) = (-1 : Int32) then (1 : Int32) else (0 : Int32)))))), .unset]
def lc0n4_16 (p1 : Int32) (p2 : Int32) (p3 : Int32) (p4 : Int32) (p5 : Int32) (b16 : Addr) (b42 : Addr) : Array Slot := #[.val (.int p1), .val (.int p2), .val (.int p3), .val (.int p4), .val (.int p5), .val (.int (4 : Int32)), .val (.int (own_node p2)), .val (.int (own_node p3)), .val (.int (own_node p4)), .val (.int (own_node p5)), .val (.ref b16), .val (.int (if (own_node p5) = (-1 : Int32) then ((if (own_node p4) = (-1 : Int32) then ((if (own_node p3) = (-1 : Int32) then ((if (own_node p2) = (-1 : Int32) then (1 : Int32) else (0 : Int32)) + (1 : Int32)) else (if (own_node p2) = (-1 : Int32) then (1 : Int32) else (0 : Int32))) + (1 : Int32)) else (if (own_node p3) = (-1 : Int32) then ((if (own_node p2) = (-1 : Int32) then (1 : Int32) else (0 : Int32)) + (1 : Int32)) else (if (own_node p2) = (-1 : Int32) then (1 : Int32) else (0 : Int32)))) + (1 : Int32)) else (if (own_node p4) = (-1 : Int32) then ((if (own_node p3) = (-1 : Int32) then ((if (own_node p2) = (-1 : Int32) then (1 : Int32) else (0 : Int32)) + (1 : Int32)) else (if (own_node p2) = (-1 : Int32) then (1 : Int32) else (0 : Int32))) + (1 : Int32)) else (if (own_node p3) = (-1 : Int32) then ((if (own_node p2) = (-1 : Int32) then (1 : Int32) else (0 : Int32)) + (1 : Int32)) else (if (own_node p2) = (-1 : Int32) then (1 : Int32) else (0 : Int32)))))), .val (.ref b42)]
def Q0n4 (Z : State) (p1 : Int32) (p2 : Int32) (p3 : Int32) (p4 : Int32) (p5 : Int32) (h0 : Heap) (n0 : Nat) (v : Option Value) (h : Heap) (L : List Loc) : Prop := v = some (.int (1 : Int32)) ∧ Fr n0 L
set_option maxRecDepth 65536 in
set_option maxHeartbeats 40000000 in
theorem rm0n4 (l : Launch) (Z : State) (a0 : Array Value) (hw : ∀ d ∈ tables_1, d.before a0 Z = true) (ws : List Jvm.Cond) (p1 : Int32) (p2 : Int32) (p3 : Int32) (p4 : Int32) (p5 : Int32) (h0 : Heap) (n0 : Nat) (Z0 : n0 ≤ h0.size) (ek : ((p1 &&& (2147483647 : Int32)) % (5 : Int32)) = (4 : Int32)) :
    MetFree l x (head1 (Jvm.Cond.code x code maxLocals ret :: ws) room_1) (fun aa U => aa = #[(.int p1), (.int p2), (.int p3), (.int p4), (.int p5)] ∧ Z.Warmed39 U.vm ∧ U.heap = h0) (fun _ _ _ _ _ => True) (fun _ U o U' => ∃ v L, o = .returned v ∧ Q0n4 Z p1 p2 p3 p4 p5 h0 n0 v U'.heap L ∧ FrameEnd U o U' L room_1.cells room_1.slots) := by
  refine MetFree.of_bodySF (plainFor_of_name pn_StripePlanRelocationsPinLaw) hisR ?_
  intro p e s m args below meth c s₁ Bd hml0 hP hK
  obtain ⟨rfl, hZ, hh⟩ := hP
  have hx := Bd.exec
  have hby := Bd.bytes
  have hml : c.maxLocals = 13 := hml0
  have hown : s.vm.findClass "com/example/rackstripe/rackstripe/StripePlanRelocationsPinLaw" = some m.cls := findClass_of_methodNamed Bd.named
  have hnm := (name_of_methodNamed Bd.named Bd.method).1
  have X0 : Stand p l e room_1 s m #[(.int p1), (.int p2), (.int p3), (.int p4), (.int p5)] below meth c s₁ [] 0 0 := Stand.of_body Bd
  have e0 : s₁.heap = h0 := by rw [← hh, Bd.state]; rfl
  have N0 := Fr.nil n0
  have hlk : meth.locks = false := by first | exact BodyLoose.notSynchronized Bd | exact Body.notSynchronized Bd
  have pre0 : ∀ t, Steps p.tables e below (s₁.setTop (mkF m 0 #[.val (.int p1), .val (.int p2), .val (.int p3), .val (.int p4), .val (.int p5), .unset, .unset, .unset, .unset, .unset, .unset, .unset, .unset] [])) t → Steps p.tables e below (s₁.setTop (entryFrame m #[(.int p1), (.int p2), (.int p3), (.int p4), (.int p5)] maxLocals)) t := fun t k => castTop (ef_0 m p1 p2 p3 p4 p5) k
  have pre1 : ∀ t, Steps p.tables e below (s₁.setTop (mkF m 6 #[.val (.int p1), .val (.int p2), .val (.int p3), .val (.int p4), .val (.int p5), .unset, .unset, .unset, .unset, .unset, .unset, .unset, .unset] [(.int ((p1 &&& (2147483647 : Int32)) % (5 : Int32)))])) t → Steps p.tables e below (s₁.setTop (entryFrame m #[(.int p1), (.int p2), (.int p3), (.int p4), (.int p5)] maxLocals)) t := fun t k => pre0 t (by
    show Steps p.tables e below (s₁.setTop (mkF m 0 #[.val (.int p1), .val (.int p2), .val (.int p3), .val (.int p4), .val (.int p5), .unset, .unset, .unset, .unset, .unset, .unset, .unset, .unset] [])) _
    refine XS.iloadN X0.here hx rfl (hb hby at_0) rfl ?_
    show Steps p.tables e below (s₁.setTop (mkF m 1 #[.val (.int p1), .val (.int p2), .val (.int p3), .val (.int p4), .val (.int p5), .unset, .unset, .unset, .unset, .unset, .unset, .unset, .unset] [(.int p1)])) _
    refine X0.ldcInt hx hown (mvT hZ (hw _ (List.mem_of_getElem? (i := 0) rfl))) (g := (mkF m 1 #[.val (.int p1), .val (.int p2), .val (.int p3), .val (.int p4), .val (.int p5), .unset, .unset, .unset, .unset, .unset, .unset, .unset, .unset] [(.int p1)])) rfl (hb hby at_1) _ ?_
    show Steps p.tables e below (s₁.setTop (mkF m 3 #[.val (.int p1), .val (.int p2), .val (.int p3), .val (.int p4), .val (.int p5), .unset, .unset, .unset, .unset, .unset, .unset, .unset, .unset] [(.int (2147483647 : Int32)), (.int p1)])) _
    refine XS.iand X0.here hx rfl (hb hby at_3) rfl ?_
    show Steps p.tables e below (s₁.setTop (mkF m 4 #[.val (.int p1), .val (.int p2), .val (.int p3), .val (.int p4), .val (.int p5), .unset, .unset, .unset, .unset, .unset, .unset, .unset, .unset] [(.int (p1 &&& (2147483647 : Int32)))])) _
    refine XS.iconst X0.here hx rfl (hb hby at_4) ?_
    show Steps p.tables e below (s₁.setTop (mkF m 5 #[.val (.int p1), .val (.int p2), .val (.int p3), .val (.int p4), .val (.int p5), .unset, .unset, .unset, .unset, .unset, .unset, .unset, .unset] [(.int (5 : Int32)), (.int (p1 &&& (2147483647 : Int32)))])) _
    refine iremM X0 hx rfl (hb hby at_5) rfl (by decide) ?_
    show Steps p.tables e below (s₁.setTop (mkF m 6 #[.val (.int p1), .val (.int p2), .val (.int p3), .val (.int p4), .val (.int p5), .unset, .unset, .unset, .unset, .unset, .unset, .unset, .unset] [(.int ((p1 &&& (2147483647 : Int32)) % (5 : Int32)))])) _
    exact k)
  have pre2 : ∀ t, Steps p.tables e below (s₁.setTop (mkF m 6 #[.val (.int p1), .val (.int p2), .val (.int p3), .val (.int p4), .val (.int p5), .unset, .unset, .unset, .unset, .unset, .unset, .unset, .unset] [(.int (4 : Int32))])) t → Steps p.tables e below (s₁.setTop (entryFrame m #[(.int p1), (.int p2), (.int p3), (.int p4), (.int p5)] maxLocals)) t := fun t k => pre1 t (by rw [ek]; exact k)
  have pre3 : ∀ t, Steps p.tables e below (s₁.setTop (mkF m 9 (lc0n4_0 p1 p2 p3 p4 p5) [(.int p2)])) t → Steps p.tables e below (s₁.setTop (entryFrame m #[(.int p1), (.int p2), (.int p3), (.int p4), (.int p5)] maxLocals)) t := fun t k => pre2 t (by
    show Steps p.tables e below (s₁.setTop (mkF m 6 #[.val (.int p1), .val (.int p2), .val (.int p3), .val (.int p4), .val (.int p5), .unset, .unset, .unset, .unset, .unset, .unset, .unset, .unset] [(.int (4 : Int32))])) _
    refine XS.istore X0.here hx rfl (hb hby at_6) rfl (l' := (lc0n4_0 p1 p2 p3 p4 p5)) rfl ?_
    show Steps p.tables e below (s₁.setTop (mkF m 8 (lc0n4_0 p1 p2 p3 p4 p5) [])) _
    refine XS.iloadN X0.here hx rfl (hb hby at_8) rfl ?_
    show Steps p.tables e below (s₁.setTop (mkF m 9 (lc0n4_0 p1 p2 p3 p4 p5) [(.int p2)])) _
    exact k)
  obtain ⟨_, _, ⟨T4, L4, k4, n4⟩, -, X4, ⟨Lc4, hQ4, l4, y4, z4⟩, st4⟩ := Jvm.LawKit.callS X0 hx (y := (⟨"com/example/rackstripe/rackstripe/StripePlanRelocationsPinLaw", "node", "(I)I"⟩ : MethodName)) hown (mvT hZ (hw _ (List.mem_of_getElem? (i := 1) rfl))) (mvT hZ (hw _ (List.mem_of_getElem? (i := 2) rfl))) (mvT hZ (hw _ (List.mem_of_getElem? (i := 3) rfl))) (mvT hZ (hw _ (List.mem_of_getElem? (i := 4) rfl))) (by decide) (backOf (W := 0) (rm1 l Z a0 hw [] p2 h0 n0 Z0) hZ (hw _ (List.mem_of_getElem? (i := 4) rfl)) (hw _ (List.mem_of_getElem? (i := 3) rfl)) (by decide) (by decide)) (g := (mkF m 9 (lc0n4_0 p1 p2 p3 p4 p5) [(.int p2)])) rfl (by rw [hml]; rfl) (argsL := [(.int p2)]) (rest := []) (lenOf pd_0 rfl) rfl (by show 2 * 0 + _ ≤ _; exact Nat.le_of_eq rfl) (hb hby at_9) (fun _ _ => ⟨rfl, e0, (by decide : 0 + 0 ≤ _), (by decide : 0 + 0 ≤ _)⟩)
  dsimp only [Pt.U, Pt.locs, Pt.cells, Pt.slots] at X4 l4 y4 z4 st4 hQ4
  subst l4 y4 z4
  obtain ⟨rfl, N4q, e4⟩ := hQ4
  have N4 := Fr.app N0 N4q
  have pre5 : ∀ t, Steps p.tables e below (T4.setTop (mkF m 12 (lc0n4_0 p1 p2 p3 p4 p5) [(.int (own_node p2))])) t → Steps p.tables e below (s₁.setTop (entryFrame m #[(.int p1), (.int p2), (.int p3), (.int p4), (.int p5)] maxLocals)) t := fun t k => pre3 t (st4 t k)
  have pre6 : ∀ t, Steps p.tables e below (T4.setTop (mkF m 15 (lc0n4_1 p1 p2 p3 p4 p5) [(.int p3)])) t → Steps p.tables e below (s₁.setTop (entryFrame m #[(.int p1), (.int p2), (.int p3), (.int p4), (.int p5)] maxLocals)) t := fun t k => pre5 t (by
    show Steps p.tables e below (T4.setTop (mkF m 12 (lc0n4_0 p1 p2 p3 p4 p5) [(.int (own_node p2))])) _
    refine XS.istore X4.here hx rfl (hb hby at_12) rfl (l' := (lc0n4_1 p1 p2 p3 p4 p5)) rfl ?_
    show Steps p.tables e below (T4.setTop (mkF m 14 (lc0n4_1 p1 p2 p3 p4 p5) [])) _
    refine XS.iloadN X4.here hx rfl (hb hby at_14) rfl ?_
    show Steps p.tables e below (T4.setTop (mkF m 15 (lc0n4_1 p1 p2 p3 p4 p5) [(.int p3)])) _
    exact k)
  obtain ⟨_, _, ⟨T7, L7, k7, n7⟩, -, X7, ⟨Lc7, hQ7, l7, y7, z7⟩, st7⟩ := Jvm.LawKit.callS X4 hx (y := (⟨"com/example/rackstripe/rackstripe/StripePlanRelocationsPinLaw", "node", "(I)I"⟩ : MethodName)) hown (mvT hZ (hw _ (List.mem_of_getElem? (i := 1) rfl))) (mvT hZ (hw _ (List.mem_of_getElem? (i := 2) rfl))) (mvT hZ (hw _ (List.mem_of_getElem? (i := 3) rfl))) (mvT hZ (hw _ (List.mem_of_getElem? (i := 4) rfl))) (by decide) (backOf (W := 0) (rm1 l Z a0 hw [] p3 h0 n0 Z0) hZ (hw _ (List.mem_of_getElem? (i := 4) rfl)) (hw _ (List.mem_of_getElem? (i := 3) rfl)) (by decide) (by decide)) (g := (mkF m 15 (lc0n4_1 p1 p2 p3 p4 p5) [(.int p3)])) rfl (by rw [hml]; rfl) (argsL := [(.int p3)]) (rest := []) (lenOf pd_0 rfl) rfl (by show 2 * 0 + _ ≤ _; exact Nat.le_of_eq rfl) (hb hby at_15) (fun _ _ => ⟨rfl, e4, (by decide : 0 + 0 ≤ _), (by decide : 0 + 0 ≤ _)⟩)
  dsimp only [Pt.U, Pt.locs, Pt.cells, Pt.slots] at X7 l7 y7 z7 st7 hQ7
  subst l7 y7 z7
  obtain ⟨rfl, N7q, e7⟩ := hQ7
  have N7 := Fr.app N4 N7q
  have pre8 : ∀ t, Steps p.tables e below (T7.setTop (mkF m 18 (lc0n4_1 p1 p2 p3 p4 p5) [(.int (own_node p3))])) t → Steps p.tables e below (s₁.setTop (entryFrame m #[(.int p1), (.int p2), (.int p3), (.int p4), (.int p5)] maxLocals)) t := fun t k => pre6 t (st7 t k)
  have pre9 : ∀ t, Steps p.tables e below (T7.setTop (mkF m 21 (lc0n4_2 p1 p2 p3 p4 p5) [(.int p4)])) t → Steps p.tables e below (s₁.setTop (entryFrame m #[(.int p1), (.int p2), (.int p3), (.int p4), (.int p5)] maxLocals)) t := fun t k => pre8 t (by
    show Steps p.tables e below (T7.setTop (mkF m 18 (lc0n4_1 p1 p2 p3 p4 p5) [(.int (own_node p3))])) _
    refine XS.istore X7.here hx rfl (hb hby at_18) rfl (l' := (lc0n4_2 p1 p2 p3 p4 p5)) rfl ?_
    show Steps p.tables e below (T7.setTop (mkF m 20 (lc0n4_2 p1 p2 p3 p4 p5) [])) _
    refine XS.iloadN X7.here hx rfl (hb hby at_20) rfl ?_
    show Steps p.tables e below (T7.setTop (mkF m 21 (lc0n4_2 p1 p2 p3 p4 p5) [(.int p4)])) _
    exact k)
  obtain ⟨_, _, ⟨T10, L10, k10, n10⟩, -, X10, ⟨Lc10, hQ10, l10, y10, z10⟩, st10⟩ := Jvm.LawKit.callS X7 hx (y := (⟨"com/example/rackstripe/rackstripe/StripePlanRelocationsPinLaw", "node", "(I)I"⟩ : MethodName)) hown (mvT hZ (hw _ (List.mem_of_getElem? (i := 1) rfl))) (mvT hZ (hw _ (List.mem_of_getElem? (i := 2) rfl))) (mvT hZ (hw _ (List.mem_of_getElem? (i := 3) rfl))) (mvT hZ (hw _ (List.mem_of_getElem? (i := 4) rfl))) (by decide) (backOf (W := 0) (rm1 l Z a0 hw [] p4 h0 n0 Z0) hZ (hw _ (List.mem_of_getElem? (i := 4) rfl)) (hw _ (List.mem_of_getElem? (i := 3) rfl)) (by decide) (by decide)) (g := (mkF m 21 (lc0n4_2 p1 p2 p3 p4 p5) [(.int p4)])) rfl (by rw [hml]; rfl) (argsL := [(.int p4)]) (rest := []) (lenOf pd_0 rfl) rfl (by show 2 * 0 + _ ≤ _; exact Nat.le_of_eq rfl) (hb hby at_21) (fun _ _ => ⟨rfl, e7, (by decide : 0 + 0 ≤ _), (by decide : 0 + 0 ≤ _)⟩)
  dsimp only [Pt.U, Pt.locs, Pt.cells, Pt.slots] at X10 l10 y10 z10 st10 hQ10
  subst l10 y10 z10
  obtain ⟨rfl, N10q, e10⟩ := hQ10
  have N10 := Fr.app N7 N10q
  have pre11 : ∀ t, Steps p.tables e below (T10.setTop (mkF m 24 (lc0n4_2 p1 p2 p3 p4 p5) [(.int (own_node p4))])) t → Steps p.tables e below (s₁.setTop (entryFrame m #[(.int p1), (.int p2), (.int p3), (.int p4), (.int p5)] maxLocals)) t := fun t k => pre9 t (st10 t k)
  have pre12 : ∀ t, Steps p.tables e below (T10.setTop (mkF m 28 (lc0n4_3 p1 p2 p3 p4 p5) [(.int p5)])) t → Steps p.tables e below (s₁.setTop (entryFrame m #[(.int p1), (.int p2), (.int p3), (.int p4), (.int p5)] maxLocals)) t := fun t k => pre11 t (by
    show Steps p.tables e below (T10.setTop (mkF m 24 (lc0n4_2 p1 p2 p3 p4 p5) [(.int (own_node p4))])) _
    refine XS.istore X10.here hx rfl (hb hby at_24) rfl (l' := (lc0n4_3 p1 p2 p3 p4 p5)) rfl ?_
    show Steps p.tables e below (T10.setTop (mkF m 26 (lc0n4_3 p1 p2 p3 p4 p5) [])) _
    refine XS.iload X10.here hx rfl (hb hby at_26) rfl ?_
    show Steps p.tables e below (T10.setTop (mkF m 28 (lc0n4_3 p1 p2 p3 p4 p5) [(.int p5)])) _
    exact k)
  obtain ⟨_, _, ⟨T13, L13, k13, n13⟩, -, X13, ⟨Lc13, hQ13, l13, y13, z13⟩, st13⟩ := Jvm.LawKit.callS X10 hx (y := (⟨"com/example/rackstripe/rackstripe/StripePlanRelocationsPinLaw", "node", "(I)I"⟩ : MethodName)) hown (mvT hZ (hw _ (List.mem_of_getElem? (i := 1) rfl))) (mvT hZ (hw _ (List.mem_of_getElem? (i := 2) rfl))) (mvT hZ (hw _ (List.mem_of_getElem? (i := 3) rfl))) (mvT hZ (hw _ (List.mem_of_getElem? (i := 4) rfl))) (by decide) (backOf (W := 0) (rm1 l Z a0 hw [] p5 h0 n0 Z0) hZ (hw _ (List.mem_of_getElem? (i := 4) rfl)) (hw _ (List.mem_of_getElem? (i := 3) rfl)) (by decide) (by decide)) (g := (mkF m 28 (lc0n4_3 p1 p2 p3 p4 p5) [(.int p5)])) rfl (by rw [hml]; rfl) (argsL := [(.int p5)]) (rest := []) (lenOf pd_0 rfl) rfl (by show 2 * 0 + _ ≤ _; exact Nat.le_of_eq rfl) (hb hby at_28) (fun _ _ => ⟨rfl, e10, (by decide : 0 + 0 ≤ _), (by decide : 0 + 0 ≤ _)⟩)
  dsimp only [Pt.U, Pt.locs, Pt.cells, Pt.slots] at X13 l13 y13 z13 st13 hQ13
  subst l13 y13 z13
  obtain ⟨rfl, N13q, e13⟩ := hQ13
  have N13 := Fr.app N10 N13q
  have pre14 : ∀ t, Steps p.tables e below (T13.setTop (mkF m 31 (lc0n4_3 p1 p2 p3 p4 p5) [(.int (own_node p5))])) t → Steps p.tables e below (s₁.setTop (entryFrame m #[(.int p1), (.int p2), (.int p3), (.int p4), (.int p5)] maxLocals)) t := fun t k => pre12 t (st13 t k)
  have pre15 : ∀ t, Steps p.tables e below (T13.setTop (mkF m 35 (lc0n4_4 p1 p2 p3 p4 p5) [(.int (4 : Int32))])) t → Steps p.tables e below (s₁.setTop (entryFrame m #[(.int p1), (.int p2), (.int p3), (.int p4), (.int p5)] maxLocals)) t := fun t k => pre14 t (by
    show Steps p.tables e below (T13.setTop (mkF m 31 (lc0n4_3 p1 p2 p3 p4 p5) [(.int (own_node p5))])) _
    refine XS.istore X13.here hx rfl (hb hby at_31) rfl (l' := (lc0n4_4 p1 p2 p3 p4 p5)) rfl ?_
    show Steps p.tables e below (T13.setTop (mkF m 33 (lc0n4_4 p1 p2 p3 p4 p5) [])) _
    refine XS.iload X13.here hx rfl (hb hby at_33) rfl ?_
    show Steps p.tables e below (T13.setTop (mkF m 35 (lc0n4_4 p1 p2 p3 p4 p5) [(.int (4 : Int32))])) _
    exact k)
  obtain ⟨T16, h16, k16, X16, e16, E16, A16, st16⟩ := newP X13 hx hZ (hw _ (List.mem_of_getElem? (i := 5) rfl)) e13 (g := (mkF m 35 (lc0n4_4 p1 p2 p3 p4 p5) [(.int (4 : Int32))])) rfl (hb hby at_35) rfl (by decide) (cap := 4) (by decide) (by decide) (by decide) (by decide)
  obtain ⟨b16, g16⟩ : ∃ z, z = h0.size := ⟨_, rfl⟩
  rw [← g16] at A16 st16
  have g_b16 : n0 ≤ b16 := Nat.le_trans Z0 (Nat.le_of_eq g16.symm)
  have Z16 : n0 ≤ h16.size := Nat.le_trans Z0 E16.1
  have A_b16 : own_A Z h16 b16 .int 4 (fun _ => (0 : Int32)) := own_A.new A16 rfl rfl
  have pre17 : ∀ t, Steps p.tables e below (T16.setTop (mkF m 37 (lc0n4_4 p1 p2 p3 p4 p5) [(.ref b16)])) t → Steps p.tables e below (s₁.setTop (entryFrame m #[(.int p1), (.int p2), (.int p3), (.int p4), (.int p5)] maxLocals)) t := fun t k => pre15 t (st16 t k)
  have pre18 : ∀ t, Steps p.tables e below (T16.setTop (mkF m 49 (lc0n4_5 p1 p2 p3 p4 p5 b16) [(.int (own_node p2)), (.int (0 : Int32)), (.ref b16)])) t → Steps p.tables e below (s₁.setTop (entryFrame m #[(.int p1), (.int p2), (.int p3), (.int p4), (.int p5)] maxLocals)) t := fun t k => pre17 t (by
    show Steps p.tables e below (T16.setTop (mkF m 37 (lc0n4_4 p1 p2 p3 p4 p5) [(.ref b16)])) _
    refine XS.astore X16.here hx rfl (hb hby at_37) rfl rfl (l' := (lc0n4_5 p1 p2 p3 p4 p5 b16)) rfl ?_
    show Steps p.tables e below (T16.setTop (mkF m 39 (lc0n4_5 p1 p2 p3 p4 p5 b16) [])) _
    refine XS.iload X16.here hx rfl (hb hby at_39) rfl ?_
    show Steps p.tables e below (T16.setTop (mkF m 41 (lc0n4_5 p1 p2 p3 p4 p5 b16) [(.int (4 : Int32))])) _
    refine XS.ifNo X16.here hx rfl (hb hby at_41) rfl ((if0 _ _).trans (tlt (by decide)).2.2.2) ?_
    show Steps p.tables e below (T16.setTop (mkF m 44 (lc0n4_5 p1 p2 p3 p4 p5 b16) [])) _
    refine XS.aload X16.here hx rfl (hb hby at_44) rfl rfl ?_
    show Steps p.tables e below (T16.setTop (mkF m 46 (lc0n4_5 p1 p2 p3 p4 p5 b16) [(.ref b16)])) _
    refine XS.iconst X16.here hx rfl (hb hby at_46) ?_
    show Steps p.tables e below (T16.setTop (mkF m 47 (lc0n4_5 p1 p2 p3 p4 p5 b16) [(.int (0 : Int32)), (.ref b16)])) _
    refine XS.iload X16.here hx rfl (hb hby at_47) rfl ?_
    show Steps p.tables e below (T16.setTop (mkF m 49 (lc0n4_5 p1 p2 p3 p4 p5 b16) [(.int (own_node p2)), (.int (0 : Int32)), (.ref b16)])) _
    exact k)
  obtain ⟨cl19, Ar19, Sz19, Hf19⟩ := A_b16
  obtain ⟨T19, h19, X19, e19, W19, st19⟩ := stI X16 hx hZ e16 Ar19 (j := (0 : Int32)) (own_inb Sz19 ⟨by decide, by decide⟩) (g := (mkF m 49 (lc0n4_5 p1 p2 p3 p4 p5 b16) [(.int (own_node p2)), (.int (0 : Int32)), (.ref b16)])) rfl rfl (hb hby at_49)
  have A_b16 : own_A Z h19 b16 .int 4 (own_put (fun _ => (0 : Int32)) 0 (own_node p2)) := own_A.set Ar19 Sz19 Hf19 W19
  have Z19 : n0 ≤ h19.size := Nat.le_trans Z16 (Keep.of_wr W19).1
  have N19 := Fr.snoc X19 N13 g_b16
  have pre20 : ∀ t, Steps p.tables e below (T19.setTop (mkF m 50 (lc0n4_5 p1 p2 p3 p4 p5 b16) [])) t → Steps p.tables e below (s₁.setTop (entryFrame m #[(.int p1), (.int p2), (.int p3), (.int p4), (.int p5)] maxLocals)) t := fun t k => pre18 t (st19 t k)
  have pre21 : ∀ t, Steps p.tables e below (T19.setTop (mkF m 61 (lc0n4_5 p1 p2 p3 p4 p5 b16) [(.int (own_node p3)), (.int (1 : Int32)), (.ref b16)])) t → Steps p.tables e below (s₁.setTop (entryFrame m #[(.int p1), (.int p2), (.int p3), (.int p4), (.int p5)] maxLocals)) t := fun t k => pre20 t (by
    show Steps p.tables e below (T19.setTop (mkF m 50 (lc0n4_5 p1 p2 p3 p4 p5 b16) [])) _
    refine XS.iload X19.here hx rfl (hb hby at_50) rfl ?_
    show Steps p.tables e below (T19.setTop (mkF m 52 (lc0n4_5 p1 p2 p3 p4 p5 b16) [(.int (4 : Int32))])) _
    refine XS.iconst X19.here hx rfl (hb hby at_52) ?_
    show Steps p.tables e below (T19.setTop (mkF m 53 (lc0n4_5 p1 p2 p3 p4 p5 b16) [(.int (1 : Int32)), (.int (4 : Int32))])) _
    refine XS.icmpNo X19.here hx rfl (hb hby at_53) rfl (tlt (by decide)).2.2.2 ?_
    show Steps p.tables e below (T19.setTop (mkF m 56 (lc0n4_5 p1 p2 p3 p4 p5 b16) [])) _
    refine XS.aload X19.here hx rfl (hb hby at_56) rfl rfl ?_
    show Steps p.tables e below (T19.setTop (mkF m 58 (lc0n4_5 p1 p2 p3 p4 p5 b16) [(.ref b16)])) _
    refine XS.iconst X19.here hx rfl (hb hby at_58) ?_
    show Steps p.tables e below (T19.setTop (mkF m 59 (lc0n4_5 p1 p2 p3 p4 p5 b16) [(.int (1 : Int32)), (.ref b16)])) _
    refine XS.iload X19.here hx rfl (hb hby at_59) rfl ?_
    show Steps p.tables e below (T19.setTop (mkF m 61 (lc0n4_5 p1 p2 p3 p4 p5 b16) [(.int (own_node p3)), (.int (1 : Int32)), (.ref b16)])) _
    exact k)
  obtain ⟨cl22, Ar22, Sz22, Hf22⟩ := A_b16
  obtain ⟨T22, h22, X22, e22, W22, st22⟩ := stI X19 hx hZ e19 Ar22 (j := (1 : Int32)) (own_inb Sz22 ⟨by decide, by decide⟩) (g := (mkF m 61 (lc0n4_5 p1 p2 p3 p4 p5 b16) [(.int (own_node p3)), (.int (1 : Int32)), (.ref b16)])) rfl rfl (hb hby at_61)
  have A_b16 : own_A Z h22 b16 .int 4 (own_put (own_put (fun _ => (0 : Int32)) 0 (own_node p2)) 1 (own_node p3)) := own_A.set Ar22 Sz22 Hf22 W22
  have Z22 : n0 ≤ h22.size := Nat.le_trans Z19 (Keep.of_wr W22).1
  have N22 := Fr.snoc X22 N19 g_b16
  have pre23 : ∀ t, Steps p.tables e below (T22.setTop (mkF m 62 (lc0n4_5 p1 p2 p3 p4 p5 b16) [])) t → Steps p.tables e below (s₁.setTop (entryFrame m #[(.int p1), (.int p2), (.int p3), (.int p4), (.int p5)] maxLocals)) t := fun t k => pre21 t (st22 t k)
  have pre24 : ∀ t, Steps p.tables e below (T22.setTop (mkF m 73 (lc0n4_5 p1 p2 p3 p4 p5 b16) [(.int (own_node p4)), (.int (2 : Int32)), (.ref b16)])) t → Steps p.tables e below (s₁.setTop (entryFrame m #[(.int p1), (.int p2), (.int p3), (.int p4), (.int p5)] maxLocals)) t := fun t k => pre23 t (by
    show Steps p.tables e below (T22.setTop (mkF m 62 (lc0n4_5 p1 p2 p3 p4 p5 b16) [])) _
    refine XS.iload X22.here hx rfl (hb hby at_62) rfl ?_
    show Steps p.tables e below (T22.setTop (mkF m 64 (lc0n4_5 p1 p2 p3 p4 p5 b16) [(.int (4 : Int32))])) _
    refine XS.iconst X22.here hx rfl (hb hby at_64) ?_
    show Steps p.tables e below (T22.setTop (mkF m 65 (lc0n4_5 p1 p2 p3 p4 p5 b16) [(.int (2 : Int32)), (.int (4 : Int32))])) _
    refine XS.icmpNo X22.here hx rfl (hb hby at_65) rfl (tlt (by decide)).2.2.2 ?_
    show Steps p.tables e below (T22.setTop (mkF m 68 (lc0n4_5 p1 p2 p3 p4 p5 b16) [])) _
    refine XS.aload X22.here hx rfl (hb hby at_68) rfl rfl ?_
    show Steps p.tables e below (T22.setTop (mkF m 70 (lc0n4_5 p1 p2 p3 p4 p5 b16) [(.ref b16)])) _
    refine XS.iconst X22.here hx rfl (hb hby at_70) ?_
    show Steps p.tables e below (T22.setTop (mkF m 71 (lc0n4_5 p1 p2 p3 p4 p5 b16) [(.int (2 : Int32)), (.ref b16)])) _
    refine XS.iload X22.here hx rfl (hb hby at_71) rfl ?_
    show Steps p.tables e below (T22.setTop (mkF m 73 (lc0n4_5 p1 p2 p3 p4 p5 b16) [(.int (own_node p4)), (.int (2 : Int32)), (.ref b16)])) _
    exact k)
  obtain ⟨cl25, Ar25, Sz25, Hf25⟩ := A_b16
  obtain ⟨T25, h25, X25, e25, W25, st25⟩ := stI X22 hx hZ e22 Ar25 (j := (2 : Int32)) (own_inb Sz25 ⟨by decide, by decide⟩) (g := (mkF m 73 (lc0n4_5 p1 p2 p3 p4 p5 b16) [(.int (own_node p4)), (.int (2 : Int32)), (.ref b16)])) rfl rfl (hb hby at_73)
  have A_b16 : own_A Z h25 b16 .int 4 (own_put (own_put (own_put (fun _ => (0 : Int32)) 0 (own_node p2)) 1 (own_node p3)) 2 (own_node p4)) := own_A.set Ar25 Sz25 Hf25 W25
  have Z25 : n0 ≤ h25.size := Nat.le_trans Z22 (Keep.of_wr W25).1
  have N25 := Fr.snoc X25 N22 g_b16
  have pre26 : ∀ t, Steps p.tables e below (T25.setTop (mkF m 74 (lc0n4_5 p1 p2 p3 p4 p5 b16) [])) t → Steps p.tables e below (s₁.setTop (entryFrame m #[(.int p1), (.int p2), (.int p3), (.int p4), (.int p5)] maxLocals)) t := fun t k => pre24 t (st25 t k)
  have pre27 : ∀ t, Steps p.tables e below (T25.setTop (mkF m 85 (lc0n4_5 p1 p2 p3 p4 p5 b16) [(.int (own_node p5)), (.int (3 : Int32)), (.ref b16)])) t → Steps p.tables e below (s₁.setTop (entryFrame m #[(.int p1), (.int p2), (.int p3), (.int p4), (.int p5)] maxLocals)) t := fun t k => pre26 t (by
    show Steps p.tables e below (T25.setTop (mkF m 74 (lc0n4_5 p1 p2 p3 p4 p5 b16) [])) _
    refine XS.iload X25.here hx rfl (hb hby at_74) rfl ?_
    show Steps p.tables e below (T25.setTop (mkF m 76 (lc0n4_5 p1 p2 p3 p4 p5 b16) [(.int (4 : Int32))])) _
    refine XS.iconst X25.here hx rfl (hb hby at_76) ?_
    show Steps p.tables e below (T25.setTop (mkF m 77 (lc0n4_5 p1 p2 p3 p4 p5 b16) [(.int (3 : Int32)), (.int (4 : Int32))])) _
    refine XS.icmpNo X25.here hx rfl (hb hby at_77) rfl (tlt (by decide)).2.2.2 ?_
    show Steps p.tables e below (T25.setTop (mkF m 80 (lc0n4_5 p1 p2 p3 p4 p5 b16) [])) _
    refine XS.aload X25.here hx rfl (hb hby at_80) rfl rfl ?_
    show Steps p.tables e below (T25.setTop (mkF m 82 (lc0n4_5 p1 p2 p3 p4 p5 b16) [(.ref b16)])) _
    refine XS.iconst X25.here hx rfl (hb hby at_82) ?_
    show Steps p.tables e below (T25.setTop (mkF m 83 (lc0n4_5 p1 p2 p3 p4 p5 b16) [(.int (3 : Int32)), (.ref b16)])) _
    refine XS.iload X25.here hx rfl (hb hby at_83) rfl ?_
    show Steps p.tables e below (T25.setTop (mkF m 85 (lc0n4_5 p1 p2 p3 p4 p5 b16) [(.int (own_node p5)), (.int (3 : Int32)), (.ref b16)])) _
    exact k)
  obtain ⟨cl28, Ar28, Sz28, Hf28⟩ := A_b16
  obtain ⟨T28, h28, X28, e28, W28, st28⟩ := stI X25 hx hZ e25 Ar28 (j := (3 : Int32)) (own_inb Sz28 ⟨by decide, by decide⟩) (g := (mkF m 85 (lc0n4_5 p1 p2 p3 p4 p5 b16) [(.int (own_node p5)), (.int (3 : Int32)), (.ref b16)])) rfl rfl (hb hby at_85)
  have A_b16 : own_A Z h28 b16 .int 4 (own_put (own_put (own_put (own_put (fun _ => (0 : Int32)) 0 (own_node p2)) 1 (own_node p3)) 2 (own_node p4)) 3 (own_node p5)) := own_A.set Ar28 Sz28 Hf28 W28
  have Z28 : n0 ≤ h28.size := Nat.le_trans Z25 (Keep.of_wr W28).1
  have N28 := Fr.snoc X28 N25 g_b16
  have pre29 : ∀ t, Steps p.tables e below (T28.setTop (mkF m 86 (lc0n4_5 p1 p2 p3 p4 p5 b16) [])) t → Steps p.tables e below (s₁.setTop (entryFrame m #[(.int p1), (.int p2), (.int p3), (.int p4), (.int p5)] maxLocals)) t := fun t k => pre27 t (st28 t k)
  have pre30 : ∀ t, Steps p.tables e below (T28.setTop (mkF m 97 (lc0n4_6 p1 p2 p3 p4 p5 b16) [(.int (-1 : Int32)), (.int (own_node p2))])) t → Steps p.tables e below (s₁.setTop (entryFrame m #[(.int p1), (.int p2), (.int p3), (.int p4), (.int p5)] maxLocals)) t := fun t k => pre29 t (by
    show Steps p.tables e below (T28.setTop (mkF m 86 (lc0n4_5 p1 p2 p3 p4 p5 b16) [])) _
    refine XS.iconst X28.here hx rfl (hb hby at_86) ?_
    show Steps p.tables e below (T28.setTop (mkF m 87 (lc0n4_5 p1 p2 p3 p4 p5 b16) [(.int (0 : Int32))])) _
    refine XS.istore X28.here hx rfl (hb hby at_87) rfl (l' := (lc0n4_6 p1 p2 p3 p4 p5 b16)) rfl ?_
    show Steps p.tables e below (T28.setTop (mkF m 89 (lc0n4_6 p1 p2 p3 p4 p5 b16) [])) _
    refine XS.iload X28.here hx rfl (hb hby at_89) rfl ?_
    show Steps p.tables e below (T28.setTop (mkF m 91 (lc0n4_6 p1 p2 p3 p4 p5 b16) [(.int (4 : Int32))])) _
    refine XS.ifNo X28.here hx rfl (hb hby at_91) rfl ((if0 _ _).trans (tlt (by decide)).2.2.2) ?_
    show Steps p.tables e below (T28.setTop (mkF m 94 (lc0n4_6 p1 p2 p3 p4 p5 b16) [])) _
    refine XS.iload X28.here hx rfl (hb hby at_94) rfl ?_
    show Steps p.tables e below (T28.setTop (mkF m 96 (lc0n4_6 p1 p2 p3 p4 p5 b16) [(.int (own_node p2))])) _
    refine XS.iconst X28.here hx rfl (hb hby at_96) ?_
    show Steps p.tables e below (T28.setTop (mkF m 97 (lc0n4_6 p1 p2 p3 p4 p5 b16) [(.int (-1 : Int32)), (.int (own_node p2))])) _
    exact k)
  have pre32 : ∀ t, Steps p.tables e below (T28.setTop (mkF m 106 (lc0n4_9 p1 p2 p3 p4 p5 b16) [])) t → Steps p.tables e below (s₁.setTop (entryFrame m #[(.int p1), (.int p2), (.int p3), (.int p4), (.int p5)] maxLocals)) t := fun t k => pre30 t (by
    show Steps p.tables e below (T28.setTop (mkF m 97 (lc0n4_6 p1 p2 p3 p4 p5 b16) [(.int (-1 : Int32)), (.int (own_node p2))])) _
    by_cases hm97_31 : (own_node p2) = (-1 : Int32)
    · refine XS.icmpNo X28.here hx rfl (hb hby at_97) rfl (teq hm97_31).2 ?_
      show Steps p.tables e below (T28.setTop (mkF m 100 (lc0n4_6 p1 p2 p3 p4 p5 b16) [])) _
      refine XS.iload X28.here hx rfl (hb hby at_100) rfl ?_
      show Steps p.tables e below (T28.setTop (mkF m 102 (lc0n4_6 p1 p2 p3 p4 p5 b16) [(.int (0 : Int32))])) _
      refine XS.iconst X28.here hx rfl (hb hby at_102) ?_
      show Steps p.tables e below (T28.setTop (mkF m 103 (lc0n4_6 p1 p2 p3 p4 p5 b16) [(.int (1 : Int32)), (.int (0 : Int32))])) _
      refine XS.iadd X28.here hx rfl (hb hby at_103) rfl ?_
      show Steps p.tables e below (T28.setTop (mkF m 104 (lc0n4_6 p1 p2 p3 p4 p5 b16) [(.int (1 : Int32))])) _
      refine XS.istore X28.here hx rfl (hb hby at_104) rfl (l' := (lc0n4_7 p1 p2 p3 p4 p5 b16)) rfl ?_
      show Steps p.tables e below (T28.setTop (mkF m 106 (lc0n4_7 p1 p2 p3 p4 p5 b16) [])) _
      have q : (if (own_node p2) = (-1 : Int32) then (1 : Int32) else (0 : Int32)) = (1 : Int32) := by simp only [if_pos hm97_31]
      exact Eq.subst (motive := fun xI => Steps p.tables e below (T28.setTop (mkF m 106 (lc0n4_8 p1 p2 p3 p4 p5 b16 xI) [])) t) q k
    · refine XS.icmpYes X28.here hx rfl (pc0 := 97) (pc' := 106) rfl (hb hby at_97) rfl (feq hm97_31).2 (by decide) (by decide) ?_
      show Steps p.tables e below (T28.setTop (mkF m 106 (lc0n4_6 p1 p2 p3 p4 p5 b16) [])) _
      have q : (if (own_node p2) = (-1 : Int32) then (1 : Int32) else (0 : Int32)) = (0 : Int32) := by simp only [if_neg hm97_31]
      exact Eq.subst (motive := fun xI => Steps p.tables e below (T28.setTop (mkF m 106 (lc0n4_8 p1 p2 p3 p4 p5 b16 xI) [])) t) q k)
  have pre33 : ∀ t, Steps p.tables e below (T28.setTop (mkF m 115 (lc0n4_9 p1 p2 p3 p4 p5 b16) [(.int (-1 : Int32)), (.int (own_node p3))])) t → Steps p.tables e below (s₁.setTop (entryFrame m #[(.int p1), (.int p2), (.int p3), (.int p4), (.int p5)] maxLocals)) t := fun t k => pre32 t (by
    show Steps p.tables e below (T28.setTop (mkF m 106 (lc0n4_9 p1 p2 p3 p4 p5 b16) [])) _
    refine XS.iload X28.here hx rfl (hb hby at_106) rfl ?_
    show Steps p.tables e below (T28.setTop (mkF m 108 (lc0n4_9 p1 p2 p3 p4 p5 b16) [(.int (4 : Int32))])) _
    refine XS.iconst X28.here hx rfl (hb hby at_108) ?_
    show Steps p.tables e below (T28.setTop (mkF m 109 (lc0n4_9 p1 p2 p3 p4 p5 b16) [(.int (1 : Int32)), (.int (4 : Int32))])) _
    refine XS.icmpNo X28.here hx rfl (hb hby at_109) rfl (tlt (by decide)).2.2.2 ?_
    show Steps p.tables e below (T28.setTop (mkF m 112 (lc0n4_9 p1 p2 p3 p4 p5 b16) [])) _
    refine XS.iload X28.here hx rfl (hb hby at_112) rfl ?_
    show Steps p.tables e below (T28.setTop (mkF m 114 (lc0n4_9 p1 p2 p3 p4 p5 b16) [(.int (own_node p3))])) _
    refine XS.iconst X28.here hx rfl (hb hby at_114) ?_
    show Steps p.tables e below (T28.setTop (mkF m 115 (lc0n4_9 p1 p2 p3 p4 p5 b16) [(.int (-1 : Int32)), (.int (own_node p3))])) _
    exact k)
  have pre35 : ∀ t, Steps p.tables e below (T28.setTop (mkF m 124 (lc0n4_11 p1 p2 p3 p4 p5 b16) [])) t → Steps p.tables e below (s₁.setTop (entryFrame m #[(.int p1), (.int p2), (.int p3), (.int p4), (.int p5)] maxLocals)) t := fun t k => pre33 t (by
    show Steps p.tables e below (T28.setTop (mkF m 115 (lc0n4_9 p1 p2 p3 p4 p5 b16) [(.int (-1 : Int32)), (.int (own_node p3))])) _
    by_cases hm115_34 : (own_node p3) = (-1 : Int32)
    · refine XS.icmpNo X28.here hx rfl (hb hby at_115) rfl (teq hm115_34).2 ?_
      show Steps p.tables e below (T28.setTop (mkF m 118 (lc0n4_9 p1 p2 p3 p4 p5 b16) [])) _
      refine XS.iload X28.here hx rfl (hb hby at_118) rfl ?_
      show Steps p.tables e below (T28.setTop (mkF m 120 (lc0n4_9 p1 p2 p3 p4 p5 b16) [(.int (if (own_node p2) = (-1 : Int32) then (1 : Int32) else (0 : Int32)))])) _
      refine XS.iconst X28.here hx rfl (hb hby at_120) ?_
      show Steps p.tables e below (T28.setTop (mkF m 121 (lc0n4_9 p1 p2 p3 p4 p5 b16) [(.int (1 : Int32)), (.int (if (own_node p2) = (-1 : Int32) then (1 : Int32) else (0 : Int32)))])) _
      refine XS.iadd X28.here hx rfl (hb hby at_121) rfl ?_
      show Steps p.tables e below (T28.setTop (mkF m 122 (lc0n4_9 p1 p2 p3 p4 p5 b16) [(.int ((if (own_node p2) = (-1 : Int32) then (1 : Int32) else (0 : Int32)) + (1 : Int32)))])) _
      refine XS.istore X28.here hx rfl (hb hby at_122) rfl (l' := (lc0n4_10 p1 p2 p3 p4 p5 b16)) rfl ?_
      show Steps p.tables e below (T28.setTop (mkF m 124 (lc0n4_10 p1 p2 p3 p4 p5 b16) [])) _
      have q : (if (own_node p3) = (-1 : Int32) then ((if (own_node p2) = (-1 : Int32) then (1 : Int32) else (0 : Int32)) + (1 : Int32)) else (if (own_node p2) = (-1 : Int32) then (1 : Int32) else (0 : Int32))) = ((if (own_node p2) = (-1 : Int32) then (1 : Int32) else (0 : Int32)) + (1 : Int32)) := by simp only [if_pos hm115_34]
      exact Eq.subst (motive := fun xI => Steps p.tables e below (T28.setTop (mkF m 124 (lc0n4_8 p1 p2 p3 p4 p5 b16 xI) [])) t) q k
    · refine XS.icmpYes X28.here hx rfl (pc0 := 115) (pc' := 124) rfl (hb hby at_115) rfl (feq hm115_34).2 (by decide) (by decide) ?_
      show Steps p.tables e below (T28.setTop (mkF m 124 (lc0n4_9 p1 p2 p3 p4 p5 b16) [])) _
      have q : (if (own_node p3) = (-1 : Int32) then ((if (own_node p2) = (-1 : Int32) then (1 : Int32) else (0 : Int32)) + (1 : Int32)) else (if (own_node p2) = (-1 : Int32) then (1 : Int32) else (0 : Int32))) = (if (own_node p2) = (-1 : Int32) then (1 : Int32) else (0 : Int32)) := by simp only [if_neg hm115_34]
      exact Eq.subst (motive := fun xI => Steps p.tables e below (T28.setTop (mkF m 124 (lc0n4_8 p1 p2 p3 p4 p5 b16 xI) [])) t) q k)
  have pre36 : ∀ t, Steps p.tables e below (T28.setTop (mkF m 133 (lc0n4_11 p1 p2 p3 p4 p5 b16) [(.int (-1 : Int32)), (.int (own_node p4))])) t → Steps p.tables e below (s₁.setTop (entryFrame m #[(.int p1), (.int p2), (.int p3), (.int p4), (.int p5)] maxLocals)) t := fun t k => pre35 t (by
    show Steps p.tables e below (T28.setTop (mkF m 124 (lc0n4_11 p1 p2 p3 p4 p5 b16) [])) _
    refine XS.iload X28.here hx rfl (hb hby at_124) rfl ?_
    show Steps p.tables e below (T28.setTop (mkF m 126 (lc0n4_11 p1 p2 p3 p4 p5 b16) [(.int (4 : Int32))])) _
    refine XS.iconst X28.here hx rfl (hb hby at_126) ?_
    show Steps p.tables e below (T28.setTop (mkF m 127 (lc0n4_11 p1 p2 p3 p4 p5 b16) [(.int (2 : Int32)), (.int (4 : Int32))])) _
    refine XS.icmpNo X28.here hx rfl (hb hby at_127) rfl (tlt (by decide)).2.2.2 ?_
    show Steps p.tables e below (T28.setTop (mkF m 130 (lc0n4_11 p1 p2 p3 p4 p5 b16) [])) _
    refine XS.iload X28.here hx rfl (hb hby at_130) rfl ?_
    show Steps p.tables e below (T28.setTop (mkF m 132 (lc0n4_11 p1 p2 p3 p4 p5 b16) [(.int (own_node p4))])) _
    refine XS.iconst X28.here hx rfl (hb hby at_132) ?_
    show Steps p.tables e below (T28.setTop (mkF m 133 (lc0n4_11 p1 p2 p3 p4 p5 b16) [(.int (-1 : Int32)), (.int (own_node p4))])) _
    exact k)
  have pre38 : ∀ t, Steps p.tables e below (T28.setTop (mkF m 142 (lc0n4_13 p1 p2 p3 p4 p5 b16) [])) t → Steps p.tables e below (s₁.setTop (entryFrame m #[(.int p1), (.int p2), (.int p3), (.int p4), (.int p5)] maxLocals)) t := fun t k => pre36 t (by
    show Steps p.tables e below (T28.setTop (mkF m 133 (lc0n4_11 p1 p2 p3 p4 p5 b16) [(.int (-1 : Int32)), (.int (own_node p4))])) _
    by_cases hm133_37 : (own_node p4) = (-1 : Int32)
    · refine XS.icmpNo X28.here hx rfl (hb hby at_133) rfl (teq hm133_37).2 ?_
      show Steps p.tables e below (T28.setTop (mkF m 136 (lc0n4_11 p1 p2 p3 p4 p5 b16) [])) _
      refine XS.iload X28.here hx rfl (hb hby at_136) rfl ?_
      show Steps p.tables e below (T28.setTop (mkF m 138 (lc0n4_11 p1 p2 p3 p4 p5 b16) [(.int (if (own_node p3) = (-1 : Int32) then ((if (own_node p2) = (-1 : Int32) then (1 : Int32) else (0 : Int32)) + (1 : Int32)) else (if (own_node p2) = (-1 : Int32) then (1 : Int32) else (0 : Int32))))])) _
      refine XS.iconst X28.here hx rfl (hb hby at_138) ?_
      show Steps p.tables e below (T28.setTop (mkF m 139 (lc0n4_11 p1 p2 p3 p4 p5 b16) [(.int (1 : Int32)), (.int (if (own_node p3) = (-1 : Int32) then ((if (own_node p2) = (-1 : Int32) then (1 : Int32) else (0 : Int32)) + (1 : Int32)) else (if (own_node p2) = (-1 : Int32) then (1 : Int32) else (0 : Int32))))])) _
      refine XS.iadd X28.here hx rfl (hb hby at_139) rfl ?_
      show Steps p.tables e below (T28.setTop (mkF m 140 (lc0n4_11 p1 p2 p3 p4 p5 b16) [(.int ((if (own_node p3) = (-1 : Int32) then ((if (own_node p2) = (-1 : Int32) then (1 : Int32) else (0 : Int32)) + (1 : Int32)) else (if (own_node p2) = (-1 : Int32) then (1 : Int32) else (0 : Int32))) + (1 : Int32)))])) _
      refine XS.istore X28.here hx rfl (hb hby at_140) rfl (l' := (lc0n4_12 p1 p2 p3 p4 p5 b16)) rfl ?_
      show Steps p.tables e below (T28.setTop (mkF m 142 (lc0n4_12 p1 p2 p3 p4 p5 b16) [])) _
      have q : (if (own_node p4) = (-1 : Int32) then ((if (own_node p3) = (-1 : Int32) then ((if (own_node p2) = (-1 : Int32) then (1 : Int32) else (0 : Int32)) + (1 : Int32)) else (if (own_node p2) = (-1 : Int32) then (1 : Int32) else (0 : Int32))) + (1 : Int32)) else (if (own_node p3) = (-1 : Int32) then ((if (own_node p2) = (-1 : Int32) then (1 : Int32) else (0 : Int32)) + (1 : Int32)) else (if (own_node p2) = (-1 : Int32) then (1 : Int32) else (0 : Int32)))) = ((if (own_node p3) = (-1 : Int32) then ((if (own_node p2) = (-1 : Int32) then (1 : Int32) else (0 : Int32)) + (1 : Int32)) else (if (own_node p2) = (-1 : Int32) then (1 : Int32) else (0 : Int32))) + (1 : Int32)) := by simp only [if_pos hm133_37]
      exact Eq.subst (motive := fun xI => Steps p.tables e below (T28.setTop (mkF m 142 (lc0n4_8 p1 p2 p3 p4 p5 b16 xI) [])) t) q k
    · refine XS.icmpYes X28.here hx rfl (pc0 := 133) (pc' := 142) rfl (hb hby at_133) rfl (feq hm133_37).2 (by decide) (by decide) ?_
      show Steps p.tables e below (T28.setTop (mkF m 142 (lc0n4_11 p1 p2 p3 p4 p5 b16) [])) _
      have q : (if (own_node p4) = (-1 : Int32) then ((if (own_node p3) = (-1 : Int32) then ((if (own_node p2) = (-1 : Int32) then (1 : Int32) else (0 : Int32)) + (1 : Int32)) else (if (own_node p2) = (-1 : Int32) then (1 : Int32) else (0 : Int32))) + (1 : Int32)) else (if (own_node p3) = (-1 : Int32) then ((if (own_node p2) = (-1 : Int32) then (1 : Int32) else (0 : Int32)) + (1 : Int32)) else (if (own_node p2) = (-1 : Int32) then (1 : Int32) else (0 : Int32)))) = (if (own_node p3) = (-1 : Int32) then ((if (own_node p2) = (-1 : Int32) then (1 : Int32) else (0 : Int32)) + (1 : Int32)) else (if (own_node p2) = (-1 : Int32) then (1 : Int32) else (0 : Int32))) := by simp only [if_neg hm133_37]
      exact Eq.subst (motive := fun xI => Steps p.tables e below (T28.setTop (mkF m 142 (lc0n4_8 p1 p2 p3 p4 p5 b16 xI) [])) t) q k)
  have pre39 : ∀ t, Steps p.tables e below (T28.setTop (mkF m 151 (lc0n4_13 p1 p2 p3 p4 p5 b16) [(.int (-1 : Int32)), (.int (own_node p5))])) t → Steps p.tables e below (s₁.setTop (entryFrame m #[(.int p1), (.int p2), (.int p3), (.int p4), (.int p5)] maxLocals)) t := fun t k => pre38 t (by
    show Steps p.tables e below (T28.setTop (mkF m 142 (lc0n4_13 p1 p2 p3 p4 p5 b16) [])) _
    refine XS.iload X28.here hx rfl (hb hby at_142) rfl ?_
    show Steps p.tables e below (T28.setTop (mkF m 144 (lc0n4_13 p1 p2 p3 p4 p5 b16) [(.int (4 : Int32))])) _
    refine XS.iconst X28.here hx rfl (hb hby at_144) ?_
    show Steps p.tables e below (T28.setTop (mkF m 145 (lc0n4_13 p1 p2 p3 p4 p5 b16) [(.int (3 : Int32)), (.int (4 : Int32))])) _
    refine XS.icmpNo X28.here hx rfl (hb hby at_145) rfl (tlt (by decide)).2.2.2 ?_
    show Steps p.tables e below (T28.setTop (mkF m 148 (lc0n4_13 p1 p2 p3 p4 p5 b16) [])) _
    refine XS.iload X28.here hx rfl (hb hby at_148) rfl ?_
    show Steps p.tables e below (T28.setTop (mkF m 150 (lc0n4_13 p1 p2 p3 p4 p5 b16) [(.int (own_node p5))])) _
    refine XS.iconst X28.here hx rfl (hb hby at_150) ?_
    show Steps p.tables e below (T28.setTop (mkF m 151 (lc0n4_13 p1 p2 p3 p4 p5 b16) [(.int (-1 : Int32)), (.int (own_node p5))])) _
    exact k)
  have pre41 : ∀ t, Steps p.tables e below (T28.setTop (mkF m 160 (lc0n4_15 p1 p2 p3 p4 p5 b16) [])) t → Steps p.tables e below (s₁.setTop (entryFrame m #[(.int p1), (.int p2), (.int p3), (.int p4), (.int p5)] maxLocals)) t := fun t k => pre39 t (by
    show Steps p.tables e below (T28.setTop (mkF m 151 (lc0n4_13 p1 p2 p3 p4 p5 b16) [(.int (-1 : Int32)), (.int (own_node p5))])) _
    by_cases hm151_40 : (own_node p5) = (-1 : Int32)
    · refine XS.icmpNo X28.here hx rfl (hb hby at_151) rfl (teq hm151_40).2 ?_
      show Steps p.tables e below (T28.setTop (mkF m 154 (lc0n4_13 p1 p2 p3 p4 p5 b16) [])) _
      refine XS.iload X28.here hx rfl (hb hby at_154) rfl ?_
      show Steps p.tables e below (T28.setTop (mkF m 156 (lc0n4_13 p1 p2 p3 p4 p5 b16) [(.int (if (own_node p4) = (-1 : Int32) then ((if (own_node p3) = (-1 : Int32) then ((if (own_node p2) = (-1 : Int32) then (1 : Int32) else (0 : Int32)) + (1 : Int32)) else (if (own_node p2) = (-1 : Int32) then (1 : Int32) else (0 : Int32))) + (1 : Int32)) else (if (own_node p3) = (-1 : Int32) then ((if (own_node p2) = (-1 : Int32) then (1 : Int32) else (0 : Int32)) + (1 : Int32)) else (if (own_node p2) = (-1 : Int32) then (1 : Int32) else (0 : Int32)))))])) _
      refine XS.iconst X28.here hx rfl (hb hby at_156) ?_
      show Steps p.tables e below (T28.setTop (mkF m 157 (lc0n4_13 p1 p2 p3 p4 p5 b16) [(.int (1 : Int32)), (.int (if (own_node p4) = (-1 : Int32) then ((if (own_node p3) = (-1 : Int32) then ((if (own_node p2) = (-1 : Int32) then (1 : Int32) else (0 : Int32)) + (1 : Int32)) else (if (own_node p2) = (-1 : Int32) then (1 : Int32) else (0 : Int32))) + (1 : Int32)) else (if (own_node p3) = (-1 : Int32) then ((if (own_node p2) = (-1 : Int32) then (1 : Int32) else (0 : Int32)) + (1 : Int32)) else (if (own_node p2) = (-1 : Int32) then (1 : Int32) else (0 : Int32)))))])) _
      refine XS.iadd X28.here hx rfl (hb hby at_157) rfl ?_
      show Steps p.tables e below (T28.setTop (mkF m 158 (lc0n4_13 p1 p2 p3 p4 p5 b16) [(.int ((if (own_node p4) = (-1 : Int32) then ((if (own_node p3) = (-1 : Int32) then ((if (own_node p2) = (-1 : Int32) then (1 : Int32) else (0 : Int32)) + (1 : Int32)) else (if (own_node p2) = (-1 : Int32) then (1 : Int32) else (0 : Int32))) + (1 : Int32)) else (if (own_node p3) = (-1 : Int32) then ((if (own_node p2) = (-1 : Int32) then (1 : Int32) else (0 : Int32)) + (1 : Int32)) else (if (own_node p2) = (-1 : Int32) then (1 : Int32) else (0 : Int32)))) + (1 : Int32)))])) _
      refine XS.istore X28.here hx rfl (hb hby at_158) rfl (l' := (lc0n4_14 p1 p2 p3 p4 p5 b16)) rfl ?_
      show Steps p.tables e below (T28.setTop (mkF m 160 (lc0n4_14 p1 p2 p3 p4 p5 b16) [])) _
      have q : (if (own_node p5) = (-1 : Int32) then ((if (own_node p4) = (-1 : Int32) then ((if (own_node p3) = (-1 : Int32) then ((if (own_node p2) = (-1 : Int32) then (1 : Int32) else (0 : Int32)) + (1 : Int32)) else (if (own_node p2) = (-1 : Int32) then (1 : Int32) else (0 : Int32))) + (1 : Int32)) else (if (own_node p3) = (-1 : Int32) then ((if (own_node p2) = (-1 : Int32) then (1 : Int32) else (0 : Int32)) + (1 : Int32)) else (if (own_node p2) = (-1 : Int32) then (1 : Int32) else (0 : Int32)))) + (1 : Int32)) else (if (own_node p4) = (-1 : Int32) then ((if (own_node p3) = (-1 : Int32) then ((if (own_node p2) = (-1 : Int32) then (1 : Int32) else (0 : Int32)) + (1 : Int32)) else (if (own_node p2) = (-1 : Int32) then (1 : Int32) else (0 : Int32))) + (1 : Int32)) else (if (own_node p3) = (-1 : Int32) then ((if (own_node p2) = (-1 : Int32) then (1 : Int32) else (0 : Int32)) + (1 : Int32)) else (if (own_node p2) = (-1 : Int32) then (1 : Int32) else (0 : Int32))))) = ((if (own_node p4) = (-1 : Int32) then ((if (own_node p3) = (-1 : Int32) then ((if (own_node p2) = (-1 : Int32) then (1 : Int32) else (0 : Int32)) + (1 : Int32)) else (if (own_node p2) = (-1 : Int32) then (1 : Int32) else (0 : Int32))) + (1 : Int32)) else (if (own_node p3) = (-1 : Int32) then ((if (own_node p2) = (-1 : Int32) then (1 : Int32) else (0 : Int32)) + (1 : Int32)) else (if (own_node p2) = (-1 : Int32) then (1 : Int32) else (0 : Int32)))) + (1 : Int32)) := by simp only [if_pos hm151_40]
      exact Eq.subst (motive := fun xI => Steps p.tables e below (T28.setTop (mkF m 160 (lc0n4_8 p1 p2 p3 p4 p5 b16 xI) [])) t) q k
    · refine XS.icmpYes X28.here hx rfl (pc0 := 151) (pc' := 160) rfl (hb hby at_151) rfl (feq hm151_40).2 (by decide) (by decide) ?_
      show Steps p.tables e below (T28.setTop (mkF m 160 (lc0n4_13 p1 p2 p3 p4 p5 b16) [])) _
      have q : (if (own_node p5) = (-1 : Int32) then ((if (own_node p4) = (-1 : Int32) then ((if (own_node p3) = (-1 : Int32) then ((if (own_node p2) = (-1 : Int32) then (1 : Int32) else (0 : Int32)) + (1 : Int32)) else (if (own_node p2) = (-1 : Int32) then (1 : Int32) else (0 : Int32))) + (1 : Int32)) else (if (own_node p3) = (-1 : Int32) then ((if (own_node p2) = (-1 : Int32) then (1 : Int32) else (0 : Int32)) + (1 : Int32)) else (if (own_node p2) = (-1 : Int32) then (1 : Int32) else (0 : Int32)))) + (1 : Int32)) else (if (own_node p4) = (-1 : Int32) then ((if (own_node p3) = (-1 : Int32) then ((if (own_node p2) = (-1 : Int32) then (1 : Int32) else (0 : Int32)) + (1 : Int32)) else (if (own_node p2) = (-1 : Int32) then (1 : Int32) else (0 : Int32))) + (1 : Int32)) else (if (own_node p3) = (-1 : Int32) then ((if (own_node p2) = (-1 : Int32) then (1 : Int32) else (0 : Int32)) + (1 : Int32)) else (if (own_node p2) = (-1 : Int32) then (1 : Int32) else (0 : Int32))))) = (if (own_node p4) = (-1 : Int32) then ((if (own_node p3) = (-1 : Int32) then ((if (own_node p2) = (-1 : Int32) then (1 : Int32) else (0 : Int32)) + (1 : Int32)) else (if (own_node p2) = (-1 : Int32) then (1 : Int32) else (0 : Int32))) + (1 : Int32)) else (if (own_node p3) = (-1 : Int32) then ((if (own_node p2) = (-1 : Int32) then (1 : Int32) else (0 : Int32)) + (1 : Int32)) else (if (own_node p2) = (-1 : Int32) then (1 : Int32) else (0 : Int32)))) := by simp only [if_neg hm151_40]
      exact Eq.subst (motive := fun xI => Steps p.tables e below (T28.setTop (mkF m 160 (lc0n4_8 p1 p2 p3 p4 p5 b16 xI) [])) t) q k)
  obtain ⟨T42, h42, X42, e42, E42, A42, D42, -, st42⟩ := newO X28 hx hZ hown (hw _ (List.mem_of_getElem? (i := 6) rfl)) (hw _ (List.mem_of_getElem? (i := 7) rfl)) (hw _ (List.mem_of_getElem? (i := 8) rfl)) e28 (g := (mkF m 160 (lc0n4_15 p1 p2 p3 p4 p5 b16) [])) rfl (hb hby at_160) (by decide) (by decide)
  obtain ⟨b42, g42⟩ : ∃ z, z = h28.size := ⟨_, rfl⟩
  rw [← g42] at A42 D42 st42
  have g_b42 : n0 ≤ b42 := Nat.le_trans Z28 (Nat.le_of_eq g42.symm)
  have ne_b16_b42 : b16 ≠ b42 := Nat.ne_of_lt (Nat.lt_of_lt_of_le A_b16.lt (Nat.le_of_eq g42.symm))
  have A_b16 := A_b16.ext E42
  have Z42 : n0 ≤ h42.size := Nat.le_trans Z28 E42.1
  have E_b42 := A42
  have F_b42_encoder : Fld Z h42 b42 "com/example/rackstripe/rackstripe/StripePlan" "encoder" "I" (.int (0 : Int32)) := D42 (Or.inr (hw _ (List.mem_of_getElem? (i := 16) rfl))) (ty := .int) (by decide)
  have F_b42_sources : Fld Z h42 b42 "com/example/rackstripe/rackstripe/StripePlan" "sources" "[I" .null := D42 (Or.inr (hw _ (List.mem_of_getElem? (i := 18) rfl))) (ty := (.array .int)) (by decide)
  have F_b42_crossRackDownloads : Fld Z h42 b42 "com/example/rackstripe/rackstripe/StripePlan" "crossRackDownloads" "I" (.int (0 : Int32)) := D42 (Or.inr (hw _ (List.mem_of_getElem? (i := 20) rfl))) (ty := .int) (by decide)
  have F_b42_intraRackDownloads : Fld Z h42 b42 "com/example/rackstripe/rackstripe/StripePlan" "intraRackDownloads" "I" (.int (0 : Int32)) := D42 (Or.inr (hw _ (List.mem_of_getElem? (i := 22) rfl))) (ty := .int) (by decide)
  have F_b42_kept : Fld Z h42 b42 "com/example/rackstripe/rackstripe/StripePlan" "kept" "[I" .null := D42 (Or.inr (hw _ (List.mem_of_getElem? (i := 24) rfl))) (ty := (.array .int)) (by decide)
  have F_b42_parity : Fld Z h42 b42 "com/example/rackstripe/rackstripe/StripePlan" "parity" "[I" .null := D42 (Or.inr (hw _ (List.mem_of_getElem? (i := 26) rfl))) (ty := (.array .int)) (by decide)
  have F_b42_parityUnplaced : Fld Z h42 b42 "com/example/rackstripe/rackstripe/StripePlan" "parityUnplaced" "I" (.int (0 : Int32)) := D42 (Or.inr (hw _ (List.mem_of_getElem? (i := 28) rfl))) (ty := .int) (by decide)
  have pre43 : ∀ t, Steps p.tables e below (T42.setTop (mkF m 163 (lc0n4_15 p1 p2 p3 p4 p5 b16) [(.ref b42)])) t → Steps p.tables e below (s₁.setTop (entryFrame m #[(.int p1), (.int p2), (.int p3), (.int p4), (.int p5)] maxLocals)) t := fun t k => pre41 t (st42 t k)
  have pre44 : ∀ t, Steps p.tables e below (T42.setTop (mkF m 166 (lc0n4_15 p1 p2 p3 p4 p5 b16) [(.int (0 : Int32)), (.int (0 : Int32)), (.ref b42), (.ref b42)])) t → Steps p.tables e below (s₁.setTop (entryFrame m #[(.int p1), (.int p2), (.int p3), (.int p4), (.int p5)] maxLocals)) t := fun t k => pre43 t (by
    show Steps p.tables e below (T42.setTop (mkF m 163 (lc0n4_15 p1 p2 p3 p4 p5 b16) [(.ref b42)])) _
    refine XS.dup X42.here hx rfl (hb hby at_163) rfl rfl ?_
    show Steps p.tables e below (T42.setTop (mkF m 164 (lc0n4_15 p1 p2 p3 p4 p5 b16) [(.ref b42), (.ref b42)])) _
    refine XS.iconst X42.here hx rfl (hb hby at_164) ?_
    show Steps p.tables e below (T42.setTop (mkF m 165 (lc0n4_15 p1 p2 p3 p4 p5 b16) [(.int (0 : Int32)), (.ref b42), (.ref b42)])) _
    refine XS.iconst X42.here hx rfl (hb hby at_165) ?_
    show Steps p.tables e below (T42.setTop (mkF m 166 (lc0n4_15 p1 p2 p3 p4 p5 b16) [(.int (0 : Int32)), (.int (0 : Int32)), (.ref b42), (.ref b42)])) _
    exact k)
  obtain ⟨T45, h45, k45, X45, e45, E45, A45, st45⟩ := newP X42 hx hZ (hw _ (List.mem_of_getElem? (i := 5) rfl)) e42 (g := (mkF m 166 (lc0n4_15 p1 p2 p3 p4 p5 b16) [(.int (0 : Int32)), (.int (0 : Int32)), (.ref b42), (.ref b42)])) rfl (hb hby at_166) rfl (by decide) (cap := 0) (by decide) (by decide) (by decide) (by decide)
  obtain ⟨b45, g45⟩ : ∃ z, z = h42.size := ⟨_, rfl⟩
  rw [← g45] at A45 st45
  have g_b45 : n0 ≤ b45 := Nat.le_trans Z42 (Nat.le_of_eq g45.symm)
  have ne_b16_b45 : b16 ≠ b45 := Nat.ne_of_lt (Nat.lt_of_lt_of_le A_b16.lt (Nat.le_of_eq g45.symm))
  have ne_b42_b45 : b42 ≠ b45 := Nat.ne_of_lt (Nat.lt_of_lt_of_le E_b42.lt (Nat.le_of_eq g45.symm))
  have A_b16 := A_b16.ext E45
  have E_b42 := E_b42.ext E45
  have F_b42_encoder := F_b42_encoder.ext E45
  have F_b42_sources := F_b42_sources.ext E45
  have F_b42_crossRackDownloads := F_b42_crossRackDownloads.ext E45
  have F_b42_intraRackDownloads := F_b42_intraRackDownloads.ext E45
  have F_b42_kept := F_b42_kept.ext E45
  have F_b42_parity := F_b42_parity.ext E45
  have F_b42_parityUnplaced := F_b42_parityUnplaced.ext E45
  have Z45 : n0 ≤ h45.size := Nat.le_trans Z42 E45.1
  have A_b45 : own_A Z h45 b45 .int 0 (fun _ => (0 : Int32)) := own_A.new A45 rfl rfl
  have pre46 : ∀ t, Steps p.tables e below (T45.setTop (mkF m 168 (lc0n4_15 p1 p2 p3 p4 p5 b16) [(.ref b45), (.int (0 : Int32)), (.ref b42), (.ref b42)])) t → Steps p.tables e below (s₁.setTop (entryFrame m #[(.int p1), (.int p2), (.int p3), (.int p4), (.int p5)] maxLocals)) t := fun t k => pre44 t (st45 t k)
  have pre47 : ∀ t, Steps p.tables e below (T45.setTop (mkF m 173 (lc0n4_15 p1 p2 p3 p4 p5 b16) [(.int (0 : Int32)), (.ref b16), (.int (0 : Int32)), (.int (0 : Int32)), (.ref b45), (.int (0 : Int32)), (.ref b42), (.ref b42)])) t → Steps p.tables e below (s₁.setTop (entryFrame m #[(.int p1), (.int p2), (.int p3), (.int p4), (.int p5)] maxLocals)) t := fun t k => pre46 t (by
    show Steps p.tables e below (T45.setTop (mkF m 168 (lc0n4_15 p1 p2 p3 p4 p5 b16) [(.ref b45), (.int (0 : Int32)), (.ref b42), (.ref b42)])) _
    refine XS.iconst X45.here hx rfl (hb hby at_168) ?_
    show Steps p.tables e below (T45.setTop (mkF m 169 (lc0n4_15 p1 p2 p3 p4 p5 b16) [(.int (0 : Int32)), (.ref b45), (.int (0 : Int32)), (.ref b42), (.ref b42)])) _
    refine XS.iconst X45.here hx rfl (hb hby at_169) ?_
    show Steps p.tables e below (T45.setTop (mkF m 170 (lc0n4_15 p1 p2 p3 p4 p5 b16) [(.int (0 : Int32)), (.int (0 : Int32)), (.ref b45), (.int (0 : Int32)), (.ref b42), (.ref b42)])) _
    refine XS.aload X45.here hx rfl (hb hby at_170) rfl rfl ?_
    show Steps p.tables e below (T45.setTop (mkF m 172 (lc0n4_15 p1 p2 p3 p4 p5 b16) [(.ref b16), (.int (0 : Int32)), (.int (0 : Int32)), (.ref b45), (.int (0 : Int32)), (.ref b42), (.ref b42)])) _
    refine XS.iconst X45.here hx rfl (hb hby at_172) ?_
    show Steps p.tables e below (T45.setTop (mkF m 173 (lc0n4_15 p1 p2 p3 p4 p5 b16) [(.int (0 : Int32)), (.ref b16), (.int (0 : Int32)), (.int (0 : Int32)), (.ref b45), (.int (0 : Int32)), (.ref b42), (.ref b42)])) _
    exact k)
  obtain ⟨T48, h48, k48, X48, e48, E48, A48, st48⟩ := newP X45 hx hZ (hw _ (List.mem_of_getElem? (i := 5) rfl)) e45 (g := (mkF m 173 (lc0n4_15 p1 p2 p3 p4 p5 b16) [(.int (0 : Int32)), (.ref b16), (.int (0 : Int32)), (.int (0 : Int32)), (.ref b45), (.int (0 : Int32)), (.ref b42), (.ref b42)])) rfl (hb hby at_173) rfl (by decide) (cap := 0) (by decide) (by decide) (by decide) (by decide)
  obtain ⟨b48, g48⟩ : ∃ z, z = h45.size := ⟨_, rfl⟩
  rw [← g48] at A48 st48
  have g_b48 : n0 ≤ b48 := Nat.le_trans Z45 (Nat.le_of_eq g48.symm)
  have ne_b16_b48 : b16 ≠ b48 := Nat.ne_of_lt (Nat.lt_of_lt_of_le A_b16.lt (Nat.le_of_eq g48.symm))
  have ne_b42_b48 : b42 ≠ b48 := Nat.ne_of_lt (Nat.lt_of_lt_of_le E_b42.lt (Nat.le_of_eq g48.symm))
  have ne_b45_b48 : b45 ≠ b48 := Nat.ne_of_lt (Nat.lt_of_lt_of_le A_b45.lt (Nat.le_of_eq g48.symm))
  have A_b16 := A_b16.ext E48
  have E_b42 := E_b42.ext E48
  have F_b42_encoder := F_b42_encoder.ext E48
  have F_b42_sources := F_b42_sources.ext E48
  have F_b42_crossRackDownloads := F_b42_crossRackDownloads.ext E48
  have F_b42_intraRackDownloads := F_b42_intraRackDownloads.ext E48
  have F_b42_kept := F_b42_kept.ext E48
  have F_b42_parity := F_b42_parity.ext E48
  have F_b42_parityUnplaced := F_b42_parityUnplaced.ext E48
  have A_b45 := A_b45.ext E48
  have Z48 : n0 ≤ h48.size := Nat.le_trans Z45 E48.1
  have A_b48 : own_A Z h48 b48 .int 0 (fun _ => (0 : Int32)) := own_A.new A48 rfl rfl
  have pre49 : ∀ t, Steps p.tables e below (T48.setTop (mkF m 175 (lc0n4_15 p1 p2 p3 p4 p5 b16) [(.ref b48), (.ref b16), (.int (0 : Int32)), (.int (0 : Int32)), (.ref b45), (.int (0 : Int32)), (.ref b42), (.ref b42)])) t → Steps p.tables e below (s₁.setTop (entryFrame m #[(.int p1), (.int p2), (.int p3), (.int p4), (.int p5)] maxLocals)) t := fun t k => pre47 t (st48 t k)
  have pre50 : ∀ t, Steps p.tables e below (T48.setTop (mkF m 176 (lc0n4_15 p1 p2 p3 p4 p5 b16) [(.int (0 : Int32)), (.ref b48), (.ref b16), (.int (0 : Int32)), (.int (0 : Int32)), (.ref b45), (.int (0 : Int32)), (.ref b42), (.ref b42)])) t → Steps p.tables e below (s₁.setTop (entryFrame m #[(.int p1), (.int p2), (.int p3), (.int p4), (.int p5)] maxLocals)) t := fun t k => pre49 t (by
    show Steps p.tables e below (T48.setTop (mkF m 175 (lc0n4_15 p1 p2 p3 p4 p5 b16) [(.ref b48), (.ref b16), (.int (0 : Int32)), (.int (0 : Int32)), (.ref b45), (.int (0 : Int32)), (.ref b42), (.ref b42)])) _
    refine XS.iconst X48.here hx rfl (hb hby at_175) ?_
    show Steps p.tables e below (T48.setTop (mkF m 176 (lc0n4_15 p1 p2 p3 p4 p5 b16) [(.int (0 : Int32)), (.ref b48), (.ref b16), (.int (0 : Int32)), (.int (0 : Int32)), (.ref b45), (.int (0 : Int32)), (.ref b42), (.ref b42)])) _
    exact k)
  obtain ⟨_, _, ⟨T51, L51, k51, n51⟩, -, X51, ⟨Lc51, hQ51, l51, y51, z51⟩, st51⟩ := X48.specialBack hx (y := (⟨"com/example/rackstripe/rackstripe/StripePlan", "<init>", "(I[III[I[II)V"⟩ : MethodName)) rfl hown (mvT hZ (hw _ (List.mem_of_getElem? (i := 9) rfl))) (mvT hZ (hw _ (List.mem_of_getElem? (i := 10) rfl))) (mvT hZ (hw _ (List.mem_of_getElem? (i := 11) rfl))) (by decide) (backOf (W := 1) (rm2 l Z a0 hw [] b42 (0 : Int32) b45 (0 : Int32) (0 : Int32) b16 b48 (0 : Int32) h48 n0 Z48 E_b42 F_b42_encoder F_b42_sources F_b42_crossRackDownloads F_b42_intraRackDownloads F_b42_kept F_b42_parity F_b42_parityUnplaced g_b42) hZ (hw _ (List.mem_of_getElem? (i := 11) rfl)) (hw _ (List.mem_of_getElem? (i := 8) rfl)) (by decide) (by decide)) (g := (mkF m 176 (lc0n4_15 p1 p2 p3 p4 p5 b16) [(.int (0 : Int32)), (.ref b48), (.ref b16), (.int (0 : Int32)), (.int (0 : Int32)), (.ref b45), (.int (0 : Int32)), (.ref b42), (.ref b42)])) rfl (by rw [hml]; rfl) (Steps.refl _) (a := b42) (argsL := [(.int (0 : Int32)), (.ref b45), (.int (0 : Int32)), (.int (0 : Int32)), (.ref b16), (.ref b48), (.int (0 : Int32))]) (rest := [(.ref b42)]) (lenOf pd_1 rfl) rfl (by show 2 * 0 + _ ≤ _; exact Nat.le_of_eq rfl) (hb hby at_176) (fun _ _ => ⟨rfl, e48, (by decide : 4 + 0 ≤ _), (by decide : 11 + 0 ≤ _)⟩)
  dsimp only [Pt.U, Pt.locs, Pt.cells, Pt.slots] at X51 l51 y51 z51 st51 hQ51
  subst l51 y51 z51
  obtain ⟨rfl, N51q, K51, q51_0⟩ := hQ51
  have A_b16 := A_b16.keep K51 (ninS ne_b16_b42 nin0)
  have E_b42 := E_b42.keep K51
  have A_b45 := A_b45.keep K51 (ninS (Ne.symm ne_b42_b45) nin0)
  have A_b48 := A_b48.keep K51 (ninS (Ne.symm ne_b42_b48) nin0)
  have Z51 : n0 ≤ T51.heap.size := Nat.le_trans Z48 K51.1
  have F_b42_kept := q51_0
  have N51 := Fr.app N28 N51q
  have pre52 : ∀ t, Steps p.tables e below (T51.setTop (mkF m 179 (lc0n4_15 p1 p2 p3 p4 p5 b16) [(.ref b42)])) t → Steps p.tables e below (s₁.setTop (entryFrame m #[(.int p1), (.int p2), (.int p3), (.int p4), (.int p5)] maxLocals)) t := fun t k => pre50 t (st51.trans k)
  have pre53 : ∀ t, Steps p.tables e below (T51.setTop (mkF m 183 (lc0n4_16 p1 p2 p3 p4 p5 b16 b42) [(.ref b42)])) t → Steps p.tables e below (s₁.setTop (entryFrame m #[(.int p1), (.int p2), (.int p3), (.int p4), (.int p5)] maxLocals)) t := fun t k => pre52 t (by
    show Steps p.tables e below (T51.setTop (mkF m 179 (lc0n4_15 p1 p2 p3 p4 p5 b16) [(.ref b42)])) _
    refine XS.astore X51.here hx rfl (hb hby at_179) rfl rfl (l' := (lc0n4_16 p1 p2 p3 p4 p5 b16 b42)) rfl ?_
    show Steps p.tables e below (T51.setTop (mkF m 181 (lc0n4_16 p1 p2 p3 p4 p5 b16 b42) [])) _
    refine XS.aload X51.here hx rfl (hb hby at_181) rfl rfl ?_
    show Steps p.tables e below (T51.setTop (mkF m 183 (lc0n4_16 p1 p2 p3 p4 p5 b16 b42) [(.ref b42)])) _
    exact k)
  have A_b16 : own_A Z T51.heap b16 .int 4 (own_vec (own_node p2) (own_node p3) (own_node p4) (own_node p5)) := own_A.congr A_b16 (by
    intro i hi
    rcases i with _ | _ | _ | _ | i
    all_goals first | omega | simp [own_put, own_vec])
  obtain ⟨cq54, kq54, q54a, q54b, q54c⟩ := isOf hZ rfl E_b42
  obtain ⟨_, _, ⟨T54, L54, k54, n54⟩, -, X54, ⟨Lc54, hQ54, l54, y54, z54⟩, st54⟩ := X51.virtualBack hx (y := (⟨"com/example/rackstripe/rackstripe/StripePlan", "relocations", "()I"⟩ : MethodName)) (z := (⟨"com/example/rackstripe/rackstripe/StripePlan", "relocations", "()I"⟩ : MethodName)) hown (mvT hZ (hw _ (List.mem_of_getElem? (i := 29) rfl))) (mvT hZ (hw _ (List.mem_of_getElem? (i := 30) rfl))) (notFace_of_selects (args := #[]) (mvT hZ (hw _ (List.mem_of_getElem? (i := 32) rfl)))) (mvT hZ (hw _ (List.mem_of_getElem? (i := 32) rfl))) (mvT hZ (hw _ (List.mem_of_getElem? (i := 31) rfl))) (by decide) (backOf (W := 0) (rmR4 l Z a0 hw [] b42 (own_vec (own_node p2) (own_node p3) (own_node p4) (own_node p5)) b16 T51.heap n0 Z51 E_b42 F_b42_kept A_b16) hZ (hw _ (List.mem_of_getElem? (i := 33) rfl)) (hw _ (List.mem_of_getElem? (i := 8) rfl)) (by decide) (by decide)) q54a q54c (g := (mkF m 183 (lc0n4_16 p1 p2 p3 p4 p5 b16 b42) [(.ref b42)])) rfl (by rw [hml]; rfl) (Steps.refl _) (argsL := []) (rest := []) (lenOf pd_3 rfl) rfl (by show 2 * 0 + _ ≤ _; exact Nat.le_of_eq rfl) (hb hby at_183) (fun _ _ => ⟨rfl, rfl, (by decide : 4 + 0 ≤ _), (by decide : 11 + 0 ≤ _)⟩)
  dsimp only [Pt.U, Pt.locs, Pt.cells, Pt.slots] at X54 l54 y54 z54 st54 hQ54
  subst l54 y54 z54
  obtain ⟨rfl, N54q, e54⟩ := hQ54
  have N54 := Fr.app N51 N54q
  have pre55 : ∀ t, Steps p.tables e below (T54.setTop (mkF m 186 (lc0n4_16 p1 p2 p3 p4 p5 b16 b42) [(.int (own_rel4 (own_vec (own_node p2) (own_node p3) (own_node p4) (own_node p5))))])) t → Steps p.tables e below (s₁.setTop (entryFrame m #[(.int p1), (.int p2), (.int p3), (.int p4), (.int p5)] maxLocals)) t := fun t k => pre53 t (st54.trans k)
  have pre56 : ∀ t, Steps p.tables e below (T54.setTop (mkF m 196 (lc0n4_16 p1 p2 p3 p4 p5 b16 b42) [(.int (1 : Int32))])) t → Steps p.tables e below (s₁.setTop (entryFrame m #[(.int p1), (.int p2), (.int p3), (.int p4), (.int p5)] maxLocals)) t := fun t k => pre55 t (by
    show Steps p.tables e below (T54.setTop (mkF m 186 (lc0n4_16 p1 p2 p3 p4 p5 b16 b42) [(.int (own_rel4 (own_vec (own_node p2) (own_node p3) (own_node p4) (own_node p5))))])) _
    refine XS.iload X54.here hx rfl (hb hby at_186) rfl ?_
    show Steps p.tables e below (T54.setTop (mkF m 188 (lc0n4_16 p1 p2 p3 p4 p5 b16 b42) [(.int (if (own_node p5) = (-1 : Int32) then ((if (own_node p4) = (-1 : Int32) then ((if (own_node p3) = (-1 : Int32) then ((if (own_node p2) = (-1 : Int32) then (1 : Int32) else (0 : Int32)) + (1 : Int32)) else (if (own_node p2) = (-1 : Int32) then (1 : Int32) else (0 : Int32))) + (1 : Int32)) else (if (own_node p3) = (-1 : Int32) then ((if (own_node p2) = (-1 : Int32) then (1 : Int32) else (0 : Int32)) + (1 : Int32)) else (if (own_node p2) = (-1 : Int32) then (1 : Int32) else (0 : Int32)))) + (1 : Int32)) else (if (own_node p4) = (-1 : Int32) then ((if (own_node p3) = (-1 : Int32) then ((if (own_node p2) = (-1 : Int32) then (1 : Int32) else (0 : Int32)) + (1 : Int32)) else (if (own_node p2) = (-1 : Int32) then (1 : Int32) else (0 : Int32))) + (1 : Int32)) else (if (own_node p3) = (-1 : Int32) then ((if (own_node p2) = (-1 : Int32) then (1 : Int32) else (0 : Int32)) + (1 : Int32)) else (if (own_node p2) = (-1 : Int32) then (1 : Int32) else (0 : Int32)))))), (.int (own_rel4 (own_vec (own_node p2) (own_node p3) (own_node p4) (own_node p5))))])) _
    refine XS.icmpNo X54.here hx rfl (hb hby at_188) rfl (teq (show (own_rel4 (own_vec (own_node p2) (own_node p3) (own_node p4) (own_node p5))) = (if (own_node p5) = (-1 : Int32) then ((if (own_node p4) = (-1 : Int32) then ((if (own_node p3) = (-1 : Int32) then ((if (own_node p2) = (-1 : Int32) then (1 : Int32) else (0 : Int32)) + (1 : Int32)) else (if (own_node p2) = (-1 : Int32) then (1 : Int32) else (0 : Int32))) + (1 : Int32)) else (if (own_node p3) = (-1 : Int32) then ((if (own_node p2) = (-1 : Int32) then (1 : Int32) else (0 : Int32)) + (1 : Int32)) else (if (own_node p2) = (-1 : Int32) then (1 : Int32) else (0 : Int32)))) + (1 : Int32)) else (if (own_node p4) = (-1 : Int32) then ((if (own_node p3) = (-1 : Int32) then ((if (own_node p2) = (-1 : Int32) then (1 : Int32) else (0 : Int32)) + (1 : Int32)) else (if (own_node p2) = (-1 : Int32) then (1 : Int32) else (0 : Int32))) + (1 : Int32)) else (if (own_node p3) = (-1 : Int32) then ((if (own_node p2) = (-1 : Int32) then (1 : Int32) else (0 : Int32)) + (1 : Int32)) else (if (own_node p2) = (-1 : Int32) then (1 : Int32) else (0 : Int32))))) from own_law4 p2 p3 p4 p5)).2 ?_
    show Steps p.tables e below (T54.setTop (mkF m 191 (lc0n4_16 p1 p2 p3 p4 p5 b16 b42) [])) _
    refine XS.iconst X54.here hx rfl (hb hby at_191) ?_
    show Steps p.tables e below (T54.setTop (mkF m 192 (lc0n4_16 p1 p2 p3 p4 p5 b16 b42) [(.int (1 : Int32))])) _
    refine XS.goto X54.here hx rfl (pc0 := 192) (pc' := 196) rfl (hb hby at_192) (by decide) (by decide) ?_
    show Steps p.tables e below (T54.setTop (mkF m 196 (lc0n4_16 p1 p2 p3 p4 p5 b16 b42) [(.int (1 : Int32))])) _
    exact k)
  obtain ⟨fs, hr, hrun, hended, hW, hsame⟩ := X54.leave (v := some (.int (1 : Int32))) (fun h => by rw [Bd.returns] at h; cases h) hlk
  refine ⟨_, _, pre56 _ ?_, hrun, hended, _, _, rfl, ?_, ⟨_, rfl⟩, hW, hsame.mono (by decide) (by decide)⟩
  · show Steps p.tables e below (T54.setTop (mkF m 196 (lc0n4_16 p1 p2 p3 p4 p5 b16 b42) [(.int (1 : Int32))])) _
    exact retN X54 hx (t := .boolean) Bd.returns (by simp) (hb hby at_196) hr
  · show Q0n4 Z p1 p2 p3 p4 p5 h0 n0 _ T54.heap _
    rw [e54]
    exact ⟨rfl, N54⟩
def Q0 (Z : State) (p1 : Int32) (p2 : Int32) (p3 : Int32) (p4 : Int32) (p5 : Int32) (h0 : Heap) (n0 : Nat) (v : Option Value) (h : Heap) (L : List Loc) : Prop := v = some (.int (1 : Int32)) ∧ Fr n0 L
theorem rm0 (l : Launch) (Z : State) (a0 : Array Value) (hw : ∀ d ∈ tables_1, d.before a0 Z = true) (ws : List Jvm.Cond) (p1 : Int32) (p2 : Int32) (p3 : Int32) (p4 : Int32) (p5 : Int32) (h0 : Heap) (n0 : Nat) (Z0 : n0 ≤ h0.size) :
    MetFree l x (head1 (Jvm.Cond.code x code maxLocals ret :: ws) room_1) (fun aa U => aa = #[(.int p1), (.int p2), (.int p3), (.int p4), (.int p5)] ∧ Z.Warmed39 U.vm ∧ U.heap = h0) (fun _ _ _ _ _ => True) (fun _ U o U' => ∃ v L, o = .returned v ∧ Q0 Z p1 p2 p3 p4 p5 h0 n0 v U'.heap L ∧ FrameEnd U o U' L room_1.cells room_1.slots) := by
  obtain ⟨kk, hkk, ek⟩ := own_n5 p1
  obtain rfl | rfl | rfl | rfl | rfl : kk = 0 ∨ kk = 1 ∨ kk = 2 ∨ kk = 3 ∨ kk = 4 := by omega
  · exact rm0n0 l Z a0 hw ws p1 p2 p3 p4 p5 h0 n0 Z0 ek
  · exact rm0n1 l Z a0 hw ws p1 p2 p3 p4 p5 h0 n0 Z0 ek
  · exact rm0n2 l Z a0 hw ws p1 p2 p3 p4 p5 h0 n0 Z0 ek
  · exact rm0n3 l Z a0 hw ws p1 p2 p3 p4 p5 h0 n0 Z0 ek
  · exact rm0n4 l Z a0 hw ws p1 p2 p3 p4 p5 h0 n0 Z0 ek
set_option maxRecDepth 65536 in
set_option maxHeartbeats 40000000 in
theorem comes_1 {Post : Tables → Env → Array Value → State → Outcome → State → Prop} (hpost : ∀ tb e args s v u, (limb_1_1.after args s (.returned v) u = true ∧ limb_1_2.after args s (.returned v) u = true ∧ True) → FrameEnd s (.returned v) u (Jvm.fieldLocs frame_1_writes args s ++ Jvm.arrayLocs frame_1_arrays args s ++ Jvm.staticLocs frame_1_statics s) 16 128 → Post tb e args s (.returned v) u) :
    ArmFor flags0 classFile x code maxLocals ret World_1 tables_1 room_1 Calls_1 rest_1 Pre_1 Post := by
  intro l hfl _ _ p e ha hc hk s m args below hf hA hF happ hP
  obtain ⟨hcalls, hrest, hpre⟩ := hP
  obtain ⟨-, -, -, hnamed, -, -, -, hat⟩ := (Spec.applies_iff hf).mp happ
  obtain ⟨hg, hn⟩ := and_e (Cond.before_iff.mp (show (Jvm.Cond.and given_1 narrow_1).before args s = true from hpre))
  obtain ⟨hcnt, g0⟩ := and_e hg
  obtain ⟨k0, g1⟩ := and_e g0
  obtain ⟨k1, g2⟩ := and_e g1
  obtain ⟨k2, g3⟩ := and_e g2
  obtain ⟨k3, g4⟩ := and_e g3
  have k4 := g4
  obtain ⟨w0, w1, w2, w3, w4, rfl⟩ : ∃ w0 w1 w2 w3 w4 : Value, args = #[w0, w1, w2, w3, w4] := by
    have hs : args.size = 5 := by simpa [Cond.value, given_1] using hcnt
    obtain ⟨L⟩ := args
    match L, hs with
    | [w0, w1, w2, w3, w4], _ => exact ⟨w0, w1, w2, w3, w4, rfl⟩
  have hw := fun d (hd : d ∈ tables_1) => atoms_spec (ws := Jvm.Cond.code x code maxLocals ret :: tables_1) hat d (List.mem_cons_of_mem _ hd)
  obtain ⟨i0, ei0⟩ := is_v k0
  obtain rfl : w0 = (.int i0) := Option.some.inj ei0
  obtain ⟨i1, ei1⟩ := is_v k1
  obtain rfl : w1 = (.int i1) := Option.some.inj ei1
  obtain ⟨i2, ei2⟩ := is_v k2
  obtain rfl : w2 = (.int i2) := Option.some.inj ei2
  obtain ⟨i3, ei3⟩ := is_v k3
  obtain rfl : w3 = (.int i3) := Option.some.inj ei3
  obtain ⟨i4, ei4⟩ := is_v k4
  obtain rfl : w4 = (.int i4) := Option.some.inj ei4
  obtain ⟨n, o, h1, h2, h3, _, L, rfl, ⟨rfl, N⟩, hq⟩ := rm0 l s _ hw tables_1 i0 i1 i2 i3 i4 s.heap s.heap.size (Nat.le_refl _) p e ha hc hk s m _ below hf ((Spec.applies_iff_loose hf).mp happ).1 ⟨rfl, State.Warmed39.refl s, rfl⟩ trivial
  refine ⟨n, _, h1, h2, h3, hpost _ _ _ _ _ _ ⟨Cond.after_iff.mpr rfl, Cond.after_iff.mpr (eq_i res_at (Term.int_eval (1)) rfl), trivial⟩ ⟨hq.1, hq.2.1, (hq.2.2.sift fun y hy => Or.inr (N y hy)).mono (by decide) (by decide)⟩⟩
theorem main_1_1 : Claimed_1_1 := comes_1 fun _ _ _ _ _ _ h hF => ⟨h.1, hF⟩
theorem main_1_2 : Claimed_1_2 := comes_1 fun _ _ _ _ _ _ h hF => ⟨h.2.1, hF⟩
end Jvm.Pilot.@@N@@
namespace Jvm.Pilot.@@N@@
open Jvm Jvm.ClassFile Sem Op Lib Jvm.Free Jvm.Stand Jvm.Pilot.@@N@@.Jvm.D
/-! MADE BY PROGRAM (witnessworld.py) out of the Statement's table words and the real class files: 9 classes; the members and pool entries that the words name. The judged class is class 1, her method 2. -/
namespace start1
open Jvm.ClassFile
def u (s : String) : CpInfo := .utf8 (stringToUtf16 s)
/-- a pool by its gaps: so many unusable entries, then the entry; so many at the end -/
def gap : Nat → List CpInfo → List CpInfo
  | 0, r => r
  | n + 1, r => .unusable :: gap n r
def poolList (es : List (Nat × CpInfo)) (last : Nat) : List CpInfo := es.foldr (fun e r => gap e.1 (e.2 :: r)) (gap last [])
def pool (es : List (Nat × CpInfo)) (last : Nat) : Array CpInfo := ⟨poolList es last⟩
def fileOf (pool : Array CpInfo) (this : Nat) (attrs : Array Attribute := #[]) (ms : Array MethodInfo := #[]) (fl : Nat := 33) (sup : Nat := 0) (ifs : Array Nat := #[]) (fds : Array FieldInfo := #[]) : ClassFile where
  minorVersion := 0
  majorVersion := 65
  constantPool := pool
  accessFlags := fl
  thisClass := this
  superClass := sup
  interfaces := ifs
  fields := fds
  methods := ms
  attributes := attrs
def plain (name : String) (sup : Option ClassId) : Class where
  name := name
  kind := .ordinary
  loader := none
  accessFlags := 33
  super := sup
  interfaces := #[]
  cf := none
  fields := #[]
  methods := #[]
  instanceTypes := #[]
  staticTypes := #[]
  resolved := #[]
  callSites := []
  init := .initialized
  statics := none
  mirror := none

def pool0 : Array CpInfo := pool [(5, u "<init>"), (0, u "()V"), (1, .class_ 10), (1, u "java/lang/Object")] 113

def k0c0 : Code := { maxStack := 0, maxLocals := 1, code := object_method_1_code, exceptionTable := #[], attributes := #[] }
def k0m0 : Method := { name := "<init>", desc := "()V", sig := { parameters := [], returnType := none }, accessFlags := 1, code := some k0c0 }
/-- java/lang/Object -/
def k0 : Class := { plain "java/lang/Object" none with
  accessFlags := 33
  interfaces := #[]
  cf := some (fileOf pool0 8 #[] #[{ accessFlags := 1, nameIndex := 5, descriptorIndex := 6, attributes := #[] }] 33 0 #[] #[])
  fields := #[]
  methods := #[k0m0]
  instanceTypes := #[]
  staticTypes := #[]
  resolved := Array.replicate 124 none
  statics := none }

def pool1 : Array CpInfo := pool [(2, .class_ 4), (1, u "java/lang/Object"), (0, u "<init>"), (0, u "()V"), (0, .integer 2147483647), (0, .methodref 9 10), (0, .class_ 11), (0, .nameAndType 12 13), (0, u "com/example/rackstripe/rackstripe/StripePlanRelocationsPinLaw"), (0, u "node"), (0, u "(I)I"), (0, .class_ 15), (0, u "com/example/rackstripe/rackstripe/StripePlan"), (0, .methodref 14 17), (0, .nameAndType 5 18), (0, u "(I[III[I[II)V"), (0, .methodref 14 20), (0, .nameAndType 21 22), (0, u "relocations"), (0, u "()I"), (3, u "law"), (0, u "(IIIII)Z")] 4

def k1m0 : Method := { name := "<init>", desc := "()V", sig := { parameters := [], returnType := none }, accessFlags := 1, code := none }
def k1c1 : Code := { maxStack := 1, maxLocals := 1, code := method_2_code, exceptionTable := #[], attributes := #[] }
def k1m1 : Method := { name := "node", desc := "(I)I", sig := { parameters := [.int], returnType := some .int }, accessFlags := 10, code := some k1c1 }
def k1c2 : Code := { maxStack := 9, maxLocals := 13, code := code, exceptionTable := #[], attributes := #[] }
def k1m2 : Method := { name := "law", desc := "(IIIII)Z", sig := { parameters := [.int, .int, .int, .int, .int], returnType := some .boolean }, accessFlags := 9, code := some k1c2 }
/-- com/example/rackstripe/rackstripe/StripePlanRelocationsPinLaw -/
def k1 : Class := { plain "com/example/rackstripe/rackstripe/StripePlanRelocationsPinLaw" (some 0) with
  accessFlags := 49
  interfaces := #[]
  cf := some (fileOf pool1 9 #[] #[{ accessFlags := 1, nameIndex := 5, descriptorIndex := 6, attributes := #[] }, { accessFlags := 10, nameIndex := 12, descriptorIndex := 13, attributes := #[] }, { accessFlags := 9, nameIndex := 26, descriptorIndex := 27, attributes := #[] }] 49 2 #[] #[])
  fields := #[]
  methods := #[k1m0, k1m1, k1m2]
  instanceTypes := #[]
  staticTypes := #[]
  resolved := Array.replicate 32 none
  statics := none }

def pool2 : Array CpInfo := pool [(1, .methodref 2 3), (0, .class_ 4), (0, .nameAndType 5 6), (0, u "java/lang/Object"), (0, u "<init>"), (0, u "()V"), (0, .fieldref 8 9), (0, .class_ 10), (0, .nameAndType 11 12), (0, u "com/example/rackstripe/rackstripe/StripePlan"), (0, u "encoder"), (0, u "I"), (0, .fieldref 8 14), (0, .nameAndType 15 16), (0, u "sources"), (0, u "[I"), (0, .fieldref 8 18), (0, .nameAndType 19 12), (0, u "crossRackDownloads"), (0, .fieldref 8 21), (0, .nameAndType 22 12), (0, u "intraRackDownloads"), (0, .fieldref 8 24), (0, .nameAndType 25 16), (0, u "kept"), (0, .fieldref 8 27), (0, .nameAndType 28 16), (0, u "parity"), (0, .fieldref 8 30), (0, .nameAndType 31 12), (0, u "parityUnplaced"), (5, u "(I[III[I[II)V"), (3, u "()I"), (7, u "relocations")] 3

def k2c0 : Code := { maxStack := 2, maxLocals := 8, code := prog_48_method_1_code, exceptionTable := #[], attributes := #[] }
def k2m0 : Method := { name := "<init>", desc := "(I[III[I[II)V", sig := { parameters := [.int, (.array .int), .int, .int, (.array .int), (.array .int), .int], returnType := none }, accessFlags := 0, code := some k2c0 }
def k2c1 : Code := { maxStack := 2, maxLocals := 6, code := prog_48_method_9_code, exceptionTable := #[], attributes := #[] }
def k2m1 : Method := { name := "relocations", desc := "()I", sig := { parameters := [], returnType := some .int }, accessFlags := 1, code := some k2c1 }
/-- com/example/rackstripe/rackstripe/StripePlan -/
def k2 : Class := { plain "com/example/rackstripe/rackstripe/StripePlan" (some 0) with
  accessFlags := 49
  interfaces := #[]
  cf := some (fileOf pool2 8 #[] #[{ accessFlags := 0, nameIndex := 5, descriptorIndex := 37, attributes := #[] }, { accessFlags := 1, nameIndex := 49, descriptorIndex := 41, attributes := #[] }] 49 2 #[] #[{ accessFlags := 18, nameIndex := 11, descriptorIndex := 12, attributes := #[] }, { accessFlags := 18, nameIndex := 15, descriptorIndex := 16, attributes := #[] }, { accessFlags := 18, nameIndex := 19, descriptorIndex := 12, attributes := #[] }, { accessFlags := 18, nameIndex := 22, descriptorIndex := 12, attributes := #[] }, { accessFlags := 18, nameIndex := 25, descriptorIndex := 16, attributes := #[] }, { accessFlags := 18, nameIndex := 28, descriptorIndex := 16, attributes := #[] }, { accessFlags := 18, nameIndex := 31, descriptorIndex := 12, attributes := #[] }])
  fields := #[{ name := "encoder", type := .int, accessFlags := 18, slot := 0, constantValue := 0 }, { name := "sources", type := (.array .int), accessFlags := 18, slot := 1, constantValue := 0 }, { name := "crossRackDownloads", type := .int, accessFlags := 18, slot := 2, constantValue := 0 }, { name := "intraRackDownloads", type := .int, accessFlags := 18, slot := 3, constantValue := 0 }, { name := "kept", type := (.array .int), accessFlags := 18, slot := 4, constantValue := 0 }, { name := "parity", type := (.array .int), accessFlags := 18, slot := 5, constantValue := 0 }, { name := "parityUnplaced", type := .int, accessFlags := 18, slot := 6, constantValue := 0 }]
  methods := #[k2m0, k2m1]
  instanceTypes := #[.int, (.array .int), .int, .int, (.array .int), (.array .int), .int]
  staticTypes := #[]
  resolved := Array.replicate 53 none
  statics := none }

def pool3 : Array CpInfo := pool [(1, u "java/lang/Cloneable"), (0, .class_ 1), (0, u "java/lang/Object"), (0, .class_ 3)] 3

/-- java/lang/Cloneable -/
def k3 : Class := { plain "java/lang/Cloneable" (some 0) with
  accessFlags := 1537
  interfaces := #[]
  cf := some (fileOf pool3 2 #[] #[] 1537 4 #[] #[])
  fields := #[]
  methods := #[]
  instanceTypes := #[]
  staticTypes := #[]
  resolved := Array.replicate 8 none
  statics := none }

def pool4 : Array CpInfo := pool [(1, u "java/io/Serializable"), (0, .class_ 1), (0, u "java/lang/Object"), (0, .class_ 3)] 3

/-- java/io/Serializable -/
def k4 : Class := { plain "java/io/Serializable" (some 0) with
  accessFlags := 1537
  interfaces := #[]
  cf := some (fileOf pool4 2 #[] #[] 1537 4 #[] #[])
  fields := #[]
  methods := #[]
  instanceTypes := #[]
  staticTypes := #[]
  resolved := Array.replicate 8 none
  statics := none }

/-- the primitive byte -/
def k5 : Class := { plain "byte" none with kind := .primitive 'B', accessFlags := 0x411 }
/-- [B -/
def k6 : Class := { plain "[B" (some 0) with kind := .array 5 .byte, interfaces := #[3, 4], accessFlags := 1041 }

/-- the primitive int -/
def k7 : Class := { plain "int" none with kind := .primitive 'I', accessFlags := 0x411 }
/-- [I -/
def k8 : Class := { plain "[I" (some 0) with kind := .array 7 .int, interfaces := #[3, 4], accessFlags := 1041 }

def heap : Heap := #[]
def classes : Array Class := #[k0, k1, k2, k3, k4, k5, k6, k7, k8]
def interned : List (Array UInt16 × Addr) := []
def slotsUsed : Nat := 0
def theMethod : MethodId := ⟨1, 2⟩
def args0 : Array Value := #[.int 5, .int 5, .int 5, .int 5, .int 5]
def aboutOver (below : List Frame) : State where
  vm := { classes := classes, interned := interned.toArray }
  heap := heap
  slotsUsed := slotsUsed
  threads := #[{ frames := .invoking theMethod args0 :: below }]
def below0 : List Frame := [.native { method := ⟨0, 0⟩, args := #[] }]
def about1 : State := aboutOver below0
def p0 : Program := .bare "" "" ""
def e0 : Env := launch0.env 0 0 0
theorem w_frames : about1.frames = Frame.invoking theMethod args0 :: below0 := rfl
set_option maxRecDepth 65536 in
theorem w_args : argsFit about1.vm theMethod args0 = true := by decide +kernel
set_option maxRecDepth 65536 in
theorem w_heap : heapFits about1 = true := by decide +kernel
set_option maxRecDepth 65536 in
theorem w_runnable : about1.curStatus? = some .runnable := by decide +kernel
set_option maxRecDepth 65536 in
theorem w_alone : about1.alone = true := by decide +kernel
set_option maxRecDepth 65536 in
theorem w_named : about1.methodNamed? x = some theMethod := by decide +kernel
set_option maxRecDepth 65536 in
theorem w_hears : about1.hears theMethod below0 = true := by decide +kernel
set_option maxRecDepth 65536 in
theorem w_ripe : about1.ripe theMethod args0 below0 = true := by decide +kernel
theorem w_running : about1.status = .running := rfl
set_option maxRecDepth 65536 in
theorem w_room : about1.hasRoom e0.platform room_1 = true :=
  launch0.hasRoom_least _ room_1 (by decide +kernel) (by decide +kernel) (by decide +kernel) (by decide +kernel) (by decide +kernel) (by decide +kernel)
theorem allAtoms_all (ts : List Jvm.Cond) (a : Array Jvm.Value) (st : Jvm.State) : (allAtoms ts).before a st = ts.all (fun c => c.before a st) := by
  induction ts with
  | nil => rfl
  | cons c t ih =>
    show (Jvm.Cond.and c (allAtoms t)).before a st = _
    rw [Jvm.Cond.before_and, ih, List.all_cons]
def words1 : List Jvm.Cond := Jvm.Cond.code x code maxLocals ret :: tables_1
/-- a 'code' word, met by the world's own term for the bytes: nothing is compared byte by byte -/
theorem code_word {y : MethodName} {bytes : ByteArray} {mx : Nat} {rt : Option FieldType} {a : Array Value} {s : State} {m : MethodId} {meth : Method} {c : Code} (h1 : s.methodNamed? y = some m) (h2 : s.vm.method? m = some meth) (h3 : meth.code = some c) (h4 : c.code = bytes)
    (h5 : (c.maxLocals == mx && c.exceptionTable.isEmpty && decide (c.maxStack ≤ mostOperands) && decide (meth.sig.returnType = rt) && !meth.locks && decide (parseMethodDescriptor y.desc = some meth.sig)) = true) : (Jvm.Cond.code y bytes mx rt).before a s = true := by
  simp only [Bool.and_eq_true, beq_iff_eq, Bool.not_eq_true', decide_eq_true_eq] at h5
  obtain ⟨⟨⟨⟨⟨g1, g2⟩, g3⟩, g4⟩, g5⟩, g6⟩ := h5
  simp [Cond.before, Cond.holds, Cond.value, h1, h2, h3, h4, g1, g2, g3, g4, g5, g6]
def isCode : Jvm.Cond → Bool
  | .code _ _ _ _ => true
  | _ => false
theorem all_split {L : List Jvm.Cond} {P : Jvm.Cond → Bool} (h1 : L.all (fun c => isCode c || P c) = true) (h2 : ∀ c ∈ L.filter isCode, P c = true) : L.all P = true := by
  refine List.all_eq_true.mpr fun c hc => ?_
  have h := List.all_eq_true.mp h1 c hc
  rcases Bool.eq_false_or_eq_true (isCode c) with hi | hi
  · exact h2 c (List.mem_filter.mpr ⟨hc, hi⟩)
  · simpa [hi] using h
set_option maxRecDepth 65536 in
theorem w_c0 : (Jvm.Cond.code x code maxLocals ret).before args0 about1 = true := code_word (m := ⟨1, 2⟩) (meth := k1m2) (c := k1c2) (by decide +kernel) rfl rfl rfl (by decide +kernel)
set_option maxRecDepth 65536 in
theorem w_c1 : (Jvm.Cond.code ({ cls := "com/example/rackstripe/rackstripe/StripePlanRelocationsPinLaw", name := "node", desc := "(I)I" } : Jvm.MethodName) method_2_code (1 : Nat) (Option.some Jvm.ClassFile.FieldType.int)).before args0 about1 = true := code_word (m := ⟨1, 1⟩) (meth := k1m1) (c := k1c1) (by decide +kernel) rfl rfl rfl (by decide +kernel)
set_option maxRecDepth 65536 in
theorem w_c2 : (Jvm.Cond.code ({ cls := "com/example/rackstripe/rackstripe/StripePlan", name := "<init>", desc := "(I[III[I[II)V" } : Jvm.MethodName) prog_48_method_1_code (8 : Nat) (Option.none : Option Jvm.ClassFile.FieldType)).before args0 about1 = true := code_word (m := ⟨2, 0⟩) (meth := k2m0) (c := k2c0) (by decide +kernel) rfl rfl rfl (by decide +kernel)
set_option maxRecDepth 65536 in
theorem w_c3 : (Jvm.Cond.code ({ cls := "java/lang/Object", name := "<init>", desc := "()V" } : Jvm.MethodName) object_method_1_code (1 : Nat) (Option.none : Option Jvm.ClassFile.FieldType)).before args0 about1 = true := code_word (m := ⟨0, 0⟩) (meth := k0m0) (c := k0c0) (by decide +kernel) rfl rfl rfl (by decide +kernel)
set_option maxRecDepth 65536 in
theorem w_c4 : (Jvm.Cond.code ({ cls := "com/example/rackstripe/rackstripe/StripePlan", name := "relocations", desc := "()I" } : Jvm.MethodName) prog_48_method_9_code (6 : Nat) (Option.some Jvm.ClassFile.FieldType.int)).before args0 about1 = true := code_word (m := ⟨2, 1⟩) (meth := k2m1) (c := k2c1) (by decide +kernel) rfl rfl rfl (by decide +kernel)
def codes1 : List Jvm.Cond := [Jvm.Cond.code x code maxLocals ret, Jvm.Cond.code ({ cls := "com/example/rackstripe/rackstripe/StripePlanRelocationsPinLaw", name := "node", desc := "(I)I" } : Jvm.MethodName) method_2_code (1 : Nat) (Option.some Jvm.ClassFile.FieldType.int), Jvm.Cond.code ({ cls := "com/example/rackstripe/rackstripe/StripePlan", name := "<init>", desc := "(I[III[I[II)V" } : Jvm.MethodName) prog_48_method_1_code (8 : Nat) (Option.none : Option Jvm.ClassFile.FieldType), Jvm.Cond.code ({ cls := "java/lang/Object", name := "<init>", desc := "()V" } : Jvm.MethodName) object_method_1_code (1 : Nat) (Option.none : Option Jvm.ClassFile.FieldType), Jvm.Cond.code ({ cls := "com/example/rackstripe/rackstripe/StripePlan", name := "relocations", desc := "()I" } : Jvm.MethodName) prog_48_method_9_code (6 : Nat) (Option.some Jvm.ClassFile.FieldType.int)]
set_option maxRecDepth 65536 in
theorem codes_eq : words1.filter isCode = codes1 := rfl
theorem w_codes : ∀ c ∈ words1.filter isCode, c.before args0 about1 = true := by
  rw [codes_eq]
  intro c hc
  simp only [codes1, List.mem_cons, List.not_mem_nil, or_false] at hc
  rcases hc with rfl | rfl | rfl | rfl | rfl
  · exact w_c0
  · exact w_c1
  · exact w_c2
  · exact w_c3
  · exact w_c4
set_option maxRecDepth 65536 in
theorem w_t1 : (words1.take 24).all (fun c => isCode c || c.before args0 about1) = true := by decide +kernel
set_option maxRecDepth 65536 in
theorem w_t2 : (words1.drop 24).all (fun c => isCode c || c.before args0 about1) = true := by decide +kernel
theorem w_tables : (allAtoms (Jvm.Cond.code x code maxLocals ret :: tables_1)).before args0 about1 = true := by
  rw [allAtoms_all]
  show words1.all (fun c => c.before args0 about1) = true
  refine all_split ?_ w_codes
  rw [← List.take_append_drop 24 words1, List.all_append, w_t1, w_t2]
  rfl
set_option maxRecDepth 65536 in
theorem w_case : (Jvm.Cond.and given_1 narrow_1).before args0 about1 = true := by decide +kernel
theorem w_applies : (headSpec (Jvm.Cond.code x code maxLocals ret :: tables_1) room_1).applies x e0.platform about1 = true :=
  (Spec.applies_iff w_frames).mpr ⟨w_running, w_runnable, w_alone, w_named, w_hears, w_ripe, w_room, w_tables⟩
theorem atStart : AtStart classFile x code maxLocals ret World_1 tables_1 room_1 Calls_1 rest_1 Pre_1 launch0 p0 e0 about1 theMethod args0 below0 :=
  ⟨lists_1, trivial, launch0.admits_env _ _ _, launch0.least_env, fairChoices_fair.cas, fairChoices_fair.clock, w_frames, w_args, w_heap, w_applies, trivial, trivial, w_case⟩
end start1
theorem witness_1 : WitnessClaimed_1 := ⟨start1.p0, start1.e0, start1.about1, start1.theMethod, start1.args0, start1.below0, start1.atStart⟩
end Jvm.Pilot.@@N@@
