import JvmDerived
import JvmDerived.Pilot.@@N@@Statement
import JvmDerived.Pilot.@@N@@Code
set_option linter.unusedVariables false
set_option linter.unusedSimpArgs false
namespace Jvm.RoadKit
open Sem ClassFile Op Lib Jvm.Stand Jvm.Free Jvm.LawKit
section New
variable {p : Program} {l : Launch} {e : Env} {R : Room} {s : State} {m : MethodId} {args : Array Value} {below : List Frame} {meth : Method} {c : Code} {T : State} {locs : List Loc} {cells slots : Nat}
theorem retI (X : Stand p l e R s m args below meth c T locs cells slots) (hx : p.tables.exec = Jvm.exec) {pc : Nat} {Ls : Array Slot} {z : Int32} {rest : List Value} (hret : meth.sig.returnType = some .int) (hd : decode c.code pc = .ok (.ireturn, 1)) {fs : List Frame}
    (hl : ∀ (f : JFrame) (acts : List Action), f.method = m → f.locked = none → f.entered = [] → (doReturn e (T.setTop f) acts (some (.int z))).1 = T.setFrames fs) : Steps p.tables e below (T.setTop (mkF m pc Ls (.int z :: rest))) (T.setFrames fs) := by
  have hm' : T.vm.method? m = some meth := X.method'
  have hn : narrow .int (.int z) = .int z := rfl
  show Steps p.tables e below (T.setTop { method := m, pc := pc, locals := Ls, stack := _ :: rest, locked := none }) _
  jvm_step X.here [X.here.top, hx, hd, hm', hret, hn]
  first | (intro acts; rw [hl _ acts rfl rfl rfl]) | rw [hl _ _ rfl rfl rfl]
  exact Steps.refl _
end New
end Jvm.RoadKit
namespace Jvm.Pilot.@@N@@
open Jvm Jvm.ClassFile Sem Op Lib Jvm.Free Jvm.Stand Jvm.LawKit Jvm.RoadKit Bundle Jvm.Pilot.@@N@@.Jvm.D
def own_ush (x : Int64) (s : Int32) : Int64 := ((x.toUInt64 >>> (s &&& 0x3f).toInt64.toUInt64).toInt64)
def own_shl (x : Int64) (s : Int32) : Int64 := (x <<< (s &&& 0x3f).toInt64)
def own_shr (x : Int64) (s : Int32) : Int64 := (x >>> (s &&& 0x3f).toInt64)
def own_iush (x s : Int32) : Int32 := ((x.toUInt32 >>> (s &&& 31).toUInt32).toInt32)
def own_ishl (x s : Int32) : Int32 := (x <<< (s &&& 31))
def own_ishr (x s : Int32) : Int32 := (x >>> (s &&& 31))
def own_lrem (x y : Int64) : Int64 := x - (x / y) * y
def own_mix1 (z : Int64) : Int64 := (z ^^^ own_ush z (30 : Int32)) * (-4658895280553007687 : Int64)
def own_mix2 (z : Int64) : Int64 := (z ^^^ own_ush z (27 : Int32)) * (-7723592293110705685 : Int64)
def own_mix3 (z : Int64) : Int64 := z ^^^ own_ush z (31 : Int32)
def own_out (q1 q2 : Int64) : Int64 := own_mix3 (own_mix2 (own_mix1 (q1 + (q2 * (-7046029254386353131 : Int64)))))
def own_nw (c x : Int64) : Int64 := x * ((2 : Int64) - c * x)
def own_inv (c : Int64) : Int64 := own_nw c (own_nw c (own_nw c (own_nw c (own_nw c c))))
def own_un (y x : Int64) (s : Int32) : Int64 := y ^^^ own_ush x s
def own_un3 (y : Int64) (s : Int32) : Int64 := own_un y (own_un y (own_un y y s) s) s
theorem own_m1 : (-4658895280553007687 : Int64) * own_inv (-4658895280553007687 : Int64) = (1 : Int64) := by decide +kernel
theorem own_m2 : (-7723592293110705685 : Int64) * own_inv (-7723592293110705685 : Int64) = (1 : Int64) := by decide +kernel
theorem own_ush_eq (x : Int64) (s : Int32) (k : Nat) (hs : ((s &&& 0x3f).toInt64.toUInt64.toBitVec % 64#64).toNat = k) : (own_ush x s).toBitVec = x.toBitVec >>> k := by
  subst hs; rfl
theorem own_xs (z : Int64) (s : Int32) (k : Nat) (hs : ((s &&& 0x3f).toInt64.toUInt64.toBitVec % 64#64).toNat = k) (hk : 64 ≤ 4 * k) : own_un3 (z ^^^ own_ush z s) s = z := by
  apply Int64.toBitVec_inj.mp
  have key : ∀ x : BitVec 64, x ^^^ x = 0#64 := fun x => BitVec.xor_self
  simp only [own_un3, own_un, Int64.toBitVec_xor, own_ush_eq _ s k hs]
  generalize z.toBitVec = b
  have h4 : b >>> k >>> k >>> k >>> k = 0#64 := by
    rw [← BitVec.shiftRight_add, ← BitVec.shiftRight_add, ← BitVec.shiftRight_add]
    exact BitVec.ushiftRight_eq_zero (by omega)
  simp only [BitVec.ushiftRight_xor_distrib, h4]
  generalize b >>> k >>> k >>> k = b3
  generalize b >>> k >>> k = b2
  generalize b >>> k = b1
  apply BitVec.eq_of_getLsbD_eq
  intro i hi
  simp only [BitVec.getLsbD_xor, BitVec.getLsbD_zero]
  cases b.getLsbD i <;> cases b1.getLsbD i <;> cases b2.getLsbD i <;> cases b3.getLsbD i <;> rfl
theorem own_law (q1 q2 : Int64) : own_un3 (own_un3 (own_un3 (own_out q1 q2) (31 : Int32) * own_inv (-7723592293110705685 : Int64)) (27 : Int32) * own_inv (-4658895280553007687 : Int64)) (30 : Int32) = q1 + (q2 * (-7046029254386353131 : Int64)) := by
  unfold own_out
  generalize q1 + (q2 * (-7046029254386353131 : Int64)) = z
  rw [own_mix3, own_xs _ 31 31 (by decide) (by decide), own_mix2, Int64.mul_assoc, own_m2, Int64.mul_one, own_xs _ 27 27 (by decide) (by decide), own_mix1, Int64.mul_assoc, own_m1, Int64.mul_one, own_xs _ 30 30 (by decide) (by decide)]
theorem d1_0 : decode prog_14_method_2_code 0 = .ok (.lload_n 0, 1) := by decide +kernel
theorem d1_1 : decode prog_14_method_2_code 1 = .ok (.lload_n 2, 1) := by decide +kernel
theorem d1_2 : decode prog_14_method_2_code 2 = .ok (.ldc2_w 9, 3) := by decide +kernel
theorem d1_5 : decode prog_14_method_2_code 5 = .ok (.lmul, 1) := by decide +kernel
theorem d1_6 : decode prog_14_method_2_code 6 = .ok (.ladd, 1) := by decide +kernel
theorem d1_7 : decode prog_14_method_2_code 7 = .ok (.lstore 4, 2) := by decide +kernel
theorem d1_9 : decode prog_14_method_2_code 9 = .ok (.lload 4, 2) := by decide +kernel
theorem d1_11 : decode prog_14_method_2_code 11 = .ok (.lload 4, 2) := by decide +kernel
theorem d1_13 : decode prog_14_method_2_code 13 = .ok (.bipush 30, 2) := by decide +kernel
theorem d1_15 : decode prog_14_method_2_code 15 = .ok (.lushr, 1) := by decide +kernel
theorem d1_16 : decode prog_14_method_2_code 16 = .ok (.lxor, 1) := by decide +kernel
theorem d1_17 : decode prog_14_method_2_code 17 = .ok (.ldc2_w 11, 3) := by decide +kernel
theorem d1_20 : decode prog_14_method_2_code 20 = .ok (.lmul, 1) := by decide +kernel
theorem d1_21 : decode prog_14_method_2_code 21 = .ok (.lstore 4, 2) := by decide +kernel
theorem d1_23 : decode prog_14_method_2_code 23 = .ok (.lload 4, 2) := by decide +kernel
theorem d1_25 : decode prog_14_method_2_code 25 = .ok (.lload 4, 2) := by decide +kernel
theorem d1_27 : decode prog_14_method_2_code 27 = .ok (.bipush 27, 2) := by decide +kernel
theorem d1_29 : decode prog_14_method_2_code 29 = .ok (.lushr, 1) := by decide +kernel
theorem d1_30 : decode prog_14_method_2_code 30 = .ok (.lxor, 1) := by decide +kernel
theorem d1_31 : decode prog_14_method_2_code 31 = .ok (.ldc2_w 13, 3) := by decide +kernel
theorem d1_34 : decode prog_14_method_2_code 34 = .ok (.lmul, 1) := by decide +kernel
theorem d1_35 : decode prog_14_method_2_code 35 = .ok (.lstore 4, 2) := by decide +kernel
theorem d1_37 : decode prog_14_method_2_code 37 = .ok (.lload 4, 2) := by decide +kernel
theorem d1_39 : decode prog_14_method_2_code 39 = .ok (.lload 4, 2) := by decide +kernel
theorem d1_41 : decode prog_14_method_2_code 41 = .ok (.bipush 31, 2) := by decide +kernel
theorem d1_43 : decode prog_14_method_2_code 43 = .ok (.lushr, 1) := by decide +kernel
theorem d1_44 : decode prog_14_method_2_code 44 = .ok (.lxor, 1) := by decide +kernel
theorem d1_45 : decode prog_14_method_2_code 45 = .ok (.lreturn, 1) := by decide +kernel
theorem pn_SplitMix64 : plainName "com/example/imbang/imbang/SplitMix64" = true := by first | (simp [plainName, overriddenIn]; done) | decide +kernel
theorem ef_1 (m : MethodId) (q1 : Int64) (q2 : Int64) : entryFrame m #[(.long q1), (.long q2)] 6 = mkF m 0 #[.val (.long q1), .second, .val (.long q2), .second, .unset, .unset] [] := by first | (simp [entryFrame, mkF, argsToLocals, Value.category]; done) | rfl
def Q1 (Z : State) (q1 : Int64) (q2 : Int64) (h0 : Heap) (n0 : Nat) (v : Option Value) (h : Heap) (L : List Loc) : Prop := v = some (.long (own_mix3 (own_mix2 (own_mix1 (q1 + (q2 * (-7046029254386353131 : Int64))))))) ∧ Fr n0 L ∧ h = h0
set_option maxRecDepth 65536 in
set_option maxHeartbeats 40000000 in
theorem rm1 (l : Launch) (Z : State) (a0 : Array Value) (hw : ∀ d ∈ tables_1, d.before a0 Z = true) (ws : List Jvm.Cond) (q1 : Int64) (q2 : Int64) (h0 : Heap) (n0 : Nat) (Z0 : n0 ≤ h0.size) :
    MetFree l (⟨"com/example/imbang/imbang/SplitMix64", "output", "(JJ)J"⟩ : MethodName) (head1 (Jvm.Cond.code (⟨"com/example/imbang/imbang/SplitMix64", "output", "(JJ)J"⟩ : MethodName) prog_14_method_2_code 6 (some .long) :: ws) ({ frames := 0, cells := 0, slots := 0, locals := 0 } : Room)) (fun a U => a = #[(.long q1), (.long q2)] ∧ Z.Warmed39 U.vm ∧ U.heap = h0) (fun _ _ _ _ _ => True) (fun _ U o U' => ∃ v L, o = .returned v ∧ Q1 Z q1 q2 h0 n0 v U'.heap L ∧ FrameEnd U o U' L ({ frames := 0, cells := 0, slots := 0, locals := 0 } : Room).cells ({ frames := 0, cells := 0, slots := 0, locals := 0 } : Room).slots) := by
  refine MetFree.of_bodySF (plainFor_of_name pn_SplitMix64) hisR ?_
  intro p e s m args below meth c s₁ Bd hml0 hP hK
  obtain ⟨rfl, hZ, hh⟩ := hP
  have hx := Bd.exec
  have hby := Bd.bytes
  have hml : c.maxLocals = 6 := hml0
  have hown : s.vm.findClass "com/example/imbang/imbang/SplitMix64" = some m.cls := findClass_of_methodNamed Bd.named
  have hnm := (name_of_methodNamed Bd.named Bd.method).1
  have X0 : Stand p l e ({ frames := 0, cells := 0, slots := 0, locals := 0 } : Room) s m #[(.long q1), (.long q2)] below meth c s₁ [] 0 0 := Stand.of_body Bd
  have e0 : s₁.heap = h0 := by rw [← hh, Bd.state]; rfl
  have N0 := Fr.nil n0
  have pre0 : ∀ t, Steps p.tables e below (s₁.setTop (mkF m 0 #[.val (.long q1), .second, .val (.long q2), .second, .unset, .unset] [])) t → Steps p.tables e below (s₁.setTop (entryFrame m #[(.long q1), (.long q2)] 6)) t := fun t k => castTop (ef_1 m q1 q2) k
  have pre1 : ∀ t, Steps p.tables e below (s₁.setTop (mkF m 45 #[.val (.long q1), .second, .val (.long q2), .second, .val (.long (own_mix2 (own_mix1 (q1 + (q2 * (-7046029254386353131 : Int64)))))), .second] [(.long (own_mix3 (own_mix2 (own_mix1 (q1 + (q2 * (-7046029254386353131 : Int64)))))))])) t → Steps p.tables e below (s₁.setTop (entryFrame m #[(.long q1), (.long q2)] 6)) t := fun t k => pre0 t (by
    show Steps p.tables e below (s₁.setTop (mkF m 0 #[.val (.long q1), .second, .val (.long q2), .second, .unset, .unset] [])) _
    refine XS.lloadN X0.here hx rfl (hb hby d1_0) rfl ?_
    show Steps p.tables e below (s₁.setTop (mkF m 1 #[.val (.long q1), .second, .val (.long q2), .second, .unset, .unset] [(.long q1)])) _
    refine XS.lloadN X0.here hx rfl (hb hby d1_1) rfl ?_
    show Steps p.tables e below (s₁.setTop (mkF m 2 #[.val (.long q1), .second, .val (.long q2), .second, .unset, .unset] [(.long q2), (.long q1)])) _
    refine X0.ldc2Long hx hown (mvT hZ (hw _ (List.mem_of_getElem? (i := 4) rfl))) (g := (mkF m 2 #[.val (.long q1), .second, .val (.long q2), .second, .unset, .unset] [(.long q2), (.long q1)])) rfl (hb hby d1_2) _ ?_
    show Steps p.tables e below (s₁.setTop (mkF m 5 #[.val (.long q1), .second, .val (.long q2), .second, .unset, .unset] [(.long (-7046029254386353131 : Int64)), (.long q2), (.long q1)])) _
    refine XS.lmul X0.here hx rfl (hb hby d1_5) rfl ?_
    show Steps p.tables e below (s₁.setTop (mkF m 6 #[.val (.long q1), .second, .val (.long q2), .second, .unset, .unset] [(.long (q2 * (-7046029254386353131 : Int64))), (.long q1)])) _
    refine XS.ladd X0.here hx rfl (hb hby d1_6) rfl ?_
    show Steps p.tables e below (s₁.setTop (mkF m 7 #[.val (.long q1), .second, .val (.long q2), .second, .unset, .unset] [(.long (q1 + (q2 * (-7046029254386353131 : Int64))))])) _
    refine XS.lstore X0.here hx rfl (hb hby d1_7) rfl (l' := #[.val (.long q1), .second, .val (.long q2), .second, .val (.long (q1 + (q2 * (-7046029254386353131 : Int64)))), .second]) rfl ?_
    show Steps p.tables e below (s₁.setTop (mkF m 9 #[.val (.long q1), .second, .val (.long q2), .second, .val (.long (q1 + (q2 * (-7046029254386353131 : Int64)))), .second] [])) _
    refine XS.lload X0.here hx rfl (hb hby d1_9) rfl ?_
    show Steps p.tables e below (s₁.setTop (mkF m 11 #[.val (.long q1), .second, .val (.long q2), .second, .val (.long (q1 + (q2 * (-7046029254386353131 : Int64)))), .second] [(.long (q1 + (q2 * (-7046029254386353131 : Int64))))])) _
    refine XS.lload X0.here hx rfl (hb hby d1_11) rfl ?_
    show Steps p.tables e below (s₁.setTop (mkF m 13 #[.val (.long q1), .second, .val (.long q2), .second, .val (.long (q1 + (q2 * (-7046029254386353131 : Int64)))), .second] [(.long (q1 + (q2 * (-7046029254386353131 : Int64)))), (.long (q1 + (q2 * (-7046029254386353131 : Int64))))])) _
    refine XS.bipush X0.here hx rfl (hb hby d1_13) ?_
    show Steps p.tables e below (s₁.setTop (mkF m 15 #[.val (.long q1), .second, .val (.long q2), .second, .val (.long (q1 + (q2 * (-7046029254386353131 : Int64)))), .second] [(.int (30 : Int32)), (.long (q1 + (q2 * (-7046029254386353131 : Int64)))), (.long (q1 + (q2 * (-7046029254386353131 : Int64))))])) _
    refine XS.lushr X0.here hx rfl (hb hby d1_15) rfl ?_
    show Steps p.tables e below (s₁.setTop (mkF m 16 #[.val (.long q1), .second, .val (.long q2), .second, .val (.long (q1 + (q2 * (-7046029254386353131 : Int64)))), .second] [(.long (own_ush (q1 + (q2 * (-7046029254386353131 : Int64))) (30 : Int32))), (.long (q1 + (q2 * (-7046029254386353131 : Int64))))])) _
    refine XS.lxor X0.here hx rfl (hb hby d1_16) rfl ?_
    show Steps p.tables e below (s₁.setTop (mkF m 17 #[.val (.long q1), .second, .val (.long q2), .second, .val (.long (q1 + (q2 * (-7046029254386353131 : Int64)))), .second] [(.long ((q1 + (q2 * (-7046029254386353131 : Int64))) ^^^ (own_ush (q1 + (q2 * (-7046029254386353131 : Int64))) (30 : Int32))))])) _
    refine X0.ldc2Long hx hown (mvT hZ (hw _ (List.mem_of_getElem? (i := 5) rfl))) (g := (mkF m 17 #[.val (.long q1), .second, .val (.long q2), .second, .val (.long (q1 + (q2 * (-7046029254386353131 : Int64)))), .second] [(.long ((q1 + (q2 * (-7046029254386353131 : Int64))) ^^^ (own_ush (q1 + (q2 * (-7046029254386353131 : Int64))) (30 : Int32))))])) rfl (hb hby d1_17) _ ?_
    show Steps p.tables e below (s₁.setTop (mkF m 20 #[.val (.long q1), .second, .val (.long q2), .second, .val (.long (q1 + (q2 * (-7046029254386353131 : Int64)))), .second] [(.long (-4658895280553007687 : Int64)), (.long ((q1 + (q2 * (-7046029254386353131 : Int64))) ^^^ (own_ush (q1 + (q2 * (-7046029254386353131 : Int64))) (30 : Int32))))])) _
    refine XS.lmul X0.here hx rfl (hb hby d1_20) rfl ?_
    show Steps p.tables e below (s₁.setTop (mkF m 21 #[.val (.long q1), .second, .val (.long q2), .second, .val (.long (q1 + (q2 * (-7046029254386353131 : Int64)))), .second] [(.long (own_mix1 (q1 + (q2 * (-7046029254386353131 : Int64)))))])) _
    refine XS.lstore X0.here hx rfl (hb hby d1_21) rfl (l' := #[.val (.long q1), .second, .val (.long q2), .second, .val (.long (own_mix1 (q1 + (q2 * (-7046029254386353131 : Int64))))), .second]) rfl ?_
    show Steps p.tables e below (s₁.setTop (mkF m 23 #[.val (.long q1), .second, .val (.long q2), .second, .val (.long (own_mix1 (q1 + (q2 * (-7046029254386353131 : Int64))))), .second] [])) _
    refine XS.lload X0.here hx rfl (hb hby d1_23) rfl ?_
    show Steps p.tables e below (s₁.setTop (mkF m 25 #[.val (.long q1), .second, .val (.long q2), .second, .val (.long (own_mix1 (q1 + (q2 * (-7046029254386353131 : Int64))))), .second] [(.long (own_mix1 (q1 + (q2 * (-7046029254386353131 : Int64)))))])) _
    refine XS.lload X0.here hx rfl (hb hby d1_25) rfl ?_
    show Steps p.tables e below (s₁.setTop (mkF m 27 #[.val (.long q1), .second, .val (.long q2), .second, .val (.long (own_mix1 (q1 + (q2 * (-7046029254386353131 : Int64))))), .second] [(.long (own_mix1 (q1 + (q2 * (-7046029254386353131 : Int64))))), (.long (own_mix1 (q1 + (q2 * (-7046029254386353131 : Int64)))))])) _
    refine XS.bipush X0.here hx rfl (hb hby d1_27) ?_
    show Steps p.tables e below (s₁.setTop (mkF m 29 #[.val (.long q1), .second, .val (.long q2), .second, .val (.long (own_mix1 (q1 + (q2 * (-7046029254386353131 : Int64))))), .second] [(.int (27 : Int32)), (.long (own_mix1 (q1 + (q2 * (-7046029254386353131 : Int64))))), (.long (own_mix1 (q1 + (q2 * (-7046029254386353131 : Int64)))))])) _
    refine XS.lushr X0.here hx rfl (hb hby d1_29) rfl ?_
    show Steps p.tables e below (s₁.setTop (mkF m 30 #[.val (.long q1), .second, .val (.long q2), .second, .val (.long (own_mix1 (q1 + (q2 * (-7046029254386353131 : Int64))))), .second] [(.long (own_ush (own_mix1 (q1 + (q2 * (-7046029254386353131 : Int64)))) (27 : Int32))), (.long (own_mix1 (q1 + (q2 * (-7046029254386353131 : Int64)))))])) _
    refine XS.lxor X0.here hx rfl (hb hby d1_30) rfl ?_
    show Steps p.tables e below (s₁.setTop (mkF m 31 #[.val (.long q1), .second, .val (.long q2), .second, .val (.long (own_mix1 (q1 + (q2 * (-7046029254386353131 : Int64))))), .second] [(.long ((own_mix1 (q1 + (q2 * (-7046029254386353131 : Int64)))) ^^^ (own_ush (own_mix1 (q1 + (q2 * (-7046029254386353131 : Int64)))) (27 : Int32))))])) _
    refine X0.ldc2Long hx hown (mvT hZ (hw _ (List.mem_of_getElem? (i := 6) rfl))) (g := (mkF m 31 #[.val (.long q1), .second, .val (.long q2), .second, .val (.long (own_mix1 (q1 + (q2 * (-7046029254386353131 : Int64))))), .second] [(.long ((own_mix1 (q1 + (q2 * (-7046029254386353131 : Int64)))) ^^^ (own_ush (own_mix1 (q1 + (q2 * (-7046029254386353131 : Int64)))) (27 : Int32))))])) rfl (hb hby d1_31) _ ?_
    show Steps p.tables e below (s₁.setTop (mkF m 34 #[.val (.long q1), .second, .val (.long q2), .second, .val (.long (own_mix1 (q1 + (q2 * (-7046029254386353131 : Int64))))), .second] [(.long (-7723592293110705685 : Int64)), (.long ((own_mix1 (q1 + (q2 * (-7046029254386353131 : Int64)))) ^^^ (own_ush (own_mix1 (q1 + (q2 * (-7046029254386353131 : Int64)))) (27 : Int32))))])) _
    refine XS.lmul X0.here hx rfl (hb hby d1_34) rfl ?_
    show Steps p.tables e below (s₁.setTop (mkF m 35 #[.val (.long q1), .second, .val (.long q2), .second, .val (.long (own_mix1 (q1 + (q2 * (-7046029254386353131 : Int64))))), .second] [(.long (own_mix2 (own_mix1 (q1 + (q2 * (-7046029254386353131 : Int64))))))])) _
    refine XS.lstore X0.here hx rfl (hb hby d1_35) rfl (l' := #[.val (.long q1), .second, .val (.long q2), .second, .val (.long (own_mix2 (own_mix1 (q1 + (q2 * (-7046029254386353131 : Int64)))))), .second]) rfl ?_
    show Steps p.tables e below (s₁.setTop (mkF m 37 #[.val (.long q1), .second, .val (.long q2), .second, .val (.long (own_mix2 (own_mix1 (q1 + (q2 * (-7046029254386353131 : Int64)))))), .second] [])) _
    refine XS.lload X0.here hx rfl (hb hby d1_37) rfl ?_
    show Steps p.tables e below (s₁.setTop (mkF m 39 #[.val (.long q1), .second, .val (.long q2), .second, .val (.long (own_mix2 (own_mix1 (q1 + (q2 * (-7046029254386353131 : Int64)))))), .second] [(.long (own_mix2 (own_mix1 (q1 + (q2 * (-7046029254386353131 : Int64))))))])) _
    refine XS.lload X0.here hx rfl (hb hby d1_39) rfl ?_
    show Steps p.tables e below (s₁.setTop (mkF m 41 #[.val (.long q1), .second, .val (.long q2), .second, .val (.long (own_mix2 (own_mix1 (q1 + (q2 * (-7046029254386353131 : Int64)))))), .second] [(.long (own_mix2 (own_mix1 (q1 + (q2 * (-7046029254386353131 : Int64)))))), (.long (own_mix2 (own_mix1 (q1 + (q2 * (-7046029254386353131 : Int64))))))])) _
    refine XS.bipush X0.here hx rfl (hb hby d1_41) ?_
    show Steps p.tables e below (s₁.setTop (mkF m 43 #[.val (.long q1), .second, .val (.long q2), .second, .val (.long (own_mix2 (own_mix1 (q1 + (q2 * (-7046029254386353131 : Int64)))))), .second] [(.int (31 : Int32)), (.long (own_mix2 (own_mix1 (q1 + (q2 * (-7046029254386353131 : Int64)))))), (.long (own_mix2 (own_mix1 (q1 + (q2 * (-7046029254386353131 : Int64))))))])) _
    refine XS.lushr X0.here hx rfl (hb hby d1_43) rfl ?_
    show Steps p.tables e below (s₁.setTop (mkF m 44 #[.val (.long q1), .second, .val (.long q2), .second, .val (.long (own_mix2 (own_mix1 (q1 + (q2 * (-7046029254386353131 : Int64)))))), .second] [(.long (own_ush (own_mix2 (own_mix1 (q1 + (q2 * (-7046029254386353131 : Int64))))) (31 : Int32))), (.long (own_mix2 (own_mix1 (q1 + (q2 * (-7046029254386353131 : Int64))))))])) _
    refine XS.lxor X0.here hx rfl (hb hby d1_44) rfl ?_
    show Steps p.tables e below (s₁.setTop (mkF m 45 #[.val (.long q1), .second, .val (.long q2), .second, .val (.long (own_mix2 (own_mix1 (q1 + (q2 * (-7046029254386353131 : Int64)))))), .second] [(.long (own_mix3 (own_mix2 (own_mix1 (q1 + (q2 * (-7046029254386353131 : Int64)))))))])) _
    exact k)
  obtain ⟨fs, hr, hrun, hended, hW, hsame⟩ := X0.leave (v := some (.long (own_mix3 (own_mix2 (own_mix1 (q1 + (q2 * (-7046029254386353131 : Int64)))))))) (fun h => by rw [Bd.returns] at h; cases h)
  refine ⟨_, _, pre1 _ ?_, hrun, hended, _, _, rfl, ?_, ⟨_, rfl⟩, hW, hsame.mono (by decide) (by decide)⟩
  · show Steps p.tables e below (s₁.setTop (mkF m 45 #[.val (.long q1), .second, .val (.long q2), .second, .val (.long (own_mix2 (own_mix1 (q1 + (q2 * (-7046029254386353131 : Int64)))))), .second] [(.long (own_mix3 (own_mix2 (own_mix1 (q1 + (q2 * (-7046029254386353131 : Int64)))))))])) _
    exact X0.lreturnOut hx Bd.returns (hb hby d1_45) hr
  · show Q1 Z q1 q2 h0 n0 _ s₁.heap _
    rw [e0]
    exact ⟨rfl, N0, rfl⟩
theorem d2_0 : decode method_2_code 0 = .ok (.lload_n 0, 1) := by decide +kernel
theorem d2_1 : decode method_2_code 1 = .ok (.lstore_n 2, 1) := by decide +kernel
theorem d2_2 : decode method_2_code 2 = .ok (.lload_n 2, 1) := by decide +kernel
theorem d2_3 : decode method_2_code 3 = .ok (.ldc2_w 7, 3) := by decide +kernel
theorem d2_6 : decode method_2_code 6 = .ok (.lload_n 0, 1) := by decide +kernel
theorem d2_7 : decode method_2_code 7 = .ok (.lload_n 2, 1) := by decide +kernel
theorem d2_8 : decode method_2_code 8 = .ok (.lmul, 1) := by decide +kernel
theorem d2_9 : decode method_2_code 9 = .ok (.lsub, 1) := by decide +kernel
theorem d2_10 : decode method_2_code 10 = .ok (.lmul, 1) := by decide +kernel
theorem d2_11 : decode method_2_code 11 = .ok (.lstore_n 2, 1) := by decide +kernel
theorem d2_12 : decode method_2_code 12 = .ok (.lload_n 2, 1) := by decide +kernel
theorem d2_13 : decode method_2_code 13 = .ok (.ldc2_w 7, 3) := by decide +kernel
theorem d2_16 : decode method_2_code 16 = .ok (.lload_n 0, 1) := by decide +kernel
theorem d2_17 : decode method_2_code 17 = .ok (.lload_n 2, 1) := by decide +kernel
theorem d2_18 : decode method_2_code 18 = .ok (.lmul, 1) := by decide +kernel
theorem d2_19 : decode method_2_code 19 = .ok (.lsub, 1) := by decide +kernel
theorem d2_20 : decode method_2_code 20 = .ok (.lmul, 1) := by decide +kernel
theorem d2_21 : decode method_2_code 21 = .ok (.lstore_n 2, 1) := by decide +kernel
theorem d2_22 : decode method_2_code 22 = .ok (.lload_n 2, 1) := by decide +kernel
theorem d2_23 : decode method_2_code 23 = .ok (.ldc2_w 7, 3) := by decide +kernel
theorem d2_26 : decode method_2_code 26 = .ok (.lload_n 0, 1) := by decide +kernel
theorem d2_27 : decode method_2_code 27 = .ok (.lload_n 2, 1) := by decide +kernel
theorem d2_28 : decode method_2_code 28 = .ok (.lmul, 1) := by decide +kernel
theorem d2_29 : decode method_2_code 29 = .ok (.lsub, 1) := by decide +kernel
theorem d2_30 : decode method_2_code 30 = .ok (.lmul, 1) := by decide +kernel
theorem d2_31 : decode method_2_code 31 = .ok (.lstore_n 2, 1) := by decide +kernel
theorem d2_32 : decode method_2_code 32 = .ok (.lload_n 2, 1) := by decide +kernel
theorem d2_33 : decode method_2_code 33 = .ok (.ldc2_w 7, 3) := by decide +kernel
theorem d2_36 : decode method_2_code 36 = .ok (.lload_n 0, 1) := by decide +kernel
theorem d2_37 : decode method_2_code 37 = .ok (.lload_n 2, 1) := by decide +kernel
theorem d2_38 : decode method_2_code 38 = .ok (.lmul, 1) := by decide +kernel
theorem d2_39 : decode method_2_code 39 = .ok (.lsub, 1) := by decide +kernel
theorem d2_40 : decode method_2_code 40 = .ok (.lmul, 1) := by decide +kernel
theorem d2_41 : decode method_2_code 41 = .ok (.lstore_n 2, 1) := by decide +kernel
theorem d2_42 : decode method_2_code 42 = .ok (.lload_n 2, 1) := by decide +kernel
theorem d2_43 : decode method_2_code 43 = .ok (.ldc2_w 7, 3) := by decide +kernel
theorem d2_46 : decode method_2_code 46 = .ok (.lload_n 0, 1) := by decide +kernel
theorem d2_47 : decode method_2_code 47 = .ok (.lload_n 2, 1) := by decide +kernel
theorem d2_48 : decode method_2_code 48 = .ok (.lmul, 1) := by decide +kernel
theorem d2_49 : decode method_2_code 49 = .ok (.lsub, 1) := by decide +kernel
theorem d2_50 : decode method_2_code 50 = .ok (.lmul, 1) := by decide +kernel
theorem d2_51 : decode method_2_code 51 = .ok (.lstore_n 2, 1) := by decide +kernel
theorem d2_52 : decode method_2_code 52 = .ok (.lload_n 2, 1) := by decide +kernel
theorem d2_53 : decode method_2_code 53 = .ok (.lreturn, 1) := by decide +kernel
theorem pn_SplitMix64OutputPinLaw : plainName "com/example/imbang/imbang/SplitMix64OutputPinLaw" = true := by first | (simp [plainName, overriddenIn]; done) | decide +kernel
theorem ef_2 (m : MethodId) (q1 : Int64) : entryFrame m #[(.long q1)] 4 = mkF m 0 #[.val (.long q1), .second, .unset, .unset] [] := by first | (simp [entryFrame, mkF, argsToLocals, Value.category]; done) | rfl
def Q2 (Z : State) (q1 : Int64) (h0 : Heap) (n0 : Nat) (v : Option Value) (h : Heap) (L : List Loc) : Prop := v = some (.long (own_nw q1 (own_nw q1 (own_nw q1 (own_nw q1 (own_nw q1 q1)))))) ∧ Fr n0 L ∧ h = h0
set_option maxRecDepth 65536 in
set_option maxHeartbeats 40000000 in
theorem rm2 (l : Launch) (Z : State) (a0 : Array Value) (hw : ∀ d ∈ tables_1, d.before a0 Z = true) (ws : List Jvm.Cond) (q1 : Int64) (h0 : Heap) (n0 : Nat) (Z0 : n0 ≤ h0.size) :
    MetFree l (⟨"com/example/imbang/imbang/SplitMix64OutputPinLaw", "inverse", "(J)J"⟩ : MethodName) (head1 (Jvm.Cond.code (⟨"com/example/imbang/imbang/SplitMix64OutputPinLaw", "inverse", "(J)J"⟩ : MethodName) method_2_code 4 (some .long) :: ws) ({ frames := 0, cells := 0, slots := 0, locals := 0 } : Room)) (fun a U => a = #[(.long q1)] ∧ Z.Warmed39 U.vm ∧ U.heap = h0) (fun _ _ _ _ _ => True) (fun _ U o U' => ∃ v L, o = .returned v ∧ Q2 Z q1 h0 n0 v U'.heap L ∧ FrameEnd U o U' L ({ frames := 0, cells := 0, slots := 0, locals := 0 } : Room).cells ({ frames := 0, cells := 0, slots := 0, locals := 0 } : Room).slots) := by
  refine MetFree.of_bodySF (plainFor_of_name pn_SplitMix64OutputPinLaw) hisR ?_
  intro p e s m args below meth c s₁ Bd hml0 hP hK
  obtain ⟨rfl, hZ, hh⟩ := hP
  have hx := Bd.exec
  have hby := Bd.bytes
  have hml : c.maxLocals = 4 := hml0
  have hown : s.vm.findClass "com/example/imbang/imbang/SplitMix64OutputPinLaw" = some m.cls := findClass_of_methodNamed Bd.named
  have hnm := (name_of_methodNamed Bd.named Bd.method).1
  have X0 : Stand p l e ({ frames := 0, cells := 0, slots := 0, locals := 0 } : Room) s m #[(.long q1)] below meth c s₁ [] 0 0 := Stand.of_body Bd
  have e0 : s₁.heap = h0 := by rw [← hh, Bd.state]; rfl
  have N0 := Fr.nil n0
  have pre0 : ∀ t, Steps p.tables e below (s₁.setTop (mkF m 0 #[.val (.long q1), .second, .unset, .unset] [])) t → Steps p.tables e below (s₁.setTop (entryFrame m #[(.long q1)] 4)) t := fun t k => castTop (ef_2 m q1) k
  have pre1 : ∀ t, Steps p.tables e below (s₁.setTop (mkF m 53 #[.val (.long q1), .second, .val (.long (own_nw q1 (own_nw q1 (own_nw q1 (own_nw q1 (own_nw q1 q1)))))), .second] [(.long (own_nw q1 (own_nw q1 (own_nw q1 (own_nw q1 (own_nw q1 q1))))))])) t → Steps p.tables e below (s₁.setTop (entryFrame m #[(.long q1)] 4)) t := fun t k => pre0 t (by
    show Steps p.tables e below (s₁.setTop (mkF m 0 #[.val (.long q1), .second, .unset, .unset] [])) _
    refine XS.lloadN X0.here hx rfl (hb hby d2_0) rfl ?_
    show Steps p.tables e below (s₁.setTop (mkF m 1 #[.val (.long q1), .second, .unset, .unset] [(.long q1)])) _
    refine XS.lstoreN X0.here hx rfl (hb hby d2_1) rfl (l' := #[.val (.long q1), .second, .val (.long q1), .second]) rfl ?_
    show Steps p.tables e below (s₁.setTop (mkF m 2 #[.val (.long q1), .second, .val (.long q1), .second] [])) _
    refine XS.lloadN X0.here hx rfl (hb hby d2_2) rfl ?_
    show Steps p.tables e below (s₁.setTop (mkF m 3 #[.val (.long q1), .second, .val (.long q1), .second] [(.long q1)])) _
    refine X0.ldc2Long hx hown (mvT hZ (hw _ (List.mem_of_getElem? (i := 14) rfl))) (g := (mkF m 3 #[.val (.long q1), .second, .val (.long q1), .second] [(.long q1)])) rfl (hb hby d2_3) _ ?_
    show Steps p.tables e below (s₁.setTop (mkF m 6 #[.val (.long q1), .second, .val (.long q1), .second] [(.long (2 : Int64)), (.long q1)])) _
    refine XS.lloadN X0.here hx rfl (hb hby d2_6) rfl ?_
    show Steps p.tables e below (s₁.setTop (mkF m 7 #[.val (.long q1), .second, .val (.long q1), .second] [(.long q1), (.long (2 : Int64)), (.long q1)])) _
    refine XS.lloadN X0.here hx rfl (hb hby d2_7) rfl ?_
    show Steps p.tables e below (s₁.setTop (mkF m 8 #[.val (.long q1), .second, .val (.long q1), .second] [(.long q1), (.long q1), (.long (2 : Int64)), (.long q1)])) _
    refine XS.lmul X0.here hx rfl (hb hby d2_8) rfl ?_
    show Steps p.tables e below (s₁.setTop (mkF m 9 #[.val (.long q1), .second, .val (.long q1), .second] [(.long (q1 * q1)), (.long (2 : Int64)), (.long q1)])) _
    refine XS.lsub X0.here hx rfl (hb hby d2_9) rfl ?_
    show Steps p.tables e below (s₁.setTop (mkF m 10 #[.val (.long q1), .second, .val (.long q1), .second] [(.long ((2 : Int64) - (q1 * q1))), (.long q1)])) _
    refine XS.lmul X0.here hx rfl (hb hby d2_10) rfl ?_
    show Steps p.tables e below (s₁.setTop (mkF m 11 #[.val (.long q1), .second, .val (.long q1), .second] [(.long (own_nw q1 q1))])) _
    refine XS.lstoreN X0.here hx rfl (hb hby d2_11) rfl (l' := #[.val (.long q1), .second, .val (.long (own_nw q1 q1)), .second]) rfl ?_
    show Steps p.tables e below (s₁.setTop (mkF m 12 #[.val (.long q1), .second, .val (.long (own_nw q1 q1)), .second] [])) _
    refine XS.lloadN X0.here hx rfl (hb hby d2_12) rfl ?_
    show Steps p.tables e below (s₁.setTop (mkF m 13 #[.val (.long q1), .second, .val (.long (own_nw q1 q1)), .second] [(.long (own_nw q1 q1))])) _
    refine X0.ldc2Long hx hown (mvT hZ (hw _ (List.mem_of_getElem? (i := 14) rfl))) (g := (mkF m 13 #[.val (.long q1), .second, .val (.long (own_nw q1 q1)), .second] [(.long (own_nw q1 q1))])) rfl (hb hby d2_13) _ ?_
    show Steps p.tables e below (s₁.setTop (mkF m 16 #[.val (.long q1), .second, .val (.long (own_nw q1 q1)), .second] [(.long (2 : Int64)), (.long (own_nw q1 q1))])) _
    refine XS.lloadN X0.here hx rfl (hb hby d2_16) rfl ?_
    show Steps p.tables e below (s₁.setTop (mkF m 17 #[.val (.long q1), .second, .val (.long (own_nw q1 q1)), .second] [(.long q1), (.long (2 : Int64)), (.long (own_nw q1 q1))])) _
    refine XS.lloadN X0.here hx rfl (hb hby d2_17) rfl ?_
    show Steps p.tables e below (s₁.setTop (mkF m 18 #[.val (.long q1), .second, .val (.long (own_nw q1 q1)), .second] [(.long (own_nw q1 q1)), (.long q1), (.long (2 : Int64)), (.long (own_nw q1 q1))])) _
    refine XS.lmul X0.here hx rfl (hb hby d2_18) rfl ?_
    show Steps p.tables e below (s₁.setTop (mkF m 19 #[.val (.long q1), .second, .val (.long (own_nw q1 q1)), .second] [(.long (q1 * (own_nw q1 q1))), (.long (2 : Int64)), (.long (own_nw q1 q1))])) _
    refine XS.lsub X0.here hx rfl (hb hby d2_19) rfl ?_
    show Steps p.tables e below (s₁.setTop (mkF m 20 #[.val (.long q1), .second, .val (.long (own_nw q1 q1)), .second] [(.long ((2 : Int64) - (q1 * (own_nw q1 q1)))), (.long (own_nw q1 q1))])) _
    refine XS.lmul X0.here hx rfl (hb hby d2_20) rfl ?_
    show Steps p.tables e below (s₁.setTop (mkF m 21 #[.val (.long q1), .second, .val (.long (own_nw q1 q1)), .second] [(.long (own_nw q1 (own_nw q1 q1)))])) _
    refine XS.lstoreN X0.here hx rfl (hb hby d2_21) rfl (l' := #[.val (.long q1), .second, .val (.long (own_nw q1 (own_nw q1 q1))), .second]) rfl ?_
    show Steps p.tables e below (s₁.setTop (mkF m 22 #[.val (.long q1), .second, .val (.long (own_nw q1 (own_nw q1 q1))), .second] [])) _
    refine XS.lloadN X0.here hx rfl (hb hby d2_22) rfl ?_
    show Steps p.tables e below (s₁.setTop (mkF m 23 #[.val (.long q1), .second, .val (.long (own_nw q1 (own_nw q1 q1))), .second] [(.long (own_nw q1 (own_nw q1 q1)))])) _
    refine X0.ldc2Long hx hown (mvT hZ (hw _ (List.mem_of_getElem? (i := 14) rfl))) (g := (mkF m 23 #[.val (.long q1), .second, .val (.long (own_nw q1 (own_nw q1 q1))), .second] [(.long (own_nw q1 (own_nw q1 q1)))])) rfl (hb hby d2_23) _ ?_
    show Steps p.tables e below (s₁.setTop (mkF m 26 #[.val (.long q1), .second, .val (.long (own_nw q1 (own_nw q1 q1))), .second] [(.long (2 : Int64)), (.long (own_nw q1 (own_nw q1 q1)))])) _
    refine XS.lloadN X0.here hx rfl (hb hby d2_26) rfl ?_
    show Steps p.tables e below (s₁.setTop (mkF m 27 #[.val (.long q1), .second, .val (.long (own_nw q1 (own_nw q1 q1))), .second] [(.long q1), (.long (2 : Int64)), (.long (own_nw q1 (own_nw q1 q1)))])) _
    refine XS.lloadN X0.here hx rfl (hb hby d2_27) rfl ?_
    show Steps p.tables e below (s₁.setTop (mkF m 28 #[.val (.long q1), .second, .val (.long (own_nw q1 (own_nw q1 q1))), .second] [(.long (own_nw q1 (own_nw q1 q1))), (.long q1), (.long (2 : Int64)), (.long (own_nw q1 (own_nw q1 q1)))])) _
    refine XS.lmul X0.here hx rfl (hb hby d2_28) rfl ?_
    show Steps p.tables e below (s₁.setTop (mkF m 29 #[.val (.long q1), .second, .val (.long (own_nw q1 (own_nw q1 q1))), .second] [(.long (q1 * (own_nw q1 (own_nw q1 q1)))), (.long (2 : Int64)), (.long (own_nw q1 (own_nw q1 q1)))])) _
    refine XS.lsub X0.here hx rfl (hb hby d2_29) rfl ?_
    show Steps p.tables e below (s₁.setTop (mkF m 30 #[.val (.long q1), .second, .val (.long (own_nw q1 (own_nw q1 q1))), .second] [(.long ((2 : Int64) - (q1 * (own_nw q1 (own_nw q1 q1))))), (.long (own_nw q1 (own_nw q1 q1)))])) _
    refine XS.lmul X0.here hx rfl (hb hby d2_30) rfl ?_
    show Steps p.tables e below (s₁.setTop (mkF m 31 #[.val (.long q1), .second, .val (.long (own_nw q1 (own_nw q1 q1))), .second] [(.long (own_nw q1 (own_nw q1 (own_nw q1 q1))))])) _
    refine XS.lstoreN X0.here hx rfl (hb hby d2_31) rfl (l' := #[.val (.long q1), .second, .val (.long (own_nw q1 (own_nw q1 (own_nw q1 q1)))), .second]) rfl ?_
    show Steps p.tables e below (s₁.setTop (mkF m 32 #[.val (.long q1), .second, .val (.long (own_nw q1 (own_nw q1 (own_nw q1 q1)))), .second] [])) _
    refine XS.lloadN X0.here hx rfl (hb hby d2_32) rfl ?_
    show Steps p.tables e below (s₁.setTop (mkF m 33 #[.val (.long q1), .second, .val (.long (own_nw q1 (own_nw q1 (own_nw q1 q1)))), .second] [(.long (own_nw q1 (own_nw q1 (own_nw q1 q1))))])) _
    refine X0.ldc2Long hx hown (mvT hZ (hw _ (List.mem_of_getElem? (i := 14) rfl))) (g := (mkF m 33 #[.val (.long q1), .second, .val (.long (own_nw q1 (own_nw q1 (own_nw q1 q1)))), .second] [(.long (own_nw q1 (own_nw q1 (own_nw q1 q1))))])) rfl (hb hby d2_33) _ ?_
    show Steps p.tables e below (s₁.setTop (mkF m 36 #[.val (.long q1), .second, .val (.long (own_nw q1 (own_nw q1 (own_nw q1 q1)))), .second] [(.long (2 : Int64)), (.long (own_nw q1 (own_nw q1 (own_nw q1 q1))))])) _
    refine XS.lloadN X0.here hx rfl (hb hby d2_36) rfl ?_
    show Steps p.tables e below (s₁.setTop (mkF m 37 #[.val (.long q1), .second, .val (.long (own_nw q1 (own_nw q1 (own_nw q1 q1)))), .second] [(.long q1), (.long (2 : Int64)), (.long (own_nw q1 (own_nw q1 (own_nw q1 q1))))])) _
    refine XS.lloadN X0.here hx rfl (hb hby d2_37) rfl ?_
    show Steps p.tables e below (s₁.setTop (mkF m 38 #[.val (.long q1), .second, .val (.long (own_nw q1 (own_nw q1 (own_nw q1 q1)))), .second] [(.long (own_nw q1 (own_nw q1 (own_nw q1 q1)))), (.long q1), (.long (2 : Int64)), (.long (own_nw q1 (own_nw q1 (own_nw q1 q1))))])) _
    refine XS.lmul X0.here hx rfl (hb hby d2_38) rfl ?_
    show Steps p.tables e below (s₁.setTop (mkF m 39 #[.val (.long q1), .second, .val (.long (own_nw q1 (own_nw q1 (own_nw q1 q1)))), .second] [(.long (q1 * (own_nw q1 (own_nw q1 (own_nw q1 q1))))), (.long (2 : Int64)), (.long (own_nw q1 (own_nw q1 (own_nw q1 q1))))])) _
    refine XS.lsub X0.here hx rfl (hb hby d2_39) rfl ?_
    show Steps p.tables e below (s₁.setTop (mkF m 40 #[.val (.long q1), .second, .val (.long (own_nw q1 (own_nw q1 (own_nw q1 q1)))), .second] [(.long ((2 : Int64) - (q1 * (own_nw q1 (own_nw q1 (own_nw q1 q1)))))), (.long (own_nw q1 (own_nw q1 (own_nw q1 q1))))])) _
    refine XS.lmul X0.here hx rfl (hb hby d2_40) rfl ?_
    show Steps p.tables e below (s₁.setTop (mkF m 41 #[.val (.long q1), .second, .val (.long (own_nw q1 (own_nw q1 (own_nw q1 q1)))), .second] [(.long (own_nw q1 (own_nw q1 (own_nw q1 (own_nw q1 q1)))))])) _
    refine XS.lstoreN X0.here hx rfl (hb hby d2_41) rfl (l' := #[.val (.long q1), .second, .val (.long (own_nw q1 (own_nw q1 (own_nw q1 (own_nw q1 q1))))), .second]) rfl ?_
    show Steps p.tables e below (s₁.setTop (mkF m 42 #[.val (.long q1), .second, .val (.long (own_nw q1 (own_nw q1 (own_nw q1 (own_nw q1 q1))))), .second] [])) _
    refine XS.lloadN X0.here hx rfl (hb hby d2_42) rfl ?_
    show Steps p.tables e below (s₁.setTop (mkF m 43 #[.val (.long q1), .second, .val (.long (own_nw q1 (own_nw q1 (own_nw q1 (own_nw q1 q1))))), .second] [(.long (own_nw q1 (own_nw q1 (own_nw q1 (own_nw q1 q1)))))])) _
    refine X0.ldc2Long hx hown (mvT hZ (hw _ (List.mem_of_getElem? (i := 14) rfl))) (g := (mkF m 43 #[.val (.long q1), .second, .val (.long (own_nw q1 (own_nw q1 (own_nw q1 (own_nw q1 q1))))), .second] [(.long (own_nw q1 (own_nw q1 (own_nw q1 (own_nw q1 q1)))))])) rfl (hb hby d2_43) _ ?_
    show Steps p.tables e below (s₁.setTop (mkF m 46 #[.val (.long q1), .second, .val (.long (own_nw q1 (own_nw q1 (own_nw q1 (own_nw q1 q1))))), .second] [(.long (2 : Int64)), (.long (own_nw q1 (own_nw q1 (own_nw q1 (own_nw q1 q1)))))])) _
    refine XS.lloadN X0.here hx rfl (hb hby d2_46) rfl ?_
    show Steps p.tables e below (s₁.setTop (mkF m 47 #[.val (.long q1), .second, .val (.long (own_nw q1 (own_nw q1 (own_nw q1 (own_nw q1 q1))))), .second] [(.long q1), (.long (2 : Int64)), (.long (own_nw q1 (own_nw q1 (own_nw q1 (own_nw q1 q1)))))])) _
    refine XS.lloadN X0.here hx rfl (hb hby d2_47) rfl ?_
    show Steps p.tables e below (s₁.setTop (mkF m 48 #[.val (.long q1), .second, .val (.long (own_nw q1 (own_nw q1 (own_nw q1 (own_nw q1 q1))))), .second] [(.long (own_nw q1 (own_nw q1 (own_nw q1 (own_nw q1 q1))))), (.long q1), (.long (2 : Int64)), (.long (own_nw q1 (own_nw q1 (own_nw q1 (own_nw q1 q1)))))])) _
    refine XS.lmul X0.here hx rfl (hb hby d2_48) rfl ?_
    show Steps p.tables e below (s₁.setTop (mkF m 49 #[.val (.long q1), .second, .val (.long (own_nw q1 (own_nw q1 (own_nw q1 (own_nw q1 q1))))), .second] [(.long (q1 * (own_nw q1 (own_nw q1 (own_nw q1 (own_nw q1 q1)))))), (.long (2 : Int64)), (.long (own_nw q1 (own_nw q1 (own_nw q1 (own_nw q1 q1)))))])) _
    refine XS.lsub X0.here hx rfl (hb hby d2_49) rfl ?_
    show Steps p.tables e below (s₁.setTop (mkF m 50 #[.val (.long q1), .second, .val (.long (own_nw q1 (own_nw q1 (own_nw q1 (own_nw q1 q1))))), .second] [(.long ((2 : Int64) - (q1 * (own_nw q1 (own_nw q1 (own_nw q1 (own_nw q1 q1))))))), (.long (own_nw q1 (own_nw q1 (own_nw q1 (own_nw q1 q1)))))])) _
    refine XS.lmul X0.here hx rfl (hb hby d2_50) rfl ?_
    show Steps p.tables e below (s₁.setTop (mkF m 51 #[.val (.long q1), .second, .val (.long (own_nw q1 (own_nw q1 (own_nw q1 (own_nw q1 q1))))), .second] [(.long (own_nw q1 (own_nw q1 (own_nw q1 (own_nw q1 (own_nw q1 q1))))))])) _
    refine XS.lstoreN X0.here hx rfl (hb hby d2_51) rfl (l' := #[.val (.long q1), .second, .val (.long (own_nw q1 (own_nw q1 (own_nw q1 (own_nw q1 (own_nw q1 q1)))))), .second]) rfl ?_
    show Steps p.tables e below (s₁.setTop (mkF m 52 #[.val (.long q1), .second, .val (.long (own_nw q1 (own_nw q1 (own_nw q1 (own_nw q1 (own_nw q1 q1)))))), .second] [])) _
    refine XS.lloadN X0.here hx rfl (hb hby d2_52) rfl ?_
    show Steps p.tables e below (s₁.setTop (mkF m 53 #[.val (.long q1), .second, .val (.long (own_nw q1 (own_nw q1 (own_nw q1 (own_nw q1 (own_nw q1 q1)))))), .second] [(.long (own_nw q1 (own_nw q1 (own_nw q1 (own_nw q1 (own_nw q1 q1))))))])) _
    exact k)
  obtain ⟨fs, hr, hrun, hended, hW, hsame⟩ := X0.leave (v := some (.long (own_nw q1 (own_nw q1 (own_nw q1 (own_nw q1 (own_nw q1 q1))))))) (fun h => by rw [Bd.returns] at h; cases h)
  refine ⟨_, _, pre1 _ ?_, hrun, hended, _, _, rfl, ?_, ⟨_, rfl⟩, hW, hsame.mono (by decide) (by decide)⟩
  · show Steps p.tables e below (s₁.setTop (mkF m 53 #[.val (.long q1), .second, .val (.long (own_nw q1 (own_nw q1 (own_nw q1 (own_nw q1 (own_nw q1 q1)))))), .second] [(.long (own_nw q1 (own_nw q1 (own_nw q1 (own_nw q1 (own_nw q1 q1))))))])) _
    exact X0.lreturnOut hx Bd.returns (hb hby d2_53) hr
  · show Q2 Z q1 h0 n0 _ s₁.heap _
    rw [e0]
    exact ⟨rfl, N0, rfl⟩
theorem d3_0 : decode method_3_code 0 = .ok (.lload_n 0, 1) := by decide +kernel
theorem d3_1 : decode method_3_code 1 = .ok (.lload_n 0, 1) := by decide +kernel
theorem d3_2 : decode method_3_code 2 = .ok (.iload_n 2, 1) := by decide +kernel
theorem d3_3 : decode method_3_code 3 = .ok (.lushr, 1) := by decide +kernel
theorem d3_4 : decode method_3_code 4 = .ok (.lxor, 1) := by decide +kernel
theorem d3_5 : decode method_3_code 5 = .ok (.lstore_n 3, 1) := by decide +kernel
theorem d3_6 : decode method_3_code 6 = .ok (.lload_n 0, 1) := by decide +kernel
theorem d3_7 : decode method_3_code 7 = .ok (.lload_n 3, 1) := by decide +kernel
theorem d3_8 : decode method_3_code 8 = .ok (.iload_n 2, 1) := by decide +kernel
theorem d3_9 : decode method_3_code 9 = .ok (.lushr, 1) := by decide +kernel
theorem d3_10 : decode method_3_code 10 = .ok (.lxor, 1) := by decide +kernel
theorem d3_11 : decode method_3_code 11 = .ok (.lstore_n 3, 1) := by decide +kernel
theorem d3_12 : decode method_3_code 12 = .ok (.lload_n 0, 1) := by decide +kernel
theorem d3_13 : decode method_3_code 13 = .ok (.lload_n 3, 1) := by decide +kernel
theorem d3_14 : decode method_3_code 14 = .ok (.iload_n 2, 1) := by decide +kernel
theorem d3_15 : decode method_3_code 15 = .ok (.lushr, 1) := by decide +kernel
theorem d3_16 : decode method_3_code 16 = .ok (.lxor, 1) := by decide +kernel
theorem d3_17 : decode method_3_code 17 = .ok (.lstore_n 3, 1) := by decide +kernel
theorem d3_18 : decode method_3_code 18 = .ok (.lload_n 3, 1) := by decide +kernel
theorem d3_19 : decode method_3_code 19 = .ok (.lreturn, 1) := by decide +kernel
theorem ef_3 (m : MethodId) (q1 : Int64) (p1 : Int32) : entryFrame m #[(.long q1), (.int p1)] 5 = mkF m 0 #[.val (.long q1), .second, .val (.int p1), .unset, .unset] [] := by first | (simp [entryFrame, mkF, argsToLocals, Value.category]; done) | rfl
def Q3 (Z : State) (q1 : Int64) (p1 : Int32) (h0 : Heap) (n0 : Nat) (v : Option Value) (h : Heap) (L : List Loc) : Prop := v = some (.long (own_un q1 (own_un q1 (own_un q1 q1 p1) p1) p1)) ∧ Fr n0 L ∧ h = h0
set_option maxRecDepth 65536 in
set_option maxHeartbeats 40000000 in
theorem rm3 (l : Launch) (Z : State) (a0 : Array Value) (hw : ∀ d ∈ tables_1, d.before a0 Z = true) (ws : List Jvm.Cond) (q1 : Int64) (p1 : Int32) (h0 : Heap) (n0 : Nat) (Z0 : n0 ≤ h0.size) :
    MetFree l (⟨"com/example/imbang/imbang/SplitMix64OutputPinLaw", "unshift", "(JI)J"⟩ : MethodName) (head1 (Jvm.Cond.code (⟨"com/example/imbang/imbang/SplitMix64OutputPinLaw", "unshift", "(JI)J"⟩ : MethodName) method_3_code 5 (some .long) :: ws) ({ frames := 0, cells := 0, slots := 0, locals := 0 } : Room)) (fun a U => a = #[(.long q1), (.int p1)] ∧ Z.Warmed39 U.vm ∧ U.heap = h0) (fun _ _ _ _ _ => True) (fun _ U o U' => ∃ v L, o = .returned v ∧ Q3 Z q1 p1 h0 n0 v U'.heap L ∧ FrameEnd U o U' L ({ frames := 0, cells := 0, slots := 0, locals := 0 } : Room).cells ({ frames := 0, cells := 0, slots := 0, locals := 0 } : Room).slots) := by
  refine MetFree.of_bodySF (plainFor_of_name pn_SplitMix64OutputPinLaw) hisR ?_
  intro p e s m args below meth c s₁ Bd hml0 hP hK
  obtain ⟨rfl, hZ, hh⟩ := hP
  have hx := Bd.exec
  have hby := Bd.bytes
  have hml : c.maxLocals = 5 := hml0
  have hown : s.vm.findClass "com/example/imbang/imbang/SplitMix64OutputPinLaw" = some m.cls := findClass_of_methodNamed Bd.named
  have hnm := (name_of_methodNamed Bd.named Bd.method).1
  have X0 : Stand p l e ({ frames := 0, cells := 0, slots := 0, locals := 0 } : Room) s m #[(.long q1), (.int p1)] below meth c s₁ [] 0 0 := Stand.of_body Bd
  have e0 : s₁.heap = h0 := by rw [← hh, Bd.state]; rfl
  have N0 := Fr.nil n0
  have pre0 : ∀ t, Steps p.tables e below (s₁.setTop (mkF m 0 #[.val (.long q1), .second, .val (.int p1), .unset, .unset] [])) t → Steps p.tables e below (s₁.setTop (entryFrame m #[(.long q1), (.int p1)] 5)) t := fun t k => castTop (ef_3 m q1 p1) k
  have pre1 : ∀ t, Steps p.tables e below (s₁.setTop (mkF m 19 #[.val (.long q1), .second, .val (.int p1), .val (.long (own_un q1 (own_un q1 (own_un q1 q1 p1) p1) p1)), .second] [(.long (own_un q1 (own_un q1 (own_un q1 q1 p1) p1) p1))])) t → Steps p.tables e below (s₁.setTop (entryFrame m #[(.long q1), (.int p1)] 5)) t := fun t k => pre0 t (by
    show Steps p.tables e below (s₁.setTop (mkF m 0 #[.val (.long q1), .second, .val (.int p1), .unset, .unset] [])) _
    refine XS.lloadN X0.here hx rfl (hb hby d3_0) rfl ?_
    show Steps p.tables e below (s₁.setTop (mkF m 1 #[.val (.long q1), .second, .val (.int p1), .unset, .unset] [(.long q1)])) _
    refine XS.lloadN X0.here hx rfl (hb hby d3_1) rfl ?_
    show Steps p.tables e below (s₁.setTop (mkF m 2 #[.val (.long q1), .second, .val (.int p1), .unset, .unset] [(.long q1), (.long q1)])) _
    refine XS.iloadN X0.here hx rfl (hb hby d3_2) rfl ?_
    show Steps p.tables e below (s₁.setTop (mkF m 3 #[.val (.long q1), .second, .val (.int p1), .unset, .unset] [(.int p1), (.long q1), (.long q1)])) _
    refine XS.lushr X0.here hx rfl (hb hby d3_3) rfl ?_
    show Steps p.tables e below (s₁.setTop (mkF m 4 #[.val (.long q1), .second, .val (.int p1), .unset, .unset] [(.long (own_ush q1 p1)), (.long q1)])) _
    refine XS.lxor X0.here hx rfl (hb hby d3_4) rfl ?_
    show Steps p.tables e below (s₁.setTop (mkF m 5 #[.val (.long q1), .second, .val (.int p1), .unset, .unset] [(.long (own_un q1 q1 p1))])) _
    refine XS.lstoreN X0.here hx rfl (hb hby d3_5) rfl (l' := #[.val (.long q1), .second, .val (.int p1), .val (.long (own_un q1 q1 p1)), .second]) rfl ?_
    show Steps p.tables e below (s₁.setTop (mkF m 6 #[.val (.long q1), .second, .val (.int p1), .val (.long (own_un q1 q1 p1)), .second] [])) _
    refine XS.lloadN X0.here hx rfl (hb hby d3_6) rfl ?_
    show Steps p.tables e below (s₁.setTop (mkF m 7 #[.val (.long q1), .second, .val (.int p1), .val (.long (own_un q1 q1 p1)), .second] [(.long q1)])) _
    refine XS.lloadN X0.here hx rfl (hb hby d3_7) rfl ?_
    show Steps p.tables e below (s₁.setTop (mkF m 8 #[.val (.long q1), .second, .val (.int p1), .val (.long (own_un q1 q1 p1)), .second] [(.long (own_un q1 q1 p1)), (.long q1)])) _
    refine XS.iloadN X0.here hx rfl (hb hby d3_8) rfl ?_
    show Steps p.tables e below (s₁.setTop (mkF m 9 #[.val (.long q1), .second, .val (.int p1), .val (.long (own_un q1 q1 p1)), .second] [(.int p1), (.long (own_un q1 q1 p1)), (.long q1)])) _
    refine XS.lushr X0.here hx rfl (hb hby d3_9) rfl ?_
    show Steps p.tables e below (s₁.setTop (mkF m 10 #[.val (.long q1), .second, .val (.int p1), .val (.long (own_un q1 q1 p1)), .second] [(.long (own_ush (own_un q1 q1 p1) p1)), (.long q1)])) _
    refine XS.lxor X0.here hx rfl (hb hby d3_10) rfl ?_
    show Steps p.tables e below (s₁.setTop (mkF m 11 #[.val (.long q1), .second, .val (.int p1), .val (.long (own_un q1 q1 p1)), .second] [(.long (own_un q1 (own_un q1 q1 p1) p1))])) _
    refine XS.lstoreN X0.here hx rfl (hb hby d3_11) rfl (l' := #[.val (.long q1), .second, .val (.int p1), .val (.long (own_un q1 (own_un q1 q1 p1) p1)), .second]) rfl ?_
    show Steps p.tables e below (s₁.setTop (mkF m 12 #[.val (.long q1), .second, .val (.int p1), .val (.long (own_un q1 (own_un q1 q1 p1) p1)), .second] [])) _
    refine XS.lloadN X0.here hx rfl (hb hby d3_12) rfl ?_
    show Steps p.tables e below (s₁.setTop (mkF m 13 #[.val (.long q1), .second, .val (.int p1), .val (.long (own_un q1 (own_un q1 q1 p1) p1)), .second] [(.long q1)])) _
    refine XS.lloadN X0.here hx rfl (hb hby d3_13) rfl ?_
    show Steps p.tables e below (s₁.setTop (mkF m 14 #[.val (.long q1), .second, .val (.int p1), .val (.long (own_un q1 (own_un q1 q1 p1) p1)), .second] [(.long (own_un q1 (own_un q1 q1 p1) p1)), (.long q1)])) _
    refine XS.iloadN X0.here hx rfl (hb hby d3_14) rfl ?_
    show Steps p.tables e below (s₁.setTop (mkF m 15 #[.val (.long q1), .second, .val (.int p1), .val (.long (own_un q1 (own_un q1 q1 p1) p1)), .second] [(.int p1), (.long (own_un q1 (own_un q1 q1 p1) p1)), (.long q1)])) _
    refine XS.lushr X0.here hx rfl (hb hby d3_15) rfl ?_
    show Steps p.tables e below (s₁.setTop (mkF m 16 #[.val (.long q1), .second, .val (.int p1), .val (.long (own_un q1 (own_un q1 q1 p1) p1)), .second] [(.long (own_ush (own_un q1 (own_un q1 q1 p1) p1) p1)), (.long q1)])) _
    refine XS.lxor X0.here hx rfl (hb hby d3_16) rfl ?_
    show Steps p.tables e below (s₁.setTop (mkF m 17 #[.val (.long q1), .second, .val (.int p1), .val (.long (own_un q1 (own_un q1 q1 p1) p1)), .second] [(.long (own_un q1 (own_un q1 (own_un q1 q1 p1) p1) p1))])) _
    refine XS.lstoreN X0.here hx rfl (hb hby d3_17) rfl (l' := #[.val (.long q1), .second, .val (.int p1), .val (.long (own_un q1 (own_un q1 (own_un q1 q1 p1) p1) p1)), .second]) rfl ?_
    show Steps p.tables e below (s₁.setTop (mkF m 18 #[.val (.long q1), .second, .val (.int p1), .val (.long (own_un q1 (own_un q1 (own_un q1 q1 p1) p1) p1)), .second] [])) _
    refine XS.lloadN X0.here hx rfl (hb hby d3_18) rfl ?_
    show Steps p.tables e below (s₁.setTop (mkF m 19 #[.val (.long q1), .second, .val (.int p1), .val (.long (own_un q1 (own_un q1 (own_un q1 q1 p1) p1) p1)), .second] [(.long (own_un q1 (own_un q1 (own_un q1 q1 p1) p1) p1))])) _
    exact k)
  obtain ⟨fs, hr, hrun, hended, hW, hsame⟩ := X0.leave (v := some (.long (own_un q1 (own_un q1 (own_un q1 q1 p1) p1) p1))) (fun h => by rw [Bd.returns] at h; cases h)
  refine ⟨_, _, pre1 _ ?_, hrun, hended, _, _, rfl, ?_, ⟨_, rfl⟩, hW, hsame.mono (by decide) (by decide)⟩
  · show Steps p.tables e below (s₁.setTop (mkF m 19 #[.val (.long q1), .second, .val (.int p1), .val (.long (own_un q1 (own_un q1 (own_un q1 q1 p1) p1) p1)), .second] [(.long (own_un q1 (own_un q1 (own_un q1 q1 p1) p1) p1))])) _
    exact X0.lreturnOut hx Bd.returns (hb hby d3_19) hr
  · show Q3 Z q1 p1 h0 n0 _ s₁.heap _
    rw [e0]
    exact ⟨rfl, N0, rfl⟩
theorem pd_0 : parseMethodDescriptor "(JJ)J" = some ⟨[.long, .long], some .long⟩ := by decide +kernel
theorem pd_1 : parseMethodDescriptor "(J)J" = some ⟨[.long], some .long⟩ := by decide +kernel
theorem pd_2 : parseMethodDescriptor "(JI)J" = some ⟨[.long, .int], some .long⟩ := by decide +kernel
theorem ef_0 (m : MethodId) (q1 : Int64) (q2 : Int64) : entryFrame m #[(.long q1), (.long q2)] maxLocals = mkF m 0 #[.val (.long q1), .second, .val (.long q2), .second, .unset, .unset, .unset, .unset, .unset, .unset, .unset, .unset, .unset, .unset, .unset, .unset, .unset, .unset] [] := by first | (simp [entryFrame, mkF, argsToLocals, Value.category, maxLocals]; done) | rfl
def lc0_0 (q1 : Int64) (q2 : Int64) : Array Slot := #[.val (.long q1), .second, .val (.long q2), .second, .unset, .unset, .unset, .unset, .unset, .unset, .unset, .unset, .unset, .unset, .unset, .unset, .unset, .unset]
def lc0_1 (q1 : Int64) (q2 : Int64) : Array Slot := #[.val (.long q1), .second, .val (.long q2), .second, .val (.long (own_out q1 q2)), .second, .unset, .unset, .unset, .unset, .unset, .unset, .unset, .unset, .unset, .unset, .unset, .unset]
def lc0_2 (q1 : Int64) (q2 : Int64) : Array Slot := #[.val (.long q1), .second, .val (.long q2), .second, .val (.long (own_out q1 q2)), .second, .val (.long (q1 + (q2 * (-7046029254386353131 : Int64)))), .second, .unset, .unset, .unset, .unset, .unset, .unset, .unset, .unset, .unset, .unset]
def lc0_3 (q1 : Int64) (q2 : Int64) : Array Slot := #[.val (.long q1), .second, .val (.long q2), .second, .val (.long (own_out q1 q2)), .second, .val (.long (q1 + (q2 * (-7046029254386353131 : Int64)))), .second, .val (.long (-4658895280553007687 : Int64)), .second, .unset, .unset, .unset, .unset, .unset, .unset, .unset, .unset]
def lc0_4 (q1 : Int64) (q2 : Int64) : Array Slot := #[.val (.long q1), .second, .val (.long q2), .second, .val (.long (own_out q1 q2)), .second, .val (.long (q1 + (q2 * (-7046029254386353131 : Int64)))), .second, .val (.long (-4658895280553007687 : Int64)), .second, .val (.long (-7723592293110705685 : Int64)), .second, .unset, .unset, .unset, .unset, .unset, .unset]
def lc0_5 (q1 : Int64) (q2 : Int64) : Array Slot := #[.val (.long q1), .second, .val (.long q2), .second, .val (.long (own_out q1 q2)), .second, .val (.long (q1 + (q2 * (-7046029254386353131 : Int64)))), .second, .val (.long (-4658895280553007687 : Int64)), .second, .val (.long (-7723592293110705685 : Int64)), .second, .val (.long (own_inv (-4658895280553007687 : Int64))), .second, .unset, .unset, .unset, .unset]
def lc0_6 (q1 : Int64) (q2 : Int64) : Array Slot := #[.val (.long q1), .second, .val (.long q2), .second, .val (.long (own_out q1 q2)), .second, .val (.long (q1 + (q2 * (-7046029254386353131 : Int64)))), .second, .val (.long (-4658895280553007687 : Int64)), .second, .val (.long (-7723592293110705685 : Int64)), .second, .val (.long (own_inv (-4658895280553007687 : Int64))), .second, .val (.long (own_inv (-7723592293110705685 : Int64))), .second, .unset, .unset]
def lc0_7 (q1 : Int64) (q2 : Int64) : Array Slot := #[.val (.long q1), .second, .val (.long q2), .second, .val (.long (own_out q1 q2)), .second, .val (.long (q1 + (q2 * (-7046029254386353131 : Int64)))), .second, .val (.long (-4658895280553007687 : Int64)), .second, .val (.long (-7723592293110705685 : Int64)), .second, .val (.long (own_inv (-4658895280553007687 : Int64))), .second, .val (.long (own_inv (-7723592293110705685 : Int64))), .second, .val (.long (own_un3 (own_out q1 q2) (31 : Int32))), .second]
def lc0_8 (q1 : Int64) (q2 : Int64) : Array Slot := #[.val (.long q1), .second, .val (.long q2), .second, .val (.long (own_out q1 q2)), .second, .val (.long (q1 + (q2 * (-7046029254386353131 : Int64)))), .second, .val (.long (-4658895280553007687 : Int64)), .second, .val (.long (-7723592293110705685 : Int64)), .second, .val (.long (own_inv (-4658895280553007687 : Int64))), .second, .val (.long (own_inv (-7723592293110705685 : Int64))), .second, .val (.long ((own_un3 (own_out q1 q2) (31 : Int32)) * (own_inv (-7723592293110705685 : Int64)))), .second]
def lc0_9 (q1 : Int64) (q2 : Int64) : Array Slot := #[.val (.long q1), .second, .val (.long q2), .second, .val (.long (own_out q1 q2)), .second, .val (.long (q1 + (q2 * (-7046029254386353131 : Int64)))), .second, .val (.long (-4658895280553007687 : Int64)), .second, .val (.long (-7723592293110705685 : Int64)), .second, .val (.long (own_inv (-4658895280553007687 : Int64))), .second, .val (.long (own_inv (-7723592293110705685 : Int64))), .second, .val (.long (own_un3 ((own_un3 (own_out q1 q2) (31 : Int32)) * (own_inv (-7723592293110705685 : Int64))) (27 : Int32))), .second]
def lc0_10 (q1 : Int64) (q2 : Int64) : Array Slot := #[.val (.long q1), .second, .val (.long q2), .second, .val (.long (own_out q1 q2)), .second, .val (.long (q1 + (q2 * (-7046029254386353131 : Int64)))), .second, .val (.long (-4658895280553007687 : Int64)), .second, .val (.long (-7723592293110705685 : Int64)), .second, .val (.long (own_inv (-4658895280553007687 : Int64))), .second, .val (.long (own_inv (-7723592293110705685 : Int64))), .second, .val (.long ((own_un3 ((own_un3 (own_out q1 q2) (31 : Int32)) * (own_inv (-7723592293110705685 : Int64))) (27 : Int32)) * (own_inv (-4658895280553007687 : Int64)))), .second]
def lc0_11 (q1 : Int64) (q2 : Int64) : Array Slot := #[.val (.long q1), .second, .val (.long q2), .second, .val (.long (own_out q1 q2)), .second, .val (.long (q1 + (q2 * (-7046029254386353131 : Int64)))), .second, .val (.long (-4658895280553007687 : Int64)), .second, .val (.long (-7723592293110705685 : Int64)), .second, .val (.long (own_inv (-4658895280553007687 : Int64))), .second, .val (.long (own_inv (-7723592293110705685 : Int64))), .second, .val (.long (own_un3 ((own_un3 ((own_un3 (own_out q1 q2) (31 : Int32)) * (own_inv (-7723592293110705685 : Int64))) (27 : Int32)) * (own_inv (-4658895280553007687 : Int64))) (30 : Int32))), .second]
def Q0 (Z : State) (q1 : Int64) (q2 : Int64) (h0 : Heap) (n0 : Nat) (v : Option Value) (h : Heap) (L : List Loc) : Prop := v = some (.int (1 : Int32)) ∧ Fr n0 L
set_option maxRecDepth 65536 in
set_option maxHeartbeats 40000000 in
theorem rm0 (l : Launch) (Z : State) (a0 : Array Value) (hw : ∀ d ∈ tables_1, d.before a0 Z = true) (ws : List Jvm.Cond) (q1 : Int64) (q2 : Int64) (h0 : Heap) (n0 : Nat) (Z0 : n0 ≤ h0.size) :
    MetFree l x (head1 (Jvm.Cond.code x code maxLocals ret :: ws) room_1) (fun a U => a = #[(.long q1), (.long q2)] ∧ Z.Warmed39 U.vm ∧ U.heap = h0) (fun _ _ _ _ _ => True) (fun _ U o U' => ∃ v L, o = .returned v ∧ Q0 Z q1 q2 h0 n0 v U'.heap L ∧ FrameEnd U o U' L room_1.cells room_1.slots) := by
  refine MetFree.of_bodySF (plainFor_of_name pn_SplitMix64OutputPinLaw) hisR ?_
  intro p e s m args below meth c s₁ Bd hml0 hP hK
  obtain ⟨rfl, hZ, hh⟩ := hP
  have hx := Bd.exec
  have hby := Bd.bytes
  have hml : c.maxLocals = 18 := hml0
  have hown : s.vm.findClass "com/example/imbang/imbang/SplitMix64OutputPinLaw" = some m.cls := findClass_of_methodNamed Bd.named
  have hnm := (name_of_methodNamed Bd.named Bd.method).1
  have X0 : Stand p l e room_1 s m #[(.long q1), (.long q2)] below meth c s₁ [] 0 0 := Stand.of_body Bd
  have e0 : s₁.heap = h0 := by rw [← hh, Bd.state]; rfl
  have N0 := Fr.nil n0
  have pre0 : ∀ t, Steps p.tables e below (s₁.setTop (mkF m 0 #[.val (.long q1), .second, .val (.long q2), .second, .unset, .unset, .unset, .unset, .unset, .unset, .unset, .unset, .unset, .unset, .unset, .unset, .unset, .unset] [])) t → Steps p.tables e below (s₁.setTop (entryFrame m #[(.long q1), (.long q2)] maxLocals)) t := fun t k => castTop (ef_0 m q1 q2) k
  have pre1 : ∀ t, Steps p.tables e below (s₁.setTop (mkF m 2 (lc0_0 q1 q2) [(.long q2), (.long q1)])) t → Steps p.tables e below (s₁.setTop (entryFrame m #[(.long q1), (.long q2)] maxLocals)) t := fun t k => pre0 t (by
    show Steps p.tables e below (s₁.setTop (mkF m 0 (lc0_0 q1 q2) [])) _
    refine XS.lloadN X0.here hx rfl (hb hby at_0) rfl ?_
    show Steps p.tables e below (s₁.setTop (mkF m 1 (lc0_0 q1 q2) [(.long q1)])) _
    refine XS.lloadN X0.here hx rfl (hb hby at_1) rfl ?_
    show Steps p.tables e below (s₁.setTop (mkF m 2 (lc0_0 q1 q2) [(.long q2), (.long q1)])) _
    exact k)
  obtain ⟨_, _, ⟨T2, L2, k2, n2⟩, -, X2, ⟨Lc2, hQ2, l2, y2, z2⟩, st2⟩ := Jvm.LawKit.callS X0 hx (y := (⟨"com/example/imbang/imbang/SplitMix64", "output", "(JJ)J"⟩ : MethodName)) hown (mvT hZ (hw _ (List.mem_of_getElem? (i := 0) rfl))) (mvT hZ (hw _ (List.mem_of_getElem? (i := 1) rfl))) (mvT hZ (hw _ (List.mem_of_getElem? (i := 2) rfl))) (mvT hZ (hw _ (List.mem_of_getElem? (i := 3) rfl))) (by decide) (backOf (W := 0) (rm1 l Z a0 hw [] q1 q2 h0 n0 Z0) hZ (hw _ (List.mem_of_getElem? (i := 3) rfl)) (hw _ (List.mem_of_getElem? (i := 2) rfl)) (by decide) (by decide)) (g := (mkF m 2 (lc0_0 q1 q2) [(.long q2), (.long q1)])) rfl (by rw [hml]; rfl) (argsL := [(.long q1), (.long q2)]) (rest := []) (lenOf pd_0 rfl) rfl (by show 2 * 0 + _ ≤ _; exact Nat.le_of_eq rfl) (hb hby at_2) (fun _ _ => ⟨rfl, e0, (by decide : 0 + 0 ≤ _), (by decide : 0 + 0 ≤ _)⟩)
  dsimp only [Pt.U, Pt.locs, Pt.cells, Pt.slots] at X2 l2 y2 z2 st2 hQ2
  subst l2 y2 z2
  obtain ⟨rfl, N2q, e2⟩ := hQ2
  have N2 := Fr.app N0 N2q
  have pre3 : ∀ t, Steps p.tables e below (T2.setTop (mkF m 5 (lc0_0 q1 q2) [(.long (own_out q1 q2))])) t → Steps p.tables e below (s₁.setTop (entryFrame m #[(.long q1), (.long q2)] maxLocals)) t := fun t k => pre1 t (st2 t k)
  have pre4 : ∀ t, Steps p.tables e below (T2.setTop (mkF m 28 (lc0_4 q1 q2) [(.long (-4658895280553007687 : Int64))])) t → Steps p.tables e below (s₁.setTop (entryFrame m #[(.long q1), (.long q2)] maxLocals)) t := fun t k => pre3 t (by
    show Steps p.tables e below (T2.setTop (mkF m 5 (lc0_0 q1 q2) [(.long (own_out q1 q2))])) _
    refine XS.lstore X2.here hx rfl (hb hby at_5) rfl (l' := (lc0_1 q1 q2)) rfl ?_
    show Steps p.tables e below (T2.setTop (mkF m 7 (lc0_1 q1 q2) [])) _
    refine XS.lloadN X2.here hx rfl (hb hby at_7) rfl ?_
    show Steps p.tables e below (T2.setTop (mkF m 8 (lc0_1 q1 q2) [(.long q1)])) _
    refine XS.lloadN X2.here hx rfl (hb hby at_8) rfl ?_
    show Steps p.tables e below (T2.setTop (mkF m 9 (lc0_1 q1 q2) [(.long q2), (.long q1)])) _
    refine X2.ldc2Long hx hown (mvT hZ (hw _ (List.mem_of_getElem? (i := 7) rfl))) (g := (mkF m 9 (lc0_1 q1 q2) [(.long q2), (.long q1)])) rfl (hb hby at_9) _ ?_
    show Steps p.tables e below (T2.setTop (mkF m 12 (lc0_1 q1 q2) [(.long (-7046029254386353131 : Int64)), (.long q2), (.long q1)])) _
    refine XS.lmul X2.here hx rfl (hb hby at_12) rfl ?_
    show Steps p.tables e below (T2.setTop (mkF m 13 (lc0_1 q1 q2) [(.long (q2 * (-7046029254386353131 : Int64))), (.long q1)])) _
    refine XS.ladd X2.here hx rfl (hb hby at_13) rfl ?_
    show Steps p.tables e below (T2.setTop (mkF m 14 (lc0_1 q1 q2) [(.long (q1 + (q2 * (-7046029254386353131 : Int64))))])) _
    refine XS.lstore X2.here hx rfl (hb hby at_14) rfl (l' := (lc0_2 q1 q2)) rfl ?_
    show Steps p.tables e below (T2.setTop (mkF m 16 (lc0_2 q1 q2) [])) _
    refine X2.ldc2Long hx hown (mvT hZ (hw _ (List.mem_of_getElem? (i := 8) rfl))) (g := (mkF m 16 (lc0_2 q1 q2) [])) rfl (hb hby at_16) _ ?_
    show Steps p.tables e below (T2.setTop (mkF m 19 (lc0_2 q1 q2) [(.long (-4658895280553007687 : Int64))])) _
    refine XS.lstore X2.here hx rfl (hb hby at_19) rfl (l' := (lc0_3 q1 q2)) rfl ?_
    show Steps p.tables e below (T2.setTop (mkF m 21 (lc0_3 q1 q2) [])) _
    refine X2.ldc2Long hx hown (mvT hZ (hw _ (List.mem_of_getElem? (i := 9) rfl))) (g := (mkF m 21 (lc0_3 q1 q2) [])) rfl (hb hby at_21) _ ?_
    show Steps p.tables e below (T2.setTop (mkF m 24 (lc0_3 q1 q2) [(.long (-7723592293110705685 : Int64))])) _
    refine XS.lstore X2.here hx rfl (hb hby at_24) rfl (l' := (lc0_4 q1 q2)) rfl ?_
    show Steps p.tables e below (T2.setTop (mkF m 26 (lc0_4 q1 q2) [])) _
    refine XS.lload X2.here hx rfl (hb hby at_26) rfl ?_
    show Steps p.tables e below (T2.setTop (mkF m 28 (lc0_4 q1 q2) [(.long (-4658895280553007687 : Int64))])) _
    exact k)
  obtain ⟨_, _, ⟨T5, L5, k5, n5⟩, -, X5, ⟨Lc5, hQ5, l5, y5, z5⟩, st5⟩ := Jvm.LawKit.callS X2 hx (y := (⟨"com/example/imbang/imbang/SplitMix64OutputPinLaw", "inverse", "(J)J"⟩ : MethodName)) hown (mvT hZ (hw _ (List.mem_of_getElem? (i := 10) rfl))) (mvT hZ (hw _ (List.mem_of_getElem? (i := 11) rfl))) (mvT hZ (hw _ (List.mem_of_getElem? (i := 12) rfl))) (mvT hZ (hw _ (List.mem_of_getElem? (i := 13) rfl))) (by decide) (backOf (W := 0) (rm2 l Z a0 hw [] (-4658895280553007687 : Int64) h0 n0 Z0) hZ (hw _ (List.mem_of_getElem? (i := 13) rfl)) (hw _ (List.mem_of_getElem? (i := 12) rfl)) (by decide) (by decide)) (g := (mkF m 28 (lc0_4 q1 q2) [(.long (-4658895280553007687 : Int64))])) rfl (by rw [hml]; rfl) (argsL := [(.long (-4658895280553007687 : Int64))]) (rest := []) (lenOf pd_1 rfl) rfl (by show 2 * 0 + _ ≤ _; exact Nat.le_of_eq rfl) (hb hby at_28) (fun _ _ => ⟨rfl, e2, (by decide : 0 + 0 ≤ _), (by decide : 0 + 0 ≤ _)⟩)
  dsimp only [Pt.U, Pt.locs, Pt.cells, Pt.slots] at X5 l5 y5 z5 st5 hQ5
  subst l5 y5 z5
  obtain ⟨rfl, N5q, e5⟩ := hQ5
  have N5 := Fr.app N2 N5q
  have pre6 : ∀ t, Steps p.tables e below (T5.setTop (mkF m 31 (lc0_4 q1 q2) [(.long (own_inv (-4658895280553007687 : Int64)))])) t → Steps p.tables e below (s₁.setTop (entryFrame m #[(.long q1), (.long q2)] maxLocals)) t := fun t k => pre4 t (st5 t k)
  have pre7 : ∀ t, Steps p.tables e below (T5.setTop (mkF m 35 (lc0_5 q1 q2) [(.long (-7723592293110705685 : Int64))])) t → Steps p.tables e below (s₁.setTop (entryFrame m #[(.long q1), (.long q2)] maxLocals)) t := fun t k => pre6 t (by
    show Steps p.tables e below (T5.setTop (mkF m 31 (lc0_4 q1 q2) [(.long (own_inv (-4658895280553007687 : Int64)))])) _
    refine XS.lstore X5.here hx rfl (hb hby at_31) rfl (l' := (lc0_5 q1 q2)) rfl ?_
    show Steps p.tables e below (T5.setTop (mkF m 33 (lc0_5 q1 q2) [])) _
    refine XS.lload X5.here hx rfl (hb hby at_33) rfl ?_
    show Steps p.tables e below (T5.setTop (mkF m 35 (lc0_5 q1 q2) [(.long (-7723592293110705685 : Int64))])) _
    exact k)
  obtain ⟨_, _, ⟨T8, L8, k8, n8⟩, -, X8, ⟨Lc8, hQ8, l8, y8, z8⟩, st8⟩ := Jvm.LawKit.callS X5 hx (y := (⟨"com/example/imbang/imbang/SplitMix64OutputPinLaw", "inverse", "(J)J"⟩ : MethodName)) hown (mvT hZ (hw _ (List.mem_of_getElem? (i := 10) rfl))) (mvT hZ (hw _ (List.mem_of_getElem? (i := 11) rfl))) (mvT hZ (hw _ (List.mem_of_getElem? (i := 12) rfl))) (mvT hZ (hw _ (List.mem_of_getElem? (i := 13) rfl))) (by decide) (backOf (W := 0) (rm2 l Z a0 hw [] (-7723592293110705685 : Int64) h0 n0 Z0) hZ (hw _ (List.mem_of_getElem? (i := 13) rfl)) (hw _ (List.mem_of_getElem? (i := 12) rfl)) (by decide) (by decide)) (g := (mkF m 35 (lc0_5 q1 q2) [(.long (-7723592293110705685 : Int64))])) rfl (by rw [hml]; rfl) (argsL := [(.long (-7723592293110705685 : Int64))]) (rest := []) (lenOf pd_1 rfl) rfl (by show 2 * 0 + _ ≤ _; exact Nat.le_of_eq rfl) (hb hby at_35) (fun _ _ => ⟨rfl, e5, (by decide : 0 + 0 ≤ _), (by decide : 0 + 0 ≤ _)⟩)
  dsimp only [Pt.U, Pt.locs, Pt.cells, Pt.slots] at X8 l8 y8 z8 st8 hQ8
  subst l8 y8 z8
  obtain ⟨rfl, N8q, e8⟩ := hQ8
  have N8 := Fr.app N5 N8q
  have pre9 : ∀ t, Steps p.tables e below (T8.setTop (mkF m 38 (lc0_5 q1 q2) [(.long (own_inv (-7723592293110705685 : Int64)))])) t → Steps p.tables e below (s₁.setTop (entryFrame m #[(.long q1), (.long q2)] maxLocals)) t := fun t k => pre7 t (st8 t k)
  have pre10 : ∀ t, Steps p.tables e below (T8.setTop (mkF m 66 (lc0_6 q1 q2) [(.int (31 : Int32)), (.long (own_out q1 q2))])) t → Steps p.tables e below (s₁.setTop (entryFrame m #[(.long q1), (.long q2)] maxLocals)) t := fun t k => pre9 t (by
    show Steps p.tables e below (T8.setTop (mkF m 38 (lc0_5 q1 q2) [(.long (own_inv (-7723592293110705685 : Int64)))])) _
    refine XS.lstore X8.here hx rfl (hb hby at_38) rfl (l' := (lc0_6 q1 q2)) rfl ?_
    show Steps p.tables e below (T8.setTop (mkF m 40 (lc0_6 q1 q2) [])) _
    refine XS.lload X8.here hx rfl (hb hby at_40) rfl ?_
    show Steps p.tables e below (T8.setTop (mkF m 42 (lc0_6 q1 q2) [(.long (-4658895280553007687 : Int64))])) _
    refine XS.lload X8.here hx rfl (hb hby at_42) rfl ?_
    show Steps p.tables e below (T8.setTop (mkF m 44 (lc0_6 q1 q2) [(.long (own_inv (-4658895280553007687 : Int64))), (.long (-4658895280553007687 : Int64))])) _
    refine XS.lmul X8.here hx rfl (hb hby at_44) rfl ?_
    show Steps p.tables e below (T8.setTop (mkF m 45 (lc0_6 q1 q2) [(.long ((-4658895280553007687 : Int64) * (own_inv (-4658895280553007687 : Int64))))])) _
    refine XS.lconst X8.here hx rfl (hb hby at_45) ?_
    show Steps p.tables e below (T8.setTop (mkF m 46 (lc0_6 q1 q2) [(.long (1 : Int64)), (.long ((-4658895280553007687 : Int64) * (own_inv (-4658895280553007687 : Int64))))])) _
    refine XS.lcmp X8.here hx rfl (hb hby at_46) rfl ?_
    show Steps p.tables e below (T8.setTop (mkF m 47 (lc0_6 q1 q2) [(.int (lcmpW ((-4658895280553007687 : Int64) * (own_inv (-4658895280553007687 : Int64))) (1 : Int64)))])) _
    refine XS.ifNo X8.here hx rfl (hb hby at_47) rfl ((if0 _ _).trans (teq ((lw_eq _ _).mpr (show ((-4658895280553007687 : Int64) * (own_inv (-4658895280553007687 : Int64))) = (1 : Int64) from own_m1))).2) ?_
    show Steps p.tables e below (T8.setTop (mkF m 50 (lc0_6 q1 q2) [])) _
    refine XS.lload X8.here hx rfl (hb hby at_50) rfl ?_
    show Steps p.tables e below (T8.setTop (mkF m 52 (lc0_6 q1 q2) [(.long (-7723592293110705685 : Int64))])) _
    refine XS.lload X8.here hx rfl (hb hby at_52) rfl ?_
    show Steps p.tables e below (T8.setTop (mkF m 54 (lc0_6 q1 q2) [(.long (own_inv (-7723592293110705685 : Int64))), (.long (-7723592293110705685 : Int64))])) _
    refine XS.lmul X8.here hx rfl (hb hby at_54) rfl ?_
    show Steps p.tables e below (T8.setTop (mkF m 55 (lc0_6 q1 q2) [(.long ((-7723592293110705685 : Int64) * (own_inv (-7723592293110705685 : Int64))))])) _
    refine XS.lconst X8.here hx rfl (hb hby at_55) ?_
    show Steps p.tables e below (T8.setTop (mkF m 56 (lc0_6 q1 q2) [(.long (1 : Int64)), (.long ((-7723592293110705685 : Int64) * (own_inv (-7723592293110705685 : Int64))))])) _
    refine XS.lcmp X8.here hx rfl (hb hby at_56) rfl ?_
    show Steps p.tables e below (T8.setTop (mkF m 57 (lc0_6 q1 q2) [(.int (lcmpW ((-7723592293110705685 : Int64) * (own_inv (-7723592293110705685 : Int64))) (1 : Int64)))])) _
    refine XS.ifYes X8.here hx rfl (pc0 := 57) (pc' := 62) rfl (hb hby at_57) rfl ((if0 _ _).trans (teq ((lw_eq _ _).mpr (show ((-7723592293110705685 : Int64) * (own_inv (-7723592293110705685 : Int64))) = (1 : Int64) from own_m2))).1) (by decide) (by decide) ?_
    show Steps p.tables e below (T8.setTop (mkF m 62 (lc0_6 q1 q2) [])) _
    refine XS.lload X8.here hx rfl (hb hby at_62) rfl ?_
    show Steps p.tables e below (T8.setTop (mkF m 64 (lc0_6 q1 q2) [(.long (own_out q1 q2))])) _
    refine XS.bipush X8.here hx rfl (hb hby at_64) ?_
    show Steps p.tables e below (T8.setTop (mkF m 66 (lc0_6 q1 q2) [(.int (31 : Int32)), (.long (own_out q1 q2))])) _
    exact k)
  obtain ⟨_, _, ⟨T11, L11, k11, n11⟩, -, X11, ⟨Lc11, hQ11, l11, y11, z11⟩, st11⟩ := Jvm.LawKit.callS X8 hx (y := (⟨"com/example/imbang/imbang/SplitMix64OutputPinLaw", "unshift", "(JI)J"⟩ : MethodName)) hown (mvT hZ (hw _ (List.mem_of_getElem? (i := 15) rfl))) (mvT hZ (hw _ (List.mem_of_getElem? (i := 16) rfl))) (mvT hZ (hw _ (List.mem_of_getElem? (i := 12) rfl))) (mvT hZ (hw _ (List.mem_of_getElem? (i := 17) rfl))) (by decide) (backOf (W := 0) (rm3 l Z a0 hw [] (own_out q1 q2) (31 : Int32) h0 n0 Z0) hZ (hw _ (List.mem_of_getElem? (i := 17) rfl)) (hw _ (List.mem_of_getElem? (i := 12) rfl)) (by decide) (by decide)) (g := (mkF m 66 (lc0_6 q1 q2) [(.int (31 : Int32)), (.long (own_out q1 q2))])) rfl (by rw [hml]; rfl) (argsL := [(.long (own_out q1 q2)), (.int (31 : Int32))]) (rest := []) (lenOf pd_2 rfl) rfl (by show 2 * 0 + _ ≤ _; exact Nat.le_of_eq rfl) (hb hby at_66) (fun _ _ => ⟨rfl, e8, (by decide : 0 + 0 ≤ _), (by decide : 0 + 0 ≤ _)⟩)
  dsimp only [Pt.U, Pt.locs, Pt.cells, Pt.slots] at X11 l11 y11 z11 st11 hQ11
  subst l11 y11 z11
  obtain ⟨rfl, N11q, e11⟩ := hQ11
  have N11 := Fr.app N8 N11q
  have pre12 : ∀ t, Steps p.tables e below (T11.setTop (mkF m 69 (lc0_6 q1 q2) [(.long (own_un3 (own_out q1 q2) (31 : Int32)))])) t → Steps p.tables e below (s₁.setTop (entryFrame m #[(.long q1), (.long q2)] maxLocals)) t := fun t k => pre10 t (st11 t k)
  have pre13 : ∀ t, Steps p.tables e below (T11.setTop (mkF m 82 (lc0_8 q1 q2) [(.int (27 : Int32)), (.long ((own_un3 (own_out q1 q2) (31 : Int32)) * (own_inv (-7723592293110705685 : Int64))))])) t → Steps p.tables e below (s₁.setTop (entryFrame m #[(.long q1), (.long q2)] maxLocals)) t := fun t k => pre12 t (by
    show Steps p.tables e below (T11.setTop (mkF m 69 (lc0_6 q1 q2) [(.long (own_un3 (own_out q1 q2) (31 : Int32)))])) _
    refine XS.lstore X11.here hx rfl (hb hby at_69) rfl (l' := (lc0_7 q1 q2)) rfl ?_
    show Steps p.tables e below (T11.setTop (mkF m 71 (lc0_7 q1 q2) [])) _
    refine XS.lload X11.here hx rfl (hb hby at_71) rfl ?_
    show Steps p.tables e below (T11.setTop (mkF m 73 (lc0_7 q1 q2) [(.long (own_un3 (own_out q1 q2) (31 : Int32)))])) _
    refine XS.lload X11.here hx rfl (hb hby at_73) rfl ?_
    show Steps p.tables e below (T11.setTop (mkF m 75 (lc0_7 q1 q2) [(.long (own_inv (-7723592293110705685 : Int64))), (.long (own_un3 (own_out q1 q2) (31 : Int32)))])) _
    refine XS.lmul X11.here hx rfl (hb hby at_75) rfl ?_
    show Steps p.tables e below (T11.setTop (mkF m 76 (lc0_7 q1 q2) [(.long ((own_un3 (own_out q1 q2) (31 : Int32)) * (own_inv (-7723592293110705685 : Int64))))])) _
    refine XS.lstore X11.here hx rfl (hb hby at_76) rfl (l' := (lc0_8 q1 q2)) rfl ?_
    show Steps p.tables e below (T11.setTop (mkF m 78 (lc0_8 q1 q2) [])) _
    refine XS.lload X11.here hx rfl (hb hby at_78) rfl ?_
    show Steps p.tables e below (T11.setTop (mkF m 80 (lc0_8 q1 q2) [(.long ((own_un3 (own_out q1 q2) (31 : Int32)) * (own_inv (-7723592293110705685 : Int64))))])) _
    refine XS.bipush X11.here hx rfl (hb hby at_80) ?_
    show Steps p.tables e below (T11.setTop (mkF m 82 (lc0_8 q1 q2) [(.int (27 : Int32)), (.long ((own_un3 (own_out q1 q2) (31 : Int32)) * (own_inv (-7723592293110705685 : Int64))))])) _
    exact k)
  obtain ⟨_, _, ⟨T14, L14, k14, n14⟩, -, X14, ⟨Lc14, hQ14, l14, y14, z14⟩, st14⟩ := Jvm.LawKit.callS X11 hx (y := (⟨"com/example/imbang/imbang/SplitMix64OutputPinLaw", "unshift", "(JI)J"⟩ : MethodName)) hown (mvT hZ (hw _ (List.mem_of_getElem? (i := 15) rfl))) (mvT hZ (hw _ (List.mem_of_getElem? (i := 16) rfl))) (mvT hZ (hw _ (List.mem_of_getElem? (i := 12) rfl))) (mvT hZ (hw _ (List.mem_of_getElem? (i := 17) rfl))) (by decide) (backOf (W := 0) (rm3 l Z a0 hw [] ((own_un3 (own_out q1 q2) (31 : Int32)) * (own_inv (-7723592293110705685 : Int64))) (27 : Int32) h0 n0 Z0) hZ (hw _ (List.mem_of_getElem? (i := 17) rfl)) (hw _ (List.mem_of_getElem? (i := 12) rfl)) (by decide) (by decide)) (g := (mkF m 82 (lc0_8 q1 q2) [(.int (27 : Int32)), (.long ((own_un3 (own_out q1 q2) (31 : Int32)) * (own_inv (-7723592293110705685 : Int64))))])) rfl (by rw [hml]; rfl) (argsL := [(.long ((own_un3 (own_out q1 q2) (31 : Int32)) * (own_inv (-7723592293110705685 : Int64)))), (.int (27 : Int32))]) (rest := []) (lenOf pd_2 rfl) rfl (by show 2 * 0 + _ ≤ _; exact Nat.le_of_eq rfl) (hb hby at_82) (fun _ _ => ⟨rfl, e11, (by decide : 0 + 0 ≤ _), (by decide : 0 + 0 ≤ _)⟩)
  dsimp only [Pt.U, Pt.locs, Pt.cells, Pt.slots] at X14 l14 y14 z14 st14 hQ14
  subst l14 y14 z14
  obtain ⟨rfl, N14q, e14⟩ := hQ14
  have N14 := Fr.app N11 N14q
  have pre15 : ∀ t, Steps p.tables e below (T14.setTop (mkF m 85 (lc0_8 q1 q2) [(.long (own_un3 ((own_un3 (own_out q1 q2) (31 : Int32)) * (own_inv (-7723592293110705685 : Int64))) (27 : Int32)))])) t → Steps p.tables e below (s₁.setTop (entryFrame m #[(.long q1), (.long q2)] maxLocals)) t := fun t k => pre13 t (st14 t k)
  have pre16 : ∀ t, Steps p.tables e below (T14.setTop (mkF m 98 (lc0_10 q1 q2) [(.int (30 : Int32)), (.long ((own_un3 ((own_un3 (own_out q1 q2) (31 : Int32)) * (own_inv (-7723592293110705685 : Int64))) (27 : Int32)) * (own_inv (-4658895280553007687 : Int64))))])) t → Steps p.tables e below (s₁.setTop (entryFrame m #[(.long q1), (.long q2)] maxLocals)) t := fun t k => pre15 t (by
    show Steps p.tables e below (T14.setTop (mkF m 85 (lc0_8 q1 q2) [(.long (own_un3 ((own_un3 (own_out q1 q2) (31 : Int32)) * (own_inv (-7723592293110705685 : Int64))) (27 : Int32)))])) _
    refine XS.lstore X14.here hx rfl (hb hby at_85) rfl (l' := (lc0_9 q1 q2)) rfl ?_
    show Steps p.tables e below (T14.setTop (mkF m 87 (lc0_9 q1 q2) [])) _
    refine XS.lload X14.here hx rfl (hb hby at_87) rfl ?_
    show Steps p.tables e below (T14.setTop (mkF m 89 (lc0_9 q1 q2) [(.long (own_un3 ((own_un3 (own_out q1 q2) (31 : Int32)) * (own_inv (-7723592293110705685 : Int64))) (27 : Int32)))])) _
    refine XS.lload X14.here hx rfl (hb hby at_89) rfl ?_
    show Steps p.tables e below (T14.setTop (mkF m 91 (lc0_9 q1 q2) [(.long (own_inv (-4658895280553007687 : Int64))), (.long (own_un3 ((own_un3 (own_out q1 q2) (31 : Int32)) * (own_inv (-7723592293110705685 : Int64))) (27 : Int32)))])) _
    refine XS.lmul X14.here hx rfl (hb hby at_91) rfl ?_
    show Steps p.tables e below (T14.setTop (mkF m 92 (lc0_9 q1 q2) [(.long ((own_un3 ((own_un3 (own_out q1 q2) (31 : Int32)) * (own_inv (-7723592293110705685 : Int64))) (27 : Int32)) * (own_inv (-4658895280553007687 : Int64))))])) _
    refine XS.lstore X14.here hx rfl (hb hby at_92) rfl (l' := (lc0_10 q1 q2)) rfl ?_
    show Steps p.tables e below (T14.setTop (mkF m 94 (lc0_10 q1 q2) [])) _
    refine XS.lload X14.here hx rfl (hb hby at_94) rfl ?_
    show Steps p.tables e below (T14.setTop (mkF m 96 (lc0_10 q1 q2) [(.long ((own_un3 ((own_un3 (own_out q1 q2) (31 : Int32)) * (own_inv (-7723592293110705685 : Int64))) (27 : Int32)) * (own_inv (-4658895280553007687 : Int64))))])) _
    refine XS.bipush X14.here hx rfl (hb hby at_96) ?_
    show Steps p.tables e below (T14.setTop (mkF m 98 (lc0_10 q1 q2) [(.int (30 : Int32)), (.long ((own_un3 ((own_un3 (own_out q1 q2) (31 : Int32)) * (own_inv (-7723592293110705685 : Int64))) (27 : Int32)) * (own_inv (-4658895280553007687 : Int64))))])) _
    exact k)
  obtain ⟨_, _, ⟨T17, L17, k17, n17⟩, -, X17, ⟨Lc17, hQ17, l17, y17, z17⟩, st17⟩ := Jvm.LawKit.callS X14 hx (y := (⟨"com/example/imbang/imbang/SplitMix64OutputPinLaw", "unshift", "(JI)J"⟩ : MethodName)) hown (mvT hZ (hw _ (List.mem_of_getElem? (i := 15) rfl))) (mvT hZ (hw _ (List.mem_of_getElem? (i := 16) rfl))) (mvT hZ (hw _ (List.mem_of_getElem? (i := 12) rfl))) (mvT hZ (hw _ (List.mem_of_getElem? (i := 17) rfl))) (by decide) (backOf (W := 0) (rm3 l Z a0 hw [] ((own_un3 ((own_un3 (own_out q1 q2) (31 : Int32)) * (own_inv (-7723592293110705685 : Int64))) (27 : Int32)) * (own_inv (-4658895280553007687 : Int64))) (30 : Int32) h0 n0 Z0) hZ (hw _ (List.mem_of_getElem? (i := 17) rfl)) (hw _ (List.mem_of_getElem? (i := 12) rfl)) (by decide) (by decide)) (g := (mkF m 98 (lc0_10 q1 q2) [(.int (30 : Int32)), (.long ((own_un3 ((own_un3 (own_out q1 q2) (31 : Int32)) * (own_inv (-7723592293110705685 : Int64))) (27 : Int32)) * (own_inv (-4658895280553007687 : Int64))))])) rfl (by rw [hml]; rfl) (argsL := [(.long ((own_un3 ((own_un3 (own_out q1 q2) (31 : Int32)) * (own_inv (-7723592293110705685 : Int64))) (27 : Int32)) * (own_inv (-4658895280553007687 : Int64)))), (.int (30 : Int32))]) (rest := []) (lenOf pd_2 rfl) rfl (by show 2 * 0 + _ ≤ _; exact Nat.le_of_eq rfl) (hb hby at_98) (fun _ _ => ⟨rfl, e14, (by decide : 0 + 0 ≤ _), (by decide : 0 + 0 ≤ _)⟩)
  dsimp only [Pt.U, Pt.locs, Pt.cells, Pt.slots] at X17 l17 y17 z17 st17 hQ17
  subst l17 y17 z17
  obtain ⟨rfl, N17q, e17⟩ := hQ17
  have N17 := Fr.app N14 N17q
  have pre18 : ∀ t, Steps p.tables e below (T17.setTop (mkF m 101 (lc0_10 q1 q2) [(.long (own_un3 ((own_un3 ((own_un3 (own_out q1 q2) (31 : Int32)) * (own_inv (-7723592293110705685 : Int64))) (27 : Int32)) * (own_inv (-4658895280553007687 : Int64))) (30 : Int32)))])) t → Steps p.tables e below (s₁.setTop (entryFrame m #[(.long q1), (.long q2)] maxLocals)) t := fun t k => pre16 t (st17 t k)
  have pre19 : ∀ t, Steps p.tables e below (T17.setTop (mkF m 116 (lc0_11 q1 q2) [(.int (1 : Int32))])) t → Steps p.tables e below (s₁.setTop (entryFrame m #[(.long q1), (.long q2)] maxLocals)) t := fun t k => pre18 t (by
    show Steps p.tables e below (T17.setTop (mkF m 101 (lc0_10 q1 q2) [(.long (own_un3 ((own_un3 ((own_un3 (own_out q1 q2) (31 : Int32)) * (own_inv (-7723592293110705685 : Int64))) (27 : Int32)) * (own_inv (-4658895280553007687 : Int64))) (30 : Int32)))])) _
    refine XS.lstore X17.here hx rfl (hb hby at_101) rfl (l' := (lc0_11 q1 q2)) rfl ?_
    show Steps p.tables e below (T17.setTop (mkF m 103 (lc0_11 q1 q2) [])) _
    refine XS.lload X17.here hx rfl (hb hby at_103) rfl ?_
    show Steps p.tables e below (T17.setTop (mkF m 105 (lc0_11 q1 q2) [(.long (own_un3 ((own_un3 ((own_un3 (own_out q1 q2) (31 : Int32)) * (own_inv (-7723592293110705685 : Int64))) (27 : Int32)) * (own_inv (-4658895280553007687 : Int64))) (30 : Int32)))])) _
    refine XS.lload X17.here hx rfl (hb hby at_105) rfl ?_
    show Steps p.tables e below (T17.setTop (mkF m 107 (lc0_11 q1 q2) [(.long (q1 + (q2 * (-7046029254386353131 : Int64)))), (.long (own_un3 ((own_un3 ((own_un3 (own_out q1 q2) (31 : Int32)) * (own_inv (-7723592293110705685 : Int64))) (27 : Int32)) * (own_inv (-4658895280553007687 : Int64))) (30 : Int32)))])) _
    refine XS.lcmp X17.here hx rfl (hb hby at_107) rfl ?_
    show Steps p.tables e below (T17.setTop (mkF m 108 (lc0_11 q1 q2) [(.int (lcmpW (own_un3 ((own_un3 ((own_un3 (own_out q1 q2) (31 : Int32)) * (own_inv (-7723592293110705685 : Int64))) (27 : Int32)) * (own_inv (-4658895280553007687 : Int64))) (30 : Int32)) (q1 + (q2 * (-7046029254386353131 : Int64)))))])) _
    refine XS.ifNo X17.here hx rfl (hb hby at_108) rfl ((if0 _ _).trans (teq ((lw_eq _ _).mpr (show (own_un3 ((own_un3 ((own_un3 (own_out q1 q2) (31 : Int32)) * (own_inv (-7723592293110705685 : Int64))) (27 : Int32)) * (own_inv (-4658895280553007687 : Int64))) (30 : Int32)) = (q1 + (q2 * (-7046029254386353131 : Int64))) from own_law q1 q2))).2) ?_
    show Steps p.tables e below (T17.setTop (mkF m 111 (lc0_11 q1 q2) [])) _
    refine XS.iconst X17.here hx rfl (hb hby at_111) ?_
    show Steps p.tables e below (T17.setTop (mkF m 112 (lc0_11 q1 q2) [(.int (1 : Int32))])) _
    refine XS.goto X17.here hx rfl (pc0 := 112) (pc' := 116) rfl (hb hby at_112) (by decide) (by decide) ?_
    show Steps p.tables e below (T17.setTop (mkF m 116 (lc0_11 q1 q2) [(.int (1 : Int32))])) _
    exact k)
  obtain ⟨fs, hr, hrun, hended, hW, hsame⟩ := X17.leave (v := some (.int (1 : Int32))) (fun h => by rw [Bd.returns] at h; cases h)
  refine ⟨_, _, pre19 _ ?_, hrun, hended, _, _, rfl, ?_, ⟨_, rfl⟩, hW, hsame.mono (by decide) (by decide)⟩
  · show Steps p.tables e below (T17.setTop (mkF m 116 (lc0_11 q1 q2) [(.int (1 : Int32))])) _
    exact retN X17 hx (t := .boolean) Bd.returns (by simp) (hb hby at_116) hr
  · show Q0 Z q1 q2 h0 n0 _ T17.heap _
    rw [e17]
    exact ⟨rfl, N17⟩
set_option maxRecDepth 65536 in
set_option maxHeartbeats 40000000 in
theorem comes_1 {Post : Tables → Env → Array Value → State → Outcome → State → Prop} (hpost : ∀ tb e args s v u, (limb_1_1.after args s (.returned v) u = true ∧ limb_1_2.after args s (.returned v) u = true ∧ True) → FrameEnd s (.returned v) u (Jvm.fieldLocs frame_1_writes args s ++ Jvm.arrayLocs frame_1_arrays args s ++ Jvm.staticLocs frame_1_statics s) 0 0 → Post tb e args s (.returned v) u) :
    ArmFor flags0 classFile x code maxLocals ret World_1 tables_1 room_1 Calls_1 rest_1 Pre_1 Post := by
  intro l hfl _ _ p e ha hc hk s m args below hf hA hF happ hP
  obtain ⟨hcalls, hrest, hpre⟩ := hP
  obtain ⟨-, -, -, hnamed, -, -, -, hat⟩ := (Spec.applies_iff hf).mp happ
  obtain ⟨hg, hn⟩ := and_e (Cond.before_iff.mp (show (Jvm.Cond.and given_1 narrow_1).before args s = true from hpre))
  obtain ⟨hcnt, g0⟩ := and_e hg
  obtain ⟨k0, g1⟩ := and_e g0
  have k1 := g1
  obtain ⟨w0, w1, rfl⟩ : ∃ w0 w1 : Value, args = #[w0, w1] := by
    have hs : args.size = 2 := by simpa [Cond.value, given_1] using hcnt
    obtain ⟨L⟩ := args
    match L, hs with
    | [w0, w1], _ => exact ⟨w0, w1, rfl⟩
  have hw := fun d (hd : d ∈ tables_1) => atoms_spec (ws := Jvm.Cond.code x code maxLocals ret :: tables_1) hat d (List.mem_cons_of_mem _ hd)
  obtain ⟨i0, ei0⟩ := isL_v k0
  obtain rfl : w0 = (.long i0) := Option.some.inj ei0
  obtain ⟨i1, ei1⟩ := isL_v k1
  obtain rfl : w1 = (.long i1) := Option.some.inj ei1
  obtain ⟨n, o, h1, h2, h3, _, L, rfl, ⟨rfl, N⟩, hq⟩ := rm0 l s _ hw tables_1 i0 i1 s.heap s.heap.size (Nat.le_refl _) p e ha hc hk s m _ below hf ((Spec.applies_iff_loose hf).mp happ).1 ⟨rfl, State.Warmed39.refl s, rfl⟩ trivial
  refine ⟨n, _, h1, h2, h3, hpost _ _ _ _ _ _ ⟨Cond.after_iff.mpr rfl, Cond.after_iff.mpr (eq_i res_at (Term.int_eval (1)) rfl), trivial⟩ ⟨hq.1, hq.2.1, (hq.2.2.sift fun y hy => Or.inr (N y hy)).mono (by decide) (by decide)⟩⟩
theorem main_1_1 : Claimed_1_1 := comes_1 fun _ _ _ _ _ _ h hF => ⟨h.1, hF⟩
theorem main_1_2 : Claimed_1_2 := comes_1 fun _ _ _ _ _ _ h hF => ⟨h.2.1, hF⟩
end Jvm.Pilot.@@N@@
namespace Jvm.Pilot.@@N@@
open Jvm Jvm.ClassFile Sem Op Lib Jvm.Free Jvm.Stand Jvm.Pilot.@@N@@.Jvm.D
/-! MADE BY PROGRAM (witnessworld.py) out of the Statement's table words and the real class files: 9 classes; the members and pool entries that the words name. The judged class is class 1, her method 3. -/
namespace start1
open Jvm.ClassFile
def u (s : String) : CpInfo := .utf8 (stringToUtf16 s)
/-- a pool by its gaps: so many unusable entries, then the entry; so many at the end -/
def gap : Nat → List CpInfo → List CpInfo
  | 0, r => r
  | n + 1, r => .unusable :: gap n r
def poolList (es : List (Nat × CpInfo)) (last : Nat) : List CpInfo := es.foldr (fun e r => gap e.1 (e.2 :: r)) (gap last [])
def pool (es : List (Nat × CpInfo)) (last : Nat) : Array CpInfo := ⟨poolList es last⟩
def fileOf (pool : Array CpInfo) (this : Nat) (attrs : Array Attribute := #[]) (ms : Array MethodInfo := #[]) (fl : Nat := 33) (sup : Nat := 0) (ifs : Array Nat := #[]) (fds : Array FieldInfo := #[]) : ClassFile where
  minorVersion := 0
  majorVersion := 65
  constantPool := pool
  accessFlags := fl
  thisClass := this
  superClass := sup
  interfaces := ifs
  fields := fds
  methods := ms
  attributes := attrs
def plain (name : String) (sup : Option ClassId) : Class where
  name := name
  kind := .ordinary
  loader := none
  accessFlags := 33
  super := sup
  interfaces := #[]
  cf := none
  fields := #[]
  methods := #[]
  instanceTypes := #[]
  staticTypes := #[]
  resolved := #[]
  callSites := []
  init := .initialized
  statics := none
  mirror := none

def pool0 : Array CpInfo := pool [(5, u "<init>"), (0, u "()V"), (1, .class_ 10), (1, u "java/lang/Object")] 113

def k0m0 : Method := { name := "<init>", desc := "()V", sig := { parameters := [], returnType := none }, accessFlags := 1, code := none }
/-- java/lang/Object -/
def k0 : Class := { plain "java/lang/Object" none with
  accessFlags := 33
  interfaces := #[]
  cf := some (fileOf pool0 8 #[] #[{ accessFlags := 1, nameIndex := 5, descriptorIndex := 6, attributes := #[] }] 33 0 #[] #[])
  fields := #[]
  methods := #[k0m0]
  instanceTypes := #[]
  staticTypes := #[]
  resolved := Array.replicate 124 none
  statics := none }

def pool1 : Array CpInfo := pool [(2, .class_ 4), (1, u "java/lang/Object"), (0, u "<init>"), (0, u "()V"), (0, .long 2), (1, .methodref 10 11), (0, .class_ 12), (0, .nameAndType 13 14), (0, u "com/example/imbang/imbang/SplitMix64"), (0, u "output"), (0, u "(JJ)J"), (0, .long 11400714819323198485), (1, .long 13787848793156543929), (1, .long 10723151780598845931), (1, .methodref 22 23), (0, .class_ 24), (0, .nameAndType 25 26), (0, u "com/example/imbang/imbang/SplitMix64OutputPinLaw"), (0, u "inverse"), (0, u "(J)J"), (0, .methodref 22 28), (0, .nameAndType 29 30), (0, u "unshift"), (0, u "(JI)J"), (2, u "law"), (0, u "(JJ)Z")] 3

def k1m0 : Method := { name := "<init>", desc := "()V", sig := { parameters := [], returnType := none }, accessFlags := 2, code := none }
def k1c1 : Code := { maxStack := 8, maxLocals := 4, code := method_2_code, exceptionTable := #[], attributes := #[] }
def k1m1 : Method := { name := "inverse", desc := "(J)J", sig := { parameters := [.long], returnType := some .long }, accessFlags := 10, code := some k1c1 }
def k1c2 : Code := { maxStack := 5, maxLocals := 5, code := method_3_code, exceptionTable := #[], attributes := #[] }
def k1m2 : Method := { name := "unshift", desc := "(JI)J", sig := { parameters := [.long, .int], returnType := some .long }, accessFlags := 10, code := some k1c2 }
def k1c3 : Code := { maxStack := 6, maxLocals := 18, code := code, exceptionTable := #[], attributes := #[] }
def k1m3 : Method := { name := "law", desc := "(JJ)Z", sig := { parameters := [.long, .long], returnType := some .boolean }, accessFlags := 9, code := some k1c3 }
/-- com/example/imbang/imbang/SplitMix64OutputPinLaw -/
def k1 : Class := { plain "com/example/imbang/imbang/SplitMix64OutputPinLaw" (some 0) with
  accessFlags := 49
  interfaces := #[]
  cf := some (fileOf pool1 22 #[] #[{ accessFlags := 2, nameIndex := 5, descriptorIndex := 6, attributes := #[] }, { accessFlags := 10, nameIndex := 25, descriptorIndex := 26, attributes := #[] }, { accessFlags := 10, nameIndex := 29, descriptorIndex := 30, attributes := #[] }, { accessFlags := 9, nameIndex := 33, descriptorIndex := 34, attributes := #[] }] 49 2 #[] #[])
  fields := #[]
  methods := #[k1m0, k1m1, k1m2, k1m3]
  instanceTypes := #[]
  staticTypes := #[]
  resolved := Array.replicate 38 none
  statics := none }

def pool2 : Array CpInfo := pool [(2, .class_ 4), (1, u "java/lang/Object"), (0, u "<init>"), (0, u "()V"), (0, .class_ 8), (0, u "com/example/imbang/imbang/SplitMix64"), (0, .long 11400714819323198485), (1, .long 13787848793156543929), (1, .long 10723151780598845931), (1, u "GOLDEN_GAMMA"), (0, u "J"), (3, u "output"), (0, u "(JJ)J")] 2

def k2m0 : Method := { name := "<init>", desc := "()V", sig := { parameters := [], returnType := none }, accessFlags := 2, code := none }
def k2c1 : Code := { maxStack := 6, maxLocals := 6, code := prog_14_method_2_code, exceptionTable := #[], attributes := #[] }
def k2m1 : Method := { name := "output", desc := "(JJ)J", sig := { parameters := [.long, .long], returnType := some .long }, accessFlags := 8, code := some k2c1 }
/-- com/example/imbang/imbang/SplitMix64 -/
def k2 : Class := { plain "com/example/imbang/imbang/SplitMix64" (some 0) with
  accessFlags := 48
  interfaces := #[]
  cf := some (fileOf pool2 7 #[] #[{ accessFlags := 2, nameIndex := 5, descriptorIndex := 6, attributes := #[] }, { accessFlags := 8, nameIndex := 20, descriptorIndex := 21, attributes := #[] }] 48 2 #[] #[{ accessFlags := 26, nameIndex := 15, descriptorIndex := 16, attributes := #[] }])
  fields := #[{ name := "GOLDEN_GAMMA", type := .long, accessFlags := 26, slot := 0, constantValue := 0 }]
  methods := #[k2m0, k2m1]
  instanceTypes := #[]
  staticTypes := #[.long]
  resolved := Array.replicate 24 none
  statics := none }

def pool3 : Array CpInfo := pool [(1, u "java/lang/Cloneable"), (0, .class_ 1), (0, u "java/lang/Object"), (0, .class_ 3)] 3

/-- java/lang/Cloneable -/
def k3 : Class := { plain "java/lang/Cloneable" (some 0) with
  accessFlags := 1537
  interfaces := #[]
  cf := some (fileOf pool3 2 #[] #[] 1537 4 #[] #[])
  fields := #[]
  methods := #[]
  instanceTypes := #[]
  staticTypes := #[]
  resolved := Array.replicate 8 none
  statics := none }

def pool4 : Array CpInfo := pool [(1, u "java/io/Serializable"), (0, .class_ 1), (0, u "java/lang/Object"), (0, .class_ 3)] 3

/-- java/io/Serializable -/
def k4 : Class := { plain "java/io/Serializable" (some 0) with
  accessFlags := 1537
  interfaces := #[]
  cf := some (fileOf pool4 2 #[] #[] 1537 4 #[] #[])
  fields := #[]
  methods := #[]
  instanceTypes := #[]
  staticTypes := #[]
  resolved := Array.replicate 8 none
  statics := none }

/-- the primitive byte -/
def k5 : Class := { plain "byte" none with kind := .primitive 'B', accessFlags := 0x411 }
/-- [B -/
def k6 : Class := { plain "[B" (some 0) with kind := .array 5 .byte, interfaces := #[3, 4], accessFlags := 1041 }

/-- the primitive int -/
def k7 : Class := { plain "int" none with kind := .primitive 'I', accessFlags := 0x411 }
/-- [I -/
def k8 : Class := { plain "[I" (some 0) with kind := .array 7 .int, interfaces := #[3, 4], accessFlags := 1041 }

def heap : Heap := #[]
def classes : Array Class := #[k0, k1, k2, k3, k4, k5, k6, k7, k8]
def interned : List (Array UInt16 × Addr) := []
def slotsUsed : Nat := 0
def theMethod : MethodId := ⟨1, 3⟩
def args0 : Array Value := #[.long 5, .long 5]
def aboutOver (below : List Frame) : State where
  vm := { classes := classes, interned := interned.toArray }
  heap := heap
  slotsUsed := slotsUsed
  threads := #[{ frames := .invoking theMethod args0 :: below }]
def below0 : List Frame := [.native { method := ⟨0, 0⟩, args := #[] }]
def about1 : State := aboutOver below0
def p0 : Program := .bare "" "" ""
def e0 : Env := launch0.env 0 0 0
theorem w_frames : about1.frames = Frame.invoking theMethod args0 :: below0 := rfl
set_option maxRecDepth 65536 in
theorem w_args : argsFit about1.vm theMethod args0 = true := by decide +kernel
set_option maxRecDepth 65536 in
theorem w_heap : heapFits about1 = true := by decide +kernel
set_option maxRecDepth 65536 in
theorem w_runnable : about1.curStatus? = some .runnable := by decide +kernel
set_option maxRecDepth 65536 in
theorem w_alone : about1.alone = true := by decide +kernel
set_option maxRecDepth 65536 in
theorem w_named : about1.methodNamed? x = some theMethod := by decide +kernel
set_option maxRecDepth 65536 in
theorem w_hears : about1.hears theMethod below0 = true := by decide +kernel
set_option maxRecDepth 65536 in
theorem w_ripe : about1.ripe theMethod args0 below0 = true := by decide +kernel
theorem w_running : about1.status = .running := rfl
set_option maxRecDepth 65536 in
theorem w_room : about1.hasRoom e0.platform room_1 = true :=
  launch0.hasRoom_least _ room_1 (by decide +kernel) (by decide +kernel) (by decide +kernel) (by decide +kernel) (by decide +kernel) (by decide +kernel)
theorem allAtoms_all (ts : List Jvm.Cond) (a : Array Jvm.Value) (st : Jvm.State) : (allAtoms ts).before a st = ts.all (fun c => c.before a st) := by
  induction ts with
  | nil => rfl
  | cons c t ih =>
    show (Jvm.Cond.and c (allAtoms t)).before a st = _
    rw [Jvm.Cond.before_and, ih, List.all_cons]
def words1 : List Jvm.Cond := Jvm.Cond.code x code maxLocals ret :: tables_1
/-- a 'code' word, met by the world's own term for the bytes: nothing is compared byte by byte -/
theorem code_word {y : MethodName} {bytes : ByteArray} {mx : Nat} {rt : Option FieldType} {a : Array Value} {s : State} {m : MethodId} {meth : Method} {c : Code} (h1 : s.methodNamed? y = some m) (h2 : s.vm.method? m = some meth) (h3 : meth.code = some c) (h4 : c.code = bytes)
    (h5 : (c.maxLocals == mx && c.exceptionTable.isEmpty && decide (c.maxStack ≤ mostOperands) && decide (meth.sig.returnType = rt) && !meth.locks && decide (parseMethodDescriptor y.desc = some meth.sig)) = true) : (Jvm.Cond.code y bytes mx rt).before a s = true := by
  simp only [Bool.and_eq_true, beq_iff_eq, Bool.not_eq_true', decide_eq_true_eq] at h5
  obtain ⟨⟨⟨⟨⟨g1, g2⟩, g3⟩, g4⟩, g5⟩, g6⟩ := h5
  simp [Cond.before, Cond.holds, Cond.value, h1, h2, h3, h4, g1, g2, g3, g4, g5, g6]
def isCode : Jvm.Cond → Bool
  | .code _ _ _ _ => true
  | _ => false
theorem all_split {L : List Jvm.Cond} {P : Jvm.Cond → Bool} (h1 : L.all (fun c => isCode c || P c) = true) (h2 : ∀ c ∈ L.filter isCode, P c = true) : L.all P = true := by
  refine List.all_eq_true.mpr fun c hc => ?_
  have h := List.all_eq_true.mp h1 c hc
  rcases Bool.eq_false_or_eq_true (isCode c) with hi | hi
  · exact h2 c (List.mem_filter.mpr ⟨hc, hi⟩)
  · simpa [hi] using h
set_option maxRecDepth 65536 in
theorem w_c0 : (Jvm.Cond.code x code maxLocals ret).before args0 about1 = true := code_word (m := ⟨1, 3⟩) (meth := k1m3) (c := k1c3) (by decide +kernel) rfl rfl rfl (by decide +kernel)
set_option maxRecDepth 65536 in
theorem w_c1 : (Jvm.Cond.code ({ cls := "com/example/imbang/imbang/SplitMix64", name := "output", desc := "(JJ)J" } : Jvm.MethodName) prog_14_method_2_code (6 : Nat) (Option.some Jvm.ClassFile.FieldType.long)).before args0 about1 = true := code_word (m := ⟨2, 1⟩) (meth := k2m1) (c := k2c1) (by decide +kernel) rfl rfl rfl (by decide +kernel)
set_option maxRecDepth 65536 in
theorem w_c2 : (Jvm.Cond.code ({ cls := "com/example/imbang/imbang/SplitMix64OutputPinLaw", name := "inverse", desc := "(J)J" } : Jvm.MethodName) method_2_code (4 : Nat) (Option.some Jvm.ClassFile.FieldType.long)).before args0 about1 = true := code_word (m := ⟨1, 1⟩) (meth := k1m1) (c := k1c1) (by decide +kernel) rfl rfl rfl (by decide +kernel)
set_option maxRecDepth 65536 in
theorem w_c3 : (Jvm.Cond.code ({ cls := "com/example/imbang/imbang/SplitMix64OutputPinLaw", name := "unshift", desc := "(JI)J" } : Jvm.MethodName) method_3_code (5 : Nat) (Option.some Jvm.ClassFile.FieldType.long)).before args0 about1 = true := code_word (m := ⟨1, 2⟩) (meth := k1m2) (c := k1c2) (by decide +kernel) rfl rfl rfl (by decide +kernel)
def codes1 : List Jvm.Cond := [Jvm.Cond.code x code maxLocals ret, Jvm.Cond.code ({ cls := "com/example/imbang/imbang/SplitMix64", name := "output", desc := "(JJ)J" } : Jvm.MethodName) prog_14_method_2_code (6 : Nat) (Option.some Jvm.ClassFile.FieldType.long), Jvm.Cond.code ({ cls := "com/example/imbang/imbang/SplitMix64OutputPinLaw", name := "inverse", desc := "(J)J" } : Jvm.MethodName) method_2_code (4 : Nat) (Option.some Jvm.ClassFile.FieldType.long), Jvm.Cond.code ({ cls := "com/example/imbang/imbang/SplitMix64OutputPinLaw", name := "unshift", desc := "(JI)J" } : Jvm.MethodName) method_3_code (5 : Nat) (Option.some Jvm.ClassFile.FieldType.long)]
set_option maxRecDepth 65536 in
theorem codes_eq : words1.filter isCode = codes1 := rfl
theorem w_codes : ∀ c ∈ words1.filter isCode, c.before args0 about1 = true := by
  rw [codes_eq]
  intro c hc
  simp only [codes1, List.mem_cons, List.not_mem_nil, or_false] at hc
  rcases hc with rfl | rfl | rfl | rfl
  · exact w_c0
  · exact w_c1
  · exact w_c2
  · exact w_c3
set_option maxRecDepth 65536 in
theorem w_t1 : words1.all (fun c => isCode c || c.before args0 about1) = true := by decide +kernel
theorem w_tables : (allAtoms (Jvm.Cond.code x code maxLocals ret :: tables_1)).before args0 about1 = true := by
  rw [allAtoms_all]
  show words1.all (fun c => c.before args0 about1) = true
  refine all_split ?_ w_codes
  rw [w_t1]
set_option maxRecDepth 65536 in
theorem w_case : (Jvm.Cond.and given_1 narrow_1).before args0 about1 = true := by decide +kernel
theorem w_applies : (headSpec (Jvm.Cond.code x code maxLocals ret :: tables_1) room_1).applies x e0.platform about1 = true :=
  (Spec.applies_iff w_frames).mpr ⟨w_running, w_runnable, w_alone, w_named, w_hears, w_ripe, w_room, w_tables⟩
theorem atStart : AtStart classFile x code maxLocals ret World_1 tables_1 room_1 Calls_1 rest_1 Pre_1 launch0 p0 e0 about1 theMethod args0 below0 :=
  ⟨lists_1, trivial, launch0.admits_env _ _ _, launch0.least_env, fairChoices_fair.cas, fairChoices_fair.clock, w_frames, w_args, w_heap, w_applies, trivial, trivial, w_case⟩
end start1
theorem witness_1 : WitnessClaimed_1 := ⟨start1.p0, start1.e0, start1.about1, start1.theMethod, start1.args0, start1.below0, start1.atStart⟩
end Jvm.Pilot.@@N@@
