import JvmDerived
import JvmDerived.Pilot.@@N@@Statement
import JvmDerived.Pilot.@@N@@Code
set_option linter.unusedVariables false
set_option linter.unusedSimpArgs false
@@BLOCK:NumsL.lean.txt@@
namespace Jvm.RoadKit
open Sem ClassFile Op Lib Jvm.Stand Jvm.Free Jvm.LawKit
section New
variable {p : Program} {l : Launch} {e : Env} {R : Room} {s : State} {m : MethodId} {args : Array Value} {below : List Frame} {meth : Method} {c : Code} {T : State} {locs : List Loc} {cells slots : Nat}
theorem retI (X : Stand p l e R s m args below meth c T locs cells slots) (hx : p.tables.exec = Jvm.exec) {pc : Nat} {Ls : Array Slot} {z : Int32} {rest : List Value} (hret : meth.sig.returnType = some .int) (hd : decode c.code pc = .ok (.ireturn, 1)) {fs : List Frame}
    (hl : ∀ (f : JFrame) (acts : List Action), f.method = m → f.locked = none → f.entered = [] → (doReturn e (T.setTop f) acts (some (.int z))).1 = T.setFrames fs) : Steps p.tables e below (T.setTop (mkF m pc Ls (.int z :: rest))) (T.setFrames fs) := by
  have hm' : T.vm.method? m = some meth := X.method'
  have hn : narrow .int (.int z) = .int z := rfl
  show Steps p.tables e below (T.setTop { method := m, pc := pc, locals := Ls, stack := _ :: rest, locked := none }) _
  jvm_step X.here [X.here.top, hx, hd, hm', hret, hn]
  first | (intro acts; rw [hl _ acts rfl rfl rfl]) | rw [hl _ _ rfl rfl rfl]
  exact Steps.refl _
end New
end Jvm.RoadKit
namespace Jvm.Pilot.@@N@@
open Jvm Jvm.ClassFile Sem Op Lib Jvm.Free Jvm.Stand Jvm.LawKit Jvm.RoadKit Bundle Jvm.Pilot.@@N@@.Jvm.D
def own_ush (x : Int64) (s : Int32) : Int64 := ((x.toUInt64 >>> (s &&& 0x3f).toInt64.toUInt64).toInt64)
def own_shl (x : Int64) (s : Int32) : Int64 := (x <<< (s &&& 0x3f).toInt64)
def own_shr (x : Int64) (s : Int32) : Int64 := (x >>> (s &&& 0x3f).toInt64)
def own_iush (x s : Int32) : Int32 := ((x.toUInt32 >>> (s &&& 31).toUInt32).toInt32)
def own_ishl (x s : Int32) : Int32 := (x <<< (s &&& 31))
def own_ishr (x s : Int32) : Int32 := (x >>> (s &&& 31))
def own_lrem (x y : Int64) : Int64 := x - (x / y) * y
theorem own_ush_eq (x : Int64) (s : Int32) (k : Nat) (hs : ((s &&& 0x3f).toInt64.toUInt64.toBitVec % 64#64).toNat = k) : (own_ush x s).toBitVec = x.toBitVec >>> k := by
  subst hs; rfl
def own_dec (p b : Int32) : Int64 := (own_shl (p.toInt64) (1 : Int32)) ||| ((if b = (0 : Int32) then (0 : Int32) else (1 : Int32)).toInt64)
def own_pair (d : Int64) : Int32 := (own_ush d (1 : Int32)).toInt32
def own_in (d : Int64) : Int32 := if (d &&& (1 : Int64)) = (1 : Int64) then (1 : Int32) else (0 : Int32)
theorem own_dec0 (p : Int32) : (own_dec p 0).toBitVec = (p.toBitVec.signExtend 64) <<< 1 := by
  have e : (own_dec p 0).toBitVec = ((p.toBitVec.signExtend 64) <<< 1) ||| 0#64 := rfl
  rw [e, BitVec.or_zero]
theorem own_dec1 (p : Int32) : (own_dec p 1).toBitVec = ((p.toBitVec.signExtend 64) <<< 1) ||| 1#64 := rfl
theorem own_bit0 (x : BitVec 64) (i : Nat) : (x <<< 1).getLsbD i = (decide (i < 64) && (!decide (i < 1)) && x.getLsbD (i - 1)) := by
  rw [BitVec.getLsbD_shiftLeft]
theorem own_one (i : Nat) : (1#64).getLsbD i = decide (i = 0) := by
  rw [BitVec.getLsbD_one]; simp
theorem own_sh_and (x : BitVec 64) : (x <<< 1) &&& 1#64 = 0#64 := by
  apply BitVec.eq_of_getLsbD_eq; intro i hi
  rw [BitVec.getLsbD_and, own_bit0, own_one, BitVec.getLsbD_zero]
  by_cases h : i = 0
  · subst h; simp
  · simp [h]
theorem own_sh1_and (x : BitVec 64) : ((x <<< 1) ||| 1#64) &&& 1#64 = 1#64 := by
  apply BitVec.eq_of_getLsbD_eq; intro i hi
  rw [BitVec.getLsbD_and, BitVec.getLsbD_or, own_bit0, own_one]
  by_cases h : i = 0
  · subst h; simp
  · simp [h]
theorem own_shx (x : BitVec 64) : (x <<< 1) ^^^ 1#64 = (x <<< 1) ||| 1#64 := by
  apply BitVec.eq_of_getLsbD_eq; intro i hi
  rw [BitVec.getLsbD_xor, BitVec.getLsbD_or, own_bit0, own_one]
  by_cases h : i = 0
  · subst h; simp
  · simp [h]
theorem own_shx1 (x : BitVec 64) : ((x <<< 1) ||| 1#64) ^^^ 1#64 = (x <<< 1) := by
  apply BitVec.eq_of_getLsbD_eq; intro i hi
  rw [BitVec.getLsbD_xor, BitVec.getLsbD_or, own_bit0, own_one]
  by_cases h : i = 0
  · subst h; simp
  · simp [h]
theorem own_shl_two (x : BitVec 64) : x <<< 1 = 2#64 * x := by
  apply BitVec.eq_of_toNat_eq
  rw [BitVec.toNat_shiftLeft, BitVec.toNat_mul, Nat.shiftLeft_eq]
  congr 1
  rw [Nat.mul_comm]; rfl
theorem own_d0 (p : Int32) : own_dec p 0 = ((2 : Int64) * (p.toInt64)) + (0 : Int64) := by
  apply Int64.toBitVec_inj.mp
  rw [own_dec0, own_shl_two, Int64.add_zero]; rfl
theorem own_d1 (p : Int32) : own_dec p 1 = ((2 : Int64) * (p.toInt64)) + (1 : Int64) := by
  apply Int64.toBitVec_inj.mp
  rw [own_dec1, ← BitVec.add_eq_or_of_and_eq_zero _ _ (own_sh_and _), own_shl_two]; rfl
theorem own_i0 (p : Int32) : own_in (own_dec p 0) = (0 : Int32) := by
  rw [own_in, if_neg]
  intro h
  have h := Int64.toBitVec_inj.mpr h
  rw [Int64.toBitVec_and, own_dec0] at h
  have h2 : ((p.toBitVec.signExtend 64) <<< 1) &&& 1#64 = 1#64 := h
  rw [own_sh_and] at h2
  exact absurd h2 (by decide)
theorem own_i1 (p : Int32) : own_in (own_dec p 1) = (1 : Int32) := by
  rw [own_in, if_pos]
  apply Int64.toBitVec_inj.mp
  rw [Int64.toBitVec_and, own_dec1]
  exact own_sh1_and _
theorem own_pr (p : Int32) (d : Int64) (b : BitVec 64) (hb : ∀ i, b.getLsbD (1 + i) = false) (h : d.toBitVec = ((p.toBitVec.signExtend 64) <<< 1) ||| b) : own_pair d = p := by
  apply Int32.toBitVec_inj.mp
  have e0 : (own_ush d (1 : Int32)).toBitVec = d.toBitVec >>> 1 := own_ush_eq d 1 1 (by decide)
  have e : (own_pair d).toBitVec = (d.toBitVec >>> 1).signExtend 32 := by rw [← e0]; rfl
  rw [e, h]
  apply BitVec.eq_of_getLsbD_eq; intro i hi
  rw [BitVec.getLsbD_signExtend, if_pos (by omega), BitVec.getLsbD_ushiftRight, BitVec.getLsbD_or, own_bit0, hb, BitVec.getLsbD_signExtend]
  have h1 : 1 + i < 64 := by omega
  have h2 : ¬ (1 + i < 1) := by omega
  have h3 : 1 + i - 1 = i := by omega
  have h4 : i < 64 := by omega
  simp [hi, h1, h2, h3, h4]
theorem own_p0 (p : Int32) : own_pair (own_dec p 0) = p := own_pr p _ 0#64 (fun i => BitVec.getLsbD_zero) (by rw [own_dec0, BitVec.or_zero])
theorem own_p1 (p : Int32) : own_pair (own_dec p 1) = p := own_pr p _ 1#64 (fun i => by rw [own_one]; simp) (own_dec1 p)
theorem own_o0 (p : Int32) : own_dec p 1 = own_dec p 0 ^^^ (1 : Int64) := by
  apply Int64.toBitVec_inj.mp
  rw [Int64.toBitVec_xor, own_dec0, own_dec1]
  exact (own_shx _).symm
theorem own_o1 (p : Int32) : own_dec p 0 = own_dec p 1 ^^^ (1 : Int64) := by
  apply Int64.toBitVec_inj.mp
  rw [Int64.toBitVec_xor, own_dec0, own_dec1]
  exact (own_shx1 _).symm
theorem own_and_int (d : Int64) : (d &&& (1 : Int64)).toInt = d.toInt % 2 := Jvm.Kit.i64_mask d 1 (k := 1) (by decide) (by decide)
theorem own_and_iff (d : Int64) : (d &&& (1 : Int64)) = (1 : Int64) ↔ d.toInt % 2 = 1 := by
  rw [← Int64.toInt_inj, own_and_int]; exact Iff.rfl
theorem own_ref (d : Int64) : own_in d = (if own_lrem d (2 : Int64) = (0 : Int64) then (0 : Int32) else (1 : Int32)) := by
  have e : (own_lrem d (2 : Int64)).toInt = d.toInt.tmod 2 := Jvm.Kit.i64_rem d 2
  have z : own_lrem d (2 : Int64) = (0 : Int64) ↔ d.toInt.tmod 2 = 0 := by rw [← Int64.toInt_inj, e]; exact Iff.rfl
  have y : d.toInt.tmod 2 = 0 ↔ d.toInt % 2 = 0 := by rw [← Int.dvd_iff_tmod_eq_zero, ← Int.dvd_iff_emod_eq_zero]
  by_cases h : d.toInt % 2 = 1
  · rw [own_in, if_pos ((own_and_iff d).mpr h), if_neg (fun q => by rw [z, y] at q; omega)]
  · rw [own_in, if_neg (fun q => h ((own_and_iff d).mp q)), if_pos (by rw [z, y]; omega)]
theorem own_xor1 (x : BitVec 64) : ((x ^^^ 1#64) &&& 1#64 = 1#64) ↔ ¬ (x &&& 1#64 = 1#64) := by
  have k : ∀ y : BitVec 64, (y &&& 1#64 = 1#64) ↔ y.getLsbD 0 = true := by
    intro y
    constructor
    · intro h
      have := congrArg (fun z => BitVec.getLsbD z 0) h
      simpa using this
    · intro h
      apply BitVec.eq_of_getLsbD_eq; intro i hi
      rw [BitVec.getLsbD_and, own_one]
      by_cases h0 : i = 0
      · subst h0; simp [h]
      · simp [h0]
  rw [k, k, BitVec.getLsbD_xor, own_one]
  cases x.getLsbD 0 <;> decide
theorem own_opp (d : Int64) : ¬ (own_in (d ^^^ (1 : Int64)) = own_in d) := by
  have k : ∀ y : Int64, (y &&& (1 : Int64)) = (1 : Int64) ↔ y.toBitVec &&& 1#64 = 1#64 := fun y => by rw [← Int64.toBitVec_inj]; exact Iff.rfl
  have q : (d ^^^ (1 : Int64)).toBitVec = d.toBitVec ^^^ 1#64 := rfl
  have h := own_xor1 d.toBitVec
  rw [own_in, own_in]
  by_cases hd : d.toBitVec &&& 1#64 = 1#64
  · rw [if_pos ((k d).mpr hd), if_neg (fun z => by rw [k, q, h] at z; exact z hd)]; decide
  · rw [if_neg (fun z => hd ((k d).mp z)), if_pos ((k _).mpr (by rw [q, h]; exact hd))]; decide
theorem d1_0 : decode prog_18_method_2_code 0 = .ok (.iload_n 0, 1) := by decide +kernel
theorem d1_1 : decode prog_18_method_2_code 1 = .ok (.i2l, 1) := by decide +kernel
theorem d1_2 : decode prog_18_method_2_code 2 = .ok (.iconst 1, 1) := by decide +kernel
theorem d1_3 : decode prog_18_method_2_code 3 = .ok (.lshl, 1) := by decide +kernel
theorem d1_4 : decode prog_18_method_2_code 4 = .ok (.iload_n 1, 1) := by decide +kernel
theorem d1_5 : decode prog_18_method_2_code 5 = .ok (.ifCond .eq 7, 3) := by decide +kernel
theorem d1_8 : decode prog_18_method_2_code 8 = .ok (.iconst 1, 1) := by decide +kernel
theorem d1_9 : decode prog_18_method_2_code 9 = .ok (.goto 4, 3) := by decide +kernel
theorem d1_12 : decode prog_18_method_2_code 12 = .ok (.iconst 0, 1) := by decide +kernel
theorem d1_13 : decode prog_18_method_2_code 13 = .ok (.i2l, 1) := by decide +kernel
theorem d1_14 : decode prog_18_method_2_code 14 = .ok (.lor, 1) := by decide +kernel
theorem d1_15 : decode prog_18_method_2_code 15 = .ok (.lreturn, 1) := by decide +kernel
theorem pn_Nogoods : plainName "com/example/unfire/unfire/check/Nogoods" = true := by first | (simp [plainName, overriddenIn]; done) | decide +kernel
theorem ef_1 (m : MethodId) (p1 : Int32) (p2 : Int32) : entryFrame m #[(.int p1), (.int p2)] 2 = mkF m 0 #[.val (.int p1), .val (.int p2)] [] := by first | (simp [entryFrame, mkF, argsToLocals, Value.category]; done) | rfl
def Q1 (Z : State) (p1 : Int32) (p2 : Int32) (h0 : Heap) (n0 : Nat) (v : Option Value) (h : Heap) (L : List Loc) : Prop := v = some (.long (own_dec p1 p2)) ∧ Fr n0 L ∧ h = h0
set_option maxRecDepth 65536 in
set_option maxHeartbeats 40000000 in
theorem rm1 (l : Launch) (Z : State) (a0 : Array Value) (hw : ∀ d ∈ tables_1, d.before a0 Z = true) (ws : List Jvm.Cond) (p1 : Int32) (p2 : Int32) (h0 : Heap) (n0 : Nat) (Z0 : n0 ≤ h0.size) :
    MetFree l (⟨"com/example/unfire/unfire/check/Nogoods", "decision", "(IZ)J"⟩ : MethodName) (head1 (Jvm.Cond.code (⟨"com/example/unfire/unfire/check/Nogoods", "decision", "(IZ)J"⟩ : MethodName) prog_18_method_2_code 2 (some .long) :: ws) ({ frames := 0, cells := 0, slots := 0, locals := 0 } : Room)) (fun aa U => aa = #[(.int p1), (.int p2)] ∧ Z.Warmed39 U.vm ∧ U.heap = h0) (fun _ _ _ _ _ => True) (fun _ U o U' => ∃ v L, o = .returned v ∧ Q1 Z p1 p2 h0 n0 v U'.heap L ∧ FrameEnd U o U' L ({ frames := 0, cells := 0, slots := 0, locals := 0 } : Room).cells ({ frames := 0, cells := 0, slots := 0, locals := 0 } : Room).slots) := by
  refine MetFree.of_bodySF (plainFor_of_name pn_Nogoods) hisR ?_
  intro p e s m args below meth c s₁ Bd hml0 hP hK
  obtain ⟨rfl, hZ, hh⟩ := hP
  have hx := Bd.exec
  have hby := Bd.bytes
  have hml : c.maxLocals = 2 := hml0
  have hown : s.vm.findClass "com/example/unfire/unfire/check/Nogoods" = some m.cls := findClass_of_methodNamed Bd.named
  have hnm := (name_of_methodNamed Bd.named Bd.method).1
  have X0 : Stand p l e ({ frames := 0, cells := 0, slots := 0, locals := 0 } : Room) s m #[(.int p1), (.int p2)] below meth c s₁ [] 0 0 := Stand.of_body Bd
  have e0 : s₁.heap = h0 := by rw [← hh, Bd.state]; rfl
  have N0 := Fr.nil n0
  have hlk : meth.locks = false := by first | exact BodyLoose.notSynchronized Bd | exact Body.notSynchronized Bd
  have pre0 : ∀ t, Steps p.tables e below (s₁.setTop (mkF m 0 #[.val (.int p1), .val (.int p2)] [])) t → Steps p.tables e below (s₁.setTop (entryFrame m #[(.int p1), (.int p2)] 2)) t := fun t k => castTop (ef_1 m p1 p2) k
  have pre1 : ∀ t, Steps p.tables e below (s₁.setTop (mkF m 5 #[.val (.int p1), .val (.int p2)] [(.int p2), (.long (own_shl (p1.toInt64) (1 : Int32)))])) t → Steps p.tables e below (s₁.setTop (entryFrame m #[(.int p1), (.int p2)] 2)) t := fun t k => pre0 t (by
    show Steps p.tables e below (s₁.setTop (mkF m 0 #[.val (.int p1), .val (.int p2)] [])) _
    refine XS.iloadN X0.here hx rfl (hb hby d1_0) rfl ?_
    show Steps p.tables e below (s₁.setTop (mkF m 1 #[.val (.int p1), .val (.int p2)] [(.int p1)])) _
    refine XS.i2l X0.here hx rfl (hb hby d1_1) rfl ?_
    show Steps p.tables e below (s₁.setTop (mkF m 2 #[.val (.int p1), .val (.int p2)] [(.long (p1.toInt64))])) _
    refine XS.iconst X0.here hx rfl (hb hby d1_2) ?_
    show Steps p.tables e below (s₁.setTop (mkF m 3 #[.val (.int p1), .val (.int p2)] [(.int (1 : Int32)), (.long (p1.toInt64))])) _
    refine XS.lshl X0.here hx rfl (hb hby d1_3) rfl ?_
    show Steps p.tables e below (s₁.setTop (mkF m 4 #[.val (.int p1), .val (.int p2)] [(.long (own_shl (p1.toInt64) (1 : Int32)))])) _
    refine XS.iloadN X0.here hx rfl (hb hby d1_4) rfl ?_
    show Steps p.tables e below (s₁.setTop (mkF m 5 #[.val (.int p1), .val (.int p2)] [(.int p2), (.long (own_shl (p1.toInt64) (1 : Int32)))])) _
    exact k)
  have pre3 : ∀ t, Steps p.tables e below (s₁.setTop (mkF m 13 #[.val (.int p1), .val (.int p2)] [(.int (if p2 = (0 : Int32) then (0 : Int32) else (1 : Int32))), (.long (own_shl (p1.toInt64) (1 : Int32)))])) t → Steps p.tables e below (s₁.setTop (entryFrame m #[(.int p1), (.int p2)] 2)) t := fun t k => pre1 t (by
    show Steps p.tables e below (s₁.setTop (mkF m 5 #[.val (.int p1), .val (.int p2)] [(.int p2), (.long (own_shl (p1.toInt64) (1 : Int32)))])) _
    by_cases hm5_2 : p2 = (0 : Int32)
    · refine XS.ifYes X0.here hx rfl (pc0 := 5) (pc' := 12) rfl (hb hby d1_5) rfl ((if0 _ _).trans (teq hm5_2).1) (by decide) (by decide) ?_
      show Steps p.tables e below (s₁.setTop (mkF m 12 #[.val (.int p1), .val (.int p2)] [(.long (own_shl (p1.toInt64) (1 : Int32)))])) _
      refine XS.iconst X0.here hx rfl (hb hby d1_12) ?_
      show Steps p.tables e below (s₁.setTop (mkF m 13 #[.val (.int p1), .val (.int p2)] [(.int (0 : Int32)), (.long (own_shl (p1.toInt64) (1 : Int32)))])) _
      have q : (if p2 = (0 : Int32) then (0 : Int32) else (1 : Int32)) = (0 : Int32) := by simp only [if_pos hm5_2]
      exact Eq.subst (motive := fun xI => Steps p.tables e below (s₁.setTop (mkF m 13 #[.val (.int p1), .val (.int p2)] [(.int xI), (.long (own_shl (p1.toInt64) (1 : Int32)))])) t) q k
    · refine XS.ifNo X0.here hx rfl (hb hby d1_5) rfl ((if0 _ _).trans (feq hm5_2).1) ?_
      show Steps p.tables e below (s₁.setTop (mkF m 8 #[.val (.int p1), .val (.int p2)] [(.long (own_shl (p1.toInt64) (1 : Int32)))])) _
      refine XS.iconst X0.here hx rfl (hb hby d1_8) ?_
      show Steps p.tables e below (s₁.setTop (mkF m 9 #[.val (.int p1), .val (.int p2)] [(.int (1 : Int32)), (.long (own_shl (p1.toInt64) (1 : Int32)))])) _
      refine XS.goto X0.here hx rfl (pc0 := 9) (pc' := 13) rfl (hb hby d1_9) (by decide) (by decide) ?_
      show Steps p.tables e below (s₁.setTop (mkF m 13 #[.val (.int p1), .val (.int p2)] [(.int (1 : Int32)), (.long (own_shl (p1.toInt64) (1 : Int32)))])) _
      have q : (if p2 = (0 : Int32) then (0 : Int32) else (1 : Int32)) = (1 : Int32) := by simp only [if_neg hm5_2]
      exact Eq.subst (motive := fun xI => Steps p.tables e below (s₁.setTop (mkF m 13 #[.val (.int p1), .val (.int p2)] [(.int xI), (.long (own_shl (p1.toInt64) (1 : Int32)))])) t) q k)
  have pre4 : ∀ t, Steps p.tables e below (s₁.setTop (mkF m 15 #[.val (.int p1), .val (.int p2)] [(.long (own_dec p1 p2))])) t → Steps p.tables e below (s₁.setTop (entryFrame m #[(.int p1), (.int p2)] 2)) t := fun t k => pre3 t (by
    show Steps p.tables e below (s₁.setTop (mkF m 13 #[.val (.int p1), .val (.int p2)] [(.int (if p2 = (0 : Int32) then (0 : Int32) else (1 : Int32))), (.long (own_shl (p1.toInt64) (1 : Int32)))])) _
    refine XS.i2l X0.here hx rfl (hb hby d1_13) rfl ?_
    show Steps p.tables e below (s₁.setTop (mkF m 14 #[.val (.int p1), .val (.int p2)] [(.long ((if p2 = (0 : Int32) then (0 : Int32) else (1 : Int32)).toInt64)), (.long (own_shl (p1.toInt64) (1 : Int32)))])) _
    refine XS.lor X0.here hx rfl (hb hby d1_14) rfl ?_
    show Steps p.tables e below (s₁.setTop (mkF m 15 #[.val (.int p1), .val (.int p2)] [(.long (own_dec p1 p2))])) _
    exact k)
  obtain ⟨fs, hr, hrun, hended, hW, hsame⟩ := X0.leave (v := some (.long (own_dec p1 p2))) (fun h => by rw [Bd.returns] at h; cases h) hlk
  refine ⟨_, _, pre4 _ ?_, hrun, hended, _, _, rfl, ?_, ⟨_, rfl⟩, hW, hsame.mono (by decide) (by decide)⟩
  · show Steps p.tables e below (s₁.setTop (mkF m 15 #[.val (.int p1), .val (.int p2)] [(.long (own_dec p1 p2))])) _
    exact X0.lreturnOut hx Bd.returns (hb hby d1_15) hr
  · show Q1 Z p1 p2 h0 n0 _ s₁.heap _
    rw [e0]
    exact ⟨rfl, N0, rfl⟩
theorem d2_0 : decode prog_18_method_3_code 0 = .ok (.lload_n 0, 1) := by decide +kernel
theorem d2_1 : decode prog_18_method_3_code 1 = .ok (.iconst 1, 1) := by decide +kernel
theorem d2_2 : decode prog_18_method_3_code 2 = .ok (.lushr, 1) := by decide +kernel
theorem d2_3 : decode prog_18_method_3_code 3 = .ok (.l2i, 1) := by decide +kernel
theorem d2_4 : decode prog_18_method_3_code 4 = .ok (.ireturn, 1) := by decide +kernel
theorem ef_2 (m : MethodId) (q1 : Int64) : entryFrame m #[(.long q1)] 2 = mkF m 0 #[.val (.long q1), .second] [] := by first | (simp [entryFrame, mkF, argsToLocals, Value.category]; done) | rfl
def Q2 (Z : State) (q1 : Int64) (h0 : Heap) (n0 : Nat) (v : Option Value) (h : Heap) (L : List Loc) : Prop := v = some (.int (own_pair q1)) ∧ Fr n0 L ∧ h = h0
set_option maxRecDepth 65536 in
set_option maxHeartbeats 40000000 in
theorem rm2 (l : Launch) (Z : State) (a0 : Array Value) (hw : ∀ d ∈ tables_1, d.before a0 Z = true) (ws : List Jvm.Cond) (q1 : Int64) (h0 : Heap) (n0 : Nat) (Z0 : n0 ≤ h0.size) :
    MetFree l (⟨"com/example/unfire/unfire/check/Nogoods", "pair", "(J)I"⟩ : MethodName) (head1 (Jvm.Cond.code (⟨"com/example/unfire/unfire/check/Nogoods", "pair", "(J)I"⟩ : MethodName) prog_18_method_3_code 2 (some .int) :: ws) ({ frames := 0, cells := 0, slots := 0, locals := 0 } : Room)) (fun aa U => aa = #[(.long q1)] ∧ Z.Warmed39 U.vm ∧ U.heap = h0) (fun _ _ _ _ _ => True) (fun _ U o U' => ∃ v L, o = .returned v ∧ Q2 Z q1 h0 n0 v U'.heap L ∧ FrameEnd U o U' L ({ frames := 0, cells := 0, slots := 0, locals := 0 } : Room).cells ({ frames := 0, cells := 0, slots := 0, locals := 0 } : Room).slots) := by
  refine MetFree.of_bodySF (plainFor_of_name pn_Nogoods) hisR ?_
  intro p e s m args below meth c s₁ Bd hml0 hP hK
  obtain ⟨rfl, hZ, hh⟩ := hP
  have hx := Bd.exec
  have hby := Bd.bytes
  have hml : c.maxLocals = 2 := hml0
  have hown : s.vm.findClass "com/example/unfire/unfire/check/Nogoods" = some m.cls := findClass_of_methodNamed Bd.named
  have hnm := (name_of_methodNamed Bd.named Bd.method).1
  have X0 : Stand p l e ({ frames := 0, cells := 0, slots := 0, locals := 0 } : Room) s m #[(.long q1)] below meth c s₁ [] 0 0 := Stand.of_body Bd
  have e0 : s₁.heap = h0 := by rw [← hh, Bd.state]; rfl
  have N0 := Fr.nil n0
  have hlk : meth.locks = false := by first | exact BodyLoose.notSynchronized Bd | exact Body.notSynchronized Bd
  have pre0 : ∀ t, Steps p.tables e below (s₁.setTop (mkF m 0 #[.val (.long q1), .second] [])) t → Steps p.tables e below (s₁.setTop (entryFrame m #[(.long q1)] 2)) t := fun t k => castTop (ef_2 m q1) k
  have pre1 : ∀ t, Steps p.tables e below (s₁.setTop (mkF m 4 #[.val (.long q1), .second] [(.int (own_pair q1))])) t → Steps p.tables e below (s₁.setTop (entryFrame m #[(.long q1)] 2)) t := fun t k => pre0 t (by
    show Steps p.tables e below (s₁.setTop (mkF m 0 #[.val (.long q1), .second] [])) _
    refine XS.lloadN X0.here hx rfl (hb hby d2_0) rfl ?_
    show Steps p.tables e below (s₁.setTop (mkF m 1 #[.val (.long q1), .second] [(.long q1)])) _
    refine XS.iconst X0.here hx rfl (hb hby d2_1) ?_
    show Steps p.tables e below (s₁.setTop (mkF m 2 #[.val (.long q1), .second] [(.int (1 : Int32)), (.long q1)])) _
    refine XS.lushr X0.here hx rfl (hb hby d2_2) rfl ?_
    show Steps p.tables e below (s₁.setTop (mkF m 3 #[.val (.long q1), .second] [(.long (own_ush q1 (1 : Int32)))])) _
    refine XS.l2i X0.here hx rfl (hb hby d2_3) rfl ?_
    show Steps p.tables e below (s₁.setTop (mkF m 4 #[.val (.long q1), .second] [(.int (own_pair q1))])) _
    exact k)
  obtain ⟨fs, hr, hrun, hended, hW, hsame⟩ := X0.leave (v := some (.int (own_pair q1))) (fun h => by rw [Bd.returns] at h; cases h) hlk
  refine ⟨_, _, pre1 _ ?_, hrun, hended, _, _, rfl, ?_, ⟨_, rfl⟩, hW, hsame.mono (by decide) (by decide)⟩
  · show Steps p.tables e below (s₁.setTop (mkF m 4 #[.val (.long q1), .second] [(.int (own_pair q1))])) _
    exact retI X0 hx Bd.returns (hb hby d2_4) hr
  · show Q2 Z q1 h0 n0 _ s₁.heap _
    rw [e0]
    exact ⟨rfl, N0, rfl⟩
theorem d3_0 : decode prog_18_method_4_code 0 = .ok (.lload_n 0, 1) := by decide +kernel
theorem d3_1 : decode prog_18_method_4_code 1 = .ok (.lconst 1, 1) := by decide +kernel
theorem d3_2 : decode prog_18_method_4_code 2 = .ok (.land, 1) := by decide +kernel
theorem d3_3 : decode prog_18_method_4_code 3 = .ok (.lconst 1, 1) := by decide +kernel
theorem d3_4 : decode prog_18_method_4_code 4 = .ok (.lcmp, 1) := by decide +kernel
theorem d3_5 : decode prog_18_method_4_code 5 = .ok (.ifCond .ne 7, 3) := by decide +kernel
theorem d3_8 : decode prog_18_method_4_code 8 = .ok (.iconst 1, 1) := by decide +kernel
theorem d3_9 : decode prog_18_method_4_code 9 = .ok (.goto 4, 3) := by decide +kernel
theorem d3_12 : decode prog_18_method_4_code 12 = .ok (.iconst 0, 1) := by decide +kernel
theorem d3_13 : decode prog_18_method_4_code 13 = .ok (.ireturn, 1) := by decide +kernel
theorem ef_3 (m : MethodId) (q1 : Int64) : entryFrame m #[(.long q1)] 2 = mkF m 0 #[.val (.long q1), .second] [] := by first | (simp [entryFrame, mkF, argsToLocals, Value.category]; done) | rfl
def Q3 (Z : State) (q1 : Int64) (h0 : Heap) (n0 : Nat) (v : Option Value) (h : Heap) (L : List Loc) : Prop := v = some (.int (own_in q1)) ∧ Fr n0 L ∧ h = h0
set_option maxRecDepth 65536 in
set_option maxHeartbeats 40000000 in
theorem rm3 (l : Launch) (Z : State) (a0 : Array Value) (hw : ∀ d ∈ tables_1, d.before a0 Z = true) (ws : List Jvm.Cond) (q1 : Int64) (h0 : Heap) (n0 : Nat) (Z0 : n0 ≤ h0.size) :
    MetFree l (⟨"com/example/unfire/unfire/check/Nogoods", "in", "(J)Z"⟩ : MethodName) (head1 (Jvm.Cond.code (⟨"com/example/unfire/unfire/check/Nogoods", "in", "(J)Z"⟩ : MethodName) prog_18_method_4_code 2 (some .boolean) :: ws) ({ frames := 0, cells := 0, slots := 0, locals := 0 } : Room)) (fun aa U => aa = #[(.long q1)] ∧ Z.Warmed39 U.vm ∧ U.heap = h0) (fun _ _ _ _ _ => True) (fun _ U o U' => ∃ v L, o = .returned v ∧ Q3 Z q1 h0 n0 v U'.heap L ∧ FrameEnd U o U' L ({ frames := 0, cells := 0, slots := 0, locals := 0 } : Room).cells ({ frames := 0, cells := 0, slots := 0, locals := 0 } : Room).slots) := by
  refine MetFree.of_bodySF (plainFor_of_name pn_Nogoods) hisR ?_
  intro p e s m args below meth c s₁ Bd hml0 hP hK
  obtain ⟨rfl, hZ, hh⟩ := hP
  have hx := Bd.exec
  have hby := Bd.bytes
  have hml : c.maxLocals = 2 := hml0
  have hown : s.vm.findClass "com/example/unfire/unfire/check/Nogoods" = some m.cls := findClass_of_methodNamed Bd.named
  have hnm := (name_of_methodNamed Bd.named Bd.method).1
  have X0 : Stand p l e ({ frames := 0, cells := 0, slots := 0, locals := 0 } : Room) s m #[(.long q1)] below meth c s₁ [] 0 0 := Stand.of_body Bd
  have e0 : s₁.heap = h0 := by rw [← hh, Bd.state]; rfl
  have N0 := Fr.nil n0
  have hlk : meth.locks = false := by first | exact BodyLoose.notSynchronized Bd | exact Body.notSynchronized Bd
  have pre0 : ∀ t, Steps p.tables e below (s₁.setTop (mkF m 0 #[.val (.long q1), .second] [])) t → Steps p.tables e below (s₁.setTop (entryFrame m #[(.long q1)] 2)) t := fun t k => castTop (ef_3 m q1) k
  have pre1 : ∀ t, Steps p.tables e below (s₁.setTop (mkF m 5 #[.val (.long q1), .second] [(.int (lcmpW (q1 &&& (1 : Int64)) (1 : Int64)))])) t → Steps p.tables e below (s₁.setTop (entryFrame m #[(.long q1)] 2)) t := fun t k => pre0 t (by
    show Steps p.tables e below (s₁.setTop (mkF m 0 #[.val (.long q1), .second] [])) _
    refine XS.lloadN X0.here hx rfl (hb hby d3_0) rfl ?_
    show Steps p.tables e below (s₁.setTop (mkF m 1 #[.val (.long q1), .second] [(.long q1)])) _
    refine XS.lconst X0.here hx rfl (hb hby d3_1) ?_
    show Steps p.tables e below (s₁.setTop (mkF m 2 #[.val (.long q1), .second] [(.long (1 : Int64)), (.long q1)])) _
    refine XS.land X0.here hx rfl (hb hby d3_2) rfl ?_
    show Steps p.tables e below (s₁.setTop (mkF m 3 #[.val (.long q1), .second] [(.long (q1 &&& (1 : Int64)))])) _
    refine XS.lconst X0.here hx rfl (hb hby d3_3) ?_
    show Steps p.tables e below (s₁.setTop (mkF m 4 #[.val (.long q1), .second] [(.long (1 : Int64)), (.long (q1 &&& (1 : Int64)))])) _
    refine XS.lcmp X0.here hx rfl (hb hby d3_4) rfl ?_
    show Steps p.tables e below (s₁.setTop (mkF m 5 #[.val (.long q1), .second] [(.int (lcmpW (q1 &&& (1 : Int64)) (1 : Int64)))])) _
    exact k)
  by_cases hc5_2 : (q1 &&& (1 : Int64)) = (1 : Int64)
  · have pre3 : ∀ t, Steps p.tables e below (s₁.setTop (mkF m 13 #[.val (.long q1), .second] [(.int (1 : Int32))])) t → Steps p.tables e below (s₁.setTop (entryFrame m #[(.long q1)] 2)) t := fun t k => pre1 t (by
      show Steps p.tables e below (s₁.setTop (mkF m 5 #[.val (.long q1), .second] [(.int (lcmpW (q1 &&& (1 : Int64)) (1 : Int64)))])) _
      refine XS.ifNo X0.here hx rfl (hb hby d3_5) rfl ((if0 _ _).trans (teq ((lw_eq _ _).mpr hc5_2)).2) ?_
      show Steps p.tables e below (s₁.setTop (mkF m 8 #[.val (.long q1), .second] [])) _
      refine XS.iconst X0.here hx rfl (hb hby d3_8) ?_
      show Steps p.tables e below (s₁.setTop (mkF m 9 #[.val (.long q1), .second] [(.int (1 : Int32))])) _
      refine XS.goto X0.here hx rfl (pc0 := 9) (pc' := 13) rfl (hb hby d3_9) (by decide) (by decide) ?_
      show Steps p.tables e below (s₁.setTop (mkF m 13 #[.val (.long q1), .second] [(.int (1 : Int32))])) _
      exact k)
    obtain ⟨fs, hr, hrun, hended, hW, hsame⟩ := X0.leave (v := some (.int (1 : Int32))) (fun h => by rw [Bd.returns] at h; cases h) hlk
    refine ⟨_, _, pre3 _ ?_, hrun, hended, _, _, rfl, ?_, ⟨_, rfl⟩, hW, hsame.mono (by decide) (by decide)⟩
    · show Steps p.tables e below (s₁.setTop (mkF m 13 #[.val (.long q1), .second] [(.int (1 : Int32))])) _
      exact retN X0 hx (t := .boolean) Bd.returns (by simp) (hb hby d3_13) hr
    · show Q3 Z q1 h0 n0 _ s₁.heap _
      rw [e0]
      exact ⟨by simp only [own_in, if_pos hc5_2], N0, rfl⟩
  · have pre4 : ∀ t, Steps p.tables e below (s₁.setTop (mkF m 13 #[.val (.long q1), .second] [(.int (0 : Int32))])) t → Steps p.tables e below (s₁.setTop (entryFrame m #[(.long q1)] 2)) t := fun t k => pre1 t (by
      show Steps p.tables e below (s₁.setTop (mkF m 5 #[.val (.long q1), .second] [(.int (lcmpW (q1 &&& (1 : Int64)) (1 : Int64)))])) _
      refine XS.ifYes X0.here hx rfl (pc0 := 5) (pc' := 12) rfl (hb hby d3_5) rfl ((if0 _ _).trans (feq (fun q => hc5_2 ((lw_eq _ _).mp q))).2) (by decide) (by decide) ?_
      show Steps p.tables e below (s₁.setTop (mkF m 12 #[.val (.long q1), .second] [])) _
      refine XS.iconst X0.here hx rfl (hb hby d3_12) ?_
      show Steps p.tables e below (s₁.setTop (mkF m 13 #[.val (.long q1), .second] [(.int (0 : Int32))])) _
      exact k)
    obtain ⟨fs, hr, hrun, hended, hW, hsame⟩ := X0.leave (v := some (.int (0 : Int32))) (fun h => by rw [Bd.returns] at h; cases h) hlk
    refine ⟨_, _, pre4 _ ?_, hrun, hended, _, _, rfl, ?_, ⟨_, rfl⟩, hW, hsame.mono (by decide) (by decide)⟩
    · show Steps p.tables e below (s₁.setTop (mkF m 13 #[.val (.long q1), .second] [(.int (0 : Int32))])) _
      exact retN X0 hx (t := .boolean) Bd.returns (by simp) (hb hby d3_13) hr
    · show Q3 Z q1 h0 n0 _ s₁.heap _
      rw [e0]
      exact ⟨by simp only [own_in, if_neg hc5_2], N0, rfl⟩
theorem pd_0 : parseMethodDescriptor "(IZ)J" = some ⟨[.int, .boolean], some .long⟩ := by decide +kernel
theorem pd_1 : parseMethodDescriptor "(J)I" = some ⟨[.long], some .int⟩ := by decide +kernel
theorem pd_2 : parseMethodDescriptor "(J)Z" = some ⟨[.long], some .boolean⟩ := by decide +kernel
theorem pn_NogoodsDecisionPinLaw : plainName "com/example/unfire/unfire/check/NogoodsDecisionPinLaw" = true := by first | (simp [plainName, overriddenIn]; done) | decide +kernel
theorem ef_0 (m : MethodId) (p1 : Int32) (p2 : Int32) : entryFrame m #[(.int p1), (.int p2)] maxLocals = mkF m 0 #[.val (.int p1), .val (.int p2), .unset, .unset, .unset, .unset, .unset, .unset, .unset] [] := by first | (simp [entryFrame, mkF, argsToLocals, Value.category, maxLocals]; done) | rfl
def lc0_0 (p1 : Int32) (p2 : Int32) : Array Slot := #[.val (.int p1), .val (.int p2), .val (.int (0 : Int32)), .val (.long (own_dec p1 (0 : Int32))), .second, .val (.long (((2 : Int64) * (p1.toInt64)) + (0 : Int64))), .second, .unset, .unset]
def lc0_1 (p1 : Int32) (p2 : Int32) : Array Slot := #[.val (.int p1), .val (.int p2), .val (.int (0 : Int32)), .val (.long (own_dec p1 (0 : Int32))), .second, .val (.long (((2 : Int64) * (p1.toInt64)) + (0 : Int64))), .second, .val (.long (own_dec p1 (1 : Int32))), .second]
def lc0_2 (p1 : Int32) (p2 : Int32) : Array Slot := #[.val (.int p1), .val (.int p2), .val (.int (1 : Int32)), .val (.long (own_dec p1 (1 : Int32))), .second, .val (.long (((2 : Int64) * (p1.toInt64)) + (1 : Int64))), .second, .unset, .unset]
def lc0_3 (p1 : Int32) (p2 : Int32) : Array Slot := #[.val (.int p1), .val (.int p2), .val (.int (1 : Int32)), .val (.long (own_dec p1 (1 : Int32))), .second, .val (.long (((2 : Int64) * (p1.toInt64)) + (1 : Int64))), .second, .val (.long (own_dec p1 (0 : Int32))), .second]
def Q0 (Z : State) (p1 : Int32) (p2 : Int32) (h0 : Heap) (n0 : Nat) (v : Option Value) (h : Heap) (L : List Loc) : Prop := v = some (.int (1 : Int32)) ∧ Fr n0 L
set_option maxRecDepth 65536 in
set_option maxHeartbeats 40000000 in
theorem rm0 (l : Launch) (Z : State) (a0 : Array Value) (hw : ∀ d ∈ tables_1, d.before a0 Z = true) (ws : List Jvm.Cond) (p1 : Int32) (p2 : Int32) (h0 : Heap) (n0 : Nat) (Z0 : n0 ≤ h0.size) :
    MetFree l x (head1 (Jvm.Cond.code x code maxLocals ret :: ws) room_1) (fun aa U => aa = #[(.int p1), (.int p2)] ∧ Z.Warmed39 U.vm ∧ U.heap = h0) (fun _ _ _ _ _ => True) (fun _ U o U' => ∃ v L, o = .returned v ∧ Q0 Z p1 p2 h0 n0 v U'.heap L ∧ FrameEnd U o U' L room_1.cells room_1.slots) := by
  refine MetFree.of_bodySF (plainFor_of_name pn_NogoodsDecisionPinLaw) hisR ?_
  intro p e s m args below meth c s₁ Bd hml0 hP hK
  obtain ⟨rfl, hZ, hh⟩ := hP
  have hx := Bd.exec
  have hby := Bd.bytes
  have hml : c.maxLocals = 9 := hml0
  have hown : s.vm.findClass "com/example/unfire/unfire/check/NogoodsDecisionPinLaw" = some m.cls := findClass_of_methodNamed Bd.named
  have hnm := (name_of_methodNamed Bd.named Bd.method).1
  have X0 : Stand p l e room_1 s m #[(.int p1), (.int p2)] below meth c s₁ [] 0 0 := Stand.of_body Bd
  have e0 : s₁.heap = h0 := by rw [← hh, Bd.state]; rfl
  have N0 := Fr.nil n0
  have hlk : meth.locks = false := by first | exact BodyLoose.notSynchronized Bd | exact Body.notSynchronized Bd
  have pre0 : ∀ t, Steps p.tables e below (s₁.setTop (mkF m 0 #[.val (.int p1), .val (.int p2), .unset, .unset, .unset, .unset, .unset, .unset, .unset] [])) t → Steps p.tables e below (s₁.setTop (entryFrame m #[(.int p1), (.int p2)] maxLocals)) t := fun t k => castTop (ef_0 m p1 p2) k
  have pre1 : ∀ t, Steps p.tables e below (s₁.setTop (mkF m 3 #[.val (.int p1), .val (.int p2), .unset, .unset, .unset, .unset, .unset, .unset, .unset] [(.int (p2 &&& (1 : Int32)))])) t → Steps p.tables e below (s₁.setTop (entryFrame m #[(.int p1), (.int p2)] maxLocals)) t := fun t k => pre0 t (by
    show Steps p.tables e below (s₁.setTop (mkF m 0 #[.val (.int p1), .val (.int p2), .unset, .unset, .unset, .unset, .unset, .unset, .unset] [])) _
    refine XS.iloadN X0.here hx rfl (hb hby at_0) rfl ?_
    show Steps p.tables e below (s₁.setTop (mkF m 1 #[.val (.int p1), .val (.int p2), .unset, .unset, .unset, .unset, .unset, .unset, .unset] [(.int p2)])) _
    refine XS.iconst X0.here hx rfl (hb hby at_1) ?_
    show Steps p.tables e below (s₁.setTop (mkF m 2 #[.val (.int p1), .val (.int p2), .unset, .unset, .unset, .unset, .unset, .unset, .unset] [(.int (1 : Int32)), (.int p2)])) _
    refine XS.iand X0.here hx rfl (hb hby at_2) rfl ?_
    show Steps p.tables e below (s₁.setTop (mkF m 3 #[.val (.int p1), .val (.int p2), .unset, .unset, .unset, .unset, .unset, .unset, .unset] [(.int (p2 &&& (1 : Int32)))])) _
    exact k)
  by_cases hc3_2 : (p2 &&& (1 : Int32)) = (0 : Int32)
  · have pre3 : ∀ t, Steps p.tables e below (s₁.setTop (mkF m 14 #[.val (.int p1), .val (.int p2), .val (.int (0 : Int32)), .unset, .unset, .unset, .unset, .unset, .unset] [(.int (0 : Int32)), (.int p1)])) t → Steps p.tables e below (s₁.setTop (entryFrame m #[(.int p1), (.int p2)] maxLocals)) t := fun t k => pre1 t (by
      show Steps p.tables e below (s₁.setTop (mkF m 3 #[.val (.int p1), .val (.int p2), .unset, .unset, .unset, .unset, .unset, .unset, .unset] [(.int (p2 &&& (1 : Int32)))])) _
      refine XS.ifYes X0.here hx rfl (pc0 := 3) (pc' := 10) rfl (hb hby at_3) rfl ((if0 _ _).trans (teq hc3_2).1) (by decide) (by decide) ?_
      show Steps p.tables e below (s₁.setTop (mkF m 10 #[.val (.int p1), .val (.int p2), .unset, .unset, .unset, .unset, .unset, .unset, .unset] [])) _
      refine XS.iconst X0.here hx rfl (hb hby at_10) ?_
      show Steps p.tables e below (s₁.setTop (mkF m 11 #[.val (.int p1), .val (.int p2), .unset, .unset, .unset, .unset, .unset, .unset, .unset] [(.int (0 : Int32))])) _
      refine XS.istoreN X0.here hx rfl (hb hby at_11) rfl (l' := #[.val (.int p1), .val (.int p2), .val (.int (0 : Int32)), .unset, .unset, .unset, .unset, .unset, .unset]) rfl ?_
      show Steps p.tables e below (s₁.setTop (mkF m 12 #[.val (.int p1), .val (.int p2), .val (.int (0 : Int32)), .unset, .unset, .unset, .unset, .unset, .unset] [])) _
      refine XS.iloadN X0.here hx rfl (hb hby at_12) rfl ?_
      show Steps p.tables e below (s₁.setTop (mkF m 13 #[.val (.int p1), .val (.int p2), .val (.int (0 : Int32)), .unset, .unset, .unset, .unset, .unset, .unset] [(.int p1)])) _
      refine XS.iloadN X0.here hx rfl (hb hby at_13) rfl ?_
      show Steps p.tables e below (s₁.setTop (mkF m 14 #[.val (.int p1), .val (.int p2), .val (.int (0 : Int32)), .unset, .unset, .unset, .unset, .unset, .unset] [(.int (0 : Int32)), (.int p1)])) _
      exact k)
    obtain ⟨_, _, ⟨T4, L4, k4, n4⟩, -, X4, ⟨Lc4, hQ4, l4, y4, z4⟩, st4⟩ := Jvm.LawKit.callS X0 hx (y := (⟨"com/example/unfire/unfire/check/Nogoods", "decision", "(IZ)J"⟩ : MethodName)) hown (mvT hZ (hw _ (List.mem_of_getElem? (i := 0) rfl))) (mvT hZ (hw _ (List.mem_of_getElem? (i := 1) rfl))) (mvT hZ (hw _ (List.mem_of_getElem? (i := 2) rfl))) (mvT hZ (hw _ (List.mem_of_getElem? (i := 3) rfl))) (by decide) (backOf (W := 0) (rm1 l Z a0 hw [] p1 (0 : Int32) h0 n0 Z0) hZ (hw _ (List.mem_of_getElem? (i := 3) rfl)) (hw _ (List.mem_of_getElem? (i := 2) rfl)) (by decide) (by decide)) (g := (mkF m 14 #[.val (.int p1), .val (.int p2), .val (.int (0 : Int32)), .unset, .unset, .unset, .unset, .unset, .unset] [(.int (0 : Int32)), (.int p1)])) rfl (by rw [hml]; rfl) (argsL := [(.int p1), (.int (0 : Int32))]) (rest := []) (lenOf pd_0 rfl) rfl (by show 2 * 0 + _ ≤ _; exact Nat.le_of_eq rfl) (hb hby at_14) (fun _ _ => ⟨rfl, e0, (by decide : 0 + 0 ≤ _), (by decide : 0 + 0 ≤ _)⟩)
    dsimp only [Pt.U, Pt.locs, Pt.cells, Pt.slots] at X4 l4 y4 z4 st4 hQ4
    subst l4 y4 z4
    obtain ⟨rfl, N4q, e4⟩ := hQ4
    have N4 := Fr.app N0 N4q
    have pre5 : ∀ t, Steps p.tables e below (T4.setTop (mkF m 17 #[.val (.int p1), .val (.int p2), .val (.int (0 : Int32)), .unset, .unset, .unset, .unset, .unset, .unset] [(.long (own_dec p1 (0 : Int32)))])) t → Steps p.tables e below (s₁.setTop (entryFrame m #[(.int p1), (.int p2)] maxLocals)) t := fun t k => pre3 t (st4 t k)
    have pre6 : ∀ t, Steps p.tables e below (T4.setTop (mkF m 46 (lc0_0 p1 p2) [(.long (own_dec p1 (0 : Int32)))])) t → Steps p.tables e below (s₁.setTop (entryFrame m #[(.int p1), (.int p2)] maxLocals)) t := fun t k => pre5 t (by
      show Steps p.tables e below (T4.setTop (mkF m 17 #[.val (.int p1), .val (.int p2), .val (.int (0 : Int32)), .unset, .unset, .unset, .unset, .unset, .unset] [(.long (own_dec p1 (0 : Int32)))])) _
      refine XS.lstoreN X4.here hx rfl (hb hby at_17) rfl (l' := #[.val (.int p1), .val (.int p2), .val (.int (0 : Int32)), .val (.long (own_dec p1 (0 : Int32))), .second, .unset, .unset, .unset, .unset]) rfl ?_
      show Steps p.tables e below (T4.setTop (mkF m 18 #[.val (.int p1), .val (.int p2), .val (.int (0 : Int32)), .val (.long (own_dec p1 (0 : Int32))), .second, .unset, .unset, .unset, .unset] [])) _
      refine X4.ldc2Long hx hown (mvT hZ (hw _ (List.mem_of_getElem? (i := 4) rfl))) (g := (mkF m 18 #[.val (.int p1), .val (.int p2), .val (.int (0 : Int32)), .val (.long (own_dec p1 (0 : Int32))), .second, .unset, .unset, .unset, .unset] [])) rfl (hb hby at_18) _ ?_
      show Steps p.tables e below (T4.setTop (mkF m 21 #[.val (.int p1), .val (.int p2), .val (.int (0 : Int32)), .val (.long (own_dec p1 (0 : Int32))), .second, .unset, .unset, .unset, .unset] [(.long (2 : Int64))])) _
      refine XS.iloadN X4.here hx rfl (hb hby at_21) rfl ?_
      show Steps p.tables e below (T4.setTop (mkF m 22 #[.val (.int p1), .val (.int p2), .val (.int (0 : Int32)), .val (.long (own_dec p1 (0 : Int32))), .second, .unset, .unset, .unset, .unset] [(.int p1), (.long (2 : Int64))])) _
      refine XS.i2l X4.here hx rfl (hb hby at_22) rfl ?_
      show Steps p.tables e below (T4.setTop (mkF m 23 #[.val (.int p1), .val (.int p2), .val (.int (0 : Int32)), .val (.long (own_dec p1 (0 : Int32))), .second, .unset, .unset, .unset, .unset] [(.long (p1.toInt64)), (.long (2 : Int64))])) _
      refine XS.lmul X4.here hx rfl (hb hby at_23) rfl ?_
      show Steps p.tables e below (T4.setTop (mkF m 24 #[.val (.int p1), .val (.int p2), .val (.int (0 : Int32)), .val (.long (own_dec p1 (0 : Int32))), .second, .unset, .unset, .unset, .unset] [(.long ((2 : Int64) * (p1.toInt64)))])) _
      refine XS.iloadN X4.here hx rfl (hb hby at_24) rfl ?_
      show Steps p.tables e below (T4.setTop (mkF m 25 #[.val (.int p1), .val (.int p2), .val (.int (0 : Int32)), .val (.long (own_dec p1 (0 : Int32))), .second, .unset, .unset, .unset, .unset] [(.int (0 : Int32)), (.long ((2 : Int64) * (p1.toInt64)))])) _
      refine XS.ifYes X4.here hx rfl (pc0 := 25) (pc' := 32) rfl (hb hby at_25) rfl ((if0 _ _).trans (teq (by decide)).1) (by decide) (by decide) ?_
      show Steps p.tables e below (T4.setTop (mkF m 32 #[.val (.int p1), .val (.int p2), .val (.int (0 : Int32)), .val (.long (own_dec p1 (0 : Int32))), .second, .unset, .unset, .unset, .unset] [(.long ((2 : Int64) * (p1.toInt64)))])) _
      refine XS.lconst X4.here hx rfl (hb hby at_32) ?_
      show Steps p.tables e below (T4.setTop (mkF m 33 #[.val (.int p1), .val (.int p2), .val (.int (0 : Int32)), .val (.long (own_dec p1 (0 : Int32))), .second, .unset, .unset, .unset, .unset] [(.long (0 : Int64)), (.long ((2 : Int64) * (p1.toInt64)))])) _
      refine XS.ladd X4.here hx rfl (hb hby at_33) rfl ?_
      show Steps p.tables e below (T4.setTop (mkF m 34 #[.val (.int p1), .val (.int p2), .val (.int (0 : Int32)), .val (.long (own_dec p1 (0 : Int32))), .second, .unset, .unset, .unset, .unset] [(.long (((2 : Int64) * (p1.toInt64)) + (0 : Int64)))])) _
      refine XS.lstore X4.here hx rfl (hb hby at_34) rfl (l' := (lc0_0 p1 p2)) rfl ?_
      show Steps p.tables e below (T4.setTop (mkF m 36 (lc0_0 p1 p2) [])) _
      refine XS.lloadN X4.here hx rfl (hb hby at_36) rfl ?_
      show Steps p.tables e below (T4.setTop (mkF m 37 (lc0_0 p1 p2) [(.long (own_dec p1 (0 : Int32)))])) _
      refine XS.lload X4.here hx rfl (hb hby at_37) rfl ?_
      show Steps p.tables e below (T4.setTop (mkF m 39 (lc0_0 p1 p2) [(.long (((2 : Int64) * (p1.toInt64)) + (0 : Int64))), (.long (own_dec p1 (0 : Int32)))])) _
      refine XS.lcmp X4.here hx rfl (hb hby at_39) rfl ?_
      show Steps p.tables e below (T4.setTop (mkF m 40 (lc0_0 p1 p2) [(.int (lcmpW (own_dec p1 (0 : Int32)) (((2 : Int64) * (p1.toInt64)) + (0 : Int64))))])) _
      refine XS.ifYes X4.here hx rfl (pc0 := 40) (pc' := 45) rfl (hb hby at_40) rfl ((if0 _ _).trans (teq ((lw_eq _ _).mpr (show (own_dec p1 (0 : Int32)) = (((2 : Int64) * (p1.toInt64)) + (0 : Int64)) from own_d0 p1))).1) (by decide) (by decide) ?_
      show Steps p.tables e below (T4.setTop (mkF m 45 (lc0_0 p1 p2) [])) _
      refine XS.lloadN X4.here hx rfl (hb hby at_45) rfl ?_
      show Steps p.tables e below (T4.setTop (mkF m 46 (lc0_0 p1 p2) [(.long (own_dec p1 (0 : Int32)))])) _
      exact k)
    obtain ⟨_, _, ⟨T7, L7, k7, n7⟩, -, X7, ⟨Lc7, hQ7, l7, y7, z7⟩, st7⟩ := Jvm.LawKit.callS X4 hx (y := (⟨"com/example/unfire/unfire/check/Nogoods", "pair", "(J)I"⟩ : MethodName)) hown (mvT hZ (hw _ (List.mem_of_getElem? (i := 5) rfl))) (mvT hZ (hw _ (List.mem_of_getElem? (i := 6) rfl))) (mvT hZ (hw _ (List.mem_of_getElem? (i := 2) rfl))) (mvT hZ (hw _ (List.mem_of_getElem? (i := 7) rfl))) (by decide) (backOf (W := 0) (rm2 l Z a0 hw [] (own_dec p1 (0 : Int32)) h0 n0 Z0) hZ (hw _ (List.mem_of_getElem? (i := 7) rfl)) (hw _ (List.mem_of_getElem? (i := 2) rfl)) (by decide) (by decide)) (g := (mkF m 46 (lc0_0 p1 p2) [(.long (own_dec p1 (0 : Int32)))])) rfl (by rw [hml]; rfl) (argsL := [(.long (own_dec p1 (0 : Int32)))]) (rest := []) (lenOf pd_1 rfl) rfl (by show 2 * 0 + _ ≤ _; exact Nat.le_of_eq rfl) (hb hby at_46) (fun _ _ => ⟨rfl, e4, (by decide : 0 + 0 ≤ _), (by decide : 0 + 0 ≤ _)⟩)
    dsimp only [Pt.U, Pt.locs, Pt.cells, Pt.slots] at X7 l7 y7 z7 st7 hQ7
    subst l7 y7 z7
    obtain ⟨rfl, N7q, e7⟩ := hQ7
    have N7 := Fr.app N4 N7q
    have pre8 : ∀ t, Steps p.tables e below (T7.setTop (mkF m 49 (lc0_0 p1 p2) [(.int (own_pair (own_dec p1 (0 : Int32))))])) t → Steps p.tables e below (s₁.setTop (entryFrame m #[(.int p1), (.int p2)] maxLocals)) t := fun t k => pre6 t (st7 t k)
    have pre9 : ∀ t, Steps p.tables e below (T7.setTop (mkF m 56 (lc0_0 p1 p2) [(.long (own_dec p1 (0 : Int32)))])) t → Steps p.tables e below (s₁.setTop (entryFrame m #[(.int p1), (.int p2)] maxLocals)) t := fun t k => pre8 t (by
      show Steps p.tables e below (T7.setTop (mkF m 49 (lc0_0 p1 p2) [(.int (own_pair (own_dec p1 (0 : Int32))))])) _
      refine XS.iloadN X7.here hx rfl (hb hby at_49) rfl ?_
      show Steps p.tables e below (T7.setTop (mkF m 50 (lc0_0 p1 p2) [(.int p1), (.int (own_pair (own_dec p1 (0 : Int32))))])) _
      refine XS.icmpYes X7.here hx rfl (pc0 := 50) (pc' := 55) rfl (hb hby at_50) rfl (teq (show (own_pair (own_dec p1 (0 : Int32))) = p1 from own_p0 p1)).1 (by decide) (by decide) ?_
      show Steps p.tables e below (T7.setTop (mkF m 55 (lc0_0 p1 p2) [])) _
      refine XS.lloadN X7.here hx rfl (hb hby at_55) rfl ?_
      show Steps p.tables e below (T7.setTop (mkF m 56 (lc0_0 p1 p2) [(.long (own_dec p1 (0 : Int32)))])) _
      exact k)
    obtain ⟨_, _, ⟨T10, L10, k10, n10⟩, -, X10, ⟨Lc10, hQ10, l10, y10, z10⟩, st10⟩ := Jvm.LawKit.callS X7 hx (y := (⟨"com/example/unfire/unfire/check/Nogoods", "in", "(J)Z"⟩ : MethodName)) hown (mvT hZ (hw _ (List.mem_of_getElem? (i := 8) rfl))) (mvT hZ (hw _ (List.mem_of_getElem? (i := 9) rfl))) (mvT hZ (hw _ (List.mem_of_getElem? (i := 2) rfl))) (mvT hZ (hw _ (List.mem_of_getElem? (i := 10) rfl))) (by decide) (backOf (W := 0) (rm3 l Z a0 hw [] (own_dec p1 (0 : Int32)) h0 n0 Z0) hZ (hw _ (List.mem_of_getElem? (i := 10) rfl)) (hw _ (List.mem_of_getElem? (i := 2) rfl)) (by decide) (by decide)) (g := (mkF m 56 (lc0_0 p1 p2) [(.long (own_dec p1 (0 : Int32)))])) rfl (by rw [hml]; rfl) (argsL := [(.long (own_dec p1 (0 : Int32)))]) (rest := []) (lenOf pd_2 rfl) rfl (by show 2 * 0 + _ ≤ _; exact Nat.le_of_eq rfl) (hb hby at_56) (fun _ _ => ⟨rfl, e7, (by decide : 0 + 0 ≤ _), (by decide : 0 + 0 ≤ _)⟩)
    dsimp only [Pt.U, Pt.locs, Pt.cells, Pt.slots] at X10 l10 y10 z10 st10 hQ10
    subst l10 y10 z10
    obtain ⟨rfl, N10q, e10⟩ := hQ10
    have N10 := Fr.app N7 N10q
    have pre11 : ∀ t, Steps p.tables e below (T10.setTop (mkF m 59 (lc0_0 p1 p2) [(.int (own_in (own_dec p1 (0 : Int32))))])) t → Steps p.tables e below (s₁.setTop (entryFrame m #[(.int p1), (.int p2)] maxLocals)) t := fun t k => pre9 t (st10 t k)
    have pre12 : ∀ t, Steps p.tables e below (T10.setTop (mkF m 75 (lc0_0 p1 p2) [(.int (1 : Int32)), (.int p1)])) t → Steps p.tables e below (s₁.setTop (entryFrame m #[(.int p1), (.int p2)] maxLocals)) t := fun t k => pre11 t (by
      show Steps p.tables e below (T10.setTop (mkF m 59 (lc0_0 p1 p2) [(.int (own_in (own_dec p1 (0 : Int32))))])) _
      refine XS.iloadN X10.here hx rfl (hb hby at_59) rfl ?_
      show Steps p.tables e below (T10.setTop (mkF m 60 (lc0_0 p1 p2) [(.int (0 : Int32)), (.int (own_in (own_dec p1 (0 : Int32))))])) _
      refine XS.icmpYes X10.here hx rfl (pc0 := 60) (pc' := 65) rfl (hb hby at_60) rfl (teq (show (own_in (own_dec p1 (0 : Int32))) = (0 : Int32) from own_i0 p1)).1 (by decide) (by decide) ?_
      show Steps p.tables e below (T10.setTop (mkF m 65 (lc0_0 p1 p2) [])) _
      refine XS.iloadN X10.here hx rfl (hb hby at_65) rfl ?_
      show Steps p.tables e below (T10.setTop (mkF m 66 (lc0_0 p1 p2) [(.int p1)])) _
      refine XS.iloadN X10.here hx rfl (hb hby at_66) rfl ?_
      show Steps p.tables e below (T10.setTop (mkF m 67 (lc0_0 p1 p2) [(.int (0 : Int32)), (.int p1)])) _
      refine XS.ifNo X10.here hx rfl (hb hby at_67) rfl ((if0 _ _).trans (teq (by decide)).2) ?_
      show Steps p.tables e below (T10.setTop (mkF m 70 (lc0_0 p1 p2) [(.int p1)])) _
      refine XS.iconst X10.here hx rfl (hb hby at_70) ?_
      show Steps p.tables e below (T10.setTop (mkF m 71 (lc0_0 p1 p2) [(.int (1 : Int32)), (.int p1)])) _
      refine XS.goto X10.here hx rfl (pc0 := 71) (pc' := 75) rfl (hb hby at_71) (by decide) (by decide) ?_
      show Steps p.tables e below (T10.setTop (mkF m 75 (lc0_0 p1 p2) [(.int (1 : Int32)), (.int p1)])) _
      exact k)
    obtain ⟨_, _, ⟨T13, L13, k13, n13⟩, -, X13, ⟨Lc13, hQ13, l13, y13, z13⟩, st13⟩ := Jvm.LawKit.callS X10 hx (y := (⟨"com/example/unfire/unfire/check/Nogoods", "decision", "(IZ)J"⟩ : MethodName)) hown (mvT hZ (hw _ (List.mem_of_getElem? (i := 0) rfl))) (mvT hZ (hw _ (List.mem_of_getElem? (i := 1) rfl))) (mvT hZ (hw _ (List.mem_of_getElem? (i := 2) rfl))) (mvT hZ (hw _ (List.mem_of_getElem? (i := 3) rfl))) (by decide) (backOf (W := 0) (rm1 l Z a0 hw [] p1 (1 : Int32) h0 n0 Z0) hZ (hw _ (List.mem_of_getElem? (i := 3) rfl)) (hw _ (List.mem_of_getElem? (i := 2) rfl)) (by decide) (by decide)) (g := (mkF m 75 (lc0_0 p1 p2) [(.int (1 : Int32)), (.int p1)])) rfl (by rw [hml]; rfl) (argsL := [(.int p1), (.int (1 : Int32))]) (rest := []) (lenOf pd_0 rfl) rfl (by show 2 * 0 + _ ≤ _; exact Nat.le_of_eq rfl) (hb hby at_75) (fun _ _ => ⟨rfl, e10, (by decide : 0 + 0 ≤ _), (by decide : 0 + 0 ≤ _)⟩)
    dsimp only [Pt.U, Pt.locs, Pt.cells, Pt.slots] at X13 l13 y13 z13 st13 hQ13
    subst l13 y13 z13
    obtain ⟨rfl, N13q, e13⟩ := hQ13
    have N13 := Fr.app N10 N13q
    have pre14 : ∀ t, Steps p.tables e below (T13.setTop (mkF m 78 (lc0_0 p1 p2) [(.long (own_dec p1 (1 : Int32)))])) t → Steps p.tables e below (s₁.setTop (entryFrame m #[(.int p1), (.int p2)] maxLocals)) t := fun t k => pre12 t (st13 t k)
    have pre15 : ∀ t, Steps p.tables e below (T13.setTop (mkF m 94 (lc0_1 p1 p2) [(.int (1 : Int32))])) t → Steps p.tables e below (s₁.setTop (entryFrame m #[(.int p1), (.int p2)] maxLocals)) t := fun t k => pre14 t (by
      show Steps p.tables e below (T13.setTop (mkF m 78 (lc0_0 p1 p2) [(.long (own_dec p1 (1 : Int32)))])) _
      refine XS.lstore X13.here hx rfl (hb hby at_78) rfl (l' := (lc0_1 p1 p2)) rfl ?_
      show Steps p.tables e below (T13.setTop (mkF m 80 (lc0_1 p1 p2) [])) _
      refine XS.lload X13.here hx rfl (hb hby at_80) rfl ?_
      show Steps p.tables e below (T13.setTop (mkF m 82 (lc0_1 p1 p2) [(.long (own_dec p1 (1 : Int32)))])) _
      refine XS.lloadN X13.here hx rfl (hb hby at_82) rfl ?_
      show Steps p.tables e below (T13.setTop (mkF m 83 (lc0_1 p1 p2) [(.long (own_dec p1 (0 : Int32))), (.long (own_dec p1 (1 : Int32)))])) _
      refine XS.lconst X13.here hx rfl (hb hby at_83) ?_
      show Steps p.tables e below (T13.setTop (mkF m 84 (lc0_1 p1 p2) [(.long (1 : Int64)), (.long (own_dec p1 (0 : Int32))), (.long (own_dec p1 (1 : Int32)))])) _
      refine XS.lxor X13.here hx rfl (hb hby at_84) rfl ?_
      show Steps p.tables e below (T13.setTop (mkF m 85 (lc0_1 p1 p2) [(.long ((own_dec p1 (0 : Int32)) ^^^ (1 : Int64))), (.long (own_dec p1 (1 : Int32)))])) _
      refine XS.lcmp X13.here hx rfl (hb hby at_85) rfl ?_
      show Steps p.tables e below (T13.setTop (mkF m 86 (lc0_1 p1 p2) [(.int (lcmpW (own_dec p1 (1 : Int32)) ((own_dec p1 (0 : Int32)) ^^^ (1 : Int64))))])) _
      refine XS.ifNo X13.here hx rfl (hb hby at_86) rfl ((if0 _ _).trans (teq ((lw_eq _ _).mpr (show (own_dec p1 (1 : Int32)) = ((own_dec p1 (0 : Int32)) ^^^ (1 : Int64)) from own_o0 p1))).2) ?_
      show Steps p.tables e below (T13.setTop (mkF m 89 (lc0_1 p1 p2) [])) _
      refine XS.iconst X13.here hx rfl (hb hby at_89) ?_
      show Steps p.tables e below (T13.setTop (mkF m 90 (lc0_1 p1 p2) [(.int (1 : Int32))])) _
      refine XS.goto X13.here hx rfl (pc0 := 90) (pc' := 94) rfl (hb hby at_90) (by decide) (by decide) ?_
      show Steps p.tables e below (T13.setTop (mkF m 94 (lc0_1 p1 p2) [(.int (1 : Int32))])) _
      exact k)
    obtain ⟨fs, hr, hrun, hended, hW, hsame⟩ := X13.leave (v := some (.int (1 : Int32))) (fun h => by rw [Bd.returns] at h; cases h) hlk
    refine ⟨_, _, pre15 _ ?_, hrun, hended, _, _, rfl, ?_, ⟨_, rfl⟩, hW, hsame.mono (by decide) (by decide)⟩
    · show Steps p.tables e below (T13.setTop (mkF m 94 (lc0_1 p1 p2) [(.int (1 : Int32))])) _
      exact retN X13 hx (t := .boolean) Bd.returns (by simp) (hb hby at_94) hr
    · show Q0 Z p1 p2 h0 n0 _ T13.heap _
      rw [e13]
      exact ⟨rfl, N13⟩
  · have pre16 : ∀ t, Steps p.tables e below (s₁.setTop (mkF m 14 #[.val (.int p1), .val (.int p2), .val (.int (1 : Int32)), .unset, .unset, .unset, .unset, .unset, .unset] [(.int (1 : Int32)), (.int p1)])) t → Steps p.tables e below (s₁.setTop (entryFrame m #[(.int p1), (.int p2)] maxLocals)) t := fun t k => pre1 t (by
      show Steps p.tables e below (s₁.setTop (mkF m 3 #[.val (.int p1), .val (.int p2), .unset, .unset, .unset, .unset, .unset, .unset, .unset] [(.int (p2 &&& (1 : Int32)))])) _
      refine XS.ifNo X0.here hx rfl (hb hby at_3) rfl ((if0 _ _).trans (feq hc3_2).1) ?_
      show Steps p.tables e below (s₁.setTop (mkF m 6 #[.val (.int p1), .val (.int p2), .unset, .unset, .unset, .unset, .unset, .unset, .unset] [])) _
      refine XS.iconst X0.here hx rfl (hb hby at_6) ?_
      show Steps p.tables e below (s₁.setTop (mkF m 7 #[.val (.int p1), .val (.int p2), .unset, .unset, .unset, .unset, .unset, .unset, .unset] [(.int (1 : Int32))])) _
      refine XS.goto X0.here hx rfl (pc0 := 7) (pc' := 11) rfl (hb hby at_7) (by decide) (by decide) ?_
      show Steps p.tables e below (s₁.setTop (mkF m 11 #[.val (.int p1), .val (.int p2), .unset, .unset, .unset, .unset, .unset, .unset, .unset] [(.int (1 : Int32))])) _
      refine XS.istoreN X0.here hx rfl (hb hby at_11) rfl (l' := #[.val (.int p1), .val (.int p2), .val (.int (1 : Int32)), .unset, .unset, .unset, .unset, .unset, .unset]) rfl ?_
      show Steps p.tables e below (s₁.setTop (mkF m 12 #[.val (.int p1), .val (.int p2), .val (.int (1 : Int32)), .unset, .unset, .unset, .unset, .unset, .unset] [])) _
      refine XS.iloadN X0.here hx rfl (hb hby at_12) rfl ?_
      show Steps p.tables e below (s₁.setTop (mkF m 13 #[.val (.int p1), .val (.int p2), .val (.int (1 : Int32)), .unset, .unset, .unset, .unset, .unset, .unset] [(.int p1)])) _
      refine XS.iloadN X0.here hx rfl (hb hby at_13) rfl ?_
      show Steps p.tables e below (s₁.setTop (mkF m 14 #[.val (.int p1), .val (.int p2), .val (.int (1 : Int32)), .unset, .unset, .unset, .unset, .unset, .unset] [(.int (1 : Int32)), (.int p1)])) _
      exact k)
    obtain ⟨_, _, ⟨T17, L17, k17, n17⟩, -, X17, ⟨Lc17, hQ17, l17, y17, z17⟩, st17⟩ := Jvm.LawKit.callS X0 hx (y := (⟨"com/example/unfire/unfire/check/Nogoods", "decision", "(IZ)J"⟩ : MethodName)) hown (mvT hZ (hw _ (List.mem_of_getElem? (i := 0) rfl))) (mvT hZ (hw _ (List.mem_of_getElem? (i := 1) rfl))) (mvT hZ (hw _ (List.mem_of_getElem? (i := 2) rfl))) (mvT hZ (hw _ (List.mem_of_getElem? (i := 3) rfl))) (by decide) (backOf (W := 0) (rm1 l Z a0 hw [] p1 (1 : Int32) h0 n0 Z0) hZ (hw _ (List.mem_of_getElem? (i := 3) rfl)) (hw _ (List.mem_of_getElem? (i := 2) rfl)) (by decide) (by decide)) (g := (mkF m 14 #[.val (.int p1), .val (.int p2), .val (.int (1 : Int32)), .unset, .unset, .unset, .unset, .unset, .unset] [(.int (1 : Int32)), (.int p1)])) rfl (by rw [hml]; rfl) (argsL := [(.int p1), (.int (1 : Int32))]) (rest := []) (lenOf pd_0 rfl) rfl (by show 2 * 0 + _ ≤ _; exact Nat.le_of_eq rfl) (hb hby at_14) (fun _ _ => ⟨rfl, e0, (by decide : 0 + 0 ≤ _), (by decide : 0 + 0 ≤ _)⟩)
    dsimp only [Pt.U, Pt.locs, Pt.cells, Pt.slots] at X17 l17 y17 z17 st17 hQ17
    subst l17 y17 z17
    obtain ⟨rfl, N17q, e17⟩ := hQ17
    have N17 := Fr.app N0 N17q
    have pre18 : ∀ t, Steps p.tables e below (T17.setTop (mkF m 17 #[.val (.int p1), .val (.int p2), .val (.int (1 : Int32)), .unset, .unset, .unset, .unset, .unset, .unset] [(.long (own_dec p1 (1 : Int32)))])) t → Steps p.tables e below (s₁.setTop (entryFrame m #[(.int p1), (.int p2)] maxLocals)) t := fun t k => pre16 t (st17 t k)
    have pre19 : ∀ t, Steps p.tables e below (T17.setTop (mkF m 46 (lc0_2 p1 p2) [(.long (own_dec p1 (1 : Int32)))])) t → Steps p.tables e below (s₁.setTop (entryFrame m #[(.int p1), (.int p2)] maxLocals)) t := fun t k => pre18 t (by
      show Steps p.tables e below (T17.setTop (mkF m 17 #[.val (.int p1), .val (.int p2), .val (.int (1 : Int32)), .unset, .unset, .unset, .unset, .unset, .unset] [(.long (own_dec p1 (1 : Int32)))])) _
      refine XS.lstoreN X17.here hx rfl (hb hby at_17) rfl (l' := #[.val (.int p1), .val (.int p2), .val (.int (1 : Int32)), .val (.long (own_dec p1 (1 : Int32))), .second, .unset, .unset, .unset, .unset]) rfl ?_
      show Steps p.tables e below (T17.setTop (mkF m 18 #[.val (.int p1), .val (.int p2), .val (.int (1 : Int32)), .val (.long (own_dec p1 (1 : Int32))), .second, .unset, .unset, .unset, .unset] [])) _
      refine X17.ldc2Long hx hown (mvT hZ (hw _ (List.mem_of_getElem? (i := 4) rfl))) (g := (mkF m 18 #[.val (.int p1), .val (.int p2), .val (.int (1 : Int32)), .val (.long (own_dec p1 (1 : Int32))), .second, .unset, .unset, .unset, .unset] [])) rfl (hb hby at_18) _ ?_
      show Steps p.tables e below (T17.setTop (mkF m 21 #[.val (.int p1), .val (.int p2), .val (.int (1 : Int32)), .val (.long (own_dec p1 (1 : Int32))), .second, .unset, .unset, .unset, .unset] [(.long (2 : Int64))])) _
      refine XS.iloadN X17.here hx rfl (hb hby at_21) rfl ?_
      show Steps p.tables e below (T17.setTop (mkF m 22 #[.val (.int p1), .val (.int p2), .val (.int (1 : Int32)), .val (.long (own_dec p1 (1 : Int32))), .second, .unset, .unset, .unset, .unset] [(.int p1), (.long (2 : Int64))])) _
      refine XS.i2l X17.here hx rfl (hb hby at_22) rfl ?_
      show Steps p.tables e below (T17.setTop (mkF m 23 #[.val (.int p1), .val (.int p2), .val (.int (1 : Int32)), .val (.long (own_dec p1 (1 : Int32))), .second, .unset, .unset, .unset, .unset] [(.long (p1.toInt64)), (.long (2 : Int64))])) _
      refine XS.lmul X17.here hx rfl (hb hby at_23) rfl ?_
      show Steps p.tables e below (T17.setTop (mkF m 24 #[.val (.int p1), .val (.int p2), .val (.int (1 : Int32)), .val (.long (own_dec p1 (1 : Int32))), .second, .unset, .unset, .unset, .unset] [(.long ((2 : Int64) * (p1.toInt64)))])) _
      refine XS.iloadN X17.here hx rfl (hb hby at_24) rfl ?_
      show Steps p.tables e below (T17.setTop (mkF m 25 #[.val (.int p1), .val (.int p2), .val (.int (1 : Int32)), .val (.long (own_dec p1 (1 : Int32))), .second, .unset, .unset, .unset, .unset] [(.int (1 : Int32)), (.long ((2 : Int64) * (p1.toInt64)))])) _
      refine XS.ifNo X17.here hx rfl (hb hby at_25) rfl ((if0 _ _).trans (feq (by decide)).1) ?_
      show Steps p.tables e below (T17.setTop (mkF m 28 #[.val (.int p1), .val (.int p2), .val (.int (1 : Int32)), .val (.long (own_dec p1 (1 : Int32))), .second, .unset, .unset, .unset, .unset] [(.long ((2 : Int64) * (p1.toInt64)))])) _
      refine XS.lconst X17.here hx rfl (hb hby at_28) ?_
      show Steps p.tables e below (T17.setTop (mkF m 29 #[.val (.int p1), .val (.int p2), .val (.int (1 : Int32)), .val (.long (own_dec p1 (1 : Int32))), .second, .unset, .unset, .unset, .unset] [(.long (1 : Int64)), (.long ((2 : Int64) * (p1.toInt64)))])) _
      refine XS.goto X17.here hx rfl (pc0 := 29) (pc' := 33) rfl (hb hby at_29) (by decide) (by decide) ?_
      show Steps p.tables e below (T17.setTop (mkF m 33 #[.val (.int p1), .val (.int p2), .val (.int (1 : Int32)), .val (.long (own_dec p1 (1 : Int32))), .second, .unset, .unset, .unset, .unset] [(.long (1 : Int64)), (.long ((2 : Int64) * (p1.toInt64)))])) _
      refine XS.ladd X17.here hx rfl (hb hby at_33) rfl ?_
      show Steps p.tables e below (T17.setTop (mkF m 34 #[.val (.int p1), .val (.int p2), .val (.int (1 : Int32)), .val (.long (own_dec p1 (1 : Int32))), .second, .unset, .unset, .unset, .unset] [(.long (((2 : Int64) * (p1.toInt64)) + (1 : Int64)))])) _
      refine XS.lstore X17.here hx rfl (hb hby at_34) rfl (l' := (lc0_2 p1 p2)) rfl ?_
      show Steps p.tables e below (T17.setTop (mkF m 36 (lc0_2 p1 p2) [])) _
      refine XS.lloadN X17.here hx rfl (hb hby at_36) rfl ?_
      show Steps p.tables e below (T17.setTop (mkF m 37 (lc0_2 p1 p2) [(.long (own_dec p1 (1 : Int32)))])) _
      refine XS.lload X17.here hx rfl (hb hby at_37) rfl ?_
      show Steps p.tables e below (T17.setTop (mkF m 39 (lc0_2 p1 p2) [(.long (((2 : Int64) * (p1.toInt64)) + (1 : Int64))), (.long (own_dec p1 (1 : Int32)))])) _
      refine XS.lcmp X17.here hx rfl (hb hby at_39) rfl ?_
      show Steps p.tables e below (T17.setTop (mkF m 40 (lc0_2 p1 p2) [(.int (lcmpW (own_dec p1 (1 : Int32)) (((2 : Int64) * (p1.toInt64)) + (1 : Int64))))])) _
      refine XS.ifYes X17.here hx rfl (pc0 := 40) (pc' := 45) rfl (hb hby at_40) rfl ((if0 _ _).trans (teq ((lw_eq _ _).mpr (show (own_dec p1 (1 : Int32)) = (((2 : Int64) * (p1.toInt64)) + (1 : Int64)) from own_d1 p1))).1) (by decide) (by decide) ?_
      show Steps p.tables e below (T17.setTop (mkF m 45 (lc0_2 p1 p2) [])) _
      refine XS.lloadN X17.here hx rfl (hb hby at_45) rfl ?_
      show Steps p.tables e below (T17.setTop (mkF m 46 (lc0_2 p1 p2) [(.long (own_dec p1 (1 : Int32)))])) _
      exact k)
    obtain ⟨_, _, ⟨T20, L20, k20, n20⟩, -, X20, ⟨Lc20, hQ20, l20, y20, z20⟩, st20⟩ := Jvm.LawKit.callS X17 hx (y := (⟨"com/example/unfire/unfire/check/Nogoods", "pair", "(J)I"⟩ : MethodName)) hown (mvT hZ (hw _ (List.mem_of_getElem? (i := 5) rfl))) (mvT hZ (hw _ (List.mem_of_getElem? (i := 6) rfl))) (mvT hZ (hw _ (List.mem_of_getElem? (i := 2) rfl))) (mvT hZ (hw _ (List.mem_of_getElem? (i := 7) rfl))) (by decide) (backOf (W := 0) (rm2 l Z a0 hw [] (own_dec p1 (1 : Int32)) h0 n0 Z0) hZ (hw _ (List.mem_of_getElem? (i := 7) rfl)) (hw _ (List.mem_of_getElem? (i := 2) rfl)) (by decide) (by decide)) (g := (mkF m 46 (lc0_2 p1 p2) [(.long (own_dec p1 (1 : Int32)))])) rfl (by rw [hml]; rfl) (argsL := [(.long (own_dec p1 (1 : Int32)))]) (rest := []) (lenOf pd_1 rfl) rfl (by show 2 * 0 + _ ≤ _; exact Nat.le_of_eq rfl) (hb hby at_46) (fun _ _ => ⟨rfl, e17, (by decide : 0 + 0 ≤ _), (by decide : 0 + 0 ≤ _)⟩)
    dsimp only [Pt.U, Pt.locs, Pt.cells, Pt.slots] at X20 l20 y20 z20 st20 hQ20
    subst l20 y20 z20
    obtain ⟨rfl, N20q, e20⟩ := hQ20
    have N20 := Fr.app N17 N20q
    have pre21 : ∀ t, Steps p.tables e below (T20.setTop (mkF m 49 (lc0_2 p1 p2) [(.int (own_pair (own_dec p1 (1 : Int32))))])) t → Steps p.tables e below (s₁.setTop (entryFrame m #[(.int p1), (.int p2)] maxLocals)) t := fun t k => pre19 t (st20 t k)
    have pre22 : ∀ t, Steps p.tables e below (T20.setTop (mkF m 56 (lc0_2 p1 p2) [(.long (own_dec p1 (1 : Int32)))])) t → Steps p.tables e below (s₁.setTop (entryFrame m #[(.int p1), (.int p2)] maxLocals)) t := fun t k => pre21 t (by
      show Steps p.tables e below (T20.setTop (mkF m 49 (lc0_2 p1 p2) [(.int (own_pair (own_dec p1 (1 : Int32))))])) _
      refine XS.iloadN X20.here hx rfl (hb hby at_49) rfl ?_
      show Steps p.tables e below (T20.setTop (mkF m 50 (lc0_2 p1 p2) [(.int p1), (.int (own_pair (own_dec p1 (1 : Int32))))])) _
      refine XS.icmpYes X20.here hx rfl (pc0 := 50) (pc' := 55) rfl (hb hby at_50) rfl (teq (show (own_pair (own_dec p1 (1 : Int32))) = p1 from own_p1 p1)).1 (by decide) (by decide) ?_
      show Steps p.tables e below (T20.setTop (mkF m 55 (lc0_2 p1 p2) [])) _
      refine XS.lloadN X20.here hx rfl (hb hby at_55) rfl ?_
      show Steps p.tables e below (T20.setTop (mkF m 56 (lc0_2 p1 p2) [(.long (own_dec p1 (1 : Int32)))])) _
      exact k)
    obtain ⟨_, _, ⟨T23, L23, k23, n23⟩, -, X23, ⟨Lc23, hQ23, l23, y23, z23⟩, st23⟩ := Jvm.LawKit.callS X20 hx (y := (⟨"com/example/unfire/unfire/check/Nogoods", "in", "(J)Z"⟩ : MethodName)) hown (mvT hZ (hw _ (List.mem_of_getElem? (i := 8) rfl))) (mvT hZ (hw _ (List.mem_of_getElem? (i := 9) rfl))) (mvT hZ (hw _ (List.mem_of_getElem? (i := 2) rfl))) (mvT hZ (hw _ (List.mem_of_getElem? (i := 10) rfl))) (by decide) (backOf (W := 0) (rm3 l Z a0 hw [] (own_dec p1 (1 : Int32)) h0 n0 Z0) hZ (hw _ (List.mem_of_getElem? (i := 10) rfl)) (hw _ (List.mem_of_getElem? (i := 2) rfl)) (by decide) (by decide)) (g := (mkF m 56 (lc0_2 p1 p2) [(.long (own_dec p1 (1 : Int32)))])) rfl (by rw [hml]; rfl) (argsL := [(.long (own_dec p1 (1 : Int32)))]) (rest := []) (lenOf pd_2 rfl) rfl (by show 2 * 0 + _ ≤ _; exact Nat.le_of_eq rfl) (hb hby at_56) (fun _ _ => ⟨rfl, e20, (by decide : 0 + 0 ≤ _), (by decide : 0 + 0 ≤ _)⟩)
    dsimp only [Pt.U, Pt.locs, Pt.cells, Pt.slots] at X23 l23 y23 z23 st23 hQ23
    subst l23 y23 z23
    obtain ⟨rfl, N23q, e23⟩ := hQ23
    have N23 := Fr.app N20 N23q
    have pre24 : ∀ t, Steps p.tables e below (T23.setTop (mkF m 59 (lc0_2 p1 p2) [(.int (own_in (own_dec p1 (1 : Int32))))])) t → Steps p.tables e below (s₁.setTop (entryFrame m #[(.int p1), (.int p2)] maxLocals)) t := fun t k => pre22 t (st23 t k)
    have pre25 : ∀ t, Steps p.tables e below (T23.setTop (mkF m 75 (lc0_2 p1 p2) [(.int (0 : Int32)), (.int p1)])) t → Steps p.tables e below (s₁.setTop (entryFrame m #[(.int p1), (.int p2)] maxLocals)) t := fun t k => pre24 t (by
      show Steps p.tables e below (T23.setTop (mkF m 59 (lc0_2 p1 p2) [(.int (own_in (own_dec p1 (1 : Int32))))])) _
      refine XS.iloadN X23.here hx rfl (hb hby at_59) rfl ?_
      show Steps p.tables e below (T23.setTop (mkF m 60 (lc0_2 p1 p2) [(.int (1 : Int32)), (.int (own_in (own_dec p1 (1 : Int32))))])) _
      refine XS.icmpYes X23.here hx rfl (pc0 := 60) (pc' := 65) rfl (hb hby at_60) rfl (teq (show (own_in (own_dec p1 (1 : Int32))) = (1 : Int32) from own_i1 p1)).1 (by decide) (by decide) ?_
      show Steps p.tables e below (T23.setTop (mkF m 65 (lc0_2 p1 p2) [])) _
      refine XS.iloadN X23.here hx rfl (hb hby at_65) rfl ?_
      show Steps p.tables e below (T23.setTop (mkF m 66 (lc0_2 p1 p2) [(.int p1)])) _
      refine XS.iloadN X23.here hx rfl (hb hby at_66) rfl ?_
      show Steps p.tables e below (T23.setTop (mkF m 67 (lc0_2 p1 p2) [(.int (1 : Int32)), (.int p1)])) _
      refine XS.ifYes X23.here hx rfl (pc0 := 67) (pc' := 74) rfl (hb hby at_67) rfl ((if0 _ _).trans (feq (by decide)).2) (by decide) (by decide) ?_
      show Steps p.tables e below (T23.setTop (mkF m 74 (lc0_2 p1 p2) [(.int p1)])) _
      refine XS.iconst X23.here hx rfl (hb hby at_74) ?_
      show Steps p.tables e below (T23.setTop (mkF m 75 (lc0_2 p1 p2) [(.int (0 : Int32)), (.int p1)])) _
      exact k)
    obtain ⟨_, _, ⟨T26, L26, k26, n26⟩, -, X26, ⟨Lc26, hQ26, l26, y26, z26⟩, st26⟩ := Jvm.LawKit.callS X23 hx (y := (⟨"com/example/unfire/unfire/check/Nogoods", "decision", "(IZ)J"⟩ : MethodName)) hown (mvT hZ (hw _ (List.mem_of_getElem? (i := 0) rfl))) (mvT hZ (hw _ (List.mem_of_getElem? (i := 1) rfl))) (mvT hZ (hw _ (List.mem_of_getElem? (i := 2) rfl))) (mvT hZ (hw _ (List.mem_of_getElem? (i := 3) rfl))) (by decide) (backOf (W := 0) (rm1 l Z a0 hw [] p1 (0 : Int32) h0 n0 Z0) hZ (hw _ (List.mem_of_getElem? (i := 3) rfl)) (hw _ (List.mem_of_getElem? (i := 2) rfl)) (by decide) (by decide)) (g := (mkF m 75 (lc0_2 p1 p2) [(.int (0 : Int32)), (.int p1)])) rfl (by rw [hml]; rfl) (argsL := [(.int p1), (.int (0 : Int32))]) (rest := []) (lenOf pd_0 rfl) rfl (by show 2 * 0 + _ ≤ _; exact Nat.le_of_eq rfl) (hb hby at_75) (fun _ _ => ⟨rfl, e23, (by decide : 0 + 0 ≤ _), (by decide : 0 + 0 ≤ _)⟩)
    dsimp only [Pt.U, Pt.locs, Pt.cells, Pt.slots] at X26 l26 y26 z26 st26 hQ26
    subst l26 y26 z26
    obtain ⟨rfl, N26q, e26⟩ := hQ26
    have N26 := Fr.app N23 N26q
    have pre27 : ∀ t, Steps p.tables e below (T26.setTop (mkF m 78 (lc0_2 p1 p2) [(.long (own_dec p1 (0 : Int32)))])) t → Steps p.tables e below (s₁.setTop (entryFrame m #[(.int p1), (.int p2)] maxLocals)) t := fun t k => pre25 t (st26 t k)
    have pre28 : ∀ t, Steps p.tables e below (T26.setTop (mkF m 94 (lc0_3 p1 p2) [(.int (1 : Int32))])) t → Steps p.tables e below (s₁.setTop (entryFrame m #[(.int p1), (.int p2)] maxLocals)) t := fun t k => pre27 t (by
      show Steps p.tables e below (T26.setTop (mkF m 78 (lc0_2 p1 p2) [(.long (own_dec p1 (0 : Int32)))])) _
      refine XS.lstore X26.here hx rfl (hb hby at_78) rfl (l' := (lc0_3 p1 p2)) rfl ?_
      show Steps p.tables e below (T26.setTop (mkF m 80 (lc0_3 p1 p2) [])) _
      refine XS.lload X26.here hx rfl (hb hby at_80) rfl ?_
      show Steps p.tables e below (T26.setTop (mkF m 82 (lc0_3 p1 p2) [(.long (own_dec p1 (0 : Int32)))])) _
      refine XS.lloadN X26.here hx rfl (hb hby at_82) rfl ?_
      show Steps p.tables e below (T26.setTop (mkF m 83 (lc0_3 p1 p2) [(.long (own_dec p1 (1 : Int32))), (.long (own_dec p1 (0 : Int32)))])) _
      refine XS.lconst X26.here hx rfl (hb hby at_83) ?_
      show Steps p.tables e below (T26.setTop (mkF m 84 (lc0_3 p1 p2) [(.long (1 : Int64)), (.long (own_dec p1 (1 : Int32))), (.long (own_dec p1 (0 : Int32)))])) _
      refine XS.lxor X26.here hx rfl (hb hby at_84) rfl ?_
      show Steps p.tables e below (T26.setTop (mkF m 85 (lc0_3 p1 p2) [(.long ((own_dec p1 (1 : Int32)) ^^^ (1 : Int64))), (.long (own_dec p1 (0 : Int32)))])) _
      refine XS.lcmp X26.here hx rfl (hb hby at_85) rfl ?_
      show Steps p.tables e below (T26.setTop (mkF m 86 (lc0_3 p1 p2) [(.int (lcmpW (own_dec p1 (0 : Int32)) ((own_dec p1 (1 : Int32)) ^^^ (1 : Int64))))])) _
      refine XS.ifNo X26.here hx rfl (hb hby at_86) rfl ((if0 _ _).trans (teq ((lw_eq _ _).mpr (show (own_dec p1 (0 : Int32)) = ((own_dec p1 (1 : Int32)) ^^^ (1 : Int64)) from own_o1 p1))).2) ?_
      show Steps p.tables e below (T26.setTop (mkF m 89 (lc0_3 p1 p2) [])) _
      refine XS.iconst X26.here hx rfl (hb hby at_89) ?_
      show Steps p.tables e below (T26.setTop (mkF m 90 (lc0_3 p1 p2) [(.int (1 : Int32))])) _
      refine XS.goto X26.here hx rfl (pc0 := 90) (pc' := 94) rfl (hb hby at_90) (by decide) (by decide) ?_
      show Steps p.tables e below (T26.setTop (mkF m 94 (lc0_3 p1 p2) [(.int (1 : Int32))])) _
      exact k)
    obtain ⟨fs, hr, hrun, hended, hW, hsame⟩ := X26.leave (v := some (.int (1 : Int32))) (fun h => by rw [Bd.returns] at h; cases h) hlk
    refine ⟨_, _, pre28 _ ?_, hrun, hended, _, _, rfl, ?_, ⟨_, rfl⟩, hW, hsame.mono (by decide) (by decide)⟩
    · show Steps p.tables e below (T26.setTop (mkF m 94 (lc0_3 p1 p2) [(.int (1 : Int32))])) _
      exact retN X26 hx (t := .boolean) Bd.returns (by simp) (hb hby at_94) hr
    · show Q0 Z p1 p2 h0 n0 _ T26.heap _
      rw [e26]
      exact ⟨rfl, N26⟩
set_option maxRecDepth 65536 in
set_option maxHeartbeats 40000000 in
theorem comes_1 {Post : Tables → Env → Array Value → State → Outcome → State → Prop} (hpost : ∀ tb e args s v u, (limb_1_1.after args s (.returned v) u = true ∧ limb_1_2.after args s (.returned v) u = true ∧ True) → FrameEnd s (.returned v) u (Jvm.fieldLocs frame_1_writes args s ++ Jvm.arrayLocs frame_1_arrays args s ++ Jvm.staticLocs frame_1_statics s) 0 0 → Post tb e args s (.returned v) u) :
    ArmFor flags0 classFile x code maxLocals ret World_1 tables_1 room_1 Calls_1 rest_1 Pre_1 Post := by
  intro l hfl _ _ p e ha hc hk s m args below hf hA hF happ hP
  obtain ⟨hcalls, hrest, hpre⟩ := hP
  obtain ⟨-, -, -, hnamed, -, -, -, hat⟩ := (Spec.applies_iff hf).mp happ
  obtain ⟨hg, hn⟩ := and_e (Cond.before_iff.mp (show (Jvm.Cond.and given_1 narrow_1).before args s = true from hpre))
  obtain ⟨hcnt, g0⟩ := and_e hg
  obtain ⟨k0, g1⟩ := and_e g0
  have k1 := g1
  obtain ⟨w0, w1, rfl⟩ : ∃ w0 w1 : Value, args = #[w0, w1] := by
    have hs : args.size = 2 := by simpa [Cond.value, given_1] using hcnt
    obtain ⟨L⟩ := args
    match L, hs with
    | [w0, w1], _ => exact ⟨w0, w1, rfl⟩
  have hw := fun d (hd : d ∈ tables_1) => atoms_spec (ws := Jvm.Cond.code x code maxLocals ret :: tables_1) hat d (List.mem_cons_of_mem _ hd)
  obtain ⟨i0, ei0⟩ := is_v k0
  obtain rfl : w0 = (.int i0) := Option.some.inj ei0
  obtain ⟨i1, ei1⟩ := is_v k1
  obtain rfl : w1 = (.int i1) := Option.some.inj ei1
  obtain ⟨n, o, h1, h2, h3, _, L, rfl, ⟨rfl, N⟩, hq⟩ := rm0 l s _ hw tables_1 i0 i1 s.heap s.heap.size (Nat.le_refl _) p e ha hc hk s m _ below hf ((Spec.applies_iff_loose hf).mp happ).1 ⟨rfl, State.Warmed39.refl s, rfl⟩ trivial
  refine ⟨n, _, h1, h2, h3, hpost _ _ _ _ _ _ ⟨Cond.after_iff.mpr rfl, Cond.after_iff.mpr (eq_i res_at (Term.int_eval (1)) rfl), trivial⟩ ⟨hq.1, hq.2.1, (hq.2.2.sift fun y hy => Or.inr (N y hy)).mono (by decide) (by decide)⟩⟩
theorem main_1_1 : Claimed_1_1 := comes_1 fun _ _ _ _ _ _ h hF => ⟨h.1, hF⟩
theorem main_1_2 : Claimed_1_2 := comes_1 fun _ _ _ _ _ _ h hF => ⟨h.2.1, hF⟩
end Jvm.Pilot.@@N@@
namespace Jvm.Pilot.@@N@@
open Jvm Jvm.ClassFile Sem Op Lib Jvm.Free Jvm.Stand Jvm.Pilot.@@N@@.Jvm.D
/-! MADE BY PROGRAM (witnessworld.py) out of the Statement's table words and the real class files: 9 classes; the members and pool entries that the words name. The judged class is class 1, her method 1. -/
namespace start1
open Jvm.ClassFile
def u (s : String) : CpInfo := .utf8 (stringToUtf16 s)
/-- a pool by its gaps: so many unusable entries, then the entry; so many at the end -/
def gap : Nat → List CpInfo → List CpInfo
  | 0, r => r
  | n + 1, r => .unusable :: gap n r
def poolList (es : List (Nat × CpInfo)) (last : Nat) : List CpInfo := es.foldr (fun e r => gap e.1 (e.2 :: r)) (gap last [])
def pool (es : List (Nat × CpInfo)) (last : Nat) : Array CpInfo := ⟨poolList es last⟩
def fileOf (pool : Array CpInfo) (this : Nat) (attrs : Array Attribute := #[]) (ms : Array MethodInfo := #[]) (fl : Nat := 33) (sup : Nat := 0) (ifs : Array Nat := #[]) (fds : Array FieldInfo := #[]) : ClassFile where
  minorVersion := 0
  majorVersion := 65
  constantPool := pool
  accessFlags := fl
  thisClass := this
  superClass := sup
  interfaces := ifs
  fields := fds
  methods := ms
  attributes := attrs
def plain (name : String) (sup : Option ClassId) : Class where
  name := name
  kind := .ordinary
  loader := none
  accessFlags := 33
  super := sup
  interfaces := #[]
  cf := none
  fields := #[]
  methods := #[]
  instanceTypes := #[]
  staticTypes := #[]
  resolved := #[]
  callSites := []
  init := .initialized
  statics := none
  mirror := none

def pool0 : Array CpInfo := pool [(5, u "<init>"), (0, u "()V"), (1, .class_ 10), (1, u "java/lang/Object")] 113

def k0m0 : Method := { name := "<init>", desc := "()V", sig := { parameters := [], returnType := none }, accessFlags := 1, code := none }
/-- java/lang/Object -/
def k0 : Class := { plain "java/lang/Object" none with
  accessFlags := 33
  interfaces := #[]
  cf := some (fileOf pool0 8 #[] #[{ accessFlags := 1, nameIndex := 5, descriptorIndex := 6, attributes := #[] }] 33 0 #[] #[])
  fields := #[]
  methods := #[k0m0]
  instanceTypes := #[]
  staticTypes := #[]
  resolved := Array.replicate 124 none
  statics := none }

def pool1 : Array CpInfo := pool [(2, .class_ 4), (1, u "java/lang/Object"), (0, u "<init>"), (0, u "()V"), (0, .methodref 8 9), (0, .class_ 10), (0, .nameAndType 11 12), (0, u "com/example/unfire/unfire/check/Nogoods"), (0, u "decision"), (0, u "(IZ)J"), (0, .long 2), (1, .methodref 8 16), (0, .nameAndType 17 18), (0, u "pair"), (0, u "(J)I"), (0, .methodref 8 20), (0, .nameAndType 21 22), (0, u "in"), (0, u "(J)Z"), (0, .class_ 24), (0, u "com/example/unfire/unfire/check/NogoodsDecisionPinLaw"), (2, u "law"), (0, u "(II)Z")] 3

def k1m0 : Method := { name := "<init>", desc := "()V", sig := { parameters := [], returnType := none }, accessFlags := 1, code := none }
def k1c1 : Code := { maxStack := 6, maxLocals := 9, code := code, exceptionTable := #[], attributes := #[] }
def k1m1 : Method := { name := "law", desc := "(II)Z", sig := { parameters := [.int, .int], returnType := some .boolean }, accessFlags := 9, code := some k1c1 }
/-- com/example/unfire/unfire/check/NogoodsDecisionPinLaw -/
def k1 : Class := { plain "com/example/unfire/unfire/check/NogoodsDecisionPinLaw" (some 0) with
  accessFlags := 49
  interfaces := #[]
  cf := some (fileOf pool1 23 #[] #[{ accessFlags := 1, nameIndex := 5, descriptorIndex := 6, attributes := #[] }, { accessFlags := 9, nameIndex := 27, descriptorIndex := 28, attributes := #[] }] 49 2 #[] #[])
  fields := #[]
  methods := #[k1m0, k1m1]
  instanceTypes := #[]
  staticTypes := #[]
  resolved := Array.replicate 32 none
  statics := none }

def pool2 : Array CpInfo := pool [(2, .class_ 4), (1, u "java/lang/Object"), (0, u "<init>"), (0, u "()V"), (4, .class_ 13), (1, u "com/example/unfire/unfire/check/Nogoods"), (0, u "added"), (0, u "Ljava/util/List;"), (5, u "watching"), (0, u "Ljava/util/Map;"), (57, .class_ 82), (1, u "com/example/unfire/unfire/check/Nogoods$Decisions"), (1, u "(J)I"), (2, u "pair"), (27, u "decision"), (0, u "(IZ)J"), (1, u "in"), (0, u "(J)Z")] 33

def k2m0 : Method := { name := "<init>", desc := "()V", sig := { parameters := [], returnType := none }, accessFlags := 0, code := none }
def k2c1 : Code := { maxStack := 4, maxLocals := 2, code := prog_18_method_2_code, exceptionTable := #[], attributes := #[] }
def k2m1 : Method := { name := "decision", desc := "(IZ)J", sig := { parameters := [.int, .boolean], returnType := some .long }, accessFlags := 8, code := some k2c1 }
def k2c2 : Code := { maxStack := 3, maxLocals := 2, code := prog_18_method_3_code, exceptionTable := #[], attributes := #[] }
def k2m2 : Method := { name := "pair", desc := "(J)I", sig := { parameters := [.long], returnType := some .int }, accessFlags := 8, code := some k2c2 }
def k2c3 : Code := { maxStack := 4, maxLocals := 2, code := prog_18_method_4_code, exceptionTable := #[], attributes := #[] }
def k2m3 : Method := { name := "in", desc := "(J)Z", sig := { parameters := [.long], returnType := some .boolean }, accessFlags := 8, code := some k2c3 }
/-- com/example/unfire/unfire/check/Nogoods -/
def k2 : Class := { plain "com/example/unfire/unfire/check/Nogoods" (some 0) with
  accessFlags := 48
  interfaces := #[]
  cf := some (fileOf pool2 11 #[.nestMembers #[80]] #[{ accessFlags := 0, nameIndex := 5, descriptorIndex := 6, attributes := #[] }, { accessFlags := 8, nameIndex := 115, descriptorIndex := 116, attributes := #[] }, { accessFlags := 8, nameIndex := 87, descriptorIndex := 84, attributes := #[] }, { accessFlags := 8, nameIndex := 118, descriptorIndex := 119, attributes := #[] }] 48 2 #[] #[{ accessFlags := 18, nameIndex := 14, descriptorIndex := 15, attributes := #[] }, { accessFlags := 18, nameIndex := 21, descriptorIndex := 22, attributes := #[] }])
  fields := #[{ name := "added", type := (.object "java/util/List"), accessFlags := 18, slot := 0, constantValue := 0 }, { name := "watching", type := (.object "java/util/Map"), accessFlags := 18, slot := 1, constantValue := 0 }]
  methods := #[k2m0, k2m1, k2m2, k2m3]
  instanceTypes := #[(.object "java/util/List"), (.object "java/util/Map")]
  staticTypes := #[]
  resolved := Array.replicate 153 none
  statics := none }

def pool3 : Array CpInfo := pool [(1, u "java/lang/Cloneable"), (0, .class_ 1), (0, u "java/lang/Object"), (0, .class_ 3)] 3

/-- java/lang/Cloneable -/
def k3 : Class := { plain "java/lang/Cloneable" (some 0) with
  accessFlags := 1537
  interfaces := #[]
  cf := some (fileOf pool3 2 #[] #[] 1537 4 #[] #[])
  fields := #[]
  methods := #[]
  instanceTypes := #[]
  staticTypes := #[]
  resolved := Array.replicate 8 none
  statics := none }

def pool4 : Array CpInfo := pool [(1, u "java/io/Serializable"), (0, .class_ 1), (0, u "java/lang/Object"), (0, .class_ 3)] 3

/-- java/io/Serializable -/
def k4 : Class := { plain "java/io/Serializable" (some 0) with
  accessFlags := 1537
  interfaces := #[]
  cf := some (fileOf pool4 2 #[] #[] 1537 4 #[] #[])
  fields := #[]
  methods := #[]
  instanceTypes := #[]
  staticTypes := #[]
  resolved := Array.replicate 8 none
  statics := none }

/-- the primitive byte -/
def k5 : Class := { plain "byte" none with kind := .primitive 'B', accessFlags := 0x411 }
/-- [B -/
def k6 : Class := { plain "[B" (some 0) with kind := .array 5 .byte, interfaces := #[3, 4], accessFlags := 1041 }

/-- the primitive int -/
def k7 : Class := { plain "int" none with kind := .primitive 'I', accessFlags := 0x411 }
/-- [I -/
def k8 : Class := { plain "[I" (some 0) with kind := .array 7 .int, interfaces := #[3, 4], accessFlags := 1041 }

def heap : Heap := #[]
def classes : Array Class := #[k0, k1, k2, k3, k4, k5, k6, k7, k8]
def interned : List (Array UInt16 × Addr) := []
def slotsUsed : Nat := 0
def theMethod : MethodId := ⟨1, 1⟩
def args0 : Array Value := #[.int 5, .int 5]
def aboutOver (below : List Frame) : State where
  vm := { classes := classes, interned := interned.toArray }
  heap := heap
  slotsUsed := slotsUsed
  threads := #[{ frames := .invoking theMethod args0 :: below }]
def below0 : List Frame := [.native { method := ⟨0, 0⟩, args := #[] }]
def about1 : State := aboutOver below0
def p0 : Program := .bare "" "" ""
def e0 : Env := launch0.env 0 0 0
theorem w_frames : about1.frames = Frame.invoking theMethod args0 :: below0 := rfl
set_option maxRecDepth 65536 in
theorem w_args : argsFit about1.vm theMethod args0 = true := by decide +kernel
set_option maxRecDepth 65536 in
theorem w_heap : heapFits about1 = true := by decide +kernel
set_option maxRecDepth 65536 in
theorem w_runnable : about1.curStatus? = some .runnable := by decide +kernel
set_option maxRecDepth 65536 in
theorem w_alone : about1.alone = true := by decide +kernel
set_option maxRecDepth 65536 in
theorem w_named : about1.methodNamed? x = some theMethod := by decide +kernel
set_option maxRecDepth 65536 in
theorem w_hears : about1.hears theMethod below0 = true := by decide +kernel
set_option maxRecDepth 65536 in
theorem w_ripe : about1.ripe theMethod args0 below0 = true := by decide +kernel
theorem w_running : about1.status = .running := rfl
set_option maxRecDepth 65536 in
theorem w_room : about1.hasRoom e0.platform room_1 = true :=
  launch0.hasRoom_least _ room_1 (by decide +kernel) (by decide +kernel) (by decide +kernel) (by decide +kernel) (by decide +kernel) (by decide +kernel)
theorem allAtoms_all (ts : List Jvm.Cond) (a : Array Jvm.Value) (st : Jvm.State) : (allAtoms ts).before a st = ts.all (fun c => c.before a st) := by
  induction ts with
  | nil => rfl
  | cons c t ih =>
    show (Jvm.Cond.and c (allAtoms t)).before a st = _
    rw [Jvm.Cond.before_and, ih, List.all_cons]
def words1 : List Jvm.Cond := Jvm.Cond.code x code maxLocals ret :: tables_1
/-- a 'code' word, met by the world's own term for the bytes: nothing is compared byte by byte -/
theorem code_word {y : MethodName} {bytes : ByteArray} {mx : Nat} {rt : Option FieldType} {a : Array Value} {s : State} {m : MethodId} {meth : Method} {c : Code} (h1 : s.methodNamed? y = some m) (h2 : s.vm.method? m = some meth) (h3 : meth.code = some c) (h4 : c.code = bytes)
    (h5 : (c.maxLocals == mx && c.exceptionTable.isEmpty && decide (c.maxStack ≤ mostOperands) && decide (meth.sig.returnType = rt) && !meth.locks && decide (parseMethodDescriptor y.desc = some meth.sig)) = true) : (Jvm.Cond.code y bytes mx rt).before a s = true := by
  simp only [Bool.and_eq_true, beq_iff_eq, Bool.not_eq_true', decide_eq_true_eq] at h5
  obtain ⟨⟨⟨⟨⟨g1, g2⟩, g3⟩, g4⟩, g5⟩, g6⟩ := h5
  simp [Cond.before, Cond.holds, Cond.value, h1, h2, h3, h4, g1, g2, g3, g4, g5, g6]
def isCode : Jvm.Cond → Bool
  | .code _ _ _ _ => true
  | _ => false
theorem all_split {L : List Jvm.Cond} {P : Jvm.Cond → Bool} (h1 : L.all (fun c => isCode c || P c) = true) (h2 : ∀ c ∈ L.filter isCode, P c = true) : L.all P = true := by
  refine List.all_eq_true.mpr fun c hc => ?_
  have h := List.all_eq_true.mp h1 c hc
  rcases Bool.eq_false_or_eq_true (isCode c) with hi | hi
  · exact h2 c (List.mem_filter.mpr ⟨hc, hi⟩)
  · simpa [hi] using h
set_option maxRecDepth 65536 in
theorem w_c0 : (Jvm.Cond.code x code maxLocals ret).before args0 about1 = true := code_word (m := ⟨1, 1⟩) (meth := k1m1) (c := k1c1) (by decide +kernel) rfl rfl rfl (by decide +kernel)
set_option maxRecDepth 65536 in
theorem w_c1 : (Jvm.Cond.code ({ cls := "com/example/unfire/unfire/check/Nogoods", name := "decision", desc := "(IZ)J" } : Jvm.MethodName) prog_18_method_2_code (2 : Nat) (Option.some Jvm.ClassFile.FieldType.long)).before args0 about1 = true := code_word (m := ⟨2, 1⟩) (meth := k2m1) (c := k2c1) (by decide +kernel) rfl rfl rfl (by decide +kernel)
set_option maxRecDepth 65536 in
theorem w_c2 : (Jvm.Cond.code ({ cls := "com/example/unfire/unfire/check/Nogoods", name := "pair", desc := "(J)I" } : Jvm.MethodName) prog_18_method_3_code (2 : Nat) (Option.some Jvm.ClassFile.FieldType.int)).before args0 about1 = true := code_word (m := ⟨2, 2⟩) (meth := k2m2) (c := k2c2) (by decide +kernel) rfl rfl rfl (by decide +kernel)
set_option maxRecDepth 65536 in
theorem w_c3 : (Jvm.Cond.code ({ cls := "com/example/unfire/unfire/check/Nogoods", name := "in", desc := "(J)Z" } : Jvm.MethodName) prog_18_method_4_code (2 : Nat) (Option.some Jvm.ClassFile.FieldType.boolean)).before args0 about1 = true := code_word (m := ⟨2, 3⟩) (meth := k2m3) (c := k2c3) (by decide +kernel) rfl rfl rfl (by decide +kernel)
def codes1 : List Jvm.Cond := [Jvm.Cond.code x code maxLocals ret, Jvm.Cond.code ({ cls := "com/example/unfire/unfire/check/Nogoods", name := "decision", desc := "(IZ)J" } : Jvm.MethodName) prog_18_method_2_code (2 : Nat) (Option.some Jvm.ClassFile.FieldType.long), Jvm.Cond.code ({ cls := "com/example/unfire/unfire/check/Nogoods", name := "pair", desc := "(J)I" } : Jvm.MethodName) prog_18_method_3_code (2 : Nat) (Option.some Jvm.ClassFile.FieldType.int), Jvm.Cond.code ({ cls := "com/example/unfire/unfire/check/Nogoods", name := "in", desc := "(J)Z" } : Jvm.MethodName) prog_18_method_4_code (2 : Nat) (Option.some Jvm.ClassFile.FieldType.boolean)]
set_option maxRecDepth 65536 in
theorem codes_eq : words1.filter isCode = codes1 := rfl
theorem w_codes : ∀ c ∈ words1.filter isCode, c.before args0 about1 = true := by
  rw [codes_eq]
  intro c hc
  simp only [codes1, List.mem_cons, List.not_mem_nil, or_false] at hc
  rcases hc with rfl | rfl | rfl | rfl
  · exact w_c0
  · exact w_c1
  · exact w_c2
  · exact w_c3
set_option maxRecDepth 65536 in
theorem w_t1 : words1.all (fun c => isCode c || c.before args0 about1) = true := by decide +kernel
theorem w_tables : (allAtoms (Jvm.Cond.code x code maxLocals ret :: tables_1)).before args0 about1 = true := by
  rw [allAtoms_all]
  show words1.all (fun c => c.before args0 about1) = true
  refine all_split ?_ w_codes
  rw [w_t1]
set_option maxRecDepth 65536 in
theorem w_case : (Jvm.Cond.and given_1 narrow_1).before args0 about1 = true := by decide +kernel
theorem w_applies : (headSpec (Jvm.Cond.code x code maxLocals ret :: tables_1) room_1).applies x e0.platform about1 = true :=
  (Spec.applies_iff w_frames).mpr ⟨w_running, w_runnable, w_alone, w_named, w_hears, w_ripe, w_room, w_tables⟩
theorem atStart : AtStart classFile x code maxLocals ret World_1 tables_1 room_1 Calls_1 rest_1 Pre_1 launch0 p0 e0 about1 theMethod args0 below0 :=
  ⟨lists_1, trivial, launch0.admits_env _ _ _, launch0.least_env, fairChoices_fair.cas, fairChoices_fair.clock, w_frames, w_args, w_heap, w_applies, trivial, trivial, w_case⟩
end start1
theorem witness_1 : WitnessClaimed_1 := ⟨start1.p0, start1.e0, start1.about1, start1.theMethod, start1.args0, start1.below0, start1.atStart⟩
end Jvm.Pilot.@@N@@
