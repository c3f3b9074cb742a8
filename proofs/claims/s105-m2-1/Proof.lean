import JvmDerived
import JvmDerived.Pilot.@@N@@Statement
import JvmDerived.Pilot.@@N@@Code
set_option linter.unusedVariables false
set_option linter.unusedSimpArgs false
@@BLOCK:NumsL.lean.txt@@
namespace Jvm.RoadKit
open Sem ClassFile Op Lib Jvm.Stand Jvm.Free Jvm.LawKit
section New
variable {p : Program} {l : Launch} {e : Env} {R : Room} {s : State} {m : MethodId} {args : Array Value} {below : List Frame} {meth : Method} {c : Code} {T : State} {locs : List Loc} {cells slots : Nat}
theorem retI (X : Stand p l e R s m args below meth c T locs cells slots) (hx : p.tables.exec = Jvm.exec) {pc : Nat} {Ls : Array Slot} {z : Int32} {rest : List Value} (hret : meth.sig.returnType = some .int) (hd : decode c.code pc = .ok (.ireturn, 1)) {fs : List Frame}
    (hl : ∀ (f : JFrame) (acts : List Action), f.method = m → f.locked = none → f.entered = [] → (doReturn e (T.setTop f) acts (some (.int z))).1 = T.setFrames fs) : Steps p.tables e below (T.setTop (mkF m pc Ls (.int z :: rest))) (T.setFrames fs) := by
  have hm' : T.vm.method? m = some meth := X.method'
  have hn : narrow .int (.int z) = .int z := rfl
  show Steps p.tables e below (T.setTop { method := m, pc := pc, locals := Ls, stack := _ :: rest, locked := none }) _
  jvm_step X.here [X.here.top, hx, hd, hm', hret, hn]
  first | (intro acts; rw [hl _ acts rfl rfl rfl]) | rw [hl _ _ rfl rfl rfl]
  exact Steps.refl _
end New
end Jvm.RoadKit
namespace Jvm.Pilot.@@N@@
open Jvm Jvm.ClassFile Sem Op Lib Jvm.Free Jvm.Stand Jvm.LawKit Jvm.RoadKit Bundle Jvm.Pilot.@@N@@.Jvm.D
def own_ush (x : Int64) (s : Int32) : Int64 := ((x.toUInt64 >>> (s &&& 0x3f).toInt64.toUInt64).toInt64)
def own_shl (x : Int64) (s : Int32) : Int64 := (x <<< (s &&& 0x3f).toInt64)
def own_shr (x : Int64) (s : Int32) : Int64 := (x >>> (s &&& 0x3f).toInt64)
def own_iush (x s : Int32) : Int32 := ((x.toUInt32 >>> (s &&& 31).toUInt32).toInt32)
def own_ishl (x s : Int32) : Int32 := (x <<< (s &&& 31))
def own_ishr (x s : Int32) : Int32 := (x >>> (s &&& 31))
def own_lrem (x y : Int64) : Int64 := x - (x / y) * y
theorem own_ush_eq (x : Int64) (s : Int32) (k : Nat) (hs : ((s &&& 0x3f).toInt64.toUInt64.toBitVec % 64#64).toNat = k) : (own_ush x s).toBitVec = x.toBitVec >>> k := by
  subst hs; rfl
def own_dec (p b : Int32) : Int64 := (own_shl (p.toInt64) (1 : Int32)) ||| ((if b = (0 : Int32) then (0 : Int32) else (1 : Int32)).toInt64)
def own_pair (d : Int64) : Int32 := (own_ush d (1 : Int32)).toInt32
def own_in (d : Int64) : Int32 := if (d &&& (1 : Int64)) = (1 : Int64) then (1 : Int32) else (0 : Int32)
theorem own_dec0 (p : Int32) : (own_dec p 0).toBitVec = (p.toBitVec.signExtend 64) <<< 1 := by
  have e : (own_dec p 0).toBitVec = ((p.toBitVec.signExtend 64) <<< 1) ||| 0#64 := rfl
  rw [e, BitVec.or_zero]
theorem own_dec1 (p : Int32) : (own_dec p 1).toBitVec = ((p.toBitVec.signExtend 64) <<< 1) ||| 1#64 := rfl
theorem own_bit0 (x : BitVec 64) (i : Nat) : (x <<< 1).getLsbD i = (decide (i < 64) && (!decide (i < 1)) && x.getLsbD (i - 1)) := by
  rw [BitVec.getLsbD_shiftLeft]
theorem own_one (i : Nat) : (1#64).getLsbD i = decide (i = 0) := by
  rw [BitVec.getLsbD_one]; simp
theorem own_sh_and (x : BitVec 64) : (x <<< 1) &&& 1#64 = 0#64 := by
  apply BitVec.eq_of_getLsbD_eq; intro i hi
  rw [BitVec.getLsbD_and, own_bit0, own_one, BitVec.getLsbD_zero]
  by_cases h : i = 0
  · subst h; simp
  · simp [h]
theorem own_sh1_and (x : BitVec 64) : ((x <<< 1) ||| 1#64) &&& 1#64 = 1#64 := by
  apply BitVec.eq_of_getLsbD_eq; intro i hi
  rw [BitVec.getLsbD_and, BitVec.getLsbD_or, own_bit0, own_one]
  by_cases h : i = 0
  · subst h; simp
  · simp [h]
theorem own_shx (x : BitVec 64) : (x <<< 1) ^^^ 1#64 = (x <<< 1) ||| 1#64 := by
  apply BitVec.eq_of_getLsbD_eq; intro i hi
  rw [BitVec.getLsbD_xor, BitVec.getLsbD_or, own_bit0, own_one]
  by_cases h : i = 0
  · subst h; simp
  · simp [h]
theorem own_shx1 (x : BitVec 64) : ((x <<< 1) ||| 1#64) ^^^ 1#64 = (x <<< 1) := by
  apply BitVec.eq_of_getLsbD_eq; intro i hi
  rw [BitVec.getLsbD_xor, BitVec.getLsbD_or, own_bit0, own_one]
  by_cases h : i = 0
  · subst h; simp
  · simp [h]
theorem own_shl_two (x : BitVec 64) : x <<< 1 = 2#64 * x := by
  apply BitVec.eq_of_toNat_eq
  rw [BitVec.toNat_shiftLeft, BitVec.toNat_mul, Nat.shiftLeft_eq]
  congr 1
  rw [Nat.mul_comm]; rfl
theorem own_d0 (p : Int32) : own_dec p 0 = ((2 : Int64) * (p.toInt64)) + (0 : Int64) := by
  apply Int64.toBitVec_inj.mp
  rw [own_dec0, own_shl_two, Int64.add_zero]; rfl
theorem own_d1 (p : Int32) : own_dec p 1 = ((2 : Int64) * (p.toInt64)) + (1 : Int64) := by
  apply Int64.toBitVec_inj.mp
  rw [own_dec1, ← BitVec.add_eq_or_of_and_eq_zero _ _ (own_sh_and _), own_shl_two]; rfl
theorem own_i0 (p : Int32) : own_in (own_dec p 0) = (0 : Int32) := by
  rw [own_in, if_neg]
  intro h
  have h := Int64.toBitVec_inj.mpr h
  rw [Int64.toBitVec_and, own_dec0] at h
  have h2 : ((p.toBitVec.signExtend 64) <<< 1) &&& 1#64 = 1#64 := h
  rw [own_sh_and] at h2
  exact absurd h2 (by decide)
theorem own_i1 (p : Int32) : own_in (own_dec p 1) = (1 : Int32) := by
  rw [own_in, if_pos]
  apply Int64.toBitVec_inj.mp
  rw [Int64.toBitVec_and, own_dec1]
  exact own_sh1_and _
theorem own_pr (p : Int32) (d : Int64) (b : BitVec 64) (hb : ∀ i, b.getLsbD (1 + i) = false) (h : d.toBitVec = ((p.toBitVec.signExtend 64) <<< 1) ||| b) : own_pair d = p := by
  apply Int32.toBitVec_inj.mp
  have e0 : (own_ush d (1 : Int32)).toBitVec = d.toBitVec >>> 1 := own_ush_eq d 1 1 (by decide)
  have e : (own_pair d).toBitVec = (d.toBitVec >>> 1).signExtend 32 := by rw [← e0]; rfl
  rw [e, h]
  apply BitVec.eq_of_getLsbD_eq; intro i hi
  rw [BitVec.getLsbD_signExtend, if_pos (by omega), BitVec.getLsbD_ushiftRight, BitVec.getLsbD_or, own_bit0, hb, BitVec.getLsbD_signExtend]
  have h1 : 1 + i < 64 := by omega
  have h2 : ¬ (1 + i < 1) := by omega
  have h3 : 1 + i - 1 = i := by omega
  have h4 : i < 64 := by omega
  simp [hi, h1, h2, h3, h4]
theorem own_p0 (p : Int32) : own_pair (own_dec p 0) = p := own_pr p _ 0#64 (fun i => BitVec.getLsbD_zero) (by rw [own_dec0, BitVec.or_zero])
theorem own_p1 (p : Int32) : own_pair (own_dec p 1) = p := own_pr p _ 1#64 (fun i => by rw [own_one]; simp) (own_dec1 p)
theorem own_o0 (p : Int32) : own_dec p 1 = own_dec p 0 ^^^ (1 : Int64) := by
  apply Int64.toBitVec_inj.mp
  rw [Int64.toBitVec_xor, own_dec0, own_dec1]
  exact (own_shx _).symm
theorem own_o1 (p : Int32) : own_dec p 0 = own_dec p 1 ^^^ (1 : Int64) := by
  apply Int64.toBitVec_inj.mp
  rw [Int64.toBitVec_xor, own_dec0, own_dec1]
  exact (own_shx1 _).symm
theorem own_and_int (d : Int64) : (d &&& (1 : Int64)).toInt = d.toInt % 2 := Jvm.Kit.i64_mask d 1 (k := 1) (by decide) (by decide)
theorem own_and_iff (d : Int64) : (d &&& (1 : Int64)) = (1 : Int64) ↔ d.toInt % 2 = 1 := by
  rw [← Int64.toInt_inj, own_and_int]; exact Iff.rfl
theorem own_ref (d : Int64) : own_in d = (if own_lrem d (2 : Int64) = (0 : Int64) then (0 : Int32) else (1 : Int32)) := by
  have e : (own_lrem d (2 : Int64)).toInt = d.toInt.tmod 2 := Jvm.Kit.i64_rem d 2
  have z : own_lrem d (2 : Int64) = (0 : Int64) ↔ d.toInt.tmod 2 = 0 := by rw [← Int64.toInt_inj, e]; exact Iff.rfl
  have y : d.toInt.tmod 2 = 0 ↔ d.toInt % 2 = 0 := by rw [← Int.dvd_iff_tmod_eq_zero, ← Int.dvd_iff_emod_eq_zero]
  by_cases h : d.toInt % 2 = 1
  · rw [own_in, if_pos ((own_and_iff d).mpr h), if_neg (fun q => by rw [z, y] at q; omega)]
  · rw [own_in, if_neg (fun q => h ((own_and_iff d).mp q)), if_pos (by rw [z, y]; omega)]
theorem own_xor1 (x : BitVec 64) : ((x ^^^ 1#64) &&& 1#64 = 1#64) ↔ ¬ (x &&& 1#64 = 1#64) := by
  have k : ∀ y : BitVec 64, (y &&& 1#64 = 1#64) ↔ y.getLsbD 0 = true := by
    intro y
    constructor
    · intro h
      have := congrArg (fun z => BitVec.getLsbD z 0) h
      simpa using this
    · intro h
      apply BitVec.eq_of_getLsbD_eq; intro i hi
      rw [BitVec.getLsbD_and, own_one]
      by_cases h0 : i = 0
      · subst h0; simp [h]
      · simp [h0]
  rw [k, k, BitVec.getLsbD_xor, own_one]
  cases x.getLsbD 0 <;> decide
theorem own_opp (d : Int64) : ¬ (own_in (d ^^^ (1 : Int64)) = own_in d) := by
  have k : ∀ y : Int64, (y &&& (1 : Int64)) = (1 : Int64) ↔ y.toBitVec &&& 1#64 = 1#64 := fun y => by rw [← Int64.toBitVec_inj]; exact Iff.rfl
  have q : (d ^^^ (1 : Int64)).toBitVec = d.toBitVec ^^^ 1#64 := rfl
  have h := own_xor1 d.toBitVec
  rw [own_in, own_in]
  by_cases hd : d.toBitVec &&& 1#64 = 1#64
  · rw [if_pos ((k d).mpr hd), if_neg (fun z => by rw [k, q, h] at z; exact z hd)]; decide
  · rw [if_neg (fun z => hd ((k d).mp z)), if_pos ((k _).mpr (by rw [q, h]; exact hd))]; decide
theorem d1_0 : decode prog_18_method_2_code 0 = .ok (.iload_n 0, 1) := by decide +kernel
theorem d1_1 : decode prog_18_method_2_code 1 = .ok (.i2l, 1) := by decide +kernel
theorem d1_2 : decode prog_18_method_2_code 2 = .ok (.iconst 1, 1) := by decide +kernel
theorem d1_3 : decode prog_18_method_2_code 3 = .ok (.lshl, 1) := by decide +kernel
theorem d1_4 : decode prog_18_method_2_code 4 = .ok (.iload_n 1, 1) := by decide +kernel
theorem d1_5 : decode prog_18_method_2_code 5 = .ok (.ifCond .eq 7, 3) := by decide +kernel
theorem d1_8 : decode prog_18_method_2_code 8 = .ok (.iconst 1, 1) := by decide +kernel
theorem d1_9 : decode prog_18_method_2_code 9 = .ok (.goto 4, 3) := by decide +kernel
theorem d1_12 : decode prog_18_method_2_code 12 = .ok (.iconst 0, 1) := by decide +kernel
theorem d1_13 : decode prog_18_method_2_code 13 = .ok (.i2l, 1) := by decide +kernel
theorem d1_14 : decode prog_18_method_2_code 14 = .ok (.lor, 1) := by decide +kernel
theorem d1_15 : decode prog_18_method_2_code 15 = .ok (.lreturn, 1) := by decide +kernel
theorem pn_Nogoods : plainName "com/example/unfire/unfire/check/Nogoods" = true := by first | (simp [plainName, overriddenIn]; done) | decide +kernel
theorem ef_1 (m : MethodId) (p1 : Int32) (p2 : Int32) : entryFrame m #[(.int p1), (.int p2)] 2 = mkF m 0 #[.val (.int p1), .val (.int p2)] [] := by first | (simp [entryFrame, mkF, argsToLocals, Value.category]; done) | rfl
def Q1 (Z : State) (p1 : Int32) (p2 : Int32) (h0 : Heap) (n0 : Nat) (v : Option Value) (h : Heap) (L : List Loc) : Prop := v = some (.long (own_dec p1 p2)) ∧ Fr n0 L ∧ h = h0
set_option maxRecDepth 65536 in
set_option maxHeartbeats 40000000 in
theorem rm1 (l : Launch) (Z : State) (a0 : Array Value) (hw : ∀ d ∈ tables_1, d.before a0 Z = true) (ws : List Jvm.Cond) (p1 : Int32) (p2 : Int32) (h0 : Heap) (n0 : Nat) (Z0 : n0 ≤ h0.size) :
    MetFree l (⟨"com/example/unfire/unfire/check/Nogoods", "decision", "(IZ)J"⟩ : MethodName) (head1 (Jvm.Cond.code (⟨"com/example/unfire/unfire/check/Nogoods", "decision", "(IZ)J"⟩ : MethodName) prog_18_method_2_code 2 (some .long) :: ws) ({ frames := 0, cells := 0, slots := 0, locals := 0 } : Room)) (fun aa U => aa = #[(.int p1), (.int p2)] ∧ Z.Warmed39 U.vm ∧ U.heap = h0) (fun _ _ _ _ _ => True) (fun _ U o U' => ∃ v L, o = .returned v ∧ Q1 Z p1 p2 h0 n0 v U'.heap L ∧ FrameEnd U o U' L ({ frames := 0, cells := 0, slots := 0, locals := 0 } : Room).cells ({ frames := 0, cells := 0, slots := 0, locals := 0 } : Room).slots) := by
  refine MetFree.of_bodySF (plainFor_of_name pn_Nogoods) hisR ?_
  intro p e s m args below meth c s₁ Bd hml0 hP hK
  obtain ⟨rfl, hZ, hh⟩ := hP
  have hx := Bd.exec
  have hby := Bd.bytes
  have hml : c.maxLocals = 2 := hml0
  have hown : s.vm.findClass "com/example/unfire/unfire/check/Nogoods" = some m.cls := findClass_of_methodNamed Bd.named
  have hnm := (name_of_methodNamed Bd.named Bd.method).1
  have X0 : Stand p l e ({ frames := 0, cells := 0, slots := 0, locals := 0 } : Room) s m #[(.int p1), (.int p2)] below meth c s₁ [] 0 0 := Stand.of_body Bd
  have e0 : s₁.heap = h0 := by rw [← hh, Bd.state]; rfl
  have N0 := Fr.nil n0
  have hlk : meth.locks = false := by first | exact BodyLoose.notSynchronized Bd | exact Body.notSynchronized Bd
  have pre0 : ∀ t, Steps p.tables e below (s₁.setTop (mkF m 0 #[.val (.int p1), .val (.int p2)] [])) t → Steps p.tables e below (s₁.setTop (entryFrame m #[(.int p1), (.int p2)] 2)) t := fun t k => castTop (ef_1 m p1 p2) k
  have pre1 : ∀ t, Steps p.tables e below (s₁.setTop (mkF m 5 #[.val (.int p1), .val (.int p2)] [(.int p2), (.long (own_shl (p1.toInt64) (1 : Int32)))])) t → Steps p.tables e below (s₁.setTop (entryFrame m #[(.int p1), (.int p2)] 2)) t := fun t k => pre0 t (by
    show Steps p.tables e below (s₁.setTop (mkF m 0 #[.val (.int p1), .val (.int p2)] [])) _
    refine XS.iloadN X0.here hx rfl (hb hby d1_0) rfl ?_
    show Steps p.tables e below (s₁.setTop (mkF m 1 #[.val (.int p1), .val (.int p2)] [(.int p1)])) _
    refine XS.i2l X0.here hx rfl (hb hby d1_1) rfl ?_
    show Steps p.tables e below (s₁.setTop (mkF m 2 #[.val (.int p1), .val (.int p2)] [(.long (p1.toInt64))])) _
    refine XS.iconst X0.here hx rfl (hb hby d1_2) ?_
    show Steps p.tables e below (s₁.setTop (mkF m 3 #[.val (.int p1), .val (.int p2)] [(.int (1 : Int32)), (.long (p1.toInt64))])) _
    refine XS.lshl X0.here hx rfl (hb hby d1_3) rfl ?_
    show Steps p.tables e below (s₁.setTop (mkF m 4 #[.val (.int p1), .val (.int p2)] [(.long (own_shl (p1.toInt64) (1 : Int32)))])) _
    refine XS.iloadN X0.here hx rfl (hb hby d1_4) rfl ?_
    show Steps p.tables e below (s₁.setTop (mkF m 5 #[.val (.int p1), .val (.int p2)] [(.int p2), (.long (own_shl (p1.toInt64) (1 : Int32)))])) _
    exact k)
  have pre3 : ∀ t, Steps p.tables e below (s₁.setTop (mkF m 13 #[.val (.int p1), .val (.int p2)] [(.int (if p2 = (0 : Int32) then (0 : Int32) else (1 : Int32))), (.long (own_shl (p1.toInt64) (1 : Int32)))])) t → Steps p.tables e below (s₁.setTop (entryFrame m #[(.int p1), (.int p2)] 2)) t := fun t k => pre1 t (by
    show Steps p.tables e below (s₁.setTop (mkF m 5 #[.val (.int p1), .val (.int p2)] [(.int p2), (.long (own_shl (p1.toInt64) (1 : Int32)))])) _
    by_cases hm5_2 : p2 = (0 : Int32)
    · refine XS.ifYes X0.here hx rfl (pc0 := 5) (pc' := 12) rfl (hb hby d1_5) rfl ((if0 _ _).trans (teq hm5_2).1) (by decide) (by decide) ?_
      show Steps p.tables e below (s₁.setTop (mkF m 12 #[.val (.int p1), .val (.int p2)] [(.long (own_shl (p1.toInt64) (1 : Int32)))])) _
      refine XS.iconst X0.here hx rfl (hb hby d1_12) ?_
      show Steps p.tables e below (s₁.setTop (mkF m 13 #[.val (.int p1), .val (.int p2)] [(.int (0 : Int32)), (.long (own_shl (p1.toInt64) (1 : Int32)))])) _
      have q : (if p2 = (0 : Int32) then (0 : Int32) else (1 : Int32)) = (0 : Int32) := by simp only [if_pos hm5_2]
      exact Eq.subst (motive := fun xI => Steps p.tables e below (s₁.setTop (mkF m 13 #[.val (.int p1), .val (.int p2)] [(.int xI), (.long (own_shl (p1.toInt64) (1 : Int32)))])) t) q k
    · refine XS.ifNo X0.here hx rfl (hb hby d1_5) rfl ((if0 _ _).trans (feq hm5_2).1) ?_
      show Steps p.tables e below (s₁.setTop (mkF m 8 #[.val (.int p1), .val (.int p2)] [(.long (own_shl (p1.toInt64) (1 : Int32)))])) _
      refine XS.iconst X0.here hx rfl (hb hby d1_8) ?_
      show Steps p.tables e below (s₁.setTop (mkF m 9 #[.val (.int p1), .val (.int p2)] [(.int (1 : Int32)), (.long (own_shl (p1.toInt64) (1 : Int32)))])) _
      refine XS.goto X0.here hx rfl (pc0 := 9) (pc' := 13) rfl (hb hby d1_9) (by decide) (by decide) ?_
      show Steps p.tables e below (s₁.setTop (mkF m 13 #[.val (.int p1), .val (.int p2)] [(.int (1 : Int32)), (.long (own_shl (p1.toInt64) (1 : Int32)))])) _
      have q : (if p2 = (0 : Int32) then (0 : Int32) else (1 : Int32)) = (1 : Int32) := by simp only [if_neg hm5_2]
      exact Eq.subst (motive := fun xI => Steps p.tables e below (s₁.setTop (mkF m 13 #[.val (.int p1), .val (.int p2)] [(.int xI), (.long (own_shl (p1.toInt64) (1 : Int32)))])) t) q k)
  have pre4 : ∀ t, Steps p.tables e below (s₁.setTop (mkF m 15 #[.val (.int p1), .val (.int p2)] [(.long (own_dec p1 p2))])) t → Steps p.tables e below (s₁.setTop (entryFrame m #[(.int p1), (.int p2)] 2)) t := fun t k => pre3 t (by
    show Steps p.tables e below (s₁.setTop (mkF m 13 #[.val (.int p1), .val (.int p2)] [(.int (if p2 = (0 : Int32) then (0 : Int32) else (1 : Int32))), (.long (own_shl (p1.toInt64) (1 : Int32)))])) _
    refine XS.i2l X0.here hx rfl (hb hby d1_13) rfl ?_
    show Steps p.tables e below (s₁.setTop (mkF m 14 #[.val (.int p1), .val (.int p2)] [(.long ((if p2 = (0 : Int32) then (0 : Int32) else (1 : Int32)).toInt64)), (.long (own_shl (p1.toInt64) (1 : Int32)))])) _
    refine XS.lor X0.here hx rfl (hb hby d1_14) rfl ?_
    show Steps p.tables e below (s₁.setTop (mkF m 15 #[.val (.int p1), .val (.int p2)] [(.long (own_dec p1 p2))])) _
    exact k)
  obtain ⟨fs, hr, hrun, hended, hW, hsame⟩ := X0.leave (v := some (.long (own_dec p1 p2))) (fun h => by rw [Bd.returns] at h; cases h) hlk
  refine ⟨_, _, pre4 _ ?_, hrun, hended, _, _, rfl, ?_, ⟨_, rfl⟩, hW, hsame.mono (by decide) (by decide)⟩
  · show Steps p.tables e below (s₁.setTop (mkF m 15 #[.val (.int p1), .val (.int p2)] [(.long (own_dec p1 p2))])) _
    exact X0.lreturnOut hx Bd.returns (hb hby d1_15) hr
  · show Q1 Z p1 p2 h0 n0 _ s₁.heap _
    rw [e0]
    exact ⟨rfl, N0, rfl⟩
theorem d2_0 : decode prog_18_method_4_code 0 = .ok (.lload_n 0, 1) := by decide +kernel
theorem d2_1 : decode prog_18_method_4_code 1 = .ok (.lconst 1, 1) := by decide +kernel
theorem d2_2 : decode prog_18_method_4_code 2 = .ok (.land, 1) := by decide +kernel
theorem d2_3 : decode prog_18_method_4_code 3 = .ok (.lconst 1, 1) := by decide +kernel
theorem d2_4 : decode prog_18_method_4_code 4 = .ok (.lcmp, 1) := by decide +kernel
theorem d2_5 : decode prog_18_method_4_code 5 = .ok (.ifCond .ne 7, 3) := by decide +kernel
theorem d2_8 : decode prog_18_method_4_code 8 = .ok (.iconst 1, 1) := by decide +kernel
theorem d2_9 : decode prog_18_method_4_code 9 = .ok (.goto 4, 3) := by decide +kernel
theorem d2_12 : decode prog_18_method_4_code 12 = .ok (.iconst 0, 1) := by decide +kernel
theorem d2_13 : decode prog_18_method_4_code 13 = .ok (.ireturn, 1) := by decide +kernel
theorem ef_2 (m : MethodId) (q1 : Int64) : entryFrame m #[(.long q1)] 2 = mkF m 0 #[.val (.long q1), .second] [] := by first | (simp [entryFrame, mkF, argsToLocals, Value.category]; done) | rfl
def Q2 (Z : State) (q1 : Int64) (h0 : Heap) (n0 : Nat) (v : Option Value) (h : Heap) (L : List Loc) : Prop := v = some (.int (own_in q1)) ∧ Fr n0 L ∧ h = h0
set_option maxRecDepth 65536 in
set_option maxHeartbeats 40000000 in
theorem rm2 (l : Launch) (Z : State) (a0 : Array Value) (hw : ∀ d ∈ tables_1, d.before a0 Z = true) (ws : List Jvm.Cond) (q1 : Int64) (h0 : Heap) (n0 : Nat) (Z0 : n0 ≤ h0.size) :
    MetFree l (⟨"com/example/unfire/unfire/check/Nogoods", "in", "(J)Z"⟩ : MethodName) (head1 (Jvm.Cond.code (⟨"com/example/unfire/unfire/check/Nogoods", "in", "(J)Z"⟩ : MethodName) prog_18_method_4_code 2 (some .boolean) :: ws) ({ frames := 0, cells := 0, slots := 0, locals := 0 } : Room)) (fun aa U => aa = #[(.long q1)] ∧ Z.Warmed39 U.vm ∧ U.heap = h0) (fun _ _ _ _ _ => True) (fun _ U o U' => ∃ v L, o = .returned v ∧ Q2 Z q1 h0 n0 v U'.heap L ∧ FrameEnd U o U' L ({ frames := 0, cells := 0, slots := 0, locals := 0 } : Room).cells ({ frames := 0, cells := 0, slots := 0, locals := 0 } : Room).slots) := by
  refine MetFree.of_bodySF (plainFor_of_name pn_Nogoods) hisR ?_
  intro p e s m args below meth c s₁ Bd hml0 hP hK
  obtain ⟨rfl, hZ, hh⟩ := hP
  have hx := Bd.exec
  have hby := Bd.bytes
  have hml : c.maxLocals = 2 := hml0
  have hown : s.vm.findClass "com/example/unfire/unfire/check/Nogoods" = some m.cls := findClass_of_methodNamed Bd.named
  have hnm := (name_of_methodNamed Bd.named Bd.method).1
  have X0 : Stand p l e ({ frames := 0, cells := 0, slots := 0, locals := 0 } : Room) s m #[(.long q1)] below meth c s₁ [] 0 0 := Stand.of_body Bd
  have e0 : s₁.heap = h0 := by rw [← hh, Bd.state]; rfl
  have N0 := Fr.nil n0
  have hlk : meth.locks = false := by first | exact BodyLoose.notSynchronized Bd | exact Body.notSynchronized Bd
  have pre0 : ∀ t, Steps p.tables e below (s₁.setTop (mkF m 0 #[.val (.long q1), .second] [])) t → Steps p.tables e below (s₁.setTop (entryFrame m #[(.long q1)] 2)) t := fun t k => castTop (ef_2 m q1) k
  have pre1 : ∀ t, Steps p.tables e below (s₁.setTop (mkF m 5 #[.val (.long q1), .second] [(.int (lcmpW (q1 &&& (1 : Int64)) (1 : Int64)))])) t → Steps p.tables e below (s₁.setTop (entryFrame m #[(.long q1)] 2)) t := fun t k => pre0 t (by
    show Steps p.tables e below (s₁.setTop (mkF m 0 #[.val (.long q1), .second] [])) _
    refine XS.lloadN X0.here hx rfl (hb hby d2_0) rfl ?_
    show Steps p.tables e below (s₁.setTop (mkF m 1 #[.val (.long q1), .second] [(.long q1)])) _
    refine XS.lconst X0.here hx rfl (hb hby d2_1) ?_
    show Steps p.tables e below (s₁.setTop (mkF m 2 #[.val (.long q1), .second] [(.long (1 : Int64)), (.long q1)])) _
    refine XS.land X0.here hx rfl (hb hby d2_2) rfl ?_
    show Steps p.tables e below (s₁.setTop (mkF m 3 #[.val (.long q1), .second] [(.long (q1 &&& (1 : Int64)))])) _
    refine XS.lconst X0.here hx rfl (hb hby d2_3) ?_
    show Steps p.tables e below (s₁.setTop (mkF m 4 #[.val (.long q1), .second] [(.long (1 : Int64)), (.long (q1 &&& (1 : Int64)))])) _
    refine XS.lcmp X0.here hx rfl (hb hby d2_4) rfl ?_
    show Steps p.tables e below (s₁.setTop (mkF m 5 #[.val (.long q1), .second] [(.int (lcmpW (q1 &&& (1 : Int64)) (1 : Int64)))])) _
    exact k)
  by_cases hc5_2 : (q1 &&& (1 : Int64)) = (1 : Int64)
  · have pre3 : ∀ t, Steps p.tables e below (s₁.setTop (mkF m 13 #[.val (.long q1), .second] [(.int (1 : Int32))])) t → Steps p.tables e below (s₁.setTop (entryFrame m #[(.long q1)] 2)) t := fun t k => pre1 t (by
      show Steps p.tables e below (s₁.setTop (mkF m 5 #[.val (.long q1), .second] [(.int (lcmpW (q1 &&& (1 : Int64)) (1 : Int64)))])) _
      refine XS.ifNo X0.here hx rfl (hb hby d2_5) rfl ((if0 _ _).trans (teq ((lw_eq _ _).mpr hc5_2)).2) ?_
      show Steps p.tables e below (s₁.setTop (mkF m 8 #[.val (.long q1), .second] [])) _
      refine XS.iconst X0.here hx rfl (hb hby d2_8) ?_
      show Steps p.tables e below (s₁.setTop (mkF m 9 #[.val (.long q1), .second] [(.int (1 : Int32))])) _
      refine XS.goto X0.here hx rfl (pc0 := 9) (pc' := 13) rfl (hb hby d2_9) (by decide) (by decide) ?_
      show Steps p.tables e below (s₁.setTop (mkF m 13 #[.val (.long q1), .second] [(.int (1 : Int32))])) _
      exact k)
    obtain ⟨fs, hr, hrun, hended, hW, hsame⟩ := X0.leave (v := some (.int (1 : Int32))) (fun h => by rw [Bd.returns] at h; cases h) hlk
    refine ⟨_, _, pre3 _ ?_, hrun, hended, _, _, rfl, ?_, ⟨_, rfl⟩, hW, hsame.mono (by decide) (by decide)⟩
    · show Steps p.tables e below (s₁.setTop (mkF m 13 #[.val (.long q1), .second] [(.int (1 : Int32))])) _
      exact retN X0 hx (t := .boolean) Bd.returns (by simp) (hb hby d2_13) hr
    · show Q2 Z q1 h0 n0 _ s₁.heap _
      rw [e0]
      exact ⟨by simp only [own_in, if_pos hc5_2], N0, rfl⟩
  · have pre4 : ∀ t, Steps p.tables e below (s₁.setTop (mkF m 13 #[.val (.long q1), .second] [(.int (0 : Int32))])) t → Steps p.tables e below (s₁.setTop (entryFrame m #[(.long q1)] 2)) t := fun t k => pre1 t (by
      show Steps p.tables e below (s₁.setTop (mkF m 5 #[.val (.long q1), .second] [(.int (lcmpW (q1 &&& (1 : Int64)) (1 : Int64)))])) _
      refine XS.ifYes X0.here hx rfl (pc0 := 5) (pc' := 12) rfl (hb hby d2_5) rfl ((if0 _ _).trans (feq (fun q => hc5_2 ((lw_eq _ _).mp q))).2) (by decide) (by decide) ?_
      show Steps p.tables e below (s₁.setTop (mkF m 12 #[.val (.long q1), .second] [])) _
      refine XS.iconst X0.here hx rfl (hb hby d2_12) ?_
      show Steps p.tables e below (s₁.setTop (mkF m 13 #[.val (.long q1), .second] [(.int (0 : Int32))])) _
      exact k)
    obtain ⟨fs, hr, hrun, hended, hW, hsame⟩ := X0.leave (v := some (.int (0 : Int32))) (fun h => by rw [Bd.returns] at h; cases h) hlk
    refine ⟨_, _, pre4 _ ?_, hrun, hended, _, _, rfl, ?_, ⟨_, rfl⟩, hW, hsame.mono (by decide) (by decide)⟩
    · show Steps p.tables e below (s₁.setTop (mkF m 13 #[.val (.long q1), .second] [(.int (0 : Int32))])) _
      exact retN X0 hx (t := .boolean) Bd.returns (by simp) (hb hby d2_13) hr
    · show Q2 Z q1 h0 n0 _ s₁.heap _
      rw [e0]
      exact ⟨by simp only [own_in, if_neg hc5_2], N0, rfl⟩
theorem pd_0 : parseMethodDescriptor "(IZ)J" = some ⟨[.int, .boolean], some .long⟩ := by decide +kernel
theorem pd_1 : parseMethodDescriptor "(J)Z" = some ⟨[.long], some .boolean⟩ := by decide +kernel
theorem pn_NogoodsInPinLaw : plainName "com/example/unfire/unfire/check/NogoodsInPinLaw" = true := by first | (simp [plainName, overriddenIn]; done) | decide +kernel
theorem ef_0 (m : MethodId) (q1 : Int64) (p1 : Int32) (p2 : Int32) : entryFrame m #[(.long q1), (.int p1), (.int p2)] maxLocals = mkF m 0 #[.val (.long q1), .second, .val (.int p1), .val (.int p2), .unset, .unset, .unset, .unset] [] := by first | (simp [entryFrame, mkF, argsToLocals, Value.category, maxLocals]; done) | rfl
def Q0 (Z : State) (q1 : Int64) (p1 : Int32) (p2 : Int32) (h0 : Heap) (n0 : Nat) (v : Option Value) (h : Heap) (L : List Loc) : Prop := v = some (.int (1 : Int32)) ∧ Fr n0 L
set_option maxRecDepth 65536 in
set_option maxHeartbeats 40000000 in
theorem rm0 (l : Launch) (Z : State) (a0 : Array Value) (hw : ∀ d ∈ tables_1, d.before a0 Z = true) (ws : List Jvm.Cond) (q1 : Int64) (p1 : Int32) (p2 : Int32) (h0 : Heap) (n0 : Nat) (Z0 : n0 ≤ h0.size) :
    MetFree l x (head1 (Jvm.Cond.code x code maxLocals ret :: ws) room_1) (fun aa U => aa = #[(.long q1), (.int p1), (.int p2)] ∧ Z.Warmed39 U.vm ∧ U.heap = h0) (fun _ _ _ _ _ => True) (fun _ U o U' => ∃ v L, o = .returned v ∧ Q0 Z q1 p1 p2 h0 n0 v U'.heap L ∧ FrameEnd U o U' L room_1.cells room_1.slots) := by
  refine MetFree.of_bodySF (plainFor_of_name pn_NogoodsInPinLaw) hisR ?_
  intro p e s m args below meth c s₁ Bd hml0 hP hK
  obtain ⟨rfl, hZ, hh⟩ := hP
  have hx := Bd.exec
  have hby := Bd.bytes
  have hml : c.maxLocals = 8 := hml0
  have hown : s.vm.findClass "com/example/unfire/unfire/check/NogoodsInPinLaw" = some m.cls := findClass_of_methodNamed Bd.named
  have hnm := (name_of_methodNamed Bd.named Bd.method).1
  have X0 : Stand p l e room_1 s m #[(.long q1), (.int p1), (.int p2)] below meth c s₁ [] 0 0 := Stand.of_body Bd
  have e0 : s₁.heap = h0 := by rw [← hh, Bd.state]; rfl
  have N0 := Fr.nil n0
  have hlk : meth.locks = false := by first | exact BodyLoose.notSynchronized Bd | exact Body.notSynchronized Bd
  have pre0 : ∀ t, Steps p.tables e below (s₁.setTop (mkF m 0 #[.val (.long q1), .second, .val (.int p1), .val (.int p2), .unset, .unset, .unset, .unset] [])) t → Steps p.tables e below (s₁.setTop (entryFrame m #[(.long q1), (.int p1), (.int p2)] maxLocals)) t := fun t k => castTop (ef_0 m q1 p1 p2) k
  have pre1 : ∀ t, Steps p.tables e below (s₁.setTop (mkF m 3 #[.val (.long q1), .second, .val (.int p1), .val (.int p2), .unset, .unset, .unset, .unset] [(.int (p2 &&& (1 : Int32)))])) t → Steps p.tables e below (s₁.setTop (entryFrame m #[(.long q1), (.int p1), (.int p2)] maxLocals)) t := fun t k => pre0 t (by
    show Steps p.tables e below (s₁.setTop (mkF m 0 #[.val (.long q1), .second, .val (.int p1), .val (.int p2), .unset, .unset, .unset, .unset] [])) _
    refine XS.iloadN X0.here hx rfl (hb hby at_0) rfl ?_
    show Steps p.tables e below (s₁.setTop (mkF m 1 #[.val (.long q1), .second, .val (.int p1), .val (.int p2), .unset, .unset, .unset, .unset] [(.int p2)])) _
    refine XS.iconst X0.here hx rfl (hb hby at_1) ?_
    show Steps p.tables e below (s₁.setTop (mkF m 2 #[.val (.long q1), .second, .val (.int p1), .val (.int p2), .unset, .unset, .unset, .unset] [(.int (1 : Int32)), (.int p2)])) _
    refine XS.iand X0.here hx rfl (hb hby at_2) rfl ?_
    show Steps p.tables e below (s₁.setTop (mkF m 3 #[.val (.long q1), .second, .val (.int p1), .val (.int p2), .unset, .unset, .unset, .unset] [(.int (p2 &&& (1 : Int32)))])) _
    exact k)
  by_cases hc3_2 : (p2 &&& (1 : Int32)) = (0 : Int32)
  · have pre3 : ∀ t, Steps p.tables e below (s₁.setTop (mkF m 16 #[.val (.long q1), .second, .val (.int p1), .val (.int p2), .val (.int (0 : Int32)), .unset, .unset, .unset] [(.int (0 : Int32)), (.int p1)])) t → Steps p.tables e below (s₁.setTop (entryFrame m #[(.long q1), (.int p1), (.int p2)] maxLocals)) t := fun t k => pre1 t (by
      show Steps p.tables e below (s₁.setTop (mkF m 3 #[.val (.long q1), .second, .val (.int p1), .val (.int p2), .unset, .unset, .unset, .unset] [(.int (p2 &&& (1 : Int32)))])) _
      refine XS.ifYes X0.here hx rfl (pc0 := 3) (pc' := 10) rfl (hb hby at_3) rfl ((if0 _ _).trans (teq hc3_2).1) (by decide) (by decide) ?_
      show Steps p.tables e below (s₁.setTop (mkF m 10 #[.val (.long q1), .second, .val (.int p1), .val (.int p2), .unset, .unset, .unset, .unset] [])) _
      refine XS.iconst X0.here hx rfl (hb hby at_10) ?_
      show Steps p.tables e below (s₁.setTop (mkF m 11 #[.val (.long q1), .second, .val (.int p1), .val (.int p2), .unset, .unset, .unset, .unset] [(.int (0 : Int32))])) _
      refine XS.istore X0.here hx rfl (hb hby at_11) rfl (l' := #[.val (.long q1), .second, .val (.int p1), .val (.int p2), .val (.int (0 : Int32)), .unset, .unset, .unset]) rfl ?_
      show Steps p.tables e below (s₁.setTop (mkF m 13 #[.val (.long q1), .second, .val (.int p1), .val (.int p2), .val (.int (0 : Int32)), .unset, .unset, .unset] [])) _
      refine XS.iloadN X0.here hx rfl (hb hby at_13) rfl ?_
      show Steps p.tables e below (s₁.setTop (mkF m 14 #[.val (.long q1), .second, .val (.int p1), .val (.int p2), .val (.int (0 : Int32)), .unset, .unset, .unset] [(.int p1)])) _
      refine XS.iload X0.here hx rfl (hb hby at_14) rfl ?_
      show Steps p.tables e below (s₁.setTop (mkF m 16 #[.val (.long q1), .second, .val (.int p1), .val (.int p2), .val (.int (0 : Int32)), .unset, .unset, .unset] [(.int (0 : Int32)), (.int p1)])) _
      exact k)
    obtain ⟨_, _, ⟨T4, L4, k4, n4⟩, -, X4, ⟨Lc4, hQ4, l4, y4, z4⟩, st4⟩ := Jvm.LawKit.callS X0 hx (y := (⟨"com/example/unfire/unfire/check/Nogoods", "decision", "(IZ)J"⟩ : MethodName)) hown (mvT hZ (hw _ (List.mem_of_getElem? (i := 0) rfl))) (mvT hZ (hw _ (List.mem_of_getElem? (i := 1) rfl))) (mvT hZ (hw _ (List.mem_of_getElem? (i := 2) rfl))) (mvT hZ (hw _ (List.mem_of_getElem? (i := 3) rfl))) (by decide) (backOf (W := 0) (rm1 l Z a0 hw [] p1 (0 : Int32) h0 n0 Z0) hZ (hw _ (List.mem_of_getElem? (i := 3) rfl)) (hw _ (List.mem_of_getElem? (i := 2) rfl)) (by decide) (by decide)) (g := (mkF m 16 #[.val (.long q1), .second, .val (.int p1), .val (.int p2), .val (.int (0 : Int32)), .unset, .unset, .unset] [(.int (0 : Int32)), (.int p1)])) rfl (by rw [hml]; rfl) (argsL := [(.int p1), (.int (0 : Int32))]) (rest := []) (lenOf pd_0 rfl) rfl (by show 2 * 0 + _ ≤ _; exact Nat.le_of_eq rfl) (hb hby at_16) (fun _ _ => ⟨rfl, e0, (by decide : 0 + 0 ≤ _), (by decide : 0 + 0 ≤ _)⟩)
    dsimp only [Pt.U, Pt.locs, Pt.cells, Pt.slots] at X4 l4 y4 z4 st4 hQ4
    subst l4 y4 z4
    obtain ⟨rfl, N4q, e4⟩ := hQ4
    have N4 := Fr.app N0 N4q
    have pre5 : ∀ t, Steps p.tables e below (T4.setTop (mkF m 19 #[.val (.long q1), .second, .val (.int p1), .val (.int p2), .val (.int (0 : Int32)), .unset, .unset, .unset] [(.long (own_dec p1 (0 : Int32)))])) t → Steps p.tables e below (s₁.setTop (entryFrame m #[(.long q1), (.int p1), (.int p2)] maxLocals)) t := fun t k => pre3 t (st4 t k)
    obtain ⟨_, _, ⟨T6, L6, k6, n6⟩, -, X6, ⟨Lc6, hQ6, l6, y6, z6⟩, st6⟩ := Jvm.LawKit.callS X4 hx (y := (⟨"com/example/unfire/unfire/check/Nogoods", "in", "(J)Z"⟩ : MethodName)) hown (mvT hZ (hw _ (List.mem_of_getElem? (i := 4) rfl))) (mvT hZ (hw _ (List.mem_of_getElem? (i := 5) rfl))) (mvT hZ (hw _ (List.mem_of_getElem? (i := 2) rfl))) (mvT hZ (hw _ (List.mem_of_getElem? (i := 6) rfl))) (by decide) (backOf (W := 0) (rm2 l Z a0 hw [] (own_dec p1 (0 : Int32)) h0 n0 Z0) hZ (hw _ (List.mem_of_getElem? (i := 6) rfl)) (hw _ (List.mem_of_getElem? (i := 2) rfl)) (by decide) (by decide)) (g := (mkF m 19 #[.val (.long q1), .second, .val (.int p1), .val (.int p2), .val (.int (0 : Int32)), .unset, .unset, .unset] [(.long (own_dec p1 (0 : Int32)))])) rfl (by rw [hml]; rfl) (argsL := [(.long (own_dec p1 (0 : Int32)))]) (rest := []) (lenOf pd_1 rfl) rfl (by show 2 * 0 + _ ≤ _; exact Nat.le_of_eq rfl) (hb hby at_19) (fun _ _ => ⟨rfl, e4, (by decide : 0 + 0 ≤ _), (by decide : 0 + 0 ≤ _)⟩)
    dsimp only [Pt.U, Pt.locs, Pt.cells, Pt.slots] at X6 l6 y6 z6 st6 hQ6
    subst l6 y6 z6
    obtain ⟨rfl, N6q, e6⟩ := hQ6
    have N6 := Fr.app N4 N6q
    have pre7 : ∀ t, Steps p.tables e below (T6.setTop (mkF m 22 #[.val (.long q1), .second, .val (.int p1), .val (.int p2), .val (.int (0 : Int32)), .unset, .unset, .unset] [(.int (own_in (own_dec p1 (0 : Int32))))])) t → Steps p.tables e below (s₁.setTop (entryFrame m #[(.long q1), (.int p1), (.int p2)] maxLocals)) t := fun t k => pre5 t (st6 t k)
    have pre8 : ∀ t, Steps p.tables e below (T6.setTop (mkF m 35 #[.val (.long q1), .second, .val (.int p1), .val (.int p2), .val (.int (0 : Int32)), .val (.int (1 : Int32)), .unset, .unset] [(.long q1)])) t → Steps p.tables e below (s₁.setTop (entryFrame m #[(.long q1), (.int p1), (.int p2)] maxLocals)) t := fun t k => pre7 t (by
      show Steps p.tables e below (T6.setTop (mkF m 22 #[.val (.long q1), .second, .val (.int p1), .val (.int p2), .val (.int (0 : Int32)), .unset, .unset, .unset] [(.int (own_in (own_dec p1 (0 : Int32))))])) _
      refine XS.iload X6.here hx rfl (hb hby at_22) rfl ?_
      show Steps p.tables e below (T6.setTop (mkF m 24 #[.val (.long q1), .second, .val (.int p1), .val (.int p2), .val (.int (0 : Int32)), .unset, .unset, .unset] [(.int (0 : Int32)), (.int (own_in (own_dec p1 (0 : Int32))))])) _
      refine XS.icmpNo X6.here hx rfl (hb hby at_24) rfl (teq (show (own_in (own_dec p1 (0 : Int32))) = (0 : Int32) from own_i0 p1)).2 ?_
      show Steps p.tables e below (T6.setTop (mkF m 27 #[.val (.long q1), .second, .val (.int p1), .val (.int p2), .val (.int (0 : Int32)), .unset, .unset, .unset] [])) _
      refine XS.iconst X6.here hx rfl (hb hby at_27) ?_
      show Steps p.tables e below (T6.setTop (mkF m 28 #[.val (.long q1), .second, .val (.int p1), .val (.int p2), .val (.int (0 : Int32)), .unset, .unset, .unset] [(.int (1 : Int32))])) _
      refine XS.goto X6.here hx rfl (pc0 := 28) (pc' := 32) rfl (hb hby at_28) (by decide) (by decide) ?_
      show Steps p.tables e below (T6.setTop (mkF m 32 #[.val (.long q1), .second, .val (.int p1), .val (.int p2), .val (.int (0 : Int32)), .unset, .unset, .unset] [(.int (1 : Int32))])) _
      refine XS.istore X6.here hx rfl (hb hby at_32) rfl (l' := #[.val (.long q1), .second, .val (.int p1), .val (.int p2), .val (.int (0 : Int32)), .val (.int (1 : Int32)), .unset, .unset]) rfl ?_
      show Steps p.tables e below (T6.setTop (mkF m 34 #[.val (.long q1), .second, .val (.int p1), .val (.int p2), .val (.int (0 : Int32)), .val (.int (1 : Int32)), .unset, .unset] [])) _
      refine XS.lloadN X6.here hx rfl (hb hby at_34) rfl ?_
      show Steps p.tables e below (T6.setTop (mkF m 35 #[.val (.long q1), .second, .val (.int p1), .val (.int p2), .val (.int (0 : Int32)), .val (.int (1 : Int32)), .unset, .unset] [(.long q1)])) _
      exact k)
    obtain ⟨_, _, ⟨T9, L9, k9, n9⟩, -, X9, ⟨Lc9, hQ9, l9, y9, z9⟩, st9⟩ := Jvm.LawKit.callS X6 hx (y := (⟨"com/example/unfire/unfire/check/Nogoods", "in", "(J)Z"⟩ : MethodName)) hown (mvT hZ (hw _ (List.mem_of_getElem? (i := 4) rfl))) (mvT hZ (hw _ (List.mem_of_getElem? (i := 5) rfl))) (mvT hZ (hw _ (List.mem_of_getElem? (i := 2) rfl))) (mvT hZ (hw _ (List.mem_of_getElem? (i := 6) rfl))) (by decide) (backOf (W := 0) (rm2 l Z a0 hw [] q1 h0 n0 Z0) hZ (hw _ (List.mem_of_getElem? (i := 6) rfl)) (hw _ (List.mem_of_getElem? (i := 2) rfl)) (by decide) (by decide)) (g := (mkF m 35 #[.val (.long q1), .second, .val (.int p1), .val (.int p2), .val (.int (0 : Int32)), .val (.int (1 : Int32)), .unset, .unset] [(.long q1)])) rfl (by rw [hml]; rfl) (argsL := [(.long q1)]) (rest := []) (lenOf pd_1 rfl) rfl (by show 2 * 0 + _ ≤ _; exact Nat.le_of_eq rfl) (hb hby at_35) (fun _ _ => ⟨rfl, e6, (by decide : 0 + 0 ≤ _), (by decide : 0 + 0 ≤ _)⟩)
    dsimp only [Pt.U, Pt.locs, Pt.cells, Pt.slots] at X9 l9 y9 z9 st9 hQ9
    subst l9 y9 z9
    obtain ⟨rfl, N9q, e9⟩ := hQ9
    have N9 := Fr.app N6 N9q
    have pre10 : ∀ t, Steps p.tables e below (T9.setTop (mkF m 38 #[.val (.long q1), .second, .val (.int p1), .val (.int p2), .val (.int (0 : Int32)), .val (.int (1 : Int32)), .unset, .unset] [(.int (own_in q1))])) t → Steps p.tables e below (s₁.setTop (entryFrame m #[(.long q1), (.int p1), (.int p2)] maxLocals)) t := fun t k => pre8 t (st9 t k)
    have pre11 : ∀ t, Steps p.tables e below (T9.setTop (mkF m 45 #[.val (.long q1), .second, .val (.int p1), .val (.int p2), .val (.int (0 : Int32)), .val (.int (1 : Int32)), .unset, .unset] [(.int (lcmpW (own_lrem q1 (2 : Int64)) (0 : Int64))), (.int (own_in q1))])) t → Steps p.tables e below (s₁.setTop (entryFrame m #[(.long q1), (.int p1), (.int p2)] maxLocals)) t := fun t k => pre10 t (by
      show Steps p.tables e below (T9.setTop (mkF m 38 #[.val (.long q1), .second, .val (.int p1), .val (.int p2), .val (.int (0 : Int32)), .val (.int (1 : Int32)), .unset, .unset] [(.int (own_in q1))])) _
      refine XS.lloadN X9.here hx rfl (hb hby at_38) rfl ?_
      show Steps p.tables e below (T9.setTop (mkF m 39 #[.val (.long q1), .second, .val (.int p1), .val (.int p2), .val (.int (0 : Int32)), .val (.int (1 : Int32)), .unset, .unset] [(.long q1), (.int (own_in q1))])) _
      refine X9.ldc2Long hx hown (mvT hZ (hw _ (List.mem_of_getElem? (i := 7) rfl))) (g := (mkF m 39 #[.val (.long q1), .second, .val (.int p1), .val (.int p2), .val (.int (0 : Int32)), .val (.int (1 : Int32)), .unset, .unset] [(.long q1), (.int (own_in q1))])) rfl (hb hby at_39) _ ?_
      show Steps p.tables e below (T9.setTop (mkF m 42 #[.val (.long q1), .second, .val (.int p1), .val (.int p2), .val (.int (0 : Int32)), .val (.int (1 : Int32)), .unset, .unset] [(.long (2 : Int64)), (.long q1), (.int (own_in q1))])) _
      refine XS.lrem X9.here hx rfl (hb hby at_42) rfl (by decide) ?_
      show Steps p.tables e below (T9.setTop (mkF m 43 #[.val (.long q1), .second, .val (.int p1), .val (.int p2), .val (.int (0 : Int32)), .val (.int (1 : Int32)), .unset, .unset] [(.long (own_lrem q1 (2 : Int64))), (.int (own_in q1))])) _
      refine XS.lconst X9.here hx rfl (hb hby at_43) ?_
      show Steps p.tables e below (T9.setTop (mkF m 44 #[.val (.long q1), .second, .val (.int p1), .val (.int p2), .val (.int (0 : Int32)), .val (.int (1 : Int32)), .unset, .unset] [(.long (0 : Int64)), (.long (own_lrem q1 (2 : Int64))), (.int (own_in q1))])) _
      refine XS.lcmp X9.here hx rfl (hb hby at_44) rfl ?_
      show Steps p.tables e below (T9.setTop (mkF m 45 #[.val (.long q1), .second, .val (.int p1), .val (.int p2), .val (.int (0 : Int32)), .val (.int (1 : Int32)), .unset, .unset] [(.int (lcmpW (own_lrem q1 (2 : Int64)) (0 : Int64))), (.int (own_in q1))])) _
      exact k)
    have pre13 : ∀ t, Steps p.tables e below (T9.setTop (mkF m 53 #[.val (.long q1), .second, .val (.int p1), .val (.int p2), .val (.int (0 : Int32)), .val (.int (1 : Int32)), .unset, .unset] [(.int (if (own_lrem q1 (2 : Int64)) = (0 : Int64) then (0 : Int32) else (1 : Int32))), (.int (own_in q1))])) t → Steps p.tables e below (s₁.setTop (entryFrame m #[(.long q1), (.int p1), (.int p2)] maxLocals)) t := fun t k => pre11 t (by
      show Steps p.tables e below (T9.setTop (mkF m 45 #[.val (.long q1), .second, .val (.int p1), .val (.int p2), .val (.int (0 : Int32)), .val (.int (1 : Int32)), .unset, .unset] [(.int (lcmpW (own_lrem q1 (2 : Int64)) (0 : Int64))), (.int (own_in q1))])) _
      by_cases hm45_12 : (own_lrem q1 (2 : Int64)) = (0 : Int64)
      · refine XS.ifYes X9.here hx rfl (pc0 := 45) (pc' := 52) rfl (hb hby at_45) rfl ((if0 _ _).trans (teq ((lw_eq _ _).mpr hm45_12)).1) (by decide) (by decide) ?_
        show Steps p.tables e below (T9.setTop (mkF m 52 #[.val (.long q1), .second, .val (.int p1), .val (.int p2), .val (.int (0 : Int32)), .val (.int (1 : Int32)), .unset, .unset] [(.int (own_in q1))])) _
        refine XS.iconst X9.here hx rfl (hb hby at_52) ?_
        show Steps p.tables e below (T9.setTop (mkF m 53 #[.val (.long q1), .second, .val (.int p1), .val (.int p2), .val (.int (0 : Int32)), .val (.int (1 : Int32)), .unset, .unset] [(.int (0 : Int32)), (.int (own_in q1))])) _
        have q : (if (own_lrem q1 (2 : Int64)) = (0 : Int64) then (0 : Int32) else (1 : Int32)) = (0 : Int32) := by simp only [if_pos hm45_12]
        exact Eq.subst (motive := fun xI => Steps p.tables e below (T9.setTop (mkF m 53 #[.val (.long q1), .second, .val (.int p1), .val (.int p2), .val (.int (0 : Int32)), .val (.int (1 : Int32)), .unset, .unset] [(.int xI), (.int (own_in q1))])) t) q k
      · refine XS.ifNo X9.here hx rfl (hb hby at_45) rfl ((if0 _ _).trans (feq (fun q => hm45_12 ((lw_eq _ _).mp q))).1) ?_
        show Steps p.tables e below (T9.setTop (mkF m 48 #[.val (.long q1), .second, .val (.int p1), .val (.int p2), .val (.int (0 : Int32)), .val (.int (1 : Int32)), .unset, .unset] [(.int (own_in q1))])) _
        refine XS.iconst X9.here hx rfl (hb hby at_48) ?_
        show Steps p.tables e below (T9.setTop (mkF m 49 #[.val (.long q1), .second, .val (.int p1), .val (.int p2), .val (.int (0 : Int32)), .val (.int (1 : Int32)), .unset, .unset] [(.int (1 : Int32)), (.int (own_in q1))])) _
        refine XS.goto X9.here hx rfl (pc0 := 49) (pc' := 53) rfl (hb hby at_49) (by decide) (by decide) ?_
        show Steps p.tables e below (T9.setTop (mkF m 53 #[.val (.long q1), .second, .val (.int p1), .val (.int p2), .val (.int (0 : Int32)), .val (.int (1 : Int32)), .unset, .unset] [(.int (1 : Int32)), (.int (own_in q1))])) _
        have q : (if (own_lrem q1 (2 : Int64)) = (0 : Int64) then (0 : Int32) else (1 : Int32)) = (1 : Int32) := by simp only [if_neg hm45_12]
        exact Eq.subst (motive := fun xI => Steps p.tables e below (T9.setTop (mkF m 53 #[.val (.long q1), .second, .val (.int p1), .val (.int p2), .val (.int (0 : Int32)), .val (.int (1 : Int32)), .unset, .unset] [(.int xI), (.int (own_in q1))])) t) q k)
    have pre14 : ∀ t, Steps p.tables e below (T9.setTop (mkF m 66 #[.val (.long q1), .second, .val (.int p1), .val (.int p2), .val (.int (0 : Int32)), .val (.int (1 : Int32)), .val (.int (1 : Int32)), .unset] [(.long (q1 ^^^ (1 : Int64)))])) t → Steps p.tables e below (s₁.setTop (entryFrame m #[(.long q1), (.int p1), (.int p2)] maxLocals)) t := fun t k => pre13 t (by
      show Steps p.tables e below (T9.setTop (mkF m 53 #[.val (.long q1), .second, .val (.int p1), .val (.int p2), .val (.int (0 : Int32)), .val (.int (1 : Int32)), .unset, .unset] [(.int (if (own_lrem q1 (2 : Int64)) = (0 : Int64) then (0 : Int32) else (1 : Int32))), (.int (own_in q1))])) _
      refine XS.icmpNo X9.here hx rfl (hb hby at_53) rfl (teq (show (own_in q1) = (if (own_lrem q1 (2 : Int64)) = (0 : Int64) then (0 : Int32) else (1 : Int32)) from own_ref q1)).2 ?_
      show Steps p.tables e below (T9.setTop (mkF m 56 #[.val (.long q1), .second, .val (.int p1), .val (.int p2), .val (.int (0 : Int32)), .val (.int (1 : Int32)), .unset, .unset] [])) _
      refine XS.iconst X9.here hx rfl (hb hby at_56) ?_
      show Steps p.tables e below (T9.setTop (mkF m 57 #[.val (.long q1), .second, .val (.int p1), .val (.int p2), .val (.int (0 : Int32)), .val (.int (1 : Int32)), .unset, .unset] [(.int (1 : Int32))])) _
      refine XS.goto X9.here hx rfl (pc0 := 57) (pc' := 61) rfl (hb hby at_57) (by decide) (by decide) ?_
      show Steps p.tables e below (T9.setTop (mkF m 61 #[.val (.long q1), .second, .val (.int p1), .val (.int p2), .val (.int (0 : Int32)), .val (.int (1 : Int32)), .unset, .unset] [(.int (1 : Int32))])) _
      refine XS.istore X9.here hx rfl (hb hby at_61) rfl (l' := #[.val (.long q1), .second, .val (.int p1), .val (.int p2), .val (.int (0 : Int32)), .val (.int (1 : Int32)), .val (.int (1 : Int32)), .unset]) rfl ?_
      show Steps p.tables e below (T9.setTop (mkF m 63 #[.val (.long q1), .second, .val (.int p1), .val (.int p2), .val (.int (0 : Int32)), .val (.int (1 : Int32)), .val (.int (1 : Int32)), .unset] [])) _
      refine XS.lloadN X9.here hx rfl (hb hby at_63) rfl ?_
      show Steps p.tables e below (T9.setTop (mkF m 64 #[.val (.long q1), .second, .val (.int p1), .val (.int p2), .val (.int (0 : Int32)), .val (.int (1 : Int32)), .val (.int (1 : Int32)), .unset] [(.long q1)])) _
      refine XS.lconst X9.here hx rfl (hb hby at_64) ?_
      show Steps p.tables e below (T9.setTop (mkF m 65 #[.val (.long q1), .second, .val (.int p1), .val (.int p2), .val (.int (0 : Int32)), .val (.int (1 : Int32)), .val (.int (1 : Int32)), .unset] [(.long (1 : Int64)), (.long q1)])) _
      refine XS.lxor X9.here hx rfl (hb hby at_65) rfl ?_
      show Steps p.tables e below (T9.setTop (mkF m 66 #[.val (.long q1), .second, .val (.int p1), .val (.int p2), .val (.int (0 : Int32)), .val (.int (1 : Int32)), .val (.int (1 : Int32)), .unset] [(.long (q1 ^^^ (1 : Int64)))])) _
      exact k)
    obtain ⟨_, _, ⟨T15, L15, k15, n15⟩, -, X15, ⟨Lc15, hQ15, l15, y15, z15⟩, st15⟩ := Jvm.LawKit.callS X9 hx (y := (⟨"com/example/unfire/unfire/check/Nogoods", "in", "(J)Z"⟩ : MethodName)) hown (mvT hZ (hw _ (List.mem_of_getElem? (i := 4) rfl))) (mvT hZ (hw _ (List.mem_of_getElem? (i := 5) rfl))) (mvT hZ (hw _ (List.mem_of_getElem? (i := 2) rfl))) (mvT hZ (hw _ (List.mem_of_getElem? (i := 6) rfl))) (by decide) (backOf (W := 0) (rm2 l Z a0 hw [] (q1 ^^^ (1 : Int64)) h0 n0 Z0) hZ (hw _ (List.mem_of_getElem? (i := 6) rfl)) (hw _ (List.mem_of_getElem? (i := 2) rfl)) (by decide) (by decide)) (g := (mkF m 66 #[.val (.long q1), .second, .val (.int p1), .val (.int p2), .val (.int (0 : Int32)), .val (.int (1 : Int32)), .val (.int (1 : Int32)), .unset] [(.long (q1 ^^^ (1 : Int64)))])) rfl (by rw [hml]; rfl) (argsL := [(.long (q1 ^^^ (1 : Int64)))]) (rest := []) (lenOf pd_1 rfl) rfl (by show 2 * 0 + _ ≤ _; exact Nat.le_of_eq rfl) (hb hby at_66) (fun _ _ => ⟨rfl, e9, (by decide : 0 + 0 ≤ _), (by decide : 0 + 0 ≤ _)⟩)
    dsimp only [Pt.U, Pt.locs, Pt.cells, Pt.slots] at X15 l15 y15 z15 st15 hQ15
    subst l15 y15 z15
    obtain ⟨rfl, N15q, e15⟩ := hQ15
    have N15 := Fr.app N9 N15q
    have pre16 : ∀ t, Steps p.tables e below (T15.setTop (mkF m 69 #[.val (.long q1), .second, .val (.int p1), .val (.int p2), .val (.int (0 : Int32)), .val (.int (1 : Int32)), .val (.int (1 : Int32)), .unset] [(.int (own_in (q1 ^^^ (1 : Int64))))])) t → Steps p.tables e below (s₁.setTop (entryFrame m #[(.long q1), (.int p1), (.int p2)] maxLocals)) t := fun t k => pre14 t (st15 t k)
    have pre17 : ∀ t, Steps p.tables e below (T15.setTop (mkF m 70 #[.val (.long q1), .second, .val (.int p1), .val (.int p2), .val (.int (0 : Int32)), .val (.int (1 : Int32)), .val (.int (1 : Int32)), .unset] [(.long q1), (.int (own_in (q1 ^^^ (1 : Int64))))])) t → Steps p.tables e below (s₁.setTop (entryFrame m #[(.long q1), (.int p1), (.int p2)] maxLocals)) t := fun t k => pre16 t (by
      show Steps p.tables e below (T15.setTop (mkF m 69 #[.val (.long q1), .second, .val (.int p1), .val (.int p2), .val (.int (0 : Int32)), .val (.int (1 : Int32)), .val (.int (1 : Int32)), .unset] [(.int (own_in (q1 ^^^ (1 : Int64))))])) _
      refine XS.lloadN X15.here hx rfl (hb hby at_69) rfl ?_
      show Steps p.tables e below (T15.setTop (mkF m 70 #[.val (.long q1), .second, .val (.int p1), .val (.int p2), .val (.int (0 : Int32)), .val (.int (1 : Int32)), .val (.int (1 : Int32)), .unset] [(.long q1), (.int (own_in (q1 ^^^ (1 : Int64))))])) _
      exact k)
    obtain ⟨_, _, ⟨T18, L18, k18, n18⟩, -, X18, ⟨Lc18, hQ18, l18, y18, z18⟩, st18⟩ := Jvm.LawKit.callS X15 hx (y := (⟨"com/example/unfire/unfire/check/Nogoods", "in", "(J)Z"⟩ : MethodName)) hown (mvT hZ (hw _ (List.mem_of_getElem? (i := 4) rfl))) (mvT hZ (hw _ (List.mem_of_getElem? (i := 5) rfl))) (mvT hZ (hw _ (List.mem_of_getElem? (i := 2) rfl))) (mvT hZ (hw _ (List.mem_of_getElem? (i := 6) rfl))) (by decide) (backOf (W := 1) (rm2 l Z a0 hw [] q1 h0 n0 Z0) hZ (hw _ (List.mem_of_getElem? (i := 6) rfl)) (hw _ (List.mem_of_getElem? (i := 2) rfl)) (by decide) (by decide)) (g := (mkF m 70 #[.val (.long q1), .second, .val (.int p1), .val (.int p2), .val (.int (0 : Int32)), .val (.int (1 : Int32)), .val (.int (1 : Int32)), .unset] [(.long q1), (.int (own_in (q1 ^^^ (1 : Int64))))])) rfl (by rw [hml]; rfl) (argsL := [(.long q1)]) (rest := [(.int (own_in (q1 ^^^ (1 : Int64))))]) (lenOf pd_1 rfl) rfl (by show 2 * 0 + _ ≤ _; exact Nat.le_of_eq rfl) (hb hby at_70) (fun _ _ => ⟨rfl, e15, (by decide : 0 + 0 ≤ _), (by decide : 0 + 0 ≤ _)⟩)
    dsimp only [Pt.U, Pt.locs, Pt.cells, Pt.slots] at X18 l18 y18 z18 st18 hQ18
    subst l18 y18 z18
    obtain ⟨rfl, N18q, e18⟩ := hQ18
    have N18 := Fr.app N15 N18q
    have pre19 : ∀ t, Steps p.tables e below (T18.setTop (mkF m 73 #[.val (.long q1), .second, .val (.int p1), .val (.int p2), .val (.int (0 : Int32)), .val (.int (1 : Int32)), .val (.int (1 : Int32)), .unset] [(.int (own_in q1)), (.int (own_in (q1 ^^^ (1 : Int64))))])) t → Steps p.tables e below (s₁.setTop (entryFrame m #[(.long q1), (.int p1), (.int p2)] maxLocals)) t := fun t k => pre17 t (st18 t k)
    have pre20 : ∀ t, Steps p.tables e below (T18.setTop (mkF m 103 #[.val (.long q1), .second, .val (.int p1), .val (.int p2), .val (.int (0 : Int32)), .val (.int (1 : Int32)), .val (.int (1 : Int32)), .val (.int (1 : Int32))] [(.int (1 : Int32))])) t → Steps p.tables e below (s₁.setTop (entryFrame m #[(.long q1), (.int p1), (.int p2)] maxLocals)) t := fun t k => pre19 t (by
      show Steps p.tables e below (T18.setTop (mkF m 73 #[.val (.long q1), .second, .val (.int p1), .val (.int p2), .val (.int (0 : Int32)), .val (.int (1 : Int32)), .val (.int (1 : Int32)), .unset] [(.int (own_in q1)), (.int (own_in (q1 ^^^ (1 : Int64))))])) _
      refine XS.icmpNo X18.here hx rfl (hb hby at_73) rfl (feq (show ¬ ((own_in (q1 ^^^ (1 : Int64))) = (own_in q1)) from own_opp q1)).1 ?_
      show Steps p.tables e below (T18.setTop (mkF m 76 #[.val (.long q1), .second, .val (.int p1), .val (.int p2), .val (.int (0 : Int32)), .val (.int (1 : Int32)), .val (.int (1 : Int32)), .unset] [])) _
      refine XS.iconst X18.here hx rfl (hb hby at_76) ?_
      show Steps p.tables e below (T18.setTop (mkF m 77 #[.val (.long q1), .second, .val (.int p1), .val (.int p2), .val (.int (0 : Int32)), .val (.int (1 : Int32)), .val (.int (1 : Int32)), .unset] [(.int (1 : Int32))])) _
      refine XS.goto X18.here hx rfl (pc0 := 77) (pc' := 81) rfl (hb hby at_77) (by decide) (by decide) ?_
      show Steps p.tables e below (T18.setTop (mkF m 81 #[.val (.long q1), .second, .val (.int p1), .val (.int p2), .val (.int (0 : Int32)), .val (.int (1 : Int32)), .val (.int (1 : Int32)), .unset] [(.int (1 : Int32))])) _
      refine XS.istore X18.here hx rfl (hb hby at_81) rfl (l' := #[.val (.long q1), .second, .val (.int p1), .val (.int p2), .val (.int (0 : Int32)), .val (.int (1 : Int32)), .val (.int (1 : Int32)), .val (.int (1 : Int32))]) rfl ?_
      show Steps p.tables e below (T18.setTop (mkF m 83 #[.val (.long q1), .second, .val (.int p1), .val (.int p2), .val (.int (0 : Int32)), .val (.int (1 : Int32)), .val (.int (1 : Int32)), .val (.int (1 : Int32))] [])) _
      refine XS.iload X18.here hx rfl (hb hby at_83) rfl ?_
      show Steps p.tables e below (T18.setTop (mkF m 85 #[.val (.long q1), .second, .val (.int p1), .val (.int p2), .val (.int (0 : Int32)), .val (.int (1 : Int32)), .val (.int (1 : Int32)), .val (.int (1 : Int32))] [(.int (1 : Int32))])) _
      refine XS.ifNo X18.here hx rfl (hb hby at_85) rfl ((if0 _ _).trans (feq (by decide)).1) ?_
      show Steps p.tables e below (T18.setTop (mkF m 88 #[.val (.long q1), .second, .val (.int p1), .val (.int p2), .val (.int (0 : Int32)), .val (.int (1 : Int32)), .val (.int (1 : Int32)), .val (.int (1 : Int32))] [])) _
      refine XS.iload X18.here hx rfl (hb hby at_88) rfl ?_
      show Steps p.tables e below (T18.setTop (mkF m 90 #[.val (.long q1), .second, .val (.int p1), .val (.int p2), .val (.int (0 : Int32)), .val (.int (1 : Int32)), .val (.int (1 : Int32)), .val (.int (1 : Int32))] [(.int (1 : Int32))])) _
      refine XS.ifNo X18.here hx rfl (hb hby at_90) rfl ((if0 _ _).trans (feq (by decide)).1) ?_
      show Steps p.tables e below (T18.setTop (mkF m 93 #[.val (.long q1), .second, .val (.int p1), .val (.int p2), .val (.int (0 : Int32)), .val (.int (1 : Int32)), .val (.int (1 : Int32)), .val (.int (1 : Int32))] [])) _
      refine XS.iload X18.here hx rfl (hb hby at_93) rfl ?_
      show Steps p.tables e below (T18.setTop (mkF m 95 #[.val (.long q1), .second, .val (.int p1), .val (.int p2), .val (.int (0 : Int32)), .val (.int (1 : Int32)), .val (.int (1 : Int32)), .val (.int (1 : Int32))] [(.int (1 : Int32))])) _
      refine XS.ifNo X18.here hx rfl (hb hby at_95) rfl ((if0 _ _).trans (feq (by decide)).1) ?_
      show Steps p.tables e below (T18.setTop (mkF m 98 #[.val (.long q1), .second, .val (.int p1), .val (.int p2), .val (.int (0 : Int32)), .val (.int (1 : Int32)), .val (.int (1 : Int32)), .val (.int (1 : Int32))] [])) _
      refine XS.iconst X18.here hx rfl (hb hby at_98) ?_
      show Steps p.tables e below (T18.setTop (mkF m 99 #[.val (.long q1), .second, .val (.int p1), .val (.int p2), .val (.int (0 : Int32)), .val (.int (1 : Int32)), .val (.int (1 : Int32)), .val (.int (1 : Int32))] [(.int (1 : Int32))])) _
      refine XS.goto X18.here hx rfl (pc0 := 99) (pc' := 103) rfl (hb hby at_99) (by decide) (by decide) ?_
      show Steps p.tables e below (T18.setTop (mkF m 103 #[.val (.long q1), .second, .val (.int p1), .val (.int p2), .val (.int (0 : Int32)), .val (.int (1 : Int32)), .val (.int (1 : Int32)), .val (.int (1 : Int32))] [(.int (1 : Int32))])) _
      exact k)
    obtain ⟨fs, hr, hrun, hended, hW, hsame⟩ := X18.leave (v := some (.int (1 : Int32))) (fun h => by rw [Bd.returns] at h; cases h) hlk
    refine ⟨_, _, pre20 _ ?_, hrun, hended, _, _, rfl, ?_, ⟨_, rfl⟩, hW, hsame.mono (by decide) (by decide)⟩
    · show Steps p.tables e below (T18.setTop (mkF m 103 #[.val (.long q1), .second, .val (.int p1), .val (.int p2), .val (.int (0 : Int32)), .val (.int (1 : Int32)), .val (.int (1 : Int32)), .val (.int (1 : Int32))] [(.int (1 : Int32))])) _
      exact retN X18 hx (t := .boolean) Bd.returns (by simp) (hb hby at_103) hr
    · show Q0 Z q1 p1 p2 h0 n0 _ T18.heap _
      rw [e18]
      exact ⟨rfl, N18⟩
  · have pre21 : ∀ t, Steps p.tables e below (s₁.setTop (mkF m 16 #[.val (.long q1), .second, .val (.int p1), .val (.int p2), .val (.int (1 : Int32)), .unset, .unset, .unset] [(.int (1 : Int32)), (.int p1)])) t → Steps p.tables e below (s₁.setTop (entryFrame m #[(.long q1), (.int p1), (.int p2)] maxLocals)) t := fun t k => pre1 t (by
      show Steps p.tables e below (s₁.setTop (mkF m 3 #[.val (.long q1), .second, .val (.int p1), .val (.int p2), .unset, .unset, .unset, .unset] [(.int (p2 &&& (1 : Int32)))])) _
      refine XS.ifNo X0.here hx rfl (hb hby at_3) rfl ((if0 _ _).trans (feq hc3_2).1) ?_
      show Steps p.tables e below (s₁.setTop (mkF m 6 #[.val (.long q1), .second, .val (.int p1), .val (.int p2), .unset, .unset, .unset, .unset] [])) _
      refine XS.iconst X0.here hx rfl (hb hby at_6) ?_
      show Steps p.tables e below (s₁.setTop (mkF m 7 #[.val (.long q1), .second, .val (.int p1), .val (.int p2), .unset, .unset, .unset, .unset] [(.int (1 : Int32))])) _
      refine XS.goto X0.here hx rfl (pc0 := 7) (pc' := 11) rfl (hb hby at_7) (by decide) (by decide) ?_
      show Steps p.tables e below (s₁.setTop (mkF m 11 #[.val (.long q1), .second, .val (.int p1), .val (.int p2), .unset, .unset, .unset, .unset] [(.int (1 : Int32))])) _
      refine XS.istore X0.here hx rfl (hb hby at_11) rfl (l' := #[.val (.long q1), .second, .val (.int p1), .val (.int p2), .val (.int (1 : Int32)), .unset, .unset, .unset]) rfl ?_
      show Steps p.tables e below (s₁.setTop (mkF m 13 #[.val (.long q1), .second, .val (.int p1), .val (.int p2), .val (.int (1 : Int32)), .unset, .unset, .unset] [])) _
      refine XS.iloadN X0.here hx rfl (hb hby at_13) rfl ?_
      show Steps p.tables e below (s₁.setTop (mkF m 14 #[.val (.long q1), .second, .val (.int p1), .val (.int p2), .val (.int (1 : Int32)), .unset, .unset, .unset] [(.int p1)])) _
      refine XS.iload X0.here hx rfl (hb hby at_14) rfl ?_
      show Steps p.tables e below (s₁.setTop (mkF m 16 #[.val (.long q1), .second, .val (.int p1), .val (.int p2), .val (.int (1 : Int32)), .unset, .unset, .unset] [(.int (1 : Int32)), (.int p1)])) _
      exact k)
    obtain ⟨_, _, ⟨T22, L22, k22, n22⟩, -, X22, ⟨Lc22, hQ22, l22, y22, z22⟩, st22⟩ := Jvm.LawKit.callS X0 hx (y := (⟨"com/example/unfire/unfire/check/Nogoods", "decision", "(IZ)J"⟩ : MethodName)) hown (mvT hZ (hw _ (List.mem_of_getElem? (i := 0) rfl))) (mvT hZ (hw _ (List.mem_of_getElem? (i := 1) rfl))) (mvT hZ (hw _ (List.mem_of_getElem? (i := 2) rfl))) (mvT hZ (hw _ (List.mem_of_getElem? (i := 3) rfl))) (by decide) (backOf (W := 0) (rm1 l Z a0 hw [] p1 (1 : Int32) h0 n0 Z0) hZ (hw _ (List.mem_of_getElem? (i := 3) rfl)) (hw _ (List.mem_of_getElem? (i := 2) rfl)) (by decide) (by decide)) (g := (mkF m 16 #[.val (.long q1), .second, .val (.int p1), .val (.int p2), .val (.int (1 : Int32)), .unset, .unset, .unset] [(.int (1 : Int32)), (.int p1)])) rfl (by rw [hml]; rfl) (argsL := [(.int p1), (.int (1 : Int32))]) (rest := []) (lenOf pd_0 rfl) rfl (by show 2 * 0 + _ ≤ _; exact Nat.le_of_eq rfl) (hb hby at_16) (fun _ _ => ⟨rfl, e0, (by decide : 0 + 0 ≤ _), (by decide : 0 + 0 ≤ _)⟩)
    dsimp only [Pt.U, Pt.locs, Pt.cells, Pt.slots] at X22 l22 y22 z22 st22 hQ22
    subst l22 y22 z22
    obtain ⟨rfl, N22q, e22⟩ := hQ22
    have N22 := Fr.app N0 N22q
    have pre23 : ∀ t, Steps p.tables e below (T22.setTop (mkF m 19 #[.val (.long q1), .second, .val (.int p1), .val (.int p2), .val (.int (1 : Int32)), .unset, .unset, .unset] [(.long (own_dec p1 (1 : Int32)))])) t → Steps p.tables e below (s₁.setTop (entryFrame m #[(.long q1), (.int p1), (.int p2)] maxLocals)) t := fun t k => pre21 t (st22 t k)
    obtain ⟨_, _, ⟨T24, L24, k24, n24⟩, -, X24, ⟨Lc24, hQ24, l24, y24, z24⟩, st24⟩ := Jvm.LawKit.callS X22 hx (y := (⟨"com/example/unfire/unfire/check/Nogoods", "in", "(J)Z"⟩ : MethodName)) hown (mvT hZ (hw _ (List.mem_of_getElem? (i := 4) rfl))) (mvT hZ (hw _ (List.mem_of_getElem? (i := 5) rfl))) (mvT hZ (hw _ (List.mem_of_getElem? (i := 2) rfl))) (mvT hZ (hw _ (List.mem_of_getElem? (i := 6) rfl))) (by decide) (backOf (W := 0) (rm2 l Z a0 hw [] (own_dec p1 (1 : Int32)) h0 n0 Z0) hZ (hw _ (List.mem_of_getElem? (i := 6) rfl)) (hw _ (List.mem_of_getElem? (i := 2) rfl)) (by decide) (by decide)) (g := (mkF m 19 #[.val (.long q1), .second, .val (.int p1), .val (.int p2), .val (.int (1 : Int32)), .unset, .unset, .unset] [(.long (own_dec p1 (1 : Int32)))])) rfl (by rw [hml]; rfl) (argsL := [(.long (own_dec p1 (1 : Int32)))]) (rest := []) (lenOf pd_1 rfl) rfl (by show 2 * 0 + _ ≤ _; exact Nat.le_of_eq rfl) (hb hby at_19) (fun _ _ => ⟨rfl, e22, (by decide : 0 + 0 ≤ _), (by decide : 0 + 0 ≤ _)⟩)
    dsimp only [Pt.U, Pt.locs, Pt.cells, Pt.slots] at X24 l24 y24 z24 st24 hQ24
    subst l24 y24 z24
    obtain ⟨rfl, N24q, e24⟩ := hQ24
    have N24 := Fr.app N22 N24q
    have pre25 : ∀ t, Steps p.tables e below (T24.setTop (mkF m 22 #[.val (.long q1), .second, .val (.int p1), .val (.int p2), .val (.int (1 : Int32)), .unset, .unset, .unset] [(.int (own_in (own_dec p1 (1 : Int32))))])) t → Steps p.tables e below (s₁.setTop (entryFrame m #[(.long q1), (.int p1), (.int p2)] maxLocals)) t := fun t k => pre23 t (st24 t k)
    have pre26 : ∀ t, Steps p.tables e below (T24.setTop (mkF m 35 #[.val (.long q1), .second, .val (.int p1), .val (.int p2), .val (.int (1 : Int32)), .val (.int (1 : Int32)), .unset, .unset] [(.long q1)])) t → Steps p.tables e below (s₁.setTop (entryFrame m #[(.long q1), (.int p1), (.int p2)] maxLocals)) t := fun t k => pre25 t (by
      show Steps p.tables e below (T24.setTop (mkF m 22 #[.val (.long q1), .second, .val (.int p1), .val (.int p2), .val (.int (1 : Int32)), .unset, .unset, .unset] [(.int (own_in (own_dec p1 (1 : Int32))))])) _
      refine XS.iload X24.here hx rfl (hb hby at_22) rfl ?_
      show Steps p.tables e below (T24.setTop (mkF m 24 #[.val (.long q1), .second, .val (.int p1), .val (.int p2), .val (.int (1 : Int32)), .unset, .unset, .unset] [(.int (1 : Int32)), (.int (own_in (own_dec p1 (1 : Int32))))])) _
      refine XS.icmpNo X24.here hx rfl (hb hby at_24) rfl (teq (show (own_in (own_dec p1 (1 : Int32))) = (1 : Int32) from own_i1 p1)).2 ?_
      show Steps p.tables e below (T24.setTop (mkF m 27 #[.val (.long q1), .second, .val (.int p1), .val (.int p2), .val (.int (1 : Int32)), .unset, .unset, .unset] [])) _
      refine XS.iconst X24.here hx rfl (hb hby at_27) ?_
      show Steps p.tables e below (T24.setTop (mkF m 28 #[.val (.long q1), .second, .val (.int p1), .val (.int p2), .val (.int (1 : Int32)), .unset, .unset, .unset] [(.int (1 : Int32))])) _
      refine XS.goto X24.here hx rfl (pc0 := 28) (pc' := 32) rfl (hb hby at_28) (by decide) (by decide) ?_
      show Steps p.tables e below (T24.setTop (mkF m 32 #[.val (.long q1), .second, .val (.int p1), .val (.int p2), .val (.int (1 : Int32)), .unset, .unset, .unset] [(.int (1 : Int32))])) _
      refine XS.istore X24.here hx rfl (hb hby at_32) rfl (l' := #[.val (.long q1), .second, .val (.int p1), .val (.int p2), .val (.int (1 : Int32)), .val (.int (1 : Int32)), .unset, .unset]) rfl ?_
      show Steps p.tables e below (T24.setTop (mkF m 34 #[.val (.long q1), .second, .val (.int p1), .val (.int p2), .val (.int (1 : Int32)), .val (.int (1 : Int32)), .unset, .unset] [])) _
      refine XS.lloadN X24.here hx rfl (hb hby at_34) rfl ?_
      show Steps p.tables e below (T24.setTop (mkF m 35 #[.val (.long q1), .second, .val (.int p1), .val (.int p2), .val (.int (1 : Int32)), .val (.int (1 : Int32)), .unset, .unset] [(.long q1)])) _
      exact k)
    obtain ⟨_, _, ⟨T27, L27, k27, n27⟩, -, X27, ⟨Lc27, hQ27, l27, y27, z27⟩, st27⟩ := Jvm.LawKit.callS X24 hx (y := (⟨"com/example/unfire/unfire/check/Nogoods", "in", "(J)Z"⟩ : MethodName)) hown (mvT hZ (hw _ (List.mem_of_getElem? (i := 4) rfl))) (mvT hZ (hw _ (List.mem_of_getElem? (i := 5) rfl))) (mvT hZ (hw _ (List.mem_of_getElem? (i := 2) rfl))) (mvT hZ (hw _ (List.mem_of_getElem? (i := 6) rfl))) (by decide) (backOf (W := 0) (rm2 l Z a0 hw [] q1 h0 n0 Z0) hZ (hw _ (List.mem_of_getElem? (i := 6) rfl)) (hw _ (List.mem_of_getElem? (i := 2) rfl)) (by decide) (by decide)) (g := (mkF m 35 #[.val (.long q1), .second, .val (.int p1), .val (.int p2), .val (.int (1 : Int32)), .val (.int (1 : Int32)), .unset, .unset] [(.long q1)])) rfl (by rw [hml]; rfl) (argsL := [(.long q1)]) (rest := []) (lenOf pd_1 rfl) rfl (by show 2 * 0 + _ ≤ _; exact Nat.le_of_eq rfl) (hb hby at_35) (fun _ _ => ⟨rfl, e24, (by decide : 0 + 0 ≤ _), (by decide : 0 + 0 ≤ _)⟩)
    dsimp only [Pt.U, Pt.locs, Pt.cells, Pt.slots] at X27 l27 y27 z27 st27 hQ27
    subst l27 y27 z27
    obtain ⟨rfl, N27q, e27⟩ := hQ27
    have N27 := Fr.app N24 N27q
    have pre28 : ∀ t, Steps p.tables e below (T27.setTop (mkF m 38 #[.val (.long q1), .second, .val (.int p1), .val (.int p2), .val (.int (1 : Int32)), .val (.int (1 : Int32)), .unset, .unset] [(.int (own_in q1))])) t → Steps p.tables e below (s₁.setTop (entryFrame m #[(.long q1), (.int p1), (.int p2)] maxLocals)) t := fun t k => pre26 t (st27 t k)
    have pre29 : ∀ t, Steps p.tables e below (T27.setTop (mkF m 45 #[.val (.long q1), .second, .val (.int p1), .val (.int p2), .val (.int (1 : Int32)), .val (.int (1 : Int32)), .unset, .unset] [(.int (lcmpW (own_lrem q1 (2 : Int64)) (0 : Int64))), (.int (own_in q1))])) t → Steps p.tables e below (s₁.setTop (entryFrame m #[(.long q1), (.int p1), (.int p2)] maxLocals)) t := fun t k => pre28 t (by
      show Steps p.tables e below (T27.setTop (mkF m 38 #[.val (.long q1), .second, .val (.int p1), .val (.int p2), .val (.int (1 : Int32)), .val (.int (1 : Int32)), .unset, .unset] [(.int (own_in q1))])) _
      refine XS.lloadN X27.here hx rfl (hb hby at_38) rfl ?_
      show Steps p.tables e below (T27.setTop (mkF m 39 #[.val (.long q1), .second, .val (.int p1), .val (.int p2), .val (.int (1 : Int32)), .val (.int (1 : Int32)), .unset, .unset] [(.long q1), (.int (own_in q1))])) _
      refine X27.ldc2Long hx hown (mvT hZ (hw _ (List.mem_of_getElem? (i := 7) rfl))) (g := (mkF m 39 #[.val (.long q1), .second, .val (.int p1), .val (.int p2), .val (.int (1 : Int32)), .val (.int (1 : Int32)), .unset, .unset] [(.long q1), (.int (own_in q1))])) rfl (hb hby at_39) _ ?_
      show Steps p.tables e below (T27.setTop (mkF m 42 #[.val (.long q1), .second, .val (.int p1), .val (.int p2), .val (.int (1 : Int32)), .val (.int (1 : Int32)), .unset, .unset] [(.long (2 : Int64)), (.long q1), (.int (own_in q1))])) _
      refine XS.lrem X27.here hx rfl (hb hby at_42) rfl (by decide) ?_
      show Steps p.tables e below (T27.setTop (mkF m 43 #[.val (.long q1), .second, .val (.int p1), .val (.int p2), .val (.int (1 : Int32)), .val (.int (1 : Int32)), .unset, .unset] [(.long (own_lrem q1 (2 : Int64))), (.int (own_in q1))])) _
      refine XS.lconst X27.here hx rfl (hb hby at_43) ?_
      show Steps p.tables e below (T27.setTop (mkF m 44 #[.val (.long q1), .second, .val (.int p1), .val (.int p2), .val (.int (1 : Int32)), .val (.int (1 : Int32)), .unset, .unset] [(.long (0 : Int64)), (.long (own_lrem q1 (2 : Int64))), (.int (own_in q1))])) _
      refine XS.lcmp X27.here hx rfl (hb hby at_44) rfl ?_
      show Steps p.tables e below (T27.setTop (mkF m 45 #[.val (.long q1), .second, .val (.int p1), .val (.int p2), .val (.int (1 : Int32)), .val (.int (1 : Int32)), .unset, .unset] [(.int (lcmpW (own_lrem q1 (2 : Int64)) (0 : Int64))), (.int (own_in q1))])) _
      exact k)
    have pre31 : ∀ t, Steps p.tables e below (T27.setTop (mkF m 53 #[.val (.long q1), .second, .val (.int p1), .val (.int p2), .val (.int (1 : Int32)), .val (.int (1 : Int32)), .unset, .unset] [(.int (if (own_lrem q1 (2 : Int64)) = (0 : Int64) then (0 : Int32) else (1 : Int32))), (.int (own_in q1))])) t → Steps p.tables e below (s₁.setTop (entryFrame m #[(.long q1), (.int p1), (.int p2)] maxLocals)) t := fun t k => pre29 t (by
      show Steps p.tables e below (T27.setTop (mkF m 45 #[.val (.long q1), .second, .val (.int p1), .val (.int p2), .val (.int (1 : Int32)), .val (.int (1 : Int32)), .unset, .unset] [(.int (lcmpW (own_lrem q1 (2 : Int64)) (0 : Int64))), (.int (own_in q1))])) _
      by_cases hm45_30 : (own_lrem q1 (2 : Int64)) = (0 : Int64)
      · refine XS.ifYes X27.here hx rfl (pc0 := 45) (pc' := 52) rfl (hb hby at_45) rfl ((if0 _ _).trans (teq ((lw_eq _ _).mpr hm45_30)).1) (by decide) (by decide) ?_
        show Steps p.tables e below (T27.setTop (mkF m 52 #[.val (.long q1), .second, .val (.int p1), .val (.int p2), .val (.int (1 : Int32)), .val (.int (1 : Int32)), .unset, .unset] [(.int (own_in q1))])) _
        refine XS.iconst X27.here hx rfl (hb hby at_52) ?_
        show Steps p.tables e below (T27.setTop (mkF m 53 #[.val (.long q1), .second, .val (.int p1), .val (.int p2), .val (.int (1 : Int32)), .val (.int (1 : Int32)), .unset, .unset] [(.int (0 : Int32)), (.int (own_in q1))])) _
        have q : (if (own_lrem q1 (2 : Int64)) = (0 : Int64) then (0 : Int32) else (1 : Int32)) = (0 : Int32) := by simp only [if_pos hm45_30]
        exact Eq.subst (motive := fun xI => Steps p.tables e below (T27.setTop (mkF m 53 #[.val (.long q1), .second, .val (.int p1), .val (.int p2), .val (.int (1 : Int32)), .val (.int (1 : Int32)), .unset, .unset] [(.int xI), (.int (own_in q1))])) t) q k
      · refine XS.ifNo X27.here hx rfl (hb hby at_45) rfl ((if0 _ _).trans (feq (fun q => hm45_30 ((lw_eq _ _).mp q))).1) ?_
        show Steps p.tables e below (T27.setTop (mkF m 48 #[.val (.long q1), .second, .val (.int p1), .val (.int p2), .val (.int (1 : Int32)), .val (.int (1 : Int32)), .unset, .unset] [(.int (own_in q1))])) _
        refine XS.iconst X27.here hx rfl (hb hby at_48) ?_
        show Steps p.tables e below (T27.setTop (mkF m 49 #[.val (.long q1), .second, .val (.int p1), .val (.int p2), .val (.int (1 : Int32)), .val (.int (1 : Int32)), .unset, .unset] [(.int (1 : Int32)), (.int (own_in q1))])) _
        refine XS.goto X27.here hx rfl (pc0 := 49) (pc' := 53) rfl (hb hby at_49) (by decide) (by decide) ?_
        show Steps p.tables e below (T27.setTop (mkF m 53 #[.val (.long q1), .second, .val (.int p1), .val (.int p2), .val (.int (1 : Int32)), .val (.int (1 : Int32)), .unset, .unset] [(.int (1 : Int32)), (.int (own_in q1))])) _
        have q : (if (own_lrem q1 (2 : Int64)) = (0 : Int64) then (0 : Int32) else (1 : Int32)) = (1 : Int32) := by simp only [if_neg hm45_30]
        exact Eq.subst (motive := fun xI => Steps p.tables e below (T27.setTop (mkF m 53 #[.val (.long q1), .second, .val (.int p1), .val (.int p2), .val (.int (1 : Int32)), .val (.int (1 : Int32)), .unset, .unset] [(.int xI), (.int (own_in q1))])) t) q k)
    have pre32 : ∀ t, Steps p.tables e below (T27.setTop (mkF m 66 #[.val (.long q1), .second, .val (.int p1), .val (.int p2), .val (.int (1 : Int32)), .val (.int (1 : Int32)), .val (.int (1 : Int32)), .unset] [(.long (q1 ^^^ (1 : Int64)))])) t → Steps p.tables e below (s₁.setTop (entryFrame m #[(.long q1), (.int p1), (.int p2)] maxLocals)) t := fun t k => pre31 t (by
      show Steps p.tables e below (T27.setTop (mkF m 53 #[.val (.long q1), .second, .val (.int p1), .val (.int p2), .val (.int (1 : Int32)), .val (.int (1 : Int32)), .unset, .unset] [(.int (if (own_lrem q1 (2 : Int64)) = (0 : Int64) then (0 : Int32) else (1 : Int32))), (.int (own_in q1))])) _
      refine XS.icmpNo X27.here hx rfl (hb hby at_53) rfl (teq (show (own_in q1) = (if (own_lrem q1 (2 : Int64)) = (0 : Int64) then (0 : Int32) else (1 : Int32)) from own_ref q1)).2 ?_
      show Steps p.tables e below (T27.setTop (mkF m 56 #[.val (.long q1), .second, .val (.int p1), .val (.int p2), .val (.int (1 : Int32)), .val (.int (1 : Int32)), .unset, .unset] [])) _
      refine XS.iconst X27.here hx rfl (hb hby at_56) ?_
      show Steps p.tables e below (T27.setTop (mkF m 57 #[.val (.long q1), .second, .val (.int p1), .val (.int p2), .val (.int (1 : Int32)), .val (.int (1 : Int32)), .unset, .unset] [(.int (1 : Int32))])) _
      refine XS.goto X27.here hx rfl (pc0 := 57) (pc' := 61) rfl (hb hby at_57) (by decide) (by decide) ?_
      show Steps p.tables e below (T27.setTop (mkF m 61 #[.val (.long q1), .second, .val (.int p1), .val (.int p2), .val (.int (1 : Int32)), .val (.int (1 : Int32)), .unset, .unset] [(.int (1 : Int32))])) _
      refine XS.istore X27.here hx rfl (hb hby at_61) rfl (l' := #[.val (.long q1), .second, .val (.int p1), .val (.int p2), .val (.int (1 : Int32)), .val (.int (1 : Int32)), .val (.int (1 : Int32)), .unset]) rfl ?_
      show Steps p.tables e below (T27.setTop (mkF m 63 #[.val (.long q1), .second, .val (.int p1), .val (.int p2), .val (.int (1 : Int32)), .val (.int (1 : Int32)), .val (.int (1 : Int32)), .unset] [])) _
      refine XS.lloadN X27.here hx rfl (hb hby at_63) rfl ?_
      show Steps p.tables e below (T27.setTop (mkF m 64 #[.val (.long q1), .second, .val (.int p1), .val (.int p2), .val (.int (1 : Int32)), .val (.int (1 : Int32)), .val (.int (1 : Int32)), .unset] [(.long q1)])) _
      refine XS.lconst X27.here hx rfl (hb hby at_64) ?_
      show Steps p.tables e below (T27.setTop (mkF m 65 #[.val (.long q1), .second, .val (.int p1), .val (.int p2), .val (.int (1 : Int32)), .val (.int (1 : Int32)), .val (.int (1 : Int32)), .unset] [(.long (1 : Int64)), (.long q1)])) _
      refine XS.lxor X27.here hx rfl (hb hby at_65) rfl ?_
      show Steps p.tables e below (T27.setTop (mkF m 66 #[.val (.long q1), .second, .val (.int p1), .val (.int p2), .val (.int (1 : Int32)), .val (.int (1 : Int32)), .val (.int (1 : Int32)), .unset] [(.long (q1 ^^^ (1 : Int64)))])) _
      exact k)
    obtain ⟨_, _, ⟨T33, L33, k33, n33⟩, -, X33, ⟨Lc33, hQ33, l33, y33, z33⟩, st33⟩ := Jvm.LawKit.callS X27 hx (y := (⟨"com/example/unfire/unfire/check/Nogoods", "in", "(J)Z"⟩ : MethodName)) hown (mvT hZ (hw _ (List.mem_of_getElem? (i := 4) rfl))) (mvT hZ (hw _ (List.mem_of_getElem? (i := 5) rfl))) (mvT hZ (hw _ (List.mem_of_getElem? (i := 2) rfl))) (mvT hZ (hw _ (List.mem_of_getElem? (i := 6) rfl))) (by decide) (backOf (W := 0) (rm2 l Z a0 hw [] (q1 ^^^ (1 : Int64)) h0 n0 Z0) hZ (hw _ (List.mem_of_getElem? (i := 6) rfl)) (hw _ (List.mem_of_getElem? (i := 2) rfl)) (by decide) (by decide)) (g := (mkF m 66 #[.val (.long q1), .second, .val (.int p1), .val (.int p2), .val (.int (1 : Int32)), .val (.int (1 : Int32)), .val (.int (1 : Int32)), .unset] [(.long (q1 ^^^ (1 : Int64)))])) rfl (by rw [hml]; rfl) (argsL := [(.long (q1 ^^^ (1 : Int64)))]) (rest := []) (lenOf pd_1 rfl) rfl (by show 2 * 0 + _ ≤ _; exact Nat.le_of_eq rfl) (hb hby at_66) (fun _ _ => ⟨rfl, e27, (by decide : 0 + 0 ≤ _), (by decide : 0 + 0 ≤ _)⟩)
    dsimp only [Pt.U, Pt.locs, Pt.cells, Pt.slots] at X33 l33 y33 z33 st33 hQ33
    subst l33 y33 z33
    obtain ⟨rfl, N33q, e33⟩ := hQ33
    have N33 := Fr.app N27 N33q
    have pre34 : ∀ t, Steps p.tables e below (T33.setTop (mkF m 69 #[.val (.long q1), .second, .val (.int p1), .val (.int p2), .val (.int (1 : Int32)), .val (.int (1 : Int32)), .val (.int (1 : Int32)), .unset] [(.int (own_in (q1 ^^^ (1 : Int64))))])) t → Steps p.tables e below (s₁.setTop (entryFrame m #[(.long q1), (.int p1), (.int p2)] maxLocals)) t := fun t k => pre32 t (st33 t k)
    have pre35 : ∀ t, Steps p.tables e below (T33.setTop (mkF m 70 #[.val (.long q1), .second, .val (.int p1), .val (.int p2), .val (.int (1 : Int32)), .val (.int (1 : Int32)), .val (.int (1 : Int32)), .unset] [(.long q1), (.int (own_in (q1 ^^^ (1 : Int64))))])) t → Steps p.tables e below (s₁.setTop (entryFrame m #[(.long q1), (.int p1), (.int p2)] maxLocals)) t := fun t k => pre34 t (by
      show Steps p.tables e below (T33.setTop (mkF m 69 #[.val (.long q1), .second, .val (.int p1), .val (.int p2), .val (.int (1 : Int32)), .val (.int (1 : Int32)), .val (.int (1 : Int32)), .unset] [(.int (own_in (q1 ^^^ (1 : Int64))))])) _
      refine XS.lloadN X33.here hx rfl (hb hby at_69) rfl ?_
      show Steps p.tables e below (T33.setTop (mkF m 70 #[.val (.long q1), .second, .val (.int p1), .val (.int p2), .val (.int (1 : Int32)), .val (.int (1 : Int32)), .val (.int (1 : Int32)), .unset] [(.long q1), (.int (own_in (q1 ^^^ (1 : Int64))))])) _
      exact k)
    obtain ⟨_, _, ⟨T36, L36, k36, n36⟩, -, X36, ⟨Lc36, hQ36, l36, y36, z36⟩, st36⟩ := Jvm.LawKit.callS X33 hx (y := (⟨"com/example/unfire/unfire/check/Nogoods", "in", "(J)Z"⟩ : MethodName)) hown (mvT hZ (hw _ (List.mem_of_getElem? (i := 4) rfl))) (mvT hZ (hw _ (List.mem_of_getElem? (i := 5) rfl))) (mvT hZ (hw _ (List.mem_of_getElem? (i := 2) rfl))) (mvT hZ (hw _ (List.mem_of_getElem? (i := 6) rfl))) (by decide) (backOf (W := 1) (rm2 l Z a0 hw [] q1 h0 n0 Z0) hZ (hw _ (List.mem_of_getElem? (i := 6) rfl)) (hw _ (List.mem_of_getElem? (i := 2) rfl)) (by decide) (by decide)) (g := (mkF m 70 #[.val (.long q1), .second, .val (.int p1), .val (.int p2), .val (.int (1 : Int32)), .val (.int (1 : Int32)), .val (.int (1 : Int32)), .unset] [(.long q1), (.int (own_in (q1 ^^^ (1 : Int64))))])) rfl (by rw [hml]; rfl) (argsL := [(.long q1)]) (rest := [(.int (own_in (q1 ^^^ (1 : Int64))))]) (lenOf pd_1 rfl) rfl (by show 2 * 0 + _ ≤ _; exact Nat.le_of_eq rfl) (hb hby at_70) (fun _ _ => ⟨rfl, e33, (by decide : 0 + 0 ≤ _), (by decide : 0 + 0 ≤ _)⟩)
    dsimp only [Pt.U, Pt.locs, Pt.cells, Pt.slots] at X36 l36 y36 z36 st36 hQ36
    subst l36 y36 z36
    obtain ⟨rfl, N36q, e36⟩ := hQ36
    have N36 := Fr.app N33 N36q
    have pre37 : ∀ t, Steps p.tables e below (T36.setTop (mkF m 73 #[.val (.long q1), .second, .val (.int p1), .val (.int p2), .val (.int (1 : Int32)), .val (.int (1 : Int32)), .val (.int (1 : Int32)), .unset] [(.int (own_in q1)), (.int (own_in (q1 ^^^ (1 : Int64))))])) t → Steps p.tables e below (s₁.setTop (entryFrame m #[(.long q1), (.int p1), (.int p2)] maxLocals)) t := fun t k => pre35 t (st36 t k)
    have pre38 : ∀ t, Steps p.tables e below (T36.setTop (mkF m 103 #[.val (.long q1), .second, .val (.int p1), .val (.int p2), .val (.int (1 : Int32)), .val (.int (1 : Int32)), .val (.int (1 : Int32)), .val (.int (1 : Int32))] [(.int (1 : Int32))])) t → Steps p.tables e below (s₁.setTop (entryFrame m #[(.long q1), (.int p1), (.int p2)] maxLocals)) t := fun t k => pre37 t (by
      show Steps p.tables e below (T36.setTop (mkF m 73 #[.val (.long q1), .second, .val (.int p1), .val (.int p2), .val (.int (1 : Int32)), .val (.int (1 : Int32)), .val (.int (1 : Int32)), .unset] [(.int (own_in q1)), (.int (own_in (q1 ^^^ (1 : Int64))))])) _
      refine XS.icmpNo X36.here hx rfl (hb hby at_73) rfl (feq (show ¬ ((own_in (q1 ^^^ (1 : Int64))) = (own_in q1)) from own_opp q1)).1 ?_
      show Steps p.tables e below (T36.setTop (mkF m 76 #[.val (.long q1), .second, .val (.int p1), .val (.int p2), .val (.int (1 : Int32)), .val (.int (1 : Int32)), .val (.int (1 : Int32)), .unset] [])) _
      refine XS.iconst X36.here hx rfl (hb hby at_76) ?_
      show Steps p.tables e below (T36.setTop (mkF m 77 #[.val (.long q1), .second, .val (.int p1), .val (.int p2), .val (.int (1 : Int32)), .val (.int (1 : Int32)), .val (.int (1 : Int32)), .unset] [(.int (1 : Int32))])) _
      refine XS.goto X36.here hx rfl (pc0 := 77) (pc' := 81) rfl (hb hby at_77) (by decide) (by decide) ?_
      show Steps p.tables e below (T36.setTop (mkF m 81 #[.val (.long q1), .second, .val (.int p1), .val (.int p2), .val (.int (1 : Int32)), .val (.int (1 : Int32)), .val (.int (1 : Int32)), .unset] [(.int (1 : Int32))])) _
      refine XS.istore X36.here hx rfl (hb hby at_81) rfl (l' := #[.val (.long q1), .second, .val (.int p1), .val (.int p2), .val (.int (1 : Int32)), .val (.int (1 : Int32)), .val (.int (1 : Int32)), .val (.int (1 : Int32))]) rfl ?_
      show Steps p.tables e below (T36.setTop (mkF m 83 #[.val (.long q1), .second, .val (.int p1), .val (.int p2), .val (.int (1 : Int32)), .val (.int (1 : Int32)), .val (.int (1 : Int32)), .val (.int (1 : Int32))] [])) _
      refine XS.iload X36.here hx rfl (hb hby at_83) rfl ?_
      show Steps p.tables e below (T36.setTop (mkF m 85 #[.val (.long q1), .second, .val (.int p1), .val (.int p2), .val (.int (1 : Int32)), .val (.int (1 : Int32)), .val (.int (1 : Int32)), .val (.int (1 : Int32))] [(.int (1 : Int32))])) _
      refine XS.ifNo X36.here hx rfl (hb hby at_85) rfl ((if0 _ _).trans (feq (by decide)).1) ?_
      show Steps p.tables e below (T36.setTop (mkF m 88 #[.val (.long q1), .second, .val (.int p1), .val (.int p2), .val (.int (1 : Int32)), .val (.int (1 : Int32)), .val (.int (1 : Int32)), .val (.int (1 : Int32))] [])) _
      refine XS.iload X36.here hx rfl (hb hby at_88) rfl ?_
      show Steps p.tables e below (T36.setTop (mkF m 90 #[.val (.long q1), .second, .val (.int p1), .val (.int p2), .val (.int (1 : Int32)), .val (.int (1 : Int32)), .val (.int (1 : Int32)), .val (.int (1 : Int32))] [(.int (1 : Int32))])) _
      refine XS.ifNo X36.here hx rfl (hb hby at_90) rfl ((if0 _ _).trans (feq (by decide)).1) ?_
      show Steps p.tables e below (T36.setTop (mkF m 93 #[.val (.long q1), .second, .val (.int p1), .val (.int p2), .val (.int (1 : Int32)), .val (.int (1 : Int32)), .val (.int (1 : Int32)), .val (.int (1 : Int32))] [])) _
      refine XS.iload X36.here hx rfl (hb hby at_93) rfl ?_
      show Steps p.tables e below (T36.setTop (mkF m 95 #[.val (.long q1), .second, .val (.int p1), .val (.int p2), .val (.int (1 : Int32)), .val (.int (1 : Int32)), .val (.int (1 : Int32)), .val (.int (1 : Int32))] [(.int (1 : Int32))])) _
      refine XS.ifNo X36.here hx rfl (hb hby at_95) rfl ((if0 _ _).trans (feq (by decide)).1) ?_
      show Steps p.tables e below (T36.setTop (mkF m 98 #[.val (.long q1), .second, .val (.int p1), .val (.int p2), .val (.int (1 : Int32)), .val (.int (1 : Int32)), .val (.int (1 : Int32)), .val (.int (1 : Int32))] [])) _
      refine XS.iconst X36.here hx rfl (hb hby at_98) ?_
      show Steps p.tables e below (T36.setTop (mkF m 99 #[.val (.long q1), .second, .val (.int p1), .val (.int p2), .val (.int (1 : Int32)), .val (.int (1 : Int32)), .val (.int (1 : Int32)), .val (.int (1 : Int32))] [(.int (1 : Int32))])) _
      refine XS.goto X36.here hx rfl (pc0 := 99) (pc' := 103) rfl (hb hby at_99) (by decide) (by decide) ?_
      show Steps p.tables e below (T36.setTop (mkF m 103 #[.val (.long q1), .second, .val (.int p1), .val (.int p2), .val (.int (1 : Int32)), .val (.int (1 : Int32)), .val (.int (1 : Int32)), .val (.int (1 : Int32))] [(.int (1 : Int32))])) _
      exact k)
    obtain ⟨fs, hr, hrun, hended, hW, hsame⟩ := X36.leave (v := some (.int (1 : Int32))) (fun h => by rw [Bd.returns] at h; cases h) hlk
    refine ⟨_, _, pre38 _ ?_, hrun, hended, _, _, rfl, ?_, ⟨_, rfl⟩, hW, hsame.mono (by decide) (by decide)⟩
    · show Steps p.tables e below (T36.setTop (mkF m 103 #[.val (.long q1), .second, .val (.int p1), .val (.int p2), .val (.int (1 : Int32)), .val (.int (1 : Int32)), .val (.int (1 : Int32)), .val (.int (1 : Int32))] [(.int (1 : Int32))])) _
      exact retN X36 hx (t := .boolean) Bd.returns (by simp) (hb hby at_103) hr
    · show Q0 Z q1 p1 p2 h0 n0 _ T36.heap _
      rw [e36]
      exact ⟨rfl, N36⟩
set_option maxRecDepth 65536 in
set_option maxHeartbeats 40000000 in
theorem comes_1 {Post : Tables → Env → Array Value → State → Outcome → State → Prop} (hpost : ∀ tb e args s v u, (limb_1_1.after args s (.returned v) u = true ∧ limb_1_2.after args s (.returned v) u = true ∧ True) → FrameEnd s (.returned v) u (Jvm.fieldLocs frame_1_writes args s ++ Jvm.arrayLocs frame_1_arrays args s ++ Jvm.staticLocs frame_1_statics s) 0 0 → Post tb e args s (.returned v) u) :
    ArmFor flags0 classFile x code maxLocals ret World_1 tables_1 room_1 Calls_1 rest_1 Pre_1 Post := by
  intro l hfl _ _ p e ha hc hk s m args below hf hA hF happ hP
  obtain ⟨hcalls, hrest, hpre⟩ := hP
  obtain ⟨-, -, -, hnamed, -, -, -, hat⟩ := (Spec.applies_iff hf).mp happ
  obtain ⟨hg, hn⟩ := and_e (Cond.before_iff.mp (show (Jvm.Cond.and given_1 narrow_1).before args s = true from hpre))
  obtain ⟨hcnt, g0⟩ := and_e hg
  obtain ⟨k0, g1⟩ := and_e g0
  obtain ⟨k1, g2⟩ := and_e g1
  have k2 := g2
  obtain ⟨w0, w1, w2, rfl⟩ : ∃ w0 w1 w2 : Value, args = #[w0, w1, w2] := by
    have hs : args.size = 3 := by simpa [Cond.value, given_1] using hcnt
    obtain ⟨L⟩ := args
    match L, hs with
    | [w0, w1, w2], _ => exact ⟨w0, w1, w2, rfl⟩
  have hw := fun d (hd : d ∈ tables_1) => atoms_spec (ws := Jvm.Cond.code x code maxLocals ret :: tables_1) hat d (List.mem_cons_of_mem _ hd)
  obtain ⟨i0, ei0⟩ := isL_v k0
  obtain rfl : w0 = (.long i0) := Option.some.inj ei0
  obtain ⟨i1, ei1⟩ := is_v k1
  obtain rfl : w1 = (.int i1) := Option.some.inj ei1
  obtain ⟨i2, ei2⟩ := is_v k2
  obtain rfl : w2 = (.int i2) := Option.some.inj ei2
  obtain ⟨n, o, h1, h2, h3, _, L, rfl, ⟨rfl, N⟩, hq⟩ := rm0 l s _ hw tables_1 i0 i1 i2 s.heap s.heap.size (Nat.le_refl _) p e ha hc hk s m _ below hf ((Spec.applies_iff_loose hf).mp happ).1 ⟨rfl, State.Warmed39.refl s, rfl⟩ trivial
  refine ⟨n, _, h1, h2, h3, hpost _ _ _ _ _ _ ⟨Cond.after_iff.mpr rfl, Cond.after_iff.mpr (eq_i res_at (Term.int_eval (1)) rfl), trivial⟩ ⟨hq.1, hq.2.1, (hq.2.2.sift fun y hy => Or.inr (N y hy)).mono (by decide) (by decide)⟩⟩
theorem main_1_1 : Claimed_1_1 := comes_1 fun _ _ _ _ _ _ h hF => ⟨h.1, hF⟩
theorem main_1_2 : Claimed_1_2 := comes_1 fun _ _ _ _ _ _ h hF => ⟨h.2.1, hF⟩
end Jvm.Pilot.@@N@@
namespace Jvm.Pilot.@@N@@
open Jvm Jvm.ClassFile Sem Op Lib Jvm.Free Jvm.Stand Jvm.Pilot.@@N@@.Jvm.D
/-! MADE BY PROGRAM (witnessworld.py) out of the Statement's table words and the real class files: 9 classes; the members and pool entries that the words name. The judged class is class 1, her method 1. -/
namespace start1
open Jvm.ClassFile
def u (s : String) : CpInfo := .utf8 (stringToUtf16 s)
/-- a pool by its gaps: so many unusable entries, then the entry; so many at the end -/
def gap : Nat → List CpInfo → List CpInfo
  | 0, r => r
  | n + 1, r => .unusable :: gap n r
def poolList (es : List (Nat × CpInfo)) (last : Nat) : List CpInfo := es.foldr (fun e r => gap e.1 (e.2 :: r)) (gap last [])
def pool (es : List (Nat × CpInfo)) (last : Nat) : Array CpInfo := ⟨poolList es last⟩
def fileOf (pool : Array CpInfo) (this : Nat) (attrs : Array Attribute := #[]) (ms : Array MethodInfo := #[]) (fl : Nat := 33) (sup : Nat := 0) (ifs : Array Nat := #[]) (fds : Array FieldInfo := #[]) : ClassFile where
  minorVersion := 0
  majorVersion := 65
  constantPool := pool
  accessFlags := fl
  thisClass := this
  superClass := sup
  interfaces := ifs
  fields := fds
  methods := ms
  attributes := attrs
def plain (name : String) (sup : Option ClassId) : Class where
  name := name
  kind := .ordinary
  loader := none
  accessFlags := 33
  super := sup
  interfaces := #[]
  cf := none
  fields := #[]
  methods := #[]
  instanceTypes := #[]
  staticTypes := #[]
  resolved := #[]
  callSites := []
  init := .initialized
  statics := none
  mirror := none

def pool0 : Array CpInfo := pool [(5, u "<init>"), (0, u "()V"), (1, .class_ 10), (1, u "java/lang/Object")] 113

def k0m0 : Method := { name := "<init>", desc := "()V", sig := { parameters := [], returnType := none }, accessFlags := 1, code := none }
/-- java/lang/Object -/
def k0 : Class := { plain "java/lang/Object" none with
  accessFlags := 33
  interfaces := #[]
  cf := some (fileOf pool0 8 #[] #[{ accessFlags := 1, nameIndex := 5, descriptorIndex := 6, attributes := #[] }] 33 0 #[] #[])
  fields := #[]
  methods := #[k0m0]
  instanceTypes := #[]
  staticTypes := #[]
  resolved := Array.replicate 124 none
  statics := none }

def pool1 : Array CpInfo := pool [(2, .class_ 4), (1, u "java/lang/Object"), (0, u "<init>"), (0, u "()V"), (0, .methodref 8 9), (0, .class_ 10), (0, .nameAndType 11 12), (0, u "com/example/unfire/unfire/check/Nogoods"), (0, u "decision"), (0, u "(IZ)J"), (0, .methodref 8 14), (0, .nameAndType 15 16), (0, u "in"), (0, u "(J)Z"), (0, .long 2), (1, .class_ 20), (0, u "com/example/unfire/unfire/check/NogoodsInPinLaw"), (2, u "law"), (0, u "(JII)Z")] 3

def k1m0 : Method := { name := "<init>", desc := "()V", sig := { parameters := [], returnType := none }, accessFlags := 1, code := none }
def k1c1 : Code := { maxStack := 5, maxLocals := 8, code := code, exceptionTable := #[], attributes := #[] }
def k1m1 : Method := { name := "law", desc := "(JII)Z", sig := { parameters := [.long, .int, .int], returnType := some .boolean }, accessFlags := 9, code := some k1c1 }
/-- com/example/unfire/unfire/check/NogoodsInPinLaw -/
def k1 : Class := { plain "com/example/unfire/unfire/check/NogoodsInPinLaw" (some 0) with
  accessFlags := 49
  interfaces := #[]
  cf := some (fileOf pool1 19 #[] #[{ accessFlags := 1, nameIndex := 5, descriptorIndex := 6, attributes := #[] }, { accessFlags := 9, nameIndex := 23, descriptorIndex := 24, attributes := #[] }] 49 2 #[] #[])
  fields := #[]
  methods := #[k1m0, k1m1]
  instanceTypes := #[]
  staticTypes := #[]
  resolved := Array.replicate 28 none
  statics := none }

def pool2 : Array CpInfo := pool [(2, .class_ 4), (1, u "java/lang/Object"), (0, u "<init>"), (0, u "()V"), (4, .class_ 13), (1, u "com/example/unfire/unfire/check/Nogoods"), (0, u "added"), (0, u "Ljava/util/List;"), (5, u "watching"), (0, u "Ljava/util/Map;"), (57, .class_ 82), (1, u "com/example/unfire/unfire/check/Nogoods$Decisions"), (32, u "decision"), (0, u "(IZ)J"), (1, u "in"), (0, u "(J)Z")] 33

def k2m0 : Method := { name := "<init>", desc := "()V", sig := { parameters := [], returnType := none }, accessFlags := 0, code := none }
def k2c1 : Code := { maxStack := 4, maxLocals := 2, code := prog_18_method_2_code, exceptionTable := #[], attributes := #[] }
def k2m1 : Method := { name := "decision", desc := "(IZ)J", sig := { parameters := [.int, .boolean], returnType := some .long }, accessFlags := 8, code := some k2c1 }
def k2c2 : Code := { maxStack := 4, maxLocals := 2, code := prog_18_method_4_code, exceptionTable := #[], attributes := #[] }
def k2m2 : Method := { name := "in", desc := "(J)Z", sig := { parameters := [.long], returnType := some .boolean }, accessFlags := 8, code := some k2c2 }
/-- com/example/unfire/unfire/check/Nogoods -/
def k2 : Class := { plain "com/example/unfire/unfire/check/Nogoods" (some 0) with
  accessFlags := 48
  interfaces := #[]
  cf := some (fileOf pool2 11 #[.nestMembers #[80]] #[{ accessFlags := 0, nameIndex := 5, descriptorIndex := 6, attributes := #[] }, { accessFlags := 8, nameIndex := 115, descriptorIndex := 116, attributes := #[] }, { accessFlags := 8, nameIndex := 118, descriptorIndex := 119, attributes := #[] }] 48 2 #[] #[{ accessFlags := 18, nameIndex := 14, descriptorIndex := 15, attributes := #[] }, { accessFlags := 18, nameIndex := 21, descriptorIndex := 22, attributes := #[] }])
  fields := #[{ name := "added", type := (.object "java/util/List"), accessFlags := 18, slot := 0, constantValue := 0 }, { name := "watching", type := (.object "java/util/Map"), accessFlags := 18, slot := 1, constantValue := 0 }]
  methods := #[k2m0, k2m1, k2m2]
  instanceTypes := #[(.object "java/util/List"), (.object "java/util/Map")]
  staticTypes := #[]
  resolved := Array.replicate 153 none
  statics := none }

def pool3 : Array CpInfo := pool [(1, u "java/lang/Cloneable"), (0, .class_ 1), (0, u "java/lang/Object"), (0, .class_ 3)] 3

/-- java/lang/Cloneable -/
def k3 : Class := { plain "java/lang/Cloneable" (some 0) with
  accessFlags := 1537
  interfaces := #[]
  cf := some (fileOf pool3 2 #[] #[] 1537 4 #[] #[])
  fields := #[]
  methods := #[]
  instanceTypes := #[]
  staticTypes := #[]
  resolved := Array.replicate 8 none
  statics := none }

def pool4 : Array CpInfo := pool [(1, u "java/io/Serializable"), (0, .class_ 1), (0, u "java/lang/Object"), (0, .class_ 3)] 3

/-- java/io/Serializable -/
def k4 : Class := { plain "java/io/Serializable" (some 0) with
  accessFlags := 1537
  interfaces := #[]
  cf := some (fileOf pool4 2 #[] #[] 1537 4 #[] #[])
  fields := #[]
  methods := #[]
  instanceTypes := #[]
  staticTypes := #[]
  resolved := Array.replicate 8 none
  statics := none }

/-- the primitive byte -/
def k5 : Class := { plain "byte" none with kind := .primitive 'B', accessFlags := 0x411 }
/-- [B -/
def k6 : Class := { plain "[B" (some 0) with kind := .array 5 .byte, interfaces := #[3, 4], accessFlags := 1041 }

/-- the primitive int -/
def k7 : Class := { plain "int" none with kind := .primitive 'I', accessFlags := 0x411 }
/-- [I -/
def k8 : Class := { plain "[I" (some 0) with kind := .array 7 .int, interfaces := #[3, 4], accessFlags := 1041 }

def heap : Heap := #[]
def classes : Array Class := #[k0, k1, k2, k3, k4, k5, k6, k7, k8]
def interned : List (Array UInt16 × Addr) := []
def slotsUsed : Nat := 0
def theMethod : MethodId := ⟨1, 1⟩
def args0 : Array Value := #[.long 5, .int 5, .int 5]
def aboutOver (below : List Frame) : State where
  vm := { classes := classes, interned := interned.toArray }
  heap := heap
  slotsUsed := slotsUsed
  threads := #[{ frames := .invoking theMethod args0 :: below }]
def below0 : List Frame := [.native { method := ⟨0, 0⟩, args := #[] }]
def about1 : State := aboutOver below0
def p0 : Program := .bare "" "" ""
def e0 : Env := launch0.env 0 0 0
theorem w_frames : about1.frames = Frame.invoking theMethod args0 :: below0 := rfl
set_option maxRecDepth 65536 in
theorem w_args : argsFit about1.vm theMethod args0 = true := by decide +kernel
set_option maxRecDepth 65536 in
theorem w_heap : heapFits about1 = true := by decide +kernel
set_option maxRecDepth 65536 in
theorem w_runnable : about1.curStatus? = some .runnable := by decide +kernel
set_option maxRecDepth 65536 in
theorem w_alone : about1.alone = true := by decide +kernel
set_option maxRecDepth 65536 in
theorem w_named : about1.methodNamed? x = some theMethod := by decide +kernel
set_option maxRecDepth 65536 in
theorem w_hears : about1.hears theMethod below0 = true := by decide +kernel
set_option maxRecDepth 65536 in
theorem w_ripe : about1.ripe theMethod args0 below0 = true := by decide +kernel
theorem w_running : about1.status = .running := rfl
set_option maxRecDepth 65536 in
theorem w_room : about1.hasRoom e0.platform room_1 = true :=
  launch0.hasRoom_least _ room_1 (by decide +kernel) (by decide +kernel) (by decide +kernel) (by decide +kernel) (by decide +kernel) (by decide +kernel)
theorem allAtoms_all (ts : List Jvm.Cond) (a : Array Jvm.Value) (st : Jvm.State) : (allAtoms ts).before a st = ts.all (fun c => c.before a st) := by
  induction ts with
  | nil => rfl
  | cons c t ih =>
    show (Jvm.Cond.and c (allAtoms t)).before a st = _
    rw [Jvm.Cond.before_and, ih, List.all_cons]
def words1 : List Jvm.Cond := Jvm.Cond.code x code maxLocals ret :: tables_1
/-- a 'code' word, met by the world's own term for the bytes: nothing is compared byte by byte -/
theorem code_word {y : MethodName} {bytes : ByteArray} {mx : Nat} {rt : Option FieldType} {a : Array Value} {s : State} {m : MethodId} {meth : Method} {c : Code} (h1 : s.methodNamed? y = some m) (h2 : s.vm.method? m = some meth) (h3 : meth.code = some c) (h4 : c.code = bytes)
    (h5 : (c.maxLocals == mx && c.exceptionTable.isEmpty && decide (c.maxStack ≤ mostOperands) && decide (meth.sig.returnType = rt) && !meth.locks && decide (parseMethodDescriptor y.desc = some meth.sig)) = true) : (Jvm.Cond.code y bytes mx rt).before a s = true := by
  simp only [Bool.and_eq_true, beq_iff_eq, Bool.not_eq_true', decide_eq_true_eq] at h5
  obtain ⟨⟨⟨⟨⟨g1, g2⟩, g3⟩, g4⟩, g5⟩, g6⟩ := h5
  simp [Cond.before, Cond.holds, Cond.value, h1, h2, h3, h4, g1, g2, g3, g4, g5, g6]
def isCode : Jvm.Cond → Bool
  | .code _ _ _ _ => true
  | _ => false
theorem all_split {L : List Jvm.Cond} {P : Jvm.Cond → Bool} (h1 : L.all (fun c => isCode c || P c) = true) (h2 : ∀ c ∈ L.filter isCode, P c = true) : L.all P = true := by
  refine List.all_eq_true.mpr fun c hc => ?_
  have h := List.all_eq_true.mp h1 c hc
  rcases Bool.eq_false_or_eq_true (isCode c) with hi | hi
  · exact h2 c (List.mem_filter.mpr ⟨hc, hi⟩)
  · simpa [hi] using h
set_option maxRecDepth 65536 in
theorem w_c0 : (Jvm.Cond.code x code maxLocals ret).before args0 about1 = true := code_word (m := ⟨1, 1⟩) (meth := k1m1) (c := k1c1) (by decide +kernel) rfl rfl rfl (by decide +kernel)
set_option maxRecDepth 65536 in
theorem w_c1 : (Jvm.Cond.code ({ cls := "com/example/unfire/unfire/check/Nogoods", name := "decision", desc := "(IZ)J" } : Jvm.MethodName) prog_18_method_2_code (2 : Nat) (Option.some Jvm.ClassFile.FieldType.long)).before args0 about1 = true := code_word (m := ⟨2, 1⟩) (meth := k2m1) (c := k2c1) (by decide +kernel) rfl rfl rfl (by decide +kernel)
set_option maxRecDepth 65536 in
theorem w_c2 : (Jvm.Cond.code ({ cls := "com/example/unfire/unfire/check/Nogoods", name := "in", desc := "(J)Z" } : Jvm.MethodName) prog_18_method_4_code (2 : Nat) (Option.some Jvm.ClassFile.FieldType.boolean)).before args0 about1 = true := code_word (m := ⟨2, 2⟩) (meth := k2m2) (c := k2c2) (by decide +kernel) rfl rfl rfl (by decide +kernel)
def codes1 : List Jvm.Cond := [Jvm.Cond.code x code maxLocals ret, Jvm.Cond.code ({ cls := "com/example/unfire/unfire/check/Nogoods", name := "decision", desc := "(IZ)J" } : Jvm.MethodName) prog_18_method_2_code (2 : Nat) (Option.some Jvm.ClassFile.FieldType.long), Jvm.Cond.code ({ cls := "com/example/unfire/unfire/check/Nogoods", name := "in", desc := "(J)Z" } : Jvm.MethodName) prog_18_method_4_code (2 : Nat) (Option.some Jvm.ClassFile.FieldType.boolean)]
set_option maxRecDepth 65536 in
theorem codes_eq : words1.filter isCode = codes1 := rfl
theorem w_codes : ∀ c ∈ words1.filter isCode, c.before args0 about1 = true := by
  rw [codes_eq]
  intro c hc
  simp only [codes1, List.mem_cons, List.not_mem_nil, or_false] at hc
  rcases hc with rfl | rfl | rfl
  · exact w_c0
  · exact w_c1
  · exact w_c2
set_option maxRecDepth 65536 in
theorem w_t1 : words1.all (fun c => isCode c || c.before args0 about1) = true := by decide +kernel
theorem w_tables : (allAtoms (Jvm.Cond.code x code maxLocals ret :: tables_1)).before args0 about1 = true := by
  rw [allAtoms_all]
  show words1.all (fun c => c.before args0 about1) = true
  refine all_split ?_ w_codes
  rw [w_t1]
set_option maxRecDepth 65536 in
theorem w_case : (Jvm.Cond.and given_1 narrow_1).before args0 about1 = true := by decide +kernel
theorem w_applies : (headSpec (Jvm.Cond.code x code maxLocals ret :: tables_1) room_1).applies x e0.platform about1 = true :=
  (Spec.applies_iff w_frames).mpr ⟨w_running, w_runnable, w_alone, w_named, w_hears, w_ripe, w_room, w_tables⟩
theorem atStart : AtStart classFile x code maxLocals ret World_1 tables_1 room_1 Calls_1 rest_1 Pre_1 launch0 p0 e0 about1 theMethod args0 below0 :=
  ⟨lists_1, trivial, launch0.admits_env _ _ _, launch0.least_env, fairChoices_fair.cas, fairChoices_fair.clock, w_frames, w_args, w_heap, w_applies, trivial, trivial, w_case⟩
end start1
theorem witness_1 : WitnessClaimed_1 := ⟨start1.p0, start1.e0, start1.about1, start1.theMethod, start1.args0, start1.below0, start1.atStart⟩
end Jvm.Pilot.@@N@@
