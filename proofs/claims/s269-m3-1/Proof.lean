import JvmDerived
import JvmDerived.Pilot.@@N@@Statement
import JvmDerived.Pilot.@@N@@Code
set_option linter.unusedVariables false
set_option linter.unusedSimpArgs false
@@BLOCK:NumsL.lean.txt@@
namespace Jvm.RoadKit
open Sem ClassFile Op Lib Jvm.Stand Jvm.Free Jvm.LawKit
section New
variable {p : Program} {l : Launch} {e : Env} {R : Room} {s : State} {m : MethodId} {args : Array Value} {below : List Frame} {meth : Method} {c : Code} {T : State} {locs : List Loc} {cells slots : Nat}
theorem retI (X : Stand p l e R s m args below meth c T locs cells slots) (hx : p.tables.exec = Jvm.exec) {pc : Nat} {Ls : Array Slot} {z : Int32} {rest : List Value} (hret : meth.sig.returnType = some .int) (hd : decode c.code pc = .ok (.ireturn, 1)) {fs : List Frame}
    (hl : ∀ (f : JFrame) (acts : List Action), f.method = m → f.locked = none → f.entered = [] → (doReturn e (T.setTop f) acts (some (.int z))).1 = T.setFrames fs) : Steps p.tables e below (T.setTop (mkF m pc Ls (.int z :: rest))) (T.setFrames fs) := by
  have hm' : T.vm.method? m = some meth := X.method'
  have hn : narrow .int (.int z) = .int z := rfl
  show Steps p.tables e below (T.setTop { method := m, pc := pc, locals := Ls, stack := _ :: rest, locked := none }) _
  jvm_step X.here [X.here.top, hx, hd, hm', hret, hn]
  first | (intro acts; rw [hl _ acts rfl rfl rfl]) | rw [hl _ _ rfl rfl rfl]
  exact Steps.refl _
end New
end Jvm.RoadKit
namespace Jvm.Pilot.@@N@@
open Jvm Jvm.ClassFile Sem Op Lib Jvm.Free Jvm.Stand Jvm.LawKit Jvm.RoadKit Bundle Jvm.Pilot.@@N@@.Jvm.D
def own_ush (x : Int64) (s : Int32) : Int64 := ((x.toUInt64 >>> (s &&& 0x3f).toInt64.toUInt64).toInt64)
def own_shl (x : Int64) (s : Int32) : Int64 := (x <<< (s &&& 0x3f).toInt64)
def own_shr (x : Int64) (s : Int32) : Int64 := (x >>> (s &&& 0x3f).toInt64)
def own_iush (x s : Int32) : Int32 := ((x.toUInt32 >>> (s &&& 31).toUInt32).toInt32)
def own_ishl (x s : Int32) : Int32 := (x <<< (s &&& 31))
def own_ishr (x s : Int32) : Int32 := (x >>> (s &&& 31))
def own_lrem (x y : Int64) : Int64 := x - (x / y) * y
def own_cmp (a b : Int64) : Int32 := if a < b then (-1 : Int32) else if a = b then (0 : Int32) else (1 : Int32)
def own_cu (a b : Int64) : Int32 := own_cmp (a + (-9223372036854775808 : Int64)) (b + (-9223372036854775808 : Int64))
def own_sa (a : Int64) : Int32 := if own_cu a (24 : Int64) < (0 : Int32) then (a.toInt32) else if (0 : Int32) < own_cu a (255 : Int64) then (if (0 : Int32) < own_cu a (65535 : Int64) then (if (0 : Int32) < own_cu a (4294967295 : Int64) then (27 : Int32) else (26 : Int32)) else (25 : Int32)) else (24 : Int32)
def own_ex (a : Int64) : Int32 := if own_ush a (32 : Int32) = (0 : Int64) then (if own_ush a (16 : Int32) = (0 : Int64) then (if own_ush a (8 : Int32) = (0 : Int64) then (if a < (24 : Int64) then (a.toInt32) else (24 : Int32)) else (25 : Int32)) else (26 : Int32)) else (27 : Int32)
theorem own_add_min (a : Int64) : (a + (-9223372036854775808 : Int64)).toInt = (a.toBitVec.toNat : Int) - 2 ^ 63 := by
  have h := a.toBitVec.isLt
  have e : a.toInt = Int.bmod a.toBitVec.toNat (2 ^ 64) := BitVec.toInt_eq_toNat_bmod _
  have e2 : (-9223372036854775808 : Int64).toInt = -9223372036854775808 := by decide
  rw [Int64.toInt_add, e, e2, Int.bmod_add_bmod, Int.bmod_def]
  omega
theorem own_cu_lt (a k : Int64) : own_cu a k < (0 : Int32) ↔ a.toBitVec.toNat < k.toBitVec.toNat := by
  have h1 := own_add_min a
  have h2 := own_add_min k
  unfold own_cu own_cmp
  simp only [Int64.lt_iff_toInt_lt, ← Int64.toInt_inj, h1, h2]
  split
  · constructor
    · intro _; omega
    · intro _; decide
  · split
    · constructor
      · intro h; exact absurd h (by decide)
      · intro _; omega
    · constructor
      · intro h; exact absurd h (by decide)
      · intro _; omega
theorem own_cu_gt (a k : Int64) : (0 : Int32) < own_cu a k ↔ k.toBitVec.toNat < a.toBitVec.toNat := by
  have h1 := own_add_min a
  have h2 := own_add_min k
  unfold own_cu own_cmp
  simp only [Int64.lt_iff_toInt_lt, ← Int64.toInt_inj, h1, h2]
  split
  · constructor
    · intro h; exact absurd h (by decide)
    · intro _; omega
  · split
    · constructor
      · intro h; exact absurd h (by decide)
      · intro _; omega
    · constructor
      · intro _; omega
      · intro _; decide
theorem own_ush_eq (x : Int64) (s : Int32) (k : Nat) (hs : ((s &&& 0x3f).toInt64.toUInt64.toBitVec % 64#64).toNat = k) : (own_ush x s).toBitVec = x.toBitVec >>> k := by
  subst hs; rfl
theorem own_ush_zero (x : Int64) (s : Int32) (k : Nat) (hs : ((s &&& 0x3f).toInt64.toUInt64.toBitVec % 64#64).toNat = k) : own_ush x s = (0 : Int64) ↔ x.toBitVec.toNat < 2 ^ k := by
  rw [← Int64.toBitVec_inj, own_ush_eq x s k hs, ← BitVec.toNat_inj, BitVec.toNat_ushiftRight, Nat.shiftRight_eq_div_pow]
  have hp : 0 < 2 ^ k := Nat.pow_pos (by decide)
  show x.toBitVec.toNat / 2 ^ k = 0 ↔ _
  rw [Nat.div_eq_zero_iff]
  omega
theorem own_lt24 (a : Int64) (h : a.toBitVec.toNat < 256) : a < (24 : Int64) ↔ a.toBitVec.toNat < 24 := by
  have e : a.toInt = (a.toBitVec.toNat : Int) := by
    have : a.toInt = a.toBitVec.toInt := rfl
    rw [this, BitVec.toInt_eq_toNat_of_lt (by omega)]
  have e2 : (24 : Int64).toInt = 24 := by decide
  rw [Int64.lt_iff_toInt_lt, e, e2]; omega
theorem own_law (a : Int64) : own_sa a = own_ex a := by
  have n1 : (24 : Int64).toBitVec.toNat = 24 := by decide
  have n2 : (255 : Int64).toBitVec.toNat = 255 := by decide
  have n3 : (65535 : Int64).toBitVec.toNat = 65535 := by decide
  have n4 : (4294967295 : Int64).toBitVec.toNat = 4294967295 := by decide
  unfold own_sa own_ex
  simp only [own_cu_lt, own_cu_gt, own_ush_zero a 32 32 (by decide), own_ush_zero a 16 16 (by decide), own_ush_zero a 8 8 (by decide), n1, n2, n3, n4]
  have h24 := own_lt24 a
  by_cases h : a.toBitVec.toNat < 256
  · simp only [h24 h]
    generalize a.toBitVec.toNat = t at *
    repeat' split
    all_goals first | rfl | omega
  · generalize a.toBitVec.toNat = t at *
    repeat' split
    all_goals first | rfl | omega
theorem d3_0 : decode jdk_35_method_42_code 0 = .ok (.lload_n 0, 1) := by decide +kernel
theorem d3_1 : decode jdk_35_method_42_code 1 = .ok (.lload_n 2, 1) := by decide +kernel
theorem d3_2 : decode jdk_35_method_42_code 2 = .ok (.lcmp, 1) := by decide +kernel
theorem d3_3 : decode jdk_35_method_42_code 3 = .ok (.ifCond .ge 7, 3) := by decide +kernel
theorem d3_6 : decode jdk_35_method_42_code 6 = .ok (.iconst (-1), 1) := by decide +kernel
theorem d3_7 : decode jdk_35_method_42_code 7 = .ok (.goto 14, 3) := by decide +kernel
theorem d3_10 : decode jdk_35_method_42_code 10 = .ok (.lload_n 0, 1) := by decide +kernel
theorem d3_11 : decode jdk_35_method_42_code 11 = .ok (.lload_n 2, 1) := by decide +kernel
theorem d3_12 : decode jdk_35_method_42_code 12 = .ok (.lcmp, 1) := by decide +kernel
theorem d3_13 : decode jdk_35_method_42_code 13 = .ok (.ifCond .ne 7, 3) := by decide +kernel
theorem d3_16 : decode jdk_35_method_42_code 16 = .ok (.iconst 0, 1) := by decide +kernel
theorem d3_17 : decode jdk_35_method_42_code 17 = .ok (.goto 4, 3) := by decide +kernel
theorem d3_20 : decode jdk_35_method_42_code 20 = .ok (.iconst 1, 1) := by decide +kernel
theorem d3_21 : decode jdk_35_method_42_code 21 = .ok (.ireturn, 1) := by decide +kernel
theorem pn_Long : plainName "java/lang/Long" = true := by first | (simp [plainName, overriddenIn]; done) | decide +kernel
theorem ef_3 (m : MethodId) (q1 : Int64) (q2 : Int64) : entryFrame m #[(.long q1), (.long q2)] 4 = mkF m 0 #[.val (.long q1), .second, .val (.long q2), .second] [] := by first | (simp [entryFrame, mkF, argsToLocals, Value.category]; done) | rfl
def Q3 (Z : State) (q1 : Int64) (q2 : Int64) (h0 : Heap) (n0 : Nat) (v : Option Value) (h : Heap) (L : List Loc) : Prop := v = some (.int (own_cmp q1 q2)) ∧ Fr n0 L ∧ h = h0
set_option maxRecDepth 65536 in
set_option maxHeartbeats 40000000 in
theorem rm3 (l : Launch) (Z : State) (a0 : Array Value) (hw : ∀ d ∈ tables_1, d.before a0 Z = true) (ws : List Jvm.Cond) (q1 : Int64) (q2 : Int64) (h0 : Heap) (n0 : Nat) (Z0 : n0 ≤ h0.size) :
    MetFree l (⟨"java/lang/Long", "compare", "(JJ)I"⟩ : MethodName) (head1 (Jvm.Cond.code (⟨"java/lang/Long", "compare", "(JJ)I"⟩ : MethodName) jdk_35_method_42_code 4 (some .int) :: ws) ({ frames := 0, cells := 0, slots := 0, locals := 0 } : Room)) (fun aa U => aa = #[(.long q1), (.long q2)] ∧ Z.Warmed39 U.vm ∧ U.heap = h0) (fun _ _ _ _ _ => True) (fun _ U o U' => ∃ v L, o = .returned v ∧ Q3 Z q1 q2 h0 n0 v U'.heap L ∧ FrameEnd U o U' L ({ frames := 0, cells := 0, slots := 0, locals := 0 } : Room).cells ({ frames := 0, cells := 0, slots := 0, locals := 0 } : Room).slots) := by
  refine MetFree.of_bodySF (plainFor_of_name pn_Long) hisR ?_
  intro p e s m args below meth c s₁ Bd hml0 hP hK
  obtain ⟨rfl, hZ, hh⟩ := hP
  have hx := Bd.exec
  have hby := Bd.bytes
  have hml : c.maxLocals = 4 := hml0
  have hown : s.vm.findClass "java/lang/Long" = some m.cls := findClass_of_methodNamed Bd.named
  have hnm := (name_of_methodNamed Bd.named Bd.method).1
  have X0 : Stand p l e ({ frames := 0, cells := 0, slots := 0, locals := 0 } : Room) s m #[(.long q1), (.long q2)] below meth c s₁ [] 0 0 := Stand.of_body Bd
  have e0 : s₁.heap = h0 := by rw [← hh, Bd.state]; rfl
  have N0 := Fr.nil n0
  have hlk : meth.locks = false := by first | exact BodyLoose.notSynchronized Bd | exact Body.notSynchronized Bd
  have pre0 : ∀ t, Steps p.tables e below (s₁.setTop (mkF m 0 #[.val (.long q1), .second, .val (.long q2), .second] [])) t → Steps p.tables e below (s₁.setTop (entryFrame m #[(.long q1), (.long q2)] 4)) t := fun t k => castTop (ef_3 m q1 q2) k
  have pre1 : ∀ t, Steps p.tables e below (s₁.setTop (mkF m 3 #[.val (.long q1), .second, .val (.long q2), .second] [(.int (lcmpW q1 q2))])) t → Steps p.tables e below (s₁.setTop (entryFrame m #[(.long q1), (.long q2)] 4)) t := fun t k => pre0 t (by
    show Steps p.tables e below (s₁.setTop (mkF m 0 #[.val (.long q1), .second, .val (.long q2), .second] [])) _
    refine XS.lloadN X0.here hx rfl (hb hby d3_0) rfl ?_
    show Steps p.tables e below (s₁.setTop (mkF m 1 #[.val (.long q1), .second, .val (.long q2), .second] [(.long q1)])) _
    refine XS.lloadN X0.here hx rfl (hb hby d3_1) rfl ?_
    show Steps p.tables e below (s₁.setTop (mkF m 2 #[.val (.long q1), .second, .val (.long q2), .second] [(.long q2), (.long q1)])) _
    refine XS.lcmp X0.here hx rfl (hb hby d3_2) rfl ?_
    show Steps p.tables e below (s₁.setTop (mkF m 3 #[.val (.long q1), .second, .val (.long q2), .second] [(.int (lcmpW q1 q2))])) _
    exact k)
  by_cases hc3_2 : q1 < q2
  · have pre3 : ∀ t, Steps p.tables e below (s₁.setTop (mkF m 21 #[.val (.long q1), .second, .val (.long q2), .second] [(.int (-1 : Int32))])) t → Steps p.tables e below (s₁.setTop (entryFrame m #[(.long q1), (.long q2)] 4)) t := fun t k => pre1 t (by
      show Steps p.tables e below (s₁.setTop (mkF m 3 #[.val (.long q1), .second, .val (.long q2), .second] [(.int (lcmpW q1 q2))])) _
      refine XS.ifNo X0.here hx rfl (hb hby d3_3) rfl ((if0 _ _).trans (tlt ((lw_lt _ _).mpr hc3_2)).2.1) ?_
      show Steps p.tables e below (s₁.setTop (mkF m 6 #[.val (.long q1), .second, .val (.long q2), .second] [])) _
      refine XS.iconst X0.here hx rfl (hb hby d3_6) ?_
      show Steps p.tables e below (s₁.setTop (mkF m 7 #[.val (.long q1), .second, .val (.long q2), .second] [(.int (-1 : Int32))])) _
      refine XS.goto X0.here hx rfl (pc0 := 7) (pc' := 21) rfl (hb hby d3_7) (by decide) (by decide) ?_
      show Steps p.tables e below (s₁.setTop (mkF m 21 #[.val (.long q1), .second, .val (.long q2), .second] [(.int (-1 : Int32))])) _
      exact k)
    obtain ⟨fs, hr, hrun, hended, hW, hsame⟩ := X0.leave (v := some (.int (-1 : Int32))) (fun h => by rw [Bd.returns] at h; cases h) hlk
    refine ⟨_, _, pre3 _ ?_, hrun, hended, _, _, rfl, ?_, ⟨_, rfl⟩, hW, hsame.mono (by decide) (by decide)⟩
    · show Steps p.tables e below (s₁.setTop (mkF m 21 #[.val (.long q1), .second, .val (.long q2), .second] [(.int (-1 : Int32))])) _
      exact retI X0 hx Bd.returns (hb hby d3_21) hr
    · show Q3 Z q1 q2 h0 n0 _ s₁.heap _
      rw [e0]
      exact ⟨by simp only [own_cmp, if_pos hc3_2], N0, rfl⟩
  · have pre4 : ∀ t, Steps p.tables e below (s₁.setTop (mkF m 13 #[.val (.long q1), .second, .val (.long q2), .second] [(.int (lcmpW q1 q2))])) t → Steps p.tables e below (s₁.setTop (entryFrame m #[(.long q1), (.long q2)] 4)) t := fun t k => pre1 t (by
      show Steps p.tables e below (s₁.setTop (mkF m 3 #[.val (.long q1), .second, .val (.long q2), .second] [(.int (lcmpW q1 q2))])) _
      refine XS.ifYes X0.here hx rfl (pc0 := 3) (pc' := 10) rfl (hb hby d3_3) rfl ((if0 _ _).trans (flt (fun q => hc3_2 ((lw_lt _ _).mp q))).2.1) (by decide) (by decide) ?_
      show Steps p.tables e below (s₁.setTop (mkF m 10 #[.val (.long q1), .second, .val (.long q2), .second] [])) _
      refine XS.lloadN X0.here hx rfl (hb hby d3_10) rfl ?_
      show Steps p.tables e below (s₁.setTop (mkF m 11 #[.val (.long q1), .second, .val (.long q2), .second] [(.long q1)])) _
      refine XS.lloadN X0.here hx rfl (hb hby d3_11) rfl ?_
      show Steps p.tables e below (s₁.setTop (mkF m 12 #[.val (.long q1), .second, .val (.long q2), .second] [(.long q2), (.long q1)])) _
      refine XS.lcmp X0.here hx rfl (hb hby d3_12) rfl ?_
      show Steps p.tables e below (s₁.setTop (mkF m 13 #[.val (.long q1), .second, .val (.long q2), .second] [(.int (lcmpW q1 q2))])) _
      exact k)
    by_cases hc13_5 : q1 = q2
    · have pre6 : ∀ t, Steps p.tables e below (s₁.setTop (mkF m 21 #[.val (.long q1), .second, .val (.long q2), .second] [(.int (0 : Int32))])) t → Steps p.tables e below (s₁.setTop (entryFrame m #[(.long q1), (.long q2)] 4)) t := fun t k => pre4 t (by
        show Steps p.tables e below (s₁.setTop (mkF m 13 #[.val (.long q1), .second, .val (.long q2), .second] [(.int (lcmpW q1 q2))])) _
        refine XS.ifNo X0.here hx rfl (hb hby d3_13) rfl ((if0 _ _).trans (teq ((lw_eq _ _).mpr hc13_5)).2) ?_
        show Steps p.tables e below (s₁.setTop (mkF m 16 #[.val (.long q1), .second, .val (.long q2), .second] [])) _
        refine XS.iconst X0.here hx rfl (hb hby d3_16) ?_
        show Steps p.tables e below (s₁.setTop (mkF m 17 #[.val (.long q1), .second, .val (.long q2), .second] [(.int (0 : Int32))])) _
        refine XS.goto X0.here hx rfl (pc0 := 17) (pc' := 21) rfl (hb hby d3_17) (by decide) (by decide) ?_
        show Steps p.tables e below (s₁.setTop (mkF m 21 #[.val (.long q1), .second, .val (.long q2), .second] [(.int (0 : Int32))])) _
        exact k)
      obtain ⟨fs, hr, hrun, hended, hW, hsame⟩ := X0.leave (v := some (.int (0 : Int32))) (fun h => by rw [Bd.returns] at h; cases h) hlk
      refine ⟨_, _, pre6 _ ?_, hrun, hended, _, _, rfl, ?_, ⟨_, rfl⟩, hW, hsame.mono (by decide) (by decide)⟩
      · show Steps p.tables e below (s₁.setTop (mkF m 21 #[.val (.long q1), .second, .val (.long q2), .second] [(.int (0 : Int32))])) _
        exact retI X0 hx Bd.returns (hb hby d3_21) hr
      · show Q3 Z q1 q2 h0 n0 _ s₁.heap _
        rw [e0]
        exact ⟨by simp only [own_cmp, if_neg hc3_2, if_pos hc13_5], N0, rfl⟩
    · have pre7 : ∀ t, Steps p.tables e below (s₁.setTop (mkF m 21 #[.val (.long q1), .second, .val (.long q2), .second] [(.int (1 : Int32))])) t → Steps p.tables e below (s₁.setTop (entryFrame m #[(.long q1), (.long q2)] 4)) t := fun t k => pre4 t (by
        show Steps p.tables e below (s₁.setTop (mkF m 13 #[.val (.long q1), .second, .val (.long q2), .second] [(.int (lcmpW q1 q2))])) _
        refine XS.ifYes X0.here hx rfl (pc0 := 13) (pc' := 20) rfl (hb hby d3_13) rfl ((if0 _ _).trans (feq (fun q => hc13_5 ((lw_eq _ _).mp q))).2) (by decide) (by decide) ?_
        show Steps p.tables e below (s₁.setTop (mkF m 20 #[.val (.long q1), .second, .val (.long q2), .second] [])) _
        refine XS.iconst X0.here hx rfl (hb hby d3_20) ?_
        show Steps p.tables e below (s₁.setTop (mkF m 21 #[.val (.long q1), .second, .val (.long q2), .second] [(.int (1 : Int32))])) _
        exact k)
      obtain ⟨fs, hr, hrun, hended, hW, hsame⟩ := X0.leave (v := some (.int (1 : Int32))) (fun h => by rw [Bd.returns] at h; cases h) hlk
      refine ⟨_, _, pre7 _ ?_, hrun, hended, _, _, rfl, ?_, ⟨_, rfl⟩, hW, hsame.mono (by decide) (by decide)⟩
      · show Steps p.tables e below (s₁.setTop (mkF m 21 #[.val (.long q1), .second, .val (.long q2), .second] [(.int (1 : Int32))])) _
        exact retI X0 hx Bd.returns (hb hby d3_21) hr
      · show Q3 Z q1 q2 h0 n0 _ s₁.heap _
        rw [e0]
        exact ⟨by simp only [own_cmp, if_neg hc3_2, if_neg hc13_5], N0, rfl⟩
theorem pd_1 : parseMethodDescriptor "(JJ)I" = some ⟨[.long, .long], some .int⟩ := by decide +kernel
theorem d2_0 : decode jdk_35_method_43_code 0 = .ok (.lload_n 0, 1) := by decide +kernel
theorem d2_1 : decode jdk_35_method_43_code 1 = .ok (.ldc2_w 168, 3) := by decide +kernel
theorem d2_4 : decode jdk_35_method_43_code 4 = .ok (.ladd, 1) := by decide +kernel
theorem d2_5 : decode jdk_35_method_43_code 5 = .ok (.lload_n 2, 1) := by decide +kernel
theorem d2_6 : decode jdk_35_method_43_code 6 = .ok (.ldc2_w 168, 3) := by decide +kernel
theorem d2_9 : decode jdk_35_method_43_code 9 = .ok (.ladd, 1) := by decide +kernel
theorem d2_10 : decode jdk_35_method_43_code 10 = .ok (.invokestatic 302, 3) := by decide +kernel
theorem d2_13 : decode jdk_35_method_43_code 13 = .ok (.ireturn, 1) := by decide +kernel
theorem ef_2 (m : MethodId) (q1 : Int64) (q2 : Int64) : entryFrame m #[(.long q1), (.long q2)] 4 = mkF m 0 #[.val (.long q1), .second, .val (.long q2), .second] [] := by first | (simp [entryFrame, mkF, argsToLocals, Value.category]; done) | rfl
def Q2 (Z : State) (q1 : Int64) (q2 : Int64) (h0 : Heap) (n0 : Nat) (v : Option Value) (h : Heap) (L : List Loc) : Prop := v = some (.int (own_cu q1 q2)) ∧ Fr n0 L ∧ h = h0
set_option maxRecDepth 65536 in
set_option maxHeartbeats 40000000 in
theorem rm2 (l : Launch) (Z : State) (a0 : Array Value) (hw : ∀ d ∈ tables_1, d.before a0 Z = true) (ws : List Jvm.Cond) (q1 : Int64) (q2 : Int64) (h0 : Heap) (n0 : Nat) (Z0 : n0 ≤ h0.size) :
    MetFree l (⟨"java/lang/Long", "compareUnsigned", "(JJ)I"⟩ : MethodName) (head1 (Jvm.Cond.code (⟨"java/lang/Long", "compareUnsigned", "(JJ)I"⟩ : MethodName) jdk_35_method_43_code 4 (some .int) :: ws) ({ frames := 1, cells := 0, slots := 0, locals := 15 } : Room)) (fun aa U => aa = #[(.long q1), (.long q2)] ∧ Z.Warmed39 U.vm ∧ U.heap = h0) (fun _ _ _ _ _ => True) (fun _ U o U' => ∃ v L, o = .returned v ∧ Q2 Z q1 q2 h0 n0 v U'.heap L ∧ FrameEnd U o U' L ({ frames := 1, cells := 0, slots := 0, locals := 15 } : Room).cells ({ frames := 1, cells := 0, slots := 0, locals := 15 } : Room).slots) := by
  refine MetFree.of_bodySF (plainFor_of_name pn_Long) hisR ?_
  intro p e s m args below meth c s₁ Bd hml0 hP hK
  obtain ⟨rfl, hZ, hh⟩ := hP
  have hx := Bd.exec
  have hby := Bd.bytes
  have hml : c.maxLocals = 4 := hml0
  have hown : s.vm.findClass "java/lang/Long" = some m.cls := findClass_of_methodNamed Bd.named
  have hnm := (name_of_methodNamed Bd.named Bd.method).1
  have X0 : Stand p l e ({ frames := 1, cells := 0, slots := 0, locals := 15 } : Room) s m #[(.long q1), (.long q2)] below meth c s₁ [] 0 0 := Stand.of_body Bd
  have e0 : s₁.heap = h0 := by rw [← hh, Bd.state]; rfl
  have N0 := Fr.nil n0
  have hlk : meth.locks = false := by first | exact BodyLoose.notSynchronized Bd | exact Body.notSynchronized Bd
  have pre0 : ∀ t, Steps p.tables e below (s₁.setTop (mkF m 0 #[.val (.long q1), .second, .val (.long q2), .second] [])) t → Steps p.tables e below (s₁.setTop (entryFrame m #[(.long q1), (.long q2)] 4)) t := fun t k => castTop (ef_2 m q1 q2) k
  have pre1 : ∀ t, Steps p.tables e below (s₁.setTop (mkF m 10 #[.val (.long q1), .second, .val (.long q2), .second] [(.long (q2 + (-9223372036854775808 : Int64))), (.long (q1 + (-9223372036854775808 : Int64)))])) t → Steps p.tables e below (s₁.setTop (entryFrame m #[(.long q1), (.long q2)] 4)) t := fun t k => pre0 t (by
    show Steps p.tables e below (s₁.setTop (mkF m 0 #[.val (.long q1), .second, .val (.long q2), .second] [])) _
    refine XS.lloadN X0.here hx rfl (hb hby d2_0) rfl ?_
    show Steps p.tables e below (s₁.setTop (mkF m 1 #[.val (.long q1), .second, .val (.long q2), .second] [(.long q1)])) _
    refine X0.ldc2Long hx hown (mvT hZ (hw _ (List.mem_of_getElem? (i := 9) rfl))) (g := (mkF m 1 #[.val (.long q1), .second, .val (.long q2), .second] [(.long q1)])) rfl (hb hby d2_1) _ ?_
    show Steps p.tables e below (s₁.setTop (mkF m 4 #[.val (.long q1), .second, .val (.long q2), .second] [(.long (-9223372036854775808 : Int64)), (.long q1)])) _
    refine XS.ladd X0.here hx rfl (hb hby d2_4) rfl ?_
    show Steps p.tables e below (s₁.setTop (mkF m 5 #[.val (.long q1), .second, .val (.long q2), .second] [(.long (q1 + (-9223372036854775808 : Int64)))])) _
    refine XS.lloadN X0.here hx rfl (hb hby d2_5) rfl ?_
    show Steps p.tables e below (s₁.setTop (mkF m 6 #[.val (.long q1), .second, .val (.long q2), .second] [(.long q2), (.long (q1 + (-9223372036854775808 : Int64)))])) _
    refine X0.ldc2Long hx hown (mvT hZ (hw _ (List.mem_of_getElem? (i := 9) rfl))) (g := (mkF m 6 #[.val (.long q1), .second, .val (.long q2), .second] [(.long q2), (.long (q1 + (-9223372036854775808 : Int64)))])) rfl (hb hby d2_6) _ ?_
    show Steps p.tables e below (s₁.setTop (mkF m 9 #[.val (.long q1), .second, .val (.long q2), .second] [(.long (-9223372036854775808 : Int64)), (.long q2), (.long (q1 + (-9223372036854775808 : Int64)))])) _
    refine XS.ladd X0.here hx rfl (hb hby d2_9) rfl ?_
    show Steps p.tables e below (s₁.setTop (mkF m 10 #[.val (.long q1), .second, .val (.long q2), .second] [(.long (q2 + (-9223372036854775808 : Int64))), (.long (q1 + (-9223372036854775808 : Int64)))])) _
    exact k)
  obtain ⟨_, _, ⟨T2, L2, k2, n2⟩, -, X2, ⟨Lc2, hQ2, l2, y2, z2⟩, st2⟩ := Jvm.LawKit.callS X0 hx (y := (⟨"java/lang/Long", "compare", "(JJ)I"⟩ : MethodName)) hown (mvT hZ (hw _ (List.mem_of_getElem? (i := 10) rfl))) (mvT hZ (hw _ (List.mem_of_getElem? (i := 11) rfl))) (mvT hZ (hw _ (List.mem_of_getElem? (i := 7) rfl))) (mvT hZ (hw _ (List.mem_of_getElem? (i := 12) rfl))) (by decide) (backOf (W := 0) (rm3 l Z a0 hw [] (q1 + (-9223372036854775808 : Int64)) (q2 + (-9223372036854775808 : Int64)) h0 n0 Z0) hZ (hw _ (List.mem_of_getElem? (i := 12) rfl)) (hw _ (List.mem_of_getElem? (i := 7) rfl)) (by decide) (by decide)) (g := (mkF m 10 #[.val (.long q1), .second, .val (.long q2), .second] [(.long (q2 + (-9223372036854775808 : Int64))), (.long (q1 + (-9223372036854775808 : Int64)))])) rfl (by rw [hml]; rfl) (argsL := [(.long (q1 + (-9223372036854775808 : Int64))), (.long (q2 + (-9223372036854775808 : Int64)))]) (rest := []) (lenOf pd_1 rfl) rfl (by show 2 * 0 + _ ≤ _; exact Nat.le_of_eq rfl) (hb hby d2_10) (fun _ _ => ⟨rfl, e0, (by decide : 0 + 0 ≤ _), (by decide : 0 + 0 ≤ _)⟩)
  dsimp only [Pt.U, Pt.locs, Pt.cells, Pt.slots] at X2 l2 y2 z2 st2 hQ2
  subst l2 y2 z2
  obtain ⟨rfl, N2q, e2⟩ := hQ2
  have N2 := Fr.app N0 N2q
  have pre3 : ∀ t, Steps p.tables e below (T2.setTop (mkF m 13 #[.val (.long q1), .second, .val (.long q2), .second] [(.int (own_cu q1 q2))])) t → Steps p.tables e below (s₁.setTop (entryFrame m #[(.long q1), (.long q2)] 4)) t := fun t k => pre1 t (st2 t k)
  obtain ⟨fs, hr, hrun, hended, hW, hsame⟩ := X2.leave (v := some (.int (own_cu q1 q2))) (fun h => by rw [Bd.returns] at h; cases h) hlk
  refine ⟨_, _, pre3 _ ?_, hrun, hended, _, _, rfl, ?_, ⟨_, rfl⟩, hW, hsame.mono (by decide) (by decide)⟩
  · show Steps p.tables e below (T2.setTop (mkF m 13 #[.val (.long q1), .second, .val (.long q2), .second] [(.int (own_cu q1 q2))])) _
    exact retI X2 hx Bd.returns (hb hby d2_13) hr
  · show Q2 Z q1 q2 h0 n0 _ T2.heap _
    rw [e2]
    exact ⟨rfl, N2, rfl⟩
theorem d1_0 : decode prog_18_method_3_code 0 = .ok (.lload_n 0, 1) := by decide +kernel
theorem d1_1 : decode prog_18_method_3_code 1 = .ok (.ldc2_w 9, 3) := by decide +kernel
theorem d1_4 : decode prog_18_method_3_code 4 = .ok (.invokestatic 11, 3) := by decide +kernel
theorem d1_7 : decode prog_18_method_3_code 7 = .ok (.ifCond .ge 6, 3) := by decide +kernel
theorem d1_10 : decode prog_18_method_3_code 10 = .ok (.lload_n 0, 1) := by decide +kernel
theorem d1_11 : decode prog_18_method_3_code 11 = .ok (.l2i, 1) := by decide +kernel
theorem d1_12 : decode prog_18_method_3_code 12 = .ok (.ireturn, 1) := by decide +kernel
theorem d1_13 : decode prog_18_method_3_code 13 = .ok (.lload_n 0, 1) := by decide +kernel
theorem d1_14 : decode prog_18_method_3_code 14 = .ok (.ldc2_w 17, 3) := by decide +kernel
theorem d1_17 : decode prog_18_method_3_code 17 = .ok (.invokestatic 11, 3) := by decide +kernel
theorem d1_20 : decode prog_18_method_3_code 20 = .ok (.ifCond .gt 6, 3) := by decide +kernel
theorem d1_23 : decode prog_18_method_3_code 23 = .ok (.bipush 24, 2) := by decide +kernel
theorem d1_25 : decode prog_18_method_3_code 25 = .ok (.ireturn, 1) := by decide +kernel
theorem d1_26 : decode prog_18_method_3_code 26 = .ok (.lload_n 0, 1) := by decide +kernel
theorem d1_27 : decode prog_18_method_3_code 27 = .ok (.ldc2_w 19, 3) := by decide +kernel
theorem d1_30 : decode prog_18_method_3_code 30 = .ok (.invokestatic 11, 3) := by decide +kernel
theorem d1_33 : decode prog_18_method_3_code 33 = .ok (.ifCond .gt 6, 3) := by decide +kernel
theorem d1_36 : decode prog_18_method_3_code 36 = .ok (.bipush 25, 2) := by decide +kernel
theorem d1_38 : decode prog_18_method_3_code 38 = .ok (.ireturn, 1) := by decide +kernel
theorem d1_39 : decode prog_18_method_3_code 39 = .ok (.lload_n 0, 1) := by decide +kernel
theorem d1_40 : decode prog_18_method_3_code 40 = .ok (.ldc2_w 21, 3) := by decide +kernel
theorem d1_43 : decode prog_18_method_3_code 43 = .ok (.invokestatic 11, 3) := by decide +kernel
theorem d1_46 : decode prog_18_method_3_code 46 = .ok (.ifCond .gt 6, 3) := by decide +kernel
theorem d1_49 : decode prog_18_method_3_code 49 = .ok (.bipush 26, 2) := by decide +kernel
theorem d1_51 : decode prog_18_method_3_code 51 = .ok (.ireturn, 1) := by decide +kernel
theorem d1_52 : decode prog_18_method_3_code 52 = .ok (.bipush 27, 2) := by decide +kernel
theorem d1_54 : decode prog_18_method_3_code 54 = .ok (.ireturn, 1) := by decide +kernel
theorem pn_Head : plainName "com/example/canonbyte/canonbyte/codec/Head" = true := by first | (simp [plainName, overriddenIn]; done) | decide +kernel
theorem ef_1 (m : MethodId) (q1 : Int64) : entryFrame m #[(.long q1)] 2 = mkF m 0 #[.val (.long q1), .second] [] := by first | (simp [entryFrame, mkF, argsToLocals, Value.category]; done) | rfl
def Q1 (Z : State) (q1 : Int64) (h0 : Heap) (n0 : Nat) (v : Option Value) (h : Heap) (L : List Loc) : Prop := v = some (.int (own_sa q1)) ∧ Fr n0 L ∧ h = h0
set_option maxRecDepth 65536 in
set_option maxHeartbeats 40000000 in
theorem rm1 (l : Launch) (Z : State) (a0 : Array Value) (hw : ∀ d ∈ tables_1, d.before a0 Z = true) (ws : List Jvm.Cond) (q1 : Int64) (h0 : Heap) (n0 : Nat) (Z0 : n0 ≤ h0.size) :
    MetFree l (⟨"com/example/canonbyte/canonbyte/codec/Head", "shortestAdditionalInformation", "(J)I"⟩ : MethodName) (head1 (Jvm.Cond.code (⟨"com/example/canonbyte/canonbyte/codec/Head", "shortestAdditionalInformation", "(J)I"⟩ : MethodName) prog_18_method_3_code 2 (some .int) :: ws) ({ frames := 2, cells := 0, slots := 0, locals := 30 } : Room)) (fun aa U => aa = #[(.long q1)] ∧ Z.Warmed39 U.vm ∧ U.heap = h0) (fun _ _ _ _ _ => True) (fun _ U o U' => ∃ v L, o = .returned v ∧ Q1 Z q1 h0 n0 v U'.heap L ∧ FrameEnd U o U' L ({ frames := 2, cells := 0, slots := 0, locals := 30 } : Room).cells ({ frames := 2, cells := 0, slots := 0, locals := 30 } : Room).slots) := by
  refine MetFree.of_bodySF (plainFor_of_name pn_Head) hisR ?_
  intro p e s m args below meth c s₁ Bd hml0 hP hK
  obtain ⟨rfl, hZ, hh⟩ := hP
  have hx := Bd.exec
  have hby := Bd.bytes
  have hml : c.maxLocals = 2 := hml0
  have hown : s.vm.findClass "com/example/canonbyte/canonbyte/codec/Head" = some m.cls := findClass_of_methodNamed Bd.named
  have hnm := (name_of_methodNamed Bd.named Bd.method).1
  have X0 : Stand p l e ({ frames := 2, cells := 0, slots := 0, locals := 30 } : Room) s m #[(.long q1)] below meth c s₁ [] 0 0 := Stand.of_body Bd
  have e0 : s₁.heap = h0 := by rw [← hh, Bd.state]; rfl
  have N0 := Fr.nil n0
  have hlk : meth.locks = false := by first | exact BodyLoose.notSynchronized Bd | exact Body.notSynchronized Bd
  have pre0 : ∀ t, Steps p.tables e below (s₁.setTop (mkF m 0 #[.val (.long q1), .second] [])) t → Steps p.tables e below (s₁.setTop (entryFrame m #[(.long q1)] 2)) t := fun t k => castTop (ef_1 m q1) k
  have pre1 : ∀ t, Steps p.tables e below (s₁.setTop (mkF m 4 #[.val (.long q1), .second] [(.long (24 : Int64)), (.long q1)])) t → Steps p.tables e below (s₁.setTop (entryFrame m #[(.long q1)] 2)) t := fun t k => pre0 t (by
    show Steps p.tables e below (s₁.setTop (mkF m 0 #[.val (.long q1), .second] [])) _
    refine XS.lloadN X0.here hx rfl (hb hby d1_0) rfl ?_
    show Steps p.tables e below (s₁.setTop (mkF m 1 #[.val (.long q1), .second] [(.long q1)])) _
    refine X0.ldc2Long hx hown (mvT hZ (hw _ (List.mem_of_getElem? (i := 4) rfl))) (g := (mkF m 1 #[.val (.long q1), .second] [(.long q1)])) rfl (hb hby d1_1) _ ?_
    show Steps p.tables e below (s₁.setTop (mkF m 4 #[.val (.long q1), .second] [(.long (24 : Int64)), (.long q1)])) _
    exact k)
  obtain ⟨_, _, ⟨T2, L2, k2, n2⟩, -, X2, ⟨Lc2, hQ2, l2, y2, z2⟩, st2⟩ := Jvm.LawKit.callS X0 hx (y := (⟨"java/lang/Long", "compareUnsigned", "(JJ)I"⟩ : MethodName)) hown (mvT hZ (hw _ (List.mem_of_getElem? (i := 5) rfl))) (mvT hZ (hw _ (List.mem_of_getElem? (i := 6) rfl))) (mvT hZ (hw _ (List.mem_of_getElem? (i := 7) rfl))) (mvT hZ (hw _ (List.mem_of_getElem? (i := 8) rfl))) (by decide) (backOf (W := 0) (rm2 l Z a0 hw [] q1 (24 : Int64) h0 n0 Z0) hZ (hw _ (List.mem_of_getElem? (i := 8) rfl)) (hw _ (List.mem_of_getElem? (i := 7) rfl)) (by decide) (by decide)) (g := (mkF m 4 #[.val (.long q1), .second] [(.long (24 : Int64)), (.long q1)])) rfl (by rw [hml]; rfl) (argsL := [(.long q1), (.long (24 : Int64))]) (rest := []) (lenOf pd_1 rfl) rfl (by show 2 * 0 + _ ≤ _; exact Nat.le_of_eq rfl) (hb hby d1_4) (fun _ _ => ⟨rfl, e0, (by decide : 0 + 0 ≤ _), (by decide : 0 + 0 ≤ _)⟩)
  dsimp only [Pt.U, Pt.locs, Pt.cells, Pt.slots] at X2 l2 y2 z2 st2 hQ2
  subst l2 y2 z2
  obtain ⟨rfl, N2q, e2⟩ := hQ2
  have N2 := Fr.app N0 N2q
  have pre3 : ∀ t, Steps p.tables e below (T2.setTop (mkF m 7 #[.val (.long q1), .second] [(.int (own_cu q1 (24 : Int64)))])) t → Steps p.tables e below (s₁.setTop (entryFrame m #[(.long q1)] 2)) t := fun t k => pre1 t (st2 t k)
  by_cases hc7_4 : (own_cu q1 (24 : Int64)) < (0 : Int32)
  · have pre5 : ∀ t, Steps p.tables e below (T2.setTop (mkF m 12 #[.val (.long q1), .second] [(.int (q1.toInt32))])) t → Steps p.tables e below (s₁.setTop (entryFrame m #[(.long q1)] 2)) t := fun t k => pre3 t (by
      show Steps p.tables e below (T2.setTop (mkF m 7 #[.val (.long q1), .second] [(.int (own_cu q1 (24 : Int64)))])) _
      refine XS.ifNo X2.here hx rfl (hb hby d1_7) rfl ((if0 _ _).trans (tlt hc7_4).2.1) ?_
      show Steps p.tables e below (T2.setTop (mkF m 10 #[.val (.long q1), .second] [])) _
      refine XS.lloadN X2.here hx rfl (hb hby d1_10) rfl ?_
      show Steps p.tables e below (T2.setTop (mkF m 11 #[.val (.long q1), .second] [(.long q1)])) _
      refine XS.l2i X2.here hx rfl (hb hby d1_11) rfl ?_
      show Steps p.tables e below (T2.setTop (mkF m 12 #[.val (.long q1), .second] [(.int (q1.toInt32))])) _
      exact k)
    obtain ⟨fs, hr, hrun, hended, hW, hsame⟩ := X2.leave (v := some (.int (q1.toInt32))) (fun h => by rw [Bd.returns] at h; cases h) hlk
    refine ⟨_, _, pre5 _ ?_, hrun, hended, _, _, rfl, ?_, ⟨_, rfl⟩, hW, hsame.mono (by decide) (by decide)⟩
    · show Steps p.tables e below (T2.setTop (mkF m 12 #[.val (.long q1), .second] [(.int (q1.toInt32))])) _
      exact retI X2 hx Bd.returns (hb hby d1_12) hr
    · show Q1 Z q1 h0 n0 _ T2.heap _
      rw [e2]
      exact ⟨by simp only [own_sa, if_pos hc7_4], N2, rfl⟩
  · have pre6 : ∀ t, Steps p.tables e below (T2.setTop (mkF m 17 #[.val (.long q1), .second] [(.long (255 : Int64)), (.long q1)])) t → Steps p.tables e below (s₁.setTop (entryFrame m #[(.long q1)] 2)) t := fun t k => pre3 t (by
      show Steps p.tables e below (T2.setTop (mkF m 7 #[.val (.long q1), .second] [(.int (own_cu q1 (24 : Int64)))])) _
      refine XS.ifYes X2.here hx rfl (pc0 := 7) (pc' := 13) rfl (hb hby d1_7) rfl ((if0 _ _).trans (flt hc7_4).2.1) (by decide) (by decide) ?_
      show Steps p.tables e below (T2.setTop (mkF m 13 #[.val (.long q1), .second] [])) _
      refine XS.lloadN X2.here hx rfl (hb hby d1_13) rfl ?_
      show Steps p.tables e below (T2.setTop (mkF m 14 #[.val (.long q1), .second] [(.long q1)])) _
      refine X2.ldc2Long hx hown (mvT hZ (hw _ (List.mem_of_getElem? (i := 18) rfl))) (g := (mkF m 14 #[.val (.long q1), .second] [(.long q1)])) rfl (hb hby d1_14) _ ?_
      show Steps p.tables e below (T2.setTop (mkF m 17 #[.val (.long q1), .second] [(.long (255 : Int64)), (.long q1)])) _
      exact k)
    obtain ⟨_, _, ⟨T7, L7, k7, n7⟩, -, X7, ⟨Lc7, hQ7, l7, y7, z7⟩, st7⟩ := Jvm.LawKit.callS X2 hx (y := (⟨"java/lang/Long", "compareUnsigned", "(JJ)I"⟩ : MethodName)) hown (mvT hZ (hw _ (List.mem_of_getElem? (i := 5) rfl))) (mvT hZ (hw _ (List.mem_of_getElem? (i := 6) rfl))) (mvT hZ (hw _ (List.mem_of_getElem? (i := 7) rfl))) (mvT hZ (hw _ (List.mem_of_getElem? (i := 8) rfl))) (by decide) (backOf (W := 0) (rm2 l Z a0 hw [] q1 (255 : Int64) h0 n0 Z0) hZ (hw _ (List.mem_of_getElem? (i := 8) rfl)) (hw _ (List.mem_of_getElem? (i := 7) rfl)) (by decide) (by decide)) (g := (mkF m 17 #[.val (.long q1), .second] [(.long (255 : Int64)), (.long q1)])) rfl (by rw [hml]; rfl) (argsL := [(.long q1), (.long (255 : Int64))]) (rest := []) (lenOf pd_1 rfl) rfl (by show 2 * 0 + _ ≤ _; exact Nat.le_of_eq rfl) (hb hby d1_17) (fun _ _ => ⟨rfl, e2, (by decide : 0 + 0 ≤ _), (by decide : 0 + 0 ≤ _)⟩)
    dsimp only [Pt.U, Pt.locs, Pt.cells, Pt.slots] at X7 l7 y7 z7 st7 hQ7
    subst l7 y7 z7
    obtain ⟨rfl, N7q, e7⟩ := hQ7
    have N7 := Fr.app N2 N7q
    have pre8 : ∀ t, Steps p.tables e below (T7.setTop (mkF m 20 #[.val (.long q1), .second] [(.int (own_cu q1 (255 : Int64)))])) t → Steps p.tables e below (s₁.setTop (entryFrame m #[(.long q1)] 2)) t := fun t k => pre6 t (st7 t k)
    by_cases hc20_9 : (0 : Int32) < (own_cu q1 (255 : Int64))
    · have pre10 : ∀ t, Steps p.tables e below (T7.setTop (mkF m 30 #[.val (.long q1), .second] [(.long (65535 : Int64)), (.long q1)])) t → Steps p.tables e below (s₁.setTop (entryFrame m #[(.long q1)] 2)) t := fun t k => pre8 t (by
        show Steps p.tables e below (T7.setTop (mkF m 20 #[.val (.long q1), .second] [(.int (own_cu q1 (255 : Int64)))])) _
        refine XS.ifYes X7.here hx rfl (pc0 := 20) (pc' := 26) rfl (hb hby d1_20) rfl ((if0 _ _).trans (tlt hc20_9).2.2.1) (by decide) (by decide) ?_
        show Steps p.tables e below (T7.setTop (mkF m 26 #[.val (.long q1), .second] [])) _
        refine XS.lloadN X7.here hx rfl (hb hby d1_26) rfl ?_
        show Steps p.tables e below (T7.setTop (mkF m 27 #[.val (.long q1), .second] [(.long q1)])) _
        refine X7.ldc2Long hx hown (mvT hZ (hw _ (List.mem_of_getElem? (i := 19) rfl))) (g := (mkF m 27 #[.val (.long q1), .second] [(.long q1)])) rfl (hb hby d1_27) _ ?_
        show Steps p.tables e below (T7.setTop (mkF m 30 #[.val (.long q1), .second] [(.long (65535 : Int64)), (.long q1)])) _
        exact k)
      obtain ⟨_, _, ⟨T11, L11, k11, n11⟩, -, X11, ⟨Lc11, hQ11, l11, y11, z11⟩, st11⟩ := Jvm.LawKit.callS X7 hx (y := (⟨"java/lang/Long", "compareUnsigned", "(JJ)I"⟩ : MethodName)) hown (mvT hZ (hw _ (List.mem_of_getElem? (i := 5) rfl))) (mvT hZ (hw _ (List.mem_of_getElem? (i := 6) rfl))) (mvT hZ (hw _ (List.mem_of_getElem? (i := 7) rfl))) (mvT hZ (hw _ (List.mem_of_getElem? (i := 8) rfl))) (by decide) (backOf (W := 0) (rm2 l Z a0 hw [] q1 (65535 : Int64) h0 n0 Z0) hZ (hw _ (List.mem_of_getElem? (i := 8) rfl)) (hw _ (List.mem_of_getElem? (i := 7) rfl)) (by decide) (by decide)) (g := (mkF m 30 #[.val (.long q1), .second] [(.long (65535 : Int64)), (.long q1)])) rfl (by rw [hml]; rfl) (argsL := [(.long q1), (.long (65535 : Int64))]) (rest := []) (lenOf pd_1 rfl) rfl (by show 2 * 0 + _ ≤ _; exact Nat.le_of_eq rfl) (hb hby d1_30) (fun _ _ => ⟨rfl, e7, (by decide : 0 + 0 ≤ _), (by decide : 0 + 0 ≤ _)⟩)
      dsimp only [Pt.U, Pt.locs, Pt.cells, Pt.slots] at X11 l11 y11 z11 st11 hQ11
      subst l11 y11 z11
      obtain ⟨rfl, N11q, e11⟩ := hQ11
      have N11 := Fr.app N7 N11q
      have pre12 : ∀ t, Steps p.tables e below (T11.setTop (mkF m 33 #[.val (.long q1), .second] [(.int (own_cu q1 (65535 : Int64)))])) t → Steps p.tables e below (s₁.setTop (entryFrame m #[(.long q1)] 2)) t := fun t k => pre10 t (st11 t k)
      by_cases hc33_13 : (0 : Int32) < (own_cu q1 (65535 : Int64))
      · have pre14 : ∀ t, Steps p.tables e below (T11.setTop (mkF m 43 #[.val (.long q1), .second] [(.long (4294967295 : Int64)), (.long q1)])) t → Steps p.tables e below (s₁.setTop (entryFrame m #[(.long q1)] 2)) t := fun t k => pre12 t (by
          show Steps p.tables e below (T11.setTop (mkF m 33 #[.val (.long q1), .second] [(.int (own_cu q1 (65535 : Int64)))])) _
          refine XS.ifYes X11.here hx rfl (pc0 := 33) (pc' := 39) rfl (hb hby d1_33) rfl ((if0 _ _).trans (tlt hc33_13).2.2.1) (by decide) (by decide) ?_
          show Steps p.tables e below (T11.setTop (mkF m 39 #[.val (.long q1), .second] [])) _
          refine XS.lloadN X11.here hx rfl (hb hby d1_39) rfl ?_
          show Steps p.tables e below (T11.setTop (mkF m 40 #[.val (.long q1), .second] [(.long q1)])) _
          refine X11.ldc2Long hx hown (mvT hZ (hw _ (List.mem_of_getElem? (i := 20) rfl))) (g := (mkF m 40 #[.val (.long q1), .second] [(.long q1)])) rfl (hb hby d1_40) _ ?_
          show Steps p.tables e below (T11.setTop (mkF m 43 #[.val (.long q1), .second] [(.long (4294967295 : Int64)), (.long q1)])) _
          exact k)
        obtain ⟨_, _, ⟨T15, L15, k15, n15⟩, -, X15, ⟨Lc15, hQ15, l15, y15, z15⟩, st15⟩ := Jvm.LawKit.callS X11 hx (y := (⟨"java/lang/Long", "compareUnsigned", "(JJ)I"⟩ : MethodName)) hown (mvT hZ (hw _ (List.mem_of_getElem? (i := 5) rfl))) (mvT hZ (hw _ (List.mem_of_getElem? (i := 6) rfl))) (mvT hZ (hw _ (List.mem_of_getElem? (i := 7) rfl))) (mvT hZ (hw _ (List.mem_of_getElem? (i := 8) rfl))) (by decide) (backOf (W := 0) (rm2 l Z a0 hw [] q1 (4294967295 : Int64) h0 n0 Z0) hZ (hw _ (List.mem_of_getElem? (i := 8) rfl)) (hw _ (List.mem_of_getElem? (i := 7) rfl)) (by decide) (by decide)) (g := (mkF m 43 #[.val (.long q1), .second] [(.long (4294967295 : Int64)), (.long q1)])) rfl (by rw [hml]; rfl) (argsL := [(.long q1), (.long (4294967295 : Int64))]) (rest := []) (lenOf pd_1 rfl) rfl (by show 2 * 0 + _ ≤ _; exact Nat.le_of_eq rfl) (hb hby d1_43) (fun _ _ => ⟨rfl, e11, (by decide : 0 + 0 ≤ _), (by decide : 0 + 0 ≤ _)⟩)
        dsimp only [Pt.U, Pt.locs, Pt.cells, Pt.slots] at X15 l15 y15 z15 st15 hQ15
        subst l15 y15 z15
        obtain ⟨rfl, N15q, e15⟩ := hQ15
        have N15 := Fr.app N11 N15q
        have pre16 : ∀ t, Steps p.tables e below (T15.setTop (mkF m 46 #[.val (.long q1), .second] [(.int (own_cu q1 (4294967295 : Int64)))])) t → Steps p.tables e below (s₁.setTop (entryFrame m #[(.long q1)] 2)) t := fun t k => pre14 t (st15 t k)
        by_cases hc46_17 : (0 : Int32) < (own_cu q1 (4294967295 : Int64))
        · have pre18 : ∀ t, Steps p.tables e below (T15.setTop (mkF m 54 #[.val (.long q1), .second] [(.int (27 : Int32))])) t → Steps p.tables e below (s₁.setTop (entryFrame m #[(.long q1)] 2)) t := fun t k => pre16 t (by
            show Steps p.tables e below (T15.setTop (mkF m 46 #[.val (.long q1), .second] [(.int (own_cu q1 (4294967295 : Int64)))])) _
            refine XS.ifYes X15.here hx rfl (pc0 := 46) (pc' := 52) rfl (hb hby d1_46) rfl ((if0 _ _).trans (tlt hc46_17).2.2.1) (by decide) (by decide) ?_
            show Steps p.tables e below (T15.setTop (mkF m 52 #[.val (.long q1), .second] [])) _
            refine XS.bipush X15.here hx rfl (hb hby d1_52) ?_
            show Steps p.tables e below (T15.setTop (mkF m 54 #[.val (.long q1), .second] [(.int (27 : Int32))])) _
            exact k)
          obtain ⟨fs, hr, hrun, hended, hW, hsame⟩ := X15.leave (v := some (.int (27 : Int32))) (fun h => by rw [Bd.returns] at h; cases h) hlk
          refine ⟨_, _, pre18 _ ?_, hrun, hended, _, _, rfl, ?_, ⟨_, rfl⟩, hW, hsame.mono (by decide) (by decide)⟩
          · show Steps p.tables e below (T15.setTop (mkF m 54 #[.val (.long q1), .second] [(.int (27 : Int32))])) _
            exact retI X15 hx Bd.returns (hb hby d1_54) hr
          · show Q1 Z q1 h0 n0 _ T15.heap _
            rw [e15]
            exact ⟨by simp only [own_sa, if_neg hc7_4, if_pos hc20_9, if_pos hc33_13, if_pos hc46_17], N15, rfl⟩
        · have pre19 : ∀ t, Steps p.tables e below (T15.setTop (mkF m 51 #[.val (.long q1), .second] [(.int (26 : Int32))])) t → Steps p.tables e below (s₁.setTop (entryFrame m #[(.long q1)] 2)) t := fun t k => pre16 t (by
            show Steps p.tables e below (T15.setTop (mkF m 46 #[.val (.long q1), .second] [(.int (own_cu q1 (4294967295 : Int64)))])) _
            refine XS.ifNo X15.here hx rfl (hb hby d1_46) rfl ((if0 _ _).trans (flt hc46_17).2.2.1) ?_
            show Steps p.tables e below (T15.setTop (mkF m 49 #[.val (.long q1), .second] [])) _
            refine XS.bipush X15.here hx rfl (hb hby d1_49) ?_
            show Steps p.tables e below (T15.setTop (mkF m 51 #[.val (.long q1), .second] [(.int (26 : Int32))])) _
            exact k)
          obtain ⟨fs, hr, hrun, hended, hW, hsame⟩ := X15.leave (v := some (.int (26 : Int32))) (fun h => by rw [Bd.returns] at h; cases h) hlk
          refine ⟨_, _, pre19 _ ?_, hrun, hended, _, _, rfl, ?_, ⟨_, rfl⟩, hW, hsame.mono (by decide) (by decide)⟩
          · show Steps p.tables e below (T15.setTop (mkF m 51 #[.val (.long q1), .second] [(.int (26 : Int32))])) _
            exact retI X15 hx Bd.returns (hb hby d1_51) hr
          · show Q1 Z q1 h0 n0 _ T15.heap _
            rw [e15]
            exact ⟨by simp only [own_sa, if_neg hc7_4, if_pos hc20_9, if_pos hc33_13, if_neg hc46_17], N15, rfl⟩
      · have pre20 : ∀ t, Steps p.tables e below (T11.setTop (mkF m 38 #[.val (.long q1), .second] [(.int (25 : Int32))])) t → Steps p.tables e below (s₁.setTop (entryFrame m #[(.long q1)] 2)) t := fun t k => pre12 t (by
          show Steps p.tables e below (T11.setTop (mkF m 33 #[.val (.long q1), .second] [(.int (own_cu q1 (65535 : Int64)))])) _
          refine XS.ifNo X11.here hx rfl (hb hby d1_33) rfl ((if0 _ _).trans (flt hc33_13).2.2.1) ?_
          show Steps p.tables e below (T11.setTop (mkF m 36 #[.val (.long q1), .second] [])) _
          refine XS.bipush X11.here hx rfl (hb hby d1_36) ?_
          show Steps p.tables e below (T11.setTop (mkF m 38 #[.val (.long q1), .second] [(.int (25 : Int32))])) _
          exact k)
        obtain ⟨fs, hr, hrun, hended, hW, hsame⟩ := X11.leave (v := some (.int (25 : Int32))) (fun h => by rw [Bd.returns] at h; cases h) hlk
        refine ⟨_, _, pre20 _ ?_, hrun, hended, _, _, rfl, ?_, ⟨_, rfl⟩, hW, hsame.mono (by decide) (by decide)⟩
        · show Steps p.tables e below (T11.setTop (mkF m 38 #[.val (.long q1), .second] [(.int (25 : Int32))])) _
          exact retI X11 hx Bd.returns (hb hby d1_38) hr
        · show Q1 Z q1 h0 n0 _ T11.heap _
          rw [e11]
          exact ⟨by simp only [own_sa, if_neg hc7_4, if_pos hc20_9, if_neg hc33_13], N11, rfl⟩
    · have pre21 : ∀ t, Steps p.tables e below (T7.setTop (mkF m 25 #[.val (.long q1), .second] [(.int (24 : Int32))])) t → Steps p.tables e below (s₁.setTop (entryFrame m #[(.long q1)] 2)) t := fun t k => pre8 t (by
        show Steps p.tables e below (T7.setTop (mkF m 20 #[.val (.long q1), .second] [(.int (own_cu q1 (255 : Int64)))])) _
        refine XS.ifNo X7.here hx rfl (hb hby d1_20) rfl ((if0 _ _).trans (flt hc20_9).2.2.1) ?_
        show Steps p.tables e below (T7.setTop (mkF m 23 #[.val (.long q1), .second] [])) _
        refine XS.bipush X7.here hx rfl (hb hby d1_23) ?_
        show Steps p.tables e below (T7.setTop (mkF m 25 #[.val (.long q1), .second] [(.int (24 : Int32))])) _
        exact k)
      obtain ⟨fs, hr, hrun, hended, hW, hsame⟩ := X7.leave (v := some (.int (24 : Int32))) (fun h => by rw [Bd.returns] at h; cases h) hlk
      refine ⟨_, _, pre21 _ ?_, hrun, hended, _, _, rfl, ?_, ⟨_, rfl⟩, hW, hsame.mono (by decide) (by decide)⟩
      · show Steps p.tables e below (T7.setTop (mkF m 25 #[.val (.long q1), .second] [(.int (24 : Int32))])) _
        exact retI X7 hx Bd.returns (hb hby d1_25) hr
      · show Q1 Z q1 h0 n0 _ T7.heap _
        rw [e7]
        exact ⟨by simp only [own_sa, if_neg hc7_4, if_neg hc20_9], N7, rfl⟩
theorem d4_0 : decode method_2_code 0 = .ok (.lload_n 0, 1) := by decide +kernel
theorem d4_1 : decode method_2_code 1 = .ok (.bipush 32, 2) := by decide +kernel
theorem d4_3 : decode method_2_code 3 = .ok (.lushr, 1) := by decide +kernel
theorem d4_4 : decode method_2_code 4 = .ok (.lconst 0, 1) := by decide +kernel
theorem d4_5 : decode method_2_code 5 = .ok (.lcmp, 1) := by decide +kernel
theorem d4_6 : decode method_2_code 6 = .ok (.ifCond .eq 6, 3) := by decide +kernel
theorem d4_9 : decode method_2_code 9 = .ok (.bipush 27, 2) := by decide +kernel
theorem d4_11 : decode method_2_code 11 = .ok (.ireturn, 1) := by decide +kernel
theorem d4_12 : decode method_2_code 12 = .ok (.lload_n 0, 1) := by decide +kernel
theorem d4_13 : decode method_2_code 13 = .ok (.bipush 16, 2) := by decide +kernel
theorem d4_15 : decode method_2_code 15 = .ok (.lushr, 1) := by decide +kernel
theorem d4_16 : decode method_2_code 16 = .ok (.lconst 0, 1) := by decide +kernel
theorem d4_17 : decode method_2_code 17 = .ok (.lcmp, 1) := by decide +kernel
theorem d4_18 : decode method_2_code 18 = .ok (.ifCond .eq 6, 3) := by decide +kernel
theorem d4_21 : decode method_2_code 21 = .ok (.bipush 26, 2) := by decide +kernel
theorem d4_23 : decode method_2_code 23 = .ok (.ireturn, 1) := by decide +kernel
theorem d4_24 : decode method_2_code 24 = .ok (.lload_n 0, 1) := by decide +kernel
theorem d4_25 : decode method_2_code 25 = .ok (.bipush 8, 2) := by decide +kernel
theorem d4_27 : decode method_2_code 27 = .ok (.lushr, 1) := by decide +kernel
theorem d4_28 : decode method_2_code 28 = .ok (.lconst 0, 1) := by decide +kernel
theorem d4_29 : decode method_2_code 29 = .ok (.lcmp, 1) := by decide +kernel
theorem d4_30 : decode method_2_code 30 = .ok (.ifCond .eq 6, 3) := by decide +kernel
theorem d4_33 : decode method_2_code 33 = .ok (.bipush 25, 2) := by decide +kernel
theorem d4_35 : decode method_2_code 35 = .ok (.ireturn, 1) := by decide +kernel
theorem d4_36 : decode method_2_code 36 = .ok (.lload_n 0, 1) := by decide +kernel
theorem d4_37 : decode method_2_code 37 = .ok (.ldc2_w 7, 3) := by decide +kernel
theorem d4_40 : decode method_2_code 40 = .ok (.lcmp, 1) := by decide +kernel
theorem d4_41 : decode method_2_code 41 = .ok (.ifCond .lt 6, 3) := by decide +kernel
theorem d4_44 : decode method_2_code 44 = .ok (.bipush 24, 2) := by decide +kernel
theorem d4_46 : decode method_2_code 46 = .ok (.ireturn, 1) := by decide +kernel
theorem d4_47 : decode method_2_code 47 = .ok (.lload_n 0, 1) := by decide +kernel
theorem d4_48 : decode method_2_code 48 = .ok (.l2i, 1) := by decide +kernel
theorem d4_49 : decode method_2_code 49 = .ok (.ireturn, 1) := by decide +kernel
theorem pn_HeadShortestAdditionalInformationPinLaw : plainName "com/example/canonbyte/canonbyte/codec/HeadShortestAdditionalInformationPinLaw" = true := by first | (simp [plainName, overriddenIn]; done) | decide +kernel
theorem ef_4 (m : MethodId) (q1 : Int64) : entryFrame m #[(.long q1)] 2 = mkF m 0 #[.val (.long q1), .second] [] := by first | (simp [entryFrame, mkF, argsToLocals, Value.category]; done) | rfl
def Q4 (Z : State) (q1 : Int64) (h0 : Heap) (n0 : Nat) (v : Option Value) (h : Heap) (L : List Loc) : Prop := v = some (.int (own_ex q1)) ∧ Fr n0 L ∧ h = h0
set_option maxRecDepth 65536 in
set_option maxHeartbeats 40000000 in
theorem rm4 (l : Launch) (Z : State) (a0 : Array Value) (hw : ∀ d ∈ tables_1, d.before a0 Z = true) (ws : List Jvm.Cond) (q1 : Int64) (h0 : Heap) (n0 : Nat) (Z0 : n0 ≤ h0.size) :
    MetFree l (⟨"com/example/canonbyte/canonbyte/codec/HeadShortestAdditionalInformationPinLaw", "expected", "(J)I"⟩ : MethodName) (head1 (Jvm.Cond.code (⟨"com/example/canonbyte/canonbyte/codec/HeadShortestAdditionalInformationPinLaw", "expected", "(J)I"⟩ : MethodName) method_2_code 2 (some .int) :: ws) ({ frames := 0, cells := 0, slots := 0, locals := 0 } : Room)) (fun aa U => aa = #[(.long q1)] ∧ Z.Warmed39 U.vm ∧ U.heap = h0) (fun _ _ _ _ _ => True) (fun _ U o U' => ∃ v L, o = .returned v ∧ Q4 Z q1 h0 n0 v U'.heap L ∧ FrameEnd U o U' L ({ frames := 0, cells := 0, slots := 0, locals := 0 } : Room).cells ({ frames := 0, cells := 0, slots := 0, locals := 0 } : Room).slots) := by
  refine MetFree.of_bodySF (plainFor_of_name pn_HeadShortestAdditionalInformationPinLaw) hisR ?_
  intro p e s m args below meth c s₁ Bd hml0 hP hK
  obtain ⟨rfl, hZ, hh⟩ := hP
  have hx := Bd.exec
  have hby := Bd.bytes
  have hml : c.maxLocals = 2 := hml0
  have hown : s.vm.findClass "com/example/canonbyte/canonbyte/codec/HeadShortestAdditionalInformationPinLaw" = some m.cls := findClass_of_methodNamed Bd.named
  have hnm := (name_of_methodNamed Bd.named Bd.method).1
  have X0 : Stand p l e ({ frames := 0, cells := 0, slots := 0, locals := 0 } : Room) s m #[(.long q1)] below meth c s₁ [] 0 0 := Stand.of_body Bd
  have e0 : s₁.heap = h0 := by rw [← hh, Bd.state]; rfl
  have N0 := Fr.nil n0
  have hlk : meth.locks = false := by first | exact BodyLoose.notSynchronized Bd | exact Body.notSynchronized Bd
  have pre0 : ∀ t, Steps p.tables e below (s₁.setTop (mkF m 0 #[.val (.long q1), .second] [])) t → Steps p.tables e below (s₁.setTop (entryFrame m #[(.long q1)] 2)) t := fun t k => castTop (ef_4 m q1) k
  have pre1 : ∀ t, Steps p.tables e below (s₁.setTop (mkF m 6 #[.val (.long q1), .second] [(.int (lcmpW (own_ush q1 (32 : Int32)) (0 : Int64)))])) t → Steps p.tables e below (s₁.setTop (entryFrame m #[(.long q1)] 2)) t := fun t k => pre0 t (by
    show Steps p.tables e below (s₁.setTop (mkF m 0 #[.val (.long q1), .second] [])) _
    refine XS.lloadN X0.here hx rfl (hb hby d4_0) rfl ?_
    show Steps p.tables e below (s₁.setTop (mkF m 1 #[.val (.long q1), .second] [(.long q1)])) _
    refine XS.bipush X0.here hx rfl (hb hby d4_1) ?_
    show Steps p.tables e below (s₁.setTop (mkF m 3 #[.val (.long q1), .second] [(.int (32 : Int32)), (.long q1)])) _
    refine XS.lushr X0.here hx rfl (hb hby d4_3) rfl ?_
    show Steps p.tables e below (s₁.setTop (mkF m 4 #[.val (.long q1), .second] [(.long (own_ush q1 (32 : Int32)))])) _
    refine XS.lconst X0.here hx rfl (hb hby d4_4) ?_
    show Steps p.tables e below (s₁.setTop (mkF m 5 #[.val (.long q1), .second] [(.long (0 : Int64)), (.long (own_ush q1 (32 : Int32)))])) _
    refine XS.lcmp X0.here hx rfl (hb hby d4_5) rfl ?_
    show Steps p.tables e below (s₁.setTop (mkF m 6 #[.val (.long q1), .second] [(.int (lcmpW (own_ush q1 (32 : Int32)) (0 : Int64)))])) _
    exact k)
  by_cases hc6_2 : (own_ush q1 (32 : Int32)) = (0 : Int64)
  · have pre3 : ∀ t, Steps p.tables e below (s₁.setTop (mkF m 18 #[.val (.long q1), .second] [(.int (lcmpW (own_ush q1 (16 : Int32)) (0 : Int64)))])) t → Steps p.tables e below (s₁.setTop (entryFrame m #[(.long q1)] 2)) t := fun t k => pre1 t (by
      show Steps p.tables e below (s₁.setTop (mkF m 6 #[.val (.long q1), .second] [(.int (lcmpW (own_ush q1 (32 : Int32)) (0 : Int64)))])) _
      refine XS.ifYes X0.here hx rfl (pc0 := 6) (pc' := 12) rfl (hb hby d4_6) rfl ((if0 _ _).trans (teq ((lw_eq _ _).mpr hc6_2)).1) (by decide) (by decide) ?_
      show Steps p.tables e below (s₁.setTop (mkF m 12 #[.val (.long q1), .second] [])) _
      refine XS.lloadN X0.here hx rfl (hb hby d4_12) rfl ?_
      show Steps p.tables e below (s₁.setTop (mkF m 13 #[.val (.long q1), .second] [(.long q1)])) _
      refine XS.bipush X0.here hx rfl (hb hby d4_13) ?_
      show Steps p.tables e below (s₁.setTop (mkF m 15 #[.val (.long q1), .second] [(.int (16 : Int32)), (.long q1)])) _
      refine XS.lushr X0.here hx rfl (hb hby d4_15) rfl ?_
      show Steps p.tables e below (s₁.setTop (mkF m 16 #[.val (.long q1), .second] [(.long (own_ush q1 (16 : Int32)))])) _
      refine XS.lconst X0.here hx rfl (hb hby d4_16) ?_
      show Steps p.tables e below (s₁.setTop (mkF m 17 #[.val (.long q1), .second] [(.long (0 : Int64)), (.long (own_ush q1 (16 : Int32)))])) _
      refine XS.lcmp X0.here hx rfl (hb hby d4_17) rfl ?_
      show Steps p.tables e below (s₁.setTop (mkF m 18 #[.val (.long q1), .second] [(.int (lcmpW (own_ush q1 (16 : Int32)) (0 : Int64)))])) _
      exact k)
    by_cases hc18_4 : (own_ush q1 (16 : Int32)) = (0 : Int64)
    · have pre5 : ∀ t, Steps p.tables e below (s₁.setTop (mkF m 30 #[.val (.long q1), .second] [(.int (lcmpW (own_ush q1 (8 : Int32)) (0 : Int64)))])) t → Steps p.tables e below (s₁.setTop (entryFrame m #[(.long q1)] 2)) t := fun t k => pre3 t (by
        show Steps p.tables e below (s₁.setTop (mkF m 18 #[.val (.long q1), .second] [(.int (lcmpW (own_ush q1 (16 : Int32)) (0 : Int64)))])) _
        refine XS.ifYes X0.here hx rfl (pc0 := 18) (pc' := 24) rfl (hb hby d4_18) rfl ((if0 _ _).trans (teq ((lw_eq _ _).mpr hc18_4)).1) (by decide) (by decide) ?_
        show Steps p.tables e below (s₁.setTop (mkF m 24 #[.val (.long q1), .second] [])) _
        refine XS.lloadN X0.here hx rfl (hb hby d4_24) rfl ?_
        show Steps p.tables e below (s₁.setTop (mkF m 25 #[.val (.long q1), .second] [(.long q1)])) _
        refine XS.bipush X0.here hx rfl (hb hby d4_25) ?_
        show Steps p.tables e below (s₁.setTop (mkF m 27 #[.val (.long q1), .second] [(.int (8 : Int32)), (.long q1)])) _
        refine XS.lushr X0.here hx rfl (hb hby d4_27) rfl ?_
        show Steps p.tables e below (s₁.setTop (mkF m 28 #[.val (.long q1), .second] [(.long (own_ush q1 (8 : Int32)))])) _
        refine XS.lconst X0.here hx rfl (hb hby d4_28) ?_
        show Steps p.tables e below (s₁.setTop (mkF m 29 #[.val (.long q1), .second] [(.long (0 : Int64)), (.long (own_ush q1 (8 : Int32)))])) _
        refine XS.lcmp X0.here hx rfl (hb hby d4_29) rfl ?_
        show Steps p.tables e below (s₁.setTop (mkF m 30 #[.val (.long q1), .second] [(.int (lcmpW (own_ush q1 (8 : Int32)) (0 : Int64)))])) _
        exact k)
      by_cases hc30_6 : (own_ush q1 (8 : Int32)) = (0 : Int64)
      · have pre7 : ∀ t, Steps p.tables e below (s₁.setTop (mkF m 41 #[.val (.long q1), .second] [(.int (lcmpW q1 (24 : Int64)))])) t → Steps p.tables e below (s₁.setTop (entryFrame m #[(.long q1)] 2)) t := fun t k => pre5 t (by
          show Steps p.tables e below (s₁.setTop (mkF m 30 #[.val (.long q1), .second] [(.int (lcmpW (own_ush q1 (8 : Int32)) (0 : Int64)))])) _
          refine XS.ifYes X0.here hx rfl (pc0 := 30) (pc' := 36) rfl (hb hby d4_30) rfl ((if0 _ _).trans (teq ((lw_eq _ _).mpr hc30_6)).1) (by decide) (by decide) ?_
          show Steps p.tables e below (s₁.setTop (mkF m 36 #[.val (.long q1), .second] [])) _
          refine XS.lloadN X0.here hx rfl (hb hby d4_36) rfl ?_
          show Steps p.tables e below (s₁.setTop (mkF m 37 #[.val (.long q1), .second] [(.long q1)])) _
          refine X0.ldc2Long hx hown (mvT hZ (hw _ (List.mem_of_getElem? (i := 17) rfl))) (g := (mkF m 37 #[.val (.long q1), .second] [(.long q1)])) rfl (hb hby d4_37) _ ?_
          show Steps p.tables e below (s₁.setTop (mkF m 40 #[.val (.long q1), .second] [(.long (24 : Int64)), (.long q1)])) _
          refine XS.lcmp X0.here hx rfl (hb hby d4_40) rfl ?_
          show Steps p.tables e below (s₁.setTop (mkF m 41 #[.val (.long q1), .second] [(.int (lcmpW q1 (24 : Int64)))])) _
          exact k)
        by_cases hc41_8 : q1 < (24 : Int64)
        · have pre9 : ∀ t, Steps p.tables e below (s₁.setTop (mkF m 49 #[.val (.long q1), .second] [(.int (q1.toInt32))])) t → Steps p.tables e below (s₁.setTop (entryFrame m #[(.long q1)] 2)) t := fun t k => pre7 t (by
            show Steps p.tables e below (s₁.setTop (mkF m 41 #[.val (.long q1), .second] [(.int (lcmpW q1 (24 : Int64)))])) _
            refine XS.ifYes X0.here hx rfl (pc0 := 41) (pc' := 47) rfl (hb hby d4_41) rfl ((if0 _ _).trans (tlt ((lw_lt _ _).mpr hc41_8)).1) (by decide) (by decide) ?_
            show Steps p.tables e below (s₁.setTop (mkF m 47 #[.val (.long q1), .second] [])) _
            refine XS.lloadN X0.here hx rfl (hb hby d4_47) rfl ?_
            show Steps p.tables e below (s₁.setTop (mkF m 48 #[.val (.long q1), .second] [(.long q1)])) _
            refine XS.l2i X0.here hx rfl (hb hby d4_48) rfl ?_
            show Steps p.tables e below (s₁.setTop (mkF m 49 #[.val (.long q1), .second] [(.int (q1.toInt32))])) _
            exact k)
          obtain ⟨fs, hr, hrun, hended, hW, hsame⟩ := X0.leave (v := some (.int (q1.toInt32))) (fun h => by rw [Bd.returns] at h; cases h) hlk
          refine ⟨_, _, pre9 _ ?_, hrun, hended, _, _, rfl, ?_, ⟨_, rfl⟩, hW, hsame.mono (by decide) (by decide)⟩
          · show Steps p.tables e below (s₁.setTop (mkF m 49 #[.val (.long q1), .second] [(.int (q1.toInt32))])) _
            exact retI X0 hx Bd.returns (hb hby d4_49) hr
          · show Q4 Z q1 h0 n0 _ s₁.heap _
            rw [e0]
            exact ⟨by simp only [own_ex, if_pos hc6_2, if_pos hc18_4, if_pos hc30_6, if_pos hc41_8], N0, rfl⟩
        · have pre10 : ∀ t, Steps p.tables e below (s₁.setTop (mkF m 46 #[.val (.long q1), .second] [(.int (24 : Int32))])) t → Steps p.tables e below (s₁.setTop (entryFrame m #[(.long q1)] 2)) t := fun t k => pre7 t (by
            show Steps p.tables e below (s₁.setTop (mkF m 41 #[.val (.long q1), .second] [(.int (lcmpW q1 (24 : Int64)))])) _
            refine XS.ifNo X0.here hx rfl (hb hby d4_41) rfl ((if0 _ _).trans (flt (fun q => hc41_8 ((lw_lt _ _).mp q))).1) ?_
            show Steps p.tables e below (s₁.setTop (mkF m 44 #[.val (.long q1), .second] [])) _
            refine XS.bipush X0.here hx rfl (hb hby d4_44) ?_
            show Steps p.tables e below (s₁.setTop (mkF m 46 #[.val (.long q1), .second] [(.int (24 : Int32))])) _
            exact k)
          obtain ⟨fs, hr, hrun, hended, hW, hsame⟩ := X0.leave (v := some (.int (24 : Int32))) (fun h => by rw [Bd.returns] at h; cases h) hlk
          refine ⟨_, _, pre10 _ ?_, hrun, hended, _, _, rfl, ?_, ⟨_, rfl⟩, hW, hsame.mono (by decide) (by decide)⟩
          · show Steps p.tables e below (s₁.setTop (mkF m 46 #[.val (.long q1), .second] [(.int (24 : Int32))])) _
            exact retI X0 hx Bd.returns (hb hby d4_46) hr
          · show Q4 Z q1 h0 n0 _ s₁.heap _
            rw [e0]
            exact ⟨by simp only [own_ex, if_pos hc6_2, if_pos hc18_4, if_pos hc30_6, if_neg hc41_8], N0, rfl⟩
      · have pre11 : ∀ t, Steps p.tables e below (s₁.setTop (mkF m 35 #[.val (.long q1), .second] [(.int (25 : Int32))])) t → Steps p.tables e below (s₁.setTop (entryFrame m #[(.long q1)] 2)) t := fun t k => pre5 t (by
          show Steps p.tables e below (s₁.setTop (mkF m 30 #[.val (.long q1), .second] [(.int (lcmpW (own_ush q1 (8 : Int32)) (0 : Int64)))])) _
          refine XS.ifNo X0.here hx rfl (hb hby d4_30) rfl ((if0 _ _).trans (feq (fun q => hc30_6 ((lw_eq _ _).mp q))).1) ?_
          show Steps p.tables e below (s₁.setTop (mkF m 33 #[.val (.long q1), .second] [])) _
          refine XS.bipush X0.here hx rfl (hb hby d4_33) ?_
          show Steps p.tables e below (s₁.setTop (mkF m 35 #[.val (.long q1), .second] [(.int (25 : Int32))])) _
          exact k)
        obtain ⟨fs, hr, hrun, hended, hW, hsame⟩ := X0.leave (v := some (.int (25 : Int32))) (fun h => by rw [Bd.returns] at h; cases h) hlk
        refine ⟨_, _, pre11 _ ?_, hrun, hended, _, _, rfl, ?_, ⟨_, rfl⟩, hW, hsame.mono (by decide) (by decide)⟩
        · show Steps p.tables e below (s₁.setTop (mkF m 35 #[.val (.long q1), .second] [(.int (25 : Int32))])) _
          exact retI X0 hx Bd.returns (hb hby d4_35) hr
        · show Q4 Z q1 h0 n0 _ s₁.heap _
          rw [e0]
          exact ⟨by simp only [own_ex, if_pos hc6_2, if_pos hc18_4, if_neg hc30_6], N0, rfl⟩
    · have pre12 : ∀ t, Steps p.tables e below (s₁.setTop (mkF m 23 #[.val (.long q1), .second] [(.int (26 : Int32))])) t → Steps p.tables e below (s₁.setTop (entryFrame m #[(.long q1)] 2)) t := fun t k => pre3 t (by
        show Steps p.tables e below (s₁.setTop (mkF m 18 #[.val (.long q1), .second] [(.int (lcmpW (own_ush q1 (16 : Int32)) (0 : Int64)))])) _
        refine XS.ifNo X0.here hx rfl (hb hby d4_18) rfl ((if0 _ _).trans (feq (fun q => hc18_4 ((lw_eq _ _).mp q))).1) ?_
        show Steps p.tables e below (s₁.setTop (mkF m 21 #[.val (.long q1), .second] [])) _
        refine XS.bipush X0.here hx rfl (hb hby d4_21) ?_
        show Steps p.tables e below (s₁.setTop (mkF m 23 #[.val (.long q1), .second] [(.int (26 : Int32))])) _
        exact k)
      obtain ⟨fs, hr, hrun, hended, hW, hsame⟩ := X0.leave (v := some (.int (26 : Int32))) (fun h => by rw [Bd.returns] at h; cases h) hlk
      refine ⟨_, _, pre12 _ ?_, hrun, hended, _, _, rfl, ?_, ⟨_, rfl⟩, hW, hsame.mono (by decide) (by decide)⟩
      · show Steps p.tables e below (s₁.setTop (mkF m 23 #[.val (.long q1), .second] [(.int (26 : Int32))])) _
        exact retI X0 hx Bd.returns (hb hby d4_23) hr
      · show Q4 Z q1 h0 n0 _ s₁.heap _
        rw [e0]
        exact ⟨by simp only [own_ex, if_pos hc6_2, if_neg hc18_4], N0, rfl⟩
  · have pre13 : ∀ t, Steps p.tables e below (s₁.setTop (mkF m 11 #[.val (.long q1), .second] [(.int (27 : Int32))])) t → Steps p.tables e below (s₁.setTop (entryFrame m #[(.long q1)] 2)) t := fun t k => pre1 t (by
      show Steps p.tables e below (s₁.setTop (mkF m 6 #[.val (.long q1), .second] [(.int (lcmpW (own_ush q1 (32 : Int32)) (0 : Int64)))])) _
      refine XS.ifNo X0.here hx rfl (hb hby d4_6) rfl ((if0 _ _).trans (feq (fun q => hc6_2 ((lw_eq _ _).mp q))).1) ?_
      show Steps p.tables e below (s₁.setTop (mkF m 9 #[.val (.long q1), .second] [])) _
      refine XS.bipush X0.here hx rfl (hb hby d4_9) ?_
      show Steps p.tables e below (s₁.setTop (mkF m 11 #[.val (.long q1), .second] [(.int (27 : Int32))])) _
      exact k)
    obtain ⟨fs, hr, hrun, hended, hW, hsame⟩ := X0.leave (v := some (.int (27 : Int32))) (fun h => by rw [Bd.returns] at h; cases h) hlk
    refine ⟨_, _, pre13 _ ?_, hrun, hended, _, _, rfl, ?_, ⟨_, rfl⟩, hW, hsame.mono (by decide) (by decide)⟩
    · show Steps p.tables e below (s₁.setTop (mkF m 11 #[.val (.long q1), .second] [(.int (27 : Int32))])) _
      exact retI X0 hx Bd.returns (hb hby d4_11) hr
    · show Q4 Z q1 h0 n0 _ s₁.heap _
      rw [e0]
      exact ⟨by simp only [own_ex, if_neg hc6_2], N0, rfl⟩
theorem pd_0 : parseMethodDescriptor "(J)I" = some ⟨[.long], some .int⟩ := by decide +kernel
theorem ef_0 (m : MethodId) (q1 : Int64) (p1 : Int32) : entryFrame m #[(.long q1), (.int p1)] maxLocals = mkF m 0 #[.val (.long q1), .second, .val (.int p1), .unset, .unset] [] := by first | (simp [entryFrame, mkF, argsToLocals, Value.category, maxLocals]; done) | rfl
def Q0 (Z : State) (q1 : Int64) (p1 : Int32) (h0 : Heap) (n0 : Nat) (v : Option Value) (h : Heap) (L : List Loc) : Prop := v = some (.int (1 : Int32)) ∧ Fr n0 L
set_option maxRecDepth 65536 in
set_option maxHeartbeats 40000000 in
theorem rm0 (l : Launch) (Z : State) (a0 : Array Value) (hw : ∀ d ∈ tables_1, d.before a0 Z = true) (ws : List Jvm.Cond) (q1 : Int64) (p1 : Int32) (h0 : Heap) (n0 : Nat) (Z0 : n0 ≤ h0.size) :
    MetFree l x (head1 (Jvm.Cond.code x code maxLocals ret :: ws) room_1) (fun aa U => aa = #[(.long q1), (.int p1)] ∧ Z.Warmed39 U.vm ∧ U.heap = h0) (fun _ _ _ _ _ => True) (fun _ U o U' => ∃ v L, o = .returned v ∧ Q0 Z q1 p1 h0 n0 v U'.heap L ∧ FrameEnd U o U' L room_1.cells room_1.slots) := by
  refine MetFree.of_bodySF (plainFor_of_name pn_HeadShortestAdditionalInformationPinLaw) hisR ?_
  intro p e s m args below meth c s₁ Bd hml0 hP hK
  obtain ⟨rfl, hZ, hh⟩ := hP
  have hx := Bd.exec
  have hby := Bd.bytes
  have hml : c.maxLocals = 5 := hml0
  have hown : s.vm.findClass "com/example/canonbyte/canonbyte/codec/HeadShortestAdditionalInformationPinLaw" = some m.cls := findClass_of_methodNamed Bd.named
  have hnm := (name_of_methodNamed Bd.named Bd.method).1
  have X0 : Stand p l e room_1 s m #[(.long q1), (.int p1)] below meth c s₁ [] 0 0 := Stand.of_body Bd
  have e0 : s₁.heap = h0 := by rw [← hh, Bd.state]; rfl
  have N0 := Fr.nil n0
  have hlk : meth.locks = false := by first | exact BodyLoose.notSynchronized Bd | exact Body.notSynchronized Bd
  have pre0 : ∀ t, Steps p.tables e below (s₁.setTop (mkF m 0 #[.val (.long q1), .second, .val (.int p1), .unset, .unset] [])) t → Steps p.tables e below (s₁.setTop (entryFrame m #[(.long q1), (.int p1)] maxLocals)) t := fun t k => castTop (ef_0 m q1 p1) k
  have pre1 : ∀ t, Steps p.tables e below (s₁.setTop (mkF m 8 #[.val (.long q1), .second, .val (.int p1), .val (.long (own_ush q1 (p1 &&& (63 : Int32)))), .second] [(.long (own_ush q1 (p1 &&& (63 : Int32))))])) t → Steps p.tables e below (s₁.setTop (entryFrame m #[(.long q1), (.int p1)] maxLocals)) t := fun t k => pre0 t (by
    show Steps p.tables e below (s₁.setTop (mkF m 0 #[.val (.long q1), .second, .val (.int p1), .unset, .unset] [])) _
    refine XS.lloadN X0.here hx rfl (hb hby at_0) rfl ?_
    show Steps p.tables e below (s₁.setTop (mkF m 1 #[.val (.long q1), .second, .val (.int p1), .unset, .unset] [(.long q1)])) _
    refine XS.iloadN X0.here hx rfl (hb hby at_1) rfl ?_
    show Steps p.tables e below (s₁.setTop (mkF m 2 #[.val (.long q1), .second, .val (.int p1), .unset, .unset] [(.int p1), (.long q1)])) _
    refine XS.bipush X0.here hx rfl (hb hby at_2) ?_
    show Steps p.tables e below (s₁.setTop (mkF m 4 #[.val (.long q1), .second, .val (.int p1), .unset, .unset] [(.int (63 : Int32)), (.int p1), (.long q1)])) _
    refine XS.iand X0.here hx rfl (hb hby at_4) rfl ?_
    show Steps p.tables e below (s₁.setTop (mkF m 5 #[.val (.long q1), .second, .val (.int p1), .unset, .unset] [(.int (p1 &&& (63 : Int32))), (.long q1)])) _
    refine XS.lushr X0.here hx rfl (hb hby at_5) rfl ?_
    show Steps p.tables e below (s₁.setTop (mkF m 6 #[.val (.long q1), .second, .val (.int p1), .unset, .unset] [(.long (own_ush q1 (p1 &&& (63 : Int32))))])) _
    refine XS.lstoreN X0.here hx rfl (hb hby at_6) rfl (l' := #[.val (.long q1), .second, .val (.int p1), .val (.long (own_ush q1 (p1 &&& (63 : Int32)))), .second]) rfl ?_
    show Steps p.tables e below (s₁.setTop (mkF m 7 #[.val (.long q1), .second, .val (.int p1), .val (.long (own_ush q1 (p1 &&& (63 : Int32)))), .second] [])) _
    refine XS.lloadN X0.here hx rfl (hb hby at_7) rfl ?_
    show Steps p.tables e below (s₁.setTop (mkF m 8 #[.val (.long q1), .second, .val (.int p1), .val (.long (own_ush q1 (p1 &&& (63 : Int32)))), .second] [(.long (own_ush q1 (p1 &&& (63 : Int32))))])) _
    exact k)
  obtain ⟨_, _, ⟨T2, L2, k2, n2⟩, -, X2, ⟨Lc2, hQ2, l2, y2, z2⟩, st2⟩ := Jvm.LawKit.callS X0 hx (y := (⟨"com/example/canonbyte/canonbyte/codec/Head", "shortestAdditionalInformation", "(J)I"⟩ : MethodName)) hown (mvT hZ (hw _ (List.mem_of_getElem? (i := 0) rfl))) (mvT hZ (hw _ (List.mem_of_getElem? (i := 1) rfl))) (mvT hZ (hw _ (List.mem_of_getElem? (i := 2) rfl))) (mvT hZ (hw _ (List.mem_of_getElem? (i := 3) rfl))) (by decide) (backOf (W := 0) (rm1 l Z a0 hw [] (own_ush q1 (p1 &&& (63 : Int32))) h0 n0 Z0) hZ (hw _ (List.mem_of_getElem? (i := 3) rfl)) (hw _ (List.mem_of_getElem? (i := 2) rfl)) (by decide) (by decide)) (g := (mkF m 8 #[.val (.long q1), .second, .val (.int p1), .val (.long (own_ush q1 (p1 &&& (63 : Int32)))), .second] [(.long (own_ush q1 (p1 &&& (63 : Int32))))])) rfl (by rw [hml]; rfl) (argsL := [(.long (own_ush q1 (p1 &&& (63 : Int32))))]) (rest := []) (lenOf pd_0 rfl) rfl (by show 2 * 0 + _ ≤ _; exact Nat.le_of_eq rfl) (hb hby at_8) (fun _ _ => ⟨rfl, e0, (by decide : 0 + 0 ≤ _), (by decide : 0 + 0 ≤ _)⟩)
  dsimp only [Pt.U, Pt.locs, Pt.cells, Pt.slots] at X2 l2 y2 z2 st2 hQ2
  subst l2 y2 z2
  obtain ⟨rfl, N2q, e2⟩ := hQ2
  have N2 := Fr.app N0 N2q
  have pre3 : ∀ t, Steps p.tables e below (T2.setTop (mkF m 11 #[.val (.long q1), .second, .val (.int p1), .val (.long (own_ush q1 (p1 &&& (63 : Int32)))), .second] [(.int (own_sa (own_ush q1 (p1 &&& (63 : Int32)))))])) t → Steps p.tables e below (s₁.setTop (entryFrame m #[(.long q1), (.int p1)] maxLocals)) t := fun t k => pre1 t (st2 t k)
  have pre4 : ∀ t, Steps p.tables e below (T2.setTop (mkF m 12 #[.val (.long q1), .second, .val (.int p1), .val (.long (own_ush q1 (p1 &&& (63 : Int32)))), .second] [(.long (own_ush q1 (p1 &&& (63 : Int32)))), (.int (own_sa (own_ush q1 (p1 &&& (63 : Int32)))))])) t → Steps p.tables e below (s₁.setTop (entryFrame m #[(.long q1), (.int p1)] maxLocals)) t := fun t k => pre3 t (by
    show Steps p.tables e below (T2.setTop (mkF m 11 #[.val (.long q1), .second, .val (.int p1), .val (.long (own_ush q1 (p1 &&& (63 : Int32)))), .second] [(.int (own_sa (own_ush q1 (p1 &&& (63 : Int32)))))])) _
    refine XS.lloadN X2.here hx rfl (hb hby at_11) rfl ?_
    show Steps p.tables e below (T2.setTop (mkF m 12 #[.val (.long q1), .second, .val (.int p1), .val (.long (own_ush q1 (p1 &&& (63 : Int32)))), .second] [(.long (own_ush q1 (p1 &&& (63 : Int32)))), (.int (own_sa (own_ush q1 (p1 &&& (63 : Int32)))))])) _
    exact k)
  obtain ⟨_, _, ⟨T5, L5, k5, n5⟩, -, X5, ⟨Lc5, hQ5, l5, y5, z5⟩, st5⟩ := Jvm.LawKit.callS X2 hx (y := (⟨"com/example/canonbyte/canonbyte/codec/HeadShortestAdditionalInformationPinLaw", "expected", "(J)I"⟩ : MethodName)) hown (mvT hZ (hw _ (List.mem_of_getElem? (i := 13) rfl))) (mvT hZ (hw _ (List.mem_of_getElem? (i := 14) rfl))) (mvT hZ (hw _ (List.mem_of_getElem? (i := 15) rfl))) (mvT hZ (hw _ (List.mem_of_getElem? (i := 16) rfl))) (by decide) (backOf (W := 1) (rm4 l Z a0 hw [] (own_ush q1 (p1 &&& (63 : Int32))) h0 n0 Z0) hZ (hw _ (List.mem_of_getElem? (i := 16) rfl)) (hw _ (List.mem_of_getElem? (i := 15) rfl)) (by decide) (by decide)) (g := (mkF m 12 #[.val (.long q1), .second, .val (.int p1), .val (.long (own_ush q1 (p1 &&& (63 : Int32)))), .second] [(.long (own_ush q1 (p1 &&& (63 : Int32)))), (.int (own_sa (own_ush q1 (p1 &&& (63 : Int32)))))])) rfl (by rw [hml]; rfl) (argsL := [(.long (own_ush q1 (p1 &&& (63 : Int32))))]) (rest := [(.int (own_sa (own_ush q1 (p1 &&& (63 : Int32)))))]) (lenOf pd_0 rfl) rfl (by show 2 * 0 + _ ≤ _; exact Nat.le_of_eq rfl) (hb hby at_12) (fun _ _ => ⟨rfl, e2, (by decide : 0 + 0 ≤ _), (by decide : 0 + 0 ≤ _)⟩)
  dsimp only [Pt.U, Pt.locs, Pt.cells, Pt.slots] at X5 l5 y5 z5 st5 hQ5
  subst l5 y5 z5
  obtain ⟨rfl, N5q, e5⟩ := hQ5
  have N5 := Fr.app N2 N5q
  have pre6 : ∀ t, Steps p.tables e below (T5.setTop (mkF m 15 #[.val (.long q1), .second, .val (.int p1), .val (.long (own_ush q1 (p1 &&& (63 : Int32)))), .second] [(.int (own_ex (own_ush q1 (p1 &&& (63 : Int32))))), (.int (own_sa (own_ush q1 (p1 &&& (63 : Int32)))))])) t → Steps p.tables e below (s₁.setTop (entryFrame m #[(.long q1), (.int p1)] maxLocals)) t := fun t k => pre4 t (st5 t k)
  have pre7 : ∀ t, Steps p.tables e below (T5.setTop (mkF m 23 #[.val (.long q1), .second, .val (.int p1), .val (.long (own_ush q1 (p1 &&& (63 : Int32)))), .second] [(.int (1 : Int32))])) t → Steps p.tables e below (s₁.setTop (entryFrame m #[(.long q1), (.int p1)] maxLocals)) t := fun t k => pre6 t (by
    show Steps p.tables e below (T5.setTop (mkF m 15 #[.val (.long q1), .second, .val (.int p1), .val (.long (own_ush q1 (p1 &&& (63 : Int32)))), .second] [(.int (own_ex (own_ush q1 (p1 &&& (63 : Int32))))), (.int (own_sa (own_ush q1 (p1 &&& (63 : Int32)))))])) _
    refine XS.icmpNo X5.here hx rfl (hb hby at_15) rfl (teq (show (own_sa (own_ush q1 (p1 &&& (63 : Int32)))) = (own_ex (own_ush q1 (p1 &&& (63 : Int32)))) from own_law _)).2 ?_
    show Steps p.tables e below (T5.setTop (mkF m 18 #[.val (.long q1), .second, .val (.int p1), .val (.long (own_ush q1 (p1 &&& (63 : Int32)))), .second] [])) _
    refine XS.iconst X5.here hx rfl (hb hby at_18) ?_
    show Steps p.tables e below (T5.setTop (mkF m 19 #[.val (.long q1), .second, .val (.int p1), .val (.long (own_ush q1 (p1 &&& (63 : Int32)))), .second] [(.int (1 : Int32))])) _
    refine XS.goto X5.here hx rfl (pc0 := 19) (pc' := 23) rfl (hb hby at_19) (by decide) (by decide) ?_
    show Steps p.tables e below (T5.setTop (mkF m 23 #[.val (.long q1), .second, .val (.int p1), .val (.long (own_ush q1 (p1 &&& (63 : Int32)))), .second] [(.int (1 : Int32))])) _
    exact k)
  obtain ⟨fs, hr, hrun, hended, hW, hsame⟩ := X5.leave (v := some (.int (1 : Int32))) (fun h => by rw [Bd.returns] at h; cases h) hlk
  refine ⟨_, _, pre7 _ ?_, hrun, hended, _, _, rfl, ?_, ⟨_, rfl⟩, hW, hsame.mono (by decide) (by decide)⟩
  · show Steps p.tables e below (T5.setTop (mkF m 23 #[.val (.long q1), .second, .val (.int p1), .val (.long (own_ush q1 (p1 &&& (63 : Int32)))), .second] [(.int (1 : Int32))])) _
    exact retN X5 hx (t := .boolean) Bd.returns (by simp) (hb hby at_23) hr
  · show Q0 Z q1 p1 h0 n0 _ T5.heap _
    rw [e5]
    exact ⟨rfl, N5⟩
set_option maxRecDepth 65536 in
set_option maxHeartbeats 40000000 in
theorem comes_1 {Post : Tables → Env → Array Value → State → Outcome → State → Prop} (hpost : ∀ tb e args s v u, (limb_1_1.after args s (.returned v) u = true ∧ limb_1_2.after args s (.returned v) u = true ∧ True) → FrameEnd s (.returned v) u (Jvm.fieldLocs frame_1_writes args s ++ Jvm.arrayLocs frame_1_arrays args s ++ Jvm.staticLocs frame_1_statics s) 0 0 → Post tb e args s (.returned v) u) :
    ArmFor flags0 classFile x code maxLocals ret World_1 tables_1 room_1 Calls_1 rest_1 Pre_1 Post := by
  intro l hfl _ _ p e ha hc hk s m args below hf hA hF happ hP
  obtain ⟨hcalls, hrest, hpre⟩ := hP
  obtain ⟨-, -, -, hnamed, -, -, -, hat⟩ := (Spec.applies_iff hf).mp happ
  obtain ⟨hg, hn⟩ := and_e (Cond.before_iff.mp (show (Jvm.Cond.and given_1 narrow_1).before args s = true from hpre))
  obtain ⟨hcnt, g0⟩ := and_e hg
  obtain ⟨k0, g1⟩ := and_e g0
  have k1 := g1
  obtain ⟨w0, w1, rfl⟩ : ∃ w0 w1 : Value, args = #[w0, w1] := by
    have hs : args.size = 2 := by simpa [Cond.value, given_1] using hcnt
    obtain ⟨L⟩ := args
    match L, hs with
    | [w0, w1], _ => exact ⟨w0, w1, rfl⟩
  have hw := fun d (hd : d ∈ tables_1) => atoms_spec (ws := Jvm.Cond.code x code maxLocals ret :: tables_1) hat d (List.mem_cons_of_mem _ hd)
  obtain ⟨i0, ei0⟩ := isL_v k0
  obtain rfl : w0 = (.long i0) := Option.some.inj ei0
  obtain ⟨i1, ei1⟩ := is_v k1
  obtain rfl : w1 = (.int i1) := Option.some.inj ei1
  obtain ⟨n, o, h1, h2, h3, _, L, rfl, ⟨rfl, N⟩, hq⟩ := rm0 l s _ hw tables_1 i0 i1 s.heap s.heap.size (Nat.le_refl _) p e ha hc hk s m _ below hf ((Spec.applies_iff_loose hf).mp happ).1 ⟨rfl, State.Warmed39.refl s, rfl⟩ trivial
  refine ⟨n, _, h1, h2, h3, hpost _ _ _ _ _ _ ⟨Cond.after_iff.mpr rfl, Cond.after_iff.mpr (eq_i res_at (Term.int_eval (1)) rfl), trivial⟩ ⟨hq.1, hq.2.1, (hq.2.2.sift fun y hy => Or.inr (N y hy)).mono (by decide) (by decide)⟩⟩
theorem main_1_1 : Claimed_1_1 := comes_1 fun _ _ _ _ _ _ h hF => ⟨h.1, hF⟩
theorem main_1_2 : Claimed_1_2 := comes_1 fun _ _ _ _ _ _ h hF => ⟨h.2.1, hF⟩
end Jvm.Pilot.@@N@@
namespace Jvm.Pilot.@@N@@
open Jvm Jvm.ClassFile Sem Op Lib Jvm.Free Jvm.Stand Jvm.Pilot.@@N@@.Jvm.D
/-! MADE BY PROGRAM (witnessworld.py) out of the Statement's table words and the real class files: 14 classes; the members and pool entries that the words name. The judged class is class 1, her method 2. -/
namespace start1
open Jvm.ClassFile
def u (s : String) : CpInfo := .utf8 (stringToUtf16 s)
/-- a pool by its gaps: so many unusable entries, then the entry; so many at the end -/
def gap : Nat → List CpInfo → List CpInfo
  | 0, r => r
  | n + 1, r => .unusable :: gap n r
def poolList (es : List (Nat × CpInfo)) (last : Nat) : List CpInfo := es.foldr (fun e r => gap e.1 (e.2 :: r)) (gap last [])
def pool (es : List (Nat × CpInfo)) (last : Nat) : Array CpInfo := ⟨poolList es last⟩
def fileOf (pool : Array CpInfo) (this : Nat) (attrs : Array Attribute := #[]) (ms : Array MethodInfo := #[]) (fl : Nat := 33) (sup : Nat := 0) (ifs : Array Nat := #[]) (fds : Array FieldInfo := #[]) : ClassFile where
  minorVersion := 0
  majorVersion := 65
  constantPool := pool
  accessFlags := fl
  thisClass := this
  superClass := sup
  interfaces := ifs
  fields := fds
  methods := ms
  attributes := attrs
def plain (name : String) (sup : Option ClassId) : Class where
  name := name
  kind := .ordinary
  loader := none
  accessFlags := 33
  super := sup
  interfaces := #[]
  cf := none
  fields := #[]
  methods := #[]
  instanceTypes := #[]
  staticTypes := #[]
  resolved := #[]
  callSites := []
  init := .initialized
  statics := none
  mirror := none

def pool0 : Array CpInfo := pool [(5, u "<init>"), (0, u "()V"), (1, .class_ 10), (1, u "java/lang/Object")] 113

def k0m0 : Method := { name := "<init>", desc := "()V", sig := { parameters := [], returnType := none }, accessFlags := 1, code := none }
/-- java/lang/Object -/
def k0 : Class := { plain "java/lang/Object" none with
  accessFlags := 33
  interfaces := #[]
  cf := some (fileOf pool0 8 #[] #[{ accessFlags := 1, nameIndex := 5, descriptorIndex := 6, attributes := #[] }] 33 0 #[] #[])
  fields := #[]
  methods := #[k0m0]
  instanceTypes := #[]
  staticTypes := #[]
  resolved := Array.replicate 124 none
  statics := none }

def pool1 : Array CpInfo := pool [(2, .class_ 4), (1, u "java/lang/Object"), (0, u "<init>"), (0, u "()V"), (0, .long 24), (1, .methodref 10 11), (0, .class_ 12), (0, .nameAndType 13 14), (0, u "com/example/canonbyte/canonbyte/codec/Head"), (0, u "shortestAdditionalInformation"), (0, u "(J)I"), (0, .methodref 16 17), (0, .class_ 18), (0, .nameAndType 19 14), (0, u "com/example/canonbyte/canonbyte/codec/HeadShortestAdditionalInformationPinLaw"), (0, u "expected"), (3, u "law"), (0, u "(JI)Z")] 2

def k1m0 : Method := { name := "<init>", desc := "()V", sig := { parameters := [], returnType := none }, accessFlags := 2, code := none }
def k1c1 : Code := { maxStack := 4, maxLocals := 2, code := method_2_code, exceptionTable := #[], attributes := #[] }
def k1m1 : Method := { name := "expected", desc := "(J)I", sig := { parameters := [.long], returnType := some .int }, accessFlags := 10, code := some k1c1 }
def k1c2 : Code := { maxStack := 4, maxLocals := 5, code := code, exceptionTable := #[], attributes := #[] }
def k1m2 : Method := { name := "law", desc := "(JI)Z", sig := { parameters := [.long, .int], returnType := some .boolean }, accessFlags := 9, code := some k1c2 }
/-- com/example/canonbyte/canonbyte/codec/HeadShortestAdditionalInformationPinLaw -/
def k1 : Class := { plain "com/example/canonbyte/canonbyte/codec/HeadShortestAdditionalInformationPinLaw" (some 0) with
  accessFlags := 49
  interfaces := #[]
  cf := some (fileOf pool1 16 #[] #[{ accessFlags := 2, nameIndex := 5, descriptorIndex := 6, attributes := #[] }, { accessFlags := 10, nameIndex := 19, descriptorIndex := 14, attributes := #[] }, { accessFlags := 9, nameIndex := 23, descriptorIndex := 24, attributes := #[] }] 49 2 #[] #[])
  fields := #[]
  methods := #[k1m0, k1m1, k1m2]
  instanceTypes := #[]
  staticTypes := #[]
  resolved := Array.replicate 27 none
  statics := none }

def pool2 : Array CpInfo := pool [(2, .class_ 4), (1, u "java/lang/Object"), (0, u "<init>"), (0, u "()V"), (0, .class_ 8), (0, u "com/example/canonbyte/canonbyte/codec/Head"), (0, .long 24), (1, .methodref 12 13), (0, .class_ 14), (0, .nameAndType 15 16), (0, u "java/lang/Long"), (0, u "compareUnsigned"), (0, u "(JJ)I"), (0, .long 255), (1, .long 65535), (1, .long 4294967295), (3, u "MAJOR_TYPE_NAMES"), (0, u "[Ljava/lang/String;"), (18, u "UNSIGNED_INTEGER"), (0, u "I"), (2, u "NEGATIVE_INTEGER"), (1, u "BYTE_STRING"), (1, u "TEXT_STRING"), (1, u "ARRAY"), (1, u "MAP"), (1, u "TAG"), (1, u "SIMPLE_OR_FLOAT"), (1, u "SMALLEST_FOLLOWING"), (1, u "ONE_BYTE"), (0, u "TWO_BYTES"), (1, u "FOUR_BYTES"), (1, u "EIGHT_BYTES"), (1, u "INDEFINITE"), (1, u "BREAK"), (1, u "LARGEST_ONE_BYTE"), (0, u "J"), (0, u "LARGEST_TWO_BYTES"), (0, u "LARGEST_FOUR_BYTES"), (4, u "shortestAdditionalInformation"), (0, u "(J)I")] 8

def k2m0 : Method := { name := "<init>", desc := "()V", sig := { parameters := [], returnType := none }, accessFlags := 2, code := none }
def k2c1 : Code := { maxStack := 4, maxLocals := 2, code := prog_18_method_3_code, exceptionTable := #[], attributes := #[] }
def k2m1 : Method := { name := "shortestAdditionalInformation", desc := "(J)I", sig := { parameters := [.long], returnType := some .int }, accessFlags := 8, code := some k2c1 }
/-- com/example/canonbyte/canonbyte/codec/Head -/
def k2 : Class := { plain "com/example/canonbyte/canonbyte/codec/Head" (some 0) with
  accessFlags := 48
  interfaces := #[]
  cf := some (fileOf pool2 7 #[] #[{ accessFlags := 2, nameIndex := 5, descriptorIndex := 6, attributes := #[] }, { accessFlags := 8, nameIndex := 84, descriptorIndex := 85, attributes := #[] }] 48 2 #[] #[{ accessFlags := 24, nameIndex := 45, descriptorIndex := 46, attributes := #[] }, { accessFlags := 24, nameIndex := 49, descriptorIndex := 46, attributes := #[] }, { accessFlags := 24, nameIndex := 51, descriptorIndex := 46, attributes := #[] }, { accessFlags := 24, nameIndex := 53, descriptorIndex := 46, attributes := #[] }, { accessFlags := 24, nameIndex := 55, descriptorIndex := 46, attributes := #[] }, { accessFlags := 24, nameIndex := 57, descriptorIndex := 46, attributes := #[] }, { accessFlags := 24, nameIndex := 59, descriptorIndex := 46, attributes := #[] }, { accessFlags := 24, nameIndex := 61, descriptorIndex := 46, attributes := #[] }, { accessFlags := 24, nameIndex := 63, descriptorIndex := 46, attributes := #[] }, { accessFlags := 24, nameIndex := 65, descriptorIndex := 46, attributes := #[] }, { accessFlags := 24, nameIndex := 66, descriptorIndex := 46, attributes := #[] }, { accessFlags := 24, nameIndex := 68, descriptorIndex := 46, attributes := #[] }, { accessFlags := 24, nameIndex := 70, descriptorIndex := 46, attributes := #[] }, { accessFlags := 24, nameIndex := 72, descriptorIndex := 46, attributes := #[] }, { accessFlags := 24, nameIndex := 74, descriptorIndex := 46, attributes := #[] }, { accessFlags := 26, nameIndex := 76, descriptorIndex := 77, attributes := #[] }, { accessFlags := 26, nameIndex := 78, descriptorIndex := 77, attributes := #[] }, { accessFlags := 26, nameIndex := 79, descriptorIndex := 77, attributes := #[] }, { accessFlags := 26, nameIndex := 25, descriptorIndex := 26, attributes := #[] }])
  fields := #[{ name := "UNSIGNED_INTEGER", type := .int, accessFlags := 24, slot := 0, constantValue := 0 }, { name := "NEGATIVE_INTEGER", type := .int, accessFlags := 24, slot := 1, constantValue := 0 }, { name := "BYTE_STRING", type := .int, accessFlags := 24, slot := 2, constantValue := 0 }, { name := "TEXT_STRING", type := .int, accessFlags := 24, slot := 3, constantValue := 0 }, { name := "ARRAY", type := .int, accessFlags := 24, slot := 4, constantValue := 0 }, { name := "MAP", type := .int, accessFlags := 24, slot := 5, constantValue := 0 }, { name := "TAG", type := .int, accessFlags := 24, slot := 6, constantValue := 0 }, { name := "SIMPLE_OR_FLOAT", type := .int, accessFlags := 24, slot := 7, constantValue := 0 }, { name := "SMALLEST_FOLLOWING", type := .int, accessFlags := 24, slot := 8, constantValue := 0 }, { name := "ONE_BYTE", type := .int, accessFlags := 24, slot := 9, constantValue := 0 }, { name := "TWO_BYTES", type := .int, accessFlags := 24, slot := 10, constantValue := 0 }, { name := "FOUR_BYTES", type := .int, accessFlags := 24, slot := 11, constantValue := 0 }, { name := "EIGHT_BYTES", type := .int, accessFlags := 24, slot := 12, constantValue := 0 }, { name := "INDEFINITE", type := .int, accessFlags := 24, slot := 13, constantValue := 0 }, { name := "BREAK", type := .int, accessFlags := 24, slot := 14, constantValue := 0 }, { name := "LARGEST_ONE_BYTE", type := .long, accessFlags := 26, slot := 15, constantValue := 0 }, { name := "LARGEST_TWO_BYTES", type := .long, accessFlags := 26, slot := 16, constantValue := 0 }, { name := "LARGEST_FOUR_BYTES", type := .long, accessFlags := 26, slot := 17, constantValue := 0 }, { name := "MAJOR_TYPE_NAMES", type := (.array (.object "java/lang/String")), accessFlags := 26, slot := 18, constantValue := 0 }]
  methods := #[k2m0, k2m1]
  instanceTypes := #[]
  staticTypes := #[.int, .int, .int, .int, .int, .int, .int, .int, .int, .int, .int, .int, .int, .int, .int, .long, .long, .long, (.array (.object "java/lang/String"))]
  resolved := Array.replicate 94 none
  statics := none }

def pool3 : Array CpInfo := pool [(1, .class_ 2), (0, u "java/io/Serializable"), (0, .class_ 4), (0, u "java/lang/Object")] 2

/-- java/io/Serializable -/
def k3 : Class := { plain "java/io/Serializable" (some 0) with
  accessFlags := 1537
  interfaces := #[]
  cf := some (fileOf pool3 1 #[] #[] 1537 3 #[] #[])
  fields := #[]
  methods := #[]
  instanceTypes := #[]
  staticTypes := #[]
  resolved := Array.replicate 7 none
  statics := none }

def pool4 : Array CpInfo := pool [(2, .class_ 4), (1, u "java/lang/Object"), (0, u "<init>"), (0, u "()V"), (1, .class_ 10), (1, u "java/lang/Number"), (2, .class_ 14), (0, u "java/io/Serializable"), (0, u "serialVersionUID"), (0, u "J")] 20

def k4m0 : Method := { name := "<init>", desc := "()V", sig := { parameters := [], returnType := none }, accessFlags := 1, code := none }
/-- java/lang/Number -/
def k4 : Class := { plain "java/lang/Number" (some 0) with
  accessFlags := 1057
  interfaces := #[3]
  cf := some (fileOf pool4 8 #[] #[{ accessFlags := 1, nameIndex := 5, descriptorIndex := 6, attributes := #[] }] 1057 2 #[13] #[{ accessFlags := 26, nameIndex := 15, descriptorIndex := 16, attributes := #[] }])
  fields := #[{ name := "serialVersionUID", type := .long, accessFlags := 26, slot := 0, constantValue := 0 }]
  methods := #[k4m0]
  instanceTypes := #[]
  staticTypes := #[.long]
  resolved := Array.replicate 37 none
  statics := none }

def pool5 : Array CpInfo := pool [(1, .class_ 2), (0, u "java/lang/Comparable"), (0, .class_ 4), (0, u "java/lang/Object")] 7

/-- java/lang/Comparable -/
def k5 : Class := { plain "java/lang/Comparable" (some 0) with
  accessFlags := 1537
  interfaces := #[]
  cf := some (fileOf pool5 1 #[] #[] 1537 3 #[] #[])
  fields := #[]
  methods := #[]
  instanceTypes := #[]
  staticTypes := #[]
  resolved := Array.replicate 12 none
  statics := none }

def pool6 : Array CpInfo := pool [(1, .class_ 2), (0, u "java/lang/constant/Constable"), (0, .class_ 4), (0, u "java/lang/Object")] 6

/-- java/lang/constant/Constable -/
def k6 : Class := { plain "java/lang/constant/Constable" (some 0) with
  accessFlags := 1537
  interfaces := #[]
  cf := some (fileOf pool6 1 #[] #[] 1537 3 #[] #[])
  fields := #[]
  methods := #[]
  instanceTypes := #[]
  staticTypes := #[]
  resolved := Array.replicate 11 none
  statics := none }

def pool7 : Array CpInfo := pool [(1, .class_ 2), (0, u "java/lang/constant/ConstantDesc"), (0, .class_ 4), (0, u "java/lang/Object")] 32

/-- java/lang/constant/ConstantDesc -/
def k7 : Class := { plain "java/lang/constant/ConstantDesc" (some 0) with
  accessFlags := 1537
  interfaces := #[]
  cf := some (fileOf pool7 1 #[] #[] 1537 3 #[] #[])
  fields := #[]
  methods := #[]
  instanceTypes := #[]
  staticTypes := #[]
  resolved := Array.replicate 37 none
  statics := none }

def pool8 : Array CpInfo := pool [(1, .class_ 2), (0, u "java/lang/Long"), (165, .long 9223372036854775808), (66, .class_ 237), (1, u "java/lang/Long$LongCache"), (33, .class_ 272), (0, u "java/lang/Number"), (2, u "value"), (0, u "J"), (25, .methodref 1 303), (0, .nameAndType 304 305), (0, u "compare"), (0, u "(JJ)I"), (55, u "TYPE"), (0, u "Ljava/lang/Class;"), (0, .class_ 364), (0, u "java/lang/Comparable"), (0, .class_ 366), (0, u "java/lang/constant/Constable"), (0, .class_ 368), (0, u "java/lang/constant/ConstantDesc"), (0, u "MIN_VALUE"), (1, u "MAX_VALUE"), (4, u "SIZE"), (0, u "I"), (1, u "BYTES"), (1, u "serialVersionUID"), (87, u "compareUnsigned")] 54

def k8c0 : Code := { maxStack := 4, maxLocals := 4, code := jdk_35_method_42_code, exceptionTable := #[], attributes := #[] }
def k8m0 : Method := { name := "compare", desc := "(JJ)I", sig := { parameters := [.long, .long], returnType := some .int }, accessFlags := 9, code := some k8c0 }
def k8c1 : Code := { maxStack := 6, maxLocals := 4, code := jdk_35_method_43_code, exceptionTable := #[], attributes := #[] }
def k8m1 : Method := { name := "compareUnsigned", desc := "(JJ)I", sig := { parameters := [.long, .long], returnType := some .int }, accessFlags := 9, code := some k8c1 }
/-- java/lang/Long -/
def k8 : Class := { plain "java/lang/Long" (some 4) with
  accessFlags := 49
  interfaces := #[5, 6, 7]
  cf := some (fileOf pool8 1 #[.nestMembers #[235]] #[{ accessFlags := 9, nameIndex := 304, descriptorIndex := 305, attributes := #[] }, { accessFlags := 9, nameIndex := 469, descriptorIndex := 305, attributes := #[] }] 49 271 #[363, 365, 367] #[{ accessFlags := 25, nameIndex := 369, descriptorIndex := 276, attributes := #[] }, { accessFlags := 25, nameIndex := 371, descriptorIndex := 276, attributes := #[] }, { accessFlags := 25, nameIndex := 361, descriptorIndex := 362, attributes := #[] }, { accessFlags := 18, nameIndex := 275, descriptorIndex := 276, attributes := #[] }, { accessFlags := 25, nameIndex := 376, descriptorIndex := 377, attributes := #[] }, { accessFlags := 25, nameIndex := 379, descriptorIndex := 377, attributes := #[] }, { accessFlags := 26, nameIndex := 381, descriptorIndex := 276, attributes := #[] }])
  fields := #[{ name := "MIN_VALUE", type := .long, accessFlags := 25, slot := 0, constantValue := 0 }, { name := "MAX_VALUE", type := .long, accessFlags := 25, slot := 1, constantValue := 0 }, { name := "TYPE", type := (.object "java/lang/Class"), accessFlags := 25, slot := 2, constantValue := 0 }, { name := "value", type := .long, accessFlags := 18, slot := 0, constantValue := 0 }, { name := "SIZE", type := .int, accessFlags := 25, slot := 3, constantValue := 0 }, { name := "BYTES", type := .int, accessFlags := 25, slot := 4, constantValue := 0 }, { name := "serialVersionUID", type := .long, accessFlags := 26, slot := 5, constantValue := 0 }]
  methods := #[k8m0, k8m1]
  instanceTypes := #[.long]
  staticTypes := #[.long, .long, (.object "java/lang/Class"), .int, .int, .long]
  resolved := Array.replicate 524 none
  statics := none }

def pool9 : Array CpInfo := pool [(1, u "java/lang/Cloneable"), (0, .class_ 1), (0, u "java/lang/Object"), (0, .class_ 3)] 3

/-- java/lang/Cloneable -/
def k9 : Class := { plain "java/lang/Cloneable" (some 0) with
  accessFlags := 1537
  interfaces := #[]
  cf := some (fileOf pool9 2 #[] #[] 1537 4 #[] #[])
  fields := #[]
  methods := #[]
  instanceTypes := #[]
  staticTypes := #[]
  resolved := Array.replicate 8 none
  statics := none }

/-- the primitive byte -/
def k10 : Class := { plain "byte" none with kind := .primitive 'B', accessFlags := 0x411 }
/-- [B -/
def k11 : Class := { plain "[B" (some 0) with kind := .array 10 .byte, interfaces := #[9, 3], accessFlags := 1041 }

/-- the primitive int -/
def k12 : Class := { plain "int" none with kind := .primitive 'I', accessFlags := 0x411 }
/-- [I -/
def k13 : Class := { plain "[I" (some 0) with kind := .array 12 .int, interfaces := #[9, 3], accessFlags := 1041 }

def heap : Heap := #[]
def classes : Array Class := #[k0, k1, k2, k3, k4, k5, k6, k7, k8, k9, k10, k11, k12, k13]
def interned : List (Array UInt16 × Addr) := []
def slotsUsed : Nat := 0
def theMethod : MethodId := ⟨1, 2⟩
def args0 : Array Value := #[.long 5, .int 5]
def aboutOver (below : List Frame) : State where
  vm := { classes := classes, interned := interned.toArray }
  heap := heap
  slotsUsed := slotsUsed
  threads := #[{ frames := .invoking theMethod args0 :: below }]
def below0 : List Frame := [.native { method := ⟨0, 0⟩, args := #[] }]
def about1 : State := aboutOver below0
def p0 : Program := .bare "" "" ""
def e0 : Env := launch0.env 0 0 0
theorem w_frames : about1.frames = Frame.invoking theMethod args0 :: below0 := rfl
set_option maxRecDepth 65536 in
theorem w_args : argsFit about1.vm theMethod args0 = true := by decide +kernel
set_option maxRecDepth 65536 in
theorem w_heap : heapFits about1 = true := by decide +kernel
set_option maxRecDepth 65536 in
theorem w_runnable : about1.curStatus? = some .runnable := by decide +kernel
set_option maxRecDepth 65536 in
theorem w_alone : about1.alone = true := by decide +kernel
set_option maxRecDepth 65536 in
theorem w_named : about1.methodNamed? x = some theMethod := by decide +kernel
set_option maxRecDepth 65536 in
theorem w_hears : about1.hears theMethod below0 = true := by decide +kernel
set_option maxRecDepth 65536 in
theorem w_ripe : about1.ripe theMethod args0 below0 = true := by decide +kernel
theorem w_running : about1.status = .running := rfl
set_option maxRecDepth 65536 in
theorem w_room : about1.hasRoom e0.platform room_1 = true :=
  launch0.hasRoom_least _ room_1 (by decide +kernel) (by decide +kernel) (by decide +kernel) (by decide +kernel) (by decide +kernel) (by decide +kernel)
theorem allAtoms_all (ts : List Jvm.Cond) (a : Array Jvm.Value) (st : Jvm.State) : (allAtoms ts).before a st = ts.all (fun c => c.before a st) := by
  induction ts with
  | nil => rfl
  | cons c t ih =>
    show (Jvm.Cond.and c (allAtoms t)).before a st = _
    rw [Jvm.Cond.before_and, ih, List.all_cons]
def words1 : List Jvm.Cond := Jvm.Cond.code x code maxLocals ret :: tables_1
/-- a 'code' word, met by the world's own term for the bytes: nothing is compared byte by byte -/
theorem code_word {y : MethodName} {bytes : ByteArray} {mx : Nat} {rt : Option FieldType} {a : Array Value} {s : State} {m : MethodId} {meth : Method} {c : Code} (h1 : s.methodNamed? y = some m) (h2 : s.vm.method? m = some meth) (h3 : meth.code = some c) (h4 : c.code = bytes)
    (h5 : (c.maxLocals == mx && c.exceptionTable.isEmpty && decide (c.maxStack ≤ mostOperands) && decide (meth.sig.returnType = rt) && !meth.locks && decide (parseMethodDescriptor y.desc = some meth.sig)) = true) : (Jvm.Cond.code y bytes mx rt).before a s = true := by
  simp only [Bool.and_eq_true, beq_iff_eq, Bool.not_eq_true', decide_eq_true_eq] at h5
  obtain ⟨⟨⟨⟨⟨g1, g2⟩, g3⟩, g4⟩, g5⟩, g6⟩ := h5
  simp [Cond.before, Cond.holds, Cond.value, h1, h2, h3, h4, g1, g2, g3, g4, g5, g6]
def isCode : Jvm.Cond → Bool
  | .code _ _ _ _ => true
  | _ => false
theorem all_split {L : List Jvm.Cond} {P : Jvm.Cond → Bool} (h1 : L.all (fun c => isCode c || P c) = true) (h2 : ∀ c ∈ L.filter isCode, P c = true) : L.all P = true := by
  refine List.all_eq_true.mpr fun c hc => ?_
  have h := List.all_eq_true.mp h1 c hc
  rcases Bool.eq_false_or_eq_true (isCode c) with hi | hi
  · exact h2 c (List.mem_filter.mpr ⟨hc, hi⟩)
  · simpa [hi] using h
set_option maxRecDepth 65536 in
theorem w_c0 : (Jvm.Cond.code x code maxLocals ret).before args0 about1 = true := code_word (m := ⟨1, 2⟩) (meth := k1m2) (c := k1c2) (by decide +kernel) rfl rfl rfl (by decide +kernel)
set_option maxRecDepth 65536 in
theorem w_c1 : (Jvm.Cond.code ({ cls := "com/example/canonbyte/canonbyte/codec/Head", name := "shortestAdditionalInformation", desc := "(J)I" } : Jvm.MethodName) prog_18_method_3_code (2 : Nat) (Option.some Jvm.ClassFile.FieldType.int)).before args0 about1 = true := code_word (m := ⟨2, 1⟩) (meth := k2m1) (c := k2c1) (by decide +kernel) rfl rfl rfl (by decide +kernel)
set_option maxRecDepth 65536 in
theorem w_c2 : (Jvm.Cond.code ({ cls := "java/lang/Long", name := "compareUnsigned", desc := "(JJ)I" } : Jvm.MethodName) jdk_35_method_43_code (4 : Nat) (Option.some Jvm.ClassFile.FieldType.int)).before args0 about1 = true := code_word (m := ⟨8, 1⟩) (meth := k8m1) (c := k8c1) (by decide +kernel) rfl rfl rfl (by decide +kernel)
set_option maxRecDepth 65536 in
theorem w_c3 : (Jvm.Cond.code ({ cls := "java/lang/Long", name := "compare", desc := "(JJ)I" } : Jvm.MethodName) jdk_35_method_42_code (4 : Nat) (Option.some Jvm.ClassFile.FieldType.int)).before args0 about1 = true := code_word (m := ⟨8, 0⟩) (meth := k8m0) (c := k8c0) (by decide +kernel) rfl rfl rfl (by decide +kernel)
set_option maxRecDepth 65536 in
theorem w_c4 : (Jvm.Cond.code ({ cls := "com/example/canonbyte/canonbyte/codec/HeadShortestAdditionalInformationPinLaw", name := "expected", desc := "(J)I" } : Jvm.MethodName) method_2_code (2 : Nat) (Option.some Jvm.ClassFile.FieldType.int)).before args0 about1 = true := code_word (m := ⟨1, 1⟩) (meth := k1m1) (c := k1c1) (by decide +kernel) rfl rfl rfl (by decide +kernel)
def codes1 : List Jvm.Cond := [Jvm.Cond.code x code maxLocals ret, Jvm.Cond.code ({ cls := "com/example/canonbyte/canonbyte/codec/Head", name := "shortestAdditionalInformation", desc := "(J)I" } : Jvm.MethodName) prog_18_method_3_code (2 : Nat) (Option.some Jvm.ClassFile.FieldType.int), Jvm.Cond.code ({ cls := "java/lang/Long", name := "compareUnsigned", desc := "(JJ)I" } : Jvm.MethodName) jdk_35_method_43_code (4 : Nat) (Option.some Jvm.ClassFile.FieldType.int), Jvm.Cond.code ({ cls := "java/lang/Long", name := "compare", desc := "(JJ)I" } : Jvm.MethodName) jdk_35_method_42_code (4 : Nat) (Option.some Jvm.ClassFile.FieldType.int), Jvm.Cond.code ({ cls := "com/example/canonbyte/canonbyte/codec/HeadShortestAdditionalInformationPinLaw", name := "expected", desc := "(J)I" } : Jvm.MethodName) method_2_code (2 : Nat) (Option.some Jvm.ClassFile.FieldType.int)]
set_option maxRecDepth 65536 in
theorem codes_eq : words1.filter isCode = codes1 := rfl
theorem w_codes : ∀ c ∈ words1.filter isCode, c.before args0 about1 = true := by
  rw [codes_eq]
  intro c hc
  simp only [codes1, List.mem_cons, List.not_mem_nil, or_false] at hc
  rcases hc with rfl | rfl | rfl | rfl | rfl
  · exact w_c0
  · exact w_c1
  · exact w_c2
  · exact w_c3
  · exact w_c4
set_option maxRecDepth 65536 in
theorem w_t1 : words1.all (fun c => isCode c || c.before args0 about1) = true := by decide +kernel
theorem w_tables : (allAtoms (Jvm.Cond.code x code maxLocals ret :: tables_1)).before args0 about1 = true := by
  rw [allAtoms_all]
  show words1.all (fun c => c.before args0 about1) = true
  refine all_split ?_ w_codes
  rw [w_t1]
set_option maxRecDepth 65536 in
theorem w_case : (Jvm.Cond.and given_1 narrow_1).before args0 about1 = true := by decide +kernel
theorem w_applies : (headSpec (Jvm.Cond.code x code maxLocals ret :: tables_1) room_1).applies x e0.platform about1 = true :=
  (Spec.applies_iff w_frames).mpr ⟨w_running, w_runnable, w_alone, w_named, w_hears, w_ripe, w_room, w_tables⟩
theorem atStart : AtStart classFile x code maxLocals ret World_1 tables_1 room_1 Calls_1 rest_1 Pre_1 launch0 p0 e0 about1 theMethod args0 below0 :=
  ⟨lists_1, trivial, launch0.admits_env _ _ _, launch0.least_env, fairChoices_fair.cas, fairChoices_fair.clock, w_frames, w_args, w_heap, w_applies, trivial, trivial, w_case⟩
end start1
theorem witness_1 : WitnessClaimed_1 := ⟨start1.p0, start1.e0, start1.about1, start1.theMethod, start1.args0, start1.below0, start1.atStart⟩
end Jvm.Pilot.@@N@@
