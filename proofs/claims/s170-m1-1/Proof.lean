import JvmDerived
import JvmDerived.Pilot.@@N@@Statement
import JvmDerived.Pilot.@@N@@Code
set_option linter.unusedVariables false
set_option linter.unusedSimpArgs false
@@BLOCK:NumsL.lean.txt@@
namespace Jvm.RoadKit
open Sem ClassFile Op Lib Jvm.Stand Jvm.Free Jvm.LawKit
section New
variable {p : Program} {l : Launch} {e : Env} {R : Room} {s : State} {m : MethodId} {args : Array Value} {below : List Frame} {meth : Method} {c : Code} {T : State} {locs : List Loc} {cells slots : Nat}
theorem retI (X : Stand p l e R s m args below meth c T locs cells slots) (hx : p.tables.exec = Jvm.exec) {pc : Nat} {Ls : Array Slot} {z : Int32} {rest : List Value} (hret : meth.sig.returnType = some .int) (hd : decode c.code pc = .ok (.ireturn, 1)) {fs : List Frame}
    (hl : ∀ (f : JFrame) (acts : List Action), f.method = m → f.locked = none → f.entered = [] → (doReturn e (T.setTop f) acts (some (.int z))).1 = T.setFrames fs) : Steps p.tables e below (T.setTop (mkF m pc Ls (.int z :: rest))) (T.setFrames fs) := by
  have hm' : T.vm.method? m = some meth := X.method'
  have hn : narrow .int (.int z) = .int z := rfl
  show Steps p.tables e below (T.setTop { method := m, pc := pc, locals := Ls, stack := _ :: rest, locked := none }) _
  jvm_step X.here [X.here.top, hx, hd, hm', hret, hn]
  first | (intro acts; rw [hl _ acts rfl rfl rfl]) | rw [hl _ _ rfl rfl rfl]
  exact Steps.refl _
end New
end Jvm.RoadKit
namespace Jvm.Pilot.@@N@@
open Jvm Jvm.ClassFile Sem Op Lib Jvm.Free Jvm.Stand Jvm.LawKit Jvm.RoadKit Bundle Jvm.Pilot.@@N@@.Jvm.D
def own_ush (x : Int64) (s : Int32) : Int64 := ((x.toUInt64 >>> (s &&& 0x3f).toInt64.toUInt64).toInt64)
def own_shl (x : Int64) (s : Int32) : Int64 := (x <<< (s &&& 0x3f).toInt64)
def own_shr (x : Int64) (s : Int32) : Int64 := (x >>> (s &&& 0x3f).toInt64)
def own_iush (x s : Int32) : Int32 := ((x.toUInt32 >>> (s &&& 31).toUInt32).toInt32)
def own_ishl (x s : Int32) : Int32 := (x <<< (s &&& 31))
def own_ishr (x s : Int32) : Int32 := (x >>> (s &&& 31))
def own_lrem (x y : Int64) : Int64 := x - (x / y) * y
theorem own_ush_eq (x : Int64) (s : Int32) (k : Nat) (hs : ((s &&& 0x3f).toInt64.toUInt64.toBitVec % 64#64).toNat = k) : (own_ush x s).toBitVec = x.toBitVec >>> k := by
  subst hs; rfl
theorem own_shl_eq (x : Int64) (s : Int32) (k : Nat) (hs : ((s &&& 0x3f).toInt64.toBitVec.smod 64#64).toNat = k) : (own_shl x s).toBitVec = x.toBitVec <<< k := by
  subst hs; rfl
theorem own_fin64 : ∀ k : Fin 64, ((Int32.ofNat k.val &&& 0x3f).toInt64.toUInt64.toBitVec % 64#64).toNat = k.val := by decide +kernel
theorem own_fin64' : ∀ k : Fin 64, ((Int32.ofNat k.val &&& 0x3f).toInt64.toBitVec.smod 64#64).toNat = k.val := by decide +kernel
theorem own_ushN (x : Int64) (k : Nat) (hk : k < 64) : (own_ush x (Int32.ofNat k)).toBitVec = x.toBitVec >>> k := own_ush_eq x _ k (own_fin64 ⟨k, hk⟩)
theorem own_shlN (x : Int64) (k : Nat) (hk : k < 64) : (own_shl x (Int32.ofNat k)).toBitVec = x.toBitVec <<< k := own_shl_eq x _ k (own_fin64' ⟨k, hk⟩)
theorem own_nat (s : Int32) (h0 : 0 ≤ s.toInt) : s = Int32.ofNat s.toInt.toNat := by
  have h := s.toInt_lt
  apply Int32.toInt_inj.mp
  rw [Int32.toInt_ofNat_of_lt (by omega)]
  omega
theorem own_natI (k : Nat) (h : k < 2 ^ 31) : (Int32.ofNat k).toInt = k := Int32.toInt_ofNat_of_lt h
theorem own_bit1 (x : BitVec 64) : x &&& 1#64 = if x.getLsbD 0 = true then 1#64 else 0#64 := by
  apply BitVec.eq_of_getLsbD_eq; intro i hi
  rw [BitVec.getLsbD_and, BitVec.getLsbD_one]
  by_cases h0 : i = 0
  · subst h0; cases h : x.getLsbD 0 <;> simp
  · have h1 : (if x.getLsbD 0 = true then 1#64 else 0#64).getLsbD i = false := by
      split
      · rw [BitVec.getLsbD_one]; simp; omega
      · exact BitVec.getLsbD_zero
    rw [h1]; simp [h0]
theorem own_shbit (x : Int64) (k : Nat) (hk : k < 64) : (own_ush x (Int32.ofNat k)) &&& (1 : Int64) = if x.toBitVec.getLsbD k = true then (1 : Int64) else (0 : Int64) := by
  apply Int64.toBitVec_inj.mp
  have e : ((own_ush x (Int32.ofNat k)) &&& (1 : Int64)).toBitVec = (x.toBitVec >>> k) &&& 1#64 := by rw [Int64.toBitVec_and, own_ushN x k hk]; rfl
  rw [e, own_bit1, BitVec.getLsbD_ushiftRight, Nat.add_zero]
  split <;> rfl
theorem own_rem (x m : Int32) (hm : 0 < m.toInt) : ∃ k : Nat, (k : Int) < m.toInt ∧ (x &&& (2147483647 : Int32)) % m = Int32.ofNat k := by
  have h1 : (x &&& (2147483647 : Int32)).toInt = x.toInt % 2 ^ 31 := Jvm.Kit.i32_mask x 2147483647 (k := 31) (by decide) (by decide)
  have h2 : 0 ≤ (x &&& (2147483647 : Int32)).toInt := by rw [h1]; exact Int.emod_nonneg _ (by decide)
  have h3 := Jvm.Kit.i32_rem_nonneg (y := m) h2
  have h4 : 0 ≤ ((x &&& (2147483647 : Int32)) % m).toInt := by rw [h3]; exact Int.emod_nonneg _ (by omega)
  have h5 : ((x &&& (2147483647 : Int32)) % m).toInt < m.toInt := by rw [h3]; exact Int.emod_lt_of_pos _ hm
  refine ⟨((x &&& (2147483647 : Int32)) % m).toInt.toNat, by omega, own_nat _ h4⟩
theorem own_m63 (x : Int32) : ∃ k : Nat, k < 64 ∧ x &&& (63 : Int32) = Int32.ofNat k := by
  have h1 : (x &&& (63 : Int32)).toInt = x.toInt % 2 ^ 6 := Jvm.Kit.i32_mask x 63 (k := 6) (by decide) (by decide)
  refine ⟨(x &&& (63 : Int32)).toInt.toNat, by omega, own_nat _ (by omega)⟩
theorem own_lt (a b : Nat) (ha : a < 2 ^ 31) (hb : b < 2 ^ 31) : (Int32.ofNat a < Int32.ofNat b) ↔ a < b := by
  rw [Int32.lt_iff_toInt_lt, own_natI a ha, own_natI b hb]; omega
theorem own_allones (i : Nat) (hi : i < 64) : (-1 : Int64).toBitVec.getLsbD i = true := by
  have h : ∀ k : Fin 64, (-1 : Int64).toBitVec.getLsbD k.val = true := by decide +kernel
  exact h ⟨i, hi⟩
def own_low (n : Int32) : Int64 := if n = (0 : Int32) then (0 : Int64) else own_ush (-1 : Int64) ((64 : Int32) - n)
def own_east (w : Int64) (n : Int32) : Int64 := (w ^^^ (-1 : Int64)) &&& (own_shl (1 : Int64) n - (1 : Int64))
def own_n (p : Int32) : Int32 := (p &&& (2147483647 : Int32)) % (63 : Int32)
def own_w (q : Int64) (n : Int32) : Int64 := q &&& own_low n
def own_i (p : Int32) : Int32 := p &&& (63 : Int32)
theorem own_mask_a : ∀ k : Fin 63, (own_shl (1 : Int64) (Int32.ofNat k.val) - (1 : Int64)).toBitVec = (own_low (Int32.ofNat k.val)).toBitVec := by decide +kernel
theorem own_mask_b : ∀ k : Fin 63, ∀ i : Fin 64, (own_low (Int32.ofNat k.val)).toBitVec.getLsbD i.val = decide (i.val < k.val) := by decide +kernel
theorem own_wbit (q : Int64) (k i : Nat) (hk : k < 63) (hi : i < 64) : (own_w q (Int32.ofNat k)).toBitVec.getLsbD i = (q.toBitVec.getLsbD i && decide (i < k)) := by
  rw [own_w, Int64.toBitVec_and, BitVec.getLsbD_and, own_mask_b ⟨k, hk⟩ ⟨i, hi⟩]
theorem own_ebit (w : Int64) (k i : Nat) (hk : k < 63) (hi : i < 64) : (own_east w (Int32.ofNat k)).toBitVec.getLsbD i = ((!w.toBitVec.getLsbD i) && decide (i < k)) := by
  rw [own_east, Int64.toBitVec_and, BitVec.getLsbD_and, own_mask_a ⟨k, hk⟩, own_mask_b ⟨k, hk⟩ ⟨i, hi⟩, Int64.toBitVec_xor, BitVec.getLsbD_xor, own_allones i hi, Bool.xor_true]
theorem own_nn (p : Int32) : ∃ k : Nat, k < 63 ∧ own_n p = Int32.ofNat k := by
  obtain ⟨k, h, e⟩ := own_rem p 63 (by decide)
  have h : (k : Int) < 63 := h
  exact ⟨k, by omega, e⟩
theorem own_law2 (q : Int64) (p : Int32) : own_east (own_w q (own_n p)) (own_n p) &&& own_w q (own_n p) = (0 : Int64) := by
  obtain ⟨k, hk, e⟩ := own_nn p
  rw [e]
  apply Int64.toBitVec_inj.mp
  apply BitVec.eq_of_getLsbD_eq; intro i hi
  rw [Int64.toBitVec_and, BitVec.getLsbD_and, own_ebit _ k i hk hi]
  have z : (0 : Int64).toBitVec.getLsbD i = false := BitVec.getLsbD_zero
  rw [z]
  cases (own_w q (Int32.ofNat k)).toBitVec.getLsbD i <;> simp
theorem own_law3 (q : Int64) (p : Int32) : own_east (own_w q (own_n p)) (own_n p) ||| own_w q (own_n p) = own_low (own_n p) := by
  obtain ⟨k, hk, e⟩ := own_nn p
  rw [e]
  apply Int64.toBitVec_inj.mp
  apply BitVec.eq_of_getLsbD_eq; intro i hi
  rw [Int64.toBitVec_or, BitVec.getLsbD_or, own_ebit _ k i hk hi, own_wbit q k i hk hi, own_mask_b ⟨k, hk⟩ ⟨i, hi⟩]
  cases q.toBitVec.getLsbD i <;> cases decide (i < k) <;> rfl
theorem own_law1 (q : Int64) (p1 p2 : Int32) : own_ush (own_east (own_w q (own_n p1)) (own_n p1)) (own_i p2) &&& (1 : Int64) = (if own_i p2 < own_n p1 then (if own_ush (own_w q (own_n p1)) (own_i p2) &&& (1 : Int64) = (0 : Int64) then (1 : Int64) else (0 : Int64)) else (0 : Int64)) := by
  obtain ⟨k, hk, e⟩ := own_nn p1
  obtain ⟨i, hi, e2⟩ := own_m63 p2
  have e2 : own_i p2 = Int32.ofNat i := e2
  rw [e, e2, own_shbit _ i hi, own_shbit _ i hi, own_ebit _ k i hk hi]
  simp only [own_lt i k (by omega) (by omega)]
  by_cases h : i < k
  · rw [if_pos h]
    cases (own_w q (Int32.ofNat k)).toBitVec.getLsbD i <;> simp [h]
  · rw [if_neg h]; simp [h]
theorem d1_0 : decode method_2_code 0 = .ok (.iload_n 0, 1) := by decide +kernel
theorem d1_1 : decode method_2_code 1 = .ok (.ifCond .ne 5, 3) := by decide +kernel
theorem d1_4 : decode method_2_code 4 = .ok (.lconst 0, 1) := by decide +kernel
theorem d1_5 : decode method_2_code 5 = .ok (.lreturn, 1) := by decide +kernel
theorem d1_6 : decode method_2_code 6 = .ok (.ldc2_w 7, 3) := by decide +kernel
theorem d1_9 : decode method_2_code 9 = .ok (.bipush 64, 2) := by decide +kernel
theorem d1_11 : decode method_2_code 11 = .ok (.iload_n 0, 1) := by decide +kernel
theorem d1_12 : decode method_2_code 12 = .ok (.isub, 1) := by decide +kernel
theorem d1_13 : decode method_2_code 13 = .ok (.lushr, 1) := by decide +kernel
theorem d1_14 : decode method_2_code 14 = .ok (.lreturn, 1) := by decide +kernel
theorem pn_OwnerBitsEastPinLaw : plainName "com/example/trickwise/trickwise/whist/OwnerBitsEastPinLaw" = true := by first | (simp [plainName, overriddenIn]; done) | decide +kernel
theorem ef_1 (m : MethodId) (p1 : Int32) : entryFrame m #[(.int p1)] 1 = mkF m 0 #[.val (.int p1)] [] := by first | (simp [entryFrame, mkF, argsToLocals, Value.category]; done) | rfl
def Q1 (Z : State) (p1 : Int32) (h0 : Heap) (n0 : Nat) (v : Option Value) (h : Heap) (L : List Loc) : Prop := v = some (.long (own_low p1)) ∧ Fr n0 L ∧ h = h0
set_option maxRecDepth 65536 in
set_option maxHeartbeats 40000000 in
theorem rm1 (l : Launch) (Z : State) (a0 : Array Value) (hw : ∀ d ∈ tables_1, d.before a0 Z = true) (ws : List Jvm.Cond) (p1 : Int32) (h0 : Heap) (n0 : Nat) (Z0 : n0 ≤ h0.size) :
    MetFree l (⟨"com/example/trickwise/trickwise/whist/OwnerBitsEastPinLaw", "lowBits", "(I)J"⟩ : MethodName) (head1 (Jvm.Cond.code (⟨"com/example/trickwise/trickwise/whist/OwnerBitsEastPinLaw", "lowBits", "(I)J"⟩ : MethodName) method_2_code 1 (some .long) :: ws) ({ frames := 0, cells := 0, slots := 0, locals := 0 } : Room)) (fun aa U => aa = #[(.int p1)] ∧ Z.Warmed39 U.vm ∧ U.heap = h0) (fun _ _ _ _ _ => True) (fun _ U o U' => ∃ v L, o = .returned v ∧ Q1 Z p1 h0 n0 v U'.heap L ∧ FrameEnd U o U' L ({ frames := 0, cells := 0, slots := 0, locals := 0 } : Room).cells ({ frames := 0, cells := 0, slots := 0, locals := 0 } : Room).slots) := by
  refine MetFree.of_bodySF (plainFor_of_name pn_OwnerBitsEastPinLaw) hisR ?_
  intro p e s m args below meth c s₁ Bd hml0 hP hK
  obtain ⟨rfl, hZ, hh⟩ := hP
  have hx := Bd.exec
  have hby := Bd.bytes
  have hml : c.maxLocals = 1 := hml0
  have hown : s.vm.findClass "com/example/trickwise/trickwise/whist/OwnerBitsEastPinLaw" = some m.cls := findClass_of_methodNamed Bd.named
  have hnm := (name_of_methodNamed Bd.named Bd.method).1
  have X0 : Stand p l e ({ frames := 0, cells := 0, slots := 0, locals := 0 } : Room) s m #[(.int p1)] below meth c s₁ [] 0 0 := Stand.of_body Bd
  have e0 : s₁.heap = h0 := by rw [← hh, Bd.state]; rfl
  have N0 := Fr.nil n0
  have hlk : meth.locks = false := by first | exact BodyLoose.notSynchronized Bd | exact Body.notSynchronized Bd
  have pre0 : ∀ t, Steps p.tables e below (s₁.setTop (mkF m 0 #[.val (.int p1)] [])) t → Steps p.tables e below (s₁.setTop (entryFrame m #[(.int p1)] 1)) t := fun t k => castTop (ef_1 m p1) k
  have pre1 : ∀ t, Steps p.tables e below (s₁.setTop (mkF m 1 #[.val (.int p1)] [(.int p1)])) t → Steps p.tables e below (s₁.setTop (entryFrame m #[(.int p1)] 1)) t := fun t k => pre0 t (by
    show Steps p.tables e below (s₁.setTop (mkF m 0 #[.val (.int p1)] [])) _
    refine XS.iloadN X0.here hx rfl (hb hby d1_0) rfl ?_
    show Steps p.tables e below (s₁.setTop (mkF m 1 #[.val (.int p1)] [(.int p1)])) _
    exact k)
  by_cases hc1_2 : p1 = (0 : Int32)
  · have pre3 : ∀ t, Steps p.tables e below (s₁.setTop (mkF m 5 #[.val (.int p1)] [(.long (0 : Int64))])) t → Steps p.tables e below (s₁.setTop (entryFrame m #[(.int p1)] 1)) t := fun t k => pre1 t (by
      show Steps p.tables e below (s₁.setTop (mkF m 1 #[.val (.int p1)] [(.int p1)])) _
      refine XS.ifNo X0.here hx rfl (hb hby d1_1) rfl ((if0 _ _).trans (teq hc1_2).2) ?_
      show Steps p.tables e below (s₁.setTop (mkF m 4 #[.val (.int p1)] [])) _
      refine XS.lconst X0.here hx rfl (hb hby d1_4) ?_
      show Steps p.tables e below (s₁.setTop (mkF m 5 #[.val (.int p1)] [(.long (0 : Int64))])) _
      exact k)
    obtain ⟨fs, hr, hrun, hended, hW, hsame⟩ := X0.leave (v := some (.long (0 : Int64))) (fun h => by rw [Bd.returns] at h; cases h) hlk
    refine ⟨_, _, pre3 _ ?_, hrun, hended, _, _, rfl, ?_, ⟨_, rfl⟩, hW, hsame.mono (by decide) (by decide)⟩
    · show Steps p.tables e below (s₁.setTop (mkF m 5 #[.val (.int p1)] [(.long (0 : Int64))])) _
      exact X0.lreturnOut hx Bd.returns (hb hby d1_5) hr
    · show Q1 Z p1 h0 n0 _ s₁.heap _
      rw [e0]
      exact ⟨by simp only [own_low, if_pos hc1_2], N0, rfl⟩
  · have pre4 : ∀ t, Steps p.tables e below (s₁.setTop (mkF m 14 #[.val (.int p1)] [(.long (own_ush (-1 : Int64) ((64 : Int32) - p1)))])) t → Steps p.tables e below (s₁.setTop (entryFrame m #[(.int p1)] 1)) t := fun t k => pre1 t (by
      show Steps p.tables e below (s₁.setTop (mkF m 1 #[.val (.int p1)] [(.int p1)])) _
      refine XS.ifYes X0.here hx rfl (pc0 := 1) (pc' := 6) rfl (hb hby d1_1) rfl ((if0 _ _).trans (feq hc1_2).2) (by decide) (by decide) ?_
      show Steps p.tables e below (s₁.setTop (mkF m 6 #[.val (.int p1)] [])) _
      refine X0.ldc2Long hx hown (mvT hZ (hw _ (List.mem_of_getElem? (i := 5) rfl))) (g := (mkF m 6 #[.val (.int p1)] [])) rfl (hb hby d1_6) _ ?_
      show Steps p.tables e below (s₁.setTop (mkF m 9 #[.val (.int p1)] [(.long (-1 : Int64))])) _
      refine XS.bipush X0.here hx rfl (hb hby d1_9) ?_
      show Steps p.tables e below (s₁.setTop (mkF m 11 #[.val (.int p1)] [(.int (64 : Int32)), (.long (-1 : Int64))])) _
      refine XS.iloadN X0.here hx rfl (hb hby d1_11) rfl ?_
      show Steps p.tables e below (s₁.setTop (mkF m 12 #[.val (.int p1)] [(.int p1), (.int (64 : Int32)), (.long (-1 : Int64))])) _
      refine XS.isub X0.here hx rfl (hb hby d1_12) rfl ?_
      show Steps p.tables e below (s₁.setTop (mkF m 13 #[.val (.int p1)] [(.int ((64 : Int32) - p1)), (.long (-1 : Int64))])) _
      refine XS.lushr X0.here hx rfl (hb hby d1_13) rfl ?_
      show Steps p.tables e below (s₁.setTop (mkF m 14 #[.val (.int p1)] [(.long (own_ush (-1 : Int64) ((64 : Int32) - p1)))])) _
      exact k)
    obtain ⟨fs, hr, hrun, hended, hW, hsame⟩ := X0.leave (v := some (.long (own_ush (-1 : Int64) ((64 : Int32) - p1)))) (fun h => by rw [Bd.returns] at h; cases h) hlk
    refine ⟨_, _, pre4 _ ?_, hrun, hended, _, _, rfl, ?_, ⟨_, rfl⟩, hW, hsame.mono (by decide) (by decide)⟩
    · show Steps p.tables e below (s₁.setTop (mkF m 14 #[.val (.int p1)] [(.long (own_ush (-1 : Int64) ((64 : Int32) - p1)))])) _
      exact X0.lreturnOut hx Bd.returns (hb hby d1_14) hr
    · show Q1 Z p1 h0 n0 _ s₁.heap _
      rw [e0]
      exact ⟨by simp only [own_low, if_neg hc1_2], N0, rfl⟩
theorem d2_0 : decode prog_33_method_3_code 0 = .ok (.lload_n 0, 1) := by decide +kernel
theorem d2_1 : decode prog_33_method_3_code 1 = .ok (.ldc2_w 34, 3) := by decide +kernel
theorem d2_4 : decode prog_33_method_3_code 4 = .ok (.lxor, 1) := by decide +kernel
theorem d2_5 : decode prog_33_method_3_code 5 = .ok (.lconst 1, 1) := by decide +kernel
theorem d2_6 : decode prog_33_method_3_code 6 = .ok (.iload_n 2, 1) := by decide +kernel
theorem d2_7 : decode prog_33_method_3_code 7 = .ok (.lshl, 1) := by decide +kernel
theorem d2_8 : decode prog_33_method_3_code 8 = .ok (.lconst 1, 1) := by decide +kernel
theorem d2_9 : decode prog_33_method_3_code 9 = .ok (.lsub, 1) := by decide +kernel
theorem d2_10 : decode prog_33_method_3_code 10 = .ok (.land, 1) := by decide +kernel
theorem d2_11 : decode prog_33_method_3_code 11 = .ok (.lreturn, 1) := by decide +kernel
theorem pn_OwnerBits : plainName "com/example/trickwise/trickwise/whist/OwnerBits" = true := by first | (simp [plainName, overriddenIn]; done) | decide +kernel
theorem ef_2 (m : MethodId) (q1 : Int64) (p1 : Int32) : entryFrame m #[(.long q1), (.int p1)] 3 = mkF m 0 #[.val (.long q1), .second, .val (.int p1)] [] := by first | (simp [entryFrame, mkF, argsToLocals, Value.category]; done) | rfl
def Q2 (Z : State) (q1 : Int64) (p1 : Int32) (h0 : Heap) (n0 : Nat) (v : Option Value) (h : Heap) (L : List Loc) : Prop := v = some (.long (own_east q1 p1)) ∧ Fr n0 L ∧ h = h0
set_option maxRecDepth 65536 in
set_option maxHeartbeats 40000000 in
theorem rm2 (l : Launch) (Z : State) (a0 : Array Value) (hw : ∀ d ∈ tables_1, d.before a0 Z = true) (ws : List Jvm.Cond) (q1 : Int64) (p1 : Int32) (h0 : Heap) (n0 : Nat) (Z0 : n0 ≤ h0.size) :
    MetFree l (⟨"com/example/trickwise/trickwise/whist/OwnerBits", "east", "(JI)J"⟩ : MethodName) (head1 (Jvm.Cond.code (⟨"com/example/trickwise/trickwise/whist/OwnerBits", "east", "(JI)J"⟩ : MethodName) prog_33_method_3_code 3 (some .long) :: ws) ({ frames := 0, cells := 0, slots := 0, locals := 0 } : Room)) (fun aa U => aa = #[(.long q1), (.int p1)] ∧ Z.Warmed39 U.vm ∧ U.heap = h0) (fun _ _ _ _ _ => True) (fun _ U o U' => ∃ v L, o = .returned v ∧ Q2 Z q1 p1 h0 n0 v U'.heap L ∧ FrameEnd U o U' L ({ frames := 0, cells := 0, slots := 0, locals := 0 } : Room).cells ({ frames := 0, cells := 0, slots := 0, locals := 0 } : Room).slots) := by
  refine MetFree.of_bodySF (plainFor_of_name pn_OwnerBits) hisR ?_
  intro p e s m args below meth c s₁ Bd hml0 hP hK
  obtain ⟨rfl, hZ, hh⟩ := hP
  have hx := Bd.exec
  have hby := Bd.bytes
  have hml : c.maxLocals = 3 := hml0
  have hown : s.vm.findClass "com/example/trickwise/trickwise/whist/OwnerBits" = some m.cls := findClass_of_methodNamed Bd.named
  have hnm := (name_of_methodNamed Bd.named Bd.method).1
  have X0 : Stand p l e ({ frames := 0, cells := 0, slots := 0, locals := 0 } : Room) s m #[(.long q1), (.int p1)] below meth c s₁ [] 0 0 := Stand.of_body Bd
  have e0 : s₁.heap = h0 := by rw [← hh, Bd.state]; rfl
  have N0 := Fr.nil n0
  have hlk : meth.locks = false := by first | exact BodyLoose.notSynchronized Bd | exact Body.notSynchronized Bd
  have pre0 : ∀ t, Steps p.tables e below (s₁.setTop (mkF m 0 #[.val (.long q1), .second, .val (.int p1)] [])) t → Steps p.tables e below (s₁.setTop (entryFrame m #[(.long q1), (.int p1)] 3)) t := fun t k => castTop (ef_2 m q1 p1) k
  have pre1 : ∀ t, Steps p.tables e below (s₁.setTop (mkF m 11 #[.val (.long q1), .second, .val (.int p1)] [(.long (own_east q1 p1))])) t → Steps p.tables e below (s₁.setTop (entryFrame m #[(.long q1), (.int p1)] 3)) t := fun t k => pre0 t (by
    show Steps p.tables e below (s₁.setTop (mkF m 0 #[.val (.long q1), .second, .val (.int p1)] [])) _
    refine XS.lloadN X0.here hx rfl (hb hby d2_0) rfl ?_
    show Steps p.tables e below (s₁.setTop (mkF m 1 #[.val (.long q1), .second, .val (.int p1)] [(.long q1)])) _
    refine X0.ldc2Long hx hown (mvT hZ (hw _ (List.mem_of_getElem? (i := 10) rfl))) (g := (mkF m 1 #[.val (.long q1), .second, .val (.int p1)] [(.long q1)])) rfl (hb hby d2_1) _ ?_
    show Steps p.tables e below (s₁.setTop (mkF m 4 #[.val (.long q1), .second, .val (.int p1)] [(.long (-1 : Int64)), (.long q1)])) _
    refine XS.lxor X0.here hx rfl (hb hby d2_4) rfl ?_
    show Steps p.tables e below (s₁.setTop (mkF m 5 #[.val (.long q1), .second, .val (.int p1)] [(.long (q1 ^^^ (-1 : Int64)))])) _
    refine XS.lconst X0.here hx rfl (hb hby d2_5) ?_
    show Steps p.tables e below (s₁.setTop (mkF m 6 #[.val (.long q1), .second, .val (.int p1)] [(.long (1 : Int64)), (.long (q1 ^^^ (-1 : Int64)))])) _
    refine XS.iloadN X0.here hx rfl (hb hby d2_6) rfl ?_
    show Steps p.tables e below (s₁.setTop (mkF m 7 #[.val (.long q1), .second, .val (.int p1)] [(.int p1), (.long (1 : Int64)), (.long (q1 ^^^ (-1 : Int64)))])) _
    refine XS.lshl X0.here hx rfl (hb hby d2_7) rfl ?_
    show Steps p.tables e below (s₁.setTop (mkF m 8 #[.val (.long q1), .second, .val (.int p1)] [(.long (own_shl (1 : Int64) p1)), (.long (q1 ^^^ (-1 : Int64)))])) _
    refine XS.lconst X0.here hx rfl (hb hby d2_8) ?_
    show Steps p.tables e below (s₁.setTop (mkF m 9 #[.val (.long q1), .second, .val (.int p1)] [(.long (1 : Int64)), (.long (own_shl (1 : Int64) p1)), (.long (q1 ^^^ (-1 : Int64)))])) _
    refine XS.lsub X0.here hx rfl (hb hby d2_9) rfl ?_
    show Steps p.tables e below (s₁.setTop (mkF m 10 #[.val (.long q1), .second, .val (.int p1)] [(.long ((own_shl (1 : Int64) p1) - (1 : Int64))), (.long (q1 ^^^ (-1 : Int64)))])) _
    refine XS.land X0.here hx rfl (hb hby d2_10) rfl ?_
    show Steps p.tables e below (s₁.setTop (mkF m 11 #[.val (.long q1), .second, .val (.int p1)] [(.long (own_east q1 p1))])) _
    exact k)
  obtain ⟨fs, hr, hrun, hended, hW, hsame⟩ := X0.leave (v := some (.long (own_east q1 p1))) (fun h => by rw [Bd.returns] at h; cases h) hlk
  refine ⟨_, _, pre1 _ ?_, hrun, hended, _, _, rfl, ?_, ⟨_, rfl⟩, hW, hsame.mono (by decide) (by decide)⟩
  · show Steps p.tables e below (s₁.setTop (mkF m 11 #[.val (.long q1), .second, .val (.int p1)] [(.long (own_east q1 p1))])) _
    exact X0.lreturnOut hx Bd.returns (hb hby d2_11) hr
  · show Q2 Z q1 p1 h0 n0 _ s₁.heap _
    rw [e0]
    exact ⟨rfl, N0, rfl⟩
theorem pd_0 : parseMethodDescriptor "(I)J" = some ⟨[.int], some .long⟩ := by decide +kernel
theorem pd_1 : parseMethodDescriptor "(JI)J" = some ⟨[.long, .int], some .long⟩ := by decide +kernel
theorem ef_0 (m : MethodId) (q1 : Int64) (p1 : Int32) (p2 : Int32) : entryFrame m #[(.long q1), (.int p1), (.int p2)] maxLocals = mkF m 0 #[.val (.long q1), .second, .val (.int p1), .val (.int p2), .unset, .unset, .unset, .unset, .unset, .unset, .unset, .unset, .unset, .unset, .unset, .unset, .unset, .unset] [] := by first | (simp [entryFrame, mkF, argsToLocals, Value.category, maxLocals]; done) | rfl
def lc0_0 (q1 : Int64) (p1 : Int32) (p2 : Int32) : Array Slot := #[.val (.long q1), .second, .val (.int p1), .val (.int p2), .unset, .unset, .unset, .unset, .unset, .unset, .unset, .unset, .unset, .unset, .unset, .unset, .unset, .unset]
def lc0_1 (q1 : Int64) (p1 : Int32) (p2 : Int32) : Array Slot := #[.val (.long q1), .second, .val (.int p1), .val (.int p2), .val (.int (own_n p1)), .unset, .unset, .unset, .unset, .unset, .unset, .unset, .unset, .unset, .unset, .unset, .unset, .unset]
def lc0_2 (q1 : Int64) (p1 : Int32) (p2 : Int32) : Array Slot := #[.val (.long q1), .second, .val (.int p1), .val (.int p2), .val (.int (own_n p1)), .val (.long (own_low (own_n p1))), .second, .unset, .unset, .unset, .unset, .unset, .unset, .unset, .unset, .unset, .unset, .unset]
def lc0_3 (q1 : Int64) (p1 : Int32) (p2 : Int32) : Array Slot := #[.val (.long q1), .second, .val (.int p1), .val (.int p2), .val (.int (own_n p1)), .val (.long (own_low (own_n p1))), .second, .val (.long (own_w q1 (own_n p1))), .second, .unset, .unset, .unset, .unset, .unset, .unset, .unset, .unset, .unset]
def lc0_4 (q1 : Int64) (p1 : Int32) (p2 : Int32) : Array Slot := #[.val (.long q1), .second, .val (.int p1), .val (.int p2), .val (.int (own_n p1)), .val (.long (own_low (own_n p1))), .second, .val (.long (own_w q1 (own_n p1))), .second, .val (.long (own_east (own_w q1 (own_n p1)) (own_n p1))), .second, .unset, .unset, .unset, .unset, .unset, .unset, .unset]
def lc0_5 (q1 : Int64) (p1 : Int32) (p2 : Int32) : Array Slot := #[.val (.long q1), .second, .val (.int p1), .val (.int p2), .val (.int (own_n p1)), .val (.long (own_low (own_n p1))), .second, .val (.long (own_w q1 (own_n p1))), .second, .val (.long (own_east (own_w q1 (own_n p1)) (own_n p1))), .second, .val (.int (own_i p2)), .unset, .unset, .unset, .unset, .unset, .unset]
def lc0_6 (q1 : Int64) (p1 : Int32) (p2 : Int32) : Array Slot := #[.val (.long q1), .second, .val (.int p1), .val (.int p2), .val (.int (own_n p1)), .val (.long (own_low (own_n p1))), .second, .val (.long (own_w q1 (own_n p1))), .second, .val (.long (own_east (own_w q1 (own_n p1)) (own_n p1))), .second, .val (.int (own_i p2)), .val (.long ((own_ush (own_east (own_w q1 (own_n p1)) (own_n p1)) (own_i p2)) &&& (1 : Int64))), .second, .unset, .unset, .unset, .unset]
def lc0_7 (q1 : Int64) (p1 : Int32) (p2 : Int32) : Array Slot := #[.val (.long q1), .second, .val (.int p1), .val (.int p2), .val (.int (own_n p1)), .val (.long (own_low (own_n p1))), .second, .val (.long (own_w q1 (own_n p1))), .second, .val (.long (own_east (own_w q1 (own_n p1)) (own_n p1))), .second, .val (.int (own_i p2)), .val (.long ((own_ush (own_east (own_w q1 (own_n p1)) (own_n p1)) (own_i p2)) &&& (1 : Int64))), .second, .val (.long ((own_ush (own_w q1 (own_n p1)) (own_i p2)) &&& (1 : Int64))), .second, .unset, .unset]
def lc0_8 (q1 : Int64) (p1 : Int32) (p2 : Int32) : Array Slot := #[.val (.long q1), .second, .val (.int p1), .val (.int p2), .val (.int (own_n p1)), .val (.long (own_low (own_n p1))), .second, .val (.long (own_w q1 (own_n p1))), .second, .val (.long (own_east (own_w q1 (own_n p1)) (own_n p1))), .second, .val (.int (own_i p2)), .val (.long ((own_ush (own_east (own_w q1 (own_n p1)) (own_n p1)) (own_i p2)) &&& (1 : Int64))), .second, .val (.long ((own_ush (own_w q1 (own_n p1)) (own_i p2)) &&& (1 : Int64))), .second, .val (.long (if (own_i p2) < (own_n p1) then (if ((own_ush (own_w q1 (own_n p1)) (own_i p2)) &&& (1 : Int64)) = (0 : Int64) then (1 : Int64) else (0 : Int64)) else (0 : Int64))), .second]
def Q0 (Z : State) (q1 : Int64) (p1 : Int32) (p2 : Int32) (h0 : Heap) (n0 : Nat) (v : Option Value) (h : Heap) (L : List Loc) : Prop := v = some (.int (1 : Int32)) ∧ Fr n0 L
set_option maxRecDepth 65536 in
set_option maxHeartbeats 40000000 in
theorem rm0 (l : Launch) (Z : State) (a0 : Array Value) (hw : ∀ d ∈ tables_1, d.before a0 Z = true) (ws : List Jvm.Cond) (q1 : Int64) (p1 : Int32) (p2 : Int32) (h0 : Heap) (n0 : Nat) (Z0 : n0 ≤ h0.size) :
    MetFree l x (head1 (Jvm.Cond.code x code maxLocals ret :: ws) room_1) (fun aa U => aa = #[(.long q1), (.int p1), (.int p2)] ∧ Z.Warmed39 U.vm ∧ U.heap = h0) (fun _ _ _ _ _ => True) (fun _ U o U' => ∃ v L, o = .returned v ∧ Q0 Z q1 p1 p2 h0 n0 v U'.heap L ∧ FrameEnd U o U' L room_1.cells room_1.slots) := by
  refine MetFree.of_bodySF (plainFor_of_name pn_OwnerBitsEastPinLaw) hisR ?_
  intro p e s m args below meth c s₁ Bd hml0 hP hK
  obtain ⟨rfl, hZ, hh⟩ := hP
  have hx := Bd.exec
  have hby := Bd.bytes
  have hml : c.maxLocals = 18 := hml0
  have hown : s.vm.findClass "com/example/trickwise/trickwise/whist/OwnerBitsEastPinLaw" = some m.cls := findClass_of_methodNamed Bd.named
  have hnm := (name_of_methodNamed Bd.named Bd.method).1
  have X0 : Stand p l e room_1 s m #[(.long q1), (.int p1), (.int p2)] below meth c s₁ [] 0 0 := Stand.of_body Bd
  have e0 : s₁.heap = h0 := by rw [← hh, Bd.state]; rfl
  have N0 := Fr.nil n0
  have hlk : meth.locks = false := by first | exact BodyLoose.notSynchronized Bd | exact Body.notSynchronized Bd
  have pre0 : ∀ t, Steps p.tables e below (s₁.setTop (mkF m 0 #[.val (.long q1), .second, .val (.int p1), .val (.int p2), .unset, .unset, .unset, .unset, .unset, .unset, .unset, .unset, .unset, .unset, .unset, .unset, .unset, .unset] [])) t → Steps p.tables e below (s₁.setTop (entryFrame m #[(.long q1), (.int p1), (.int p2)] maxLocals)) t := fun t k => castTop (ef_0 m q1 p1 p2) k
  have pre1 : ∀ t, Steps p.tables e below (s₁.setTop (mkF m 11 (lc0_1 q1 p1 p2) [(.int (own_n p1))])) t → Steps p.tables e below (s₁.setTop (entryFrame m #[(.long q1), (.int p1), (.int p2)] maxLocals)) t := fun t k => pre0 t (by
    show Steps p.tables e below (s₁.setTop (mkF m 0 (lc0_0 q1 p1 p2) [])) _
    refine XS.iloadN X0.here hx rfl (hb hby at_0) rfl ?_
    show Steps p.tables e below (s₁.setTop (mkF m 1 (lc0_0 q1 p1 p2) [(.int p1)])) _
    refine X0.ldcInt hx hown (mvT hZ (hw _ (List.mem_of_getElem? (i := 0) rfl))) (g := (mkF m 1 (lc0_0 q1 p1 p2) [(.int p1)])) rfl (hb hby at_1) _ ?_
    show Steps p.tables e below (s₁.setTop (mkF m 3 (lc0_0 q1 p1 p2) [(.int (2147483647 : Int32)), (.int p1)])) _
    refine XS.iand X0.here hx rfl (hb hby at_3) rfl ?_
    show Steps p.tables e below (s₁.setTop (mkF m 4 (lc0_0 q1 p1 p2) [(.int (p1 &&& (2147483647 : Int32)))])) _
    refine XS.bipush X0.here hx rfl (hb hby at_4) ?_
    show Steps p.tables e below (s₁.setTop (mkF m 6 (lc0_0 q1 p1 p2) [(.int (63 : Int32)), (.int (p1 &&& (2147483647 : Int32)))])) _
    refine iremM X0 hx rfl (hb hby at_6) rfl (by decide) ?_
    show Steps p.tables e below (s₁.setTop (mkF m 7 (lc0_0 q1 p1 p2) [(.int (own_n p1))])) _
    refine XS.istore X0.here hx rfl (hb hby at_7) rfl (l' := (lc0_1 q1 p1 p2)) rfl ?_
    show Steps p.tables e below (s₁.setTop (mkF m 9 (lc0_1 q1 p1 p2) [])) _
    refine XS.iload X0.here hx rfl (hb hby at_9) rfl ?_
    show Steps p.tables e below (s₁.setTop (mkF m 11 (lc0_1 q1 p1 p2) [(.int (own_n p1))])) _
    exact k)
  obtain ⟨_, _, ⟨T2, L2, k2, n2⟩, -, X2, ⟨Lc2, hQ2, l2, y2, z2⟩, st2⟩ := Jvm.LawKit.callS X0 hx (y := (⟨"com/example/trickwise/trickwise/whist/OwnerBitsEastPinLaw", "lowBits", "(I)J"⟩ : MethodName)) hown (mvT hZ (hw _ (List.mem_of_getElem? (i := 1) rfl))) (mvT hZ (hw _ (List.mem_of_getElem? (i := 2) rfl))) (mvT hZ (hw _ (List.mem_of_getElem? (i := 3) rfl))) (mvT hZ (hw _ (List.mem_of_getElem? (i := 4) rfl))) (by decide) (backOf (W := 0) (rm1 l Z a0 hw [] (own_n p1) h0 n0 Z0) hZ (hw _ (List.mem_of_getElem? (i := 4) rfl)) (hw _ (List.mem_of_getElem? (i := 3) rfl)) (by decide) (by decide)) (g := (mkF m 11 (lc0_1 q1 p1 p2) [(.int (own_n p1))])) rfl (by rw [hml]; rfl) (argsL := [(.int (own_n p1))]) (rest := []) (lenOf pd_0 rfl) rfl (by show 2 * 0 + _ ≤ _; exact Nat.le_of_eq rfl) (hb hby at_11) (fun _ _ => ⟨rfl, e0, (by decide : 0 + 0 ≤ _), (by decide : 0 + 0 ≤ _)⟩)
  dsimp only [Pt.U, Pt.locs, Pt.cells, Pt.slots] at X2 l2 y2 z2 st2 hQ2
  subst l2 y2 z2
  obtain ⟨rfl, N2q, e2⟩ := hQ2
  have N2 := Fr.app N0 N2q
  have pre3 : ∀ t, Steps p.tables e below (T2.setTop (mkF m 14 (lc0_1 q1 p1 p2) [(.long (own_low (own_n p1)))])) t → Steps p.tables e below (s₁.setTop (entryFrame m #[(.long q1), (.int p1), (.int p2)] maxLocals)) t := fun t k => pre1 t (st2 t k)
  have pre4 : ∀ t, Steps p.tables e below (T2.setTop (mkF m 26 (lc0_3 q1 p1 p2) [(.int (own_n p1)), (.long (own_w q1 (own_n p1)))])) t → Steps p.tables e below (s₁.setTop (entryFrame m #[(.long q1), (.int p1), (.int p2)] maxLocals)) t := fun t k => pre3 t (by
    show Steps p.tables e below (T2.setTop (mkF m 14 (lc0_1 q1 p1 p2) [(.long (own_low (own_n p1)))])) _
    refine XS.lstore X2.here hx rfl (hb hby at_14) rfl (l' := (lc0_2 q1 p1 p2)) rfl ?_
    show Steps p.tables e below (T2.setTop (mkF m 16 (lc0_2 q1 p1 p2) [])) _
    refine XS.lloadN X2.here hx rfl (hb hby at_16) rfl ?_
    show Steps p.tables e below (T2.setTop (mkF m 17 (lc0_2 q1 p1 p2) [(.long q1)])) _
    refine XS.lload X2.here hx rfl (hb hby at_17) rfl ?_
    show Steps p.tables e below (T2.setTop (mkF m 19 (lc0_2 q1 p1 p2) [(.long (own_low (own_n p1))), (.long q1)])) _
    refine XS.land X2.here hx rfl (hb hby at_19) rfl ?_
    show Steps p.tables e below (T2.setTop (mkF m 20 (lc0_2 q1 p1 p2) [(.long (own_w q1 (own_n p1)))])) _
    refine XS.lstore X2.here hx rfl (hb hby at_20) rfl (l' := (lc0_3 q1 p1 p2)) rfl ?_
    show Steps p.tables e below (T2.setTop (mkF m 22 (lc0_3 q1 p1 p2) [])) _
    refine XS.lload X2.here hx rfl (hb hby at_22) rfl ?_
    show Steps p.tables e below (T2.setTop (mkF m 24 (lc0_3 q1 p1 p2) [(.long (own_w q1 (own_n p1)))])) _
    refine XS.iload X2.here hx rfl (hb hby at_24) rfl ?_
    show Steps p.tables e below (T2.setTop (mkF m 26 (lc0_3 q1 p1 p2) [(.int (own_n p1)), (.long (own_w q1 (own_n p1)))])) _
    exact k)
  obtain ⟨_, _, ⟨T5, L5, k5, n5⟩, -, X5, ⟨Lc5, hQ5, l5, y5, z5⟩, st5⟩ := Jvm.LawKit.callS X2 hx (y := (⟨"com/example/trickwise/trickwise/whist/OwnerBits", "east", "(JI)J"⟩ : MethodName)) hown (mvT hZ (hw _ (List.mem_of_getElem? (i := 6) rfl))) (mvT hZ (hw _ (List.mem_of_getElem? (i := 7) rfl))) (mvT hZ (hw _ (List.mem_of_getElem? (i := 8) rfl))) (mvT hZ (hw _ (List.mem_of_getElem? (i := 9) rfl))) (by decide) (backOf (W := 0) (rm2 l Z a0 hw [] (own_w q1 (own_n p1)) (own_n p1) h0 n0 Z0) hZ (hw _ (List.mem_of_getElem? (i := 9) rfl)) (hw _ (List.mem_of_getElem? (i := 8) rfl)) (by decide) (by decide)) (g := (mkF m 26 (lc0_3 q1 p1 p2) [(.int (own_n p1)), (.long (own_w q1 (own_n p1)))])) rfl (by rw [hml]; rfl) (argsL := [(.long (own_w q1 (own_n p1))), (.int (own_n p1))]) (rest := []) (lenOf pd_1 rfl) rfl (by show 2 * 0 + _ ≤ _; exact Nat.le_of_eq rfl) (hb hby at_26) (fun _ _ => ⟨rfl, e2, (by decide : 0 + 0 ≤ _), (by decide : 0 + 0 ≤ _)⟩)
  dsimp only [Pt.U, Pt.locs, Pt.cells, Pt.slots] at X5 l5 y5 z5 st5 hQ5
  subst l5 y5 z5
  obtain ⟨rfl, N5q, e5⟩ := hQ5
  have N5 := Fr.app N2 N5q
  have pre6 : ∀ t, Steps p.tables e below (T5.setTop (mkF m 29 (lc0_3 q1 p1 p2) [(.long (own_east (own_w q1 (own_n p1)) (own_n p1)))])) t → Steps p.tables e below (s₁.setTop (entryFrame m #[(.long q1), (.int p1), (.int p2)] maxLocals)) t := fun t k => pre4 t (st5 t k)
  have pre7 : ∀ t, Steps p.tables e below (T5.setTop (mkF m 59 (lc0_7 q1 p1 p2) [(.int (own_n p1)), (.int (own_i p2))])) t → Steps p.tables e below (s₁.setTop (entryFrame m #[(.long q1), (.int p1), (.int p2)] maxLocals)) t := fun t k => pre6 t (by
    show Steps p.tables e below (T5.setTop (mkF m 29 (lc0_3 q1 p1 p2) [(.long (own_east (own_w q1 (own_n p1)) (own_n p1)))])) _
    refine XS.lstore X5.here hx rfl (hb hby at_29) rfl (l' := (lc0_4 q1 p1 p2)) rfl ?_
    show Steps p.tables e below (T5.setTop (mkF m 31 (lc0_4 q1 p1 p2) [])) _
    refine XS.iloadN X5.here hx rfl (hb hby at_31) rfl ?_
    show Steps p.tables e below (T5.setTop (mkF m 32 (lc0_4 q1 p1 p2) [(.int p2)])) _
    refine XS.bipush X5.here hx rfl (hb hby at_32) ?_
    show Steps p.tables e below (T5.setTop (mkF m 34 (lc0_4 q1 p1 p2) [(.int (63 : Int32)), (.int p2)])) _
    refine XS.iand X5.here hx rfl (hb hby at_34) rfl ?_
    show Steps p.tables e below (T5.setTop (mkF m 35 (lc0_4 q1 p1 p2) [(.int (own_i p2))])) _
    refine XS.istore X5.here hx rfl (hb hby at_35) rfl (l' := (lc0_5 q1 p1 p2)) rfl ?_
    show Steps p.tables e below (T5.setTop (mkF m 37 (lc0_5 q1 p1 p2) [])) _
    refine XS.lload X5.here hx rfl (hb hby at_37) rfl ?_
    show Steps p.tables e below (T5.setTop (mkF m 39 (lc0_5 q1 p1 p2) [(.long (own_east (own_w q1 (own_n p1)) (own_n p1)))])) _
    refine XS.iload X5.here hx rfl (hb hby at_39) rfl ?_
    show Steps p.tables e below (T5.setTop (mkF m 41 (lc0_5 q1 p1 p2) [(.int (own_i p2)), (.long (own_east (own_w q1 (own_n p1)) (own_n p1)))])) _
    refine XS.lushr X5.here hx rfl (hb hby at_41) rfl ?_
    show Steps p.tables e below (T5.setTop (mkF m 42 (lc0_5 q1 p1 p2) [(.long (own_ush (own_east (own_w q1 (own_n p1)) (own_n p1)) (own_i p2)))])) _
    refine XS.lconst X5.here hx rfl (hb hby at_42) ?_
    show Steps p.tables e below (T5.setTop (mkF m 43 (lc0_5 q1 p1 p2) [(.long (1 : Int64)), (.long (own_ush (own_east (own_w q1 (own_n p1)) (own_n p1)) (own_i p2)))])) _
    refine XS.land X5.here hx rfl (hb hby at_43) rfl ?_
    show Steps p.tables e below (T5.setTop (mkF m 44 (lc0_5 q1 p1 p2) [(.long ((own_ush (own_east (own_w q1 (own_n p1)) (own_n p1)) (own_i p2)) &&& (1 : Int64)))])) _
    refine XS.lstore X5.here hx rfl (hb hby at_44) rfl (l' := (lc0_6 q1 p1 p2)) rfl ?_
    show Steps p.tables e below (T5.setTop (mkF m 46 (lc0_6 q1 p1 p2) [])) _
    refine XS.lload X5.here hx rfl (hb hby at_46) rfl ?_
    show Steps p.tables e below (T5.setTop (mkF m 48 (lc0_6 q1 p1 p2) [(.long (own_w q1 (own_n p1)))])) _
    refine XS.iload X5.here hx rfl (hb hby at_48) rfl ?_
    show Steps p.tables e below (T5.setTop (mkF m 50 (lc0_6 q1 p1 p2) [(.int (own_i p2)), (.long (own_w q1 (own_n p1)))])) _
    refine XS.lushr X5.here hx rfl (hb hby at_50) rfl ?_
    show Steps p.tables e below (T5.setTop (mkF m 51 (lc0_6 q1 p1 p2) [(.long (own_ush (own_w q1 (own_n p1)) (own_i p2)))])) _
    refine XS.lconst X5.here hx rfl (hb hby at_51) ?_
    show Steps p.tables e below (T5.setTop (mkF m 52 (lc0_6 q1 p1 p2) [(.long (1 : Int64)), (.long (own_ush (own_w q1 (own_n p1)) (own_i p2)))])) _
    refine XS.land X5.here hx rfl (hb hby at_52) rfl ?_
    show Steps p.tables e below (T5.setTop (mkF m 53 (lc0_6 q1 p1 p2) [(.long ((own_ush (own_w q1 (own_n p1)) (own_i p2)) &&& (1 : Int64)))])) _
    refine XS.lstore X5.here hx rfl (hb hby at_53) rfl (l' := (lc0_7 q1 p1 p2)) rfl ?_
    show Steps p.tables e below (T5.setTop (mkF m 55 (lc0_7 q1 p1 p2) [])) _
    refine XS.iload X5.here hx rfl (hb hby at_55) rfl ?_
    show Steps p.tables e below (T5.setTop (mkF m 57 (lc0_7 q1 p1 p2) [(.int (own_i p2))])) _
    refine XS.iload X5.here hx rfl (hb hby at_57) rfl ?_
    show Steps p.tables e below (T5.setTop (mkF m 59 (lc0_7 q1 p1 p2) [(.int (own_n p1)), (.int (own_i p2))])) _
    exact k)
  have pre10 : ∀ t, Steps p.tables e below (T5.setTop (mkF m 74 (lc0_7 q1 p1 p2) [(.long (if (own_i p2) < (own_n p1) then (if ((own_ush (own_w q1 (own_n p1)) (own_i p2)) &&& (1 : Int64)) = (0 : Int64) then (1 : Int64) else (0 : Int64)) else (0 : Int64)))])) t → Steps p.tables e below (s₁.setTop (entryFrame m #[(.long q1), (.int p1), (.int p2)] maxLocals)) t := fun t k => pre7 t (by
    show Steps p.tables e below (T5.setTop (mkF m 59 (lc0_7 q1 p1 p2) [(.int (own_n p1)), (.int (own_i p2))])) _
    by_cases hm59_8 : (own_i p2) < (own_n p1)
    · refine XS.icmpNo X5.here hx rfl (hb hby at_59) rfl (tlt hm59_8).2.1 ?_
      show Steps p.tables e below (T5.setTop (mkF m 62 (lc0_7 q1 p1 p2) [])) _
      refine XS.lload X5.here hx rfl (hb hby at_62) rfl ?_
      show Steps p.tables e below (T5.setTop (mkF m 64 (lc0_7 q1 p1 p2) [(.long ((own_ush (own_w q1 (own_n p1)) (own_i p2)) &&& (1 : Int64)))])) _
      refine XS.lconst X5.here hx rfl (hb hby at_64) ?_
      show Steps p.tables e below (T5.setTop (mkF m 65 (lc0_7 q1 p1 p2) [(.long (0 : Int64)), (.long ((own_ush (own_w q1 (own_n p1)) (own_i p2)) &&& (1 : Int64)))])) _
      refine XS.lcmp X5.here hx rfl (hb hby at_65) rfl ?_
      show Steps p.tables e below (T5.setTop (mkF m 66 (lc0_7 q1 p1 p2) [(.int (lcmpW ((own_ush (own_w q1 (own_n p1)) (own_i p2)) &&& (1 : Int64)) (0 : Int64)))])) _
      by_cases hm66_9 : ((own_ush (own_w q1 (own_n p1)) (own_i p2)) &&& (1 : Int64)) = (0 : Int64)
      · refine XS.ifNo X5.here hx rfl (hb hby at_66) rfl ((if0 _ _).trans (teq ((lw_eq _ _).mpr hm66_9)).2) ?_
        show Steps p.tables e below (T5.setTop (mkF m 69 (lc0_7 q1 p1 p2) [])) _
        refine XS.lconst X5.here hx rfl (hb hby at_69) ?_
        show Steps p.tables e below (T5.setTop (mkF m 70 (lc0_7 q1 p1 p2) [(.long (1 : Int64))])) _
        refine XS.goto X5.here hx rfl (pc0 := 70) (pc' := 74) rfl (hb hby at_70) (by decide) (by decide) ?_
        show Steps p.tables e below (T5.setTop (mkF m 74 (lc0_7 q1 p1 p2) [(.long (1 : Int64))])) _
        have q : (if (own_i p2) < (own_n p1) then (if ((own_ush (own_w q1 (own_n p1)) (own_i p2)) &&& (1 : Int64)) = (0 : Int64) then (1 : Int64) else (0 : Int64)) else (0 : Int64)) = (1 : Int64) := by simp only [if_pos hm59_8, if_pos hm66_9]
        exact Eq.subst (motive := fun x => Steps p.tables e below (T5.setTop (mkF m 74 #[.val (.long q1), .second, .val (.int p1), .val (.int p2), .val (.int (own_n p1)), .val (.long (own_low (own_n p1))), .second, .val (.long (own_w q1 (own_n p1))), .second, .val (.long (own_east (own_w q1 (own_n p1)) (own_n p1))), .second, .val (.int (own_i p2)), .val (.long ((own_ush (own_east (own_w q1 (own_n p1)) (own_n p1)) (own_i p2)) &&& (1 : Int64))), .second, .val (.long ((own_ush (own_w q1 (own_n p1)) (own_i p2)) &&& (1 : Int64))), .second, .unset, .unset] [(.long x)])) t) q k
      · refine XS.ifYes X5.here hx rfl (pc0 := 66) (pc' := 73) rfl (hb hby at_66) rfl ((if0 _ _).trans (feq (fun q => hm66_9 ((lw_eq _ _).mp q))).2) (by decide) (by decide) ?_
        show Steps p.tables e below (T5.setTop (mkF m 73 (lc0_7 q1 p1 p2) [])) _
        refine XS.lconst X5.here hx rfl (hb hby at_73) ?_
        show Steps p.tables e below (T5.setTop (mkF m 74 (lc0_7 q1 p1 p2) [(.long (0 : Int64))])) _
        have q : (if (own_i p2) < (own_n p1) then (if ((own_ush (own_w q1 (own_n p1)) (own_i p2)) &&& (1 : Int64)) = (0 : Int64) then (1 : Int64) else (0 : Int64)) else (0 : Int64)) = (0 : Int64) := by simp only [if_pos hm59_8, if_neg hm66_9]
        exact Eq.subst (motive := fun x => Steps p.tables e below (T5.setTop (mkF m 74 #[.val (.long q1), .second, .val (.int p1), .val (.int p2), .val (.int (own_n p1)), .val (.long (own_low (own_n p1))), .second, .val (.long (own_w q1 (own_n p1))), .second, .val (.long (own_east (own_w q1 (own_n p1)) (own_n p1))), .second, .val (.int (own_i p2)), .val (.long ((own_ush (own_east (own_w q1 (own_n p1)) (own_n p1)) (own_i p2)) &&& (1 : Int64))), .second, .val (.long ((own_ush (own_w q1 (own_n p1)) (own_i p2)) &&& (1 : Int64))), .second, .unset, .unset] [(.long x)])) t) q k
    · refine XS.icmpYes X5.here hx rfl (pc0 := 59) (pc' := 73) rfl (hb hby at_59) rfl (flt hm59_8).2.1 (by decide) (by decide) ?_
      show Steps p.tables e below (T5.setTop (mkF m 73 (lc0_7 q1 p1 p2) [])) _
      refine XS.lconst X5.here hx rfl (hb hby at_73) ?_
      show Steps p.tables e below (T5.setTop (mkF m 74 (lc0_7 q1 p1 p2) [(.long (0 : Int64))])) _
      have q : (if (own_i p2) < (own_n p1) then (if ((own_ush (own_w q1 (own_n p1)) (own_i p2)) &&& (1 : Int64)) = (0 : Int64) then (1 : Int64) else (0 : Int64)) else (0 : Int64)) = (0 : Int64) := by simp only [if_neg hm59_8]
      exact Eq.subst (motive := fun x => Steps p.tables e below (T5.setTop (mkF m 74 #[.val (.long q1), .second, .val (.int p1), .val (.int p2), .val (.int (own_n p1)), .val (.long (own_low (own_n p1))), .second, .val (.long (own_w q1 (own_n p1))), .second, .val (.long (own_east (own_w q1 (own_n p1)) (own_n p1))), .second, .val (.int (own_i p2)), .val (.long ((own_ush (own_east (own_w q1 (own_n p1)) (own_n p1)) (own_i p2)) &&& (1 : Int64))), .second, .val (.long ((own_ush (own_w q1 (own_n p1)) (own_i p2)) &&& (1 : Int64))), .second, .unset, .unset] [(.long x)])) t) q k)
  have pre11 : ∀ t, Steps p.tables e below (T5.setTop (mkF m 110 (lc0_8 q1 p1 p2) [(.int (1 : Int32))])) t → Steps p.tables e below (s₁.setTop (entryFrame m #[(.long q1), (.int p1), (.int p2)] maxLocals)) t := fun t k => pre10 t (by
    show Steps p.tables e below (T5.setTop (mkF m 74 (lc0_7 q1 p1 p2) [(.long (if (own_i p2) < (own_n p1) then (if ((own_ush (own_w q1 (own_n p1)) (own_i p2)) &&& (1 : Int64)) = (0 : Int64) then (1 : Int64) else (0 : Int64)) else (0 : Int64)))])) _
    refine XS.lstore X5.here hx rfl (hb hby at_74) rfl (l' := (lc0_8 q1 p1 p2)) rfl ?_
    show Steps p.tables e below (T5.setTop (mkF m 76 (lc0_8 q1 p1 p2) [])) _
    refine XS.lload X5.here hx rfl (hb hby at_76) rfl ?_
    show Steps p.tables e below (T5.setTop (mkF m 78 (lc0_8 q1 p1 p2) [(.long ((own_ush (own_east (own_w q1 (own_n p1)) (own_n p1)) (own_i p2)) &&& (1 : Int64)))])) _
    refine XS.lload X5.here hx rfl (hb hby at_78) rfl ?_
    show Steps p.tables e below (T5.setTop (mkF m 80 (lc0_8 q1 p1 p2) [(.long (if (own_i p2) < (own_n p1) then (if ((own_ush (own_w q1 (own_n p1)) (own_i p2)) &&& (1 : Int64)) = (0 : Int64) then (1 : Int64) else (0 : Int64)) else (0 : Int64))), (.long ((own_ush (own_east (own_w q1 (own_n p1)) (own_n p1)) (own_i p2)) &&& (1 : Int64)))])) _
    refine XS.lcmp X5.here hx rfl (hb hby at_80) rfl ?_
    show Steps p.tables e below (T5.setTop (mkF m 81 (lc0_8 q1 p1 p2) [(.int (lcmpW ((own_ush (own_east (own_w q1 (own_n p1)) (own_n p1)) (own_i p2)) &&& (1 : Int64)) (if (own_i p2) < (own_n p1) then (if ((own_ush (own_w q1 (own_n p1)) (own_i p2)) &&& (1 : Int64)) = (0 : Int64) then (1 : Int64) else (0 : Int64)) else (0 : Int64))))])) _
    refine XS.ifNo X5.here hx rfl (hb hby at_81) rfl ((if0 _ _).trans (teq ((lw_eq _ _).mpr (show ((own_ush (own_east (own_w q1 (own_n p1)) (own_n p1)) (own_i p2)) &&& (1 : Int64)) = (if (own_i p2) < (own_n p1) then (if ((own_ush (own_w q1 (own_n p1)) (own_i p2)) &&& (1 : Int64)) = (0 : Int64) then (1 : Int64) else (0 : Int64)) else (0 : Int64)) from own_law1 q1 p1 p2))).2) ?_
    show Steps p.tables e below (T5.setTop (mkF m 84 (lc0_8 q1 p1 p2) [])) _
    refine XS.lload X5.here hx rfl (hb hby at_84) rfl ?_
    show Steps p.tables e below (T5.setTop (mkF m 86 (lc0_8 q1 p1 p2) [(.long (own_east (own_w q1 (own_n p1)) (own_n p1)))])) _
    refine XS.lload X5.here hx rfl (hb hby at_86) rfl ?_
    show Steps p.tables e below (T5.setTop (mkF m 88 (lc0_8 q1 p1 p2) [(.long (own_w q1 (own_n p1))), (.long (own_east (own_w q1 (own_n p1)) (own_n p1)))])) _
    refine XS.land X5.here hx rfl (hb hby at_88) rfl ?_
    show Steps p.tables e below (T5.setTop (mkF m 89 (lc0_8 q1 p1 p2) [(.long ((own_east (own_w q1 (own_n p1)) (own_n p1)) &&& (own_w q1 (own_n p1))))])) _
    refine XS.lconst X5.here hx rfl (hb hby at_89) ?_
    show Steps p.tables e below (T5.setTop (mkF m 90 (lc0_8 q1 p1 p2) [(.long (0 : Int64)), (.long ((own_east (own_w q1 (own_n p1)) (own_n p1)) &&& (own_w q1 (own_n p1))))])) _
    refine XS.lcmp X5.here hx rfl (hb hby at_90) rfl ?_
    show Steps p.tables e below (T5.setTop (mkF m 91 (lc0_8 q1 p1 p2) [(.int (lcmpW ((own_east (own_w q1 (own_n p1)) (own_n p1)) &&& (own_w q1 (own_n p1))) (0 : Int64)))])) _
    refine XS.ifNo X5.here hx rfl (hb hby at_91) rfl ((if0 _ _).trans (teq ((lw_eq _ _).mpr (show ((own_east (own_w q1 (own_n p1)) (own_n p1)) &&& (own_w q1 (own_n p1))) = (0 : Int64) from own_law2 q1 p1))).2) ?_
    show Steps p.tables e below (T5.setTop (mkF m 94 (lc0_8 q1 p1 p2) [])) _
    refine XS.lload X5.here hx rfl (hb hby at_94) rfl ?_
    show Steps p.tables e below (T5.setTop (mkF m 96 (lc0_8 q1 p1 p2) [(.long (own_east (own_w q1 (own_n p1)) (own_n p1)))])) _
    refine XS.lload X5.here hx rfl (hb hby at_96) rfl ?_
    show Steps p.tables e below (T5.setTop (mkF m 98 (lc0_8 q1 p1 p2) [(.long (own_w q1 (own_n p1))), (.long (own_east (own_w q1 (own_n p1)) (own_n p1)))])) _
    refine XS.lor X5.here hx rfl (hb hby at_98) rfl ?_
    show Steps p.tables e below (T5.setTop (mkF m 99 (lc0_8 q1 p1 p2) [(.long ((own_east (own_w q1 (own_n p1)) (own_n p1)) ||| (own_w q1 (own_n p1))))])) _
    refine XS.lload X5.here hx rfl (hb hby at_99) rfl ?_
    show Steps p.tables e below (T5.setTop (mkF m 101 (lc0_8 q1 p1 p2) [(.long (own_low (own_n p1))), (.long ((own_east (own_w q1 (own_n p1)) (own_n p1)) ||| (own_w q1 (own_n p1))))])) _
    refine XS.lcmp X5.here hx rfl (hb hby at_101) rfl ?_
    show Steps p.tables e below (T5.setTop (mkF m 102 (lc0_8 q1 p1 p2) [(.int (lcmpW ((own_east (own_w q1 (own_n p1)) (own_n p1)) ||| (own_w q1 (own_n p1))) (own_low (own_n p1))))])) _
    refine XS.ifNo X5.here hx rfl (hb hby at_102) rfl ((if0 _ _).trans (teq ((lw_eq _ _).mpr (show ((own_east (own_w q1 (own_n p1)) (own_n p1)) ||| (own_w q1 (own_n p1))) = (own_low (own_n p1)) from own_law3 q1 p1))).2) ?_
    show Steps p.tables e below (T5.setTop (mkF m 105 (lc0_8 q1 p1 p2) [])) _
    refine XS.iconst X5.here hx rfl (hb hby at_105) ?_
    show Steps p.tables e below (T5.setTop (mkF m 106 (lc0_8 q1 p1 p2) [(.int (1 : Int32))])) _
    refine XS.goto X5.here hx rfl (pc0 := 106) (pc' := 110) rfl (hb hby at_106) (by decide) (by decide) ?_
    show Steps p.tables e below (T5.setTop (mkF m 110 (lc0_8 q1 p1 p2) [(.int (1 : Int32))])) _
    exact k)
  obtain ⟨fs, hr, hrun, hended, hW, hsame⟩ := X5.leave (v := some (.int (1 : Int32))) (fun h => by rw [Bd.returns] at h; cases h) hlk
  refine ⟨_, _, pre11 _ ?_, hrun, hended, _, _, rfl, ?_, ⟨_, rfl⟩, hW, hsame.mono (by decide) (by decide)⟩
  · show Steps p.tables e below (T5.setTop (mkF m 110 (lc0_8 q1 p1 p2) [(.int (1 : Int32))])) _
    exact retN X5 hx (t := .boolean) Bd.returns (by simp) (hb hby at_110) hr
  · show Q0 Z q1 p1 p2 h0 n0 _ T5.heap _
    rw [e5]
    exact ⟨rfl, N5⟩
set_option maxRecDepth 65536 in
set_option maxHeartbeats 40000000 in
theorem comes_1 {Post : Tables → Env → Array Value → State → Outcome → State → Prop} (hpost : ∀ tb e args s v u, (limb_1_1.after args s (.returned v) u = true ∧ limb_1_2.after args s (.returned v) u = true ∧ True) → FrameEnd s (.returned v) u (Jvm.fieldLocs frame_1_writes args s ++ Jvm.arrayLocs frame_1_arrays args s ++ Jvm.staticLocs frame_1_statics s) 0 0 → Post tb e args s (.returned v) u) :
    ArmFor flags0 classFile x code maxLocals ret World_1 tables_1 room_1 Calls_1 rest_1 Pre_1 Post := by
  intro l hfl _ _ p e ha hc hk s m args below hf hA hF happ hP
  obtain ⟨hcalls, hrest, hpre⟩ := hP
  obtain ⟨-, -, -, hnamed, -, -, -, hat⟩ := (Spec.applies_iff hf).mp happ
  obtain ⟨hg, hn⟩ := and_e (Cond.before_iff.mp (show (Jvm.Cond.and given_1 narrow_1).before args s = true from hpre))
  obtain ⟨hcnt, g0⟩ := and_e hg
  obtain ⟨k0, g1⟩ := and_e g0
  obtain ⟨k1, g2⟩ := and_e g1
  have k2 := g2
  obtain ⟨w0, w1, w2, rfl⟩ : ∃ w0 w1 w2 : Value, args = #[w0, w1, w2] := by
    have hs : args.size = 3 := by simpa [Cond.value, given_1] using hcnt
    obtain ⟨L⟩ := args
    match L, hs with
    | [w0, w1, w2], _ => exact ⟨w0, w1, w2, rfl⟩
  have hw := fun d (hd : d ∈ tables_1) => atoms_spec (ws := Jvm.Cond.code x code maxLocals ret :: tables_1) hat d (List.mem_cons_of_mem _ hd)
  obtain ⟨i0, ei0⟩ := isL_v k0
  obtain rfl : w0 = (.long i0) := Option.some.inj ei0
  obtain ⟨i1, ei1⟩ := is_v k1
  obtain rfl : w1 = (.int i1) := Option.some.inj ei1
  obtain ⟨i2, ei2⟩ := is_v k2
  obtain rfl : w2 = (.int i2) := Option.some.inj ei2
  obtain ⟨n, o, h1, h2, h3, _, L, rfl, ⟨rfl, N⟩, hq⟩ := rm0 l s _ hw tables_1 i0 i1 i2 s.heap s.heap.size (Nat.le_refl _) p e ha hc hk s m _ below hf ((Spec.applies_iff_loose hf).mp happ).1 ⟨rfl, State.Warmed39.refl s, rfl⟩ trivial
  refine ⟨n, _, h1, h2, h3, hpost _ _ _ _ _ _ ⟨Cond.after_iff.mpr rfl, Cond.after_iff.mpr (eq_i res_at (Term.int_eval (1)) rfl), trivial⟩ ⟨hq.1, hq.2.1, (hq.2.2.sift fun y hy => Or.inr (N y hy)).mono (by decide) (by decide)⟩⟩
theorem main_1_1 : Claimed_1_1 := comes_1 fun _ _ _ _ _ _ h hF => ⟨h.1, hF⟩
theorem main_1_2 : Claimed_1_2 := comes_1 fun _ _ _ _ _ _ h hF => ⟨h.2.1, hF⟩
end Jvm.Pilot.@@N@@
namespace Jvm.Pilot.@@N@@
open Jvm Jvm.ClassFile Sem Op Lib Jvm.Free Jvm.Stand Jvm.Pilot.@@N@@.Jvm.D
/-! MADE BY PROGRAM (witnessworld.py) out of the Statement's table words and the real class files: 9 classes; the members and pool entries that the words name. The judged class is class 1, her method 2. -/
namespace start1
open Jvm.ClassFile
def u (s : String) : CpInfo := .utf8 (stringToUtf16 s)
/-- a pool by its gaps: so many unusable entries, then the entry; so many at the end -/
def gap : Nat → List CpInfo → List CpInfo
  | 0, r => r
  | n + 1, r => .unusable :: gap n r
def poolList (es : List (Nat × CpInfo)) (last : Nat) : List CpInfo := es.foldr (fun e r => gap e.1 (e.2 :: r)) (gap last [])
def pool (es : List (Nat × CpInfo)) (last : Nat) : Array CpInfo := ⟨poolList es last⟩
def fileOf (pool : Array CpInfo) (this : Nat) (attrs : Array Attribute := #[]) (ms : Array MethodInfo := #[]) (fl : Nat := 33) (sup : Nat := 0) (ifs : Array Nat := #[]) (fds : Array FieldInfo := #[]) : ClassFile where
  minorVersion := 0
  majorVersion := 65
  constantPool := pool
  accessFlags := fl
  thisClass := this
  superClass := sup
  interfaces := ifs
  fields := fds
  methods := ms
  attributes := attrs
def plain (name : String) (sup : Option ClassId) : Class where
  name := name
  kind := .ordinary
  loader := none
  accessFlags := 33
  super := sup
  interfaces := #[]
  cf := none
  fields := #[]
  methods := #[]
  instanceTypes := #[]
  staticTypes := #[]
  resolved := #[]
  callSites := []
  init := .initialized
  statics := none
  mirror := none

def pool0 : Array CpInfo := pool [(5, u "<init>"), (0, u "()V"), (1, .class_ 10), (1, u "java/lang/Object")] 113

def k0m0 : Method := { name := "<init>", desc := "()V", sig := { parameters := [], returnType := none }, accessFlags := 1, code := none }
/-- java/lang/Object -/
def k0 : Class := { plain "java/lang/Object" none with
  accessFlags := 33
  interfaces := #[]
  cf := some (fileOf pool0 8 #[] #[{ accessFlags := 1, nameIndex := 5, descriptorIndex := 6, attributes := #[] }] 33 0 #[] #[])
  fields := #[]
  methods := #[k0m0]
  instanceTypes := #[]
  staticTypes := #[]
  resolved := Array.replicate 124 none
  statics := none }

def pool1 : Array CpInfo := pool [(2, .class_ 4), (1, u "java/lang/Object"), (0, u "<init>"), (0, u "()V"), (0, .long 18446744073709551615), (1, .integer 2147483647), (0, .methodref 11 12), (0, .class_ 13), (0, .nameAndType 14 15), (0, u "com/example/trickwise/trickwise/whist/OwnerBitsEastPinLaw"), (0, u "lowBits"), (0, u "(I)J"), (0, .methodref 17 18), (0, .class_ 19), (0, .nameAndType 20 21), (0, u "com/example/trickwise/trickwise/whist/OwnerBits"), (0, u "east"), (0, u "(JI)J"), (3, u "law"), (0, u "(JII)Z")] 2

def k1m0 : Method := { name := "<init>", desc := "()V", sig := { parameters := [], returnType := none }, accessFlags := 2, code := none }
def k1c1 : Code := { maxStack := 4, maxLocals := 1, code := method_2_code, exceptionTable := #[], attributes := #[] }
def k1m1 : Method := { name := "lowBits", desc := "(I)J", sig := { parameters := [.int], returnType := some .long }, accessFlags := 10, code := some k1c1 }
def k1c2 : Code := { maxStack := 4, maxLocals := 18, code := code, exceptionTable := #[], attributes := #[] }
def k1m2 : Method := { name := "law", desc := "(JII)Z", sig := { parameters := [.long, .int, .int], returnType := some .boolean }, accessFlags := 9, code := some k1c2 }
/-- com/example/trickwise/trickwise/whist/OwnerBitsEastPinLaw -/
def k1 : Class := { plain "com/example/trickwise/trickwise/whist/OwnerBitsEastPinLaw" (some 0) with
  accessFlags := 49
  interfaces := #[]
  cf := some (fileOf pool1 11 #[] #[{ accessFlags := 2, nameIndex := 5, descriptorIndex := 6, attributes := #[] }, { accessFlags := 10, nameIndex := 14, descriptorIndex := 15, attributes := #[] }, { accessFlags := 9, nameIndex := 25, descriptorIndex := 26, attributes := #[] }] 49 2 #[] #[])
  fields := #[]
  methods := #[k1m0, k1m1, k1m2]
  instanceTypes := #[]
  staticTypes := #[]
  resolved := Array.replicate 29 none
  statics := none }

def pool2 : Array CpInfo := pool [(2, .class_ 4), (1, u "java/lang/Object"), (0, u "<init>"), (0, u "()V"), (6, .class_ 14), (0, u "com/example/trickwise/trickwise/whist/OwnerBits"), (19, .long 18446744073709551615), (10, u "(JI)J"), (3, u "MAX_CARDS_PER_HAND"), (0, u "I"), (7, u "east")] 19

def k2m0 : Method := { name := "<init>", desc := "()V", sig := { parameters := [], returnType := none }, accessFlags := 2, code := none }
def k2c1 : Code := { maxStack := 6, maxLocals := 3, code := prog_33_method_3_code, exceptionTable := #[], attributes := #[] }
def k2m1 : Method := { name := "east", desc := "(JI)J", sig := { parameters := [.long, .int], returnType := some .long }, accessFlags := 8, code := some k2c1 }
/-- com/example/trickwise/trickwise/whist/OwnerBits -/
def k2 : Class := { plain "com/example/trickwise/trickwise/whist/OwnerBits" (some 0) with
  accessFlags := 48
  interfaces := #[]
  cf := some (fileOf pool2 13 #[] #[{ accessFlags := 2, nameIndex := 5, descriptorIndex := 6, attributes := #[] }, { accessFlags := 8, nameIndex := 58, descriptorIndex := 45, attributes := #[] }] 48 2 #[] #[{ accessFlags := 24, nameIndex := 49, descriptorIndex := 50, attributes := #[] }])
  fields := #[{ name := "MAX_CARDS_PER_HAND", type := .int, accessFlags := 24, slot := 0, constantValue := 0 }]
  methods := #[k2m0, k2m1]
  instanceTypes := #[]
  staticTypes := #[.int]
  resolved := Array.replicate 78 none
  statics := none }

def pool3 : Array CpInfo := pool [(1, u "java/lang/Cloneable"), (0, .class_ 1), (0, u "java/lang/Object"), (0, .class_ 3)] 3

/-- java/lang/Cloneable -/
def k3 : Class := { plain "java/lang/Cloneable" (some 0) with
  accessFlags := 1537
  interfaces := #[]
  cf := some (fileOf pool3 2 #[] #[] 1537 4 #[] #[])
  fields := #[]
  methods := #[]
  instanceTypes := #[]
  staticTypes := #[]
  resolved := Array.replicate 8 none
  statics := none }

def pool4 : Array CpInfo := pool [(1, u "java/io/Serializable"), (0, .class_ 1), (0, u "java/lang/Object"), (0, .class_ 3)] 3

/-- java/io/Serializable -/
def k4 : Class := { plain "java/io/Serializable" (some 0) with
  accessFlags := 1537
  interfaces := #[]
  cf := some (fileOf pool4 2 #[] #[] 1537 4 #[] #[])
  fields := #[]
  methods := #[]
  instanceTypes := #[]
  staticTypes := #[]
  resolved := Array.replicate 8 none
  statics := none }

/-- the primitive byte -/
def k5 : Class := { plain "byte" none with kind := .primitive 'B', accessFlags := 0x411 }
/-- [B -/
def k6 : Class := { plain "[B" (some 0) with kind := .array 5 .byte, interfaces := #[3, 4], accessFlags := 1041 }

/-- the primitive int -/
def k7 : Class := { plain "int" none with kind := .primitive 'I', accessFlags := 0x411 }
/-- [I -/
def k8 : Class := { plain "[I" (some 0) with kind := .array 7 .int, interfaces := #[3, 4], accessFlags := 1041 }

def heap : Heap := #[]
def classes : Array Class := #[k0, k1, k2, k3, k4, k5, k6, k7, k8]
def interned : List (Array UInt16 × Addr) := []
def slotsUsed : Nat := 0
def theMethod : MethodId := ⟨1, 2⟩
def args0 : Array Value := #[.long 5, .int 5, .int 5]
def aboutOver (below : List Frame) : State where
  vm := { classes := classes, interned := interned.toArray }
  heap := heap
  slotsUsed := slotsUsed
  threads := #[{ frames := .invoking theMethod args0 :: below }]
def below0 : List Frame := [.native { method := ⟨0, 0⟩, args := #[] }]
def about1 : State := aboutOver below0
def p0 : Program := .bare "" "" ""
def e0 : Env := launch0.env 0 0 0
theorem w_frames : about1.frames = Frame.invoking theMethod args0 :: below0 := rfl
set_option maxRecDepth 65536 in
theorem w_args : argsFit about1.vm theMethod args0 = true := by decide +kernel
set_option maxRecDepth 65536 in
theorem w_heap : heapFits about1 = true := by decide +kernel
set_option maxRecDepth 65536 in
theorem w_runnable : about1.curStatus? = some .runnable := by decide +kernel
set_option maxRecDepth 65536 in
theorem w_alone : about1.alone = true := by decide +kernel
set_option maxRecDepth 65536 in
theorem w_named : about1.methodNamed? x = some theMethod := by decide +kernel
set_option maxRecDepth 65536 in
theorem w_hears : about1.hears theMethod below0 = true := by decide +kernel
set_option maxRecDepth 65536 in
theorem w_ripe : about1.ripe theMethod args0 below0 = true := by decide +kernel
theorem w_running : about1.status = .running := rfl
set_option maxRecDepth 65536 in
theorem w_room : about1.hasRoom e0.platform room_1 = true :=
  launch0.hasRoom_least _ room_1 (by decide +kernel) (by decide +kernel) (by decide +kernel) (by decide +kernel) (by decide +kernel) (by decide +kernel)
theorem allAtoms_all (ts : List Jvm.Cond) (a : Array Jvm.Value) (st : Jvm.State) : (allAtoms ts).before a st = ts.all (fun c => c.before a st) := by
  induction ts with
  | nil => rfl
  | cons c t ih =>
    show (Jvm.Cond.and c (allAtoms t)).before a st = _
    rw [Jvm.Cond.before_and, ih, List.all_cons]
def words1 : List Jvm.Cond := Jvm.Cond.code x code maxLocals ret :: tables_1
/-- a 'code' word, met by the world's own term for the bytes: nothing is compared byte by byte -/
theorem code_word {y : MethodName} {bytes : ByteArray} {mx : Nat} {rt : Option FieldType} {a : Array Value} {s : State} {m : MethodId} {meth : Method} {c : Code} (h1 : s.methodNamed? y = some m) (h2 : s.vm.method? m = some meth) (h3 : meth.code = some c) (h4 : c.code = bytes)
    (h5 : (c.maxLocals == mx && c.exceptionTable.isEmpty && decide (c.maxStack ≤ mostOperands) && decide (meth.sig.returnType = rt) && !meth.locks && decide (parseMethodDescriptor y.desc = some meth.sig)) = true) : (Jvm.Cond.code y bytes mx rt).before a s = true := by
  simp only [Bool.and_eq_true, beq_iff_eq, Bool.not_eq_true', decide_eq_true_eq] at h5
  obtain ⟨⟨⟨⟨⟨g1, g2⟩, g3⟩, g4⟩, g5⟩, g6⟩ := h5
  simp [Cond.before, Cond.holds, Cond.value, h1, h2, h3, h4, g1, g2, g3, g4, g5, g6]
def isCode : Jvm.Cond → Bool
  | .code _ _ _ _ => true
  | _ => false
theorem all_split {L : List Jvm.Cond} {P : Jvm.Cond → Bool} (h1 : L.all (fun c => isCode c || P c) = true) (h2 : ∀ c ∈ L.filter isCode, P c = true) : L.all P = true := by
  refine List.all_eq_true.mpr fun c hc => ?_
  have h := List.all_eq_true.mp h1 c hc
  rcases Bool.eq_false_or_eq_true (isCode c) with hi | hi
  · exact h2 c (List.mem_filter.mpr ⟨hc, hi⟩)
  · simpa [hi] using h
set_option maxRecDepth 65536 in
theorem w_c0 : (Jvm.Cond.code x code maxLocals ret).before args0 about1 = true := code_word (m := ⟨1, 2⟩) (meth := k1m2) (c := k1c2) (by decide +kernel) rfl rfl rfl (by decide +kernel)
set_option maxRecDepth 65536 in
theorem w_c1 : (Jvm.Cond.code ({ cls := "com/example/trickwise/trickwise/whist/OwnerBitsEastPinLaw", name := "lowBits", desc := "(I)J" } : Jvm.MethodName) method_2_code (1 : Nat) (Option.some Jvm.ClassFile.FieldType.long)).before args0 about1 = true := code_word (m := ⟨1, 1⟩) (meth := k1m1) (c := k1c1) (by decide +kernel) rfl rfl rfl (by decide +kernel)
set_option maxRecDepth 65536 in
theorem w_c2 : (Jvm.Cond.code ({ cls := "com/example/trickwise/trickwise/whist/OwnerBits", name := "east", desc := "(JI)J" } : Jvm.MethodName) prog_33_method_3_code (3 : Nat) (Option.some Jvm.ClassFile.FieldType.long)).before args0 about1 = true := code_word (m := ⟨2, 1⟩) (meth := k2m1) (c := k2c1) (by decide +kernel) rfl rfl rfl (by decide +kernel)
def codes1 : List Jvm.Cond := [Jvm.Cond.code x code maxLocals ret, Jvm.Cond.code ({ cls := "com/example/trickwise/trickwise/whist/OwnerBitsEastPinLaw", name := "lowBits", desc := "(I)J" } : Jvm.MethodName) method_2_code (1 : Nat) (Option.some Jvm.ClassFile.FieldType.long), Jvm.Cond.code ({ cls := "com/example/trickwise/trickwise/whist/OwnerBits", name := "east", desc := "(JI)J" } : Jvm.MethodName) prog_33_method_3_code (3 : Nat) (Option.some Jvm.ClassFile.FieldType.long)]
set_option maxRecDepth 65536 in
theorem codes_eq : words1.filter isCode = codes1 := rfl
theorem w_codes : ∀ c ∈ words1.filter isCode, c.before args0 about1 = true := by
  rw [codes_eq]
  intro c hc
  simp only [codes1, List.mem_cons, List.not_mem_nil, or_false] at hc
  rcases hc with rfl | rfl | rfl
  · exact w_c0
  · exact w_c1
  · exact w_c2
set_option maxRecDepth 65536 in
theorem w_t1 : words1.all (fun c => isCode c || c.before args0 about1) = true := by decide +kernel
theorem w_tables : (allAtoms (Jvm.Cond.code x code maxLocals ret :: tables_1)).before args0 about1 = true := by
  rw [allAtoms_all]
  show words1.all (fun c => c.before args0 about1) = true
  refine all_split ?_ w_codes
  rw [w_t1]
set_option maxRecDepth 65536 in
theorem w_case : (Jvm.Cond.and given_1 narrow_1).before args0 about1 = true := by decide +kernel
theorem w_applies : (headSpec (Jvm.Cond.code x code maxLocals ret :: tables_1) room_1).applies x e0.platform about1 = true :=
  (Spec.applies_iff w_frames).mpr ⟨w_running, w_runnable, w_alone, w_named, w_hears, w_ripe, w_room, w_tables⟩
theorem atStart : AtStart classFile x code maxLocals ret World_1 tables_1 room_1 Calls_1 rest_1 Pre_1 launch0 p0 e0 about1 theMethod args0 below0 :=
  ⟨lists_1, trivial, launch0.admits_env _ _ _, launch0.least_env, fairChoices_fair.cas, fairChoices_fair.clock, w_frames, w_args, w_heap, w_applies, trivial, trivial, w_case⟩
end start1
theorem witness_1 : WitnessClaimed_1 := ⟨start1.p0, start1.e0, start1.about1, start1.theMethod, start1.args0, start1.below0, start1.atStart⟩
end Jvm.Pilot.@@N@@
