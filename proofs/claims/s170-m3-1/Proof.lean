import JvmDerived
import JvmDerived.Pilot.@@N@@Statement
import JvmDerived.Pilot.@@N@@Code
set_option linter.unusedVariables false
set_option linter.unusedSimpArgs false
@@BLOCK:NumsL.lean.txt@@
namespace Jvm.RoadKit
open Sem ClassFile Op Lib Jvm.Stand Jvm.Free Jvm.LawKit
section New
variable {p : Program} {l : Launch} {e : Env} {R : Room} {s : State} {m : MethodId} {args : Array Value} {below : List Frame} {meth : Method} {c : Code} {T : State} {locs : List Loc} {cells slots : Nat}
theorem retI (X : Stand p l e R s m args below meth c T locs cells slots) (hx : p.tables.exec = Jvm.exec) {pc : Nat} {Ls : Array Slot} {z : Int32} {rest : List Value} (hret : meth.sig.returnType = some .int) (hd : decode c.code pc = .ok (.ireturn, 1)) {fs : List Frame}
    (hl : ∀ (f : JFrame) (acts : List Action), f.method = m → f.locked = none → f.entered = [] → (doReturn e (T.setTop f) acts (some (.int z))).1 = T.setFrames fs) : Steps p.tables e below (T.setTop (mkF m pc Ls (.int z :: rest))) (T.setFrames fs) := by
  have hm' : T.vm.method? m = some meth := X.method'
  have hn : narrow .int (.int z) = .int z := rfl
  show Steps p.tables e below (T.setTop { method := m, pc := pc, locals := Ls, stack := _ :: rest, locked := none }) _
  jvm_step X.here [X.here.top, hx, hd, hm', hret, hn]
  first | (intro acts; rw [hl _ acts rfl rfl rfl]) | rw [hl _ _ rfl rfl rfl]
  exact Steps.refl _
end New
end Jvm.RoadKit
namespace Jvm.Pilot.@@N@@
open Jvm Jvm.ClassFile Sem Op Lib Jvm.Free Jvm.Stand Jvm.LawKit Jvm.RoadKit Bundle Jvm.Pilot.@@N@@.Jvm.D
def own_ush (x : Int64) (s : Int32) : Int64 := ((x.toUInt64 >>> (s &&& 0x3f).toInt64.toUInt64).toInt64)
def own_shl (x : Int64) (s : Int32) : Int64 := (x <<< (s &&& 0x3f).toInt64)
def own_shr (x : Int64) (s : Int32) : Int64 := (x >>> (s &&& 0x3f).toInt64)
def own_iush (x s : Int32) : Int32 := ((x.toUInt32 >>> (s &&& 31).toUInt32).toInt32)
def own_ishl (x s : Int32) : Int32 := (x <<< (s &&& 31))
def own_ishr (x s : Int32) : Int32 := (x >>> (s &&& 31))
def own_lrem (x y : Int64) : Int64 := x - (x / y) * y
theorem own_ush_eq (x : Int64) (s : Int32) (k : Nat) (hs : ((s &&& 0x3f).toInt64.toUInt64.toBitVec % 64#64).toNat = k) : (own_ush x s).toBitVec = x.toBitVec >>> k := by
  subst hs; rfl
theorem own_shl_eq (x : Int64) (s : Int32) (k : Nat) (hs : ((s &&& 0x3f).toInt64.toBitVec.smod 64#64).toNat = k) : (own_shl x s).toBitVec = x.toBitVec <<< k := by
  subst hs; rfl
theorem own_fin64 : ∀ k : Fin 64, ((Int32.ofNat k.val &&& 0x3f).toInt64.toUInt64.toBitVec % 64#64).toNat = k.val := by decide +kernel
theorem own_fin64' : ∀ k : Fin 64, ((Int32.ofNat k.val &&& 0x3f).toInt64.toBitVec.smod 64#64).toNat = k.val := by decide +kernel
theorem own_ushN (x : Int64) (k : Nat) (hk : k < 64) : (own_ush x (Int32.ofNat k)).toBitVec = x.toBitVec >>> k := own_ush_eq x _ k (own_fin64 ⟨k, hk⟩)
theorem own_shlN (x : Int64) (k : Nat) (hk : k < 64) : (own_shl x (Int32.ofNat k)).toBitVec = x.toBitVec <<< k := own_shl_eq x _ k (own_fin64' ⟨k, hk⟩)
theorem own_nat (s : Int32) (h0 : 0 ≤ s.toInt) : s = Int32.ofNat s.toInt.toNat := by
  have h := s.toInt_lt
  apply Int32.toInt_inj.mp
  rw [Int32.toInt_ofNat_of_lt (by omega)]
  omega
theorem own_natI (k : Nat) (h : k < 2 ^ 31) : (Int32.ofNat k).toInt = k := Int32.toInt_ofNat_of_lt h
theorem own_bit1 (x : BitVec 64) : x &&& 1#64 = if x.getLsbD 0 = true then 1#64 else 0#64 := by
  apply BitVec.eq_of_getLsbD_eq; intro i hi
  rw [BitVec.getLsbD_and, BitVec.getLsbD_one]
  by_cases h0 : i = 0
  · subst h0; cases h : x.getLsbD 0 <;> simp
  · have h1 : (if x.getLsbD 0 = true then 1#64 else 0#64).getLsbD i = false := by
      split
      · rw [BitVec.getLsbD_one]; simp; omega
      · exact BitVec.getLsbD_zero
    rw [h1]; simp [h0]
theorem own_shbit (x : Int64) (k : Nat) (hk : k < 64) : (own_ush x (Int32.ofNat k)) &&& (1 : Int64) = if x.toBitVec.getLsbD k = true then (1 : Int64) else (0 : Int64) := by
  apply Int64.toBitVec_inj.mp
  have e : ((own_ush x (Int32.ofNat k)) &&& (1 : Int64)).toBitVec = (x.toBitVec >>> k) &&& 1#64 := by rw [Int64.toBitVec_and, own_ushN x k hk]; rfl
  rw [e, own_bit1, BitVec.getLsbD_ushiftRight, Nat.add_zero]
  split <;> rfl
theorem own_rem (x m : Int32) (hm : 0 < m.toInt) : ∃ k : Nat, (k : Int) < m.toInt ∧ (x &&& (2147483647 : Int32)) % m = Int32.ofNat k := by
  have h1 : (x &&& (2147483647 : Int32)).toInt = x.toInt % 2 ^ 31 := Jvm.Kit.i32_mask x 2147483647 (k := 31) (by decide) (by decide)
  have h2 : 0 ≤ (x &&& (2147483647 : Int32)).toInt := by rw [h1]; exact Int.emod_nonneg _ (by decide)
  have h3 := Jvm.Kit.i32_rem_nonneg (y := m) h2
  have h4 : 0 ≤ ((x &&& (2147483647 : Int32)) % m).toInt := by rw [h3]; exact Int.emod_nonneg _ (by omega)
  have h5 : ((x &&& (2147483647 : Int32)) % m).toInt < m.toInt := by rw [h3]; exact Int.emod_lt_of_pos _ hm
  refine ⟨((x &&& (2147483647 : Int32)) % m).toInt.toNat, by omega, own_nat _ h4⟩
theorem own_m63 (x : Int32) : ∃ k : Nat, k < 64 ∧ x &&& (63 : Int32) = Int32.ofNat k := by
  have h1 : (x &&& (63 : Int32)).toInt = x.toInt % 2 ^ 6 := Jvm.Kit.i32_mask x 63 (k := 6) (by decide) (by decide)
  refine ⟨(x &&& (63 : Int32)).toInt.toNat, by omega, own_nat _ (by omega)⟩
theorem own_lt (a b : Nat) (ha : a < 2 ^ 31) (hb : b < 2 ^ 31) : (Int32.ofNat a < Int32.ofNat b) ↔ a < b := by
  rw [Int32.lt_iff_toInt_lt, own_natI a ha, own_natI b hb]; omega
theorem own_allones (i : Nat) (hi : i < 64) : (-1 : Int64).toBitVec.getLsbD i = true := by
  have h : ∀ k : Fin 64, (-1 : Int64).toBitVec.getLsbD k.val = true := by decide +kernel
  exact h ⟨i, hi⟩
def own_min (a b : Int32) : Int32 := if b < a then b else a
def own_max (a b : Int32) : Int32 := if a < b then b else a
def own_wc (w : Int64) (i : Int32) : Int64 := own_shl (own_ush w (i + (1 : Int32))) i ||| (w &&& (own_shl (1 : Int64) i - (1 : Int64)))
def own_wt (w : Int64) (a b : Int32) : Int64 := own_wc (own_wc w (own_max a b)) (own_min a b)
def own_a (p : Int32) : Int32 := (p &&& (2147483647 : Int32)) % (62 : Int32)
def own_b (p q : Int32) : Int32 := ((own_a p + (1 : Int32)) + ((q &&& (2147483647 : Int32)) % (61 : Int32))) % (62 : Int32)
def own_i (p : Int32) : Int32 := p &&& (63 : Int32)
theorem own_mask_b : ∀ k : Fin 63, ∀ i : Fin 64, (own_shl (1 : Int64) (Int32.ofNat k.val) - (1 : Int64)).toBitVec.getLsbD i.val = decide (i.val < k.val) := by decide +kernel
theorem own_succ (k : Nat) : Int32.ofNat k + (1 : Int32) = Int32.ofNat (k + 1) := Int32.ofNat_succ k
theorem own_wcbit (w : Int64) (k i : Nat) (hk : k < 62) (hi : i < 64) : (own_wc w (Int32.ofNat k)).toBitVec.getLsbD i = if i < k then w.toBitVec.getLsbD i else w.toBitVec.getLsbD (i + 1) := by
  rw [own_wc, own_succ, Int64.toBitVec_or, BitVec.getLsbD_or, own_shlN _ k (by omega), own_ushN _ (k + 1) (by omega), Int64.toBitVec_and, BitVec.getLsbD_and, own_mask_b ⟨k, by omega⟩ ⟨i, hi⟩, BitVec.getLsbD_shiftLeft, BitVec.getLsbD_ushiftRight]
  by_cases h : i < k
  · simp [h, hi]
  · have e : k + 1 + (i - k) = i + 1 := by omega
    simp [h, hi, e]
theorem own_aa (p : Int32) : ∃ k : Nat, k < 62 ∧ own_a p = Int32.ofNat k := by
  obtain ⟨k, h, e⟩ := own_rem p 62 (by decide)
  have h : (k : Int) < 62 := h
  exact ⟨k, by omega, e⟩
theorem own_bb (p q : Int32) (k : Nat) (hk : k < 62) (e : own_a p = Int32.ofNat k) : ∃ j : Nat, j < 62 ∧ j ≠ k ∧ own_b p q = Int32.ofNat j := by
  obtain ⟨c, h, ec⟩ := own_rem q 61 (by decide)
  have h : (c : Int) < 61 := h
  have e1 : (own_b p q).toInt = ((k : Int) + 1 + c) % 62 := by
    rw [own_b, e, ec]
    have a1 : (Int32.ofNat k).toInt = k := own_natI k (by omega)
    have a2 : (Int32.ofNat c).toInt = c := own_natI c (by omega)
    have a3 : (1 : Int32).toInt = 1 := by decide
    have a4 : (62 : Int32).toInt = 62 := by decide
    have b1 : (Int32.ofNat k + (1 : Int32)).toInt = (k : Int) + 1 := by rw [Jvm.Kit.i32_add (by omega) (by omega)]; omega
    have b2 : ((Int32.ofNat k + (1 : Int32)) + Int32.ofNat c).toInt = (k : Int) + 1 + c := by rw [Jvm.Kit.i32_add (by omega) (by omega)]; omega
    rw [Jvm.Kit.i32_rem_nonneg (by omega), b2, a4]
  refine ⟨(own_b p q).toInt.toNat, by omega, by omega, own_nat _ (by omega)⟩
theorem own_lawN (w : Int64) (lo hi p : Nat) (h1 : lo < hi) (h2 : hi < 62) (hp : p < 64) :
    own_ush (own_wc (own_wc w (Int32.ofNat hi)) (Int32.ofNat lo)) (Int32.ofNat p) &&& (1 : Int64) = (if Int32.ofNat p < Int32.ofNat lo then (own_ush w (Int32.ofNat p) &&& (1 : Int64)) else (if Int32.ofNat p < (Int32.ofNat hi - (1 : Int32)) then (own_ush w (Int32.ofNat p + (1 : Int32)) &&& (1 : Int64)) else (if (63 : Int32) < (Int32.ofNat p + (2 : Int32)) then (0 : Int64) else (own_ush w (Int32.ofNat p + (2 : Int32)) &&& (1 : Int64))))) := by
  obtain ⟨h', rfl⟩ : ∃ h', hi = h' + 1 := ⟨hi - 1, by omega⟩
  have e1 : Int32.ofNat (h' + 1) - (1 : Int32) = Int32.ofNat h' := by
    rw [← own_succ]; exact Int32.add_sub_cancel ..
  have e2 : Int32.ofNat p + (2 : Int32) = Int32.ofNat (p + 2) := by
    have : (2 : Int32) = 1 + 1 := by decide
    rw [this, ← Int32.add_assoc, own_succ, own_succ]
  have e3 : (63 : Int32) = Int32.ofNat 63 := by decide
  rw [own_shbit _ p hp, own_wcbit _ lo p (by omega) hp, e1, e2, own_succ, e3]
  simp only [own_lt p lo (by omega) (by omega), own_lt p h' (by omega) (by omega), own_lt 63 (p + 2) (by omega) (by omega)]
  by_cases c1 : p < lo
  · simp only [if_pos c1]
    rw [own_shbit _ p hp, own_wcbit _ _ p (by omega) hp, if_pos (show p < h' + 1 by omega)]
  · simp only [if_neg c1]
    by_cases c4 : p + 1 < 64
    · by_cases c2 : p < h'
      · simp only [if_pos c2]
        rw [own_shbit _ (p + 1) c4, own_wcbit _ _ (p + 1) (by omega) c4, if_pos (show p + 1 < h' + 1 by omega)]
      · simp only [if_neg c2]
        rw [own_wcbit _ _ (p + 1) (by omega) c4, if_neg (show ¬ (p + 1 < h' + 1) by omega)]
        by_cases c3 : 63 < p + 2
        · simp only [if_pos c3]
          rw [BitVec.getLsbD_of_ge _ _ (by omega)]; rfl
        · simp only [if_neg c3]
          rw [own_shbit _ (p + 2) (by omega)]
    · simp only [if_neg (show ¬ (p < h') by omega), if_pos (show 63 < p + 2 by omega)]
      rw [BitVec.getLsbD_of_ge _ _ (by omega)]; rfl
theorem own_law (w : Int64) (p1 p2 p3 : Int32) :
    own_ush (own_wt w (own_a p1) (own_b p1 p2)) (own_i p3) &&& (1 : Int64) = (if own_i p3 < own_min (own_a p1) (own_b p1 p2) then (own_ush w (own_i p3) &&& (1 : Int64)) else (if own_i p3 < (own_max (own_a p1) (own_b p1 p2) - (1 : Int32)) then (own_ush w (own_i p3 + (1 : Int32)) &&& (1 : Int64)) else (if (63 : Int32) < (own_i p3 + (2 : Int32)) then (0 : Int64) else (own_ush w (own_i p3 + (2 : Int32)) &&& (1 : Int64))))) := by
  obtain ⟨k, hk, e⟩ := own_aa p1
  obtain ⟨j, hj, hne, e2⟩ := own_bb p1 p2 k hk e
  obtain ⟨i, hi, e3⟩ := own_m63 p3
  have e3 : own_i p3 = Int32.ofNat i := e3
  rw [own_wt, e, e2, e3, own_min, own_max]
  simp only [own_lt j k (by omega) (by omega), own_lt k j (by omega) (by omega)]
  by_cases c : j < k
  · rw [if_pos c, if_neg (by omega)]; exact own_lawN w j k i c hk hi
  · rw [if_neg c, if_pos (by omega)]; exact own_lawN w k j i (by omega) hj hi
theorem d1_0 : decode jdk_29_method_69_code 0 = .ok (.iload_n 0, 1) := by decide +kernel
theorem d1_1 : decode jdk_29_method_69_code 1 = .ok (.iload_n 1, 1) := by decide +kernel
theorem d1_2 : decode jdk_29_method_69_code 2 = .ok (.if_icmp .gt 7, 3) := by decide +kernel
theorem d1_5 : decode jdk_29_method_69_code 5 = .ok (.iload_n 0, 1) := by decide +kernel
theorem d1_6 : decode jdk_29_method_69_code 6 = .ok (.goto 4, 3) := by decide +kernel
theorem d1_9 : decode jdk_29_method_69_code 9 = .ok (.iload_n 1, 1) := by decide +kernel
theorem d1_10 : decode jdk_29_method_69_code 10 = .ok (.ireturn, 1) := by decide +kernel
theorem ef_1 (m : MethodId) (p1 : Int32) (p2 : Int32) : entryFrame m #[(.int p1), (.int p2)] 2 = mkF m 0 #[.val (.int p1), .val (.int p2)] [] := by first | (simp [entryFrame, mkF, argsToLocals, Value.category]; done) | rfl
def Q1 (Z : State) (p1 : Int32) (p2 : Int32) (h0 : Heap) (n0 : Nat) (v : Option Value) (h : Heap) (L : List Loc) : Prop := v = some (.int (own_min p1 p2)) ∧ Fr n0 L ∧ h = h0
set_option maxRecDepth 65536 in
set_option maxHeartbeats 40000000 in
theorem rm1 (l : Launch) (Z : State) (a0 : Array Value) (hw : ∀ d ∈ tables_1, d.before a0 Z = true) (ws : List Jvm.Cond) (p1 : Int32) (p2 : Int32) (h0 : Heap) (n0 : Nat) (Z0 : n0 ≤ h0.size) :
    MetFree l (⟨"java/lang/Math", "min", "(II)I"⟩ : MethodName) (head1 (Jvm.Cond.code (⟨"java/lang/Math", "min", "(II)I"⟩ : MethodName) jdk_29_method_69_code 2 (some .int) :: ws) ({ frames := 0, cells := 0, slots := 0, locals := 0 } : Room)) (fun aa U => aa = #[(.int p1), (.int p2)] ∧ Z.Warmed39 U.vm ∧ U.heap = h0) (fun _ _ _ _ _ => True) (fun _ U o U' => ∃ v L, o = .returned v ∧ Q1 Z p1 p2 h0 n0 v U'.heap L ∧ FrameEnd U o U' L ({ frames := 0, cells := 0, slots := 0, locals := 0 } : Room).cells ({ frames := 0, cells := 0, slots := 0, locals := 0 } : Room).slots) := by
  refine MetFree.of_bodySF (Jvm.Free.JP.mathPlain rfl (by decide +kernel)) hisR ?_
  intro p e s m args below meth c s₁ Bd hml0 hP hK
  obtain ⟨rfl, hZ, hh⟩ := hP
  have hx := Bd.exec
  have hby := Bd.bytes
  have hml : c.maxLocals = 2 := hml0
  have hown : s.vm.findClass "java/lang/Math" = some m.cls := findClass_of_methodNamed Bd.named
  have hnm := (name_of_methodNamed Bd.named Bd.method).1
  have X0 : Stand p l e ({ frames := 0, cells := 0, slots := 0, locals := 0 } : Room) s m #[(.int p1), (.int p2)] below meth c s₁ [] 0 0 := Stand.of_body Bd
  have e0 : s₁.heap = h0 := by rw [← hh, Bd.state]; rfl
  have N0 := Fr.nil n0
  have hlk : meth.locks = false := by first | exact BodyLoose.notSynchronized Bd | exact Body.notSynchronized Bd
  have pre0 : ∀ t, Steps p.tables e below (s₁.setTop (mkF m 0 #[.val (.int p1), .val (.int p2)] [])) t → Steps p.tables e below (s₁.setTop (entryFrame m #[(.int p1), (.int p2)] 2)) t := fun t k => castTop (ef_1 m p1 p2) k
  have pre1 : ∀ t, Steps p.tables e below (s₁.setTop (mkF m 2 #[.val (.int p1), .val (.int p2)] [(.int p2), (.int p1)])) t → Steps p.tables e below (s₁.setTop (entryFrame m #[(.int p1), (.int p2)] 2)) t := fun t k => pre0 t (by
    show Steps p.tables e below (s₁.setTop (mkF m 0 #[.val (.int p1), .val (.int p2)] [])) _
    refine XS.iloadN X0.here hx rfl (hb hby d1_0) rfl ?_
    show Steps p.tables e below (s₁.setTop (mkF m 1 #[.val (.int p1), .val (.int p2)] [(.int p1)])) _
    refine XS.iloadN X0.here hx rfl (hb hby d1_1) rfl ?_
    show Steps p.tables e below (s₁.setTop (mkF m 2 #[.val (.int p1), .val (.int p2)] [(.int p2), (.int p1)])) _
    exact k)
  by_cases hc2_2 : p2 < p1
  · have pre3 : ∀ t, Steps p.tables e below (s₁.setTop (mkF m 10 #[.val (.int p1), .val (.int p2)] [(.int p2)])) t → Steps p.tables e below (s₁.setTop (entryFrame m #[(.int p1), (.int p2)] 2)) t := fun t k => pre1 t (by
      show Steps p.tables e below (s₁.setTop (mkF m 2 #[.val (.int p1), .val (.int p2)] [(.int p2), (.int p1)])) _
      refine XS.icmpYes X0.here hx rfl (pc0 := 2) (pc' := 9) rfl (hb hby d1_2) rfl (tlt hc2_2).2.2.1 (by decide) (by decide) ?_
      show Steps p.tables e below (s₁.setTop (mkF m 9 #[.val (.int p1), .val (.int p2)] [])) _
      refine XS.iloadN X0.here hx rfl (hb hby d1_9) rfl ?_
      show Steps p.tables e below (s₁.setTop (mkF m 10 #[.val (.int p1), .val (.int p2)] [(.int p2)])) _
      exact k)
    obtain ⟨fs, hr, hrun, hended, hW, hsame⟩ := X0.leave (v := some (.int p2)) (fun h => by rw [Bd.returns] at h; cases h) hlk
    refine ⟨_, _, pre3 _ ?_, hrun, hended, _, _, rfl, ?_, ⟨_, rfl⟩, hW, hsame.mono (by decide) (by decide)⟩
    · show Steps p.tables e below (s₁.setTop (mkF m 10 #[.val (.int p1), .val (.int p2)] [(.int p2)])) _
      exact retI X0 hx Bd.returns (hb hby d1_10) hr
    · show Q1 Z p1 p2 h0 n0 _ s₁.heap _
      rw [e0]
      exact ⟨by simp only [own_min, if_pos hc2_2], N0, rfl⟩
  · have pre4 : ∀ t, Steps p.tables e below (s₁.setTop (mkF m 10 #[.val (.int p1), .val (.int p2)] [(.int p1)])) t → Steps p.tables e below (s₁.setTop (entryFrame m #[(.int p1), (.int p2)] 2)) t := fun t k => pre1 t (by
      show Steps p.tables e below (s₁.setTop (mkF m 2 #[.val (.int p1), .val (.int p2)] [(.int p2), (.int p1)])) _
      refine XS.icmpNo X0.here hx rfl (hb hby d1_2) rfl (flt hc2_2).2.2.1 ?_
      show Steps p.tables e below (s₁.setTop (mkF m 5 #[.val (.int p1), .val (.int p2)] [])) _
      refine XS.iloadN X0.here hx rfl (hb hby d1_5) rfl ?_
      show Steps p.tables e below (s₁.setTop (mkF m 6 #[.val (.int p1), .val (.int p2)] [(.int p1)])) _
      refine XS.goto X0.here hx rfl (pc0 := 6) (pc' := 10) rfl (hb hby d1_6) (by decide) (by decide) ?_
      show Steps p.tables e below (s₁.setTop (mkF m 10 #[.val (.int p1), .val (.int p2)] [(.int p1)])) _
      exact k)
    obtain ⟨fs, hr, hrun, hended, hW, hsame⟩ := X0.leave (v := some (.int p1)) (fun h => by rw [Bd.returns] at h; cases h) hlk
    refine ⟨_, _, pre4 _ ?_, hrun, hended, _, _, rfl, ?_, ⟨_, rfl⟩, hW, hsame.mono (by decide) (by decide)⟩
    · show Steps p.tables e below (s₁.setTop (mkF m 10 #[.val (.int p1), .val (.int p2)] [(.int p1)])) _
      exact retI X0 hx Bd.returns (hb hby d1_10) hr
    · show Q1 Z p1 p2 h0 n0 _ s₁.heap _
      rw [e0]
      exact ⟨by simp only [own_min, if_neg hc2_2], N0, rfl⟩
theorem d2_0 : decode jdk_29_method_65_code 0 = .ok (.iload_n 0, 1) := by decide +kernel
theorem d2_1 : decode jdk_29_method_65_code 1 = .ok (.iload_n 1, 1) := by decide +kernel
theorem d2_2 : decode jdk_29_method_65_code 2 = .ok (.if_icmp .lt 7, 3) := by decide +kernel
theorem d2_5 : decode jdk_29_method_65_code 5 = .ok (.iload_n 0, 1) := by decide +kernel
theorem d2_6 : decode jdk_29_method_65_code 6 = .ok (.goto 4, 3) := by decide +kernel
theorem d2_9 : decode jdk_29_method_65_code 9 = .ok (.iload_n 1, 1) := by decide +kernel
theorem d2_10 : decode jdk_29_method_65_code 10 = .ok (.ireturn, 1) := by decide +kernel
theorem ef_2 (m : MethodId) (p1 : Int32) (p2 : Int32) : entryFrame m #[(.int p1), (.int p2)] 2 = mkF m 0 #[.val (.int p1), .val (.int p2)] [] := by first | (simp [entryFrame, mkF, argsToLocals, Value.category]; done) | rfl
def Q2 (Z : State) (p1 : Int32) (p2 : Int32) (h0 : Heap) (n0 : Nat) (v : Option Value) (h : Heap) (L : List Loc) : Prop := v = some (.int (own_max p1 p2)) ∧ Fr n0 L ∧ h = h0
set_option maxRecDepth 65536 in
set_option maxHeartbeats 40000000 in
theorem rm2 (l : Launch) (Z : State) (a0 : Array Value) (hw : ∀ d ∈ tables_1, d.before a0 Z = true) (ws : List Jvm.Cond) (p1 : Int32) (p2 : Int32) (h0 : Heap) (n0 : Nat) (Z0 : n0 ≤ h0.size) :
    MetFree l (⟨"java/lang/Math", "max", "(II)I"⟩ : MethodName) (head1 (Jvm.Cond.code (⟨"java/lang/Math", "max", "(II)I"⟩ : MethodName) jdk_29_method_65_code 2 (some .int) :: ws) ({ frames := 0, cells := 0, slots := 0, locals := 0 } : Room)) (fun aa U => aa = #[(.int p1), (.int p2)] ∧ Z.Warmed39 U.vm ∧ U.heap = h0) (fun _ _ _ _ _ => True) (fun _ U o U' => ∃ v L, o = .returned v ∧ Q2 Z p1 p2 h0 n0 v U'.heap L ∧ FrameEnd U o U' L ({ frames := 0, cells := 0, slots := 0, locals := 0 } : Room).cells ({ frames := 0, cells := 0, slots := 0, locals := 0 } : Room).slots) := by
  refine MetFree.of_bodySF (Jvm.Free.JP.mathPlain rfl (by decide +kernel)) hisR ?_
  intro p e s m args below meth c s₁ Bd hml0 hP hK
  obtain ⟨rfl, hZ, hh⟩ := hP
  have hx := Bd.exec
  have hby := Bd.bytes
  have hml : c.maxLocals = 2 := hml0
  have hown : s.vm.findClass "java/lang/Math" = some m.cls := findClass_of_methodNamed Bd.named
  have hnm := (name_of_methodNamed Bd.named Bd.method).1
  have X0 : Stand p l e ({ frames := 0, cells := 0, slots := 0, locals := 0 } : Room) s m #[(.int p1), (.int p2)] below meth c s₁ [] 0 0 := Stand.of_body Bd
  have e0 : s₁.heap = h0 := by rw [← hh, Bd.state]; rfl
  have N0 := Fr.nil n0
  have hlk : meth.locks = false := by first | exact BodyLoose.notSynchronized Bd | exact Body.notSynchronized Bd
  have pre0 : ∀ t, Steps p.tables e below (s₁.setTop (mkF m 0 #[.val (.int p1), .val (.int p2)] [])) t → Steps p.tables e below (s₁.setTop (entryFrame m #[(.int p1), (.int p2)] 2)) t := fun t k => castTop (ef_2 m p1 p2) k
  have pre1 : ∀ t, Steps p.tables e below (s₁.setTop (mkF m 2 #[.val (.int p1), .val (.int p2)] [(.int p2), (.int p1)])) t → Steps p.tables e below (s₁.setTop (entryFrame m #[(.int p1), (.int p2)] 2)) t := fun t k => pre0 t (by
    show Steps p.tables e below (s₁.setTop (mkF m 0 #[.val (.int p1), .val (.int p2)] [])) _
    refine XS.iloadN X0.here hx rfl (hb hby d2_0) rfl ?_
    show Steps p.tables e below (s₁.setTop (mkF m 1 #[.val (.int p1), .val (.int p2)] [(.int p1)])) _
    refine XS.iloadN X0.here hx rfl (hb hby d2_1) rfl ?_
    show Steps p.tables e below (s₁.setTop (mkF m 2 #[.val (.int p1), .val (.int p2)] [(.int p2), (.int p1)])) _
    exact k)
  by_cases hc2_2 : p1 < p2
  · have pre3 : ∀ t, Steps p.tables e below (s₁.setTop (mkF m 10 #[.val (.int p1), .val (.int p2)] [(.int p2)])) t → Steps p.tables e below (s₁.setTop (entryFrame m #[(.int p1), (.int p2)] 2)) t := fun t k => pre1 t (by
      show Steps p.tables e below (s₁.setTop (mkF m 2 #[.val (.int p1), .val (.int p2)] [(.int p2), (.int p1)])) _
      refine XS.icmpYes X0.here hx rfl (pc0 := 2) (pc' := 9) rfl (hb hby d2_2) rfl (tlt hc2_2).1 (by decide) (by decide) ?_
      show Steps p.tables e below (s₁.setTop (mkF m 9 #[.val (.int p1), .val (.int p2)] [])) _
      refine XS.iloadN X0.here hx rfl (hb hby d2_9) rfl ?_
      show Steps p.tables e below (s₁.setTop (mkF m 10 #[.val (.int p1), .val (.int p2)] [(.int p2)])) _
      exact k)
    obtain ⟨fs, hr, hrun, hended, hW, hsame⟩ := X0.leave (v := some (.int p2)) (fun h => by rw [Bd.returns] at h; cases h) hlk
    refine ⟨_, _, pre3 _ ?_, hrun, hended, _, _, rfl, ?_, ⟨_, rfl⟩, hW, hsame.mono (by decide) (by decide)⟩
    · show Steps p.tables e below (s₁.setTop (mkF m 10 #[.val (.int p1), .val (.int p2)] [(.int p2)])) _
      exact retI X0 hx Bd.returns (hb hby d2_10) hr
    · show Q2 Z p1 p2 h0 n0 _ s₁.heap _
      rw [e0]
      exact ⟨by simp only [own_max, if_pos hc2_2], N0, rfl⟩
  · have pre4 : ∀ t, Steps p.tables e below (s₁.setTop (mkF m 10 #[.val (.int p1), .val (.int p2)] [(.int p1)])) t → Steps p.tables e below (s₁.setTop (entryFrame m #[(.int p1), (.int p2)] 2)) t := fun t k => pre1 t (by
      show Steps p.tables e below (s₁.setTop (mkF m 2 #[.val (.int p1), .val (.int p2)] [(.int p2), (.int p1)])) _
      refine XS.icmpNo X0.here hx rfl (hb hby d2_2) rfl (flt hc2_2).1 ?_
      show Steps p.tables e below (s₁.setTop (mkF m 5 #[.val (.int p1), .val (.int p2)] [])) _
      refine XS.iloadN X0.here hx rfl (hb hby d2_5) rfl ?_
      show Steps p.tables e below (s₁.setTop (mkF m 6 #[.val (.int p1), .val (.int p2)] [(.int p1)])) _
      refine XS.goto X0.here hx rfl (pc0 := 6) (pc' := 10) rfl (hb hby d2_6) (by decide) (by decide) ?_
      show Steps p.tables e below (s₁.setTop (mkF m 10 #[.val (.int p1), .val (.int p2)] [(.int p1)])) _
      exact k)
    obtain ⟨fs, hr, hrun, hended, hW, hsame⟩ := X0.leave (v := some (.int p1)) (fun h => by rw [Bd.returns] at h; cases h) hlk
    refine ⟨_, _, pre4 _ ?_, hrun, hended, _, _, rfl, ?_, ⟨_, rfl⟩, hW, hsame.mono (by decide) (by decide)⟩
    · show Steps p.tables e below (s₁.setTop (mkF m 10 #[.val (.int p1), .val (.int p2)] [(.int p1)])) _
      exact retI X0 hx Bd.returns (hb hby d2_10) hr
    · show Q2 Z p1 p2 h0 n0 _ s₁.heap _
      rw [e0]
      exact ⟨by simp only [own_max, if_neg hc2_2], N0, rfl⟩
theorem d4_0 : decode prog_33_method_5_code 0 = .ok (.lload_n 0, 1) := by decide +kernel
theorem d4_1 : decode prog_33_method_5_code 1 = .ok (.lconst 1, 1) := by decide +kernel
theorem d4_2 : decode prog_33_method_5_code 2 = .ok (.iload_n 2, 1) := by decide +kernel
theorem d4_3 : decode prog_33_method_5_code 3 = .ok (.lshl, 1) := by decide +kernel
theorem d4_4 : decode prog_33_method_5_code 4 = .ok (.lconst 1, 1) := by decide +kernel
theorem d4_5 : decode prog_33_method_5_code 5 = .ok (.lsub, 1) := by decide +kernel
theorem d4_6 : decode prog_33_method_5_code 6 = .ok (.land, 1) := by decide +kernel
theorem d4_7 : decode prog_33_method_5_code 7 = .ok (.lstore_n 3, 1) := by decide +kernel
theorem d4_8 : decode prog_33_method_5_code 8 = .ok (.lload_n 0, 1) := by decide +kernel
theorem d4_9 : decode prog_33_method_5_code 9 = .ok (.iload_n 2, 1) := by decide +kernel
theorem d4_10 : decode prog_33_method_5_code 10 = .ok (.iconst 1, 1) := by decide +kernel
theorem d4_11 : decode prog_33_method_5_code 11 = .ok (.iadd, 1) := by decide +kernel
theorem d4_12 : decode prog_33_method_5_code 12 = .ok (.lushr, 1) := by decide +kernel
theorem d4_13 : decode prog_33_method_5_code 13 = .ok (.iload_n 2, 1) := by decide +kernel
theorem d4_14 : decode prog_33_method_5_code 14 = .ok (.lshl, 1) := by decide +kernel
theorem d4_15 : decode prog_33_method_5_code 15 = .ok (.lstore 5, 2) := by decide +kernel
theorem d4_17 : decode prog_33_method_5_code 17 = .ok (.lload 5, 2) := by decide +kernel
theorem d4_19 : decode prog_33_method_5_code 19 = .ok (.lload_n 3, 1) := by decide +kernel
theorem d4_20 : decode prog_33_method_5_code 20 = .ok (.lor, 1) := by decide +kernel
theorem d4_21 : decode prog_33_method_5_code 21 = .ok (.lreturn, 1) := by decide +kernel
theorem pn_OwnerBits : plainName "com/example/trickwise/trickwise/whist/OwnerBits" = true := by first | (simp [plainName, overriddenIn]; done) | decide +kernel
theorem ef_4 (m : MethodId) (q1 : Int64) (p1 : Int32) : entryFrame m #[(.long q1), (.int p1)] 7 = mkF m 0 #[.val (.long q1), .second, .val (.int p1), .unset, .unset, .unset, .unset] [] := by first | (simp [entryFrame, mkF, argsToLocals, Value.category]; done) | rfl
def lc4_0 (q1 : Int64) (p1 : Int32) : Array Slot := #[.val (.long q1), .second, .val (.int p1), .val (.long (q1 &&& ((own_shl (1 : Int64) p1) - (1 : Int64)))), .second, .val (.long (own_shl (own_ush q1 (p1 + (1 : Int32))) p1)), .second]
def Q4 (Z : State) (q1 : Int64) (p1 : Int32) (h0 : Heap) (n0 : Nat) (v : Option Value) (h : Heap) (L : List Loc) : Prop := v = some (.long (own_wc q1 p1)) ∧ Fr n0 L ∧ h = h0
set_option maxRecDepth 65536 in
set_option maxHeartbeats 40000000 in
theorem rm4 (l : Launch) (Z : State) (a0 : Array Value) (hw : ∀ d ∈ tables_1, d.before a0 Z = true) (ws : List Jvm.Cond) (q1 : Int64) (p1 : Int32) (h0 : Heap) (n0 : Nat) (Z0 : n0 ≤ h0.size) :
    MetFree l (⟨"com/example/trickwise/trickwise/whist/OwnerBits", "withoutCard", "(JI)J"⟩ : MethodName) (head1 (Jvm.Cond.code (⟨"com/example/trickwise/trickwise/whist/OwnerBits", "withoutCard", "(JI)J"⟩ : MethodName) prog_33_method_5_code 7 (some .long) :: ws) ({ frames := 0, cells := 0, slots := 0, locals := 0 } : Room)) (fun aa U => aa = #[(.long q1), (.int p1)] ∧ Z.Warmed39 U.vm ∧ U.heap = h0) (fun _ _ _ _ _ => True) (fun _ U o U' => ∃ v L, o = .returned v ∧ Q4 Z q1 p1 h0 n0 v U'.heap L ∧ FrameEnd U o U' L ({ frames := 0, cells := 0, slots := 0, locals := 0 } : Room).cells ({ frames := 0, cells := 0, slots := 0, locals := 0 } : Room).slots) := by
  refine MetFree.of_bodySF (plainFor_of_name pn_OwnerBits) hisR ?_
  intro p e s m args below meth c s₁ Bd hml0 hP hK
  obtain ⟨rfl, hZ, hh⟩ := hP
  have hx := Bd.exec
  have hby := Bd.bytes
  have hml : c.maxLocals = 7 := hml0
  have hown : s.vm.findClass "com/example/trickwise/trickwise/whist/OwnerBits" = some m.cls := findClass_of_methodNamed Bd.named
  have hnm := (name_of_methodNamed Bd.named Bd.method).1
  have X0 : Stand p l e ({ frames := 0, cells := 0, slots := 0, locals := 0 } : Room) s m #[(.long q1), (.int p1)] below meth c s₁ [] 0 0 := Stand.of_body Bd
  have e0 : s₁.heap = h0 := by rw [← hh, Bd.state]; rfl
  have N0 := Fr.nil n0
  have hlk : meth.locks = false := by first | exact BodyLoose.notSynchronized Bd | exact Body.notSynchronized Bd
  have pre0 : ∀ t, Steps p.tables e below (s₁.setTop (mkF m 0 #[.val (.long q1), .second, .val (.int p1), .unset, .unset, .unset, .unset] [])) t → Steps p.tables e below (s₁.setTop (entryFrame m #[(.long q1), (.int p1)] 7)) t := fun t k => castTop (ef_4 m q1 p1) k
  have pre1 : ∀ t, Steps p.tables e below (s₁.setTop (mkF m 21 (lc4_0 q1 p1) [(.long (own_wc q1 p1))])) t → Steps p.tables e below (s₁.setTop (entryFrame m #[(.long q1), (.int p1)] 7)) t := fun t k => pre0 t (by
    show Steps p.tables e below (s₁.setTop (mkF m 0 #[.val (.long q1), .second, .val (.int p1), .unset, .unset, .unset, .unset] [])) _
    refine XS.lloadN X0.here hx rfl (hb hby d4_0) rfl ?_
    show Steps p.tables e below (s₁.setTop (mkF m 1 #[.val (.long q1), .second, .val (.int p1), .unset, .unset, .unset, .unset] [(.long q1)])) _
    refine XS.lconst X0.here hx rfl (hb hby d4_1) ?_
    show Steps p.tables e below (s₁.setTop (mkF m 2 #[.val (.long q1), .second, .val (.int p1), .unset, .unset, .unset, .unset] [(.long (1 : Int64)), (.long q1)])) _
    refine XS.iloadN X0.here hx rfl (hb hby d4_2) rfl ?_
    show Steps p.tables e below (s₁.setTop (mkF m 3 #[.val (.long q1), .second, .val (.int p1), .unset, .unset, .unset, .unset] [(.int p1), (.long (1 : Int64)), (.long q1)])) _
    refine XS.lshl X0.here hx rfl (hb hby d4_3) rfl ?_
    show Steps p.tables e below (s₁.setTop (mkF m 4 #[.val (.long q1), .second, .val (.int p1), .unset, .unset, .unset, .unset] [(.long (own_shl (1 : Int64) p1)), (.long q1)])) _
    refine XS.lconst X0.here hx rfl (hb hby d4_4) ?_
    show Steps p.tables e below (s₁.setTop (mkF m 5 #[.val (.long q1), .second, .val (.int p1), .unset, .unset, .unset, .unset] [(.long (1 : Int64)), (.long (own_shl (1 : Int64) p1)), (.long q1)])) _
    refine XS.lsub X0.here hx rfl (hb hby d4_5) rfl ?_
    show Steps p.tables e below (s₁.setTop (mkF m 6 #[.val (.long q1), .second, .val (.int p1), .unset, .unset, .unset, .unset] [(.long ((own_shl (1 : Int64) p1) - (1 : Int64))), (.long q1)])) _
    refine XS.land X0.here hx rfl (hb hby d4_6) rfl ?_
    show Steps p.tables e below (s₁.setTop (mkF m 7 #[.val (.long q1), .second, .val (.int p1), .unset, .unset, .unset, .unset] [(.long (q1 &&& ((own_shl (1 : Int64) p1) - (1 : Int64))))])) _
    refine XS.lstoreN X0.here hx rfl (hb hby d4_7) rfl (l' := #[.val (.long q1), .second, .val (.int p1), .val (.long (q1 &&& ((own_shl (1 : Int64) p1) - (1 : Int64)))), .second, .unset, .unset]) rfl ?_
    show Steps p.tables e below (s₁.setTop (mkF m 8 #[.val (.long q1), .second, .val (.int p1), .val (.long (q1 &&& ((own_shl (1 : Int64) p1) - (1 : Int64)))), .second, .unset, .unset] [])) _
    refine XS.lloadN X0.here hx rfl (hb hby d4_8) rfl ?_
    show Steps p.tables e below (s₁.setTop (mkF m 9 #[.val (.long q1), .second, .val (.int p1), .val (.long (q1 &&& ((own_shl (1 : Int64) p1) - (1 : Int64)))), .second, .unset, .unset] [(.long q1)])) _
    refine XS.iloadN X0.here hx rfl (hb hby d4_9) rfl ?_
    show Steps p.tables e below (s₁.setTop (mkF m 10 #[.val (.long q1), .second, .val (.int p1), .val (.long (q1 &&& ((own_shl (1 : Int64) p1) - (1 : Int64)))), .second, .unset, .unset] [(.int p1), (.long q1)])) _
    refine XS.iconst X0.here hx rfl (hb hby d4_10) ?_
    show Steps p.tables e below (s₁.setTop (mkF m 11 #[.val (.long q1), .second, .val (.int p1), .val (.long (q1 &&& ((own_shl (1 : Int64) p1) - (1 : Int64)))), .second, .unset, .unset] [(.int (1 : Int32)), (.int p1), (.long q1)])) _
    refine XS.iadd X0.here hx rfl (hb hby d4_11) rfl ?_
    show Steps p.tables e below (s₁.setTop (mkF m 12 #[.val (.long q1), .second, .val (.int p1), .val (.long (q1 &&& ((own_shl (1 : Int64) p1) - (1 : Int64)))), .second, .unset, .unset] [(.int (p1 + (1 : Int32))), (.long q1)])) _
    refine XS.lushr X0.here hx rfl (hb hby d4_12) rfl ?_
    show Steps p.tables e below (s₁.setTop (mkF m 13 #[.val (.long q1), .second, .val (.int p1), .val (.long (q1 &&& ((own_shl (1 : Int64) p1) - (1 : Int64)))), .second, .unset, .unset] [(.long (own_ush q1 (p1 + (1 : Int32))))])) _
    refine XS.iloadN X0.here hx rfl (hb hby d4_13) rfl ?_
    show Steps p.tables e below (s₁.setTop (mkF m 14 #[.val (.long q1), .second, .val (.int p1), .val (.long (q1 &&& ((own_shl (1 : Int64) p1) - (1 : Int64)))), .second, .unset, .unset] [(.int p1), (.long (own_ush q1 (p1 + (1 : Int32))))])) _
    refine XS.lshl X0.here hx rfl (hb hby d4_14) rfl ?_
    show Steps p.tables e below (s₁.setTop (mkF m 15 #[.val (.long q1), .second, .val (.int p1), .val (.long (q1 &&& ((own_shl (1 : Int64) p1) - (1 : Int64)))), .second, .unset, .unset] [(.long (own_shl (own_ush q1 (p1 + (1 : Int32))) p1))])) _
    refine XS.lstore X0.here hx rfl (hb hby d4_15) rfl (l' := (lc4_0 q1 p1)) rfl ?_
    show Steps p.tables e below (s₁.setTop (mkF m 17 (lc4_0 q1 p1) [])) _
    refine XS.lload X0.here hx rfl (hb hby d4_17) rfl ?_
    show Steps p.tables e below (s₁.setTop (mkF m 19 (lc4_0 q1 p1) [(.long (own_shl (own_ush q1 (p1 + (1 : Int32))) p1))])) _
    refine XS.lloadN X0.here hx rfl (hb hby d4_19) rfl ?_
    show Steps p.tables e below (s₁.setTop (mkF m 20 (lc4_0 q1 p1) [(.long (q1 &&& ((own_shl (1 : Int64) p1) - (1 : Int64)))), (.long (own_shl (own_ush q1 (p1 + (1 : Int32))) p1))])) _
    refine XS.lor X0.here hx rfl (hb hby d4_20) rfl ?_
    show Steps p.tables e below (s₁.setTop (mkF m 21 (lc4_0 q1 p1) [(.long (own_wc q1 p1))])) _
    exact k)
  obtain ⟨fs, hr, hrun, hended, hW, hsame⟩ := X0.leave (v := some (.long (own_wc q1 p1))) (fun h => by rw [Bd.returns] at h; cases h) hlk
  refine ⟨_, _, pre1 _ ?_, hrun, hended, _, _, rfl, ?_, ⟨_, rfl⟩, hW, hsame.mono (by decide) (by decide)⟩
  · show Steps p.tables e below (s₁.setTop (mkF m 21 (lc4_0 q1 p1) [(.long (own_wc q1 p1))])) _
    exact X0.lreturnOut hx Bd.returns (hb hby d4_21) hr
  · show Q4 Z q1 p1 h0 n0 _ s₁.heap _
    rw [e0]
    exact ⟨rfl, N0, rfl⟩
theorem pd_0 : parseMethodDescriptor "(II)I" = some ⟨[.int, .int], some .int⟩ := by decide +kernel
theorem pd_2 : parseMethodDescriptor "(JI)J" = some ⟨[.long, .int], some .long⟩ := by decide +kernel
theorem d3_0 : decode prog_33_method_4_code 0 = .ok (.lload_n 0, 1) := by decide +kernel
theorem d3_1 : decode prog_33_method_4_code 1 = .ok (.iload_n 2, 1) := by decide +kernel
theorem d3_2 : decode prog_33_method_4_code 2 = .ok (.iload_n 3, 1) := by decide +kernel
theorem d3_3 : decode prog_33_method_4_code 3 = .ok (.invokestatic 36, 3) := by decide +kernel
theorem d3_6 : decode prog_33_method_4_code 6 = .ok (.invokestatic 42, 3) := by decide +kernel
theorem d3_9 : decode prog_33_method_4_code 9 = .ok (.iload_n 2, 1) := by decide +kernel
theorem d3_10 : decode prog_33_method_4_code 10 = .ok (.iload_n 3, 1) := by decide +kernel
theorem d3_11 : decode prog_33_method_4_code 11 = .ok (.invokestatic 46, 3) := by decide +kernel
theorem d3_14 : decode prog_33_method_4_code 14 = .ok (.invokestatic 42, 3) := by decide +kernel
theorem d3_17 : decode prog_33_method_4_code 17 = .ok (.lreturn, 1) := by decide +kernel
theorem ef_3 (m : MethodId) (q1 : Int64) (p1 : Int32) (p2 : Int32) : entryFrame m #[(.long q1), (.int p1), (.int p2)] 4 = mkF m 0 #[.val (.long q1), .second, .val (.int p1), .val (.int p2)] [] := by first | (simp [entryFrame, mkF, argsToLocals, Value.category]; done) | rfl
def Q3 (Z : State) (q1 : Int64) (p1 : Int32) (p2 : Int32) (h0 : Heap) (n0 : Nat) (v : Option Value) (h : Heap) (L : List Loc) : Prop := v = some (.long (own_wt q1 p1 p2)) ∧ Fr n0 L ∧ h = h0
set_option maxRecDepth 65536 in
set_option maxHeartbeats 40000000 in
theorem rm3 (l : Launch) (Z : State) (a0 : Array Value) (hw : ∀ d ∈ tables_1, d.before a0 Z = true) (ws : List Jvm.Cond) (q1 : Int64) (p1 : Int32) (p2 : Int32) (h0 : Heap) (n0 : Nat) (Z0 : n0 ≤ h0.size) :
    MetFree l (⟨"com/example/trickwise/trickwise/whist/OwnerBits", "withoutTrick", "(JII)J"⟩ : MethodName) (head1 (Jvm.Cond.code (⟨"com/example/trickwise/trickwise/whist/OwnerBits", "withoutTrick", "(JII)J"⟩ : MethodName) prog_33_method_4_code 4 (some .long) :: ws) ({ frames := 1, cells := 0, slots := 0, locals := 18 } : Room)) (fun aa U => aa = #[(.long q1), (.int p1), (.int p2)] ∧ Z.Warmed39 U.vm ∧ U.heap = h0) (fun _ _ _ _ _ => True) (fun _ U o U' => ∃ v L, o = .returned v ∧ Q3 Z q1 p1 p2 h0 n0 v U'.heap L ∧ FrameEnd U o U' L ({ frames := 1, cells := 0, slots := 0, locals := 18 } : Room).cells ({ frames := 1, cells := 0, slots := 0, locals := 18 } : Room).slots) := by
  refine MetFree.of_bodySF (plainFor_of_name pn_OwnerBits) hisR ?_
  intro p e s m args below meth c s₁ Bd hml0 hP hK
  obtain ⟨rfl, hZ, hh⟩ := hP
  have hx := Bd.exec
  have hby := Bd.bytes
  have hml : c.maxLocals = 4 := hml0
  have hown : s.vm.findClass "com/example/trickwise/trickwise/whist/OwnerBits" = some m.cls := findClass_of_methodNamed Bd.named
  have hnm := (name_of_methodNamed Bd.named Bd.method).1
  have X0 : Stand p l e ({ frames := 1, cells := 0, slots := 0, locals := 18 } : Room) s m #[(.long q1), (.int p1), (.int p2)] below meth c s₁ [] 0 0 := Stand.of_body Bd
  have e0 : s₁.heap = h0 := by rw [← hh, Bd.state]; rfl
  have N0 := Fr.nil n0
  have hlk : meth.locks = false := by first | exact BodyLoose.notSynchronized Bd | exact Body.notSynchronized Bd
  have pre0 : ∀ t, Steps p.tables e below (s₁.setTop (mkF m 0 #[.val (.long q1), .second, .val (.int p1), .val (.int p2)] [])) t → Steps p.tables e below (s₁.setTop (entryFrame m #[(.long q1), (.int p1), (.int p2)] 4)) t := fun t k => castTop (ef_3 m q1 p1 p2) k
  have pre1 : ∀ t, Steps p.tables e below (s₁.setTop (mkF m 3 #[.val (.long q1), .second, .val (.int p1), .val (.int p2)] [(.int p2), (.int p1), (.long q1)])) t → Steps p.tables e below (s₁.setTop (entryFrame m #[(.long q1), (.int p1), (.int p2)] 4)) t := fun t k => pre0 t (by
    show Steps p.tables e below (s₁.setTop (mkF m 0 #[.val (.long q1), .second, .val (.int p1), .val (.int p2)] [])) _
    refine XS.lloadN X0.here hx rfl (hb hby d3_0) rfl ?_
    show Steps p.tables e below (s₁.setTop (mkF m 1 #[.val (.long q1), .second, .val (.int p1), .val (.int p2)] [(.long q1)])) _
    refine XS.iloadN X0.here hx rfl (hb hby d3_1) rfl ?_
    show Steps p.tables e below (s₁.setTop (mkF m 2 #[.val (.long q1), .second, .val (.int p1), .val (.int p2)] [(.int p1), (.long q1)])) _
    refine XS.iloadN X0.here hx rfl (hb hby d3_2) rfl ?_
    show Steps p.tables e below (s₁.setTop (mkF m 3 #[.val (.long q1), .second, .val (.int p1), .val (.int p2)] [(.int p2), (.int p1), (.long q1)])) _
    exact k)
  obtain ⟨_, _, ⟨T2, L2, k2, n2⟩, -, X2, ⟨Lc2, hQ2, l2, y2, z2⟩, st2⟩ := Jvm.LawKit.callS X0 hx (y := (⟨"java/lang/Math", "max", "(II)I"⟩ : MethodName)) hown (mvT hZ (hw _ (List.mem_of_getElem? (i := 12) rfl))) (mvT hZ (hw _ (List.mem_of_getElem? (i := 6) rfl))) (mvT hZ (hw _ (List.mem_of_getElem? (i := 3) rfl))) (mvT hZ (hw _ (List.mem_of_getElem? (i := 7) rfl))) (by decide) (backOf (W := 2) (rm2 l Z a0 hw [] p1 p2 h0 n0 Z0) hZ (hw _ (List.mem_of_getElem? (i := 7) rfl)) (hw _ (List.mem_of_getElem? (i := 3) rfl)) (by decide) (by decide)) (g := (mkF m 3 #[.val (.long q1), .second, .val (.int p1), .val (.int p2)] [(.int p2), (.int p1), (.long q1)])) rfl (by rw [hml]; rfl) (argsL := [(.int p1), (.int p2)]) (rest := [(.long q1)]) (lenOf pd_0 rfl) rfl (by show 2 * 0 + _ ≤ _; exact Nat.le_of_eq rfl) (hb hby d3_3) (fun _ _ => ⟨rfl, e0, (by decide : 0 + 0 ≤ _), (by decide : 0 + 0 ≤ _)⟩)
  dsimp only [Pt.U, Pt.locs, Pt.cells, Pt.slots] at X2 l2 y2 z2 st2 hQ2
  subst l2 y2 z2
  obtain ⟨rfl, N2q, e2⟩ := hQ2
  have N2 := Fr.app N0 N2q
  have pre3 : ∀ t, Steps p.tables e below (T2.setTop (mkF m 6 #[.val (.long q1), .second, .val (.int p1), .val (.int p2)] [(.int (own_max p1 p2)), (.long q1)])) t → Steps p.tables e below (s₁.setTop (entryFrame m #[(.long q1), (.int p1), (.int p2)] 4)) t := fun t k => pre1 t (st2 t k)
  obtain ⟨_, _, ⟨T4, L4, k4, n4⟩, -, X4, ⟨Lc4, hQ4, l4, y4, z4⟩, st4⟩ := Jvm.LawKit.callS X2 hx (y := (⟨"com/example/trickwise/trickwise/whist/OwnerBits", "withoutCard", "(JI)J"⟩ : MethodName)) hown (mvT hZ (hw _ (List.mem_of_getElem? (i := 13) rfl))) (mvT hZ (hw _ (List.mem_of_getElem? (i := 14) rfl))) (mvT hZ (hw _ (List.mem_of_getElem? (i := 10) rfl))) (mvT hZ (hw _ (List.mem_of_getElem? (i := 15) rfl))) (by decide) (backOf (W := 0) (rm4 l Z a0 hw [] q1 (own_max p1 p2) h0 n0 Z0) hZ (hw _ (List.mem_of_getElem? (i := 15) rfl)) (hw _ (List.mem_of_getElem? (i := 10) rfl)) (by decide) (by decide)) (g := (mkF m 6 #[.val (.long q1), .second, .val (.int p1), .val (.int p2)] [(.int (own_max p1 p2)), (.long q1)])) rfl (by rw [hml]; rfl) (argsL := [(.long q1), (.int (own_max p1 p2))]) (rest := []) (lenOf pd_2 rfl) rfl (by show 2 * 0 + _ ≤ _; exact Nat.le_of_eq rfl) (hb hby d3_6) (fun _ _ => ⟨rfl, e2, (by decide : 0 + 0 ≤ _), (by decide : 0 + 0 ≤ _)⟩)
  dsimp only [Pt.U, Pt.locs, Pt.cells, Pt.slots] at X4 l4 y4 z4 st4 hQ4
  subst l4 y4 z4
  obtain ⟨rfl, N4q, e4⟩ := hQ4
  have N4 := Fr.app N2 N4q
  have pre5 : ∀ t, Steps p.tables e below (T4.setTop (mkF m 9 #[.val (.long q1), .second, .val (.int p1), .val (.int p2)] [(.long (own_wc q1 (own_max p1 p2)))])) t → Steps p.tables e below (s₁.setTop (entryFrame m #[(.long q1), (.int p1), (.int p2)] 4)) t := fun t k => pre3 t (st4 t k)
  have pre6 : ∀ t, Steps p.tables e below (T4.setTop (mkF m 11 #[.val (.long q1), .second, .val (.int p1), .val (.int p2)] [(.int p2), (.int p1), (.long (own_wc q1 (own_max p1 p2)))])) t → Steps p.tables e below (s₁.setTop (entryFrame m #[(.long q1), (.int p1), (.int p2)] 4)) t := fun t k => pre5 t (by
    show Steps p.tables e below (T4.setTop (mkF m 9 #[.val (.long q1), .second, .val (.int p1), .val (.int p2)] [(.long (own_wc q1 (own_max p1 p2)))])) _
    refine XS.iloadN X4.here hx rfl (hb hby d3_9) rfl ?_
    show Steps p.tables e below (T4.setTop (mkF m 10 #[.val (.long q1), .second, .val (.int p1), .val (.int p2)] [(.int p1), (.long (own_wc q1 (own_max p1 p2)))])) _
    refine XS.iloadN X4.here hx rfl (hb hby d3_10) rfl ?_
    show Steps p.tables e below (T4.setTop (mkF m 11 #[.val (.long q1), .second, .val (.int p1), .val (.int p2)] [(.int p2), (.int p1), (.long (own_wc q1 (own_max p1 p2)))])) _
    exact k)
  obtain ⟨_, _, ⟨T7, L7, k7, n7⟩, -, X7, ⟨Lc7, hQ7, l7, y7, z7⟩, st7⟩ := Jvm.LawKit.callS X4 hx (y := (⟨"java/lang/Math", "min", "(II)I"⟩ : MethodName)) hown (mvT hZ (hw _ (List.mem_of_getElem? (i := 16) rfl))) (mvT hZ (hw _ (List.mem_of_getElem? (i := 2) rfl))) (mvT hZ (hw _ (List.mem_of_getElem? (i := 3) rfl))) (mvT hZ (hw _ (List.mem_of_getElem? (i := 4) rfl))) (by decide) (backOf (W := 2) (rm1 l Z a0 hw [] p1 p2 h0 n0 Z0) hZ (hw _ (List.mem_of_getElem? (i := 4) rfl)) (hw _ (List.mem_of_getElem? (i := 3) rfl)) (by decide) (by decide)) (g := (mkF m 11 #[.val (.long q1), .second, .val (.int p1), .val (.int p2)] [(.int p2), (.int p1), (.long (own_wc q1 (own_max p1 p2)))])) rfl (by rw [hml]; rfl) (argsL := [(.int p1), (.int p2)]) (rest := [(.long (own_wc q1 (own_max p1 p2)))]) (lenOf pd_0 rfl) rfl (by show 2 * 0 + _ ≤ _; exact Nat.le_of_eq rfl) (hb hby d3_11) (fun _ _ => ⟨rfl, e4, (by decide : 0 + 0 ≤ _), (by decide : 0 + 0 ≤ _)⟩)
  dsimp only [Pt.U, Pt.locs, Pt.cells, Pt.slots] at X7 l7 y7 z7 st7 hQ7
  subst l7 y7 z7
  obtain ⟨rfl, N7q, e7⟩ := hQ7
  have N7 := Fr.app N4 N7q
  have pre8 : ∀ t, Steps p.tables e below (T7.setTop (mkF m 14 #[.val (.long q1), .second, .val (.int p1), .val (.int p2)] [(.int (own_min p1 p2)), (.long (own_wc q1 (own_max p1 p2)))])) t → Steps p.tables e below (s₁.setTop (entryFrame m #[(.long q1), (.int p1), (.int p2)] 4)) t := fun t k => pre6 t (st7 t k)
  obtain ⟨_, _, ⟨T9, L9, k9, n9⟩, -, X9, ⟨Lc9, hQ9, l9, y9, z9⟩, st9⟩ := Jvm.LawKit.callS X7 hx (y := (⟨"com/example/trickwise/trickwise/whist/OwnerBits", "withoutCard", "(JI)J"⟩ : MethodName)) hown (mvT hZ (hw _ (List.mem_of_getElem? (i := 13) rfl))) (mvT hZ (hw _ (List.mem_of_getElem? (i := 14) rfl))) (mvT hZ (hw _ (List.mem_of_getElem? (i := 10) rfl))) (mvT hZ (hw _ (List.mem_of_getElem? (i := 15) rfl))) (by decide) (backOf (W := 0) (rm4 l Z a0 hw [] (own_wc q1 (own_max p1 p2)) (own_min p1 p2) h0 n0 Z0) hZ (hw _ (List.mem_of_getElem? (i := 15) rfl)) (hw _ (List.mem_of_getElem? (i := 10) rfl)) (by decide) (by decide)) (g := (mkF m 14 #[.val (.long q1), .second, .val (.int p1), .val (.int p2)] [(.int (own_min p1 p2)), (.long (own_wc q1 (own_max p1 p2)))])) rfl (by rw [hml]; rfl) (argsL := [(.long (own_wc q1 (own_max p1 p2))), (.int (own_min p1 p2))]) (rest := []) (lenOf pd_2 rfl) rfl (by show 2 * 0 + _ ≤ _; exact Nat.le_of_eq rfl) (hb hby d3_14) (fun _ _ => ⟨rfl, e7, (by decide : 0 + 0 ≤ _), (by decide : 0 + 0 ≤ _)⟩)
  dsimp only [Pt.U, Pt.locs, Pt.cells, Pt.slots] at X9 l9 y9 z9 st9 hQ9
  subst l9 y9 z9
  obtain ⟨rfl, N9q, e9⟩ := hQ9
  have N9 := Fr.app N7 N9q
  have pre10 : ∀ t, Steps p.tables e below (T9.setTop (mkF m 17 #[.val (.long q1), .second, .val (.int p1), .val (.int p2)] [(.long (own_wt q1 p1 p2))])) t → Steps p.tables e below (s₁.setTop (entryFrame m #[(.long q1), (.int p1), (.int p2)] 4)) t := fun t k => pre8 t (st9 t k)
  obtain ⟨fs, hr, hrun, hended, hW, hsame⟩ := X9.leave (v := some (.long (own_wt q1 p1 p2))) (fun h => by rw [Bd.returns] at h; cases h) hlk
  refine ⟨_, _, pre10 _ ?_, hrun, hended, _, _, rfl, ?_, ⟨_, rfl⟩, hW, hsame.mono (by decide) (by decide)⟩
  · show Steps p.tables e below (T9.setTop (mkF m 17 #[.val (.long q1), .second, .val (.int p1), .val (.int p2)] [(.long (own_wt q1 p1 p2))])) _
    exact X9.lreturnOut hx Bd.returns (hb hby d3_17) hr
  · show Q3 Z q1 p1 p2 h0 n0 _ T9.heap _
    rw [e9]
    exact ⟨rfl, N9, rfl⟩
theorem pd_1 : parseMethodDescriptor "(JII)J" = some ⟨[.long, .int, .int], some .long⟩ := by decide +kernel
theorem pn_OwnerBitsWithoutTrickPinLaw : plainName "com/example/trickwise/trickwise/whist/OwnerBitsWithoutTrickPinLaw" = true := by first | (simp [plainName, overriddenIn]; done) | decide +kernel
theorem ef_0 (m : MethodId) (q1 : Int64) (p1 : Int32) (p2 : Int32) (p3 : Int32) : entryFrame m #[(.long q1), (.int p1), (.int p2), (.int p3)] maxLocals = mkF m 0 #[.val (.long q1), .second, .val (.int p1), .val (.int p2), .val (.int p3), .unset, .unset, .unset, .unset, .unset, .unset, .unset, .unset, .unset, .unset, .unset] [] := by first | (simp [entryFrame, mkF, argsToLocals, Value.category, maxLocals]; done) | rfl
def lc0_0 (q1 : Int64) (p1 : Int32) (p2 : Int32) (p3 : Int32) : Array Slot := #[.val (.long q1), .second, .val (.int p1), .val (.int p2), .val (.int p3), .unset, .unset, .unset, .unset, .unset, .unset, .unset, .unset, .unset, .unset, .unset]
def lc0_1 (q1 : Int64) (p1 : Int32) (p2 : Int32) (p3 : Int32) : Array Slot := #[.val (.long q1), .second, .val (.int p1), .val (.int p2), .val (.int p3), .val (.int (own_a p1)), .unset, .unset, .unset, .unset, .unset, .unset, .unset, .unset, .unset, .unset]
def lc0_2 (q1 : Int64) (p1 : Int32) (p2 : Int32) (p3 : Int32) : Array Slot := #[.val (.long q1), .second, .val (.int p1), .val (.int p2), .val (.int p3), .val (.int (own_a p1)), .val (.int (own_b p1 p2)), .unset, .unset, .unset, .unset, .unset, .unset, .unset, .unset, .unset]
def lc0_3 (q1 : Int64) (p1 : Int32) (p2 : Int32) (p3 : Int32) : Array Slot := #[.val (.long q1), .second, .val (.int p1), .val (.int p2), .val (.int p3), .val (.int (own_a p1)), .val (.int (own_b p1 p2)), .val (.int (own_min (own_a p1) (own_b p1 p2))), .unset, .unset, .unset, .unset, .unset, .unset, .unset, .unset]
def lc0_4 (q1 : Int64) (p1 : Int32) (p2 : Int32) (p3 : Int32) : Array Slot := #[.val (.long q1), .second, .val (.int p1), .val (.int p2), .val (.int p3), .val (.int (own_a p1)), .val (.int (own_b p1 p2)), .val (.int (own_min (own_a p1) (own_b p1 p2))), .val (.int (own_max (own_a p1) (own_b p1 p2))), .unset, .unset, .unset, .unset, .unset, .unset, .unset]
def lc0_5 (q1 : Int64) (p1 : Int32) (p2 : Int32) (p3 : Int32) : Array Slot := #[.val (.long q1), .second, .val (.int p1), .val (.int p2), .val (.int p3), .val (.int (own_a p1)), .val (.int (own_b p1 p2)), .val (.int (own_min (own_a p1) (own_b p1 p2))), .val (.int (own_max (own_a p1) (own_b p1 p2))), .val (.int (own_i p3)), .unset, .unset, .unset, .unset, .unset, .unset]
def lc0_6 (q1 : Int64) (p1 : Int32) (p2 : Int32) (p3 : Int32) : Array Slot := #[.val (.long q1), .second, .val (.int p1), .val (.int p2), .val (.int p3), .val (.int (own_a p1)), .val (.int (own_b p1 p2)), .val (.int (own_min (own_a p1) (own_b p1 p2))), .val (.int (own_max (own_a p1) (own_b p1 p2))), .val (.int (own_i p3)), .val (.long (own_wt q1 (own_a p1) (own_b p1 p2))), .second, .unset, .unset, .unset, .unset]
def lc0_7 (q1 : Int64) (p1 : Int32) (p2 : Int32) (p3 : Int32) : Array Slot := #[.val (.long q1), .second, .val (.int p1), .val (.int p2), .val (.int p3), .val (.int (own_a p1)), .val (.int (own_b p1 p2)), .val (.int (own_min (own_a p1) (own_b p1 p2))), .val (.int (own_max (own_a p1) (own_b p1 p2))), .val (.int (own_i p3)), .val (.long (own_wt q1 (own_a p1) (own_b p1 p2))), .second, .val (.long ((own_ush (own_wt q1 (own_a p1) (own_b p1 p2)) (own_i p3)) &&& (1 : Int64))), .second, .unset, .unset]
def lc0_8 (q1 : Int64) (p1 : Int32) (p2 : Int32) (p3 : Int32) : Array Slot := #[.val (.long q1), .second, .val (.int p1), .val (.int p2), .val (.int p3), .val (.int (own_a p1)), .val (.int (own_b p1 p2)), .val (.int (own_min (own_a p1) (own_b p1 p2))), .val (.int (own_max (own_a p1) (own_b p1 p2))), .val (.int (own_i p3)), .val (.long (own_wt q1 (own_a p1) (own_b p1 p2))), .second, .val (.long ((own_ush (own_wt q1 (own_a p1) (own_b p1 p2)) (own_i p3)) &&& (1 : Int64))), .second, .val (.long ((own_ush q1 (own_i p3)) &&& (1 : Int64))), .second]
def lc0_9 (q1 : Int64) (p1 : Int32) (p2 : Int32) (p3 : Int32) : Array Slot := #[.val (.long q1), .second, .val (.int p1), .val (.int p2), .val (.int p3), .val (.int (own_a p1)), .val (.int (own_b p1 p2)), .val (.int (own_min (own_a p1) (own_b p1 p2))), .val (.int (own_max (own_a p1) (own_b p1 p2))), .val (.int (own_i p3)), .val (.long (own_wt q1 (own_a p1) (own_b p1 p2))), .second, .val (.long ((own_ush (own_wt q1 (own_a p1) (own_b p1 p2)) (own_i p3)) &&& (1 : Int64))), .second, .val (.long ((own_ush q1 ((own_i p3) + (1 : Int32))) &&& (1 : Int64))), .second]
def lc0_10 (q1 : Int64) (p1 : Int32) (p2 : Int32) (p3 : Int32) : Array Slot := #[.val (.long q1), .second, .val (.int p1), .val (.int p2), .val (.int p3), .val (.int (own_a p1)), .val (.int (own_b p1 p2)), .val (.int (own_min (own_a p1) (own_b p1 p2))), .val (.int (own_max (own_a p1) (own_b p1 p2))), .val (.int (own_i p3)), .val (.long (own_wt q1 (own_a p1) (own_b p1 p2))), .second, .val (.long ((own_ush (own_wt q1 (own_a p1) (own_b p1 p2)) (own_i p3)) &&& (1 : Int64))), .second, .val (.long (0 : Int64)), .second]
def lc0_11 (q1 : Int64) (p1 : Int32) (p2 : Int32) (p3 : Int32) : Array Slot := #[.val (.long q1), .second, .val (.int p1), .val (.int p2), .val (.int p3), .val (.int (own_a p1)), .val (.int (own_b p1 p2)), .val (.int (own_min (own_a p1) (own_b p1 p2))), .val (.int (own_max (own_a p1) (own_b p1 p2))), .val (.int (own_i p3)), .val (.long (own_wt q1 (own_a p1) (own_b p1 p2))), .second, .val (.long ((own_ush (own_wt q1 (own_a p1) (own_b p1 p2)) (own_i p3)) &&& (1 : Int64))), .second, .val (.long ((own_ush q1 ((own_i p3) + (2 : Int32))) &&& (1 : Int64))), .second]
def lc0_12 (q1 : Int64) (p1 : Int32) (p2 : Int32) (p3 : Int32) (xJ : Int64) : Array Slot := #[.val (.long q1), .second, .val (.int p1), .val (.int p2), .val (.int p3), .val (.int (own_a p1)), .val (.int (own_b p1 p2)), .val (.int (own_min (own_a p1) (own_b p1 p2))), .val (.int (own_max (own_a p1) (own_b p1 p2))), .val (.int (own_i p3)), .val (.long (own_wt q1 (own_a p1) (own_b p1 p2))), .second, .val (.long ((own_ush (own_wt q1 (own_a p1) (own_b p1 p2)) (own_i p3)) &&& (1 : Int64))), .second, .val (.long xJ), .second]
def lc0_13 (q1 : Int64) (p1 : Int32) (p2 : Int32) (p3 : Int32) : Array Slot := #[.val (.long q1), .second, .val (.int p1), .val (.int p2), .val (.int p3), .val (.int (own_a p1)), .val (.int (own_b p1 p2)), .val (.int (own_min (own_a p1) (own_b p1 p2))), .val (.int (own_max (own_a p1) (own_b p1 p2))), .val (.int (own_i p3)), .val (.long (own_wt q1 (own_a p1) (own_b p1 p2))), .second, .val (.long ((own_ush (own_wt q1 (own_a p1) (own_b p1 p2)) (own_i p3)) &&& (1 : Int64))), .second, .val (.long (if (own_i p3) < (own_min (own_a p1) (own_b p1 p2)) then ((own_ush q1 (own_i p3)) &&& (1 : Int64)) else (if (own_i p3) < ((own_max (own_a p1) (own_b p1 p2)) - (1 : Int32)) then ((own_ush q1 ((own_i p3) + (1 : Int32))) &&& (1 : Int64)) else (if (63 : Int32) < ((own_i p3) + (2 : Int32)) then (0 : Int64) else ((own_ush q1 ((own_i p3) + (2 : Int32))) &&& (1 : Int64)))))), .second]
def Q0 (Z : State) (q1 : Int64) (p1 : Int32) (p2 : Int32) (p3 : Int32) (h0 : Heap) (n0 : Nat) (v : Option Value) (h : Heap) (L : List Loc) : Prop := v = some (.int (1 : Int32)) ∧ Fr n0 L
set_option maxRecDepth 65536 in
set_option maxHeartbeats 40000000 in
theorem rm0 (l : Launch) (Z : State) (a0 : Array Value) (hw : ∀ d ∈ tables_1, d.before a0 Z = true) (ws : List Jvm.Cond) (q1 : Int64) (p1 : Int32) (p2 : Int32) (p3 : Int32) (h0 : Heap) (n0 : Nat) (Z0 : n0 ≤ h0.size) :
    MetFree l x (head1 (Jvm.Cond.code x code maxLocals ret :: ws) room_1) (fun aa U => aa = #[(.long q1), (.int p1), (.int p2), (.int p3)] ∧ Z.Warmed39 U.vm ∧ U.heap = h0) (fun _ _ _ _ _ => True) (fun _ U o U' => ∃ v L, o = .returned v ∧ Q0 Z q1 p1 p2 p3 h0 n0 v U'.heap L ∧ FrameEnd U o U' L room_1.cells room_1.slots) := by
  refine MetFree.of_bodySF (plainFor_of_name pn_OwnerBitsWithoutTrickPinLaw) hisR ?_
  intro p e s m args below meth c s₁ Bd hml0 hP hK
  obtain ⟨rfl, hZ, hh⟩ := hP
  have hx := Bd.exec
  have hby := Bd.bytes
  have hml : c.maxLocals = 16 := hml0
  have hown : s.vm.findClass "com/example/trickwise/trickwise/whist/OwnerBitsWithoutTrickPinLaw" = some m.cls := findClass_of_methodNamed Bd.named
  have hnm := (name_of_methodNamed Bd.named Bd.method).1
  have X0 : Stand p l e room_1 s m #[(.long q1), (.int p1), (.int p2), (.int p3)] below meth c s₁ [] 0 0 := Stand.of_body Bd
  have e0 : s₁.heap = h0 := by rw [← hh, Bd.state]; rfl
  have N0 := Fr.nil n0
  have hlk : meth.locks = false := by first | exact BodyLoose.notSynchronized Bd | exact Body.notSynchronized Bd
  have pre0 : ∀ t, Steps p.tables e below (s₁.setTop (mkF m 0 #[.val (.long q1), .second, .val (.int p1), .val (.int p2), .val (.int p3), .unset, .unset, .unset, .unset, .unset, .unset, .unset, .unset, .unset, .unset, .unset] [])) t → Steps p.tables e below (s₁.setTop (entryFrame m #[(.long q1), (.int p1), (.int p2), (.int p3)] maxLocals)) t := fun t k => castTop (ef_0 m q1 p1 p2 p3) k
  have pre1 : ∀ t, Steps p.tables e below (s₁.setTop (mkF m 30 (lc0_2 q1 p1 p2 p3) [(.int (own_b p1 p2)), (.int (own_a p1))])) t → Steps p.tables e below (s₁.setTop (entryFrame m #[(.long q1), (.int p1), (.int p2), (.int p3)] maxLocals)) t := fun t k => pre0 t (by
    show Steps p.tables e below (s₁.setTop (mkF m 0 (lc0_0 q1 p1 p2 p3) [])) _
    refine XS.iloadN X0.here hx rfl (hb hby at_0) rfl ?_
    show Steps p.tables e below (s₁.setTop (mkF m 1 (lc0_0 q1 p1 p2 p3) [(.int p1)])) _
    refine X0.ldcInt hx hown (mvT hZ (hw _ (List.mem_of_getElem? (i := 0) rfl))) (g := (mkF m 1 (lc0_0 q1 p1 p2 p3) [(.int p1)])) rfl (hb hby at_1) _ ?_
    show Steps p.tables e below (s₁.setTop (mkF m 3 (lc0_0 q1 p1 p2 p3) [(.int (2147483647 : Int32)), (.int p1)])) _
    refine XS.iand X0.here hx rfl (hb hby at_3) rfl ?_
    show Steps p.tables e below (s₁.setTop (mkF m 4 (lc0_0 q1 p1 p2 p3) [(.int (p1 &&& (2147483647 : Int32)))])) _
    refine XS.bipush X0.here hx rfl (hb hby at_4) ?_
    show Steps p.tables e below (s₁.setTop (mkF m 6 (lc0_0 q1 p1 p2 p3) [(.int (62 : Int32)), (.int (p1 &&& (2147483647 : Int32)))])) _
    refine iremM X0 hx rfl (hb hby at_6) rfl (by decide) ?_
    show Steps p.tables e below (s₁.setTop (mkF m 7 (lc0_0 q1 p1 p2 p3) [(.int (own_a p1))])) _
    refine XS.istore X0.here hx rfl (hb hby at_7) rfl (l' := (lc0_1 q1 p1 p2 p3)) rfl ?_
    show Steps p.tables e below (s₁.setTop (mkF m 9 (lc0_1 q1 p1 p2 p3) [])) _
    refine XS.iload X0.here hx rfl (hb hby at_9) rfl ?_
    show Steps p.tables e below (s₁.setTop (mkF m 11 (lc0_1 q1 p1 p2 p3) [(.int (own_a p1))])) _
    refine XS.iconst X0.here hx rfl (hb hby at_11) ?_
    show Steps p.tables e below (s₁.setTop (mkF m 12 (lc0_1 q1 p1 p2 p3) [(.int (1 : Int32)), (.int (own_a p1))])) _
    refine XS.iadd X0.here hx rfl (hb hby at_12) rfl ?_
    show Steps p.tables e below (s₁.setTop (mkF m 13 (lc0_1 q1 p1 p2 p3) [(.int ((own_a p1) + (1 : Int32)))])) _
    refine XS.iloadN X0.here hx rfl (hb hby at_13) rfl ?_
    show Steps p.tables e below (s₁.setTop (mkF m 14 (lc0_1 q1 p1 p2 p3) [(.int p2), (.int ((own_a p1) + (1 : Int32)))])) _
    refine X0.ldcInt hx hown (mvT hZ (hw _ (List.mem_of_getElem? (i := 0) rfl))) (g := (mkF m 14 (lc0_1 q1 p1 p2 p3) [(.int p2), (.int ((own_a p1) + (1 : Int32)))])) rfl (hb hby at_14) _ ?_
    show Steps p.tables e below (s₁.setTop (mkF m 16 (lc0_1 q1 p1 p2 p3) [(.int (2147483647 : Int32)), (.int p2), (.int ((own_a p1) + (1 : Int32)))])) _
    refine XS.iand X0.here hx rfl (hb hby at_16) rfl ?_
    show Steps p.tables e below (s₁.setTop (mkF m 17 (lc0_1 q1 p1 p2 p3) [(.int (p2 &&& (2147483647 : Int32))), (.int ((own_a p1) + (1 : Int32)))])) _
    refine XS.bipush X0.here hx rfl (hb hby at_17) ?_
    show Steps p.tables e below (s₁.setTop (mkF m 19 (lc0_1 q1 p1 p2 p3) [(.int (61 : Int32)), (.int (p2 &&& (2147483647 : Int32))), (.int ((own_a p1) + (1 : Int32)))])) _
    refine iremM X0 hx rfl (hb hby at_19) rfl (by decide) ?_
    show Steps p.tables e below (s₁.setTop (mkF m 20 (lc0_1 q1 p1 p2 p3) [(.int ((p2 &&& (2147483647 : Int32)) % (61 : Int32))), (.int ((own_a p1) + (1 : Int32)))])) _
    refine XS.iadd X0.here hx rfl (hb hby at_20) rfl ?_
    show Steps p.tables e below (s₁.setTop (mkF m 21 (lc0_1 q1 p1 p2 p3) [(.int (((own_a p1) + (1 : Int32)) + ((p2 &&& (2147483647 : Int32)) % (61 : Int32))))])) _
    refine XS.bipush X0.here hx rfl (hb hby at_21) ?_
    show Steps p.tables e below (s₁.setTop (mkF m 23 (lc0_1 q1 p1 p2 p3) [(.int (62 : Int32)), (.int (((own_a p1) + (1 : Int32)) + ((p2 &&& (2147483647 : Int32)) % (61 : Int32))))])) _
    refine iremM X0 hx rfl (hb hby at_23) rfl (by decide) ?_
    show Steps p.tables e below (s₁.setTop (mkF m 24 (lc0_1 q1 p1 p2 p3) [(.int (own_b p1 p2))])) _
    refine XS.istore X0.here hx rfl (hb hby at_24) rfl (l' := (lc0_2 q1 p1 p2 p3)) rfl ?_
    show Steps p.tables e below (s₁.setTop (mkF m 26 (lc0_2 q1 p1 p2 p3) [])) _
    refine XS.iload X0.here hx rfl (hb hby at_26) rfl ?_
    show Steps p.tables e below (s₁.setTop (mkF m 28 (lc0_2 q1 p1 p2 p3) [(.int (own_a p1))])) _
    refine XS.iload X0.here hx rfl (hb hby at_28) rfl ?_
    show Steps p.tables e below (s₁.setTop (mkF m 30 (lc0_2 q1 p1 p2 p3) [(.int (own_b p1 p2)), (.int (own_a p1))])) _
    exact k)
  obtain ⟨_, _, ⟨T2, L2, k2, n2⟩, -, X2, ⟨Lc2, hQ2, l2, y2, z2⟩, st2⟩ := Jvm.LawKit.callS X0 hx (y := (⟨"java/lang/Math", "min", "(II)I"⟩ : MethodName)) hown (mvT hZ (hw _ (List.mem_of_getElem? (i := 1) rfl))) (mvT hZ (hw _ (List.mem_of_getElem? (i := 2) rfl))) (mvT hZ (hw _ (List.mem_of_getElem? (i := 3) rfl))) (mvT hZ (hw _ (List.mem_of_getElem? (i := 4) rfl))) (by decide) (backOf (W := 0) (rm1 l Z a0 hw [] (own_a p1) (own_b p1 p2) h0 n0 Z0) hZ (hw _ (List.mem_of_getElem? (i := 4) rfl)) (hw _ (List.mem_of_getElem? (i := 3) rfl)) (by decide) (by decide)) (g := (mkF m 30 (lc0_2 q1 p1 p2 p3) [(.int (own_b p1 p2)), (.int (own_a p1))])) rfl (by rw [hml]; rfl) (argsL := [(.int (own_a p1)), (.int (own_b p1 p2))]) (rest := []) (lenOf pd_0 rfl) rfl (by show 2 * 0 + _ ≤ _; exact Nat.le_of_eq rfl) (hb hby at_30) (fun _ _ => ⟨rfl, e0, (by decide : 0 + 0 ≤ _), (by decide : 0 + 0 ≤ _)⟩)
  dsimp only [Pt.U, Pt.locs, Pt.cells, Pt.slots] at X2 l2 y2 z2 st2 hQ2
  subst l2 y2 z2
  obtain ⟨rfl, N2q, e2⟩ := hQ2
  have N2 := Fr.app N0 N2q
  have pre3 : ∀ t, Steps p.tables e below (T2.setTop (mkF m 33 (lc0_2 q1 p1 p2 p3) [(.int (own_min (own_a p1) (own_b p1 p2)))])) t → Steps p.tables e below (s₁.setTop (entryFrame m #[(.long q1), (.int p1), (.int p2), (.int p3)] maxLocals)) t := fun t k => pre1 t (st2 t k)
  have pre4 : ∀ t, Steps p.tables e below (T2.setTop (mkF m 39 (lc0_3 q1 p1 p2 p3) [(.int (own_b p1 p2)), (.int (own_a p1))])) t → Steps p.tables e below (s₁.setTop (entryFrame m #[(.long q1), (.int p1), (.int p2), (.int p3)] maxLocals)) t := fun t k => pre3 t (by
    show Steps p.tables e below (T2.setTop (mkF m 33 (lc0_2 q1 p1 p2 p3) [(.int (own_min (own_a p1) (own_b p1 p2)))])) _
    refine XS.istore X2.here hx rfl (hb hby at_33) rfl (l' := (lc0_3 q1 p1 p2 p3)) rfl ?_
    show Steps p.tables e below (T2.setTop (mkF m 35 (lc0_3 q1 p1 p2 p3) [])) _
    refine XS.iload X2.here hx rfl (hb hby at_35) rfl ?_
    show Steps p.tables e below (T2.setTop (mkF m 37 (lc0_3 q1 p1 p2 p3) [(.int (own_a p1))])) _
    refine XS.iload X2.here hx rfl (hb hby at_37) rfl ?_
    show Steps p.tables e below (T2.setTop (mkF m 39 (lc0_3 q1 p1 p2 p3) [(.int (own_b p1 p2)), (.int (own_a p1))])) _
    exact k)
  obtain ⟨_, _, ⟨T5, L5, k5, n5⟩, -, X5, ⟨Lc5, hQ5, l5, y5, z5⟩, st5⟩ := Jvm.LawKit.callS X2 hx (y := (⟨"java/lang/Math", "max", "(II)I"⟩ : MethodName)) hown (mvT hZ (hw _ (List.mem_of_getElem? (i := 5) rfl))) (mvT hZ (hw _ (List.mem_of_getElem? (i := 6) rfl))) (mvT hZ (hw _ (List.mem_of_getElem? (i := 3) rfl))) (mvT hZ (hw _ (List.mem_of_getElem? (i := 7) rfl))) (by decide) (backOf (W := 0) (rm2 l Z a0 hw [] (own_a p1) (own_b p1 p2) h0 n0 Z0) hZ (hw _ (List.mem_of_getElem? (i := 7) rfl)) (hw _ (List.mem_of_getElem? (i := 3) rfl)) (by decide) (by decide)) (g := (mkF m 39 (lc0_3 q1 p1 p2 p3) [(.int (own_b p1 p2)), (.int (own_a p1))])) rfl (by rw [hml]; rfl) (argsL := [(.int (own_a p1)), (.int (own_b p1 p2))]) (rest := []) (lenOf pd_0 rfl) rfl (by show 2 * 0 + _ ≤ _; exact Nat.le_of_eq rfl) (hb hby at_39) (fun _ _ => ⟨rfl, e2, (by decide : 0 + 0 ≤ _), (by decide : 0 + 0 ≤ _)⟩)
  dsimp only [Pt.U, Pt.locs, Pt.cells, Pt.slots] at X5 l5 y5 z5 st5 hQ5
  subst l5 y5 z5
  obtain ⟨rfl, N5q, e5⟩ := hQ5
  have N5 := Fr.app N2 N5q
  have pre6 : ∀ t, Steps p.tables e below (T5.setTop (mkF m 42 (lc0_3 q1 p1 p2 p3) [(.int (own_max (own_a p1) (own_b p1 p2)))])) t → Steps p.tables e below (s₁.setTop (entryFrame m #[(.long q1), (.int p1), (.int p2), (.int p3)] maxLocals)) t := fun t k => pre4 t (st5 t k)
  have pre7 : ∀ t, Steps p.tables e below (T5.setTop (mkF m 56 (lc0_5 q1 p1 p2 p3) [(.int (own_b p1 p2)), (.int (own_a p1)), (.long q1)])) t → Steps p.tables e below (s₁.setTop (entryFrame m #[(.long q1), (.int p1), (.int p2), (.int p3)] maxLocals)) t := fun t k => pre6 t (by
    show Steps p.tables e below (T5.setTop (mkF m 42 (lc0_3 q1 p1 p2 p3) [(.int (own_max (own_a p1) (own_b p1 p2)))])) _
    refine XS.istore X5.here hx rfl (hb hby at_42) rfl (l' := (lc0_4 q1 p1 p2 p3)) rfl ?_
    show Steps p.tables e below (T5.setTop (mkF m 44 (lc0_4 q1 p1 p2 p3) [])) _
    refine XS.iload X5.here hx rfl (hb hby at_44) rfl ?_
    show Steps p.tables e below (T5.setTop (mkF m 46 (lc0_4 q1 p1 p2 p3) [(.int p3)])) _
    refine XS.bipush X5.here hx rfl (hb hby at_46) ?_
    show Steps p.tables e below (T5.setTop (mkF m 48 (lc0_4 q1 p1 p2 p3) [(.int (63 : Int32)), (.int p3)])) _
    refine XS.iand X5.here hx rfl (hb hby at_48) rfl ?_
    show Steps p.tables e below (T5.setTop (mkF m 49 (lc0_4 q1 p1 p2 p3) [(.int (own_i p3))])) _
    refine XS.istore X5.here hx rfl (hb hby at_49) rfl (l' := (lc0_5 q1 p1 p2 p3)) rfl ?_
    show Steps p.tables e below (T5.setTop (mkF m 51 (lc0_5 q1 p1 p2 p3) [])) _
    refine XS.lloadN X5.here hx rfl (hb hby at_51) rfl ?_
    show Steps p.tables e below (T5.setTop (mkF m 52 (lc0_5 q1 p1 p2 p3) [(.long q1)])) _
    refine XS.iload X5.here hx rfl (hb hby at_52) rfl ?_
    show Steps p.tables e below (T5.setTop (mkF m 54 (lc0_5 q1 p1 p2 p3) [(.int (own_a p1)), (.long q1)])) _
    refine XS.iload X5.here hx rfl (hb hby at_54) rfl ?_
    show Steps p.tables e below (T5.setTop (mkF m 56 (lc0_5 q1 p1 p2 p3) [(.int (own_b p1 p2)), (.int (own_a p1)), (.long q1)])) _
    exact k)
  obtain ⟨_, _, ⟨T8, L8, k8, n8⟩, -, X8, ⟨Lc8, hQ8, l8, y8, z8⟩, st8⟩ := Jvm.LawKit.callS X5 hx (y := (⟨"com/example/trickwise/trickwise/whist/OwnerBits", "withoutTrick", "(JII)J"⟩ : MethodName)) hown (mvT hZ (hw _ (List.mem_of_getElem? (i := 8) rfl))) (mvT hZ (hw _ (List.mem_of_getElem? (i := 9) rfl))) (mvT hZ (hw _ (List.mem_of_getElem? (i := 10) rfl))) (mvT hZ (hw _ (List.mem_of_getElem? (i := 11) rfl))) (by decide) (backOf (W := 0) (rm3 l Z a0 hw [] q1 (own_a p1) (own_b p1 p2) h0 n0 Z0) hZ (hw _ (List.mem_of_getElem? (i := 11) rfl)) (hw _ (List.mem_of_getElem? (i := 10) rfl)) (by decide) (by decide)) (g := (mkF m 56 (lc0_5 q1 p1 p2 p3) [(.int (own_b p1 p2)), (.int (own_a p1)), (.long q1)])) rfl (by rw [hml]; rfl) (argsL := [(.long q1), (.int (own_a p1)), (.int (own_b p1 p2))]) (rest := []) (lenOf pd_1 rfl) rfl (by show 2 * 0 + _ ≤ _; exact Nat.le_of_eq rfl) (hb hby at_56) (fun _ _ => ⟨rfl, e5, (by decide : 0 + 0 ≤ _), (by decide : 0 + 0 ≤ _)⟩)
  dsimp only [Pt.U, Pt.locs, Pt.cells, Pt.slots] at X8 l8 y8 z8 st8 hQ8
  subst l8 y8 z8
  obtain ⟨rfl, N8q, e8⟩ := hQ8
  have N8 := Fr.app N5 N8q
  have pre9 : ∀ t, Steps p.tables e below (T8.setTop (mkF m 59 (lc0_5 q1 p1 p2 p3) [(.long (own_wt q1 (own_a p1) (own_b p1 p2)))])) t → Steps p.tables e below (s₁.setTop (entryFrame m #[(.long q1), (.int p1), (.int p2), (.int p3)] maxLocals)) t := fun t k => pre7 t (st8 t k)
  have pre10 : ∀ t, Steps p.tables e below (T8.setTop (mkF m 74 (lc0_7 q1 p1 p2 p3) [(.int (own_min (own_a p1) (own_b p1 p2))), (.int (own_i p3))])) t → Steps p.tables e below (s₁.setTop (entryFrame m #[(.long q1), (.int p1), (.int p2), (.int p3)] maxLocals)) t := fun t k => pre9 t (by
    show Steps p.tables e below (T8.setTop (mkF m 59 (lc0_5 q1 p1 p2 p3) [(.long (own_wt q1 (own_a p1) (own_b p1 p2)))])) _
    refine XS.lstore X8.here hx rfl (hb hby at_59) rfl (l' := (lc0_6 q1 p1 p2 p3)) rfl ?_
    show Steps p.tables e below (T8.setTop (mkF m 61 (lc0_6 q1 p1 p2 p3) [])) _
    refine XS.lload X8.here hx rfl (hb hby at_61) rfl ?_
    show Steps p.tables e below (T8.setTop (mkF m 63 (lc0_6 q1 p1 p2 p3) [(.long (own_wt q1 (own_a p1) (own_b p1 p2)))])) _
    refine XS.iload X8.here hx rfl (hb hby at_63) rfl ?_
    show Steps p.tables e below (T8.setTop (mkF m 65 (lc0_6 q1 p1 p2 p3) [(.int (own_i p3)), (.long (own_wt q1 (own_a p1) (own_b p1 p2)))])) _
    refine XS.lushr X8.here hx rfl (hb hby at_65) rfl ?_
    show Steps p.tables e below (T8.setTop (mkF m 66 (lc0_6 q1 p1 p2 p3) [(.long (own_ush (own_wt q1 (own_a p1) (own_b p1 p2)) (own_i p3)))])) _
    refine XS.lconst X8.here hx rfl (hb hby at_66) ?_
    show Steps p.tables e below (T8.setTop (mkF m 67 (lc0_6 q1 p1 p2 p3) [(.long (1 : Int64)), (.long (own_ush (own_wt q1 (own_a p1) (own_b p1 p2)) (own_i p3)))])) _
    refine XS.land X8.here hx rfl (hb hby at_67) rfl ?_
    show Steps p.tables e below (T8.setTop (mkF m 68 (lc0_6 q1 p1 p2 p3) [(.long ((own_ush (own_wt q1 (own_a p1) (own_b p1 p2)) (own_i p3)) &&& (1 : Int64)))])) _
    refine XS.lstore X8.here hx rfl (hb hby at_68) rfl (l' := (lc0_7 q1 p1 p2 p3)) rfl ?_
    show Steps p.tables e below (T8.setTop (mkF m 70 (lc0_7 q1 p1 p2 p3) [])) _
    refine XS.iload X8.here hx rfl (hb hby at_70) rfl ?_
    show Steps p.tables e below (T8.setTop (mkF m 72 (lc0_7 q1 p1 p2 p3) [(.int (own_i p3))])) _
    refine XS.iload X8.here hx rfl (hb hby at_72) rfl ?_
    show Steps p.tables e below (T8.setTop (mkF m 74 (lc0_7 q1 p1 p2 p3) [(.int (own_min (own_a p1) (own_b p1 p2))), (.int (own_i p3))])) _
    exact k)
  have pre14 : ∀ t, Steps p.tables e below (T8.setTop (mkF m 135 (lc0_13 q1 p1 p2 p3) [])) t → Steps p.tables e below (s₁.setTop (entryFrame m #[(.long q1), (.int p1), (.int p2), (.int p3)] maxLocals)) t := fun t k => pre10 t (by
    show Steps p.tables e below (T8.setTop (mkF m 74 (lc0_7 q1 p1 p2 p3) [(.int (own_min (own_a p1) (own_b p1 p2))), (.int (own_i p3))])) _
    by_cases hm74_11 : (own_i p3) < (own_min (own_a p1) (own_b p1 p2))
    · refine XS.icmpNo X8.here hx rfl (hb hby at_74) rfl (tlt hm74_11).2.1 ?_
      show Steps p.tables e below (T8.setTop (mkF m 77 (lc0_7 q1 p1 p2 p3) [])) _
      refine XS.lloadN X8.here hx rfl (hb hby at_77) rfl ?_
      show Steps p.tables e below (T8.setTop (mkF m 78 (lc0_7 q1 p1 p2 p3) [(.long q1)])) _
      refine XS.iload X8.here hx rfl (hb hby at_78) rfl ?_
      show Steps p.tables e below (T8.setTop (mkF m 80 (lc0_7 q1 p1 p2 p3) [(.int (own_i p3)), (.long q1)])) _
      refine XS.lushr X8.here hx rfl (hb hby at_80) rfl ?_
      show Steps p.tables e below (T8.setTop (mkF m 81 (lc0_7 q1 p1 p2 p3) [(.long (own_ush q1 (own_i p3)))])) _
      refine XS.lconst X8.here hx rfl (hb hby at_81) ?_
      show Steps p.tables e below (T8.setTop (mkF m 82 (lc0_7 q1 p1 p2 p3) [(.long (1 : Int64)), (.long (own_ush q1 (own_i p3)))])) _
      refine XS.land X8.here hx rfl (hb hby at_82) rfl ?_
      show Steps p.tables e below (T8.setTop (mkF m 83 (lc0_7 q1 p1 p2 p3) [(.long ((own_ush q1 (own_i p3)) &&& (1 : Int64)))])) _
      refine XS.lstore X8.here hx rfl (hb hby at_83) rfl (l' := (lc0_8 q1 p1 p2 p3)) rfl ?_
      show Steps p.tables e below (T8.setTop (mkF m 85 (lc0_8 q1 p1 p2 p3) [])) _
      refine XS.goto X8.here hx rfl (pc0 := 85) (pc' := 135) rfl (hb hby at_85) (by decide) (by decide) ?_
      show Steps p.tables e below (T8.setTop (mkF m 135 (lc0_8 q1 p1 p2 p3) [])) _
      have q : (if (own_i p3) < (own_min (own_a p1) (own_b p1 p2)) then ((own_ush q1 (own_i p3)) &&& (1 : Int64)) else (if (own_i p3) < ((own_max (own_a p1) (own_b p1 p2)) - (1 : Int32)) then ((own_ush q1 ((own_i p3) + (1 : Int32))) &&& (1 : Int64)) else (if (63 : Int32) < ((own_i p3) + (2 : Int32)) then (0 : Int64) else ((own_ush q1 ((own_i p3) + (2 : Int32))) &&& (1 : Int64))))) = ((own_ush q1 (own_i p3)) &&& (1 : Int64)) := by simp only [if_pos hm74_11]
      exact Eq.subst (motive := fun xJ => Steps p.tables e below (T8.setTop (mkF m 135 (lc0_12 q1 p1 p2 p3 xJ) [])) t) q k
    · refine XS.icmpYes X8.here hx rfl (pc0 := 74) (pc' := 88) rfl (hb hby at_74) rfl (flt hm74_11).2.1 (by decide) (by decide) ?_
      show Steps p.tables e below (T8.setTop (mkF m 88 (lc0_7 q1 p1 p2 p3) [])) _
      refine XS.iload X8.here hx rfl (hb hby at_88) rfl ?_
      show Steps p.tables e below (T8.setTop (mkF m 90 (lc0_7 q1 p1 p2 p3) [(.int (own_i p3))])) _
      refine XS.iload X8.here hx rfl (hb hby at_90) rfl ?_
      show Steps p.tables e below (T8.setTop (mkF m 92 (lc0_7 q1 p1 p2 p3) [(.int (own_max (own_a p1) (own_b p1 p2))), (.int (own_i p3))])) _
      refine XS.iconst X8.here hx rfl (hb hby at_92) ?_
      show Steps p.tables e below (T8.setTop (mkF m 93 (lc0_7 q1 p1 p2 p3) [(.int (1 : Int32)), (.int (own_max (own_a p1) (own_b p1 p2))), (.int (own_i p3))])) _
      refine XS.isub X8.here hx rfl (hb hby at_93) rfl ?_
      show Steps p.tables e below (T8.setTop (mkF m 94 (lc0_7 q1 p1 p2 p3) [(.int ((own_max (own_a p1) (own_b p1 p2)) - (1 : Int32))), (.int (own_i p3))])) _
      by_cases hm94_12 : (own_i p3) < ((own_max (own_a p1) (own_b p1 p2)) - (1 : Int32))
      · refine XS.icmpNo X8.here hx rfl (hb hby at_94) rfl (tlt hm94_12).2.1 ?_
        show Steps p.tables e below (T8.setTop (mkF m 97 (lc0_7 q1 p1 p2 p3) [])) _
        refine XS.lloadN X8.here hx rfl (hb hby at_97) rfl ?_
        show Steps p.tables e below (T8.setTop (mkF m 98 (lc0_7 q1 p1 p2 p3) [(.long q1)])) _
        refine XS.iload X8.here hx rfl (hb hby at_98) rfl ?_
        show Steps p.tables e below (T8.setTop (mkF m 100 (lc0_7 q1 p1 p2 p3) [(.int (own_i p3)), (.long q1)])) _
        refine XS.iconst X8.here hx rfl (hb hby at_100) ?_
        show Steps p.tables e below (T8.setTop (mkF m 101 (lc0_7 q1 p1 p2 p3) [(.int (1 : Int32)), (.int (own_i p3)), (.long q1)])) _
        refine XS.iadd X8.here hx rfl (hb hby at_101) rfl ?_
        show Steps p.tables e below (T8.setTop (mkF m 102 (lc0_7 q1 p1 p2 p3) [(.int ((own_i p3) + (1 : Int32))), (.long q1)])) _
        refine XS.lushr X8.here hx rfl (hb hby at_102) rfl ?_
        show Steps p.tables e below (T8.setTop (mkF m 103 (lc0_7 q1 p1 p2 p3) [(.long (own_ush q1 ((own_i p3) + (1 : Int32))))])) _
        refine XS.lconst X8.here hx rfl (hb hby at_103) ?_
        show Steps p.tables e below (T8.setTop (mkF m 104 (lc0_7 q1 p1 p2 p3) [(.long (1 : Int64)), (.long (own_ush q1 ((own_i p3) + (1 : Int32))))])) _
        refine XS.land X8.here hx rfl (hb hby at_104) rfl ?_
        show Steps p.tables e below (T8.setTop (mkF m 105 (lc0_7 q1 p1 p2 p3) [(.long ((own_ush q1 ((own_i p3) + (1 : Int32))) &&& (1 : Int64)))])) _
        refine XS.lstore X8.here hx rfl (hb hby at_105) rfl (l' := (lc0_9 q1 p1 p2 p3)) rfl ?_
        show Steps p.tables e below (T8.setTop (mkF m 107 (lc0_9 q1 p1 p2 p3) [])) _
        refine XS.goto X8.here hx rfl (pc0 := 107) (pc' := 135) rfl (hb hby at_107) (by decide) (by decide) ?_
        show Steps p.tables e below (T8.setTop (mkF m 135 (lc0_9 q1 p1 p2 p3) [])) _
        have q : (if (own_i p3) < (own_min (own_a p1) (own_b p1 p2)) then ((own_ush q1 (own_i p3)) &&& (1 : Int64)) else (if (own_i p3) < ((own_max (own_a p1) (own_b p1 p2)) - (1 : Int32)) then ((own_ush q1 ((own_i p3) + (1 : Int32))) &&& (1 : Int64)) else (if (63 : Int32) < ((own_i p3) + (2 : Int32)) then (0 : Int64) else ((own_ush q1 ((own_i p3) + (2 : Int32))) &&& (1 : Int64))))) = ((own_ush q1 ((own_i p3) + (1 : Int32))) &&& (1 : Int64)) := by simp only [if_neg hm74_11, if_pos hm94_12]
        exact Eq.subst (motive := fun xJ => Steps p.tables e below (T8.setTop (mkF m 135 (lc0_12 q1 p1 p2 p3 xJ) [])) t) q k
      · refine XS.icmpYes X8.here hx rfl (pc0 := 94) (pc' := 110) rfl (hb hby at_94) rfl (flt hm94_12).2.1 (by decide) (by decide) ?_
        show Steps p.tables e below (T8.setTop (mkF m 110 (lc0_7 q1 p1 p2 p3) [])) _
        refine XS.iload X8.here hx rfl (hb hby at_110) rfl ?_
        show Steps p.tables e below (T8.setTop (mkF m 112 (lc0_7 q1 p1 p2 p3) [(.int (own_i p3))])) _
        refine XS.iconst X8.here hx rfl (hb hby at_112) ?_
        show Steps p.tables e below (T8.setTop (mkF m 113 (lc0_7 q1 p1 p2 p3) [(.int (2 : Int32)), (.int (own_i p3))])) _
        refine XS.iadd X8.here hx rfl (hb hby at_113) rfl ?_
        show Steps p.tables e below (T8.setTop (mkF m 114 (lc0_7 q1 p1 p2 p3) [(.int ((own_i p3) + (2 : Int32)))])) _
        refine XS.bipush X8.here hx rfl (hb hby at_114) ?_
        show Steps p.tables e below (T8.setTop (mkF m 116 (lc0_7 q1 p1 p2 p3) [(.int (63 : Int32)), (.int ((own_i p3) + (2 : Int32)))])) _
        by_cases hm116_13 : (63 : Int32) < ((own_i p3) + (2 : Int32))
        · refine XS.icmpYes X8.here hx rfl (pc0 := 116) (pc' := 132) rfl (hb hby at_116) rfl (tlt hm116_13).2.2.1 (by decide) (by decide) ?_
          show Steps p.tables e below (T8.setTop (mkF m 132 (lc0_7 q1 p1 p2 p3) [])) _
          refine XS.lconst X8.here hx rfl (hb hby at_132) ?_
          show Steps p.tables e below (T8.setTop (mkF m 133 (lc0_7 q1 p1 p2 p3) [(.long (0 : Int64))])) _
          refine XS.lstore X8.here hx rfl (hb hby at_133) rfl (l' := (lc0_10 q1 p1 p2 p3)) rfl ?_
          show Steps p.tables e below (T8.setTop (mkF m 135 (lc0_10 q1 p1 p2 p3) [])) _
          have q : (if (own_i p3) < (own_min (own_a p1) (own_b p1 p2)) then ((own_ush q1 (own_i p3)) &&& (1 : Int64)) else (if (own_i p3) < ((own_max (own_a p1) (own_b p1 p2)) - (1 : Int32)) then ((own_ush q1 ((own_i p3) + (1 : Int32))) &&& (1 : Int64)) else (if (63 : Int32) < ((own_i p3) + (2 : Int32)) then (0 : Int64) else ((own_ush q1 ((own_i p3) + (2 : Int32))) &&& (1 : Int64))))) = (0 : Int64) := by simp only [if_neg hm74_11, if_neg hm94_12, if_pos hm116_13]
          exact Eq.subst (motive := fun xJ => Steps p.tables e below (T8.setTop (mkF m 135 (lc0_12 q1 p1 p2 p3 xJ) [])) t) q k
        · refine XS.icmpNo X8.here hx rfl (hb hby at_116) rfl (flt hm116_13).2.2.1 ?_
          show Steps p.tables e below (T8.setTop (mkF m 119 (lc0_7 q1 p1 p2 p3) [])) _
          refine XS.lloadN X8.here hx rfl (hb hby at_119) rfl ?_
          show Steps p.tables e below (T8.setTop (mkF m 120 (lc0_7 q1 p1 p2 p3) [(.long q1)])) _
          refine XS.iload X8.here hx rfl (hb hby at_120) rfl ?_
          show Steps p.tables e below (T8.setTop (mkF m 122 (lc0_7 q1 p1 p2 p3) [(.int (own_i p3)), (.long q1)])) _
          refine XS.iconst X8.here hx rfl (hb hby at_122) ?_
          show Steps p.tables e below (T8.setTop (mkF m 123 (lc0_7 q1 p1 p2 p3) [(.int (2 : Int32)), (.int (own_i p3)), (.long q1)])) _
          refine XS.iadd X8.here hx rfl (hb hby at_123) rfl ?_
          show Steps p.tables e below (T8.setTop (mkF m 124 (lc0_7 q1 p1 p2 p3) [(.int ((own_i p3) + (2 : Int32))), (.long q1)])) _
          refine XS.lushr X8.here hx rfl (hb hby at_124) rfl ?_
          show Steps p.tables e below (T8.setTop (mkF m 125 (lc0_7 q1 p1 p2 p3) [(.long (own_ush q1 ((own_i p3) + (2 : Int32))))])) _
          refine XS.lconst X8.here hx rfl (hb hby at_125) ?_
          show Steps p.tables e below (T8.setTop (mkF m 126 (lc0_7 q1 p1 p2 p3) [(.long (1 : Int64)), (.long (own_ush q1 ((own_i p3) + (2 : Int32))))])) _
          refine XS.land X8.here hx rfl (hb hby at_126) rfl ?_
          show Steps p.tables e below (T8.setTop (mkF m 127 (lc0_7 q1 p1 p2 p3) [(.long ((own_ush q1 ((own_i p3) + (2 : Int32))) &&& (1 : Int64)))])) _
          refine XS.lstore X8.here hx rfl (hb hby at_127) rfl (l' := (lc0_11 q1 p1 p2 p3)) rfl ?_
          show Steps p.tables e below (T8.setTop (mkF m 129 (lc0_11 q1 p1 p2 p3) [])) _
          refine XS.goto X8.here hx rfl (pc0 := 129) (pc' := 135) rfl (hb hby at_129) (by decide) (by decide) ?_
          show Steps p.tables e below (T8.setTop (mkF m 135 (lc0_11 q1 p1 p2 p3) [])) _
          have q : (if (own_i p3) < (own_min (own_a p1) (own_b p1 p2)) then ((own_ush q1 (own_i p3)) &&& (1 : Int64)) else (if (own_i p3) < ((own_max (own_a p1) (own_b p1 p2)) - (1 : Int32)) then ((own_ush q1 ((own_i p3) + (1 : Int32))) &&& (1 : Int64)) else (if (63 : Int32) < ((own_i p3) + (2 : Int32)) then (0 : Int64) else ((own_ush q1 ((own_i p3) + (2 : Int32))) &&& (1 : Int64))))) = ((own_ush q1 ((own_i p3) + (2 : Int32))) &&& (1 : Int64)) := by simp only [if_neg hm74_11, if_neg hm94_12, if_neg hm116_13]
          exact Eq.subst (motive := fun xJ => Steps p.tables e below (T8.setTop (mkF m 135 (lc0_12 q1 p1 p2 p3 xJ) [])) t) q k)
  have pre15 : ∀ t, Steps p.tables e below (T8.setTop (mkF m 148 (lc0_13 q1 p1 p2 p3) [(.int (1 : Int32))])) t → Steps p.tables e below (s₁.setTop (entryFrame m #[(.long q1), (.int p1), (.int p2), (.int p3)] maxLocals)) t := fun t k => pre14 t (by
    show Steps p.tables e below (T8.setTop (mkF m 135 (lc0_13 q1 p1 p2 p3) [])) _
    refine XS.lload X8.here hx rfl (hb hby at_135) rfl ?_
    show Steps p.tables e below (T8.setTop (mkF m 137 (lc0_13 q1 p1 p2 p3) [(.long ((own_ush (own_wt q1 (own_a p1) (own_b p1 p2)) (own_i p3)) &&& (1 : Int64)))])) _
    refine XS.lload X8.here hx rfl (hb hby at_137) rfl ?_
    show Steps p.tables e below (T8.setTop (mkF m 139 (lc0_13 q1 p1 p2 p3) [(.long (if (own_i p3) < (own_min (own_a p1) (own_b p1 p2)) then ((own_ush q1 (own_i p3)) &&& (1 : Int64)) else (if (own_i p3) < ((own_max (own_a p1) (own_b p1 p2)) - (1 : Int32)) then ((own_ush q1 ((own_i p3) + (1 : Int32))) &&& (1 : Int64)) else (if (63 : Int32) < ((own_i p3) + (2 : Int32)) then (0 : Int64) else ((own_ush q1 ((own_i p3) + (2 : Int32))) &&& (1 : Int64)))))), (.long ((own_ush (own_wt q1 (own_a p1) (own_b p1 p2)) (own_i p3)) &&& (1 : Int64)))])) _
    refine XS.lcmp X8.here hx rfl (hb hby at_139) rfl ?_
    show Steps p.tables e below (T8.setTop (mkF m 140 (lc0_13 q1 p1 p2 p3) [(.int (lcmpW ((own_ush (own_wt q1 (own_a p1) (own_b p1 p2)) (own_i p3)) &&& (1 : Int64)) (if (own_i p3) < (own_min (own_a p1) (own_b p1 p2)) then ((own_ush q1 (own_i p3)) &&& (1 : Int64)) else (if (own_i p3) < ((own_max (own_a p1) (own_b p1 p2)) - (1 : Int32)) then ((own_ush q1 ((own_i p3) + (1 : Int32))) &&& (1 : Int64)) else (if (63 : Int32) < ((own_i p3) + (2 : Int32)) then (0 : Int64) else ((own_ush q1 ((own_i p3) + (2 : Int32))) &&& (1 : Int64)))))))])) _
    refine XS.ifNo X8.here hx rfl (hb hby at_140) rfl ((if0 _ _).trans (teq ((lw_eq _ _).mpr (show ((own_ush (own_wt q1 (own_a p1) (own_b p1 p2)) (own_i p3)) &&& (1 : Int64)) = (if (own_i p3) < (own_min (own_a p1) (own_b p1 p2)) then ((own_ush q1 (own_i p3)) &&& (1 : Int64)) else (if (own_i p3) < ((own_max (own_a p1) (own_b p1 p2)) - (1 : Int32)) then ((own_ush q1 ((own_i p3) + (1 : Int32))) &&& (1 : Int64)) else (if (63 : Int32) < ((own_i p3) + (2 : Int32)) then (0 : Int64) else ((own_ush q1 ((own_i p3) + (2 : Int32))) &&& (1 : Int64))))) from own_law q1 p1 p2 p3))).2) ?_
    show Steps p.tables e below (T8.setTop (mkF m 143 (lc0_13 q1 p1 p2 p3) [])) _
    refine XS.iconst X8.here hx rfl (hb hby at_143) ?_
    show Steps p.tables e below (T8.setTop (mkF m 144 (lc0_13 q1 p1 p2 p3) [(.int (1 : Int32))])) _
    refine XS.goto X8.here hx rfl (pc0 := 144) (pc' := 148) rfl (hb hby at_144) (by decide) (by decide) ?_
    show Steps p.tables e below (T8.setTop (mkF m 148 (lc0_13 q1 p1 p2 p3) [(.int (1 : Int32))])) _
    exact k)
  obtain ⟨fs, hr, hrun, hended, hW, hsame⟩ := X8.leave (v := some (.int (1 : Int32))) (fun h => by rw [Bd.returns] at h; cases h) hlk
  refine ⟨_, _, pre15 _ ?_, hrun, hended, _, _, rfl, ?_, ⟨_, rfl⟩, hW, hsame.mono (by decide) (by decide)⟩
  · show Steps p.tables e below (T8.setTop (mkF m 148 (lc0_13 q1 p1 p2 p3) [(.int (1 : Int32))])) _
    exact retN X8 hx (t := .boolean) Bd.returns (by simp) (hb hby at_148) hr
  · show Q0 Z q1 p1 p2 p3 h0 n0 _ T8.heap _
    rw [e8]
    exact ⟨rfl, N8⟩
set_option maxRecDepth 65536 in
set_option maxHeartbeats 40000000 in
theorem comes_1 {Post : Tables → Env → Array Value → State → Outcome → State → Prop} (hpost : ∀ tb e args s v u, (limb_1_1.after args s (.returned v) u = true ∧ limb_1_2.after args s (.returned v) u = true ∧ True) → FrameEnd s (.returned v) u (Jvm.fieldLocs frame_1_writes args s ++ Jvm.arrayLocs frame_1_arrays args s ++ Jvm.staticLocs frame_1_statics s) 0 0 → Post tb e args s (.returned v) u) :
    ArmFor flags0 classFile x code maxLocals ret World_1 tables_1 room_1 Calls_1 rest_1 Pre_1 Post := by
  intro l hfl _ _ p e ha hc hk s m args below hf hA hF happ hP
  obtain ⟨hcalls, hrest, hpre⟩ := hP
  obtain ⟨-, -, -, hnamed, -, -, -, hat⟩ := (Spec.applies_iff hf).mp happ
  obtain ⟨hg, hn⟩ := and_e (Cond.before_iff.mp (show (Jvm.Cond.and given_1 narrow_1).before args s = true from hpre))
  obtain ⟨hcnt, g0⟩ := and_e hg
  obtain ⟨k0, g1⟩ := and_e g0
  obtain ⟨k1, g2⟩ := and_e g1
  obtain ⟨k2, g3⟩ := and_e g2
  have k3 := g3
  obtain ⟨w0, w1, w2, w3, rfl⟩ : ∃ w0 w1 w2 w3 : Value, args = #[w0, w1, w2, w3] := by
    have hs : args.size = 4 := by simpa [Cond.value, given_1] using hcnt
    obtain ⟨L⟩ := args
    match L, hs with
    | [w0, w1, w2, w3], _ => exact ⟨w0, w1, w2, w3, rfl⟩
  have hw := fun d (hd : d ∈ tables_1) => atoms_spec (ws := Jvm.Cond.code x code maxLocals ret :: tables_1) hat d (List.mem_cons_of_mem _ hd)
  obtain ⟨i0, ei0⟩ := isL_v k0
  obtain rfl : w0 = (.long i0) := Option.some.inj ei0
  obtain ⟨i1, ei1⟩ := is_v k1
  obtain rfl : w1 = (.int i1) := Option.some.inj ei1
  obtain ⟨i2, ei2⟩ := is_v k2
  obtain rfl : w2 = (.int i2) := Option.some.inj ei2
  obtain ⟨i3, ei3⟩ := is_v k3
  obtain rfl : w3 = (.int i3) := Option.some.inj ei3
  obtain ⟨n, o, h1, h2, h3, _, L, rfl, ⟨rfl, N⟩, hq⟩ := rm0 l s _ hw tables_1 i0 i1 i2 i3 s.heap s.heap.size (Nat.le_refl _) p e ha hc hk s m _ below hf ((Spec.applies_iff_loose hf).mp happ).1 ⟨rfl, State.Warmed39.refl s, rfl⟩ trivial
  refine ⟨n, _, h1, h2, h3, hpost _ _ _ _ _ _ ⟨Cond.after_iff.mpr rfl, Cond.after_iff.mpr (eq_i res_at (Term.int_eval (1)) rfl), trivial⟩ ⟨hq.1, hq.2.1, (hq.2.2.sift fun y hy => Or.inr (N y hy)).mono (by decide) (by decide)⟩⟩
theorem main_1_1 : Claimed_1_1 := comes_1 fun _ _ _ _ _ _ h hF => ⟨h.1, hF⟩
theorem main_1_2 : Claimed_1_2 := comes_1 fun _ _ _ _ _ _ h hF => ⟨h.2.1, hF⟩
end Jvm.Pilot.@@N@@
namespace Jvm.Pilot.@@N@@
open Jvm Jvm.ClassFile Sem Op Lib Jvm.Free Jvm.Stand Jvm.Pilot.@@N@@.Jvm.D
/-! MADE BY PROGRAM (witnessworld.py) out of the Statement's table words and the real class files: 10 classes; the members and pool entries that the words name. The judged class is class 1, her method 1. -/
namespace start1
open Jvm.ClassFile
def u (s : String) : CpInfo := .utf8 (stringToUtf16 s)
/-- a pool by its gaps: so many unusable entries, then the entry; so many at the end -/
def gap : Nat → List CpInfo → List CpInfo
  | 0, r => r
  | n + 1, r => .unusable :: gap n r
def poolList (es : List (Nat × CpInfo)) (last : Nat) : List CpInfo := es.foldr (fun e r => gap e.1 (e.2 :: r)) (gap last [])
def pool (es : List (Nat × CpInfo)) (last : Nat) : Array CpInfo := ⟨poolList es last⟩
def fileOf (pool : Array CpInfo) (this : Nat) (attrs : Array Attribute := #[]) (ms : Array MethodInfo := #[]) (fl : Nat := 33) (sup : Nat := 0) (ifs : Array Nat := #[]) (fds : Array FieldInfo := #[]) : ClassFile where
  minorVersion := 0
  majorVersion := 65
  constantPool := pool
  accessFlags := fl
  thisClass := this
  superClass := sup
  interfaces := ifs
  fields := fds
  methods := ms
  attributes := attrs
def plain (name : String) (sup : Option ClassId) : Class where
  name := name
  kind := .ordinary
  loader := none
  accessFlags := 33
  super := sup
  interfaces := #[]
  cf := none
  fields := #[]
  methods := #[]
  instanceTypes := #[]
  staticTypes := #[]
  resolved := #[]
  callSites := []
  init := .initialized
  statics := none
  mirror := none

def pool0 : Array CpInfo := pool [(5, u "<init>"), (0, u "()V"), (1, .class_ 10), (1, u "java/lang/Object")] 113

def k0m0 : Method := { name := "<init>", desc := "()V", sig := { parameters := [], returnType := none }, accessFlags := 1, code := none }
/-- java/lang/Object -/
def k0 : Class := { plain "java/lang/Object" none with
  accessFlags := 33
  interfaces := #[]
  cf := some (fileOf pool0 8 #[] #[{ accessFlags := 1, nameIndex := 5, descriptorIndex := 6, attributes := #[] }] 33 0 #[] #[])
  fields := #[]
  methods := #[k0m0]
  instanceTypes := #[]
  staticTypes := #[]
  resolved := Array.replicate 124 none
  statics := none }

def pool1 : Array CpInfo := pool [(2, .class_ 4), (1, u "java/lang/Object"), (0, u "<init>"), (0, u "()V"), (0, .integer 2147483647), (0, .methodref 9 10), (0, .class_ 11), (0, .nameAndType 12 13), (0, u "java/lang/Math"), (0, u "min"), (0, u "(II)I"), (0, .methodref 9 15), (0, .nameAndType 16 13), (0, u "max"), (0, .methodref 18 19), (0, .class_ 20), (0, .nameAndType 21 22), (0, u "com/example/trickwise/trickwise/whist/OwnerBits"), (0, u "withoutTrick"), (0, u "(JII)J"), (0, .class_ 24), (0, u "com/example/trickwise/trickwise/whist/OwnerBitsWithoutTrickPinLaw"), (2, u "law"), (0, u "(JIII)Z")] 3

def k1m0 : Method := { name := "<init>", desc := "()V", sig := { parameters := [], returnType := none }, accessFlags := 2, code := none }
def k1c1 : Code := { maxStack := 4, maxLocals := 16, code := code, exceptionTable := #[], attributes := #[] }
def k1m1 : Method := { name := "law", desc := "(JIII)Z", sig := { parameters := [.long, .int, .int, .int], returnType := some .boolean }, accessFlags := 9, code := some k1c1 }
/-- com/example/trickwise/trickwise/whist/OwnerBitsWithoutTrickPinLaw -/
def k1 : Class := { plain "com/example/trickwise/trickwise/whist/OwnerBitsWithoutTrickPinLaw" (some 0) with
  accessFlags := 49
  interfaces := #[]
  cf := some (fileOf pool1 23 #[] #[{ accessFlags := 2, nameIndex := 5, descriptorIndex := 6, attributes := #[] }, { accessFlags := 9, nameIndex := 27, descriptorIndex := 28, attributes := #[] }] 49 2 #[] #[])
  fields := #[]
  methods := #[k1m0, k1m1]
  instanceTypes := #[]
  staticTypes := #[]
  resolved := Array.replicate 32 none
  statics := none }

def pool2 : Array CpInfo := pool [(1, .class_ 2), (0, u "java/lang/Math"), (1, .class_ 6), (1, u "java/lang/Object"), (0, u "<init>"), (0, u "()V"), (89, .class_ 100), (1, u "java/lang/Math$RandomNumberGeneratorHolder"), (71, u "negativeZeroFloatBits"), (0, u "J"), (2, u "negativeZeroDoubleBits"), (21, u "max"), (2, u "min"), (43, u "$assertionsDisabled"), (0, u "Z"), (88, u "(II)I"), (2, u "twoToTheDoubleScaleDown"), (0, u "D"), (4, u "twoToTheDoubleScaleUp"), (9, u "E"), (3, u "PI"), (2, u "TAU"), (2, u "DEGREES_TO_RADIANS"), (0, u "RADIANS_TO_DEGREES")] 94

def k2m0 : Method := { name := "<init>", desc := "()V", sig := { parameters := [], returnType := none }, accessFlags := 2, code := none }
def k2c1 : Code := { maxStack := 2, maxLocals := 2, code := jdk_29_method_65_code, exceptionTable := #[], attributes := #[] }
def k2m1 : Method := { name := "max", desc := "(II)I", sig := { parameters := [.int, .int], returnType := some .int }, accessFlags := 9, code := some k2c1 }
def k2c2 : Code := { maxStack := 2, maxLocals := 2, code := jdk_29_method_69_code, exceptionTable := #[], attributes := #[] }
def k2m2 : Method := { name := "min", desc := "(II)I", sig := { parameters := [.int, .int], returnType := some .int }, accessFlags := 9, code := some k2c2 }
/-- java/lang/Math -/
def k2 : Class := { plain "java/lang/Math" (some 0) with
  accessFlags := 49
  interfaces := #[]
  cf := some (fileOf pool2 1 #[.nestMembers #[98]] #[{ accessFlags := 2, nameIndex := 7, descriptorIndex := 8, attributes := #[] }, { accessFlags := 9, nameIndex := 198, descriptorIndex := 335, attributes := #[] }, { accessFlags := 9, nameIndex := 201, descriptorIndex := 335, attributes := #[] }] 49 4 #[] #[{ accessFlags := 25, nameIndex := 354, descriptorIndex := 339, attributes := #[] }, { accessFlags := 25, nameIndex := 358, descriptorIndex := 339, attributes := #[] }, { accessFlags := 25, nameIndex := 361, descriptorIndex := 339, attributes := #[] }, { accessFlags := 26, nameIndex := 364, descriptorIndex := 339, attributes := #[] }, { accessFlags := 26, nameIndex := 365, descriptorIndex := 339, attributes := #[] }, { accessFlags := 26, nameIndex := 172, descriptorIndex := 173, attributes := #[] }, { accessFlags := 26, nameIndex := 176, descriptorIndex := 173, attributes := #[] }, { accessFlags := 8, nameIndex := 344, descriptorIndex := 339, attributes := #[] }, { accessFlags := 8, nameIndex := 338, descriptorIndex := 339, attributes := #[] }, { accessFlags := 4120, nameIndex := 245, descriptorIndex := 246, attributes := #[] }])
  fields := #[{ name := "E", type := .double, accessFlags := 25, slot := 0, constantValue := 0 }, { name := "PI", type := .double, accessFlags := 25, slot := 1, constantValue := 0 }, { name := "TAU", type := .double, accessFlags := 25, slot := 2, constantValue := 0 }, { name := "DEGREES_TO_RADIANS", type := .double, accessFlags := 26, slot := 3, constantValue := 0 }, { name := "RADIANS_TO_DEGREES", type := .double, accessFlags := 26, slot := 4, constantValue := 0 }, { name := "negativeZeroFloatBits", type := .long, accessFlags := 26, slot := 5, constantValue := 0 }, { name := "negativeZeroDoubleBits", type := .long, accessFlags := 26, slot := 6, constantValue := 0 }, { name := "twoToTheDoubleScaleUp", type := .double, accessFlags := 8, slot := 7, constantValue := 0 }, { name := "twoToTheDoubleScaleDown", type := .double, accessFlags := 8, slot := 8, constantValue := 0 }, { name := "$assertionsDisabled", type := .boolean, accessFlags := 4120, slot := 9, constantValue := 0 }]
  methods := #[k2m0, k2m1, k2m2]
  instanceTypes := #[]
  staticTypes := #[.double, .double, .double, .double, .double, .long, .long, .double, .double, .boolean]
  resolved := Array.replicate 460 none
  statics := none }

def pool3 : Array CpInfo := pool [(2, .class_ 4), (1, u "java/lang/Object"), (0, u "<init>"), (0, u "()V"), (6, .class_ 14), (0, u "com/example/trickwise/trickwise/whist/OwnerBits"), (21, .methodref 37 38), (0, .class_ 39), (0, .nameAndType 40 41), (0, u "java/lang/Math"), (0, u "max"), (0, u "(II)I"), (0, .methodref 13 43), (0, .nameAndType 44 45), (0, u "withoutCard"), (0, u "(JI)J"), (0, .methodref 37 47), (0, .nameAndType 48 41), (0, u "min"), (0, u "MAX_CARDS_PER_HAND"), (0, u "I"), (8, u "withoutTrick"), (0, u "(JII)J")] 17

def k3m0 : Method := { name := "<init>", desc := "()V", sig := { parameters := [], returnType := none }, accessFlags := 2, code := none }
def k3c1 : Code := { maxStack := 4, maxLocals := 4, code := prog_33_method_4_code, exceptionTable := #[], attributes := #[] }
def k3m1 : Method := { name := "withoutTrick", desc := "(JII)J", sig := { parameters := [.long, .int, .int], returnType := some .long }, accessFlags := 8, code := some k3c1 }
def k3c2 : Code := { maxStack := 6, maxLocals := 7, code := prog_33_method_5_code, exceptionTable := #[], attributes := #[] }
def k3m2 : Method := { name := "withoutCard", desc := "(JI)J", sig := { parameters := [.long, .int], returnType := some .long }, accessFlags := 10, code := some k3c2 }
/-- com/example/trickwise/trickwise/whist/OwnerBits -/
def k3 : Class := { plain "com/example/trickwise/trickwise/whist/OwnerBits" (some 0) with
  accessFlags := 48
  interfaces := #[]
  cf := some (fileOf pool3 13 #[] #[{ accessFlags := 2, nameIndex := 5, descriptorIndex := 6, attributes := #[] }, { accessFlags := 8, nameIndex := 59, descriptorIndex := 60, attributes := #[] }, { accessFlags := 10, nameIndex := 44, descriptorIndex := 45, attributes := #[] }] 48 2 #[] #[{ accessFlags := 24, nameIndex := 49, descriptorIndex := 50, attributes := #[] }])
  fields := #[{ name := "MAX_CARDS_PER_HAND", type := .int, accessFlags := 24, slot := 0, constantValue := 0 }]
  methods := #[k3m0, k3m1, k3m2]
  instanceTypes := #[]
  staticTypes := #[.int]
  resolved := Array.replicate 78 none
  statics := none }

def pool4 : Array CpInfo := pool [(1, u "java/lang/Cloneable"), (0, .class_ 1), (0, u "java/lang/Object"), (0, .class_ 3)] 3

/-- java/lang/Cloneable -/
def k4 : Class := { plain "java/lang/Cloneable" (some 0) with
  accessFlags := 1537
  interfaces := #[]
  cf := some (fileOf pool4 2 #[] #[] 1537 4 #[] #[])
  fields := #[]
  methods := #[]
  instanceTypes := #[]
  staticTypes := #[]
  resolved := Array.replicate 8 none
  statics := none }

def pool5 : Array CpInfo := pool [(1, u "java/io/Serializable"), (0, .class_ 1), (0, u "java/lang/Object"), (0, .class_ 3)] 3

/-- java/io/Serializable -/
def k5 : Class := { plain "java/io/Serializable" (some 0) with
  accessFlags := 1537
  interfaces := #[]
  cf := some (fileOf pool5 2 #[] #[] 1537 4 #[] #[])
  fields := #[]
  methods := #[]
  instanceTypes := #[]
  staticTypes := #[]
  resolved := Array.replicate 8 none
  statics := none }

/-- the primitive byte -/
def k6 : Class := { plain "byte" none with kind := .primitive 'B', accessFlags := 0x411 }
/-- [B -/
def k7 : Class := { plain "[B" (some 0) with kind := .array 6 .byte, interfaces := #[4, 5], accessFlags := 1041 }

/-- the primitive int -/
def k8 : Class := { plain "int" none with kind := .primitive 'I', accessFlags := 0x411 }
/-- [I -/
def k9 : Class := { plain "[I" (some 0) with kind := .array 8 .int, interfaces := #[4, 5], accessFlags := 1041 }

def heap : Heap := #[]
def classes : Array Class := #[k0, k1, k2, k3, k4, k5, k6, k7, k8, k9]
def interned : List (Array UInt16 × Addr) := []
def slotsUsed : Nat := 0
def theMethod : MethodId := ⟨1, 1⟩
def args0 : Array Value := #[.long 5, .int 5, .int 5, .int 5]
def aboutOver (below : List Frame) : State where
  vm := { classes := classes, interned := interned.toArray }
  heap := heap
  slotsUsed := slotsUsed
  threads := #[{ frames := .invoking theMethod args0 :: below }]
def below0 : List Frame := [.native { method := ⟨0, 0⟩, args := #[] }]
def about1 : State := aboutOver below0
def p0 : Program := .bare "" "" ""
def e0 : Env := launch0.env 0 0 0
theorem w_frames : about1.frames = Frame.invoking theMethod args0 :: below0 := rfl
set_option maxRecDepth 65536 in
theorem w_args : argsFit about1.vm theMethod args0 = true := by decide +kernel
set_option maxRecDepth 65536 in
theorem w_heap : heapFits about1 = true := by decide +kernel
set_option maxRecDepth 65536 in
theorem w_runnable : about1.curStatus? = some .runnable := by decide +kernel
set_option maxRecDepth 65536 in
theorem w_alone : about1.alone = true := by decide +kernel
set_option maxRecDepth 65536 in
theorem w_named : about1.methodNamed? x = some theMethod := by decide +kernel
set_option maxRecDepth 65536 in
theorem w_hears : about1.hears theMethod below0 = true := by decide +kernel
set_option maxRecDepth 65536 in
theorem w_ripe : about1.ripe theMethod args0 below0 = true := by decide +kernel
theorem w_running : about1.status = .running := rfl
set_option maxRecDepth 65536 in
theorem w_room : about1.hasRoom e0.platform room_1 = true :=
  launch0.hasRoom_least _ room_1 (by decide +kernel) (by decide +kernel) (by decide +kernel) (by decide +kernel) (by decide +kernel) (by decide +kernel)
theorem allAtoms_all (ts : List Jvm.Cond) (a : Array Jvm.Value) (st : Jvm.State) : (allAtoms ts).before a st = ts.all (fun c => c.before a st) := by
  induction ts with
  | nil => rfl
  | cons c t ih =>
    show (Jvm.Cond.and c (allAtoms t)).before a st = _
    rw [Jvm.Cond.before_and, ih, List.all_cons]
def words1 : List Jvm.Cond := Jvm.Cond.code x code maxLocals ret :: tables_1
/-- a 'code' word, met by the world's own term for the bytes: nothing is compared byte by byte -/
theorem code_word {y : MethodName} {bytes : ByteArray} {mx : Nat} {rt : Option FieldType} {a : Array Value} {s : State} {m : MethodId} {meth : Method} {c : Code} (h1 : s.methodNamed? y = some m) (h2 : s.vm.method? m = some meth) (h3 : meth.code = some c) (h4 : c.code = bytes)
    (h5 : (c.maxLocals == mx && c.exceptionTable.isEmpty && decide (c.maxStack ≤ mostOperands) && decide (meth.sig.returnType = rt) && !meth.locks && decide (parseMethodDescriptor y.desc = some meth.sig)) = true) : (Jvm.Cond.code y bytes mx rt).before a s = true := by
  simp only [Bool.and_eq_true, beq_iff_eq, Bool.not_eq_true', decide_eq_true_eq] at h5
  obtain ⟨⟨⟨⟨⟨g1, g2⟩, g3⟩, g4⟩, g5⟩, g6⟩ := h5
  simp [Cond.before, Cond.holds, Cond.value, h1, h2, h3, h4, g1, g2, g3, g4, g5, g6]
def isCode : Jvm.Cond → Bool
  | .code _ _ _ _ => true
  | _ => false
theorem all_split {L : List Jvm.Cond} {P : Jvm.Cond → Bool} (h1 : L.all (fun c => isCode c || P c) = true) (h2 : ∀ c ∈ L.filter isCode, P c = true) : L.all P = true := by
  refine List.all_eq_true.mpr fun c hc => ?_
  have h := List.all_eq_true.mp h1 c hc
  rcases Bool.eq_false_or_eq_true (isCode c) with hi | hi
  · exact h2 c (List.mem_filter.mpr ⟨hc, hi⟩)
  · simpa [hi] using h
set_option maxRecDepth 65536 in
theorem w_c0 : (Jvm.Cond.code x code maxLocals ret).before args0 about1 = true := code_word (m := ⟨1, 1⟩) (meth := k1m1) (c := k1c1) (by decide +kernel) rfl rfl rfl (by decide +kernel)
set_option maxRecDepth 65536 in
theorem w_c1 : (Jvm.Cond.code ({ cls := "java/lang/Math", name := "min", desc := "(II)I" } : Jvm.MethodName) jdk_29_method_69_code (2 : Nat) (Option.some Jvm.ClassFile.FieldType.int)).before args0 about1 = true := code_word (m := ⟨2, 2⟩) (meth := k2m2) (c := k2c2) (by decide +kernel) rfl rfl rfl (by decide +kernel)
set_option maxRecDepth 65536 in
theorem w_c2 : (Jvm.Cond.code ({ cls := "java/lang/Math", name := "max", desc := "(II)I" } : Jvm.MethodName) jdk_29_method_65_code (2 : Nat) (Option.some Jvm.ClassFile.FieldType.int)).before args0 about1 = true := code_word (m := ⟨2, 1⟩) (meth := k2m1) (c := k2c1) (by decide +kernel) rfl rfl rfl (by decide +kernel)
set_option maxRecDepth 65536 in
theorem w_c3 : (Jvm.Cond.code ({ cls := "com/example/trickwise/trickwise/whist/OwnerBits", name := "withoutTrick", desc := "(JII)J" } : Jvm.MethodName) prog_33_method_4_code (4 : Nat) (Option.some Jvm.ClassFile.FieldType.long)).before args0 about1 = true := code_word (m := ⟨3, 1⟩) (meth := k3m1) (c := k3c1) (by decide +kernel) rfl rfl rfl (by decide +kernel)
set_option maxRecDepth 65536 in
theorem w_c4 : (Jvm.Cond.code ({ cls := "com/example/trickwise/trickwise/whist/OwnerBits", name := "withoutCard", desc := "(JI)J" } : Jvm.MethodName) prog_33_method_5_code (7 : Nat) (Option.some Jvm.ClassFile.FieldType.long)).before args0 about1 = true := code_word (m := ⟨3, 2⟩) (meth := k3m2) (c := k3c2) (by decide +kernel) rfl rfl rfl (by decide +kernel)
def codes1 : List Jvm.Cond := [Jvm.Cond.code x code maxLocals ret, Jvm.Cond.code ({ cls := "java/lang/Math", name := "min", desc := "(II)I" } : Jvm.MethodName) jdk_29_method_69_code (2 : Nat) (Option.some Jvm.ClassFile.FieldType.int), Jvm.Cond.code ({ cls := "java/lang/Math", name := "max", desc := "(II)I" } : Jvm.MethodName) jdk_29_method_65_code (2 : Nat) (Option.some Jvm.ClassFile.FieldType.int), Jvm.Cond.code ({ cls := "com/example/trickwise/trickwise/whist/OwnerBits", name := "withoutTrick", desc := "(JII)J" } : Jvm.MethodName) prog_33_method_4_code (4 : Nat) (Option.some Jvm.ClassFile.FieldType.long), Jvm.Cond.code ({ cls := "com/example/trickwise/trickwise/whist/OwnerBits", name := "withoutCard", desc := "(JI)J" } : Jvm.MethodName) prog_33_method_5_code (7 : Nat) (Option.some Jvm.ClassFile.FieldType.long)]
set_option maxRecDepth 65536 in
theorem codes_eq : words1.filter isCode = codes1 := rfl
theorem w_codes : ∀ c ∈ words1.filter isCode, c.before args0 about1 = true := by
  rw [codes_eq]
  intro c hc
  simp only [codes1, List.mem_cons, List.not_mem_nil, or_false] at hc
  rcases hc with rfl | rfl | rfl | rfl | rfl
  · exact w_c0
  · exact w_c1
  · exact w_c2
  · exact w_c3
  · exact w_c4
set_option maxRecDepth 65536 in
theorem w_t1 : words1.all (fun c => isCode c || c.before args0 about1) = true := by decide +kernel
theorem w_tables : (allAtoms (Jvm.Cond.code x code maxLocals ret :: tables_1)).before args0 about1 = true := by
  rw [allAtoms_all]
  show words1.all (fun c => c.before args0 about1) = true
  refine all_split ?_ w_codes
  rw [w_t1]
set_option maxRecDepth 65536 in
theorem w_case : (Jvm.Cond.and given_1 narrow_1).before args0 about1 = true := by decide +kernel
theorem w_applies : (headSpec (Jvm.Cond.code x code maxLocals ret :: tables_1) room_1).applies x e0.platform about1 = true :=
  (Spec.applies_iff w_frames).mpr ⟨w_running, w_runnable, w_alone, w_named, w_hears, w_ripe, w_room, w_tables⟩
theorem atStart : AtStart classFile x code maxLocals ret World_1 tables_1 room_1 Calls_1 rest_1 Pre_1 launch0 p0 e0 about1 theMethod args0 below0 :=
  ⟨lists_1, trivial, launch0.admits_env _ _ _, launch0.least_env, fairChoices_fair.cas, fairChoices_fair.clock, w_frames, w_args, w_heap, w_applies, trivial, trivial, w_case⟩
end start1
theorem witness_1 : WitnessClaimed_1 := ⟨start1.p0, start1.e0, start1.about1, start1.theMethod, start1.args0, start1.below0, start1.atStart⟩
end Jvm.Pilot.@@N@@
