import JvmDerived
import JvmDerived.Pilot.@@N@@Statement
import JvmDerived.Pilot.@@N@@Code
set_option linter.unusedVariables false
set_option linter.unusedSimpArgs false
@@BLOCK:NumsL.lean.txt@@
namespace Jvm.RoadKit
open Sem ClassFile Op Lib Jvm.Stand Jvm.Free Jvm.LawKit
section New
variable {p : Program} {l : Launch} {e : Env} {R : Room} {s : State} {m : MethodId} {args : Array Value} {below : List Frame} {meth : Method} {c : Code} {T : State} {locs : List Loc} {cells slots : Nat}
theorem retI (X : Stand p l e R s m args below meth c T locs cells slots) (hx : p.tables.exec = Jvm.exec) {pc : Nat} {Ls : Array Slot} {z : Int32} {rest : List Value} (hret : meth.sig.returnType = some .int) (hd : decode c.code pc = .ok (.ireturn, 1)) {fs : List Frame}
    (hl : ∀ (f : JFrame) (acts : List Action), f.method = m → f.locked = none → f.entered = [] → (doReturn e (T.setTop f) acts (some (.int z))).1 = T.setFrames fs) : Steps p.tables e below (T.setTop (mkF m pc Ls (.int z :: rest))) (T.setFrames fs) := by
  have hm' : T.vm.method? m = some meth := X.method'
  have hn : narrow .int (.int z) = .int z := rfl
  show Steps p.tables e below (T.setTop { method := m, pc := pc, locals := Ls, stack := _ :: rest, locked := none }) _
  jvm_step X.here [X.here.top, hx, hd, hm', hret, hn]
  first | (intro acts; rw [hl _ acts rfl rfl rfl]) | rw [hl _ _ rfl rfl rfl]
  exact Steps.refl _
end New
end Jvm.RoadKit
namespace Jvm.Pilot.@@N@@
open Jvm Jvm.ClassFile Sem Op Lib Jvm.Free Jvm.Stand Jvm.LawKit Jvm.RoadKit Bundle Jvm.Pilot.@@N@@.Jvm.D
def own_ush (x : Int64) (s : Int32) : Int64 := ((x.toUInt64 >>> (s &&& 0x3f).toInt64.toUInt64).toInt64)
def own_shl (x : Int64) (s : Int32) : Int64 := (x <<< (s &&& 0x3f).toInt64)
def own_shr (x : Int64) (s : Int32) : Int64 := (x >>> (s &&& 0x3f).toInt64)
def own_iush (x s : Int32) : Int32 := ((x.toUInt32 >>> (s &&& 31).toUInt32).toInt32)
def own_ishl (x s : Int32) : Int32 := (x <<< (s &&& 31))
def own_ishr (x s : Int32) : Int32 := (x >>> (s &&& 31))
def own_lrem (x y : Int64) : Int64 := x - (x / y) * y
def own_fd (n d : Int64) : Int64 := if own_lrem n d = (0 : Int64) then n / d else if n < (0 : Int64) then (n / d) - (1 : Int64) else n / d
def own_de (p b : Int32) : Int32 := own_ishr ((p * (315653 : Int32)) + (if b = (0 : Int32) then (0 : Int32) else (-131008 : Int32))) (20 : Int32)
def own_q (c r : Int32) : Int32 := c + r
def own_ok0 (q : Int32) : Bool := decide ((own_de q (0 : Int32)).toInt64 = own_fd ((q.toInt64 * (30102999566398 : Int64)) + (0 : Int64)) (100000000000000 : Int64))
def own_ok1 (q : Int32) : Bool := decide ((own_de q (1 : Int32)).toInt64 = own_fd ((q.toInt64 * (30102999566398 : Int64)) + (-12493873660830 : Int64)) (100000000000000 : Int64))
theorem own_all0 : (List.range 2046).all (fun k => own_ok0 ((-1074 : Int32) + Int32.ofNat k)) = true := by decide +kernel
theorem own_all1 : (List.range 2045).all (fun k => own_ok1 ((-1073 : Int32) + Int32.ofNat k)) = true := by decide +kernel
theorem own_rem (x m : Int32) (hm : 0 < m.toInt) : ∃ k : Nat, (k : Int) < m.toInt ∧ (x &&& (2147483647 : Int32)) % m = Int32.ofNat k := by
  have h1 : (x &&& (2147483647 : Int32)).toInt = x.toInt % 2 ^ 31 := Jvm.Kit.i32_mask x 2147483647 (k := 31) (by decide) (by decide)
  have h2 : 0 ≤ (x &&& (2147483647 : Int32)).toInt := by rw [h1]; exact Int.emod_nonneg _ (by decide)
  have h3 := Jvm.Kit.i32_rem_nonneg (y := m) h2
  have h4 : 0 ≤ ((x &&& (2147483647 : Int32)) % m).toInt := by rw [h3]; exact Int.emod_nonneg _ (by omega)
  have h5 : ((x &&& (2147483647 : Int32)) % m).toInt < m.toInt := by rw [h3]; exact Int.emod_lt_of_pos _ hm
  have h6 := m.toInt_lt
  refine ⟨((x &&& (2147483647 : Int32)) % m).toInt.toNat, by omega, ?_⟩
  apply Int32.toInt_inj.mp
  rw [Int32.toInt_ofNat_of_lt (by omega)]
  omega
theorem own_law0 (x : Int32) : (own_de ((-1074 : Int32) + ((x &&& (2147483647 : Int32)) % (2046 : Int32))) (0 : Int32)).toInt64 = own_fd ((((-1074 : Int32) + ((x &&& (2147483647 : Int32)) % (2046 : Int32))).toInt64 * (30102999566398 : Int64)) + (0 : Int64)) (100000000000000 : Int64) := by
  obtain ⟨k, hk, e⟩ := own_rem x 2046 (by decide)
  have hk : (k : Int) < 2046 := hk
  rw [e]
  exact of_decide_eq_true (List.all_eq_true.mp own_all0 k (List.mem_range.mpr (by omega)))
theorem own_law1 (x : Int32) : (own_de ((-1073 : Int32) + ((x &&& (2147483647 : Int32)) % (2045 : Int32))) (1 : Int32)).toInt64 = own_fd ((((-1073 : Int32) + ((x &&& (2147483647 : Int32)) % (2045 : Int32))).toInt64 * (30102999566398 : Int64)) + (-12493873660830 : Int64)) (100000000000000 : Int64) := by
  obtain ⟨k, hk, e⟩ := own_rem x 2045 (by decide)
  have hk : (k : Int) < 2045 := hk
  rw [e]
  exact of_decide_eq_true (List.all_eq_true.mp own_all1 k (List.mem_range.mpr (by omega)))
theorem d1_0 : decode method_2_code 0 = .ok (.lload_n 0, 1) := by decide +kernel
theorem d1_1 : decode method_2_code 1 = .ok (.lload_n 2, 1) := by decide +kernel
theorem d1_2 : decode method_2_code 2 = .ok (.ldiv, 1) := by decide +kernel
theorem d1_3 : decode method_2_code 3 = .ok (.lstore 4, 2) := by decide +kernel
theorem d1_5 : decode method_2_code 5 = .ok (.lload_n 0, 1) := by decide +kernel
theorem d1_6 : decode method_2_code 6 = .ok (.lload_n 2, 1) := by decide +kernel
theorem d1_7 : decode method_2_code 7 = .ok (.lrem, 1) := by decide +kernel
theorem d1_8 : decode method_2_code 8 = .ok (.lconst 0, 1) := by decide +kernel
theorem d1_9 : decode method_2_code 9 = .ok (.lcmp, 1) := by decide +kernel
theorem d1_10 : decode method_2_code 10 = .ok (.ifCond .eq 15, 3) := by decide +kernel
theorem d1_13 : decode method_2_code 13 = .ok (.lload_n 0, 1) := by decide +kernel
theorem d1_14 : decode method_2_code 14 = .ok (.lconst 0, 1) := by decide +kernel
theorem d1_15 : decode method_2_code 15 = .ok (.lcmp, 1) := by decide +kernel
theorem d1_16 : decode method_2_code 16 = .ok (.ifCond .ge 9, 3) := by decide +kernel
theorem d1_19 : decode method_2_code 19 = .ok (.lload 4, 2) := by decide +kernel
theorem d1_21 : decode method_2_code 21 = .ok (.lconst 1, 1) := by decide +kernel
theorem d1_22 : decode method_2_code 22 = .ok (.lsub, 1) := by decide +kernel
theorem d1_23 : decode method_2_code 23 = .ok (.lstore 4, 2) := by decide +kernel
theorem d1_25 : decode method_2_code 25 = .ok (.lload 4, 2) := by decide +kernel
theorem d1_27 : decode method_2_code 27 = .ok (.lreturn, 1) := by decide +kernel
theorem pn_DoubleTextDecimalExponentPinLaw : plainName "com/example/tightwire/tightwire/json/DoubleTextDecimalExponentPinLaw" = true := by first | (simp [plainName, overriddenIn]; done) | decide +kernel
theorem ef_1 (m : MethodId) (q1 : Int64) (q2 : Int64) : entryFrame m #[(.long q1), (.long q2)] 6 = mkF m 0 #[.val (.long q1), .second, .val (.long q2), .second, .unset, .unset] [] := by first | (simp [entryFrame, mkF, argsToLocals, Value.category]; done) | rfl
def Q1 (Z : State) (q1 : Int64) (q2 : Int64) (h0 : Heap) (n0 : Nat) (v : Option Value) (h : Heap) (L : List Loc) : Prop := v = some (.long (own_fd q1 q2)) ∧ Fr n0 L ∧ h = h0
set_option maxRecDepth 65536 in
set_option maxHeartbeats 40000000 in
theorem rm1 (l : Launch) (Z : State) (a0 : Array Value) (hw : ∀ d ∈ tables_1, d.before a0 Z = true) (ws : List Jvm.Cond) (q1 : Int64) (q2 : Int64) (h0 : Heap) (n0 : Nat) (Z0 : n0 ≤ h0.size) (hd : q2 ≠ 0) :
    MetFree l (⟨"com/example/tightwire/tightwire/json/DoubleTextDecimalExponentPinLaw", "floorDiv", "(JJ)J"⟩ : MethodName) (head1 (Jvm.Cond.code (⟨"com/example/tightwire/tightwire/json/DoubleTextDecimalExponentPinLaw", "floorDiv", "(JJ)J"⟩ : MethodName) method_2_code 6 (some .long) :: ws) ({ frames := 0, cells := 0, slots := 0, locals := 0 } : Room)) (fun a U => a = #[(.long q1), (.long q2)] ∧ Z.Warmed39 U.vm ∧ U.heap = h0) (fun _ _ _ _ _ => True) (fun _ U o U' => ∃ v L, o = .returned v ∧ Q1 Z q1 q2 h0 n0 v U'.heap L ∧ FrameEnd U o U' L ({ frames := 0, cells := 0, slots := 0, locals := 0 } : Room).cells ({ frames := 0, cells := 0, slots := 0, locals := 0 } : Room).slots) := by
  refine MetFree.of_bodySF (plainFor_of_name pn_DoubleTextDecimalExponentPinLaw) hisR ?_
  intro p e s m args below meth c s₁ Bd hml0 hP hK
  obtain ⟨rfl, hZ, hh⟩ := hP
  have hx := Bd.exec
  have hby := Bd.bytes
  have hml : c.maxLocals = 6 := hml0
  have hown : s.vm.findClass "com/example/tightwire/tightwire/json/DoubleTextDecimalExponentPinLaw" = some m.cls := findClass_of_methodNamed Bd.named
  have hnm := (name_of_methodNamed Bd.named Bd.method).1
  have X0 : Stand p l e ({ frames := 0, cells := 0, slots := 0, locals := 0 } : Room) s m #[(.long q1), (.long q2)] below meth c s₁ [] 0 0 := Stand.of_body Bd
  have e0 : s₁.heap = h0 := by rw [← hh, Bd.state]; rfl
  have N0 := Fr.nil n0
  have pre0 : ∀ t, Steps p.tables e below (s₁.setTop (mkF m 0 #[.val (.long q1), .second, .val (.long q2), .second, .unset, .unset] [])) t → Steps p.tables e below (s₁.setTop (entryFrame m #[(.long q1), (.long q2)] 6)) t := fun t k => castTop (ef_1 m q1 q2) k
  have pre1 : ∀ t, Steps p.tables e below (s₁.setTop (mkF m 10 #[.val (.long q1), .second, .val (.long q2), .second, .val (.long (q1 / q2)), .second] [(.int (lcmpW (own_lrem q1 q2) (0 : Int64)))])) t → Steps p.tables e below (s₁.setTop (entryFrame m #[(.long q1), (.long q2)] 6)) t := fun t k => pre0 t (by
    show Steps p.tables e below (s₁.setTop (mkF m 0 #[.val (.long q1), .second, .val (.long q2), .second, .unset, .unset] [])) _
    refine XS.lloadN X0.here hx rfl (hb hby d1_0) rfl ?_
    show Steps p.tables e below (s₁.setTop (mkF m 1 #[.val (.long q1), .second, .val (.long q2), .second, .unset, .unset] [(.long q1)])) _
    refine XS.lloadN X0.here hx rfl (hb hby d1_1) rfl ?_
    show Steps p.tables e below (s₁.setTop (mkF m 2 #[.val (.long q1), .second, .val (.long q2), .second, .unset, .unset] [(.long q2), (.long q1)])) _
    refine XS.ldiv X0.here hx rfl (hb hby d1_2) rfl hd ?_
    show Steps p.tables e below (s₁.setTop (mkF m 3 #[.val (.long q1), .second, .val (.long q2), .second, .unset, .unset] [(.long (q1 / q2))])) _
    refine XS.lstore X0.here hx rfl (hb hby d1_3) rfl (l' := #[.val (.long q1), .second, .val (.long q2), .second, .val (.long (q1 / q2)), .second]) rfl ?_
    show Steps p.tables e below (s₁.setTop (mkF m 5 #[.val (.long q1), .second, .val (.long q2), .second, .val (.long (q1 / q2)), .second] [])) _
    refine XS.lloadN X0.here hx rfl (hb hby d1_5) rfl ?_
    show Steps p.tables e below (s₁.setTop (mkF m 6 #[.val (.long q1), .second, .val (.long q2), .second, .val (.long (q1 / q2)), .second] [(.long q1)])) _
    refine XS.lloadN X0.here hx rfl (hb hby d1_6) rfl ?_
    show Steps p.tables e below (s₁.setTop (mkF m 7 #[.val (.long q1), .second, .val (.long q2), .second, .val (.long (q1 / q2)), .second] [(.long q2), (.long q1)])) _
    refine XS.lrem X0.here hx rfl (hb hby d1_7) rfl hd ?_
    show Steps p.tables e below (s₁.setTop (mkF m 8 #[.val (.long q1), .second, .val (.long q2), .second, .val (.long (q1 / q2)), .second] [(.long (own_lrem q1 q2))])) _
    refine XS.lconst X0.here hx rfl (hb hby d1_8) ?_
    show Steps p.tables e below (s₁.setTop (mkF m 9 #[.val (.long q1), .second, .val (.long q2), .second, .val (.long (q1 / q2)), .second] [(.long (0 : Int64)), (.long (own_lrem q1 q2))])) _
    refine XS.lcmp X0.here hx rfl (hb hby d1_9) rfl ?_
    show Steps p.tables e below (s₁.setTop (mkF m 10 #[.val (.long q1), .second, .val (.long q2), .second, .val (.long (q1 / q2)), .second] [(.int (lcmpW (own_lrem q1 q2) (0 : Int64)))])) _
    exact k)
  by_cases hc10_2 : (own_lrem q1 q2) = (0 : Int64)
  · have pre3 : ∀ t, Steps p.tables e below (s₁.setTop (mkF m 27 #[.val (.long q1), .second, .val (.long q2), .second, .val (.long (q1 / q2)), .second] [(.long (q1 / q2))])) t → Steps p.tables e below (s₁.setTop (entryFrame m #[(.long q1), (.long q2)] 6)) t := fun t k => pre1 t (by
      show Steps p.tables e below (s₁.setTop (mkF m 10 #[.val (.long q1), .second, .val (.long q2), .second, .val (.long (q1 / q2)), .second] [(.int (lcmpW (own_lrem q1 q2) (0 : Int64)))])) _
      refine XS.ifYes X0.here hx rfl (pc0 := 10) (pc' := 25) rfl (hb hby d1_10) rfl ((if0 _ _).trans (teq ((lw_eq _ _).mpr hc10_2)).1) (by decide) (by decide) ?_
      show Steps p.tables e below (s₁.setTop (mkF m 25 #[.val (.long q1), .second, .val (.long q2), .second, .val (.long (q1 / q2)), .second] [])) _
      refine XS.lload X0.here hx rfl (hb hby d1_25) rfl ?_
      show Steps p.tables e below (s₁.setTop (mkF m 27 #[.val (.long q1), .second, .val (.long q2), .second, .val (.long (q1 / q2)), .second] [(.long (q1 / q2))])) _
      exact k)
    obtain ⟨fs, hr, hrun, hended, hW, hsame⟩ := X0.leave (v := some (.long (q1 / q2))) (fun h => by rw [Bd.returns] at h; cases h)
    refine ⟨_, _, pre3 _ ?_, hrun, hended, _, _, rfl, ?_, ⟨_, rfl⟩, hW, hsame.mono (by decide) (by decide)⟩
    · show Steps p.tables e below (s₁.setTop (mkF m 27 #[.val (.long q1), .second, .val (.long q2), .second, .val (.long (q1 / q2)), .second] [(.long (q1 / q2))])) _
      exact X0.lreturnOut hx Bd.returns (hb hby d1_27) hr
    · show Q1 Z q1 q2 h0 n0 _ s₁.heap _
      rw [e0]
      exact ⟨by simp only [own_fd, if_pos hc10_2], N0, rfl⟩
  · have pre4 : ∀ t, Steps p.tables e below (s₁.setTop (mkF m 16 #[.val (.long q1), .second, .val (.long q2), .second, .val (.long (q1 / q2)), .second] [(.int (lcmpW q1 (0 : Int64)))])) t → Steps p.tables e below (s₁.setTop (entryFrame m #[(.long q1), (.long q2)] 6)) t := fun t k => pre1 t (by
      show Steps p.tables e below (s₁.setTop (mkF m 10 #[.val (.long q1), .second, .val (.long q2), .second, .val (.long (q1 / q2)), .second] [(.int (lcmpW (own_lrem q1 q2) (0 : Int64)))])) _
      refine XS.ifNo X0.here hx rfl (hb hby d1_10) rfl ((if0 _ _).trans (feq (fun q => hc10_2 ((lw_eq _ _).mp q))).1) ?_
      show Steps p.tables e below (s₁.setTop (mkF m 13 #[.val (.long q1), .second, .val (.long q2), .second, .val (.long (q1 / q2)), .second] [])) _
      refine XS.lloadN X0.here hx rfl (hb hby d1_13) rfl ?_
      show Steps p.tables e below (s₁.setTop (mkF m 14 #[.val (.long q1), .second, .val (.long q2), .second, .val (.long (q1 / q2)), .second] [(.long q1)])) _
      refine XS.lconst X0.here hx rfl (hb hby d1_14) ?_
      show Steps p.tables e below (s₁.setTop (mkF m 15 #[.val (.long q1), .second, .val (.long q2), .second, .val (.long (q1 / q2)), .second] [(.long (0 : Int64)), (.long q1)])) _
      refine XS.lcmp X0.here hx rfl (hb hby d1_15) rfl ?_
      show Steps p.tables e below (s₁.setTop (mkF m 16 #[.val (.long q1), .second, .val (.long q2), .second, .val (.long (q1 / q2)), .second] [(.int (lcmpW q1 (0 : Int64)))])) _
      exact k)
    by_cases hc16_5 : q1 < (0 : Int64)
    · have pre6 : ∀ t, Steps p.tables e below (s₁.setTop (mkF m 27 #[.val (.long q1), .second, .val (.long q2), .second, .val (.long ((q1 / q2) - (1 : Int64))), .second] [(.long ((q1 / q2) - (1 : Int64)))])) t → Steps p.tables e below (s₁.setTop (entryFrame m #[(.long q1), (.long q2)] 6)) t := fun t k => pre4 t (by
        show Steps p.tables e below (s₁.setTop (mkF m 16 #[.val (.long q1), .second, .val (.long q2), .second, .val (.long (q1 / q2)), .second] [(.int (lcmpW q1 (0 : Int64)))])) _
        refine XS.ifNo X0.here hx rfl (hb hby d1_16) rfl ((if0 _ _).trans (tlt ((lw_lt _ _).mpr hc16_5)).2.1) ?_
        show Steps p.tables e below (s₁.setTop (mkF m 19 #[.val (.long q1), .second, .val (.long q2), .second, .val (.long (q1 / q2)), .second] [])) _
        refine XS.lload X0.here hx rfl (hb hby d1_19) rfl ?_
        show Steps p.tables e below (s₁.setTop (mkF m 21 #[.val (.long q1), .second, .val (.long q2), .second, .val (.long (q1 / q2)), .second] [(.long (q1 / q2))])) _
        refine XS.lconst X0.here hx rfl (hb hby d1_21) ?_
        show Steps p.tables e below (s₁.setTop (mkF m 22 #[.val (.long q1), .second, .val (.long q2), .second, .val (.long (q1 / q2)), .second] [(.long (1 : Int64)), (.long (q1 / q2))])) _
        refine XS.lsub X0.here hx rfl (hb hby d1_22) rfl ?_
        show Steps p.tables e below (s₁.setTop (mkF m 23 #[.val (.long q1), .second, .val (.long q2), .second, .val (.long (q1 / q2)), .second] [(.long ((q1 / q2) - (1 : Int64)))])) _
        refine XS.lstore X0.here hx rfl (hb hby d1_23) rfl (l' := #[.val (.long q1), .second, .val (.long q2), .second, .val (.long ((q1 / q2) - (1 : Int64))), .second]) rfl ?_
        show Steps p.tables e below (s₁.setTop (mkF m 25 #[.val (.long q1), .second, .val (.long q2), .second, .val (.long ((q1 / q2) - (1 : Int64))), .second] [])) _
        refine XS.lload X0.here hx rfl (hb hby d1_25) rfl ?_
        show Steps p.tables e below (s₁.setTop (mkF m 27 #[.val (.long q1), .second, .val (.long q2), .second, .val (.long ((q1 / q2) - (1 : Int64))), .second] [(.long ((q1 / q2) - (1 : Int64)))])) _
        exact k)
      obtain ⟨fs, hr, hrun, hended, hW, hsame⟩ := X0.leave (v := some (.long ((q1 / q2) - (1 : Int64)))) (fun h => by rw [Bd.returns] at h; cases h)
      refine ⟨_, _, pre6 _ ?_, hrun, hended, _, _, rfl, ?_, ⟨_, rfl⟩, hW, hsame.mono (by decide) (by decide)⟩
      · show Steps p.tables e below (s₁.setTop (mkF m 27 #[.val (.long q1), .second, .val (.long q2), .second, .val (.long ((q1 / q2) - (1 : Int64))), .second] [(.long ((q1 / q2) - (1 : Int64)))])) _
        exact X0.lreturnOut hx Bd.returns (hb hby d1_27) hr
      · show Q1 Z q1 q2 h0 n0 _ s₁.heap _
        rw [e0]
        exact ⟨by simp only [own_fd, if_neg hc10_2, if_pos hc16_5], N0, rfl⟩
    · have pre7 : ∀ t, Steps p.tables e below (s₁.setTop (mkF m 27 #[.val (.long q1), .second, .val (.long q2), .second, .val (.long (q1 / q2)), .second] [(.long (q1 / q2))])) t → Steps p.tables e below (s₁.setTop (entryFrame m #[(.long q1), (.long q2)] 6)) t := fun t k => pre4 t (by
        show Steps p.tables e below (s₁.setTop (mkF m 16 #[.val (.long q1), .second, .val (.long q2), .second, .val (.long (q1 / q2)), .second] [(.int (lcmpW q1 (0 : Int64)))])) _
        refine XS.ifYes X0.here hx rfl (pc0 := 16) (pc' := 25) rfl (hb hby d1_16) rfl ((if0 _ _).trans (flt (fun q => hc16_5 ((lw_lt _ _).mp q))).2.1) (by decide) (by decide) ?_
        show Steps p.tables e below (s₁.setTop (mkF m 25 #[.val (.long q1), .second, .val (.long q2), .second, .val (.long (q1 / q2)), .second] [])) _
        refine XS.lload X0.here hx rfl (hb hby d1_25) rfl ?_
        show Steps p.tables e below (s₁.setTop (mkF m 27 #[.val (.long q1), .second, .val (.long q2), .second, .val (.long (q1 / q2)), .second] [(.long (q1 / q2))])) _
        exact k)
      obtain ⟨fs, hr, hrun, hended, hW, hsame⟩ := X0.leave (v := some (.long (q1 / q2))) (fun h => by rw [Bd.returns] at h; cases h)
      refine ⟨_, _, pre7 _ ?_, hrun, hended, _, _, rfl, ?_, ⟨_, rfl⟩, hW, hsame.mono (by decide) (by decide)⟩
      · show Steps p.tables e below (s₁.setTop (mkF m 27 #[.val (.long q1), .second, .val (.long q2), .second, .val (.long (q1 / q2)), .second] [(.long (q1 / q2))])) _
        exact X0.lreturnOut hx Bd.returns (hb hby d1_27) hr
      · show Q1 Z q1 q2 h0 n0 _ s₁.heap _
        rw [e0]
        exact ⟨by simp only [own_fd, if_neg hc10_2, if_neg hc16_5], N0, rfl⟩
theorem d2_0 : decode prog_31_method_6_code 0 = .ok (.iload_n 0, 1) := by decide +kernel
theorem d2_1 : decode prog_31_method_6_code 1 = .ok (.ldc 101, 2) := by decide +kernel
theorem d2_3 : decode prog_31_method_6_code 3 = .ok (.imul, 1) := by decide +kernel
theorem d2_4 : decode prog_31_method_6_code 4 = .ok (.iload_n 1, 1) := by decide +kernel
theorem d2_5 : decode prog_31_method_6_code 5 = .ok (.ifCond .eq 8, 3) := by decide +kernel
theorem d2_8 : decode prog_31_method_6_code 8 = .ok (.ldc 102, 2) := by decide +kernel
theorem d2_10 : decode prog_31_method_6_code 10 = .ok (.goto 4, 3) := by decide +kernel
theorem d2_13 : decode prog_31_method_6_code 13 = .ok (.iconst 0, 1) := by decide +kernel
theorem d2_14 : decode prog_31_method_6_code 14 = .ok (.iadd, 1) := by decide +kernel
theorem d2_15 : decode prog_31_method_6_code 15 = .ok (.bipush 20, 2) := by decide +kernel
theorem d2_17 : decode prog_31_method_6_code 17 = .ok (.ishr, 1) := by decide +kernel
theorem d2_18 : decode prog_31_method_6_code 18 = .ok (.ireturn, 1) := by decide +kernel
theorem pn_DoubleText : plainName "com/example/tightwire/tightwire/json/DoubleText" = true := by first | (simp [plainName, overriddenIn]; done) | decide +kernel
theorem ef_2 (m : MethodId) (p1 : Int32) (p2 : Int32) : entryFrame m #[(.int p1), (.int p2)] 2 = mkF m 0 #[.val (.int p1), .val (.int p2)] [] := by first | (simp [entryFrame, mkF, argsToLocals, Value.category]; done) | rfl
def Q2 (Z : State) (p1 : Int32) (p2 : Int32) (h0 : Heap) (n0 : Nat) (v : Option Value) (h : Heap) (L : List Loc) : Prop := v = some (.int (own_de p1 p2)) ∧ Fr n0 L ∧ h = h0
set_option maxRecDepth 65536 in
set_option maxHeartbeats 40000000 in
theorem rm2 (l : Launch) (Z : State) (a0 : Array Value) (hw : ∀ d ∈ tables_1, d.before a0 Z = true) (ws : List Jvm.Cond) (p1 : Int32) (p2 : Int32) (h0 : Heap) (n0 : Nat) (Z0 : n0 ≤ h0.size) :
    MetFree l (⟨"com/example/tightwire/tightwire/json/DoubleText", "decimalExponent", "(IZ)I"⟩ : MethodName) (head1 (Jvm.Cond.code (⟨"com/example/tightwire/tightwire/json/DoubleText", "decimalExponent", "(IZ)I"⟩ : MethodName) prog_31_method_6_code 2 (some .int) :: ws) ({ frames := 0, cells := 0, slots := 0, locals := 0 } : Room)) (fun a U => a = #[(.int p1), (.int p2)] ∧ Z.Warmed39 U.vm ∧ U.heap = h0) (fun _ _ _ _ _ => True) (fun _ U o U' => ∃ v L, o = .returned v ∧ Q2 Z p1 p2 h0 n0 v U'.heap L ∧ FrameEnd U o U' L ({ frames := 0, cells := 0, slots := 0, locals := 0 } : Room).cells ({ frames := 0, cells := 0, slots := 0, locals := 0 } : Room).slots) := by
  refine MetFree.of_bodySF (plainFor_of_name pn_DoubleText) hisR ?_
  intro p e s m args below meth c s₁ Bd hml0 hP hK
  obtain ⟨rfl, hZ, hh⟩ := hP
  have hx := Bd.exec
  have hby := Bd.bytes
  have hml : c.maxLocals = 2 := hml0
  have hown : s.vm.findClass "com/example/tightwire/tightwire/json/DoubleText" = some m.cls := findClass_of_methodNamed Bd.named
  have hnm := (name_of_methodNamed Bd.named Bd.method).1
  have X0 : Stand p l e ({ frames := 0, cells := 0, slots := 0, locals := 0 } : Room) s m #[(.int p1), (.int p2)] below meth c s₁ [] 0 0 := Stand.of_body Bd
  have e0 : s₁.heap = h0 := by rw [← hh, Bd.state]; rfl
  have N0 := Fr.nil n0
  have pre0 : ∀ t, Steps p.tables e below (s₁.setTop (mkF m 0 #[.val (.int p1), .val (.int p2)] [])) t → Steps p.tables e below (s₁.setTop (entryFrame m #[(.int p1), (.int p2)] 2)) t := fun t k => castTop (ef_2 m p1 p2) k
  have pre1 : ∀ t, Steps p.tables e below (s₁.setTop (mkF m 5 #[.val (.int p1), .val (.int p2)] [(.int p2), (.int (p1 * (315653 : Int32)))])) t → Steps p.tables e below (s₁.setTop (entryFrame m #[(.int p1), (.int p2)] 2)) t := fun t k => pre0 t (by
    show Steps p.tables e below (s₁.setTop (mkF m 0 #[.val (.int p1), .val (.int p2)] [])) _
    refine XS.iloadN X0.here hx rfl (hb hby d2_0) rfl ?_
    show Steps p.tables e below (s₁.setTop (mkF m 1 #[.val (.int p1), .val (.int p2)] [(.int p1)])) _
    refine X0.ldcInt hx hown (mvT hZ (hw _ (List.mem_of_getElem? (i := 12) rfl))) (g := (mkF m 1 #[.val (.int p1), .val (.int p2)] [(.int p1)])) rfl (hb hby d2_1) _ ?_
    show Steps p.tables e below (s₁.setTop (mkF m 3 #[.val (.int p1), .val (.int p2)] [(.int (315653 : Int32)), (.int p1)])) _
    refine XS.imul X0.here hx rfl (hb hby d2_3) rfl ?_
    show Steps p.tables e below (s₁.setTop (mkF m 4 #[.val (.int p1), .val (.int p2)] [(.int (p1 * (315653 : Int32)))])) _
    refine XS.iloadN X0.here hx rfl (hb hby d2_4) rfl ?_
    show Steps p.tables e below (s₁.setTop (mkF m 5 #[.val (.int p1), .val (.int p2)] [(.int p2), (.int (p1 * (315653 : Int32)))])) _
    exact k)
  have pre3 : ∀ t, Steps p.tables e below (s₁.setTop (mkF m 14 #[.val (.int p1), .val (.int p2)] [(.int (if p2 = (0 : Int32) then (0 : Int32) else (-131008 : Int32))), (.int (p1 * (315653 : Int32)))])) t → Steps p.tables e below (s₁.setTop (entryFrame m #[(.int p1), (.int p2)] 2)) t := fun t k => pre1 t (by
    show Steps p.tables e below (s₁.setTop (mkF m 5 #[.val (.int p1), .val (.int p2)] [(.int p2), (.int (p1 * (315653 : Int32)))])) _
    by_cases hm5_2 : p2 = (0 : Int32)
    · refine XS.ifYes X0.here hx rfl (pc0 := 5) (pc' := 13) rfl (hb hby d2_5) rfl ((if0 _ _).trans (teq hm5_2).1) (by decide) (by decide) ?_
      show Steps p.tables e below (s₁.setTop (mkF m 13 #[.val (.int p1), .val (.int p2)] [(.int (p1 * (315653 : Int32)))])) _
      refine XS.iconst X0.here hx rfl (hb hby d2_13) ?_
      show Steps p.tables e below (s₁.setTop (mkF m 14 #[.val (.int p1), .val (.int p2)] [(.int (0 : Int32)), (.int (p1 * (315653 : Int32)))])) _
      have q : (if p2 = (0 : Int32) then (0 : Int32) else (-131008 : Int32)) = (0 : Int32) := by simp only [if_pos hm5_2]
      exact Eq.subst (motive := fun x => Steps p.tables e below (s₁.setTop (mkF m 14 #[.val (.int p1), .val (.int p2)] [(.int x), (.int (p1 * (315653 : Int32)))])) t) q k
    · refine XS.ifNo X0.here hx rfl (hb hby d2_5) rfl ((if0 _ _).trans (feq hm5_2).1) ?_
      show Steps p.tables e below (s₁.setTop (mkF m 8 #[.val (.int p1), .val (.int p2)] [(.int (p1 * (315653 : Int32)))])) _
      refine X0.ldcInt hx hown (mvT hZ (hw _ (List.mem_of_getElem? (i := 13) rfl))) (g := (mkF m 8 #[.val (.int p1), .val (.int p2)] [(.int (p1 * (315653 : Int32)))])) rfl (hb hby d2_8) _ ?_
      show Steps p.tables e below (s₁.setTop (mkF m 10 #[.val (.int p1), .val (.int p2)] [(.int (-131008 : Int32)), (.int (p1 * (315653 : Int32)))])) _
      refine XS.goto X0.here hx rfl (pc0 := 10) (pc' := 14) rfl (hb hby d2_10) (by decide) (by decide) ?_
      show Steps p.tables e below (s₁.setTop (mkF m 14 #[.val (.int p1), .val (.int p2)] [(.int (-131008 : Int32)), (.int (p1 * (315653 : Int32)))])) _
      have q : (if p2 = (0 : Int32) then (0 : Int32) else (-131008 : Int32)) = (-131008 : Int32) := by simp only [if_neg hm5_2]
      exact Eq.subst (motive := fun x => Steps p.tables e below (s₁.setTop (mkF m 14 #[.val (.int p1), .val (.int p2)] [(.int x), (.int (p1 * (315653 : Int32)))])) t) q k)
  have pre4 : ∀ t, Steps p.tables e below (s₁.setTop (mkF m 18 #[.val (.int p1), .val (.int p2)] [(.int (own_de p1 p2))])) t → Steps p.tables e below (s₁.setTop (entryFrame m #[(.int p1), (.int p2)] 2)) t := fun t k => pre3 t (by
    show Steps p.tables e below (s₁.setTop (mkF m 14 #[.val (.int p1), .val (.int p2)] [(.int (if p2 = (0 : Int32) then (0 : Int32) else (-131008 : Int32))), (.int (p1 * (315653 : Int32)))])) _
    refine XS.iadd X0.here hx rfl (hb hby d2_14) rfl ?_
    show Steps p.tables e below (s₁.setTop (mkF m 15 #[.val (.int p1), .val (.int p2)] [(.int ((p1 * (315653 : Int32)) + (if p2 = (0 : Int32) then (0 : Int32) else (-131008 : Int32))))])) _
    refine XS.bipush X0.here hx rfl (hb hby d2_15) ?_
    show Steps p.tables e below (s₁.setTop (mkF m 17 #[.val (.int p1), .val (.int p2)] [(.int (20 : Int32)), (.int ((p1 * (315653 : Int32)) + (if p2 = (0 : Int32) then (0 : Int32) else (-131008 : Int32))))])) _
    refine XS.ishr X0.here hx rfl (hb hby d2_17) rfl ?_
    show Steps p.tables e below (s₁.setTop (mkF m 18 #[.val (.int p1), .val (.int p2)] [(.int (own_de p1 p2))])) _
    exact k)
  obtain ⟨fs, hr, hrun, hended, hW, hsame⟩ := X0.leave (v := some (.int (own_de p1 p2))) (fun h => by rw [Bd.returns] at h; cases h)
  refine ⟨_, _, pre4 _ ?_, hrun, hended, _, _, rfl, ?_, ⟨_, rfl⟩, hW, hsame.mono (by decide) (by decide)⟩
  · show Steps p.tables e below (s₁.setTop (mkF m 18 #[.val (.int p1), .val (.int p2)] [(.int (own_de p1 p2))])) _
    exact retI X0 hx Bd.returns (hb hby d2_18) hr
  · show Q2 Z p1 p2 h0 n0 _ s₁.heap _
    rw [e0]
    exact ⟨rfl, N0, rfl⟩
theorem pd_0 : parseMethodDescriptor "(JJ)J" = some ⟨[.long, .long], some .long⟩ := by decide +kernel
theorem pd_1 : parseMethodDescriptor "(IZ)I" = some ⟨[.int, .boolean], some .int⟩ := by decide +kernel
theorem ef_0 (m : MethodId) (p1 : Int32) (p2 : Int32) : entryFrame m #[(.int p1), (.int p2)] maxLocals = mkF m 0 #[.val (.int p1), .val (.int p2), .unset, .unset, .unset, .unset, .unset, .unset, .unset, .unset] [] := by first | (simp [entryFrame, mkF, argsToLocals, Value.category, maxLocals]; done) | rfl
def lc0_0 (p1 : Int32) (p2 : Int32) : Array Slot := #[.val (.int p1), .val (.int p2), .val (.int (0 : Int32)), .val (.int (p1 &&& (2147483647 : Int32))), .val (.int ((-1074 : Int32) + ((p1 &&& (2147483647 : Int32)) % (2046 : Int32)))), .unset, .unset, .unset, .unset, .unset]
def lc0_1 (p1 : Int32) (p2 : Int32) : Array Slot := #[.val (.int p1), .val (.int p2), .val (.int (0 : Int32)), .val (.int (p1 &&& (2147483647 : Int32))), .val (.int ((-1074 : Int32) + ((p1 &&& (2147483647 : Int32)) % (2046 : Int32)))), .val (.long (((((-1074 : Int32) + ((p1 &&& (2147483647 : Int32)) % (2046 : Int32))).toInt64) * (30102999566398 : Int64)) + (0 : Int64))), .second, .unset, .unset, .unset]
def lc0_2 (p1 : Int32) (p2 : Int32) : Array Slot := #[.val (.int p1), .val (.int p2), .val (.int (0 : Int32)), .val (.int (p1 &&& (2147483647 : Int32))), .val (.int ((-1074 : Int32) + ((p1 &&& (2147483647 : Int32)) % (2046 : Int32)))), .val (.long (((((-1074 : Int32) + ((p1 &&& (2147483647 : Int32)) % (2046 : Int32))).toInt64) * (30102999566398 : Int64)) + (0 : Int64))), .second, .val (.long (own_fd (((((-1074 : Int32) + ((p1 &&& (2147483647 : Int32)) % (2046 : Int32))).toInt64) * (30102999566398 : Int64)) + (0 : Int64)) (100000000000000 : Int64))), .second, .unset]
def lc0_3 (p1 : Int32) (p2 : Int32) : Array Slot := #[.val (.int p1), .val (.int p2), .val (.int (0 : Int32)), .val (.int (p1 &&& (2147483647 : Int32))), .val (.int ((-1074 : Int32) + ((p1 &&& (2147483647 : Int32)) % (2046 : Int32)))), .val (.long (((((-1074 : Int32) + ((p1 &&& (2147483647 : Int32)) % (2046 : Int32))).toInt64) * (30102999566398 : Int64)) + (0 : Int64))), .second, .val (.long (own_fd (((((-1074 : Int32) + ((p1 &&& (2147483647 : Int32)) % (2046 : Int32))).toInt64) * (30102999566398 : Int64)) + (0 : Int64)) (100000000000000 : Int64))), .second, .val (.int (own_de ((-1074 : Int32) + ((p1 &&& (2147483647 : Int32)) % (2046 : Int32))) (0 : Int32)))]
def lc0_4 (p1 : Int32) (p2 : Int32) : Array Slot := #[.val (.int p1), .val (.int p2), .val (.int (1 : Int32)), .val (.int (p1 &&& (2147483647 : Int32))), .val (.int ((-1073 : Int32) + ((p1 &&& (2147483647 : Int32)) % (2045 : Int32)))), .unset, .unset, .unset, .unset, .unset]
def lc0_5 (p1 : Int32) (p2 : Int32) : Array Slot := #[.val (.int p1), .val (.int p2), .val (.int (1 : Int32)), .val (.int (p1 &&& (2147483647 : Int32))), .val (.int ((-1073 : Int32) + ((p1 &&& (2147483647 : Int32)) % (2045 : Int32)))), .val (.long (((((-1073 : Int32) + ((p1 &&& (2147483647 : Int32)) % (2045 : Int32))).toInt64) * (30102999566398 : Int64)) + (-12493873660830 : Int64))), .second, .unset, .unset, .unset]
def lc0_6 (p1 : Int32) (p2 : Int32) : Array Slot := #[.val (.int p1), .val (.int p2), .val (.int (1 : Int32)), .val (.int (p1 &&& (2147483647 : Int32))), .val (.int ((-1073 : Int32) + ((p1 &&& (2147483647 : Int32)) % (2045 : Int32)))), .val (.long (((((-1073 : Int32) + ((p1 &&& (2147483647 : Int32)) % (2045 : Int32))).toInt64) * (30102999566398 : Int64)) + (-12493873660830 : Int64))), .second, .val (.long (own_fd (((((-1073 : Int32) + ((p1 &&& (2147483647 : Int32)) % (2045 : Int32))).toInt64) * (30102999566398 : Int64)) + (-12493873660830 : Int64)) (100000000000000 : Int64))), .second, .unset]
def lc0_7 (p1 : Int32) (p2 : Int32) : Array Slot := #[.val (.int p1), .val (.int p2), .val (.int (1 : Int32)), .val (.int (p1 &&& (2147483647 : Int32))), .val (.int ((-1073 : Int32) + ((p1 &&& (2147483647 : Int32)) % (2045 : Int32)))), .val (.long (((((-1073 : Int32) + ((p1 &&& (2147483647 : Int32)) % (2045 : Int32))).toInt64) * (30102999566398 : Int64)) + (-12493873660830 : Int64))), .second, .val (.long (own_fd (((((-1073 : Int32) + ((p1 &&& (2147483647 : Int32)) % (2045 : Int32))).toInt64) * (30102999566398 : Int64)) + (-12493873660830 : Int64)) (100000000000000 : Int64))), .second, .val (.int (own_de ((-1073 : Int32) + ((p1 &&& (2147483647 : Int32)) % (2045 : Int32))) (1 : Int32)))]
def Q0 (Z : State) (p1 : Int32) (p2 : Int32) (h0 : Heap) (n0 : Nat) (v : Option Value) (h : Heap) (L : List Loc) : Prop := v = some (.int (1 : Int32)) ∧ Fr n0 L
set_option maxRecDepth 65536 in
set_option maxHeartbeats 40000000 in
theorem rm0 (l : Launch) (Z : State) (a0 : Array Value) (hw : ∀ d ∈ tables_1, d.before a0 Z = true) (ws : List Jvm.Cond) (p1 : Int32) (p2 : Int32) (h0 : Heap) (n0 : Nat) (Z0 : n0 ≤ h0.size) :
    MetFree l x (head1 (Jvm.Cond.code x code maxLocals ret :: ws) room_1) (fun a U => a = #[(.int p1), (.int p2)] ∧ Z.Warmed39 U.vm ∧ U.heap = h0) (fun _ _ _ _ _ => True) (fun _ U o U' => ∃ v L, o = .returned v ∧ Q0 Z p1 p2 h0 n0 v U'.heap L ∧ FrameEnd U o U' L room_1.cells room_1.slots) := by
  refine MetFree.of_bodySF (plainFor_of_name pn_DoubleTextDecimalExponentPinLaw) hisR ?_
  intro p e s m args below meth c s₁ Bd hml0 hP hK
  obtain ⟨rfl, hZ, hh⟩ := hP
  have hx := Bd.exec
  have hby := Bd.bytes
  have hml : c.maxLocals = 10 := hml0
  have hown : s.vm.findClass "com/example/tightwire/tightwire/json/DoubleTextDecimalExponentPinLaw" = some m.cls := findClass_of_methodNamed Bd.named
  have hnm := (name_of_methodNamed Bd.named Bd.method).1
  have X0 : Stand p l e room_1 s m #[(.int p1), (.int p2)] below meth c s₁ [] 0 0 := Stand.of_body Bd
  have e0 : s₁.heap = h0 := by rw [← hh, Bd.state]; rfl
  have N0 := Fr.nil n0
  have pre0 : ∀ t, Steps p.tables e below (s₁.setTop (mkF m 0 #[.val (.int p1), .val (.int p2), .unset, .unset, .unset, .unset, .unset, .unset, .unset, .unset] [])) t → Steps p.tables e below (s₁.setTop (entryFrame m #[(.int p1), (.int p2)] maxLocals)) t := fun t k => castTop (ef_0 m p1 p2) k
  have pre1 : ∀ t, Steps p.tables e below (s₁.setTop (mkF m 3 #[.val (.int p1), .val (.int p2), .unset, .unset, .unset, .unset, .unset, .unset, .unset, .unset] [(.int (p2 &&& (1 : Int32)))])) t → Steps p.tables e below (s₁.setTop (entryFrame m #[(.int p1), (.int p2)] maxLocals)) t := fun t k => pre0 t (by
    show Steps p.tables e below (s₁.setTop (mkF m 0 #[.val (.int p1), .val (.int p2), .unset, .unset, .unset, .unset, .unset, .unset, .unset, .unset] [])) _
    refine XS.iloadN X0.here hx rfl (hb hby at_0) rfl ?_
    show Steps p.tables e below (s₁.setTop (mkF m 1 #[.val (.int p1), .val (.int p2), .unset, .unset, .unset, .unset, .unset, .unset, .unset, .unset] [(.int p2)])) _
    refine XS.iconst X0.here hx rfl (hb hby at_1) ?_
    show Steps p.tables e below (s₁.setTop (mkF m 2 #[.val (.int p1), .val (.int p2), .unset, .unset, .unset, .unset, .unset, .unset, .unset, .unset] [(.int (1 : Int32)), (.int p2)])) _
    refine XS.iand X0.here hx rfl (hb hby at_2) rfl ?_
    show Steps p.tables e below (s₁.setTop (mkF m 3 #[.val (.int p1), .val (.int p2), .unset, .unset, .unset, .unset, .unset, .unset, .unset, .unset] [(.int (p2 &&& (1 : Int32)))])) _
    exact k)
  by_cases hc3_2 : (p2 &&& (1 : Int32)) = (0 : Int32)
  · have pre3 : ∀ t, Steps p.tables e below (s₁.setTop (mkF m 72 (lc0_1 p1 p2) [(.long (100000000000000 : Int64)), (.long (((((-1074 : Int32) + ((p1 &&& (2147483647 : Int32)) % (2046 : Int32))).toInt64) * (30102999566398 : Int64)) + (0 : Int64)))])) t → Steps p.tables e below (s₁.setTop (entryFrame m #[(.int p1), (.int p2)] maxLocals)) t := fun t k => pre1 t (by
      show Steps p.tables e below (s₁.setTop (mkF m 3 #[.val (.int p1), .val (.int p2), .unset, .unset, .unset, .unset, .unset, .unset, .unset, .unset] [(.int (p2 &&& (1 : Int32)))])) _
      refine XS.ifYes X0.here hx rfl (pc0 := 3) (pc' := 10) rfl (hb hby at_3) rfl ((if0 _ _).trans (teq hc3_2).1) (by decide) (by decide) ?_
      show Steps p.tables e below (s₁.setTop (mkF m 10 #[.val (.int p1), .val (.int p2), .unset, .unset, .unset, .unset, .unset, .unset, .unset, .unset] [])) _
      refine XS.iconst X0.here hx rfl (hb hby at_10) ?_
      show Steps p.tables e below (s₁.setTop (mkF m 11 #[.val (.int p1), .val (.int p2), .unset, .unset, .unset, .unset, .unset, .unset, .unset, .unset] [(.int (0 : Int32))])) _
      refine XS.istoreN X0.here hx rfl (hb hby at_11) rfl (l' := #[.val (.int p1), .val (.int p2), .val (.int (0 : Int32)), .unset, .unset, .unset, .unset, .unset, .unset, .unset]) rfl ?_
      show Steps p.tables e below (s₁.setTop (mkF m 12 #[.val (.int p1), .val (.int p2), .val (.int (0 : Int32)), .unset, .unset, .unset, .unset, .unset, .unset, .unset] [])) _
      refine XS.iloadN X0.here hx rfl (hb hby at_12) rfl ?_
      show Steps p.tables e below (s₁.setTop (mkF m 13 #[.val (.int p1), .val (.int p2), .val (.int (0 : Int32)), .unset, .unset, .unset, .unset, .unset, .unset, .unset] [(.int p1)])) _
      refine X0.ldcInt hx hown (mvT hZ (hw _ (List.mem_of_getElem? (i := 0) rfl))) (g := (mkF m 13 #[.val (.int p1), .val (.int p2), .val (.int (0 : Int32)), .unset, .unset, .unset, .unset, .unset, .unset, .unset] [(.int p1)])) rfl (hb hby at_13) _ ?_
      show Steps p.tables e below (s₁.setTop (mkF m 15 #[.val (.int p1), .val (.int p2), .val (.int (0 : Int32)), .unset, .unset, .unset, .unset, .unset, .unset, .unset] [(.int (2147483647 : Int32)), (.int p1)])) _
      refine XS.iand X0.here hx rfl (hb hby at_15) rfl ?_
      show Steps p.tables e below (s₁.setTop (mkF m 16 #[.val (.int p1), .val (.int p2), .val (.int (0 : Int32)), .unset, .unset, .unset, .unset, .unset, .unset, .unset] [(.int (p1 &&& (2147483647 : Int32)))])) _
      refine XS.istoreN X0.here hx rfl (hb hby at_16) rfl (l' := #[.val (.int p1), .val (.int p2), .val (.int (0 : Int32)), .val (.int (p1 &&& (2147483647 : Int32))), .unset, .unset, .unset, .unset, .unset, .unset]) rfl ?_
      show Steps p.tables e below (s₁.setTop (mkF m 17 #[.val (.int p1), .val (.int p2), .val (.int (0 : Int32)), .val (.int (p1 &&& (2147483647 : Int32))), .unset, .unset, .unset, .unset, .unset, .unset] [])) _
      refine XS.iloadN X0.here hx rfl (hb hby at_17) rfl ?_
      show Steps p.tables e below (s₁.setTop (mkF m 18 #[.val (.int p1), .val (.int p2), .val (.int (0 : Int32)), .val (.int (p1 &&& (2147483647 : Int32))), .unset, .unset, .unset, .unset, .unset, .unset] [(.int (0 : Int32))])) _
      refine XS.ifYes X0.here hx rfl (pc0 := 18) (pc' := 35) rfl (hb hby at_18) rfl ((if0 _ _).trans (teq (by decide)).1) (by decide) (by decide) ?_
      show Steps p.tables e below (s₁.setTop (mkF m 35 #[.val (.int p1), .val (.int p2), .val (.int (0 : Int32)), .val (.int (p1 &&& (2147483647 : Int32))), .unset, .unset, .unset, .unset, .unset, .unset] [])) _
      refine XS.sipush X0.here hx rfl (hb hby at_35) ?_
      show Steps p.tables e below (s₁.setTop (mkF m 38 #[.val (.int p1), .val (.int p2), .val (.int (0 : Int32)), .val (.int (p1 &&& (2147483647 : Int32))), .unset, .unset, .unset, .unset, .unset, .unset] [(.int (-1074 : Int32))])) _
      refine XS.iloadN X0.here hx rfl (hb hby at_38) rfl ?_
      show Steps p.tables e below (s₁.setTop (mkF m 39 #[.val (.int p1), .val (.int p2), .val (.int (0 : Int32)), .val (.int (p1 &&& (2147483647 : Int32))), .unset, .unset, .unset, .unset, .unset, .unset] [(.int (p1 &&& (2147483647 : Int32))), (.int (-1074 : Int32))])) _
      refine XS.sipush X0.here hx rfl (hb hby at_39) ?_
      show Steps p.tables e below (s₁.setTop (mkF m 42 #[.val (.int p1), .val (.int p2), .val (.int (0 : Int32)), .val (.int (p1 &&& (2147483647 : Int32))), .unset, .unset, .unset, .unset, .unset, .unset] [(.int (2046 : Int32)), (.int (p1 &&& (2147483647 : Int32))), (.int (-1074 : Int32))])) _
      refine iremM X0 hx rfl (hb hby at_42) rfl (by decide) ?_
      show Steps p.tables e below (s₁.setTop (mkF m 43 #[.val (.int p1), .val (.int p2), .val (.int (0 : Int32)), .val (.int (p1 &&& (2147483647 : Int32))), .unset, .unset, .unset, .unset, .unset, .unset] [(.int ((p1 &&& (2147483647 : Int32)) % (2046 : Int32))), (.int (-1074 : Int32))])) _
      refine XS.iadd X0.here hx rfl (hb hby at_43) rfl ?_
      show Steps p.tables e below (s₁.setTop (mkF m 44 #[.val (.int p1), .val (.int p2), .val (.int (0 : Int32)), .val (.int (p1 &&& (2147483647 : Int32))), .unset, .unset, .unset, .unset, .unset, .unset] [(.int ((-1074 : Int32) + ((p1 &&& (2147483647 : Int32)) % (2046 : Int32))))])) _
      refine XS.istore X0.here hx rfl (hb hby at_44) rfl (l' := (lc0_0 p1 p2)) rfl ?_
      show Steps p.tables e below (s₁.setTop (mkF m 46 (lc0_0 p1 p2) [])) _
      refine XS.iload X0.here hx rfl (hb hby at_46) rfl ?_
      show Steps p.tables e below (s₁.setTop (mkF m 48 (lc0_0 p1 p2) [(.int ((-1074 : Int32) + ((p1 &&& (2147483647 : Int32)) % (2046 : Int32))))])) _
      refine XS.i2l X0.here hx rfl (hb hby at_48) rfl ?_
      show Steps p.tables e below (s₁.setTop (mkF m 49 (lc0_0 p1 p2) [(.long (((-1074 : Int32) + ((p1 &&& (2147483647 : Int32)) % (2046 : Int32))).toInt64))])) _
      refine X0.ldc2Long hx hown (mvT hZ (hw _ (List.mem_of_getElem? (i := 1) rfl))) (g := (mkF m 49 (lc0_0 p1 p2) [(.long (((-1074 : Int32) + ((p1 &&& (2147483647 : Int32)) % (2046 : Int32))).toInt64))])) rfl (hb hby at_49) _ ?_
      show Steps p.tables e below (s₁.setTop (mkF m 52 (lc0_0 p1 p2) [(.long (30102999566398 : Int64)), (.long (((-1074 : Int32) + ((p1 &&& (2147483647 : Int32)) % (2046 : Int32))).toInt64))])) _
      refine XS.lmul X0.here hx rfl (hb hby at_52) rfl ?_
      show Steps p.tables e below (s₁.setTop (mkF m 53 (lc0_0 p1 p2) [(.long ((((-1074 : Int32) + ((p1 &&& (2147483647 : Int32)) % (2046 : Int32))).toInt64) * (30102999566398 : Int64)))])) _
      refine XS.iloadN X0.here hx rfl (hb hby at_53) rfl ?_
      show Steps p.tables e below (s₁.setTop (mkF m 54 (lc0_0 p1 p2) [(.int (0 : Int32)), (.long ((((-1074 : Int32) + ((p1 &&& (2147483647 : Int32)) % (2046 : Int32))).toInt64) * (30102999566398 : Int64)))])) _
      refine XS.ifYes X0.here hx rfl (pc0 := 54) (pc' := 63) rfl (hb hby at_54) rfl ((if0 _ _).trans (teq (by decide)).1) (by decide) (by decide) ?_
      show Steps p.tables e below (s₁.setTop (mkF m 63 (lc0_0 p1 p2) [(.long ((((-1074 : Int32) + ((p1 &&& (2147483647 : Int32)) % (2046 : Int32))).toInt64) * (30102999566398 : Int64)))])) _
      refine XS.lconst X0.here hx rfl (hb hby at_63) ?_
      show Steps p.tables e below (s₁.setTop (mkF m 64 (lc0_0 p1 p2) [(.long (0 : Int64)), (.long ((((-1074 : Int32) + ((p1 &&& (2147483647 : Int32)) % (2046 : Int32))).toInt64) * (30102999566398 : Int64)))])) _
      refine XS.ladd X0.here hx rfl (hb hby at_64) rfl ?_
      show Steps p.tables e below (s₁.setTop (mkF m 65 (lc0_0 p1 p2) [(.long (((((-1074 : Int32) + ((p1 &&& (2147483647 : Int32)) % (2046 : Int32))).toInt64) * (30102999566398 : Int64)) + (0 : Int64)))])) _
      refine XS.lstore X0.here hx rfl (hb hby at_65) rfl (l' := (lc0_1 p1 p2)) rfl ?_
      show Steps p.tables e below (s₁.setTop (mkF m 67 (lc0_1 p1 p2) [])) _
      refine XS.lload X0.here hx rfl (hb hby at_67) rfl ?_
      show Steps p.tables e below (s₁.setTop (mkF m 69 (lc0_1 p1 p2) [(.long (((((-1074 : Int32) + ((p1 &&& (2147483647 : Int32)) % (2046 : Int32))).toInt64) * (30102999566398 : Int64)) + (0 : Int64)))])) _
      refine X0.ldc2Long hx hown (mvT hZ (hw _ (List.mem_of_getElem? (i := 3) rfl))) (g := (mkF m 69 (lc0_1 p1 p2) [(.long (((((-1074 : Int32) + ((p1 &&& (2147483647 : Int32)) % (2046 : Int32))).toInt64) * (30102999566398 : Int64)) + (0 : Int64)))])) rfl (hb hby at_69) _ ?_
      show Steps p.tables e below (s₁.setTop (mkF m 72 (lc0_1 p1 p2) [(.long (100000000000000 : Int64)), (.long (((((-1074 : Int32) + ((p1 &&& (2147483647 : Int32)) % (2046 : Int32))).toInt64) * (30102999566398 : Int64)) + (0 : Int64)))])) _
      exact k)
    obtain ⟨_, _, ⟨T4, L4, k4, n4⟩, -, X4, ⟨Lc4, hQ4, l4, y4, z4⟩, st4⟩ := Jvm.LawKit.callS X0 hx (y := (⟨"com/example/tightwire/tightwire/json/DoubleTextDecimalExponentPinLaw", "floorDiv", "(JJ)J"⟩ : MethodName)) hown (mvT hZ (hw _ (List.mem_of_getElem? (i := 4) rfl))) (mvT hZ (hw _ (List.mem_of_getElem? (i := 5) rfl))) (mvT hZ (hw _ (List.mem_of_getElem? (i := 6) rfl))) (mvT hZ (hw _ (List.mem_of_getElem? (i := 7) rfl))) (by decide) (backOf (W := 0) (rm1 l Z a0 hw [] (((((-1074 : Int32) + ((p1 &&& (2147483647 : Int32)) % (2046 : Int32))).toInt64) * (30102999566398 : Int64)) + (0 : Int64)) (100000000000000 : Int64) h0 n0 Z0 (by decide)) hZ (hw _ (List.mem_of_getElem? (i := 7) rfl)) (hw _ (List.mem_of_getElem? (i := 6) rfl)) (by decide) (by decide)) (g := (mkF m 72 (lc0_1 p1 p2) [(.long (100000000000000 : Int64)), (.long (((((-1074 : Int32) + ((p1 &&& (2147483647 : Int32)) % (2046 : Int32))).toInt64) * (30102999566398 : Int64)) + (0 : Int64)))])) rfl (by rw [hml]; rfl) (argsL := [(.long (((((-1074 : Int32) + ((p1 &&& (2147483647 : Int32)) % (2046 : Int32))).toInt64) * (30102999566398 : Int64)) + (0 : Int64))), (.long (100000000000000 : Int64))]) (rest := []) (lenOf pd_0 rfl) rfl (by show 2 * 0 + _ ≤ _; exact Nat.le_of_eq rfl) (hb hby at_72) (fun _ _ => ⟨rfl, e0, (by decide : 0 + 0 ≤ _), (by decide : 0 + 0 ≤ _)⟩)
    dsimp only [Pt.U, Pt.locs, Pt.cells, Pt.slots] at X4 l4 y4 z4 st4 hQ4
    subst l4 y4 z4
    obtain ⟨rfl, N4q, e4⟩ := hQ4
    have N4 := Fr.app N0 N4q
    have pre5 : ∀ t, Steps p.tables e below (T4.setTop (mkF m 75 (lc0_1 p1 p2) [(.long (own_fd (((((-1074 : Int32) + ((p1 &&& (2147483647 : Int32)) % (2046 : Int32))).toInt64) * (30102999566398 : Int64)) + (0 : Int64)) (100000000000000 : Int64)))])) t → Steps p.tables e below (s₁.setTop (entryFrame m #[(.int p1), (.int p2)] maxLocals)) t := fun t k => pre3 t (st4 t k)
    have pre6 : ∀ t, Steps p.tables e below (T4.setTop (mkF m 80 (lc0_2 p1 p2) [(.int (0 : Int32)), (.int ((-1074 : Int32) + ((p1 &&& (2147483647 : Int32)) % (2046 : Int32))))])) t → Steps p.tables e below (s₁.setTop (entryFrame m #[(.int p1), (.int p2)] maxLocals)) t := fun t k => pre5 t (by
      show Steps p.tables e below (T4.setTop (mkF m 75 (lc0_1 p1 p2) [(.long (own_fd (((((-1074 : Int32) + ((p1 &&& (2147483647 : Int32)) % (2046 : Int32))).toInt64) * (30102999566398 : Int64)) + (0 : Int64)) (100000000000000 : Int64)))])) _
      refine XS.lstore X4.here hx rfl (hb hby at_75) rfl (l' := (lc0_2 p1 p2)) rfl ?_
      show Steps p.tables e below (T4.setTop (mkF m 77 (lc0_2 p1 p2) [])) _
      refine XS.iload X4.here hx rfl (hb hby at_77) rfl ?_
      show Steps p.tables e below (T4.setTop (mkF m 79 (lc0_2 p1 p2) [(.int ((-1074 : Int32) + ((p1 &&& (2147483647 : Int32)) % (2046 : Int32))))])) _
      refine XS.iloadN X4.here hx rfl (hb hby at_79) rfl ?_
      show Steps p.tables e below (T4.setTop (mkF m 80 (lc0_2 p1 p2) [(.int (0 : Int32)), (.int ((-1074 : Int32) + ((p1 &&& (2147483647 : Int32)) % (2046 : Int32))))])) _
      exact k)
    obtain ⟨_, _, ⟨T7, L7, k7, n7⟩, -, X7, ⟨Lc7, hQ7, l7, y7, z7⟩, st7⟩ := Jvm.LawKit.callS X4 hx (y := (⟨"com/example/tightwire/tightwire/json/DoubleText", "decimalExponent", "(IZ)I"⟩ : MethodName)) hown (mvT hZ (hw _ (List.mem_of_getElem? (i := 8) rfl))) (mvT hZ (hw _ (List.mem_of_getElem? (i := 9) rfl))) (mvT hZ (hw _ (List.mem_of_getElem? (i := 10) rfl))) (mvT hZ (hw _ (List.mem_of_getElem? (i := 11) rfl))) (by decide) (backOf (W := 0) (rm2 l Z a0 hw [] ((-1074 : Int32) + ((p1 &&& (2147483647 : Int32)) % (2046 : Int32))) (0 : Int32) h0 n0 Z0) hZ (hw _ (List.mem_of_getElem? (i := 11) rfl)) (hw _ (List.mem_of_getElem? (i := 10) rfl)) (by decide) (by decide)) (g := (mkF m 80 (lc0_2 p1 p2) [(.int (0 : Int32)), (.int ((-1074 : Int32) + ((p1 &&& (2147483647 : Int32)) % (2046 : Int32))))])) rfl (by rw [hml]; rfl) (argsL := [(.int ((-1074 : Int32) + ((p1 &&& (2147483647 : Int32)) % (2046 : Int32)))), (.int (0 : Int32))]) (rest := []) (lenOf pd_1 rfl) rfl (by show 2 * 0 + _ ≤ _; exact Nat.le_of_eq rfl) (hb hby at_80) (fun _ _ => ⟨rfl, e4, (by decide : 0 + 0 ≤ _), (by decide : 0 + 0 ≤ _)⟩)
    dsimp only [Pt.U, Pt.locs, Pt.cells, Pt.slots] at X7 l7 y7 z7 st7 hQ7
    subst l7 y7 z7
    obtain ⟨rfl, N7q, e7⟩ := hQ7
    have N7 := Fr.app N4 N7q
    have pre8 : ∀ t, Steps p.tables e below (T7.setTop (mkF m 83 (lc0_2 p1 p2) [(.int (own_de ((-1074 : Int32) + ((p1 &&& (2147483647 : Int32)) % (2046 : Int32))) (0 : Int32)))])) t → Steps p.tables e below (s₁.setTop (entryFrame m #[(.int p1), (.int p2)] maxLocals)) t := fun t k => pre6 t (st7 t k)
    have pre9 : ∀ t, Steps p.tables e below (T7.setTop (mkF m 99 (lc0_3 p1 p2) [(.int (1 : Int32))])) t → Steps p.tables e below (s₁.setTop (entryFrame m #[(.int p1), (.int p2)] maxLocals)) t := fun t k => pre8 t (by
      show Steps p.tables e below (T7.setTop (mkF m 83 (lc0_2 p1 p2) [(.int (own_de ((-1074 : Int32) + ((p1 &&& (2147483647 : Int32)) % (2046 : Int32))) (0 : Int32)))])) _
      refine XS.istore X7.here hx rfl (hb hby at_83) rfl (l' := (lc0_3 p1 p2)) rfl ?_
      show Steps p.tables e below (T7.setTop (mkF m 85 (lc0_3 p1 p2) [])) _
      refine XS.iload X7.here hx rfl (hb hby at_85) rfl ?_
      show Steps p.tables e below (T7.setTop (mkF m 87 (lc0_3 p1 p2) [(.int (own_de ((-1074 : Int32) + ((p1 &&& (2147483647 : Int32)) % (2046 : Int32))) (0 : Int32)))])) _
      refine XS.i2l X7.here hx rfl (hb hby at_87) rfl ?_
      show Steps p.tables e below (T7.setTop (mkF m 88 (lc0_3 p1 p2) [(.long ((own_de ((-1074 : Int32) + ((p1 &&& (2147483647 : Int32)) % (2046 : Int32))) (0 : Int32)).toInt64))])) _
      refine XS.lload X7.here hx rfl (hb hby at_88) rfl ?_
      show Steps p.tables e below (T7.setTop (mkF m 90 (lc0_3 p1 p2) [(.long (own_fd (((((-1074 : Int32) + ((p1 &&& (2147483647 : Int32)) % (2046 : Int32))).toInt64) * (30102999566398 : Int64)) + (0 : Int64)) (100000000000000 : Int64))), (.long ((own_de ((-1074 : Int32) + ((p1 &&& (2147483647 : Int32)) % (2046 : Int32))) (0 : Int32)).toInt64))])) _
      refine XS.lcmp X7.here hx rfl (hb hby at_90) rfl ?_
      show Steps p.tables e below (T7.setTop (mkF m 91 (lc0_3 p1 p2) [(.int (lcmpW ((own_de ((-1074 : Int32) + ((p1 &&& (2147483647 : Int32)) % (2046 : Int32))) (0 : Int32)).toInt64) (own_fd (((((-1074 : Int32) + ((p1 &&& (2147483647 : Int32)) % (2046 : Int32))).toInt64) * (30102999566398 : Int64)) + (0 : Int64)) (100000000000000 : Int64))))])) _
      refine XS.ifNo X7.here hx rfl (hb hby at_91) rfl ((if0 _ _).trans (teq ((lw_eq _ _).mpr (show ((own_de ((-1074 : Int32) + ((p1 &&& (2147483647 : Int32)) % (2046 : Int32))) (0 : Int32)).toInt64) = (own_fd (((((-1074 : Int32) + ((p1 &&& (2147483647 : Int32)) % (2046 : Int32))).toInt64) * (30102999566398 : Int64)) + (0 : Int64)) (100000000000000 : Int64)) from own_law0 p1))).2) ?_
      show Steps p.tables e below (T7.setTop (mkF m 94 (lc0_3 p1 p2) [])) _
      refine XS.iconst X7.here hx rfl (hb hby at_94) ?_
      show Steps p.tables e below (T7.setTop (mkF m 95 (lc0_3 p1 p2) [(.int (1 : Int32))])) _
      refine XS.goto X7.here hx rfl (pc0 := 95) (pc' := 99) rfl (hb hby at_95) (by decide) (by decide) ?_
      show Steps p.tables e below (T7.setTop (mkF m 99 (lc0_3 p1 p2) [(.int (1 : Int32))])) _
      exact k)
    obtain ⟨fs, hr, hrun, hended, hW, hsame⟩ := X7.leave (v := some (.int (1 : Int32))) (fun h => by rw [Bd.returns] at h; cases h)
    refine ⟨_, _, pre9 _ ?_, hrun, hended, _, _, rfl, ?_, ⟨_, rfl⟩, hW, hsame.mono (by decide) (by decide)⟩
    · show Steps p.tables e below (T7.setTop (mkF m 99 (lc0_3 p1 p2) [(.int (1 : Int32))])) _
      exact retN X7 hx (t := .boolean) Bd.returns (by simp) (hb hby at_99) hr
    · show Q0 Z p1 p2 h0 n0 _ T7.heap _
      rw [e7]
      exact ⟨rfl, N7⟩
  · have pre10 : ∀ t, Steps p.tables e below (s₁.setTop (mkF m 72 (lc0_5 p1 p2) [(.long (100000000000000 : Int64)), (.long (((((-1073 : Int32) + ((p1 &&& (2147483647 : Int32)) % (2045 : Int32))).toInt64) * (30102999566398 : Int64)) + (-12493873660830 : Int64)))])) t → Steps p.tables e below (s₁.setTop (entryFrame m #[(.int p1), (.int p2)] maxLocals)) t := fun t k => pre1 t (by
      show Steps p.tables e below (s₁.setTop (mkF m 3 #[.val (.int p1), .val (.int p2), .unset, .unset, .unset, .unset, .unset, .unset, .unset, .unset] [(.int (p2 &&& (1 : Int32)))])) _
      refine XS.ifNo X0.here hx rfl (hb hby at_3) rfl ((if0 _ _).trans (feq hc3_2).1) ?_
      show Steps p.tables e below (s₁.setTop (mkF m 6 #[.val (.int p1), .val (.int p2), .unset, .unset, .unset, .unset, .unset, .unset, .unset, .unset] [])) _
      refine XS.iconst X0.here hx rfl (hb hby at_6) ?_
      show Steps p.tables e below (s₁.setTop (mkF m 7 #[.val (.int p1), .val (.int p2), .unset, .unset, .unset, .unset, .unset, .unset, .unset, .unset] [(.int (1 : Int32))])) _
      refine XS.goto X0.here hx rfl (pc0 := 7) (pc' := 11) rfl (hb hby at_7) (by decide) (by decide) ?_
      show Steps p.tables e below (s₁.setTop (mkF m 11 #[.val (.int p1), .val (.int p2), .unset, .unset, .unset, .unset, .unset, .unset, .unset, .unset] [(.int (1 : Int32))])) _
      refine XS.istoreN X0.here hx rfl (hb hby at_11) rfl (l' := #[.val (.int p1), .val (.int p2), .val (.int (1 : Int32)), .unset, .unset, .unset, .unset, .unset, .unset, .unset]) rfl ?_
      show Steps p.tables e below (s₁.setTop (mkF m 12 #[.val (.int p1), .val (.int p2), .val (.int (1 : Int32)), .unset, .unset, .unset, .unset, .unset, .unset, .unset] [])) _
      refine XS.iloadN X0.here hx rfl (hb hby at_12) rfl ?_
      show Steps p.tables e below (s₁.setTop (mkF m 13 #[.val (.int p1), .val (.int p2), .val (.int (1 : Int32)), .unset, .unset, .unset, .unset, .unset, .unset, .unset] [(.int p1)])) _
      refine X0.ldcInt hx hown (mvT hZ (hw _ (List.mem_of_getElem? (i := 0) rfl))) (g := (mkF m 13 #[.val (.int p1), .val (.int p2), .val (.int (1 : Int32)), .unset, .unset, .unset, .unset, .unset, .unset, .unset] [(.int p1)])) rfl (hb hby at_13) _ ?_
      show Steps p.tables e below (s₁.setTop (mkF m 15 #[.val (.int p1), .val (.int p2), .val (.int (1 : Int32)), .unset, .unset, .unset, .unset, .unset, .unset, .unset] [(.int (2147483647 : Int32)), (.int p1)])) _
      refine XS.iand X0.here hx rfl (hb hby at_15) rfl ?_
      show Steps p.tables e below (s₁.setTop (mkF m 16 #[.val (.int p1), .val (.int p2), .val (.int (1 : Int32)), .unset, .unset, .unset, .unset, .unset, .unset, .unset] [(.int (p1 &&& (2147483647 : Int32)))])) _
      refine XS.istoreN X0.here hx rfl (hb hby at_16) rfl (l' := #[.val (.int p1), .val (.int p2), .val (.int (1 : Int32)), .val (.int (p1 &&& (2147483647 : Int32))), .unset, .unset, .unset, .unset, .unset, .unset]) rfl ?_
      show Steps p.tables e below (s₁.setTop (mkF m 17 #[.val (.int p1), .val (.int p2), .val (.int (1 : Int32)), .val (.int (p1 &&& (2147483647 : Int32))), .unset, .unset, .unset, .unset, .unset, .unset] [])) _
      refine XS.iloadN X0.here hx rfl (hb hby at_17) rfl ?_
      show Steps p.tables e below (s₁.setTop (mkF m 18 #[.val (.int p1), .val (.int p2), .val (.int (1 : Int32)), .val (.int (p1 &&& (2147483647 : Int32))), .unset, .unset, .unset, .unset, .unset, .unset] [(.int (1 : Int32))])) _
      refine XS.ifNo X0.here hx rfl (hb hby at_18) rfl ((if0 _ _).trans (feq (by decide)).1) ?_
      show Steps p.tables e below (s₁.setTop (mkF m 21 #[.val (.int p1), .val (.int p2), .val (.int (1 : Int32)), .val (.int (p1 &&& (2147483647 : Int32))), .unset, .unset, .unset, .unset, .unset, .unset] [])) _
      refine XS.sipush X0.here hx rfl (hb hby at_21) ?_
      show Steps p.tables e below (s₁.setTop (mkF m 24 #[.val (.int p1), .val (.int p2), .val (.int (1 : Int32)), .val (.int (p1 &&& (2147483647 : Int32))), .unset, .unset, .unset, .unset, .unset, .unset] [(.int (-1073 : Int32))])) _
      refine XS.iloadN X0.here hx rfl (hb hby at_24) rfl ?_
      show Steps p.tables e below (s₁.setTop (mkF m 25 #[.val (.int p1), .val (.int p2), .val (.int (1 : Int32)), .val (.int (p1 &&& (2147483647 : Int32))), .unset, .unset, .unset, .unset, .unset, .unset] [(.int (p1 &&& (2147483647 : Int32))), (.int (-1073 : Int32))])) _
      refine XS.sipush X0.here hx rfl (hb hby at_25) ?_
      show Steps p.tables e below (s₁.setTop (mkF m 28 #[.val (.int p1), .val (.int p2), .val (.int (1 : Int32)), .val (.int (p1 &&& (2147483647 : Int32))), .unset, .unset, .unset, .unset, .unset, .unset] [(.int (2045 : Int32)), (.int (p1 &&& (2147483647 : Int32))), (.int (-1073 : Int32))])) _
      refine iremM X0 hx rfl (hb hby at_28) rfl (by decide) ?_
      show Steps p.tables e below (s₁.setTop (mkF m 29 #[.val (.int p1), .val (.int p2), .val (.int (1 : Int32)), .val (.int (p1 &&& (2147483647 : Int32))), .unset, .unset, .unset, .unset, .unset, .unset] [(.int ((p1 &&& (2147483647 : Int32)) % (2045 : Int32))), (.int (-1073 : Int32))])) _
      refine XS.iadd X0.here hx rfl (hb hby at_29) rfl ?_
      show Steps p.tables e below (s₁.setTop (mkF m 30 #[.val (.int p1), .val (.int p2), .val (.int (1 : Int32)), .val (.int (p1 &&& (2147483647 : Int32))), .unset, .unset, .unset, .unset, .unset, .unset] [(.int ((-1073 : Int32) + ((p1 &&& (2147483647 : Int32)) % (2045 : Int32))))])) _
      refine XS.istore X0.here hx rfl (hb hby at_30) rfl (l' := (lc0_4 p1 p2)) rfl ?_
      show Steps p.tables e below (s₁.setTop (mkF m 32 (lc0_4 p1 p2) [])) _
      refine XS.goto X0.here hx rfl (pc0 := 32) (pc' := 46) rfl (hb hby at_32) (by decide) (by decide) ?_
      show Steps p.tables e below (s₁.setTop (mkF m 46 (lc0_4 p1 p2) [])) _
      refine XS.iload X0.here hx rfl (hb hby at_46) rfl ?_
      show Steps p.tables e below (s₁.setTop (mkF m 48 (lc0_4 p1 p2) [(.int ((-1073 : Int32) + ((p1 &&& (2147483647 : Int32)) % (2045 : Int32))))])) _
      refine XS.i2l X0.here hx rfl (hb hby at_48) rfl ?_
      show Steps p.tables e below (s₁.setTop (mkF m 49 (lc0_4 p1 p2) [(.long (((-1073 : Int32) + ((p1 &&& (2147483647 : Int32)) % (2045 : Int32))).toInt64))])) _
      refine X0.ldc2Long hx hown (mvT hZ (hw _ (List.mem_of_getElem? (i := 1) rfl))) (g := (mkF m 49 (lc0_4 p1 p2) [(.long (((-1073 : Int32) + ((p1 &&& (2147483647 : Int32)) % (2045 : Int32))).toInt64))])) rfl (hb hby at_49) _ ?_
      show Steps p.tables e below (s₁.setTop (mkF m 52 (lc0_4 p1 p2) [(.long (30102999566398 : Int64)), (.long (((-1073 : Int32) + ((p1 &&& (2147483647 : Int32)) % (2045 : Int32))).toInt64))])) _
      refine XS.lmul X0.here hx rfl (hb hby at_52) rfl ?_
      show Steps p.tables e below (s₁.setTop (mkF m 53 (lc0_4 p1 p2) [(.long ((((-1073 : Int32) + ((p1 &&& (2147483647 : Int32)) % (2045 : Int32))).toInt64) * (30102999566398 : Int64)))])) _
      refine XS.iloadN X0.here hx rfl (hb hby at_53) rfl ?_
      show Steps p.tables e below (s₁.setTop (mkF m 54 (lc0_4 p1 p2) [(.int (1 : Int32)), (.long ((((-1073 : Int32) + ((p1 &&& (2147483647 : Int32)) % (2045 : Int32))).toInt64) * (30102999566398 : Int64)))])) _
      refine XS.ifNo X0.here hx rfl (hb hby at_54) rfl ((if0 _ _).trans (feq (by decide)).1) ?_
      show Steps p.tables e below (s₁.setTop (mkF m 57 (lc0_4 p1 p2) [(.long ((((-1073 : Int32) + ((p1 &&& (2147483647 : Int32)) % (2045 : Int32))).toInt64) * (30102999566398 : Int64)))])) _
      refine X0.ldc2Long hx hown (mvT hZ (hw _ (List.mem_of_getElem? (i := 2) rfl))) (g := (mkF m 57 (lc0_4 p1 p2) [(.long ((((-1073 : Int32) + ((p1 &&& (2147483647 : Int32)) % (2045 : Int32))).toInt64) * (30102999566398 : Int64)))])) rfl (hb hby at_57) _ ?_
      show Steps p.tables e below (s₁.setTop (mkF m 60 (lc0_4 p1 p2) [(.long (-12493873660830 : Int64)), (.long ((((-1073 : Int32) + ((p1 &&& (2147483647 : Int32)) % (2045 : Int32))).toInt64) * (30102999566398 : Int64)))])) _
      refine XS.goto X0.here hx rfl (pc0 := 60) (pc' := 64) rfl (hb hby at_60) (by decide) (by decide) ?_
      show Steps p.tables e below (s₁.setTop (mkF m 64 (lc0_4 p1 p2) [(.long (-12493873660830 : Int64)), (.long ((((-1073 : Int32) + ((p1 &&& (2147483647 : Int32)) % (2045 : Int32))).toInt64) * (30102999566398 : Int64)))])) _
      refine XS.ladd X0.here hx rfl (hb hby at_64) rfl ?_
      show Steps p.tables e below (s₁.setTop (mkF m 65 (lc0_4 p1 p2) [(.long (((((-1073 : Int32) + ((p1 &&& (2147483647 : Int32)) % (2045 : Int32))).toInt64) * (30102999566398 : Int64)) + (-12493873660830 : Int64)))])) _
      refine XS.lstore X0.here hx rfl (hb hby at_65) rfl (l' := (lc0_5 p1 p2)) rfl ?_
      show Steps p.tables e below (s₁.setTop (mkF m 67 (lc0_5 p1 p2) [])) _
      refine XS.lload X0.here hx rfl (hb hby at_67) rfl ?_
      show Steps p.tables e below (s₁.setTop (mkF m 69 (lc0_5 p1 p2) [(.long (((((-1073 : Int32) + ((p1 &&& (2147483647 : Int32)) % (2045 : Int32))).toInt64) * (30102999566398 : Int64)) + (-12493873660830 : Int64)))])) _
      refine X0.ldc2Long hx hown (mvT hZ (hw _ (List.mem_of_getElem? (i := 3) rfl))) (g := (mkF m 69 (lc0_5 p1 p2) [(.long (((((-1073 : Int32) + ((p1 &&& (2147483647 : Int32)) % (2045 : Int32))).toInt64) * (30102999566398 : Int64)) + (-12493873660830 : Int64)))])) rfl (hb hby at_69) _ ?_
      show Steps p.tables e below (s₁.setTop (mkF m 72 (lc0_5 p1 p2) [(.long (100000000000000 : Int64)), (.long (((((-1073 : Int32) + ((p1 &&& (2147483647 : Int32)) % (2045 : Int32))).toInt64) * (30102999566398 : Int64)) + (-12493873660830 : Int64)))])) _
      exact k)
    obtain ⟨_, _, ⟨T11, L11, k11, n11⟩, -, X11, ⟨Lc11, hQ11, l11, y11, z11⟩, st11⟩ := Jvm.LawKit.callS X0 hx (y := (⟨"com/example/tightwire/tightwire/json/DoubleTextDecimalExponentPinLaw", "floorDiv", "(JJ)J"⟩ : MethodName)) hown (mvT hZ (hw _ (List.mem_of_getElem? (i := 4) rfl))) (mvT hZ (hw _ (List.mem_of_getElem? (i := 5) rfl))) (mvT hZ (hw _ (List.mem_of_getElem? (i := 6) rfl))) (mvT hZ (hw _ (List.mem_of_getElem? (i := 7) rfl))) (by decide) (backOf (W := 0) (rm1 l Z a0 hw [] (((((-1073 : Int32) + ((p1 &&& (2147483647 : Int32)) % (2045 : Int32))).toInt64) * (30102999566398 : Int64)) + (-12493873660830 : Int64)) (100000000000000 : Int64) h0 n0 Z0 (by decide)) hZ (hw _ (List.mem_of_getElem? (i := 7) rfl)) (hw _ (List.mem_of_getElem? (i := 6) rfl)) (by decide) (by decide)) (g := (mkF m 72 (lc0_5 p1 p2) [(.long (100000000000000 : Int64)), (.long (((((-1073 : Int32) + ((p1 &&& (2147483647 : Int32)) % (2045 : Int32))).toInt64) * (30102999566398 : Int64)) + (-12493873660830 : Int64)))])) rfl (by rw [hml]; rfl) (argsL := [(.long (((((-1073 : Int32) + ((p1 &&& (2147483647 : Int32)) % (2045 : Int32))).toInt64) * (30102999566398 : Int64)) + (-12493873660830 : Int64))), (.long (100000000000000 : Int64))]) (rest := []) (lenOf pd_0 rfl) rfl (by show 2 * 0 + _ ≤ _; exact Nat.le_of_eq rfl) (hb hby at_72) (fun _ _ => ⟨rfl, e0, (by decide : 0 + 0 ≤ _), (by decide : 0 + 0 ≤ _)⟩)
    dsimp only [Pt.U, Pt.locs, Pt.cells, Pt.slots] at X11 l11 y11 z11 st11 hQ11
    subst l11 y11 z11
    obtain ⟨rfl, N11q, e11⟩ := hQ11
    have N11 := Fr.app N0 N11q
    have pre12 : ∀ t, Steps p.tables e below (T11.setTop (mkF m 75 (lc0_5 p1 p2) [(.long (own_fd (((((-1073 : Int32) + ((p1 &&& (2147483647 : Int32)) % (2045 : Int32))).toInt64) * (30102999566398 : Int64)) + (-12493873660830 : Int64)) (100000000000000 : Int64)))])) t → Steps p.tables e below (s₁.setTop (entryFrame m #[(.int p1), (.int p2)] maxLocals)) t := fun t k => pre10 t (st11 t k)
    have pre13 : ∀ t, Steps p.tables e below (T11.setTop (mkF m 80 (lc0_6 p1 p2) [(.int (1 : Int32)), (.int ((-1073 : Int32) + ((p1 &&& (2147483647 : Int32)) % (2045 : Int32))))])) t → Steps p.tables e below (s₁.setTop (entryFrame m #[(.int p1), (.int p2)] maxLocals)) t := fun t k => pre12 t (by
      show Steps p.tables e below (T11.setTop (mkF m 75 (lc0_5 p1 p2) [(.long (own_fd (((((-1073 : Int32) + ((p1 &&& (2147483647 : Int32)) % (2045 : Int32))).toInt64) * (30102999566398 : Int64)) + (-12493873660830 : Int64)) (100000000000000 : Int64)))])) _
      refine XS.lstore X11.here hx rfl (hb hby at_75) rfl (l' := (lc0_6 p1 p2)) rfl ?_
      show Steps p.tables e below (T11.setTop (mkF m 77 (lc0_6 p1 p2) [])) _
      refine XS.iload X11.here hx rfl (hb hby at_77) rfl ?_
      show Steps p.tables e below (T11.setTop (mkF m 79 (lc0_6 p1 p2) [(.int ((-1073 : Int32) + ((p1 &&& (2147483647 : Int32)) % (2045 : Int32))))])) _
      refine XS.iloadN X11.here hx rfl (hb hby at_79) rfl ?_
      show Steps p.tables e below (T11.setTop (mkF m 80 (lc0_6 p1 p2) [(.int (1 : Int32)), (.int ((-1073 : Int32) + ((p1 &&& (2147483647 : Int32)) % (2045 : Int32))))])) _
      exact k)
    obtain ⟨_, _, ⟨T14, L14, k14, n14⟩, -, X14, ⟨Lc14, hQ14, l14, y14, z14⟩, st14⟩ := Jvm.LawKit.callS X11 hx (y := (⟨"com/example/tightwire/tightwire/json/DoubleText", "decimalExponent", "(IZ)I"⟩ : MethodName)) hown (mvT hZ (hw _ (List.mem_of_getElem? (i := 8) rfl))) (mvT hZ (hw _ (List.mem_of_getElem? (i := 9) rfl))) (mvT hZ (hw _ (List.mem_of_getElem? (i := 10) rfl))) (mvT hZ (hw _ (List.mem_of_getElem? (i := 11) rfl))) (by decide) (backOf (W := 0) (rm2 l Z a0 hw [] ((-1073 : Int32) + ((p1 &&& (2147483647 : Int32)) % (2045 : Int32))) (1 : Int32) h0 n0 Z0) hZ (hw _ (List.mem_of_getElem? (i := 11) rfl)) (hw _ (List.mem_of_getElem? (i := 10) rfl)) (by decide) (by decide)) (g := (mkF m 80 (lc0_6 p1 p2) [(.int (1 : Int32)), (.int ((-1073 : Int32) + ((p1 &&& (2147483647 : Int32)) % (2045 : Int32))))])) rfl (by rw [hml]; rfl) (argsL := [(.int ((-1073 : Int32) + ((p1 &&& (2147483647 : Int32)) % (2045 : Int32)))), (.int (1 : Int32))]) (rest := []) (lenOf pd_1 rfl) rfl (by show 2 * 0 + _ ≤ _; exact Nat.le_of_eq rfl) (hb hby at_80) (fun _ _ => ⟨rfl, e11, (by decide : 0 + 0 ≤ _), (by decide : 0 + 0 ≤ _)⟩)
    dsimp only [Pt.U, Pt.locs, Pt.cells, Pt.slots] at X14 l14 y14 z14 st14 hQ14
    subst l14 y14 z14
    obtain ⟨rfl, N14q, e14⟩ := hQ14
    have N14 := Fr.app N11 N14q
    have pre15 : ∀ t, Steps p.tables e below (T14.setTop (mkF m 83 (lc0_6 p1 p2) [(.int (own_de ((-1073 : Int32) + ((p1 &&& (2147483647 : Int32)) % (2045 : Int32))) (1 : Int32)))])) t → Steps p.tables e below (s₁.setTop (entryFrame m #[(.int p1), (.int p2)] maxLocals)) t := fun t k => pre13 t (st14 t k)
    have pre16 : ∀ t, Steps p.tables e below (T14.setTop (mkF m 99 (lc0_7 p1 p2) [(.int (1 : Int32))])) t → Steps p.tables e below (s₁.setTop (entryFrame m #[(.int p1), (.int p2)] maxLocals)) t := fun t k => pre15 t (by
      show Steps p.tables e below (T14.setTop (mkF m 83 (lc0_6 p1 p2) [(.int (own_de ((-1073 : Int32) + ((p1 &&& (2147483647 : Int32)) % (2045 : Int32))) (1 : Int32)))])) _
      refine XS.istore X14.here hx rfl (hb hby at_83) rfl (l' := (lc0_7 p1 p2)) rfl ?_
      show Steps p.tables e below (T14.setTop (mkF m 85 (lc0_7 p1 p2) [])) _
      refine XS.iload X14.here hx rfl (hb hby at_85) rfl ?_
      show Steps p.tables e below (T14.setTop (mkF m 87 (lc0_7 p1 p2) [(.int (own_de ((-1073 : Int32) + ((p1 &&& (2147483647 : Int32)) % (2045 : Int32))) (1 : Int32)))])) _
      refine XS.i2l X14.here hx rfl (hb hby at_87) rfl ?_
      show Steps p.tables e below (T14.setTop (mkF m 88 (lc0_7 p1 p2) [(.long ((own_de ((-1073 : Int32) + ((p1 &&& (2147483647 : Int32)) % (2045 : Int32))) (1 : Int32)).toInt64))])) _
      refine XS.lload X14.here hx rfl (hb hby at_88) rfl ?_
      show Steps p.tables e below (T14.setTop (mkF m 90 (lc0_7 p1 p2) [(.long (own_fd (((((-1073 : Int32) + ((p1 &&& (2147483647 : Int32)) % (2045 : Int32))).toInt64) * (30102999566398 : Int64)) + (-12493873660830 : Int64)) (100000000000000 : Int64))), (.long ((own_de ((-1073 : Int32) + ((p1 &&& (2147483647 : Int32)) % (2045 : Int32))) (1 : Int32)).toInt64))])) _
      refine XS.lcmp X14.here hx rfl (hb hby at_90) rfl ?_
      show Steps p.tables e below (T14.setTop (mkF m 91 (lc0_7 p1 p2) [(.int (lcmpW ((own_de ((-1073 : Int32) + ((p1 &&& (2147483647 : Int32)) % (2045 : Int32))) (1 : Int32)).toInt64) (own_fd (((((-1073 : Int32) + ((p1 &&& (2147483647 : Int32)) % (2045 : Int32))).toInt64) * (30102999566398 : Int64)) + (-12493873660830 : Int64)) (100000000000000 : Int64))))])) _
      refine XS.ifNo X14.here hx rfl (hb hby at_91) rfl ((if0 _ _).trans (teq ((lw_eq _ _).mpr (show ((own_de ((-1073 : Int32) + ((p1 &&& (2147483647 : Int32)) % (2045 : Int32))) (1 : Int32)).toInt64) = (own_fd (((((-1073 : Int32) + ((p1 &&& (2147483647 : Int32)) % (2045 : Int32))).toInt64) * (30102999566398 : Int64)) + (-12493873660830 : Int64)) (100000000000000 : Int64)) from own_law1 p1))).2) ?_
      show Steps p.tables e below (T14.setTop (mkF m 94 (lc0_7 p1 p2) [])) _
      refine XS.iconst X14.here hx rfl (hb hby at_94) ?_
      show Steps p.tables e below (T14.setTop (mkF m 95 (lc0_7 p1 p2) [(.int (1 : Int32))])) _
      refine XS.goto X14.here hx rfl (pc0 := 95) (pc' := 99) rfl (hb hby at_95) (by decide) (by decide) ?_
      show Steps p.tables e below (T14.setTop (mkF m 99 (lc0_7 p1 p2) [(.int (1 : Int32))])) _
      exact k)
    obtain ⟨fs, hr, hrun, hended, hW, hsame⟩ := X14.leave (v := some (.int (1 : Int32))) (fun h => by rw [Bd.returns] at h; cases h)
    refine ⟨_, _, pre16 _ ?_, hrun, hended, _, _, rfl, ?_, ⟨_, rfl⟩, hW, hsame.mono (by decide) (by decide)⟩
    · show Steps p.tables e below (T14.setTop (mkF m 99 (lc0_7 p1 p2) [(.int (1 : Int32))])) _
      exact retN X14 hx (t := .boolean) Bd.returns (by simp) (hb hby at_99) hr
    · show Q0 Z p1 p2 h0 n0 _ T14.heap _
      rw [e14]
      exact ⟨rfl, N14⟩
set_option maxRecDepth 65536 in
set_option maxHeartbeats 40000000 in
theorem comes_1 {Post : Tables → Env → Array Value → State → Outcome → State → Prop} (hpost : ∀ tb e args s v u, (limb_1_1.after args s (.returned v) u = true ∧ limb_1_2.after args s (.returned v) u = true ∧ True) → FrameEnd s (.returned v) u (Jvm.fieldLocs frame_1_writes args s ++ Jvm.arrayLocs frame_1_arrays args s ++ Jvm.staticLocs frame_1_statics s) 0 0 → Post tb e args s (.returned v) u) :
    ArmFor flags0 classFile x code maxLocals ret World_1 tables_1 room_1 Calls_1 rest_1 Pre_1 Post := by
  intro l hfl _ _ p e ha hc hk s m args below hf hA hF happ hP
  obtain ⟨hcalls, hrest, hpre⟩ := hP
  obtain ⟨-, -, -, hnamed, -, -, -, hat⟩ := (Spec.applies_iff hf).mp happ
  obtain ⟨hg, hn⟩ := and_e (Cond.before_iff.mp (show (Jvm.Cond.and given_1 narrow_1).before args s = true from hpre))
  obtain ⟨hcnt, g0⟩ := and_e hg
  obtain ⟨k0, g1⟩ := and_e g0
  have k1 := g1
  obtain ⟨w0, w1, rfl⟩ : ∃ w0 w1 : Value, args = #[w0, w1] := by
    have hs : args.size = 2 := by simpa [Cond.value, given_1] using hcnt
    obtain ⟨L⟩ := args
    match L, hs with
    | [w0, w1], _ => exact ⟨w0, w1, rfl⟩
  have hw := fun d (hd : d ∈ tables_1) => atoms_spec (ws := Jvm.Cond.code x code maxLocals ret :: tables_1) hat d (List.mem_cons_of_mem _ hd)
  obtain ⟨i0, ei0⟩ := is_v k0
  obtain rfl : w0 = (.int i0) := Option.some.inj ei0
  obtain ⟨i1, ei1⟩ := is_v k1
  obtain rfl : w1 = (.int i1) := Option.some.inj ei1
  obtain ⟨n, o, h1, h2, h3, _, L, rfl, ⟨rfl, N⟩, hq⟩ := rm0 l s _ hw tables_1 i0 i1 s.heap s.heap.size (Nat.le_refl _) p e ha hc hk s m _ below hf ((Spec.applies_iff_loose hf).mp happ).1 ⟨rfl, State.Warmed39.refl s, rfl⟩ trivial
  refine ⟨n, _, h1, h2, h3, hpost _ _ _ _ _ _ ⟨Cond.after_iff.mpr rfl, Cond.after_iff.mpr (eq_i res_at (Term.int_eval (1)) rfl), trivial⟩ ⟨hq.1, hq.2.1, (hq.2.2.sift fun y hy => Or.inr (N y hy)).mono (by decide) (by decide)⟩⟩
theorem main_1_1 : Claimed_1_1 := comes_1 fun _ _ _ _ _ _ h hF => ⟨h.1, hF⟩
theorem main_1_2 : Claimed_1_2 := comes_1 fun _ _ _ _ _ _ h hF => ⟨h.2.1, hF⟩
end Jvm.Pilot.@@N@@
namespace Jvm.Pilot.@@N@@
open Jvm Jvm.ClassFile Sem Op Lib Jvm.Free Jvm.Stand Jvm.Pilot.@@N@@.Jvm.D
/-! MADE BY PROGRAM (witnessworld.py) out of the Statement's table words and the real class files: 9 classes; the members and pool entries that the words name. The judged class is class 1, her method 2. -/
namespace start1
open Jvm.ClassFile
def u (s : String) : CpInfo := .utf8 (stringToUtf16 s)
/-- a pool by its gaps: so many unusable entries, then the entry; so many at the end -/
def gap : Nat → List CpInfo → List CpInfo
  | 0, r => r
  | n + 1, r => .unusable :: gap n r
def poolList (es : List (Nat × CpInfo)) (last : Nat) : List CpInfo := es.foldr (fun e r => gap e.1 (e.2 :: r)) (gap last [])
def pool (es : List (Nat × CpInfo)) (last : Nat) : Array CpInfo := ⟨poolList es last⟩
def fileOf (pool : Array CpInfo) (this : Nat) (attrs : Array Attribute := #[]) (ms : Array MethodInfo := #[]) (fl : Nat := 33) (sup : Nat := 0) (ifs : Array Nat := #[]) (fds : Array FieldInfo := #[]) : ClassFile where
  minorVersion := 0
  majorVersion := 65
  constantPool := pool
  accessFlags := fl
  thisClass := this
  superClass := sup
  interfaces := ifs
  fields := fds
  methods := ms
  attributes := attrs
def plain (name : String) (sup : Option ClassId) : Class where
  name := name
  kind := .ordinary
  loader := none
  accessFlags := 33
  super := sup
  interfaces := #[]
  cf := none
  fields := #[]
  methods := #[]
  instanceTypes := #[]
  staticTypes := #[]
  resolved := #[]
  callSites := []
  init := .initialized
  statics := none
  mirror := none

def pool0 : Array CpInfo := pool [(5, u "<init>"), (0, u "()V"), (1, .class_ 10), (1, u "java/lang/Object")] 113

def k0m0 : Method := { name := "<init>", desc := "()V", sig := { parameters := [], returnType := none }, accessFlags := 1, code := none }
/-- java/lang/Object -/
def k0 : Class := { plain "java/lang/Object" none with
  accessFlags := 33
  interfaces := #[]
  cf := some (fileOf pool0 8 #[] #[{ accessFlags := 1, nameIndex := 5, descriptorIndex := 6, attributes := #[] }] 33 0 #[] #[])
  fields := #[]
  methods := #[k0m0]
  instanceTypes := #[]
  staticTypes := #[]
  resolved := Array.replicate 124 none
  statics := none }

def pool1 : Array CpInfo := pool [(2, .class_ 4), (1, u "java/lang/Object"), (0, u "<init>"), (0, u "()V"), (0, .integer 2147483647), (0, .class_ 9), (0, u "com/example/tightwire/tightwire/json/DoubleTextDecimalExponentPinLaw"), (0, .long 30102999566398), (1, .long 18446731579835890786), (1, .long 100000000000000), (1, .methodref 8 17), (0, .nameAndType 18 19), (0, u "floorDiv"), (0, u "(JJ)J"), (0, .methodref 21 22), (0, .class_ 23), (0, .nameAndType 24 25), (0, u "com/example/tightwire/tightwire/json/DoubleText"), (0, u "decimalExponent"), (0, u "(IZ)I"), (0, u "LOG10_2_E14"), (0, u "J"), (1, u "LOG10_3_4_E14"), (0, u "SCALE"), (3, u "law"), (0, u "(II)Z")] 2

def k1m0 : Method := { name := "<init>", desc := "()V", sig := { parameters := [], returnType := none }, accessFlags := 2, code := none }
def k1c1 : Code := { maxStack := 4, maxLocals := 6, code := method_2_code, exceptionTable := #[], attributes := #[] }
def k1m1 : Method := { name := "floorDiv", desc := "(JJ)J", sig := { parameters := [.long, .long], returnType := some .long }, accessFlags := 10, code := some k1c1 }
def k1c2 : Code := { maxStack := 4, maxLocals := 10, code := code, exceptionTable := #[], attributes := #[] }
def k1m2 : Method := { name := "law", desc := "(II)Z", sig := { parameters := [.int, .int], returnType := some .boolean }, accessFlags := 9, code := some k1c2 }
/-- com/example/tightwire/tightwire/json/DoubleTextDecimalExponentPinLaw -/
def k1 : Class := { plain "com/example/tightwire/tightwire/json/DoubleTextDecimalExponentPinLaw" (some 0) with
  accessFlags := 49
  interfaces := #[]
  cf := some (fileOf pool1 8 #[] #[{ accessFlags := 2, nameIndex := 5, descriptorIndex := 6, attributes := #[] }, { accessFlags := 10, nameIndex := 18, descriptorIndex := 19, attributes := #[] }, { accessFlags := 9, nameIndex := 34, descriptorIndex := 35, attributes := #[] }] 49 2 #[] #[{ accessFlags := 26, nameIndex := 26, descriptorIndex := 27, attributes := #[] }, { accessFlags := 26, nameIndex := 29, descriptorIndex := 27, attributes := #[] }, { accessFlags := 26, nameIndex := 30, descriptorIndex := 27, attributes := #[] }])
  fields := #[{ name := "LOG10_2_E14", type := .long, accessFlags := 26, slot := 0, constantValue := 0 }, { name := "LOG10_3_4_E14", type := .long, accessFlags := 26, slot := 1, constantValue := 0 }, { name := "SCALE", type := .long, accessFlags := 26, slot := 2, constantValue := 0 }]
  methods := #[k1m0, k1m1, k1m2]
  instanceTypes := #[]
  staticTypes := #[.long, .long, .long]
  resolved := Array.replicate 38 none
  statics := none }

def pool2 : Array CpInfo := pool [(2, .class_ 4), (1, u "java/lang/Object"), (0, u "<init>"), (0, u "()V"), (0, .class_ 8), (0, u "com/example/tightwire/tightwire/json/DoubleText"), (2, u "MULTIPLIER_HIGH"), (0, u "[J"), (14, u "MULTIPLIER_LOW"), (5, u "MULTIPLIER_EXPONENT"), (0, u "[I"), (52, u "decimalExponent"), (0, u "(IZ)I"), (12, .integer 315653), (0, .integer 4294836288), (18, u "POWERS_OF_TEN"), (39, u "FIVE"), (0, u "Ljava/math/BigInteger;"), (30, u "DOUBLE_FRACTION_BITS"), (0, u "I"), (2, u "DOUBLE_EXPONENT_MASK"), (1, u "DOUBLE_MIN_EXPONENT"), (1, u "FLOAT_FRACTION_BITS"), (1, u "FLOAT_EXPONENT_MASK"), (1, u "FLOAT_MIN_EXPONENT"), (1, u "MIN_DECIMAL_EXPONENT"), (1, u "MAX_DECIMAL_EXPONENT"), (1, u "LOG10_2_FIXED"), (0, u "LOG10_3_4_FIXED"), (0, u "FIXED_POINT_BITS"), (1, u "MULTIPLIER_BITS"), (1, u "RECIPROCAL_BITS"), (1, u "PLAIN_MIN_EXPONENT"), (1, u "PLAIN_MAX_EXPONENT"), (1, u "MAX_TEXT_LENGTH")] 24

def k2m0 : Method := { name := "<init>", desc := "()V", sig := { parameters := [], returnType := none }, accessFlags := 2, code := none }
def k2c1 : Code := { maxStack := 2, maxLocals := 2, code := prog_31_method_6_code, exceptionTable := #[], attributes := #[] }
def k2m1 : Method := { name := "decimalExponent", desc := "(IZ)I", sig := { parameters := [.int, .boolean], returnType := some .int }, accessFlags := 8, code := some k2c1 }
/-- com/example/tightwire/tightwire/json/DoubleText -/
def k2 : Class := { plain "com/example/tightwire/tightwire/json/DoubleText" (some 0) with
  accessFlags := 49
  interfaces := #[]
  cf := some (fileOf pool2 7 #[] #[{ accessFlags := 2, nameIndex := 5, descriptorIndex := 6, attributes := #[] }, { accessFlags := 8, nameIndex := 87, descriptorIndex := 88, attributes := #[] }] 49 2 #[] #[{ accessFlags := 26, nameIndex := 193, descriptorIndex := 194, attributes := #[] }, { accessFlags := 26, nameIndex := 197, descriptorIndex := 194, attributes := #[] }, { accessFlags := 26, nameIndex := 199, descriptorIndex := 194, attributes := #[] }, { accessFlags := 26, nameIndex := 201, descriptorIndex := 194, attributes := #[] }, { accessFlags := 26, nameIndex := 203, descriptorIndex := 194, attributes := #[] }, { accessFlags := 26, nameIndex := 205, descriptorIndex := 194, attributes := #[] }, { accessFlags := 26, nameIndex := 207, descriptorIndex := 194, attributes := #[] }, { accessFlags := 26, nameIndex := 209, descriptorIndex := 194, attributes := #[] }, { accessFlags := 26, nameIndex := 211, descriptorIndex := 194, attributes := #[] }, { accessFlags := 26, nameIndex := 212, descriptorIndex := 194, attributes := #[] }, { accessFlags := 26, nameIndex := 213, descriptorIndex := 194, attributes := #[] }, { accessFlags := 26, nameIndex := 215, descriptorIndex := 194, attributes := #[] }, { accessFlags := 26, nameIndex := 217, descriptorIndex := 194, attributes := #[] }, { accessFlags := 26, nameIndex := 161, descriptorIndex := 162, attributes := #[] }, { accessFlags := 26, nameIndex := 11, descriptorIndex := 12, attributes := #[] }, { accessFlags := 26, nameIndex := 27, descriptorIndex := 12, attributes := #[] }, { accessFlags := 26, nameIndex := 33, descriptorIndex := 34, attributes := #[] }, { accessFlags := 26, nameIndex := 121, descriptorIndex := 12, attributes := #[] }, { accessFlags := 26, nameIndex := 219, descriptorIndex := 194, attributes := #[] }, { accessFlags := 26, nameIndex := 221, descriptorIndex := 194, attributes := #[] }, { accessFlags := 26, nameIndex := 223, descriptorIndex := 194, attributes := #[] }])
  fields := #[{ name := "DOUBLE_FRACTION_BITS", type := .int, accessFlags := 26, slot := 0, constantValue := 0 }, { name := "DOUBLE_EXPONENT_MASK", type := .int, accessFlags := 26, slot := 1, constantValue := 0 }, { name := "DOUBLE_MIN_EXPONENT", type := .int, accessFlags := 26, slot := 2, constantValue := 0 }, { name := "FLOAT_FRACTION_BITS", type := .int, accessFlags := 26, slot := 3, constantValue := 0 }, { name := "FLOAT_EXPONENT_MASK", type := .int, accessFlags := 26, slot := 4, constantValue := 0 }, { name := "FLOAT_MIN_EXPONENT", type := .int, accessFlags := 26, slot := 5, constantValue := 0 }, { name := "MIN_DECIMAL_EXPONENT", type := .int, accessFlags := 26, slot := 6, constantValue := 0 }, { name := "MAX_DECIMAL_EXPONENT", type := .int, accessFlags := 26, slot := 7, constantValue := 0 }, { name := "LOG10_2_FIXED", type := .int, accessFlags := 26, slot := 8, constantValue := 0 }, { name := "LOG10_3_4_FIXED", type := .int, accessFlags := 26, slot := 9, constantValue := 0 }, { name := "FIXED_POINT_BITS", type := .int, accessFlags := 26, slot := 10, constantValue := 0 }, { name := "MULTIPLIER_BITS", type := .int, accessFlags := 26, slot := 11, constantValue := 0 }, { name := "RECIPROCAL_BITS", type := .int, accessFlags := 26, slot := 12, constantValue := 0 }, { name := "FIVE", type := (.object "java/math/BigInteger"), accessFlags := 26, slot := 13, constantValue := 0 }, { name := "MULTIPLIER_HIGH", type := (.array .long), accessFlags := 26, slot := 14, constantValue := 0 }, { name := "MULTIPLIER_LOW", type := (.array .long), accessFlags := 26, slot := 15, constantValue := 0 }, { name := "MULTIPLIER_EXPONENT", type := (.array .int), accessFlags := 26, slot := 16, constantValue := 0 }, { name := "POWERS_OF_TEN", type := (.array .long), accessFlags := 26, slot := 17, constantValue := 0 }, { name := "PLAIN_MIN_EXPONENT", type := .int, accessFlags := 26, slot := 18, constantValue := 0 }, { name := "PLAIN_MAX_EXPONENT", type := .int, accessFlags := 26, slot := 19, constantValue := 0 }, { name := "MAX_TEXT_LENGTH", type := .int, accessFlags := 26, slot := 20, constantValue := 0 }]
  methods := #[k2m0, k2m1]
  instanceTypes := #[]
  staticTypes := #[.int, .int, .int, .int, .int, .int, .int, .int, .int, .int, .int, .int, .int, (.object "java/math/BigInteger"), (.array .long), (.array .long), (.array .int), (.array .long), .int, .int, .int]
  resolved := Array.replicate 248 none
  statics := none }

def pool3 : Array CpInfo := pool [(1, u "java/lang/Cloneable"), (0, .class_ 1), (0, u "java/lang/Object"), (0, .class_ 3)] 3

/-- java/lang/Cloneable -/
def k3 : Class := { plain "java/lang/Cloneable" (some 0) with
  accessFlags := 1537
  interfaces := #[]
  cf := some (fileOf pool3 2 #[] #[] 1537 4 #[] #[])
  fields := #[]
  methods := #[]
  instanceTypes := #[]
  staticTypes := #[]
  resolved := Array.replicate 8 none
  statics := none }

def pool4 : Array CpInfo := pool [(1, u "java/io/Serializable"), (0, .class_ 1), (0, u "java/lang/Object"), (0, .class_ 3)] 3

/-- java/io/Serializable -/
def k4 : Class := { plain "java/io/Serializable" (some 0) with
  accessFlags := 1537
  interfaces := #[]
  cf := some (fileOf pool4 2 #[] #[] 1537 4 #[] #[])
  fields := #[]
  methods := #[]
  instanceTypes := #[]
  staticTypes := #[]
  resolved := Array.replicate 8 none
  statics := none }

/-- the primitive byte -/
def k5 : Class := { plain "byte" none with kind := .primitive 'B', accessFlags := 0x411 }
/-- [B -/
def k6 : Class := { plain "[B" (some 0) with kind := .array 5 .byte, interfaces := #[3, 4], accessFlags := 1041 }

/-- the primitive int -/
def k7 : Class := { plain "int" none with kind := .primitive 'I', accessFlags := 0x411 }
/-- [I -/
def k8 : Class := { plain "[I" (some 0) with kind := .array 7 .int, interfaces := #[3, 4], accessFlags := 1041 }

def heap : Heap := #[]
def classes : Array Class := #[k0, k1, k2, k3, k4, k5, k6, k7, k8]
def interned : List (Array UInt16 × Addr) := []
def slotsUsed : Nat := 0
def theMethod : MethodId := ⟨1, 2⟩
def args0 : Array Value := #[.int 5, .int 5]
def aboutOver (below : List Frame) : State where
  vm := { classes := classes, interned := interned.toArray }
  heap := heap
  slotsUsed := slotsUsed
  threads := #[{ frames := .invoking theMethod args0 :: below }]
def below0 : List Frame := [.native { method := ⟨0, 0⟩, args := #[] }]
def about1 : State := aboutOver below0
def p0 : Program := .bare "" "" ""
def e0 : Env := launch0.env 0 0 0
theorem w_frames : about1.frames = Frame.invoking theMethod args0 :: below0 := rfl
set_option maxRecDepth 65536 in
theorem w_args : argsFit about1.vm theMethod args0 = true := by decide +kernel
set_option maxRecDepth 65536 in
theorem w_heap : heapFits about1 = true := by decide +kernel
set_option maxRecDepth 65536 in
theorem w_runnable : about1.curStatus? = some .runnable := by decide +kernel
set_option maxRecDepth 65536 in
theorem w_alone : about1.alone = true := by decide +kernel
set_option maxRecDepth 65536 in
theorem w_named : about1.methodNamed? x = some theMethod := by decide +kernel
set_option maxRecDepth 65536 in
theorem w_hears : about1.hears theMethod below0 = true := by decide +kernel
set_option maxRecDepth 65536 in
theorem w_ripe : about1.ripe theMethod args0 below0 = true := by decide +kernel
theorem w_running : about1.status = .running := rfl
set_option maxRecDepth 65536 in
theorem w_room : about1.hasRoom e0.platform room_1 = true :=
  launch0.hasRoom_least _ room_1 (by decide +kernel) (by decide +kernel) (by decide +kernel) (by decide +kernel) (by decide +kernel) (by decide +kernel)
theorem allAtoms_all (ts : List Jvm.Cond) (a : Array Jvm.Value) (st : Jvm.State) : (allAtoms ts).before a st = ts.all (fun c => c.before a st) := by
  induction ts with
  | nil => rfl
  | cons c t ih =>
    show (Jvm.Cond.and c (allAtoms t)).before a st = _
    rw [Jvm.Cond.before_and, ih, List.all_cons]
def words1 : List Jvm.Cond := Jvm.Cond.code x code maxLocals ret :: tables_1
/-- a 'code' word, met by the world's own term for the bytes: nothing is compared byte by byte -/
theorem code_word {y : MethodName} {bytes : ByteArray} {mx : Nat} {rt : Option FieldType} {a : Array Value} {s : State} {m : MethodId} {meth : Method} {c : Code} (h1 : s.methodNamed? y = some m) (h2 : s.vm.method? m = some meth) (h3 : meth.code = some c) (h4 : c.code = bytes)
    (h5 : (c.maxLocals == mx && c.exceptionTable.isEmpty && decide (c.maxStack ≤ mostOperands) && decide (meth.sig.returnType = rt) && !meth.locks && decide (parseMethodDescriptor y.desc = some meth.sig)) = true) : (Jvm.Cond.code y bytes mx rt).before a s = true := by
  simp only [Bool.and_eq_true, beq_iff_eq, Bool.not_eq_true', decide_eq_true_eq] at h5
  obtain ⟨⟨⟨⟨⟨g1, g2⟩, g3⟩, g4⟩, g5⟩, g6⟩ := h5
  simp [Cond.before, Cond.holds, Cond.value, h1, h2, h3, h4, g1, g2, g3, g4, g5, g6]
def isCode : Jvm.Cond → Bool
  | .code _ _ _ _ => true
  | _ => false
theorem all_split {L : List Jvm.Cond} {P : Jvm.Cond → Bool} (h1 : L.all (fun c => isCode c || P c) = true) (h2 : ∀ c ∈ L.filter isCode, P c = true) : L.all P = true := by
  refine List.all_eq_true.mpr fun c hc => ?_
  have h := List.all_eq_true.mp h1 c hc
  rcases Bool.eq_false_or_eq_true (isCode c) with hi | hi
  · exact h2 c (List.mem_filter.mpr ⟨hc, hi⟩)
  · simpa [hi] using h
set_option maxRecDepth 65536 in
theorem w_c0 : (Jvm.Cond.code x code maxLocals ret).before args0 about1 = true := code_word (m := ⟨1, 2⟩) (meth := k1m2) (c := k1c2) (by decide +kernel) rfl rfl rfl (by decide +kernel)
set_option maxRecDepth 65536 in
theorem w_c1 : (Jvm.Cond.code ({ cls := "com/example/tightwire/tightwire/json/DoubleTextDecimalExponentPinLaw", name := "floorDiv", desc := "(JJ)J" } : Jvm.MethodName) method_2_code (6 : Nat) (Option.some Jvm.ClassFile.FieldType.long)).before args0 about1 = true := code_word (m := ⟨1, 1⟩) (meth := k1m1) (c := k1c1) (by decide +kernel) rfl rfl rfl (by decide +kernel)
set_option maxRecDepth 65536 in
theorem w_c2 : (Jvm.Cond.code ({ cls := "com/example/tightwire/tightwire/json/DoubleText", name := "decimalExponent", desc := "(IZ)I" } : Jvm.MethodName) prog_31_method_6_code (2 : Nat) (Option.some Jvm.ClassFile.FieldType.int)).before args0 about1 = true := code_word (m := ⟨2, 1⟩) (meth := k2m1) (c := k2c1) (by decide +kernel) rfl rfl rfl (by decide +kernel)
def codes1 : List Jvm.Cond := [Jvm.Cond.code x code maxLocals ret, Jvm.Cond.code ({ cls := "com/example/tightwire/tightwire/json/DoubleTextDecimalExponentPinLaw", name := "floorDiv", desc := "(JJ)J" } : Jvm.MethodName) method_2_code (6 : Nat) (Option.some Jvm.ClassFile.FieldType.long), Jvm.Cond.code ({ cls := "com/example/tightwire/tightwire/json/DoubleText", name := "decimalExponent", desc := "(IZ)I" } : Jvm.MethodName) prog_31_method_6_code (2 : Nat) (Option.some Jvm.ClassFile.FieldType.int)]
set_option maxRecDepth 65536 in
theorem codes_eq : words1.filter isCode = codes1 := rfl
theorem w_codes : ∀ c ∈ words1.filter isCode, c.before args0 about1 = true := by
  rw [codes_eq]
  intro c hc
  simp only [codes1, List.mem_cons, List.not_mem_nil, or_false] at hc
  rcases hc with rfl | rfl | rfl
  · exact w_c0
  · exact w_c1
  · exact w_c2
set_option maxRecDepth 65536 in
theorem w_t1 : words1.all (fun c => isCode c || c.before args0 about1) = true := by decide +kernel
theorem w_tables : (allAtoms (Jvm.Cond.code x code maxLocals ret :: tables_1)).before args0 about1 = true := by
  rw [allAtoms_all]
  show words1.all (fun c => c.before args0 about1) = true
  refine all_split ?_ w_codes
  rw [w_t1]
set_option maxRecDepth 65536 in
theorem w_case : (Jvm.Cond.and given_1 narrow_1).before args0 about1 = true := by decide +kernel
theorem w_applies : (headSpec (Jvm.Cond.code x code maxLocals ret :: tables_1) room_1).applies x e0.platform about1 = true :=
  (Spec.applies_iff w_frames).mpr ⟨w_running, w_runnable, w_alone, w_named, w_hears, w_ripe, w_room, w_tables⟩
theorem atStart : AtStart classFile x code maxLocals ret World_1 tables_1 room_1 Calls_1 rest_1 Pre_1 launch0 p0 e0 about1 theMethod args0 below0 :=
  ⟨lists_1, trivial, launch0.admits_env _ _ _, launch0.least_env, fairChoices_fair.cas, fairChoices_fair.clock, w_frames, w_args, w_heap, w_applies, trivial, trivial, w_case⟩
end start1
theorem witness_1 : WitnessClaimed_1 := ⟨start1.p0, start1.e0, start1.about1, start1.theMethod, start1.args0, start1.below0, start1.atStart⟩
end Jvm.Pilot.@@N@@
