import JvmDerived
import JvmDerived.Pilot.@@N@@Statement
import JvmDerived.Pilot.@@N@@Code
set_option linter.unusedVariables false
set_option linter.unusedSimpArgs false
@@BLOCK:NumsL.lean.txt@@
namespace Jvm.RoadKit
open Sem ClassFile Op Lib Jvm.Stand Jvm.Free Jvm.LawKit
section New
variable {p : Program} {l : Launch} {e : Env} {R : Room} {s : State} {m : MethodId} {args : Array Value} {below : List Frame} {meth : Method} {c : Code} {T : State} {locs : List Loc} {cells slots : Nat}
theorem retI (X : Stand p l e R s m args below meth c T locs cells slots) (hx : p.tables.exec = Jvm.exec) {pc : Nat} {Ls : Array Slot} {z : Int32} {rest : List Value} (hret : meth.sig.returnType = some .int) (hd : decode c.code pc = .ok (.ireturn, 1)) {fs : List Frame}
    (hl : ∀ (f : JFrame) (acts : List Action), f.method = m → f.locked = none → f.entered = [] → (doReturn e (T.setTop f) acts (some (.int z))).1 = T.setFrames fs) : Steps p.tables e below (T.setTop (mkF m pc Ls (.int z :: rest))) (T.setFrames fs) := by
  have hm' : T.vm.method? m = some meth := X.method'
  have hn : narrow .int (.int z) = .int z := rfl
  show Steps p.tables e below (T.setTop { method := m, pc := pc, locals := Ls, stack := _ :: rest, locked := none }) _
  jvm_step X.here [X.here.top, hx, hd, hm', hret, hn]
  first | (intro acts; rw [hl _ acts rfl rfl rfl]) | rw [hl _ _ rfl rfl rfl]
  exact Steps.refl _
end New
end Jvm.RoadKit
namespace Jvm.Pilot.@@N@@
open Jvm Jvm.ClassFile Sem Op Lib Jvm.Free Jvm.Stand Jvm.LawKit Jvm.RoadKit Bundle Jvm.Pilot.@@N@@.Jvm.D
def own_ush (x : Int64) (s : Int32) : Int64 := ((x.toUInt64 >>> (s &&& 0x3f).toInt64.toUInt64).toInt64)
def own_shl (x : Int64) (s : Int32) : Int64 := (x <<< (s &&& 0x3f).toInt64)
def own_shr (x : Int64) (s : Int32) : Int64 := (x >>> (s &&& 0x3f).toInt64)
def own_iush (x s : Int32) : Int32 := ((x.toUInt32 >>> (s &&& 31).toUInt32).toInt32)
def own_ishl (x s : Int32) : Int32 := (x <<< (s &&& 31))
def own_ishr (x s : Int32) : Int32 := (x >>> (s &&& 31))
def own_lrem (x y : Int64) : Int64 := x - (x / y) * y
def own_A (Z : State) (h : Heap) (a : Addr) (ty : FieldType) (n : Nat) (g : Nat → Int32) : Prop := ∃ c : Cell, Arr Z h a c ty ∧ c.slots.size = n ∧ ∀ i, i < n → c.slots[i]? = some (.int (g i))
def own_put (g : Nat → Int32) (j : Nat) (v : Int32) : Nat → Int32 := fun i => if i = j then v else g i
theorem own_A.lt {Z : State} {h : Heap} {a : Addr} {ty : FieldType} {n : Nat} {g : Nat → Int32} (F : own_A Z h a ty n g) : a < h.size := by obtain ⟨c, A, -⟩ := F; exact A.lt
theorem own_A.ext {Z : State} {h h' : Heap} {a : Addr} {ty : FieldType} {n : Nat} {g : Nat → Int32} (F : own_A Z h a ty n g) (E : Ext h h') : own_A Z h' a ty n g := by obtain ⟨c, A, r⟩ := F; exact ⟨c, A.ext E, r⟩
theorem own_A.other {Z : State} {h h' : Heap} {a b : Addr} {ty : FieldType} {n : Nat} {g : Nat → Int32} {sl : Nat} {v : Value} (F : own_A Z h b ty n g) (W : Wr h h' a sl v) (q : b ≠ a) : own_A Z h' b ty n g := by obtain ⟨c, A, r⟩ := F; exact ⟨c, A.other W q, r⟩
theorem own_A.keep {Z : State} {h h' : Heap} {a : Addr} {ty : FieldType} {n : Nat} {g : Nat → Int32} {ws : List Addr} (F : own_A Z h a ty n g) (K : Keep h h' ws) (q : a ∉ ws) : own_A Z h' a ty n g := by obtain ⟨c, A, r⟩ := F; exact ⟨c, ⟨K.2.1 a c A.1 q, A.2⟩, r⟩
theorem own_A.new {Z : State} {h : Heap} {a : Addr} {k : ClassId} {ty : FieldType} {z : Int32} (A : Arr Z h a (newA k ty z) ty) {n : Nat} (hn : z.toNatClampNeg = n) (hd : defaultValue ty = .int 0) : own_A Z h a ty n (fun _ => (0 : Int32)) := by
  subst hn
  exact ⟨_, A, sz_new _ _ _, fun i hi => by simp [newA, hi, hd]⟩
theorem own_A.congr {Z : State} {h : Heap} {a : Addr} {ty : FieldType} {n : Nat} {f g : Nat → Int32} (F : own_A Z h a ty n f) (q : ∀ i, i < n → f i = g i) : own_A Z h a ty n g := by
  obtain ⟨c, A, S, r⟩ := F; exact ⟨c, A, S, fun i hi => by rw [r i hi, q i hi]⟩
theorem own_A.set {Z : State} {h h' : Heap} {a : Addr} {ty : FieldType} {n : Nat} {g : Nat → Int32} {c : Cell} {j : Nat} {v : Int32} (A : Arr Z h a c ty) (S : c.slots.size = n) (H : ∀ i, i < n → c.slots[i]? = some (.int (g i))) (W : Wr h h' a j (.int v)) : own_A Z h' a ty n (own_put g j v) := by
  obtain ⟨c', h1, -, -, h4, -, h6, h7⟩ := wr_at W A.1
  obtain ⟨e1, e2, -⟩ := h7 rfl
  have A' := A.same W
  subst e1
  refine ⟨_, A', by rw [sz_set]; exact S, fun i hi => ?_⟩
  by_cases q : i = j
  · subst q; rw [e2, own_put, if_pos rfl]
  · rw [h6 i q, H i hi, own_put, if_neg q]
theorem own_inb {c : Cell} {n : Nat} {j : Int32} (S : c.slots.size = n) (q : 0 ≤ j.toInt ∧ j.toInt < n) : ¬ (j < 0 ∨ c.slots.size ≤ j.toNatClampNeg) := by
  rw [S, Int32.lt_iff_toInt_lt]
  have e : j.toNatClampNeg = j.toInt.toNat := rfl
  have z : (0 : Int32).toInt = 0 := by decide
  rw [e, z]; omega
theorem own_lt_of {n : Nat} {j : Int32} (q : 0 ≤ j.toInt ∧ j.toInt < n) : j.toNatClampNeg < n := by
  have e : j.toNatClampNeg = j.toInt.toNat := rfl
  rw [e]; omega
theorem own_len {c : Cell} {n : Nat} {z : Int32} (S : c.slots.size = n) (q : Int32.ofNat n = z) : c.slots.size.toInt32 = z := by rw [S]; exact q
theorem own_mvMN {Z s : State} {a0 args : Array Value} {own host : String} {y : MethodName} {index : Nat} (hZ : Z.Warmed39 s.vm) (w : (Jvm.Cond.methodLinkNest own index y host).before a0 Z = true) : (Jvm.Cond.methodLinkNest own index y host).before args s = true := (Cond.methodLinkNest_wide hZ w :)
theorem own_getFR {p : Program} {l : Launch} {e : Env} {R : Room} {s : State} {m : MethodId} {args : Array Value} {below : List Frame} {meth : Method} {c : Code} {T : State} {locs : List Loc} {cells slots : Nat} {Z : State} {a0 : Array Value} {h : Heap}
    (X : Stand p l e R s m args below meth c T locs cells slots) (hx : p.tables.exec = Jvm.exec) (hZ : Z.Warmed39 s.vm) {own O n d : String} {index : Nat} (hown : s.vm.findClass own = some m.cls) (w : (Jvm.Cond.fieldRef own index O n d).before a0 Z = true) (eT : T.heap = h) {a : Addr} {v : Value} (F : Fld Z h a O n d v)
    {g : JFrame} (hg : g.method = m) {rest : List Value} (hs : g.stack = .ref a :: rest) (hd : decode c.code g.pc = .ok (.getfield index, 3)) (target : State) (hrest : Steps p.tables e below (T.setTop { g with pc := g.pc + 3, stack := v :: rest }) target) : Steps p.tables e below (T.setTop g) target := by
  obtain ⟨cell, cf, k, i, f, h1, h2, h3, h4, -, -, h7⟩ := F
  have hT : Z.Warmed39 T.vm := wtrans hZ X.warmed
  have w' := Cond.fieldRef_warmed39 hT w
  have hcur : (Z.setVm T.vm).vm.findClass own = some m.cls := by
    show T.vm.findClass own = some m.cls
    rw [X.warmed.alike.findClass]; exact hown
  obtain ⟨cf', k', i', f', hi', hready⟩ := Cond.fieldRef_spec hcur w'
  obtain ⟨k2, hi, -⟩ := State.fieldFound?_setVm (s := Z) hT.alike h2
  cases hi.symm.trans hi'
  subst hg
  jvm_step X.here [hx, hd, getfield.wp_ready (e := e) (s := T) (f := g) X.here.top hready h3 hs (by rw [eT]; exact h1) h4 h7]
  exact hrest
def own_vs (n : Nat) (f : Nat → Int32) : List Value := (List.range n).map fun i => .int (f i)
theorem own_vs_len (n : Nat) (f : Nat → Int32) : (own_vs n f).length = n := by simp [own_vs]
theorem own_vs_at (n : Nat) (f : Nat → Int32) (i : Nat) (hi : i < n) (d : Value) : (own_vs n f).getD i d = .int (f i) := by simp [own_vs, hi]
theorem own_clamp {n : Nat} (hn : n < 2 ^ 31) : (Int32.ofNat n).toNatClampNeg = n := by
  have e : (Int32.ofNat n).toNatClampNeg = (Int32.ofNat n).toInt.toNat := rfl
  rw [e, Int32.toInt_ofNat_of_lt hn]; omega
theorem own_A.arv {Z : State} {h : Heap} {a : Addr} {ty : FieldType} {n : Nat} {g : Nat → Int32} (F : own_A Z h a ty n g) (hn : n < 2 ^ 31) (hf : ∀ i, i < n → fits ty (.int (g i)) = true) : ∃ k, Arv Z h a k ty (Int32.ofNat n) (own_vs n g) (.int 0) := by
  obtain ⟨c, A, S, H⟩ := F
  refine ⟨c.cls, c, A, rfl, by rw [S, own_clamp hn], ?_, fun k hk => ?_, fun i hi => ?_⟩
  · rw [Int32.lt_iff_toInt_lt, Int32.toInt_ofNat_of_lt hn]
    have z : (0 : Int32).toInt = 0 := by decide
    omega
  · rw [S] at hk; rw [H k hk, own_vs_at n g k hk]
  · rw [S] at hi; rw [own_vs_at n g i hi]; exact hf i hi
theorem own_cp {p : Program} {l : Launch} {e : Env} {R : Room} {s : State} {m : MethodId} {args : Array Value} {below : List Frame} {meth : Method} {c : Code} {T : State} {locs : List Loc} {cells slots : Nat} {Z : State} {a0 : Array Value} {h : Heap}
    (X : Stand p l e R s m args below meth c T locs cells slots) (hx : p.tables.exec = Jvm.exec) (hZ : Z.Warmed39 s.vm) {own : String} {index : Nat} (hown : s.vm.findClass own = some m.cls)
    (w1 : (Jvm.Cond.methodLink own index Jvm.Stand.acN).before a0 Z = true) (w2 : (Jvm.Cond.native Jvm.Stand.acN).before a0 Z = true) (w3 : (Jvm.Cond.static Jvm.Stand.acN).before a0 Z = true) (w4 : (Jvm.Cond.initialized "java/lang/System").before a0 Z = true) (eT : T.heap = h)
    {a b : Addr} {n n' : Nat} {f f' : Nat → Int32} (A : own_A Z h a .byte n f) (B : own_A Z h b .byte n' f') (hf : ∀ i, i < n → fits .byte (.int (f i)) = true) (hf' : ∀ i, i < n' → fits .byte (.int (f' i)) = true) (hn : n < 2 ^ 31) (hn' : n' < 2 ^ 31)
    {sp dp nn : Int32} (h1 : ¬ sp < 0) (h2 : ¬ dp < 0) (h3 : ¬ nn < 0) (h4 : sp.toNatClampNeg + nn.toNatClampNeg ≤ n) (h5 : dp.toNatClampNeg + nn.toNatClampNeg ≤ n') {n0 : Nat} (N : Fr n0 locs) (ge : n0 ≤ b)
    {g : JFrame} (hg : g.method = m) (hsize : g.locals.size = c.maxLocals) {rest : List Value} (hs : g.stack = .int nn :: .int dp :: .ref b :: .int sp :: .ref a :: rest) (hd : decode c.code g.pc = .ok (.invokestatic index, 3))
    (hfr : 1 ≤ R.frames) {W : Nat} (hW : 2 * g.monitorRoom + (rest.map fun v => v.category).sum ≤ W) (hlo : W + (nativeFrameWords "java/lang/System" "arraycopy" 5 + 11) ≤ R.locals) :
    ∃ T' h' L, Stand p l e R s m args below meth c T' L cells slots ∧ T'.heap = h' ∧ Fr n0 L ∧ Keep h h' [b] ∧ own_A Z h' b .byte n' (fun i => if dp.toNatClampNeg ≤ i ∧ i < dp.toNatClampNeg + nn.toNatClampNeg then f (sp.toNatClampNeg + (i - dp.toNatClampNeg)) else f' i) ∧
      ∀ target, Steps p.tables e below (T'.setTop { g with pc := g.pc + 3, stack := rest }) target → Steps p.tables e below (T.setTop g) target := by
  obtain ⟨ka, VA⟩ := A.arv hn hf
  obtain ⟨kb, VB⟩ := B.arv hn' hf'
  have ca := own_clamp hn
  have cb := own_clamp hn'
  obtain ⟨T', h', L, X', eT', NL, K, V, st⟩ := cpA X hx hZ hown w1 w2 w3 w4 eT VA VB (Or.inl ⟨rfl, rfl⟩) h1 h2 h3 (by rw [ca]; exact h4) (by rw [cb]; exact h5) rfl (by rw [own_vs_len]; exact h5) N ge hg hsize hs hd hfr hW hlo
  refine ⟨T', h', L, X', eT', NL, K, ?_, st⟩
  obtain ⟨c', A', -, S', -, H', -⟩ := V
  rw [cb] at S'
  refine ⟨c', A', S', fun i hi => ?_⟩
  rw [H' i (by rw [S']; exact hi)]
  congr 1
  generalize hdn : dp.toNatClampNeg = D at *
  generalize hnn : nn.toNatClampNeg = M at *
  generalize hsn : sp.toNatClampNeg = S at *
  have lt : ((own_vs n' f').take D).length = D := by rw [List.length_take, own_vs_len]; omega
  have lu : ((List.range M).map fun i => (own_vs n f).getD (S + i) (.int 0)).length = M := by simp
  rw [List.getD_eq_getElem?_getD]
  by_cases c1 : i < D
  · rw [List.append_assoc, List.getElem?_append_left (by omega), List.getElem?_take_of_lt c1, ← List.getD_eq_getElem?_getD, own_vs_at n' f' i hi]
    show Value.int _ = Value.int (if D ≤ i ∧ i < D + M then f (S + (i - D)) else f' i)
    rw [if_neg (by omega)]
  · by_cases c2 : i < D + M
    · rw [List.getElem?_append_left (by rw [List.length_append]; omega), List.getElem?_append_right (by omega), lt, List.getElem?_map, List.getElem?_range (by omega)]
      show (own_vs n f).getD (S + (i - D)) (.int 0) = Value.int (if D ≤ i ∧ i < D + M then f (S + (i - D)) else f' i)
      rw [own_vs_at n f _ (by omega), if_pos (show D ≤ i ∧ i < D + M from ⟨by omega, c2⟩)]
    · rw [List.getElem?_append_right (by rw [List.length_append]; omega), List.length_append, lt, lu, List.getElem?_drop, show D + M + (i - (D + M)) = i by omega, ← List.getD_eq_getElem?_getD, own_vs_at n' f' i hi]
      show Value.int _ = Value.int (if D ≤ i ∧ i < D + M then f (S + (i - D)) else f' i)
      rw [if_neg (by omega)]
def own_min (a b : Int32) : Int32 := if b < a then b else a
def own_pl (fc : Nat → Int32) (P : Nat) (f : Int32) : Nat → Int32 := fun i => if P ≤ i ∧ i < P + 4 then nar .byte (fc (i - P)) else nar .byte f
def own_p (x : Int32) : Int32 := (x &&& (2147483647 : Int32)) % (5 : Int32)
def own_e (s e : Int32) : Int32 := own_p s + ((e &&& (2147483647 : Int32)) % ((5 : Int32) - own_p s))
def own_n (s e : Int32) : Int32 := own_e s e - own_p s
def own_ct (x : Int32) : Nat → Int32 := fun i => if i = 0 then nar .byte x.toInt8.toInt32 else if i = 1 then nar .byte (own_iush x (8 : Int32)).toInt8.toInt32 else if i = 2 then nar .byte (own_iush x (16 : Int32)).toInt8.toInt32 else nar .byte (own_iush x (24 : Int32)).toInt8.toInt32
theorem own_cts (p1 : Int32) : ∀ i, i < 4 → (own_put (own_put (own_put (own_put (fun _ => (0 : Int32)) 0 (nar .byte (p1.toInt8.toInt32))) 1 (nar .byte ((own_iush p1 (8 : Int32)).toInt8.toInt32))) 2 (nar .byte ((own_iush p1 (16 : Int32)).toInt8.toInt32))) 3 (nar .byte ((own_iush p1 (24 : Int32)).toInt8.toInt32))) i = own_ct p1 i := by
  intro i hi
  rcases i with _ | _ | _ | _ | i
  all_goals first | omega | simp [own_put, own_ct]
theorem own_pin0 {p : Int32} (hp : 0 ≤ p.toInt ∧ p.toInt ≤ 4) : 0 ≤ p.toInt ∧ p.toInt < (8 : Nat) := by omega
theorem own_pin {p k : Int32} (hp : 0 ≤ p.toInt ∧ p.toInt ≤ 4) (hk : 0 ≤ k.toInt ∧ k.toInt ≤ 3) : 0 ≤ (p + k).toInt ∧ (p + k).toInt < (8 : Nat) := by
  rw [Jvm.Kit.i32_add (by omega) (by omega)]; omega
theorem own_pk {p : Int32} (hp : 0 ≤ p.toInt ∧ p.toInt ≤ 4) (k : Int32) (n : Nat) (hk : k.toInt = n) (hn : n ≤ 3) : (p + k).toNatClampNeg = p.toInt.toNat + n := by
  have e : (p + k).toNatClampNeg = (p + k).toInt.toNat := rfl
  rw [e, Jvm.Kit.i32_add (by omega) (by omega)]; omega
theorem own_pls (fc : Nat → Int32) (p3 : Int32) {p1 : Int32} (hp : 0 ≤ p1.toInt ∧ p1.toInt ≤ 4) : ∀ i, i < 8 → (own_put (own_put (own_put (own_put (own_put (own_put (own_put (own_put (own_put (own_put (own_put (own_put (fun _ => (0 : Int32)) 0 (nar .byte p3)) 1 (nar .byte p3)) 2 (nar .byte p3)) 3 (nar .byte p3)) 4 (nar .byte p3)) 5 (nar .byte p3)) 6 (nar .byte p3)) 7 (nar .byte p3)) (p1).toNatClampNeg (nar .byte (fc 0))) ((p1 + (1 : Int32))).toNatClampNeg (nar .byte (fc 1))) ((p1 + (2 : Int32))).toNatClampNeg (nar .byte (fc 2))) ((p1 + (3 : Int32))).toNatClampNeg (nar .byte (fc 3))) i = own_pl fc p1.toInt.toNat p3 i := by
  intro i hi
  have b0 : ∀ i, i < 8 → (own_put (own_put (own_put (own_put (own_put (own_put (own_put (own_put (fun _ => (0 : Int32)) 0 (nar .byte p3)) 1 (nar .byte p3)) 2 (nar .byte p3)) 3 (nar .byte p3)) 4 (nar .byte p3)) 5 (nar .byte p3)) 6 (nar .byte p3)) 7 (nar .byte p3)) i = nar .byte p3 := by
    intro i hi
    rcases i with _ | _ | _ | _ | _ | _ | _ | _ | i
    all_goals first | omega | simp [own_put]
  have e0 : (p1).toNatClampNeg = p1.toInt.toNat := rfl
  rw [e0, own_pk hp 1 1 (by decide) (by decide), own_pk hp 2 2 (by decide) (by decide), own_pk hp 3 3 (by decide) (by decide)]
  have b := b0 i hi
  generalize (own_put (own_put (own_put (own_put (own_put (own_put (own_put (own_put (fun _ => (0 : Int32)) 0 (nar .byte p3)) 1 (nar .byte p3)) 2 (nar .byte p3)) 3 (nar .byte p3)) 4 (nar .byte p3)) 5 (nar .byte p3)) 6 (nar .byte p3)) 7 (nar .byte p3)) = base at *
  generalize p1.toInt.toNat = P
  simp only [own_put, own_pl]
  by_cases c3 : i = P + 3
  · rw [if_pos c3, if_pos ⟨by omega, by omega⟩, show i - P = 3 by omega]
  · rw [if_neg c3]
    by_cases c2 : i = P + 2
    · rw [if_pos c2, if_pos ⟨by omega, by omega⟩, show i - P = 2 by omega]
    · rw [if_neg c2]
      by_cases c1 : i = P + 1
      · rw [if_pos c1, if_pos ⟨by omega, by omega⟩, show i - P = 1 by omega]
      · rw [if_neg c1]
        by_cases c0 : i = P
        · rw [if_pos c0, if_pos ⟨by omega, by omega⟩, show i - P = 0 by omega]
        · rw [if_neg c0, if_neg (by omega)]; exact b
theorem own_le {p2 p3 : Int32} {fr mm : Nat} (h2 : p2.toInt = fr) (h3 : p3.toInt = fr + mm) (h8 : fr + mm ≤ 8) : ¬ (p3 < p2) := by rw [Int32.lt_iff_toInt_lt]; omega
theorem own_df {p2 p3 : Int32} {fr mm : Nat} (h2 : p2.toInt = fr) (h3 : p3.toInt = fr + mm) (h8 : fr + mm ≤ 8) : (p3 - p2).toInt = mm := by rw [Jvm.Kit.i32_sub (by omega) (by omega)]; omega
theorem own_z0 : (0 : Int32).toInt = 0 := by decide
theorem own_z8 : (8 : Int32).toInt = 8 := by decide
theorem own_n1 {p2 p3 : Int32} {fr mm : Nat} (h2 : p2.toInt = fr) (h3 : p3.toInt = fr + mm) (h8 : fr + mm ≤ 8) : ¬ (p3 - p2) < 0 := by rw [Int32.lt_iff_toInt_lt, own_df h2 h3 h8, own_z0]; omega
theorem own_n3 {p2 p3 : Int32} {fr mm : Nat} (h2 : p2.toInt = fr) (h3 : p3.toInt = fr + mm) (h8 : fr + mm ≤ 8) : (p3 - p2).toNatClampNeg = mm := by
  have e : (p3 - p2).toNatClampNeg = (p3 - p2).toInt.toNat := rfl
  rw [e, own_df h2 h3 h8]; omega
theorem own_n2 {p2 p3 : Int32} {fr mm : Nat} (h2 : p2.toInt = fr) (h3 : p3.toInt = fr + mm) (h8 : fr + mm ≤ 8) : (p3 - p2).toNatClampNeg ≤ 8 := by rw [own_n3 h2 h3 h8]; omega
theorem own_mn {p2 p3 : Int32} {fr mm : Nat} (h2 : p2.toInt = fr) (h3 : p3.toInt = fr + mm) (h8 : fr + mm ≤ 8) : own_min ((8 : Int32) - p2) (p3 - p2) = p3 - p2 := by
  have d := own_df h2 h3 h8
  have z := own_z8
  have d8 : ((8 : Int32) - p2).toInt = 8 - fr := by rw [Jvm.Kit.i32_sub (by omega) (by omega)]; omega
  unfold own_min
  by_cases c : (p3 - p2) < ((8 : Int32) - p2)
  · rw [if_pos c]
  · rw [if_neg c]
    rw [Int32.lt_iff_toInt_lt] at c
    apply Int32.toInt_inj.mp
    omega
theorem own_m31 {fr mm : Nat} (h8 : fr + mm ≤ 8) : mm < 2 ^ 31 := by omega
theorem own_sc {p2 : Int32} {fr : Nat} (h2 : p2.toInt = fr) : p2.toNatClampNeg = fr := by
  have e : p2.toNatClampNeg = p2.toInt.toNat := rfl
  rw [e, h2]; omega
theorem own_s0 {p2 : Int32} {fr : Nat} (h2 : p2.toInt = fr) : ¬ p2 < 0 := by rw [Int32.lt_iff_toInt_lt, own_z0]; omega
theorem own_s4 {p2 p3 : Int32} {fr mm : Nat} (h2 : p2.toInt = fr) (h3 : p3.toInt = fr + mm) (h8 : fr + mm ≤ 8) : p2.toNatClampNeg + (p3 - p2).toNatClampNeg ≤ 8 := by rw [own_sc h2, own_n3 h2 h3 h8]; exact h8
theorem own_zc : (0 : Int32).toNatClampNeg = 0 := by decide
theorem own_s5 {p2 p3 : Int32} {fr mm : Nat} (h2 : p2.toInt = fr) (h3 : p3.toInt = fr + mm) (h8 : fr + mm ≤ 8) : (0 : Int32).toNatClampNeg + (p3 - p2).toNatClampNeg ≤ mm := by rw [own_zc, own_n3 h2 h3 h8]; omega
theorem own_cps (f : Nat → Int32) {p2 p3 : Int32} {fr mm : Nat} (h2 : p2.toInt = fr) (h3 : p3.toInt = fr + mm) (h8 : fr + mm ≤ 8) : ∀ i, i < mm → (fun i => if (0 : Int32).toNatClampNeg ≤ i ∧ i < (0 : Int32).toNatClampNeg + (p3 - p2).toNatClampNeg then f (p2.toNatClampNeg + (i - (0 : Int32).toNatClampNeg)) else (fun _ => (0 : Int32)) i) i = (fun i => f (fr + i)) i := by
  intro i hi
  show (if (0 : Int32).toNatClampNeg ≤ i ∧ i < (0 : Int32).toNatClampNeg + (p3 - p2).toNatClampNeg then f (p2.toNatClampNeg + (i - (0 : Int32).toNatClampNeg)) else (0 : Int32)) = f (fr + i)
  rw [if_pos ⟨by rw [own_zc]; omega, by rw [own_zc, own_n3 h2 h3 h8]; omega⟩, own_zc, own_sc h2, Nat.sub_zero]
theorem own_n8 {p2 p3 : Int32} {fr mm : Nat} (h2 : p2.toInt = fr) (h3 : p3.toInt = fr + mm) (hne : ¬ (fr = 0 ∧ mm = 8)) (h : p2 = (0 : Int32)) : ¬ (p3 = (8 : Int32)) := by
  intro q
  have z := own_z0
  have z8 := own_z8
  rw [h] at h2
  rw [q] at h3
  exact hne ⟨by omega, by omega⟩
theorem own_plf (fc : Nat → Int32) (P : Nat) (f : Int32) : ∀ i, i < 8 → fits .byte (.int (own_pl fc P f i)) = true := by
  intro i _
  unfold own_pl
  split
  · exact fits_nar_byte _
  · exact fits_nar_byte _
theorem own_i5 : (5 : Int32).toInt = 5 := by decide
theorem own_mk (x : Int32) : 0 ≤ (x &&& (2147483647 : Int32)).toInt := by
  have h1 : (x &&& (2147483647 : Int32)).toInt = x.toInt % 2 ^ 31 := Jvm.Kit.i32_mask x 2147483647 (k := 31) (by decide) (by decide)
  omega
theorem own_pr (x : Int32) : 0 ≤ (own_p x).toInt ∧ (own_p x).toInt ≤ 4 := by
  have h := Jvm.Kit.i32_rem_nonneg (y := 5) (own_mk x)
  rw [own_i5] at h
  unfold own_p; omega
theorem own_d5 (s : Int32) : ((5 : Int32) - own_p s).toInt = 5 - (own_p s).toInt := by
  have h := own_pr s
  have i := own_i5
  rw [Jvm.Kit.i32_sub (by omega) (by omega)]; omega
theorem own_nz (s : Int32) : ((5 : Int32) - own_p s) ≠ 0 := by
  intro q
  have h := own_pr s
  have d := own_d5 s
  rw [q, own_z0] at d
  omega
theorem own_es (s e : Int32) : 0 ≤ (own_e s e).toInt - (own_p s).toInt ∧ (own_e s e).toInt ≤ 4 := by
  have h := own_pr s
  have d := own_d5 s
  have r := Jvm.Kit.i32_rem_nonneg (y := (5 : Int32) - own_p s) (own_mk e)
  have r1 := Int.emod_nonneg (e &&& (2147483647 : Int32)).toInt (b := ((5 : Int32) - own_p s).toInt) (by omega)
  have r2 := Int.emod_lt_of_pos (e &&& (2147483647 : Int32)).toInt (b := ((5 : Int32) - own_p s).toInt) (by omega)
  have q : (own_e s e).toInt = (own_p s).toInt + ((e &&& (2147483647 : Int32)) % ((5 : Int32) - own_p s)).toInt := by unfold own_e; rw [Jvm.Kit.i32_add (by omega) (by omega)]
  omega
theorem own_ni (s e : Int32) : (own_n s e).toInt = (own_e s e).toInt - (own_p s).toInt := by
  have h := own_pr s
  have q := own_es s e
  unfold own_n; rw [Jvm.Kit.i32_sub (by omega) (by omega)]
theorem own_start (p q s : Int32) : ((own_p p + own_p s) + (own_p q - own_p p)).toInt = (((own_p q).toInt.toNat + (own_p s).toInt.toNat : Nat) : Int) := by
  have a := own_pr p; have b := own_pr q; have c := own_pr s
  have e1 : (own_p p + own_p s).toInt = (own_p p).toInt + (own_p s).toInt := Jvm.Kit.i32_add (by omega) (by omega)
  have e2 : (own_p q - own_p p).toInt = (own_p q).toInt - (own_p p).toInt := Jvm.Kit.i32_sub (by omega) (by omega)
  rw [Jvm.Kit.i32_add (by omega) (by omega)]; omega
theorem own_end (p q s e : Int32) : ((own_p p + own_e s e) + (own_p q - own_p p)).toInt = (((own_p q).toInt.toNat + (own_p s).toInt.toNat : Nat) : Int) + ((own_n s e).toInt.toNat : Nat) := by
  have a := own_pr p; have b := own_pr q; have c := own_pr s; have d := own_es s e; have n := own_ni s e
  have e1 : (own_p p + own_e s e).toInt = (own_p p).toInt + (own_e s e).toInt := Jvm.Kit.i32_add (by omega) (by omega)
  have e2 : (own_p q - own_p p).toInt = (own_p q).toInt - (own_p p).toInt := Jvm.Kit.i32_sub (by omega) (by omega)
  rw [Jvm.Kit.i32_add (by omega) (by omega)]; omega
theorem own_h8 (q s e : Int32) : ((own_p q).toInt.toNat + (own_p s).toInt.toNat) + (own_n s e).toInt.toNat ≤ 8 := by
  have b := own_pr q; have c := own_pr s; have d := own_es s e; have n := own_ni s e
  omega
theorem own_hne (q s e : Int32) : ¬ (((own_p q).toInt.toNat + (own_p s).toInt.toNat) = 0 ∧ (own_n s e).toInt.toNat = 8) := by
  have b := own_pr q; have c := own_pr s; have d := own_es s e; have n := own_ni s e
  omega
theorem own_ln (s e : Int32) : Int32.ofNat (own_n s e).toInt.toNat = own_n s e := by
  have c := own_pr s; have d := own_es s e; have n := own_ni s e
  apply Int32.toInt_inj.mp
  rw [Int32.toInt_ofNat_of_lt (by omega)]; omega
theorem own_mono {s e j k : Int32} (h : ¬ (j < own_n s e)) (hk : j ≤ k) : ¬ (k < own_n s e) := by
  rw [Int32.lt_iff_toInt_lt] at h ⊢
  rw [Int32.le_iff_toInt_le] at hk
  omega
theorem own_ix0 (s : Int32) : (own_p s).toInt = (own_p s).toInt + (0 : Int32).toInt := by rw [own_z0]; omega
theorem own_ix1 (s : Int32) : (own_p s + (1 : Int32)).toInt = (own_p s).toInt + (1 : Int32).toInt := by
  have c := own_pr s
  have z : (1 : Int32).toInt = 1 := by decide
  exact Jvm.Kit.i32_add (by omega) (by omega)
theorem own_ix2 (s : Int32) : (own_p s + (2 : Int32)).toInt = (own_p s).toInt + (2 : Int32).toInt := by
  have c := own_pr s
  have z : (2 : Int32).toInt = 2 := by decide
  exact Jvm.Kit.i32_add (by omega) (by omega)
theorem own_ix3 (s : Int32) : (own_p s + (3 : Int32)).toInt = (own_p s).toInt + (3 : Int32).toInt := by
  have c := own_pr s
  have z : (3 : Int32).toInt = 3 := by decide
  exact Jvm.Kit.i32_add (by omega) (by omega)
theorem own_oin (s e : Int32) {k : Int32} (hk : 0 ≤ k.toInt) (h : k < own_n s e) : 0 ≤ k.toInt ∧ k.toInt < ((own_n s e).toInt.toNat : Nat) := by
  rw [Int32.lt_iff_toInt_lt] at h
  omega
theorem own_cin (s e : Int32) {k i : Int32} (hk : 0 ≤ k.toInt) (h : k < own_n s e) (hi : i.toInt = (own_p s).toInt + k.toInt) : 0 ≤ i.toInt ∧ i.toInt < (4 : Nat) := by
  have c := own_pr s; have d := own_es s e; have n := own_ni s e
  rw [Int32.lt_iff_toInt_lt] at h
  omega
theorem own_nn (y : Int32) : nar .byte (nar .byte y) = nar .byte y := by
  show (y.toInt8.toInt32).toInt8.toInt32 = y.toInt8.toInt32
  rw [Int8.toInt8_toInt32]
theorem own_ctn (x : Int32) (i : Nat) : nar .byte (own_ct x i) = own_ct x i := by
  unfold own_ct
  split
  · exact own_nn _
  · split
    · exact own_nn _
    · split
      · exact own_nn _
      · exact own_nn _
theorem own_outk (x q s e g : Int32) {k i : Int32} (hk : 0 ≤ k.toInt) (h : k < own_n s e) (hi : i.toInt = (own_p s).toInt + k.toInt) : (fun j => own_pl (own_ct x) (own_p q).toInt.toNat g (((own_p q).toInt.toNat + (own_p s).toInt.toNat) + j)) k.toNatClampNeg = own_ct x i.toNatClampNeg := by
  have c := own_pr s; have d := own_es s e; have n := own_ni s e
  rw [Int32.lt_iff_toInt_lt] at h
  have e1 : k.toNatClampNeg = k.toInt.toNat := rfl
  have e2 : i.toNatClampNeg = i.toInt.toNat := rfl
  show own_pl (own_ct x) (own_p q).toInt.toNat g (((own_p q).toInt.toNat + (own_p s).toInt.toNat) + k.toNatClampNeg) = own_ct x i.toNatClampNeg
  unfold own_pl
  rw [if_pos ⟨by omega, by omega⟩, own_ctn]
  congr 1
  omega
theorem d1_0 : decode method_2_code 0 = .ok (.bipush 8, 2) := by decide +kernel
theorem d1_2 : decode method_2_code 2 = .ok (.newarray .byte, 2) := by decide +kernel
theorem d1_4 : decode method_2_code 4 = .ok (.astore_n 3, 1) := by decide +kernel
theorem d1_5 : decode method_2_code 5 = .ok (.aload_n 3, 1) := by decide +kernel
theorem d1_6 : decode method_2_code 6 = .ok (.iconst 0, 1) := by decide +kernel
theorem d1_7 : decode method_2_code 7 = .ok (.iload_n 2, 1) := by decide +kernel
theorem d1_8 : decode method_2_code 8 = .ok (.bastore, 1) := by decide +kernel
theorem d1_9 : decode method_2_code 9 = .ok (.aload_n 3, 1) := by decide +kernel
theorem d1_10 : decode method_2_code 10 = .ok (.iconst 1, 1) := by decide +kernel
theorem d1_11 : decode method_2_code 11 = .ok (.iload_n 2, 1) := by decide +kernel
theorem d1_12 : decode method_2_code 12 = .ok (.bastore, 1) := by decide +kernel
theorem d1_13 : decode method_2_code 13 = .ok (.aload_n 3, 1) := by decide +kernel
theorem d1_14 : decode method_2_code 14 = .ok (.iconst 2, 1) := by decide +kernel
theorem d1_15 : decode method_2_code 15 = .ok (.iload_n 2, 1) := by decide +kernel
theorem d1_16 : decode method_2_code 16 = .ok (.bastore, 1) := by decide +kernel
theorem d1_17 : decode method_2_code 17 = .ok (.aload_n 3, 1) := by decide +kernel
theorem d1_18 : decode method_2_code 18 = .ok (.iconst 3, 1) := by decide +kernel
theorem d1_19 : decode method_2_code 19 = .ok (.iload_n 2, 1) := by decide +kernel
theorem d1_20 : decode method_2_code 20 = .ok (.bastore, 1) := by decide +kernel
theorem d1_21 : decode method_2_code 21 = .ok (.aload_n 3, 1) := by decide +kernel
theorem d1_22 : decode method_2_code 22 = .ok (.iconst 4, 1) := by decide +kernel
theorem d1_23 : decode method_2_code 23 = .ok (.iload_n 2, 1) := by decide +kernel
theorem d1_24 : decode method_2_code 24 = .ok (.bastore, 1) := by decide +kernel
theorem d1_25 : decode method_2_code 25 = .ok (.aload_n 3, 1) := by decide +kernel
theorem d1_26 : decode method_2_code 26 = .ok (.iconst 5, 1) := by decide +kernel
theorem d1_27 : decode method_2_code 27 = .ok (.iload_n 2, 1) := by decide +kernel
theorem d1_28 : decode method_2_code 28 = .ok (.bastore, 1) := by decide +kernel
theorem d1_29 : decode method_2_code 29 = .ok (.aload_n 3, 1) := by decide +kernel
theorem d1_30 : decode method_2_code 30 = .ok (.bipush 6, 2) := by decide +kernel
theorem d1_32 : decode method_2_code 32 = .ok (.iload_n 2, 1) := by decide +kernel
theorem d1_33 : decode method_2_code 33 = .ok (.bastore, 1) := by decide +kernel
theorem d1_34 : decode method_2_code 34 = .ok (.aload_n 3, 1) := by decide +kernel
theorem d1_35 : decode method_2_code 35 = .ok (.bipush 7, 2) := by decide +kernel
theorem d1_37 : decode method_2_code 37 = .ok (.iload_n 2, 1) := by decide +kernel
theorem d1_38 : decode method_2_code 38 = .ok (.bastore, 1) := by decide +kernel
theorem d1_39 : decode method_2_code 39 = .ok (.aload_n 3, 1) := by decide +kernel
theorem d1_40 : decode method_2_code 40 = .ok (.iload_n 0, 1) := by decide +kernel
theorem d1_41 : decode method_2_code 41 = .ok (.aload_n 1, 1) := by decide +kernel
theorem d1_42 : decode method_2_code 42 = .ok (.iconst 0, 1) := by decide +kernel
theorem d1_43 : decode method_2_code 43 = .ok (.baload, 1) := by decide +kernel
theorem d1_44 : decode method_2_code 44 = .ok (.bastore, 1) := by decide +kernel
theorem d1_45 : decode method_2_code 45 = .ok (.aload_n 3, 1) := by decide +kernel
theorem d1_46 : decode method_2_code 46 = .ok (.iload_n 0, 1) := by decide +kernel
theorem d1_47 : decode method_2_code 47 = .ok (.iconst 1, 1) := by decide +kernel
theorem d1_48 : decode method_2_code 48 = .ok (.iadd, 1) := by decide +kernel
theorem d1_49 : decode method_2_code 49 = .ok (.aload_n 1, 1) := by decide +kernel
theorem d1_50 : decode method_2_code 50 = .ok (.iconst 1, 1) := by decide +kernel
theorem d1_51 : decode method_2_code 51 = .ok (.baload, 1) := by decide +kernel
theorem d1_52 : decode method_2_code 52 = .ok (.bastore, 1) := by decide +kernel
theorem d1_53 : decode method_2_code 53 = .ok (.aload_n 3, 1) := by decide +kernel
theorem d1_54 : decode method_2_code 54 = .ok (.iload_n 0, 1) := by decide +kernel
theorem d1_55 : decode method_2_code 55 = .ok (.iconst 2, 1) := by decide +kernel
theorem d1_56 : decode method_2_code 56 = .ok (.iadd, 1) := by decide +kernel
theorem d1_57 : decode method_2_code 57 = .ok (.aload_n 1, 1) := by decide +kernel
theorem d1_58 : decode method_2_code 58 = .ok (.iconst 2, 1) := by decide +kernel
theorem d1_59 : decode method_2_code 59 = .ok (.baload, 1) := by decide +kernel
theorem d1_60 : decode method_2_code 60 = .ok (.bastore, 1) := by decide +kernel
theorem d1_61 : decode method_2_code 61 = .ok (.aload_n 3, 1) := by decide +kernel
theorem d1_62 : decode method_2_code 62 = .ok (.iload_n 0, 1) := by decide +kernel
theorem d1_63 : decode method_2_code 63 = .ok (.iconst 3, 1) := by decide +kernel
theorem d1_64 : decode method_2_code 64 = .ok (.iadd, 1) := by decide +kernel
theorem d1_65 : decode method_2_code 65 = .ok (.aload_n 1, 1) := by decide +kernel
theorem d1_66 : decode method_2_code 66 = .ok (.iconst 3, 1) := by decide +kernel
theorem d1_67 : decode method_2_code 67 = .ok (.baload, 1) := by decide +kernel
theorem d1_68 : decode method_2_code 68 = .ok (.bastore, 1) := by decide +kernel
theorem d1_69 : decode method_2_code 69 = .ok (.aload_n 3, 1) := by decide +kernel
theorem d1_70 : decode method_2_code 70 = .ok (.areturn, 1) := by decide +kernel
theorem pn_RunMoveToPinLaw : plainName "com/example/canonbyte/canonbyte/codec/RunMoveToPinLaw" = true := by first | (simp [plainName, overriddenIn]; done) | decide +kernel
theorem ef_1 (m : MethodId) (p1 : Int32) (a2 : Addr) (p3 : Int32) : entryFrame m #[(.int p1), (.ref a2), (.int p3)] 4 = mkF m 0 #[.val (.int p1), .val (.ref a2), .val (.int p3), .unset] [] := by first | (simp [entryFrame, mkF, argsToLocals, Value.category]; done) | rfl
def QPl (Z : State) (p1 : Int32) (a2 : Addr) (p3 : Int32) (fc : Nat → Int32) (h0 : Heap) (n0 : Nat) (v : Option Value) (h : Heap) (L : List Loc) : Prop := v = some (.ref h0.size) ∧ Fr n0 L ∧ Keep h0 h [] ∧ own_A Z h h0.size .byte 8 (own_pl fc p1.toInt.toNat p3)
set_option maxRecDepth 65536 in
set_option maxHeartbeats 40000000 in
theorem rmPl (l : Launch) (Z : State) (a0 : Array Value) (hw : ∀ d ∈ tables_1, d.before a0 Z = true) (ws : List Jvm.Cond) (p1 : Int32) (a2 : Addr) (p3 : Int32) (fc : Nat → Int32) (h0 : Heap) (n0 : Nat) (Z0 : n0 ≤ h0.size) (A_a2 : own_A Z h0 a2 .byte 4 fc) (hp : 0 ≤ p1.toInt ∧ p1.toInt ≤ 4) :
    MetFree l (⟨"com/example/canonbyte/canonbyte/codec/RunMoveToPinLaw", "place", "(I[BB)[B"⟩ : MethodName) (head1 (Jvm.Cond.code (⟨"com/example/canonbyte/canonbyte/codec/RunMoveToPinLaw", "place", "(I[BB)[B"⟩ : MethodName) method_2_code 4 (some (.array .byte)) :: ws) ({ frames := 0, cells := 1, slots := 8, locals := 0 } : Room)) (fun aa U => aa = #[(.int p1), (.ref a2), (.int p3)] ∧ Z.Warmed39 U.vm ∧ U.heap = h0) (fun _ _ _ _ _ => True) (fun _ U o U' => ∃ v L, o = .returned v ∧ QPl Z p1 a2 p3 fc h0 n0 v U'.heap L ∧ FrameEnd U o U' L ({ frames := 0, cells := 1, slots := 8, locals := 0 } : Room).cells ({ frames := 0, cells := 1, slots := 8, locals := 0 } : Room).slots) := by
  refine MetFree.of_bodySF (plainFor_of_name pn_RunMoveToPinLaw) hisR ?_
  intro p e s m args below meth c s₁ Bd hml0 hP hK
  obtain ⟨rfl, hZ, hh⟩ := hP
  have hx := Bd.exec
  have hby := Bd.bytes
  have hml : c.maxLocals = 4 := hml0
  have hown : s.vm.findClass "com/example/canonbyte/canonbyte/codec/RunMoveToPinLaw" = some m.cls := findClass_of_methodNamed Bd.named
  have hnm := (name_of_methodNamed Bd.named Bd.method).1
  have X0 : Stand p l e ({ frames := 0, cells := 1, slots := 8, locals := 0 } : Room) s m #[(.int p1), (.ref a2), (.int p3)] below meth c s₁ [] 0 0 := Stand.of_body Bd
  have e0 : s₁.heap = h0 := by rw [← hh, Bd.state]; rfl
  have N0 := Fr.nil n0
  have hlk : meth.locks = false := by first | exact BodyLoose.notSynchronized Bd | exact Body.notSynchronized Bd
  have pre0 : ∀ t, Steps p.tables e below (s₁.setTop (mkF m 0 #[.val (.int p1), .val (.ref a2), .val (.int p3), .unset] [])) t → Steps p.tables e below (s₁.setTop (entryFrame m #[(.int p1), (.ref a2), (.int p3)] 4)) t := fun t k => castTop (ef_1 m p1 a2 p3) k
  have K : Keep h0 h0 [] := Keep.refl _ _
  have pre1 : ∀ t, Steps p.tables e below (s₁.setTop (mkF m 2 #[.val (.int p1), .val (.ref a2), .val (.int p3), .unset] [(.int (8 : Int32))])) t → Steps p.tables e below (s₁.setTop (entryFrame m #[(.int p1), (.ref a2), (.int p3)] 4)) t := fun t k => pre0 t (by
    show Steps p.tables e below (s₁.setTop (mkF m 0 #[.val (.int p1), .val (.ref a2), .val (.int p3), .unset] [])) _
    refine XS.bipush X0.here hx rfl (hb hby d1_0) ?_
    show Steps p.tables e below (s₁.setTop (mkF m 2 #[.val (.int p1), .val (.ref a2), .val (.int p3), .unset] [(.int (8 : Int32))])) _
    exact k)
  obtain ⟨T2, h2, k2, X2, e2, E2, A2, st2⟩ := newP X0 hx hZ (hw _ (List.mem_of_getElem? (i := 1) rfl)) e0 (g := (mkF m 2 #[.val (.int p1), .val (.ref a2), .val (.int p3), .unset] [(.int (8 : Int32))])) rfl (hb hby d1_2) rfl (by decide) (cap := 8) (by decide) (by decide) (by decide) (by decide)
  obtain ⟨b2, g2⟩ : ∃ z, z = h0.size := ⟨_, rfl⟩
  rw [← g2] at A2 st2
  have g_b2 : n0 ≤ b2 := Nat.le_trans Z0 (Nat.le_of_eq g2.symm)
  have sz_b2 : h0.size ≤ b2 := Nat.le_trans K.1 (Nat.le_of_eq g2.symm)
  have ne_a2_b2 : a2 ≠ b2 := Nat.ne_of_lt (Nat.lt_of_lt_of_le A_a2.lt (Nat.le_of_eq g2.symm))
  have A_a2 := A_a2.ext E2
  have K := K.ext E2
  have Z2 : n0 ≤ h2.size := Nat.le_trans Z0 E2.1
  have A_b2 : own_A Z h2 b2 .byte 8 (fun _ => (0 : Int32)) := own_A.new A2 rfl rfl
  have pre3 : ∀ t, Steps p.tables e below (T2.setTop (mkF m 4 #[.val (.int p1), .val (.ref a2), .val (.int p3), .unset] [(.ref b2)])) t → Steps p.tables e below (s₁.setTop (entryFrame m #[(.int p1), (.ref a2), (.int p3)] 4)) t := fun t k => pre1 t (st2 t k)
  have pre4 : ∀ t, Steps p.tables e below (T2.setTop (mkF m 8 #[.val (.int p1), .val (.ref a2), .val (.int p3), .val (.ref b2)] [(.int p3), (.int (0 : Int32)), (.ref b2)])) t → Steps p.tables e below (s₁.setTop (entryFrame m #[(.int p1), (.ref a2), (.int p3)] 4)) t := fun t k => pre3 t (by
    show Steps p.tables e below (T2.setTop (mkF m 4 #[.val (.int p1), .val (.ref a2), .val (.int p3), .unset] [(.ref b2)])) _
    refine XS.astoreN X2.here hx rfl (hb hby d1_4) rfl rfl (l' := #[.val (.int p1), .val (.ref a2), .val (.int p3), .val (.ref b2)]) rfl ?_
    show Steps p.tables e below (T2.setTop (mkF m 5 #[.val (.int p1), .val (.ref a2), .val (.int p3), .val (.ref b2)] [])) _
    refine XS.aloadN X2.here hx rfl (hb hby d1_5) rfl rfl ?_
    show Steps p.tables e below (T2.setTop (mkF m 6 #[.val (.int p1), .val (.ref a2), .val (.int p3), .val (.ref b2)] [(.ref b2)])) _
    refine XS.iconst X2.here hx rfl (hb hby d1_6) ?_
    show Steps p.tables e below (T2.setTop (mkF m 7 #[.val (.int p1), .val (.ref a2), .val (.int p3), .val (.ref b2)] [(.int (0 : Int32)), (.ref b2)])) _
    refine XS.iloadN X2.here hx rfl (hb hby d1_7) rfl ?_
    show Steps p.tables e below (T2.setTop (mkF m 8 #[.val (.int p1), .val (.ref a2), .val (.int p3), .val (.ref b2)] [(.int p3), (.int (0 : Int32)), (.ref b2)])) _
    exact k)
  obtain ⟨cl5, Ar5, Sz5, Hf5⟩ := A_b2
  obtain ⟨T5, h5, X5, e5, W5, st5⟩ := stB X2 hx hZ e2 Ar5 (j := (0 : Int32)) (own_inb Sz5 ⟨by decide, by decide⟩) (g := (mkF m 8 #[.val (.int p1), .val (.ref a2), .val (.int p3), .val (.ref b2)] [(.int p3), (.int (0 : Int32)), (.ref b2)])) rfl rfl (hb hby d1_8)
  have A_b2 : own_A Z h5 b2 .byte 8 (own_put (fun _ => (0 : Int32)) 0 (nar .byte p3)) := own_A.set Ar5 Sz5 Hf5 W5
  have A_a2 := A_a2.other W5 ne_a2_b2
  have K := K.wr W5 (Or.inr sz_b2)
  have Z5 : n0 ≤ h5.size := Nat.le_trans Z2 (Keep.of_wr W5).1
  have N5 := Fr.snoc X5 N0 g_b2
  have pre6 : ∀ t, Steps p.tables e below (T5.setTop (mkF m 9 #[.val (.int p1), .val (.ref a2), .val (.int p3), .val (.ref b2)] [])) t → Steps p.tables e below (s₁.setTop (entryFrame m #[(.int p1), (.ref a2), (.int p3)] 4)) t := fun t k => pre4 t (st5 t k)
  have pre7 : ∀ t, Steps p.tables e below (T5.setTop (mkF m 12 #[.val (.int p1), .val (.ref a2), .val (.int p3), .val (.ref b2)] [(.int p3), (.int (1 : Int32)), (.ref b2)])) t → Steps p.tables e below (s₁.setTop (entryFrame m #[(.int p1), (.ref a2), (.int p3)] 4)) t := fun t k => pre6 t (by
    show Steps p.tables e below (T5.setTop (mkF m 9 #[.val (.int p1), .val (.ref a2), .val (.int p3), .val (.ref b2)] [])) _
    refine XS.aloadN X5.here hx rfl (hb hby d1_9) rfl rfl ?_
    show Steps p.tables e below (T5.setTop (mkF m 10 #[.val (.int p1), .val (.ref a2), .val (.int p3), .val (.ref b2)] [(.ref b2)])) _
    refine XS.iconst X5.here hx rfl (hb hby d1_10) ?_
    show Steps p.tables e below (T5.setTop (mkF m 11 #[.val (.int p1), .val (.ref a2), .val (.int p3), .val (.ref b2)] [(.int (1 : Int32)), (.ref b2)])) _
    refine XS.iloadN X5.here hx rfl (hb hby d1_11) rfl ?_
    show Steps p.tables e below (T5.setTop (mkF m 12 #[.val (.int p1), .val (.ref a2), .val (.int p3), .val (.ref b2)] [(.int p3), (.int (1 : Int32)), (.ref b2)])) _
    exact k)
  obtain ⟨cl8, Ar8, Sz8, Hf8⟩ := A_b2
  obtain ⟨T8, h8, X8, e8, W8, st8⟩ := stB X5 hx hZ e5 Ar8 (j := (1 : Int32)) (own_inb Sz8 ⟨by decide, by decide⟩) (g := (mkF m 12 #[.val (.int p1), .val (.ref a2), .val (.int p3), .val (.ref b2)] [(.int p3), (.int (1 : Int32)), (.ref b2)])) rfl rfl (hb hby d1_12)
  have A_b2 : own_A Z h8 b2 .byte 8 (own_put (own_put (fun _ => (0 : Int32)) 0 (nar .byte p3)) 1 (nar .byte p3)) := own_A.set Ar8 Sz8 Hf8 W8
  have A_a2 := A_a2.other W8 ne_a2_b2
  have K := K.wr W8 (Or.inr sz_b2)
  have Z8 : n0 ≤ h8.size := Nat.le_trans Z5 (Keep.of_wr W8).1
  have N8 := Fr.snoc X8 N5 g_b2
  have pre9 : ∀ t, Steps p.tables e below (T8.setTop (mkF m 13 #[.val (.int p1), .val (.ref a2), .val (.int p3), .val (.ref b2)] [])) t → Steps p.tables e below (s₁.setTop (entryFrame m #[(.int p1), (.ref a2), (.int p3)] 4)) t := fun t k => pre7 t (st8 t k)
  have pre10 : ∀ t, Steps p.tables e below (T8.setTop (mkF m 16 #[.val (.int p1), .val (.ref a2), .val (.int p3), .val (.ref b2)] [(.int p3), (.int (2 : Int32)), (.ref b2)])) t → Steps p.tables e below (s₁.setTop (entryFrame m #[(.int p1), (.ref a2), (.int p3)] 4)) t := fun t k => pre9 t (by
    show Steps p.tables e below (T8.setTop (mkF m 13 #[.val (.int p1), .val (.ref a2), .val (.int p3), .val (.ref b2)] [])) _
    refine XS.aloadN X8.here hx rfl (hb hby d1_13) rfl rfl ?_
    show Steps p.tables e below (T8.setTop (mkF m 14 #[.val (.int p1), .val (.ref a2), .val (.int p3), .val (.ref b2)] [(.ref b2)])) _
    refine XS.iconst X8.here hx rfl (hb hby d1_14) ?_
    show Steps p.tables e below (T8.setTop (mkF m 15 #[.val (.int p1), .val (.ref a2), .val (.int p3), .val (.ref b2)] [(.int (2 : Int32)), (.ref b2)])) _
    refine XS.iloadN X8.here hx rfl (hb hby d1_15) rfl ?_
    show Steps p.tables e below (T8.setTop (mkF m 16 #[.val (.int p1), .val (.ref a2), .val (.int p3), .val (.ref b2)] [(.int p3), (.int (2 : Int32)), (.ref b2)])) _
    exact k)
  obtain ⟨cl11, Ar11, Sz11, Hf11⟩ := A_b2
  obtain ⟨T11, h11, X11, e11, W11, st11⟩ := stB X8 hx hZ e8 Ar11 (j := (2 : Int32)) (own_inb Sz11 ⟨by decide, by decide⟩) (g := (mkF m 16 #[.val (.int p1), .val (.ref a2), .val (.int p3), .val (.ref b2)] [(.int p3), (.int (2 : Int32)), (.ref b2)])) rfl rfl (hb hby d1_16)
  have A_b2 : own_A Z h11 b2 .byte 8 (own_put (own_put (own_put (fun _ => (0 : Int32)) 0 (nar .byte p3)) 1 (nar .byte p3)) 2 (nar .byte p3)) := own_A.set Ar11 Sz11 Hf11 W11
  have A_a2 := A_a2.other W11 ne_a2_b2
  have K := K.wr W11 (Or.inr sz_b2)
  have Z11 : n0 ≤ h11.size := Nat.le_trans Z8 (Keep.of_wr W11).1
  have N11 := Fr.snoc X11 N8 g_b2
  have pre12 : ∀ t, Steps p.tables e below (T11.setTop (mkF m 17 #[.val (.int p1), .val (.ref a2), .val (.int p3), .val (.ref b2)] [])) t → Steps p.tables e below (s₁.setTop (entryFrame m #[(.int p1), (.ref a2), (.int p3)] 4)) t := fun t k => pre10 t (st11 t k)
  have pre13 : ∀ t, Steps p.tables e below (T11.setTop (mkF m 20 #[.val (.int p1), .val (.ref a2), .val (.int p3), .val (.ref b2)] [(.int p3), (.int (3 : Int32)), (.ref b2)])) t → Steps p.tables e below (s₁.setTop (entryFrame m #[(.int p1), (.ref a2), (.int p3)] 4)) t := fun t k => pre12 t (by
    show Steps p.tables e below (T11.setTop (mkF m 17 #[.val (.int p1), .val (.ref a2), .val (.int p3), .val (.ref b2)] [])) _
    refine XS.aloadN X11.here hx rfl (hb hby d1_17) rfl rfl ?_
    show Steps p.tables e below (T11.setTop (mkF m 18 #[.val (.int p1), .val (.ref a2), .val (.int p3), .val (.ref b2)] [(.ref b2)])) _
    refine XS.iconst X11.here hx rfl (hb hby d1_18) ?_
    show Steps p.tables e below (T11.setTop (mkF m 19 #[.val (.int p1), .val (.ref a2), .val (.int p3), .val (.ref b2)] [(.int (3 : Int32)), (.ref b2)])) _
    refine XS.iloadN X11.here hx rfl (hb hby d1_19) rfl ?_
    show Steps p.tables e below (T11.setTop (mkF m 20 #[.val (.int p1), .val (.ref a2), .val (.int p3), .val (.ref b2)] [(.int p3), (.int (3 : Int32)), (.ref b2)])) _
    exact k)
  obtain ⟨cl14, Ar14, Sz14, Hf14⟩ := A_b2
  obtain ⟨T14, h14, X14, e14, W14, st14⟩ := stB X11 hx hZ e11 Ar14 (j := (3 : Int32)) (own_inb Sz14 ⟨by decide, by decide⟩) (g := (mkF m 20 #[.val (.int p1), .val (.ref a2), .val (.int p3), .val (.ref b2)] [(.int p3), (.int (3 : Int32)), (.ref b2)])) rfl rfl (hb hby d1_20)
  have A_b2 : own_A Z h14 b2 .byte 8 (own_put (own_put (own_put (own_put (fun _ => (0 : Int32)) 0 (nar .byte p3)) 1 (nar .byte p3)) 2 (nar .byte p3)) 3 (nar .byte p3)) := own_A.set Ar14 Sz14 Hf14 W14
  have A_a2 := A_a2.other W14 ne_a2_b2
  have K := K.wr W14 (Or.inr sz_b2)
  have Z14 : n0 ≤ h14.size := Nat.le_trans Z11 (Keep.of_wr W14).1
  have N14 := Fr.snoc X14 N11 g_b2
  have pre15 : ∀ t, Steps p.tables e below (T14.setTop (mkF m 21 #[.val (.int p1), .val (.ref a2), .val (.int p3), .val (.ref b2)] [])) t → Steps p.tables e below (s₁.setTop (entryFrame m #[(.int p1), (.ref a2), (.int p3)] 4)) t := fun t k => pre13 t (st14 t k)
  have pre16 : ∀ t, Steps p.tables e below (T14.setTop (mkF m 24 #[.val (.int p1), .val (.ref a2), .val (.int p3), .val (.ref b2)] [(.int p3), (.int (4 : Int32)), (.ref b2)])) t → Steps p.tables e below (s₁.setTop (entryFrame m #[(.int p1), (.ref a2), (.int p3)] 4)) t := fun t k => pre15 t (by
    show Steps p.tables e below (T14.setTop (mkF m 21 #[.val (.int p1), .val (.ref a2), .val (.int p3), .val (.ref b2)] [])) _
    refine XS.aloadN X14.here hx rfl (hb hby d1_21) rfl rfl ?_
    show Steps p.tables e below (T14.setTop (mkF m 22 #[.val (.int p1), .val (.ref a2), .val (.int p3), .val (.ref b2)] [(.ref b2)])) _
    refine XS.iconst X14.here hx rfl (hb hby d1_22) ?_
    show Steps p.tables e below (T14.setTop (mkF m 23 #[.val (.int p1), .val (.ref a2), .val (.int p3), .val (.ref b2)] [(.int (4 : Int32)), (.ref b2)])) _
    refine XS.iloadN X14.here hx rfl (hb hby d1_23) rfl ?_
    show Steps p.tables e below (T14.setTop (mkF m 24 #[.val (.int p1), .val (.ref a2), .val (.int p3), .val (.ref b2)] [(.int p3), (.int (4 : Int32)), (.ref b2)])) _
    exact k)
  obtain ⟨cl17, Ar17, Sz17, Hf17⟩ := A_b2
  obtain ⟨T17, h17, X17, e17, W17, st17⟩ := stB X14 hx hZ e14 Ar17 (j := (4 : Int32)) (own_inb Sz17 ⟨by decide, by decide⟩) (g := (mkF m 24 #[.val (.int p1), .val (.ref a2), .val (.int p3), .val (.ref b2)] [(.int p3), (.int (4 : Int32)), (.ref b2)])) rfl rfl (hb hby d1_24)
  have A_b2 : own_A Z h17 b2 .byte 8 (own_put (own_put (own_put (own_put (own_put (fun _ => (0 : Int32)) 0 (nar .byte p3)) 1 (nar .byte p3)) 2 (nar .byte p3)) 3 (nar .byte p3)) 4 (nar .byte p3)) := own_A.set Ar17 Sz17 Hf17 W17
  have A_a2 := A_a2.other W17 ne_a2_b2
  have K := K.wr W17 (Or.inr sz_b2)
  have Z17 : n0 ≤ h17.size := Nat.le_trans Z14 (Keep.of_wr W17).1
  have N17 := Fr.snoc X17 N14 g_b2
  have pre18 : ∀ t, Steps p.tables e below (T17.setTop (mkF m 25 #[.val (.int p1), .val (.ref a2), .val (.int p3), .val (.ref b2)] [])) t → Steps p.tables e below (s₁.setTop (entryFrame m #[(.int p1), (.ref a2), (.int p3)] 4)) t := fun t k => pre16 t (st17 t k)
  have pre19 : ∀ t, Steps p.tables e below (T17.setTop (mkF m 28 #[.val (.int p1), .val (.ref a2), .val (.int p3), .val (.ref b2)] [(.int p3), (.int (5 : Int32)), (.ref b2)])) t → Steps p.tables e below (s₁.setTop (entryFrame m #[(.int p1), (.ref a2), (.int p3)] 4)) t := fun t k => pre18 t (by
    show Steps p.tables e below (T17.setTop (mkF m 25 #[.val (.int p1), .val (.ref a2), .val (.int p3), .val (.ref b2)] [])) _
    refine XS.aloadN X17.here hx rfl (hb hby d1_25) rfl rfl ?_
    show Steps p.tables e below (T17.setTop (mkF m 26 #[.val (.int p1), .val (.ref a2), .val (.int p3), .val (.ref b2)] [(.ref b2)])) _
    refine XS.iconst X17.here hx rfl (hb hby d1_26) ?_
    show Steps p.tables e below (T17.setTop (mkF m 27 #[.val (.int p1), .val (.ref a2), .val (.int p3), .val (.ref b2)] [(.int (5 : Int32)), (.ref b2)])) _
    refine XS.iloadN X17.here hx rfl (hb hby d1_27) rfl ?_
    show Steps p.tables e below (T17.setTop (mkF m 28 #[.val (.int p1), .val (.ref a2), .val (.int p3), .val (.ref b2)] [(.int p3), (.int (5 : Int32)), (.ref b2)])) _
    exact k)
  obtain ⟨cl20, Ar20, Sz20, Hf20⟩ := A_b2
  obtain ⟨T20, h20, X20, e20, W20, st20⟩ := stB X17 hx hZ e17 Ar20 (j := (5 : Int32)) (own_inb Sz20 ⟨by decide, by decide⟩) (g := (mkF m 28 #[.val (.int p1), .val (.ref a2), .val (.int p3), .val (.ref b2)] [(.int p3), (.int (5 : Int32)), (.ref b2)])) rfl rfl (hb hby d1_28)
  have A_b2 : own_A Z h20 b2 .byte 8 (own_put (own_put (own_put (own_put (own_put (own_put (fun _ => (0 : Int32)) 0 (nar .byte p3)) 1 (nar .byte p3)) 2 (nar .byte p3)) 3 (nar .byte p3)) 4 (nar .byte p3)) 5 (nar .byte p3)) := own_A.set Ar20 Sz20 Hf20 W20
  have A_a2 := A_a2.other W20 ne_a2_b2
  have K := K.wr W20 (Or.inr sz_b2)
  have Z20 : n0 ≤ h20.size := Nat.le_trans Z17 (Keep.of_wr W20).1
  have N20 := Fr.snoc X20 N17 g_b2
  have pre21 : ∀ t, Steps p.tables e below (T20.setTop (mkF m 29 #[.val (.int p1), .val (.ref a2), .val (.int p3), .val (.ref b2)] [])) t → Steps p.tables e below (s₁.setTop (entryFrame m #[(.int p1), (.ref a2), (.int p3)] 4)) t := fun t k => pre19 t (st20 t k)
  have pre22 : ∀ t, Steps p.tables e below (T20.setTop (mkF m 33 #[.val (.int p1), .val (.ref a2), .val (.int p3), .val (.ref b2)] [(.int p3), (.int (6 : Int32)), (.ref b2)])) t → Steps p.tables e below (s₁.setTop (entryFrame m #[(.int p1), (.ref a2), (.int p3)] 4)) t := fun t k => pre21 t (by
    show Steps p.tables e below (T20.setTop (mkF m 29 #[.val (.int p1), .val (.ref a2), .val (.int p3), .val (.ref b2)] [])) _
    refine XS.aloadN X20.here hx rfl (hb hby d1_29) rfl rfl ?_
    show Steps p.tables e below (T20.setTop (mkF m 30 #[.val (.int p1), .val (.ref a2), .val (.int p3), .val (.ref b2)] [(.ref b2)])) _
    refine XS.bipush X20.here hx rfl (hb hby d1_30) ?_
    show Steps p.tables e below (T20.setTop (mkF m 32 #[.val (.int p1), .val (.ref a2), .val (.int p3), .val (.ref b2)] [(.int (6 : Int32)), (.ref b2)])) _
    refine XS.iloadN X20.here hx rfl (hb hby d1_32) rfl ?_
    show Steps p.tables e below (T20.setTop (mkF m 33 #[.val (.int p1), .val (.ref a2), .val (.int p3), .val (.ref b2)] [(.int p3), (.int (6 : Int32)), (.ref b2)])) _
    exact k)
  obtain ⟨cl23, Ar23, Sz23, Hf23⟩ := A_b2
  obtain ⟨T23, h23, X23, e23, W23, st23⟩ := stB X20 hx hZ e20 Ar23 (j := (6 : Int32)) (own_inb Sz23 ⟨by decide, by decide⟩) (g := (mkF m 33 #[.val (.int p1), .val (.ref a2), .val (.int p3), .val (.ref b2)] [(.int p3), (.int (6 : Int32)), (.ref b2)])) rfl rfl (hb hby d1_33)
  have A_b2 : own_A Z h23 b2 .byte 8 (own_put (own_put (own_put (own_put (own_put (own_put (own_put (fun _ => (0 : Int32)) 0 (nar .byte p3)) 1 (nar .byte p3)) 2 (nar .byte p3)) 3 (nar .byte p3)) 4 (nar .byte p3)) 5 (nar .byte p3)) 6 (nar .byte p3)) := own_A.set Ar23 Sz23 Hf23 W23
  have A_a2 := A_a2.other W23 ne_a2_b2
  have K := K.wr W23 (Or.inr sz_b2)
  have Z23 : n0 ≤ h23.size := Nat.le_trans Z20 (Keep.of_wr W23).1
  have N23 := Fr.snoc X23 N20 g_b2
  have pre24 : ∀ t, Steps p.tables e below (T23.setTop (mkF m 34 #[.val (.int p1), .val (.ref a2), .val (.int p3), .val (.ref b2)] [])) t → Steps p.tables e below (s₁.setTop (entryFrame m #[(.int p1), (.ref a2), (.int p3)] 4)) t := fun t k => pre22 t (st23 t k)
  have pre25 : ∀ t, Steps p.tables e below (T23.setTop (mkF m 38 #[.val (.int p1), .val (.ref a2), .val (.int p3), .val (.ref b2)] [(.int p3), (.int (7 : Int32)), (.ref b2)])) t → Steps p.tables e below (s₁.setTop (entryFrame m #[(.int p1), (.ref a2), (.int p3)] 4)) t := fun t k => pre24 t (by
    show Steps p.tables e below (T23.setTop (mkF m 34 #[.val (.int p1), .val (.ref a2), .val (.int p3), .val (.ref b2)] [])) _
    refine XS.aloadN X23.here hx rfl (hb hby d1_34) rfl rfl ?_
    show Steps p.tables e below (T23.setTop (mkF m 35 #[.val (.int p1), .val (.ref a2), .val (.int p3), .val (.ref b2)] [(.ref b2)])) _
    refine XS.bipush X23.here hx rfl (hb hby d1_35) ?_
    show Steps p.tables e below (T23.setTop (mkF m 37 #[.val (.int p1), .val (.ref a2), .val (.int p3), .val (.ref b2)] [(.int (7 : Int32)), (.ref b2)])) _
    refine XS.iloadN X23.here hx rfl (hb hby d1_37) rfl ?_
    show Steps p.tables e below (T23.setTop (mkF m 38 #[.val (.int p1), .val (.ref a2), .val (.int p3), .val (.ref b2)] [(.int p3), (.int (7 : Int32)), (.ref b2)])) _
    exact k)
  obtain ⟨cl26, Ar26, Sz26, Hf26⟩ := A_b2
  obtain ⟨T26, h26, X26, e26, W26, st26⟩ := stB X23 hx hZ e23 Ar26 (j := (7 : Int32)) (own_inb Sz26 ⟨by decide, by decide⟩) (g := (mkF m 38 #[.val (.int p1), .val (.ref a2), .val (.int p3), .val (.ref b2)] [(.int p3), (.int (7 : Int32)), (.ref b2)])) rfl rfl (hb hby d1_38)
  have A_b2 : own_A Z h26 b2 .byte 8 (own_put (own_put (own_put (own_put (own_put (own_put (own_put (own_put (fun _ => (0 : Int32)) 0 (nar .byte p3)) 1 (nar .byte p3)) 2 (nar .byte p3)) 3 (nar .byte p3)) 4 (nar .byte p3)) 5 (nar .byte p3)) 6 (nar .byte p3)) 7 (nar .byte p3)) := own_A.set Ar26 Sz26 Hf26 W26
  have A_a2 := A_a2.other W26 ne_a2_b2
  have K := K.wr W26 (Or.inr sz_b2)
  have Z26 : n0 ≤ h26.size := Nat.le_trans Z23 (Keep.of_wr W26).1
  have N26 := Fr.snoc X26 N23 g_b2
  have pre27 : ∀ t, Steps p.tables e below (T26.setTop (mkF m 39 #[.val (.int p1), .val (.ref a2), .val (.int p3), .val (.ref b2)] [])) t → Steps p.tables e below (s₁.setTop (entryFrame m #[(.int p1), (.ref a2), (.int p3)] 4)) t := fun t k => pre25 t (st26 t k)
  have pre28 : ∀ t, Steps p.tables e below (T26.setTop (mkF m 43 #[.val (.int p1), .val (.ref a2), .val (.int p3), .val (.ref b2)] [(.int (0 : Int32)), (.ref a2), (.int p1), (.ref b2)])) t → Steps p.tables e below (s₁.setTop (entryFrame m #[(.int p1), (.ref a2), (.int p3)] 4)) t := fun t k => pre27 t (by
    show Steps p.tables e below (T26.setTop (mkF m 39 #[.val (.int p1), .val (.ref a2), .val (.int p3), .val (.ref b2)] [])) _
    refine XS.aloadN X26.here hx rfl (hb hby d1_39) rfl rfl ?_
    show Steps p.tables e below (T26.setTop (mkF m 40 #[.val (.int p1), .val (.ref a2), .val (.int p3), .val (.ref b2)] [(.ref b2)])) _
    refine XS.iloadN X26.here hx rfl (hb hby d1_40) rfl ?_
    show Steps p.tables e below (T26.setTop (mkF m 41 #[.val (.int p1), .val (.ref a2), .val (.int p3), .val (.ref b2)] [(.int p1), (.ref b2)])) _
    refine XS.aloadN X26.here hx rfl (hb hby d1_41) rfl rfl ?_
    show Steps p.tables e below (T26.setTop (mkF m 42 #[.val (.int p1), .val (.ref a2), .val (.int p3), .val (.ref b2)] [(.ref a2), (.int p1), (.ref b2)])) _
    refine XS.iconst X26.here hx rfl (hb hby d1_42) ?_
    show Steps p.tables e below (T26.setTop (mkF m 43 #[.val (.int p1), .val (.ref a2), .val (.int p3), .val (.ref b2)] [(.int (0 : Int32)), (.ref a2), (.int p1), (.ref b2)])) _
    exact k)
  obtain ⟨cl29, Ar29, Sz29, Hf29⟩ := id A_a2
  have hat29 : cl29.slots[((0 : Int32)).toNatClampNeg]? = some (.int (fc 0)) := (Hf29 _ (own_lt_of ⟨by decide, by decide⟩)).trans (congrArg (fun z => some (Value.int z)) rfl)
  have pre30 : ∀ t, Steps p.tables e below (T26.setTop (mkF m 44 #[.val (.int p1), .val (.ref a2), .val (.int p3), .val (.ref b2)] [(.int (fc 0)), (.int p1), (.ref b2)])) t → Steps p.tables e below (s₁.setTop (entryFrame m #[(.int p1), (.ref a2), (.int p3)] 4)) t := fun t k => pre28 t (X26.baloadBytes hx (j := (0 : Int32)) (v := (.int (fc 0))) (by rw [e26]; exact Ar29.1) (State.isArrayOf_alike hZ.alike Ar29.2.1) Ar29.2.2 (own_inb Sz29 ⟨by decide, by decide⟩) hat29 (g := (mkF m 43 #[.val (.int p1), .val (.ref a2), .val (.int p3), .val (.ref b2)] [(.int (0 : Int32)), (.ref a2), (.int p1), (.ref b2)])) rfl rfl (hb hby d1_43) _ k)
  obtain ⟨cl31, Ar31, Sz31, Hf31⟩ := A_b2
  obtain ⟨T31, h31, X31, e31, W31, st31⟩ := stB X26 hx hZ e26 Ar31 (j := p1) (own_inb Sz31 (own_pin0 hp)) (g := (mkF m 44 #[.val (.int p1), .val (.ref a2), .val (.int p3), .val (.ref b2)] [(.int (fc 0)), (.int p1), (.ref b2)])) rfl rfl (hb hby d1_44)
  have A_b2 : own_A Z h31 b2 .byte 8 (own_put (own_put (own_put (own_put (own_put (own_put (own_put (own_put (own_put (fun _ => (0 : Int32)) 0 (nar .byte p3)) 1 (nar .byte p3)) 2 (nar .byte p3)) 3 (nar .byte p3)) 4 (nar .byte p3)) 5 (nar .byte p3)) 6 (nar .byte p3)) 7 (nar .byte p3)) (p1).toNatClampNeg (nar .byte (fc 0))) := own_A.set Ar31 Sz31 Hf31 W31
  have A_a2 := A_a2.other W31 ne_a2_b2
  have K := K.wr W31 (Or.inr sz_b2)
  have Z31 : n0 ≤ h31.size := Nat.le_trans Z26 (Keep.of_wr W31).1
  have N31 := Fr.snoc X31 N26 g_b2
  have pre32 : ∀ t, Steps p.tables e below (T31.setTop (mkF m 45 #[.val (.int p1), .val (.ref a2), .val (.int p3), .val (.ref b2)] [])) t → Steps p.tables e below (s₁.setTop (entryFrame m #[(.int p1), (.ref a2), (.int p3)] 4)) t := fun t k => pre30 t (st31 t k)
  have pre33 : ∀ t, Steps p.tables e below (T31.setTop (mkF m 51 #[.val (.int p1), .val (.ref a2), .val (.int p3), .val (.ref b2)] [(.int (1 : Int32)), (.ref a2), (.int (p1 + (1 : Int32))), (.ref b2)])) t → Steps p.tables e below (s₁.setTop (entryFrame m #[(.int p1), (.ref a2), (.int p3)] 4)) t := fun t k => pre32 t (by
    show Steps p.tables e below (T31.setTop (mkF m 45 #[.val (.int p1), .val (.ref a2), .val (.int p3), .val (.ref b2)] [])) _
    refine XS.aloadN X31.here hx rfl (hb hby d1_45) rfl rfl ?_
    show Steps p.tables e below (T31.setTop (mkF m 46 #[.val (.int p1), .val (.ref a2), .val (.int p3), .val (.ref b2)] [(.ref b2)])) _
    refine XS.iloadN X31.here hx rfl (hb hby d1_46) rfl ?_
    show Steps p.tables e below (T31.setTop (mkF m 47 #[.val (.int p1), .val (.ref a2), .val (.int p3), .val (.ref b2)] [(.int p1), (.ref b2)])) _
    refine XS.iconst X31.here hx rfl (hb hby d1_47) ?_
    show Steps p.tables e below (T31.setTop (mkF m 48 #[.val (.int p1), .val (.ref a2), .val (.int p3), .val (.ref b2)] [(.int (1 : Int32)), (.int p1), (.ref b2)])) _
    refine XS.iadd X31.here hx rfl (hb hby d1_48) rfl ?_
    show Steps p.tables e below (T31.setTop (mkF m 49 #[.val (.int p1), .val (.ref a2), .val (.int p3), .val (.ref b2)] [(.int (p1 + (1 : Int32))), (.ref b2)])) _
    refine XS.aloadN X31.here hx rfl (hb hby d1_49) rfl rfl ?_
    show Steps p.tables e below (T31.setTop (mkF m 50 #[.val (.int p1), .val (.ref a2), .val (.int p3), .val (.ref b2)] [(.ref a2), (.int (p1 + (1 : Int32))), (.ref b2)])) _
    refine XS.iconst X31.here hx rfl (hb hby d1_50) ?_
    show Steps p.tables e below (T31.setTop (mkF m 51 #[.val (.int p1), .val (.ref a2), .val (.int p3), .val (.ref b2)] [(.int (1 : Int32)), (.ref a2), (.int (p1 + (1 : Int32))), (.ref b2)])) _
    exact k)
  obtain ⟨cl34, Ar34, Sz34, Hf34⟩ := id A_a2
  have hat34 : cl34.slots[((1 : Int32)).toNatClampNeg]? = some (.int (fc 1)) := (Hf34 _ (own_lt_of ⟨by decide, by decide⟩)).trans (congrArg (fun z => some (Value.int z)) rfl)
  have pre35 : ∀ t, Steps p.tables e below (T31.setTop (mkF m 52 #[.val (.int p1), .val (.ref a2), .val (.int p3), .val (.ref b2)] [(.int (fc 1)), (.int (p1 + (1 : Int32))), (.ref b2)])) t → Steps p.tables e below (s₁.setTop (entryFrame m #[(.int p1), (.ref a2), (.int p3)] 4)) t := fun t k => pre33 t (X31.baloadBytes hx (j := (1 : Int32)) (v := (.int (fc 1))) (by rw [e31]; exact Ar34.1) (State.isArrayOf_alike hZ.alike Ar34.2.1) Ar34.2.2 (own_inb Sz34 ⟨by decide, by decide⟩) hat34 (g := (mkF m 51 #[.val (.int p1), .val (.ref a2), .val (.int p3), .val (.ref b2)] [(.int (1 : Int32)), (.ref a2), (.int (p1 + (1 : Int32))), (.ref b2)])) rfl rfl (hb hby d1_51) _ k)
  obtain ⟨cl36, Ar36, Sz36, Hf36⟩ := A_b2
  obtain ⟨T36, h36, X36, e36, W36, st36⟩ := stB X31 hx hZ e31 Ar36 (j := (p1 + (1 : Int32))) (own_inb Sz36 (own_pin hp ⟨by decide, by decide⟩)) (g := (mkF m 52 #[.val (.int p1), .val (.ref a2), .val (.int p3), .val (.ref b2)] [(.int (fc 1)), (.int (p1 + (1 : Int32))), (.ref b2)])) rfl rfl (hb hby d1_52)
  have A_b2 : own_A Z h36 b2 .byte 8 (own_put (own_put (own_put (own_put (own_put (own_put (own_put (own_put (own_put (own_put (fun _ => (0 : Int32)) 0 (nar .byte p3)) 1 (nar .byte p3)) 2 (nar .byte p3)) 3 (nar .byte p3)) 4 (nar .byte p3)) 5 (nar .byte p3)) 6 (nar .byte p3)) 7 (nar .byte p3)) (p1).toNatClampNeg (nar .byte (fc 0))) ((p1 + (1 : Int32))).toNatClampNeg (nar .byte (fc 1))) := own_A.set Ar36 Sz36 Hf36 W36
  have A_a2 := A_a2.other W36 ne_a2_b2
  have K := K.wr W36 (Or.inr sz_b2)
  have Z36 : n0 ≤ h36.size := Nat.le_trans Z31 (Keep.of_wr W36).1
  have N36 := Fr.snoc X36 N31 g_b2
  have pre37 : ∀ t, Steps p.tables e below (T36.setTop (mkF m 53 #[.val (.int p1), .val (.ref a2), .val (.int p3), .val (.ref b2)] [])) t → Steps p.tables e below (s₁.setTop (entryFrame m #[(.int p1), (.ref a2), (.int p3)] 4)) t := fun t k => pre35 t (st36 t k)
  have pre38 : ∀ t, Steps p.tables e below (T36.setTop (mkF m 59 #[.val (.int p1), .val (.ref a2), .val (.int p3), .val (.ref b2)] [(.int (2 : Int32)), (.ref a2), (.int (p1 + (2 : Int32))), (.ref b2)])) t → Steps p.tables e below (s₁.setTop (entryFrame m #[(.int p1), (.ref a2), (.int p3)] 4)) t := fun t k => pre37 t (by
    show Steps p.tables e below (T36.setTop (mkF m 53 #[.val (.int p1), .val (.ref a2), .val (.int p3), .val (.ref b2)] [])) _
    refine XS.aloadN X36.here hx rfl (hb hby d1_53) rfl rfl ?_
    show Steps p.tables e below (T36.setTop (mkF m 54 #[.val (.int p1), .val (.ref a2), .val (.int p3), .val (.ref b2)] [(.ref b2)])) _
    refine XS.iloadN X36.here hx rfl (hb hby d1_54) rfl ?_
    show Steps p.tables e below (T36.setTop (mkF m 55 #[.val (.int p1), .val (.ref a2), .val (.int p3), .val (.ref b2)] [(.int p1), (.ref b2)])) _
    refine XS.iconst X36.here hx rfl (hb hby d1_55) ?_
    show Steps p.tables e below (T36.setTop (mkF m 56 #[.val (.int p1), .val (.ref a2), .val (.int p3), .val (.ref b2)] [(.int (2 : Int32)), (.int p1), (.ref b2)])) _
    refine XS.iadd X36.here hx rfl (hb hby d1_56) rfl ?_
    show Steps p.tables e below (T36.setTop (mkF m 57 #[.val (.int p1), .val (.ref a2), .val (.int p3), .val (.ref b2)] [(.int (p1 + (2 : Int32))), (.ref b2)])) _
    refine XS.aloadN X36.here hx rfl (hb hby d1_57) rfl rfl ?_
    show Steps p.tables e below (T36.setTop (mkF m 58 #[.val (.int p1), .val (.ref a2), .val (.int p3), .val (.ref b2)] [(.ref a2), (.int (p1 + (2 : Int32))), (.ref b2)])) _
    refine XS.iconst X36.here hx rfl (hb hby d1_58) ?_
    show Steps p.tables e below (T36.setTop (mkF m 59 #[.val (.int p1), .val (.ref a2), .val (.int p3), .val (.ref b2)] [(.int (2 : Int32)), (.ref a2), (.int (p1 + (2 : Int32))), (.ref b2)])) _
    exact k)
  obtain ⟨cl39, Ar39, Sz39, Hf39⟩ := id A_a2
  have hat39 : cl39.slots[((2 : Int32)).toNatClampNeg]? = some (.int (fc 2)) := (Hf39 _ (own_lt_of ⟨by decide, by decide⟩)).trans (congrArg (fun z => some (Value.int z)) rfl)
  have pre40 : ∀ t, Steps p.tables e below (T36.setTop (mkF m 60 #[.val (.int p1), .val (.ref a2), .val (.int p3), .val (.ref b2)] [(.int (fc 2)), (.int (p1 + (2 : Int32))), (.ref b2)])) t → Steps p.tables e below (s₁.setTop (entryFrame m #[(.int p1), (.ref a2), (.int p3)] 4)) t := fun t k => pre38 t (X36.baloadBytes hx (j := (2 : Int32)) (v := (.int (fc 2))) (by rw [e36]; exact Ar39.1) (State.isArrayOf_alike hZ.alike Ar39.2.1) Ar39.2.2 (own_inb Sz39 ⟨by decide, by decide⟩) hat39 (g := (mkF m 59 #[.val (.int p1), .val (.ref a2), .val (.int p3), .val (.ref b2)] [(.int (2 : Int32)), (.ref a2), (.int (p1 + (2 : Int32))), (.ref b2)])) rfl rfl (hb hby d1_59) _ k)
  obtain ⟨cl41, Ar41, Sz41, Hf41⟩ := A_b2
  obtain ⟨T41, h41, X41, e41, W41, st41⟩ := stB X36 hx hZ e36 Ar41 (j := (p1 + (2 : Int32))) (own_inb Sz41 (own_pin hp ⟨by decide, by decide⟩)) (g := (mkF m 60 #[.val (.int p1), .val (.ref a2), .val (.int p3), .val (.ref b2)] [(.int (fc 2)), (.int (p1 + (2 : Int32))), (.ref b2)])) rfl rfl (hb hby d1_60)
  have A_b2 : own_A Z h41 b2 .byte 8 (own_put (own_put (own_put (own_put (own_put (own_put (own_put (own_put (own_put (own_put (own_put (fun _ => (0 : Int32)) 0 (nar .byte p3)) 1 (nar .byte p3)) 2 (nar .byte p3)) 3 (nar .byte p3)) 4 (nar .byte p3)) 5 (nar .byte p3)) 6 (nar .byte p3)) 7 (nar .byte p3)) (p1).toNatClampNeg (nar .byte (fc 0))) ((p1 + (1 : Int32))).toNatClampNeg (nar .byte (fc 1))) ((p1 + (2 : Int32))).toNatClampNeg (nar .byte (fc 2))) := own_A.set Ar41 Sz41 Hf41 W41
  have A_a2 := A_a2.other W41 ne_a2_b2
  have K := K.wr W41 (Or.inr sz_b2)
  have Z41 : n0 ≤ h41.size := Nat.le_trans Z36 (Keep.of_wr W41).1
  have N41 := Fr.snoc X41 N36 g_b2
  have pre42 : ∀ t, Steps p.tables e below (T41.setTop (mkF m 61 #[.val (.int p1), .val (.ref a2), .val (.int p3), .val (.ref b2)] [])) t → Steps p.tables e below (s₁.setTop (entryFrame m #[(.int p1), (.ref a2), (.int p3)] 4)) t := fun t k => pre40 t (st41 t k)
  have pre43 : ∀ t, Steps p.tables e below (T41.setTop (mkF m 67 #[.val (.int p1), .val (.ref a2), .val (.int p3), .val (.ref b2)] [(.int (3 : Int32)), (.ref a2), (.int (p1 + (3 : Int32))), (.ref b2)])) t → Steps p.tables e below (s₁.setTop (entryFrame m #[(.int p1), (.ref a2), (.int p3)] 4)) t := fun t k => pre42 t (by
    show Steps p.tables e below (T41.setTop (mkF m 61 #[.val (.int p1), .val (.ref a2), .val (.int p3), .val (.ref b2)] [])) _
    refine XS.aloadN X41.here hx rfl (hb hby d1_61) rfl rfl ?_
    show Steps p.tables e below (T41.setTop (mkF m 62 #[.val (.int p1), .val (.ref a2), .val (.int p3), .val (.ref b2)] [(.ref b2)])) _
    refine XS.iloadN X41.here hx rfl (hb hby d1_62) rfl ?_
    show Steps p.tables e below (T41.setTop (mkF m 63 #[.val (.int p1), .val (.ref a2), .val (.int p3), .val (.ref b2)] [(.int p1), (.ref b2)])) _
    refine XS.iconst X41.here hx rfl (hb hby d1_63) ?_
    show Steps p.tables e below (T41.setTop (mkF m 64 #[.val (.int p1), .val (.ref a2), .val (.int p3), .val (.ref b2)] [(.int (3 : Int32)), (.int p1), (.ref b2)])) _
    refine XS.iadd X41.here hx rfl (hb hby d1_64) rfl ?_
    show Steps p.tables e below (T41.setTop (mkF m 65 #[.val (.int p1), .val (.ref a2), .val (.int p3), .val (.ref b2)] [(.int (p1 + (3 : Int32))), (.ref b2)])) _
    refine XS.aloadN X41.here hx rfl (hb hby d1_65) rfl rfl ?_
    show Steps p.tables e below (T41.setTop (mkF m 66 #[.val (.int p1), .val (.ref a2), .val (.int p3), .val (.ref b2)] [(.ref a2), (.int (p1 + (3 : Int32))), (.ref b2)])) _
    refine XS.iconst X41.here hx rfl (hb hby d1_66) ?_
    show Steps p.tables e below (T41.setTop (mkF m 67 #[.val (.int p1), .val (.ref a2), .val (.int p3), .val (.ref b2)] [(.int (3 : Int32)), (.ref a2), (.int (p1 + (3 : Int32))), (.ref b2)])) _
    exact k)
  obtain ⟨cl44, Ar44, Sz44, Hf44⟩ := id A_a2
  have hat44 : cl44.slots[((3 : Int32)).toNatClampNeg]? = some (.int (fc 3)) := (Hf44 _ (own_lt_of ⟨by decide, by decide⟩)).trans (congrArg (fun z => some (Value.int z)) rfl)
  have pre45 : ∀ t, Steps p.tables e below (T41.setTop (mkF m 68 #[.val (.int p1), .val (.ref a2), .val (.int p3), .val (.ref b2)] [(.int (fc 3)), (.int (p1 + (3 : Int32))), (.ref b2)])) t → Steps p.tables e below (s₁.setTop (entryFrame m #[(.int p1), (.ref a2), (.int p3)] 4)) t := fun t k => pre43 t (X41.baloadBytes hx (j := (3 : Int32)) (v := (.int (fc 3))) (by rw [e41]; exact Ar44.1) (State.isArrayOf_alike hZ.alike Ar44.2.1) Ar44.2.2 (own_inb Sz44 ⟨by decide, by decide⟩) hat44 (g := (mkF m 67 #[.val (.int p1), .val (.ref a2), .val (.int p3), .val (.ref b2)] [(.int (3 : Int32)), (.ref a2), (.int (p1 + (3 : Int32))), (.ref b2)])) rfl rfl (hb hby d1_67) _ k)
  obtain ⟨cl46, Ar46, Sz46, Hf46⟩ := A_b2
  obtain ⟨T46, h46, X46, e46, W46, st46⟩ := stB X41 hx hZ e41 Ar46 (j := (p1 + (3 : Int32))) (own_inb Sz46 (own_pin hp ⟨by decide, by decide⟩)) (g := (mkF m 68 #[.val (.int p1), .val (.ref a2), .val (.int p3), .val (.ref b2)] [(.int (fc 3)), (.int (p1 + (3 : Int32))), (.ref b2)])) rfl rfl (hb hby d1_68)
  have A_b2 : own_A Z h46 b2 .byte 8 (own_put (own_put (own_put (own_put (own_put (own_put (own_put (own_put (own_put (own_put (own_put (own_put (fun _ => (0 : Int32)) 0 (nar .byte p3)) 1 (nar .byte p3)) 2 (nar .byte p3)) 3 (nar .byte p3)) 4 (nar .byte p3)) 5 (nar .byte p3)) 6 (nar .byte p3)) 7 (nar .byte p3)) (p1).toNatClampNeg (nar .byte (fc 0))) ((p1 + (1 : Int32))).toNatClampNeg (nar .byte (fc 1))) ((p1 + (2 : Int32))).toNatClampNeg (nar .byte (fc 2))) ((p1 + (3 : Int32))).toNatClampNeg (nar .byte (fc 3))) := own_A.set Ar46 Sz46 Hf46 W46
  have A_a2 := A_a2.other W46 ne_a2_b2
  have K := K.wr W46 (Or.inr sz_b2)
  have Z46 : n0 ≤ h46.size := Nat.le_trans Z41 (Keep.of_wr W46).1
  have N46 := Fr.snoc X46 N41 g_b2
  have pre47 : ∀ t, Steps p.tables e below (T46.setTop (mkF m 69 #[.val (.int p1), .val (.ref a2), .val (.int p3), .val (.ref b2)] [])) t → Steps p.tables e below (s₁.setTop (entryFrame m #[(.int p1), (.ref a2), (.int p3)] 4)) t := fun t k => pre45 t (st46 t k)
  have A_b2 : own_A Z h46 b2 .byte 8 (own_pl fc p1.toInt.toNat p3) := own_A.congr A_b2 (own_pls fc p3 hp)
  have pre48 : ∀ t, Steps p.tables e below (T46.setTop (mkF m 70 #[.val (.int p1), .val (.ref a2), .val (.int p3), .val (.ref b2)] [(.ref b2)])) t → Steps p.tables e below (s₁.setTop (entryFrame m #[(.int p1), (.ref a2), (.int p3)] 4)) t := fun t k => pre47 t (by
    show Steps p.tables e below (T46.setTop (mkF m 69 #[.val (.int p1), .val (.ref a2), .val (.int p3), .val (.ref b2)] [])) _
    refine XS.aloadN X46.here hx rfl (hb hby d1_69) rfl rfl ?_
    show Steps p.tables e below (T46.setTop (mkF m 70 #[.val (.int p1), .val (.ref a2), .val (.int p3), .val (.ref b2)] [(.ref b2)])) _
    exact k)
  obtain ⟨fs, hr, hrun, hended, hW, hsame⟩ := X46.leave (v := some (.ref b2)) (fun h => by rw [Bd.returns] at h; cases h) hlk
  refine ⟨_, _, pre48 _ ?_, hrun, hended, _, _, rfl, ?_, ⟨_, rfl⟩, hW, hsame.mono (by decide) (by decide)⟩
  · show Steps p.tables e below (T46.setTop (mkF m 70 #[.val (.int p1), .val (.ref a2), .val (.int p3), .val (.ref b2)] [(.ref b2)])) _
    jvm_step X46.here [X46.here.top, hx, (hb hby d1_70), X46.method', Bd.returns, Value.isRef, FieldType.isReference]
    first | (intro acts; rw [hr _ acts rfl rfl rfl]) | rw [hr _ _ rfl rfl rfl]
    exact Steps.refl _
  · show QPl Z p1 a2 p3 fc h0 n0 _ T46.heap _
    rw [e46]
    exact ⟨congrArg (fun z => some (Value.ref z)) g2, N46, K, (g2 ▸ A_b2)⟩
theorem d3_0 : decode prog_19_method_1_code 0 = .ok (.aload_n 0, 1) := by decide +kernel
theorem d3_1 : decode prog_19_method_1_code 1 = .ok (.invokespecial 1, 3) := by decide +kernel
theorem d3_4 : decode prog_19_method_1_code 4 = .ok (.return_, 1) := by decide +kernel
theorem pn_Piece : plainName "com/example/canonbyte/canonbyte/codec/Piece" = true := by first | (simp [plainName, overriddenIn]; done) | decide +kernel
theorem ef_3 (m : MethodId) (a : Addr) : entryFrame m #[(.ref a)] 1 = mkF m 0 #[.val (.ref a)] [] := by first | (simp [entryFrame, mkF, argsToLocals, Value.category]; done) | rfl
def QPI (Z : State) (a : Addr) (h0 : Heap) (n0 : Nat) (v : Option Value) (h : Heap) (L : List Loc) : Prop := v = none ∧ Fr n0 L ∧ h = h0
set_option maxRecDepth 65536 in
set_option maxHeartbeats 40000000 in
theorem rmPI (l : Launch) (Z : State) (a0 : Array Value) (hw : ∀ d ∈ tables_1, d.before a0 Z = true) (ws : List Jvm.Cond) (a : Addr) (h0 : Heap) (n0 : Nat) (Z0 : n0 ≤ h0.size) :
    MetFree l (⟨"com/example/canonbyte/canonbyte/codec/Piece", "<init>", "()V"⟩ : MethodName) (head1 (Jvm.Cond.code (⟨"com/example/canonbyte/canonbyte/codec/Piece", "<init>", "()V"⟩ : MethodName) prog_19_method_1_code 1 none :: ws) ({ frames := 1, cells := 0, slots := 0, locals := 12 } : Room)) (fun aa U => aa = #[(.ref a)] ∧ Z.Warmed39 U.vm ∧ U.heap = h0) (fun _ _ _ _ _ => True) (fun _ U o U' => ∃ v L, o = .returned v ∧ QPI Z a h0 n0 v U'.heap L ∧ FrameEnd U o U' L ({ frames := 1, cells := 0, slots := 0, locals := 12 } : Room).cells ({ frames := 1, cells := 0, slots := 0, locals := 12 } : Room).slots) := by
  refine MetFree.of_bodySF (plainFor_of_name pn_Piece) hisR ?_
  intro p e s m args below meth c s₁ Bd hml0 hP hK
  obtain ⟨rfl, hZ, hh⟩ := hP
  have hx := Bd.exec
  have hby := Bd.bytes
  have hml : c.maxLocals = 1 := hml0
  have hown : s.vm.findClass "com/example/canonbyte/canonbyte/codec/Piece" = some m.cls := findClass_of_methodNamed Bd.named
  have hnm := (name_of_methodNamed Bd.named Bd.method).1
  have X0 : Stand p l e ({ frames := 1, cells := 0, slots := 0, locals := 12 } : Room) s m #[(.ref a)] below meth c s₁ [] 0 0 := Stand.of_body Bd
  have e0 : s₁.heap = h0 := by rw [← hh, Bd.state]; rfl
  have N0 := Fr.nil n0
  have hlk : meth.locks = false := by first | exact BodyLoose.notSynchronized Bd | exact Body.notSynchronized Bd
  have pre0 : ∀ t, Steps p.tables e below (s₁.setTop (mkF m 0 #[.val (.ref a)] [])) t → Steps p.tables e below (s₁.setTop (entryFrame m #[(.ref a)] 1)) t := fun t k => castTop (ef_3 m a) k
  have pre1 : ∀ t, Steps p.tables e below (s₁.setTop (mkF m 1 #[.val (.ref a)] [(.ref a)])) t → Steps p.tables e below (s₁.setTop (entryFrame m #[(.ref a)] 1)) t := fun t k => pre0 t (by
    show Steps p.tables e below (s₁.setTop (mkF m 0 #[.val (.ref a)] [])) _
    refine XS.aloadN X0.here hx rfl (hb hby d3_0) rfl rfl ?_
    show Steps p.tables e below (s₁.setTop (mkF m 1 #[.val (.ref a)] [(.ref a)])) _
    exact k)
  obtain ⟨T2, X2, e2, st2⟩ := initO X0 hx hZ hown (hw _ (List.mem_of_getElem? (i := 17) rfl)) (hw _ (List.mem_of_getElem? (i := 18) rfl)) (hw _ (List.mem_of_getElem? (i := 19) rfl)) e0 (g := (mkF m 1 #[.val (.ref a)] [(.ref a)])) rfl (by rw [hml]; rfl) rfl (hb hby d3_1) (by decide) (W := 0) (by show 2 * 0 + _ ≤ _; exact Nat.le_of_eq rfl) (by decide)
  have pre3 : ∀ t, Steps p.tables e below (T2.setTop (mkF m 4 #[.val (.ref a)] [])) t → Steps p.tables e below (s₁.setTop (entryFrame m #[(.ref a)] 1)) t := fun t k => pre1 t (st2 t k)
  obtain ⟨fs, hr, hrun, hended, hW, hsame⟩ := X2.leave (v := none) (fun _ => rfl) hlk
  refine ⟨_, _, pre3 _ ?_, hrun, hended, _, _, rfl, ?_, ⟨_, rfl⟩, hW, hsame.mono (by decide) (by decide)⟩
  · show Steps p.tables e below (T2.setTop (mkF m 4 #[.val (.ref a)] [])) _
    exact X2.returnOut hx Bd.returns (hb hby d3_4) hr
  · show QPI Z a h0 n0 _ T2.heap _
    rw [e2]
    exact ⟨rfl, N0, rfl⟩
theorem pd_2 : parseMethodDescriptor "()V" = some ⟨[], none⟩ := by decide +kernel
theorem d2_0 : decode prog_21_method_1_code 0 = .ok (.aload_n 0, 1) := by decide +kernel
theorem d2_1 : decode prog_21_method_1_code 1 = .ok (.invokespecial 1, 3) := by decide +kernel
theorem d2_4 : decode prog_21_method_1_code 4 = .ok (.aload_n 0, 1) := by decide +kernel
theorem d2_5 : decode prog_21_method_1_code 5 = .ok (.aload_n 1, 1) := by decide +kernel
theorem d2_6 : decode prog_21_method_1_code 6 = .ok (.putfield 7, 3) := by decide +kernel
theorem d2_9 : decode prog_21_method_1_code 9 = .ok (.aload_n 0, 1) := by decide +kernel
theorem d2_10 : decode prog_21_method_1_code 10 = .ok (.iload_n 2, 1) := by decide +kernel
theorem d2_11 : decode prog_21_method_1_code 11 = .ok (.putfield 13, 3) := by decide +kernel
theorem d2_14 : decode prog_21_method_1_code 14 = .ok (.aload_n 0, 1) := by decide +kernel
theorem d2_15 : decode prog_21_method_1_code 15 = .ok (.iload_n 3, 1) := by decide +kernel
theorem d2_16 : decode prog_21_method_1_code 16 = .ok (.putfield 17, 3) := by decide +kernel
theorem d2_19 : decode prog_21_method_1_code 19 = .ok (.return_, 1) := by decide +kernel
theorem pn_Piece_Run : plainName "com/example/canonbyte/canonbyte/codec/Piece$Run" = true := by first | (simp [plainName, overriddenIn]; done) | decide +kernel
theorem ef_2 (m : MethodId) (a : Addr) (r1 : Addr) (p2 : Int32) (p3 : Int32) : entryFrame m #[(.ref a), (.ref r1), (.int p2), (.int p3)] 4 = mkF m 0 #[.val (.ref a), .val (.ref r1), .val (.int p2), .val (.int p3)] [] := by first | (simp [entryFrame, mkF, argsToLocals, Value.category]; done) | rfl
def QRI (Z : State) (a : Addr) (r1 : Addr) (p2 : Int32) (p3 : Int32) (h0 : Heap) (n0 : Nat) (v : Option Value) (h : Heap) (L : List Loc) : Prop := v = none ∧ Fr n0 L ∧ Keep h0 h [a] ∧ Fld Z h a "com/example/canonbyte/canonbyte/codec/Piece$Run" "bytes" "[B" (.ref r1) ∧ Fld Z h a "com/example/canonbyte/canonbyte/codec/Piece$Run" "start" "I" (.int p2) ∧ Fld Z h a "com/example/canonbyte/canonbyte/codec/Piece$Run" "end" "I" (.int p3)
set_option maxRecDepth 65536 in
set_option maxHeartbeats 40000000 in
theorem rmRI (l : Launch) (Z : State) (a0 : Array Value) (hw : ∀ d ∈ tables_1, d.before a0 Z = true) (ws : List Jvm.Cond) (a : Addr) (r1 : Addr) (p2 : Int32) (p3 : Int32) (h0 : Heap) (n0 : Nat) (Z0 : n0 ≤ h0.size) (E_a : Exa Z h0 a "com/example/canonbyte/canonbyte/codec/Piece$Run") (F_a_bytes : Fld Z h0 a "com/example/canonbyte/canonbyte/codec/Piece$Run" "bytes" "[B" .null) (F_a_start : Fld Z h0 a "com/example/canonbyte/canonbyte/codec/Piece$Run" "start" "I" (.int (0 : Int32))) (F_a_end : Fld Z h0 a "com/example/canonbyte/canonbyte/codec/Piece$Run" "end" "I" (.int (0 : Int32))) (g_a : n0 ≤ a) :
    MetFree l (⟨"com/example/canonbyte/canonbyte/codec/Piece$Run", "<init>", "([BII)V"⟩ : MethodName) (head1 (Jvm.Cond.code (⟨"com/example/canonbyte/canonbyte/codec/Piece$Run", "<init>", "([BII)V"⟩ : MethodName) prog_21_method_1_code 4 none :: ws) ({ frames := 2, cells := 0, slots := 0, locals := 24 } : Room)) (fun aa U => aa = #[(.ref a), (.ref r1), (.int p2), (.int p3)] ∧ Z.Warmed39 U.vm ∧ U.heap = h0) (fun _ _ _ _ _ => True) (fun _ U o U' => ∃ v L, o = .returned v ∧ QRI Z a r1 p2 p3 h0 n0 v U'.heap L ∧ FrameEnd U o U' L ({ frames := 2, cells := 0, slots := 0, locals := 24 } : Room).cells ({ frames := 2, cells := 0, slots := 0, locals := 24 } : Room).slots) := by
  refine MetFree.of_bodySF (plainFor_of_name pn_Piece_Run) hisR ?_
  intro p e s m args below meth c s₁ Bd hml0 hP hK
  obtain ⟨rfl, hZ, hh⟩ := hP
  have hx := Bd.exec
  have hby := Bd.bytes
  have hml : c.maxLocals = 4 := hml0
  have hown : s.vm.findClass "com/example/canonbyte/canonbyte/codec/Piece$Run" = some m.cls := findClass_of_methodNamed Bd.named
  have hnm := (name_of_methodNamed Bd.named Bd.method).1
  have X0 : Stand p l e ({ frames := 2, cells := 0, slots := 0, locals := 24 } : Room) s m #[(.ref a), (.ref r1), (.int p2), (.int p3)] below meth c s₁ [] 0 0 := Stand.of_body Bd
  have e0 : s₁.heap = h0 := by rw [← hh, Bd.state]; rfl
  have N0 := Fr.nil n0
  have hlk : meth.locks = false := by first | exact BodyLoose.notSynchronized Bd | exact Body.notSynchronized Bd
  have pre0 : ∀ t, Steps p.tables e below (s₁.setTop (mkF m 0 #[.val (.ref a), .val (.ref r1), .val (.int p2), .val (.int p3)] [])) t → Steps p.tables e below (s₁.setTop (entryFrame m #[(.ref a), (.ref r1), (.int p2), (.int p3)] 4)) t := fun t k => castTop (ef_2 m a r1 p2 p3) k
  have K : Keep h0 h0 [a] := Keep.refl _ _
  have pre1 : ∀ t, Steps p.tables e below (s₁.setTop (mkF m 1 #[.val (.ref a), .val (.ref r1), .val (.int p2), .val (.int p3)] [(.ref a)])) t → Steps p.tables e below (s₁.setTop (entryFrame m #[(.ref a), (.ref r1), (.int p2), (.int p3)] 4)) t := fun t k => pre0 t (by
    show Steps p.tables e below (s₁.setTop (mkF m 0 #[.val (.ref a), .val (.ref r1), .val (.int p2), .val (.int p3)] [])) _
    refine XS.aloadN X0.here hx rfl (hb hby d2_0) rfl rfl ?_
    show Steps p.tables e below (s₁.setTop (mkF m 1 #[.val (.ref a), .val (.ref r1), .val (.int p2), .val (.int p3)] [(.ref a)])) _
    exact k)
  obtain ⟨_, _, ⟨T2, L2, k2, n2⟩, -, X2, ⟨Lc2, hQ2, l2, y2, z2⟩, st2⟩ := X0.specialBackNest hx (y := (⟨"com/example/canonbyte/canonbyte/codec/Piece", "<init>", "()V"⟩ : MethodName)) rfl hown (own_mvMN hZ (hw _ (List.mem_of_getElem? (i := 12) rfl))) (mvT hZ (hw _ (List.mem_of_getElem? (i := 13) rfl))) (mvT hZ (hw _ (List.mem_of_getElem? (i := 16) rfl))) (by decide) (backOf (W := 0) (rmPI l Z a0 hw [] a h0 n0 Z0) hZ (hw _ (List.mem_of_getElem? (i := 16) rfl)) (hw _ (List.mem_of_getElem? (i := 15) rfl)) (by decide) (by decide)) (g := (mkF m 1 #[.val (.ref a), .val (.ref r1), .val (.int p2), .val (.int p3)] [(.ref a)])) rfl (by rw [hml]; rfl) (Steps.refl _) (a := a) (argsL := []) (rest := []) (lenOf pd_2 rfl) rfl (by show 2 * 0 + _ ≤ _; exact Nat.le_of_eq rfl) (hb hby d2_1) (fun _ _ => ⟨rfl, e0, (by decide : 0 + 0 ≤ _), (by decide : 0 + 0 ≤ _)⟩)
  dsimp only [Pt.U, Pt.locs, Pt.cells, Pt.slots] at X2 l2 y2 z2 st2 hQ2
  subst l2 y2 z2
  obtain ⟨rfl, N2q, e2⟩ := hQ2
  have N2 := Fr.app N0 N2q
  have pre3 : ∀ t, Steps p.tables e below (T2.setTop (mkF m 4 #[.val (.ref a), .val (.ref r1), .val (.int p2), .val (.int p3)] [])) t → Steps p.tables e below (s₁.setTop (entryFrame m #[(.ref a), (.ref r1), (.int p2), (.int p3)] 4)) t := fun t k => pre1 t (st2.trans k)
  have pre4 : ∀ t, Steps p.tables e below (T2.setTop (mkF m 6 #[.val (.ref a), .val (.ref r1), .val (.int p2), .val (.int p3)] [(.ref r1), (.ref a)])) t → Steps p.tables e below (s₁.setTop (entryFrame m #[(.ref a), (.ref r1), (.int p2), (.int p3)] 4)) t := fun t k => pre3 t (by
    show Steps p.tables e below (T2.setTop (mkF m 4 #[.val (.ref a), .val (.ref r1), .val (.int p2), .val (.int p3)] [])) _
    refine XS.aloadN X2.here hx rfl (hb hby d2_4) rfl rfl ?_
    show Steps p.tables e below (T2.setTop (mkF m 5 #[.val (.ref a), .val (.ref r1), .val (.int p2), .val (.int p3)] [(.ref a)])) _
    refine XS.aloadN X2.here hx rfl (hb hby d2_5) rfl rfl ?_
    show Steps p.tables e below (T2.setTop (mkF m 6 #[.val (.ref a), .val (.ref r1), .val (.int p2), .val (.int p3)] [(.ref r1), (.ref a)])) _
    exact k)
  obtain ⟨T5, h5, X5, e5, W5, st5⟩ := putF X2 hx hZ hown (host := "") (Or.inl (hw _ (List.mem_of_getElem? (i := 20) rfl))) Via.refl e2 F_a_bytes E_a (Or.inl (hw _ (List.mem_of_getElem? (i := 21) rfl))) (hw _ (List.mem_of_getElem? (i := 7) rfl)) (ty := (.array .byte)) (by decide) rfl rfl (g := (mkF m 6 #[.val (.ref a), .val (.ref r1), .val (.int p2), .val (.int p3)] [(.ref r1), (.ref a)])) rfl rfl (hb hby d2_6)
  have F_a_bytes : Fld Z h5 a "com/example/canonbyte/canonbyte/codec/Piece$Run" "bytes" "[B" (.ref r1) := F_a_bytes.same W5
  have E_a := E_a.wr W5
  have F_a_start := F_a_start.other W5 (Or.inr (slot_ne (Or.inl (hw _ (List.mem_of_getElem? (i := 23) rfl))) (Or.inl (hw _ (List.mem_of_getElem? (i := 21) rfl))) (by decide) (t := .int) (t' := (.array .byte)) (by decide) (by decide)))
  have F_a_end := F_a_end.other W5 (Or.inr (slot_ne (Or.inl (hw _ (List.mem_of_getElem? (i := 25) rfl))) (Or.inl (hw _ (List.mem_of_getElem? (i := 21) rfl))) (by decide) (t := .int) (t' := (.array .byte)) (by decide) (by decide)))
  have K := K.wr W5 (Or.inl (List.mem_of_getElem? (i := 0) rfl))
  have Z5 : n0 ≤ h5.size := Nat.le_trans Z0 (Keep.of_wr W5).1
  have N5 := Fr.snoc X5 N2 g_a
  have pre6 : ∀ t, Steps p.tables e below (T5.setTop (mkF m 9 #[.val (.ref a), .val (.ref r1), .val (.int p2), .val (.int p3)] [])) t → Steps p.tables e below (s₁.setTop (entryFrame m #[(.ref a), (.ref r1), (.int p2), (.int p3)] 4)) t := fun t k => pre4 t (st5 t k)
  have pre7 : ∀ t, Steps p.tables e below (T5.setTop (mkF m 11 #[.val (.ref a), .val (.ref r1), .val (.int p2), .val (.int p3)] [(.int p2), (.ref a)])) t → Steps p.tables e below (s₁.setTop (entryFrame m #[(.ref a), (.ref r1), (.int p2), (.int p3)] 4)) t := fun t k => pre6 t (by
    show Steps p.tables e below (T5.setTop (mkF m 9 #[.val (.ref a), .val (.ref r1), .val (.int p2), .val (.int p3)] [])) _
    refine XS.aloadN X5.here hx rfl (hb hby d2_9) rfl rfl ?_
    show Steps p.tables e below (T5.setTop (mkF m 10 #[.val (.ref a), .val (.ref r1), .val (.int p2), .val (.int p3)] [(.ref a)])) _
    refine XS.iloadN X5.here hx rfl (hb hby d2_10) rfl ?_
    show Steps p.tables e below (T5.setTop (mkF m 11 #[.val (.ref a), .val (.ref r1), .val (.int p2), .val (.int p3)] [(.int p2), (.ref a)])) _
    exact k)
  obtain ⟨T8, h8, X8, e8, W8, st8⟩ := putF X5 hx hZ hown (host := "") (Or.inl (hw _ (List.mem_of_getElem? (i := 22) rfl))) Via.refl e5 F_a_start E_a (Or.inl (hw _ (List.mem_of_getElem? (i := 23) rfl))) (hw _ (List.mem_of_getElem? (i := 7) rfl)) (ty := .int) (by decide) rfl rfl (g := (mkF m 11 #[.val (.ref a), .val (.ref r1), .val (.int p2), .val (.int p3)] [(.int p2), (.ref a)])) rfl rfl (hb hby d2_11)
  have F_a_start : Fld Z h8 a "com/example/canonbyte/canonbyte/codec/Piece$Run" "start" "I" (.int p2) := F_a_start.same W8
  have E_a := E_a.wr W8
  have F_a_bytes := F_a_bytes.other W8 (Or.inr (slot_ne (Or.inl (hw _ (List.mem_of_getElem? (i := 21) rfl))) (Or.inl (hw _ (List.mem_of_getElem? (i := 23) rfl))) (by decide) (t := (.array .byte)) (t' := .int) (by decide) (by decide)))
  have F_a_end := F_a_end.other W8 (Or.inr (slot_ne (Or.inl (hw _ (List.mem_of_getElem? (i := 25) rfl))) (Or.inl (hw _ (List.mem_of_getElem? (i := 23) rfl))) (by decide) (t := .int) (t' := .int) (by decide) (by decide)))
  have K := K.wr W8 (Or.inl (List.mem_of_getElem? (i := 0) rfl))
  have Z8 : n0 ≤ h8.size := Nat.le_trans Z5 (Keep.of_wr W8).1
  have N8 := Fr.snoc X8 N5 g_a
  have pre9 : ∀ t, Steps p.tables e below (T8.setTop (mkF m 14 #[.val (.ref a), .val (.ref r1), .val (.int p2), .val (.int p3)] [])) t → Steps p.tables e below (s₁.setTop (entryFrame m #[(.ref a), (.ref r1), (.int p2), (.int p3)] 4)) t := fun t k => pre7 t (st8 t k)
  have pre10 : ∀ t, Steps p.tables e below (T8.setTop (mkF m 16 #[.val (.ref a), .val (.ref r1), .val (.int p2), .val (.int p3)] [(.int p3), (.ref a)])) t → Steps p.tables e below (s₁.setTop (entryFrame m #[(.ref a), (.ref r1), (.int p2), (.int p3)] 4)) t := fun t k => pre9 t (by
    show Steps p.tables e below (T8.setTop (mkF m 14 #[.val (.ref a), .val (.ref r1), .val (.int p2), .val (.int p3)] [])) _
    refine XS.aloadN X8.here hx rfl (hb hby d2_14) rfl rfl ?_
    show Steps p.tables e below (T8.setTop (mkF m 15 #[.val (.ref a), .val (.ref r1), .val (.int p2), .val (.int p3)] [(.ref a)])) _
    refine XS.iloadN X8.here hx rfl (hb hby d2_15) rfl ?_
    show Steps p.tables e below (T8.setTop (mkF m 16 #[.val (.ref a), .val (.ref r1), .val (.int p2), .val (.int p3)] [(.int p3), (.ref a)])) _
    exact k)
  obtain ⟨T11, h11, X11, e11, W11, st11⟩ := putF X8 hx hZ hown (host := "") (Or.inl (hw _ (List.mem_of_getElem? (i := 24) rfl))) Via.refl e8 F_a_end E_a (Or.inl (hw _ (List.mem_of_getElem? (i := 25) rfl))) (hw _ (List.mem_of_getElem? (i := 7) rfl)) (ty := .int) (by decide) rfl rfl (g := (mkF m 16 #[.val (.ref a), .val (.ref r1), .val (.int p2), .val (.int p3)] [(.int p3), (.ref a)])) rfl rfl (hb hby d2_16)
  have F_a_end : Fld Z h11 a "com/example/canonbyte/canonbyte/codec/Piece$Run" "end" "I" (.int p3) := F_a_end.same W11
  have E_a := E_a.wr W11
  have F_a_bytes := F_a_bytes.other W11 (Or.inr (slot_ne (Or.inl (hw _ (List.mem_of_getElem? (i := 21) rfl))) (Or.inl (hw _ (List.mem_of_getElem? (i := 25) rfl))) (by decide) (t := (.array .byte)) (t' := .int) (by decide) (by decide)))
  have F_a_start := F_a_start.other W11 (Or.inr (slot_ne (Or.inl (hw _ (List.mem_of_getElem? (i := 23) rfl))) (Or.inl (hw _ (List.mem_of_getElem? (i := 25) rfl))) (by decide) (t := .int) (t' := .int) (by decide) (by decide)))
  have K := K.wr W11 (Or.inl (List.mem_of_getElem? (i := 0) rfl))
  have Z11 : n0 ≤ h11.size := Nat.le_trans Z8 (Keep.of_wr W11).1
  have N11 := Fr.snoc X11 N8 g_a
  have pre12 : ∀ t, Steps p.tables e below (T11.setTop (mkF m 19 #[.val (.ref a), .val (.ref r1), .val (.int p2), .val (.int p3)] [])) t → Steps p.tables e below (s₁.setTop (entryFrame m #[(.ref a), (.ref r1), (.int p2), (.int p3)] 4)) t := fun t k => pre10 t (st11 t k)
  obtain ⟨fs, hr, hrun, hended, hW, hsame⟩ := X11.leave (v := none) (fun _ => rfl) hlk
  refine ⟨_, _, pre12 _ ?_, hrun, hended, _, _, rfl, ?_, ⟨_, rfl⟩, hW, hsame.mono (by decide) (by decide)⟩
  · show Steps p.tables e below (T11.setTop (mkF m 19 #[.val (.ref a), .val (.ref r1), .val (.int p2), .val (.int p3)] [])) _
    exact X11.returnOut hx Bd.returns (hb hby d2_19) hr
  · show QRI Z a r1 p2 p3 h0 n0 _ T11.heap _
    rw [e11]
    exact ⟨rfl, N11, K, F_a_bytes, F_a_start, F_a_end⟩
theorem d5_0 : decode prog_21_method_2_code 0 = .ok (.aload_n 0, 1) := by decide +kernel
theorem d5_1 : decode prog_21_method_2_code 1 = .ok (.aload_n 1, 1) := by decide +kernel
theorem d5_2 : decode prog_21_method_2_code 2 = .ok (.putfield 7, 3) := by decide +kernel
theorem d5_5 : decode prog_21_method_2_code 5 = .ok (.aload_n 0, 1) := by decide +kernel
theorem d5_6 : decode prog_21_method_2_code 6 = .ok (.dup, 1) := by decide +kernel
theorem d5_7 : decode prog_21_method_2_code 7 = .ok (.getfield 13, 3) := by decide +kernel
theorem d5_10 : decode prog_21_method_2_code 10 = .ok (.iload_n 2, 1) := by decide +kernel
theorem d5_11 : decode prog_21_method_2_code 11 = .ok (.iadd, 1) := by decide +kernel
theorem d5_12 : decode prog_21_method_2_code 12 = .ok (.putfield 13, 3) := by decide +kernel
theorem d5_15 : decode prog_21_method_2_code 15 = .ok (.aload_n 0, 1) := by decide +kernel
theorem d5_16 : decode prog_21_method_2_code 16 = .ok (.dup, 1) := by decide +kernel
theorem d5_17 : decode prog_21_method_2_code 17 = .ok (.getfield 17, 3) := by decide +kernel
theorem d5_20 : decode prog_21_method_2_code 20 = .ok (.iload_n 2, 1) := by decide +kernel
theorem d5_21 : decode prog_21_method_2_code 21 = .ok (.iadd, 1) := by decide +kernel
theorem d5_22 : decode prog_21_method_2_code 22 = .ok (.putfield 17, 3) := by decide +kernel
theorem d5_25 : decode prog_21_method_2_code 25 = .ok (.return_, 1) := by decide +kernel
theorem ef_5 (m : MethodId) (a : Addr) (r1 : Addr) (p2 : Int32) : entryFrame m #[(.ref a), (.ref r1), (.int p2)] 3 = mkF m 0 #[.val (.ref a), .val (.ref r1), .val (.int p2)] [] := by first | (simp [entryFrame, mkF, argsToLocals, Value.category]; done) | rfl
def QMv (Z : State) (a : Addr) (r1 : Addr) (p2 : Int32) (w_bytes : Addr) (w_start : Int32) (w_end : Int32) (h0 : Heap) (n0 : Nat) (v : Option Value) (h : Heap) (L : List Loc) : Prop := v = none ∧ Fr n0 L ∧ Keep h0 h [a] ∧ Fld Z h a "com/example/canonbyte/canonbyte/codec/Piece$Run" "bytes" "[B" (.ref r1) ∧ Fld Z h a "com/example/canonbyte/canonbyte/codec/Piece$Run" "start" "I" (.int (w_start + p2)) ∧ Fld Z h a "com/example/canonbyte/canonbyte/codec/Piece$Run" "end" "I" (.int (w_end + p2))
set_option maxRecDepth 65536 in
set_option maxHeartbeats 40000000 in
theorem rmMv (l : Launch) (Z : State) (a0 : Array Value) (hw : ∀ d ∈ tables_1, d.before a0 Z = true) (ws : List Jvm.Cond) (a : Addr) (r1 : Addr) (p2 : Int32) (w_bytes : Addr) (w_start : Int32) (w_end : Int32) (h0 : Heap) (n0 : Nat) (Z0 : n0 ≤ h0.size) (E_a : Exa Z h0 a "com/example/canonbyte/canonbyte/codec/Piece$Run") (F_a_bytes : Fld Z h0 a "com/example/canonbyte/canonbyte/codec/Piece$Run" "bytes" "[B" (.ref w_bytes)) (F_a_start : Fld Z h0 a "com/example/canonbyte/canonbyte/codec/Piece$Run" "start" "I" (.int w_start)) (F_a_end : Fld Z h0 a "com/example/canonbyte/canonbyte/codec/Piece$Run" "end" "I" (.int w_end)) (g_a : n0 ≤ a) :
    MetFree l (⟨"com/example/canonbyte/canonbyte/codec/Piece$Run", "moveTo", "([BI)V"⟩ : MethodName) (head1 (Jvm.Cond.code (⟨"com/example/canonbyte/canonbyte/codec/Piece$Run", "moveTo", "([BI)V"⟩ : MethodName) prog_21_method_2_code 3 none :: ws) ({ frames := 0, cells := 0, slots := 0, locals := 0 } : Room)) (fun aa U => aa = #[(.ref a), (.ref r1), (.int p2)] ∧ Z.Warmed39 U.vm ∧ U.heap = h0) (fun _ _ _ _ _ => True) (fun _ U o U' => ∃ v L, o = .returned v ∧ QMv Z a r1 p2 w_bytes w_start w_end h0 n0 v U'.heap L ∧ FrameEnd U o U' L ({ frames := 0, cells := 0, slots := 0, locals := 0 } : Room).cells ({ frames := 0, cells := 0, slots := 0, locals := 0 } : Room).slots) := by
  refine MetFree.of_bodySF (plainFor_of_name pn_Piece_Run) hisR ?_
  intro p e s m args below meth c s₁ Bd hml0 hP hK
  obtain ⟨rfl, hZ, hh⟩ := hP
  have hx := Bd.exec
  have hby := Bd.bytes
  have hml : c.maxLocals = 3 := hml0
  have hown : s.vm.findClass "com/example/canonbyte/canonbyte/codec/Piece$Run" = some m.cls := findClass_of_methodNamed Bd.named
  have hnm := (name_of_methodNamed Bd.named Bd.method).1
  have X0 : Stand p l e ({ frames := 0, cells := 0, slots := 0, locals := 0 } : Room) s m #[(.ref a), (.ref r1), (.int p2)] below meth c s₁ [] 0 0 := Stand.of_body Bd
  have e0 : s₁.heap = h0 := by rw [← hh, Bd.state]; rfl
  have N0 := Fr.nil n0
  have hlk : meth.locks = false := by first | exact BodyLoose.notSynchronized Bd | exact Body.notSynchronized Bd
  have pre0 : ∀ t, Steps p.tables e below (s₁.setTop (mkF m 0 #[.val (.ref a), .val (.ref r1), .val (.int p2)] [])) t → Steps p.tables e below (s₁.setTop (entryFrame m #[(.ref a), (.ref r1), (.int p2)] 3)) t := fun t k => castTop (ef_5 m a r1 p2) k
  have K : Keep h0 h0 [a] := Keep.refl _ _
  have pre1 : ∀ t, Steps p.tables e below (s₁.setTop (mkF m 2 #[.val (.ref a), .val (.ref r1), .val (.int p2)] [(.ref r1), (.ref a)])) t → Steps p.tables e below (s₁.setTop (entryFrame m #[(.ref a), (.ref r1), (.int p2)] 3)) t := fun t k => pre0 t (by
    show Steps p.tables e below (s₁.setTop (mkF m 0 #[.val (.ref a), .val (.ref r1), .val (.int p2)] [])) _
    refine XS.aloadN X0.here hx rfl (hb hby d5_0) rfl rfl ?_
    show Steps p.tables e below (s₁.setTop (mkF m 1 #[.val (.ref a), .val (.ref r1), .val (.int p2)] [(.ref a)])) _
    refine XS.aloadN X0.here hx rfl (hb hby d5_1) rfl rfl ?_
    show Steps p.tables e below (s₁.setTop (mkF m 2 #[.val (.ref a), .val (.ref r1), .val (.int p2)] [(.ref r1), (.ref a)])) _
    exact k)
  obtain ⟨T2, h2, X2, e2, W2, st2⟩ := putF X0 hx hZ hown (host := "") (Or.inl (hw _ (List.mem_of_getElem? (i := 20) rfl))) Via.refl e0 F_a_bytes E_a (Or.inl (hw _ (List.mem_of_getElem? (i := 21) rfl))) (hw _ (List.mem_of_getElem? (i := 7) rfl)) (ty := (.array .byte)) (by decide) rfl rfl (g := (mkF m 2 #[.val (.ref a), .val (.ref r1), .val (.int p2)] [(.ref r1), (.ref a)])) rfl rfl (hb hby d5_2)
  have F_a_bytes : Fld Z h2 a "com/example/canonbyte/canonbyte/codec/Piece$Run" "bytes" "[B" (.ref r1) := F_a_bytes.same W2
  have E_a := E_a.wr W2
  have F_a_start := F_a_start.other W2 (Or.inr (slot_ne (Or.inl (hw _ (List.mem_of_getElem? (i := 23) rfl))) (Or.inl (hw _ (List.mem_of_getElem? (i := 21) rfl))) (by decide) (t := .int) (t' := (.array .byte)) (by decide) (by decide)))
  have F_a_end := F_a_end.other W2 (Or.inr (slot_ne (Or.inl (hw _ (List.mem_of_getElem? (i := 25) rfl))) (Or.inl (hw _ (List.mem_of_getElem? (i := 21) rfl))) (by decide) (t := .int) (t' := (.array .byte)) (by decide) (by decide)))
  have K := K.wr W2 (Or.inl (List.mem_of_getElem? (i := 0) rfl))
  have Z2 : n0 ≤ h2.size := Nat.le_trans Z0 (Keep.of_wr W2).1
  have N2 := Fr.snoc X2 N0 g_a
  have pre3 : ∀ t, Steps p.tables e below (T2.setTop (mkF m 5 #[.val (.ref a), .val (.ref r1), .val (.int p2)] [])) t → Steps p.tables e below (s₁.setTop (entryFrame m #[(.ref a), (.ref r1), (.int p2)] 3)) t := fun t k => pre1 t (st2 t k)
  have pre4 : ∀ t, Steps p.tables e below (T2.setTop (mkF m 7 #[.val (.ref a), .val (.ref r1), .val (.int p2)] [(.ref a), (.ref a)])) t → Steps p.tables e below (s₁.setTop (entryFrame m #[(.ref a), (.ref r1), (.int p2)] 3)) t := fun t k => pre3 t (by
    show Steps p.tables e below (T2.setTop (mkF m 5 #[.val (.ref a), .val (.ref r1), .val (.int p2)] [])) _
    refine XS.aloadN X2.here hx rfl (hb hby d5_5) rfl rfl ?_
    show Steps p.tables e below (T2.setTop (mkF m 6 #[.val (.ref a), .val (.ref r1), .val (.int p2)] [(.ref a)])) _
    refine XS.dup X2.here hx rfl (hb hby d5_6) rfl rfl ?_
    show Steps p.tables e below (T2.setTop (mkF m 7 #[.val (.ref a), .val (.ref r1), .val (.int p2)] [(.ref a), (.ref a)])) _
    exact k)
  obtain ⟨T5, X5, e5, st5⟩ := getF X2 hx hZ hown (host := "") (Or.inl (hw _ (List.mem_of_getElem? (i := 22) rfl))) Via.refl e2 F_a_start (g := (mkF m 7 #[.val (.ref a), .val (.ref r1), .val (.int p2)] [(.ref a), (.ref a)])) rfl rfl (hb hby d5_7)
  have pre6 : ∀ t, Steps p.tables e below (T5.setTop (mkF m 10 #[.val (.ref a), .val (.ref r1), .val (.int p2)] [(.int w_start), (.ref a)])) t → Steps p.tables e below (s₁.setTop (entryFrame m #[(.ref a), (.ref r1), (.int p2)] 3)) t := fun t k => pre4 t (st5 t k)
  have pre7 : ∀ t, Steps p.tables e below (T5.setTop (mkF m 12 #[.val (.ref a), .val (.ref r1), .val (.int p2)] [(.int (w_start + p2)), (.ref a)])) t → Steps p.tables e below (s₁.setTop (entryFrame m #[(.ref a), (.ref r1), (.int p2)] 3)) t := fun t k => pre6 t (by
    show Steps p.tables e below (T5.setTop (mkF m 10 #[.val (.ref a), .val (.ref r1), .val (.int p2)] [(.int w_start), (.ref a)])) _
    refine XS.iloadN X5.here hx rfl (hb hby d5_10) rfl ?_
    show Steps p.tables e below (T5.setTop (mkF m 11 #[.val (.ref a), .val (.ref r1), .val (.int p2)] [(.int p2), (.int w_start), (.ref a)])) _
    refine XS.iadd X5.here hx rfl (hb hby d5_11) rfl ?_
    show Steps p.tables e below (T5.setTop (mkF m 12 #[.val (.ref a), .val (.ref r1), .val (.int p2)] [(.int (w_start + p2)), (.ref a)])) _
    exact k)
  obtain ⟨T8, h8, X8, e8, W8, st8⟩ := putF X5 hx hZ hown (host := "") (Or.inl (hw _ (List.mem_of_getElem? (i := 22) rfl))) Via.refl e5 F_a_start E_a (Or.inl (hw _ (List.mem_of_getElem? (i := 23) rfl))) (hw _ (List.mem_of_getElem? (i := 7) rfl)) (ty := .int) (by decide) rfl rfl (g := (mkF m 12 #[.val (.ref a), .val (.ref r1), .val (.int p2)] [(.int (w_start + p2)), (.ref a)])) rfl rfl (hb hby d5_12)
  have F_a_start : Fld Z h8 a "com/example/canonbyte/canonbyte/codec/Piece$Run" "start" "I" (.int (w_start + p2)) := F_a_start.same W8
  have E_a := E_a.wr W8
  have F_a_bytes := F_a_bytes.other W8 (Or.inr (slot_ne (Or.inl (hw _ (List.mem_of_getElem? (i := 21) rfl))) (Or.inl (hw _ (List.mem_of_getElem? (i := 23) rfl))) (by decide) (t := (.array .byte)) (t' := .int) (by decide) (by decide)))
  have F_a_end := F_a_end.other W8 (Or.inr (slot_ne (Or.inl (hw _ (List.mem_of_getElem? (i := 25) rfl))) (Or.inl (hw _ (List.mem_of_getElem? (i := 23) rfl))) (by decide) (t := .int) (t' := .int) (by decide) (by decide)))
  have K := K.wr W8 (Or.inl (List.mem_of_getElem? (i := 0) rfl))
  have Z8 : n0 ≤ h8.size := Nat.le_trans Z2 (Keep.of_wr W8).1
  have N8 := Fr.snoc X8 N2 g_a
  have pre9 : ∀ t, Steps p.tables e below (T8.setTop (mkF m 15 #[.val (.ref a), .val (.ref r1), .val (.int p2)] [])) t → Steps p.tables e below (s₁.setTop (entryFrame m #[(.ref a), (.ref r1), (.int p2)] 3)) t := fun t k => pre7 t (st8 t k)
  have pre10 : ∀ t, Steps p.tables e below (T8.setTop (mkF m 17 #[.val (.ref a), .val (.ref r1), .val (.int p2)] [(.ref a), (.ref a)])) t → Steps p.tables e below (s₁.setTop (entryFrame m #[(.ref a), (.ref r1), (.int p2)] 3)) t := fun t k => pre9 t (by
    show Steps p.tables e below (T8.setTop (mkF m 15 #[.val (.ref a), .val (.ref r1), .val (.int p2)] [])) _
    refine XS.aloadN X8.here hx rfl (hb hby d5_15) rfl rfl ?_
    show Steps p.tables e below (T8.setTop (mkF m 16 #[.val (.ref a), .val (.ref r1), .val (.int p2)] [(.ref a)])) _
    refine XS.dup X8.here hx rfl (hb hby d5_16) rfl rfl ?_
    show Steps p.tables e below (T8.setTop (mkF m 17 #[.val (.ref a), .val (.ref r1), .val (.int p2)] [(.ref a), (.ref a)])) _
    exact k)
  obtain ⟨T11, X11, e11, st11⟩ := getF X8 hx hZ hown (host := "") (Or.inl (hw _ (List.mem_of_getElem? (i := 24) rfl))) Via.refl e8 F_a_end (g := (mkF m 17 #[.val (.ref a), .val (.ref r1), .val (.int p2)] [(.ref a), (.ref a)])) rfl rfl (hb hby d5_17)
  have pre12 : ∀ t, Steps p.tables e below (T11.setTop (mkF m 20 #[.val (.ref a), .val (.ref r1), .val (.int p2)] [(.int w_end), (.ref a)])) t → Steps p.tables e below (s₁.setTop (entryFrame m #[(.ref a), (.ref r1), (.int p2)] 3)) t := fun t k => pre10 t (st11 t k)
  have pre13 : ∀ t, Steps p.tables e below (T11.setTop (mkF m 22 #[.val (.ref a), .val (.ref r1), .val (.int p2)] [(.int (w_end + p2)), (.ref a)])) t → Steps p.tables e below (s₁.setTop (entryFrame m #[(.ref a), (.ref r1), (.int p2)] 3)) t := fun t k => pre12 t (by
    show Steps p.tables e below (T11.setTop (mkF m 20 #[.val (.ref a), .val (.ref r1), .val (.int p2)] [(.int w_end), (.ref a)])) _
    refine XS.iloadN X11.here hx rfl (hb hby d5_20) rfl ?_
    show Steps p.tables e below (T11.setTop (mkF m 21 #[.val (.ref a), .val (.ref r1), .val (.int p2)] [(.int p2), (.int w_end), (.ref a)])) _
    refine XS.iadd X11.here hx rfl (hb hby d5_21) rfl ?_
    show Steps p.tables e below (T11.setTop (mkF m 22 #[.val (.ref a), .val (.ref r1), .val (.int p2)] [(.int (w_end + p2)), (.ref a)])) _
    exact k)
  obtain ⟨T14, h14, X14, e14, W14, st14⟩ := putF X11 hx hZ hown (host := "") (Or.inl (hw _ (List.mem_of_getElem? (i := 24) rfl))) Via.refl e11 F_a_end E_a (Or.inl (hw _ (List.mem_of_getElem? (i := 25) rfl))) (hw _ (List.mem_of_getElem? (i := 7) rfl)) (ty := .int) (by decide) rfl rfl (g := (mkF m 22 #[.val (.ref a), .val (.ref r1), .val (.int p2)] [(.int (w_end + p2)), (.ref a)])) rfl rfl (hb hby d5_22)
  have F_a_end : Fld Z h14 a "com/example/canonbyte/canonbyte/codec/Piece$Run" "end" "I" (.int (w_end + p2)) := F_a_end.same W14
  have E_a := E_a.wr W14
  have F_a_bytes := F_a_bytes.other W14 (Or.inr (slot_ne (Or.inl (hw _ (List.mem_of_getElem? (i := 21) rfl))) (Or.inl (hw _ (List.mem_of_getElem? (i := 25) rfl))) (by decide) (t := (.array .byte)) (t' := .int) (by decide) (by decide)))
  have F_a_start := F_a_start.other W14 (Or.inr (slot_ne (Or.inl (hw _ (List.mem_of_getElem? (i := 23) rfl))) (Or.inl (hw _ (List.mem_of_getElem? (i := 25) rfl))) (by decide) (t := .int) (t' := .int) (by decide) (by decide)))
  have K := K.wr W14 (Or.inl (List.mem_of_getElem? (i := 0) rfl))
  have Z14 : n0 ≤ h14.size := Nat.le_trans Z8 (Keep.of_wr W14).1
  have N14 := Fr.snoc X14 N8 g_a
  have pre15 : ∀ t, Steps p.tables e below (T14.setTop (mkF m 25 #[.val (.ref a), .val (.ref r1), .val (.int p2)] [])) t → Steps p.tables e below (s₁.setTop (entryFrame m #[(.ref a), (.ref r1), (.int p2)] 3)) t := fun t k => pre13 t (st14 t k)
  obtain ⟨fs, hr, hrun, hended, hW, hsame⟩ := X14.leave (v := none) (fun _ => rfl) hlk
  refine ⟨_, _, pre15 _ ?_, hrun, hended, _, _, rfl, ?_, ⟨_, rfl⟩, hW, hsame.mono (by decide) (by decide)⟩
  · show Steps p.tables e below (T14.setTop (mkF m 25 #[.val (.ref a), .val (.ref r1), .val (.int p2)] [])) _
    exact X14.returnOut hx Bd.returns (hb hby d5_25) hr
  · show QMv Z a r1 p2 w_bytes w_start w_end h0 n0 _ T14.heap _
    rw [e14]
    exact ⟨rfl, N14, K, F_a_bytes, F_a_start, F_a_end⟩
theorem d6_0 : decode method_3_code 0 = .ok (.aload_n 0, 1) := by decide +kernel
theorem d6_1 : decode method_3_code 1 = .ok (.iconst 0, 1) := by decide +kernel
theorem d6_2 : decode method_3_code 2 = .ok (.iload_n 1, 1) := by decide +kernel
theorem d6_3 : decode method_3_code 3 = .ok (.bastore, 1) := by decide +kernel
theorem d6_4 : decode method_3_code 4 = .ok (.aload_n 0, 1) := by decide +kernel
theorem d6_5 : decode method_3_code 5 = .ok (.iconst 1, 1) := by decide +kernel
theorem d6_6 : decode method_3_code 6 = .ok (.iload_n 1, 1) := by decide +kernel
theorem d6_7 : decode method_3_code 7 = .ok (.bastore, 1) := by decide +kernel
theorem d6_8 : decode method_3_code 8 = .ok (.aload_n 0, 1) := by decide +kernel
theorem d6_9 : decode method_3_code 9 = .ok (.iconst 2, 1) := by decide +kernel
theorem d6_10 : decode method_3_code 10 = .ok (.iload_n 1, 1) := by decide +kernel
theorem d6_11 : decode method_3_code 11 = .ok (.bastore, 1) := by decide +kernel
theorem d6_12 : decode method_3_code 12 = .ok (.aload_n 0, 1) := by decide +kernel
theorem d6_13 : decode method_3_code 13 = .ok (.iconst 3, 1) := by decide +kernel
theorem d6_14 : decode method_3_code 14 = .ok (.iload_n 1, 1) := by decide +kernel
theorem d6_15 : decode method_3_code 15 = .ok (.bastore, 1) := by decide +kernel
theorem d6_16 : decode method_3_code 16 = .ok (.aload_n 0, 1) := by decide +kernel
theorem d6_17 : decode method_3_code 17 = .ok (.iconst 4, 1) := by decide +kernel
theorem d6_18 : decode method_3_code 18 = .ok (.iload_n 1, 1) := by decide +kernel
theorem d6_19 : decode method_3_code 19 = .ok (.bastore, 1) := by decide +kernel
theorem d6_20 : decode method_3_code 20 = .ok (.aload_n 0, 1) := by decide +kernel
theorem d6_21 : decode method_3_code 21 = .ok (.iconst 5, 1) := by decide +kernel
theorem d6_22 : decode method_3_code 22 = .ok (.iload_n 1, 1) := by decide +kernel
theorem d6_23 : decode method_3_code 23 = .ok (.bastore, 1) := by decide +kernel
theorem d6_24 : decode method_3_code 24 = .ok (.aload_n 0, 1) := by decide +kernel
theorem d6_25 : decode method_3_code 25 = .ok (.bipush 6, 2) := by decide +kernel
theorem d6_27 : decode method_3_code 27 = .ok (.iload_n 1, 1) := by decide +kernel
theorem d6_28 : decode method_3_code 28 = .ok (.bastore, 1) := by decide +kernel
theorem d6_29 : decode method_3_code 29 = .ok (.aload_n 0, 1) := by decide +kernel
theorem d6_30 : decode method_3_code 30 = .ok (.bipush 7, 2) := by decide +kernel
theorem d6_32 : decode method_3_code 32 = .ok (.iload_n 1, 1) := by decide +kernel
theorem d6_33 : decode method_3_code 33 = .ok (.bastore, 1) := by decide +kernel
theorem d6_34 : decode method_3_code 34 = .ok (.return_, 1) := by decide +kernel
theorem ef_6 (m : MethodId) (a1 : Addr) (p2 : Int32) : entryFrame m #[(.ref a1), (.int p2)] 2 = mkF m 0 #[.val (.ref a1), .val (.int p2)] [] := by first | (simp [entryFrame, mkF, argsToLocals, Value.category]; done) | rfl
def QWp (Z : State) (a1 : Addr) (p2 : Int32) (f : Nat → Int32) (h0 : Heap) (n0 : Nat) (v : Option Value) (h : Heap) (L : List Loc) : Prop := v = none ∧ Fr n0 L ∧ Keep h0 h [a1]
set_option maxRecDepth 65536 in
set_option maxHeartbeats 40000000 in
theorem rmWp (l : Launch) (Z : State) (a0 : Array Value) (hw : ∀ d ∈ tables_1, d.before a0 Z = true) (ws : List Jvm.Cond) (a1 : Addr) (p2 : Int32) (f : Nat → Int32) (h0 : Heap) (n0 : Nat) (Z0 : n0 ≤ h0.size) (A_a1 : own_A Z h0 a1 .byte 8 f) (g_a1 : n0 ≤ a1) :
    MetFree l (⟨"com/example/canonbyte/canonbyte/codec/RunMoveToPinLaw", "wipe", "([BB)V"⟩ : MethodName) (head1 (Jvm.Cond.code (⟨"com/example/canonbyte/canonbyte/codec/RunMoveToPinLaw", "wipe", "([BB)V"⟩ : MethodName) method_3_code 2 none :: ws) ({ frames := 0, cells := 0, slots := 0, locals := 0 } : Room)) (fun aa U => aa = #[(.ref a1), (.int p2)] ∧ Z.Warmed39 U.vm ∧ U.heap = h0) (fun _ _ _ _ _ => True) (fun _ U o U' => ∃ v L, o = .returned v ∧ QWp Z a1 p2 f h0 n0 v U'.heap L ∧ FrameEnd U o U' L ({ frames := 0, cells := 0, slots := 0, locals := 0 } : Room).cells ({ frames := 0, cells := 0, slots := 0, locals := 0 } : Room).slots) := by
  refine MetFree.of_bodySF (plainFor_of_name pn_RunMoveToPinLaw) hisR ?_
  intro p e s m args below meth c s₁ Bd hml0 hP hK
  obtain ⟨rfl, hZ, hh⟩ := hP
  have hx := Bd.exec
  have hby := Bd.bytes
  have hml : c.maxLocals = 2 := hml0
  have hown : s.vm.findClass "com/example/canonbyte/canonbyte/codec/RunMoveToPinLaw" = some m.cls := findClass_of_methodNamed Bd.named
  have hnm := (name_of_methodNamed Bd.named Bd.method).1
  have X0 : Stand p l e ({ frames := 0, cells := 0, slots := 0, locals := 0 } : Room) s m #[(.ref a1), (.int p2)] below meth c s₁ [] 0 0 := Stand.of_body Bd
  have e0 : s₁.heap = h0 := by rw [← hh, Bd.state]; rfl
  have N0 := Fr.nil n0
  have hlk : meth.locks = false := by first | exact BodyLoose.notSynchronized Bd | exact Body.notSynchronized Bd
  have pre0 : ∀ t, Steps p.tables e below (s₁.setTop (mkF m 0 #[.val (.ref a1), .val (.int p2)] [])) t → Steps p.tables e below (s₁.setTop (entryFrame m #[(.ref a1), (.int p2)] 2)) t := fun t k => castTop (ef_6 m a1 p2) k
  have K : Keep h0 h0 [a1] := Keep.refl _ _
  have pre1 : ∀ t, Steps p.tables e below (s₁.setTop (mkF m 3 #[.val (.ref a1), .val (.int p2)] [(.int p2), (.int (0 : Int32)), (.ref a1)])) t → Steps p.tables e below (s₁.setTop (entryFrame m #[(.ref a1), (.int p2)] 2)) t := fun t k => pre0 t (by
    show Steps p.tables e below (s₁.setTop (mkF m 0 #[.val (.ref a1), .val (.int p2)] [])) _
    refine XS.aloadN X0.here hx rfl (hb hby d6_0) rfl rfl ?_
    show Steps p.tables e below (s₁.setTop (mkF m 1 #[.val (.ref a1), .val (.int p2)] [(.ref a1)])) _
    refine XS.iconst X0.here hx rfl (hb hby d6_1) ?_
    show Steps p.tables e below (s₁.setTop (mkF m 2 #[.val (.ref a1), .val (.int p2)] [(.int (0 : Int32)), (.ref a1)])) _
    refine XS.iloadN X0.here hx rfl (hb hby d6_2) rfl ?_
    show Steps p.tables e below (s₁.setTop (mkF m 3 #[.val (.ref a1), .val (.int p2)] [(.int p2), (.int (0 : Int32)), (.ref a1)])) _
    exact k)
  obtain ⟨cl2, Ar2, Sz2, Hf2⟩ := A_a1
  obtain ⟨T2, h2, X2, e2, W2, st2⟩ := stB X0 hx hZ e0 Ar2 (j := (0 : Int32)) (own_inb Sz2 ⟨by decide, by decide⟩) (g := (mkF m 3 #[.val (.ref a1), .val (.int p2)] [(.int p2), (.int (0 : Int32)), (.ref a1)])) rfl rfl (hb hby d6_3)
  have A_a1 : own_A Z h2 a1 .byte 8 (own_put f 0 (nar .byte p2)) := own_A.set Ar2 Sz2 Hf2 W2
  have K := K.wr W2 (Or.inl (List.mem_of_getElem? (i := 0) rfl))
  have Z2 : n0 ≤ h2.size := Nat.le_trans Z0 (Keep.of_wr W2).1
  have N2 := Fr.snoc X2 N0 g_a1
  have pre3 : ∀ t, Steps p.tables e below (T2.setTop (mkF m 4 #[.val (.ref a1), .val (.int p2)] [])) t → Steps p.tables e below (s₁.setTop (entryFrame m #[(.ref a1), (.int p2)] 2)) t := fun t k => pre1 t (st2 t k)
  have pre4 : ∀ t, Steps p.tables e below (T2.setTop (mkF m 7 #[.val (.ref a1), .val (.int p2)] [(.int p2), (.int (1 : Int32)), (.ref a1)])) t → Steps p.tables e below (s₁.setTop (entryFrame m #[(.ref a1), (.int p2)] 2)) t := fun t k => pre3 t (by
    show Steps p.tables e below (T2.setTop (mkF m 4 #[.val (.ref a1), .val (.int p2)] [])) _
    refine XS.aloadN X2.here hx rfl (hb hby d6_4) rfl rfl ?_
    show Steps p.tables e below (T2.setTop (mkF m 5 #[.val (.ref a1), .val (.int p2)] [(.ref a1)])) _
    refine XS.iconst X2.here hx rfl (hb hby d6_5) ?_
    show Steps p.tables e below (T2.setTop (mkF m 6 #[.val (.ref a1), .val (.int p2)] [(.int (1 : Int32)), (.ref a1)])) _
    refine XS.iloadN X2.here hx rfl (hb hby d6_6) rfl ?_
    show Steps p.tables e below (T2.setTop (mkF m 7 #[.val (.ref a1), .val (.int p2)] [(.int p2), (.int (1 : Int32)), (.ref a1)])) _
    exact k)
  obtain ⟨cl5, Ar5, Sz5, Hf5⟩ := A_a1
  obtain ⟨T5, h5, X5, e5, W5, st5⟩ := stB X2 hx hZ e2 Ar5 (j := (1 : Int32)) (own_inb Sz5 ⟨by decide, by decide⟩) (g := (mkF m 7 #[.val (.ref a1), .val (.int p2)] [(.int p2), (.int (1 : Int32)), (.ref a1)])) rfl rfl (hb hby d6_7)
  have A_a1 : own_A Z h5 a1 .byte 8 (own_put (own_put f 0 (nar .byte p2)) 1 (nar .byte p2)) := own_A.set Ar5 Sz5 Hf5 W5
  have K := K.wr W5 (Or.inl (List.mem_of_getElem? (i := 0) rfl))
  have Z5 : n0 ≤ h5.size := Nat.le_trans Z2 (Keep.of_wr W5).1
  have N5 := Fr.snoc X5 N2 g_a1
  have pre6 : ∀ t, Steps p.tables e below (T5.setTop (mkF m 8 #[.val (.ref a1), .val (.int p2)] [])) t → Steps p.tables e below (s₁.setTop (entryFrame m #[(.ref a1), (.int p2)] 2)) t := fun t k => pre4 t (st5 t k)
  have pre7 : ∀ t, Steps p.tables e below (T5.setTop (mkF m 11 #[.val (.ref a1), .val (.int p2)] [(.int p2), (.int (2 : Int32)), (.ref a1)])) t → Steps p.tables e below (s₁.setTop (entryFrame m #[(.ref a1), (.int p2)] 2)) t := fun t k => pre6 t (by
    show Steps p.tables e below (T5.setTop (mkF m 8 #[.val (.ref a1), .val (.int p2)] [])) _
    refine XS.aloadN X5.here hx rfl (hb hby d6_8) rfl rfl ?_
    show Steps p.tables e below (T5.setTop (mkF m 9 #[.val (.ref a1), .val (.int p2)] [(.ref a1)])) _
    refine XS.iconst X5.here hx rfl (hb hby d6_9) ?_
    show Steps p.tables e below (T5.setTop (mkF m 10 #[.val (.ref a1), .val (.int p2)] [(.int (2 : Int32)), (.ref a1)])) _
    refine XS.iloadN X5.here hx rfl (hb hby d6_10) rfl ?_
    show Steps p.tables e below (T5.setTop (mkF m 11 #[.val (.ref a1), .val (.int p2)] [(.int p2), (.int (2 : Int32)), (.ref a1)])) _
    exact k)
  obtain ⟨cl8, Ar8, Sz8, Hf8⟩ := A_a1
  obtain ⟨T8, h8, X8, e8, W8, st8⟩ := stB X5 hx hZ e5 Ar8 (j := (2 : Int32)) (own_inb Sz8 ⟨by decide, by decide⟩) (g := (mkF m 11 #[.val (.ref a1), .val (.int p2)] [(.int p2), (.int (2 : Int32)), (.ref a1)])) rfl rfl (hb hby d6_11)
  have A_a1 : own_A Z h8 a1 .byte 8 (own_put (own_put (own_put f 0 (nar .byte p2)) 1 (nar .byte p2)) 2 (nar .byte p2)) := own_A.set Ar8 Sz8 Hf8 W8
  have K := K.wr W8 (Or.inl (List.mem_of_getElem? (i := 0) rfl))
  have Z8 : n0 ≤ h8.size := Nat.le_trans Z5 (Keep.of_wr W8).1
  have N8 := Fr.snoc X8 N5 g_a1
  have pre9 : ∀ t, Steps p.tables e below (T8.setTop (mkF m 12 #[.val (.ref a1), .val (.int p2)] [])) t → Steps p.tables e below (s₁.setTop (entryFrame m #[(.ref a1), (.int p2)] 2)) t := fun t k => pre7 t (st8 t k)
  have pre10 : ∀ t, Steps p.tables e below (T8.setTop (mkF m 15 #[.val (.ref a1), .val (.int p2)] [(.int p2), (.int (3 : Int32)), (.ref a1)])) t → Steps p.tables e below (s₁.setTop (entryFrame m #[(.ref a1), (.int p2)] 2)) t := fun t k => pre9 t (by
    show Steps p.tables e below (T8.setTop (mkF m 12 #[.val (.ref a1), .val (.int p2)] [])) _
    refine XS.aloadN X8.here hx rfl (hb hby d6_12) rfl rfl ?_
    show Steps p.tables e below (T8.setTop (mkF m 13 #[.val (.ref a1), .val (.int p2)] [(.ref a1)])) _
    refine XS.iconst X8.here hx rfl (hb hby d6_13) ?_
    show Steps p.tables e below (T8.setTop (mkF m 14 #[.val (.ref a1), .val (.int p2)] [(.int (3 : Int32)), (.ref a1)])) _
    refine XS.iloadN X8.here hx rfl (hb hby d6_14) rfl ?_
    show Steps p.tables e below (T8.setTop (mkF m 15 #[.val (.ref a1), .val (.int p2)] [(.int p2), (.int (3 : Int32)), (.ref a1)])) _
    exact k)
  obtain ⟨cl11, Ar11, Sz11, Hf11⟩ := A_a1
  obtain ⟨T11, h11, X11, e11, W11, st11⟩ := stB X8 hx hZ e8 Ar11 (j := (3 : Int32)) (own_inb Sz11 ⟨by decide, by decide⟩) (g := (mkF m 15 #[.val (.ref a1), .val (.int p2)] [(.int p2), (.int (3 : Int32)), (.ref a1)])) rfl rfl (hb hby d6_15)
  have A_a1 : own_A Z h11 a1 .byte 8 (own_put (own_put (own_put (own_put f 0 (nar .byte p2)) 1 (nar .byte p2)) 2 (nar .byte p2)) 3 (nar .byte p2)) := own_A.set Ar11 Sz11 Hf11 W11
  have K := K.wr W11 (Or.inl (List.mem_of_getElem? (i := 0) rfl))
  have Z11 : n0 ≤ h11.size := Nat.le_trans Z8 (Keep.of_wr W11).1
  have N11 := Fr.snoc X11 N8 g_a1
  have pre12 : ∀ t, Steps p.tables e below (T11.setTop (mkF m 16 #[.val (.ref a1), .val (.int p2)] [])) t → Steps p.tables e below (s₁.setTop (entryFrame m #[(.ref a1), (.int p2)] 2)) t := fun t k => pre10 t (st11 t k)
  have pre13 : ∀ t, Steps p.tables e below (T11.setTop (mkF m 19 #[.val (.ref a1), .val (.int p2)] [(.int p2), (.int (4 : Int32)), (.ref a1)])) t → Steps p.tables e below (s₁.setTop (entryFrame m #[(.ref a1), (.int p2)] 2)) t := fun t k => pre12 t (by
    show Steps p.tables e below (T11.setTop (mkF m 16 #[.val (.ref a1), .val (.int p2)] [])) _
    refine XS.aloadN X11.here hx rfl (hb hby d6_16) rfl rfl ?_
    show Steps p.tables e below (T11.setTop (mkF m 17 #[.val (.ref a1), .val (.int p2)] [(.ref a1)])) _
    refine XS.iconst X11.here hx rfl (hb hby d6_17) ?_
    show Steps p.tables e below (T11.setTop (mkF m 18 #[.val (.ref a1), .val (.int p2)] [(.int (4 : Int32)), (.ref a1)])) _
    refine XS.iloadN X11.here hx rfl (hb hby d6_18) rfl ?_
    show Steps p.tables e below (T11.setTop (mkF m 19 #[.val (.ref a1), .val (.int p2)] [(.int p2), (.int (4 : Int32)), (.ref a1)])) _
    exact k)
  obtain ⟨cl14, Ar14, Sz14, Hf14⟩ := A_a1
  obtain ⟨T14, h14, X14, e14, W14, st14⟩ := stB X11 hx hZ e11 Ar14 (j := (4 : Int32)) (own_inb Sz14 ⟨by decide, by decide⟩) (g := (mkF m 19 #[.val (.ref a1), .val (.int p2)] [(.int p2), (.int (4 : Int32)), (.ref a1)])) rfl rfl (hb hby d6_19)
  have A_a1 : own_A Z h14 a1 .byte 8 (own_put (own_put (own_put (own_put (own_put f 0 (nar .byte p2)) 1 (nar .byte p2)) 2 (nar .byte p2)) 3 (nar .byte p2)) 4 (nar .byte p2)) := own_A.set Ar14 Sz14 Hf14 W14
  have K := K.wr W14 (Or.inl (List.mem_of_getElem? (i := 0) rfl))
  have Z14 : n0 ≤ h14.size := Nat.le_trans Z11 (Keep.of_wr W14).1
  have N14 := Fr.snoc X14 N11 g_a1
  have pre15 : ∀ t, Steps p.tables e below (T14.setTop (mkF m 20 #[.val (.ref a1), .val (.int p2)] [])) t → Steps p.tables e below (s₁.setTop (entryFrame m #[(.ref a1), (.int p2)] 2)) t := fun t k => pre13 t (st14 t k)
  have pre16 : ∀ t, Steps p.tables e below (T14.setTop (mkF m 23 #[.val (.ref a1), .val (.int p2)] [(.int p2), (.int (5 : Int32)), (.ref a1)])) t → Steps p.tables e below (s₁.setTop (entryFrame m #[(.ref a1), (.int p2)] 2)) t := fun t k => pre15 t (by
    show Steps p.tables e below (T14.setTop (mkF m 20 #[.val (.ref a1), .val (.int p2)] [])) _
    refine XS.aloadN X14.here hx rfl (hb hby d6_20) rfl rfl ?_
    show Steps p.tables e below (T14.setTop (mkF m 21 #[.val (.ref a1), .val (.int p2)] [(.ref a1)])) _
    refine XS.iconst X14.here hx rfl (hb hby d6_21) ?_
    show Steps p.tables e below (T14.setTop (mkF m 22 #[.val (.ref a1), .val (.int p2)] [(.int (5 : Int32)), (.ref a1)])) _
    refine XS.iloadN X14.here hx rfl (hb hby d6_22) rfl ?_
    show Steps p.tables e below (T14.setTop (mkF m 23 #[.val (.ref a1), .val (.int p2)] [(.int p2), (.int (5 : Int32)), (.ref a1)])) _
    exact k)
  obtain ⟨cl17, Ar17, Sz17, Hf17⟩ := A_a1
  obtain ⟨T17, h17, X17, e17, W17, st17⟩ := stB X14 hx hZ e14 Ar17 (j := (5 : Int32)) (own_inb Sz17 ⟨by decide, by decide⟩) (g := (mkF m 23 #[.val (.ref a1), .val (.int p2)] [(.int p2), (.int (5 : Int32)), (.ref a1)])) rfl rfl (hb hby d6_23)
  have A_a1 : own_A Z h17 a1 .byte 8 (own_put (own_put (own_put (own_put (own_put (own_put f 0 (nar .byte p2)) 1 (nar .byte p2)) 2 (nar .byte p2)) 3 (nar .byte p2)) 4 (nar .byte p2)) 5 (nar .byte p2)) := own_A.set Ar17 Sz17 Hf17 W17
  have K := K.wr W17 (Or.inl (List.mem_of_getElem? (i := 0) rfl))
  have Z17 : n0 ≤ h17.size := Nat.le_trans Z14 (Keep.of_wr W17).1
  have N17 := Fr.snoc X17 N14 g_a1
  have pre18 : ∀ t, Steps p.tables e below (T17.setTop (mkF m 24 #[.val (.ref a1), .val (.int p2)] [])) t → Steps p.tables e below (s₁.setTop (entryFrame m #[(.ref a1), (.int p2)] 2)) t := fun t k => pre16 t (st17 t k)
  have pre19 : ∀ t, Steps p.tables e below (T17.setTop (mkF m 28 #[.val (.ref a1), .val (.int p2)] [(.int p2), (.int (6 : Int32)), (.ref a1)])) t → Steps p.tables e below (s₁.setTop (entryFrame m #[(.ref a1), (.int p2)] 2)) t := fun t k => pre18 t (by
    show Steps p.tables e below (T17.setTop (mkF m 24 #[.val (.ref a1), .val (.int p2)] [])) _
    refine XS.aloadN X17.here hx rfl (hb hby d6_24) rfl rfl ?_
    show Steps p.tables e below (T17.setTop (mkF m 25 #[.val (.ref a1), .val (.int p2)] [(.ref a1)])) _
    refine XS.bipush X17.here hx rfl (hb hby d6_25) ?_
    show Steps p.tables e below (T17.setTop (mkF m 27 #[.val (.ref a1), .val (.int p2)] [(.int (6 : Int32)), (.ref a1)])) _
    refine XS.iloadN X17.here hx rfl (hb hby d6_27) rfl ?_
    show Steps p.tables e below (T17.setTop (mkF m 28 #[.val (.ref a1), .val (.int p2)] [(.int p2), (.int (6 : Int32)), (.ref a1)])) _
    exact k)
  obtain ⟨cl20, Ar20, Sz20, Hf20⟩ := A_a1
  obtain ⟨T20, h20, X20, e20, W20, st20⟩ := stB X17 hx hZ e17 Ar20 (j := (6 : Int32)) (own_inb Sz20 ⟨by decide, by decide⟩) (g := (mkF m 28 #[.val (.ref a1), .val (.int p2)] [(.int p2), (.int (6 : Int32)), (.ref a1)])) rfl rfl (hb hby d6_28)
  have A_a1 : own_A Z h20 a1 .byte 8 (own_put (own_put (own_put (own_put (own_put (own_put (own_put f 0 (nar .byte p2)) 1 (nar .byte p2)) 2 (nar .byte p2)) 3 (nar .byte p2)) 4 (nar .byte p2)) 5 (nar .byte p2)) 6 (nar .byte p2)) := own_A.set Ar20 Sz20 Hf20 W20
  have K := K.wr W20 (Or.inl (List.mem_of_getElem? (i := 0) rfl))
  have Z20 : n0 ≤ h20.size := Nat.le_trans Z17 (Keep.of_wr W20).1
  have N20 := Fr.snoc X20 N17 g_a1
  have pre21 : ∀ t, Steps p.tables e below (T20.setTop (mkF m 29 #[.val (.ref a1), .val (.int p2)] [])) t → Steps p.tables e below (s₁.setTop (entryFrame m #[(.ref a1), (.int p2)] 2)) t := fun t k => pre19 t (st20 t k)
  have pre22 : ∀ t, Steps p.tables e below (T20.setTop (mkF m 33 #[.val (.ref a1), .val (.int p2)] [(.int p2), (.int (7 : Int32)), (.ref a1)])) t → Steps p.tables e below (s₁.setTop (entryFrame m #[(.ref a1), (.int p2)] 2)) t := fun t k => pre21 t (by
    show Steps p.tables e below (T20.setTop (mkF m 29 #[.val (.ref a1), .val (.int p2)] [])) _
    refine XS.aloadN X20.here hx rfl (hb hby d6_29) rfl rfl ?_
    show Steps p.tables e below (T20.setTop (mkF m 30 #[.val (.ref a1), .val (.int p2)] [(.ref a1)])) _
    refine XS.bipush X20.here hx rfl (hb hby d6_30) ?_
    show Steps p.tables e below (T20.setTop (mkF m 32 #[.val (.ref a1), .val (.int p2)] [(.int (7 : Int32)), (.ref a1)])) _
    refine XS.iloadN X20.here hx rfl (hb hby d6_32) rfl ?_
    show Steps p.tables e below (T20.setTop (mkF m 33 #[.val (.ref a1), .val (.int p2)] [(.int p2), (.int (7 : Int32)), (.ref a1)])) _
    exact k)
  obtain ⟨cl23, Ar23, Sz23, Hf23⟩ := A_a1
  obtain ⟨T23, h23, X23, e23, W23, st23⟩ := stB X20 hx hZ e20 Ar23 (j := (7 : Int32)) (own_inb Sz23 ⟨by decide, by decide⟩) (g := (mkF m 33 #[.val (.ref a1), .val (.int p2)] [(.int p2), (.int (7 : Int32)), (.ref a1)])) rfl rfl (hb hby d6_33)
  have A_a1 : own_A Z h23 a1 .byte 8 (own_put (own_put (own_put (own_put (own_put (own_put (own_put (own_put f 0 (nar .byte p2)) 1 (nar .byte p2)) 2 (nar .byte p2)) 3 (nar .byte p2)) 4 (nar .byte p2)) 5 (nar .byte p2)) 6 (nar .byte p2)) 7 (nar .byte p2)) := own_A.set Ar23 Sz23 Hf23 W23
  have K := K.wr W23 (Or.inl (List.mem_of_getElem? (i := 0) rfl))
  have Z23 : n0 ≤ h23.size := Nat.le_trans Z20 (Keep.of_wr W23).1
  have N23 := Fr.snoc X23 N20 g_a1
  have pre24 : ∀ t, Steps p.tables e below (T23.setTop (mkF m 34 #[.val (.ref a1), .val (.int p2)] [])) t → Steps p.tables e below (s₁.setTop (entryFrame m #[(.ref a1), (.int p2)] 2)) t := fun t k => pre22 t (st23 t k)
  obtain ⟨fs, hr, hrun, hended, hW, hsame⟩ := X23.leave (v := none) (fun _ => rfl) hlk
  refine ⟨_, _, pre24 _ ?_, hrun, hended, _, _, rfl, ?_, ⟨_, rfl⟩, hW, hsame.mono (by decide) (by decide)⟩
  · show Steps p.tables e below (T23.setTop (mkF m 34 #[.val (.ref a1), .val (.int p2)] [])) _
    exact X23.returnOut hx Bd.returns (hb hby d6_34) hr
  · show QWp Z a1 p2 f h0 n0 _ T23.heap _
    rw [e23]
    exact ⟨rfl, N23, K⟩
theorem d10_0 : decode jdk_65_method_131_code 0 = .ok (.iload_n 1, 1) := by decide +kernel
theorem d10_1 : decode jdk_65_method_131_code 1 = .ok (.iload_n 0, 1) := by decide +kernel
theorem d10_2 : decode jdk_65_method_131_code 2 = .ok (.if_icmp .ge 35, 3) := by decide +kernel
theorem d10_37 : decode jdk_65_method_131_code 37 = .ok (.return_, 1) := by decide +kernel
theorem pn_Arrays : plainName "java/util/Arrays" = true := by first | (simp [plainName, overriddenIn]; done) | decide +kernel
theorem ef_10 (m : MethodId) (p1 : Int32) (p2 : Int32) : entryFrame m #[(.int p1), (.int p2)] 2 = mkF m 0 #[.val (.int p1), .val (.int p2)] [] := by first | (simp [entryFrame, mkF, argsToLocals, Value.category]; done) | rfl
def QCL (Z : State) (p1 : Int32) (p2 : Int32) (h0 : Heap) (n0 : Nat) (v : Option Value) (h : Heap) (L : List Loc) : Prop := v = none ∧ Fr n0 L ∧ h = h0
set_option maxRecDepth 65536 in
set_option maxHeartbeats 40000000 in
theorem rmCL (l : Launch) (Z : State) (a0 : Array Value) (hw : ∀ d ∈ tables_1, d.before a0 Z = true) (ws : List Jvm.Cond) (p1 : Int32) (p2 : Int32) (h0 : Heap) (n0 : Nat) (Z0 : n0 ≤ h0.size) (hle : ¬ (p2 < p1)) :
    MetFree l (⟨"java/util/Arrays", "checkLength", "(II)V"⟩ : MethodName) (head1 (Jvm.Cond.code (⟨"java/util/Arrays", "checkLength", "(II)V"⟩ : MethodName) jdk_65_method_131_code 2 none :: ws) ({ frames := 0, cells := 0, slots := 0, locals := 0 } : Room)) (fun aa U => aa = #[(.int p1), (.int p2)] ∧ Z.Warmed39 U.vm ∧ U.heap = h0) (fun _ _ _ _ _ => True) (fun _ U o U' => ∃ v L, o = .returned v ∧ QCL Z p1 p2 h0 n0 v U'.heap L ∧ FrameEnd U o U' L ({ frames := 0, cells := 0, slots := 0, locals := 0 } : Room).cells ({ frames := 0, cells := 0, slots := 0, locals := 0 } : Room).slots) := by
  refine MetFree.of_bodySF (plainFor_of_name pn_Arrays) hisR ?_
  intro p e s m args below meth c s₁ Bd hml0 hP hK
  obtain ⟨rfl, hZ, hh⟩ := hP
  have hx := Bd.exec
  have hby := Bd.bytes
  have hml : c.maxLocals = 2 := hml0
  have hown : s.vm.findClass "java/util/Arrays" = some m.cls := findClass_of_methodNamed Bd.named
  have hnm := (name_of_methodNamed Bd.named Bd.method).1
  have X0 : Stand p l e ({ frames := 0, cells := 0, slots := 0, locals := 0 } : Room) s m #[(.int p1), (.int p2)] below meth c s₁ [] 0 0 := Stand.of_body Bd
  have e0 : s₁.heap = h0 := by rw [← hh, Bd.state]; rfl
  have N0 := Fr.nil n0
  have hlk : meth.locks = false := by first | exact BodyLoose.notSynchronized Bd | exact Body.notSynchronized Bd
  have pre0 : ∀ t, Steps p.tables e below (s₁.setTop (mkF m 0 #[.val (.int p1), .val (.int p2)] [])) t → Steps p.tables e below (s₁.setTop (entryFrame m #[(.int p1), (.int p2)] 2)) t := fun t k => castTop (ef_10 m p1 p2) k
  have pre1 : ∀ t, Steps p.tables e below (s₁.setTop (mkF m 37 #[.val (.int p1), .val (.int p2)] [])) t → Steps p.tables e below (s₁.setTop (entryFrame m #[(.int p1), (.int p2)] 2)) t := fun t k => pre0 t (by
    show Steps p.tables e below (s₁.setTop (mkF m 0 #[.val (.int p1), .val (.int p2)] [])) _
    refine XS.iloadN X0.here hx rfl (hb hby d10_0) rfl ?_
    show Steps p.tables e below (s₁.setTop (mkF m 1 #[.val (.int p1), .val (.int p2)] [(.int p2)])) _
    refine XS.iloadN X0.here hx rfl (hb hby d10_1) rfl ?_
    show Steps p.tables e below (s₁.setTop (mkF m 2 #[.val (.int p1), .val (.int p2)] [(.int p1), (.int p2)])) _
    refine XS.icmpYes X0.here hx rfl (pc0 := 2) (pc' := 37) rfl (hb hby d10_2) rfl (flt (show ¬ (p2 < p1) from hle)).2.1 (by decide) (by decide) ?_
    show Steps p.tables e below (s₁.setTop (mkF m 37 #[.val (.int p1), .val (.int p2)] [])) _
    exact k)
  obtain ⟨fs, hr, hrun, hended, hW, hsame⟩ := X0.leave (v := none) (fun _ => rfl) hlk
  refine ⟨_, _, pre1 _ ?_, hrun, hended, _, _, rfl, ?_, ⟨_, rfl⟩, hW, hsame.mono (by decide) (by decide)⟩
  · show Steps p.tables e below (s₁.setTop (mkF m 37 #[.val (.int p1), .val (.int p2)] [])) _
    exact X0.returnOut hx Bd.returns (hb hby d10_37) hr
  · show QCL Z p1 p2 h0 n0 _ s₁.heap _
    rw [e0]
    exact ⟨rfl, N0, rfl⟩
theorem d11_0 : decode jdk_29_method_69_code 0 = .ok (.iload_n 0, 1) := by decide +kernel
theorem d11_1 : decode jdk_29_method_69_code 1 = .ok (.iload_n 1, 1) := by decide +kernel
theorem d11_2 : decode jdk_29_method_69_code 2 = .ok (.if_icmp .gt 7, 3) := by decide +kernel
theorem d11_5 : decode jdk_29_method_69_code 5 = .ok (.iload_n 0, 1) := by decide +kernel
theorem d11_6 : decode jdk_29_method_69_code 6 = .ok (.goto 4, 3) := by decide +kernel
theorem d11_9 : decode jdk_29_method_69_code 9 = .ok (.iload_n 1, 1) := by decide +kernel
theorem d11_10 : decode jdk_29_method_69_code 10 = .ok (.ireturn, 1) := by decide +kernel
theorem ef_11 (m : MethodId) (p1 : Int32) (p2 : Int32) : entryFrame m #[(.int p1), (.int p2)] 2 = mkF m 0 #[.val (.int p1), .val (.int p2)] [] := by first | (simp [entryFrame, mkF, argsToLocals, Value.category]; done) | rfl
def QMin (Z : State) (p1 : Int32) (p2 : Int32) (h0 : Heap) (n0 : Nat) (v : Option Value) (h : Heap) (L : List Loc) : Prop := v = some (.int (own_min p1 p2)) ∧ Fr n0 L ∧ h = h0
set_option maxRecDepth 65536 in
set_option maxHeartbeats 40000000 in
theorem rmMin (l : Launch) (Z : State) (a0 : Array Value) (hw : ∀ d ∈ tables_1, d.before a0 Z = true) (ws : List Jvm.Cond) (p1 : Int32) (p2 : Int32) (h0 : Heap) (n0 : Nat) (Z0 : n0 ≤ h0.size) :
    MetFree l (⟨"java/lang/Math", "min", "(II)I"⟩ : MethodName) (head1 (Jvm.Cond.code (⟨"java/lang/Math", "min", "(II)I"⟩ : MethodName) jdk_29_method_69_code 2 (some .int) :: ws) ({ frames := 0, cells := 0, slots := 0, locals := 0 } : Room)) (fun aa U => aa = #[(.int p1), (.int p2)] ∧ Z.Warmed39 U.vm ∧ U.heap = h0) (fun _ _ _ _ _ => True) (fun _ U o U' => ∃ v L, o = .returned v ∧ QMin Z p1 p2 h0 n0 v U'.heap L ∧ FrameEnd U o U' L ({ frames := 0, cells := 0, slots := 0, locals := 0 } : Room).cells ({ frames := 0, cells := 0, slots := 0, locals := 0 } : Room).slots) := by
  refine MetFree.of_bodySF (Jvm.Free.JP.mathPlain rfl (by decide +kernel)) hisR ?_
  intro p e s m args below meth c s₁ Bd hml0 hP hK
  obtain ⟨rfl, hZ, hh⟩ := hP
  have hx := Bd.exec
  have hby := Bd.bytes
  have hml : c.maxLocals = 2 := hml0
  have hown : s.vm.findClass "java/lang/Math" = some m.cls := findClass_of_methodNamed Bd.named
  have hnm := (name_of_methodNamed Bd.named Bd.method).1
  have X0 : Stand p l e ({ frames := 0, cells := 0, slots := 0, locals := 0 } : Room) s m #[(.int p1), (.int p2)] below meth c s₁ [] 0 0 := Stand.of_body Bd
  have e0 : s₁.heap = h0 := by rw [← hh, Bd.state]; rfl
  have N0 := Fr.nil n0
  have hlk : meth.locks = false := by first | exact BodyLoose.notSynchronized Bd | exact Body.notSynchronized Bd
  have pre0 : ∀ t, Steps p.tables e below (s₁.setTop (mkF m 0 #[.val (.int p1), .val (.int p2)] [])) t → Steps p.tables e below (s₁.setTop (entryFrame m #[(.int p1), (.int p2)] 2)) t := fun t k => castTop (ef_11 m p1 p2) k
  have pre1 : ∀ t, Steps p.tables e below (s₁.setTop (mkF m 2 #[.val (.int p1), .val (.int p2)] [(.int p2), (.int p1)])) t → Steps p.tables e below (s₁.setTop (entryFrame m #[(.int p1), (.int p2)] 2)) t := fun t k => pre0 t (by
    show Steps p.tables e below (s₁.setTop (mkF m 0 #[.val (.int p1), .val (.int p2)] [])) _
    refine XS.iloadN X0.here hx rfl (hb hby d11_0) rfl ?_
    show Steps p.tables e below (s₁.setTop (mkF m 1 #[.val (.int p1), .val (.int p2)] [(.int p1)])) _
    refine XS.iloadN X0.here hx rfl (hb hby d11_1) rfl ?_
    show Steps p.tables e below (s₁.setTop (mkF m 2 #[.val (.int p1), .val (.int p2)] [(.int p2), (.int p1)])) _
    exact k)
  by_cases hc2_2 : p2 < p1
  · have pre3 : ∀ t, Steps p.tables e below (s₁.setTop (mkF m 10 #[.val (.int p1), .val (.int p2)] [(.int p2)])) t → Steps p.tables e below (s₁.setTop (entryFrame m #[(.int p1), (.int p2)] 2)) t := fun t k => pre1 t (by
      show Steps p.tables e below (s₁.setTop (mkF m 2 #[.val (.int p1), .val (.int p2)] [(.int p2), (.int p1)])) _
      refine XS.icmpYes X0.here hx rfl (pc0 := 2) (pc' := 9) rfl (hb hby d11_2) rfl (tlt hc2_2).2.2.1 (by decide) (by decide) ?_
      show Steps p.tables e below (s₁.setTop (mkF m 9 #[.val (.int p1), .val (.int p2)] [])) _
      refine XS.iloadN X0.here hx rfl (hb hby d11_9) rfl ?_
      show Steps p.tables e below (s₁.setTop (mkF m 10 #[.val (.int p1), .val (.int p2)] [(.int p2)])) _
      exact k)
    obtain ⟨fs, hr, hrun, hended, hW, hsame⟩ := X0.leave (v := some (.int p2)) (fun h => by rw [Bd.returns] at h; cases h) hlk
    refine ⟨_, _, pre3 _ ?_, hrun, hended, _, _, rfl, ?_, ⟨_, rfl⟩, hW, hsame.mono (by decide) (by decide)⟩
    · show Steps p.tables e below (s₁.setTop (mkF m 10 #[.val (.int p1), .val (.int p2)] [(.int p2)])) _
      exact retI X0 hx Bd.returns (hb hby d11_10) hr
    · show QMin Z p1 p2 h0 n0 _ s₁.heap _
      rw [e0]
      exact ⟨by simp only [own_min, if_pos hc2_2], N0, rfl⟩
  · have pre4 : ∀ t, Steps p.tables e below (s₁.setTop (mkF m 10 #[.val (.int p1), .val (.int p2)] [(.int p1)])) t → Steps p.tables e below (s₁.setTop (entryFrame m #[(.int p1), (.int p2)] 2)) t := fun t k => pre1 t (by
      show Steps p.tables e below (s₁.setTop (mkF m 2 #[.val (.int p1), .val (.int p2)] [(.int p2), (.int p1)])) _
      refine XS.icmpNo X0.here hx rfl (hb hby d11_2) rfl (flt hc2_2).2.2.1 ?_
      show Steps p.tables e below (s₁.setTop (mkF m 5 #[.val (.int p1), .val (.int p2)] [])) _
      refine XS.iloadN X0.here hx rfl (hb hby d11_5) rfl ?_
      show Steps p.tables e below (s₁.setTop (mkF m 6 #[.val (.int p1), .val (.int p2)] [(.int p1)])) _
      refine XS.goto X0.here hx rfl (pc0 := 6) (pc' := 10) rfl (hb hby d11_6) (by decide) (by decide) ?_
      show Steps p.tables e below (s₁.setTop (mkF m 10 #[.val (.int p1), .val (.int p2)] [(.int p1)])) _
      exact k)
    obtain ⟨fs, hr, hrun, hended, hW, hsame⟩ := X0.leave (v := some (.int p1)) (fun h => by rw [Bd.returns] at h; cases h) hlk
    refine ⟨_, _, pre4 _ ?_, hrun, hended, _, _, rfl, ?_, ⟨_, rfl⟩, hW, hsame.mono (by decide) (by decide)⟩
    · show Steps p.tables e below (s₁.setTop (mkF m 10 #[.val (.int p1), .val (.int p2)] [(.int p1)])) _
      exact retI X0 hx Bd.returns (hb hby d11_10) hr
    · show QMin Z p1 p2 h0 n0 _ s₁.heap _
      rw [e0]
      exact ⟨by simp only [own_min, if_neg hc2_2], N0, rfl⟩
theorem pd_7 : parseMethodDescriptor "(II)V" = some ⟨[.int, .int], none⟩ := by decide +kernel
theorem pd_8 : parseMethodDescriptor "(II)I" = some ⟨[.int, .int], some .int⟩ := by decide +kernel
theorem d9_0 : decode jdk_65_method_133_code 0 = .ok (.iload_n 1, 1) := by decide +kernel
theorem d9_1 : decode jdk_65_method_133_code 1 = .ok (.iload_n 2, 1) := by decide +kernel
theorem d9_2 : decode jdk_65_method_133_code 2 = .ok (.invokestatic 343, 3) := by decide +kernel
theorem d9_5 : decode jdk_65_method_133_code 5 = .ok (.iload_n 2, 1) := by decide +kernel
theorem d9_6 : decode jdk_65_method_133_code 6 = .ok (.iload_n 1, 1) := by decide +kernel
theorem d9_7 : decode jdk_65_method_133_code 7 = .ok (.isub, 1) := by decide +kernel
theorem d9_8 : decode jdk_65_method_133_code 8 = .ok (.istore_n 3, 1) := by decide +kernel
theorem d9_9 : decode jdk_65_method_133_code 9 = .ok (.iload_n 3, 1) := by decide +kernel
theorem d9_10 : decode jdk_65_method_133_code 10 = .ok (.newarray .byte, 2) := by decide +kernel
theorem d9_12 : decode jdk_65_method_133_code 12 = .ok (.astore 4, 2) := by decide +kernel
theorem d9_14 : decode jdk_65_method_133_code 14 = .ok (.aload_n 0, 1) := by decide +kernel
theorem d9_15 : decode jdk_65_method_133_code 15 = .ok (.iload_n 1, 1) := by decide +kernel
theorem d9_16 : decode jdk_65_method_133_code 16 = .ok (.aload 4, 2) := by decide +kernel
theorem d9_18 : decode jdk_65_method_133_code 18 = .ok (.iconst 0, 1) := by decide +kernel
theorem d9_19 : decode jdk_65_method_133_code 19 = .ok (.aload_n 0, 1) := by decide +kernel
theorem d9_20 : decode jdk_65_method_133_code 20 = .ok (.arraylength, 1) := by decide +kernel
theorem d9_21 : decode jdk_65_method_133_code 21 = .ok (.iload_n 1, 1) := by decide +kernel
theorem d9_22 : decode jdk_65_method_133_code 22 = .ok (.isub, 1) := by decide +kernel
theorem d9_23 : decode jdk_65_method_133_code 23 = .ok (.iload_n 3, 1) := by decide +kernel
theorem d9_24 : decode jdk_65_method_133_code 24 = .ok (.invokestatic 304, 3) := by decide +kernel
theorem d9_27 : decode jdk_65_method_133_code 27 = .ok (.invokestatic 150, 3) := by decide +kernel
theorem d9_30 : decode jdk_65_method_133_code 30 = .ok (.aload 4, 2) := by decide +kernel
theorem d9_32 : decode jdk_65_method_133_code 32 = .ok (.areturn, 1) := by decide +kernel
theorem ef_9 (m : MethodId) (a1 : Addr) (p2 : Int32) (p3 : Int32) : entryFrame m #[(.ref a1), (.int p2), (.int p3)] 5 = mkF m 0 #[.val (.ref a1), .val (.int p2), .val (.int p3), .unset, .unset] [] := by first | (simp [entryFrame, mkF, argsToLocals, Value.category]; done) | rfl
def QCB (Z : State) (a1 : Addr) (p2 : Int32) (p3 : Int32) (f : Nat → Int32) (fr : Nat) (mm : Nat) (h0 : Heap) (n0 : Nat) (v : Option Value) (h : Heap) (L : List Loc) : Prop := v = some (.ref h0.size) ∧ Fr n0 L ∧ Keep h0 h [] ∧ own_A Z h h0.size .byte mm (fun i => f (fr + i))
set_option maxRecDepth 65536 in
set_option maxHeartbeats 40000000 in
theorem rmCB (l : Launch) (Z : State) (a0 : Array Value) (hw : ∀ d ∈ tables_1, d.before a0 Z = true) (ws : List Jvm.Cond) (a1 : Addr) (p2 : Int32) (p3 : Int32) (f : Nat → Int32) (fr : Nat) (mm : Nat) (h0 : Heap) (n0 : Nat) (Z0 : n0 ≤ h0.size) (A_a1 : own_A Z h0 a1 .byte 8 f) (hf : ∀ i, i < 8 → fits .byte (.int (f i)) = true) (h2 : p2.toInt = fr) (h3 : p3.toInt = fr + mm) (h8 : fr + mm ≤ 8) :
    MetFree l (⟨"java/util/Arrays", "copyOfRangeByte", "([BII)[B"⟩ : MethodName) (head1 (Jvm.Cond.code (⟨"java/util/Arrays", "copyOfRangeByte", "([BII)[B"⟩ : MethodName) jdk_65_method_133_code 5 (some (.array .byte)) :: ws) ({ frames := 1, cells := 1, slots := 8, locals := 18 } : Room)) (fun aa U => aa = #[(.ref a1), (.int p2), (.int p3)] ∧ Z.Warmed39 U.vm ∧ U.heap = h0) (fun _ _ _ _ _ => True) (fun _ U o U' => ∃ v L, o = .returned v ∧ QCB Z a1 p2 p3 f fr mm h0 n0 v U'.heap L ∧ FrameEnd U o U' L ({ frames := 1, cells := 1, slots := 8, locals := 18 } : Room).cells ({ frames := 1, cells := 1, slots := 8, locals := 18 } : Room).slots) := by
  refine MetFree.of_bodySF (plainFor_of_name pn_Arrays) hisR ?_
  intro p e s m args below meth c s₁ Bd hml0 hP hK
  obtain ⟨rfl, hZ, hh⟩ := hP
  have hx := Bd.exec
  have hby := Bd.bytes
  have hml : c.maxLocals = 5 := hml0
  have hown : s.vm.findClass "java/util/Arrays" = some m.cls := findClass_of_methodNamed Bd.named
  have hnm := (name_of_methodNamed Bd.named Bd.method).1
  have X0 : Stand p l e ({ frames := 1, cells := 1, slots := 8, locals := 18 } : Room) s m #[(.ref a1), (.int p2), (.int p3)] below meth c s₁ [] 0 0 := Stand.of_body Bd
  have e0 : s₁.heap = h0 := by rw [← hh, Bd.state]; rfl
  have N0 := Fr.nil n0
  have hlk : meth.locks = false := by first | exact BodyLoose.notSynchronized Bd | exact Body.notSynchronized Bd
  have pre0 : ∀ t, Steps p.tables e below (s₁.setTop (mkF m 0 #[.val (.ref a1), .val (.int p2), .val (.int p3), .unset, .unset] [])) t → Steps p.tables e below (s₁.setTop (entryFrame m #[(.ref a1), (.int p2), (.int p3)] 5)) t := fun t k => castTop (ef_9 m a1 p2 p3) k
  have K : Keep h0 h0 [] := Keep.refl _ _
  have pre1 : ∀ t, Steps p.tables e below (s₁.setTop (mkF m 2 #[.val (.ref a1), .val (.int p2), .val (.int p3), .unset, .unset] [(.int p3), (.int p2)])) t → Steps p.tables e below (s₁.setTop (entryFrame m #[(.ref a1), (.int p2), (.int p3)] 5)) t := fun t k => pre0 t (by
    show Steps p.tables e below (s₁.setTop (mkF m 0 #[.val (.ref a1), .val (.int p2), .val (.int p3), .unset, .unset] [])) _
    refine XS.iloadN X0.here hx rfl (hb hby d9_0) rfl ?_
    show Steps p.tables e below (s₁.setTop (mkF m 1 #[.val (.ref a1), .val (.int p2), .val (.int p3), .unset, .unset] [(.int p2)])) _
    refine XS.iloadN X0.here hx rfl (hb hby d9_1) rfl ?_
    show Steps p.tables e below (s₁.setTop (mkF m 2 #[.val (.ref a1), .val (.int p2), .val (.int p3), .unset, .unset] [(.int p3), (.int p2)])) _
    exact k)
  obtain ⟨_, _, ⟨T2, L2, k2, n2⟩, -, X2, ⟨Lc2, hQ2, l2, y2, z2⟩, st2⟩ := Jvm.LawKit.callS X0 hx (y := (⟨"java/util/Arrays", "checkLength", "(II)V"⟩ : MethodName)) hown (mvT hZ (hw _ (List.mem_of_getElem? (i := 49) rfl))) (mvT hZ (hw _ (List.mem_of_getElem? (i := 50) rfl))) (mvT hZ (hw _ (List.mem_of_getElem? (i := 44) rfl))) (mvT hZ (hw _ (List.mem_of_getElem? (i := 51) rfl))) (by decide) (backOf (W := 0) (rmCL l Z a0 hw [] p2 p3 h0 n0 Z0 (own_le h2 h3 h8)) hZ (hw _ (List.mem_of_getElem? (i := 51) rfl)) (hw _ (List.mem_of_getElem? (i := 44) rfl)) (by decide) (by decide)) (g := (mkF m 2 #[.val (.ref a1), .val (.int p2), .val (.int p3), .unset, .unset] [(.int p3), (.int p2)])) rfl (by rw [hml]; rfl) (argsL := [(.int p2), (.int p3)]) (rest := []) (lenOf pd_7 rfl) rfl (by show 2 * 0 + _ ≤ _; exact Nat.le_of_eq rfl) (hb hby d9_2) (fun _ _ => ⟨rfl, e0, (by decide : 0 + 0 ≤ _), (by decide : 0 + 0 ≤ _)⟩)
  dsimp only [Pt.U, Pt.locs, Pt.cells, Pt.slots] at X2 l2 y2 z2 st2 hQ2
  subst l2 y2 z2
  obtain ⟨rfl, N2q, e2⟩ := hQ2
  have N2 := Fr.app N0 N2q
  have pre3 : ∀ t, Steps p.tables e below (T2.setTop (mkF m 5 #[.val (.ref a1), .val (.int p2), .val (.int p3), .unset, .unset] [])) t → Steps p.tables e below (s₁.setTop (entryFrame m #[(.ref a1), (.int p2), (.int p3)] 5)) t := fun t k => pre1 t (st2 t k)
  have pre4 : ∀ t, Steps p.tables e below (T2.setTop (mkF m 10 #[.val (.ref a1), .val (.int p2), .val (.int p3), .val (.int (p3 - p2)), .unset] [(.int (p3 - p2))])) t → Steps p.tables e below (s₁.setTop (entryFrame m #[(.ref a1), (.int p2), (.int p3)] 5)) t := fun t k => pre3 t (by
    show Steps p.tables e below (T2.setTop (mkF m 5 #[.val (.ref a1), .val (.int p2), .val (.int p3), .unset, .unset] [])) _
    refine XS.iloadN X2.here hx rfl (hb hby d9_5) rfl ?_
    show Steps p.tables e below (T2.setTop (mkF m 6 #[.val (.ref a1), .val (.int p2), .val (.int p3), .unset, .unset] [(.int p3)])) _
    refine XS.iloadN X2.here hx rfl (hb hby d9_6) rfl ?_
    show Steps p.tables e below (T2.setTop (mkF m 7 #[.val (.ref a1), .val (.int p2), .val (.int p3), .unset, .unset] [(.int p2), (.int p3)])) _
    refine XS.isub X2.here hx rfl (hb hby d9_7) rfl ?_
    show Steps p.tables e below (T2.setTop (mkF m 8 #[.val (.ref a1), .val (.int p2), .val (.int p3), .unset, .unset] [(.int (p3 - p2))])) _
    refine XS.istoreN X2.here hx rfl (hb hby d9_8) rfl (l' := #[.val (.ref a1), .val (.int p2), .val (.int p3), .val (.int (p3 - p2)), .unset]) rfl ?_
    show Steps p.tables e below (T2.setTop (mkF m 9 #[.val (.ref a1), .val (.int p2), .val (.int p3), .val (.int (p3 - p2)), .unset] [])) _
    refine XS.iloadN X2.here hx rfl (hb hby d9_9) rfl ?_
    show Steps p.tables e below (T2.setTop (mkF m 10 #[.val (.ref a1), .val (.int p2), .val (.int p3), .val (.int (p3 - p2)), .unset] [(.int (p3 - p2))])) _
    exact k)
  obtain ⟨T5, h5, k5, X5, e5, E5, A5, st5⟩ := newP X2 hx hZ (hw _ (List.mem_of_getElem? (i := 1) rfl)) e2 (g := (mkF m 10 #[.val (.ref a1), .val (.int p2), .val (.int p3), .val (.int (p3 - p2)), .unset] [(.int (p3 - p2))])) rfl (hb hby d9_10) rfl (own_n1 h2 h3 h8) (cap := 8) (own_n2 h2 h3 h8) (by decide) (by decide) (by decide)
  obtain ⟨b5, g5⟩ : ∃ z, z = h0.size := ⟨_, rfl⟩
  rw [← g5] at A5 st5
  have g_b5 : n0 ≤ b5 := Nat.le_trans Z0 (Nat.le_of_eq g5.symm)
  have sz_b5 : h0.size ≤ b5 := Nat.le_trans K.1 (Nat.le_of_eq g5.symm)
  have ne_a1_b5 : a1 ≠ b5 := Nat.ne_of_lt (Nat.lt_of_lt_of_le A_a1.lt (Nat.le_of_eq g5.symm))
  have A_a1 := A_a1.ext E5
  have K := K.ext E5
  have Z5 : n0 ≤ h5.size := Nat.le_trans Z0 E5.1
  have A_b5 : own_A Z h5 b5 .byte mm (fun _ => (0 : Int32)) := own_A.new A5 (own_n3 h2 h3 h8) rfl
  have pre6 : ∀ t, Steps p.tables e below (T5.setTop (mkF m 12 #[.val (.ref a1), .val (.int p2), .val (.int p3), .val (.int (p3 - p2)), .unset] [(.ref b5)])) t → Steps p.tables e below (s₁.setTop (entryFrame m #[(.ref a1), (.int p2), (.int p3)] 5)) t := fun t k => pre4 t (st5 t k)
  have pre7 : ∀ t, Steps p.tables e below (T5.setTop (mkF m 20 #[.val (.ref a1), .val (.int p2), .val (.int p3), .val (.int (p3 - p2)), .val (.ref b5)] [(.ref a1), (.int (0 : Int32)), (.ref b5), (.int p2), (.ref a1)])) t → Steps p.tables e below (s₁.setTop (entryFrame m #[(.ref a1), (.int p2), (.int p3)] 5)) t := fun t k => pre6 t (by
    show Steps p.tables e below (T5.setTop (mkF m 12 #[.val (.ref a1), .val (.int p2), .val (.int p3), .val (.int (p3 - p2)), .unset] [(.ref b5)])) _
    refine XS.astore X5.here hx rfl (hb hby d9_12) rfl rfl (l' := #[.val (.ref a1), .val (.int p2), .val (.int p3), .val (.int (p3 - p2)), .val (.ref b5)]) rfl ?_
    show Steps p.tables e below (T5.setTop (mkF m 14 #[.val (.ref a1), .val (.int p2), .val (.int p3), .val (.int (p3 - p2)), .val (.ref b5)] [])) _
    refine XS.aloadN X5.here hx rfl (hb hby d9_14) rfl rfl ?_
    show Steps p.tables e below (T5.setTop (mkF m 15 #[.val (.ref a1), .val (.int p2), .val (.int p3), .val (.int (p3 - p2)), .val (.ref b5)] [(.ref a1)])) _
    refine XS.iloadN X5.here hx rfl (hb hby d9_15) rfl ?_
    show Steps p.tables e below (T5.setTop (mkF m 16 #[.val (.ref a1), .val (.int p2), .val (.int p3), .val (.int (p3 - p2)), .val (.ref b5)] [(.int p2), (.ref a1)])) _
    refine XS.aload X5.here hx rfl (hb hby d9_16) rfl rfl ?_
    show Steps p.tables e below (T5.setTop (mkF m 18 #[.val (.ref a1), .val (.int p2), .val (.int p3), .val (.int (p3 - p2)), .val (.ref b5)] [(.ref b5), (.int p2), (.ref a1)])) _
    refine XS.iconst X5.here hx rfl (hb hby d9_18) ?_
    show Steps p.tables e below (T5.setTop (mkF m 19 #[.val (.ref a1), .val (.int p2), .val (.int p3), .val (.int (p3 - p2)), .val (.ref b5)] [(.int (0 : Int32)), (.ref b5), (.int p2), (.ref a1)])) _
    refine XS.aloadN X5.here hx rfl (hb hby d9_19) rfl rfl ?_
    show Steps p.tables e below (T5.setTop (mkF m 20 #[.val (.ref a1), .val (.int p2), .val (.int p3), .val (.int (p3 - p2)), .val (.ref b5)] [(.ref a1), (.int (0 : Int32)), (.ref b5), (.int p2), (.ref a1)])) _
    exact k)
  obtain ⟨cl8, Ar8, Sz8, Hf8⟩ := id A_a1
  have pre9 : ∀ t, Steps p.tables e below (T5.setTop (mkF m 21 #[.val (.ref a1), .val (.int p2), .val (.int p3), .val (.int (p3 - p2)), .val (.ref b5)] [(.int (8 : Int32)), (.int (0 : Int32)), (.ref b5), (.int p2), (.ref a1)])) t → Steps p.tables e below (s₁.setTop (entryFrame m #[(.ref a1), (.int p2), (.int p3)] 5)) t := fun t k => pre7 t (X5.arraylength hx (by rw [e5]; exact Ar8.1) (State.isArrayOf_alike hZ.alike Ar8.2.1) (g := (mkF m 20 #[.val (.ref a1), .val (.int p2), .val (.int p3), .val (.int (p3 - p2)), .val (.ref b5)] [(.ref a1), (.int (0 : Int32)), (.ref b5), (.int p2), (.ref a1)])) rfl rfl (hb hby d9_20) _ (by rw [own_len Sz8 rfl]; exact k))
  have pre10 : ∀ t, Steps p.tables e below (T5.setTop (mkF m 24 #[.val (.ref a1), .val (.int p2), .val (.int p3), .val (.int (p3 - p2)), .val (.ref b5)] [(.int (p3 - p2)), (.int ((8 : Int32) - p2)), (.int (0 : Int32)), (.ref b5), (.int p2), (.ref a1)])) t → Steps p.tables e below (s₁.setTop (entryFrame m #[(.ref a1), (.int p2), (.int p3)] 5)) t := fun t k => pre9 t (by
    show Steps p.tables e below (T5.setTop (mkF m 21 #[.val (.ref a1), .val (.int p2), .val (.int p3), .val (.int (p3 - p2)), .val (.ref b5)] [(.int (8 : Int32)), (.int (0 : Int32)), (.ref b5), (.int p2), (.ref a1)])) _
    refine XS.iloadN X5.here hx rfl (hb hby d9_21) rfl ?_
    show Steps p.tables e below (T5.setTop (mkF m 22 #[.val (.ref a1), .val (.int p2), .val (.int p3), .val (.int (p3 - p2)), .val (.ref b5)] [(.int p2), (.int (8 : Int32)), (.int (0 : Int32)), (.ref b5), (.int p2), (.ref a1)])) _
    refine XS.isub X5.here hx rfl (hb hby d9_22) rfl ?_
    show Steps p.tables e below (T5.setTop (mkF m 23 #[.val (.ref a1), .val (.int p2), .val (.int p3), .val (.int (p3 - p2)), .val (.ref b5)] [(.int ((8 : Int32) - p2)), (.int (0 : Int32)), (.ref b5), (.int p2), (.ref a1)])) _
    refine XS.iloadN X5.here hx rfl (hb hby d9_23) rfl ?_
    show Steps p.tables e below (T5.setTop (mkF m 24 #[.val (.ref a1), .val (.int p2), .val (.int p3), .val (.int (p3 - p2)), .val (.ref b5)] [(.int (p3 - p2)), (.int ((8 : Int32) - p2)), (.int (0 : Int32)), (.ref b5), (.int p2), (.ref a1)])) _
    exact k)
  obtain ⟨_, _, ⟨T11, L11, k11, n11⟩, -, X11, ⟨Lc11, hQ11, l11, y11, z11⟩, st11⟩ := Jvm.LawKit.callS X5 hx (y := (⟨"java/lang/Math", "min", "(II)I"⟩ : MethodName)) hown (mvT hZ (hw _ (List.mem_of_getElem? (i := 52) rfl))) (mvT hZ (hw _ (List.mem_of_getElem? (i := 53) rfl))) (mvT hZ (hw _ (List.mem_of_getElem? (i := 54) rfl))) (mvT hZ (hw _ (List.mem_of_getElem? (i := 55) rfl))) (by decide) (backOf (W := 4) (rmMin l Z a0 hw [] ((8 : Int32) - p2) (p3 - p2) h5 n0 Z5) hZ (hw _ (List.mem_of_getElem? (i := 55) rfl)) (hw _ (List.mem_of_getElem? (i := 54) rfl)) (by decide) (by decide)) (g := (mkF m 24 #[.val (.ref a1), .val (.int p2), .val (.int p3), .val (.int (p3 - p2)), .val (.ref b5)] [(.int (p3 - p2)), (.int ((8 : Int32) - p2)), (.int (0 : Int32)), (.ref b5), (.int p2), (.ref a1)])) rfl (by rw [hml]; rfl) (argsL := [(.int ((8 : Int32) - p2)), (.int (p3 - p2))]) (rest := [(.int (0 : Int32)), (.ref b5), (.int p2), (.ref a1)]) (lenOf pd_8 rfl) rfl (by show 2 * 0 + _ ≤ _; exact Nat.le_of_eq rfl) (hb hby d9_24) (fun _ _ => ⟨rfl, e5, (by decide : 1 + 0 ≤ _), (by decide : 8 + 0 ≤ _)⟩)
  dsimp only [Pt.U, Pt.locs, Pt.cells, Pt.slots] at X11 l11 y11 z11 st11 hQ11
  subst l11 y11 z11
  obtain ⟨rfl, N11q, e11⟩ := hQ11
  have N11 := Fr.app N2 N11q
  have pre12 : ∀ t, Steps p.tables e below (T11.setTop (mkF m 27 #[.val (.ref a1), .val (.int p2), .val (.int p3), .val (.int (p3 - p2)), .val (.ref b5)] [(.int (own_min ((8 : Int32) - p2) (p3 - p2))), (.int (0 : Int32)), (.ref b5), (.int p2), (.ref a1)])) t → Steps p.tables e below (s₁.setTop (entryFrame m #[(.ref a1), (.int p2), (.int p3)] 5)) t := fun t k => pre10 t (st11 t k)
  have pre13 : ∀ t, Steps p.tables e below (T11.setTop (mkF m 27 #[.val (.ref a1), .val (.int p2), .val (.int p3), .val (.int (p3 - p2)), .val (.ref b5)] [(.int (p3 - p2)), (.int (0 : Int32)), (.ref b5), (.int p2), (.ref a1)])) t → Steps p.tables e below (s₁.setTop (entryFrame m #[(.ref a1), (.int p2), (.int p3)] 5)) t := fun t k => pre12 t (Eq.subst (motive := fun xI => Steps p.tables e below (T11.setTop (mkF m 27 #[.val (.ref a1), .val (.int p2), .val (.int p3), .val (.int (p3 - p2)), .val (.ref b5)] [(.int xI), (.int (0 : Int32)), (.ref b5), (.int p2), (.ref a1)])) t) (Eq.symm (own_mn h2 h3 h8)) k)
  obtain ⟨T14, h14, L14, X14, e14, N14, K14, u14, st14⟩ := own_cp X11 hx hZ hown (hw _ (List.mem_of_getElem? (i := 56) rfl)) (hw _ (List.mem_of_getElem? (i := 59) rfl)) (hw _ (List.mem_of_getElem? (i := 57) rfl)) (hw _ (List.mem_of_getElem? (i := 58) rfl)) e11 A_a1 A_b5 hf (fun _ _ => rfl) (by decide) (own_m31 h8) (own_s0 h2) (by decide) (own_n1 h2 h3 h8) (own_s4 h2 h3 h8) (own_s5 h2 h3 h8) N11 g_b5 (g := (mkF m 27 #[.val (.ref a1), .val (.int p2), .val (.int p3), .val (.int (p3 - p2)), .val (.ref b5)] [(.int (p3 - p2)), (.int (0 : Int32)), (.ref b5), (.int p2), (.ref a1)])) rfl (by rw [hml]; rfl) rfl (hb hby d9_27) (by decide) (W := 0) (by show 2 * 0 + _ ≤ _; exact Nat.le_of_eq rfl) (by decide)
  have A_a1 := A_a1.keep K14 (ninS ne_a1_b5 nin0)
  have K := K.trans K14 (allS (Or.inr sz_b5) all0)
  have Z14 : n0 ≤ h14.size := Nat.le_trans Z5 K14.1
  have A_b5 : own_A Z h14 b5 .byte mm (fun i => f (fr + i)) := own_A.congr u14 (own_cps f h2 h3 h8)
  have pre15 : ∀ t, Steps p.tables e below (T14.setTop (mkF m 30 #[.val (.ref a1), .val (.int p2), .val (.int p3), .val (.int (p3 - p2)), .val (.ref b5)] [])) t → Steps p.tables e below (s₁.setTop (entryFrame m #[(.ref a1), (.int p2), (.int p3)] 5)) t := fun t k => pre13 t (st14 t k)
  have pre16 : ∀ t, Steps p.tables e below (T14.setTop (mkF m 32 #[.val (.ref a1), .val (.int p2), .val (.int p3), .val (.int (p3 - p2)), .val (.ref b5)] [(.ref b5)])) t → Steps p.tables e below (s₁.setTop (entryFrame m #[(.ref a1), (.int p2), (.int p3)] 5)) t := fun t k => pre15 t (by
    show Steps p.tables e below (T14.setTop (mkF m 30 #[.val (.ref a1), .val (.int p2), .val (.int p3), .val (.int (p3 - p2)), .val (.ref b5)] [])) _
    refine XS.aload X14.here hx rfl (hb hby d9_30) rfl rfl ?_
    show Steps p.tables e below (T14.setTop (mkF m 32 #[.val (.ref a1), .val (.int p2), .val (.int p3), .val (.int (p3 - p2)), .val (.ref b5)] [(.ref b5)])) _
    exact k)
  obtain ⟨fs, hr, hrun, hended, hW, hsame⟩ := X14.leave (v := some (.ref b5)) (fun h => by rw [Bd.returns] at h; cases h) hlk
  refine ⟨_, _, pre16 _ ?_, hrun, hended, _, _, rfl, ?_, ⟨_, rfl⟩, hW, hsame.mono (by decide) (by decide)⟩
  · show Steps p.tables e below (T14.setTop (mkF m 32 #[.val (.ref a1), .val (.int p2), .val (.int p3), .val (.int (p3 - p2)), .val (.ref b5)] [(.ref b5)])) _
    jvm_step X14.here [X14.here.top, hx, (hb hby d9_32), X14.method', Bd.returns, Value.isRef, FieldType.isReference]
    first | (intro acts; rw [hr _ acts rfl rfl rfl]) | rw [hr _ _ rfl rfl rfl]
    exact Steps.refl _
  · show QCB Z a1 p2 p3 f fr mm h0 n0 _ T14.heap _
    rw [e14]
    exact ⟨congrArg (fun z => some (Value.ref z)) g5, N14, K, (g5 ▸ A_b5)⟩
theorem pd_6 : parseMethodDescriptor "([BII)[B" = some ⟨[(.array .byte), .int, .int], some (.array .byte)⟩ := by decide +kernel
theorem d8_0 : decode jdk_65_method_132_code 0 = .ok (.iload_n 1, 1) := by decide +kernel
theorem d8_1 : decode jdk_65_method_132_code 1 = .ok (.ifCond .ne 9, 3) := by decide +kernel
theorem d8_4 : decode jdk_65_method_132_code 4 = .ok (.iload_n 2, 1) := by decide +kernel
theorem d8_5 : decode jdk_65_method_132_code 5 = .ok (.aload_n 0, 1) := by decide +kernel
theorem d8_6 : decode jdk_65_method_132_code 6 = .ok (.arraylength, 1) := by decide +kernel
theorem d8_7 : decode jdk_65_method_132_code 7 = .ok (.if_icmp .eq 10, 3) := by decide +kernel
theorem d8_10 : decode jdk_65_method_132_code 10 = .ok (.aload_n 0, 1) := by decide +kernel
theorem d8_11 : decode jdk_65_method_132_code 11 = .ok (.iload_n 1, 1) := by decide +kernel
theorem d8_12 : decode jdk_65_method_132_code 12 = .ok (.iload_n 2, 1) := by decide +kernel
theorem d8_13 : decode jdk_65_method_132_code 13 = .ok (.invokestatic 339, 3) := by decide +kernel
theorem d8_16 : decode jdk_65_method_132_code 16 = .ok (.areturn, 1) := by decide +kernel
theorem ef_8 (m : MethodId) (a1 : Addr) (p2 : Int32) (p3 : Int32) : entryFrame m #[(.ref a1), (.int p2), (.int p3)] 3 = mkF m 0 #[.val (.ref a1), .val (.int p2), .val (.int p3)] [] := by first | (simp [entryFrame, mkF, argsToLocals, Value.category]; done) | rfl
def QCR (Z : State) (a1 : Addr) (p2 : Int32) (p3 : Int32) (f : Nat → Int32) (fr : Nat) (mm : Nat) (h0 : Heap) (n0 : Nat) (v : Option Value) (h : Heap) (L : List Loc) : Prop := v = some (.ref h0.size) ∧ Fr n0 L ∧ Keep h0 h [] ∧ own_A Z h h0.size .byte mm (fun i => f (fr + i))
set_option maxRecDepth 65536 in
set_option maxHeartbeats 40000000 in
theorem rmCR (l : Launch) (Z : State) (a0 : Array Value) (hw : ∀ d ∈ tables_1, d.before a0 Z = true) (ws : List Jvm.Cond) (a1 : Addr) (p2 : Int32) (p3 : Int32) (f : Nat → Int32) (fr : Nat) (mm : Nat) (h0 : Heap) (n0 : Nat) (Z0 : n0 ≤ h0.size) (A_a1 : own_A Z h0 a1 .byte 8 f) (hf : ∀ i, i < 8 → fits .byte (.int (f i)) = true) (h2 : p2.toInt = fr) (h3 : p3.toInt = fr + mm) (h8 : fr + mm ≤ 8) (hne : ¬ (fr = 0 ∧ mm = 8)) :
    MetFree l (⟨"java/util/Arrays", "copyOfRange", "([BII)[B"⟩ : MethodName) (head1 (Jvm.Cond.code (⟨"java/util/Arrays", "copyOfRange", "([BII)[B"⟩ : MethodName) jdk_65_method_132_code 3 (some (.array .byte)) :: ws) ({ frames := 2, cells := 1, slots := 8, locals := 34 } : Room)) (fun aa U => aa = #[(.ref a1), (.int p2), (.int p3)] ∧ Z.Warmed39 U.vm ∧ U.heap = h0) (fun _ _ _ _ _ => True) (fun _ U o U' => ∃ v L, o = .returned v ∧ QCR Z a1 p2 p3 f fr mm h0 n0 v U'.heap L ∧ FrameEnd U o U' L ({ frames := 2, cells := 1, slots := 8, locals := 34 } : Room).cells ({ frames := 2, cells := 1, slots := 8, locals := 34 } : Room).slots) := by
  refine MetFree.of_bodySF (plainFor_of_name pn_Arrays) hisR ?_
  intro p e s m args below meth c s₁ Bd hml0 hP hK
  obtain ⟨rfl, hZ, hh⟩ := hP
  have hx := Bd.exec
  have hby := Bd.bytes
  have hml : c.maxLocals = 3 := hml0
  have hown : s.vm.findClass "java/util/Arrays" = some m.cls := findClass_of_methodNamed Bd.named
  have hnm := (name_of_methodNamed Bd.named Bd.method).1
  have X0 : Stand p l e ({ frames := 2, cells := 1, slots := 8, locals := 34 } : Room) s m #[(.ref a1), (.int p2), (.int p3)] below meth c s₁ [] 0 0 := Stand.of_body Bd
  have e0 : s₁.heap = h0 := by rw [← hh, Bd.state]; rfl
  have N0 := Fr.nil n0
  have hlk : meth.locks = false := by first | exact BodyLoose.notSynchronized Bd | exact Body.notSynchronized Bd
  have pre0 : ∀ t, Steps p.tables e below (s₁.setTop (mkF m 0 #[.val (.ref a1), .val (.int p2), .val (.int p3)] [])) t → Steps p.tables e below (s₁.setTop (entryFrame m #[(.ref a1), (.int p2), (.int p3)] 3)) t := fun t k => castTop (ef_8 m a1 p2 p3) k
  have K : Keep h0 h0 [] := Keep.refl _ _
  have pre1 : ∀ t, Steps p.tables e below (s₁.setTop (mkF m 1 #[.val (.ref a1), .val (.int p2), .val (.int p3)] [(.int p2)])) t → Steps p.tables e below (s₁.setTop (entryFrame m #[(.ref a1), (.int p2), (.int p3)] 3)) t := fun t k => pre0 t (by
    show Steps p.tables e below (s₁.setTop (mkF m 0 #[.val (.ref a1), .val (.int p2), .val (.int p3)] [])) _
    refine XS.iloadN X0.here hx rfl (hb hby d8_0) rfl ?_
    show Steps p.tables e below (s₁.setTop (mkF m 1 #[.val (.ref a1), .val (.int p2), .val (.int p3)] [(.int p2)])) _
    exact k)
  by_cases hc1_2 : p2 = (0 : Int32)
  · have pre3 : ∀ t, Steps p.tables e below (s₁.setTop (mkF m 6 #[.val (.ref a1), .val (.int p2), .val (.int p3)] [(.ref a1), (.int p3)])) t → Steps p.tables e below (s₁.setTop (entryFrame m #[(.ref a1), (.int p2), (.int p3)] 3)) t := fun t k => pre1 t (by
      show Steps p.tables e below (s₁.setTop (mkF m 1 #[.val (.ref a1), .val (.int p2), .val (.int p3)] [(.int p2)])) _
      refine XS.ifNo X0.here hx rfl (hb hby d8_1) rfl ((if0 _ _).trans (teq hc1_2).2) ?_
      show Steps p.tables e below (s₁.setTop (mkF m 4 #[.val (.ref a1), .val (.int p2), .val (.int p3)] [])) _
      refine XS.iloadN X0.here hx rfl (hb hby d8_4) rfl ?_
      show Steps p.tables e below (s₁.setTop (mkF m 5 #[.val (.ref a1), .val (.int p2), .val (.int p3)] [(.int p3)])) _
      refine XS.aloadN X0.here hx rfl (hb hby d8_5) rfl rfl ?_
      show Steps p.tables e below (s₁.setTop (mkF m 6 #[.val (.ref a1), .val (.int p2), .val (.int p3)] [(.ref a1), (.int p3)])) _
      exact k)
    obtain ⟨cl4, Ar4, Sz4, Hf4⟩ := id A_a1
    have pre5 : ∀ t, Steps p.tables e below (s₁.setTop (mkF m 7 #[.val (.ref a1), .val (.int p2), .val (.int p3)] [(.int (8 : Int32)), (.int p3)])) t → Steps p.tables e below (s₁.setTop (entryFrame m #[(.ref a1), (.int p2), (.int p3)] 3)) t := fun t k => pre3 t (X0.arraylength hx (by rw [e0]; exact Ar4.1) (State.isArrayOf_alike hZ.alike Ar4.2.1) (g := (mkF m 6 #[.val (.ref a1), .val (.int p2), .val (.int p3)] [(.ref a1), (.int p3)])) rfl rfl (hb hby d8_6) _ (by rw [own_len Sz4 rfl]; exact k))
    have pre6 : ∀ t, Steps p.tables e below (s₁.setTop (mkF m 13 #[.val (.ref a1), .val (.int p2), .val (.int p3)] [(.int p3), (.int p2), (.ref a1)])) t → Steps p.tables e below (s₁.setTop (entryFrame m #[(.ref a1), (.int p2), (.int p3)] 3)) t := fun t k => pre5 t (by
      show Steps p.tables e below (s₁.setTop (mkF m 7 #[.val (.ref a1), .val (.int p2), .val (.int p3)] [(.int (8 : Int32)), (.int p3)])) _
      refine XS.icmpNo X0.here hx rfl (hb hby d8_7) rfl (feq (show ¬ (p3 = (8 : Int32)) from own_n8 h2 h3 hne hc1_2)).1 ?_
      show Steps p.tables e below (s₁.setTop (mkF m 10 #[.val (.ref a1), .val (.int p2), .val (.int p3)] [])) _
      refine XS.aloadN X0.here hx rfl (hb hby d8_10) rfl rfl ?_
      show Steps p.tables e below (s₁.setTop (mkF m 11 #[.val (.ref a1), .val (.int p2), .val (.int p3)] [(.ref a1)])) _
      refine XS.iloadN X0.here hx rfl (hb hby d8_11) rfl ?_
      show Steps p.tables e below (s₁.setTop (mkF m 12 #[.val (.ref a1), .val (.int p2), .val (.int p3)] [(.int p2), (.ref a1)])) _
      refine XS.iloadN X0.here hx rfl (hb hby d8_12) rfl ?_
      show Steps p.tables e below (s₁.setTop (mkF m 13 #[.val (.ref a1), .val (.int p2), .val (.int p3)] [(.int p3), (.int p2), (.ref a1)])) _
      exact k)
    obtain ⟨_, _, ⟨T7, L7, k7, n7⟩, -, X7, ⟨Lc7, hQ7, l7, y7, z7⟩, st7⟩ := Jvm.LawKit.callS X0 hx (y := (⟨"java/util/Arrays", "copyOfRangeByte", "([BII)[B"⟩ : MethodName)) hown (mvT hZ (hw _ (List.mem_of_getElem? (i := 46) rfl))) (mvT hZ (hw _ (List.mem_of_getElem? (i := 47) rfl))) (mvT hZ (hw _ (List.mem_of_getElem? (i := 44) rfl))) (mvT hZ (hw _ (List.mem_of_getElem? (i := 48) rfl))) (by decide) (backOf (W := 0) (rmCB l Z a0 hw [] a1 p2 p3 f fr mm h0 n0 Z0 A_a1 hf h2 h3 h8) hZ (hw _ (List.mem_of_getElem? (i := 48) rfl)) (hw _ (List.mem_of_getElem? (i := 44) rfl)) (by decide) (by decide)) (g := (mkF m 13 #[.val (.ref a1), .val (.int p2), .val (.int p3)] [(.int p3), (.int p2), (.ref a1)])) rfl (by rw [hml]; rfl) (argsL := [(.ref a1), (.int p2), (.int p3)]) (rest := []) (lenOf pd_6 rfl) rfl (by show 2 * 0 + _ ≤ _; exact Nat.le_of_eq rfl) (hb hby d8_13) (fun _ _ => ⟨rfl, e0, (by decide : 0 + 1 ≤ _), (by decide : 0 + 8 ≤ _)⟩)
    dsimp only [Pt.U, Pt.locs, Pt.cells, Pt.slots] at X7 l7 y7 z7 st7 hQ7
    subst l7 y7 z7
    obtain ⟨rfl, N7q, K7, u7⟩ := hQ7
    obtain ⟨b7, g7⟩ : ∃ z, z = h0.size := ⟨_, rfl⟩
    rw [← g7] at u7 st7
    have g_b7 : n0 ≤ b7 := Nat.le_trans Z0 (Nat.le_of_eq g7.symm)
    have sz_b7 : h0.size ≤ b7 := Nat.le_trans K.1 (Nat.le_of_eq g7.symm)
    have ne_a1_b7 : a1 ≠ b7 := Nat.ne_of_lt (Nat.lt_of_lt_of_le A_a1.lt (Nat.le_of_eq g7.symm))
    have A_a1 := A_a1.keep K7 nin0
    have K := K.trans K7 all0
    have Z7 : n0 ≤ T7.heap.size := Nat.le_trans Z0 K7.1
    have A_b7 : own_A Z T7.heap b7 .byte mm (fun i => f (fr + i)) := u7
    have N7 := Fr.app N0 N7q
    have pre8 : ∀ t, Steps p.tables e below (T7.setTop (mkF m 16 #[.val (.ref a1), .val (.int p2), .val (.int p3)] [(.ref b7)])) t → Steps p.tables e below (s₁.setTop (entryFrame m #[(.ref a1), (.int p2), (.int p3)] 3)) t := fun t k => pre6 t (st7 t k)
    obtain ⟨fs, hr, hrun, hended, hW, hsame⟩ := X7.leave (v := some (.ref b7)) (fun h => by rw [Bd.returns] at h; cases h) hlk
    refine ⟨_, _, pre8 _ ?_, hrun, hended, _, _, rfl, ?_, ⟨_, rfl⟩, hW, hsame.mono (by decide) (by decide)⟩
    · show Steps p.tables e below (T7.setTop (mkF m 16 #[.val (.ref a1), .val (.int p2), .val (.int p3)] [(.ref b7)])) _
      jvm_step X7.here [X7.here.top, hx, (hb hby d8_16), X7.method', Bd.returns, Value.isRef, FieldType.isReference]
      first | (intro acts; rw [hr _ acts rfl rfl rfl]) | rw [hr _ _ rfl rfl rfl]
      exact Steps.refl _
    · show QCR Z a1 p2 p3 f fr mm h0 n0 _ T7.heap _
      exact ⟨congrArg (fun z => some (Value.ref z)) g7, N7, K, (g7 ▸ A_b7)⟩
  · have pre9 : ∀ t, Steps p.tables e below (s₁.setTop (mkF m 13 #[.val (.ref a1), .val (.int p2), .val (.int p3)] [(.int p3), (.int p2), (.ref a1)])) t → Steps p.tables e below (s₁.setTop (entryFrame m #[(.ref a1), (.int p2), (.int p3)] 3)) t := fun t k => pre1 t (by
      show Steps p.tables e below (s₁.setTop (mkF m 1 #[.val (.ref a1), .val (.int p2), .val (.int p3)] [(.int p2)])) _
      refine XS.ifYes X0.here hx rfl (pc0 := 1) (pc' := 10) rfl (hb hby d8_1) rfl ((if0 _ _).trans (feq hc1_2).2) (by decide) (by decide) ?_
      show Steps p.tables e below (s₁.setTop (mkF m 10 #[.val (.ref a1), .val (.int p2), .val (.int p3)] [])) _
      refine XS.aloadN X0.here hx rfl (hb hby d8_10) rfl rfl ?_
      show Steps p.tables e below (s₁.setTop (mkF m 11 #[.val (.ref a1), .val (.int p2), .val (.int p3)] [(.ref a1)])) _
      refine XS.iloadN X0.here hx rfl (hb hby d8_11) rfl ?_
      show Steps p.tables e below (s₁.setTop (mkF m 12 #[.val (.ref a1), .val (.int p2), .val (.int p3)] [(.int p2), (.ref a1)])) _
      refine XS.iloadN X0.here hx rfl (hb hby d8_12) rfl ?_
      show Steps p.tables e below (s₁.setTop (mkF m 13 #[.val (.ref a1), .val (.int p2), .val (.int p3)] [(.int p3), (.int p2), (.ref a1)])) _
      exact k)
    obtain ⟨_, _, ⟨T10, L10, k10, n10⟩, -, X10, ⟨Lc10, hQ10, l10, y10, z10⟩, st10⟩ := Jvm.LawKit.callS X0 hx (y := (⟨"java/util/Arrays", "copyOfRangeByte", "([BII)[B"⟩ : MethodName)) hown (mvT hZ (hw _ (List.mem_of_getElem? (i := 46) rfl))) (mvT hZ (hw _ (List.mem_of_getElem? (i := 47) rfl))) (mvT hZ (hw _ (List.mem_of_getElem? (i := 44) rfl))) (mvT hZ (hw _ (List.mem_of_getElem? (i := 48) rfl))) (by decide) (backOf (W := 0) (rmCB l Z a0 hw [] a1 p2 p3 f fr mm h0 n0 Z0 A_a1 hf h2 h3 h8) hZ (hw _ (List.mem_of_getElem? (i := 48) rfl)) (hw _ (List.mem_of_getElem? (i := 44) rfl)) (by decide) (by decide)) (g := (mkF m 13 #[.val (.ref a1), .val (.int p2), .val (.int p3)] [(.int p3), (.int p2), (.ref a1)])) rfl (by rw [hml]; rfl) (argsL := [(.ref a1), (.int p2), (.int p3)]) (rest := []) (lenOf pd_6 rfl) rfl (by show 2 * 0 + _ ≤ _; exact Nat.le_of_eq rfl) (hb hby d8_13) (fun _ _ => ⟨rfl, e0, (by decide : 0 + 1 ≤ _), (by decide : 0 + 8 ≤ _)⟩)
    dsimp only [Pt.U, Pt.locs, Pt.cells, Pt.slots] at X10 l10 y10 z10 st10 hQ10
    subst l10 y10 z10
    obtain ⟨rfl, N10q, K10, u10⟩ := hQ10
    obtain ⟨b10, g10⟩ : ∃ z, z = h0.size := ⟨_, rfl⟩
    rw [← g10] at u10 st10
    have g_b10 : n0 ≤ b10 := Nat.le_trans Z0 (Nat.le_of_eq g10.symm)
    have sz_b10 : h0.size ≤ b10 := Nat.le_trans K.1 (Nat.le_of_eq g10.symm)
    have ne_a1_b10 : a1 ≠ b10 := Nat.ne_of_lt (Nat.lt_of_lt_of_le A_a1.lt (Nat.le_of_eq g10.symm))
    have A_a1 := A_a1.keep K10 nin0
    have K := K.trans K10 all0
    have Z10 : n0 ≤ T10.heap.size := Nat.le_trans Z0 K10.1
    have A_b10 : own_A Z T10.heap b10 .byte mm (fun i => f (fr + i)) := u10
    have N10 := Fr.app N0 N10q
    have pre11 : ∀ t, Steps p.tables e below (T10.setTop (mkF m 16 #[.val (.ref a1), .val (.int p2), .val (.int p3)] [(.ref b10)])) t → Steps p.tables e below (s₁.setTop (entryFrame m #[(.ref a1), (.int p2), (.int p3)] 3)) t := fun t k => pre9 t (st10 t k)
    obtain ⟨fs, hr, hrun, hended, hW, hsame⟩ := X10.leave (v := some (.ref b10)) (fun h => by rw [Bd.returns] at h; cases h) hlk
    refine ⟨_, _, pre11 _ ?_, hrun, hended, _, _, rfl, ?_, ⟨_, rfl⟩, hW, hsame.mono (by decide) (by decide)⟩
    · show Steps p.tables e below (T10.setTop (mkF m 16 #[.val (.ref a1), .val (.int p2), .val (.int p3)] [(.ref b10)])) _
      jvm_step X10.here [X10.here.top, hx, (hb hby d8_16), X10.method', Bd.returns, Value.isRef, FieldType.isReference]
      first | (intro acts; rw [hr _ acts rfl rfl rfl]) | rw [hr _ _ rfl rfl rfl]
      exact Steps.refl _
    · show QCR Z a1 p2 p3 f fr mm h0 n0 _ T10.heap _
      exact ⟨congrArg (fun z => some (Value.ref z)) g10, N10, K, (g10 ▸ A_b10)⟩
theorem d7_0 : decode prog_19_method_3_code 0 = .ok (.aload_n 0, 1) := by decide +kernel
theorem d7_1 : decode prog_19_method_3_code 1 = .ok (.instanceof 7, 3) := by decide +kernel
theorem d7_4 : decode prog_19_method_3_code 4 = .ok (.ifCond .eq 24, 3) := by decide +kernel
theorem d7_7 : decode prog_19_method_3_code 7 = .ok (.aload_n 0, 1) := by decide +kernel
theorem d7_8 : decode prog_19_method_3_code 8 = .ok (.checkcast 7, 3) := by decide +kernel
theorem d7_11 : decode prog_19_method_3_code 11 = .ok (.astore_n 2, 1) := by decide +kernel
theorem d7_12 : decode prog_19_method_3_code 12 = .ok (.aload_n 2, 1) := by decide +kernel
theorem d7_13 : decode prog_19_method_3_code 13 = .ok (.getfield 9, 3) := by decide +kernel
theorem d7_16 : decode prog_19_method_3_code 16 = .ok (.aload_n 2, 1) := by decide +kernel
theorem d7_17 : decode prog_19_method_3_code 17 = .ok (.getfield 13, 3) := by decide +kernel
theorem d7_20 : decode prog_19_method_3_code 20 = .ok (.aload_n 2, 1) := by decide +kernel
theorem d7_21 : decode prog_19_method_3_code 21 = .ok (.getfield 17, 3) := by decide +kernel
theorem d7_24 : decode prog_19_method_3_code 24 = .ok (.invokestatic 49, 3) := by decide +kernel
theorem d7_27 : decode prog_19_method_3_code 27 = .ok (.areturn, 1) := by decide +kernel
theorem ef_7 (m : MethodId) (a : Addr) (p1 : Int32) : entryFrame m #[(.ref a), (.int p1)] 6 = mkF m 0 #[.val (.ref a), .val (.int p1), .unset, .unset, .unset, .unset] [] := by first | (simp [entryFrame, mkF, argsToLocals, Value.category]; done) | rfl
def QTB (Z : State) (a : Addr) (p1 : Int32) (f : Nat → Int32) (fr : Nat) (mm : Nat) (w_bytes : Addr) (w_start : Int32) (w_end : Int32) (h0 : Heap) (n0 : Nat) (v : Option Value) (h : Heap) (L : List Loc) : Prop := v = some (.ref h0.size) ∧ Fr n0 L ∧ Keep h0 h [] ∧ own_A Z h h0.size .byte mm (fun i => f (fr + i))
set_option maxRecDepth 65536 in
set_option maxHeartbeats 40000000 in
theorem rmTB (l : Launch) (Z : State) (a0 : Array Value) (hw : ∀ d ∈ tables_1, d.before a0 Z = true) (ws : List Jvm.Cond) (a : Addr) (p1 : Int32) (f : Nat → Int32) (fr : Nat) (mm : Nat) (w_bytes : Addr) (w_start : Int32) (w_end : Int32) (h0 : Heap) (n0 : Nat) (Z0 : n0 ≤ h0.size) (E_a : Exa Z h0 a "com/example/canonbyte/canonbyte/codec/Piece$Run") (F_a_bytes : Fld Z h0 a "com/example/canonbyte/canonbyte/codec/Piece$Run" "bytes" "[B" (.ref w_bytes)) (F_a_start : Fld Z h0 a "com/example/canonbyte/canonbyte/codec/Piece$Run" "start" "I" (.int w_start)) (F_a_end : Fld Z h0 a "com/example/canonbyte/canonbyte/codec/Piece$Run" "end" "I" (.int w_end)) (A_w_bytes : own_A Z h0 w_bytes .byte 8 f) (hf : ∀ i, i < 8 → fits .byte (.int (f i)) = true) (h2 : w_start.toInt = fr) (h3 : w_end.toInt = fr + mm) (h8 : fr + mm ≤ 8) (hne : ¬ (fr = 0 ∧ mm = 8)) :
    MetFree l (⟨"com/example/canonbyte/canonbyte/codec/Piece", "toByteArray", "(Lcom/example/canonbyte/canonbyte/codec/Piece;I)[B"⟩ : MethodName) (head1 (Jvm.Cond.code (⟨"com/example/canonbyte/canonbyte/codec/Piece", "toByteArray", "(Lcom/example/canonbyte/canonbyte/codec/Piece;I)[B"⟩ : MethodName) prog_19_method_3_code 6 (some (.array .byte)) :: ws) ({ frames := 3, cells := 1, slots := 8, locals := 48 } : Room)) (fun aa U => aa = #[(.ref a), (.int p1)] ∧ Z.Warmed39 U.vm ∧ U.heap = h0) (fun _ _ _ _ _ => True) (fun _ U o U' => ∃ v L, o = .returned v ∧ QTB Z a p1 f fr mm w_bytes w_start w_end h0 n0 v U'.heap L ∧ FrameEnd U o U' L ({ frames := 3, cells := 1, slots := 8, locals := 48 } : Room).cells ({ frames := 3, cells := 1, slots := 8, locals := 48 } : Room).slots) := by
  refine MetFree.of_bodySF (plainFor_of_name pn_Piece) hisR ?_
  intro p e s m args below meth c s₁ Bd hml0 hP hK
  obtain ⟨rfl, hZ, hh⟩ := hP
  have hx := Bd.exec
  have hby := Bd.bytes
  have hml : c.maxLocals = 6 := hml0
  have hown : s.vm.findClass "com/example/canonbyte/canonbyte/codec/Piece" = some m.cls := findClass_of_methodNamed Bd.named
  have hnm := (name_of_methodNamed Bd.named Bd.method).1
  have X0 : Stand p l e ({ frames := 3, cells := 1, slots := 8, locals := 48 } : Room) s m #[(.ref a), (.int p1)] below meth c s₁ [] 0 0 := Stand.of_body Bd
  have e0 : s₁.heap = h0 := by rw [← hh, Bd.state]; rfl
  have N0 := Fr.nil n0
  have hlk : meth.locks = false := by first | exact BodyLoose.notSynchronized Bd | exact Body.notSynchronized Bd
  have pre0 : ∀ t, Steps p.tables e below (s₁.setTop (mkF m 0 #[.val (.ref a), .val (.int p1), .unset, .unset, .unset, .unset] [])) t → Steps p.tables e below (s₁.setTop (entryFrame m #[(.ref a), (.int p1)] 6)) t := fun t k => castTop (ef_7 m a p1) k
  have K : Keep h0 h0 [] := Keep.refl _ _
  have pre1 : ∀ t, Steps p.tables e below (s₁.setTop (mkF m 1 #[.val (.ref a), .val (.int p1), .unset, .unset, .unset, .unset] [(.ref a)])) t → Steps p.tables e below (s₁.setTop (entryFrame m #[(.ref a), (.int p1)] 6)) t := fun t k => pre0 t (by
    show Steps p.tables e below (s₁.setTop (mkF m 0 #[.val (.ref a), .val (.int p1), .unset, .unset, .unset, .unset] [])) _
    refine XS.aloadN X0.here hx rfl (hb hby d7_0) rfl rfl ?_
    show Steps p.tables e below (s₁.setTop (mkF m 1 #[.val (.ref a), .val (.int p1), .unset, .unset, .unset, .unset] [(.ref a)])) _
    exact k)
  obtain ⟨T2, X2, e2, st2⟩ := instY X0 hx hZ hown (hw _ (List.mem_of_getElem? (i := 37) rfl)) e0 (Ins.self E_a) (g := (mkF m 1 #[.val (.ref a), .val (.int p1), .unset, .unset, .unset, .unset] [(.ref a)])) rfl rfl (hb hby d7_1)
  have pre3 : ∀ t, Steps p.tables e below (T2.setTop (mkF m 4 #[.val (.ref a), .val (.int p1), .unset, .unset, .unset, .unset] [(.int (1 : Int32))])) t → Steps p.tables e below (s₁.setTop (entryFrame m #[(.ref a), (.int p1)] 6)) t := fun t k => pre1 t (st2 t k)
  have pre4 : ∀ t, Steps p.tables e below (T2.setTop (mkF m 8 #[.val (.ref a), .val (.int p1), .unset, .unset, .unset, .unset] [(.ref a)])) t → Steps p.tables e below (s₁.setTop (entryFrame m #[(.ref a), (.int p1)] 6)) t := fun t k => pre3 t (by
    show Steps p.tables e below (T2.setTop (mkF m 4 #[.val (.ref a), .val (.int p1), .unset, .unset, .unset, .unset] [(.int (1 : Int32))])) _
    refine XS.ifNo X2.here hx rfl (hb hby d7_4) rfl ((if0 _ _).trans (feq (by decide)).1) ?_
    show Steps p.tables e below (T2.setTop (mkF m 7 #[.val (.ref a), .val (.int p1), .unset, .unset, .unset, .unset] [])) _
    refine XS.aloadN X2.here hx rfl (hb hby d7_7) rfl rfl ?_
    show Steps p.tables e below (T2.setTop (mkF m 8 #[.val (.ref a), .val (.int p1), .unset, .unset, .unset, .unset] [(.ref a)])) _
    exact k)
  obtain ⟨T5, X5, e5, st5⟩ := castY X2 hx hZ hown (hw _ (List.mem_of_getElem? (i := 37) rfl)) e2 (Ins.self E_a) (g := (mkF m 8 #[.val (.ref a), .val (.int p1), .unset, .unset, .unset, .unset] [(.ref a)])) rfl rfl (hb hby d7_8)
  have pre6 : ∀ t, Steps p.tables e below (T5.setTop (mkF m 11 #[.val (.ref a), .val (.int p1), .unset, .unset, .unset, .unset] [(.ref a)])) t → Steps p.tables e below (s₁.setTop (entryFrame m #[(.ref a), (.int p1)] 6)) t := fun t k => pre4 t (st5 t k)
  have pre7 : ∀ t, Steps p.tables e below (T5.setTop (mkF m 13 #[.val (.ref a), .val (.int p1), .val (.ref a), .unset, .unset, .unset] [(.ref a)])) t → Steps p.tables e below (s₁.setTop (entryFrame m #[(.ref a), (.int p1)] 6)) t := fun t k => pre6 t (by
    show Steps p.tables e below (T5.setTop (mkF m 11 #[.val (.ref a), .val (.int p1), .unset, .unset, .unset, .unset] [(.ref a)])) _
    refine XS.astoreN X5.here hx rfl (hb hby d7_11) rfl rfl (l' := #[.val (.ref a), .val (.int p1), .val (.ref a), .unset, .unset, .unset]) rfl ?_
    show Steps p.tables e below (T5.setTop (mkF m 12 #[.val (.ref a), .val (.int p1), .val (.ref a), .unset, .unset, .unset] [])) _
    refine XS.aloadN X5.here hx rfl (hb hby d7_12) rfl rfl ?_
    show Steps p.tables e below (T5.setTop (mkF m 13 #[.val (.ref a), .val (.int p1), .val (.ref a), .unset, .unset, .unset] [(.ref a)])) _
    exact k)
  have pre9 : ∀ t, Steps p.tables e below (T5.setTop (mkF m 16 #[.val (.ref a), .val (.int p1), .val (.ref a), .unset, .unset, .unset] [(.ref w_bytes)])) t → Steps p.tables e below (s₁.setTop (entryFrame m #[(.ref a), (.int p1)] 6)) t := fun t k => pre7 t (own_getFR X5 hx hZ hown (hw _ (List.mem_of_getElem? (i := 39) rfl)) e5 F_a_bytes (g := (mkF m 13 #[.val (.ref a), .val (.int p1), .val (.ref a), .unset, .unset, .unset] [(.ref a)])) rfl rfl (hb hby d7_13) t k)
  have pre10 : ∀ t, Steps p.tables e below (T5.setTop (mkF m 17 #[.val (.ref a), .val (.int p1), .val (.ref a), .unset, .unset, .unset] [(.ref a), (.ref w_bytes)])) t → Steps p.tables e below (s₁.setTop (entryFrame m #[(.ref a), (.int p1)] 6)) t := fun t k => pre9 t (by
    show Steps p.tables e below (T5.setTop (mkF m 16 #[.val (.ref a), .val (.int p1), .val (.ref a), .unset, .unset, .unset] [(.ref w_bytes)])) _
    refine XS.aloadN X5.here hx rfl (hb hby d7_16) rfl rfl ?_
    show Steps p.tables e below (T5.setTop (mkF m 17 #[.val (.ref a), .val (.int p1), .val (.ref a), .unset, .unset, .unset] [(.ref a), (.ref w_bytes)])) _
    exact k)
  have pre12 : ∀ t, Steps p.tables e below (T5.setTop (mkF m 20 #[.val (.ref a), .val (.int p1), .val (.ref a), .unset, .unset, .unset] [(.int w_start), (.ref w_bytes)])) t → Steps p.tables e below (s₁.setTop (entryFrame m #[(.ref a), (.int p1)] 6)) t := fun t k => pre10 t (own_getFR X5 hx hZ hown (hw _ (List.mem_of_getElem? (i := 40) rfl)) e5 F_a_start (g := (mkF m 17 #[.val (.ref a), .val (.int p1), .val (.ref a), .unset, .unset, .unset] [(.ref a), (.ref w_bytes)])) rfl rfl (hb hby d7_17) t k)
  have pre13 : ∀ t, Steps p.tables e below (T5.setTop (mkF m 21 #[.val (.ref a), .val (.int p1), .val (.ref a), .unset, .unset, .unset] [(.ref a), (.int w_start), (.ref w_bytes)])) t → Steps p.tables e below (s₁.setTop (entryFrame m #[(.ref a), (.int p1)] 6)) t := fun t k => pre12 t (by
    show Steps p.tables e below (T5.setTop (mkF m 20 #[.val (.ref a), .val (.int p1), .val (.ref a), .unset, .unset, .unset] [(.int w_start), (.ref w_bytes)])) _
    refine XS.aloadN X5.here hx rfl (hb hby d7_20) rfl rfl ?_
    show Steps p.tables e below (T5.setTop (mkF m 21 #[.val (.ref a), .val (.int p1), .val (.ref a), .unset, .unset, .unset] [(.ref a), (.int w_start), (.ref w_bytes)])) _
    exact k)
  have pre15 : ∀ t, Steps p.tables e below (T5.setTop (mkF m 24 #[.val (.ref a), .val (.int p1), .val (.ref a), .unset, .unset, .unset] [(.int w_end), (.int w_start), (.ref w_bytes)])) t → Steps p.tables e below (s₁.setTop (entryFrame m #[(.ref a), (.int p1)] 6)) t := fun t k => pre13 t (own_getFR X5 hx hZ hown (hw _ (List.mem_of_getElem? (i := 41) rfl)) e5 F_a_end (g := (mkF m 21 #[.val (.ref a), .val (.int p1), .val (.ref a), .unset, .unset, .unset] [(.ref a), (.int w_start), (.ref w_bytes)])) rfl rfl (hb hby d7_21) t k)
  obtain ⟨_, _, ⟨T16, L16, k16, n16⟩, -, X16, ⟨Lc16, hQ16, l16, y16, z16⟩, st16⟩ := Jvm.LawKit.callS X5 hx (y := (⟨"java/util/Arrays", "copyOfRange", "([BII)[B"⟩ : MethodName)) hown (mvT hZ (hw _ (List.mem_of_getElem? (i := 42) rfl))) (mvT hZ (hw _ (List.mem_of_getElem? (i := 43) rfl))) (mvT hZ (hw _ (List.mem_of_getElem? (i := 44) rfl))) (mvT hZ (hw _ (List.mem_of_getElem? (i := 45) rfl))) (by decide) (backOf (W := 0) (rmCR l Z a0 hw [] w_bytes w_start w_end f fr mm h0 n0 Z0 A_w_bytes hf h2 h3 h8 hne) hZ (hw _ (List.mem_of_getElem? (i := 45) rfl)) (hw _ (List.mem_of_getElem? (i := 44) rfl)) (by decide) (by decide)) (g := (mkF m 24 #[.val (.ref a), .val (.int p1), .val (.ref a), .unset, .unset, .unset] [(.int w_end), (.int w_start), (.ref w_bytes)])) rfl (by rw [hml]; rfl) (argsL := [(.ref w_bytes), (.int w_start), (.int w_end)]) (rest := []) (lenOf pd_6 rfl) rfl (by show 2 * 0 + _ ≤ _; exact Nat.le_of_eq rfl) (hb hby d7_24) (fun _ _ => ⟨rfl, e5, (by decide : 0 + 1 ≤ _), (by decide : 0 + 8 ≤ _)⟩)
  dsimp only [Pt.U, Pt.locs, Pt.cells, Pt.slots] at X16 l16 y16 z16 st16 hQ16
  subst l16 y16 z16
  obtain ⟨rfl, N16q, K16, u16⟩ := hQ16
  obtain ⟨b16, g16⟩ : ∃ z, z = h0.size := ⟨_, rfl⟩
  rw [← g16] at u16 st16
  have g_b16 : n0 ≤ b16 := Nat.le_trans Z0 (Nat.le_of_eq g16.symm)
  have sz_b16 : h0.size ≤ b16 := Nat.le_trans K.1 (Nat.le_of_eq g16.symm)
  have ne_a_b16 : a ≠ b16 := Nat.ne_of_lt (Nat.lt_of_lt_of_le E_a.lt (Nat.le_of_eq g16.symm))
  have ne_w_bytes_b16 : w_bytes ≠ b16 := Nat.ne_of_lt (Nat.lt_of_lt_of_le A_w_bytes.lt (Nat.le_of_eq g16.symm))
  have E_a := E_a.keep K16
  have F_a_bytes := F_a_bytes.keep K16 nin0
  have F_a_start := F_a_start.keep K16 nin0
  have F_a_end := F_a_end.keep K16 nin0
  have A_w_bytes := A_w_bytes.keep K16 nin0
  have K := K.trans K16 all0
  have Z16 : n0 ≤ T16.heap.size := Nat.le_trans Z0 K16.1
  have A_b16 : own_A Z T16.heap b16 .byte mm (fun i => f (fr + i)) := u16
  have N16 := Fr.app N0 N16q
  have pre17 : ∀ t, Steps p.tables e below (T16.setTop (mkF m 27 #[.val (.ref a), .val (.int p1), .val (.ref a), .unset, .unset, .unset] [(.ref b16)])) t → Steps p.tables e below (s₁.setTop (entryFrame m #[(.ref a), (.int p1)] 6)) t := fun t k => pre15 t (st16 t k)
  obtain ⟨fs, hr, hrun, hended, hW, hsame⟩ := X16.leave (v := some (.ref b16)) (fun h => by rw [Bd.returns] at h; cases h) hlk
  refine ⟨_, _, pre17 _ ?_, hrun, hended, _, _, rfl, ?_, ⟨_, rfl⟩, hW, hsame.mono (by decide) (by decide)⟩
  · show Steps p.tables e below (T16.setTop (mkF m 27 #[.val (.ref a), .val (.int p1), .val (.ref a), .unset, .unset, .unset] [(.ref b16)])) _
    jvm_step X16.here [X16.here.top, hx, (hb hby d7_27), X16.method', Bd.returns, Value.isRef, FieldType.isReference]
    first | (intro acts; rw [hr _ acts rfl rfl rfl]) | rw [hr _ _ rfl rfl rfl]
    exact Steps.refl _
  · show QTB Z a p1 f fr mm w_bytes w_start w_end h0 n0 _ T16.heap _
    exact ⟨congrArg (fun z => some (Value.ref z)) g16, N16, K, (g16 ▸ A_b16)⟩
theorem pd_0 : parseMethodDescriptor "(I[BB)[B" = some ⟨[.int, (.array .byte), .byte], some (.array .byte)⟩ := by decide +kernel
theorem pd_1 : parseMethodDescriptor "([BII)V" = some ⟨[(.array .byte), .int, .int], none⟩ := by decide +kernel
theorem pd_3 : parseMethodDescriptor "([BI)V" = some ⟨[(.array .byte), .int], none⟩ := by decide +kernel
theorem pd_4 : parseMethodDescriptor "([BB)V" = some ⟨[(.array .byte), .byte], none⟩ := by decide +kernel
theorem pd_5 : parseMethodDescriptor "(Lcom/example/canonbyte/canonbyte/codec/Piece;I)[B" = some ⟨[(.object "com/example/canonbyte/canonbyte/codec/Piece"), .int], some (.array .byte)⟩ := by decide +kernel
theorem ef_0 (m : MethodId) (p1 : Int32) (p2 : Int32) (p3 : Int32) (p4 : Int32) (p5 : Int32) (p6 : Int32) : entryFrame m #[(.int p1), (.int p2), (.int p3), (.int p4), (.int p5), (.int p6)] maxLocals = mkF m 0 #[.val (.int p1), .val (.int p2), .val (.int p3), .val (.int p4), .val (.int p5), .val (.int p6), .unset, .unset, .unset, .unset, .unset, .unset, .unset, .unset, .unset, .unset, .unset, .unset] [] := by first | (simp [entryFrame, mkF, argsToLocals, Value.category, maxLocals]; done) | rfl
def lc0_0 (p1 : Int32) (p2 : Int32) (p3 : Int32) (p4 : Int32) (p5 : Int32) (p6 : Int32) : Array Slot := #[.val (.int p1), .val (.int p2), .val (.int p3), .val (.int p4), .val (.int p5), .val (.int p6), .unset, .unset, .unset, .unset, .unset, .unset, .unset, .unset, .unset, .unset, .unset, .unset]
def lc0_1 (p1 : Int32) (p2 : Int32) (p3 : Int32) (p4 : Int32) (p5 : Int32) (p6 : Int32) : Array Slot := #[.val (.int p1), .val (.int p2), .val (.int p3), .val (.int p4), .val (.int p5), .val (.int p6), .val (.int (own_p p3)), .unset, .unset, .unset, .unset, .unset, .unset, .unset, .unset, .unset, .unset, .unset]
def lc0_2 (p1 : Int32) (p2 : Int32) (p3 : Int32) (p4 : Int32) (p5 : Int32) (p6 : Int32) : Array Slot := #[.val (.int p1), .val (.int p2), .val (.int p3), .val (.int p4), .val (.int p5), .val (.int p6), .val (.int (own_p p3)), .val (.int (own_p p4)), .unset, .unset, .unset, .unset, .unset, .unset, .unset, .unset, .unset, .unset]
def lc0_3 (p1 : Int32) (p2 : Int32) (p3 : Int32) (p4 : Int32) (p5 : Int32) (p6 : Int32) : Array Slot := #[.val (.int p1), .val (.int p2), .val (.int p3), .val (.int p4), .val (.int p5), .val (.int p6), .val (.int (own_p p3)), .val (.int (own_p p4)), .val (.int (own_p p5)), .unset, .unset, .unset, .unset, .unset, .unset, .unset, .unset, .unset]
def lc0_4 (p1 : Int32) (p2 : Int32) (p3 : Int32) (p4 : Int32) (p5 : Int32) (p6 : Int32) : Array Slot := #[.val (.int p1), .val (.int p2), .val (.int p3), .val (.int p4), .val (.int p5), .val (.int p6), .val (.int (own_p p3)), .val (.int (own_p p4)), .val (.int (own_p p5)), .val (.int (own_e p5 p6)), .unset, .unset, .unset, .unset, .unset, .unset, .unset, .unset]
def lc0_5 (p1 : Int32) (p2 : Int32) (p3 : Int32) (p4 : Int32) (p5 : Int32) (p6 : Int32) (b2 : Addr) : Array Slot := #[.val (.int p1), .val (.int p2), .val (.int p3), .val (.int p4), .val (.int p5), .val (.int p6), .val (.int (own_p p3)), .val (.int (own_p p4)), .val (.int (own_p p5)), .val (.int (own_e p5 p6)), .val (.ref b2), .unset, .unset, .unset, .unset, .unset, .unset, .unset]
def lc0_6 (p1 : Int32) (p2 : Int32) (p3 : Int32) (p4 : Int32) (p5 : Int32) (p6 : Int32) (b2 : Addr) : Array Slot := #[.val (.int p1), .val (.int p2), .val (.int p3), .val (.int p4), .val (.int p5), .val (.int p6), .val (.int (own_p p3)), .val (.int (own_p p4)), .val (.int (own_p p5)), .val (.int (own_e p5 p6)), .val (.ref b2), .val (.int (p2.toInt8.toInt32)), .unset, .unset, .unset, .unset, .unset, .unset]
def lc0_7 (p1 : Int32) (p2 : Int32) (p3 : Int32) (p4 : Int32) (p5 : Int32) (p6 : Int32) (b2 : Addr) : Array Slot := #[.val (.int p1), .val (.int p2), .val (.int p3), .val (.int p4), .val (.int p5), .val (.int p6), .val (.int (own_p p3)), .val (.int (own_p p4)), .val (.int (own_p p5)), .val (.int (own_e p5 p6)), .val (.ref b2), .val (.int (p2.toInt8.toInt32)), .val (.int ((own_iush p2 (8 : Int32)).toInt8.toInt32)), .unset, .unset, .unset, .unset, .unset]
def lc0_8 (p1 : Int32) (p2 : Int32) (p3 : Int32) (p4 : Int32) (p5 : Int32) (p6 : Int32) (b2 : Addr) (b17 : Addr) : Array Slot := #[.val (.int p1), .val (.int p2), .val (.int p3), .val (.int p4), .val (.int p5), .val (.int p6), .val (.int (own_p p3)), .val (.int (own_p p4)), .val (.int (own_p p5)), .val (.int (own_e p5 p6)), .val (.ref b2), .val (.int (p2.toInt8.toInt32)), .val (.int ((own_iush p2 (8 : Int32)).toInt8.toInt32)), .val (.ref b17), .unset, .unset, .unset, .unset]
def lc0_9 (p1 : Int32) (p2 : Int32) (p3 : Int32) (p4 : Int32) (p5 : Int32) (p6 : Int32) (b2 : Addr) (b17 : Addr) (b20 : Addr) : Array Slot := #[.val (.int p1), .val (.int p2), .val (.int p3), .val (.int p4), .val (.int p5), .val (.int p6), .val (.int (own_p p3)), .val (.int (own_p p4)), .val (.int (own_p p5)), .val (.int (own_e p5 p6)), .val (.ref b2), .val (.int (p2.toInt8.toInt32)), .val (.int ((own_iush p2 (8 : Int32)).toInt8.toInt32)), .val (.ref b17), .val (.ref b20), .unset, .unset, .unset]
def lc0_10 (p1 : Int32) (p2 : Int32) (p3 : Int32) (p4 : Int32) (p5 : Int32) (p6 : Int32) (b2 : Addr) (b17 : Addr) (b20 : Addr) (b23 : Addr) : Array Slot := #[.val (.int p1), .val (.int p2), .val (.int p3), .val (.int p4), .val (.int p5), .val (.int p6), .val (.int (own_p p3)), .val (.int (own_p p4)), .val (.int (own_p p5)), .val (.int (own_e p5 p6)), .val (.ref b2), .val (.int (p2.toInt8.toInt32)), .val (.int ((own_iush p2 (8 : Int32)).toInt8.toInt32)), .val (.ref b17), .val (.ref b20), .val (.ref b23), .unset, .unset]
def lc0_11 (p1 : Int32) (p2 : Int32) (p3 : Int32) (p4 : Int32) (p5 : Int32) (p6 : Int32) (b2 : Addr) (b17 : Addr) (b20 : Addr) (b23 : Addr) (b35 : Addr) : Array Slot := #[.val (.int p1), .val (.int p2), .val (.int p3), .val (.int p4), .val (.int p5), .val (.int p6), .val (.int (own_p p3)), .val (.int (own_p p4)), .val (.int (own_p p5)), .val (.int (own_e p5 p6)), .val (.ref b2), .val (.int (p2.toInt8.toInt32)), .val (.int ((own_iush p2 (8 : Int32)).toInt8.toInt32)), .val (.ref b17), .val (.ref b20), .val (.ref b23), .val (.ref b35), .unset]
def lc0_12 (p1 : Int32) (p2 : Int32) (p3 : Int32) (p4 : Int32) (p5 : Int32) (p6 : Int32) (b2 : Addr) (b17 : Addr) (b20 : Addr) (b23 : Addr) (b35 : Addr) : Array Slot := #[.val (.int p1), .val (.int p2), .val (.int p3), .val (.int p4), .val (.int p5), .val (.int p6), .val (.int (own_p p3)), .val (.int (own_p p4)), .val (.int (own_p p5)), .val (.int (own_e p5 p6)), .val (.ref b2), .val (.int (p2.toInt8.toInt32)), .val (.int ((own_iush p2 (8 : Int32)).toInt8.toInt32)), .val (.ref b17), .val (.ref b20), .val (.ref b23), .val (.ref b35), .val (.int (own_n p5 p6))]
def Q0 (Z : State) (p1 : Int32) (p2 : Int32) (p3 : Int32) (p4 : Int32) (p5 : Int32) (p6 : Int32) (h0 : Heap) (n0 : Nat) (v : Option Value) (h : Heap) (L : List Loc) : Prop := v = some (.int (1 : Int32)) ∧ Fr n0 L
set_option maxRecDepth 65536 in
set_option maxHeartbeats 40000000 in
theorem rm0 (l : Launch) (Z : State) (a0 : Array Value) (hw : ∀ d ∈ tables_1, d.before a0 Z = true) (ws : List Jvm.Cond) (p1 : Int32) (p2 : Int32) (p3 : Int32) (p4 : Int32) (p5 : Int32) (p6 : Int32) (h0 : Heap) (n0 : Nat) (Z0 : n0 ≤ h0.size) :
    MetFree l x (head1 (Jvm.Cond.code x code maxLocals ret :: ws) room_1) (fun aa U => aa = #[(.int p1), (.int p2), (.int p3), (.int p4), (.int p5), (.int p6)] ∧ Z.Warmed39 U.vm ∧ U.heap = h0) (fun _ _ _ _ _ => True) (fun _ U o U' => ∃ v L, o = .returned v ∧ Q0 Z p1 p2 p3 p4 p5 p6 h0 n0 v U'.heap L ∧ FrameEnd U o U' L room_1.cells room_1.slots) := by
  refine MetFree.of_bodySF (plainFor_of_name pn_RunMoveToPinLaw) hisR ?_
  intro p e s m args below meth c s₁ Bd hml0 hP hK
  obtain ⟨rfl, hZ, hh⟩ := hP
  have hx := Bd.exec
  have hby := Bd.bytes
  have hml : c.maxLocals = 18 := hml0
  have hown : s.vm.findClass "com/example/canonbyte/canonbyte/codec/RunMoveToPinLaw" = some m.cls := findClass_of_methodNamed Bd.named
  have hnm := (name_of_methodNamed Bd.named Bd.method).1
  have X0 : Stand p l e room_1 s m #[(.int p1), (.int p2), (.int p3), (.int p4), (.int p5), (.int p6)] below meth c s₁ [] 0 0 := Stand.of_body Bd
  have e0 : s₁.heap = h0 := by rw [← hh, Bd.state]; rfl
  have N0 := Fr.nil n0
  have hlk : meth.locks = false := by first | exact BodyLoose.notSynchronized Bd | exact Body.notSynchronized Bd
  have pre0 : ∀ t, Steps p.tables e below (s₁.setTop (mkF m 0 #[.val (.int p1), .val (.int p2), .val (.int p3), .val (.int p4), .val (.int p5), .val (.int p6), .unset, .unset, .unset, .unset, .unset, .unset, .unset, .unset, .unset, .unset, .unset, .unset] [])) t → Steps p.tables e below (s₁.setTop (entryFrame m #[(.int p1), (.int p2), (.int p3), (.int p4), (.int p5), (.int p6)] maxLocals)) t := fun t k => castTop (ef_0 m p1 p2 p3 p4 p5 p6) k
  have pre1 : ∀ t, Steps p.tables e below (s₁.setTop (mkF m 41 (lc0_4 p1 p2 p3 p4 p5 p6) [(.int (4 : Int32))])) t → Steps p.tables e below (s₁.setTop (entryFrame m #[(.int p1), (.int p2), (.int p3), (.int p4), (.int p5), (.int p6)] maxLocals)) t := fun t k => pre0 t (by
    show Steps p.tables e below (s₁.setTop (mkF m 0 (lc0_0 p1 p2 p3 p4 p5 p6) [])) _
    refine XS.iloadN X0.here hx rfl (hb hby at_0) rfl ?_
    show Steps p.tables e below (s₁.setTop (mkF m 1 (lc0_0 p1 p2 p3 p4 p5 p6) [(.int p3)])) _
    refine X0.ldcInt hx hown (mvT hZ (hw _ (List.mem_of_getElem? (i := 0) rfl))) (g := (mkF m 1 (lc0_0 p1 p2 p3 p4 p5 p6) [(.int p3)])) rfl (hb hby at_1) _ ?_
    show Steps p.tables e below (s₁.setTop (mkF m 3 (lc0_0 p1 p2 p3 p4 p5 p6) [(.int (2147483647 : Int32)), (.int p3)])) _
    refine XS.iand X0.here hx rfl (hb hby at_3) rfl ?_
    show Steps p.tables e below (s₁.setTop (mkF m 4 (lc0_0 p1 p2 p3 p4 p5 p6) [(.int (p3 &&& (2147483647 : Int32)))])) _
    refine XS.iconst X0.here hx rfl (hb hby at_4) ?_
    show Steps p.tables e below (s₁.setTop (mkF m 5 (lc0_0 p1 p2 p3 p4 p5 p6) [(.int (5 : Int32)), (.int (p3 &&& (2147483647 : Int32)))])) _
    refine iremM X0 hx rfl (hb hby at_5) rfl (by decide) ?_
    show Steps p.tables e below (s₁.setTop (mkF m 6 (lc0_0 p1 p2 p3 p4 p5 p6) [(.int (own_p p3))])) _
    refine XS.istore X0.here hx rfl (hb hby at_6) rfl (l' := (lc0_1 p1 p2 p3 p4 p5 p6)) rfl ?_
    show Steps p.tables e below (s₁.setTop (mkF m 8 (lc0_1 p1 p2 p3 p4 p5 p6) [])) _
    refine XS.iloadN X0.here hx rfl (hb hby at_8) rfl ?_
    show Steps p.tables e below (s₁.setTop (mkF m 9 (lc0_1 p1 p2 p3 p4 p5 p6) [(.int p4)])) _
    refine X0.ldcInt hx hown (mvT hZ (hw _ (List.mem_of_getElem? (i := 0) rfl))) (g := (mkF m 9 (lc0_1 p1 p2 p3 p4 p5 p6) [(.int p4)])) rfl (hb hby at_9) _ ?_
    show Steps p.tables e below (s₁.setTop (mkF m 11 (lc0_1 p1 p2 p3 p4 p5 p6) [(.int (2147483647 : Int32)), (.int p4)])) _
    refine XS.iand X0.here hx rfl (hb hby at_11) rfl ?_
    show Steps p.tables e below (s₁.setTop (mkF m 12 (lc0_1 p1 p2 p3 p4 p5 p6) [(.int (p4 &&& (2147483647 : Int32)))])) _
    refine XS.iconst X0.here hx rfl (hb hby at_12) ?_
    show Steps p.tables e below (s₁.setTop (mkF m 13 (lc0_1 p1 p2 p3 p4 p5 p6) [(.int (5 : Int32)), (.int (p4 &&& (2147483647 : Int32)))])) _
    refine iremM X0 hx rfl (hb hby at_13) rfl (by decide) ?_
    show Steps p.tables e below (s₁.setTop (mkF m 14 (lc0_1 p1 p2 p3 p4 p5 p6) [(.int (own_p p4))])) _
    refine XS.istore X0.here hx rfl (hb hby at_14) rfl (l' := (lc0_2 p1 p2 p3 p4 p5 p6)) rfl ?_
    show Steps p.tables e below (s₁.setTop (mkF m 16 (lc0_2 p1 p2 p3 p4 p5 p6) [])) _
    refine XS.iload X0.here hx rfl (hb hby at_16) rfl ?_
    show Steps p.tables e below (s₁.setTop (mkF m 18 (lc0_2 p1 p2 p3 p4 p5 p6) [(.int p5)])) _
    refine X0.ldcInt hx hown (mvT hZ (hw _ (List.mem_of_getElem? (i := 0) rfl))) (g := (mkF m 18 (lc0_2 p1 p2 p3 p4 p5 p6) [(.int p5)])) rfl (hb hby at_18) _ ?_
    show Steps p.tables e below (s₁.setTop (mkF m 20 (lc0_2 p1 p2 p3 p4 p5 p6) [(.int (2147483647 : Int32)), (.int p5)])) _
    refine XS.iand X0.here hx rfl (hb hby at_20) rfl ?_
    show Steps p.tables e below (s₁.setTop (mkF m 21 (lc0_2 p1 p2 p3 p4 p5 p6) [(.int (p5 &&& (2147483647 : Int32)))])) _
    refine XS.iconst X0.here hx rfl (hb hby at_21) ?_
    show Steps p.tables e below (s₁.setTop (mkF m 22 (lc0_2 p1 p2 p3 p4 p5 p6) [(.int (5 : Int32)), (.int (p5 &&& (2147483647 : Int32)))])) _
    refine iremM X0 hx rfl (hb hby at_22) rfl (by decide) ?_
    show Steps p.tables e below (s₁.setTop (mkF m 23 (lc0_2 p1 p2 p3 p4 p5 p6) [(.int (own_p p5))])) _
    refine XS.istore X0.here hx rfl (hb hby at_23) rfl (l' := (lc0_3 p1 p2 p3 p4 p5 p6)) rfl ?_
    show Steps p.tables e below (s₁.setTop (mkF m 25 (lc0_3 p1 p2 p3 p4 p5 p6) [])) _
    refine XS.iload X0.here hx rfl (hb hby at_25) rfl ?_
    show Steps p.tables e below (s₁.setTop (mkF m 27 (lc0_3 p1 p2 p3 p4 p5 p6) [(.int (own_p p5))])) _
    refine XS.iload X0.here hx rfl (hb hby at_27) rfl ?_
    show Steps p.tables e below (s₁.setTop (mkF m 29 (lc0_3 p1 p2 p3 p4 p5 p6) [(.int p6), (.int (own_p p5))])) _
    refine X0.ldcInt hx hown (mvT hZ (hw _ (List.mem_of_getElem? (i := 0) rfl))) (g := (mkF m 29 (lc0_3 p1 p2 p3 p4 p5 p6) [(.int p6), (.int (own_p p5))])) rfl (hb hby at_29) _ ?_
    show Steps p.tables e below (s₁.setTop (mkF m 31 (lc0_3 p1 p2 p3 p4 p5 p6) [(.int (2147483647 : Int32)), (.int p6), (.int (own_p p5))])) _
    refine XS.iand X0.here hx rfl (hb hby at_31) rfl ?_
    show Steps p.tables e below (s₁.setTop (mkF m 32 (lc0_3 p1 p2 p3 p4 p5 p6) [(.int (p6 &&& (2147483647 : Int32))), (.int (own_p p5))])) _
    refine XS.iconst X0.here hx rfl (hb hby at_32) ?_
    show Steps p.tables e below (s₁.setTop (mkF m 33 (lc0_3 p1 p2 p3 p4 p5 p6) [(.int (5 : Int32)), (.int (p6 &&& (2147483647 : Int32))), (.int (own_p p5))])) _
    refine XS.iload X0.here hx rfl (hb hby at_33) rfl ?_
    show Steps p.tables e below (s₁.setTop (mkF m 35 (lc0_3 p1 p2 p3 p4 p5 p6) [(.int (own_p p5)), (.int (5 : Int32)), (.int (p6 &&& (2147483647 : Int32))), (.int (own_p p5))])) _
    refine XS.isub X0.here hx rfl (hb hby at_35) rfl ?_
    show Steps p.tables e below (s₁.setTop (mkF m 36 (lc0_3 p1 p2 p3 p4 p5 p6) [(.int ((5 : Int32) - (own_p p5))), (.int (p6 &&& (2147483647 : Int32))), (.int (own_p p5))])) _
    refine iremM X0 hx rfl (hb hby at_36) rfl (own_nz p5) ?_
    show Steps p.tables e below (s₁.setTop (mkF m 37 (lc0_3 p1 p2 p3 p4 p5 p6) [(.int ((p6 &&& (2147483647 : Int32)) % ((5 : Int32) - (own_p p5)))), (.int (own_p p5))])) _
    refine XS.iadd X0.here hx rfl (hb hby at_37) rfl ?_
    show Steps p.tables e below (s₁.setTop (mkF m 38 (lc0_3 p1 p2 p3 p4 p5 p6) [(.int (own_e p5 p6))])) _
    refine XS.istore X0.here hx rfl (hb hby at_38) rfl (l' := (lc0_4 p1 p2 p3 p4 p5 p6)) rfl ?_
    show Steps p.tables e below (s₁.setTop (mkF m 40 (lc0_4 p1 p2 p3 p4 p5 p6) [])) _
    refine XS.iconst X0.here hx rfl (hb hby at_40) ?_
    show Steps p.tables e below (s₁.setTop (mkF m 41 (lc0_4 p1 p2 p3 p4 p5 p6) [(.int (4 : Int32))])) _
    exact k)
  obtain ⟨T2, h2, k2, X2, e2, E2, A2, st2⟩ := newP X0 hx hZ (hw _ (List.mem_of_getElem? (i := 1) rfl)) e0 (g := (mkF m 41 (lc0_4 p1 p2 p3 p4 p5 p6) [(.int (4 : Int32))])) rfl (hb hby at_41) rfl (by decide) (cap := 4) (by decide) (by decide) (by decide) (by decide)
  obtain ⟨b2, g2⟩ : ∃ z, z = h0.size := ⟨_, rfl⟩
  rw [← g2] at A2 st2
  have g_b2 : n0 ≤ b2 := Nat.le_trans Z0 (Nat.le_of_eq g2.symm)
  have Z2 : n0 ≤ h2.size := Nat.le_trans Z0 E2.1
  have A_b2 : own_A Z h2 b2 .byte 4 (fun _ => (0 : Int32)) := own_A.new A2 rfl rfl
  have pre3 : ∀ t, Steps p.tables e below (T2.setTop (mkF m 43 (lc0_4 p1 p2 p3 p4 p5 p6) [(.ref b2)])) t → Steps p.tables e below (s₁.setTop (entryFrame m #[(.int p1), (.int p2), (.int p3), (.int p4), (.int p5), (.int p6)] maxLocals)) t := fun t k => pre1 t (st2 t k)
  have pre4 : ∀ t, Steps p.tables e below (T2.setTop (mkF m 50 (lc0_5 p1 p2 p3 p4 p5 p6 b2) [(.int (p1.toInt8.toInt32)), (.int (0 : Int32)), (.ref b2)])) t → Steps p.tables e below (s₁.setTop (entryFrame m #[(.int p1), (.int p2), (.int p3), (.int p4), (.int p5), (.int p6)] maxLocals)) t := fun t k => pre3 t (by
    show Steps p.tables e below (T2.setTop (mkF m 43 (lc0_4 p1 p2 p3 p4 p5 p6) [(.ref b2)])) _
    refine XS.astore X2.here hx rfl (hb hby at_43) rfl rfl (l' := (lc0_5 p1 p2 p3 p4 p5 p6 b2)) rfl ?_
    show Steps p.tables e below (T2.setTop (mkF m 45 (lc0_5 p1 p2 p3 p4 p5 p6 b2) [])) _
    refine XS.aload X2.here hx rfl (hb hby at_45) rfl rfl ?_
    show Steps p.tables e below (T2.setTop (mkF m 47 (lc0_5 p1 p2 p3 p4 p5 p6 b2) [(.ref b2)])) _
    refine XS.iconst X2.here hx rfl (hb hby at_47) ?_
    show Steps p.tables e below (T2.setTop (mkF m 48 (lc0_5 p1 p2 p3 p4 p5 p6 b2) [(.int (0 : Int32)), (.ref b2)])) _
    refine XS.iloadN X2.here hx rfl (hb hby at_48) rfl ?_
    show Steps p.tables e below (T2.setTop (mkF m 49 (lc0_5 p1 p2 p3 p4 p5 p6 b2) [(.int p1), (.int (0 : Int32)), (.ref b2)])) _
    refine XS.i2b X2.here hx rfl (hb hby at_49) rfl ?_
    show Steps p.tables e below (T2.setTop (mkF m 50 (lc0_5 p1 p2 p3 p4 p5 p6 b2) [(.int (p1.toInt8.toInt32)), (.int (0 : Int32)), (.ref b2)])) _
    exact k)
  obtain ⟨cl5, Ar5, Sz5, Hf5⟩ := A_b2
  obtain ⟨T5, h5, X5, e5, W5, st5⟩ := stB X2 hx hZ e2 Ar5 (j := (0 : Int32)) (own_inb Sz5 ⟨by decide, by decide⟩) (g := (mkF m 50 (lc0_5 p1 p2 p3 p4 p5 p6 b2) [(.int (p1.toInt8.toInt32)), (.int (0 : Int32)), (.ref b2)])) rfl rfl (hb hby at_50)
  have A_b2 : own_A Z h5 b2 .byte 4 (own_put (fun _ => (0 : Int32)) 0 (nar .byte (p1.toInt8.toInt32))) := own_A.set Ar5 Sz5 Hf5 W5
  have Z5 : n0 ≤ h5.size := Nat.le_trans Z2 (Keep.of_wr W5).1
  have N5 := Fr.snoc X5 N0 g_b2
  have pre6 : ∀ t, Steps p.tables e below (T5.setTop (mkF m 51 (lc0_5 p1 p2 p3 p4 p5 p6 b2) [])) t → Steps p.tables e below (s₁.setTop (entryFrame m #[(.int p1), (.int p2), (.int p3), (.int p4), (.int p5), (.int p6)] maxLocals)) t := fun t k => pre4 t (st5 t k)
  have pre7 : ∀ t, Steps p.tables e below (T5.setTop (mkF m 59 (lc0_5 p1 p2 p3 p4 p5 p6 b2) [(.int ((own_iush p1 (8 : Int32)).toInt8.toInt32)), (.int (1 : Int32)), (.ref b2)])) t → Steps p.tables e below (s₁.setTop (entryFrame m #[(.int p1), (.int p2), (.int p3), (.int p4), (.int p5), (.int p6)] maxLocals)) t := fun t k => pre6 t (by
    show Steps p.tables e below (T5.setTop (mkF m 51 (lc0_5 p1 p2 p3 p4 p5 p6 b2) [])) _
    refine XS.aload X5.here hx rfl (hb hby at_51) rfl rfl ?_
    show Steps p.tables e below (T5.setTop (mkF m 53 (lc0_5 p1 p2 p3 p4 p5 p6 b2) [(.ref b2)])) _
    refine XS.iconst X5.here hx rfl (hb hby at_53) ?_
    show Steps p.tables e below (T5.setTop (mkF m 54 (lc0_5 p1 p2 p3 p4 p5 p6 b2) [(.int (1 : Int32)), (.ref b2)])) _
    refine XS.iloadN X5.here hx rfl (hb hby at_54) rfl ?_
    show Steps p.tables e below (T5.setTop (mkF m 55 (lc0_5 p1 p2 p3 p4 p5 p6 b2) [(.int p1), (.int (1 : Int32)), (.ref b2)])) _
    refine XS.bipush X5.here hx rfl (hb hby at_55) ?_
    show Steps p.tables e below (T5.setTop (mkF m 57 (lc0_5 p1 p2 p3 p4 p5 p6 b2) [(.int (8 : Int32)), (.int p1), (.int (1 : Int32)), (.ref b2)])) _
    refine XS.iushr X5.here hx rfl (hb hby at_57) rfl ?_
    show Steps p.tables e below (T5.setTop (mkF m 58 (lc0_5 p1 p2 p3 p4 p5 p6 b2) [(.int (own_iush p1 (8 : Int32))), (.int (1 : Int32)), (.ref b2)])) _
    refine XS.i2b X5.here hx rfl (hb hby at_58) rfl ?_
    show Steps p.tables e below (T5.setTop (mkF m 59 (lc0_5 p1 p2 p3 p4 p5 p6 b2) [(.int ((own_iush p1 (8 : Int32)).toInt8.toInt32)), (.int (1 : Int32)), (.ref b2)])) _
    exact k)
  obtain ⟨cl8, Ar8, Sz8, Hf8⟩ := A_b2
  obtain ⟨T8, h8, X8, e8, W8, st8⟩ := stB X5 hx hZ e5 Ar8 (j := (1 : Int32)) (own_inb Sz8 ⟨by decide, by decide⟩) (g := (mkF m 59 (lc0_5 p1 p2 p3 p4 p5 p6 b2) [(.int ((own_iush p1 (8 : Int32)).toInt8.toInt32)), (.int (1 : Int32)), (.ref b2)])) rfl rfl (hb hby at_59)
  have A_b2 : own_A Z h8 b2 .byte 4 (own_put (own_put (fun _ => (0 : Int32)) 0 (nar .byte (p1.toInt8.toInt32))) 1 (nar .byte ((own_iush p1 (8 : Int32)).toInt8.toInt32))) := own_A.set Ar8 Sz8 Hf8 W8
  have Z8 : n0 ≤ h8.size := Nat.le_trans Z5 (Keep.of_wr W8).1
  have N8 := Fr.snoc X8 N5 g_b2
  have pre9 : ∀ t, Steps p.tables e below (T8.setTop (mkF m 60 (lc0_5 p1 p2 p3 p4 p5 p6 b2) [])) t → Steps p.tables e below (s₁.setTop (entryFrame m #[(.int p1), (.int p2), (.int p3), (.int p4), (.int p5), (.int p6)] maxLocals)) t := fun t k => pre7 t (st8 t k)
  have pre10 : ∀ t, Steps p.tables e below (T8.setTop (mkF m 68 (lc0_5 p1 p2 p3 p4 p5 p6 b2) [(.int ((own_iush p1 (16 : Int32)).toInt8.toInt32)), (.int (2 : Int32)), (.ref b2)])) t → Steps p.tables e below (s₁.setTop (entryFrame m #[(.int p1), (.int p2), (.int p3), (.int p4), (.int p5), (.int p6)] maxLocals)) t := fun t k => pre9 t (by
    show Steps p.tables e below (T8.setTop (mkF m 60 (lc0_5 p1 p2 p3 p4 p5 p6 b2) [])) _
    refine XS.aload X8.here hx rfl (hb hby at_60) rfl rfl ?_
    show Steps p.tables e below (T8.setTop (mkF m 62 (lc0_5 p1 p2 p3 p4 p5 p6 b2) [(.ref b2)])) _
    refine XS.iconst X8.here hx rfl (hb hby at_62) ?_
    show Steps p.tables e below (T8.setTop (mkF m 63 (lc0_5 p1 p2 p3 p4 p5 p6 b2) [(.int (2 : Int32)), (.ref b2)])) _
    refine XS.iloadN X8.here hx rfl (hb hby at_63) rfl ?_
    show Steps p.tables e below (T8.setTop (mkF m 64 (lc0_5 p1 p2 p3 p4 p5 p6 b2) [(.int p1), (.int (2 : Int32)), (.ref b2)])) _
    refine XS.bipush X8.here hx rfl (hb hby at_64) ?_
    show Steps p.tables e below (T8.setTop (mkF m 66 (lc0_5 p1 p2 p3 p4 p5 p6 b2) [(.int (16 : Int32)), (.int p1), (.int (2 : Int32)), (.ref b2)])) _
    refine XS.iushr X8.here hx rfl (hb hby at_66) rfl ?_
    show Steps p.tables e below (T8.setTop (mkF m 67 (lc0_5 p1 p2 p3 p4 p5 p6 b2) [(.int (own_iush p1 (16 : Int32))), (.int (2 : Int32)), (.ref b2)])) _
    refine XS.i2b X8.here hx rfl (hb hby at_67) rfl ?_
    show Steps p.tables e below (T8.setTop (mkF m 68 (lc0_5 p1 p2 p3 p4 p5 p6 b2) [(.int ((own_iush p1 (16 : Int32)).toInt8.toInt32)), (.int (2 : Int32)), (.ref b2)])) _
    exact k)
  obtain ⟨cl11, Ar11, Sz11, Hf11⟩ := A_b2
  obtain ⟨T11, h11, X11, e11, W11, st11⟩ := stB X8 hx hZ e8 Ar11 (j := (2 : Int32)) (own_inb Sz11 ⟨by decide, by decide⟩) (g := (mkF m 68 (lc0_5 p1 p2 p3 p4 p5 p6 b2) [(.int ((own_iush p1 (16 : Int32)).toInt8.toInt32)), (.int (2 : Int32)), (.ref b2)])) rfl rfl (hb hby at_68)
  have A_b2 : own_A Z h11 b2 .byte 4 (own_put (own_put (own_put (fun _ => (0 : Int32)) 0 (nar .byte (p1.toInt8.toInt32))) 1 (nar .byte ((own_iush p1 (8 : Int32)).toInt8.toInt32))) 2 (nar .byte ((own_iush p1 (16 : Int32)).toInt8.toInt32))) := own_A.set Ar11 Sz11 Hf11 W11
  have Z11 : n0 ≤ h11.size := Nat.le_trans Z8 (Keep.of_wr W11).1
  have N11 := Fr.snoc X11 N8 g_b2
  have pre12 : ∀ t, Steps p.tables e below (T11.setTop (mkF m 69 (lc0_5 p1 p2 p3 p4 p5 p6 b2) [])) t → Steps p.tables e below (s₁.setTop (entryFrame m #[(.int p1), (.int p2), (.int p3), (.int p4), (.int p5), (.int p6)] maxLocals)) t := fun t k => pre10 t (st11 t k)
  have pre13 : ∀ t, Steps p.tables e below (T11.setTop (mkF m 77 (lc0_5 p1 p2 p3 p4 p5 p6 b2) [(.int ((own_iush p1 (24 : Int32)).toInt8.toInt32)), (.int (3 : Int32)), (.ref b2)])) t → Steps p.tables e below (s₁.setTop (entryFrame m #[(.int p1), (.int p2), (.int p3), (.int p4), (.int p5), (.int p6)] maxLocals)) t := fun t k => pre12 t (by
    show Steps p.tables e below (T11.setTop (mkF m 69 (lc0_5 p1 p2 p3 p4 p5 p6 b2) [])) _
    refine XS.aload X11.here hx rfl (hb hby at_69) rfl rfl ?_
    show Steps p.tables e below (T11.setTop (mkF m 71 (lc0_5 p1 p2 p3 p4 p5 p6 b2) [(.ref b2)])) _
    refine XS.iconst X11.here hx rfl (hb hby at_71) ?_
    show Steps p.tables e below (T11.setTop (mkF m 72 (lc0_5 p1 p2 p3 p4 p5 p6 b2) [(.int (3 : Int32)), (.ref b2)])) _
    refine XS.iloadN X11.here hx rfl (hb hby at_72) rfl ?_
    show Steps p.tables e below (T11.setTop (mkF m 73 (lc0_5 p1 p2 p3 p4 p5 p6 b2) [(.int p1), (.int (3 : Int32)), (.ref b2)])) _
    refine XS.bipush X11.here hx rfl (hb hby at_73) ?_
    show Steps p.tables e below (T11.setTop (mkF m 75 (lc0_5 p1 p2 p3 p4 p5 p6 b2) [(.int (24 : Int32)), (.int p1), (.int (3 : Int32)), (.ref b2)])) _
    refine XS.iushr X11.here hx rfl (hb hby at_75) rfl ?_
    show Steps p.tables e below (T11.setTop (mkF m 76 (lc0_5 p1 p2 p3 p4 p5 p6 b2) [(.int (own_iush p1 (24 : Int32))), (.int (3 : Int32)), (.ref b2)])) _
    refine XS.i2b X11.here hx rfl (hb hby at_76) rfl ?_
    show Steps p.tables e below (T11.setTop (mkF m 77 (lc0_5 p1 p2 p3 p4 p5 p6 b2) [(.int ((own_iush p1 (24 : Int32)).toInt8.toInt32)), (.int (3 : Int32)), (.ref b2)])) _
    exact k)
  obtain ⟨cl14, Ar14, Sz14, Hf14⟩ := A_b2
  obtain ⟨T14, h14, X14, e14, W14, st14⟩ := stB X11 hx hZ e11 Ar14 (j := (3 : Int32)) (own_inb Sz14 ⟨by decide, by decide⟩) (g := (mkF m 77 (lc0_5 p1 p2 p3 p4 p5 p6 b2) [(.int ((own_iush p1 (24 : Int32)).toInt8.toInt32)), (.int (3 : Int32)), (.ref b2)])) rfl rfl (hb hby at_77)
  have A_b2 : own_A Z h14 b2 .byte 4 (own_put (own_put (own_put (own_put (fun _ => (0 : Int32)) 0 (nar .byte (p1.toInt8.toInt32))) 1 (nar .byte ((own_iush p1 (8 : Int32)).toInt8.toInt32))) 2 (nar .byte ((own_iush p1 (16 : Int32)).toInt8.toInt32))) 3 (nar .byte ((own_iush p1 (24 : Int32)).toInt8.toInt32))) := own_A.set Ar14 Sz14 Hf14 W14
  have Z14 : n0 ≤ h14.size := Nat.le_trans Z11 (Keep.of_wr W14).1
  have N14 := Fr.snoc X14 N11 g_b2
  have pre15 : ∀ t, Steps p.tables e below (T14.setTop (mkF m 78 (lc0_5 p1 p2 p3 p4 p5 p6 b2) [])) t → Steps p.tables e below (s₁.setTop (entryFrame m #[(.int p1), (.int p2), (.int p3), (.int p4), (.int p5), (.int p6)] maxLocals)) t := fun t k => pre13 t (st14 t k)
  have A_b2 : own_A Z h14 b2 .byte 4 (own_ct p1) := own_A.congr A_b2 (own_cts p1)
  have pre16 : ∀ t, Steps p.tables e below (T14.setTop (mkF m 95 (lc0_7 p1 p2 p3 p4 p5 p6 b2) [(.int (p2.toInt8.toInt32)), (.ref b2), (.int (own_p p3))])) t → Steps p.tables e below (s₁.setTop (entryFrame m #[(.int p1), (.int p2), (.int p3), (.int p4), (.int p5), (.int p6)] maxLocals)) t := fun t k => pre15 t (by
    show Steps p.tables e below (T14.setTop (mkF m 78 (lc0_5 p1 p2 p3 p4 p5 p6 b2) [])) _
    refine XS.iloadN X14.here hx rfl (hb hby at_78) rfl ?_
    show Steps p.tables e below (T14.setTop (mkF m 79 (lc0_5 p1 p2 p3 p4 p5 p6 b2) [(.int p2)])) _
    refine XS.i2b X14.here hx rfl (hb hby at_79) rfl ?_
    show Steps p.tables e below (T14.setTop (mkF m 80 (lc0_5 p1 p2 p3 p4 p5 p6 b2) [(.int (p2.toInt8.toInt32))])) _
    refine XS.istore X14.here hx rfl (hb hby at_80) rfl (l' := (lc0_6 p1 p2 p3 p4 p5 p6 b2)) rfl ?_
    show Steps p.tables e below (T14.setTop (mkF m 82 (lc0_6 p1 p2 p3 p4 p5 p6 b2) [])) _
    refine XS.iloadN X14.here hx rfl (hb hby at_82) rfl ?_
    show Steps p.tables e below (T14.setTop (mkF m 83 (lc0_6 p1 p2 p3 p4 p5 p6 b2) [(.int p2)])) _
    refine XS.bipush X14.here hx rfl (hb hby at_83) ?_
    show Steps p.tables e below (T14.setTop (mkF m 85 (lc0_6 p1 p2 p3 p4 p5 p6 b2) [(.int (8 : Int32)), (.int p2)])) _
    refine XS.iushr X14.here hx rfl (hb hby at_85) rfl ?_
    show Steps p.tables e below (T14.setTop (mkF m 86 (lc0_6 p1 p2 p3 p4 p5 p6 b2) [(.int (own_iush p2 (8 : Int32)))])) _
    refine XS.i2b X14.here hx rfl (hb hby at_86) rfl ?_
    show Steps p.tables e below (T14.setTop (mkF m 87 (lc0_6 p1 p2 p3 p4 p5 p6 b2) [(.int ((own_iush p2 (8 : Int32)).toInt8.toInt32))])) _
    refine XS.istore X14.here hx rfl (hb hby at_87) rfl (l' := (lc0_7 p1 p2 p3 p4 p5 p6 b2)) rfl ?_
    show Steps p.tables e below (T14.setTop (mkF m 89 (lc0_7 p1 p2 p3 p4 p5 p6 b2) [])) _
    refine XS.iload X14.here hx rfl (hb hby at_89) rfl ?_
    show Steps p.tables e below (T14.setTop (mkF m 91 (lc0_7 p1 p2 p3 p4 p5 p6 b2) [(.int (own_p p3))])) _
    refine XS.aload X14.here hx rfl (hb hby at_91) rfl rfl ?_
    show Steps p.tables e below (T14.setTop (mkF m 93 (lc0_7 p1 p2 p3 p4 p5 p6 b2) [(.ref b2), (.int (own_p p3))])) _
    refine XS.iload X14.here hx rfl (hb hby at_93) rfl ?_
    show Steps p.tables e below (T14.setTop (mkF m 95 (lc0_7 p1 p2 p3 p4 p5 p6 b2) [(.int (p2.toInt8.toInt32)), (.ref b2), (.int (own_p p3))])) _
    exact k)
  obtain ⟨_, _, ⟨T17, L17, k17, n17⟩, -, X17, ⟨Lc17, hQ17, l17, y17, z17⟩, st17⟩ := Jvm.LawKit.callS X14 hx (y := (⟨"com/example/canonbyte/canonbyte/codec/RunMoveToPinLaw", "place", "(I[BB)[B"⟩ : MethodName)) hown (mvT hZ (hw _ (List.mem_of_getElem? (i := 2) rfl))) (mvT hZ (hw _ (List.mem_of_getElem? (i := 3) rfl))) (mvT hZ (hw _ (List.mem_of_getElem? (i := 4) rfl))) (mvT hZ (hw _ (List.mem_of_getElem? (i := 5) rfl))) (by decide) (backOf (W := 0) (rmPl l Z a0 hw [] (own_p p3) b2 (p2.toInt8.toInt32) (own_ct p1) h14 n0 Z14 A_b2 (own_pr p3)) hZ (hw _ (List.mem_of_getElem? (i := 5) rfl)) (hw _ (List.mem_of_getElem? (i := 4) rfl)) (by decide) (by decide)) (g := (mkF m 95 (lc0_7 p1 p2 p3 p4 p5 p6 b2) [(.int (p2.toInt8.toInt32)), (.ref b2), (.int (own_p p3))])) rfl (by rw [hml]; rfl) (argsL := [(.int (own_p p3)), (.ref b2), (.int (p2.toInt8.toInt32))]) (rest := []) (lenOf pd_0 rfl) rfl (by show 2 * 0 + _ ≤ _; exact Nat.le_of_eq rfl) (hb hby at_95) (fun _ _ => ⟨rfl, e14, (by decide : 1 + 1 ≤ _), (by decide : 4 + 8 ≤ _)⟩)
  dsimp only [Pt.U, Pt.locs, Pt.cells, Pt.slots] at X17 l17 y17 z17 st17 hQ17
  subst l17 y17 z17
  obtain ⟨rfl, N17q, K17, u17⟩ := hQ17
  obtain ⟨b17, g17⟩ : ∃ z, z = h14.size := ⟨_, rfl⟩
  rw [← g17] at u17 st17
  have g_b17 : n0 ≤ b17 := Nat.le_trans Z14 (Nat.le_of_eq g17.symm)
  have ne_b2_b17 : b2 ≠ b17 := Nat.ne_of_lt (Nat.lt_of_lt_of_le A_b2.lt (Nat.le_of_eq g17.symm))
  have A_b2 := A_b2.keep K17 nin0
  have Z17 : n0 ≤ T17.heap.size := Nat.le_trans Z14 K17.1
  have A_b17 : own_A Z T17.heap b17 .byte 8 (own_pl (own_ct p1) ((own_p p3)).toInt.toNat (p2.toInt8.toInt32)) := u17
  have N17 := Fr.app N14 N17q
  have pre18 : ∀ t, Steps p.tables e below (T17.setTop (mkF m 98 (lc0_7 p1 p2 p3 p4 p5 p6 b2) [(.ref b17)])) t → Steps p.tables e below (s₁.setTop (entryFrame m #[(.int p1), (.int p2), (.int p3), (.int p4), (.int p5), (.int p6)] maxLocals)) t := fun t k => pre16 t (st17 t k)
  have pre19 : ∀ t, Steps p.tables e below (T17.setTop (mkF m 106 (lc0_8 p1 p2 p3 p4 p5 p6 b2 b17) [(.int ((own_iush p2 (8 : Int32)).toInt8.toInt32)), (.ref b2), (.int (own_p p4))])) t → Steps p.tables e below (s₁.setTop (entryFrame m #[(.int p1), (.int p2), (.int p3), (.int p4), (.int p5), (.int p6)] maxLocals)) t := fun t k => pre18 t (by
    show Steps p.tables e below (T17.setTop (mkF m 98 (lc0_7 p1 p2 p3 p4 p5 p6 b2) [(.ref b17)])) _
    refine XS.astore X17.here hx rfl (hb hby at_98) rfl rfl (l' := (lc0_8 p1 p2 p3 p4 p5 p6 b2 b17)) rfl ?_
    show Steps p.tables e below (T17.setTop (mkF m 100 (lc0_8 p1 p2 p3 p4 p5 p6 b2 b17) [])) _
    refine XS.iload X17.here hx rfl (hb hby at_100) rfl ?_
    show Steps p.tables e below (T17.setTop (mkF m 102 (lc0_8 p1 p2 p3 p4 p5 p6 b2 b17) [(.int (own_p p4))])) _
    refine XS.aload X17.here hx rfl (hb hby at_102) rfl rfl ?_
    show Steps p.tables e below (T17.setTop (mkF m 104 (lc0_8 p1 p2 p3 p4 p5 p6 b2 b17) [(.ref b2), (.int (own_p p4))])) _
    refine XS.iload X17.here hx rfl (hb hby at_104) rfl ?_
    show Steps p.tables e below (T17.setTop (mkF m 106 (lc0_8 p1 p2 p3 p4 p5 p6 b2 b17) [(.int ((own_iush p2 (8 : Int32)).toInt8.toInt32)), (.ref b2), (.int (own_p p4))])) _
    exact k)
  obtain ⟨_, _, ⟨T20, L20, k20, n20⟩, -, X20, ⟨Lc20, hQ20, l20, y20, z20⟩, st20⟩ := Jvm.LawKit.callS X17 hx (y := (⟨"com/example/canonbyte/canonbyte/codec/RunMoveToPinLaw", "place", "(I[BB)[B"⟩ : MethodName)) hown (mvT hZ (hw _ (List.mem_of_getElem? (i := 2) rfl))) (mvT hZ (hw _ (List.mem_of_getElem? (i := 3) rfl))) (mvT hZ (hw _ (List.mem_of_getElem? (i := 4) rfl))) (mvT hZ (hw _ (List.mem_of_getElem? (i := 5) rfl))) (by decide) (backOf (W := 0) (rmPl l Z a0 hw [] (own_p p4) b2 ((own_iush p2 (8 : Int32)).toInt8.toInt32) (own_ct p1) T17.heap n0 Z17 A_b2 (own_pr p4)) hZ (hw _ (List.mem_of_getElem? (i := 5) rfl)) (hw _ (List.mem_of_getElem? (i := 4) rfl)) (by decide) (by decide)) (g := (mkF m 106 (lc0_8 p1 p2 p3 p4 p5 p6 b2 b17) [(.int ((own_iush p2 (8 : Int32)).toInt8.toInt32)), (.ref b2), (.int (own_p p4))])) rfl (by rw [hml]; rfl) (argsL := [(.int (own_p p4)), (.ref b2), (.int ((own_iush p2 (8 : Int32)).toInt8.toInt32))]) (rest := []) (lenOf pd_0 rfl) rfl (by show 2 * 0 + _ ≤ _; exact Nat.le_of_eq rfl) (hb hby at_106) (fun _ _ => ⟨rfl, rfl, (by decide : 2 + 1 ≤ _), (by decide : 12 + 8 ≤ _)⟩)
  dsimp only [Pt.U, Pt.locs, Pt.cells, Pt.slots] at X20 l20 y20 z20 st20 hQ20
  subst l20 y20 z20
  obtain ⟨rfl, N20q, K20, u20⟩ := hQ20
  obtain ⟨b20, g20⟩ : ∃ z, z = T17.heap.size := ⟨_, rfl⟩
  rw [← g20] at u20 st20
  have g_b20 : n0 ≤ b20 := Nat.le_trans Z17 (Nat.le_of_eq g20.symm)
  have ne_b2_b20 : b2 ≠ b20 := Nat.ne_of_lt (Nat.lt_of_lt_of_le A_b2.lt (Nat.le_of_eq g20.symm))
  have ne_b17_b20 : b17 ≠ b20 := Nat.ne_of_lt (Nat.lt_of_lt_of_le A_b17.lt (Nat.le_of_eq g20.symm))
  have A_b2 := A_b2.keep K20 nin0
  have A_b17 := A_b17.keep K20 nin0
  have Z20 : n0 ≤ T20.heap.size := Nat.le_trans Z17 K20.1
  have A_b20 : own_A Z T20.heap b20 .byte 8 (own_pl (own_ct p1) ((own_p p4)).toInt.toNat ((own_iush p2 (8 : Int32)).toInt8.toInt32)) := u20
  have N20 := Fr.app N17 N20q
  have pre21 : ∀ t, Steps p.tables e below (T20.setTop (mkF m 109 (lc0_8 p1 p2 p3 p4 p5 p6 b2 b17) [(.ref b20)])) t → Steps p.tables e below (s₁.setTop (entryFrame m #[(.int p1), (.int p2), (.int p3), (.int p4), (.int p5), (.int p6)] maxLocals)) t := fun t k => pre19 t (st20 t k)
  have pre22 : ∀ t, Steps p.tables e below (T20.setTop (mkF m 111 (lc0_9 p1 p2 p3 p4 p5 p6 b2 b17 b20) [])) t → Steps p.tables e below (s₁.setTop (entryFrame m #[(.int p1), (.int p2), (.int p3), (.int p4), (.int p5), (.int p6)] maxLocals)) t := fun t k => pre21 t (by
    show Steps p.tables e below (T20.setTop (mkF m 109 (lc0_8 p1 p2 p3 p4 p5 p6 b2 b17) [(.ref b20)])) _
    refine XS.astore X20.here hx rfl (hb hby at_109) rfl rfl (l' := (lc0_9 p1 p2 p3 p4 p5 p6 b2 b17 b20)) rfl ?_
    show Steps p.tables e below (T20.setTop (mkF m 111 (lc0_9 p1 p2 p3 p4 p5 p6 b2 b17 b20) [])) _
    exact k)
  obtain ⟨T23, h23, X23, e23, E23, A23, D23, -, st23⟩ := newO X20 hx hZ hown (hw _ (List.mem_of_getElem? (i := 6) rfl)) (hw _ (List.mem_of_getElem? (i := 7) rfl)) (hw _ (List.mem_of_getElem? (i := 8) rfl)) rfl (g := (mkF m 111 (lc0_9 p1 p2 p3 p4 p5 p6 b2 b17 b20) [])) rfl (hb hby at_111) (by decide) (by decide)
  obtain ⟨b23, g23⟩ : ∃ z, z = T20.heap.size := ⟨_, rfl⟩
  rw [← g23] at A23 D23 st23
  have g_b23 : n0 ≤ b23 := Nat.le_trans Z20 (Nat.le_of_eq g23.symm)
  have ne_b2_b23 : b2 ≠ b23 := Nat.ne_of_lt (Nat.lt_of_lt_of_le A_b2.lt (Nat.le_of_eq g23.symm))
  have ne_b17_b23 : b17 ≠ b23 := Nat.ne_of_lt (Nat.lt_of_lt_of_le A_b17.lt (Nat.le_of_eq g23.symm))
  have ne_b20_b23 : b20 ≠ b23 := Nat.ne_of_lt (Nat.lt_of_lt_of_le A_b20.lt (Nat.le_of_eq g23.symm))
  have A_b2 := A_b2.ext E23
  have A_b17 := A_b17.ext E23
  have A_b20 := A_b20.ext E23
  have Z23 : n0 ≤ h23.size := Nat.le_trans Z20 E23.1
  have E_b23 := A23
  have F_b23_bytes : Fld Z h23 b23 "com/example/canonbyte/canonbyte/codec/Piece$Run" "bytes" "[B" .null := D23 (Or.inl (hw _ (List.mem_of_getElem? (i := 21) rfl))) (ty := (.array .byte)) (by decide)
  have F_b23_start : Fld Z h23 b23 "com/example/canonbyte/canonbyte/codec/Piece$Run" "start" "I" (.int (0 : Int32)) := D23 (Or.inl (hw _ (List.mem_of_getElem? (i := 23) rfl))) (ty := .int) (by decide)
  have F_b23_end : Fld Z h23 b23 "com/example/canonbyte/canonbyte/codec/Piece$Run" "end" "I" (.int (0 : Int32)) := D23 (Or.inl (hw _ (List.mem_of_getElem? (i := 25) rfl))) (ty := .int) (by decide)
  have pre24 : ∀ t, Steps p.tables e below (T23.setTop (mkF m 114 (lc0_9 p1 p2 p3 p4 p5 p6 b2 b17 b20) [(.ref b23)])) t → Steps p.tables e below (s₁.setTop (entryFrame m #[(.int p1), (.int p2), (.int p3), (.int p4), (.int p5), (.int p6)] maxLocals)) t := fun t k => pre22 t (st23 t k)
  have pre25 : ∀ t, Steps p.tables e below (T23.setTop (mkF m 127 (lc0_9 p1 p2 p3 p4 p5 p6 b2 b17 b20) [(.int ((own_p p3) + (own_e p5 p6))), (.int ((own_p p3) + (own_p p5))), (.ref b17), (.ref b23), (.ref b23)])) t → Steps p.tables e below (s₁.setTop (entryFrame m #[(.int p1), (.int p2), (.int p3), (.int p4), (.int p5), (.int p6)] maxLocals)) t := fun t k => pre24 t (by
    show Steps p.tables e below (T23.setTop (mkF m 114 (lc0_9 p1 p2 p3 p4 p5 p6 b2 b17 b20) [(.ref b23)])) _
    refine XS.dup X23.here hx rfl (hb hby at_114) rfl rfl ?_
    show Steps p.tables e below (T23.setTop (mkF m 115 (lc0_9 p1 p2 p3 p4 p5 p6 b2 b17 b20) [(.ref b23), (.ref b23)])) _
    refine XS.aload X23.here hx rfl (hb hby at_115) rfl rfl ?_
    show Steps p.tables e below (T23.setTop (mkF m 117 (lc0_9 p1 p2 p3 p4 p5 p6 b2 b17 b20) [(.ref b17), (.ref b23), (.ref b23)])) _
    refine XS.iload X23.here hx rfl (hb hby at_117) rfl ?_
    show Steps p.tables e below (T23.setTop (mkF m 119 (lc0_9 p1 p2 p3 p4 p5 p6 b2 b17 b20) [(.int (own_p p3)), (.ref b17), (.ref b23), (.ref b23)])) _
    refine XS.iload X23.here hx rfl (hb hby at_119) rfl ?_
    show Steps p.tables e below (T23.setTop (mkF m 121 (lc0_9 p1 p2 p3 p4 p5 p6 b2 b17 b20) [(.int (own_p p5)), (.int (own_p p3)), (.ref b17), (.ref b23), (.ref b23)])) _
    refine XS.iadd X23.here hx rfl (hb hby at_121) rfl ?_
    show Steps p.tables e below (T23.setTop (mkF m 122 (lc0_9 p1 p2 p3 p4 p5 p6 b2 b17 b20) [(.int ((own_p p3) + (own_p p5))), (.ref b17), (.ref b23), (.ref b23)])) _
    refine XS.iload X23.here hx rfl (hb hby at_122) rfl ?_
    show Steps p.tables e below (T23.setTop (mkF m 124 (lc0_9 p1 p2 p3 p4 p5 p6 b2 b17 b20) [(.int (own_p p3)), (.int ((own_p p3) + (own_p p5))), (.ref b17), (.ref b23), (.ref b23)])) _
    refine XS.iload X23.here hx rfl (hb hby at_124) rfl ?_
    show Steps p.tables e below (T23.setTop (mkF m 126 (lc0_9 p1 p2 p3 p4 p5 p6 b2 b17 b20) [(.int (own_e p5 p6)), (.int (own_p p3)), (.int ((own_p p3) + (own_p p5))), (.ref b17), (.ref b23), (.ref b23)])) _
    refine XS.iadd X23.here hx rfl (hb hby at_126) rfl ?_
    show Steps p.tables e below (T23.setTop (mkF m 127 (lc0_9 p1 p2 p3 p4 p5 p6 b2 b17 b20) [(.int ((own_p p3) + (own_e p5 p6))), (.int ((own_p p3) + (own_p p5))), (.ref b17), (.ref b23), (.ref b23)])) _
    exact k)
  obtain ⟨_, _, ⟨T26, L26, k26, n26⟩, -, X26, ⟨Lc26, hQ26, l26, y26, z26⟩, st26⟩ := X23.specialBack hx (y := (⟨"com/example/canonbyte/canonbyte/codec/Piece$Run", "<init>", "([BII)V"⟩ : MethodName)) rfl hown (mvT hZ (hw _ (List.mem_of_getElem? (i := 9) rfl))) (mvT hZ (hw _ (List.mem_of_getElem? (i := 10) rfl))) (mvT hZ (hw _ (List.mem_of_getElem? (i := 11) rfl))) (by decide) (backOf (W := 1) (rmRI l Z a0 hw [] b23 b17 ((own_p p3) + (own_p p5)) ((own_p p3) + (own_e p5 p6)) h23 n0 Z23 E_b23 F_b23_bytes F_b23_start F_b23_end g_b23) hZ (hw _ (List.mem_of_getElem? (i := 11) rfl)) (hw _ (List.mem_of_getElem? (i := 8) rfl)) (by decide) (by decide)) (g := (mkF m 127 (lc0_9 p1 p2 p3 p4 p5 p6 b2 b17 b20) [(.int ((own_p p3) + (own_e p5 p6))), (.int ((own_p p3) + (own_p p5))), (.ref b17), (.ref b23), (.ref b23)])) rfl (by rw [hml]; rfl) (Steps.refl _) (a := b23) (argsL := [(.ref b17), (.int ((own_p p3) + (own_p p5))), (.int ((own_p p3) + (own_e p5 p6)))]) (rest := [(.ref b23)]) (lenOf pd_1 rfl) rfl (by show 2 * 0 + _ ≤ _; exact Nat.le_of_eq rfl) (hb hby at_127) (fun _ _ => ⟨rfl, e23, (by decide : 4 + 0 ≤ _), (by decide : 23 + 0 ≤ _)⟩)
  dsimp only [Pt.U, Pt.locs, Pt.cells, Pt.slots] at X26 l26 y26 z26 st26 hQ26
  subst l26 y26 z26
  obtain ⟨rfl, N26q, K26, q26_0, q26_1, q26_2⟩ := hQ26
  have A_b2 := A_b2.keep K26 (ninS ne_b2_b23 nin0)
  have A_b17 := A_b17.keep K26 (ninS ne_b17_b23 nin0)
  have A_b20 := A_b20.keep K26 (ninS ne_b20_b23 nin0)
  have E_b23 := E_b23.keep K26
  have Z26 : n0 ≤ T26.heap.size := Nat.le_trans Z23 K26.1
  have F_b23_bytes := q26_0
  have F_b23_start := q26_1
  have F_b23_end := q26_2
  have N26 := Fr.app N20 N26q
  have pre27 : ∀ t, Steps p.tables e below (T26.setTop (mkF m 130 (lc0_9 p1 p2 p3 p4 p5 p6 b2 b17 b20) [(.ref b23)])) t → Steps p.tables e below (s₁.setTop (entryFrame m #[(.int p1), (.int p2), (.int p3), (.int p4), (.int p5), (.int p6)] maxLocals)) t := fun t k => pre25 t (st26.trans k)
  have pre28 : ∀ t, Steps p.tables e below (T26.setTop (mkF m 141 (lc0_10 p1 p2 p3 p4 p5 p6 b2 b17 b20 b23) [(.int ((own_p p4) - (own_p p3))), (.ref b20), (.ref b23)])) t → Steps p.tables e below (s₁.setTop (entryFrame m #[(.int p1), (.int p2), (.int p3), (.int p4), (.int p5), (.int p6)] maxLocals)) t := fun t k => pre27 t (by
    show Steps p.tables e below (T26.setTop (mkF m 130 (lc0_9 p1 p2 p3 p4 p5 p6 b2 b17 b20) [(.ref b23)])) _
    refine XS.astore X26.here hx rfl (hb hby at_130) rfl rfl (l' := (lc0_10 p1 p2 p3 p4 p5 p6 b2 b17 b20 b23)) rfl ?_
    show Steps p.tables e below (T26.setTop (mkF m 132 (lc0_10 p1 p2 p3 p4 p5 p6 b2 b17 b20 b23) [])) _
    refine XS.aload X26.here hx rfl (hb hby at_132) rfl rfl ?_
    show Steps p.tables e below (T26.setTop (mkF m 134 (lc0_10 p1 p2 p3 p4 p5 p6 b2 b17 b20 b23) [(.ref b23)])) _
    refine XS.aload X26.here hx rfl (hb hby at_134) rfl rfl ?_
    show Steps p.tables e below (T26.setTop (mkF m 136 (lc0_10 p1 p2 p3 p4 p5 p6 b2 b17 b20 b23) [(.ref b20), (.ref b23)])) _
    refine XS.iload X26.here hx rfl (hb hby at_136) rfl ?_
    show Steps p.tables e below (T26.setTop (mkF m 138 (lc0_10 p1 p2 p3 p4 p5 p6 b2 b17 b20 b23) [(.int (own_p p4)), (.ref b20), (.ref b23)])) _
    refine XS.iload X26.here hx rfl (hb hby at_138) rfl ?_
    show Steps p.tables e below (T26.setTop (mkF m 140 (lc0_10 p1 p2 p3 p4 p5 p6 b2 b17 b20 b23) [(.int (own_p p3)), (.int (own_p p4)), (.ref b20), (.ref b23)])) _
    refine XS.isub X26.here hx rfl (hb hby at_140) rfl ?_
    show Steps p.tables e below (T26.setTop (mkF m 141 (lc0_10 p1 p2 p3 p4 p5 p6 b2 b17 b20 b23) [(.int ((own_p p4) - (own_p p3))), (.ref b20), (.ref b23)])) _
    exact k)
  obtain ⟨cq29, kq29, q29a, q29b, q29c⟩ := isOf hZ rfl E_b23
  obtain ⟨_, _, ⟨T29, L29, k29, n29⟩, -, X29, ⟨Lc29, hQ29, l29, y29, z29⟩, st29⟩ := X26.virtualBack hx (y := (⟨"com/example/canonbyte/canonbyte/codec/Piece$Run", "moveTo", "([BI)V"⟩ : MethodName)) (z := (⟨"com/example/canonbyte/canonbyte/codec/Piece$Run", "moveTo", "([BI)V"⟩ : MethodName)) hown (mvT hZ (hw _ (List.mem_of_getElem? (i := 26) rfl))) (mvT hZ (hw _ (List.mem_of_getElem? (i := 27) rfl))) (notFace_of_selects (args := #[]) (mvT hZ (hw _ (List.mem_of_getElem? (i := 29) rfl)))) (mvT hZ (hw _ (List.mem_of_getElem? (i := 29) rfl))) (mvT hZ (hw _ (List.mem_of_getElem? (i := 28) rfl))) (by decide) (backOf (W := 0) (rmMv l Z a0 hw [] b23 b20 ((own_p p4) - (own_p p3)) b17 ((own_p p3) + (own_p p5)) ((own_p p3) + (own_e p5 p6)) T26.heap n0 Z26 E_b23 F_b23_bytes F_b23_start F_b23_end g_b23) hZ (hw _ (List.mem_of_getElem? (i := 30) rfl)) (hw _ (List.mem_of_getElem? (i := 8) rfl)) (by decide) (by decide)) q29a q29c (g := (mkF m 141 (lc0_10 p1 p2 p3 p4 p5 p6 b2 b17 b20 b23) [(.int ((own_p p4) - (own_p p3))), (.ref b20), (.ref b23)])) rfl (by rw [hml]; rfl) (Steps.refl _) (argsL := [(.ref b20), (.int ((own_p p4) - (own_p p3)))]) (rest := []) (lenOf pd_3 rfl) rfl (by show 2 * 0 + _ ≤ _; exact Nat.le_of_eq rfl) (hb hby at_141) (fun _ _ => ⟨rfl, rfl, (by decide : 4 + 0 ≤ _), (by decide : 23 + 0 ≤ _)⟩)
  dsimp only [Pt.U, Pt.locs, Pt.cells, Pt.slots] at X29 l29 y29 z29 st29 hQ29
  subst l29 y29 z29
  obtain ⟨rfl, N29q, K29, q29_0, q29_1, q29_2⟩ := hQ29
  have A_b2 := A_b2.keep K29 (ninS ne_b2_b23 nin0)
  have A_b17 := A_b17.keep K29 (ninS ne_b17_b23 nin0)
  have A_b20 := A_b20.keep K29 (ninS ne_b20_b23 nin0)
  have E_b23 := E_b23.keep K29
  have Z29 : n0 ≤ T29.heap.size := Nat.le_trans Z26 K29.1
  have F_b23_bytes := q29_0
  have F_b23_start := q29_1
  have F_b23_end := q29_2
  have N29 := Fr.app N26 N29q
  have pre30 : ∀ t, Steps p.tables e below (T29.setTop (mkF m 144 (lc0_10 p1 p2 p3 p4 p5 p6 b2 b17 b20 b23) [])) t → Steps p.tables e below (s₁.setTop (entryFrame m #[(.int p1), (.int p2), (.int p3), (.int p4), (.int p5), (.int p6)] maxLocals)) t := fun t k => pre28 t (st29.trans k)
  have pre31 : ∀ t, Steps p.tables e below (T29.setTop (mkF m 148 (lc0_10 p1 p2 p3 p4 p5 p6 b2 b17 b20 b23) [(.int (p2.toInt8.toInt32)), (.ref b17)])) t → Steps p.tables e below (s₁.setTop (entryFrame m #[(.int p1), (.int p2), (.int p3), (.int p4), (.int p5), (.int p6)] maxLocals)) t := fun t k => pre30 t (by
    show Steps p.tables e below (T29.setTop (mkF m 144 (lc0_10 p1 p2 p3 p4 p5 p6 b2 b17 b20 b23) [])) _
    refine XS.aload X29.here hx rfl (hb hby at_144) rfl rfl ?_
    show Steps p.tables e below (T29.setTop (mkF m 146 (lc0_10 p1 p2 p3 p4 p5 p6 b2 b17 b20 b23) [(.ref b17)])) _
    refine XS.iload X29.here hx rfl (hb hby at_146) rfl ?_
    show Steps p.tables e below (T29.setTop (mkF m 148 (lc0_10 p1 p2 p3 p4 p5 p6 b2 b17 b20 b23) [(.int (p2.toInt8.toInt32)), (.ref b17)])) _
    exact k)
  obtain ⟨_, _, ⟨T32, L32, k32, n32⟩, -, X32, ⟨Lc32, hQ32, l32, y32, z32⟩, st32⟩ := Jvm.LawKit.callS X29 hx (y := (⟨"com/example/canonbyte/canonbyte/codec/RunMoveToPinLaw", "wipe", "([BB)V"⟩ : MethodName)) hown (mvT hZ (hw _ (List.mem_of_getElem? (i := 31) rfl))) (mvT hZ (hw _ (List.mem_of_getElem? (i := 32) rfl))) (mvT hZ (hw _ (List.mem_of_getElem? (i := 4) rfl))) (mvT hZ (hw _ (List.mem_of_getElem? (i := 33) rfl))) (by decide) (backOf (W := 0) (rmWp l Z a0 hw [] b17 (p2.toInt8.toInt32) (own_pl (own_ct p1) ((own_p p3)).toInt.toNat (p2.toInt8.toInt32)) T29.heap n0 Z29 A_b17 g_b17) hZ (hw _ (List.mem_of_getElem? (i := 33) rfl)) (hw _ (List.mem_of_getElem? (i := 4) rfl)) (by decide) (by decide)) (g := (mkF m 148 (lc0_10 p1 p2 p3 p4 p5 p6 b2 b17 b20 b23) [(.int (p2.toInt8.toInt32)), (.ref b17)])) rfl (by rw [hml]; rfl) (argsL := [(.ref b17), (.int (p2.toInt8.toInt32))]) (rest := []) (lenOf pd_4 rfl) rfl (by show 2 * 0 + _ ≤ _; exact Nat.le_of_eq rfl) (hb hby at_148) (fun _ _ => ⟨rfl, rfl, (by decide : 4 + 0 ≤ _), (by decide : 23 + 0 ≤ _)⟩)
  dsimp only [Pt.U, Pt.locs, Pt.cells, Pt.slots] at X32 l32 y32 z32 st32 hQ32
  subst l32 y32 z32
  obtain ⟨rfl, N32q, K32⟩ := hQ32
  have A_b2 := A_b2.keep K32 (ninS ne_b2_b17 nin0)
  have A_b20 := A_b20.keep K32 (ninS (Ne.symm ne_b17_b20) nin0)
  have E_b23 := E_b23.keep K32
  have F_b23_bytes := F_b23_bytes.keep K32 (ninS (Ne.symm ne_b17_b23) nin0)
  have F_b23_start := F_b23_start.keep K32 (ninS (Ne.symm ne_b17_b23) nin0)
  have F_b23_end := F_b23_end.keep K32 (ninS (Ne.symm ne_b17_b23) nin0)
  have Z32 : n0 ≤ T32.heap.size := Nat.le_trans Z29 K32.1
  have N32 := Fr.app N29 N32q
  have pre33 : ∀ t, Steps p.tables e below (T32.setTop (mkF m 151 (lc0_10 p1 p2 p3 p4 p5 p6 b2 b17 b20 b23) [])) t → Steps p.tables e below (s₁.setTop (entryFrame m #[(.int p1), (.int p2), (.int p3), (.int p4), (.int p5), (.int p6)] maxLocals)) t := fun t k => pre31 t (st32 t k)
  have pre34 : ∀ t, Steps p.tables e below (T32.setTop (mkF m 154 (lc0_10 p1 p2 p3 p4 p5 p6 b2 b17 b20 b23) [(.int (0 : Int32)), (.ref b23)])) t → Steps p.tables e below (s₁.setTop (entryFrame m #[(.int p1), (.int p2), (.int p3), (.int p4), (.int p5), (.int p6)] maxLocals)) t := fun t k => pre33 t (by
    show Steps p.tables e below (T32.setTop (mkF m 151 (lc0_10 p1 p2 p3 p4 p5 p6 b2 b17 b20 b23) [])) _
    refine XS.aload X32.here hx rfl (hb hby at_151) rfl rfl ?_
    show Steps p.tables e below (T32.setTop (mkF m 153 (lc0_10 p1 p2 p3 p4 p5 p6 b2 b17 b20 b23) [(.ref b23)])) _
    refine XS.iconst X32.here hx rfl (hb hby at_153) ?_
    show Steps p.tables e below (T32.setTop (mkF m 154 (lc0_10 p1 p2 p3 p4 p5 p6 b2 b17 b20 b23) [(.int (0 : Int32)), (.ref b23)])) _
    exact k)
  obtain ⟨_, _, ⟨T35, L35, k35, n35⟩, -, X35, ⟨Lc35, hQ35, l35, y35, z35⟩, st35⟩ := Jvm.LawKit.callS X32 hx (y := (⟨"com/example/canonbyte/canonbyte/codec/Piece", "toByteArray", "(Lcom/example/canonbyte/canonbyte/codec/Piece;I)[B"⟩ : MethodName)) hown (mvT hZ (hw _ (List.mem_of_getElem? (i := 34) rfl))) (mvT hZ (hw _ (List.mem_of_getElem? (i := 35) rfl))) (mvT hZ (hw _ (List.mem_of_getElem? (i := 15) rfl))) (mvT hZ (hw _ (List.mem_of_getElem? (i := 36) rfl))) (by decide) (backOf (W := 0) (rmTB l Z a0 hw [] b23 (0 : Int32) (own_pl (own_ct p1) ((own_p p4)).toInt.toNat ((own_iush p2 (8 : Int32)).toInt8.toInt32)) ((own_p p4).toInt.toNat + (own_p p5).toInt.toNat) (own_n p5 p6).toInt.toNat b20 (((own_p p3) + (own_p p5)) + ((own_p p4) - (own_p p3))) (((own_p p3) + (own_e p5 p6)) + ((own_p p4) - (own_p p3))) T32.heap n0 Z32 E_b23 F_b23_bytes F_b23_start F_b23_end A_b20 (own_plf _ _ _) (own_start p3 p4 p5) (own_end p3 p4 p5 p6) (own_h8 p4 p5 p6) (own_hne p4 p5 p6)) hZ (hw _ (List.mem_of_getElem? (i := 36) rfl)) (hw _ (List.mem_of_getElem? (i := 15) rfl)) (by decide) (by decide)) (g := (mkF m 154 (lc0_10 p1 p2 p3 p4 p5 p6 b2 b17 b20 b23) [(.int (0 : Int32)), (.ref b23)])) rfl (by rw [hml]; rfl) (argsL := [(.ref b23), (.int (0 : Int32))]) (rest := []) (lenOf pd_5 rfl) rfl (by show 2 * 0 + _ ≤ _; exact Nat.le_of_eq rfl) (hb hby at_154) (fun _ _ => ⟨rfl, rfl, (by decide : 4 + 1 ≤ _), (by decide : 23 + 8 ≤ _)⟩)
  dsimp only [Pt.U, Pt.locs, Pt.cells, Pt.slots] at X35 l35 y35 z35 st35 hQ35
  subst l35 y35 z35
  obtain ⟨rfl, N35q, K35, u35⟩ := hQ35
  obtain ⟨b35, g35⟩ : ∃ z, z = T32.heap.size := ⟨_, rfl⟩
  rw [← g35] at u35 st35
  have g_b35 : n0 ≤ b35 := Nat.le_trans Z32 (Nat.le_of_eq g35.symm)
  have ne_b2_b35 : b2 ≠ b35 := Nat.ne_of_lt (Nat.lt_of_lt_of_le A_b2.lt (Nat.le_of_eq g35.symm))
  have ne_b20_b35 : b20 ≠ b35 := Nat.ne_of_lt (Nat.lt_of_lt_of_le A_b20.lt (Nat.le_of_eq g35.symm))
  have ne_b23_b35 : b23 ≠ b35 := Nat.ne_of_lt (Nat.lt_of_lt_of_le E_b23.lt (Nat.le_of_eq g35.symm))
  have A_b2 := A_b2.keep K35 nin0
  have A_b20 := A_b20.keep K35 nin0
  have E_b23 := E_b23.keep K35
  have F_b23_bytes := F_b23_bytes.keep K35 nin0
  have F_b23_start := F_b23_start.keep K35 nin0
  have F_b23_end := F_b23_end.keep K35 nin0
  have Z35 : n0 ≤ T35.heap.size := Nat.le_trans Z32 K35.1
  have A_b35 : own_A Z T35.heap b35 .byte (own_n p5 p6).toInt.toNat (fun i => (own_pl (own_ct p1) ((own_p p4)).toInt.toNat ((own_iush p2 (8 : Int32)).toInt8.toInt32)) (((own_p p4).toInt.toNat + (own_p p5).toInt.toNat) + i)) := u35
  have N35 := Fr.app N32 N35q
  have pre36 : ∀ t, Steps p.tables e below (T35.setTop (mkF m 157 (lc0_10 p1 p2 p3 p4 p5 p6 b2 b17 b20 b23) [(.ref b35)])) t → Steps p.tables e below (s₁.setTop (entryFrame m #[(.int p1), (.int p2), (.int p3), (.int p4), (.int p5), (.int p6)] maxLocals)) t := fun t k => pre34 t (st35 t k)
  have pre37 : ∀ t, Steps p.tables e below (T35.setTop (mkF m 168 (lc0_12 p1 p2 p3 p4 p5 p6 b2 b17 b20 b23 b35) [(.ref b35)])) t → Steps p.tables e below (s₁.setTop (entryFrame m #[(.int p1), (.int p2), (.int p3), (.int p4), (.int p5), (.int p6)] maxLocals)) t := fun t k => pre36 t (by
    show Steps p.tables e below (T35.setTop (mkF m 157 (lc0_10 p1 p2 p3 p4 p5 p6 b2 b17 b20 b23) [(.ref b35)])) _
    refine XS.astore X35.here hx rfl (hb hby at_157) rfl rfl (l' := (lc0_11 p1 p2 p3 p4 p5 p6 b2 b17 b20 b23 b35)) rfl ?_
    show Steps p.tables e below (T35.setTop (mkF m 159 (lc0_11 p1 p2 p3 p4 p5 p6 b2 b17 b20 b23 b35) [])) _
    refine XS.iload X35.here hx rfl (hb hby at_159) rfl ?_
    show Steps p.tables e below (T35.setTop (mkF m 161 (lc0_11 p1 p2 p3 p4 p5 p6 b2 b17 b20 b23 b35) [(.int (own_e p5 p6))])) _
    refine XS.iload X35.here hx rfl (hb hby at_161) rfl ?_
    show Steps p.tables e below (T35.setTop (mkF m 163 (lc0_11 p1 p2 p3 p4 p5 p6 b2 b17 b20 b23 b35) [(.int (own_p p5)), (.int (own_e p5 p6))])) _
    refine XS.isub X35.here hx rfl (hb hby at_163) rfl ?_
    show Steps p.tables e below (T35.setTop (mkF m 164 (lc0_11 p1 p2 p3 p4 p5 p6 b2 b17 b20 b23 b35) [(.int (own_n p5 p6))])) _
    refine XS.istore X35.here hx rfl (hb hby at_164) rfl (l' := (lc0_12 p1 p2 p3 p4 p5 p6 b2 b17 b20 b23 b35)) rfl ?_
    show Steps p.tables e below (T35.setTop (mkF m 166 (lc0_12 p1 p2 p3 p4 p5 p6 b2 b17 b20 b23 b35) [])) _
    refine XS.aload X35.here hx rfl (hb hby at_166) rfl rfl ?_
    show Steps p.tables e below (T35.setTop (mkF m 168 (lc0_12 p1 p2 p3 p4 p5 p6 b2 b17 b20 b23 b35) [(.ref b35)])) _
    exact k)
  obtain ⟨cl38, Ar38, Sz38, Hf38⟩ := id A_b35
  have pre39 : ∀ t, Steps p.tables e below (T35.setTop (mkF m 169 (lc0_12 p1 p2 p3 p4 p5 p6 b2 b17 b20 b23 b35) [(.int (own_n p5 p6))])) t → Steps p.tables e below (s₁.setTop (entryFrame m #[(.int p1), (.int p2), (.int p3), (.int p4), (.int p5), (.int p6)] maxLocals)) t := fun t k => pre37 t (X35.arraylength hx Ar38.1 (State.isArrayOf_alike hZ.alike Ar38.2.1) (g := (mkF m 168 (lc0_12 p1 p2 p3 p4 p5 p6 b2 b17 b20 b23 b35) [(.ref b35)])) rfl rfl (hb hby at_168) _ (by rw [own_len Sz38 (own_ln p5 p6)]; exact k))
  have pre40 : ∀ t, Steps p.tables e below (T35.setTop (mkF m 178 (lc0_12 p1 p2 p3 p4 p5 p6 b2 b17 b20 b23 b35) [(.int (own_n p5 p6))])) t → Steps p.tables e below (s₁.setTop (entryFrame m #[(.int p1), (.int p2), (.int p3), (.int p4), (.int p5), (.int p6)] maxLocals)) t := fun t k => pre39 t (by
    show Steps p.tables e below (T35.setTop (mkF m 169 (lc0_12 p1 p2 p3 p4 p5 p6 b2 b17 b20 b23 b35) [(.int (own_n p5 p6))])) _
    refine XS.iload X35.here hx rfl (hb hby at_169) rfl ?_
    show Steps p.tables e below (T35.setTop (mkF m 171 (lc0_12 p1 p2 p3 p4 p5 p6 b2 b17 b20 b23 b35) [(.int (own_n p5 p6)), (.int (own_n p5 p6))])) _
    refine XS.icmpYes X35.here hx rfl (pc0 := 171) (pc' := 176) rfl (hb hby at_171) rfl (teq rfl).1 (by decide) (by decide) ?_
    show Steps p.tables e below (T35.setTop (mkF m 176 (lc0_12 p1 p2 p3 p4 p5 p6 b2 b17 b20 b23 b35) [])) _
    refine XS.iload X35.here hx rfl (hb hby at_176) rfl ?_
    show Steps p.tables e below (T35.setTop (mkF m 178 (lc0_12 p1 p2 p3 p4 p5 p6 b2 b17 b20 b23 b35) [(.int (own_n p5 p6))])) _
    exact k)
  by_cases hc178_41 : (0 : Int32) < (own_n p5 p6)
  · have pre42 : ∀ t, Steps p.tables e below (T35.setTop (mkF m 184 (lc0_12 p1 p2 p3 p4 p5 p6 b2 b17 b20 b23 b35) [(.int (0 : Int32)), (.ref b35)])) t → Steps p.tables e below (s₁.setTop (entryFrame m #[(.int p1), (.int p2), (.int p3), (.int p4), (.int p5), (.int p6)] maxLocals)) t := fun t k => pre40 t (by
      show Steps p.tables e below (T35.setTop (mkF m 178 (lc0_12 p1 p2 p3 p4 p5 p6 b2 b17 b20 b23 b35) [(.int (own_n p5 p6))])) _
      refine XS.ifNo X35.here hx rfl (hb hby at_178) rfl ((if0 _ _).trans (tlt hc178_41).2.2.2) ?_
      show Steps p.tables e below (T35.setTop (mkF m 181 (lc0_12 p1 p2 p3 p4 p5 p6 b2 b17 b20 b23 b35) [])) _
      refine XS.aload X35.here hx rfl (hb hby at_181) rfl rfl ?_
      show Steps p.tables e below (T35.setTop (mkF m 183 (lc0_12 p1 p2 p3 p4 p5 p6 b2 b17 b20 b23 b35) [(.ref b35)])) _
      refine XS.iconst X35.here hx rfl (hb hby at_183) ?_
      show Steps p.tables e below (T35.setTop (mkF m 184 (lc0_12 p1 p2 p3 p4 p5 p6 b2 b17 b20 b23 b35) [(.int (0 : Int32)), (.ref b35)])) _
      exact k)
    obtain ⟨cl43, Ar43, Sz43, Hf43⟩ := id A_b35
    have hat43 : cl43.slots[((0 : Int32)).toNatClampNeg]? = some (.int (own_ct p1 ((own_p p5)).toNatClampNeg)) := (Hf43 _ (own_lt_of (own_oin p5 p6 (by decide) hc178_41))).trans (congrArg (fun z => some (Value.int z)) (own_outk p1 p4 p5 p6 _ (by decide) hc178_41 (own_ix0 p5)))
    have pre44 : ∀ t, Steps p.tables e below (T35.setTop (mkF m 185 (lc0_12 p1 p2 p3 p4 p5 p6 b2 b17 b20 b23 b35) [(.int (own_ct p1 ((own_p p5)).toNatClampNeg))])) t → Steps p.tables e below (s₁.setTop (entryFrame m #[(.int p1), (.int p2), (.int p3), (.int p4), (.int p5), (.int p6)] maxLocals)) t := fun t k => pre42 t (X35.baloadBytes hx (j := (0 : Int32)) (v := (.int (own_ct p1 ((own_p p5)).toNatClampNeg))) Ar43.1 (State.isArrayOf_alike hZ.alike Ar43.2.1) Ar43.2.2 (own_inb Sz43 (own_oin p5 p6 (by decide) hc178_41)) hat43 (g := (mkF m 184 (lc0_12 p1 p2 p3 p4 p5 p6 b2 b17 b20 b23 b35) [(.int (0 : Int32)), (.ref b35)])) rfl rfl (hb hby at_184) _ k)
    have pre45 : ∀ t, Steps p.tables e below (T35.setTop (mkF m 189 (lc0_12 p1 p2 p3 p4 p5 p6 b2 b17 b20 b23 b35) [(.int (own_p p5)), (.ref b2), (.int (own_ct p1 ((own_p p5)).toNatClampNeg))])) t → Steps p.tables e below (s₁.setTop (entryFrame m #[(.int p1), (.int p2), (.int p3), (.int p4), (.int p5), (.int p6)] maxLocals)) t := fun t k => pre44 t (by
      show Steps p.tables e below (T35.setTop (mkF m 185 (lc0_12 p1 p2 p3 p4 p5 p6 b2 b17 b20 b23 b35) [(.int (own_ct p1 ((own_p p5)).toNatClampNeg))])) _
      refine XS.aload X35.here hx rfl (hb hby at_185) rfl rfl ?_
      show Steps p.tables e below (T35.setTop (mkF m 187 (lc0_12 p1 p2 p3 p4 p5 p6 b2 b17 b20 b23 b35) [(.ref b2), (.int (own_ct p1 ((own_p p5)).toNatClampNeg))])) _
      refine XS.iload X35.here hx rfl (hb hby at_187) rfl ?_
      show Steps p.tables e below (T35.setTop (mkF m 189 (lc0_12 p1 p2 p3 p4 p5 p6 b2 b17 b20 b23 b35) [(.int (own_p p5)), (.ref b2), (.int (own_ct p1 ((own_p p5)).toNatClampNeg))])) _
      exact k)
    obtain ⟨cl46, Ar46, Sz46, Hf46⟩ := id A_b2
    have hat46 : cl46.slots[((own_p p5)).toNatClampNeg]? = some (.int (own_ct p1 ((own_p p5)).toNatClampNeg)) := (Hf46 _ (own_lt_of (own_cin p5 p6 (by decide) hc178_41 (own_ix0 p5)))).trans (congrArg (fun z => some (Value.int z)) rfl)
    have pre47 : ∀ t, Steps p.tables e below (T35.setTop (mkF m 190 (lc0_12 p1 p2 p3 p4 p5 p6 b2 b17 b20 b23 b35) [(.int (own_ct p1 ((own_p p5)).toNatClampNeg)), (.int (own_ct p1 ((own_p p5)).toNatClampNeg))])) t → Steps p.tables e below (s₁.setTop (entryFrame m #[(.int p1), (.int p2), (.int p3), (.int p4), (.int p5), (.int p6)] maxLocals)) t := fun t k => pre45 t (X35.baloadBytes hx (j := (own_p p5)) (v := (.int (own_ct p1 ((own_p p5)).toNatClampNeg))) Ar46.1 (State.isArrayOf_alike hZ.alike Ar46.2.1) Ar46.2.2 (own_inb Sz46 (own_cin p5 p6 (by decide) hc178_41 (own_ix0 p5))) hat46 (g := (mkF m 189 (lc0_12 p1 p2 p3 p4 p5 p6 b2 b17 b20 b23 b35) [(.int (own_p p5)), (.ref b2), (.int (own_ct p1 ((own_p p5)).toNatClampNeg))])) rfl rfl (hb hby at_189) _ k)
    have pre48 : ∀ t, Steps p.tables e below (T35.setTop (mkF m 198 (lc0_12 p1 p2 p3 p4 p5 p6 b2 b17 b20 b23 b35) [(.int (1 : Int32)), (.int (own_n p5 p6))])) t → Steps p.tables e below (s₁.setTop (entryFrame m #[(.int p1), (.int p2), (.int p3), (.int p4), (.int p5), (.int p6)] maxLocals)) t := fun t k => pre47 t (by
      show Steps p.tables e below (T35.setTop (mkF m 190 (lc0_12 p1 p2 p3 p4 p5 p6 b2 b17 b20 b23 b35) [(.int (own_ct p1 ((own_p p5)).toNatClampNeg)), (.int (own_ct p1 ((own_p p5)).toNatClampNeg))])) _
      refine XS.icmpYes X35.here hx rfl (pc0 := 190) (pc' := 195) rfl (hb hby at_190) rfl (teq rfl).1 (by decide) (by decide) ?_
      show Steps p.tables e below (T35.setTop (mkF m 195 (lc0_12 p1 p2 p3 p4 p5 p6 b2 b17 b20 b23 b35) [])) _
      refine XS.iload X35.here hx rfl (hb hby at_195) rfl ?_
      show Steps p.tables e below (T35.setTop (mkF m 197 (lc0_12 p1 p2 p3 p4 p5 p6 b2 b17 b20 b23 b35) [(.int (own_n p5 p6))])) _
      refine XS.iconst X35.here hx rfl (hb hby at_197) ?_
      show Steps p.tables e below (T35.setTop (mkF m 198 (lc0_12 p1 p2 p3 p4 p5 p6 b2 b17 b20 b23 b35) [(.int (1 : Int32)), (.int (own_n p5 p6))])) _
      exact k)
    by_cases hc198_49 : (1 : Int32) < (own_n p5 p6)
    · have pre50 : ∀ t, Steps p.tables e below (T35.setTop (mkF m 204 (lc0_12 p1 p2 p3 p4 p5 p6 b2 b17 b20 b23 b35) [(.int (1 : Int32)), (.ref b35)])) t → Steps p.tables e below (s₁.setTop (entryFrame m #[(.int p1), (.int p2), (.int p3), (.int p4), (.int p5), (.int p6)] maxLocals)) t := fun t k => pre48 t (by
        show Steps p.tables e below (T35.setTop (mkF m 198 (lc0_12 p1 p2 p3 p4 p5 p6 b2 b17 b20 b23 b35) [(.int (1 : Int32)), (.int (own_n p5 p6))])) _
        refine XS.icmpNo X35.here hx rfl (hb hby at_198) rfl (tlt hc198_49).2.2.2 ?_
        show Steps p.tables e below (T35.setTop (mkF m 201 (lc0_12 p1 p2 p3 p4 p5 p6 b2 b17 b20 b23 b35) [])) _
        refine XS.aload X35.here hx rfl (hb hby at_201) rfl rfl ?_
        show Steps p.tables e below (T35.setTop (mkF m 203 (lc0_12 p1 p2 p3 p4 p5 p6 b2 b17 b20 b23 b35) [(.ref b35)])) _
        refine XS.iconst X35.here hx rfl (hb hby at_203) ?_
        show Steps p.tables e below (T35.setTop (mkF m 204 (lc0_12 p1 p2 p3 p4 p5 p6 b2 b17 b20 b23 b35) [(.int (1 : Int32)), (.ref b35)])) _
        exact k)
      obtain ⟨cl51, Ar51, Sz51, Hf51⟩ := id A_b35
      have hat51 : cl51.slots[((1 : Int32)).toNatClampNeg]? = some (.int (own_ct p1 (((own_p p5) + (1 : Int32))).toNatClampNeg)) := (Hf51 _ (own_lt_of (own_oin p5 p6 (by decide) hc198_49))).trans (congrArg (fun z => some (Value.int z)) (own_outk p1 p4 p5 p6 _ (by decide) hc198_49 (own_ix1 p5)))
      have pre52 : ∀ t, Steps p.tables e below (T35.setTop (mkF m 205 (lc0_12 p1 p2 p3 p4 p5 p6 b2 b17 b20 b23 b35) [(.int (own_ct p1 (((own_p p5) + (1 : Int32))).toNatClampNeg))])) t → Steps p.tables e below (s₁.setTop (entryFrame m #[(.int p1), (.int p2), (.int p3), (.int p4), (.int p5), (.int p6)] maxLocals)) t := fun t k => pre50 t (X35.baloadBytes hx (j := (1 : Int32)) (v := (.int (own_ct p1 (((own_p p5) + (1 : Int32))).toNatClampNeg))) Ar51.1 (State.isArrayOf_alike hZ.alike Ar51.2.1) Ar51.2.2 (own_inb Sz51 (own_oin p5 p6 (by decide) hc198_49)) hat51 (g := (mkF m 204 (lc0_12 p1 p2 p3 p4 p5 p6 b2 b17 b20 b23 b35) [(.int (1 : Int32)), (.ref b35)])) rfl rfl (hb hby at_204) _ k)
      have pre53 : ∀ t, Steps p.tables e below (T35.setTop (mkF m 211 (lc0_12 p1 p2 p3 p4 p5 p6 b2 b17 b20 b23 b35) [(.int ((own_p p5) + (1 : Int32))), (.ref b2), (.int (own_ct p1 (((own_p p5) + (1 : Int32))).toNatClampNeg))])) t → Steps p.tables e below (s₁.setTop (entryFrame m #[(.int p1), (.int p2), (.int p3), (.int p4), (.int p5), (.int p6)] maxLocals)) t := fun t k => pre52 t (by
        show Steps p.tables e below (T35.setTop (mkF m 205 (lc0_12 p1 p2 p3 p4 p5 p6 b2 b17 b20 b23 b35) [(.int (own_ct p1 (((own_p p5) + (1 : Int32))).toNatClampNeg))])) _
        refine XS.aload X35.here hx rfl (hb hby at_205) rfl rfl ?_
        show Steps p.tables e below (T35.setTop (mkF m 207 (lc0_12 p1 p2 p3 p4 p5 p6 b2 b17 b20 b23 b35) [(.ref b2), (.int (own_ct p1 (((own_p p5) + (1 : Int32))).toNatClampNeg))])) _
        refine XS.iload X35.here hx rfl (hb hby at_207) rfl ?_
        show Steps p.tables e below (T35.setTop (mkF m 209 (lc0_12 p1 p2 p3 p4 p5 p6 b2 b17 b20 b23 b35) [(.int (own_p p5)), (.ref b2), (.int (own_ct p1 (((own_p p5) + (1 : Int32))).toNatClampNeg))])) _
        refine XS.iconst X35.here hx rfl (hb hby at_209) ?_
        show Steps p.tables e below (T35.setTop (mkF m 210 (lc0_12 p1 p2 p3 p4 p5 p6 b2 b17 b20 b23 b35) [(.int (1 : Int32)), (.int (own_p p5)), (.ref b2), (.int (own_ct p1 (((own_p p5) + (1 : Int32))).toNatClampNeg))])) _
        refine XS.iadd X35.here hx rfl (hb hby at_210) rfl ?_
        show Steps p.tables e below (T35.setTop (mkF m 211 (lc0_12 p1 p2 p3 p4 p5 p6 b2 b17 b20 b23 b35) [(.int ((own_p p5) + (1 : Int32))), (.ref b2), (.int (own_ct p1 (((own_p p5) + (1 : Int32))).toNatClampNeg))])) _
        exact k)
      obtain ⟨cl54, Ar54, Sz54, Hf54⟩ := id A_b2
      have hat54 : cl54.slots[(((own_p p5) + (1 : Int32))).toNatClampNeg]? = some (.int (own_ct p1 (((own_p p5) + (1 : Int32))).toNatClampNeg)) := (Hf54 _ (own_lt_of (own_cin p5 p6 (by decide) hc198_49 (own_ix1 p5)))).trans (congrArg (fun z => some (Value.int z)) rfl)
      have pre55 : ∀ t, Steps p.tables e below (T35.setTop (mkF m 212 (lc0_12 p1 p2 p3 p4 p5 p6 b2 b17 b20 b23 b35) [(.int (own_ct p1 (((own_p p5) + (1 : Int32))).toNatClampNeg)), (.int (own_ct p1 (((own_p p5) + (1 : Int32))).toNatClampNeg))])) t → Steps p.tables e below (s₁.setTop (entryFrame m #[(.int p1), (.int p2), (.int p3), (.int p4), (.int p5), (.int p6)] maxLocals)) t := fun t k => pre53 t (X35.baloadBytes hx (j := ((own_p p5) + (1 : Int32))) (v := (.int (own_ct p1 (((own_p p5) + (1 : Int32))).toNatClampNeg))) Ar54.1 (State.isArrayOf_alike hZ.alike Ar54.2.1) Ar54.2.2 (own_inb Sz54 (own_cin p5 p6 (by decide) hc198_49 (own_ix1 p5))) hat54 (g := (mkF m 211 (lc0_12 p1 p2 p3 p4 p5 p6 b2 b17 b20 b23 b35) [(.int ((own_p p5) + (1 : Int32))), (.ref b2), (.int (own_ct p1 (((own_p p5) + (1 : Int32))).toNatClampNeg))])) rfl rfl (hb hby at_211) _ k)
      have pre56 : ∀ t, Steps p.tables e below (T35.setTop (mkF m 220 (lc0_12 p1 p2 p3 p4 p5 p6 b2 b17 b20 b23 b35) [(.int (2 : Int32)), (.int (own_n p5 p6))])) t → Steps p.tables e below (s₁.setTop (entryFrame m #[(.int p1), (.int p2), (.int p3), (.int p4), (.int p5), (.int p6)] maxLocals)) t := fun t k => pre55 t (by
        show Steps p.tables e below (T35.setTop (mkF m 212 (lc0_12 p1 p2 p3 p4 p5 p6 b2 b17 b20 b23 b35) [(.int (own_ct p1 (((own_p p5) + (1 : Int32))).toNatClampNeg)), (.int (own_ct p1 (((own_p p5) + (1 : Int32))).toNatClampNeg))])) _
        refine XS.icmpYes X35.here hx rfl (pc0 := 212) (pc' := 217) rfl (hb hby at_212) rfl (teq rfl).1 (by decide) (by decide) ?_
        show Steps p.tables e below (T35.setTop (mkF m 217 (lc0_12 p1 p2 p3 p4 p5 p6 b2 b17 b20 b23 b35) [])) _
        refine XS.iload X35.here hx rfl (hb hby at_217) rfl ?_
        show Steps p.tables e below (T35.setTop (mkF m 219 (lc0_12 p1 p2 p3 p4 p5 p6 b2 b17 b20 b23 b35) [(.int (own_n p5 p6))])) _
        refine XS.iconst X35.here hx rfl (hb hby at_219) ?_
        show Steps p.tables e below (T35.setTop (mkF m 220 (lc0_12 p1 p2 p3 p4 p5 p6 b2 b17 b20 b23 b35) [(.int (2 : Int32)), (.int (own_n p5 p6))])) _
        exact k)
      by_cases hc220_57 : (2 : Int32) < (own_n p5 p6)
      · have pre58 : ∀ t, Steps p.tables e below (T35.setTop (mkF m 226 (lc0_12 p1 p2 p3 p4 p5 p6 b2 b17 b20 b23 b35) [(.int (2 : Int32)), (.ref b35)])) t → Steps p.tables e below (s₁.setTop (entryFrame m #[(.int p1), (.int p2), (.int p3), (.int p4), (.int p5), (.int p6)] maxLocals)) t := fun t k => pre56 t (by
          show Steps p.tables e below (T35.setTop (mkF m 220 (lc0_12 p1 p2 p3 p4 p5 p6 b2 b17 b20 b23 b35) [(.int (2 : Int32)), (.int (own_n p5 p6))])) _
          refine XS.icmpNo X35.here hx rfl (hb hby at_220) rfl (tlt hc220_57).2.2.2 ?_
          show Steps p.tables e below (T35.setTop (mkF m 223 (lc0_12 p1 p2 p3 p4 p5 p6 b2 b17 b20 b23 b35) [])) _
          refine XS.aload X35.here hx rfl (hb hby at_223) rfl rfl ?_
          show Steps p.tables e below (T35.setTop (mkF m 225 (lc0_12 p1 p2 p3 p4 p5 p6 b2 b17 b20 b23 b35) [(.ref b35)])) _
          refine XS.iconst X35.here hx rfl (hb hby at_225) ?_
          show Steps p.tables e below (T35.setTop (mkF m 226 (lc0_12 p1 p2 p3 p4 p5 p6 b2 b17 b20 b23 b35) [(.int (2 : Int32)), (.ref b35)])) _
          exact k)
        obtain ⟨cl59, Ar59, Sz59, Hf59⟩ := id A_b35
        have hat59 : cl59.slots[((2 : Int32)).toNatClampNeg]? = some (.int (own_ct p1 (((own_p p5) + (2 : Int32))).toNatClampNeg)) := (Hf59 _ (own_lt_of (own_oin p5 p6 (by decide) hc220_57))).trans (congrArg (fun z => some (Value.int z)) (own_outk p1 p4 p5 p6 _ (by decide) hc220_57 (own_ix2 p5)))
        have pre60 : ∀ t, Steps p.tables e below (T35.setTop (mkF m 227 (lc0_12 p1 p2 p3 p4 p5 p6 b2 b17 b20 b23 b35) [(.int (own_ct p1 (((own_p p5) + (2 : Int32))).toNatClampNeg))])) t → Steps p.tables e below (s₁.setTop (entryFrame m #[(.int p1), (.int p2), (.int p3), (.int p4), (.int p5), (.int p6)] maxLocals)) t := fun t k => pre58 t (X35.baloadBytes hx (j := (2 : Int32)) (v := (.int (own_ct p1 (((own_p p5) + (2 : Int32))).toNatClampNeg))) Ar59.1 (State.isArrayOf_alike hZ.alike Ar59.2.1) Ar59.2.2 (own_inb Sz59 (own_oin p5 p6 (by decide) hc220_57)) hat59 (g := (mkF m 226 (lc0_12 p1 p2 p3 p4 p5 p6 b2 b17 b20 b23 b35) [(.int (2 : Int32)), (.ref b35)])) rfl rfl (hb hby at_226) _ k)
        have pre61 : ∀ t, Steps p.tables e below (T35.setTop (mkF m 233 (lc0_12 p1 p2 p3 p4 p5 p6 b2 b17 b20 b23 b35) [(.int ((own_p p5) + (2 : Int32))), (.ref b2), (.int (own_ct p1 (((own_p p5) + (2 : Int32))).toNatClampNeg))])) t → Steps p.tables e below (s₁.setTop (entryFrame m #[(.int p1), (.int p2), (.int p3), (.int p4), (.int p5), (.int p6)] maxLocals)) t := fun t k => pre60 t (by
          show Steps p.tables e below (T35.setTop (mkF m 227 (lc0_12 p1 p2 p3 p4 p5 p6 b2 b17 b20 b23 b35) [(.int (own_ct p1 (((own_p p5) + (2 : Int32))).toNatClampNeg))])) _
          refine XS.aload X35.here hx rfl (hb hby at_227) rfl rfl ?_
          show Steps p.tables e below (T35.setTop (mkF m 229 (lc0_12 p1 p2 p3 p4 p5 p6 b2 b17 b20 b23 b35) [(.ref b2), (.int (own_ct p1 (((own_p p5) + (2 : Int32))).toNatClampNeg))])) _
          refine XS.iload X35.here hx rfl (hb hby at_229) rfl ?_
          show Steps p.tables e below (T35.setTop (mkF m 231 (lc0_12 p1 p2 p3 p4 p5 p6 b2 b17 b20 b23 b35) [(.int (own_p p5)), (.ref b2), (.int (own_ct p1 (((own_p p5) + (2 : Int32))).toNatClampNeg))])) _
          refine XS.iconst X35.here hx rfl (hb hby at_231) ?_
          show Steps p.tables e below (T35.setTop (mkF m 232 (lc0_12 p1 p2 p3 p4 p5 p6 b2 b17 b20 b23 b35) [(.int (2 : Int32)), (.int (own_p p5)), (.ref b2), (.int (own_ct p1 (((own_p p5) + (2 : Int32))).toNatClampNeg))])) _
          refine XS.iadd X35.here hx rfl (hb hby at_232) rfl ?_
          show Steps p.tables e below (T35.setTop (mkF m 233 (lc0_12 p1 p2 p3 p4 p5 p6 b2 b17 b20 b23 b35) [(.int ((own_p p5) + (2 : Int32))), (.ref b2), (.int (own_ct p1 (((own_p p5) + (2 : Int32))).toNatClampNeg))])) _
          exact k)
        obtain ⟨cl62, Ar62, Sz62, Hf62⟩ := id A_b2
        have hat62 : cl62.slots[(((own_p p5) + (2 : Int32))).toNatClampNeg]? = some (.int (own_ct p1 (((own_p p5) + (2 : Int32))).toNatClampNeg)) := (Hf62 _ (own_lt_of (own_cin p5 p6 (by decide) hc220_57 (own_ix2 p5)))).trans (congrArg (fun z => some (Value.int z)) rfl)
        have pre63 : ∀ t, Steps p.tables e below (T35.setTop (mkF m 234 (lc0_12 p1 p2 p3 p4 p5 p6 b2 b17 b20 b23 b35) [(.int (own_ct p1 (((own_p p5) + (2 : Int32))).toNatClampNeg)), (.int (own_ct p1 (((own_p p5) + (2 : Int32))).toNatClampNeg))])) t → Steps p.tables e below (s₁.setTop (entryFrame m #[(.int p1), (.int p2), (.int p3), (.int p4), (.int p5), (.int p6)] maxLocals)) t := fun t k => pre61 t (X35.baloadBytes hx (j := ((own_p p5) + (2 : Int32))) (v := (.int (own_ct p1 (((own_p p5) + (2 : Int32))).toNatClampNeg))) Ar62.1 (State.isArrayOf_alike hZ.alike Ar62.2.1) Ar62.2.2 (own_inb Sz62 (own_cin p5 p6 (by decide) hc220_57 (own_ix2 p5))) hat62 (g := (mkF m 233 (lc0_12 p1 p2 p3 p4 p5 p6 b2 b17 b20 b23 b35) [(.int ((own_p p5) + (2 : Int32))), (.ref b2), (.int (own_ct p1 (((own_p p5) + (2 : Int32))).toNatClampNeg))])) rfl rfl (hb hby at_233) _ k)
        have pre64 : ∀ t, Steps p.tables e below (T35.setTop (mkF m 242 (lc0_12 p1 p2 p3 p4 p5 p6 b2 b17 b20 b23 b35) [(.int (3 : Int32)), (.int (own_n p5 p6))])) t → Steps p.tables e below (s₁.setTop (entryFrame m #[(.int p1), (.int p2), (.int p3), (.int p4), (.int p5), (.int p6)] maxLocals)) t := fun t k => pre63 t (by
          show Steps p.tables e below (T35.setTop (mkF m 234 (lc0_12 p1 p2 p3 p4 p5 p6 b2 b17 b20 b23 b35) [(.int (own_ct p1 (((own_p p5) + (2 : Int32))).toNatClampNeg)), (.int (own_ct p1 (((own_p p5) + (2 : Int32))).toNatClampNeg))])) _
          refine XS.icmpYes X35.here hx rfl (pc0 := 234) (pc' := 239) rfl (hb hby at_234) rfl (teq rfl).1 (by decide) (by decide) ?_
          show Steps p.tables e below (T35.setTop (mkF m 239 (lc0_12 p1 p2 p3 p4 p5 p6 b2 b17 b20 b23 b35) [])) _
          refine XS.iload X35.here hx rfl (hb hby at_239) rfl ?_
          show Steps p.tables e below (T35.setTop (mkF m 241 (lc0_12 p1 p2 p3 p4 p5 p6 b2 b17 b20 b23 b35) [(.int (own_n p5 p6))])) _
          refine XS.iconst X35.here hx rfl (hb hby at_241) ?_
          show Steps p.tables e below (T35.setTop (mkF m 242 (lc0_12 p1 p2 p3 p4 p5 p6 b2 b17 b20 b23 b35) [(.int (3 : Int32)), (.int (own_n p5 p6))])) _
          exact k)
        by_cases hc242_65 : (3 : Int32) < (own_n p5 p6)
        · have pre66 : ∀ t, Steps p.tables e below (T35.setTop (mkF m 248 (lc0_12 p1 p2 p3 p4 p5 p6 b2 b17 b20 b23 b35) [(.int (3 : Int32)), (.ref b35)])) t → Steps p.tables e below (s₁.setTop (entryFrame m #[(.int p1), (.int p2), (.int p3), (.int p4), (.int p5), (.int p6)] maxLocals)) t := fun t k => pre64 t (by
            show Steps p.tables e below (T35.setTop (mkF m 242 (lc0_12 p1 p2 p3 p4 p5 p6 b2 b17 b20 b23 b35) [(.int (3 : Int32)), (.int (own_n p5 p6))])) _
            refine XS.icmpNo X35.here hx rfl (hb hby at_242) rfl (tlt hc242_65).2.2.2 ?_
            show Steps p.tables e below (T35.setTop (mkF m 245 (lc0_12 p1 p2 p3 p4 p5 p6 b2 b17 b20 b23 b35) [])) _
            refine XS.aload X35.here hx rfl (hb hby at_245) rfl rfl ?_
            show Steps p.tables e below (T35.setTop (mkF m 247 (lc0_12 p1 p2 p3 p4 p5 p6 b2 b17 b20 b23 b35) [(.ref b35)])) _
            refine XS.iconst X35.here hx rfl (hb hby at_247) ?_
            show Steps p.tables e below (T35.setTop (mkF m 248 (lc0_12 p1 p2 p3 p4 p5 p6 b2 b17 b20 b23 b35) [(.int (3 : Int32)), (.ref b35)])) _
            exact k)
          obtain ⟨cl67, Ar67, Sz67, Hf67⟩ := id A_b35
          have hat67 : cl67.slots[((3 : Int32)).toNatClampNeg]? = some (.int (own_ct p1 (((own_p p5) + (3 : Int32))).toNatClampNeg)) := (Hf67 _ (own_lt_of (own_oin p5 p6 (by decide) hc242_65))).trans (congrArg (fun z => some (Value.int z)) (own_outk p1 p4 p5 p6 _ (by decide) hc242_65 (own_ix3 p5)))
          have pre68 : ∀ t, Steps p.tables e below (T35.setTop (mkF m 249 (lc0_12 p1 p2 p3 p4 p5 p6 b2 b17 b20 b23 b35) [(.int (own_ct p1 (((own_p p5) + (3 : Int32))).toNatClampNeg))])) t → Steps p.tables e below (s₁.setTop (entryFrame m #[(.int p1), (.int p2), (.int p3), (.int p4), (.int p5), (.int p6)] maxLocals)) t := fun t k => pre66 t (X35.baloadBytes hx (j := (3 : Int32)) (v := (.int (own_ct p1 (((own_p p5) + (3 : Int32))).toNatClampNeg))) Ar67.1 (State.isArrayOf_alike hZ.alike Ar67.2.1) Ar67.2.2 (own_inb Sz67 (own_oin p5 p6 (by decide) hc242_65)) hat67 (g := (mkF m 248 (lc0_12 p1 p2 p3 p4 p5 p6 b2 b17 b20 b23 b35) [(.int (3 : Int32)), (.ref b35)])) rfl rfl (hb hby at_248) _ k)
          have pre69 : ∀ t, Steps p.tables e below (T35.setTop (mkF m 255 (lc0_12 p1 p2 p3 p4 p5 p6 b2 b17 b20 b23 b35) [(.int ((own_p p5) + (3 : Int32))), (.ref b2), (.int (own_ct p1 (((own_p p5) + (3 : Int32))).toNatClampNeg))])) t → Steps p.tables e below (s₁.setTop (entryFrame m #[(.int p1), (.int p2), (.int p3), (.int p4), (.int p5), (.int p6)] maxLocals)) t := fun t k => pre68 t (by
            show Steps p.tables e below (T35.setTop (mkF m 249 (lc0_12 p1 p2 p3 p4 p5 p6 b2 b17 b20 b23 b35) [(.int (own_ct p1 (((own_p p5) + (3 : Int32))).toNatClampNeg))])) _
            refine XS.aload X35.here hx rfl (hb hby at_249) rfl rfl ?_
            show Steps p.tables e below (T35.setTop (mkF m 251 (lc0_12 p1 p2 p3 p4 p5 p6 b2 b17 b20 b23 b35) [(.ref b2), (.int (own_ct p1 (((own_p p5) + (3 : Int32))).toNatClampNeg))])) _
            refine XS.iload X35.here hx rfl (hb hby at_251) rfl ?_
            show Steps p.tables e below (T35.setTop (mkF m 253 (lc0_12 p1 p2 p3 p4 p5 p6 b2 b17 b20 b23 b35) [(.int (own_p p5)), (.ref b2), (.int (own_ct p1 (((own_p p5) + (3 : Int32))).toNatClampNeg))])) _
            refine XS.iconst X35.here hx rfl (hb hby at_253) ?_
            show Steps p.tables e below (T35.setTop (mkF m 254 (lc0_12 p1 p2 p3 p4 p5 p6 b2 b17 b20 b23 b35) [(.int (3 : Int32)), (.int (own_p p5)), (.ref b2), (.int (own_ct p1 (((own_p p5) + (3 : Int32))).toNatClampNeg))])) _
            refine XS.iadd X35.here hx rfl (hb hby at_254) rfl ?_
            show Steps p.tables e below (T35.setTop (mkF m 255 (lc0_12 p1 p2 p3 p4 p5 p6 b2 b17 b20 b23 b35) [(.int ((own_p p5) + (3 : Int32))), (.ref b2), (.int (own_ct p1 (((own_p p5) + (3 : Int32))).toNatClampNeg))])) _
            exact k)
          obtain ⟨cl70, Ar70, Sz70, Hf70⟩ := id A_b2
          have hat70 : cl70.slots[(((own_p p5) + (3 : Int32))).toNatClampNeg]? = some (.int (own_ct p1 (((own_p p5) + (3 : Int32))).toNatClampNeg)) := (Hf70 _ (own_lt_of (own_cin p5 p6 (by decide) hc242_65 (own_ix3 p5)))).trans (congrArg (fun z => some (Value.int z)) rfl)
          have pre71 : ∀ t, Steps p.tables e below (T35.setTop (mkF m 256 (lc0_12 p1 p2 p3 p4 p5 p6 b2 b17 b20 b23 b35) [(.int (own_ct p1 (((own_p p5) + (3 : Int32))).toNatClampNeg)), (.int (own_ct p1 (((own_p p5) + (3 : Int32))).toNatClampNeg))])) t → Steps p.tables e below (s₁.setTop (entryFrame m #[(.int p1), (.int p2), (.int p3), (.int p4), (.int p5), (.int p6)] maxLocals)) t := fun t k => pre69 t (X35.baloadBytes hx (j := ((own_p p5) + (3 : Int32))) (v := (.int (own_ct p1 (((own_p p5) + (3 : Int32))).toNatClampNeg))) Ar70.1 (State.isArrayOf_alike hZ.alike Ar70.2.1) Ar70.2.2 (own_inb Sz70 (own_cin p5 p6 (by decide) hc242_65 (own_ix3 p5))) hat70 (g := (mkF m 255 (lc0_12 p1 p2 p3 p4 p5 p6 b2 b17 b20 b23 b35) [(.int ((own_p p5) + (3 : Int32))), (.ref b2), (.int (own_ct p1 (((own_p p5) + (3 : Int32))).toNatClampNeg))])) rfl rfl (hb hby at_255) _ k)
          have pre72 : ∀ t, Steps p.tables e below (T35.setTop (mkF m 262 (lc0_12 p1 p2 p3 p4 p5 p6 b2 b17 b20 b23 b35) [(.int (1 : Int32))])) t → Steps p.tables e below (s₁.setTop (entryFrame m #[(.int p1), (.int p2), (.int p3), (.int p4), (.int p5), (.int p6)] maxLocals)) t := fun t k => pre71 t (by
            show Steps p.tables e below (T35.setTop (mkF m 256 (lc0_12 p1 p2 p3 p4 p5 p6 b2 b17 b20 b23 b35) [(.int (own_ct p1 (((own_p p5) + (3 : Int32))).toNatClampNeg)), (.int (own_ct p1 (((own_p p5) + (3 : Int32))).toNatClampNeg))])) _
            refine XS.icmpYes X35.here hx rfl (pc0 := 256) (pc' := 261) rfl (hb hby at_256) rfl (teq rfl).1 (by decide) (by decide) ?_
            show Steps p.tables e below (T35.setTop (mkF m 261 (lc0_12 p1 p2 p3 p4 p5 p6 b2 b17 b20 b23 b35) [])) _
            refine XS.iconst X35.here hx rfl (hb hby at_261) ?_
            show Steps p.tables e below (T35.setTop (mkF m 262 (lc0_12 p1 p2 p3 p4 p5 p6 b2 b17 b20 b23 b35) [(.int (1 : Int32))])) _
            exact k)
          obtain ⟨fs, hr, hrun, hended, hW, hsame⟩ := X35.leave (v := some (.int (1 : Int32))) (fun h => by rw [Bd.returns] at h; cases h) hlk
          refine ⟨_, _, pre72 _ ?_, hrun, hended, _, _, rfl, ?_, ⟨_, rfl⟩, hW, hsame.mono (by decide) (by decide)⟩
          · show Steps p.tables e below (T35.setTop (mkF m 262 (lc0_12 p1 p2 p3 p4 p5 p6 b2 b17 b20 b23 b35) [(.int (1 : Int32))])) _
            exact retN X35 hx (t := .boolean) Bd.returns (by simp) (hb hby at_262) hr
          · show Q0 Z p1 p2 p3 p4 p5 p6 h0 n0 _ T35.heap _
            exact ⟨rfl, N35⟩
        · have pre73 : ∀ t, Steps p.tables e below (T35.setTop (mkF m 262 (lc0_12 p1 p2 p3 p4 p5 p6 b2 b17 b20 b23 b35) [(.int (1 : Int32))])) t → Steps p.tables e below (s₁.setTop (entryFrame m #[(.int p1), (.int p2), (.int p3), (.int p4), (.int p5), (.int p6)] maxLocals)) t := fun t k => pre64 t (by
            show Steps p.tables e below (T35.setTop (mkF m 242 (lc0_12 p1 p2 p3 p4 p5 p6 b2 b17 b20 b23 b35) [(.int (3 : Int32)), (.int (own_n p5 p6))])) _
            refine XS.icmpYes X35.here hx rfl (pc0 := 242) (pc' := 261) rfl (hb hby at_242) rfl (flt hc242_65).2.2.2 (by decide) (by decide) ?_
            show Steps p.tables e below (T35.setTop (mkF m 261 (lc0_12 p1 p2 p3 p4 p5 p6 b2 b17 b20 b23 b35) [])) _
            refine XS.iconst X35.here hx rfl (hb hby at_261) ?_
            show Steps p.tables e below (T35.setTop (mkF m 262 (lc0_12 p1 p2 p3 p4 p5 p6 b2 b17 b20 b23 b35) [(.int (1 : Int32))])) _
            exact k)
          obtain ⟨fs, hr, hrun, hended, hW, hsame⟩ := X35.leave (v := some (.int (1 : Int32))) (fun h => by rw [Bd.returns] at h; cases h) hlk
          refine ⟨_, _, pre73 _ ?_, hrun, hended, _, _, rfl, ?_, ⟨_, rfl⟩, hW, hsame.mono (by decide) (by decide)⟩
          · show Steps p.tables e below (T35.setTop (mkF m 262 (lc0_12 p1 p2 p3 p4 p5 p6 b2 b17 b20 b23 b35) [(.int (1 : Int32))])) _
            exact retN X35 hx (t := .boolean) Bd.returns (by simp) (hb hby at_262) hr
          · show Q0 Z p1 p2 p3 p4 p5 p6 h0 n0 _ T35.heap _
            exact ⟨rfl, N35⟩
      · have pre74 : ∀ t, Steps p.tables e below (T35.setTop (mkF m 262 (lc0_12 p1 p2 p3 p4 p5 p6 b2 b17 b20 b23 b35) [(.int (1 : Int32))])) t → Steps p.tables e below (s₁.setTop (entryFrame m #[(.int p1), (.int p2), (.int p3), (.int p4), (.int p5), (.int p6)] maxLocals)) t := fun t k => pre56 t (by
          show Steps p.tables e below (T35.setTop (mkF m 220 (lc0_12 p1 p2 p3 p4 p5 p6 b2 b17 b20 b23 b35) [(.int (2 : Int32)), (.int (own_n p5 p6))])) _
          refine XS.icmpYes X35.here hx rfl (pc0 := 220) (pc' := 239) rfl (hb hby at_220) rfl (flt hc220_57).2.2.2 (by decide) (by decide) ?_
          show Steps p.tables e below (T35.setTop (mkF m 239 (lc0_12 p1 p2 p3 p4 p5 p6 b2 b17 b20 b23 b35) [])) _
          refine XS.iload X35.here hx rfl (hb hby at_239) rfl ?_
          show Steps p.tables e below (T35.setTop (mkF m 241 (lc0_12 p1 p2 p3 p4 p5 p6 b2 b17 b20 b23 b35) [(.int (own_n p5 p6))])) _
          refine XS.iconst X35.here hx rfl (hb hby at_241) ?_
          show Steps p.tables e below (T35.setTop (mkF m 242 (lc0_12 p1 p2 p3 p4 p5 p6 b2 b17 b20 b23 b35) [(.int (3 : Int32)), (.int (own_n p5 p6))])) _
          refine XS.icmpYes X35.here hx rfl (pc0 := 242) (pc' := 261) rfl (hb hby at_242) rfl (flt (show ¬ ((3 : Int32) < (own_n p5 p6)) from own_mono hc220_57 (by decide))).2.2.2 (by decide) (by decide) ?_
          show Steps p.tables e below (T35.setTop (mkF m 261 (lc0_12 p1 p2 p3 p4 p5 p6 b2 b17 b20 b23 b35) [])) _
          refine XS.iconst X35.here hx rfl (hb hby at_261) ?_
          show Steps p.tables e below (T35.setTop (mkF m 262 (lc0_12 p1 p2 p3 p4 p5 p6 b2 b17 b20 b23 b35) [(.int (1 : Int32))])) _
          exact k)
        obtain ⟨fs, hr, hrun, hended, hW, hsame⟩ := X35.leave (v := some (.int (1 : Int32))) (fun h => by rw [Bd.returns] at h; cases h) hlk
        refine ⟨_, _, pre74 _ ?_, hrun, hended, _, _, rfl, ?_, ⟨_, rfl⟩, hW, hsame.mono (by decide) (by decide)⟩
        · show Steps p.tables e below (T35.setTop (mkF m 262 (lc0_12 p1 p2 p3 p4 p5 p6 b2 b17 b20 b23 b35) [(.int (1 : Int32))])) _
          exact retN X35 hx (t := .boolean) Bd.returns (by simp) (hb hby at_262) hr
        · show Q0 Z p1 p2 p3 p4 p5 p6 h0 n0 _ T35.heap _
          exact ⟨rfl, N35⟩
    · have pre75 : ∀ t, Steps p.tables e below (T35.setTop (mkF m 262 (lc0_12 p1 p2 p3 p4 p5 p6 b2 b17 b20 b23 b35) [(.int (1 : Int32))])) t → Steps p.tables e below (s₁.setTop (entryFrame m #[(.int p1), (.int p2), (.int p3), (.int p4), (.int p5), (.int p6)] maxLocals)) t := fun t k => pre48 t (by
        show Steps p.tables e below (T35.setTop (mkF m 198 (lc0_12 p1 p2 p3 p4 p5 p6 b2 b17 b20 b23 b35) [(.int (1 : Int32)), (.int (own_n p5 p6))])) _
        refine XS.icmpYes X35.here hx rfl (pc0 := 198) (pc' := 217) rfl (hb hby at_198) rfl (flt hc198_49).2.2.2 (by decide) (by decide) ?_
        show Steps p.tables e below (T35.setTop (mkF m 217 (lc0_12 p1 p2 p3 p4 p5 p6 b2 b17 b20 b23 b35) [])) _
        refine XS.iload X35.here hx rfl (hb hby at_217) rfl ?_
        show Steps p.tables e below (T35.setTop (mkF m 219 (lc0_12 p1 p2 p3 p4 p5 p6 b2 b17 b20 b23 b35) [(.int (own_n p5 p6))])) _
        refine XS.iconst X35.here hx rfl (hb hby at_219) ?_
        show Steps p.tables e below (T35.setTop (mkF m 220 (lc0_12 p1 p2 p3 p4 p5 p6 b2 b17 b20 b23 b35) [(.int (2 : Int32)), (.int (own_n p5 p6))])) _
        refine XS.icmpYes X35.here hx rfl (pc0 := 220) (pc' := 239) rfl (hb hby at_220) rfl (flt (show ¬ ((2 : Int32) < (own_n p5 p6)) from own_mono hc198_49 (by decide))).2.2.2 (by decide) (by decide) ?_
        show Steps p.tables e below (T35.setTop (mkF m 239 (lc0_12 p1 p2 p3 p4 p5 p6 b2 b17 b20 b23 b35) [])) _
        refine XS.iload X35.here hx rfl (hb hby at_239) rfl ?_
        show Steps p.tables e below (T35.setTop (mkF m 241 (lc0_12 p1 p2 p3 p4 p5 p6 b2 b17 b20 b23 b35) [(.int (own_n p5 p6))])) _
        refine XS.iconst X35.here hx rfl (hb hby at_241) ?_
        show Steps p.tables e below (T35.setTop (mkF m 242 (lc0_12 p1 p2 p3 p4 p5 p6 b2 b17 b20 b23 b35) [(.int (3 : Int32)), (.int (own_n p5 p6))])) _
        refine XS.icmpYes X35.here hx rfl (pc0 := 242) (pc' := 261) rfl (hb hby at_242) rfl (flt (show ¬ ((3 : Int32) < (own_n p5 p6)) from own_mono hc198_49 (by decide))).2.2.2 (by decide) (by decide) ?_
        show Steps p.tables e below (T35.setTop (mkF m 261 (lc0_12 p1 p2 p3 p4 p5 p6 b2 b17 b20 b23 b35) [])) _
        refine XS.iconst X35.here hx rfl (hb hby at_261) ?_
        show Steps p.tables e below (T35.setTop (mkF m 262 (lc0_12 p1 p2 p3 p4 p5 p6 b2 b17 b20 b23 b35) [(.int (1 : Int32))])) _
        exact k)
      obtain ⟨fs, hr, hrun, hended, hW, hsame⟩ := X35.leave (v := some (.int (1 : Int32))) (fun h => by rw [Bd.returns] at h; cases h) hlk
      refine ⟨_, _, pre75 _ ?_, hrun, hended, _, _, rfl, ?_, ⟨_, rfl⟩, hW, hsame.mono (by decide) (by decide)⟩
      · show Steps p.tables e below (T35.setTop (mkF m 262 (lc0_12 p1 p2 p3 p4 p5 p6 b2 b17 b20 b23 b35) [(.int (1 : Int32))])) _
        exact retN X35 hx (t := .boolean) Bd.returns (by simp) (hb hby at_262) hr
      · show Q0 Z p1 p2 p3 p4 p5 p6 h0 n0 _ T35.heap _
        exact ⟨rfl, N35⟩
  · have pre76 : ∀ t, Steps p.tables e below (T35.setTop (mkF m 262 (lc0_12 p1 p2 p3 p4 p5 p6 b2 b17 b20 b23 b35) [(.int (1 : Int32))])) t → Steps p.tables e below (s₁.setTop (entryFrame m #[(.int p1), (.int p2), (.int p3), (.int p4), (.int p5), (.int p6)] maxLocals)) t := fun t k => pre40 t (by
      show Steps p.tables e below (T35.setTop (mkF m 178 (lc0_12 p1 p2 p3 p4 p5 p6 b2 b17 b20 b23 b35) [(.int (own_n p5 p6))])) _
      refine XS.ifYes X35.here hx rfl (pc0 := 178) (pc' := 195) rfl (hb hby at_178) rfl ((if0 _ _).trans (flt hc178_41).2.2.2) (by decide) (by decide) ?_
      show Steps p.tables e below (T35.setTop (mkF m 195 (lc0_12 p1 p2 p3 p4 p5 p6 b2 b17 b20 b23 b35) [])) _
      refine XS.iload X35.here hx rfl (hb hby at_195) rfl ?_
      show Steps p.tables e below (T35.setTop (mkF m 197 (lc0_12 p1 p2 p3 p4 p5 p6 b2 b17 b20 b23 b35) [(.int (own_n p5 p6))])) _
      refine XS.iconst X35.here hx rfl (hb hby at_197) ?_
      show Steps p.tables e below (T35.setTop (mkF m 198 (lc0_12 p1 p2 p3 p4 p5 p6 b2 b17 b20 b23 b35) [(.int (1 : Int32)), (.int (own_n p5 p6))])) _
      refine XS.icmpYes X35.here hx rfl (pc0 := 198) (pc' := 217) rfl (hb hby at_198) rfl (flt (show ¬ ((1 : Int32) < (own_n p5 p6)) from own_mono hc178_41 (by decide))).2.2.2 (by decide) (by decide) ?_
      show Steps p.tables e below (T35.setTop (mkF m 217 (lc0_12 p1 p2 p3 p4 p5 p6 b2 b17 b20 b23 b35) [])) _
      refine XS.iload X35.here hx rfl (hb hby at_217) rfl ?_
      show Steps p.tables e below (T35.setTop (mkF m 219 (lc0_12 p1 p2 p3 p4 p5 p6 b2 b17 b20 b23 b35) [(.int (own_n p5 p6))])) _
      refine XS.iconst X35.here hx rfl (hb hby at_219) ?_
      show Steps p.tables e below (T35.setTop (mkF m 220 (lc0_12 p1 p2 p3 p4 p5 p6 b2 b17 b20 b23 b35) [(.int (2 : Int32)), (.int (own_n p5 p6))])) _
      refine XS.icmpYes X35.here hx rfl (pc0 := 220) (pc' := 239) rfl (hb hby at_220) rfl (flt (show ¬ ((2 : Int32) < (own_n p5 p6)) from own_mono hc178_41 (by decide))).2.2.2 (by decide) (by decide) ?_
      show Steps p.tables e below (T35.setTop (mkF m 239 (lc0_12 p1 p2 p3 p4 p5 p6 b2 b17 b20 b23 b35) [])) _
      refine XS.iload X35.here hx rfl (hb hby at_239) rfl ?_
      show Steps p.tables e below (T35.setTop (mkF m 241 (lc0_12 p1 p2 p3 p4 p5 p6 b2 b17 b20 b23 b35) [(.int (own_n p5 p6))])) _
      refine XS.iconst X35.here hx rfl (hb hby at_241) ?_
      show Steps p.tables e below (T35.setTop (mkF m 242 (lc0_12 p1 p2 p3 p4 p5 p6 b2 b17 b20 b23 b35) [(.int (3 : Int32)), (.int (own_n p5 p6))])) _
      refine XS.icmpYes X35.here hx rfl (pc0 := 242) (pc' := 261) rfl (hb hby at_242) rfl (flt (show ¬ ((3 : Int32) < (own_n p5 p6)) from own_mono hc178_41 (by decide))).2.2.2 (by decide) (by decide) ?_
      show Steps p.tables e below (T35.setTop (mkF m 261 (lc0_12 p1 p2 p3 p4 p5 p6 b2 b17 b20 b23 b35) [])) _
      refine XS.iconst X35.here hx rfl (hb hby at_261) ?_
      show Steps p.tables e below (T35.setTop (mkF m 262 (lc0_12 p1 p2 p3 p4 p5 p6 b2 b17 b20 b23 b35) [(.int (1 : Int32))])) _
      exact k)
    obtain ⟨fs, hr, hrun, hended, hW, hsame⟩ := X35.leave (v := some (.int (1 : Int32))) (fun h => by rw [Bd.returns] at h; cases h) hlk
    refine ⟨_, _, pre76 _ ?_, hrun, hended, _, _, rfl, ?_, ⟨_, rfl⟩, hW, hsame.mono (by decide) (by decide)⟩
    · show Steps p.tables e below (T35.setTop (mkF m 262 (lc0_12 p1 p2 p3 p4 p5 p6 b2 b17 b20 b23 b35) [(.int (1 : Int32))])) _
      exact retN X35 hx (t := .boolean) Bd.returns (by simp) (hb hby at_262) hr
    · show Q0 Z p1 p2 p3 p4 p5 p6 h0 n0 _ T35.heap _
      exact ⟨rfl, N35⟩
set_option maxRecDepth 65536 in
set_option maxHeartbeats 40000000 in
theorem comes_1 {Post : Tables → Env → Array Value → State → Outcome → State → Prop} (hpost : ∀ tb e args s v u, (limb_1_1.after args s (.returned v) u = true ∧ limb_1_2.after args s (.returned v) u = true ∧ True) → FrameEnd s (.returned v) u (Jvm.fieldLocs frame_1_writes args s ++ Jvm.arrayLocs frame_1_arrays args s ++ Jvm.staticLocs frame_1_statics s) 24 128 → Post tb e args s (.returned v) u) :
    ArmFor flags0 classFile x code maxLocals ret World_1 tables_1 room_1 Calls_1 rest_1 Pre_1 Post := by
  intro l hfl _ _ p e ha hc hk s m args below hf hA hF happ hP
  obtain ⟨hcalls, hrest, hpre⟩ := hP
  obtain ⟨-, -, -, hnamed, -, -, -, hat⟩ := (Spec.applies_iff hf).mp happ
  obtain ⟨hg, hn⟩ := and_e (Cond.before_iff.mp (show (Jvm.Cond.and given_1 narrow_1).before args s = true from hpre))
  obtain ⟨hcnt, g0⟩ := and_e hg
  obtain ⟨k0, g1⟩ := and_e g0
  obtain ⟨k1, g2⟩ := and_e g1
  obtain ⟨k2, g3⟩ := and_e g2
  obtain ⟨k3, g4⟩ := and_e g3
  obtain ⟨k4, g5⟩ := and_e g4
  have k5 := g5
  obtain ⟨w0, w1, w2, w3, w4, w5, rfl⟩ : ∃ w0 w1 w2 w3 w4 w5 : Value, args = #[w0, w1, w2, w3, w4, w5] := by
    have hs : args.size = 6 := by simpa [Cond.value, given_1] using hcnt
    obtain ⟨L⟩ := args
    match L, hs with
    | [w0, w1, w2, w3, w4, w5], _ => exact ⟨w0, w1, w2, w3, w4, w5, rfl⟩
  have hw := fun d (hd : d ∈ tables_1) => atoms_spec (ws := Jvm.Cond.code x code maxLocals ret :: tables_1) hat d (List.mem_cons_of_mem _ hd)
  obtain ⟨i0, ei0⟩ := is_v k0
  obtain rfl : w0 = (.int i0) := Option.some.inj ei0
  obtain ⟨i1, ei1⟩ := is_v k1
  obtain rfl : w1 = (.int i1) := Option.some.inj ei1
  obtain ⟨i2, ei2⟩ := is_v k2
  obtain rfl : w2 = (.int i2) := Option.some.inj ei2
  obtain ⟨i3, ei3⟩ := is_v k3
  obtain rfl : w3 = (.int i3) := Option.some.inj ei3
  obtain ⟨i4, ei4⟩ := is_v k4
  obtain rfl : w4 = (.int i4) := Option.some.inj ei4
  obtain ⟨i5, ei5⟩ := is_v k5
  obtain rfl : w5 = (.int i5) := Option.some.inj ei5
  obtain ⟨n, o, h1, h2, h3, _, L, rfl, ⟨rfl, N⟩, hq⟩ := rm0 l s _ hw tables_1 i0 i1 i2 i3 i4 i5 s.heap s.heap.size (Nat.le_refl _) p e ha hc hk s m _ below hf ((Spec.applies_iff_loose hf).mp happ).1 ⟨rfl, State.Warmed39.refl s, rfl⟩ trivial
  refine ⟨n, _, h1, h2, h3, hpost _ _ _ _ _ _ ⟨Cond.after_iff.mpr rfl, Cond.after_iff.mpr (eq_i res_at (Term.int_eval (1)) rfl), trivial⟩ ⟨hq.1, hq.2.1, (hq.2.2.sift fun y hy => Or.inr (N y hy)).mono (by decide) (by decide)⟩⟩
theorem main_1_1 : Claimed_1_1 := comes_1 fun _ _ _ _ _ _ h hF => ⟨h.1, hF⟩
theorem main_1_2 : Claimed_1_2 := comes_1 fun _ _ _ _ _ _ h hF => ⟨h.2.1, hF⟩
end Jvm.Pilot.@@N@@
namespace Jvm.Pilot.@@N@@
open Jvm Jvm.ClassFile Sem Op Lib Jvm.Free Jvm.Stand Jvm.Pilot.@@N@@.Jvm.D
/-! MADE BY PROGRAM (witnessworld.py) out of the Statement's table words and the real class files: 13 classes; the members and pool entries that the words name. The judged class is class 1, her method 3. -/
namespace start1
open Jvm.ClassFile
def u (s : String) : CpInfo := .utf8 (stringToUtf16 s)
/-- a pool by its gaps: so many unusable entries, then the entry; so many at the end -/
def gap : Nat → List CpInfo → List CpInfo
  | 0, r => r
  | n + 1, r => .unusable :: gap n r
def poolList (es : List (Nat × CpInfo)) (last : Nat) : List CpInfo := es.foldr (fun e r => gap e.1 (e.2 :: r)) (gap last [])
def pool (es : List (Nat × CpInfo)) (last : Nat) : Array CpInfo := ⟨poolList es last⟩
def fileOf (pool : Array CpInfo) (this : Nat) (attrs : Array Attribute := #[]) (ms : Array MethodInfo := #[]) (fl : Nat := 33) (sup : Nat := 0) (ifs : Array Nat := #[]) (fds : Array FieldInfo := #[]) : ClassFile where
  minorVersion := 0
  majorVersion := 65
  constantPool := pool
  accessFlags := fl
  thisClass := this
  superClass := sup
  interfaces := ifs
  fields := fds
  methods := ms
  attributes := attrs
def plain (name : String) (sup : Option ClassId) : Class where
  name := name
  kind := .ordinary
  loader := none
  accessFlags := 33
  super := sup
  interfaces := #[]
  cf := none
  fields := #[]
  methods := #[]
  instanceTypes := #[]
  staticTypes := #[]
  resolved := #[]
  callSites := []
  init := .initialized
  statics := none
  mirror := none

def pool0 : Array CpInfo := pool [(5, u "<init>"), (0, u "()V"), (1, .class_ 10), (1, u "java/lang/Object")] 113

def k0c0 : Code := { maxStack := 0, maxLocals := 1, code := object_method_1_code, exceptionTable := #[], attributes := #[] }
def k0m0 : Method := { name := "<init>", desc := "()V", sig := { parameters := [], returnType := none }, accessFlags := 1, code := some k0c0 }
/-- java/lang/Object -/
def k0 : Class := { plain "java/lang/Object" none with
  accessFlags := 33
  interfaces := #[]
  cf := some (fileOf pool0 8 #[] #[{ accessFlags := 1, nameIndex := 5, descriptorIndex := 6, attributes := #[] }] 33 0 #[] #[])
  fields := #[]
  methods := #[k0m0]
  instanceTypes := #[]
  staticTypes := #[]
  resolved := Array.replicate 124 none
  statics := none }

def pool1 : Array CpInfo := pool [(2, .class_ 4), (1, u "java/lang/Object"), (0, u "<init>"), (0, u "()V"), (0, .integer 2147483647), (0, .methodref 9 10), (0, .class_ 11), (0, .nameAndType 12 13), (0, u "com/example/canonbyte/canonbyte/codec/RunMoveToPinLaw"), (0, u "place"), (0, u "(I[BB)[B"), (0, .class_ 15), (0, u "com/example/canonbyte/canonbyte/codec/Piece$Run"), (0, .methodref 14 17), (0, .nameAndType 5 18), (0, u "([BII)V"), (0, .methodref 14 20), (0, .nameAndType 21 22), (0, u "moveTo"), (0, u "([BI)V"), (0, .methodref 9 24), (0, .nameAndType 25 26), (0, u "wipe"), (0, u "([BB)V"), (0, .methodref 28 29), (0, .class_ 30), (0, .nameAndType 31 32), (0, u "com/example/canonbyte/canonbyte/codec/Piece"), (0, u "toByteArray"), (0, u "(Lcom/example/canonbyte/canonbyte/codec/Piece;I)[B"), (2, u "law"), (0, u "(IIIIII)Z")] 7

def k1m0 : Method := { name := "<init>", desc := "()V", sig := { parameters := [], returnType := none }, accessFlags := 1, code := none }
def k1c1 : Code := { maxStack := 4, maxLocals := 4, code := method_2_code, exceptionTable := #[], attributes := #[] }
def k1m1 : Method := { name := "place", desc := "(I[BB)[B", sig := { parameters := [.int, (.array .byte), .byte], returnType := some (.array .byte) }, accessFlags := 10, code := some k1c1 }
def k1c2 : Code := { maxStack := 3, maxLocals := 2, code := method_3_code, exceptionTable := #[], attributes := #[] }
def k1m2 : Method := { name := "wipe", desc := "([BB)V", sig := { parameters := [(.array .byte), .byte], returnType := none }, accessFlags := 10, code := some k1c2 }
def k1c3 : Code := { maxStack := 6, maxLocals := 18, code := code, exceptionTable := #[], attributes := #[] }
def k1m3 : Method := { name := "law", desc := "(IIIIII)Z", sig := { parameters := [.int, .int, .int, .int, .int, .int], returnType := some .boolean }, accessFlags := 9, code := some k1c3 }
/-- com/example/canonbyte/canonbyte/codec/RunMoveToPinLaw -/
def k1 : Class := { plain "com/example/canonbyte/canonbyte/codec/RunMoveToPinLaw" (some 0) with
  accessFlags := 49
  interfaces := #[]
  cf := some (fileOf pool1 9 #[] #[{ accessFlags := 1, nameIndex := 5, descriptorIndex := 6, attributes := #[] }, { accessFlags := 10, nameIndex := 12, descriptorIndex := 13, attributes := #[] }, { accessFlags := 10, nameIndex := 25, descriptorIndex := 26, attributes := #[] }, { accessFlags := 9, nameIndex := 35, descriptorIndex := 36, attributes := #[] }] 49 2 #[] #[])
  fields := #[]
  methods := #[k1m0, k1m1, k1m2, k1m3]
  instanceTypes := #[]
  staticTypes := #[]
  resolved := Array.replicate 44 none
  statics := none }

def pool2 : Array CpInfo := pool [(1, .methodref 2 3), (0, .class_ 4), (0, .nameAndType 5 6), (0, u "java/lang/Object"), (0, u "<init>"), (0, u "()V"), (0, .class_ 8), (0, u "com/example/canonbyte/canonbyte/codec/Piece$Run"), (0, .fieldref 7 10), (0, .nameAndType 11 12), (0, u "bytes"), (0, u "[B"), (0, .fieldref 7 14), (0, .nameAndType 15 16), (0, u "start"), (0, u "I"), (0, .fieldref 7 18), (0, .nameAndType 19 16), (0, u "end"), (1, .class_ 23), (1, u "java/util/Arrays"), (2, .class_ 27), (0, u "com/example/canonbyte/canonbyte/codec/Piece$Runs"), (21, .methodref 21 50), (0, .nameAndType 51 52), (0, u "copyOfRange"), (0, u "([BII)[B"), (6, .class_ 60), (0, u "com/example/canonbyte/canonbyte/codec/Piece"), (5, u "toByteArray"), (0, u "(Lcom/example/canonbyte/canonbyte/codec/Piece;I)[B"), (4, .class_ 73), (0, u "com/example/canonbyte/canonbyte/codec/Piece$Joined")] 4

def k2c0 : Code := { maxStack := 1, maxLocals := 1, code := prog_19_method_1_code, exceptionTable := #[], attributes := #[] }
def k2m0 : Method := { name := "<init>", desc := "()V", sig := { parameters := [], returnType := none }, accessFlags := 2, code := some k2c0 }
def k2c1 : Code := { maxStack := 6, maxLocals := 6, code := prog_19_method_3_code, exceptionTable := #[], attributes := #[] }
def k2m1 : Method := { name := "toByteArray", desc := "(Lcom/example/canonbyte/canonbyte/codec/Piece;I)[B", sig := { parameters := [(.object "com/example/canonbyte/canonbyte/codec/Piece"), .int], returnType := some (.array .byte) }, accessFlags := 8, code := some k2c1 }
/-- com/example/canonbyte/canonbyte/codec/Piece -/
def k2 : Class := { plain "com/example/canonbyte/canonbyte/codec/Piece" (some 0) with
  accessFlags := 1056
  interfaces := #[]
  cf := some (fileOf pool2 59 #[.nestMembers #[26, 72, 7]] #[{ accessFlags := 2, nameIndex := 5, descriptorIndex := 6, attributes := #[] }, { accessFlags := 8, nameIndex := 66, descriptorIndex := 67, attributes := #[] }] 1056 2 #[] #[])
  fields := #[]
  methods := #[k2m0, k2m1]
  instanceTypes := #[]
  staticTypes := #[]
  resolved := (((Array.replicate 78 none).setIfInBounds 9 (some (.field 3 0))).setIfInBounds 13 (some (.field 3 1))).setIfInBounds 17 (some (.field 3 2))
  statics := none }

def pool3 : Array CpInfo := pool [(1, .methodref 2 3), (0, .class_ 4), (0, .nameAndType 5 6), (0, u "com/example/canonbyte/canonbyte/codec/Piece"), (0, u "<init>"), (0, u "()V"), (0, .fieldref 8 9), (0, .class_ 10), (0, .nameAndType 11 12), (0, u "com/example/canonbyte/canonbyte/codec/Piece$Run"), (0, u "bytes"), (0, u "[B"), (0, .fieldref 8 14), (0, .nameAndType 15 16), (0, u "start"), (0, u "I"), (0, .fieldref 8 18), (0, .nameAndType 19 16), (0, u "end"), (0, u "([BII)V"), (2, u "moveTo"), (0, u "([BI)V")] 5

def k3c0 : Code := { maxStack := 2, maxLocals := 4, code := prog_21_method_1_code, exceptionTable := #[], attributes := #[] }
def k3m0 : Method := { name := "<init>", desc := "([BII)V", sig := { parameters := [(.array .byte), .int, .int], returnType := none }, accessFlags := 0, code := some k3c0 }
def k3c1 : Code := { maxStack := 3, maxLocals := 3, code := prog_21_method_2_code, exceptionTable := #[], attributes := #[] }
def k3m1 : Method := { name := "moveTo", desc := "([BI)V", sig := { parameters := [(.array .byte), .int], returnType := none }, accessFlags := 0, code := some k3c1 }
/-- com/example/canonbyte/canonbyte/codec/Piece$Run -/
def k3 : Class := { plain "com/example/canonbyte/canonbyte/codec/Piece$Run" (some 2) with
  accessFlags := 48
  interfaces := #[]
  cf := some (fileOf pool3 8 #[.nestHost 2] #[{ accessFlags := 0, nameIndex := 5, descriptorIndex := 20, attributes := #[] }, { accessFlags := 0, nameIndex := 23, descriptorIndex := 24, attributes := #[] }] 48 2 #[] #[{ accessFlags := 2, nameIndex := 11, descriptorIndex := 12, attributes := #[] }, { accessFlags := 2, nameIndex := 15, descriptorIndex := 16, attributes := #[] }, { accessFlags := 2, nameIndex := 19, descriptorIndex := 16, attributes := #[] }])
  fields := #[{ name := "bytes", type := (.array .byte), accessFlags := 2, slot := 0, constantValue := 0 }, { name := "start", type := .int, accessFlags := 2, slot := 1, constantValue := 0 }, { name := "end", type := .int, accessFlags := 2, slot := 2, constantValue := 0 }]
  methods := #[k3m0, k3m1]
  instanceTypes := #[(.array .byte), .int, .int]
  staticTypes := #[]
  resolved := Array.replicate 30 none
  statics := none }

def pool4 : Array CpInfo := pool [(2, .class_ 4), (1, u "java/lang/Object"), (0, u "<init>"), (0, u "()V"), (7, .class_ 16), (1, u "java/util/Arrays"), (57, .class_ 76), (1, u "java/util/Arrays$NaturalOrder"), (36, .class_ 115), (1, u "java/util/Arrays$LegacyMergeSort"), (1, u "Z"), (21, u "copyOfRange"), (10, .methodref 151 152), (0, .class_ 153), (0, .nameAndType 154 155), (0, u "java/lang/System"), (0, u "arraycopy"), (0, u "(Ljava/lang/Object;ILjava/lang/Object;II)V"), (148, .methodref 305 306), (0, .class_ 307), (0, .nameAndType 308 309), (0, u "java/lang/Math"), (0, u "min"), (0, u "(II)I"), (29, .methodref 14 340), (0, .nameAndType 341 342), (0, u "copyOfRangeByte"), (0, u "([BII)[B"), (0, .methodref 14 344), (0, .nameAndType 345 346), (0, u "checkLength"), (0, u "(II)V"), (28, .class_ 376), (0, u "java/util/Arrays$ArrayList"), (68, u "$assertionsDisabled"), (269, u "MIN_ARRAY_SORT_GRAN"), (0, u "I"), (2, u "INSERTIONSORT_THRESHOLD"), (255, .class_ 976), (0, u "java/util/Arrays$ArrayItr")] 52

def k4m0 : Method := { name := "<init>", desc := "()V", sig := { parameters := [], returnType := none }, accessFlags := 2, code := none }
def k4c1 : Code := { maxStack := 4, maxLocals := 2, code := jdk_65_method_131_code, exceptionTable := #[], attributes := #[] }
def k4m1 : Method := { name := "checkLength", desc := "(II)V", sig := { parameters := [.int, .int], returnType := none }, accessFlags := 10, code := some k4c1 }
def k4c2 : Code := { maxStack := 3, maxLocals := 3, code := jdk_65_method_132_code, exceptionTable := #[], attributes := #[] }
def k4m2 : Method := { name := "copyOfRange", desc := "([BII)[B", sig := { parameters := [(.array .byte), .int, .int], returnType := some (.array .byte) }, accessFlags := 9, code := some k4c2 }
def k4c3 : Code := { maxStack := 6, maxLocals := 5, code := jdk_65_method_133_code, exceptionTable := #[], attributes := #[] }
def k4m3 : Method := { name := "copyOfRangeByte", desc := "([BII)[B", sig := { parameters := [(.array .byte), .int, .int], returnType := some (.array .byte) }, accessFlags := 10, code := some k4c3 }
/-- java/util/Arrays -/
def k4 : Class := { plain "java/util/Arrays" (some 0) with
  accessFlags := 49
  interfaces := #[]
  cf := some (fileOf pool4 14 #[.nestMembers #[975, 375, 113, 74]] #[{ accessFlags := 2, nameIndex := 5, descriptorIndex := 6, attributes := #[] }, { accessFlags := 10, nameIndex := 345, descriptorIndex := 346, attributes := #[] }, { accessFlags := 9, nameIndex := 139, descriptorIndex := 342, attributes := #[] }, { accessFlags := 10, nameIndex := 341, descriptorIndex := 342, attributes := #[] }] 49 2 #[] #[{ accessFlags := 26, nameIndex := 715, descriptorIndex := 716, attributes := #[] }, { accessFlags := 26, nameIndex := 719, descriptorIndex := 716, attributes := #[] }, { accessFlags := 4120, nameIndex := 445, descriptorIndex := 117, attributes := #[] }])
  fields := #[{ name := "MIN_ARRAY_SORT_GRAN", type := .int, accessFlags := 26, slot := 0, constantValue := 0 }, { name := "INSERTIONSORT_THRESHOLD", type := .int, accessFlags := 26, slot := 1, constantValue := 0 }, { name := "$assertionsDisabled", type := .boolean, accessFlags := 4120, slot := 2, constantValue := 0 }]
  methods := #[k4m0, k4m1, k4m2, k4m3]
  instanceTypes := #[]
  staticTypes := #[.int, .int, .boolean]
  resolved := Array.replicate 1029 none
  statics := none }

def pool5 : Array CpInfo := pool [(1, .class_ 2), (0, u "java/lang/Math"), (1, .class_ 6), (1, u "java/lang/Object"), (0, u "<init>"), (0, u "()V"), (89, .class_ 100), (1, u "java/lang/Math$RandomNumberGeneratorHolder"), (71, u "negativeZeroFloatBits"), (0, u "J"), (2, u "negativeZeroDoubleBits"), (24, u "min"), (43, u "$assertionsDisabled"), (0, u "Z"), (88, u "(II)I"), (2, u "twoToTheDoubleScaleDown"), (0, u "D"), (4, u "twoToTheDoubleScaleUp"), (9, u "E"), (3, u "PI"), (2, u "TAU"), (2, u "DEGREES_TO_RADIANS"), (0, u "RADIANS_TO_DEGREES")] 94

def k5m0 : Method := { name := "<init>", desc := "()V", sig := { parameters := [], returnType := none }, accessFlags := 2, code := none }
def k5c1 : Code := { maxStack := 2, maxLocals := 2, code := jdk_29_method_69_code, exceptionTable := #[], attributes := #[] }
def k5m1 : Method := { name := "min", desc := "(II)I", sig := { parameters := [.int, .int], returnType := some .int }, accessFlags := 9, code := some k5c1 }
/-- java/lang/Math -/
def k5 : Class := { plain "java/lang/Math" (some 0) with
  accessFlags := 49
  interfaces := #[]
  cf := some (fileOf pool5 1 #[.nestMembers #[98]] #[{ accessFlags := 2, nameIndex := 7, descriptorIndex := 8, attributes := #[] }, { accessFlags := 9, nameIndex := 201, descriptorIndex := 335, attributes := #[] }] 49 4 #[] #[{ accessFlags := 25, nameIndex := 354, descriptorIndex := 339, attributes := #[] }, { accessFlags := 25, nameIndex := 358, descriptorIndex := 339, attributes := #[] }, { accessFlags := 25, nameIndex := 361, descriptorIndex := 339, attributes := #[] }, { accessFlags := 26, nameIndex := 364, descriptorIndex := 339, attributes := #[] }, { accessFlags := 26, nameIndex := 365, descriptorIndex := 339, attributes := #[] }, { accessFlags := 26, nameIndex := 172, descriptorIndex := 173, attributes := #[] }, { accessFlags := 26, nameIndex := 176, descriptorIndex := 173, attributes := #[] }, { accessFlags := 8, nameIndex := 344, descriptorIndex := 339, attributes := #[] }, { accessFlags := 8, nameIndex := 338, descriptorIndex := 339, attributes := #[] }, { accessFlags := 4120, nameIndex := 245, descriptorIndex := 246, attributes := #[] }])
  fields := #[{ name := "E", type := .double, accessFlags := 25, slot := 0, constantValue := 0 }, { name := "PI", type := .double, accessFlags := 25, slot := 1, constantValue := 0 }, { name := "TAU", type := .double, accessFlags := 25, slot := 2, constantValue := 0 }, { name := "DEGREES_TO_RADIANS", type := .double, accessFlags := 26, slot := 3, constantValue := 0 }, { name := "RADIANS_TO_DEGREES", type := .double, accessFlags := 26, slot := 4, constantValue := 0 }, { name := "negativeZeroFloatBits", type := .long, accessFlags := 26, slot := 5, constantValue := 0 }, { name := "negativeZeroDoubleBits", type := .long, accessFlags := 26, slot := 6, constantValue := 0 }, { name := "twoToTheDoubleScaleUp", type := .double, accessFlags := 8, slot := 7, constantValue := 0 }, { name := "twoToTheDoubleScaleDown", type := .double, accessFlags := 8, slot := 8, constantValue := 0 }, { name := "$assertionsDisabled", type := .boolean, accessFlags := 4120, slot := 9, constantValue := 0 }]
  methods := #[k5m0, k5m1]
  instanceTypes := #[]
  staticTypes := #[.double, .double, .double, .double, .double, .long, .long, .double, .double, .boolean]
  resolved := Array.replicate 460 none
  statics := none }

def pool6 : Array CpInfo := pool [(2, .class_ 4), (1, u "java/lang/Object"), (0, u "<init>"), (0, u "()V"), (1, .class_ 10), (1, u "java/lang/System"), (0, u "allowSecurityManager"), (0, u "I"), (16, u "cons"), (0, u "Ljava/io/Console;"), (77, .class_ 110), (1, u "java/lang/System$CallersHolder"), (43, u "initialErrStream"), (0, u "Ljava/io/PrintStream;"), (19, u "security"), (0, u "Ljava/lang/SecurityManager;"), (31, .class_ 209), (0, u "java/lang/System$1"), (7, u "props"), (0, u "Ljava/util/Properties;"), (2, u "lineSeparator"), (0, u "Ljava/lang/String;"), (96, .class_ 321), (1, u "java/lang/System$LoggerFinder"), (5, .class_ 328), (0, u "java/lang/System$Logger"), (67, u "err"), (2, u "out"), (91, u "notSupportedJnuEncoding"), (15, u "in"), (17, u "initialIn"), (0, u "Ljava/io/InputStream;"), (35, u "bootLayer"), (0, u "Ljava/lang/ModuleLayer;"), (99, .class_ 664), (0, u "java/lang/System$2"), (9, u "NEVER"), (2, u "MAYBE"), (49, u "arraycopy"), (0, u "(Ljava/lang/Object;ILjava/lang/Object;II)V"), (72, .class_ 802), (0, u "java/lang/System$Logger$Level")] 31

def k6m0 : Method := { name := "<init>", desc := "()V", sig := { parameters := [], returnType := none }, accessFlags := 2, code := none }
def k6m1 : Method := { name := "arraycopy", desc := "(Ljava/lang/Object;ILjava/lang/Object;II)V", sig := { parameters := [(.object "java/lang/Object"), .int, (.object "java/lang/Object"), .int, .int], returnType := none }, accessFlags := 265, code := none }
/-- java/lang/System -/
def k6 : Class := { plain "java/lang/System" (some 0) with
  accessFlags := 49
  interfaces := #[]
  cf := some (fileOf pool6 8 #[.nestMembers #[319, 327, 801, 108, 663, 208]] #[{ accessFlags := 2, nameIndex := 5, descriptorIndex := 6, attributes := #[] }, { accessFlags := 265, nameIndex := 727, descriptorIndex := 728, attributes := #[] }] 49 2 #[] #[{ accessFlags := 25, nameIndex := 507, descriptorIndex := 526, attributes := #[] }, { accessFlags := 25, nameIndex := 399, descriptorIndex := 155, attributes := #[] }, { accessFlags := 25, nameIndex := 396, descriptorIndex := 155, attributes := #[] }, { accessFlags := 10, nameIndex := 525, descriptorIndex := 526, attributes := #[] }, { accessFlags := 26, nameIndex := 674, descriptorIndex := 12, attributes := #[] }, { accessFlags := 26, nameIndex := 677, descriptorIndex := 12, attributes := #[] }, { accessFlags := 10, nameIndex := 11, descriptorIndex := 12, attributes := #[] }, { accessFlags := 74, nameIndex := 175, descriptorIndex := 176, attributes := #[] }, { accessFlags := 10, nameIndex := 491, descriptorIndex := 222, attributes := #[] }, { accessFlags := 74, nameIndex := 29, descriptorIndex := 30, attributes := #[] }, { accessFlags := 74, nameIndex := 154, descriptorIndex := 155, attributes := #[] }, { accessFlags := 10, nameIndex := 217, descriptorIndex := 218, attributes := #[] }, { accessFlags := 10, nameIndex := 221, descriptorIndex := 222, attributes := #[] }, { accessFlags := 8, nameIndex := 562, descriptorIndex := 563, attributes := #[] }])
  fields := #[{ name := "in", type := (.object "java/io/InputStream"), accessFlags := 25, slot := 0, constantValue := 0 }, { name := "out", type := (.object "java/io/PrintStream"), accessFlags := 25, slot := 1, constantValue := 0 }, { name := "err", type := (.object "java/io/PrintStream"), accessFlags := 25, slot := 2, constantValue := 0 }, { name := "initialIn", type := (.object "java/io/InputStream"), accessFlags := 10, slot := 3, constantValue := 0 }, { name := "NEVER", type := .int, accessFlags := 26, slot := 4, constantValue := 0 }, { name := "MAYBE", type := .int, accessFlags := 26, slot := 5, constantValue := 0 }, { name := "allowSecurityManager", type := .int, accessFlags := 10, slot := 6, constantValue := 0 }, { name := "security", type := (.object "java/lang/SecurityManager"), accessFlags := 74, slot := 7, constantValue := 0 }, { name := "notSupportedJnuEncoding", type := (.object "java/lang/String"), accessFlags := 10, slot := 8, constantValue := 0 }, { name := "cons", type := (.object "java/io/Console"), accessFlags := 74, slot := 9, constantValue := 0 }, { name := "initialErrStream", type := (.object "java/io/PrintStream"), accessFlags := 74, slot := 10, constantValue := 0 }, { name := "props", type := (.object "java/util/Properties"), accessFlags := 10, slot := 11, constantValue := 0 }, { name := "lineSeparator", type := (.object "java/lang/String"), accessFlags := 10, slot := 12, constantValue := 0 }, { name := "bootLayer", type := (.object "java/lang/ModuleLayer"), accessFlags := 8, slot := 13, constantValue := 0 }]
  methods := #[k6m0, k6m1]
  instanceTypes := #[]
  staticTypes := #[(.object "java/io/InputStream"), (.object "java/io/PrintStream"), (.object "java/io/PrintStream"), (.object "java/io/InputStream"), .int, .int, .int, (.object "java/lang/SecurityManager"), (.object "java/lang/String"), (.object "java/io/Console"), (.object "java/io/PrintStream"), (.object "java/util/Properties"), (.object "java/lang/String"), (.object "java/lang/ModuleLayer")]
  resolved := Array.replicate 834 none
  statics := none }

def pool7 : Array CpInfo := pool [(1, u "java/lang/Cloneable"), (0, .class_ 1), (0, u "java/lang/Object"), (0, .class_ 3)] 3

/-- java/lang/Cloneable -/
def k7 : Class := { plain "java/lang/Cloneable" (some 0) with
  accessFlags := 1537
  interfaces := #[]
  cf := some (fileOf pool7 2 #[] #[] 1537 4 #[] #[])
  fields := #[]
  methods := #[]
  instanceTypes := #[]
  staticTypes := #[]
  resolved := Array.replicate 8 none
  statics := none }

def pool8 : Array CpInfo := pool [(1, u "java/io/Serializable"), (0, .class_ 1), (0, u "java/lang/Object"), (0, .class_ 3)] 3

/-- java/io/Serializable -/
def k8 : Class := { plain "java/io/Serializable" (some 0) with
  accessFlags := 1537
  interfaces := #[]
  cf := some (fileOf pool8 2 #[] #[] 1537 4 #[] #[])
  fields := #[]
  methods := #[]
  instanceTypes := #[]
  staticTypes := #[]
  resolved := Array.replicate 8 none
  statics := none }

/-- the primitive byte -/
def k9 : Class := { plain "byte" none with kind := .primitive 'B', accessFlags := 0x411 }
/-- [B -/
def k10 : Class := { plain "[B" (some 0) with kind := .array 9 .byte, interfaces := #[7, 8], accessFlags := 1041 }

/-- the primitive int -/
def k11 : Class := { plain "int" none with kind := .primitive 'I', accessFlags := 0x411 }
/-- [I -/
def k12 : Class := { plain "[I" (some 0) with kind := .array 11 .int, interfaces := #[7, 8], accessFlags := 1041 }

def heap : Heap := #[]
def classes : Array Class := #[k0, k1, k2, k3, k4, k5, k6, k7, k8, k9, k10, k11, k12]
def interned : List (Array UInt16 × Addr) := []
def slotsUsed : Nat := 0
def theMethod : MethodId := ⟨1, 3⟩
def args0 : Array Value := #[.int 5, .int 5, .int 5, .int 5, .int 5, .int 5]
def aboutOver (below : List Frame) : State where
  vm := { classes := classes, interned := interned.toArray }
  heap := heap
  slotsUsed := slotsUsed
  threads := #[{ frames := .invoking theMethod args0 :: below }]
def below0 : List Frame := [.native { method := ⟨0, 0⟩, args := #[] }]
def about1 : State := aboutOver below0
def p0 : Program := .bare "" "" ""
def e0 : Env := launch0.env 0 0 0
theorem w_frames : about1.frames = Frame.invoking theMethod args0 :: below0 := rfl
set_option maxRecDepth 65536 in
theorem w_args : argsFit about1.vm theMethod args0 = true := by decide +kernel
set_option maxRecDepth 65536 in
theorem w_heap : heapFits about1 = true := by decide +kernel
set_option maxRecDepth 65536 in
theorem w_runnable : about1.curStatus? = some .runnable := by decide +kernel
set_option maxRecDepth 65536 in
theorem w_alone : about1.alone = true := by decide +kernel
set_option maxRecDepth 65536 in
theorem w_named : about1.methodNamed? x = some theMethod := by decide +kernel
set_option maxRecDepth 65536 in
theorem w_hears : about1.hears theMethod below0 = true := by decide +kernel
set_option maxRecDepth 65536 in
theorem w_ripe : about1.ripe theMethod args0 below0 = true := by decide +kernel
theorem w_running : about1.status = .running := rfl
set_option maxRecDepth 65536 in
theorem w_room : about1.hasRoom e0.platform room_1 = true :=
  launch0.hasRoom_least _ room_1 (by decide +kernel) (by decide +kernel) (by decide +kernel) (by decide +kernel) (by decide +kernel) (by decide +kernel)
theorem allAtoms_all (ts : List Jvm.Cond) (a : Array Jvm.Value) (st : Jvm.State) : (allAtoms ts).before a st = ts.all (fun c => c.before a st) := by
  induction ts with
  | nil => rfl
  | cons c t ih =>
    show (Jvm.Cond.and c (allAtoms t)).before a st = _
    rw [Jvm.Cond.before_and, ih, List.all_cons]
def words1 : List Jvm.Cond := Jvm.Cond.code x code maxLocals ret :: tables_1
/-- a 'code' word, met by the world's own term for the bytes: nothing is compared byte by byte -/
theorem code_word {y : MethodName} {bytes : ByteArray} {mx : Nat} {rt : Option FieldType} {a : Array Value} {s : State} {m : MethodId} {meth : Method} {c : Code} (h1 : s.methodNamed? y = some m) (h2 : s.vm.method? m = some meth) (h3 : meth.code = some c) (h4 : c.code = bytes)
    (h5 : (c.maxLocals == mx && c.exceptionTable.isEmpty && decide (c.maxStack ≤ mostOperands) && decide (meth.sig.returnType = rt) && !meth.locks && decide (parseMethodDescriptor y.desc = some meth.sig)) = true) : (Jvm.Cond.code y bytes mx rt).before a s = true := by
  simp only [Bool.and_eq_true, beq_iff_eq, Bool.not_eq_true', decide_eq_true_eq] at h5
  obtain ⟨⟨⟨⟨⟨g1, g2⟩, g3⟩, g4⟩, g5⟩, g6⟩ := h5
  simp [Cond.before, Cond.holds, Cond.value, h1, h2, h3, h4, g1, g2, g3, g4, g5, g6]
def isCode : Jvm.Cond → Bool
  | .code _ _ _ _ => true
  | _ => false
theorem all_split {L : List Jvm.Cond} {P : Jvm.Cond → Bool} (h1 : L.all (fun c => isCode c || P c) = true) (h2 : ∀ c ∈ L.filter isCode, P c = true) : L.all P = true := by
  refine List.all_eq_true.mpr fun c hc => ?_
  have h := List.all_eq_true.mp h1 c hc
  rcases Bool.eq_false_or_eq_true (isCode c) with hi | hi
  · exact h2 c (List.mem_filter.mpr ⟨hc, hi⟩)
  · simpa [hi] using h
set_option maxRecDepth 65536 in
theorem w_c0 : (Jvm.Cond.code x code maxLocals ret).before args0 about1 = true := code_word (m := ⟨1, 3⟩) (meth := k1m3) (c := k1c3) (by decide +kernel) rfl rfl rfl (by decide +kernel)
set_option maxRecDepth 65536 in
theorem w_c1 : (Jvm.Cond.code ({ cls := "com/example/canonbyte/canonbyte/codec/RunMoveToPinLaw", name := "place", desc := "(I[BB)[B" } : Jvm.MethodName) method_2_code (4 : Nat) (Option.some (Jvm.ClassFile.FieldType.array Jvm.ClassFile.FieldType.byte))).before args0 about1 = true := code_word (m := ⟨1, 1⟩) (meth := k1m1) (c := k1c1) (by decide +kernel) rfl rfl rfl (by decide +kernel)
set_option maxRecDepth 65536 in
theorem w_c2 : (Jvm.Cond.code ({ cls := "com/example/canonbyte/canonbyte/codec/Piece$Run", name := "<init>", desc := "([BII)V" } : Jvm.MethodName) prog_21_method_1_code (4 : Nat) (Option.none : Option Jvm.ClassFile.FieldType)).before args0 about1 = true := code_word (m := ⟨3, 0⟩) (meth := k3m0) (c := k3c0) (by decide +kernel) rfl rfl rfl (by decide +kernel)
set_option maxRecDepth 65536 in
theorem w_c3 : (Jvm.Cond.code ({ cls := "com/example/canonbyte/canonbyte/codec/Piece", name := "<init>", desc := "()V" } : Jvm.MethodName) prog_19_method_1_code (1 : Nat) (Option.none : Option Jvm.ClassFile.FieldType)).before args0 about1 = true := code_word (m := ⟨2, 0⟩) (meth := k2m0) (c := k2c0) (by decide +kernel) rfl rfl rfl (by decide +kernel)
set_option maxRecDepth 65536 in
theorem w_c4 : (Jvm.Cond.code ({ cls := "java/lang/Object", name := "<init>", desc := "()V" } : Jvm.MethodName) object_method_1_code (1 : Nat) (Option.none : Option Jvm.ClassFile.FieldType)).before args0 about1 = true := code_word (m := ⟨0, 0⟩) (meth := k0m0) (c := k0c0) (by decide +kernel) rfl rfl rfl (by decide +kernel)
set_option maxRecDepth 65536 in
theorem w_c5 : (Jvm.Cond.code ({ cls := "com/example/canonbyte/canonbyte/codec/Piece$Run", name := "moveTo", desc := "([BI)V" } : Jvm.MethodName) prog_21_method_2_code (3 : Nat) (Option.none : Option Jvm.ClassFile.FieldType)).before args0 about1 = true := code_word (m := ⟨3, 1⟩) (meth := k3m1) (c := k3c1) (by decide +kernel) rfl rfl rfl (by decide +kernel)
set_option maxRecDepth 65536 in
theorem w_c6 : (Jvm.Cond.code ({ cls := "com/example/canonbyte/canonbyte/codec/RunMoveToPinLaw", name := "wipe", desc := "([BB)V" } : Jvm.MethodName) method_3_code (2 : Nat) (Option.none : Option Jvm.ClassFile.FieldType)).before args0 about1 = true := code_word (m := ⟨1, 2⟩) (meth := k1m2) (c := k1c2) (by decide +kernel) rfl rfl rfl (by decide +kernel)
set_option maxRecDepth 65536 in
theorem w_c7 : (Jvm.Cond.code ({ cls := "com/example/canonbyte/canonbyte/codec/Piece", name := "toByteArray", desc := "(Lcom/example/canonbyte/canonbyte/codec/Piece;I)[B" } : Jvm.MethodName) prog_19_method_3_code (6 : Nat) (Option.some (Jvm.ClassFile.FieldType.array Jvm.ClassFile.FieldType.byte))).before args0 about1 = true := code_word (m := ⟨2, 1⟩) (meth := k2m1) (c := k2c1) (by decide +kernel) rfl rfl rfl (by decide +kernel)
set_option maxRecDepth 65536 in
theorem w_c8 : (Jvm.Cond.code ({ cls := "java/util/Arrays", name := "copyOfRange", desc := "([BII)[B" } : Jvm.MethodName) jdk_65_method_132_code (3 : Nat) (Option.some (Jvm.ClassFile.FieldType.array Jvm.ClassFile.FieldType.byte))).before args0 about1 = true := code_word (m := ⟨4, 2⟩) (meth := k4m2) (c := k4c2) (by decide +kernel) rfl rfl rfl (by decide +kernel)
set_option maxRecDepth 65536 in
theorem w_c9 : (Jvm.Cond.code ({ cls := "java/util/Arrays", name := "copyOfRangeByte", desc := "([BII)[B" } : Jvm.MethodName) jdk_65_method_133_code (5 : Nat) (Option.some (Jvm.ClassFile.FieldType.array Jvm.ClassFile.FieldType.byte))).before args0 about1 = true := code_word (m := ⟨4, 3⟩) (meth := k4m3) (c := k4c3) (by decide +kernel) rfl rfl rfl (by decide +kernel)
set_option maxRecDepth 65536 in
theorem w_c10 : (Jvm.Cond.code ({ cls := "java/util/Arrays", name := "checkLength", desc := "(II)V" } : Jvm.MethodName) jdk_65_method_131_code (2 : Nat) (Option.none : Option Jvm.ClassFile.FieldType)).before args0 about1 = true := code_word (m := ⟨4, 1⟩) (meth := k4m1) (c := k4c1) (by decide +kernel) rfl rfl rfl (by decide +kernel)
set_option maxRecDepth 65536 in
theorem w_c11 : (Jvm.Cond.code ({ cls := "java/lang/Math", name := "min", desc := "(II)I" } : Jvm.MethodName) jdk_29_method_69_code (2 : Nat) (Option.some Jvm.ClassFile.FieldType.int)).before args0 about1 = true := code_word (m := ⟨5, 1⟩) (meth := k5m1) (c := k5c1) (by decide +kernel) rfl rfl rfl (by decide +kernel)
def codes1 : List Jvm.Cond := [Jvm.Cond.code x code maxLocals ret, Jvm.Cond.code ({ cls := "com/example/canonbyte/canonbyte/codec/RunMoveToPinLaw", name := "place", desc := "(I[BB)[B" } : Jvm.MethodName) method_2_code (4 : Nat) (Option.some (Jvm.ClassFile.FieldType.array Jvm.ClassFile.FieldType.byte)), Jvm.Cond.code ({ cls := "com/example/canonbyte/canonbyte/codec/Piece$Run", name := "<init>", desc := "([BII)V" } : Jvm.MethodName) prog_21_method_1_code (4 : Nat) (Option.none : Option Jvm.ClassFile.FieldType), Jvm.Cond.code ({ cls := "com/example/canonbyte/canonbyte/codec/Piece", name := "<init>", desc := "()V" } : Jvm.MethodName) prog_19_method_1_code (1 : Nat) (Option.none : Option Jvm.ClassFile.FieldType), Jvm.Cond.code ({ cls := "java/lang/Object", name := "<init>", desc := "()V" } : Jvm.MethodName) object_method_1_code (1 : Nat) (Option.none : Option Jvm.ClassFile.FieldType), Jvm.Cond.code ({ cls := "com/example/canonbyte/canonbyte/codec/Piece$Run", name := "moveTo", desc := "([BI)V" } : Jvm.MethodName) prog_21_method_2_code (3 : Nat) (Option.none : Option Jvm.ClassFile.FieldType), Jvm.Cond.code ({ cls := "com/example/canonbyte/canonbyte/codec/RunMoveToPinLaw", name := "wipe", desc := "([BB)V" } : Jvm.MethodName) method_3_code (2 : Nat) (Option.none : Option Jvm.ClassFile.FieldType), Jvm.Cond.code ({ cls := "com/example/canonbyte/canonbyte/codec/Piece", name := "toByteArray", desc := "(Lcom/example/canonbyte/canonbyte/codec/Piece;I)[B" } : Jvm.MethodName) prog_19_method_3_code (6 : Nat) (Option.some (Jvm.ClassFile.FieldType.array Jvm.ClassFile.FieldType.byte)), Jvm.Cond.code ({ cls := "java/util/Arrays", name := "copyOfRange", desc := "([BII)[B" } : Jvm.MethodName) jdk_65_method_132_code (3 : Nat) (Option.some (Jvm.ClassFile.FieldType.array Jvm.ClassFile.FieldType.byte)), Jvm.Cond.code ({ cls := "java/util/Arrays", name := "copyOfRangeByte", desc := "([BII)[B" } : Jvm.MethodName) jdk_65_method_133_code (5 : Nat) (Option.some (Jvm.ClassFile.FieldType.array Jvm.ClassFile.FieldType.byte)), Jvm.Cond.code ({ cls := "java/util/Arrays", name := "checkLength", desc := "(II)V" } : Jvm.MethodName) jdk_65_method_131_code (2 : Nat) (Option.none : Option Jvm.ClassFile.FieldType), Jvm.Cond.code ({ cls := "java/lang/Math", name := "min", desc := "(II)I" } : Jvm.MethodName) jdk_29_method_69_code (2 : Nat) (Option.some Jvm.ClassFile.FieldType.int)]
set_option maxRecDepth 65536 in
theorem codes_eq : words1.filter isCode = codes1 := rfl
theorem w_codes : ∀ c ∈ words1.filter isCode, c.before args0 about1 = true := by
  rw [codes_eq]
  intro c hc
  simp only [codes1, List.mem_cons, List.not_mem_nil, or_false] at hc
  rcases hc with rfl | rfl | rfl | rfl | rfl | rfl | rfl | rfl | rfl | rfl | rfl | rfl
  · exact w_c0
  · exact w_c1
  · exact w_c2
  · exact w_c3
  · exact w_c4
  · exact w_c5
  · exact w_c6
  · exact w_c7
  · exact w_c8
  · exact w_c9
  · exact w_c10
  · exact w_c11
set_option maxRecDepth 65536 in
theorem w_t1 : (words1.take 24).all (fun c => isCode c || c.before args0 about1) = true := by decide +kernel
set_option maxRecDepth 65536 in
theorem w_t2 : ((words1.drop 24).take 24).all (fun c => isCode c || c.before args0 about1) = true := by decide +kernel
set_option maxRecDepth 65536 in
theorem w_t3 : ((words1.drop 24).drop 24).all (fun c => isCode c || c.before args0 about1) = true := by decide +kernel
theorem w_tables : (allAtoms (Jvm.Cond.code x code maxLocals ret :: tables_1)).before args0 about1 = true := by
  rw [allAtoms_all]
  show words1.all (fun c => c.before args0 about1) = true
  refine all_split ?_ w_codes
  rw [← List.take_append_drop 24 words1, List.all_append, w_t1, ← List.take_append_drop 24 (words1.drop 24), List.all_append, w_t2, w_t3]
  rfl
set_option maxRecDepth 65536 in
theorem w_case : (Jvm.Cond.and given_1 narrow_1).before args0 about1 = true := by decide +kernel
theorem w_applies : (headSpec (Jvm.Cond.code x code maxLocals ret :: tables_1) room_1).applies x e0.platform about1 = true :=
  (Spec.applies_iff w_frames).mpr ⟨w_running, w_runnable, w_alone, w_named, w_hears, w_ripe, w_room, w_tables⟩
theorem atStart : AtStart classFile x code maxLocals ret World_1 tables_1 room_1 Calls_1 rest_1 Pre_1 launch0 p0 e0 about1 theMethod args0 below0 :=
  ⟨lists_1, trivial, launch0.admits_env _ _ _, launch0.least_env, fairChoices_fair.cas, fairChoices_fair.clock, w_frames, w_args, w_heap, w_applies, trivial, trivial, w_case⟩
end start1
theorem witness_1 : WitnessClaimed_1 := ⟨start1.p0, start1.e0, start1.about1, start1.theMethod, start1.args0, start1.below0, start1.atStart⟩
end Jvm.Pilot.@@N@@
