import JvmDerived
import JvmDerived.Pilot.@@N@@Statement
import JvmDerived.Pilot.@@N@@Code
set_option linter.unusedVariables false
set_option linter.unusedSimpArgs false
namespace Jvm.RoadKit
open Sem ClassFile Op Lib Jvm.Stand Jvm.Free Jvm.LawKit
section New
variable {p : Program} {l : Launch} {e : Env} {R : Room} {s : State} {m : MethodId} {args : Array Value} {below : List Frame} {meth : Method} {c : Code} {T : State} {locs : List Loc} {cells slots : Nat}
theorem retI (X : Stand p l e R s m args below meth c T locs cells slots) (hx : p.tables.exec = Jvm.exec) {pc : Nat} {Ls : Array Slot} {z : Int32} {rest : List Value} (hret : meth.sig.returnType = some .int) (hd : decode c.code pc = .ok (.ireturn, 1)) {fs : List Frame}
    (hl : ∀ (f : JFrame) (acts : List Action), f.method = m → f.locked = none → f.entered = [] → (doReturn e (T.setTop f) acts (some (.int z))).1 = T.setFrames fs) : Steps p.tables e below (T.setTop (mkF m pc Ls (.int z :: rest))) (T.setFrames fs) := by
  have hm' : T.vm.method? m = some meth := X.method'
  have hn : narrow .int (.int z) = .int z := rfl
  show Steps p.tables e below (T.setTop { method := m, pc := pc, locals := Ls, stack := _ :: rest, locked := none }) _
  jvm_step X.here [X.here.top, hx, hd, hm', hret, hn]
  first | (intro acts; rw [hl _ acts rfl rfl rfl]) | rw [hl _ _ rfl rfl rfl]
  exact Steps.refl _
end New
end Jvm.RoadKit
@@BLOCK:NumsL.lean.txt@@
namespace Jvm.Pilot.@@N@@
open Jvm Jvm.ClassFile Sem Op Lib Jvm.Free Jvm.Stand Jvm.LawKit Jvm.RoadKit Bundle Jvm.Pilot.@@N@@.Jvm.D
def own_p (a b : Int32) : Int32 := if (b &&& (1 : Int32)) = (0 : Int32) then (if a < (0 : Int32) then a else (a % (2147483631 : Int32))) else ((((b.toUInt32 >>> ((1 : Int32) &&& 31).toUInt32).toInt32) &&& (63 : Int32)) - (8 : Int32))
theorem own_p1 (a b : Int32) (h : (b &&& (1 : Int32)) = (0 : Int32)) (h2 : a < (0 : Int32)) : own_p a b = a := by rw [own_p, if_pos h, if_pos h2]
theorem own_p2 (a b : Int32) (h : (b &&& (1 : Int32)) = (0 : Int32)) (h2 : ¬ a < (0 : Int32)) : own_p a b = (a % (2147483631 : Int32)) := by rw [own_p, if_pos h, if_neg h2]
theorem own_p3 (a b : Int32) (h : ¬ (b &&& (1 : Int32)) = (0 : Int32)) : own_p a b = ((((b.toUInt32 >>> ((1 : Int32) &&& 31).toUInt32).toInt32) &&& (63 : Int32)) - (8 : Int32)) := by rw [own_p, if_neg h]
def own_w (p : Int32) : Int32 := if (18 : Int32) < p then ((8 : Int32) + (((p + (18 : Int32)) - (1 : Int32)) / (18 : Int32))) else (1 : Int32)
theorem own_w1 (p : Int32) (h : (18 : Int32) < p) : own_w p = ((8 : Int32) + (((p + (18 : Int32)) - (1 : Int32)) / (18 : Int32))) := if_pos h
theorem own_w2 (p : Int32) (h : ¬ (18 : Int32) < p) : own_w p = (1 : Int32) := if_neg h
theorem own_pb (a b : Int32) : (own_p a b).toInt ≤ 2147483630 := by
  have h0 : (0 : Int32).toInt = 0 := rfl
  by_cases h : (b &&& (1 : Int32)) = (0 : Int32)
  · by_cases h2 : a < (0 : Int32)
    · rw [own_p1 a b h h2]
      rw [Int32.lt_iff_toInt_lt] at h2
      omega
    · rw [own_p2 a b h h2]
      rw [Int32.lt_iff_toInt_lt] at h2
      have h3 : (2147483631 : Int32).toInt = 2147483631 := rfl
      rw [Jvm.Kit.i32_rem_nonneg (by omega), h3]
      omega
  · rw [own_p3 a b h]
    generalize (b.toUInt32 >>> ((1 : Int32) &&& 31).toUInt32).toInt32 = y
    have h1 : (y &&& (63 : Int32)).toInt = y.toInt % 2 ^ 6 := Jvm.Kit.i32_mask y 63 (k := 6) (by decide) (by decide)
    have h8 : (8 : Int32).toInt = 8 := rfl
    rw [Jvm.Kit.i32_sub (by rw [h1, h8]; omega) (by rw [h1, h8]; omega), h1, h8]
    omega
theorem own_17 (p : Int32) : (p + (18 : Int32)) - (1 : Int32) = p + (17 : Int32) := by
  rw [Int32.sub_eq_add_neg, Int32.add_assoc]; rfl
theorem own_wv (p : Int32) (h : (18 : Int32) < p) (hb : p.toInt ≤ 2147483630) : (own_w p).toInt = 8 + (p.toInt + 17) / 18 := by
  rw [own_w1 p h, own_17]
  rw [Int32.lt_iff_toInt_lt] at h
  have h18 : (18 : Int32).toInt = 18 := rfl
  have h17 : (17 : Int32).toInt = 17 := rfl
  have h8 : (8 : Int32).toInt = 8 := rfl
  have e1 : (p + (17 : Int32)).toInt = p.toInt + 17 := by rw [Jvm.Kit.i32_add (by omega) (by omega), h17]
  have e2 : ((p + (17 : Int32)) / (18 : Int32)).toInt = (p.toInt + 17) / 18 := by
    rw [Jvm.Kit.i32_div (by rw [h18]; omega), e1, h18, Int.tdiv_eq_ediv_of_nonneg (by omega)]
  rw [Jvm.Kit.i32_add (by omega) (by omega), e2, h8]
theorem own_k (p : Int32) (h : (18 : Int32) < p) (hb : p.toInt ≤ 2147483630) : ((own_w p).toInt64 - (8 : Int64)).toInt = (p.toInt + 17) / 18 := by
  have e := own_wv p h hb
  rw [Int32.lt_iff_toInt_lt] at h
  have h18 : (18 : Int32).toInt = 18 := rfl
  have h8 : (8 : Int64).toInt = 8 := rfl
  have e1 := Jvm.Kit.i64_of_i32 (own_w p)
  rw [Jvm.Kit.i64_sub (by omega) (by omega), e1, e, h8]
  omega
theorem own_t1 (p : Int32) (h : (18 : Int32) < p) (hb : p.toInt ≤ 2147483630) : ¬ (((own_w p).toInt64 - (8 : Int64)) < (1 : Int64)) := by
  have e := own_k p h hb
  rw [Int32.lt_iff_toInt_lt] at h
  have h18 : (18 : Int32).toInt = 18 := rfl
  have h1 : (1 : Int64).toInt = 1 := rfl
  rw [Int64.lt_iff_toInt_lt, e, h1]
  omega
theorem own_t2 (p : Int32) (h : (18 : Int32) < p) (hb : p.toInt ≤ 2147483630) : ((18 : Int64) * (((own_w p).toInt64 - (8 : Int64)) - (1 : Int64))) < (p.toInt64) := by
  have e := own_k p h hb
  rw [Int32.lt_iff_toInt_lt] at h
  have h18 : (18 : Int32).toInt = 18 := rfl
  have g18 : (18 : Int64).toInt = 18 := rfl
  have h1 : (1 : Int64).toInt = 1 := rfl
  have e1 : (((own_w p).toInt64 - (8 : Int64)) - (1 : Int64)).toInt = (p.toInt + 17) / 18 - 1 := by
    rw [Jvm.Kit.i64_sub (by omega) (by omega), e, h1]
  rw [Int64.lt_iff_toInt_lt, Jvm.Kit.i64_mul (by rw [e1, g18]; omega) (by rw [e1, g18]; omega), e1, g18, Jvm.Kit.i64_of_i32]
  omega
theorem own_t3 (p : Int32) (h : (18 : Int32) < p) (hb : p.toInt ≤ 2147483630) : ¬ (((18 : Int64) * ((own_w p).toInt64 - (8 : Int64))) < (p.toInt64)) := by
  have e := own_k p h hb
  rw [Int32.lt_iff_toInt_lt] at h
  have h18 : (18 : Int32).toInt = 18 := rfl
  have g18 : (18 : Int64).toInt = 18 := rfl
  rw [Int64.lt_iff_toInt_lt, Jvm.Kit.i64_mul (by rw [e, g18]; omega) (by rw [e, g18]; omega), e, g18, Jvm.Kit.i64_of_i32]
  omega
theorem pn_1 : plainName "com/example/truthwright/truthwright/market/processor/Knapsack" = true := by first | (simp [plainName, overriddenIn]; done) | decide +kernel
theorem ef_1 (m : MethodId) (p1 : Int32) : entryFrame m #[(.int p1)] 2 = mkF m 0 #[.val (.int p1), .unset] [] := by first | (simp [entryFrame, mkF, argsToLocals, Value.category]; done) | rfl
theorem d1_0 : decode prog_32_method_4_code 0 = .ok (.iconst 1, 1) := by decide +kernel
theorem d1_1 : decode prog_32_method_4_code 1 = .ok (.istore_n 1, 1) := by decide +kernel
theorem d1_2 : decode prog_32_method_4_code 2 = .ok (.iload_n 0, 1) := by decide +kernel
theorem d1_3 : decode prog_32_method_4_code 3 = .ok (.bipush 18, 2) := by decide +kernel
theorem d1_5 : decode prog_32_method_4_code 5 = .ok (.if_icmp .le 16, 3) := by decide +kernel
theorem d1_8 : decode prog_32_method_4_code 8 = .ok (.bipush 8, 2) := by decide +kernel
theorem d1_10 : decode prog_32_method_4_code 10 = .ok (.iload_n 0, 1) := by decide +kernel
theorem d1_11 : decode prog_32_method_4_code 11 = .ok (.bipush 18, 2) := by decide +kernel
theorem d1_13 : decode prog_32_method_4_code 13 = .ok (.iadd, 1) := by decide +kernel
theorem d1_14 : decode prog_32_method_4_code 14 = .ok (.iconst 1, 1) := by decide +kernel
theorem d1_15 : decode prog_32_method_4_code 15 = .ok (.isub, 1) := by decide +kernel
theorem d1_16 : decode prog_32_method_4_code 16 = .ok (.bipush 18, 2) := by decide +kernel
theorem d1_18 : decode prog_32_method_4_code 18 = .ok (.idiv, 1) := by decide +kernel
theorem d1_19 : decode prog_32_method_4_code 19 = .ok (.iadd, 1) := by decide +kernel
theorem d1_20 : decode prog_32_method_4_code 20 = .ok (.istore_n 1, 1) := by decide +kernel
theorem d1_21 : decode prog_32_method_4_code 21 = .ok (.iload_n 1, 1) := by decide +kernel
theorem d1_22 : decode prog_32_method_4_code 22 = .ok (.ireturn, 1) := by decide +kernel
def Q1 (r : Int32) (h0 : Heap) (n0 : Nat) (v : Option Value) (h : Heap) (L : List Loc) : Prop := v = some (.int r) ∧ Fr n0 L ∧ h = h0
set_option maxRecDepth 65536 in
set_option maxHeartbeats 40000000 in
theorem rm1 (l : Launch) (Z : State) (a0 : Array Value) (hw : ∀ d ∈ tables_1, d.before a0 Z = true) (ws : List Jvm.Cond) (p1 : Int32) (r : Int32) (h0 : Heap) (n0 : Nat) (Z0 : n0 ≤ h0.size) (k1 : ((18 : Int32) < p1) → r = ((8 : Int32) + (((p1 + (18 : Int32)) - (1 : Int32)) / (18 : Int32)))) (k2 : ¬ ((18 : Int32) < p1) → r = (1 : Int32)) :
    MetFree l (⟨"com/example/truthwright/truthwright/market/processor/Knapsack", "width", "(I)I"⟩ : MethodName) (head1 (Jvm.Cond.code (⟨"com/example/truthwright/truthwright/market/processor/Knapsack", "width", "(I)I"⟩ : MethodName) prog_32_method_4_code 2 (some .int) :: ws) ({ frames := 0, cells := 0, slots := 0, locals := 0 } : Room)) (fun a U => a = #[(.int p1)] ∧ Z.Warmed39 U.vm ∧ U.heap = h0) (fun _ _ _ _ _ => True) (fun _ U o U' => ∃ v L, o = .returned v ∧ Q1 r h0 n0 v U'.heap L ∧ FrameEnd U o U' L ({ frames := 0, cells := 0, slots := 0, locals := 0 } : Room).cells ({ frames := 0, cells := 0, slots := 0, locals := 0 } : Room).slots) := by
  refine MetFree.of_bodySF (plainFor_of_name pn_1) hisR ?_
  intro p e s m args below meth c s₁ Bd hml0 hP hK
  obtain ⟨rfl, hZ, hh⟩ := hP
  have hx := Bd.exec
  have hby := Bd.bytes
  have hml : c.maxLocals = 2 := hml0
  have hown : s.vm.findClass "com/example/truthwright/truthwright/market/processor/Knapsack" = some m.cls := findClass_of_methodNamed Bd.named
  have hnm := (name_of_methodNamed Bd.named Bd.method).1
  have X0 : Stand p l e ({ frames := 0, cells := 0, slots := 0, locals := 0 } : Room) s m #[(.int p1)] below meth c s₁ [] 0 0 := Stand.of_body Bd
  have e0 : s₁.heap = h0 := by rw [← hh, Bd.state]; rfl
  have N0 := Fr.nil n0
  have pre0 : ∀ t, Steps p.tables e below (s₁.setTop (mkF m 0 #[.val (.int p1), .unset] [])) t → Steps p.tables e below (s₁.setTop (entryFrame m #[(.int p1)] 2)) t := fun t k => castTop (ef_1 m p1) k
  obtain ⟨fs, hr, hrun, hended, hW, hsame⟩ := X0.leave (v := some (.int r)) (fun h => by rw [Bd.returns] at h; cases h)
  refine ⟨_, _, pre0 _ ?_, hrun, hended, _, _, rfl, ?_, ⟨_, rfl⟩, hW, hsame.mono (by decide) (by decide)⟩
  · show Steps p.tables e below (s₁.setTop (mkF m 0 #[.val (.int p1), .unset] [])) _
    refine XS.iconst X0.here hx rfl (hb hby d1_0) ?_
    show Steps p.tables e below (s₁.setTop (mkF m 1 #[.val (.int p1), .unset] [(.int (1 : Int32))])) _
    refine XS.istoreN X0.here hx rfl (hb hby d1_1) rfl (l' := #[.val (.int p1), .val (.int (1 : Int32))]) rfl ?_
    show Steps p.tables e below (s₁.setTop (mkF m 2 #[.val (.int p1), .val (.int (1 : Int32))] [])) _
    refine XS.iloadN X0.here hx rfl (hb hby d1_2) rfl ?_
    show Steps p.tables e below (s₁.setTop (mkF m 3 #[.val (.int p1), .val (.int (1 : Int32))] [(.int p1)])) _
    refine XS.bipush X0.here hx rfl (hb hby d1_3) ?_
    show Steps p.tables e below (s₁.setTop (mkF m 5 #[.val (.int p1), .val (.int (1 : Int32))] [(.int (18 : Int32)), (.int p1)])) _
    by_cases hc5 : (18 : Int32) < p1
    · refine XS.icmpNo X0.here hx rfl (hb hby d1_5) rfl (tlt hc5).2.2.2 ?_
      show Steps p.tables e below (s₁.setTop (mkF m 8 #[.val (.int p1), .val (.int (1 : Int32))] [])) _
      refine XS.bipush X0.here hx rfl (hb hby d1_8) ?_
      show Steps p.tables e below (s₁.setTop (mkF m 10 #[.val (.int p1), .val (.int (1 : Int32))] [(.int (8 : Int32))])) _
      refine XS.iloadN X0.here hx rfl (hb hby d1_10) rfl ?_
      show Steps p.tables e below (s₁.setTop (mkF m 11 #[.val (.int p1), .val (.int (1 : Int32))] [(.int p1), (.int (8 : Int32))])) _
      refine XS.bipush X0.here hx rfl (hb hby d1_11) ?_
      show Steps p.tables e below (s₁.setTop (mkF m 13 #[.val (.int p1), .val (.int (1 : Int32))] [(.int (18 : Int32)), (.int p1), (.int (8 : Int32))])) _
      refine XS.iadd X0.here hx rfl (hb hby d1_13) rfl ?_
      show Steps p.tables e below (s₁.setTop (mkF m 14 #[.val (.int p1), .val (.int (1 : Int32))] [(.int (p1 + (18 : Int32))), (.int (8 : Int32))])) _
      refine XS.iconst X0.here hx rfl (hb hby d1_14) ?_
      show Steps p.tables e below (s₁.setTop (mkF m 15 #[.val (.int p1), .val (.int (1 : Int32))] [(.int (1 : Int32)), (.int (p1 + (18 : Int32))), (.int (8 : Int32))])) _
      refine XS.isub X0.here hx rfl (hb hby d1_15) rfl ?_
      show Steps p.tables e below (s₁.setTop (mkF m 16 #[.val (.int p1), .val (.int (1 : Int32))] [(.int ((p1 + (18 : Int32)) - (1 : Int32))), (.int (8 : Int32))])) _
      refine XS.bipush X0.here hx rfl (hb hby d1_16) ?_
      show Steps p.tables e below (s₁.setTop (mkF m 18 #[.val (.int p1), .val (.int (1 : Int32))] [(.int (18 : Int32)), (.int ((p1 + (18 : Int32)) - (1 : Int32))), (.int (8 : Int32))])) _
      refine XS.idiv X0.here hx rfl (hb hby d1_18) rfl (by decide) ?_
      show Steps p.tables e below (s₁.setTop (mkF m 19 #[.val (.int p1), .val (.int (1 : Int32))] [(.int (((p1 + (18 : Int32)) - (1 : Int32)) / (18 : Int32))), (.int (8 : Int32))])) _
      refine XS.iadd X0.here hx rfl (hb hby d1_19) rfl ?_
      show Steps p.tables e below (s₁.setTop (mkF m 20 #[.val (.int p1), .val (.int (1 : Int32))] [(.int ((8 : Int32) + (((p1 + (18 : Int32)) - (1 : Int32)) / (18 : Int32))))])) _
      refine XS.istoreN X0.here hx rfl (hb hby d1_20) rfl (l' := #[.val (.int p1), .val (.int ((8 : Int32) + (((p1 + (18 : Int32)) - (1 : Int32)) / (18 : Int32))))]) rfl ?_
      show Steps p.tables e below (s₁.setTop (mkF m 21 #[.val (.int p1), .val (.int ((8 : Int32) + (((p1 + (18 : Int32)) - (1 : Int32)) / (18 : Int32))))] [])) _
      refine XS.iloadN X0.here hx rfl (hb hby d1_21) rfl ?_
      rw [k1 hc5] at hr
      show Steps p.tables e below (s₁.setTop (mkF m 22 #[.val (.int p1), .val (.int ((8 : Int32) + (((p1 + (18 : Int32)) - (1 : Int32)) / (18 : Int32))))] [(.int ((8 : Int32) + (((p1 + (18 : Int32)) - (1 : Int32)) / (18 : Int32))))])) _
      exact retI X0 hx Bd.returns (hb hby d1_22) hr
    · refine XS.icmpYes X0.here hx rfl (pc0 := 5) (pc' := 21) rfl (hb hby d1_5) rfl (flt hc5).2.2.2 (by decide) (by decide) ?_
      show Steps p.tables e below (s₁.setTop (mkF m 21 #[.val (.int p1), .val (.int (1 : Int32))] [])) _
      refine XS.iloadN X0.here hx rfl (hb hby d1_21) rfl ?_
      rw [k2 hc5] at hr
      show Steps p.tables e below (s₁.setTop (mkF m 22 #[.val (.int p1), .val (.int (1 : Int32))] [(.int (1 : Int32))])) _
      exact retI X0 hx Bd.returns (hb hby d1_22) hr
  · show Q1 r h0 n0 _ s₁.heap _
    rw [e0]
    exact ⟨rfl, N0, rfl⟩
set_option maxRecDepth 65536 in
set_option maxHeartbeats 40000000 in
theorem seg0 {p : Program} {l : Launch} {e : Env} {R : Room} {s : State} {m : MethodId} {args : Array Value} {below : List Frame} {meth : Method} {c : Code} {T0 : State} {locs : List Loc} {cells slots : Nat} {Z : State} {a0 : Array Value} {h0 : Heap} (p1 : Int32) (p2 : Int32) (r2 : Int32) 
    (X0 : Stand p l e R s m args below meth c T0 locs cells slots) (hx : p.tables.exec = Jvm.exec) (hZ : Z.Warmed39 s.vm) (hw : ∀ d ∈ tables_1, d.before a0 Z = true) (hby : c.code = code) (hml : c.maxLocals = 6) (hown : s.vm.findClass "com/example/truthwright/truthwright/market/processor/KnapsackWidthPinLaw" = some m.cls) (e0 : T0.heap = h0) (k1 : ((p2 &&& (1 : Int32)) = (0 : Int32)) → (p1 < (0 : Int32)) → r2 = p1) (k2 : ((p2 &&& (1 : Int32)) = (0 : Int32)) → ¬ (p1 < (0 : Int32)) → r2 = (p1 % (2147483631 : Int32))) (k3 : ¬ ((p2 &&& (1 : Int32)) = (0 : Int32)) → r2 = ((((p2.toUInt32 >>> ((1 : Int32) &&& 31).toUInt32).toInt32) &&& (63 : Int32)) - (8 : Int32))) {target : State}
    (kt : Steps p.tables e below (T0.setTop (mkF m 33 #[.val (.int p1), .val (.int p2), .val (.int r2), .unset, .unset, .unset] [])) target) : Steps p.tables e below (T0.setTop (mkF m 0 #[.val (.int p1), .val (.int p2), .unset, .unset, .unset, .unset] [])) target := by
  show Steps p.tables e below (T0.setTop (mkF m 0 #[.val (.int p1), .val (.int p2), .unset, .unset, .unset, .unset] [])) _
  refine XS.iloadN X0.here hx rfl (hb hby at_0) rfl ?_
  show Steps p.tables e below (T0.setTop (mkF m 1 #[.val (.int p1), .val (.int p2), .unset, .unset, .unset, .unset] [(.int p2)])) _
  refine XS.iconst X0.here hx rfl (hb hby at_1) ?_
  show Steps p.tables e below (T0.setTop (mkF m 2 #[.val (.int p1), .val (.int p2), .unset, .unset, .unset, .unset] [(.int (1 : Int32)), (.int p2)])) _
  refine XS.iand X0.here hx rfl (hb hby at_2) rfl ?_
  show Steps p.tables e below (T0.setTop (mkF m 3 #[.val (.int p1), .val (.int p2), .unset, .unset, .unset, .unset] [(.int (p2 &&& (1 : Int32)))])) _
  by_cases hc3 : (p2 &&& (1 : Int32)) = (0 : Int32)
  · refine XS.ifYes X0.here hx rfl (pc0 := 3) (pc' := 19) rfl (hb hby at_3) rfl ((if0 _ _).trans (teq hc3).1) (by decide) (by decide) ?_
    show Steps p.tables e below (T0.setTop (mkF m 19 #[.val (.int p1), .val (.int p2), .unset, .unset, .unset, .unset] [])) _
    refine XS.iloadN X0.here hx rfl (hb hby at_19) rfl ?_
    show Steps p.tables e below (T0.setTop (mkF m 20 #[.val (.int p1), .val (.int p2), .unset, .unset, .unset, .unset] [(.int p1)])) _
    by_cases hc20 : p1 < (0 : Int32)
    · refine XS.ifYes X0.here hx rfl (pc0 := 20) (pc' := 31) rfl (hb hby at_20) rfl ((if0 _ _).trans (tlt hc20).1) (by decide) (by decide) ?_
      show Steps p.tables e below (T0.setTop (mkF m 31 #[.val (.int p1), .val (.int p2), .unset, .unset, .unset, .unset] [])) _
      refine XS.iloadN X0.here hx rfl (hb hby at_31) rfl ?_
      show Steps p.tables e below (T0.setTop (mkF m 32 #[.val (.int p1), .val (.int p2), .unset, .unset, .unset, .unset] [(.int p1)])) _
      refine XS.istoreN X0.here hx rfl (hb hby at_32) rfl (l' := #[.val (.int p1), .val (.int p2), .val (.int p1), .unset, .unset, .unset]) rfl ?_
      rw [k1 hc3 hc20] at kt
      exact kt
    · refine XS.ifNo X0.here hx rfl (hb hby at_20) rfl ((if0 _ _).trans (flt hc20).1) ?_
      show Steps p.tables e below (T0.setTop (mkF m 23 #[.val (.int p1), .val (.int p2), .unset, .unset, .unset, .unset] [])) _
      refine XS.iloadN X0.here hx rfl (hb hby at_23) rfl ?_
      show Steps p.tables e below (T0.setTop (mkF m 24 #[.val (.int p1), .val (.int p2), .unset, .unset, .unset, .unset] [(.int p1)])) _
      refine X0.ldcInt hx hown (mvT hZ (hw _ (List.mem_of_getElem? (i := 4) rfl))) (g := (mkF m 24 #[.val (.int p1), .val (.int p2), .unset, .unset, .unset, .unset] [(.int p1)])) rfl (hb hby at_24) _ ?_
      show Steps p.tables e below (T0.setTop (mkF m 26 #[.val (.int p1), .val (.int p2), .unset, .unset, .unset, .unset] [(.int (2147483631 : Int32)), (.int p1)])) _
      refine iremM (g := (mkF m 26 #[.val (.int p1), .val (.int p2), .unset, .unset, .unset, .unset] [(.int (2147483631 : Int32)), (.int p1)])) X0 hx rfl (hb hby at_26) rfl (by decide) ?_
      show Steps p.tables e below (T0.setTop (mkF m 27 #[.val (.int p1), .val (.int p2), .unset, .unset, .unset, .unset] [(.int (p1 % (2147483631 : Int32)))])) _
      refine XS.istoreN X0.here hx rfl (hb hby at_27) rfl (l' := #[.val (.int p1), .val (.int p2), .val (.int (p1 % (2147483631 : Int32))), .unset, .unset, .unset]) rfl ?_
      show Steps p.tables e below (T0.setTop (mkF m 28 #[.val (.int p1), .val (.int p2), .val (.int (p1 % (2147483631 : Int32))), .unset, .unset, .unset] [])) _
      refine XS.goto X0.here hx rfl (pc0 := 28) (pc' := 33) rfl (hb hby at_28) (by decide) (by decide) ?_
      rw [k2 hc3 hc20] at kt
      exact kt
  · refine XS.ifNo X0.here hx rfl (hb hby at_3) rfl ((if0 _ _).trans (feq hc3).1) ?_
    show Steps p.tables e below (T0.setTop (mkF m 6 #[.val (.int p1), .val (.int p2), .unset, .unset, .unset, .unset] [])) _
    refine XS.iloadN X0.here hx rfl (hb hby at_6) rfl ?_
    show Steps p.tables e below (T0.setTop (mkF m 7 #[.val (.int p1), .val (.int p2), .unset, .unset, .unset, .unset] [(.int p2)])) _
    refine XS.iconst X0.here hx rfl (hb hby at_7) ?_
    show Steps p.tables e below (T0.setTop (mkF m 8 #[.val (.int p1), .val (.int p2), .unset, .unset, .unset, .unset] [(.int (1 : Int32)), (.int p2)])) _
    refine XS.iushr X0.here hx rfl (hb hby at_8) rfl ?_
    show Steps p.tables e below (T0.setTop (mkF m 9 #[.val (.int p1), .val (.int p2), .unset, .unset, .unset, .unset] [(.int ((p2.toUInt32 >>> ((1 : Int32) &&& 31).toUInt32).toInt32))])) _
    refine XS.bipush X0.here hx rfl (hb hby at_9) ?_
    show Steps p.tables e below (T0.setTop (mkF m 11 #[.val (.int p1), .val (.int p2), .unset, .unset, .unset, .unset] [(.int (63 : Int32)), (.int ((p2.toUInt32 >>> ((1 : Int32) &&& 31).toUInt32).toInt32))])) _
    refine XS.iand X0.here hx rfl (hb hby at_11) rfl ?_
    show Steps p.tables e below (T0.setTop (mkF m 12 #[.val (.int p1), .val (.int p2), .unset, .unset, .unset, .unset] [(.int (((p2.toUInt32 >>> ((1 : Int32) &&& 31).toUInt32).toInt32) &&& (63 : Int32)))])) _
    refine XS.bipush X0.here hx rfl (hb hby at_12) ?_
    show Steps p.tables e below (T0.setTop (mkF m 14 #[.val (.int p1), .val (.int p2), .unset, .unset, .unset, .unset] [(.int (8 : Int32)), (.int (((p2.toUInt32 >>> ((1 : Int32) &&& 31).toUInt32).toInt32) &&& (63 : Int32)))])) _
    refine XS.isub X0.here hx rfl (hb hby at_14) rfl ?_
    show Steps p.tables e below (T0.setTop (mkF m 15 #[.val (.int p1), .val (.int p2), .unset, .unset, .unset, .unset] [(.int ((((p2.toUInt32 >>> ((1 : Int32) &&& 31).toUInt32).toInt32) &&& (63 : Int32)) - (8 : Int32)))])) _
    refine XS.istoreN X0.here hx rfl (hb hby at_15) rfl (l' := #[.val (.int p1), .val (.int p2), .val (.int ((((p2.toUInt32 >>> ((1 : Int32) &&& 31).toUInt32).toInt32) &&& (63 : Int32)) - (8 : Int32))), .unset, .unset, .unset]) rfl ?_
    show Steps p.tables e below (T0.setTop (mkF m 16 #[.val (.int p1), .val (.int p2), .val (.int ((((p2.toUInt32 >>> ((1 : Int32) &&& 31).toUInt32).toInt32) &&& (63 : Int32)) - (8 : Int32))), .unset, .unset, .unset] [])) _
    refine XS.goto X0.here hx rfl (pc0 := 16) (pc' := 33) rfl (hb hby at_16) (by decide) (by decide) ?_
    rw [k3 hc3] at kt
    exact kt
theorem pn_0 : plainName "com/example/truthwright/truthwright/market/processor/KnapsackWidthPinLaw" = true := by first | (simp [plainName, overriddenIn]; done) | decide +kernel
theorem ef_0 (m : MethodId) (p1 : Int32) (p2 : Int32) : entryFrame m #[(.int p1), (.int p2)] maxLocals = mkF m 0 #[.val (.int p1), .val (.int p2), .unset, .unset, .unset, .unset] [] := by first | (simp [entryFrame, mkF, argsToLocals, Value.category, maxLocals]; done) | rfl
theorem pd_0_0 : parseMethodDescriptor "(I)I" = some ⟨[.int], some .int⟩ := by decide +kernel
def Q0 (h0 : Heap) (n0 : Nat) (v : Option Value) (h : Heap) (L : List Loc) : Prop := v = some (.int (1 : Int32)) ∧ Fr n0 L
set_option maxRecDepth 65536 in
set_option maxHeartbeats 40000000 in
theorem rm0 (l : Launch) (Z : State) (a0 : Array Value) (hw : ∀ d ∈ tables_1, d.before a0 Z = true) (ws : List Jvm.Cond) (p1 : Int32) (p2 : Int32) (h0 : Heap) (n0 : Nat) (Z0 : n0 ≤ h0.size) :
    MetFree l x (head1 (Jvm.Cond.code x code maxLocals ret :: ws) room_1) (fun a U => a = #[(.int p1), (.int p2)] ∧ Z.Warmed39 U.vm ∧ U.heap = h0) (fun _ _ _ _ _ => True) (fun _ U o U' => ∃ v L, o = .returned v ∧ Q0 h0 n0 v U'.heap L ∧ FrameEnd U o U' L room_1.cells room_1.slots) := by
  refine MetFree.of_bodySF (plainFor_of_name pn_0) hisR ?_
  intro p e s m args below meth c s₁ Bd hml0 hP hK
  obtain ⟨rfl, hZ, hh⟩ := hP
  have hx := Bd.exec
  have hby := Bd.bytes
  have hml : c.maxLocals = 6 := hml0
  have hown : s.vm.findClass "com/example/truthwright/truthwright/market/processor/KnapsackWidthPinLaw" = some m.cls := findClass_of_methodNamed Bd.named
  have hnm := (name_of_methodNamed Bd.named Bd.method).1
  have X0 : Stand p l e room_1 s m #[(.int p1), (.int p2)] below meth c s₁ [] 0 0 := Stand.of_body Bd
  have e0 : s₁.heap = h0 := by rw [← hh, Bd.state]; rfl
  have N0 := Fr.nil n0
  have pre0 : ∀ t, Steps p.tables e below (s₁.setTop (mkF m 0 #[.val (.int p1), .val (.int p2), .unset, .unset, .unset, .unset] [])) t → Steps p.tables e below (s₁.setTop (entryFrame m #[(.int p1), (.int p2)] maxLocals)) t := fun t k => castTop (ef_0 m p1 p2) k
  obtain ⟨_, _, ⟨T1, L1, k1, n1⟩, -, X1, ⟨Lc1, hQ1, l1, y1, z1⟩, st1⟩ := Jvm.LawKit.callS X0 hx (y := (⟨"com/example/truthwright/truthwright/market/processor/Knapsack", "width", "(I)I"⟩ : MethodName)) hown (mvT hZ (hw _ (List.mem_of_getElem? (i := 0) rfl))) (mvT hZ (hw _ (List.mem_of_getElem? (i := 1) rfl))) (mvT hZ (hw _ (List.mem_of_getElem? (i := 2) rfl))) (mvT hZ (hw _ (List.mem_of_getElem? (i := 3) rfl))) (by decide) (backOf (W := 0) (rm1 l Z a0 hw [] (own_p p1 p2) (own_w (own_p p1 p2)) h0 n0 Z0 (own_w1 (own_p p1 p2)) (own_w2 (own_p p1 p2))) hZ (hw _ (List.mem_of_getElem? (i := 3) rfl)) (hw _ (List.mem_of_getElem? (i := 2) rfl)) (by decide) (by decide)) (g := (mkF m 34 #[.val (.int p1), .val (.int p2), .val (.int (own_p p1 p2)), .unset, .unset, .unset] [(.int (own_p p1 p2))])) rfl (by rw [hml]; rfl) (argsL := [(.int (own_p p1 p2))]) (rest := []) (lenOf pd_0_0 rfl) rfl (by show 2 * 0 + _ ≤ _; exact Nat.le_of_eq rfl) (hb hby at_34) (fun _ _ => ⟨rfl, e0, (by decide : 0 + 0 ≤ _), (by decide : 0 + 0 ≤ _)⟩)
  dsimp only [Pt.U, Pt.locs, Pt.cells, Pt.slots] at X1 l1 y1 z1 st1 hQ1
  subst l1 y1 z1
  obtain ⟨rfl, N1q, e1⟩ := hQ1
  have N1 := Fr.app N0 N1q
  obtain ⟨fs, hr, hrun, hended, hW, hsame⟩ := X1.leave (v := some (.int (1 : Int32))) (fun h => by rw [Bd.returns] at h; cases h)
  refine ⟨_, _, pre0 _ ?_, hrun, hended, _, _, rfl, ?_, ⟨_, rfl⟩, hW, hsame.mono (by decide) (by decide)⟩
  · show Steps p.tables e below (s₁.setTop (mkF m 0 #[.val (.int p1), .val (.int p2), .unset, .unset, .unset, .unset] [])) _
    refine seg0 (p1 := p1) (p2 := p2) (r2 := (own_p p1 p2)) X0 hx hZ hw hby hml hown e0 (own_p1 p1 p2) (own_p2 p1 p2) (own_p3 p1 p2) ?_
    show Steps p.tables e below (s₁.setTop (mkF m 33 #[.val (.int p1), .val (.int p2), .val (.int (own_p p1 p2)), .unset, .unset, .unset] [])) _
    refine XS.iloadN X0.here hx rfl (hb hby at_33) rfl ?_
    show Steps p.tables e below (s₁.setTop (mkF m 34 #[.val (.int p1), .val (.int p2), .val (.int (own_p p1 p2)), .unset, .unset, .unset] [(.int (own_p p1 p2))])) _
    refine st1 _ ?_
    show Steps p.tables e below (T1.setTop (mkF m 37 #[.val (.int p1), .val (.int p2), .val (.int (own_p p1 p2)), .unset, .unset, .unset] [(.int (own_w (own_p p1 p2)))])) _
    refine XS.istoreN X1.here hx rfl (hb hby at_37) rfl (l' := #[.val (.int p1), .val (.int p2), .val (.int (own_p p1 p2)), .val (.int (own_w (own_p p1 p2))), .unset, .unset]) rfl ?_
    show Steps p.tables e below (T1.setTop (mkF m 38 #[.val (.int p1), .val (.int p2), .val (.int (own_p p1 p2)), .val (.int (own_w (own_p p1 p2))), .unset, .unset] [])) _
    refine XS.iloadN X1.here hx rfl (hb hby at_38) rfl ?_
    show Steps p.tables e below (T1.setTop (mkF m 39 #[.val (.int p1), .val (.int p2), .val (.int (own_p p1 p2)), .val (.int (own_w (own_p p1 p2))), .unset, .unset] [(.int (own_p p1 p2))])) _
    refine XS.bipush X1.here hx rfl (hb hby at_39) ?_
    show Steps p.tables e below (T1.setTop (mkF m 41 #[.val (.int p1), .val (.int p2), .val (.int (own_p p1 p2)), .val (.int (own_w (own_p p1 p2))), .unset, .unset] [(.int (18 : Int32)), (.int (own_p p1 p2))])) _
    by_cases hc41 : (18 : Int32) < (own_p p1 p2)
    · refine XS.icmpYes X1.here hx rfl (pc0 := 41) (pc' := 55) rfl (hb hby at_41) rfl (tlt hc41).2.2.1 (by decide) (by decide) ?_
      show Steps p.tables e below (T1.setTop (mkF m 55 #[.val (.int p1), .val (.int p2), .val (.int (own_p p1 p2)), .val (.int (own_w (own_p p1 p2))), .unset, .unset] [])) _
      refine XS.iloadN X1.here hx rfl (hb hby at_55) rfl ?_
      show Steps p.tables e below (T1.setTop (mkF m 56 #[.val (.int p1), .val (.int p2), .val (.int (own_p p1 p2)), .val (.int (own_w (own_p p1 p2))), .unset, .unset] [(.int (own_w (own_p p1 p2)))])) _
      refine XS.i2l X1.here hx rfl (hb hby at_56) rfl ?_
      show Steps p.tables e below (T1.setTop (mkF m 57 #[.val (.int p1), .val (.int p2), .val (.int (own_p p1 p2)), .val (.int (own_w (own_p p1 p2))), .unset, .unset] [(.long ((own_w (own_p p1 p2)).toInt64))])) _
      refine X1.ldc2Long hx hown (mvT hZ (hw _ (List.mem_of_getElem? (i := 5) rfl))) (g := (mkF m 57 #[.val (.int p1), .val (.int p2), .val (.int (own_p p1 p2)), .val (.int (own_w (own_p p1 p2))), .unset, .unset] [(.long ((own_w (own_p p1 p2)).toInt64))])) rfl (hb hby at_57) _ ?_
      show Steps p.tables e below (T1.setTop (mkF m 60 #[.val (.int p1), .val (.int p2), .val (.int (own_p p1 p2)), .val (.int (own_w (own_p p1 p2))), .unset, .unset] [(.long (8 : Int64)), (.long ((own_w (own_p p1 p2)).toInt64))])) _
      refine XS.lsub X1.here hx rfl (hb hby at_60) rfl ?_
      show Steps p.tables e below (T1.setTop (mkF m 61 #[.val (.int p1), .val (.int p2), .val (.int (own_p p1 p2)), .val (.int (own_w (own_p p1 p2))), .unset, .unset] [(.long (((own_w (own_p p1 p2)).toInt64) - (8 : Int64)))])) _
      refine XS.lstore X1.here hx rfl (hb hby at_61) rfl (l' := #[.val (.int p1), .val (.int p2), .val (.int (own_p p1 p2)), .val (.int (own_w (own_p p1 p2))), .val (.long (((own_w (own_p p1 p2)).toInt64) - (8 : Int64))), .second]) rfl ?_
      show Steps p.tables e below (T1.setTop (mkF m 63 #[.val (.int p1), .val (.int p2), .val (.int (own_p p1 p2)), .val (.int (own_w (own_p p1 p2))), .val (.long (((own_w (own_p p1 p2)).toInt64) - (8 : Int64))), .second] [])) _
      refine XS.lload X1.here hx rfl (hb hby at_63) rfl ?_
      show Steps p.tables e below (T1.setTop (mkF m 65 #[.val (.int p1), .val (.int p2), .val (.int (own_p p1 p2)), .val (.int (own_w (own_p p1 p2))), .val (.long (((own_w (own_p p1 p2)).toInt64) - (8 : Int64))), .second] [(.long (((own_w (own_p p1 p2)).toInt64) - (8 : Int64)))])) _
      refine XS.lconst X1.here hx rfl (hb hby at_65) ?_
      show Steps p.tables e below (T1.setTop (mkF m 66 #[.val (.int p1), .val (.int p2), .val (.int (own_p p1 p2)), .val (.int (own_w (own_p p1 p2))), .val (.long (((own_w (own_p p1 p2)).toInt64) - (8 : Int64))), .second] [(.long (1 : Int64)), (.long (((own_w (own_p p1 p2)).toInt64) - (8 : Int64)))])) _
      refine XS.lcmp X1.here hx rfl (hb hby at_66) rfl ?_
      show Steps p.tables e below (T1.setTop (mkF m 67 #[.val (.int p1), .val (.int p2), .val (.int (own_p p1 p2)), .val (.int (own_w (own_p p1 p2))), .val (.long (((own_w (own_p p1 p2)).toInt64) - (8 : Int64))), .second] [(.int (lcmpW (((own_w (own_p p1 p2)).toInt64) - (8 : Int64)) (1 : Int64)))])) _
      refine XS.ifNo X1.here hx rfl (hb hby at_67) rfl ((if0 _ _).trans (flt (mt (lw_lt (((own_w (own_p p1 p2)).toInt64) - (8 : Int64)) (1 : Int64)).mp (own_t1 _ hc41 (own_pb p1 p2)))).1) ?_
      show Steps p.tables e below (T1.setTop (mkF m 70 #[.val (.int p1), .val (.int p2), .val (.int (own_p p1 p2)), .val (.int (own_w (own_p p1 p2))), .val (.long (((own_w (own_p p1 p2)).toInt64) - (8 : Int64))), .second] [])) _
      refine X1.ldc2Long hx hown (mvT hZ (hw _ (List.mem_of_getElem? (i := 6) rfl))) (g := (mkF m 70 #[.val (.int p1), .val (.int p2), .val (.int (own_p p1 p2)), .val (.int (own_w (own_p p1 p2))), .val (.long (((own_w (own_p p1 p2)).toInt64) - (8 : Int64))), .second] [])) rfl (hb hby at_70) _ ?_
      show Steps p.tables e below (T1.setTop (mkF m 73 #[.val (.int p1), .val (.int p2), .val (.int (own_p p1 p2)), .val (.int (own_w (own_p p1 p2))), .val (.long (((own_w (own_p p1 p2)).toInt64) - (8 : Int64))), .second] [(.long (18 : Int64))])) _
      refine XS.lload X1.here hx rfl (hb hby at_73) rfl ?_
      show Steps p.tables e below (T1.setTop (mkF m 75 #[.val (.int p1), .val (.int p2), .val (.int (own_p p1 p2)), .val (.int (own_w (own_p p1 p2))), .val (.long (((own_w (own_p p1 p2)).toInt64) - (8 : Int64))), .second] [(.long (((own_w (own_p p1 p2)).toInt64) - (8 : Int64))), (.long (18 : Int64))])) _
      refine XS.lconst X1.here hx rfl (hb hby at_75) ?_
      show Steps p.tables e below (T1.setTop (mkF m 76 #[.val (.int p1), .val (.int p2), .val (.int (own_p p1 p2)), .val (.int (own_w (own_p p1 p2))), .val (.long (((own_w (own_p p1 p2)).toInt64) - (8 : Int64))), .second] [(.long (1 : Int64)), (.long (((own_w (own_p p1 p2)).toInt64) - (8 : Int64))), (.long (18 : Int64))])) _
      refine XS.lsub X1.here hx rfl (hb hby at_76) rfl ?_
      show Steps p.tables e below (T1.setTop (mkF m 77 #[.val (.int p1), .val (.int p2), .val (.int (own_p p1 p2)), .val (.int (own_w (own_p p1 p2))), .val (.long (((own_w (own_p p1 p2)).toInt64) - (8 : Int64))), .second] [(.long ((((own_w (own_p p1 p2)).toInt64) - (8 : Int64)) - (1 : Int64))), (.long (18 : Int64))])) _
      refine XS.lmul X1.here hx rfl (hb hby at_77) rfl ?_
      show Steps p.tables e below (T1.setTop (mkF m 78 #[.val (.int p1), .val (.int p2), .val (.int (own_p p1 p2)), .val (.int (own_w (own_p p1 p2))), .val (.long (((own_w (own_p p1 p2)).toInt64) - (8 : Int64))), .second] [(.long ((18 : Int64) * ((((own_w (own_p p1 p2)).toInt64) - (8 : Int64)) - (1 : Int64))))])) _
      refine XS.iloadN X1.here hx rfl (hb hby at_78) rfl ?_
      show Steps p.tables e below (T1.setTop (mkF m 79 #[.val (.int p1), .val (.int p2), .val (.int (own_p p1 p2)), .val (.int (own_w (own_p p1 p2))), .val (.long (((own_w (own_p p1 p2)).toInt64) - (8 : Int64))), .second] [(.int (own_p p1 p2)), (.long ((18 : Int64) * ((((own_w (own_p p1 p2)).toInt64) - (8 : Int64)) - (1 : Int64))))])) _
      refine XS.i2l X1.here hx rfl (hb hby at_79) rfl ?_
      show Steps p.tables e below (T1.setTop (mkF m 80 #[.val (.int p1), .val (.int p2), .val (.int (own_p p1 p2)), .val (.int (own_w (own_p p1 p2))), .val (.long (((own_w (own_p p1 p2)).toInt64) - (8 : Int64))), .second] [(.long ((own_p p1 p2).toInt64)), (.long ((18 : Int64) * ((((own_w (own_p p1 p2)).toInt64) - (8 : Int64)) - (1 : Int64))))])) _
      refine XS.lcmp X1.here hx rfl (hb hby at_80) rfl ?_
      show Steps p.tables e below (T1.setTop (mkF m 81 #[.val (.int p1), .val (.int p2), .val (.int (own_p p1 p2)), .val (.int (own_w (own_p p1 p2))), .val (.long (((own_w (own_p p1 p2)).toInt64) - (8 : Int64))), .second] [(.int (lcmpW ((18 : Int64) * ((((own_w (own_p p1 p2)).toInt64) - (8 : Int64)) - (1 : Int64))) ((own_p p1 p2).toInt64)))])) _
      refine XS.ifNo X1.here hx rfl (hb hby at_81) rfl ((if0 _ _).trans (tlt ((lw_lt ((18 : Int64) * ((((own_w (own_p p1 p2)).toInt64) - (8 : Int64)) - (1 : Int64))) ((own_p p1 p2).toInt64)).mpr (own_t2 _ hc41 (own_pb p1 p2)))).2.1) ?_
      show Steps p.tables e below (T1.setTop (mkF m 84 #[.val (.int p1), .val (.int p2), .val (.int (own_p p1 p2)), .val (.int (own_w (own_p p1 p2))), .val (.long (((own_w (own_p p1 p2)).toInt64) - (8 : Int64))), .second] [])) _
      refine XS.iloadN X1.here hx rfl (hb hby at_84) rfl ?_
      show Steps p.tables e below (T1.setTop (mkF m 85 #[.val (.int p1), .val (.int p2), .val (.int (own_p p1 p2)), .val (.int (own_w (own_p p1 p2))), .val (.long (((own_w (own_p p1 p2)).toInt64) - (8 : Int64))), .second] [(.int (own_p p1 p2))])) _
      refine XS.i2l X1.here hx rfl (hb hby at_85) rfl ?_
      show Steps p.tables e below (T1.setTop (mkF m 86 #[.val (.int p1), .val (.int p2), .val (.int (own_p p1 p2)), .val (.int (own_w (own_p p1 p2))), .val (.long (((own_w (own_p p1 p2)).toInt64) - (8 : Int64))), .second] [(.long ((own_p p1 p2).toInt64))])) _
      refine X1.ldc2Long hx hown (mvT hZ (hw _ (List.mem_of_getElem? (i := 6) rfl))) (g := (mkF m 86 #[.val (.int p1), .val (.int p2), .val (.int (own_p p1 p2)), .val (.int (own_w (own_p p1 p2))), .val (.long (((own_w (own_p p1 p2)).toInt64) - (8 : Int64))), .second] [(.long ((own_p p1 p2).toInt64))])) rfl (hb hby at_86) _ ?_
      show Steps p.tables e below (T1.setTop (mkF m 89 #[.val (.int p1), .val (.int p2), .val (.int (own_p p1 p2)), .val (.int (own_w (own_p p1 p2))), .val (.long (((own_w (own_p p1 p2)).toInt64) - (8 : Int64))), .second] [(.long (18 : Int64)), (.long ((own_p p1 p2).toInt64))])) _
      refine XS.lload X1.here hx rfl (hb hby at_89) rfl ?_
      show Steps p.tables e below (T1.setTop (mkF m 91 #[.val (.int p1), .val (.int p2), .val (.int (own_p p1 p2)), .val (.int (own_w (own_p p1 p2))), .val (.long (((own_w (own_p p1 p2)).toInt64) - (8 : Int64))), .second] [(.long (((own_w (own_p p1 p2)).toInt64) - (8 : Int64))), (.long (18 : Int64)), (.long ((own_p p1 p2).toInt64))])) _
      refine XS.lmul X1.here hx rfl (hb hby at_91) rfl ?_
      show Steps p.tables e below (T1.setTop (mkF m 92 #[.val (.int p1), .val (.int p2), .val (.int (own_p p1 p2)), .val (.int (own_w (own_p p1 p2))), .val (.long (((own_w (own_p p1 p2)).toInt64) - (8 : Int64))), .second] [(.long ((18 : Int64) * (((own_w (own_p p1 p2)).toInt64) - (8 : Int64)))), (.long ((own_p p1 p2).toInt64))])) _
      refine XS.lcmp X1.here hx rfl (hb hby at_92) rfl ?_
      show Steps p.tables e below (T1.setTop (mkF m 93 #[.val (.int p1), .val (.int p2), .val (.int (own_p p1 p2)), .val (.int (own_w (own_p p1 p2))), .val (.long (((own_w (own_p p1 p2)).toInt64) - (8 : Int64))), .second] [(.int (lcmpW ((own_p p1 p2).toInt64) ((18 : Int64) * (((own_w (own_p p1 p2)).toInt64) - (8 : Int64)))))])) _
      refine XS.ifNo X1.here hx rfl (hb hby at_93) rfl ((if0 _ _).trans (flt (mt (lw_gt ((own_p p1 p2).toInt64) ((18 : Int64) * (((own_w (own_p p1 p2)).toInt64) - (8 : Int64)))).mp (own_t3 _ hc41 (own_pb p1 p2)))).2.2.1) ?_
      show Steps p.tables e below (T1.setTop (mkF m 96 #[.val (.int p1), .val (.int p2), .val (.int (own_p p1 p2)), .val (.int (own_w (own_p p1 p2))), .val (.long (((own_w (own_p p1 p2)).toInt64) - (8 : Int64))), .second] [])) _
      refine XS.iconst X1.here hx rfl (hb hby at_96) ?_
      show Steps p.tables e below (T1.setTop (mkF m 97 #[.val (.int p1), .val (.int p2), .val (.int (own_p p1 p2)), .val (.int (own_w (own_p p1 p2))), .val (.long (((own_w (own_p p1 p2)).toInt64) - (8 : Int64))), .second] [(.int (1 : Int32))])) _
      refine XS.goto X1.here hx rfl (pc0 := 97) (pc' := 101) rfl (hb hby at_97) (by decide) (by decide) ?_
      show Steps p.tables e below (T1.setTop (mkF m 101 #[.val (.int p1), .val (.int p2), .val (.int (own_p p1 p2)), .val (.int (own_w (own_p p1 p2))), .val (.long (((own_w (own_p p1 p2)).toInt64) - (8 : Int64))), .second] [(.int (1 : Int32))])) _
      exact retN X1 hx (t := .boolean) Bd.returns (by simp) (hb hby at_101) hr
    · refine XS.icmpNo X1.here hx rfl (hb hby at_41) rfl (flt hc41).2.2.1 ?_
      show Steps p.tables e below (T1.setTop (mkF m 44 #[.val (.int p1), .val (.int p2), .val (.int (own_p p1 p2)), .val (.int (own_w (own_p p1 p2))), .unset, .unset] [])) _
      refine XS.iloadN X1.here hx rfl (hb hby at_44) rfl ?_
      show Steps p.tables e below (T1.setTop (mkF m 45 #[.val (.int p1), .val (.int p2), .val (.int (own_p p1 p2)), .val (.int (own_w (own_p p1 p2))), .unset, .unset] [(.int (own_w (own_p p1 p2)))])) _
      refine XS.iconst X1.here hx rfl (hb hby at_45) ?_
      show Steps p.tables e below (T1.setTop (mkF m 46 #[.val (.int p1), .val (.int p2), .val (.int (own_p p1 p2)), .val (.int (own_w (own_p p1 p2))), .unset, .unset] [(.int (1 : Int32)), (.int (own_w (own_p p1 p2)))])) _
      refine XS.icmpNo X1.here hx rfl (hb hby at_46) rfl (teq (own_w2 _ hc41)).2 ?_
      show Steps p.tables e below (T1.setTop (mkF m 49 #[.val (.int p1), .val (.int p2), .val (.int (own_p p1 p2)), .val (.int (own_w (own_p p1 p2))), .unset, .unset] [])) _
      refine XS.iconst X1.here hx rfl (hb hby at_49) ?_
      show Steps p.tables e below (T1.setTop (mkF m 50 #[.val (.int p1), .val (.int p2), .val (.int (own_p p1 p2)), .val (.int (own_w (own_p p1 p2))), .unset, .unset] [(.int (1 : Int32))])) _
      refine XS.goto X1.here hx rfl (pc0 := 50) (pc' := 54) rfl (hb hby at_50) (by decide) (by decide) ?_
      show Steps p.tables e below (T1.setTop (mkF m 54 #[.val (.int p1), .val (.int p2), .val (.int (own_p p1 p2)), .val (.int (own_w (own_p p1 p2))), .unset, .unset] [(.int (1 : Int32))])) _
      exact retN X1 hx (t := .boolean) Bd.returns (by simp) (hb hby at_54) hr
  · show Q0 h0 n0 _ T1.heap _
    exact ⟨rfl, N1⟩
set_option maxRecDepth 65536 in
set_option maxHeartbeats 40000000 in
theorem comes_1 {Post : Tables → Env → Array Value → State → Outcome → State → Prop} (hpost : ∀ tb e args s v u, (limb_1_1.after args s (.returned v) u = true ∧ limb_1_2.after args s (.returned v) u = true ∧ True) → FrameEnd s (.returned v) u (Jvm.fieldLocs frame_1_writes args s ++ Jvm.arrayLocs frame_1_arrays args s ++ Jvm.staticLocs frame_1_statics s) 0 0 → Post tb e args s (.returned v) u) :
    ArmFor flags0 classFile x code maxLocals ret World_1 tables_1 room_1 Calls_1 rest_1 Pre_1 Post := by
  intro l hfl _ _ p e ha hc hk s m args below hf hA hF happ hP
  obtain ⟨hcalls, hrest, hpre⟩ := hP
  obtain ⟨-, -, -, hnamed, -, -, -, hat⟩ := (Spec.applies_iff hf).mp happ
  obtain ⟨hg, hn⟩ := and_e (Cond.before_iff.mp (show (Jvm.Cond.and given_1 narrow_1).before args s = true from hpre))
  obtain ⟨ga0, gb0⟩ := and_e hg
  obtain ⟨ga1, gb1⟩ := and_e gb0
  obtain ⟨w0, w1, rfl⟩ : ∃ w0 w1 : Value, args = #[w0, w1] := by
    have hs : args.size = 2 := by simpa [Cond.value, given_1] using ga0
    obtain ⟨L⟩ := args
    match L, hs with
    | [w0, w1], _ => exact ⟨w0, w1, rfl⟩
  have hw := fun d (hd : d ∈ tables_1) => atoms_spec (ws := Jvm.Cond.code x code maxLocals ret :: tables_1) hat d (List.mem_cons_of_mem _ hd)
  obtain ⟨i0, ei0⟩ := is_v ga1
  obtain rfl : w0 = (.int i0) := Option.some.inj ei0
  obtain ⟨i1, ei1⟩ := is_v gb1
  obtain rfl : w1 = (.int i1) := Option.some.inj ei1
  obtain ⟨n, o, h1, h2, h3, _, L, rfl, ⟨rfl, N⟩, hq⟩ := rm0 l s _ hw tables_1 i0 i1 s.heap s.heap.size (Nat.le_refl _) p e ha hc hk s m _ below hf ((Spec.applies_iff_loose hf).mp happ).1 ⟨rfl, State.Warmed39.refl s, rfl⟩ trivial
  refine ⟨n, _, h1, h2, h3, hpost _ _ _ _ _ _ ⟨Cond.after_iff.mpr rfl, Cond.after_iff.mpr (eq_i res_at (Term.int_eval (1)) rfl), trivial⟩ ⟨hq.1, hq.2.1, (hq.2.2.sift fun y hy => Or.inr (N y hy)).mono (by decide) (by decide)⟩⟩
theorem main_1_1 : Claimed_1_1 := comes_1 fun _ _ _ _ _ _ h hF => ⟨h.1, hF⟩
theorem main_1_2 : Claimed_1_2 := comes_1 fun _ _ _ _ _ _ h hF => ⟨h.2.1, hF⟩
end Jvm.Pilot.@@N@@
namespace Jvm.Pilot.@@N@@
open Jvm Jvm.ClassFile Sem Op Lib Jvm.Free Jvm.Stand Jvm.Pilot.@@N@@.Jvm.D
/-! MADE BY PROGRAM (witnessworld.py) out of the Statement's table words and the real class files: 9 classes; the members and pool entries that the words name. The judged class is class 1, her method 1. -/
namespace start1
open Jvm.ClassFile
def u (s : String) : CpInfo := .utf8 (stringToUtf16 s)
/-- a pool by its gaps: so many unusable entries, then the entry; so many at the end -/
def gap : Nat → List CpInfo → List CpInfo
  | 0, r => r
  | n + 1, r => .unusable :: gap n r
def poolList (es : List (Nat × CpInfo)) (last : Nat) : List CpInfo := es.foldr (fun e r => gap e.1 (e.2 :: r)) (gap last [])
def pool (es : List (Nat × CpInfo)) (last : Nat) : Array CpInfo := ⟨poolList es last⟩
def fileOf (pool : Array CpInfo) (this : Nat) (attrs : Array Attribute := #[]) (ms : Array MethodInfo := #[]) (fl : Nat := 33) (sup : Nat := 0) (ifs : Array Nat := #[]) (fds : Array FieldInfo := #[]) : ClassFile where
  minorVersion := 0
  majorVersion := 65
  constantPool := pool
  accessFlags := fl
  thisClass := this
  superClass := sup
  interfaces := ifs
  fields := fds
  methods := ms
  attributes := attrs
def plain (name : String) (sup : Option ClassId) : Class where
  name := name
  kind := .ordinary
  loader := none
  accessFlags := 33
  super := sup
  interfaces := #[]
  cf := none
  fields := #[]
  methods := #[]
  instanceTypes := #[]
  staticTypes := #[]
  resolved := #[]
  callSites := []
  init := .initialized
  statics := none
  mirror := none

def pool0 : Array CpInfo := pool [(5, u "<init>"), (0, u "()V"), (1, .class_ 10), (1, u "java/lang/Object")] 113

def k0m0 : Method := { name := "<init>", desc := "()V", sig := { parameters := [], returnType := none }, accessFlags := 1, code := none }
/-- java/lang/Object -/
def k0 : Class := { plain "java/lang/Object" none with
  accessFlags := 33
  interfaces := #[]
  cf := some (fileOf pool0 8 #[] #[{ accessFlags := 1, nameIndex := 5, descriptorIndex := 6, attributes := #[] }] 33 0 #[] #[])
  fields := #[]
  methods := #[k0m0]
  instanceTypes := #[]
  staticTypes := #[]
  resolved := Array.replicate 124 none
  statics := none }

def pool1 : Array CpInfo := pool [(2, .class_ 4), (1, u "java/lang/Object"), (0, u "<init>"), (0, u "()V"), (2, .integer 2147483631), (0, .methodref 11 12), (0, .class_ 13), (0, .nameAndType 14 15), (0, u "com/example/truthwright/truthwright/market/processor/Knapsack"), (0, u "width"), (0, u "(I)I"), (0, .long 8), (1, .long 18), (1, .class_ 21), (0, u "com/example/truthwright/truthwright/market/processor/KnapsackWidthPinLaw"), (2, u "law"), (0, u "(II)Z")] 3

def k1m0 : Method := { name := "<init>", desc := "()V", sig := { parameters := [], returnType := none }, accessFlags := 1, code := none }
def k1c1 : Code := { maxStack := 6, maxLocals := 6, code := code, exceptionTable := #[], attributes := #[] }
def k1m1 : Method := { name := "law", desc := "(II)Z", sig := { parameters := [.int, .int], returnType := some .boolean }, accessFlags := 9, code := some k1c1 }
/-- com/example/truthwright/truthwright/market/processor/KnapsackWidthPinLaw -/
def k1 : Class := { plain "com/example/truthwright/truthwright/market/processor/KnapsackWidthPinLaw" (some 0) with
  accessFlags := 49
  interfaces := #[]
  cf := some (fileOf pool1 20 #[] #[{ accessFlags := 1, nameIndex := 5, descriptorIndex := 6, attributes := #[] }, { accessFlags := 9, nameIndex := 24, descriptorIndex := 25, attributes := #[] }] 49 2 #[] #[])
  fields := #[]
  methods := #[k1m0, k1m1]
  instanceTypes := #[]
  staticTypes := #[]
  resolved := Array.replicate 29 none
  statics := none }

def pool2 : Array CpInfo := pool [(2, .class_ 4), (1, u "com/example/truthwright/truthwright/market/processor/Knapsack"), (3, .class_ 10), (1, u "java/lang/Object"), (9, u "agents"), (0, u "I"), (41, u "candidates"), (0, u "[I"), (2, u "values"), (26, u "loads"), (0, u "[Ljava/math/BigInteger;"), (11, u "Ljava/math/BigDecimal;"), (2, u "capacity"), (0, u "Ljava/math/BigInteger;"), (2, u "width"), (0, u "(I)I"), (2, u "longs"), (0, u "Z"), (14, u "table"), (0, u "Lcom/example/truthwright/truthwright/market/processor/Knapsack$Table;"), (6, u "lowered"), (0, u "[J"), (1, .class_ 147), (1, u "com/example/truthwright/truthwright/market/processor/Knapsack$Table"), (7, u "optimum"), (6, u "chosen"), (0, u "[Z"), (2, u "chosenBefore"), (70, .class_ 238), (0, u "com/example/truthwright/truthwright/market/processor/Knapsack$LongTable"), (3, .class_ 243), (0, u "com/example/truthwright/truthwright/market/processor/Knapsack$BigTable"), (8, u "LARGEST_TOTAL"), (4, u "LARGEST_CELLS"), (0, u "LONG_PLACES"), (2, u "BIG_OVERHEAD"), (24, .class_ 287), (0, u "com/example/truthwright/truthwright/market/processor/Knapsack$Open")] 34

def k2c0 : Code := { maxStack := 3, maxLocals := 2, code := prog_32_method_4_code, exceptionTable := #[], attributes := #[] }
def k2m0 : Method := { name := "width", desc := "(I)I", sig := { parameters := [.int], returnType := some .int }, accessFlags := 8, code := some k2c0 }
/-- com/example/truthwright/truthwright/market/processor/Knapsack -/
def k2 : Class := { plain "com/example/truthwright/truthwright/market/processor/Knapsack" (some 0) with
  accessFlags := 48
  interfaces := #[]
  cf := some (fileOf pool2 2 #[.nestMembers #[242, 237, 145, 286]] #[{ accessFlags := 8, nameIndex := 114, descriptorIndex := 115, attributes := #[] }] 48 8 #[] #[{ accessFlags := 26, nameIndex := 258, descriptorIndex := 21, attributes := #[] }, { accessFlags := 26, nameIndex := 261, descriptorIndex := 21, attributes := #[] }, { accessFlags := 24, nameIndex := 252, descriptorIndex := 107, attributes := #[] }, { accessFlags := 24, nameIndex := 257, descriptorIndex := 107, attributes := #[] }, { accessFlags := 18, nameIndex := 63, descriptorIndex := 64, attributes := #[] }, { accessFlags := 18, nameIndex := 67, descriptorIndex := 64, attributes := #[] }, { accessFlags := 18, nameIndex := 94, descriptorIndex := 95, attributes := #[] }, { accessFlags := 18, nameIndex := 110, descriptorIndex := 111, attributes := #[] }, { accessFlags := 18, nameIndex := 118, descriptorIndex := 119, attributes := #[] }, { accessFlags := 18, nameIndex := 20, descriptorIndex := 21, attributes := #[] }, { accessFlags := 18, nameIndex := 134, descriptorIndex := 135, attributes := #[] }, { accessFlags := 18, nameIndex := 142, descriptorIndex := 143, attributes := #[] }, { accessFlags := 18, nameIndex := 162, descriptorIndex := 163, attributes := #[] }, { accessFlags := 18, nameIndex := 166, descriptorIndex := 64, attributes := #[] }, { accessFlags := 18, nameIndex := 155, descriptorIndex := 21, attributes := #[] }])
  fields := #[{ name := "LONG_PLACES", type := .int, accessFlags := 26, slot := 0, constantValue := 0 }, { name := "BIG_OVERHEAD", type := .int, accessFlags := 26, slot := 1, constantValue := 0 }, { name := "LARGEST_TOTAL", type := (.object "java/math/BigDecimal"), accessFlags := 24, slot := 2, constantValue := 0 }, { name := "LARGEST_CELLS", type := (.object "java/math/BigDecimal"), accessFlags := 24, slot := 3, constantValue := 0 }, { name := "candidates", type := (.array .int), accessFlags := 18, slot := 0, constantValue := 0 }, { name := "values", type := (.array .int), accessFlags := 18, slot := 1, constantValue := 0 }, { name := "loads", type := (.array (.object "java/math/BigInteger")), accessFlags := 18, slot := 2, constantValue := 0 }, { name := "capacity", type := (.object "java/math/BigInteger"), accessFlags := 18, slot := 3, constantValue := 0 }, { name := "longs", type := .boolean, accessFlags := 18, slot := 4, constantValue := 0 }, { name := "agents", type := .int, accessFlags := 18, slot := 5, constantValue := 0 }, { name := "table", type := (.object "com/example/truthwright/truthwright/market/processor/Knapsack$Table"), accessFlags := 18, slot := 6, constantValue := 0 }, { name := "lowered", type := (.array .long), accessFlags := 18, slot := 7, constantValue := 0 }, { name := "chosen", type := (.array .boolean), accessFlags := 18, slot := 8, constantValue := 0 }, { name := "chosenBefore", type := (.array .int), accessFlags := 18, slot := 9, constantValue := 0 }, { name := "optimum", type := .int, accessFlags := 18, slot := 10, constantValue := 0 }]
  methods := #[k2m0]
  instanceTypes := #[(.array .int), (.array .int), (.array (.object "java/math/BigInteger")), (.object "java/math/BigInteger"), .boolean, .int, (.object "com/example/truthwright/truthwright/market/processor/Knapsack$Table"), (.array .long), (.array .boolean), (.array .int), .int]
  staticTypes := #[.int, .int, (.object "java/math/BigDecimal"), (.object "java/math/BigDecimal")]
  resolved := Array.replicate 322 none
  statics := none }

def pool3 : Array CpInfo := pool [(1, u "java/lang/Cloneable"), (0, .class_ 1), (0, u "java/lang/Object"), (0, .class_ 3)] 3

/-- java/lang/Cloneable -/
def k3 : Class := { plain "java/lang/Cloneable" (some 0) with
  accessFlags := 1537
  interfaces := #[]
  cf := some (fileOf pool3 2 #[] #[] 1537 4 #[] #[])
  fields := #[]
  methods := #[]
  instanceTypes := #[]
  staticTypes := #[]
  resolved := Array.replicate 8 none
  statics := none }

def pool4 : Array CpInfo := pool [(1, u "java/io/Serializable"), (0, .class_ 1), (0, u "java/lang/Object"), (0, .class_ 3)] 3

/-- java/io/Serializable -/
def k4 : Class := { plain "java/io/Serializable" (some 0) with
  accessFlags := 1537
  interfaces := #[]
  cf := some (fileOf pool4 2 #[] #[] 1537 4 #[] #[])
  fields := #[]
  methods := #[]
  instanceTypes := #[]
  staticTypes := #[]
  resolved := Array.replicate 8 none
  statics := none }

/-- the primitive byte -/
def k5 : Class := { plain "byte" none with kind := .primitive 'B', accessFlags := 0x411 }
/-- [B -/
def k6 : Class := { plain "[B" (some 0) with kind := .array 5 .byte, interfaces := #[3, 4], accessFlags := 1041 }

/-- the primitive int -/
def k7 : Class := { plain "int" none with kind := .primitive 'I', accessFlags := 0x411 }
/-- [I -/
def k8 : Class := { plain "[I" (some 0) with kind := .array 7 .int, interfaces := #[3, 4], accessFlags := 1041 }

def heap : Heap := #[]
def classes : Array Class := #[k0, k1, k2, k3, k4, k5, k6, k7, k8]
def interned : List (Array UInt16 × Addr) := []
def slotsUsed : Nat := 0
def theMethod : MethodId := ⟨1, 1⟩
def args0 : Array Value := #[.int 7, .int 4]
def aboutOver (below : List Frame) : State where
  vm := { classes := classes, interned := interned.toArray }
  heap := heap
  slotsUsed := slotsUsed
  threads := #[{ frames := .invoking theMethod args0 :: below }]
def below0 : List Frame := [.native { method := ⟨0, 0⟩, args := #[] }]
def about1 : State := aboutOver below0
def p0 : Program := .bare "" "" ""
def e0 : Env := launch0.env 0 0 0
theorem w_frames : about1.frames = Frame.invoking theMethod args0 :: below0 := rfl
set_option maxRecDepth 65536 in
theorem w_args : argsFit about1.vm theMethod args0 = true := by decide +kernel
set_option maxRecDepth 65536 in
theorem w_heap : heapFits about1 = true := by decide +kernel
set_option maxRecDepth 65536 in
theorem w_runnable : about1.curStatus? = some .runnable := by decide +kernel
set_option maxRecDepth 65536 in
theorem w_alone : about1.alone = true := by decide +kernel
set_option maxRecDepth 65536 in
theorem w_named : about1.methodNamed? x = some theMethod := by decide +kernel
set_option maxRecDepth 65536 in
theorem w_hears : about1.hears theMethod below0 = true := by decide +kernel
set_option maxRecDepth 65536 in
theorem w_ripe : about1.ripe theMethod args0 below0 = true := by decide +kernel
theorem w_running : about1.status = .running := rfl
set_option maxRecDepth 65536 in
theorem w_room : about1.hasRoom e0.platform room_1 = true :=
  launch0.hasRoom_least _ room_1 (by decide +kernel) (by decide +kernel) (by decide +kernel) (by decide +kernel) (by decide +kernel) (by decide +kernel)
theorem allAtoms_all (ts : List Jvm.Cond) (a : Array Jvm.Value) (st : Jvm.State) : (allAtoms ts).before a st = ts.all (fun c => c.before a st) := by
  induction ts with
  | nil => rfl
  | cons c t ih =>
    show (Jvm.Cond.and c (allAtoms t)).before a st = _
    rw [Jvm.Cond.before_and, ih, List.all_cons]
def words1 : List Jvm.Cond := Jvm.Cond.code x code maxLocals ret :: tables_1
/-- a 'code' word, met by the world's own term for the bytes: nothing is compared byte by byte -/
theorem code_word {y : MethodName} {bytes : ByteArray} {mx : Nat} {rt : Option FieldType} {a : Array Value} {s : State} {m : MethodId} {meth : Method} {c : Code} (h1 : s.methodNamed? y = some m) (h2 : s.vm.method? m = some meth) (h3 : meth.code = some c) (h4 : c.code = bytes)
    (h5 : (c.maxLocals == mx && c.exceptionTable.isEmpty && decide (c.maxStack ≤ mostOperands) && decide (meth.sig.returnType = rt) && !meth.locks && decide (parseMethodDescriptor y.desc = some meth.sig)) = true) : (Jvm.Cond.code y bytes mx rt).before a s = true := by
  simp only [Bool.and_eq_true, beq_iff_eq, Bool.not_eq_true', decide_eq_true_eq] at h5
  obtain ⟨⟨⟨⟨⟨g1, g2⟩, g3⟩, g4⟩, g5⟩, g6⟩ := h5
  simp [Cond.before, Cond.holds, Cond.value, h1, h2, h3, h4, g1, g2, g3, g4, g5, g6]
def isCode : Jvm.Cond → Bool
  | .code _ _ _ _ => true
  | _ => false
theorem all_split {L : List Jvm.Cond} {P : Jvm.Cond → Bool} (h1 : L.all (fun c => isCode c || P c) = true) (h2 : ∀ c ∈ L.filter isCode, P c = true) : L.all P = true := by
  refine List.all_eq_true.mpr fun c hc => ?_
  have h := List.all_eq_true.mp h1 c hc
  rcases Bool.eq_false_or_eq_true (isCode c) with hi | hi
  · exact h2 c (List.mem_filter.mpr ⟨hc, hi⟩)
  · simpa [hi] using h
set_option maxRecDepth 65536 in
theorem w_c0 : (Jvm.Cond.code x code maxLocals ret).before args0 about1 = true := code_word (m := ⟨1, 1⟩) (meth := k1m1) (c := k1c1) (by decide +kernel) rfl rfl rfl (by decide +kernel)
set_option maxRecDepth 65536 in
theorem w_c1 : (Jvm.Cond.code ({ cls := "com/example/truthwright/truthwright/market/processor/Knapsack", name := "width", desc := "(I)I" } : Jvm.MethodName) prog_32_method_4_code (2 : Nat) (Option.some Jvm.ClassFile.FieldType.int)).before args0 about1 = true := code_word (m := ⟨2, 0⟩) (meth := k2m0) (c := k2c0) (by decide +kernel) rfl rfl rfl (by decide +kernel)
def codes1 : List Jvm.Cond := [Jvm.Cond.code x code maxLocals ret, Jvm.Cond.code ({ cls := "com/example/truthwright/truthwright/market/processor/Knapsack", name := "width", desc := "(I)I" } : Jvm.MethodName) prog_32_method_4_code (2 : Nat) (Option.some Jvm.ClassFile.FieldType.int)]
set_option maxRecDepth 65536 in
theorem codes_eq : words1.filter isCode = codes1 := rfl
theorem w_codes : ∀ c ∈ words1.filter isCode, c.before args0 about1 = true := by
  rw [codes_eq]
  intro c hc
  simp only [codes1, List.mem_cons, List.not_mem_nil, or_false] at hc
  rcases hc with rfl | rfl
  · exact w_c0
  · exact w_c1
set_option maxRecDepth 65536 in
theorem w_t1 : words1.all (fun c => isCode c || c.before args0 about1) = true := by decide +kernel
theorem w_tables : (allAtoms (Jvm.Cond.code x code maxLocals ret :: tables_1)).before args0 about1 = true := by
  rw [allAtoms_all]
  show words1.all (fun c => c.before args0 about1) = true
  refine all_split ?_ w_codes
  rw [w_t1]
set_option maxRecDepth 65536 in
theorem w_case : (Jvm.Cond.and given_1 narrow_1).before args0 about1 = true := by decide +kernel
theorem w_applies : (headSpec (Jvm.Cond.code x code maxLocals ret :: tables_1) room_1).applies x e0.platform about1 = true :=
  (Spec.applies_iff w_frames).mpr ⟨w_running, w_runnable, w_alone, w_named, w_hears, w_ripe, w_room, w_tables⟩
theorem atStart : AtStart classFile x code maxLocals ret World_1 tables_1 room_1 Calls_1 rest_1 Pre_1 launch0 p0 e0 about1 theMethod args0 below0 :=
  ⟨lists_1, trivial, launch0.admits_env _ _ _, launch0.least_env, fairChoices_fair.cas, fairChoices_fair.clock, w_frames, w_args, w_heap, w_applies, trivial, trivial, w_case⟩
end start1
theorem witness_1 : WitnessClaimed_1 := ⟨start1.p0, start1.e0, start1.about1, start1.theMethod, start1.args0, start1.below0, start1.atStart⟩
end Jvm.Pilot.@@N@@
