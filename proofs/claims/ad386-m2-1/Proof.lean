import JvmDerived
import JvmDerived.Pilot.@@N@@Statement
import JvmDerived.Pilot.@@N@@Code
set_option linter.unusedVariables false
set_option linter.unusedSimpArgs false
namespace Jvm.RoadKit
open Sem ClassFile Op Lib Jvm.Stand Jvm.Free Jvm.LawKit
section New
variable {p : Program} {l : Launch} {e : Env} {R : Room} {s : State} {m : MethodId} {args : Array Value} {below : List Frame} {meth : Method} {c : Code} {T : State} {locs : List Loc} {cells slots : Nat}
theorem retI (X : Stand p l e R s m args below meth c T locs cells slots) (hx : p.tables.exec = Jvm.exec) {pc : Nat} {Ls : Array Slot} {z : Int32} {rest : List Value} (hret : meth.sig.returnType = some .int) (hd : decode c.code pc = .ok (.ireturn, 1)) {fs : List Frame}
    (hl : ∀ (f : JFrame) (acts : List Action), f.method = m → f.locked = none → f.entered = [] → (doReturn e (T.setTop f) acts (some (.int z))).1 = T.setFrames fs) : Steps p.tables e below (T.setTop (mkF m pc Ls (.int z :: rest))) (T.setFrames fs) := by
  have hm' : T.vm.method? m = some meth := X.method'
  have hn : narrow .int (.int z) = .int z := rfl
  show Steps p.tables e below (T.setTop { method := m, pc := pc, locals := Ls, stack := _ :: rest, locked := none }) _
  jvm_step X.here [X.here.top, hx, hd, hm', hret, hn]
  first | (intro acts; rw [hl _ acts rfl rfl rfl]) | rw [hl _ _ rfl rfl rfl]
  exact Steps.refl _
end New
end Jvm.RoadKit
@@BLOCK:NumsL.lean.txt@@
namespace Jvm.Pilot.@@N@@
open Jvm Jvm.ClassFile Sem Op Lib Jvm.Free Jvm.Stand Jvm.LawKit Jvm.RoadKit Bundle Jvm.Pilot.@@N@@.Jvm.D
def own_out (b : Int32) : Int32 := if (b &&& (1 : Int32)) = (0 : Int32) then (0 : Int32) else (1 : Int32)
theorem own_o1 (b : Int32) (h : (b &&& (1 : Int32)) = (0 : Int32)) : own_out b = (0 : Int32) := if_pos h
theorem own_o2 (b : Int32) (h : ¬ (b &&& (1 : Int32)) = (0 : Int32)) : own_out b = (1 : Int32) := if_neg h
def own_md (b : Int32) : Int32 := (((b.toUInt32 >>> ((1 : Int32) &&& 31).toUInt32).toInt32) &&& (3 : Int32))
def own_big (v b : Int32) (q : Int64) : Int64 := if own_md b = (0 : Int32) then q else if own_md b = (1 : Int32) then ((v.toInt64) + (q % (5 : Int64))) else if own_md b = (2 : Int32) then ((174762 : Int64) + (q % (5 : Int64))) else (q % (5 : Int64))
theorem own_g1 (v b : Int32) (q : Int64) (h : own_md b = (0 : Int32)) : own_big v b q = q := if_pos h
theorem own_g2 (v b : Int32) (q : Int64) (h : ¬ own_md b = (0 : Int32)) (h1 : own_md b = (1 : Int32)) : own_big v b q = ((v.toInt64) + (q % (5 : Int64))) := by rw [own_big, if_neg h, if_pos h1]
theorem own_g3 (v b : Int32) (q : Int64) (h : ¬ own_md b = (0 : Int32)) (h1 : ¬ own_md b = (1 : Int32)) (h2 : own_md b = (2 : Int32)) : own_big v b q = ((174762 : Int64) + (q % (5 : Int64))) := by rw [own_big, if_neg h, if_neg h1, if_pos h2]
theorem own_g4 (v b : Int32) (q : Int64) (h : ¬ own_md b = (0 : Int32)) (h1 : ¬ own_md b = (1 : Int32)) (h2 : ¬ own_md b = (2 : Int32)) : own_big v b q = (q % (5 : Int64)) := by rw [own_big, if_neg h, if_neg h1, if_neg h2]
def own_fit (w : Int32) (q : Int64) : Int32 := if (174762 : Int64) < q then (if w.toInt64 < q then (0 : Int32) else (1 : Int32)) else (0 : Int32)
theorem own_i1 (w : Int32) (q : Int64) (h : (174762 : Int64) < q) (h1 : w.toInt64 < q) : own_fit w q = (0 : Int32) := by rw [own_fit, if_pos h, if_pos h1]
theorem own_i2 (w : Int32) (q : Int64) (h : (174762 : Int64) < q) (h1 : ¬ w.toInt64 < q) : own_fit w q = (1 : Int32) := by rw [own_fit, if_pos h, if_neg h1]
theorem own_i3 (w : Int32) (q : Int64) (h : ¬ (174762 : Int64) < q) : own_fit w q = (0 : Int32) := by rw [own_fit, if_neg h]
theorem own_lim (a : Int32) : ((a &&& (2147483647 : Int32)) % (524289 : Int32)).toInt = (a.toInt % 2 ^ 31) % 524289 := by
  have h1 : (a &&& (2147483647 : Int32)).toInt = a.toInt % 2 ^ 31 := Jvm.Kit.i32_mask a 2147483647 (k := 31) (by decide) (by decide)
  rw [Jvm.Kit.i32_rem_nonneg (by rw [h1]; omega), h1]; rfl
theorem own_l1 (a : Int32) : ¬ ((a &&& (2147483647 : Int32)) % (524289 : Int32)) < (0 : Int32) := by
  rw [Int32.lt_iff_toInt_lt, own_lim]; have : (0 : Int32).toInt = 0 := rfl; omega
theorem own_l2 (a : Int32) : ¬ (524288 : Int32) < ((a &&& (2147483647 : Int32)) % (524289 : Int32)) := by
  rw [Int32.lt_iff_toInt_lt, own_lim]; have : (524288 : Int32).toInt = 524288 := rfl; omega
theorem own_h1 (a : Int32) (q : Int64) (h0 : (0 : Int64) < q) (h : ((a &&& (2147483647 : Int32)) % (524289 : Int32)).toInt64 < q) : own_fit ((a &&& (2147483647 : Int32)) % (524289 : Int32)) q = (0 : Int32) := by
  by_cases g : (174762 : Int64) < q
  · exact own_i1 _ _ g h
  · exact own_i3 _ _ g
theorem own_six (a : Int32) (q : Int64) (h0 : (0 : Int64) < q) (h : ¬ ((a &&& (2147483647 : Int32)) % (524289 : Int32)).toInt64 < q) : (1048576 : Int64) < (6 : Int64) * q ↔ (174762 : Int64) < q := by
  have e := own_lim a
  rw [Int64.lt_iff_toInt_lt, Jvm.Kit.i64_of_i32, e] at h
  rw [Int64.lt_iff_toInt_lt] at h0
  have z0 : (0 : Int64).toInt = 0 := rfl
  have z6 : (6 : Int64).toInt = 6 := rfl
  have za : (1048576 : Int64).toInt = 1048576 := rfl
  have zb : (174762 : Int64).toInt = 174762 := rfl
  rw [Int64.lt_iff_toInt_lt, Int64.lt_iff_toInt_lt, Jvm.Kit.i64_mul (by rw [z6]; omega) (by rw [z6]; omega), z6, za, zb]
  omega
theorem own_h2 (a : Int32) (q : Int64) (h0 : (0 : Int64) < q) (h : ¬ ((a &&& (2147483647 : Int32)) % (524289 : Int32)).toInt64 < q) (h6 : (1048576 : Int64) < (6 : Int64) * q) : own_fit ((a &&& (2147483647 : Int32)) % (524289 : Int32)) q = (1 : Int32) := own_i2 _ _ ((own_six a q h0 h).mp h6) h
theorem own_h3 (a : Int32) (q : Int64) (h0 : (0 : Int64) < q) (h : ¬ ((a &&& (2147483647 : Int32)) % (524289 : Int32)).toInt64 < q) (h6 : ¬ (1048576 : Int64) < (6 : Int64) * q) : own_fit ((a &&& (2147483647 : Int32)) % (524289 : Int32)) q = (0 : Int32) := own_i3 _ _ (fun g => h6 ((own_six a q h0 h).mpr g))
theorem own_h4 (a : Int32) (q : Int64) (h0 : ¬ (0 : Int64) < q) : own_fit ((a &&& (2147483647 : Int32)) % (524289 : Int32)) q = (0 : Int32) := by
  refine own_i3 _ _ fun g => h0 ?_
  rw [Int64.lt_iff_toInt_lt] at g ⊢
  have z0 : (0 : Int64).toInt = 0 := rfl
  have zb : (174762 : Int64).toInt = 174762 := rfl
  omega
def Q2 (h0 : Heap) (n0 : Nat) (v : Option Value) (h : Heap) (L : List Loc) : Prop := v = none ∧ Fr n0 L ∧ h = h0
theorem pn_2 : plainName "java/lang/Record" = true := by first | (simp [plainName, overriddenIn]; done) | decide +kernel
theorem ef_2 (m : MethodId) (a1 : Addr) : entryFrame m #[(.ref a1)] 1 = mkF m 0 #[.val (.ref a1)] [] := by first | (simp [entryFrame, mkF, argsToLocals, Value.category]; done) | rfl
theorem d2_0 : decode jdk_30_method_1_code 0 = .ok (.aload_n 0, 1) := by decide +kernel
theorem d2_1 : decode jdk_30_method_1_code 1 = .ok (.invokespecial 1, 3) := by decide +kernel
theorem d2_4 : decode jdk_30_method_1_code 4 = .ok (.return_, 1) := by decide +kernel
set_option maxRecDepth 65536 in
set_option maxHeartbeats 40000000 in
theorem rm2 (l : Launch) (Z : State) (a0 : Array Value) (hw : ∀ d ∈ tables_1, d.before a0 Z = true) (ws : List Jvm.Cond) (a1 : Addr) (h0 : Heap) (n0 : Nat) (Z0 : n0 ≤ h0.size) :
    MetFree l (⟨"java/lang/Record", "<init>", "()V"⟩ : MethodName) (head1 (Jvm.Cond.code (⟨"java/lang/Record", "<init>", "()V"⟩ : MethodName) jdk_30_method_1_code 1 none :: ws) ({ frames := 1, cells := 0, slots := 0, locals := 12 } : Room)) (fun a U => a = #[(.ref a1)] ∧ Z.Warmed39 U.vm ∧ U.heap = h0) (fun _ _ _ _ _ => True) (fun _ U o U' => ∃ v L, o = .returned v ∧ Q2 h0 n0 v U'.heap L ∧ FrameEnd U o U' L ({ frames := 1, cells := 0, slots := 0, locals := 12 } : Room).cells ({ frames := 1, cells := 0, slots := 0, locals := 12 } : Room).slots) := by
  refine MetFree.of_bodySF (plainFor_of_name pn_2) hisR ?_
  intro p e s m args below meth c s₁ Bd hml0 hP hK
  obtain ⟨rfl, hZ, hh⟩ := hP
  have hx := Bd.exec
  have hby := Bd.bytes
  have hml : c.maxLocals = 1 := hml0
  have hown : s.vm.findClass "java/lang/Record" = some m.cls := findClass_of_methodNamed Bd.named
  have hnm := (name_of_methodNamed Bd.named Bd.method).1
  have X0 : Stand p l e ({ frames := 1, cells := 0, slots := 0, locals := 12 } : Room) s m #[(.ref a1)] below meth c s₁ [] 0 0 := Stand.of_body Bd
  have e0 : s₁.heap = h0 := by rw [← hh, Bd.state]; rfl
  have N0 := Fr.nil n0
  have pre0 : ∀ t, Steps p.tables e below (s₁.setTop (mkF m 0 #[.val (.ref a1)] [])) t → Steps p.tables e below (s₁.setTop (entryFrame m #[(.ref a1)] 1)) t := fun t k => castTop (ef_2 m a1) k
  obtain ⟨T1, X1, e1, st1⟩ := initO X0 hx hZ hown (hw _ (List.mem_of_getElem? (i := 14) rfl)) (hw _ (List.mem_of_getElem? (i := 15) rfl)) (hw _ (List.mem_of_getElem? (i := 16) rfl)) e0 (g := (mkF m 1 #[.val (.ref a1)] [(.ref a1)])) rfl (by rw [hml]; rfl) rfl (hb hby d2_1) (by decide) (W := 0) (by show 2 * 0 + _ ≤ _; exact Nat.le_of_eq rfl) (by decide)
  obtain ⟨fs, hr, hrun, hended, hW, hsame⟩ := X1.leave (v := none) (fun _ => rfl)
  refine ⟨_, _, pre0 _ ?_, hrun, hended, _, _, rfl, ?_, ⟨_, rfl⟩, hW, hsame.mono (by decide) (by decide)⟩
  · show Steps p.tables e below (s₁.setTop (mkF m 0 #[.val (.ref a1)] [])) _
    refine XS.aloadN X0.here hx rfl (hb hby d2_0) rfl rfl ?_
    show Steps p.tables e below (s₁.setTop (mkF m 1 #[.val (.ref a1)] [(.ref a1)])) _
    refine st1 _ ?_
    show Steps p.tables e below (T1.setTop (mkF m 4 #[.val (.ref a1)] [])) _
    exact X1.returnOut hx Bd.returns (hb hby d2_4) hr
  · show Q2 h0 n0 _ T1.heap _
    rw [e1]
    exact ⟨rfl, N0, rfl⟩
def Q1 (Z : State) (a1 : Addr) (p2 : Int32) (h0 : Heap) (n0 : Nat) (v : Option Value) (h : Heap) (L : List Loc) : Prop := v = none ∧ Fr n0 L ∧ Keep h0 h [a1] ∧ Exa Z h a1 "com/example/tabularium/tabularium/siard/LobStorage" ∧ Fld Z h a1 "com/example/tabularium/tabularium/siard/LobStorage" "inlineLimit" "I" (.int p2)
theorem pn_1 : plainName "com/example/tabularium/tabularium/siard/LobStorage" = true := by first | (simp [plainName, overriddenIn]; done) | decide +kernel
theorem ef_1 (m : MethodId) (a1 : Addr) (p2 : Int32) (p3 : Int32) : entryFrame m #[(.ref a1), (.int p2), (.int p3)] 3 = mkF m 0 #[.val (.ref a1), .val (.int p2), .val (.int p3)] [] := by first | (simp [entryFrame, mkF, argsToLocals, Value.category]; done) | rfl
theorem d1_0 : decode prog_129_method_1_code 0 = .ok (.aload_n 0, 1) := by decide +kernel
theorem d1_1 : decode prog_129_method_1_code 1 = .ok (.invokespecial 5, 3) := by decide +kernel
theorem d1_4 : decode prog_129_method_1_code 4 = .ok (.iload_n 1, 1) := by decide +kernel
theorem d1_5 : decode prog_129_method_1_code 5 = .ok (.ifCond .lt 9, 3) := by decide +kernel
theorem d1_8 : decode prog_129_method_1_code 8 = .ok (.iload_n 1, 1) := by decide +kernel
theorem d1_9 : decode prog_129_method_1_code 9 = .ok (.ldc 13, 2) := by decide +kernel
theorem d1_11 : decode prog_129_method_1_code 11 = .ok (.if_icmp .le 17, 3) := by decide +kernel
theorem d1_28 : decode prog_129_method_1_code 28 = .ok (.aload_n 0, 1) := by decide +kernel
theorem d1_29 : decode prog_129_method_1_code 29 = .ok (.iload_n 1, 1) := by decide +kernel
theorem d1_30 : decode prog_129_method_1_code 30 = .ok (.putfield 23, 3) := by decide +kernel
theorem d1_33 : decode prog_129_method_1_code 33 = .ok (.aload_n 0, 1) := by decide +kernel
theorem d1_34 : decode prog_129_method_1_code 34 = .ok (.iload_n 2, 1) := by decide +kernel
theorem d1_35 : decode prog_129_method_1_code 35 = .ok (.putfield 27, 3) := by decide +kernel
theorem d1_38 : decode prog_129_method_1_code 38 = .ok (.return_, 1) := by decide +kernel
theorem pd_1_0 : parseMethodDescriptor "()V" = some ⟨[], none⟩ := by decide +kernel
set_option maxRecDepth 65536 in
set_option maxHeartbeats 40000000 in
theorem rm1 (l : Launch) (Z : State) (a0 : Array Value) (hw : ∀ d ∈ tables_1, d.before a0 Z = true) (ws : List Jvm.Cond) (a1 : Addr) (p2 : Int32) (p3 : Int32) (h0 : Heap) (n0 : Nat) (Z0 : n0 ≤ h0.size) (hc5 : ¬ (p2 < (0 : Int32))) (hc11 : ¬ ((524288 : Int32) < p2)) (E1 : Exa Z h0 a1 "com/example/tabularium/tabularium/siard/LobStorage") (F1 : Fld Z h0 a1 "com/example/tabularium/tabularium/siard/LobStorage" "inlineLimit" "I" (.int (0 : Int32))) (F2 : Fld Z h0 a1 "com/example/tabularium/tabularium/siard/LobStorage" "outside" "Z" (.int (0 : Int32))) (ga : n0 ≤ a1) :
    MetFree l (⟨"com/example/tabularium/tabularium/siard/LobStorage", "<init>", "(IZ)V"⟩ : MethodName) (head1 (Jvm.Cond.code (⟨"com/example/tabularium/tabularium/siard/LobStorage", "<init>", "(IZ)V"⟩ : MethodName) prog_129_method_1_code 3 none :: ws) ({ frames := 2, cells := 0, slots := 0, locals := 24 } : Room)) (fun a U => a = #[(.ref a1), (.int p2), (.int p3)] ∧ Z.Warmed39 U.vm ∧ U.heap = h0) (fun _ _ _ _ _ => True) (fun _ U o U' => ∃ v L, o = .returned v ∧ Q1 Z a1 p2 h0 n0 v U'.heap L ∧ FrameEnd U o U' L ({ frames := 2, cells := 0, slots := 0, locals := 24 } : Room).cells ({ frames := 2, cells := 0, slots := 0, locals := 24 } : Room).slots) := by
  refine MetFree.of_bodySF (plainFor_of_name pn_1) hisR ?_
  intro p e s m args below meth c s₁ Bd hml0 hP hK
  obtain ⟨rfl, hZ, hh⟩ := hP
  have hx := Bd.exec
  have hby := Bd.bytes
  have hml : c.maxLocals = 3 := hml0
  have hown : s.vm.findClass "com/example/tabularium/tabularium/siard/LobStorage" = some m.cls := findClass_of_methodNamed Bd.named
  have hnm := (name_of_methodNamed Bd.named Bd.method).1
  have X0 : Stand p l e ({ frames := 2, cells := 0, slots := 0, locals := 24 } : Room) s m #[(.ref a1), (.int p2), (.int p3)] below meth c s₁ [] 0 0 := Stand.of_body Bd
  have e0 : s₁.heap = h0 := by rw [← hh, Bd.state]; rfl
  have N0 := Fr.nil n0
  have pre0 : ∀ t, Steps p.tables e below (s₁.setTop (mkF m 0 #[.val (.ref a1), .val (.int p2), .val (.int p3)] [])) t → Steps p.tables e below (s₁.setTop (entryFrame m #[(.ref a1), (.int p2), (.int p3)] 3)) t := fun t k => castTop (ef_1 m a1 p2 p3) k
  obtain ⟨_, _, ⟨T1, L1, k1, n1⟩, -, X1, ⟨Lc1, hQ1, l1, y1, z1⟩, st1⟩ := X0.specialBack hx (y := (⟨"java/lang/Record", "<init>", "()V"⟩ : MethodName)) rfl hown (mvT hZ (hw _ (List.mem_of_getElem? (i := 9) rfl))) (mvT hZ (hw _ (List.mem_of_getElem? (i := 10) rfl))) (mvT hZ (hw _ (List.mem_of_getElem? (i := 13) rfl))) (by decide) (backOf (W := 0) (rm2 l Z a0 hw [] a1 h0 n0 Z0) hZ (hw _ (List.mem_of_getElem? (i := 13) rfl)) (hw _ (List.mem_of_getElem? (i := 12) rfl)) (by decide) (by decide)) (g := (mkF m 1 #[.val (.ref a1), .val (.int p2), .val (.int p3)] [(.ref a1)])) rfl (by rw [hml]; rfl) (Steps.refl _) (a := a1) (argsL := []) (rest := []) (lenOf pd_1_0 rfl) rfl (by show 2 * 0 + _ ≤ _; exact Nat.le_of_eq rfl) (hb hby d1_1) (fun _ _ => ⟨rfl, e0, (by decide : 0 + 0 ≤ _), (by decide : 0 + 0 ≤ _)⟩)
  dsimp only [Pt.U, Pt.locs, Pt.cells, Pt.slots] at X1 l1 y1 z1 st1 hQ1
  subst l1 y1 z1
  obtain ⟨rfl, N1q, e1⟩ := hQ1
  have N1 := Fr.app N0 N1q
  obtain ⟨T2, h2, X2, e2, W2, st2⟩ := putF X1 hx hZ hown (host := "") (Or.inl (hw _ (List.mem_of_getElem? (i := 18) rfl))) Via.refl e1 F1 E1 (Or.inr ⟨(hw _ (List.mem_of_getElem? (i := 19) rfl)), rfl, hnm⟩) (hw _ (List.mem_of_getElem? (i := 4) rfl)) (ty := .int) (by decide) rfl rfl (g := (mkF m 30 #[.val (.ref a1), .val (.int p2), .val (.int p3)] [(.int p2), (.ref a1)])) rfl rfl (hb hby d1_30)
  have N2 := Fr.snoc X2 N1 ga
  obtain ⟨T3, h3, X3, e3, W3, st3⟩ := putFN X2 hx hZ hown (hw _ (List.mem_of_getElem? (i := 20) rfl)) Via.refl e2 (F2.other W2 (Or.inr (slot_ne (Or.inr (hw _ (List.mem_of_getElem? (i := 21) rfl))) (Or.inr (hw _ (List.mem_of_getElem? (i := 19) rfl))) (by decide) (t := .boolean) (t' := .int) (by decide) (by decide)))) (E1.wr W2) (Or.inr ⟨(hw _ (List.mem_of_getElem? (i := 21) rfl)), rfl, hnm⟩) (hw _ (List.mem_of_getElem? (i := 4) rfl)) (ty := .boolean) (v' := (.int (nar .boolean p3))) (by decide) rfl (fits_nar_bool _) (g := (mkF m 35 #[.val (.ref a1), .val (.int p2), .val (.int p3)] [(.int p3), (.ref a1)])) rfl rfl (hb hby d1_35)
  have N3 := Fr.snoc X3 N2 ga
  have K3 : Keep h0 h3 [a1] := ((Keep.refl h0 [a1]).wr W2 (Or.inl (List.mem_of_getElem? (i := 0) rfl))).wr W3 (Or.inl (List.mem_of_getElem? (i := 0) rfl))
  have F3 := (F1.same W2).other W3 (Or.inr (slot_ne (Or.inr (hw _ (List.mem_of_getElem? (i := 19) rfl))) (Or.inr (hw _ (List.mem_of_getElem? (i := 21) rfl))) (by decide) (t := .int) (t' := .boolean) (by decide) (by decide)))
  have E3 := (E1.wr W2).wr W3
  obtain ⟨fs, hr, hrun, hended, hW, hsame⟩ := X3.leave (v := none) (fun _ => rfl)
  refine ⟨_, _, pre0 _ ?_, hrun, hended, _, _, rfl, ?_, ⟨_, rfl⟩, hW, hsame.mono (by decide) (by decide)⟩
  · show Steps p.tables e below (s₁.setTop (mkF m 0 #[.val (.ref a1), .val (.int p2), .val (.int p3)] [])) _
    refine XS.aloadN X0.here hx rfl (hb hby d1_0) rfl rfl ?_
    show Steps p.tables e below (s₁.setTop (mkF m 1 #[.val (.ref a1), .val (.int p2), .val (.int p3)] [(.ref a1)])) _
    refine st1.trans ?_
    show Steps p.tables e below (T1.setTop (mkF m 4 #[.val (.ref a1), .val (.int p2), .val (.int p3)] [])) _
    refine XS.iloadN X1.here hx rfl (hb hby d1_4) rfl ?_
    show Steps p.tables e below (T1.setTop (mkF m 5 #[.val (.ref a1), .val (.int p2), .val (.int p3)] [(.int p2)])) _
    refine XS.ifNo X1.here hx rfl (hb hby d1_5) rfl ((if0 _ _).trans (flt hc5).1) ?_
    show Steps p.tables e below (T1.setTop (mkF m 8 #[.val (.ref a1), .val (.int p2), .val (.int p3)] [])) _
    refine XS.iloadN X1.here hx rfl (hb hby d1_8) rfl ?_
    show Steps p.tables e below (T1.setTop (mkF m 9 #[.val (.ref a1), .val (.int p2), .val (.int p3)] [(.int p2)])) _
    refine X1.ldcInt hx hown (mvT hZ (hw _ (List.mem_of_getElem? (i := 17) rfl))) (g := (mkF m 9 #[.val (.ref a1), .val (.int p2), .val (.int p3)] [(.int p2)])) rfl (hb hby d1_9) _ ?_
    show Steps p.tables e below (T1.setTop (mkF m 11 #[.val (.ref a1), .val (.int p2), .val (.int p3)] [(.int (524288 : Int32)), (.int p2)])) _
    refine XS.icmpYes X1.here hx rfl (pc0 := 11) (pc' := 28) rfl (hb hby d1_11) rfl (flt hc11).2.2.2 (by decide) (by decide) ?_
    show Steps p.tables e below (T1.setTop (mkF m 28 #[.val (.ref a1), .val (.int p2), .val (.int p3)] [])) _
    refine XS.aloadN X1.here hx rfl (hb hby d1_28) rfl rfl ?_
    show Steps p.tables e below (T1.setTop (mkF m 29 #[.val (.ref a1), .val (.int p2), .val (.int p3)] [(.ref a1)])) _
    refine XS.iloadN X1.here hx rfl (hb hby d1_29) rfl ?_
    show Steps p.tables e below (T1.setTop (mkF m 30 #[.val (.ref a1), .val (.int p2), .val (.int p3)] [(.int p2), (.ref a1)])) _
    refine st2 _ ?_
    show Steps p.tables e below (T2.setTop (mkF m 33 #[.val (.ref a1), .val (.int p2), .val (.int p3)] [])) _
    refine XS.aloadN X2.here hx rfl (hb hby d1_33) rfl rfl ?_
    show Steps p.tables e below (T2.setTop (mkF m 34 #[.val (.ref a1), .val (.int p2), .val (.int p3)] [(.ref a1)])) _
    refine XS.iloadN X2.here hx rfl (hb hby d1_34) rfl ?_
    show Steps p.tables e below (T2.setTop (mkF m 35 #[.val (.ref a1), .val (.int p2), .val (.int p3)] [(.int p3), (.ref a1)])) _
    refine st3 _ ?_
    show Steps p.tables e below (T3.setTop (mkF m 38 #[.val (.ref a1), .val (.int p2), .val (.int p3)] [])) _
    exact X3.returnOut hx Bd.returns (hb hby d1_38) hr
  · show Q1 Z a1 p2 h0 n0 _ T3.heap _
    rw [e3]
    exact ⟨rfl, N3, K3, E3, F3⟩
def Q4 (r : Int32) (h0 : Heap) (n0 : Nat) (v : Option Value) (h : Heap) (L : List Loc) : Prop := v = some (.int r) ∧ Fr n0 L ∧ h = h0
theorem pn_4 : plainName "com/example/tabularium/tabularium/siard/LobStorage" = true := by first | (simp [plainName, overriddenIn]; done) | decide +kernel
theorem ef_4 (m : MethodId) (a1 : Addr) (q2 : Int64) : entryFrame m #[(.ref a1), (.long q2)] 3 = mkF m 0 #[.val (.ref a1), .val (.long q2), .second] [] := by first | (simp [entryFrame, mkF, argsToLocals, Value.category]; done) | rfl
theorem d4_0 : decode prog_129_method_2_code 0 = .ok (.lload_n 1, 1) := by decide +kernel
theorem d4_1 : decode prog_129_method_2_code 1 = .ok (.ldc2_w 31, 3) := by decide +kernel
theorem d4_4 : decode prog_129_method_2_code 4 = .ok (.lcmp, 1) := by decide +kernel
theorem d4_5 : decode prog_129_method_2_code 5 = .ok (.ifCond .le 17, 3) := by decide +kernel
theorem d4_8 : decode prog_129_method_2_code 8 = .ok (.lload_n 1, 1) := by decide +kernel
theorem d4_9 : decode prog_129_method_2_code 9 = .ok (.aload_n 0, 1) := by decide +kernel
theorem d4_10 : decode prog_129_method_2_code 10 = .ok (.getfield 23, 3) := by decide +kernel
theorem d4_13 : decode prog_129_method_2_code 13 = .ok (.i2l, 1) := by decide +kernel
theorem d4_14 : decode prog_129_method_2_code 14 = .ok (.lcmp, 1) := by decide +kernel
theorem d4_15 : decode prog_129_method_2_code 15 = .ok (.ifCond .gt 7, 3) := by decide +kernel
theorem d4_18 : decode prog_129_method_2_code 18 = .ok (.iconst 1, 1) := by decide +kernel
theorem d4_19 : decode prog_129_method_2_code 19 = .ok (.goto 4, 3) := by decide +kernel
theorem d4_22 : decode prog_129_method_2_code 22 = .ok (.iconst 0, 1) := by decide +kernel
theorem d4_23 : decode prog_129_method_2_code 23 = .ok (.ireturn, 1) := by decide +kernel
set_option maxRecDepth 65536 in
set_option maxHeartbeats 40000000 in
theorem rm4 (l : Launch) (Z : State) (a0 : Array Value) (hw : ∀ d ∈ tables_1, d.before a0 Z = true) (ws : List Jvm.Cond) (a1 : Addr) (q2 : Int64) (w3 : Int32) (r : Int32) (h0 : Heap) (n0 : Nat) (Z0 : n0 ≤ h0.size) (F1 : Fld Z h0 a1 "com/example/tabularium/tabularium/siard/LobStorage" "inlineLimit" "I" (.int w3)) (k1 : ((174762 : Int64) < q2) → (w3.toInt64 < q2) → r = (0 : Int32)) (k2 : ((174762 : Int64) < q2) → ¬ (w3.toInt64 < q2) → r = (1 : Int32)) (k3 : ¬ ((174762 : Int64) < q2) → r = (0 : Int32)) :
    MetFree l (⟨"com/example/tabularium/tabularium/siard/LobStorage", "inlineIfEachFits", "(J)Z"⟩ : MethodName) (head1 (Jvm.Cond.code (⟨"com/example/tabularium/tabularium/siard/LobStorage", "inlineIfEachFits", "(J)Z"⟩ : MethodName) prog_129_method_2_code 3 (some .boolean) :: ws) ({ frames := 0, cells := 0, slots := 0, locals := 0 } : Room)) (fun a U => a = #[(.ref a1), (.long q2)] ∧ Z.Warmed39 U.vm ∧ U.heap = h0) (fun _ _ _ _ _ => True) (fun _ U o U' => ∃ v L, o = .returned v ∧ Q4 r h0 n0 v U'.heap L ∧ FrameEnd U o U' L ({ frames := 0, cells := 0, slots := 0, locals := 0 } : Room).cells ({ frames := 0, cells := 0, slots := 0, locals := 0 } : Room).slots) := by
  refine MetFree.of_bodySF (plainFor_of_name pn_4) hisR ?_
  intro p e s m args below meth c s₁ Bd hml0 hP hK
  obtain ⟨rfl, hZ, hh⟩ := hP
  have hx := Bd.exec
  have hby := Bd.bytes
  have hml : c.maxLocals = 3 := hml0
  have hown : s.vm.findClass "com/example/tabularium/tabularium/siard/LobStorage" = some m.cls := findClass_of_methodNamed Bd.named
  have hnm := (name_of_methodNamed Bd.named Bd.method).1
  have X0 : Stand p l e ({ frames := 0, cells := 0, slots := 0, locals := 0 } : Room) s m #[(.ref a1), (.long q2)] below meth c s₁ [] 0 0 := Stand.of_body Bd
  have e0 : s₁.heap = h0 := by rw [← hh, Bd.state]; rfl
  have N0 := Fr.nil n0
  have pre0 : ∀ t, Steps p.tables e below (s₁.setTop (mkF m 0 #[.val (.ref a1), .val (.long q2), .second] [])) t → Steps p.tables e below (s₁.setTop (entryFrame m #[(.ref a1), (.long q2)] 3)) t := fun t k => castTop (ef_4 m a1 q2) k
  by_cases hc5 : (174762 : Int64) < q2
  · obtain ⟨T1, X1, e1, st1⟩ := getF X0 hx hZ hown (host := "") (Or.inl (hw _ (List.mem_of_getElem? (i := 18) rfl))) Via.refl e0 F1 (g := (mkF m 10 #[.val (.ref a1), .val (.long q2), .second] [(.ref a1), (.long q2)])) rfl rfl (hb hby d4_10)
    obtain ⟨fs, hr, hrun, hended, hW, hsame⟩ := X1.leave (v := some (.int r)) (fun h => by rw [Bd.returns] at h; cases h)
    refine ⟨_, _, pre0 _ ?_, hrun, hended, _, _, rfl, ?_, ⟨_, rfl⟩, hW, hsame.mono (by decide) (by decide)⟩
    · show Steps p.tables e below (s₁.setTop (mkF m 0 #[.val (.ref a1), .val (.long q2), .second] [])) _
      refine XS.lloadN X0.here hx rfl (hb hby d4_0) rfl ?_
      show Steps p.tables e below (s₁.setTop (mkF m 1 #[.val (.ref a1), .val (.long q2), .second] [(.long q2)])) _
      refine X0.ldc2Long hx hown (mvT hZ (hw _ (List.mem_of_getElem? (i := 27) rfl))) (g := (mkF m 1 #[.val (.ref a1), .val (.long q2), .second] [(.long q2)])) rfl (hb hby d4_1) _ ?_
      show Steps p.tables e below (s₁.setTop (mkF m 4 #[.val (.ref a1), .val (.long q2), .second] [(.long (174762 : Int64)), (.long q2)])) _
      refine XS.lcmp X0.here hx rfl (hb hby d4_4) rfl ?_
      show Steps p.tables e below (s₁.setTop (mkF m 5 #[.val (.ref a1), .val (.long q2), .second] [(.int (lcmpW q2 (174762 : Int64)))])) _
      refine XS.ifNo X0.here hx rfl (hb hby d4_5) rfl ((if0 _ _).trans (tlt ((lw_gt q2 (174762 : Int64)).mpr hc5)).2.2.2) ?_
      show Steps p.tables e below (s₁.setTop (mkF m 8 #[.val (.ref a1), .val (.long q2), .second] [])) _
      refine XS.lloadN X0.here hx rfl (hb hby d4_8) rfl ?_
      show Steps p.tables e below (s₁.setTop (mkF m 9 #[.val (.ref a1), .val (.long q2), .second] [(.long q2)])) _
      refine XS.aloadN X0.here hx rfl (hb hby d4_9) rfl rfl ?_
      show Steps p.tables e below (s₁.setTop (mkF m 10 #[.val (.ref a1), .val (.long q2), .second] [(.ref a1), (.long q2)])) _
      refine st1 _ ?_
      show Steps p.tables e below (T1.setTop (mkF m 13 #[.val (.ref a1), .val (.long q2), .second] [(.int w3), (.long q2)])) _
      refine XS.i2l X1.here hx rfl (hb hby d4_13) rfl ?_
      show Steps p.tables e below (T1.setTop (mkF m 14 #[.val (.ref a1), .val (.long q2), .second] [(.long (w3.toInt64)), (.long q2)])) _
      refine XS.lcmp X1.here hx rfl (hb hby d4_14) rfl ?_
      show Steps p.tables e below (T1.setTop (mkF m 15 #[.val (.ref a1), .val (.long q2), .second] [(.int (lcmpW q2 (w3.toInt64)))])) _
      by_cases hc15 : (w3.toInt64) < q2
      · refine XS.ifYes X1.here hx rfl (pc0 := 15) (pc' := 22) rfl (hb hby d4_15) rfl ((if0 _ _).trans (tlt ((lw_gt q2 (w3.toInt64)).mpr hc15)).2.2.1) (by decide) (by decide) ?_
        show Steps p.tables e below (T1.setTop (mkF m 22 #[.val (.ref a1), .val (.long q2), .second] [])) _
        refine XS.iconst X1.here hx rfl (hb hby d4_22) ?_
        obtain rfl := k1 hc5 hc15
        show Steps p.tables e below (T1.setTop (mkF m 23 #[.val (.ref a1), .val (.long q2), .second] [(.int (0 : Int32))])) _
        exact retN X1 hx (t := .boolean) Bd.returns (by simp) (hb hby d4_23) hr
      · refine XS.ifNo X1.here hx rfl (hb hby d4_15) rfl ((if0 _ _).trans (flt (mt (lw_gt q2 (w3.toInt64)).mp hc15)).2.2.1) ?_
        show Steps p.tables e below (T1.setTop (mkF m 18 #[.val (.ref a1), .val (.long q2), .second] [])) _
        refine XS.iconst X1.here hx rfl (hb hby d4_18) ?_
        show Steps p.tables e below (T1.setTop (mkF m 19 #[.val (.ref a1), .val (.long q2), .second] [(.int (1 : Int32))])) _
        refine XS.goto X1.here hx rfl (pc0 := 19) (pc' := 23) rfl (hb hby d4_19) (by decide) (by decide) ?_
        obtain rfl := k2 hc5 hc15
        show Steps p.tables e below (T1.setTop (mkF m 23 #[.val (.ref a1), .val (.long q2), .second] [(.int (1 : Int32))])) _
        exact retN X1 hx (t := .boolean) Bd.returns (by simp) (hb hby d4_23) hr
    · show Q4 r h0 n0 _ T1.heap _
      rw [e1]
      exact ⟨rfl, N0, rfl⟩
  · obtain rfl := k3 hc5
    obtain ⟨fs, hr, hrun, hended, hW, hsame⟩ := X0.leave (v := some (.int (0 : Int32))) (fun h => by rw [Bd.returns] at h; cases h)
    refine ⟨_, _, pre0 _ ?_, hrun, hended, _, _, rfl, ?_, ⟨_, rfl⟩, hW, hsame.mono (by decide) (by decide)⟩
    · show Steps p.tables e below (s₁.setTop (mkF m 0 #[.val (.ref a1), .val (.long q2), .second] [])) _
      refine XS.lloadN X0.here hx rfl (hb hby d4_0) rfl ?_
      show Steps p.tables e below (s₁.setTop (mkF m 1 #[.val (.ref a1), .val (.long q2), .second] [(.long q2)])) _
      refine X0.ldc2Long hx hown (mvT hZ (hw _ (List.mem_of_getElem? (i := 27) rfl))) (g := (mkF m 1 #[.val (.ref a1), .val (.long q2), .second] [(.long q2)])) rfl (hb hby d4_1) _ ?_
      show Steps p.tables e below (s₁.setTop (mkF m 4 #[.val (.ref a1), .val (.long q2), .second] [(.long (174762 : Int64)), (.long q2)])) _
      refine XS.lcmp X0.here hx rfl (hb hby d4_4) rfl ?_
      show Steps p.tables e below (s₁.setTop (mkF m 5 #[.val (.ref a1), .val (.long q2), .second] [(.int (lcmpW q2 (174762 : Int64)))])) _
      refine XS.ifYes X0.here hx rfl (pc0 := 5) (pc' := 22) rfl (hb hby d4_5) rfl ((if0 _ _).trans (flt (mt (lw_gt q2 (174762 : Int64)).mp hc5)).2.2.2) (by decide) (by decide) ?_
      show Steps p.tables e below (s₁.setTop (mkF m 22 #[.val (.ref a1), .val (.long q2), .second] [])) _
      refine XS.iconst X0.here hx rfl (hb hby d4_22) ?_
      show Steps p.tables e below (s₁.setTop (mkF m 23 #[.val (.ref a1), .val (.long q2), .second] [(.int (0 : Int32))])) _
      exact retN X0 hx (t := .boolean) Bd.returns (by simp) (hb hby d4_23) hr
    · show Q4 (0 : Int32) h0 n0 _ s₁.heap _
      rw [e0]
      exact ⟨rfl, N0, rfl⟩
set_option maxRecDepth 65536 in
set_option maxHeartbeats 40000000 in
theorem segA {p : Program} {l : Launch} {e : Env} {R : Room} {s : State} {m : MethodId} {args : Array Value} {below : List Frame} {meth : Method} {c : Code} {T0 : State} {locs : List Loc} {cells slots : Nat} {Z : State} {a0 : Array Value} {h0 : Heap} (p1 : Int32) (p2 : Int32) (q3 : Int64) (r5 : Int32) 
    (X0 : Stand p l e R s m args below meth c T0 locs cells slots) (hx : p.tables.exec = Jvm.exec) (hZ : Z.Warmed39 s.vm) (hw : ∀ d ∈ tables_1, d.before a0 Z = true) (hby : c.code = code) (hml : c.maxLocals = 13) (hown : s.vm.findClass "com/example/tabularium/tabularium/siard/LobStorageInlineIfEachFitsPinLaw" = some m.cls) (e0 : T0.heap = h0) (k1 : ((p2 &&& (1 : Int32)) = (0 : Int32)) → r5 = (0 : Int32)) (k2 : ¬ ((p2 &&& (1 : Int32)) = (0 : Int32)) → r5 = (1 : Int32)) {target : State}
    (kt : Steps p.tables e below (T0.setTop (mkF m 22 #[.val (.int p1), .val (.int p2), .val (.long q3), .second, .val (.int ((p1 &&& (2147483647 : Int32)) % (524289 : Int32))), .val (.int r5), .unset, .unset, .unset, .unset, .unset, .unset, .unset] [])) target) : Steps p.tables e below (T0.setTop (mkF m 0 #[.val (.int p1), .val (.int p2), .val (.long q3), .second, .unset, .unset, .unset, .unset, .unset, .unset, .unset, .unset, .unset] [])) target := by
  show Steps p.tables e below (T0.setTop (mkF m 0 #[.val (.int p1), .val (.int p2), .val (.long q3), .second, .unset, .unset, .unset, .unset, .unset, .unset, .unset, .unset, .unset] [])) _
  refine XS.iloadN X0.here hx rfl (hb hby at_0) rfl ?_
  show Steps p.tables e below (T0.setTop (mkF m 1 #[.val (.int p1), .val (.int p2), .val (.long q3), .second, .unset, .unset, .unset, .unset, .unset, .unset, .unset, .unset, .unset] [(.int p1)])) _
  refine X0.ldcInt hx hown (mvT hZ (hw _ (List.mem_of_getElem? (i := 0) rfl))) (g := (mkF m 1 #[.val (.int p1), .val (.int p2), .val (.long q3), .second, .unset, .unset, .unset, .unset, .unset, .unset, .unset, .unset, .unset] [(.int p1)])) rfl (hb hby at_1) _ ?_
  show Steps p.tables e below (T0.setTop (mkF m 3 #[.val (.int p1), .val (.int p2), .val (.long q3), .second, .unset, .unset, .unset, .unset, .unset, .unset, .unset, .unset, .unset] [(.int (2147483647 : Int32)), (.int p1)])) _
  refine XS.iand X0.here hx rfl (hb hby at_3) rfl ?_
  show Steps p.tables e below (T0.setTop (mkF m 4 #[.val (.int p1), .val (.int p2), .val (.long q3), .second, .unset, .unset, .unset, .unset, .unset, .unset, .unset, .unset, .unset] [(.int (p1 &&& (2147483647 : Int32)))])) _
  refine X0.ldcInt hx hown (mvT hZ (hw _ (List.mem_of_getElem? (i := 1) rfl))) (g := (mkF m 4 #[.val (.int p1), .val (.int p2), .val (.long q3), .second, .unset, .unset, .unset, .unset, .unset, .unset, .unset, .unset, .unset] [(.int (p1 &&& (2147483647 : Int32)))])) rfl (hb hby at_4) _ ?_
  show Steps p.tables e below (T0.setTop (mkF m 6 #[.val (.int p1), .val (.int p2), .val (.long q3), .second, .unset, .unset, .unset, .unset, .unset, .unset, .unset, .unset, .unset] [(.int (524289 : Int32)), (.int (p1 &&& (2147483647 : Int32)))])) _
  refine iremM (g := (mkF m 6 #[.val (.int p1), .val (.int p2), .val (.long q3), .second, .unset, .unset, .unset, .unset, .unset, .unset, .unset, .unset, .unset] [(.int (524289 : Int32)), (.int (p1 &&& (2147483647 : Int32)))])) X0 hx rfl (hb hby at_6) rfl (by decide) ?_
  show Steps p.tables e below (T0.setTop (mkF m 7 #[.val (.int p1), .val (.int p2), .val (.long q3), .second, .unset, .unset, .unset, .unset, .unset, .unset, .unset, .unset, .unset] [(.int ((p1 &&& (2147483647 : Int32)) % (524289 : Int32)))])) _
  refine XS.istore X0.here hx rfl (hb hby at_7) rfl (l' := #[.val (.int p1), .val (.int p2), .val (.long q3), .second, .val (.int ((p1 &&& (2147483647 : Int32)) % (524289 : Int32))), .unset, .unset, .unset, .unset, .unset, .unset, .unset, .unset]) rfl ?_
  show Steps p.tables e below (T0.setTop (mkF m 9 #[.val (.int p1), .val (.int p2), .val (.long q3), .second, .val (.int ((p1 &&& (2147483647 : Int32)) % (524289 : Int32))), .unset, .unset, .unset, .unset, .unset, .unset, .unset, .unset] [])) _
  refine XS.iloadN X0.here hx rfl (hb hby at_9) rfl ?_
  show Steps p.tables e below (T0.setTop (mkF m 10 #[.val (.int p1), .val (.int p2), .val (.long q3), .second, .val (.int ((p1 &&& (2147483647 : Int32)) % (524289 : Int32))), .unset, .unset, .unset, .unset, .unset, .unset, .unset, .unset] [(.int p2)])) _
  refine XS.iconst X0.here hx rfl (hb hby at_10) ?_
  show Steps p.tables e below (T0.setTop (mkF m 11 #[.val (.int p1), .val (.int p2), .val (.long q3), .second, .val (.int ((p1 &&& (2147483647 : Int32)) % (524289 : Int32))), .unset, .unset, .unset, .unset, .unset, .unset, .unset, .unset] [(.int (1 : Int32)), (.int p2)])) _
  refine XS.iand X0.here hx rfl (hb hby at_11) rfl ?_
  show Steps p.tables e below (T0.setTop (mkF m 12 #[.val (.int p1), .val (.int p2), .val (.long q3), .second, .val (.int ((p1 &&& (2147483647 : Int32)) % (524289 : Int32))), .unset, .unset, .unset, .unset, .unset, .unset, .unset, .unset] [(.int (p2 &&& (1 : Int32)))])) _
  by_cases hc12 : (p2 &&& (1 : Int32)) = (0 : Int32)
  · refine XS.ifYes X0.here hx rfl (pc0 := 12) (pc' := 19) rfl (hb hby at_12) rfl ((if0 _ _).trans (teq hc12).1) (by decide) (by decide) ?_
    show Steps p.tables e below (T0.setTop (mkF m 19 #[.val (.int p1), .val (.int p2), .val (.long q3), .second, .val (.int ((p1 &&& (2147483647 : Int32)) % (524289 : Int32))), .unset, .unset, .unset, .unset, .unset, .unset, .unset, .unset] [])) _
    refine XS.iconst X0.here hx rfl (hb hby at_19) ?_
    show Steps p.tables e below (T0.setTop (mkF m 20 #[.val (.int p1), .val (.int p2), .val (.long q3), .second, .val (.int ((p1 &&& (2147483647 : Int32)) % (524289 : Int32))), .unset, .unset, .unset, .unset, .unset, .unset, .unset, .unset] [(.int (0 : Int32))])) _
    refine XS.istore X0.here hx rfl (hb hby at_20) rfl (l' := #[.val (.int p1), .val (.int p2), .val (.long q3), .second, .val (.int ((p1 &&& (2147483647 : Int32)) % (524289 : Int32))), .val (.int (0 : Int32)), .unset, .unset, .unset, .unset, .unset, .unset, .unset]) rfl ?_
    rw [k1 hc12] at kt
    exact kt
  · refine XS.ifNo X0.here hx rfl (hb hby at_12) rfl ((if0 _ _).trans (feq hc12).1) ?_
    show Steps p.tables e below (T0.setTop (mkF m 15 #[.val (.int p1), .val (.int p2), .val (.long q3), .second, .val (.int ((p1 &&& (2147483647 : Int32)) % (524289 : Int32))), .unset, .unset, .unset, .unset, .unset, .unset, .unset, .unset] [])) _
    refine XS.iconst X0.here hx rfl (hb hby at_15) ?_
    show Steps p.tables e below (T0.setTop (mkF m 16 #[.val (.int p1), .val (.int p2), .val (.long q3), .second, .val (.int ((p1 &&& (2147483647 : Int32)) % (524289 : Int32))), .unset, .unset, .unset, .unset, .unset, .unset, .unset, .unset] [(.int (1 : Int32))])) _
    refine XS.goto X0.here hx rfl (pc0 := 16) (pc' := 20) rfl (hb hby at_16) (by decide) (by decide) ?_
    show Steps p.tables e below (T0.setTop (mkF m 20 #[.val (.int p1), .val (.int p2), .val (.long q3), .second, .val (.int ((p1 &&& (2147483647 : Int32)) % (524289 : Int32))), .unset, .unset, .unset, .unset, .unset, .unset, .unset, .unset] [(.int (1 : Int32))])) _
    refine XS.istore X0.here hx rfl (hb hby at_20) rfl (l' := #[.val (.int p1), .val (.int p2), .val (.long q3), .second, .val (.int ((p1 &&& (2147483647 : Int32)) % (524289 : Int32))), .val (.int (1 : Int32)), .unset, .unset, .unset, .unset, .unset, .unset, .unset]) rfl ?_
    rw [k2 hc12] at kt
    exact kt
set_option maxRecDepth 65536 in
set_option maxHeartbeats 40000000 in
theorem segB {p : Program} {l : Launch} {e : Env} {R : Room} {s : State} {m : MethodId} {args : Array Value} {below : List Frame} {meth : Method} {c : Code} {T0 : State} {locs : List Loc} {cells slots : Nat} {Z : State} {a0 : Array Value} {h0 : Heap} (p1 : Int32) (p2 : Int32) (q3 : Int64) (v4 : Int32) (s5 : Slot) (r9 : Int64) 
    (X0 : Stand p l e R s m args below meth c T0 locs cells slots) (hx : p.tables.exec = Jvm.exec) (hZ : Z.Warmed39 s.vm) (hw : ∀ d ∈ tables_1, d.before a0 Z = true) (hby : c.code = code) (hml : c.maxLocals = 13) (hown : s.vm.findClass "com/example/tabularium/tabularium/siard/LobStorageInlineIfEachFitsPinLaw" = some m.cls) (e0 : T0.heap = h0) (k1 : ((((p2.toUInt32 >>> ((1 : Int32) &&& 31).toUInt32).toInt32) &&& (3 : Int32)) = (0 : Int32)) → r9 = q3) (k2 : ¬ ((((p2.toUInt32 >>> ((1 : Int32) &&& 31).toUInt32).toInt32) &&& (3 : Int32)) = (0 : Int32)) → ((((p2.toUInt32 >>> ((1 : Int32) &&& 31).toUInt32).toInt32) &&& (3 : Int32)) = (1 : Int32)) → r9 = ((v4.toInt64) + (q3 % (5 : Int64)))) (k3 : ¬ ((((p2.toUInt32 >>> ((1 : Int32) &&& 31).toUInt32).toInt32) &&& (3 : Int32)) = (0 : Int32)) → ¬ ((((p2.toUInt32 >>> ((1 : Int32) &&& 31).toUInt32).toInt32) &&& (3 : Int32)) = (1 : Int32)) → ((((p2.toUInt32 >>> ((1 : Int32) &&& 31).toUInt32).toInt32) &&& (3 : Int32)) = (2 : Int32)) → r9 = ((174762 : Int64) + (q3 % (5 : Int64)))) (k4 : ¬ ((((p2.toUInt32 >>> ((1 : Int32) &&& 31).toUInt32).toInt32) &&& (3 : Int32)) = (0 : Int32)) → ¬ ((((p2.toUInt32 >>> ((1 : Int32) &&& 31).toUInt32).toInt32) &&& (3 : Int32)) = (1 : Int32)) → ¬ ((((p2.toUInt32 >>> ((1 : Int32) &&& 31).toUInt32).toInt32) &&& (3 : Int32)) = (2 : Int32)) → r9 = (q3 % (5 : Int64))) {target : State}
    (kt : Steps p.tables e below (T0.setTop (mkF m 85 #[.val (.int p1), .val (.int p2), .val (.long q3), .second, .val (.int v4), s5, .val (.int (((p2.toUInt32 >>> ((1 : Int32) &&& 31).toUInt32).toInt32) &&& (3 : Int32))), .val (.long (q3 % (5 : Int64))), .second, .val (.long r9), .second, .unset, .unset] [])) target) : Steps p.tables e below (T0.setTop (mkF m 22 #[.val (.int p1), .val (.int p2), .val (.long q3), .second, .val (.int v4), s5, .unset, .unset, .unset, .unset, .unset, .unset, .unset] [])) target := by
  show Steps p.tables e below (T0.setTop (mkF m 22 #[.val (.int p1), .val (.int p2), .val (.long q3), .second, .val (.int v4), s5, .unset, .unset, .unset, .unset, .unset, .unset, .unset] [])) _
  refine XS.iloadN X0.here hx rfl (hb hby at_22) rfl ?_
  show Steps p.tables e below (T0.setTop (mkF m 23 #[.val (.int p1), .val (.int p2), .val (.long q3), .second, .val (.int v4), s5, .unset, .unset, .unset, .unset, .unset, .unset, .unset] [(.int p2)])) _
  refine XS.iconst X0.here hx rfl (hb hby at_23) ?_
  show Steps p.tables e below (T0.setTop (mkF m 24 #[.val (.int p1), .val (.int p2), .val (.long q3), .second, .val (.int v4), s5, .unset, .unset, .unset, .unset, .unset, .unset, .unset] [(.int (1 : Int32)), (.int p2)])) _
  refine XS.iushr X0.here hx rfl (hb hby at_24) rfl ?_
  show Steps p.tables e below (T0.setTop (mkF m 25 #[.val (.int p1), .val (.int p2), .val (.long q3), .second, .val (.int v4), s5, .unset, .unset, .unset, .unset, .unset, .unset, .unset] [(.int ((p2.toUInt32 >>> ((1 : Int32) &&& 31).toUInt32).toInt32))])) _
  refine XS.iconst X0.here hx rfl (hb hby at_25) ?_
  show Steps p.tables e below (T0.setTop (mkF m 26 #[.val (.int p1), .val (.int p2), .val (.long q3), .second, .val (.int v4), s5, .unset, .unset, .unset, .unset, .unset, .unset, .unset] [(.int (3 : Int32)), (.int ((p2.toUInt32 >>> ((1 : Int32) &&& 31).toUInt32).toInt32))])) _
  refine XS.iand X0.here hx rfl (hb hby at_26) rfl ?_
  show Steps p.tables e below (T0.setTop (mkF m 27 #[.val (.int p1), .val (.int p2), .val (.long q3), .second, .val (.int v4), s5, .unset, .unset, .unset, .unset, .unset, .unset, .unset] [(.int (((p2.toUInt32 >>> ((1 : Int32) &&& 31).toUInt32).toInt32) &&& (3 : Int32)))])) _
  refine XS.istore X0.here hx rfl (hb hby at_27) rfl (l' := #[.val (.int p1), .val (.int p2), .val (.long q3), .second, .val (.int v4), s5, .val (.int (((p2.toUInt32 >>> ((1 : Int32) &&& 31).toUInt32).toInt32) &&& (3 : Int32))), .unset, .unset, .unset, .unset, .unset, .unset]) rfl ?_
  show Steps p.tables e below (T0.setTop (mkF m 29 #[.val (.int p1), .val (.int p2), .val (.long q3), .second, .val (.int v4), s5, .val (.int (((p2.toUInt32 >>> ((1 : Int32) &&& 31).toUInt32).toInt32) &&& (3 : Int32))), .unset, .unset, .unset, .unset, .unset, .unset] [])) _
  refine XS.lloadN X0.here hx rfl (hb hby at_29) rfl ?_
  show Steps p.tables e below (T0.setTop (mkF m 30 #[.val (.int p1), .val (.int p2), .val (.long q3), .second, .val (.int v4), s5, .val (.int (((p2.toUInt32 >>> ((1 : Int32) &&& 31).toUInt32).toInt32) &&& (3 : Int32))), .unset, .unset, .unset, .unset, .unset, .unset] [(.long q3)])) _
  refine X0.ldc2Long hx hown (mvT hZ (hw _ (List.mem_of_getElem? (i := 2) rfl))) (g := (mkF m 30 #[.val (.int p1), .val (.int p2), .val (.long q3), .second, .val (.int v4), s5, .val (.int (((p2.toUInt32 >>> ((1 : Int32) &&& 31).toUInt32).toInt32) &&& (3 : Int32))), .unset, .unset, .unset, .unset, .unset, .unset] [(.long q3)])) rfl (hb hby at_30) _ ?_
  show Steps p.tables e below (T0.setTop (mkF m 33 #[.val (.int p1), .val (.int p2), .val (.long q3), .second, .val (.int v4), s5, .val (.int (((p2.toUInt32 >>> ((1 : Int32) &&& 31).toUInt32).toInt32) &&& (3 : Int32))), .unset, .unset, .unset, .unset, .unset, .unset] [(.long (5 : Int64)), (.long q3)])) _
  refine XS.lrem X0.here hx rfl (hb hby at_33) rfl (by decide) ?_
  rw [lrem_mod]
  show Steps p.tables e below (T0.setTop (mkF m 34 #[.val (.int p1), .val (.int p2), .val (.long q3), .second, .val (.int v4), s5, .val (.int (((p2.toUInt32 >>> ((1 : Int32) &&& 31).toUInt32).toInt32) &&& (3 : Int32))), .unset, .unset, .unset, .unset, .unset, .unset] [(.long (q3 % (5 : Int64)))])) _
  refine XS.lstore X0.here hx rfl (hb hby at_34) rfl (l' := #[.val (.int p1), .val (.int p2), .val (.long q3), .second, .val (.int v4), s5, .val (.int (((p2.toUInt32 >>> ((1 : Int32) &&& 31).toUInt32).toInt32) &&& (3 : Int32))), .val (.long (q3 % (5 : Int64))), .second, .unset, .unset, .unset, .unset]) rfl ?_
  show Steps p.tables e below (T0.setTop (mkF m 36 #[.val (.int p1), .val (.int p2), .val (.long q3), .second, .val (.int v4), s5, .val (.int (((p2.toUInt32 >>> ((1 : Int32) &&& 31).toUInt32).toInt32) &&& (3 : Int32))), .val (.long (q3 % (5 : Int64))), .second, .unset, .unset, .unset, .unset] [])) _
  refine XS.iload X0.here hx rfl (hb hby at_36) rfl ?_
  show Steps p.tables e below (T0.setTop (mkF m 38 #[.val (.int p1), .val (.int p2), .val (.long q3), .second, .val (.int v4), s5, .val (.int (((p2.toUInt32 >>> ((1 : Int32) &&& 31).toUInt32).toInt32) &&& (3 : Int32))), .val (.long (q3 % (5 : Int64))), .second, .unset, .unset, .unset, .unset] [(.int (((p2.toUInt32 >>> ((1 : Int32) &&& 31).toUInt32).toInt32) &&& (3 : Int32)))])) _
  by_cases hc38 : (((p2.toUInt32 >>> ((1 : Int32) &&& 31).toUInt32).toInt32) &&& (3 : Int32)) = (0 : Int32)
  · refine XS.ifNo X0.here hx rfl (hb hby at_38) rfl ((if0 _ _).trans (teq hc38).2) ?_
    show Steps p.tables e below (T0.setTop (mkF m 41 #[.val (.int p1), .val (.int p2), .val (.long q3), .second, .val (.int v4), s5, .val (.int (((p2.toUInt32 >>> ((1 : Int32) &&& 31).toUInt32).toInt32) &&& (3 : Int32))), .val (.long (q3 % (5 : Int64))), .second, .unset, .unset, .unset, .unset] [])) _
    refine XS.lloadN X0.here hx rfl (hb hby at_41) rfl ?_
    show Steps p.tables e below (T0.setTop (mkF m 42 #[.val (.int p1), .val (.int p2), .val (.long q3), .second, .val (.int v4), s5, .val (.int (((p2.toUInt32 >>> ((1 : Int32) &&& 31).toUInt32).toInt32) &&& (3 : Int32))), .val (.long (q3 % (5 : Int64))), .second, .unset, .unset, .unset, .unset] [(.long q3)])) _
    refine XS.lstore X0.here hx rfl (hb hby at_42) rfl (l' := #[.val (.int p1), .val (.int p2), .val (.long q3), .second, .val (.int v4), s5, .val (.int (((p2.toUInt32 >>> ((1 : Int32) &&& 31).toUInt32).toInt32) &&& (3 : Int32))), .val (.long (q3 % (5 : Int64))), .second, .val (.long q3), .second, .unset, .unset]) rfl ?_
    show Steps p.tables e below (T0.setTop (mkF m 44 #[.val (.int p1), .val (.int p2), .val (.long q3), .second, .val (.int v4), s5, .val (.int (((p2.toUInt32 >>> ((1 : Int32) &&& 31).toUInt32).toInt32) &&& (3 : Int32))), .val (.long (q3 % (5 : Int64))), .second, .val (.long q3), .second, .unset, .unset] [])) _
    refine XS.goto X0.here hx rfl (pc0 := 44) (pc' := 85) rfl (hb hby at_44) (by decide) (by decide) ?_
    rw [k1 hc38] at kt
    exact kt
  · refine XS.ifYes X0.here hx rfl (pc0 := 38) (pc' := 47) rfl (hb hby at_38) rfl ((if0 _ _).trans (feq hc38).2) (by decide) (by decide) ?_
    show Steps p.tables e below (T0.setTop (mkF m 47 #[.val (.int p1), .val (.int p2), .val (.long q3), .second, .val (.int v4), s5, .val (.int (((p2.toUInt32 >>> ((1 : Int32) &&& 31).toUInt32).toInt32) &&& (3 : Int32))), .val (.long (q3 % (5 : Int64))), .second, .unset, .unset, .unset, .unset] [])) _
    refine XS.iload X0.here hx rfl (hb hby at_47) rfl ?_
    show Steps p.tables e below (T0.setTop (mkF m 49 #[.val (.int p1), .val (.int p2), .val (.long q3), .second, .val (.int v4), s5, .val (.int (((p2.toUInt32 >>> ((1 : Int32) &&& 31).toUInt32).toInt32) &&& (3 : Int32))), .val (.long (q3 % (5 : Int64))), .second, .unset, .unset, .unset, .unset] [(.int (((p2.toUInt32 >>> ((1 : Int32) &&& 31).toUInt32).toInt32) &&& (3 : Int32)))])) _
    refine XS.iconst X0.here hx rfl (hb hby at_49) ?_
    show Steps p.tables e below (T0.setTop (mkF m 50 #[.val (.int p1), .val (.int p2), .val (.long q3), .second, .val (.int v4), s5, .val (.int (((p2.toUInt32 >>> ((1 : Int32) &&& 31).toUInt32).toInt32) &&& (3 : Int32))), .val (.long (q3 % (5 : Int64))), .second, .unset, .unset, .unset, .unset] [(.int (1 : Int32)), (.int (((p2.toUInt32 >>> ((1 : Int32) &&& 31).toUInt32).toInt32) &&& (3 : Int32)))])) _
    by_cases hc50 : (((p2.toUInt32 >>> ((1 : Int32) &&& 31).toUInt32).toInt32) &&& (3 : Int32)) = (1 : Int32)
    · refine XS.icmpNo X0.here hx rfl (hb hby at_50) rfl (teq hc50).2 ?_
      show Steps p.tables e below (T0.setTop (mkF m 53 #[.val (.int p1), .val (.int p2), .val (.long q3), .second, .val (.int v4), s5, .val (.int (((p2.toUInt32 >>> ((1 : Int32) &&& 31).toUInt32).toInt32) &&& (3 : Int32))), .val (.long (q3 % (5 : Int64))), .second, .unset, .unset, .unset, .unset] [])) _
      refine XS.iload X0.here hx rfl (hb hby at_53) rfl ?_
      show Steps p.tables e below (T0.setTop (mkF m 55 #[.val (.int p1), .val (.int p2), .val (.long q3), .second, .val (.int v4), s5, .val (.int (((p2.toUInt32 >>> ((1 : Int32) &&& 31).toUInt32).toInt32) &&& (3 : Int32))), .val (.long (q3 % (5 : Int64))), .second, .unset, .unset, .unset, .unset] [(.int v4)])) _
      refine XS.i2l X0.here hx rfl (hb hby at_55) rfl ?_
      show Steps p.tables e below (T0.setTop (mkF m 56 #[.val (.int p1), .val (.int p2), .val (.long q3), .second, .val (.int v4), s5, .val (.int (((p2.toUInt32 >>> ((1 : Int32) &&& 31).toUInt32).toInt32) &&& (3 : Int32))), .val (.long (q3 % (5 : Int64))), .second, .unset, .unset, .unset, .unset] [(.long (v4.toInt64))])) _
      refine XS.lload X0.here hx rfl (hb hby at_56) rfl ?_
      show Steps p.tables e below (T0.setTop (mkF m 58 #[.val (.int p1), .val (.int p2), .val (.long q3), .second, .val (.int v4), s5, .val (.int (((p2.toUInt32 >>> ((1 : Int32) &&& 31).toUInt32).toInt32) &&& (3 : Int32))), .val (.long (q3 % (5 : Int64))), .second, .unset, .unset, .unset, .unset] [(.long (q3 % (5 : Int64))), (.long (v4.toInt64))])) _
      refine XS.ladd X0.here hx rfl (hb hby at_58) rfl ?_
      show Steps p.tables e below (T0.setTop (mkF m 59 #[.val (.int p1), .val (.int p2), .val (.long q3), .second, .val (.int v4), s5, .val (.int (((p2.toUInt32 >>> ((1 : Int32) &&& 31).toUInt32).toInt32) &&& (3 : Int32))), .val (.long (q3 % (5 : Int64))), .second, .unset, .unset, .unset, .unset] [(.long ((v4.toInt64) + (q3 % (5 : Int64))))])) _
      refine XS.lstore X0.here hx rfl (hb hby at_59) rfl (l' := #[.val (.int p1), .val (.int p2), .val (.long q3), .second, .val (.int v4), s5, .val (.int (((p2.toUInt32 >>> ((1 : Int32) &&& 31).toUInt32).toInt32) &&& (3 : Int32))), .val (.long (q3 % (5 : Int64))), .second, .val (.long ((v4.toInt64) + (q3 % (5 : Int64)))), .second, .unset, .unset]) rfl ?_
      show Steps p.tables e below (T0.setTop (mkF m 61 #[.val (.int p1), .val (.int p2), .val (.long q3), .second, .val (.int v4), s5, .val (.int (((p2.toUInt32 >>> ((1 : Int32) &&& 31).toUInt32).toInt32) &&& (3 : Int32))), .val (.long (q3 % (5 : Int64))), .second, .val (.long ((v4.toInt64) + (q3 % (5 : Int64)))), .second, .unset, .unset] [])) _
      refine XS.goto X0.here hx rfl (pc0 := 61) (pc' := 85) rfl (hb hby at_61) (by decide) (by decide) ?_
      rw [k2 hc38 hc50] at kt
      exact kt
    · refine XS.icmpYes X0.here hx rfl (pc0 := 50) (pc' := 64) rfl (hb hby at_50) rfl (feq hc50).2 (by decide) (by decide) ?_
      show Steps p.tables e below (T0.setTop (mkF m 64 #[.val (.int p1), .val (.int p2), .val (.long q3), .second, .val (.int v4), s5, .val (.int (((p2.toUInt32 >>> ((1 : Int32) &&& 31).toUInt32).toInt32) &&& (3 : Int32))), .val (.long (q3 % (5 : Int64))), .second, .unset, .unset, .unset, .unset] [])) _
      refine XS.iload X0.here hx rfl (hb hby at_64) rfl ?_
      show Steps p.tables e below (T0.setTop (mkF m 66 #[.val (.int p1), .val (.int p2), .val (.long q3), .second, .val (.int v4), s5, .val (.int (((p2.toUInt32 >>> ((1 : Int32) &&& 31).toUInt32).toInt32) &&& (3 : Int32))), .val (.long (q3 % (5 : Int64))), .second, .unset, .unset, .unset, .unset] [(.int (((p2.toUInt32 >>> ((1 : Int32) &&& 31).toUInt32).toInt32) &&& (3 : Int32)))])) _
      refine XS.iconst X0.here hx rfl (hb hby at_66) ?_
      show Steps p.tables e below (T0.setTop (mkF m 67 #[.val (.int p1), .val (.int p2), .val (.long q3), .second, .val (.int v4), s5, .val (.int (((p2.toUInt32 >>> ((1 : Int32) &&& 31).toUInt32).toInt32) &&& (3 : Int32))), .val (.long (q3 % (5 : Int64))), .second, .unset, .unset, .unset, .unset] [(.int (2 : Int32)), (.int (((p2.toUInt32 >>> ((1 : Int32) &&& 31).toUInt32).toInt32) &&& (3 : Int32)))])) _
      by_cases hc67 : (((p2.toUInt32 >>> ((1 : Int32) &&& 31).toUInt32).toInt32) &&& (3 : Int32)) = (2 : Int32)
      · refine XS.icmpNo X0.here hx rfl (hb hby at_67) rfl (teq hc67).2 ?_
        show Steps p.tables e below (T0.setTop (mkF m 70 #[.val (.int p1), .val (.int p2), .val (.long q3), .second, .val (.int v4), s5, .val (.int (((p2.toUInt32 >>> ((1 : Int32) &&& 31).toUInt32).toInt32) &&& (3 : Int32))), .val (.long (q3 % (5 : Int64))), .second, .unset, .unset, .unset, .unset] [])) _
        refine X0.ldc2Long hx hown (mvT hZ (hw _ (List.mem_of_getElem? (i := 30) rfl))) (g := (mkF m 70 #[.val (.int p1), .val (.int p2), .val (.long q3), .second, .val (.int v4), s5, .val (.int (((p2.toUInt32 >>> ((1 : Int32) &&& 31).toUInt32).toInt32) &&& (3 : Int32))), .val (.long (q3 % (5 : Int64))), .second, .unset, .unset, .unset, .unset] [])) rfl (hb hby at_70) _ ?_
        show Steps p.tables e below (T0.setTop (mkF m 73 #[.val (.int p1), .val (.int p2), .val (.long q3), .second, .val (.int v4), s5, .val (.int (((p2.toUInt32 >>> ((1 : Int32) &&& 31).toUInt32).toInt32) &&& (3 : Int32))), .val (.long (q3 % (5 : Int64))), .second, .unset, .unset, .unset, .unset] [(.long (174762 : Int64))])) _
        refine XS.lload X0.here hx rfl (hb hby at_73) rfl ?_
        show Steps p.tables e below (T0.setTop (mkF m 75 #[.val (.int p1), .val (.int p2), .val (.long q3), .second, .val (.int v4), s5, .val (.int (((p2.toUInt32 >>> ((1 : Int32) &&& 31).toUInt32).toInt32) &&& (3 : Int32))), .val (.long (q3 % (5 : Int64))), .second, .unset, .unset, .unset, .unset] [(.long (q3 % (5 : Int64))), (.long (174762 : Int64))])) _
        refine XS.ladd X0.here hx rfl (hb hby at_75) rfl ?_
        show Steps p.tables e below (T0.setTop (mkF m 76 #[.val (.int p1), .val (.int p2), .val (.long q3), .second, .val (.int v4), s5, .val (.int (((p2.toUInt32 >>> ((1 : Int32) &&& 31).toUInt32).toInt32) &&& (3 : Int32))), .val (.long (q3 % (5 : Int64))), .second, .unset, .unset, .unset, .unset] [(.long ((174762 : Int64) + (q3 % (5 : Int64))))])) _
        refine XS.lstore X0.here hx rfl (hb hby at_76) rfl (l' := #[.val (.int p1), .val (.int p2), .val (.long q3), .second, .val (.int v4), s5, .val (.int (((p2.toUInt32 >>> ((1 : Int32) &&& 31).toUInt32).toInt32) &&& (3 : Int32))), .val (.long (q3 % (5 : Int64))), .second, .val (.long ((174762 : Int64) + (q3 % (5 : Int64)))), .second, .unset, .unset]) rfl ?_
        show Steps p.tables e below (T0.setTop (mkF m 78 #[.val (.int p1), .val (.int p2), .val (.long q3), .second, .val (.int v4), s5, .val (.int (((p2.toUInt32 >>> ((1 : Int32) &&& 31).toUInt32).toInt32) &&& (3 : Int32))), .val (.long (q3 % (5 : Int64))), .second, .val (.long ((174762 : Int64) + (q3 % (5 : Int64)))), .second, .unset, .unset] [])) _
        refine XS.goto X0.here hx rfl (pc0 := 78) (pc' := 85) rfl (hb hby at_78) (by decide) (by decide) ?_
        rw [k3 hc38 hc50 hc67] at kt
        exact kt
      · refine XS.icmpYes X0.here hx rfl (pc0 := 67) (pc' := 81) rfl (hb hby at_67) rfl (feq hc67).2 (by decide) (by decide) ?_
        show Steps p.tables e below (T0.setTop (mkF m 81 #[.val (.int p1), .val (.int p2), .val (.long q3), .second, .val (.int v4), s5, .val (.int (((p2.toUInt32 >>> ((1 : Int32) &&& 31).toUInt32).toInt32) &&& (3 : Int32))), .val (.long (q3 % (5 : Int64))), .second, .unset, .unset, .unset, .unset] [])) _
        refine XS.lload X0.here hx rfl (hb hby at_81) rfl ?_
        show Steps p.tables e below (T0.setTop (mkF m 83 #[.val (.int p1), .val (.int p2), .val (.long q3), .second, .val (.int v4), s5, .val (.int (((p2.toUInt32 >>> ((1 : Int32) &&& 31).toUInt32).toInt32) &&& (3 : Int32))), .val (.long (q3 % (5 : Int64))), .second, .unset, .unset, .unset, .unset] [(.long (q3 % (5 : Int64)))])) _
        refine XS.lstore X0.here hx rfl (hb hby at_83) rfl (l' := #[.val (.int p1), .val (.int p2), .val (.long q3), .second, .val (.int v4), s5, .val (.int (((p2.toUInt32 >>> ((1 : Int32) &&& 31).toUInt32).toInt32) &&& (3 : Int32))), .val (.long (q3 % (5 : Int64))), .second, .val (.long (q3 % (5 : Int64))), .second, .unset, .unset]) rfl ?_
        rw [k4 hc38 hc50 hc67] at kt
        exact kt
set_option maxRecDepth 65536 in
set_option maxHeartbeats 40000000 in
theorem segC {p : Program} {l : Launch} {e : Env} {R : Room} {s : State} {m : MethodId} {args : Array Value} {below : List Frame} {meth : Method} {c : Code} {T0 : State} {locs : List Loc} {cells slots : Nat} {Z : State} {a0 : Array Value} {h0 : Heap} (p1 : Int32) (p2 : Int32) (q3 : Int64) (v4 : Int32) (s5 : Slot) (s6 : Slot) (q7 : Int64) (q9 : Int64) (s11 : Slot) (r12 : Int32) 
    (X0 : Stand p l e R s m args below meth c T0 locs cells slots) (hx : p.tables.exec = Jvm.exec) (hZ : Z.Warmed39 s.vm) (hw : ∀ d ∈ tables_1, d.before a0 Z = true) (hby : c.code = code) (hml : c.maxLocals = 13) (hown : s.vm.findClass "com/example/tabularium/tabularium/siard/LobStorageInlineIfEachFitsPinLaw" = some m.cls) (e0 : T0.heap = h0) (k1 : ((0 : Int64) < q9) → ((v4.toInt64) < q9) → r12 = (0 : Int32)) (k2 : ((0 : Int64) < q9) → ¬ ((v4.toInt64) < q9) → ((1048576 : Int64) < ((6 : Int64) * q9)) → r12 = (1 : Int32)) (k3 : ((0 : Int64) < q9) → ¬ ((v4.toInt64) < q9) → ¬ ((1048576 : Int64) < ((6 : Int64) * q9)) → r12 = (0 : Int32)) (k4 : ¬ ((0 : Int64) < q9) → r12 = (0 : Int32)) {target : State}
    (kt : Steps p.tables e below (T0.setTop (mkF m 134 #[.val (.int p1), .val (.int p2), .val (.long q3), .second, .val (.int v4), s5, s6, .val (.long q7), .second, .val (.long q9), .second, s11, .val (.int r12)] [])) target) : Steps p.tables e below (T0.setTop (mkF m 98 #[.val (.int p1), .val (.int p2), .val (.long q3), .second, .val (.int v4), s5, s6, .val (.long q7), .second, .val (.long q9), .second, s11, .unset] [])) target := by
  show Steps p.tables e below (T0.setTop (mkF m 98 #[.val (.int p1), .val (.int p2), .val (.long q3), .second, .val (.int v4), s5, s6, .val (.long q7), .second, .val (.long q9), .second, s11, .unset] [])) _
  refine XS.lload X0.here hx rfl (hb hby at_98) rfl ?_
  show Steps p.tables e below (T0.setTop (mkF m 100 #[.val (.int p1), .val (.int p2), .val (.long q3), .second, .val (.int v4), s5, s6, .val (.long q7), .second, .val (.long q9), .second, s11, .unset] [(.long q9)])) _
  refine XS.lconst X0.here hx rfl (hb hby at_100) ?_
  show Steps p.tables e below (T0.setTop (mkF m 101 #[.val (.int p1), .val (.int p2), .val (.long q3), .second, .val (.int v4), s5, s6, .val (.long q7), .second, .val (.long q9), .second, s11, .unset] [(.long (0 : Int64)), (.long q9)])) _
  refine XS.lcmp X0.here hx rfl (hb hby at_101) rfl ?_
  show Steps p.tables e below (T0.setTop (mkF m 102 #[.val (.int p1), .val (.int p2), .val (.long q3), .second, .val (.int v4), s5, s6, .val (.long q7), .second, .val (.long q9), .second, s11, .unset] [(.int (lcmpW q9 (0 : Int64)))])) _
  by_cases hc102 : (0 : Int64) < q9
  · refine XS.ifNo X0.here hx rfl (hb hby at_102) rfl ((if0 _ _).trans (tlt ((lw_gt q9 (0 : Int64)).mpr hc102)).2.2.2) ?_
    show Steps p.tables e below (T0.setTop (mkF m 105 #[.val (.int p1), .val (.int p2), .val (.long q3), .second, .val (.int v4), s5, s6, .val (.long q7), .second, .val (.long q9), .second, s11, .unset] [])) _
    refine XS.lload X0.here hx rfl (hb hby at_105) rfl ?_
    show Steps p.tables e below (T0.setTop (mkF m 107 #[.val (.int p1), .val (.int p2), .val (.long q3), .second, .val (.int v4), s5, s6, .val (.long q7), .second, .val (.long q9), .second, s11, .unset] [(.long q9)])) _
    refine XS.iload X0.here hx rfl (hb hby at_107) rfl ?_
    show Steps p.tables e below (T0.setTop (mkF m 109 #[.val (.int p1), .val (.int p2), .val (.long q3), .second, .val (.int v4), s5, s6, .val (.long q7), .second, .val (.long q9), .second, s11, .unset] [(.int v4), (.long q9)])) _
    refine XS.i2l X0.here hx rfl (hb hby at_109) rfl ?_
    show Steps p.tables e below (T0.setTop (mkF m 110 #[.val (.int p1), .val (.int p2), .val (.long q3), .second, .val (.int v4), s5, s6, .val (.long q7), .second, .val (.long q9), .second, s11, .unset] [(.long (v4.toInt64)), (.long q9)])) _
    refine XS.lcmp X0.here hx rfl (hb hby at_110) rfl ?_
    show Steps p.tables e below (T0.setTop (mkF m 111 #[.val (.int p1), .val (.int p2), .val (.long q3), .second, .val (.int v4), s5, s6, .val (.long q7), .second, .val (.long q9), .second, s11, .unset] [(.int (lcmpW q9 (v4.toInt64)))])) _
    by_cases hc111 : (v4.toInt64) < q9
    · refine XS.ifYes X0.here hx rfl (pc0 := 111) (pc' := 131) rfl (hb hby at_111) rfl ((if0 _ _).trans (tlt ((lw_gt q9 (v4.toInt64)).mpr hc111)).2.2.1) (by decide) (by decide) ?_
      show Steps p.tables e below (T0.setTop (mkF m 131 #[.val (.int p1), .val (.int p2), .val (.long q3), .second, .val (.int v4), s5, s6, .val (.long q7), .second, .val (.long q9), .second, s11, .unset] [])) _
      refine XS.iconst X0.here hx rfl (hb hby at_131) ?_
      show Steps p.tables e below (T0.setTop (mkF m 132 #[.val (.int p1), .val (.int p2), .val (.long q3), .second, .val (.int v4), s5, s6, .val (.long q7), .second, .val (.long q9), .second, s11, .unset] [(.int (0 : Int32))])) _
      refine XS.istore X0.here hx rfl (hb hby at_132) rfl (l' := #[.val (.int p1), .val (.int p2), .val (.long q3), .second, .val (.int v4), s5, s6, .val (.long q7), .second, .val (.long q9), .second, s11, .val (.int (0 : Int32))]) rfl ?_
      rw [k1 hc102 hc111] at kt
      exact kt
    · refine XS.ifNo X0.here hx rfl (hb hby at_111) rfl ((if0 _ _).trans (flt (mt (lw_gt q9 (v4.toInt64)).mp hc111)).2.2.1) ?_
      show Steps p.tables e below (T0.setTop (mkF m 114 #[.val (.int p1), .val (.int p2), .val (.long q3), .second, .val (.int v4), s5, s6, .val (.long q7), .second, .val (.long q9), .second, s11, .unset] [])) _
      refine X0.ldc2Long hx hown (mvT hZ (hw _ (List.mem_of_getElem? (i := 28) rfl))) (g := (mkF m 114 #[.val (.int p1), .val (.int p2), .val (.long q3), .second, .val (.int v4), s5, s6, .val (.long q7), .second, .val (.long q9), .second, s11, .unset] [])) rfl (hb hby at_114) _ ?_
      show Steps p.tables e below (T0.setTop (mkF m 117 #[.val (.int p1), .val (.int p2), .val (.long q3), .second, .val (.int v4), s5, s6, .val (.long q7), .second, .val (.long q9), .second, s11, .unset] [(.long (6 : Int64))])) _
      refine XS.lload X0.here hx rfl (hb hby at_117) rfl ?_
      show Steps p.tables e below (T0.setTop (mkF m 119 #[.val (.int p1), .val (.int p2), .val (.long q3), .second, .val (.int v4), s5, s6, .val (.long q7), .second, .val (.long q9), .second, s11, .unset] [(.long q9), (.long (6 : Int64))])) _
      refine XS.lmul X0.here hx rfl (hb hby at_119) rfl ?_
      show Steps p.tables e below (T0.setTop (mkF m 120 #[.val (.int p1), .val (.int p2), .val (.long q3), .second, .val (.int v4), s5, s6, .val (.long q7), .second, .val (.long q9), .second, s11, .unset] [(.long ((6 : Int64) * q9))])) _
      refine X0.ldc2Long hx hown (mvT hZ (hw _ (List.mem_of_getElem? (i := 29) rfl))) (g := (mkF m 120 #[.val (.int p1), .val (.int p2), .val (.long q3), .second, .val (.int v4), s5, s6, .val (.long q7), .second, .val (.long q9), .second, s11, .unset] [(.long ((6 : Int64) * q9))])) rfl (hb hby at_120) _ ?_
      show Steps p.tables e below (T0.setTop (mkF m 123 #[.val (.int p1), .val (.int p2), .val (.long q3), .second, .val (.int v4), s5, s6, .val (.long q7), .second, .val (.long q9), .second, s11, .unset] [(.long (1048576 : Int64)), (.long ((6 : Int64) * q9))])) _
      refine XS.lcmp X0.here hx rfl (hb hby at_123) rfl ?_
      show Steps p.tables e below (T0.setTop (mkF m 124 #[.val (.int p1), .val (.int p2), .val (.long q3), .second, .val (.int v4), s5, s6, .val (.long q7), .second, .val (.long q9), .second, s11, .unset] [(.int (lcmpW ((6 : Int64) * q9) (1048576 : Int64)))])) _
      by_cases hc124 : (1048576 : Int64) < ((6 : Int64) * q9)
      · refine XS.ifNo X0.here hx rfl (hb hby at_124) rfl ((if0 _ _).trans (tlt ((lw_gt ((6 : Int64) * q9) (1048576 : Int64)).mpr hc124)).2.2.2) ?_
        show Steps p.tables e below (T0.setTop (mkF m 127 #[.val (.int p1), .val (.int p2), .val (.long q3), .second, .val (.int v4), s5, s6, .val (.long q7), .second, .val (.long q9), .second, s11, .unset] [])) _
        refine XS.iconst X0.here hx rfl (hb hby at_127) ?_
        show Steps p.tables e below (T0.setTop (mkF m 128 #[.val (.int p1), .val (.int p2), .val (.long q3), .second, .val (.int v4), s5, s6, .val (.long q7), .second, .val (.long q9), .second, s11, .unset] [(.int (1 : Int32))])) _
        refine XS.goto X0.here hx rfl (pc0 := 128) (pc' := 132) rfl (hb hby at_128) (by decide) (by decide) ?_
        show Steps p.tables e below (T0.setTop (mkF m 132 #[.val (.int p1), .val (.int p2), .val (.long q3), .second, .val (.int v4), s5, s6, .val (.long q7), .second, .val (.long q9), .second, s11, .unset] [(.int (1 : Int32))])) _
        refine XS.istore X0.here hx rfl (hb hby at_132) rfl (l' := #[.val (.int p1), .val (.int p2), .val (.long q3), .second, .val (.int v4), s5, s6, .val (.long q7), .second, .val (.long q9), .second, s11, .val (.int (1 : Int32))]) rfl ?_
        rw [k2 hc102 hc111 hc124] at kt
        exact kt
      · refine XS.ifYes X0.here hx rfl (pc0 := 124) (pc' := 131) rfl (hb hby at_124) rfl ((if0 _ _).trans (flt (mt (lw_gt ((6 : Int64) * q9) (1048576 : Int64)).mp hc124)).2.2.2) (by decide) (by decide) ?_
        show Steps p.tables e below (T0.setTop (mkF m 131 #[.val (.int p1), .val (.int p2), .val (.long q3), .second, .val (.int v4), s5, s6, .val (.long q7), .second, .val (.long q9), .second, s11, .unset] [])) _
        refine XS.iconst X0.here hx rfl (hb hby at_131) ?_
        show Steps p.tables e below (T0.setTop (mkF m 132 #[.val (.int p1), .val (.int p2), .val (.long q3), .second, .val (.int v4), s5, s6, .val (.long q7), .second, .val (.long q9), .second, s11, .unset] [(.int (0 : Int32))])) _
        refine XS.istore X0.here hx rfl (hb hby at_132) rfl (l' := #[.val (.int p1), .val (.int p2), .val (.long q3), .second, .val (.int v4), s5, s6, .val (.long q7), .second, .val (.long q9), .second, s11, .val (.int (0 : Int32))]) rfl ?_
        rw [k3 hc102 hc111 hc124] at kt
        exact kt
  · refine XS.ifYes X0.here hx rfl (pc0 := 102) (pc' := 131) rfl (hb hby at_102) rfl ((if0 _ _).trans (flt (mt (lw_gt q9 (0 : Int64)).mp hc102)).2.2.2) (by decide) (by decide) ?_
    show Steps p.tables e below (T0.setTop (mkF m 131 #[.val (.int p1), .val (.int p2), .val (.long q3), .second, .val (.int v4), s5, s6, .val (.long q7), .second, .val (.long q9), .second, s11, .unset] [])) _
    refine XS.iconst X0.here hx rfl (hb hby at_131) ?_
    show Steps p.tables e below (T0.setTop (mkF m 132 #[.val (.int p1), .val (.int p2), .val (.long q3), .second, .val (.int v4), s5, s6, .val (.long q7), .second, .val (.long q9), .second, s11, .unset] [(.int (0 : Int32))])) _
    refine XS.istore X0.here hx rfl (hb hby at_132) rfl (l' := #[.val (.int p1), .val (.int p2), .val (.long q3), .second, .val (.int v4), s5, s6, .val (.long q7), .second, .val (.long q9), .second, s11, .val (.int (0 : Int32))]) rfl ?_
    rw [k4 hc102] at kt
    exact kt
theorem pn_0 : plainName "com/example/tabularium/tabularium/siard/LobStorageInlineIfEachFitsPinLaw" = true := by first | (simp [plainName, overriddenIn]; done) | decide +kernel
theorem ef_0 (m : MethodId) (p1 : Int32) (p2 : Int32) (q3 : Int64) : entryFrame m #[(.int p1), (.int p2), (.long q3)] maxLocals = mkF m 0 #[.val (.int p1), .val (.int p2), .val (.long q3), .second, .unset, .unset, .unset, .unset, .unset, .unset, .unset, .unset, .unset] [] := by first | (simp [entryFrame, mkF, argsToLocals, Value.category, maxLocals]; done) | rfl
theorem pd_0_0 : parseMethodDescriptor "(IZ)V" = some ⟨[.int, .boolean], none⟩ := by decide +kernel
theorem pd_0_1 : parseMethodDescriptor "(J)Z" = some ⟨[.long], some .boolean⟩ := by decide +kernel
def Q0 (h0 : Heap) (n0 : Nat) (v : Option Value) (h : Heap) (L : List Loc) : Prop := v = some (.int (1 : Int32)) ∧ Fr n0 L
set_option maxRecDepth 65536 in
set_option maxHeartbeats 40000000 in
theorem rm0 (l : Launch) (Z : State) (a0 : Array Value) (hw : ∀ d ∈ tables_1, d.before a0 Z = true) (ws : List Jvm.Cond) (p1 : Int32) (p2 : Int32) (q3 : Int64) (h0 : Heap) (n0 : Nat) (Z0 : n0 ≤ h0.size) :
    MetFree l x (head1 (Jvm.Cond.code x code maxLocals ret :: ws) room_1) (fun a U => a = #[(.int p1), (.int p2), (.long q3)] ∧ Z.Warmed39 U.vm ∧ U.heap = h0) (fun _ _ _ _ _ => True) (fun _ U o U' => ∃ v L, o = .returned v ∧ Q0 h0 n0 v U'.heap L ∧ FrameEnd U o U' L room_1.cells room_1.slots) := by
  refine MetFree.of_bodySF (plainFor_of_name pn_0) hisR ?_
  intro p e s m args below meth c s₁ Bd hml0 hP hK
  obtain ⟨rfl, hZ, hh⟩ := hP
  have hx := Bd.exec
  have hby := Bd.bytes
  have hml : c.maxLocals = 13 := hml0
  have hown : s.vm.findClass "com/example/tabularium/tabularium/siard/LobStorageInlineIfEachFitsPinLaw" = some m.cls := findClass_of_methodNamed Bd.named
  have hnm := (name_of_methodNamed Bd.named Bd.method).1
  have X0 : Stand p l e room_1 s m #[(.int p1), (.int p2), (.long q3)] below meth c s₁ [] 0 0 := Stand.of_body Bd
  have e0 : s₁.heap = h0 := by rw [← hh, Bd.state]; rfl
  have N0 := Fr.nil n0
  have pre0 : ∀ t, Steps p.tables e below (s₁.setTop (mkF m 0 #[.val (.int p1), .val (.int p2), .val (.long q3), .second, .unset, .unset, .unset, .unset, .unset, .unset, .unset, .unset, .unset] [])) t → Steps p.tables e below (s₁.setTop (entryFrame m #[(.int p1), (.int p2), (.long q3)] maxLocals)) t := fun t k => castTop (ef_0 m p1 p2 q3) k
  obtain ⟨T1, h1, X1, e1, E1, A1, D1, -, st1⟩ := newO X0 hx hZ hown (hw _ (List.mem_of_getElem? (i := 3) rfl)) (hw _ (List.mem_of_getElem? (i := 4) rfl)) (hw _ (List.mem_of_getElem? (i := 5) rfl)) e0 (g := (mkF m 85 #[.val (.int p1), .val (.int p2), .val (.long q3), .second, .val (.int ((p1 &&& (2147483647 : Int32)) % (524289 : Int32))), .val (.int (own_out p2)), .val (.int (((p2.toUInt32 >>> ((1 : Int32) &&& 31).toUInt32).toInt32) &&& (3 : Int32))), .val (.long (q3 % (5 : Int64))), .second, .val (.long (own_big ((p1 &&& (2147483647 : Int32)) % (524289 : Int32)) p2 q3)), .second, .unset, .unset] [])) rfl (hb hby at_85) (by decide) (by decide)
  obtain ⟨b1, g1⟩ : ∃ z, z = h0.size := ⟨_, rfl⟩
  rw [← g1] at A1 D1 st1
  have F1 : Fld Z h1 b1 "com/example/tabularium/tabularium/siard/LobStorage" "inlineLimit" "I" (.int (0 : Int32)) := D1 (Or.inr (hw _ (List.mem_of_getElem? (i := 19) rfl))) (ty := .int) (by decide)
  have F2 : Fld Z h1 b1 "com/example/tabularium/tabularium/siard/LobStorage" "outside" "Z" (.int (0 : Int32)) := D1 (Or.inr (hw _ (List.mem_of_getElem? (i := 21) rfl))) (ty := .boolean) (by decide)
  have Z1 : n0 ≤ h1.size := Nat.le_trans Z0 E1.1
  have ga : n0 ≤ b1 := Nat.le_trans Z0 (Nat.le_of_eq g1.symm)
  obtain ⟨_, _, ⟨T2, L2, k2, n2⟩, -, X2, ⟨Lc2, hQ2, l2, y2, z2⟩, st2⟩ := X1.specialBack hx (y := (⟨"com/example/tabularium/tabularium/siard/LobStorage", "<init>", "(IZ)V"⟩ : MethodName)) rfl hown (mvT hZ (hw _ (List.mem_of_getElem? (i := 6) rfl))) (mvT hZ (hw _ (List.mem_of_getElem? (i := 7) rfl))) (mvT hZ (hw _ (List.mem_of_getElem? (i := 8) rfl))) (by decide) (backOf (W := 1) (rm1 l Z a0 hw [] b1 ((p1 &&& (2147483647 : Int32)) % (524289 : Int32)) (own_out p2) h1 n0 Z1 (own_l1 p1) (own_l2 p1) A1 F1 F2 ga) hZ (hw _ (List.mem_of_getElem? (i := 8) rfl)) (hw _ (List.mem_of_getElem? (i := 5) rfl)) (by decide) (by decide)) (g := (mkF m 93 #[.val (.int p1), .val (.int p2), .val (.long q3), .second, .val (.int ((p1 &&& (2147483647 : Int32)) % (524289 : Int32))), .val (.int (own_out p2)), .val (.int (((p2.toUInt32 >>> ((1 : Int32) &&& 31).toUInt32).toInt32) &&& (3 : Int32))), .val (.long (q3 % (5 : Int64))), .second, .val (.long (own_big ((p1 &&& (2147483647 : Int32)) % (524289 : Int32)) p2 q3)), .second, .unset, .unset] [(.int (own_out p2)), (.int ((p1 &&& (2147483647 : Int32)) % (524289 : Int32))), (.ref b1), (.ref b1)])) rfl (by rw [hml]; rfl) (Steps.refl _) (a := b1) (argsL := [(.int ((p1 &&& (2147483647 : Int32)) % (524289 : Int32))), (.int (own_out p2))]) (rest := [(.ref b1)]) (lenOf pd_0_0 rfl) rfl (by show 2 * 0 + _ ≤ _; exact Nat.le_of_eq rfl) (hb hby at_93) (fun _ _ => ⟨rfl, e1, (by decide : 1 + 0 ≤ _), (by decide : 2 + 0 ≤ _)⟩)
  dsimp only [Pt.U, Pt.locs, Pt.cells, Pt.slots] at X2 l2 y2 z2 st2 hQ2
  subst l2 y2 z2
  obtain ⟨rfl, N2q, K2, E2, F3⟩ := hQ2
  have N2 := Fr.app N0 N2q
  have Z2 : n0 ≤ T2.heap.size := Nat.le_trans Z1 K2.1
  obtain ⟨cq3, kq3, q3a, q3b, q3c⟩ := isOf hZ rfl E2
  obtain ⟨_, _, ⟨T3, L3, k3, n3⟩, -, X3, ⟨Lc3, hQ3, l3, y3, z3⟩, st3⟩ := X2.virtualBack hx (y := (⟨"com/example/tabularium/tabularium/siard/LobStorage", "inlineIfEachFits", "(J)Z"⟩ : MethodName)) (z := (⟨"com/example/tabularium/tabularium/siard/LobStorage", "inlineIfEachFits", "(J)Z"⟩ : MethodName)) hown (mvT hZ (hw _ (List.mem_of_getElem? (i := 22) rfl))) (mvT hZ (hw _ (List.mem_of_getElem? (i := 23) rfl))) (notFace_of_selects (args := #[]) (mvT hZ (hw _ (List.mem_of_getElem? (i := 25) rfl)))) (mvT hZ (hw _ (List.mem_of_getElem? (i := 25) rfl))) (mvT hZ (hw _ (List.mem_of_getElem? (i := 24) rfl))) (by decide) (backOf (W := 0) (rm4 l Z a0 hw [] b1 (own_big ((p1 &&& (2147483647 : Int32)) % (524289 : Int32)) p2 q3) ((p1 &&& (2147483647 : Int32)) % (524289 : Int32)) (own_fit ((p1 &&& (2147483647 : Int32)) % (524289 : Int32)) (own_big ((p1 &&& (2147483647 : Int32)) % (524289 : Int32)) p2 q3)) T2.heap n0 Z2 F3 (own_i1 _ _) (own_i2 _ _) (own_i3 _ _)) hZ (hw _ (List.mem_of_getElem? (i := 26) rfl)) (hw _ (List.mem_of_getElem? (i := 5) rfl)) (by decide) (by decide)) q3a q3c (g := (mkF m 138 #[.val (.int p1), .val (.int p2), .val (.long q3), .second, .val (.int ((p1 &&& (2147483647 : Int32)) % (524289 : Int32))), .val (.int (own_out p2)), .val (.int (((p2.toUInt32 >>> ((1 : Int32) &&& 31).toUInt32).toInt32) &&& (3 : Int32))), .val (.long (q3 % (5 : Int64))), .second, .val (.long (own_big ((p1 &&& (2147483647 : Int32)) % (524289 : Int32)) p2 q3)), .second, .val (.ref b1), .val (.int (own_fit ((p1 &&& (2147483647 : Int32)) % (524289 : Int32)) (own_big ((p1 &&& (2147483647 : Int32)) % (524289 : Int32)) p2 q3)))] [(.long (own_big ((p1 &&& (2147483647 : Int32)) % (524289 : Int32)) p2 q3)), (.ref b1)])) rfl (by rw [hml]; rfl) (Steps.refl _) (argsL := [(.long (own_big ((p1 &&& (2147483647 : Int32)) % (524289 : Int32)) p2 q3))]) (rest := []) (lenOf pd_0_1 rfl) rfl (by show 2 * 0 + _ ≤ _; exact Nat.le_of_eq rfl) (hb hby at_138) (fun _ _ => ⟨rfl, rfl, (by decide : 1 + 0 ≤ _), (by decide : 2 + 0 ≤ _)⟩)
  dsimp only [Pt.U, Pt.locs, Pt.cells, Pt.slots] at X3 l3 y3 z3 st3 hQ3
  subst l3 y3 z3
  obtain ⟨rfl, N3q, e3⟩ := hQ3
  have N3 := Fr.app N2 N3q
  obtain ⟨fs, hr, hrun, hended, hW, hsame⟩ := X3.leave (v := some (.int (1 : Int32))) (fun h => by rw [Bd.returns] at h; cases h)
  refine ⟨_, _, pre0 _ ?_, hrun, hended, _, _, rfl, ?_, ⟨_, rfl⟩, hW, hsame.mono (by decide) (by decide)⟩
  · show Steps p.tables e below (s₁.setTop (mkF m 0 #[.val (.int p1), .val (.int p2), .val (.long q3), .second, .unset, .unset, .unset, .unset, .unset, .unset, .unset, .unset, .unset] [])) _
    refine segA (p1 := p1) (p2 := p2) (q3 := q3) (r5 := (own_out p2)) X0 hx hZ hw hby hml hown e0 (own_o1 p2) (own_o2 p2) ?_
    show Steps p.tables e below (s₁.setTop (mkF m 22 #[.val (.int p1), .val (.int p2), .val (.long q3), .second, .val (.int ((p1 &&& (2147483647 : Int32)) % (524289 : Int32))), .val (.int (own_out p2)), .unset, .unset, .unset, .unset, .unset, .unset, .unset] [])) _
    refine segB (p1 := p1) (p2 := p2) (q3 := q3) (v4 := ((p1 &&& (2147483647 : Int32)) % (524289 : Int32))) (s5 := (.val (.int (own_out p2)))) (r9 := (own_big ((p1 &&& (2147483647 : Int32)) % (524289 : Int32)) p2 q3)) X0 hx hZ hw hby hml hown e0 (own_g1 ((p1 &&& (2147483647 : Int32)) % (524289 : Int32)) p2 q3) (own_g2 ((p1 &&& (2147483647 : Int32)) % (524289 : Int32)) p2 q3) (own_g3 ((p1 &&& (2147483647 : Int32)) % (524289 : Int32)) p2 q3) (own_g4 ((p1 &&& (2147483647 : Int32)) % (524289 : Int32)) p2 q3) ?_
    show Steps p.tables e below (s₁.setTop (mkF m 85 #[.val (.int p1), .val (.int p2), .val (.long q3), .second, .val (.int ((p1 &&& (2147483647 : Int32)) % (524289 : Int32))), .val (.int (own_out p2)), .val (.int (((p2.toUInt32 >>> ((1 : Int32) &&& 31).toUInt32).toInt32) &&& (3 : Int32))), .val (.long (q3 % (5 : Int64))), .second, .val (.long (own_big ((p1 &&& (2147483647 : Int32)) % (524289 : Int32)) p2 q3)), .second, .unset, .unset] [])) _
    refine st1 _ ?_
    show Steps p.tables e below (T1.setTop (mkF m 88 #[.val (.int p1), .val (.int p2), .val (.long q3), .second, .val (.int ((p1 &&& (2147483647 : Int32)) % (524289 : Int32))), .val (.int (own_out p2)), .val (.int (((p2.toUInt32 >>> ((1 : Int32) &&& 31).toUInt32).toInt32) &&& (3 : Int32))), .val (.long (q3 % (5 : Int64))), .second, .val (.long (own_big ((p1 &&& (2147483647 : Int32)) % (524289 : Int32)) p2 q3)), .second, .unset, .unset] [(.ref b1)])) _
    refine XS.dup X1.here hx rfl (hb hby at_88) rfl rfl ?_
    show Steps p.tables e below (T1.setTop (mkF m 89 #[.val (.int p1), .val (.int p2), .val (.long q3), .second, .val (.int ((p1 &&& (2147483647 : Int32)) % (524289 : Int32))), .val (.int (own_out p2)), .val (.int (((p2.toUInt32 >>> ((1 : Int32) &&& 31).toUInt32).toInt32) &&& (3 : Int32))), .val (.long (q3 % (5 : Int64))), .second, .val (.long (own_big ((p1 &&& (2147483647 : Int32)) % (524289 : Int32)) p2 q3)), .second, .unset, .unset] [(.ref b1), (.ref b1)])) _
    refine XS.iload X1.here hx rfl (hb hby at_89) rfl ?_
    show Steps p.tables e below (T1.setTop (mkF m 91 #[.val (.int p1), .val (.int p2), .val (.long q3), .second, .val (.int ((p1 &&& (2147483647 : Int32)) % (524289 : Int32))), .val (.int (own_out p2)), .val (.int (((p2.toUInt32 >>> ((1 : Int32) &&& 31).toUInt32).toInt32) &&& (3 : Int32))), .val (.long (q3 % (5 : Int64))), .second, .val (.long (own_big ((p1 &&& (2147483647 : Int32)) % (524289 : Int32)) p2 q3)), .second, .unset, .unset] [(.int ((p1 &&& (2147483647 : Int32)) % (524289 : Int32))), (.ref b1), (.ref b1)])) _
    refine XS.iload X1.here hx rfl (hb hby at_91) rfl ?_
    show Steps p.tables e below (T1.setTop (mkF m 93 #[.val (.int p1), .val (.int p2), .val (.long q3), .second, .val (.int ((p1 &&& (2147483647 : Int32)) % (524289 : Int32))), .val (.int (own_out p2)), .val (.int (((p2.toUInt32 >>> ((1 : Int32) &&& 31).toUInt32).toInt32) &&& (3 : Int32))), .val (.long (q3 % (5 : Int64))), .second, .val (.long (own_big ((p1 &&& (2147483647 : Int32)) % (524289 : Int32)) p2 q3)), .second, .unset, .unset] [(.int (own_out p2)), (.int ((p1 &&& (2147483647 : Int32)) % (524289 : Int32))), (.ref b1), (.ref b1)])) _
    refine st2.trans ?_
    show Steps p.tables e below (T2.setTop (mkF m 96 #[.val (.int p1), .val (.int p2), .val (.long q3), .second, .val (.int ((p1 &&& (2147483647 : Int32)) % (524289 : Int32))), .val (.int (own_out p2)), .val (.int (((p2.toUInt32 >>> ((1 : Int32) &&& 31).toUInt32).toInt32) &&& (3 : Int32))), .val (.long (q3 % (5 : Int64))), .second, .val (.long (own_big ((p1 &&& (2147483647 : Int32)) % (524289 : Int32)) p2 q3)), .second, .unset, .unset] [(.ref b1)])) _
    refine XS.astore X2.here hx rfl (hb hby at_96) rfl rfl (l' := #[.val (.int p1), .val (.int p2), .val (.long q3), .second, .val (.int ((p1 &&& (2147483647 : Int32)) % (524289 : Int32))), .val (.int (own_out p2)), .val (.int (((p2.toUInt32 >>> ((1 : Int32) &&& 31).toUInt32).toInt32) &&& (3 : Int32))), .val (.long (q3 % (5 : Int64))), .second, .val (.long (own_big ((p1 &&& (2147483647 : Int32)) % (524289 : Int32)) p2 q3)), .second, .val (.ref b1), .unset]) rfl ?_
    show Steps p.tables e below (T2.setTop (mkF m 98 #[.val (.int p1), .val (.int p2), .val (.long q3), .second, .val (.int ((p1 &&& (2147483647 : Int32)) % (524289 : Int32))), .val (.int (own_out p2)), .val (.int (((p2.toUInt32 >>> ((1 : Int32) &&& 31).toUInt32).toInt32) &&& (3 : Int32))), .val (.long (q3 % (5 : Int64))), .second, .val (.long (own_big ((p1 &&& (2147483647 : Int32)) % (524289 : Int32)) p2 q3)), .second, .val (.ref b1), .unset] [])) _
    refine segC (p1 := p1) (p2 := p2) (q3 := q3) (v4 := ((p1 &&& (2147483647 : Int32)) % (524289 : Int32))) (s5 := (.val (.int (own_out p2)))) (s6 := (.val (.int (((p2.toUInt32 >>> ((1 : Int32) &&& 31).toUInt32).toInt32) &&& (3 : Int32))))) (q7 := (q3 % (5 : Int64))) (q9 := (own_big ((p1 &&& (2147483647 : Int32)) % (524289 : Int32)) p2 q3)) (s11 := (.val (.ref b1))) (r12 := (own_fit ((p1 &&& (2147483647 : Int32)) % (524289 : Int32)) (own_big ((p1 &&& (2147483647 : Int32)) % (524289 : Int32)) p2 q3))) X2 hx hZ hw hby hml hown rfl (own_h1 p1 (own_big ((p1 &&& (2147483647 : Int32)) % (524289 : Int32)) p2 q3)) (own_h2 p1 (own_big ((p1 &&& (2147483647 : Int32)) % (524289 : Int32)) p2 q3)) (own_h3 p1 (own_big ((p1 &&& (2147483647 : Int32)) % (524289 : Int32)) p2 q3)) (own_h4 p1 (own_big ((p1 &&& (2147483647 : Int32)) % (524289 : Int32)) p2 q3)) ?_
    show Steps p.tables e below (T2.setTop (mkF m 134 #[.val (.int p1), .val (.int p2), .val (.long q3), .second, .val (.int ((p1 &&& (2147483647 : Int32)) % (524289 : Int32))), .val (.int (own_out p2)), .val (.int (((p2.toUInt32 >>> ((1 : Int32) &&& 31).toUInt32).toInt32) &&& (3 : Int32))), .val (.long (q3 % (5 : Int64))), .second, .val (.long (own_big ((p1 &&& (2147483647 : Int32)) % (524289 : Int32)) p2 q3)), .second, .val (.ref b1), .val (.int (own_fit ((p1 &&& (2147483647 : Int32)) % (524289 : Int32)) (own_big ((p1 &&& (2147483647 : Int32)) % (524289 : Int32)) p2 q3)))] [])) _
    refine XS.aload X2.here hx rfl (hb hby at_134) rfl rfl ?_
    show Steps p.tables e below (T2.setTop (mkF m 136 #[.val (.int p1), .val (.int p2), .val (.long q3), .second, .val (.int ((p1 &&& (2147483647 : Int32)) % (524289 : Int32))), .val (.int (own_out p2)), .val (.int (((p2.toUInt32 >>> ((1 : Int32) &&& 31).toUInt32).toInt32) &&& (3 : Int32))), .val (.long (q3 % (5 : Int64))), .second, .val (.long (own_big ((p1 &&& (2147483647 : Int32)) % (524289 : Int32)) p2 q3)), .second, .val (.ref b1), .val (.int (own_fit ((p1 &&& (2147483647 : Int32)) % (524289 : Int32)) (own_big ((p1 &&& (2147483647 : Int32)) % (524289 : Int32)) p2 q3)))] [(.ref b1)])) _
    refine XS.lload X2.here hx rfl (hb hby at_136) rfl ?_
    show Steps p.tables e below (T2.setTop (mkF m 138 #[.val (.int p1), .val (.int p2), .val (.long q3), .second, .val (.int ((p1 &&& (2147483647 : Int32)) % (524289 : Int32))), .val (.int (own_out p2)), .val (.int (((p2.toUInt32 >>> ((1 : Int32) &&& 31).toUInt32).toInt32) &&& (3 : Int32))), .val (.long (q3 % (5 : Int64))), .second, .val (.long (own_big ((p1 &&& (2147483647 : Int32)) % (524289 : Int32)) p2 q3)), .second, .val (.ref b1), .val (.int (own_fit ((p1 &&& (2147483647 : Int32)) % (524289 : Int32)) (own_big ((p1 &&& (2147483647 : Int32)) % (524289 : Int32)) p2 q3)))] [(.long (own_big ((p1 &&& (2147483647 : Int32)) % (524289 : Int32)) p2 q3)), (.ref b1)])) _
    refine st3.trans ?_
    show Steps p.tables e below (T3.setTop (mkF m 141 #[.val (.int p1), .val (.int p2), .val (.long q3), .second, .val (.int ((p1 &&& (2147483647 : Int32)) % (524289 : Int32))), .val (.int (own_out p2)), .val (.int (((p2.toUInt32 >>> ((1 : Int32) &&& 31).toUInt32).toInt32) &&& (3 : Int32))), .val (.long (q3 % (5 : Int64))), .second, .val (.long (own_big ((p1 &&& (2147483647 : Int32)) % (524289 : Int32)) p2 q3)), .second, .val (.ref b1), .val (.int (own_fit ((p1 &&& (2147483647 : Int32)) % (524289 : Int32)) (own_big ((p1 &&& (2147483647 : Int32)) % (524289 : Int32)) p2 q3)))] [(.int (own_fit ((p1 &&& (2147483647 : Int32)) % (524289 : Int32)) (own_big ((p1 &&& (2147483647 : Int32)) % (524289 : Int32)) p2 q3)))])) _
    refine XS.iload X3.here hx rfl (hb hby at_141) rfl ?_
    show Steps p.tables e below (T3.setTop (mkF m 143 #[.val (.int p1), .val (.int p2), .val (.long q3), .second, .val (.int ((p1 &&& (2147483647 : Int32)) % (524289 : Int32))), .val (.int (own_out p2)), .val (.int (((p2.toUInt32 >>> ((1 : Int32) &&& 31).toUInt32).toInt32) &&& (3 : Int32))), .val (.long (q3 % (5 : Int64))), .second, .val (.long (own_big ((p1 &&& (2147483647 : Int32)) % (524289 : Int32)) p2 q3)), .second, .val (.ref b1), .val (.int (own_fit ((p1 &&& (2147483647 : Int32)) % (524289 : Int32)) (own_big ((p1 &&& (2147483647 : Int32)) % (524289 : Int32)) p2 q3)))] [(.int (own_fit ((p1 &&& (2147483647 : Int32)) % (524289 : Int32)) (own_big ((p1 &&& (2147483647 : Int32)) % (524289 : Int32)) p2 q3))), (.int (own_fit ((p1 &&& (2147483647 : Int32)) % (524289 : Int32)) (own_big ((p1 &&& (2147483647 : Int32)) % (524289 : Int32)) p2 q3)))])) _
    refine XS.icmpNo X3.here hx rfl (hb hby at_143) rfl (teq (rfl : (own_fit ((p1 &&& (2147483647 : Int32)) % (524289 : Int32)) (own_big ((p1 &&& (2147483647 : Int32)) % (524289 : Int32)) p2 q3)) = (own_fit ((p1 &&& (2147483647 : Int32)) % (524289 : Int32)) (own_big ((p1 &&& (2147483647 : Int32)) % (524289 : Int32)) p2 q3)))).2 ?_
    show Steps p.tables e below (T3.setTop (mkF m 146 #[.val (.int p1), .val (.int p2), .val (.long q3), .second, .val (.int ((p1 &&& (2147483647 : Int32)) % (524289 : Int32))), .val (.int (own_out p2)), .val (.int (((p2.toUInt32 >>> ((1 : Int32) &&& 31).toUInt32).toInt32) &&& (3 : Int32))), .val (.long (q3 % (5 : Int64))), .second, .val (.long (own_big ((p1 &&& (2147483647 : Int32)) % (524289 : Int32)) p2 q3)), .second, .val (.ref b1), .val (.int (own_fit ((p1 &&& (2147483647 : Int32)) % (524289 : Int32)) (own_big ((p1 &&& (2147483647 : Int32)) % (524289 : Int32)) p2 q3)))] [])) _
    refine XS.iconst X3.here hx rfl (hb hby at_146) ?_
    show Steps p.tables e below (T3.setTop (mkF m 147 #[.val (.int p1), .val (.int p2), .val (.long q3), .second, .val (.int ((p1 &&& (2147483647 : Int32)) % (524289 : Int32))), .val (.int (own_out p2)), .val (.int (((p2.toUInt32 >>> ((1 : Int32) &&& 31).toUInt32).toInt32) &&& (3 : Int32))), .val (.long (q3 % (5 : Int64))), .second, .val (.long (own_big ((p1 &&& (2147483647 : Int32)) % (524289 : Int32)) p2 q3)), .second, .val (.ref b1), .val (.int (own_fit ((p1 &&& (2147483647 : Int32)) % (524289 : Int32)) (own_big ((p1 &&& (2147483647 : Int32)) % (524289 : Int32)) p2 q3)))] [(.int (1 : Int32))])) _
    refine XS.goto X3.here hx rfl (pc0 := 147) (pc' := 151) rfl (hb hby at_147) (by decide) (by decide) ?_
    show Steps p.tables e below (T3.setTop (mkF m 151 #[.val (.int p1), .val (.int p2), .val (.long q3), .second, .val (.int ((p1 &&& (2147483647 : Int32)) % (524289 : Int32))), .val (.int (own_out p2)), .val (.int (((p2.toUInt32 >>> ((1 : Int32) &&& 31).toUInt32).toInt32) &&& (3 : Int32))), .val (.long (q3 % (5 : Int64))), .second, .val (.long (own_big ((p1 &&& (2147483647 : Int32)) % (524289 : Int32)) p2 q3)), .second, .val (.ref b1), .val (.int (own_fit ((p1 &&& (2147483647 : Int32)) % (524289 : Int32)) (own_big ((p1 &&& (2147483647 : Int32)) % (524289 : Int32)) p2 q3)))] [(.int (1 : Int32))])) _
    exact retN X3 hx (t := .boolean) Bd.returns (by simp) (hb hby at_151) hr
  · show Q0 h0 n0 _ T3.heap _
    exact ⟨rfl, N3⟩
set_option maxRecDepth 65536 in
set_option maxHeartbeats 40000000 in
theorem comes_1 {Post : Tables → Env → Array Value → State → Outcome → State → Prop} (hpost : ∀ tb e args s v u, (limb_1_1.after args s (.returned v) u = true ∧ limb_1_2.after args s (.returned v) u = true ∧ True) → FrameEnd s (.returned v) u (Jvm.fieldLocs frame_1_writes args s ++ Jvm.arrayLocs frame_1_arrays args s ++ Jvm.staticLocs frame_1_statics s) 16 128 → Post tb e args s (.returned v) u) :
    ArmFor flags0 classFile x code maxLocals ret World_1 tables_1 room_1 Calls_1 rest_1 Pre_1 Post := by
  intro l hfl _ _ p e ha hc hk s m args below hf hA hF happ hP
  obtain ⟨hcalls, hrest, hpre⟩ := hP
  obtain ⟨-, -, -, hnamed, -, -, -, hat⟩ := (Spec.applies_iff hf).mp happ
  obtain ⟨hg, hn⟩ := and_e (Cond.before_iff.mp (show (Jvm.Cond.and given_1 narrow_1).before args s = true from hpre))
  obtain ⟨ga0, gb0⟩ := and_e hg
  obtain ⟨ga1, gb1⟩ := and_e gb0
  obtain ⟨ga2, gb2⟩ := and_e gb1
  obtain ⟨w0, w1, w2, rfl⟩ : ∃ w0 w1 w2 : Value, args = #[w0, w1, w2] := by
    have hs : args.size = 3 := by simpa [Cond.value, given_1] using ga0
    obtain ⟨L⟩ := args
    match L, hs with
    | [w0, w1, w2], _ => exact ⟨w0, w1, w2, rfl⟩
  have hw := fun d (hd : d ∈ tables_1) => atoms_spec (ws := Jvm.Cond.code x code maxLocals ret :: tables_1) hat d (List.mem_cons_of_mem _ hd)
  obtain ⟨i0, ei0⟩ := is_v ga1
  obtain rfl : w0 = (.int i0) := Option.some.inj ei0
  obtain ⟨i1, ei1⟩ := is_v ga2
  obtain rfl : w1 = (.int i1) := Option.some.inj ei1
  obtain ⟨i2, ei2⟩ := isL_v gb2
  obtain rfl : w2 = (.long i2) := Option.some.inj ei2
  obtain ⟨n, o, h1, h2, h3, _, L, rfl, ⟨rfl, N⟩, hq⟩ := rm0 l s _ hw tables_1 i0 i1 i2 s.heap s.heap.size (Nat.le_refl _) p e ha hc hk s m _ below hf ((Spec.applies_iff_loose hf).mp happ).1 ⟨rfl, State.Warmed39.refl s, rfl⟩ trivial
  refine ⟨n, _, h1, h2, h3, hpost _ _ _ _ _ _ ⟨Cond.after_iff.mpr rfl, Cond.after_iff.mpr (eq_i res_at (Term.int_eval (1)) rfl), trivial⟩ ⟨hq.1, hq.2.1, (hq.2.2.sift fun y hy => Or.inr (N y hy)).mono (by decide) (by decide)⟩⟩
theorem main_1_1 : Claimed_1_1 := comes_1 fun _ _ _ _ _ _ h hF => ⟨h.1, hF⟩
theorem main_1_2 : Claimed_1_2 := comes_1 fun _ _ _ _ _ _ h hF => ⟨h.2.1, hF⟩
end Jvm.Pilot.@@N@@
namespace Jvm.Pilot.@@N@@
open Jvm Jvm.ClassFile Sem Op Lib Jvm.Free Jvm.Stand Jvm.Pilot.@@N@@.Jvm.D
/-! MADE BY PROGRAM (witnessworld.py) out of the Statement's table words and the real class files: 10 classes; the members and pool entries that the words name. The judged class is class 1, her method 1. -/
namespace start1
open Jvm.ClassFile
def u (s : String) : CpInfo := .utf8 (stringToUtf16 s)
/-- a pool by its gaps: so many unusable entries, then the entry; so many at the end -/
def gap : Nat → List CpInfo → List CpInfo
  | 0, r => r
  | n + 1, r => .unusable :: gap n r
def poolList (es : List (Nat × CpInfo)) (last : Nat) : List CpInfo := es.foldr (fun e r => gap e.1 (e.2 :: r)) (gap last [])
def pool (es : List (Nat × CpInfo)) (last : Nat) : Array CpInfo := ⟨poolList es last⟩
def fileOf (pool : Array CpInfo) (this : Nat) (attrs : Array Attribute := #[]) (ms : Array MethodInfo := #[]) (fl : Nat := 33) (sup : Nat := 0) (ifs : Array Nat := #[]) (fds : Array FieldInfo := #[]) : ClassFile where
  minorVersion := 0
  majorVersion := 65
  constantPool := pool
  accessFlags := fl
  thisClass := this
  superClass := sup
  interfaces := ifs
  fields := fds
  methods := ms
  attributes := attrs
def plain (name : String) (sup : Option ClassId) : Class where
  name := name
  kind := .ordinary
  loader := none
  accessFlags := 33
  super := sup
  interfaces := #[]
  cf := none
  fields := #[]
  methods := #[]
  instanceTypes := #[]
  staticTypes := #[]
  resolved := #[]
  callSites := []
  init := .initialized
  statics := none
  mirror := none

def pool0 : Array CpInfo := pool [(5, u "<init>"), (0, u "()V"), (1, .class_ 10), (1, u "java/lang/Object")] 113

def k0c0 : Code := { maxStack := 0, maxLocals := 1, code := object_method_1_code, exceptionTable := #[], attributes := #[] }
def k0m0 : Method := { name := "<init>", desc := "()V", sig := { parameters := [], returnType := none }, accessFlags := 1, code := some k0c0 }
/-- java/lang/Object -/
def k0 : Class := { plain "java/lang/Object" none with
  accessFlags := 33
  interfaces := #[]
  cf := some (fileOf pool0 8 #[] #[{ accessFlags := 1, nameIndex := 5, descriptorIndex := 6, attributes := #[] }] 33 0 #[] #[])
  fields := #[]
  methods := #[k0m0]
  instanceTypes := #[]
  staticTypes := #[]
  resolved := Array.replicate 124 none
  statics := none }

def pool1 : Array CpInfo := pool [(2, .class_ 4), (1, u "java/lang/Object"), (0, u "<init>"), (0, u "()V"), (0, .integer 2147483647), (0, .integer 524289), (0, .long 5), (1, .long 174762), (1, .class_ 14), (0, u "com/example/tabularium/tabularium/siard/LobStorage"), (0, .methodref 13 16), (0, .nameAndType 5 17), (0, u "(IZ)V"), (0, .long 6), (1, .long 1048576), (1, .methodref 13 23), (0, .nameAndType 24 25), (0, u "inlineIfEachFits"), (0, u "(J)Z"), (0, .class_ 27), (0, u "com/example/tabularium/tabularium/siard/LobStorageInlineIfEachFitsPinLaw"), (2, u "law"), (0, u "(IIJ)Z")] 3

def k1m0 : Method := { name := "<init>", desc := "()V", sig := { parameters := [], returnType := none }, accessFlags := 1, code := none }
def k1c1 : Code := { maxStack := 4, maxLocals := 13, code := code, exceptionTable := #[], attributes := #[] }
def k1m1 : Method := { name := "law", desc := "(IIJ)Z", sig := { parameters := [.int, .int, .long], returnType := some .boolean }, accessFlags := 9, code := some k1c1 }
/-- com/example/tabularium/tabularium/siard/LobStorageInlineIfEachFitsPinLaw -/
def k1 : Class := { plain "com/example/tabularium/tabularium/siard/LobStorageInlineIfEachFitsPinLaw" (some 0) with
  accessFlags := 49
  interfaces := #[]
  cf := some (fileOf pool1 26 #[] #[{ accessFlags := 1, nameIndex := 5, descriptorIndex := 6, attributes := #[] }, { accessFlags := 9, nameIndex := 30, descriptorIndex := 31, attributes := #[] }] 49 2 #[] #[])
  fields := #[]
  methods := #[k1m0, k1m1]
  instanceTypes := #[]
  staticTypes := #[]
  resolved := Array.replicate 35 none
  statics := none }

def pool2 : Array CpInfo := pool [(1, .methodref 2 3), (0, .class_ 4), (0, .nameAndType 5 6), (0, u "java/lang/Object"), (0, u "<init>"), (0, u "()V"), (0, .class_ 8), (0, u "java/lang/Record")] 13

def k2c0 : Code := { maxStack := 1, maxLocals := 1, code := jdk_30_method_1_code, exceptionTable := #[], attributes := #[] }
def k2m0 : Method := { name := "<init>", desc := "()V", sig := { parameters := [], returnType := none }, accessFlags := 4, code := some k2c0 }
/-- java/lang/Record -/
def k2 : Class := { plain "java/lang/Record" (some 0) with
  accessFlags := 1057
  interfaces := #[]
  cf := some (fileOf pool2 7 #[] #[{ accessFlags := 4, nameIndex := 5, descriptorIndex := 6, attributes := #[] }] 1057 2 #[] #[])
  fields := #[]
  methods := #[k2m0]
  instanceTypes := #[]
  staticTypes := #[]
  resolved := Array.replicate 22 none
  statics := none }

def pool3 : Array CpInfo := pool [(5, .methodref 6 7), (0, .class_ 8), (0, .nameAndType 9 10), (0, u "java/lang/Record"), (0, u "<init>"), (0, u "()V"), (0, .class_ 12), (0, u "com/example/tabularium/tabularium/siard/LobStorage"), (0, .integer 524288), (9, .fieldref 11 24), (0, .nameAndType 25 26), (0, u "inlineLimit"), (0, u "I"), (0, .fieldref 11 28), (0, .nameAndType 29 30), (0, u "outside"), (0, u "Z"), (0, .long 174762), (15, u "(IZ)V"), (2, u "DEFAULT"), (0, u "Lcom/example/tabularium/tabularium/siard/LobStorage;"), (0, u "DEFAULT_INLINE_LIMIT"), (2, u "MAX_INLINE_LIMIT"), (0, u "SURE_TO_FIT"), (5, u "inlineIfEachFits"), (0, u "(J)Z")] 34

def k3c0 : Code := { maxStack := 3, maxLocals := 3, code := prog_129_method_1_code, exceptionTable := #[], attributes := #[] }
def k3m0 : Method := { name := "<init>", desc := "(IZ)V", sig := { parameters := [.int, .boolean], returnType := none }, accessFlags := 1, code := some k3c0 }
def k3c1 : Code := { maxStack := 4, maxLocals := 3, code := prog_129_method_2_code, exceptionTable := #[], attributes := #[] }
def k3m1 : Method := { name := "inlineIfEachFits", desc := "(J)Z", sig := { parameters := [.long], returnType := some .boolean }, accessFlags := 1, code := some k3c1 }
/-- com/example/tabularium/tabularium/siard/LobStorage -/
def k3 : Class := { plain "com/example/tabularium/tabularium/siard/LobStorage" (some 2) with
  accessFlags := 49
  interfaces := #[]
  cf := some (fileOf pool3 11 #[] #[{ accessFlags := 1, nameIndex := 9, descriptorIndex := 47, attributes := #[] }, { accessFlags := 1, nameIndex := 62, descriptorIndex := 63, attributes := #[] }] 49 6 #[] #[{ accessFlags := 18, nameIndex := 25, descriptorIndex := 26, attributes := #[] }, { accessFlags := 18, nameIndex := 29, descriptorIndex := 30, attributes := #[] }, { accessFlags := 25, nameIndex := 52, descriptorIndex := 26, attributes := #[] }, { accessFlags := 25, nameIndex := 55, descriptorIndex := 26, attributes := #[] }, { accessFlags := 25, nameIndex := 56, descriptorIndex := 26, attributes := #[] }, { accessFlags := 25, nameIndex := 50, descriptorIndex := 51, attributes := #[] }])
  fields := #[{ name := "inlineLimit", type := .int, accessFlags := 18, slot := 0, constantValue := 0 }, { name := "outside", type := .boolean, accessFlags := 18, slot := 1, constantValue := 0 }, { name := "DEFAULT_INLINE_LIMIT", type := .int, accessFlags := 25, slot := 0, constantValue := 0 }, { name := "MAX_INLINE_LIMIT", type := .int, accessFlags := 25, slot := 1, constantValue := 0 }, { name := "SURE_TO_FIT", type := .int, accessFlags := 25, slot := 2, constantValue := 0 }, { name := "DEFAULT", type := (.object "com/example/tabularium/tabularium/siard/LobStorage"), accessFlags := 25, slot := 3, constantValue := 0 }]
  methods := #[k3m0, k3m1]
  instanceTypes := #[.int, .boolean]
  staticTypes := #[.int, .int, .int, (.object "com/example/tabularium/tabularium/siard/LobStorage")]
  resolved := Array.replicate 98 none
  statics := none }

def pool4 : Array CpInfo := pool [(1, u "java/lang/Cloneable"), (0, .class_ 1), (0, u "java/lang/Object"), (0, .class_ 3)] 3

/-- java/lang/Cloneable -/
def k4 : Class := { plain "java/lang/Cloneable" (some 0) with
  accessFlags := 1537
  interfaces := #[]
  cf := some (fileOf pool4 2 #[] #[] 1537 4 #[] #[])
  fields := #[]
  methods := #[]
  instanceTypes := #[]
  staticTypes := #[]
  resolved := Array.replicate 8 none
  statics := none }

def pool5 : Array CpInfo := pool [(1, u "java/io/Serializable"), (0, .class_ 1), (0, u "java/lang/Object"), (0, .class_ 3)] 3

/-- java/io/Serializable -/
def k5 : Class := { plain "java/io/Serializable" (some 0) with
  accessFlags := 1537
  interfaces := #[]
  cf := some (fileOf pool5 2 #[] #[] 1537 4 #[] #[])
  fields := #[]
  methods := #[]
  instanceTypes := #[]
  staticTypes := #[]
  resolved := Array.replicate 8 none
  statics := none }

/-- the primitive byte -/
def k6 : Class := { plain "byte" none with kind := .primitive 'B', accessFlags := 0x411 }
/-- [B -/
def k7 : Class := { plain "[B" (some 0) with kind := .array 6 .byte, interfaces := #[4, 5], accessFlags := 1041 }

/-- the primitive int -/
def k8 : Class := { plain "int" none with kind := .primitive 'I', accessFlags := 0x411 }
/-- [I -/
def k9 : Class := { plain "[I" (some 0) with kind := .array 8 .int, interfaces := #[4, 5], accessFlags := 1041 }

def heap : Heap := #[]
def classes : Array Class := #[k0, k1, k2, k3, k4, k5, k6, k7, k8, k9]
def interned : List (Array UInt16 × Addr) := []
def slotsUsed : Nat := 0
def theMethod : MethodId := ⟨1, 1⟩
def args0 : Array Value := #[.int 7, .int 4, .long 9]
def aboutOver (below : List Frame) : State where
  vm := { classes := classes, interned := interned.toArray }
  heap := heap
  slotsUsed := slotsUsed
  threads := #[{ frames := .invoking theMethod args0 :: below }]
def below0 : List Frame := [.native { method := ⟨0, 0⟩, args := #[] }]
def about1 : State := aboutOver below0
def p0 : Program := .bare "" "" ""
def e0 : Env := launch0.env 0 0 0
theorem w_frames : about1.frames = Frame.invoking theMethod args0 :: below0 := rfl
set_option maxRecDepth 65536 in
theorem w_args : argsFit about1.vm theMethod args0 = true := by decide +kernel
set_option maxRecDepth 65536 in
theorem w_heap : heapFits about1 = true := by decide +kernel
set_option maxRecDepth 65536 in
theorem w_runnable : about1.curStatus? = some .runnable := by decide +kernel
set_option maxRecDepth 65536 in
theorem w_alone : about1.alone = true := by decide +kernel
set_option maxRecDepth 65536 in
theorem w_named : about1.methodNamed? x = some theMethod := by decide +kernel
set_option maxRecDepth 65536 in
theorem w_hears : about1.hears theMethod below0 = true := by decide +kernel
set_option maxRecDepth 65536 in
theorem w_ripe : about1.ripe theMethod args0 below0 = true := by decide +kernel
theorem w_running : about1.status = .running := rfl
set_option maxRecDepth 65536 in
theorem w_room : about1.hasRoom e0.platform room_1 = true :=
  launch0.hasRoom_least _ room_1 (by decide +kernel) (by decide +kernel) (by decide +kernel) (by decide +kernel) (by decide +kernel) (by decide +kernel)
theorem allAtoms_all (ts : List Jvm.Cond) (a : Array Jvm.Value) (st : Jvm.State) : (allAtoms ts).before a st = ts.all (fun c => c.before a st) := by
  induction ts with
  | nil => rfl
  | cons c t ih =>
    show (Jvm.Cond.and c (allAtoms t)).before a st = _
    rw [Jvm.Cond.before_and, ih, List.all_cons]
def words1 : List Jvm.Cond := Jvm.Cond.code x code maxLocals ret :: tables_1
/-- a 'code' word, met by the world's own term for the bytes: nothing is compared byte by byte -/
theorem code_word {y : MethodName} {bytes : ByteArray} {mx : Nat} {rt : Option FieldType} {a : Array Value} {s : State} {m : MethodId} {meth : Method} {c : Code} (h1 : s.methodNamed? y = some m) (h2 : s.vm.method? m = some meth) (h3 : meth.code = some c) (h4 : c.code = bytes)
    (h5 : (c.maxLocals == mx && c.exceptionTable.isEmpty && decide (c.maxStack ≤ mostOperands) && decide (meth.sig.returnType = rt) && !meth.locks && decide (parseMethodDescriptor y.desc = some meth.sig)) = true) : (Jvm.Cond.code y bytes mx rt).before a s = true := by
  simp only [Bool.and_eq_true, beq_iff_eq, Bool.not_eq_true', decide_eq_true_eq] at h5
  obtain ⟨⟨⟨⟨⟨g1, g2⟩, g3⟩, g4⟩, g5⟩, g6⟩ := h5
  simp [Cond.before, Cond.holds, Cond.value, h1, h2, h3, h4, g1, g2, g3, g4, g5, g6]
def isCode : Jvm.Cond → Bool
  | .code _ _ _ _ => true
  | _ => false
theorem all_split {L : List Jvm.Cond} {P : Jvm.Cond → Bool} (h1 : L.all (fun c => isCode c || P c) = true) (h2 : ∀ c ∈ L.filter isCode, P c = true) : L.all P = true := by
  refine List.all_eq_true.mpr fun c hc => ?_
  have h := List.all_eq_true.mp h1 c hc
  rcases Bool.eq_false_or_eq_true (isCode c) with hi | hi
  · exact h2 c (List.mem_filter.mpr ⟨hc, hi⟩)
  · simpa [hi] using h
set_option maxRecDepth 65536 in
theorem w_c0 : (Jvm.Cond.code x code maxLocals ret).before args0 about1 = true := code_word (m := ⟨1, 1⟩) (meth := k1m1) (c := k1c1) (by decide +kernel) rfl rfl rfl (by decide +kernel)
set_option maxRecDepth 65536 in
theorem w_c1 : (Jvm.Cond.code ({ cls := "com/example/tabularium/tabularium/siard/LobStorage", name := "<init>", desc := "(IZ)V" } : Jvm.MethodName) prog_129_method_1_code (3 : Nat) (Option.none : Option Jvm.ClassFile.FieldType)).before args0 about1 = true := code_word (m := ⟨3, 0⟩) (meth := k3m0) (c := k3c0) (by decide +kernel) rfl rfl rfl (by decide +kernel)
set_option maxRecDepth 65536 in
theorem w_c2 : (Jvm.Cond.code ({ cls := "java/lang/Record", name := "<init>", desc := "()V" } : Jvm.MethodName) jdk_30_method_1_code (1 : Nat) (Option.none : Option Jvm.ClassFile.FieldType)).before args0 about1 = true := code_word (m := ⟨2, 0⟩) (meth := k2m0) (c := k2c0) (by decide +kernel) rfl rfl rfl (by decide +kernel)
set_option maxRecDepth 65536 in
theorem w_c3 : (Jvm.Cond.code ({ cls := "java/lang/Object", name := "<init>", desc := "()V" } : Jvm.MethodName) object_method_1_code (1 : Nat) (Option.none : Option Jvm.ClassFile.FieldType)).before args0 about1 = true := code_word (m := ⟨0, 0⟩) (meth := k0m0) (c := k0c0) (by decide +kernel) rfl rfl rfl (by decide +kernel)
set_option maxRecDepth 65536 in
theorem w_c4 : (Jvm.Cond.code ({ cls := "com/example/tabularium/tabularium/siard/LobStorage", name := "inlineIfEachFits", desc := "(J)Z" } : Jvm.MethodName) prog_129_method_2_code (3 : Nat) (Option.some Jvm.ClassFile.FieldType.boolean)).before args0 about1 = true := code_word (m := ⟨3, 1⟩) (meth := k3m1) (c := k3c1) (by decide +kernel) rfl rfl rfl (by decide +kernel)
def codes1 : List Jvm.Cond := [Jvm.Cond.code x code maxLocals ret, Jvm.Cond.code ({ cls := "com/example/tabularium/tabularium/siard/LobStorage", name := "<init>", desc := "(IZ)V" } : Jvm.MethodName) prog_129_method_1_code (3 : Nat) (Option.none : Option Jvm.ClassFile.FieldType), Jvm.Cond.code ({ cls := "java/lang/Record", name := "<init>", desc := "()V" } : Jvm.MethodName) jdk_30_method_1_code (1 : Nat) (Option.none : Option Jvm.ClassFile.FieldType), Jvm.Cond.code ({ cls := "java/lang/Object", name := "<init>", desc := "()V" } : Jvm.MethodName) object_method_1_code (1 : Nat) (Option.none : Option Jvm.ClassFile.FieldType), Jvm.Cond.code ({ cls := "com/example/tabularium/tabularium/siard/LobStorage", name := "inlineIfEachFits", desc := "(J)Z" } : Jvm.MethodName) prog_129_method_2_code (3 : Nat) (Option.some Jvm.ClassFile.FieldType.boolean)]
set_option maxRecDepth 65536 in
theorem codes_eq : words1.filter isCode = codes1 := rfl
theorem w_codes : ∀ c ∈ words1.filter isCode, c.before args0 about1 = true := by
  rw [codes_eq]
  intro c hc
  simp only [codes1, List.mem_cons, List.not_mem_nil, or_false] at hc
  rcases hc with rfl | rfl | rfl | rfl | rfl
  · exact w_c0
  · exact w_c1
  · exact w_c2
  · exact w_c3
  · exact w_c4
set_option maxRecDepth 65536 in
theorem w_t1 : (words1.take 24).all (fun c => isCode c || c.before args0 about1) = true := by decide +kernel
set_option maxRecDepth 65536 in
theorem w_t2 : (words1.drop 24).all (fun c => isCode c || c.before args0 about1) = true := by decide +kernel
theorem w_tables : (allAtoms (Jvm.Cond.code x code maxLocals ret :: tables_1)).before args0 about1 = true := by
  rw [allAtoms_all]
  show words1.all (fun c => c.before args0 about1) = true
  refine all_split ?_ w_codes
  rw [← List.take_append_drop 24 words1, List.all_append, w_t1, w_t2]
  rfl
set_option maxRecDepth 65536 in
theorem w_case : (Jvm.Cond.and given_1 narrow_1).before args0 about1 = true := by decide +kernel
theorem w_applies : (headSpec (Jvm.Cond.code x code maxLocals ret :: tables_1) room_1).applies x e0.platform about1 = true :=
  (Spec.applies_iff w_frames).mpr ⟨w_running, w_runnable, w_alone, w_named, w_hears, w_ripe, w_room, w_tables⟩
theorem atStart : AtStart classFile x code maxLocals ret World_1 tables_1 room_1 Calls_1 rest_1 Pre_1 launch0 p0 e0 about1 theMethod args0 below0 :=
  ⟨lists_1, trivial, launch0.admits_env _ _ _, launch0.least_env, fairChoices_fair.cas, fairChoices_fair.clock, w_frames, w_args, w_heap, w_applies, trivial, trivial, w_case⟩
end start1
theorem witness_1 : WitnessClaimed_1 := ⟨start1.p0, start1.e0, start1.about1, start1.theMethod, start1.args0, start1.below0, start1.atStart⟩
end Jvm.Pilot.@@N@@
