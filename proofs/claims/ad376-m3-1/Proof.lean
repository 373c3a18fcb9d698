import JvmDerived
import JvmDerived.Pilot.@@N@@Statement
import JvmDerived.Pilot.@@N@@Code
set_option linter.unusedVariables false
set_option linter.unusedSimpArgs false
namespace Jvm.RoadKit
open Sem ClassFile Op Lib Jvm.Stand Jvm.Free Jvm.LawKit
section New
variable {p : Program} {l : Launch} {e : Env} {R : Room} {s : State} {m : MethodId} {args : Array Value} {below : List Frame} {meth : Method} {c : Code} {T : State} {locs : List Loc} {cells slots : Nat}
theorem retI (X : Stand p l e R s m args below meth c T locs cells slots) (hx : p.tables.exec = Jvm.exec) {pc : Nat} {Ls : Array Slot} {z : Int32} {rest : List Value} (hret : meth.sig.returnType = some .int) (hd : decode c.code pc = .ok (.ireturn, 1)) {fs : List Frame}
    (hl : ∀ (f : JFrame) (acts : List Action), f.method = m → f.locked = none → f.entered = [] → (doReturn e (T.setTop f) acts (some (.int z))).1 = T.setFrames fs) : Steps p.tables e below (T.setTop (mkF m pc Ls (.int z :: rest))) (T.setFrames fs) := by
  have hm' : T.vm.method? m = some meth := X.method'
  have hn : narrow .int (.int z) = .int z := rfl
  show Steps p.tables e below (T.setTop { method := m, pc := pc, locals := Ls, stack := _ :: rest, locked := none }) _
  jvm_step X.here [X.here.top, hx, hd, hm', hret, hn]
  first | (intro acts; rw [hl _ acts rfl rfl rfl]) | rw [hl _ _ rfl rfl rfl]
  exact Steps.refl _
end New
end Jvm.RoadKit
@@BLOCK:NumsL.lean.txt@@
namespace Jvm.Pilot.@@N@@
open Jvm Jvm.ClassFile Sem Op Lib Jvm.Free Jvm.Stand Jvm.LawKit Jvm.RoadKit Bundle Jvm.Pilot.@@N@@.Jvm.D
theorem own_lt {i n : Nat} (h : i < n) (hn : n ≤ 255) : Int32.ofNat i < Int32.ofNat n := by
  rw [Int32.lt_iff_toInt_lt, Int32.toInt_ofNat_of_lt (by omega), Int32.toInt_ofNat_of_lt (by omega)]
  omega
theorem own_nlt {i n : Nat} (h : Int32.ofNat i < Int32.ofNat n) (hi : i ≤ 255) (hn : n ≤ 255) : i < n := by
  rw [Int32.lt_iff_toInt_lt, Int32.toInt_ofNat_of_lt (by omega), Int32.toInt_ofNat_of_lt (by omega)] at h
  omega
theorem own_nn {n : Nat} (hn : n ≤ 255) : ¬ Int32.ofNat n < 0 := by
  rw [Int32.lt_iff_toInt_lt, Int32.toInt_ofNat_of_lt (by omega), show (0 : Int32).toInt = 0 from rfl]
  omega
theorem own_n32 {n : Nat} (hn : n ≤ 255) : (Int32.ofNat n).toNatClampNeg = n := by
  rw [Int32.toNatClampNeg, Int32.toInt_ofNat_of_lt (by omega)]; rfl
theorem own_one (i : Nat) : Int32.ofNat i + (1 : Int32) = Int32.ofNat (i + 1) := (Int32.ofNat_add i 1).symm
theorem own_rem (x : Int32) (q : Nat) (h0 : 0 < q) (hq : q ≤ 255) : ∃ n : Nat, n < q ∧ ((x &&& (2147483647 : Int32)) % Int32.ofNat q) = Int32.ofNat n := by
  have h1 : (x &&& (2147483647 : Int32)).toInt = x.toInt % 2 ^ 31 := Jvm.Kit.i32_mask x 2147483647 (k := 31) (by decide) (by decide)
  have h2 : (Int32.ofNat q).toInt = (q : Int) := Int32.toInt_ofNat_of_lt (by omega)
  have h3 : ((x &&& (2147483647 : Int32)) % Int32.ofNat q).toInt = (x.toInt % 2 ^ 31) % (q : Int) := by
    rw [Jvm.Kit.i32_rem_nonneg (by rw [h1]; omega), h1, h2]
  have h4 : 0 ≤ (x.toInt % 2 ^ 31) % (q : Int) := Int.emod_nonneg _ (by omega)
  have h5 : (x.toInt % 2 ^ 31) % (q : Int) < (q : Int) := Int.emod_lt_of_pos _ (by omega)
  refine ⟨((x.toInt % 2 ^ 31) % (q : Int)).toNat, by omega, ?_⟩
  rw [← Int32.toInt_inj, h3, Int32.toInt_ofNat_of_lt (by omega)]
  omega
def own_vals (f : Nat → Int32) (n : Nat) : List Value := (List.range n).map fun j => .int (f j)
theorem own_len (f : Nat → Int32) (n : Nat) : (own_vals f n).length = n := by simp [own_vals]
theorem own_at (f : Nat → Int32) {n j : Nat} (h : j < n) (d : Value) : (own_vals f n).getD j d = .int (f j) := by simp [own_vals, List.getD_eq_getElem?_getD, h]
def own_upd (f : Nat → Int32) (i : Nat) (v : Int32) : Nat → Int32 := fun j => if j = i then v else f j
theorem own_set (f : Nat → Int32) (n i : Nat) (v : Int32) : (own_vals f n).set i (.int v) = own_vals (own_upd f i v) n := by
  apply List.ext_getElem?
  intro j
  rw [List.getElem?_set]
  by_cases h : i = j
  · subst h
    by_cases h2 : i < n
    · simp [own_vals, own_upd, h2]
    · simp [own_vals, own_upd, h2]
  · have h3 : ¬ j = i := fun q => h q.symm
    by_cases h2 : j < n
    · simp [own_vals, own_upd, h, h3, h2]
    · simp [own_vals, own_upd, h, h3, h2]
theorem own_pad (n : Nat) : ∀ i, (own_vals (fun _ => 0) n).getD i (.int (0 : Int32)) = ([] : List Value).getD i (.int (0 : Int32)) := fun i => by
  by_cases h : i < n
  · rw [own_at _ h]; simp
  · simp [own_vals, List.getD_eq_getElem?_getD, h]
def own_src (a b c d : Int32) : Nat → Int32
  | 0 => nar .byte a
  | 1 => nar .byte b
  | 2 => nar .byte c
  | _ => nar .byte d
def own_add (t s : Nat → Int32) (i : Nat) : Nat → Int32 := fun j => if j < i then nar .byte ((t j ^^^ s j).toInt8.toInt32) else t j
theorem own_add0 (t s : Nat → Int32) : own_add t s 0 = t := by funext j; simp [own_add]
theorem own_addi (t s : Nat → Int32) (i : Nat) : own_add t s i i = t i := by simp [own_add]
theorem own_adds (t s : Nat → Int32) (i : Nat) : own_upd (own_add t s i) i (nar .byte ((t i ^^^ s i).toInt8.toInt32)) = own_add t s (i + 1) := by
  funext j
  simp only [own_upd, own_add]
  by_cases h : j = i
  · subst h; simp
  · rw [if_neg h]
    by_cases h2 : j < i
    · rw [if_pos h2, if_pos (by omega)]
    · rw [if_neg h2, if_neg (by omega)]
theorem own_ff : ∀ i : Fin 8, (255#32).getLsbD i.val = true := by decide
theorem own_x (t s : Int32) : (t.toInt8.toInt32 ^^^ s.toInt8.toInt32).toInt8 = ((t &&& (255 : Int32)) ^^^ (s &&& (255 : Int32))).toInt8 := by
  apply Int8.toBitVec_inj.mp
  simp only [Int32.toBitVec_toInt8, Int32.toBitVec_xor, Int8.toBitVec_toInt32, Int32.toBitVec_and]
  apply BitVec.eq_of_getLsbD_eq
  intro i hi
  have h : (Int32.toBitVec 255).getLsbD i = true := own_ff ⟨i, hi⟩
  have h32 : i < 32 := by omega
  rw [BitVec.getLsbD_signExtend, BitVec.getLsbD_signExtend, BitVec.getLsbD_xor, BitVec.getLsbD_xor, BitVec.getLsbD_and, BitVec.getLsbD_and, BitVec.getLsbD_signExtend, BitVec.getLsbD_signExtend, BitVec.getLsbD_signExtend, BitVec.getLsbD_signExtend, h]
  simp only [hi, h32, if_true, decide_true, Bool.true_and, Bool.and_true]
theorem own_nb (y : Int32) : nar .byte (y.toInt8.toInt32) = y.toInt8.toInt32 := by
  show (y.toInt8.toInt32).toInt8.toInt32 = _
  have h : (y.toInt8.toInt32).toInt8 = y.toInt8 := by
    apply Int8.toBitVec_inj.mp
    simp only [Int32.toBitVec_toInt8, Int8.toBitVec_toInt32]
    apply BitVec.eq_of_getLsbD_eq
    intro i hi
    have h32 : i < 32 := by omega
    rw [BitVec.getLsbD_signExtend, BitVec.getLsbD_signExtend, BitVec.getLsbD_signExtend]
    simp only [hi, h32, if_true, decide_true, Bool.true_and, Bool.and_true]
  rw [h]
def own_b (j n : Nat) : Int32 := if j < n then (1 : Int32) else (0 : Int32)
theorem own_b1 {j n : Nat} (hj : j ≤ 255) (hn : n ≤ 255) (h : Int32.ofNat j < Int32.ofNat n) : own_b j n = (1 : Int32) := if_pos (own_nlt h hj hn)
theorem own_b0 {j n : Nat} (hn : n ≤ 255) (h : ¬ Int32.ofNat j < Int32.ofNat n) : own_b j n = (0 : Int32) := if_neg (fun q => h (own_lt q hn))
theorem own_e0 (t s : Nat → Int32) (a b : Int32) {j n : Nat} (ht : t j = nar .byte a) (h : own_b j n = (0 : Int32)) : own_add t s n j = (a.toInt8.toInt32) := by
  have h2 : ¬ j < n := fun q => by rw [own_b, if_pos q] at h; exact absurd h (by decide)
  rw [own_add, if_neg h2, ht]; rfl
theorem own_e1 (t s : Nat → Int32) (a b : Int32) {j n : Nat} (ht : t j = nar .byte a) (hs : s j = nar .byte b) (h : ¬ own_b j n = (0 : Int32)) : own_add t s n j = ((((a &&& (255 : Int32)) ^^^ (b &&& (255 : Int32))).toInt8.toInt32).toInt8.toInt32) := by
  have h2 : j < n := by
    by_cases q : j < n
    · exact q
    · exact absurd (if_neg q) h
  rw [own_add, if_pos h2, ht, hs]
  show ((a.toInt8.toInt32 ^^^ b.toInt8.toInt32).toInt8.toInt32).toInt8.toInt32 = _
  rw [own_x]
theorem pn_3 : plainName "com/example/fountainwire/fountainwire/codec/OctetsAddPinLaw" = true := by first | (simp [plainName, overriddenIn]; done) | decide +kernel
theorem ef_3 (m : MethodId) (p1 : Int32) (p2 : Int32) (p3 : Int32) : entryFrame m #[(.int p1), (.int p2), (.int p3)] 3 = mkF m 0 #[.val (.int p1), .val (.int p2), .val (.int p3)] [] := by first | (simp [entryFrame, mkF, argsToLocals, Value.category]; done) | rfl
theorem d3_0 : decode method_3_code 0 = .ok (.iload_n 2, 1) := by decide +kernel
theorem d3_1 : decode method_3_code 1 = .ok (.ifCond .eq 16, 3) := by decide +kernel
theorem d3_4 : decode method_3_code 4 = .ok (.iload_n 0, 1) := by decide +kernel
theorem d3_5 : decode method_3_code 5 = .ok (.sipush 255, 3) := by decide +kernel
theorem d3_8 : decode method_3_code 8 = .ok (.iand, 1) := by decide +kernel
theorem d3_9 : decode method_3_code 9 = .ok (.iload_n 1, 1) := by decide +kernel
theorem d3_10 : decode method_3_code 10 = .ok (.sipush 255, 3) := by decide +kernel
theorem d3_13 : decode method_3_code 13 = .ok (.iand, 1) := by decide +kernel
theorem d3_14 : decode method_3_code 14 = .ok (.ixor, 1) := by decide +kernel
theorem d3_15 : decode method_3_code 15 = .ok (.i2b, 1) := by decide +kernel
theorem d3_16 : decode method_3_code 16 = .ok (.ireturn, 1) := by decide +kernel
theorem d3_17 : decode method_3_code 17 = .ok (.iload_n 0, 1) := by decide +kernel
theorem d3_18 : decode method_3_code 18 = .ok (.ireturn, 1) := by decide +kernel
def Q3 (r : Int32) (h0 : Heap) (n0 : Nat) (v : Option Value) (h : Heap) (L : List Loc) : Prop := v = some (.int r) ∧ Fr n0 L ∧ h = h0
set_option maxRecDepth 65536 in
set_option maxHeartbeats 40000000 in
theorem rm3 (l : Launch) (Z : State) (a0 : Array Value) (hw : ∀ d ∈ tables_1, d.before a0 Z = true) (ws : List Jvm.Cond) (p1 : Int32) (p2 : Int32) (p3 : Int32) (r : Int32) (h0 : Heap) (n0 : Nat) (Z0 : n0 ≤ h0.size) (k1 : (p3 = (0 : Int32)) → r = (p1.toInt8.toInt32)) (k2 : ¬ (p3 = (0 : Int32)) → r = ((((p1 &&& (255 : Int32)) ^^^ (p2 &&& (255 : Int32))).toInt8.toInt32).toInt8.toInt32)) :
    MetFree l (⟨"com/example/fountainwire/fountainwire/codec/OctetsAddPinLaw", "expect", "(BBZ)B"⟩ : MethodName) (head1 (Jvm.Cond.code (⟨"com/example/fountainwire/fountainwire/codec/OctetsAddPinLaw", "expect", "(BBZ)B"⟩ : MethodName) method_3_code 3 (some .byte) :: ws) ({ frames := 0, cells := 0, slots := 0, locals := 0 } : Room)) (fun a U => a = #[(.int p1), (.int p2), (.int p3)] ∧ Z.Warmed39 U.vm ∧ U.heap = h0) (fun _ _ _ _ _ => True) (fun _ U o U' => ∃ v L, o = .returned v ∧ Q3 r h0 n0 v U'.heap L ∧ FrameEnd U o U' L ({ frames := 0, cells := 0, slots := 0, locals := 0 } : Room).cells ({ frames := 0, cells := 0, slots := 0, locals := 0 } : Room).slots) := by
  refine MetFree.of_bodySF (plainFor_of_name pn_3) hisR ?_
  intro p e s m args below meth c s₁ Bd hml0 hP hK
  obtain ⟨rfl, hZ, hh⟩ := hP
  have hx := Bd.exec
  have hby := Bd.bytes
  have hml : c.maxLocals = 3 := hml0
  have hown : s.vm.findClass "com/example/fountainwire/fountainwire/codec/OctetsAddPinLaw" = some m.cls := findClass_of_methodNamed Bd.named
  have hnm := (name_of_methodNamed Bd.named Bd.method).1
  have X0 : Stand p l e ({ frames := 0, cells := 0, slots := 0, locals := 0 } : Room) s m #[(.int p1), (.int p2), (.int p3)] below meth c s₁ [] 0 0 := Stand.of_body Bd
  have e0 : s₁.heap = h0 := by rw [← hh, Bd.state]; rfl
  have N0 := Fr.nil n0
  have pre0 : ∀ t, Steps p.tables e below (s₁.setTop (mkF m 0 #[.val (.int p1), .val (.int p2), .val (.int p3)] [])) t → Steps p.tables e below (s₁.setTop (entryFrame m #[(.int p1), (.int p2), (.int p3)] 3)) t := fun t k => castTop (ef_3 m p1 p2 p3) k
  obtain ⟨fs, hr, hrun, hended, hW, hsame⟩ := X0.leave (v := some (.int r)) (fun h => by rw [Bd.returns] at h; cases h)
  refine ⟨_, _, pre0 _ ?_, hrun, hended, _, _, rfl, ?_, ⟨_, rfl⟩, hW, hsame.mono (by decide) (by decide)⟩
  · show Steps p.tables e below (s₁.setTop (mkF m 0 #[.val (.int p1), .val (.int p2), .val (.int p3)] [])) _
    refine XS.iloadN X0.here hx rfl (hb hby d3_0) rfl ?_
    show Steps p.tables e below (s₁.setTop (mkF m 1 #[.val (.int p1), .val (.int p2), .val (.int p3)] [(.int p3)])) _
    by_cases hc1 : p3 = (0 : Int32)
    · refine XS.ifYes X0.here hx rfl (pc0 := 1) (pc' := 17) rfl (hb hby d3_1) rfl ((if0 _ _).trans (teq hc1).1) (by decide) (by decide) ?_
      show Steps p.tables e below (s₁.setTop (mkF m 17 #[.val (.int p1), .val (.int p2), .val (.int p3)] [])) _
      refine XS.iloadN X0.here hx rfl (hb hby d3_17) rfl ?_
      rw [k1 hc1] at hr
      show Steps p.tables e below (s₁.setTop (mkF m 18 #[.val (.int p1), .val (.int p2), .val (.int p3)] [(.int p1)])) _
      exact retN X0 hx (t := .byte) Bd.returns (by simp) (hb hby d3_18) hr
    · refine XS.ifNo X0.here hx rfl (hb hby d3_1) rfl ((if0 _ _).trans (feq hc1).1) ?_
      show Steps p.tables e below (s₁.setTop (mkF m 4 #[.val (.int p1), .val (.int p2), .val (.int p3)] [])) _
      refine XS.iloadN X0.here hx rfl (hb hby d3_4) rfl ?_
      show Steps p.tables e below (s₁.setTop (mkF m 5 #[.val (.int p1), .val (.int p2), .val (.int p3)] [(.int p1)])) _
      refine XS.sipush X0.here hx rfl (hb hby d3_5) ?_
      show Steps p.tables e below (s₁.setTop (mkF m 8 #[.val (.int p1), .val (.int p2), .val (.int p3)] [(.int (255 : Int32)), (.int p1)])) _
      refine XS.iand X0.here hx rfl (hb hby d3_8) rfl ?_
      show Steps p.tables e below (s₁.setTop (mkF m 9 #[.val (.int p1), .val (.int p2), .val (.int p3)] [(.int (p1 &&& (255 : Int32)))])) _
      refine XS.iloadN X0.here hx rfl (hb hby d3_9) rfl ?_
      show Steps p.tables e below (s₁.setTop (mkF m 10 #[.val (.int p1), .val (.int p2), .val (.int p3)] [(.int p2), (.int (p1 &&& (255 : Int32)))])) _
      refine XS.sipush X0.here hx rfl (hb hby d3_10) ?_
      show Steps p.tables e below (s₁.setTop (mkF m 13 #[.val (.int p1), .val (.int p2), .val (.int p3)] [(.int (255 : Int32)), (.int p2), (.int (p1 &&& (255 : Int32)))])) _
      refine XS.iand X0.here hx rfl (hb hby d3_13) rfl ?_
      show Steps p.tables e below (s₁.setTop (mkF m 14 #[.val (.int p1), .val (.int p2), .val (.int p3)] [(.int (p2 &&& (255 : Int32))), (.int (p1 &&& (255 : Int32)))])) _
      refine XS.ixor X0.here hx rfl (hb hby d3_14) rfl ?_
      show Steps p.tables e below (s₁.setTop (mkF m 15 #[.val (.int p1), .val (.int p2), .val (.int p3)] [(.int ((p1 &&& (255 : Int32)) ^^^ (p2 &&& (255 : Int32))))])) _
      refine XS.i2b X0.here hx rfl (hb hby d3_15) rfl ?_
      rw [k2 hc1] at hr
      show Steps p.tables e below (s₁.setTop (mkF m 16 #[.val (.int p1), .val (.int p2), .val (.int p3)] [(.int (((p1 &&& (255 : Int32)) ^^^ (p2 &&& (255 : Int32))).toInt8.toInt32))])) _
      exact retN X0 hx (t := .byte) Bd.returns (by simp) (hb hby d3_16) hr
  · show Q3 r h0 n0 _ s₁.heap _
    rw [e0]
    exact ⟨rfl, N0, rfl⟩
def Q1 (Z : State) (nn : Nat) (f : Nat → Int32) (h0 : Heap) (n0 : Nat) (v : Option Value) (h : Heap) (L : List Loc) : Prop := ∃ (b : Addr) (ka : ClassId), v = some (.ref b) ∧ Fr n0 L ∧ Ext h0 h ∧ h0.size ≤ b ∧ Arv Z h b ka .byte (Int32.ofNat nn) (own_vals f nn) (.int (0 : Int32))
theorem pn_1 : plainName "com/example/fountainwire/fountainwire/codec/OctetsAddPinLaw" = true := by first | (simp [plainName, overriddenIn]; done) | decide +kernel
theorem ef_1 (m : MethodId) (p1 : Int32) (p2 : Int32) (p3 : Int32) (p4 : Int32) (p5 : Int32) : entryFrame m #[(.int p1), (.int p2), (.int p3), (.int p4), (.int p5)] 5 = mkF m 0 #[.val (.int p1), .val (.int p2), .val (.int p3), .val (.int p4), .val (.int p5)] [] := by first | (simp [entryFrame, mkF, argsToLocals, Value.category]; done) | rfl
theorem d1_0 : decode method_4_code 0 = .ok (.iload_n 0, 1) := by decide +kernel
theorem d1_1 : decode method_4_code 1 = .ok (.ifCond .ne 7, 3) := by decide +kernel
theorem d1_4 : decode method_4_code 4 = .ok (.iconst 0, 1) := by decide +kernel
theorem d1_5 : decode method_4_code 5 = .ok (.newarray .byte, 2) := by decide +kernel
theorem d1_7 : decode method_4_code 7 = .ok (.areturn, 1) := by decide +kernel
theorem d1_8 : decode method_4_code 8 = .ok (.iload_n 0, 1) := by decide +kernel
theorem d1_9 : decode method_4_code 9 = .ok (.iconst 1, 1) := by decide +kernel
theorem d1_10 : decode method_4_code 10 = .ok (.if_icmp .ne 11, 3) := by decide +kernel
theorem d1_13 : decode method_4_code 13 = .ok (.iconst 1, 1) := by decide +kernel
theorem d1_14 : decode method_4_code 14 = .ok (.newarray .byte, 2) := by decide +kernel
theorem d1_16 : decode method_4_code 16 = .ok (.dup, 1) := by decide +kernel
theorem d1_17 : decode method_4_code 17 = .ok (.iconst 0, 1) := by decide +kernel
theorem d1_18 : decode method_4_code 18 = .ok (.iload_n 1, 1) := by decide +kernel
theorem d1_19 : decode method_4_code 19 = .ok (.bastore, 1) := by decide +kernel
theorem d1_20 : decode method_4_code 20 = .ok (.areturn, 1) := by decide +kernel
theorem d1_21 : decode method_4_code 21 = .ok (.iload_n 0, 1) := by decide +kernel
theorem d1_22 : decode method_4_code 22 = .ok (.iconst 2, 1) := by decide +kernel
theorem d1_23 : decode method_4_code 23 = .ok (.if_icmp .ne 15, 3) := by decide +kernel
theorem d1_26 : decode method_4_code 26 = .ok (.iconst 2, 1) := by decide +kernel
theorem d1_27 : decode method_4_code 27 = .ok (.newarray .byte, 2) := by decide +kernel
theorem d1_29 : decode method_4_code 29 = .ok (.dup, 1) := by decide +kernel
theorem d1_30 : decode method_4_code 30 = .ok (.iconst 0, 1) := by decide +kernel
theorem d1_31 : decode method_4_code 31 = .ok (.iload_n 1, 1) := by decide +kernel
theorem d1_32 : decode method_4_code 32 = .ok (.bastore, 1) := by decide +kernel
theorem d1_33 : decode method_4_code 33 = .ok (.dup, 1) := by decide +kernel
theorem d1_34 : decode method_4_code 34 = .ok (.iconst 1, 1) := by decide +kernel
theorem d1_35 : decode method_4_code 35 = .ok (.iload_n 2, 1) := by decide +kernel
theorem d1_36 : decode method_4_code 36 = .ok (.bastore, 1) := by decide +kernel
theorem d1_37 : decode method_4_code 37 = .ok (.areturn, 1) := by decide +kernel
theorem d1_38 : decode method_4_code 38 = .ok (.iload_n 0, 1) := by decide +kernel
theorem d1_39 : decode method_4_code 39 = .ok (.iconst 3, 1) := by decide +kernel
theorem d1_40 : decode method_4_code 40 = .ok (.if_icmp .ne 19, 3) := by decide +kernel
theorem d1_43 : decode method_4_code 43 = .ok (.iconst 3, 1) := by decide +kernel
theorem d1_44 : decode method_4_code 44 = .ok (.newarray .byte, 2) := by decide +kernel
theorem d1_46 : decode method_4_code 46 = .ok (.dup, 1) := by decide +kernel
theorem d1_47 : decode method_4_code 47 = .ok (.iconst 0, 1) := by decide +kernel
theorem d1_48 : decode method_4_code 48 = .ok (.iload_n 1, 1) := by decide +kernel
theorem d1_49 : decode method_4_code 49 = .ok (.bastore, 1) := by decide +kernel
theorem d1_50 : decode method_4_code 50 = .ok (.dup, 1) := by decide +kernel
theorem d1_51 : decode method_4_code 51 = .ok (.iconst 1, 1) := by decide +kernel
theorem d1_52 : decode method_4_code 52 = .ok (.iload_n 2, 1) := by decide +kernel
theorem d1_53 : decode method_4_code 53 = .ok (.bastore, 1) := by decide +kernel
theorem d1_54 : decode method_4_code 54 = .ok (.dup, 1) := by decide +kernel
theorem d1_55 : decode method_4_code 55 = .ok (.iconst 2, 1) := by decide +kernel
theorem d1_56 : decode method_4_code 56 = .ok (.iload_n 3, 1) := by decide +kernel
theorem d1_57 : decode method_4_code 57 = .ok (.bastore, 1) := by decide +kernel
theorem d1_58 : decode method_4_code 58 = .ok (.areturn, 1) := by decide +kernel
theorem d1_59 : decode method_4_code 59 = .ok (.iconst 4, 1) := by decide +kernel
theorem d1_60 : decode method_4_code 60 = .ok (.newarray .byte, 2) := by decide +kernel
theorem d1_62 : decode method_4_code 62 = .ok (.dup, 1) := by decide +kernel
theorem d1_63 : decode method_4_code 63 = .ok (.iconst 0, 1) := by decide +kernel
theorem d1_64 : decode method_4_code 64 = .ok (.iload_n 1, 1) := by decide +kernel
theorem d1_65 : decode method_4_code 65 = .ok (.bastore, 1) := by decide +kernel
theorem d1_66 : decode method_4_code 66 = .ok (.dup, 1) := by decide +kernel
theorem d1_67 : decode method_4_code 67 = .ok (.iconst 1, 1) := by decide +kernel
theorem d1_68 : decode method_4_code 68 = .ok (.iload_n 2, 1) := by decide +kernel
theorem d1_69 : decode method_4_code 69 = .ok (.bastore, 1) := by decide +kernel
theorem d1_70 : decode method_4_code 70 = .ok (.dup, 1) := by decide +kernel
theorem d1_71 : decode method_4_code 71 = .ok (.iconst 2, 1) := by decide +kernel
theorem d1_72 : decode method_4_code 72 = .ok (.iload_n 3, 1) := by decide +kernel
theorem d1_73 : decode method_4_code 73 = .ok (.bastore, 1) := by decide +kernel
theorem d1_74 : decode method_4_code 74 = .ok (.dup, 1) := by decide +kernel
theorem d1_75 : decode method_4_code 75 = .ok (.iconst 3, 1) := by decide +kernel
theorem d1_76 : decode method_4_code 76 = .ok (.iload 4, 2) := by decide +kernel
theorem d1_78 : decode method_4_code 78 = .ok (.bastore, 1) := by decide +kernel
theorem d1_79 : decode method_4_code 79 = .ok (.areturn, 1) := by decide +kernel
set_option maxRecDepth 65536 in
set_option maxHeartbeats 40000000 in
theorem rm1_0 (l : Launch) (Z : State) (a0 : Array Value) (hw : ∀ d ∈ tables_1, d.before a0 Z = true) (ws : List Jvm.Cond) (p2 p3 p4 p5 : Int32) (h0 : Heap) (n0 : Nat) (Z0 : n0 ≤ h0.size) :
    MetFree l (⟨"com/example/fountainwire/fountainwire/codec/OctetsAddPinLaw", "makeSource", "(IBBBB)[B"⟩ : MethodName) (head1 (Jvm.Cond.code (⟨"com/example/fountainwire/fountainwire/codec/OctetsAddPinLaw", "makeSource", "(IBBBB)[B"⟩ : MethodName) method_4_code 5 (some (.array .byte)) :: ws) ({ frames := 0, cells := 1, slots := 4, locals := 0 } : Room)) (fun a U => a = #[(.int (0 : Int32)), (.int p2), (.int p3), (.int p4), (.int p5)] ∧ Z.Warmed39 U.vm ∧ U.heap = h0) (fun _ _ _ _ _ => True) (fun _ U o U' => ∃ v L, o = .returned v ∧ Q1 Z 0 (own_src p2 p3 p4 p5) h0 n0 v U'.heap L ∧ FrameEnd U o U' L ({ frames := 0, cells := 1, slots := 4, locals := 0 } : Room).cells ({ frames := 0, cells := 1, slots := 4, locals := 0 } : Room).slots) := by
  refine MetFree.of_bodySF (plainFor_of_name pn_1) hisR ?_
  intro p e s m args below meth c s₁ Bd hml0 hP hK
  obtain ⟨rfl, hZ, hh⟩ := hP
  have hx := Bd.exec
  have hby := Bd.bytes
  have hml : c.maxLocals = 5 := hml0
  have hown : s.vm.findClass "com/example/fountainwire/fountainwire/codec/OctetsAddPinLaw" = some m.cls := findClass_of_methodNamed Bd.named
  have hnm := (name_of_methodNamed Bd.named Bd.method).1
  have X0 : Stand p l e ({ frames := 0, cells := 1, slots := 4, locals := 0 } : Room) s m #[(.int (0 : Int32)), (.int p2), (.int p3), (.int p4), (.int p5)] below meth c s₁ [] 0 0 := Stand.of_body Bd
  have e0 : s₁.heap = h0 := by rw [← hh, Bd.state]; rfl
  have N0 := Fr.nil n0
  have pre0 : ∀ t, Steps p.tables e below (s₁.setTop (mkF m 0 #[.val (.int (0 : Int32)), .val (.int p2), .val (.int p3), .val (.int p4), .val (.int p5)] [])) t → Steps p.tables e below (s₁.setTop (entryFrame m #[(.int (0 : Int32)), (.int p2), (.int p3), (.int p4), (.int p5)] 5)) t := fun t k => castTop (ef_1 m (0 : Int32) p2 p3 p4 p5) k
  obtain ⟨T1, h1, k1, X1, e1, E1, A1, st1⟩ := newP X0 hx hZ (hw _ (List.mem_of_getElem? (i := 1) rfl)) e0 (g := (mkF m 5 #[.val (.int (0 : Int32)), .val (.int p2), .val (.int p3), .val (.int p4), .val (.int p5)] [(.int (0 : Int32))])) rfl (hb hby d1_5) rfl (by decide) (cap := 0) (by decide) (by decide) (by decide) (by decide)
  obtain ⟨b1, g1⟩ : ∃ z, z = h0.size := ⟨_, rfl⟩
  rw [← g1] at A1 st1
  have g_b1 : n0 ≤ b1 := Nat.le_trans Z0 (Nat.le_of_eq g1.symm)
  have V1 : Arv Z h1 b1 k1 .byte (0 : Int32) (own_vals (fun _ => 0) 0) (.int (0 : Int32)) := (Arv.new A1 (by decide)).pad (own_pad 0)
  have g_s : h0.size ≤ b1 := Nat.le_of_eq g1.symm
  have K1 : Keep h0 h1 [] := (Keep.refl h0 []).ext E1
  have EX : Ext h0 h1 := ⟨K1.1, fun x c q => K1.2.1 x c q nin0⟩
  obtain ⟨fs, hr, hrun, hended, hW, hsame⟩ := X1.leave (v := some (.ref b1)) (fun h => by rw [Bd.returns] at h; cases h)
  refine ⟨_, _, pre0 _ ?_, hrun, hended, _, _, rfl, ?_, ⟨_, rfl⟩, hW, hsame.mono (by decide) (by decide)⟩
  · show Steps p.tables e below (s₁.setTop (mkF m 0 #[.val (.int (0 : Int32)), .val (.int p2), .val (.int p3), .val (.int p4), .val (.int p5)] [])) _
    refine XS.iloadN X0.here hx rfl (hb hby d1_0) rfl ?_
    show Steps p.tables e below (s₁.setTop (mkF m 1 #[.val (.int (0 : Int32)), .val (.int p2), .val (.int p3), .val (.int p4), .val (.int p5)] [(.int (0 : Int32))])) _
    refine XS.ifNo X0.here hx rfl (hb hby d1_1) rfl ((if0 _ _).trans (teq (rfl : (0 : Int32) = (0 : Int32))).2) ?_
    show Steps p.tables e below (s₁.setTop (mkF m 4 #[.val (.int (0 : Int32)), .val (.int p2), .val (.int p3), .val (.int p4), .val (.int p5)] [])) _
    refine XS.iconst X0.here hx rfl (hb hby d1_4) ?_
    show Steps p.tables e below (s₁.setTop (mkF m 5 #[.val (.int (0 : Int32)), .val (.int p2), .val (.int p3), .val (.int p4), .val (.int p5)] [(.int (0 : Int32))])) _
    refine st1 _ ?_
    show Steps p.tables e below (T1.setTop (mkF m 7 #[.val (.int (0 : Int32)), .val (.int p2), .val (.int p3), .val (.int p4), .val (.int p5)] [(.ref b1)])) _
    jvm_step X1.here [X1.here.top, hx, (hb hby d1_7), X1.method', Bd.returns, Value.isRef, FieldType.isReference]
    first | (intro acts; rw [hr _ acts rfl rfl rfl]) | rw [hr _ _ rfl rfl rfl]
    exact Steps.refl _
  · show Q1 Z 0 (own_src p2 p3 p4 p5) h0 n0 _ T1.heap _
    rw [e1]
    exact ⟨b1, k1, rfl, N0, EX, g_s, V1⟩
set_option maxRecDepth 65536 in
set_option maxHeartbeats 40000000 in
theorem rm1_1 (l : Launch) (Z : State) (a0 : Array Value) (hw : ∀ d ∈ tables_1, d.before a0 Z = true) (ws : List Jvm.Cond) (p2 p3 p4 p5 : Int32) (h0 : Heap) (n0 : Nat) (Z0 : n0 ≤ h0.size) :
    MetFree l (⟨"com/example/fountainwire/fountainwire/codec/OctetsAddPinLaw", "makeSource", "(IBBBB)[B"⟩ : MethodName) (head1 (Jvm.Cond.code (⟨"com/example/fountainwire/fountainwire/codec/OctetsAddPinLaw", "makeSource", "(IBBBB)[B"⟩ : MethodName) method_4_code 5 (some (.array .byte)) :: ws) ({ frames := 0, cells := 1, slots := 4, locals := 0 } : Room)) (fun a U => a = #[(.int (1 : Int32)), (.int p2), (.int p3), (.int p4), (.int p5)] ∧ Z.Warmed39 U.vm ∧ U.heap = h0) (fun _ _ _ _ _ => True) (fun _ U o U' => ∃ v L, o = .returned v ∧ Q1 Z 1 (own_src p2 p3 p4 p5) h0 n0 v U'.heap L ∧ FrameEnd U o U' L ({ frames := 0, cells := 1, slots := 4, locals := 0 } : Room).cells ({ frames := 0, cells := 1, slots := 4, locals := 0 } : Room).slots) := by
  refine MetFree.of_bodySF (plainFor_of_name pn_1) hisR ?_
  intro p e s m args below meth c s₁ Bd hml0 hP hK
  obtain ⟨rfl, hZ, hh⟩ := hP
  have hx := Bd.exec
  have hby := Bd.bytes
  have hml : c.maxLocals = 5 := hml0
  have hown : s.vm.findClass "com/example/fountainwire/fountainwire/codec/OctetsAddPinLaw" = some m.cls := findClass_of_methodNamed Bd.named
  have hnm := (name_of_methodNamed Bd.named Bd.method).1
  have X0 : Stand p l e ({ frames := 0, cells := 1, slots := 4, locals := 0 } : Room) s m #[(.int (1 : Int32)), (.int p2), (.int p3), (.int p4), (.int p5)] below meth c s₁ [] 0 0 := Stand.of_body Bd
  have e0 : s₁.heap = h0 := by rw [← hh, Bd.state]; rfl
  have N0 := Fr.nil n0
  have pre0 : ∀ t, Steps p.tables e below (s₁.setTop (mkF m 0 #[.val (.int (1 : Int32)), .val (.int p2), .val (.int p3), .val (.int p4), .val (.int p5)] [])) t → Steps p.tables e below (s₁.setTop (entryFrame m #[(.int (1 : Int32)), (.int p2), (.int p3), (.int p4), (.int p5)] 5)) t := fun t k => castTop (ef_1 m (1 : Int32) p2 p3 p4 p5) k
  obtain ⟨T1, h1, k1, X1, e1, E1, A1, st1⟩ := newP X0 hx hZ (hw _ (List.mem_of_getElem? (i := 1) rfl)) e0 (g := (mkF m 14 #[.val (.int (1 : Int32)), .val (.int p2), .val (.int p3), .val (.int p4), .val (.int p5)] [(.int (1 : Int32))])) rfl (hb hby d1_14) rfl (by decide) (cap := 1) (by decide) (by decide) (by decide) (by decide)
  obtain ⟨b1, g1⟩ : ∃ z, z = h0.size := ⟨_, rfl⟩
  rw [← g1] at A1 st1
  have g_b1 : n0 ≤ b1 := Nat.le_trans Z0 (Nat.le_of_eq g1.symm)
  have V1 : Arv Z h1 b1 k1 .byte (1 : Int32) (own_vals (fun _ => 0) 1) (.int (0 : Int32)) := (Arv.new A1 (by decide)).pad (own_pad 1)
  obtain ⟨clm2, Arm2, qm2, Sm2, Mm2, Hm2, Gm2⟩ := V1
  have hinm2 := inb_of (j := (0 : Int32)) Sm2 ⟨by decide, by decide⟩
  obtain ⟨Tm2, hm2, Xm2, em2, Wm2, stm2⟩ := stB X1 hx hZ e1 Arm2 (j := (0 : Int32)) hinm2 (g := (mkF m 19 #[.val (.int (1 : Int32)), .val (.int p2), .val (.int p3), .val (.int p4), .val (.int p5)] [(.int p2), (.int (0 : Int32)), (.ref b1), (.ref b1)])) rfl rfl (hb hby d1_19)
  have Nm2 := Fr.snoc Xm2 N0 g_b1
  have Vm2 := Arv.set Arm2 qm2 Sm2 Mm2 Hm2 Gm2 (fits_nar_byte _) Wm2 0 rfl (by rw [own_len]; decide)
  rw [own_set] at Vm2
  have g_s : h0.size ≤ b1 := Nat.le_of_eq g1.symm
  have K1 : Keep h0 h1 [] := (Keep.refl h0 []).ext E1
  have Km2 : Keep h0 hm2 [] := K1.wr Wm2 (Or.inr g_s)
  have EX : Ext h0 hm2 := ⟨Km2.1, fun x c q => Km2.2.1 x c q nin0⟩
  obtain ⟨fs, hr, hrun, hended, hW, hsame⟩ := Xm2.leave (v := some (.ref b1)) (fun h => by rw [Bd.returns] at h; cases h)
  refine ⟨_, _, pre0 _ ?_, hrun, hended, _, _, rfl, ?_, ⟨_, rfl⟩, hW, hsame.mono (by decide) (by decide)⟩
  · show Steps p.tables e below (s₁.setTop (mkF m 0 #[.val (.int (1 : Int32)), .val (.int p2), .val (.int p3), .val (.int p4), .val (.int p5)] [])) _
    refine XS.iloadN X0.here hx rfl (hb hby d1_0) rfl ?_
    show Steps p.tables e below (s₁.setTop (mkF m 1 #[.val (.int (1 : Int32)), .val (.int p2), .val (.int p3), .val (.int p4), .val (.int p5)] [(.int (1 : Int32))])) _
    refine XS.ifYes X0.here hx rfl (pc0 := 1) (pc' := 8) rfl (hb hby d1_1) rfl ((if0 _ _).trans (feq (by decide : ¬ ((1 : Int32) = (0 : Int32)))).2) (by decide) (by decide) ?_
    show Steps p.tables e below (s₁.setTop (mkF m 8 #[.val (.int (1 : Int32)), .val (.int p2), .val (.int p3), .val (.int p4), .val (.int p5)] [])) _
    refine XS.iloadN X0.here hx rfl (hb hby d1_8) rfl ?_
    show Steps p.tables e below (s₁.setTop (mkF m 9 #[.val (.int (1 : Int32)), .val (.int p2), .val (.int p3), .val (.int p4), .val (.int p5)] [(.int (1 : Int32))])) _
    refine XS.iconst X0.here hx rfl (hb hby d1_9) ?_
    show Steps p.tables e below (s₁.setTop (mkF m 10 #[.val (.int (1 : Int32)), .val (.int p2), .val (.int p3), .val (.int p4), .val (.int p5)] [(.int (1 : Int32)), (.int (1 : Int32))])) _
    refine XS.icmpNo X0.here hx rfl (hb hby d1_10) rfl (teq (rfl : (1 : Int32) = (1 : Int32))).2 ?_
    show Steps p.tables e below (s₁.setTop (mkF m 13 #[.val (.int (1 : Int32)), .val (.int p2), .val (.int p3), .val (.int p4), .val (.int p5)] [])) _
    refine XS.iconst X0.here hx rfl (hb hby d1_13) ?_
    show Steps p.tables e below (s₁.setTop (mkF m 14 #[.val (.int (1 : Int32)), .val (.int p2), .val (.int p3), .val (.int p4), .val (.int p5)] [(.int (1 : Int32))])) _
    refine st1 _ ?_
    show Steps p.tables e below (T1.setTop (mkF m 16 #[.val (.int (1 : Int32)), .val (.int p2), .val (.int p3), .val (.int p4), .val (.int p5)] [(.ref b1)])) _
    refine XS.dup X1.here hx rfl (hb hby d1_16) rfl rfl ?_
    show Steps p.tables e below (T1.setTop (mkF m 17 #[.val (.int (1 : Int32)), .val (.int p2), .val (.int p3), .val (.int p4), .val (.int p5)] [(.ref b1), (.ref b1)])) _
    refine XS.iconst X1.here hx rfl (hb hby d1_17) ?_
    show Steps p.tables e below (T1.setTop (mkF m 18 #[.val (.int (1 : Int32)), .val (.int p2), .val (.int p3), .val (.int p4), .val (.int p5)] [(.int (0 : Int32)), (.ref b1), (.ref b1)])) _
    refine XS.iloadN X1.here hx rfl (hb hby d1_18) rfl ?_
    show Steps p.tables e below (T1.setTop (mkF m 19 #[.val (.int (1 : Int32)), .val (.int p2), .val (.int p3), .val (.int p4), .val (.int p5)] [(.int p2), (.int (0 : Int32)), (.ref b1), (.ref b1)])) _
    refine stm2 _ ?_
    show Steps p.tables e below (Tm2.setTop (mkF m 20 #[.val (.int (1 : Int32)), .val (.int p2), .val (.int p3), .val (.int p4), .val (.int p5)] [(.ref b1)])) _
    jvm_step Xm2.here [Xm2.here.top, hx, (hb hby d1_20), Xm2.method', Bd.returns, Value.isRef, FieldType.isReference]
    first | (intro acts; rw [hr _ acts rfl rfl rfl]) | rw [hr _ _ rfl rfl rfl]
    exact Steps.refl _
  · show Q1 Z 1 (own_src p2 p3 p4 p5) h0 n0 _ Tm2.heap _
    rw [em2]
    exact ⟨b1, k1, rfl, Nm2, EX, g_s, Vm2⟩
set_option maxRecDepth 65536 in
set_option maxHeartbeats 40000000 in
theorem rm1_2 (l : Launch) (Z : State) (a0 : Array Value) (hw : ∀ d ∈ tables_1, d.before a0 Z = true) (ws : List Jvm.Cond) (p2 p3 p4 p5 : Int32) (h0 : Heap) (n0 : Nat) (Z0 : n0 ≤ h0.size) :
    MetFree l (⟨"com/example/fountainwire/fountainwire/codec/OctetsAddPinLaw", "makeSource", "(IBBBB)[B"⟩ : MethodName) (head1 (Jvm.Cond.code (⟨"com/example/fountainwire/fountainwire/codec/OctetsAddPinLaw", "makeSource", "(IBBBB)[B"⟩ : MethodName) method_4_code 5 (some (.array .byte)) :: ws) ({ frames := 0, cells := 1, slots := 4, locals := 0 } : Room)) (fun a U => a = #[(.int (2 : Int32)), (.int p2), (.int p3), (.int p4), (.int p5)] ∧ Z.Warmed39 U.vm ∧ U.heap = h0) (fun _ _ _ _ _ => True) (fun _ U o U' => ∃ v L, o = .returned v ∧ Q1 Z 2 (own_src p2 p3 p4 p5) h0 n0 v U'.heap L ∧ FrameEnd U o U' L ({ frames := 0, cells := 1, slots := 4, locals := 0 } : Room).cells ({ frames := 0, cells := 1, slots := 4, locals := 0 } : Room).slots) := by
  refine MetFree.of_bodySF (plainFor_of_name pn_1) hisR ?_
  intro p e s m args below meth c s₁ Bd hml0 hP hK
  obtain ⟨rfl, hZ, hh⟩ := hP
  have hx := Bd.exec
  have hby := Bd.bytes
  have hml : c.maxLocals = 5 := hml0
  have hown : s.vm.findClass "com/example/fountainwire/fountainwire/codec/OctetsAddPinLaw" = some m.cls := findClass_of_methodNamed Bd.named
  have hnm := (name_of_methodNamed Bd.named Bd.method).1
  have X0 : Stand p l e ({ frames := 0, cells := 1, slots := 4, locals := 0 } : Room) s m #[(.int (2 : Int32)), (.int p2), (.int p3), (.int p4), (.int p5)] below meth c s₁ [] 0 0 := Stand.of_body Bd
  have e0 : s₁.heap = h0 := by rw [← hh, Bd.state]; rfl
  have N0 := Fr.nil n0
  have pre0 : ∀ t, Steps p.tables e below (s₁.setTop (mkF m 0 #[.val (.int (2 : Int32)), .val (.int p2), .val (.int p3), .val (.int p4), .val (.int p5)] [])) t → Steps p.tables e below (s₁.setTop (entryFrame m #[(.int (2 : Int32)), (.int p2), (.int p3), (.int p4), (.int p5)] 5)) t := fun t k => castTop (ef_1 m (2 : Int32) p2 p3 p4 p5) k
  obtain ⟨T1, h1, k1, X1, e1, E1, A1, st1⟩ := newP X0 hx hZ (hw _ (List.mem_of_getElem? (i := 1) rfl)) e0 (g := (mkF m 27 #[.val (.int (2 : Int32)), .val (.int p2), .val (.int p3), .val (.int p4), .val (.int p5)] [(.int (2 : Int32))])) rfl (hb hby d1_27) rfl (by decide) (cap := 2) (by decide) (by decide) (by decide) (by decide)
  obtain ⟨b1, g1⟩ : ∃ z, z = h0.size := ⟨_, rfl⟩
  rw [← g1] at A1 st1
  have g_b1 : n0 ≤ b1 := Nat.le_trans Z0 (Nat.le_of_eq g1.symm)
  have V1 : Arv Z h1 b1 k1 .byte (2 : Int32) (own_vals (fun _ => 0) 2) (.int (0 : Int32)) := (Arv.new A1 (by decide)).pad (own_pad 2)
  obtain ⟨clm2, Arm2, qm2, Sm2, Mm2, Hm2, Gm2⟩ := V1
  have hinm2 := inb_of (j := (0 : Int32)) Sm2 ⟨by decide, by decide⟩
  obtain ⟨Tm2, hm2, Xm2, em2, Wm2, stm2⟩ := stB X1 hx hZ e1 Arm2 (j := (0 : Int32)) hinm2 (g := (mkF m 32 #[.val (.int (2 : Int32)), .val (.int p2), .val (.int p3), .val (.int p4), .val (.int p5)] [(.int p2), (.int (0 : Int32)), (.ref b1), (.ref b1)])) rfl rfl (hb hby d1_32)
  have Nm2 := Fr.snoc Xm2 N0 g_b1
  have Vm2 := Arv.set Arm2 qm2 Sm2 Mm2 Hm2 Gm2 (fits_nar_byte _) Wm2 0 rfl (by rw [own_len]; decide)
  rw [own_set] at Vm2
  obtain ⟨clm3, Arm3, qm3, Sm3, Mm3, Hm3, Gm3⟩ := Vm2
  have hinm3 := inb_of (j := (1 : Int32)) Sm3 ⟨by decide, by decide⟩
  obtain ⟨Tm3, hm3, Xm3, em3, Wm3, stm3⟩ := stB Xm2 hx hZ em2 Arm3 (j := (1 : Int32)) hinm3 (g := (mkF m 36 #[.val (.int (2 : Int32)), .val (.int p2), .val (.int p3), .val (.int p4), .val (.int p5)] [(.int p3), (.int (1 : Int32)), (.ref b1), (.ref b1)])) rfl rfl (hb hby d1_36)
  have Nm3 := Fr.snoc Xm3 Nm2 g_b1
  have Vm3 := Arv.set Arm3 qm3 Sm3 Mm3 Hm3 Gm3 (fits_nar_byte _) Wm3 1 rfl (by rw [own_len]; decide)
  rw [own_set] at Vm3
  have g_s : h0.size ≤ b1 := Nat.le_of_eq g1.symm
  have K1 : Keep h0 h1 [] := (Keep.refl h0 []).ext E1
  have Km2 : Keep h0 hm2 [] := K1.wr Wm2 (Or.inr g_s)
  have Km3 : Keep h0 hm3 [] := Km2.wr Wm3 (Or.inr g_s)
  have EX : Ext h0 hm3 := ⟨Km3.1, fun x c q => Km3.2.1 x c q nin0⟩
  obtain ⟨fs, hr, hrun, hended, hW, hsame⟩ := Xm3.leave (v := some (.ref b1)) (fun h => by rw [Bd.returns] at h; cases h)
  refine ⟨_, _, pre0 _ ?_, hrun, hended, _, _, rfl, ?_, ⟨_, rfl⟩, hW, hsame.mono (by decide) (by decide)⟩
  · show Steps p.tables e below (s₁.setTop (mkF m 0 #[.val (.int (2 : Int32)), .val (.int p2), .val (.int p3), .val (.int p4), .val (.int p5)] [])) _
    refine XS.iloadN X0.here hx rfl (hb hby d1_0) rfl ?_
    show Steps p.tables e below (s₁.setTop (mkF m 1 #[.val (.int (2 : Int32)), .val (.int p2), .val (.int p3), .val (.int p4), .val (.int p5)] [(.int (2 : Int32))])) _
    refine XS.ifYes X0.here hx rfl (pc0 := 1) (pc' := 8) rfl (hb hby d1_1) rfl ((if0 _ _).trans (feq (by decide : ¬ ((2 : Int32) = (0 : Int32)))).2) (by decide) (by decide) ?_
    show Steps p.tables e below (s₁.setTop (mkF m 8 #[.val (.int (2 : Int32)), .val (.int p2), .val (.int p3), .val (.int p4), .val (.int p5)] [])) _
    refine XS.iloadN X0.here hx rfl (hb hby d1_8) rfl ?_
    show Steps p.tables e below (s₁.setTop (mkF m 9 #[.val (.int (2 : Int32)), .val (.int p2), .val (.int p3), .val (.int p4), .val (.int p5)] [(.int (2 : Int32))])) _
    refine XS.iconst X0.here hx rfl (hb hby d1_9) ?_
    show Steps p.tables e below (s₁.setTop (mkF m 10 #[.val (.int (2 : Int32)), .val (.int p2), .val (.int p3), .val (.int p4), .val (.int p5)] [(.int (1 : Int32)), (.int (2 : Int32))])) _
    refine XS.icmpYes X0.here hx rfl (pc0 := 10) (pc' := 21) rfl (hb hby d1_10) rfl (feq (by decide : ¬ ((2 : Int32) = (1 : Int32)))).2 (by decide) (by decide) ?_
    show Steps p.tables e below (s₁.setTop (mkF m 21 #[.val (.int (2 : Int32)), .val (.int p2), .val (.int p3), .val (.int p4), .val (.int p5)] [])) _
    refine XS.iloadN X0.here hx rfl (hb hby d1_21) rfl ?_
    show Steps p.tables e below (s₁.setTop (mkF m 22 #[.val (.int (2 : Int32)), .val (.int p2), .val (.int p3), .val (.int p4), .val (.int p5)] [(.int (2 : Int32))])) _
    refine XS.iconst X0.here hx rfl (hb hby d1_22) ?_
    show Steps p.tables e below (s₁.setTop (mkF m 23 #[.val (.int (2 : Int32)), .val (.int p2), .val (.int p3), .val (.int p4), .val (.int p5)] [(.int (2 : Int32)), (.int (2 : Int32))])) _
    refine XS.icmpNo X0.here hx rfl (hb hby d1_23) rfl (teq (rfl : (2 : Int32) = (2 : Int32))).2 ?_
    show Steps p.tables e below (s₁.setTop (mkF m 26 #[.val (.int (2 : Int32)), .val (.int p2), .val (.int p3), .val (.int p4), .val (.int p5)] [])) _
    refine XS.iconst X0.here hx rfl (hb hby d1_26) ?_
    show Steps p.tables e below (s₁.setTop (mkF m 27 #[.val (.int (2 : Int32)), .val (.int p2), .val (.int p3), .val (.int p4), .val (.int p5)] [(.int (2 : Int32))])) _
    refine st1 _ ?_
    show Steps p.tables e below (T1.setTop (mkF m 29 #[.val (.int (2 : Int32)), .val (.int p2), .val (.int p3), .val (.int p4), .val (.int p5)] [(.ref b1)])) _
    refine XS.dup X1.here hx rfl (hb hby d1_29) rfl rfl ?_
    show Steps p.tables e below (T1.setTop (mkF m 30 #[.val (.int (2 : Int32)), .val (.int p2), .val (.int p3), .val (.int p4), .val (.int p5)] [(.ref b1), (.ref b1)])) _
    refine XS.iconst X1.here hx rfl (hb hby d1_30) ?_
    show Steps p.tables e below (T1.setTop (mkF m 31 #[.val (.int (2 : Int32)), .val (.int p2), .val (.int p3), .val (.int p4), .val (.int p5)] [(.int (0 : Int32)), (.ref b1), (.ref b1)])) _
    refine XS.iloadN X1.here hx rfl (hb hby d1_31) rfl ?_
    show Steps p.tables e below (T1.setTop (mkF m 32 #[.val (.int (2 : Int32)), .val (.int p2), .val (.int p3), .val (.int p4), .val (.int p5)] [(.int p2), (.int (0 : Int32)), (.ref b1), (.ref b1)])) _
    refine stm2 _ ?_
    show Steps p.tables e below (Tm2.setTop (mkF m 33 #[.val (.int (2 : Int32)), .val (.int p2), .val (.int p3), .val (.int p4), .val (.int p5)] [(.ref b1)])) _
    refine XS.dup Xm2.here hx rfl (hb hby d1_33) rfl rfl ?_
    show Steps p.tables e below (Tm2.setTop (mkF m 34 #[.val (.int (2 : Int32)), .val (.int p2), .val (.int p3), .val (.int p4), .val (.int p5)] [(.ref b1), (.ref b1)])) _
    refine XS.iconst Xm2.here hx rfl (hb hby d1_34) ?_
    show Steps p.tables e below (Tm2.setTop (mkF m 35 #[.val (.int (2 : Int32)), .val (.int p2), .val (.int p3), .val (.int p4), .val (.int p5)] [(.int (1 : Int32)), (.ref b1), (.ref b1)])) _
    refine XS.iloadN Xm2.here hx rfl (hb hby d1_35) rfl ?_
    show Steps p.tables e below (Tm2.setTop (mkF m 36 #[.val (.int (2 : Int32)), .val (.int p2), .val (.int p3), .val (.int p4), .val (.int p5)] [(.int p3), (.int (1 : Int32)), (.ref b1), (.ref b1)])) _
    refine stm3 _ ?_
    show Steps p.tables e below (Tm3.setTop (mkF m 37 #[.val (.int (2 : Int32)), .val (.int p2), .val (.int p3), .val (.int p4), .val (.int p5)] [(.ref b1)])) _
    jvm_step Xm3.here [Xm3.here.top, hx, (hb hby d1_37), Xm3.method', Bd.returns, Value.isRef, FieldType.isReference]
    first | (intro acts; rw [hr _ acts rfl rfl rfl]) | rw [hr _ _ rfl rfl rfl]
    exact Steps.refl _
  · show Q1 Z 2 (own_src p2 p3 p4 p5) h0 n0 _ Tm3.heap _
    rw [em3]
    exact ⟨b1, k1, rfl, Nm3, EX, g_s, Vm3⟩
set_option maxRecDepth 65536 in
set_option maxHeartbeats 40000000 in
theorem rm1_3 (l : Launch) (Z : State) (a0 : Array Value) (hw : ∀ d ∈ tables_1, d.before a0 Z = true) (ws : List Jvm.Cond) (p2 p3 p4 p5 : Int32) (h0 : Heap) (n0 : Nat) (Z0 : n0 ≤ h0.size) :
    MetFree l (⟨"com/example/fountainwire/fountainwire/codec/OctetsAddPinLaw", "makeSource", "(IBBBB)[B"⟩ : MethodName) (head1 (Jvm.Cond.code (⟨"com/example/fountainwire/fountainwire/codec/OctetsAddPinLaw", "makeSource", "(IBBBB)[B"⟩ : MethodName) method_4_code 5 (some (.array .byte)) :: ws) ({ frames := 0, cells := 1, slots := 4, locals := 0 } : Room)) (fun a U => a = #[(.int (3 : Int32)), (.int p2), (.int p3), (.int p4), (.int p5)] ∧ Z.Warmed39 U.vm ∧ U.heap = h0) (fun _ _ _ _ _ => True) (fun _ U o U' => ∃ v L, o = .returned v ∧ Q1 Z 3 (own_src p2 p3 p4 p5) h0 n0 v U'.heap L ∧ FrameEnd U o U' L ({ frames := 0, cells := 1, slots := 4, locals := 0 } : Room).cells ({ frames := 0, cells := 1, slots := 4, locals := 0 } : Room).slots) := by
  refine MetFree.of_bodySF (plainFor_of_name pn_1) hisR ?_
  intro p e s m args below meth c s₁ Bd hml0 hP hK
  obtain ⟨rfl, hZ, hh⟩ := hP
  have hx := Bd.exec
  have hby := Bd.bytes
  have hml : c.maxLocals = 5 := hml0
  have hown : s.vm.findClass "com/example/fountainwire/fountainwire/codec/OctetsAddPinLaw" = some m.cls := findClass_of_methodNamed Bd.named
  have hnm := (name_of_methodNamed Bd.named Bd.method).1
  have X0 : Stand p l e ({ frames := 0, cells := 1, slots := 4, locals := 0 } : Room) s m #[(.int (3 : Int32)), (.int p2), (.int p3), (.int p4), (.int p5)] below meth c s₁ [] 0 0 := Stand.of_body Bd
  have e0 : s₁.heap = h0 := by rw [← hh, Bd.state]; rfl
  have N0 := Fr.nil n0
  have pre0 : ∀ t, Steps p.tables e below (s₁.setTop (mkF m 0 #[.val (.int (3 : Int32)), .val (.int p2), .val (.int p3), .val (.int p4), .val (.int p5)] [])) t → Steps p.tables e below (s₁.setTop (entryFrame m #[(.int (3 : Int32)), (.int p2), (.int p3), (.int p4), (.int p5)] 5)) t := fun t k => castTop (ef_1 m (3 : Int32) p2 p3 p4 p5) k
  obtain ⟨T1, h1, k1, X1, e1, E1, A1, st1⟩ := newP X0 hx hZ (hw _ (List.mem_of_getElem? (i := 1) rfl)) e0 (g := (mkF m 44 #[.val (.int (3 : Int32)), .val (.int p2), .val (.int p3), .val (.int p4), .val (.int p5)] [(.int (3 : Int32))])) rfl (hb hby d1_44) rfl (by decide) (cap := 3) (by decide) (by decide) (by decide) (by decide)
  obtain ⟨b1, g1⟩ : ∃ z, z = h0.size := ⟨_, rfl⟩
  rw [← g1] at A1 st1
  have g_b1 : n0 ≤ b1 := Nat.le_trans Z0 (Nat.le_of_eq g1.symm)
  have V1 : Arv Z h1 b1 k1 .byte (3 : Int32) (own_vals (fun _ => 0) 3) (.int (0 : Int32)) := (Arv.new A1 (by decide)).pad (own_pad 3)
  obtain ⟨clm2, Arm2, qm2, Sm2, Mm2, Hm2, Gm2⟩ := V1
  have hinm2 := inb_of (j := (0 : Int32)) Sm2 ⟨by decide, by decide⟩
  obtain ⟨Tm2, hm2, Xm2, em2, Wm2, stm2⟩ := stB X1 hx hZ e1 Arm2 (j := (0 : Int32)) hinm2 (g := (mkF m 49 #[.val (.int (3 : Int32)), .val (.int p2), .val (.int p3), .val (.int p4), .val (.int p5)] [(.int p2), (.int (0 : Int32)), (.ref b1), (.ref b1)])) rfl rfl (hb hby d1_49)
  have Nm2 := Fr.snoc Xm2 N0 g_b1
  have Vm2 := Arv.set Arm2 qm2 Sm2 Mm2 Hm2 Gm2 (fits_nar_byte _) Wm2 0 rfl (by rw [own_len]; decide)
  rw [own_set] at Vm2
  obtain ⟨clm3, Arm3, qm3, Sm3, Mm3, Hm3, Gm3⟩ := Vm2
  have hinm3 := inb_of (j := (1 : Int32)) Sm3 ⟨by decide, by decide⟩
  obtain ⟨Tm3, hm3, Xm3, em3, Wm3, stm3⟩ := stB Xm2 hx hZ em2 Arm3 (j := (1 : Int32)) hinm3 (g := (mkF m 53 #[.val (.int (3 : Int32)), .val (.int p2), .val (.int p3), .val (.int p4), .val (.int p5)] [(.int p3), (.int (1 : Int32)), (.ref b1), (.ref b1)])) rfl rfl (hb hby d1_53)
  have Nm3 := Fr.snoc Xm3 Nm2 g_b1
  have Vm3 := Arv.set Arm3 qm3 Sm3 Mm3 Hm3 Gm3 (fits_nar_byte _) Wm3 1 rfl (by rw [own_len]; decide)
  rw [own_set] at Vm3
  obtain ⟨clm4, Arm4, qm4, Sm4, Mm4, Hm4, Gm4⟩ := Vm3
  have hinm4 := inb_of (j := (2 : Int32)) Sm4 ⟨by decide, by decide⟩
  obtain ⟨Tm4, hm4, Xm4, em4, Wm4, stm4⟩ := stB Xm3 hx hZ em3 Arm4 (j := (2 : Int32)) hinm4 (g := (mkF m 57 #[.val (.int (3 : Int32)), .val (.int p2), .val (.int p3), .val (.int p4), .val (.int p5)] [(.int p4), (.int (2 : Int32)), (.ref b1), (.ref b1)])) rfl rfl (hb hby d1_57)
  have Nm4 := Fr.snoc Xm4 Nm3 g_b1
  have Vm4 := Arv.set Arm4 qm4 Sm4 Mm4 Hm4 Gm4 (fits_nar_byte _) Wm4 2 rfl (by rw [own_len]; decide)
  rw [own_set] at Vm4
  have g_s : h0.size ≤ b1 := Nat.le_of_eq g1.symm
  have K1 : Keep h0 h1 [] := (Keep.refl h0 []).ext E1
  have Km2 : Keep h0 hm2 [] := K1.wr Wm2 (Or.inr g_s)
  have Km3 : Keep h0 hm3 [] := Km2.wr Wm3 (Or.inr g_s)
  have Km4 : Keep h0 hm4 [] := Km3.wr Wm4 (Or.inr g_s)
  have EX : Ext h0 hm4 := ⟨Km4.1, fun x c q => Km4.2.1 x c q nin0⟩
  obtain ⟨fs, hr, hrun, hended, hW, hsame⟩ := Xm4.leave (v := some (.ref b1)) (fun h => by rw [Bd.returns] at h; cases h)
  refine ⟨_, _, pre0 _ ?_, hrun, hended, _, _, rfl, ?_, ⟨_, rfl⟩, hW, hsame.mono (by decide) (by decide)⟩
  · show Steps p.tables e below (s₁.setTop (mkF m 0 #[.val (.int (3 : Int32)), .val (.int p2), .val (.int p3), .val (.int p4), .val (.int p5)] [])) _
    refine XS.iloadN X0.here hx rfl (hb hby d1_0) rfl ?_
    show Steps p.tables e below (s₁.setTop (mkF m 1 #[.val (.int (3 : Int32)), .val (.int p2), .val (.int p3), .val (.int p4), .val (.int p5)] [(.int (3 : Int32))])) _
    refine XS.ifYes X0.here hx rfl (pc0 := 1) (pc' := 8) rfl (hb hby d1_1) rfl ((if0 _ _).trans (feq (by decide : ¬ ((3 : Int32) = (0 : Int32)))).2) (by decide) (by decide) ?_
    show Steps p.tables e below (s₁.setTop (mkF m 8 #[.val (.int (3 : Int32)), .val (.int p2), .val (.int p3), .val (.int p4), .val (.int p5)] [])) _
    refine XS.iloadN X0.here hx rfl (hb hby d1_8) rfl ?_
    show Steps p.tables e below (s₁.setTop (mkF m 9 #[.val (.int (3 : Int32)), .val (.int p2), .val (.int p3), .val (.int p4), .val (.int p5)] [(.int (3 : Int32))])) _
    refine XS.iconst X0.here hx rfl (hb hby d1_9) ?_
    show Steps p.tables e below (s₁.setTop (mkF m 10 #[.val (.int (3 : Int32)), .val (.int p2), .val (.int p3), .val (.int p4), .val (.int p5)] [(.int (1 : Int32)), (.int (3 : Int32))])) _
    refine XS.icmpYes X0.here hx rfl (pc0 := 10) (pc' := 21) rfl (hb hby d1_10) rfl (feq (by decide : ¬ ((3 : Int32) = (1 : Int32)))).2 (by decide) (by decide) ?_
    show Steps p.tables e below (s₁.setTop (mkF m 21 #[.val (.int (3 : Int32)), .val (.int p2), .val (.int p3), .val (.int p4), .val (.int p5)] [])) _
    refine XS.iloadN X0.here hx rfl (hb hby d1_21) rfl ?_
    show Steps p.tables e below (s₁.setTop (mkF m 22 #[.val (.int (3 : Int32)), .val (.int p2), .val (.int p3), .val (.int p4), .val (.int p5)] [(.int (3 : Int32))])) _
    refine XS.iconst X0.here hx rfl (hb hby d1_22) ?_
    show Steps p.tables e below (s₁.setTop (mkF m 23 #[.val (.int (3 : Int32)), .val (.int p2), .val (.int p3), .val (.int p4), .val (.int p5)] [(.int (2 : Int32)), (.int (3 : Int32))])) _
    refine XS.icmpYes X0.here hx rfl (pc0 := 23) (pc' := 38) rfl (hb hby d1_23) rfl (feq (by decide : ¬ ((3 : Int32) = (2 : Int32)))).2 (by decide) (by decide) ?_
    show Steps p.tables e below (s₁.setTop (mkF m 38 #[.val (.int (3 : Int32)), .val (.int p2), .val (.int p3), .val (.int p4), .val (.int p5)] [])) _
    refine XS.iloadN X0.here hx rfl (hb hby d1_38) rfl ?_
    show Steps p.tables e below (s₁.setTop (mkF m 39 #[.val (.int (3 : Int32)), .val (.int p2), .val (.int p3), .val (.int p4), .val (.int p5)] [(.int (3 : Int32))])) _
    refine XS.iconst X0.here hx rfl (hb hby d1_39) ?_
    show Steps p.tables e below (s₁.setTop (mkF m 40 #[.val (.int (3 : Int32)), .val (.int p2), .val (.int p3), .val (.int p4), .val (.int p5)] [(.int (3 : Int32)), (.int (3 : Int32))])) _
    refine XS.icmpNo X0.here hx rfl (hb hby d1_40) rfl (teq (rfl : (3 : Int32) = (3 : Int32))).2 ?_
    show Steps p.tables e below (s₁.setTop (mkF m 43 #[.val (.int (3 : Int32)), .val (.int p2), .val (.int p3), .val (.int p4), .val (.int p5)] [])) _
    refine XS.iconst X0.here hx rfl (hb hby d1_43) ?_
    show Steps p.tables e below (s₁.setTop (mkF m 44 #[.val (.int (3 : Int32)), .val (.int p2), .val (.int p3), .val (.int p4), .val (.int p5)] [(.int (3 : Int32))])) _
    refine st1 _ ?_
    show Steps p.tables e below (T1.setTop (mkF m 46 #[.val (.int (3 : Int32)), .val (.int p2), .val (.int p3), .val (.int p4), .val (.int p5)] [(.ref b1)])) _
    refine XS.dup X1.here hx rfl (hb hby d1_46) rfl rfl ?_
    show Steps p.tables e below (T1.setTop (mkF m 47 #[.val (.int (3 : Int32)), .val (.int p2), .val (.int p3), .val (.int p4), .val (.int p5)] [(.ref b1), (.ref b1)])) _
    refine XS.iconst X1.here hx rfl (hb hby d1_47) ?_
    show Steps p.tables e below (T1.setTop (mkF m 48 #[.val (.int (3 : Int32)), .val (.int p2), .val (.int p3), .val (.int p4), .val (.int p5)] [(.int (0 : Int32)), (.ref b1), (.ref b1)])) _
    refine XS.iloadN X1.here hx rfl (hb hby d1_48) rfl ?_
    show Steps p.tables e below (T1.setTop (mkF m 49 #[.val (.int (3 : Int32)), .val (.int p2), .val (.int p3), .val (.int p4), .val (.int p5)] [(.int p2), (.int (0 : Int32)), (.ref b1), (.ref b1)])) _
    refine stm2 _ ?_
    show Steps p.tables e below (Tm2.setTop (mkF m 50 #[.val (.int (3 : Int32)), .val (.int p2), .val (.int p3), .val (.int p4), .val (.int p5)] [(.ref b1)])) _
    refine XS.dup Xm2.here hx rfl (hb hby d1_50) rfl rfl ?_
    show Steps p.tables e below (Tm2.setTop (mkF m 51 #[.val (.int (3 : Int32)), .val (.int p2), .val (.int p3), .val (.int p4), .val (.int p5)] [(.ref b1), (.ref b1)])) _
    refine XS.iconst Xm2.here hx rfl (hb hby d1_51) ?_
    show Steps p.tables e below (Tm2.setTop (mkF m 52 #[.val (.int (3 : Int32)), .val (.int p2), .val (.int p3), .val (.int p4), .val (.int p5)] [(.int (1 : Int32)), (.ref b1), (.ref b1)])) _
    refine XS.iloadN Xm2.here hx rfl (hb hby d1_52) rfl ?_
    show Steps p.tables e below (Tm2.setTop (mkF m 53 #[.val (.int (3 : Int32)), .val (.int p2), .val (.int p3), .val (.int p4), .val (.int p5)] [(.int p3), (.int (1 : Int32)), (.ref b1), (.ref b1)])) _
    refine stm3 _ ?_
    show Steps p.tables e below (Tm3.setTop (mkF m 54 #[.val (.int (3 : Int32)), .val (.int p2), .val (.int p3), .val (.int p4), .val (.int p5)] [(.ref b1)])) _
    refine XS.dup Xm3.here hx rfl (hb hby d1_54) rfl rfl ?_
    show Steps p.tables e below (Tm3.setTop (mkF m 55 #[.val (.int (3 : Int32)), .val (.int p2), .val (.int p3), .val (.int p4), .val (.int p5)] [(.ref b1), (.ref b1)])) _
    refine XS.iconst Xm3.here hx rfl (hb hby d1_55) ?_
    show Steps p.tables e below (Tm3.setTop (mkF m 56 #[.val (.int (3 : Int32)), .val (.int p2), .val (.int p3), .val (.int p4), .val (.int p5)] [(.int (2 : Int32)), (.ref b1), (.ref b1)])) _
    refine XS.iloadN Xm3.here hx rfl (hb hby d1_56) rfl ?_
    show Steps p.tables e below (Tm3.setTop (mkF m 57 #[.val (.int (3 : Int32)), .val (.int p2), .val (.int p3), .val (.int p4), .val (.int p5)] [(.int p4), (.int (2 : Int32)), (.ref b1), (.ref b1)])) _
    refine stm4 _ ?_
    show Steps p.tables e below (Tm4.setTop (mkF m 58 #[.val (.int (3 : Int32)), .val (.int p2), .val (.int p3), .val (.int p4), .val (.int p5)] [(.ref b1)])) _
    jvm_step Xm4.here [Xm4.here.top, hx, (hb hby d1_58), Xm4.method', Bd.returns, Value.isRef, FieldType.isReference]
    first | (intro acts; rw [hr _ acts rfl rfl rfl]) | rw [hr _ _ rfl rfl rfl]
    exact Steps.refl _
  · show Q1 Z 3 (own_src p2 p3 p4 p5) h0 n0 _ Tm4.heap _
    rw [em4]
    exact ⟨b1, k1, rfl, Nm4, EX, g_s, Vm4⟩
set_option maxRecDepth 65536 in
set_option maxHeartbeats 40000000 in
theorem rm1_4 (l : Launch) (Z : State) (a0 : Array Value) (hw : ∀ d ∈ tables_1, d.before a0 Z = true) (ws : List Jvm.Cond) (p2 p3 p4 p5 : Int32) (h0 : Heap) (n0 : Nat) (Z0 : n0 ≤ h0.size) :
    MetFree l (⟨"com/example/fountainwire/fountainwire/codec/OctetsAddPinLaw", "makeSource", "(IBBBB)[B"⟩ : MethodName) (head1 (Jvm.Cond.code (⟨"com/example/fountainwire/fountainwire/codec/OctetsAddPinLaw", "makeSource", "(IBBBB)[B"⟩ : MethodName) method_4_code 5 (some (.array .byte)) :: ws) ({ frames := 0, cells := 1, slots := 4, locals := 0 } : Room)) (fun a U => a = #[(.int (4 : Int32)), (.int p2), (.int p3), (.int p4), (.int p5)] ∧ Z.Warmed39 U.vm ∧ U.heap = h0) (fun _ _ _ _ _ => True) (fun _ U o U' => ∃ v L, o = .returned v ∧ Q1 Z 4 (own_src p2 p3 p4 p5) h0 n0 v U'.heap L ∧ FrameEnd U o U' L ({ frames := 0, cells := 1, slots := 4, locals := 0 } : Room).cells ({ frames := 0, cells := 1, slots := 4, locals := 0 } : Room).slots) := by
  refine MetFree.of_bodySF (plainFor_of_name pn_1) hisR ?_
  intro p e s m args below meth c s₁ Bd hml0 hP hK
  obtain ⟨rfl, hZ, hh⟩ := hP
  have hx := Bd.exec
  have hby := Bd.bytes
  have hml : c.maxLocals = 5 := hml0
  have hown : s.vm.findClass "com/example/fountainwire/fountainwire/codec/OctetsAddPinLaw" = some m.cls := findClass_of_methodNamed Bd.named
  have hnm := (name_of_methodNamed Bd.named Bd.method).1
  have X0 : Stand p l e ({ frames := 0, cells := 1, slots := 4, locals := 0 } : Room) s m #[(.int (4 : Int32)), (.int p2), (.int p3), (.int p4), (.int p5)] below meth c s₁ [] 0 0 := Stand.of_body Bd
  have e0 : s₁.heap = h0 := by rw [← hh, Bd.state]; rfl
  have N0 := Fr.nil n0
  have pre0 : ∀ t, Steps p.tables e below (s₁.setTop (mkF m 0 #[.val (.int (4 : Int32)), .val (.int p2), .val (.int p3), .val (.int p4), .val (.int p5)] [])) t → Steps p.tables e below (s₁.setTop (entryFrame m #[(.int (4 : Int32)), (.int p2), (.int p3), (.int p4), (.int p5)] 5)) t := fun t k => castTop (ef_1 m (4 : Int32) p2 p3 p4 p5) k
  obtain ⟨T1, h1, k1, X1, e1, E1, A1, st1⟩ := newP X0 hx hZ (hw _ (List.mem_of_getElem? (i := 1) rfl)) e0 (g := (mkF m 60 #[.val (.int (4 : Int32)), .val (.int p2), .val (.int p3), .val (.int p4), .val (.int p5)] [(.int (4 : Int32))])) rfl (hb hby d1_60) rfl (by decide) (cap := 4) (by decide) (by decide) (by decide) (by decide)
  obtain ⟨b1, g1⟩ : ∃ z, z = h0.size := ⟨_, rfl⟩
  rw [← g1] at A1 st1
  have g_b1 : n0 ≤ b1 := Nat.le_trans Z0 (Nat.le_of_eq g1.symm)
  have V1 : Arv Z h1 b1 k1 .byte (4 : Int32) (own_vals (fun _ => 0) 4) (.int (0 : Int32)) := (Arv.new A1 (by decide)).pad (own_pad 4)
  obtain ⟨clm2, Arm2, qm2, Sm2, Mm2, Hm2, Gm2⟩ := V1
  have hinm2 := inb_of (j := (0 : Int32)) Sm2 ⟨by decide, by decide⟩
  obtain ⟨Tm2, hm2, Xm2, em2, Wm2, stm2⟩ := stB X1 hx hZ e1 Arm2 (j := (0 : Int32)) hinm2 (g := (mkF m 65 #[.val (.int (4 : Int32)), .val (.int p2), .val (.int p3), .val (.int p4), .val (.int p5)] [(.int p2), (.int (0 : Int32)), (.ref b1), (.ref b1)])) rfl rfl (hb hby d1_65)
  have Nm2 := Fr.snoc Xm2 N0 g_b1
  have Vm2 := Arv.set Arm2 qm2 Sm2 Mm2 Hm2 Gm2 (fits_nar_byte _) Wm2 0 rfl (by rw [own_len]; decide)
  rw [own_set] at Vm2
  obtain ⟨clm3, Arm3, qm3, Sm3, Mm3, Hm3, Gm3⟩ := Vm2
  have hinm3 := inb_of (j := (1 : Int32)) Sm3 ⟨by decide, by decide⟩
  obtain ⟨Tm3, hm3, Xm3, em3, Wm3, stm3⟩ := stB Xm2 hx hZ em2 Arm3 (j := (1 : Int32)) hinm3 (g := (mkF m 69 #[.val (.int (4 : Int32)), .val (.int p2), .val (.int p3), .val (.int p4), .val (.int p5)] [(.int p3), (.int (1 : Int32)), (.ref b1), (.ref b1)])) rfl rfl (hb hby d1_69)
  have Nm3 := Fr.snoc Xm3 Nm2 g_b1
  have Vm3 := Arv.set Arm3 qm3 Sm3 Mm3 Hm3 Gm3 (fits_nar_byte _) Wm3 1 rfl (by rw [own_len]; decide)
  rw [own_set] at Vm3
  obtain ⟨clm4, Arm4, qm4, Sm4, Mm4, Hm4, Gm4⟩ := Vm3
  have hinm4 := inb_of (j := (2 : Int32)) Sm4 ⟨by decide, by decide⟩
  obtain ⟨Tm4, hm4, Xm4, em4, Wm4, stm4⟩ := stB Xm3 hx hZ em3 Arm4 (j := (2 : Int32)) hinm4 (g := (mkF m 73 #[.val (.int (4 : Int32)), .val (.int p2), .val (.int p3), .val (.int p4), .val (.int p5)] [(.int p4), (.int (2 : Int32)), (.ref b1), (.ref b1)])) rfl rfl (hb hby d1_73)
  have Nm4 := Fr.snoc Xm4 Nm3 g_b1
  have Vm4 := Arv.set Arm4 qm4 Sm4 Mm4 Hm4 Gm4 (fits_nar_byte _) Wm4 2 rfl (by rw [own_len]; decide)
  rw [own_set] at Vm4
  obtain ⟨clm5, Arm5, qm5, Sm5, Mm5, Hm5, Gm5⟩ := Vm4
  have hinm5 := inb_of (j := (3 : Int32)) Sm5 ⟨by decide, by decide⟩
  obtain ⟨Tm5, hm5, Xm5, em5, Wm5, stm5⟩ := stB Xm4 hx hZ em4 Arm5 (j := (3 : Int32)) hinm5 (g := (mkF m 78 #[.val (.int (4 : Int32)), .val (.int p2), .val (.int p3), .val (.int p4), .val (.int p5)] [(.int p5), (.int (3 : Int32)), (.ref b1), (.ref b1)])) rfl rfl (hb hby d1_78)
  have Nm5 := Fr.snoc Xm5 Nm4 g_b1
  have Vm5 := Arv.set Arm5 qm5 Sm5 Mm5 Hm5 Gm5 (fits_nar_byte _) Wm5 3 rfl (by rw [own_len]; decide)
  rw [own_set] at Vm5
  have g_s : h0.size ≤ b1 := Nat.le_of_eq g1.symm
  have K1 : Keep h0 h1 [] := (Keep.refl h0 []).ext E1
  have Km2 : Keep h0 hm2 [] := K1.wr Wm2 (Or.inr g_s)
  have Km3 : Keep h0 hm3 [] := Km2.wr Wm3 (Or.inr g_s)
  have Km4 : Keep h0 hm4 [] := Km3.wr Wm4 (Or.inr g_s)
  have Km5 : Keep h0 hm5 [] := Km4.wr Wm5 (Or.inr g_s)
  have EX : Ext h0 hm5 := ⟨Km5.1, fun x c q => Km5.2.1 x c q nin0⟩
  obtain ⟨fs, hr, hrun, hended, hW, hsame⟩ := Xm5.leave (v := some (.ref b1)) (fun h => by rw [Bd.returns] at h; cases h)
  refine ⟨_, _, pre0 _ ?_, hrun, hended, _, _, rfl, ?_, ⟨_, rfl⟩, hW, hsame.mono (by decide) (by decide)⟩
  · show Steps p.tables e below (s₁.setTop (mkF m 0 #[.val (.int (4 : Int32)), .val (.int p2), .val (.int p3), .val (.int p4), .val (.int p5)] [])) _
    refine XS.iloadN X0.here hx rfl (hb hby d1_0) rfl ?_
    show Steps p.tables e below (s₁.setTop (mkF m 1 #[.val (.int (4 : Int32)), .val (.int p2), .val (.int p3), .val (.int p4), .val (.int p5)] [(.int (4 : Int32))])) _
    refine XS.ifYes X0.here hx rfl (pc0 := 1) (pc' := 8) rfl (hb hby d1_1) rfl ((if0 _ _).trans (feq (by decide : ¬ ((4 : Int32) = (0 : Int32)))).2) (by decide) (by decide) ?_
    show Steps p.tables e below (s₁.setTop (mkF m 8 #[.val (.int (4 : Int32)), .val (.int p2), .val (.int p3), .val (.int p4), .val (.int p5)] [])) _
    refine XS.iloadN X0.here hx rfl (hb hby d1_8) rfl ?_
    show Steps p.tables e below (s₁.setTop (mkF m 9 #[.val (.int (4 : Int32)), .val (.int p2), .val (.int p3), .val (.int p4), .val (.int p5)] [(.int (4 : Int32))])) _
    refine XS.iconst X0.here hx rfl (hb hby d1_9) ?_
    show Steps p.tables e below (s₁.setTop (mkF m 10 #[.val (.int (4 : Int32)), .val (.int p2), .val (.int p3), .val (.int p4), .val (.int p5)] [(.int (1 : Int32)), (.int (4 : Int32))])) _
    refine XS.icmpYes X0.here hx rfl (pc0 := 10) (pc' := 21) rfl (hb hby d1_10) rfl (feq (by decide : ¬ ((4 : Int32) = (1 : Int32)))).2 (by decide) (by decide) ?_
    show Steps p.tables e below (s₁.setTop (mkF m 21 #[.val (.int (4 : Int32)), .val (.int p2), .val (.int p3), .val (.int p4), .val (.int p5)] [])) _
    refine XS.iloadN X0.here hx rfl (hb hby d1_21) rfl ?_
    show Steps p.tables e below (s₁.setTop (mkF m 22 #[.val (.int (4 : Int32)), .val (.int p2), .val (.int p3), .val (.int p4), .val (.int p5)] [(.int (4 : Int32))])) _
    refine XS.iconst X0.here hx rfl (hb hby d1_22) ?_
    show Steps p.tables e below (s₁.setTop (mkF m 23 #[.val (.int (4 : Int32)), .val (.int p2), .val (.int p3), .val (.int p4), .val (.int p5)] [(.int (2 : Int32)), (.int (4 : Int32))])) _
    refine XS.icmpYes X0.here hx rfl (pc0 := 23) (pc' := 38) rfl (hb hby d1_23) rfl (feq (by decide : ¬ ((4 : Int32) = (2 : Int32)))).2 (by decide) (by decide) ?_
    show Steps p.tables e below (s₁.setTop (mkF m 38 #[.val (.int (4 : Int32)), .val (.int p2), .val (.int p3), .val (.int p4), .val (.int p5)] [])) _
    refine XS.iloadN X0.here hx rfl (hb hby d1_38) rfl ?_
    show Steps p.tables e below (s₁.setTop (mkF m 39 #[.val (.int (4 : Int32)), .val (.int p2), .val (.int p3), .val (.int p4), .val (.int p5)] [(.int (4 : Int32))])) _
    refine XS.iconst X0.here hx rfl (hb hby d1_39) ?_
    show Steps p.tables e below (s₁.setTop (mkF m 40 #[.val (.int (4 : Int32)), .val (.int p2), .val (.int p3), .val (.int p4), .val (.int p5)] [(.int (3 : Int32)), (.int (4 : Int32))])) _
    refine XS.icmpYes X0.here hx rfl (pc0 := 40) (pc' := 59) rfl (hb hby d1_40) rfl (feq (by decide : ¬ ((4 : Int32) = (3 : Int32)))).2 (by decide) (by decide) ?_
    show Steps p.tables e below (s₁.setTop (mkF m 59 #[.val (.int (4 : Int32)), .val (.int p2), .val (.int p3), .val (.int p4), .val (.int p5)] [])) _
    refine XS.iconst X0.here hx rfl (hb hby d1_59) ?_
    show Steps p.tables e below (s₁.setTop (mkF m 60 #[.val (.int (4 : Int32)), .val (.int p2), .val (.int p3), .val (.int p4), .val (.int p5)] [(.int (4 : Int32))])) _
    refine st1 _ ?_
    show Steps p.tables e below (T1.setTop (mkF m 62 #[.val (.int (4 : Int32)), .val (.int p2), .val (.int p3), .val (.int p4), .val (.int p5)] [(.ref b1)])) _
    refine XS.dup X1.here hx rfl (hb hby d1_62) rfl rfl ?_
    show Steps p.tables e below (T1.setTop (mkF m 63 #[.val (.int (4 : Int32)), .val (.int p2), .val (.int p3), .val (.int p4), .val (.int p5)] [(.ref b1), (.ref b1)])) _
    refine XS.iconst X1.here hx rfl (hb hby d1_63) ?_
    show Steps p.tables e below (T1.setTop (mkF m 64 #[.val (.int (4 : Int32)), .val (.int p2), .val (.int p3), .val (.int p4), .val (.int p5)] [(.int (0 : Int32)), (.ref b1), (.ref b1)])) _
    refine XS.iloadN X1.here hx rfl (hb hby d1_64) rfl ?_
    show Steps p.tables e below (T1.setTop (mkF m 65 #[.val (.int (4 : Int32)), .val (.int p2), .val (.int p3), .val (.int p4), .val (.int p5)] [(.int p2), (.int (0 : Int32)), (.ref b1), (.ref b1)])) _
    refine stm2 _ ?_
    show Steps p.tables e below (Tm2.setTop (mkF m 66 #[.val (.int (4 : Int32)), .val (.int p2), .val (.int p3), .val (.int p4), .val (.int p5)] [(.ref b1)])) _
    refine XS.dup Xm2.here hx rfl (hb hby d1_66) rfl rfl ?_
    show Steps p.tables e below (Tm2.setTop (mkF m 67 #[.val (.int (4 : Int32)), .val (.int p2), .val (.int p3), .val (.int p4), .val (.int p5)] [(.ref b1), (.ref b1)])) _
    refine XS.iconst Xm2.here hx rfl (hb hby d1_67) ?_
    show Steps p.tables e below (Tm2.setTop (mkF m 68 #[.val (.int (4 : Int32)), .val (.int p2), .val (.int p3), .val (.int p4), .val (.int p5)] [(.int (1 : Int32)), (.ref b1), (.ref b1)])) _
    refine XS.iloadN Xm2.here hx rfl (hb hby d1_68) rfl ?_
    show Steps p.tables e below (Tm2.setTop (mkF m 69 #[.val (.int (4 : Int32)), .val (.int p2), .val (.int p3), .val (.int p4), .val (.int p5)] [(.int p3), (.int (1 : Int32)), (.ref b1), (.ref b1)])) _
    refine stm3 _ ?_
    show Steps p.tables e below (Tm3.setTop (mkF m 70 #[.val (.int (4 : Int32)), .val (.int p2), .val (.int p3), .val (.int p4), .val (.int p5)] [(.ref b1)])) _
    refine XS.dup Xm3.here hx rfl (hb hby d1_70) rfl rfl ?_
    show Steps p.tables e below (Tm3.setTop (mkF m 71 #[.val (.int (4 : Int32)), .val (.int p2), .val (.int p3), .val (.int p4), .val (.int p5)] [(.ref b1), (.ref b1)])) _
    refine XS.iconst Xm3.here hx rfl (hb hby d1_71) ?_
    show Steps p.tables e below (Tm3.setTop (mkF m 72 #[.val (.int (4 : Int32)), .val (.int p2), .val (.int p3), .val (.int p4), .val (.int p5)] [(.int (2 : Int32)), (.ref b1), (.ref b1)])) _
    refine XS.iloadN Xm3.here hx rfl (hb hby d1_72) rfl ?_
    show Steps p.tables e below (Tm3.setTop (mkF m 73 #[.val (.int (4 : Int32)), .val (.int p2), .val (.int p3), .val (.int p4), .val (.int p5)] [(.int p4), (.int (2 : Int32)), (.ref b1), (.ref b1)])) _
    refine stm4 _ ?_
    show Steps p.tables e below (Tm4.setTop (mkF m 74 #[.val (.int (4 : Int32)), .val (.int p2), .val (.int p3), .val (.int p4), .val (.int p5)] [(.ref b1)])) _
    refine XS.dup Xm4.here hx rfl (hb hby d1_74) rfl rfl ?_
    show Steps p.tables e below (Tm4.setTop (mkF m 75 #[.val (.int (4 : Int32)), .val (.int p2), .val (.int p3), .val (.int p4), .val (.int p5)] [(.ref b1), (.ref b1)])) _
    refine XS.iconst Xm4.here hx rfl (hb hby d1_75) ?_
    show Steps p.tables e below (Tm4.setTop (mkF m 76 #[.val (.int (4 : Int32)), .val (.int p2), .val (.int p3), .val (.int p4), .val (.int p5)] [(.int (3 : Int32)), (.ref b1), (.ref b1)])) _
    refine XS.iload Xm4.here hx rfl (hb hby d1_76) rfl ?_
    show Steps p.tables e below (Tm4.setTop (mkF m 78 #[.val (.int (4 : Int32)), .val (.int p2), .val (.int p3), .val (.int p4), .val (.int p5)] [(.int p5), (.int (3 : Int32)), (.ref b1), (.ref b1)])) _
    refine stm5 _ ?_
    show Steps p.tables e below (Tm5.setTop (mkF m 79 #[.val (.int (4 : Int32)), .val (.int p2), .val (.int p3), .val (.int p4), .val (.int p5)] [(.ref b1)])) _
    jvm_step Xm5.here [Xm5.here.top, hx, (hb hby d1_79), Xm5.method', Bd.returns, Value.isRef, FieldType.isReference]
    first | (intro acts; rw [hr _ acts rfl rfl rfl]) | rw [hr _ _ rfl rfl rfl]
    exact Steps.refl _
  · show Q1 Z 4 (own_src p2 p3 p4 p5) h0 n0 _ Tm5.heap _
    rw [em5]
    exact ⟨b1, k1, rfl, Nm5, EX, g_s, Vm5⟩
set_option maxRecDepth 65536 in
set_option maxHeartbeats 40000000 in
theorem rm1 (l : Launch) (Z : State) (a0 : Array Value) (hw : ∀ d ∈ tables_1, d.before a0 Z = true) (ws : List Jvm.Cond) (nn : Nat) (hnn : nn < 5) (p2 p3 p4 p5 : Int32) (h0 : Heap) (n0 : Nat) (Z0 : n0 ≤ h0.size) :
    MetFree l (⟨"com/example/fountainwire/fountainwire/codec/OctetsAddPinLaw", "makeSource", "(IBBBB)[B"⟩ : MethodName) (head1 (Jvm.Cond.code (⟨"com/example/fountainwire/fountainwire/codec/OctetsAddPinLaw", "makeSource", "(IBBBB)[B"⟩ : MethodName) method_4_code 5 (some (.array .byte)) :: ws) ({ frames := 0, cells := 1, slots := 4, locals := 0 } : Room)) (fun a U => a = #[(.int (Int32.ofNat nn)), (.int p2), (.int p3), (.int p4), (.int p5)] ∧ Z.Warmed39 U.vm ∧ U.heap = h0) (fun _ _ _ _ _ => True) (fun _ U o U' => ∃ v L, o = .returned v ∧ Q1 Z nn (own_src p2 p3 p4 p5) h0 n0 v U'.heap L ∧ FrameEnd U o U' L ({ frames := 0, cells := 1, slots := 4, locals := 0 } : Room).cells ({ frames := 0, cells := 1, slots := 4, locals := 0 } : Room).slots) := by
  have h1 : nn = 0 ∨ nn = 1 ∨ nn = 2 ∨ nn = 3 ∨ nn = 4 := by omega
  rcases h1 with rfl | rfl | rfl | rfl | rfl
  · exact rm1_0 l Z a0 hw ws p2 p3 p4 p5 h0 n0 Z0
  · exact rm1_1 l Z a0 hw ws p2 p3 p4 p5 h0 n0 Z0
  · exact rm1_2 l Z a0 hw ws p2 p3 p4 p5 h0 n0 Z0
  · exact rm1_3 l Z a0 hw ws p2 p3 p4 p5 h0 n0 Z0
  · exact rm1_4 l Z a0 hw ws p2 p3 p4 p5 h0 n0 Z0
theorem pn_2 : plainName "com/example/fountainwire/fountainwire/codec/Octets" = true := by first | (simp [plainName, overriddenIn]; done) | decide +kernel
theorem ef_2 (m : MethodId) (a1 : Addr) (a2 : Addr) : entryFrame m #[(.ref a1), (.ref a2)] 3 = mkF m 0 #[.val (.ref a1), .val (.ref a2), .unset] [] := by first | (simp [entryFrame, mkF, argsToLocals, Value.category]; done) | rfl
theorem d2_0 : decode prog_16_method_4_code 0 = .ok (.iconst 0, 1) := by decide +kernel
theorem d2_1 : decode prog_16_method_4_code 1 = .ok (.istore_n 2, 1) := by decide +kernel
theorem d2_2 : decode prog_16_method_4_code 2 = .ok (.iload_n 2, 1) := by decide +kernel
theorem d2_3 : decode prog_16_method_4_code 3 = .ok (.aload_n 1, 1) := by decide +kernel
theorem d2_4 : decode prog_16_method_4_code 4 = .ok (.arraylength, 1) := by decide +kernel
theorem d2_5 : decode prog_16_method_4_code 5 = .ok (.if_icmp .ge 19, 3) := by decide +kernel
theorem d2_8 : decode prog_16_method_4_code 8 = .ok (.aload_n 0, 1) := by decide +kernel
theorem d2_9 : decode prog_16_method_4_code 9 = .ok (.iload_n 2, 1) := by decide +kernel
theorem d2_10 : decode prog_16_method_4_code 10 = .ok (.dup2, 1) := by decide +kernel
theorem d2_11 : decode prog_16_method_4_code 11 = .ok (.baload, 1) := by decide +kernel
theorem d2_12 : decode prog_16_method_4_code 12 = .ok (.aload_n 1, 1) := by decide +kernel
theorem d2_13 : decode prog_16_method_4_code 13 = .ok (.iload_n 2, 1) := by decide +kernel
theorem d2_14 : decode prog_16_method_4_code 14 = .ok (.baload, 1) := by decide +kernel
theorem d2_15 : decode prog_16_method_4_code 15 = .ok (.ixor, 1) := by decide +kernel
theorem d2_16 : decode prog_16_method_4_code 16 = .ok (.i2b, 1) := by decide +kernel
theorem d2_17 : decode prog_16_method_4_code 17 = .ok (.bastore, 1) := by decide +kernel
theorem d2_18 : decode prog_16_method_4_code 18 = .ok (.iinc 2 1, 3) := by decide +kernel
theorem d2_21 : decode prog_16_method_4_code 21 = .ok (.goto (-19), 3) := by decide +kernel
theorem d2_24 : decode prog_16_method_4_code 24 = .ok (.return_, 1) := by decide +kernel
set_option maxRecDepth 65536 in
set_option maxHeartbeats 40000000 in
theorem t224 {p : Program} {l : Launch} {e : Env} {R : Room} {s : State} {m : MethodId} {args : Array Value} {below : List Frame} {meth : Method} {c : Code} {T0 : State} {locs : List Loc} {cells slots : Nat} {Z : State} {a0 : Array Value} {h0 : Heap} (o0 : Addr) (o1 : Addr) (i2 : Int32) (cl1 : Cell) (NN : Int32)
    (X0 : Stand p l e R s m args below meth c T0 locs cells slots) (hx : p.tables.exec = Jvm.exec) (hZ : Z.Warmed39 s.vm) (hw : ∀ d ∈ tables_1, d.before a0 Z = true) (hby : c.code = prog_16_method_4_code) (hml : c.maxLocals = 3) (hown : s.vm.findClass "com/example/fountainwire/fountainwire/codec/Octets" = some m.cls) (e0 : T0.heap = h0) (Ar1 : Arr Z h0 o1 cl1 .byte) (S1 : cl1.slots.size = NN.toNatClampNeg) (M1 : ¬ NN < 0) (hge : ¬ (i2 < NN)) {target : State}
    (kt : Steps p.tables e below (T0.setTop (mkF m 24 #[.val (.ref o0), .val (.ref o1), .val (.int i2)] [])) target) : Steps p.tables e below (T0.setTop (mkF m 2 #[.val (.ref o0), .val (.ref o1), .val (.int i2)] [])) target := by
  show Steps p.tables e below (T0.setTop (mkF m 2 #[.val (.ref o0), .val (.ref o1), .val (.int i2)] [])) _
  refine XS.iloadN X0.here hx rfl (hb hby d2_2) rfl ?_
  show Steps p.tables e below (T0.setTop (mkF m 3 #[.val (.ref o0), .val (.ref o1), .val (.int i2)] [(.int i2)])) _
  refine XS.aloadN X0.here hx rfl (hb hby d2_3) rfl rfl ?_
  show Steps p.tables e below (T0.setTop (mkF m 4 #[.val (.ref o0), .val (.ref o1), .val (.int i2)] [(.ref o1), (.int i2)])) _
  refine X0.arraylength hx (cell := cl1) (by rw [e0]; exact Ar1.1) (State.isArrayOf_alike hZ.alike Ar1.2.1) (g := (mkF m 4 #[.val (.ref o0), .val (.ref o1), .val (.int i2)] [(.ref o1), (.int i2)])) rfl (rest := [(.int i2)]) rfl (hb hby d2_4) _ ?_
  rw [len_of S1 M1]
  show Steps p.tables e below (T0.setTop (mkF m 5 #[.val (.ref o0), .val (.ref o1), .val (.int i2)] [(.int NN), (.int i2)])) _
  refine XS.icmpYes X0.here hx rfl (pc0 := 5) (pc' := 24) rfl (hb hby d2_5) rfl (flt hge).2.1 (by decide) (by decide) ?_
  exact kt
set_option maxRecDepth 65536 in
set_option maxHeartbeats 40000000 in
theorem t22 {p : Program} {l : Launch} {e : Env} {R : Room} {s : State} {m : MethodId} {args : Array Value} {below : List Frame} {meth : Method} {c : Code} {T0 : State} {locs : List Loc} {cells slots : Nat} {Z : State} {a0 : Array Value} {h0 : Heap} (o0 o1 : Addr) (i2 : Int32) (cl0 cl1 : Cell) (NN w0 w1 : Int32) (n0 : Nat)
    (X0 : Stand p l e R s m args below meth c T0 locs cells slots) (hx : p.tables.exec = Jvm.exec) (hZ : Z.Warmed39 s.vm) (hw : ∀ d ∈ tables_1, d.before a0 Z = true) (hby : c.code = prog_16_method_4_code) (hml : c.maxLocals = 3) (hown : s.vm.findClass "com/example/fountainwire/fountainwire/codec/Octets" = some m.cls) (e0 : T0.heap = h0) (Ar0 : Arr Z h0 o0 cl0 .byte) (Ar1 : Arr Z h0 o1 cl1 .byte) (S1 : cl1.slots.size = NN.toNatClampNeg) (M1 : ¬ NN < 0) (hlt : i2 < NN) (hin0 : ¬ (i2 < 0 ∨ cl0.slots.size ≤ i2.toNatClampNeg)) (hat0 : cl0.slots[i2.toNatClampNeg]? = some (.int w0)) (hin1 : ¬ (i2 < 0 ∨ cl1.slots.size ≤ i2.toNatClampNeg)) (hat1 : cl1.slots[i2.toNatClampNeg]? = some (.int w1)) (N0 : Fr n0 locs) (ga : n0 ≤ o0) :
    ∃ (T' : State) (h' : Heap) (locs' : List Loc), Stand p l e R s m args below meth c T' locs' cells slots ∧ T'.heap = h' ∧ Fr n0 locs' ∧ Wr h0 h' o0 i2.toNatClampNeg (.int (nar .byte ((w0 ^^^ w1).toInt8.toInt32))) ∧ ∀ target, Steps p.tables e below (T'.setTop (mkF m 2 #[.val (.ref o0), .val (.ref o1), .val (.int (i2 + (1 : Int32)))] [])) target → Steps p.tables e below (T0.setTop (mkF m 2 #[.val (.ref o0), .val (.ref o1), .val (.int i2)] [])) target := by
  obtain ⟨T1, h1, X1, e1, W1, st1⟩ := stB X0 hx hZ e0 Ar0 (j := i2) hin0 (g := (mkF m 17 #[.val (.ref o0), .val (.ref o1), .val (.int i2)] [(.int ((w0 ^^^ w1).toInt8.toInt32)), (.int i2), (.ref o0)])) rfl rfl (hb hby d2_17)
  have N1 := Fr.snoc X1 N0 ga
  refine ⟨T1, _, _, X1, e1, N1, W1, fun target kt => ?_⟩
  show Steps p.tables e below (T0.setTop (mkF m 2 #[.val (.ref o0), .val (.ref o1), .val (.int i2)] [])) _
  refine XS.iloadN X0.here hx rfl (hb hby d2_2) rfl ?_
  show Steps p.tables e below (T0.setTop (mkF m 3 #[.val (.ref o0), .val (.ref o1), .val (.int i2)] [(.int i2)])) _
  refine XS.aloadN X0.here hx rfl (hb hby d2_3) rfl rfl ?_
  show Steps p.tables e below (T0.setTop (mkF m 4 #[.val (.ref o0), .val (.ref o1), .val (.int i2)] [(.ref o1), (.int i2)])) _
  refine X0.arraylength hx (cell := cl1) (by rw [e0]; exact Ar1.1) (State.isArrayOf_alike hZ.alike Ar1.2.1) (g := (mkF m 4 #[.val (.ref o0), .val (.ref o1), .val (.int i2)] [(.ref o1), (.int i2)])) rfl (rest := [(.int i2)]) rfl (hb hby d2_4) _ ?_
  rw [len_of S1 M1]
  show Steps p.tables e below (T0.setTop (mkF m 5 #[.val (.ref o0), .val (.ref o1), .val (.int i2)] [(.int NN), (.int i2)])) _
  refine XS.icmpNo X0.here hx rfl (hb hby d2_5) rfl (tlt hlt).2.1 ?_
  show Steps p.tables e below (T0.setTop (mkF m 8 #[.val (.ref o0), .val (.ref o1), .val (.int i2)] [])) _
  refine XS.aloadN X0.here hx rfl (hb hby d2_8) rfl rfl ?_
  show Steps p.tables e below (T0.setTop (mkF m 9 #[.val (.ref o0), .val (.ref o1), .val (.int i2)] [(.ref o0)])) _
  refine XS.iloadN X0.here hx rfl (hb hby d2_9) rfl ?_
  show Steps p.tables e below (T0.setTop (mkF m 10 #[.val (.ref o0), .val (.ref o1), .val (.int i2)] [(.int i2), (.ref o0)])) _
  refine Jvm.Free.XT.dup2 X0.here hx rfl (hb hby d2_10) rfl rfl rfl ?_
  show Steps p.tables e below (T0.setTop (mkF m 11 #[.val (.ref o0), .val (.ref o1), .val (.int i2)] [(.int i2), (.ref o0), (.int i2), (.ref o0)])) _
  refine X0.baloadBytes hx (j := i2) (v := (.int w0)) (by rw [e0]; exact Ar0.1) (State.isArrayOf_alike hZ.alike Ar0.2.1) Ar0.2.2 hin0 hat0 (g := (mkF m 11 #[.val (.ref o0), .val (.ref o1), .val (.int i2)] [(.int i2), (.ref o0), (.int i2), (.ref o0)])) rfl rfl (hb hby d2_11) _ ?_
  show Steps p.tables e below (T0.setTop (mkF m 12 #[.val (.ref o0), .val (.ref o1), .val (.int i2)] [(.int w0), (.int i2), (.ref o0)])) _
  refine XS.aloadN X0.here hx rfl (hb hby d2_12) rfl rfl ?_
  show Steps p.tables e below (T0.setTop (mkF m 13 #[.val (.ref o0), .val (.ref o1), .val (.int i2)] [(.ref o1), (.int w0), (.int i2), (.ref o0)])) _
  refine XS.iloadN X0.here hx rfl (hb hby d2_13) rfl ?_
  show Steps p.tables e below (T0.setTop (mkF m 14 #[.val (.ref o0), .val (.ref o1), .val (.int i2)] [(.int i2), (.ref o1), (.int w0), (.int i2), (.ref o0)])) _
  refine X0.baloadBytes hx (j := i2) (v := (.int w1)) (by rw [e0]; exact Ar1.1) (State.isArrayOf_alike hZ.alike Ar1.2.1) Ar1.2.2 hin1 hat1 (g := (mkF m 14 #[.val (.ref o0), .val (.ref o1), .val (.int i2)] [(.int i2), (.ref o1), (.int w0), (.int i2), (.ref o0)])) rfl rfl (hb hby d2_14) _ ?_
  show Steps p.tables e below (T0.setTop (mkF m 15 #[.val (.ref o0), .val (.ref o1), .val (.int i2)] [(.int w1), (.int w0), (.int i2), (.ref o0)])) _
  refine XS.ixor X0.here hx rfl (hb hby d2_15) rfl ?_
  show Steps p.tables e below (T0.setTop (mkF m 16 #[.val (.ref o0), .val (.ref o1), .val (.int i2)] [(.int (w0 ^^^ w1)), (.int i2), (.ref o0)])) _
  refine XS.i2b X0.here hx rfl (hb hby d2_16) rfl ?_
  show Steps p.tables e below (T0.setTop (mkF m 17 #[.val (.ref o0), .val (.ref o1), .val (.int i2)] [(.int ((w0 ^^^ w1).toInt8.toInt32)), (.int i2), (.ref o0)])) _
  refine st1 _ ?_
  show Steps p.tables e below (T1.setTop (mkF m 18 #[.val (.ref o0), .val (.ref o1), .val (.int i2)] [])) _
  refine XS.iinc X1.here hx rfl (hb hby d2_18) rfl (l' := #[.val (.ref o0), .val (.ref o1), .val (.int (i2 + (1 : Int32)))]) rfl ?_
  show Steps p.tables e below (T1.setTop (mkF m 21 #[.val (.ref o0), .val (.ref o1), .val (.int (i2 + (1 : Int32)))] [])) _
  refine XS.goto X1.here hx rfl (pc0 := 21) (pc' := 2) rfl (hb hby d2_21) (by decide) (by decide) ?_
  exact kt
set_option maxRecDepth 65536 in
set_option maxHeartbeats 40000000 in
theorem loop2 {p : Program} {l : Launch} {e : Env} {R : Room} {s : State} {m : MethodId} {args : Array Value} {below : List Frame} {meth : Method} {c : Code} {cells slots : Nat} {Z : State} {a0 : Array Value} (o0 o1 : Addr) (ka kb : ClassId) (tf sf : Nat → Int32) (nn : Nat) (hnn : nn ≤ 4) (n0 : Nat) (ga : n0 ≤ o0) (hne : o1 ≠ o0) (hx : p.tables.exec = Jvm.exec) (hZ : Z.Warmed39 s.vm) (hw : ∀ d ∈ tables_1, d.before a0 Z = true) (hby : c.code = prog_16_method_4_code) (hml : c.maxLocals = 3) (hown : s.vm.findClass "com/example/fountainwire/fountainwire/codec/Octets" = some m.cls) :
    ∀ (k i : Nat) (T0 : State) (h0 : Heap) (locs : List Loc), i + k = nn → Stand p l e R s m args below meth c T0 locs cells slots → T0.heap = h0 → Fr n0 locs → Arv Z h0 o0 ka .byte (4 : Int32) (own_vals (own_add tf sf i) 4) (.int (0 : Int32)) → Arv Z h0 o1 kb .byte (Int32.ofNat nn) (own_vals sf nn) (.int (0 : Int32)) →
      ∃ (T' : State) (h' : Heap) (locs' : List Loc), Stand p l e R s m args below meth c T' locs' cells slots ∧ T'.heap = h' ∧ Fr n0 locs' ∧ Keep h0 h' [o0] ∧ Arv Z h' o0 ka .byte (4 : Int32) (own_vals (own_add tf sf nn) 4) (.int (0 : Int32)) ∧ Arv Z h' o1 kb .byte (Int32.ofNat nn) (own_vals sf nn) (.int (0 : Int32)) ∧ ∀ target, Steps p.tables e below (T'.setTop (mkF m 24 #[.val (.ref o0), .val (.ref o1), .val (.int (Int32.ofNat nn))] [])) target → Steps p.tables e below (T0.setTop (mkF m 2 #[.val (.ref o0), .val (.ref o1), .val (.int (Int32.ofNat i))] [])) target := by
  intro k
  induction k with
  | zero =>
    intro i T0 h0 locs hi X0 e0 N0 VA VB
    obtain rfl : i = nn := by omega
    refine ⟨T0, h0, locs, X0, e0, N0, Keep.refl _ _, VA, VB, fun target kt => ?_⟩
    obtain ⟨cl1, Ar1, -, S1, M1, -, -⟩ := VB
    exact t224 (o0 := o0) (o1 := o1) (i2 := Int32.ofNat i) (cl1 := cl1) (NN := Int32.ofNat i) X0 hx hZ hw hby hml hown e0 Ar1 S1 M1 Int32.lt_irrefl kt
  | succ k ih =>
    intro i T0 h0 locs hi X0 e0 N0 VA VB
    obtain ⟨cl0, Ar0, q0, S0, M0, H0, G0⟩ := VA
    obtain ⟨cl1, Ar1, q1, S1, M1, H1, G1⟩ := VB
    have z0 : cl0.slots.size = 4 := S0
    have z1 : cl1.slots.size = nn := by rw [S1, own_n32 (by omega)]
    have hin0 : ¬ (Int32.ofNat i < 0 ∨ cl0.slots.size ≤ (Int32.ofNat i).toNatClampNeg) := by
      rw [z0, own_n32 (by omega)]
      exact fun q => q.elim (own_nn (by omega)) (fun q => by omega)
    have hin1 : ¬ (Int32.ofNat i < 0 ∨ cl1.slots.size ≤ (Int32.ofNat i).toNatClampNeg) := by
      rw [z1, own_n32 (by omega)]
      exact fun q => q.elim (own_nn (by omega)) (fun q => by omega)
    have hat0 : cl0.slots[(Int32.ofNat i).toNatClampNeg]? = some (.int (tf i)) := by
      rw [own_n32 (by omega)]
      have q := H0 i (by rw [z0]; omega)
      rw [own_at _ (by omega), own_addi] at q
      exact q
    have hat1 : cl1.slots[(Int32.ofNat i).toNatClampNeg]? = some (.int (sf i)) := by
      rw [own_n32 (by omega)]
      have q := H1 i (by rw [z1]; omega)
      rw [own_at _ (by omega)] at q
      exact q
    obtain ⟨T1, h1, L1, X1, e1, N1, W1, st1⟩ := t22 o0 o1 (Int32.ofNat i) cl0 cl1 (Int32.ofNat nn) (tf i) (sf i) n0 X0 hx hZ hw hby hml hown e0 Ar0 Ar1 S1 M1 (own_lt (by omega) (by omega)) hin0 hat0 hin1 hat1 N0 ga
    have VA1 := Arv.set Ar0 q0 S0 M0 H0 G0 (fits_nar_byte _) W1 i (own_n32 (by omega)) (by rw [own_len]; omega)
    rw [own_set] at VA1
    have VA1 : Arv Z h1 o0 ka .byte (4 : Int32) (own_vals (own_add tf sf (i + 1)) 4) (.int (0 : Int32)) := own_adds tf sf i ▸ VA1
    have VB1 : Arv Z h1 o1 kb .byte (Int32.ofNat nn) (own_vals sf nn) (.int (0 : Int32)) := Arv.other ⟨cl1, Ar1, q1, S1, M1, H1, G1⟩ W1 hne
    obtain ⟨T', h', L', X', e', N', K', VA', VB', st⟩ := ih (i + 1) T1 h1 L1 (by omega) X1 e1 N1 VA1 VB1
    refine ⟨T', h', L', X', e', N', (Keep.of_wr W1).trans K' (fun x hx => Or.inl hx), VA', VB', fun target kt => st1 target ?_⟩
    rw [own_one]
    exact st target kt
def Q2 (Z : State) (a1 : Addr) (ka : ClassId) (tf sf : Nat → Int32) (nn : Nat) (h0 : Heap) (n0 : Nat) (v : Option Value) (h : Heap) (L : List Loc) : Prop := v = none ∧ Fr n0 L ∧ Keep h0 h [a1] ∧ Arv Z h a1 ka .byte (4 : Int32) (own_vals (own_add tf sf nn) 4) (.int (0 : Int32))
set_option maxRecDepth 65536 in
set_option maxHeartbeats 40000000 in
theorem rm2 (l : Launch) (Z : State) (a0 : Array Value) (hw : ∀ d ∈ tables_1, d.before a0 Z = true) (ws : List Jvm.Cond) (a1 a2 : Addr) (ka kb : ClassId) (tf sf : Nat → Int32) (nn : Nat) (h0 : Heap) (n0 : Nat) (Z0 : n0 ≤ h0.size) (hnn : nn ≤ 4) (ga : n0 ≤ a1) (hne : a2 ≠ a1) (VA : Arv Z h0 a1 ka .byte (4 : Int32) (own_vals tf 4) (.int (0 : Int32))) (VB : Arv Z h0 a2 kb .byte (Int32.ofNat nn) (own_vals sf nn) (.int (0 : Int32))) :
    MetFree l (⟨"com/example/fountainwire/fountainwire/codec/Octets", "add", "([B[B)V"⟩ : MethodName) (head1 (Jvm.Cond.code (⟨"com/example/fountainwire/fountainwire/codec/Octets", "add", "([B[B)V"⟩ : MethodName) prog_16_method_4_code 3 none :: ws) ({ frames := 0, cells := 0, slots := 0, locals := 0 } : Room)) (fun a U => a = #[(.ref a1), (.ref a2)] ∧ Z.Warmed39 U.vm ∧ U.heap = h0) (fun _ _ _ _ _ => True) (fun _ U o U' => ∃ v L, o = .returned v ∧ Q2 Z a1 ka tf sf nn h0 n0 v U'.heap L ∧ FrameEnd U o U' L ({ frames := 0, cells := 0, slots := 0, locals := 0 } : Room).cells ({ frames := 0, cells := 0, slots := 0, locals := 0 } : Room).slots) := by
  refine MetFree.of_bodySF (plainFor_of_name pn_2) hisR ?_
  intro p e s m args below meth c s₁ Bd hml0 hP hK
  obtain ⟨rfl, hZ, hh⟩ := hP
  have hx := Bd.exec
  have hby := Bd.bytes
  have hml : c.maxLocals = 3 := hml0
  have hown : s.vm.findClass "com/example/fountainwire/fountainwire/codec/Octets" = some m.cls := findClass_of_methodNamed Bd.named
  have hnm := (name_of_methodNamed Bd.named Bd.method).1
  have X0 : Stand p l e ({ frames := 0, cells := 0, slots := 0, locals := 0 } : Room) s m #[(.ref a1), (.ref a2)] below meth c s₁ [] 0 0 := Stand.of_body Bd
  have e0 : s₁.heap = h0 := by rw [← hh, Bd.state]; rfl
  have N0 := Fr.nil n0
  have pre0 : ∀ t, Steps p.tables e below (s₁.setTop (mkF m 0 #[.val (.ref a1), .val (.ref a2), .unset] [])) t → Steps p.tables e below (s₁.setTop (entryFrame m #[(.ref a1), (.ref a2)] 3)) t := fun t k => castTop (ef_2 m a1 a2) k
  have VA' : Arv Z h0 a1 ka .byte (4 : Int32) (own_vals (own_add tf sf 0) 4) (.int (0 : Int32)) := by rw [own_add0]; exact VA
  obtain ⟨T1, h1, L1, X1, e1, N1, K1, VA1, VB1, st1⟩ := loop2 a1 a2 ka kb tf sf nn hnn n0 ga hne hx hZ hw hby hml hown nn 0 s₁ h0 [] (by omega) X0 e0 N0 VA' VB
  obtain ⟨fs, hr, hrun, hended, hW, hsame⟩ := X1.leave (v := none) (fun _ => rfl)
  refine ⟨_, _, pre0 _ ?_, hrun, hended, _, _, rfl, ?_, ⟨_, rfl⟩, hW, hsame.mono (by decide) (by decide)⟩
  · show Steps p.tables e below (s₁.setTop (mkF m 0 #[.val (.ref a1), .val (.ref a2), .unset] [])) _
    refine XS.iconst X0.here hx rfl (hb hby d2_0) ?_
    show Steps p.tables e below (s₁.setTop (mkF m 1 #[.val (.ref a1), .val (.ref a2), .unset] [(.int (0 : Int32))])) _
    refine XS.istoreN X0.here hx rfl (hb hby d2_1) rfl (l' := #[.val (.ref a1), .val (.ref a2), .val (.int (0 : Int32))]) rfl ?_
    show Steps p.tables e below (s₁.setTop (mkF m 2 #[.val (.ref a1), .val (.ref a2), .val (.int (0 : Int32))] [])) _
    refine st1 _ ?_
    exact X1.returnOut hx Bd.returns (hb hby d2_24) hr
  · show Q2 Z a1 ka tf sf nn h0 n0 _ T1.heap _
    rw [e1]
    exact ⟨rfl, N1, K1, VA1⟩
set_option maxRecDepth 65536 in
set_option maxHeartbeats 40000000 in
theorem segK {p : Program} {l : Launch} {e : Env} {R : Room} {s : State} {m : MethodId} {args : Array Value} {below : List Frame} {meth : Method} {c : Code} {T0 : State} {locs : List Loc} {cells slots : Nat} {Z : State} {a0 : Array Value} {h0 : Heap} (p1 : Int32) (p2 : Int32) (p3 : Int32) (r3 : Int32) (t0 : Int32) (t1 : Int32) (t2 : Int32) (t3 : Int32) (s0_ : Int32) (s1_ : Int32) (s2_ : Int32) (s3_ : Int32) 
    (X0 : Stand p l e R s m args below meth c T0 locs cells slots) (hx : p.tables.exec = Jvm.exec) (hZ : Z.Warmed39 s.vm) (hw : ∀ d ∈ tables_1, d.before a0 Z = true) (hby : c.code = code) (hml : c.maxLocals = 15) (hown : s.vm.findClass "com/example/fountainwire/fountainwire/codec/OctetsAddPinLaw" = some m.cls) (e0 : T0.heap = h0) (k1 : r3 = ((p3 &&& (2147483647 : Int32)) % (5 : Int32))) (k2 : t0 = (p1.toInt8.toInt32)) (k3 : t1 = (((p1.toUInt32 >>> ((8 : Int32) &&& 31).toUInt32).toInt32).toInt8.toInt32)) (k4 : t2 = (((p1.toUInt32 >>> ((16 : Int32) &&& 31).toUInt32).toInt32).toInt8.toInt32)) (k5 : t3 = (((p1.toUInt32 >>> ((24 : Int32) &&& 31).toUInt32).toInt32).toInt8.toInt32)) (k6 : s0_ = (p2.toInt8.toInt32)) (k7 : s1_ = (((p2.toUInt32 >>> ((8 : Int32) &&& 31).toUInt32).toInt32).toInt8.toInt32)) (k8 : s2_ = (((p2.toUInt32 >>> ((16 : Int32) &&& 31).toUInt32).toInt32).toInt8.toInt32)) (k9 : s3_ = (((p2.toUInt32 >>> ((24 : Int32) &&& 31).toUInt32).toInt32).toInt8.toInt32)) {target : State}
    (kt : Steps p.tables e below (T0.setTop (mkF m 57 #[.val (.int p1), .val (.int p2), .val (.int p3), .val (.int r3), .val (.int t0), .val (.int t1), .val (.int t2), .val (.int t3), .val (.int s0_), .val (.int s1_), .val (.int s2_), .val (.int s3_), .unset, .unset, .unset] [])) target) : Steps p.tables e below (T0.setTop (mkF m 0 #[.val (.int p1), .val (.int p2), .val (.int p3), .unset, .unset, .unset, .unset, .unset, .unset, .unset, .unset, .unset, .unset, .unset, .unset] [])) target := by
  show Steps p.tables e below (T0.setTop (mkF m 0 #[.val (.int p1), .val (.int p2), .val (.int p3), .unset, .unset, .unset, .unset, .unset, .unset, .unset, .unset, .unset, .unset, .unset, .unset] [])) _
  refine XS.iloadN X0.here hx rfl (hb hby at_0) rfl ?_
  show Steps p.tables e below (T0.setTop (mkF m 1 #[.val (.int p1), .val (.int p2), .val (.int p3), .unset, .unset, .unset, .unset, .unset, .unset, .unset, .unset, .unset, .unset, .unset, .unset] [(.int p3)])) _
  refine X0.ldcInt hx hown (mvT hZ (hw _ (List.mem_of_getElem? (i := 0) rfl))) (g := (mkF m 1 #[.val (.int p1), .val (.int p2), .val (.int p3), .unset, .unset, .unset, .unset, .unset, .unset, .unset, .unset, .unset, .unset, .unset, .unset] [(.int p3)])) rfl (hb hby at_1) _ ?_
  show Steps p.tables e below (T0.setTop (mkF m 3 #[.val (.int p1), .val (.int p2), .val (.int p3), .unset, .unset, .unset, .unset, .unset, .unset, .unset, .unset, .unset, .unset, .unset, .unset] [(.int (2147483647 : Int32)), (.int p3)])) _
  refine XS.iand X0.here hx rfl (hb hby at_3) rfl ?_
  show Steps p.tables e below (T0.setTop (mkF m 4 #[.val (.int p1), .val (.int p2), .val (.int p3), .unset, .unset, .unset, .unset, .unset, .unset, .unset, .unset, .unset, .unset, .unset, .unset] [(.int (p3 &&& (2147483647 : Int32)))])) _
  refine XS.iconst X0.here hx rfl (hb hby at_4) ?_
  show Steps p.tables e below (T0.setTop (mkF m 5 #[.val (.int p1), .val (.int p2), .val (.int p3), .unset, .unset, .unset, .unset, .unset, .unset, .unset, .unset, .unset, .unset, .unset, .unset] [(.int (5 : Int32)), (.int (p3 &&& (2147483647 : Int32)))])) _
  refine iremM (g := (mkF m 5 #[.val (.int p1), .val (.int p2), .val (.int p3), .unset, .unset, .unset, .unset, .unset, .unset, .unset, .unset, .unset, .unset, .unset, .unset] [(.int (5 : Int32)), (.int (p3 &&& (2147483647 : Int32)))])) X0 hx rfl (hb hby at_5) rfl (by decide) ?_
  show Steps p.tables e below (T0.setTop (mkF m 6 #[.val (.int p1), .val (.int p2), .val (.int p3), .unset, .unset, .unset, .unset, .unset, .unset, .unset, .unset, .unset, .unset, .unset, .unset] [(.int ((p3 &&& (2147483647 : Int32)) % (5 : Int32)))])) _
  refine XS.istoreN X0.here hx rfl (hb hby at_6) rfl (l' := #[.val (.int p1), .val (.int p2), .val (.int p3), .val (.int ((p3 &&& (2147483647 : Int32)) % (5 : Int32))), .unset, .unset, .unset, .unset, .unset, .unset, .unset, .unset, .unset, .unset, .unset]) rfl ?_
  show Steps p.tables e below (T0.setTop (mkF m 7 #[.val (.int p1), .val (.int p2), .val (.int p3), .val (.int ((p3 &&& (2147483647 : Int32)) % (5 : Int32))), .unset, .unset, .unset, .unset, .unset, .unset, .unset, .unset, .unset, .unset, .unset] [])) _
  refine XS.iloadN X0.here hx rfl (hb hby at_7) rfl ?_
  show Steps p.tables e below (T0.setTop (mkF m 8 #[.val (.int p1), .val (.int p2), .val (.int p3), .val (.int ((p3 &&& (2147483647 : Int32)) % (5 : Int32))), .unset, .unset, .unset, .unset, .unset, .unset, .unset, .unset, .unset, .unset, .unset] [(.int p1)])) _
  refine XS.i2b X0.here hx rfl (hb hby at_8) rfl ?_
  show Steps p.tables e below (T0.setTop (mkF m 9 #[.val (.int p1), .val (.int p2), .val (.int p3), .val (.int ((p3 &&& (2147483647 : Int32)) % (5 : Int32))), .unset, .unset, .unset, .unset, .unset, .unset, .unset, .unset, .unset, .unset, .unset] [(.int (p1.toInt8.toInt32))])) _
  refine XS.istore X0.here hx rfl (hb hby at_9) rfl (l' := #[.val (.int p1), .val (.int p2), .val (.int p3), .val (.int ((p3 &&& (2147483647 : Int32)) % (5 : Int32))), .val (.int (p1.toInt8.toInt32)), .unset, .unset, .unset, .unset, .unset, .unset, .unset, .unset, .unset, .unset]) rfl ?_
  show Steps p.tables e below (T0.setTop (mkF m 11 #[.val (.int p1), .val (.int p2), .val (.int p3), .val (.int ((p3 &&& (2147483647 : Int32)) % (5 : Int32))), .val (.int (p1.toInt8.toInt32)), .unset, .unset, .unset, .unset, .unset, .unset, .unset, .unset, .unset, .unset] [])) _
  refine XS.iloadN X0.here hx rfl (hb hby at_11) rfl ?_
  show Steps p.tables e below (T0.setTop (mkF m 12 #[.val (.int p1), .val (.int p2), .val (.int p3), .val (.int ((p3 &&& (2147483647 : Int32)) % (5 : Int32))), .val (.int (p1.toInt8.toInt32)), .unset, .unset, .unset, .unset, .unset, .unset, .unset, .unset, .unset, .unset] [(.int p1)])) _
  refine XS.bipush X0.here hx rfl (hb hby at_12) ?_
  show Steps p.tables e below (T0.setTop (mkF m 14 #[.val (.int p1), .val (.int p2), .val (.int p3), .val (.int ((p3 &&& (2147483647 : Int32)) % (5 : Int32))), .val (.int (p1.toInt8.toInt32)), .unset, .unset, .unset, .unset, .unset, .unset, .unset, .unset, .unset, .unset] [(.int (8 : Int32)), (.int p1)])) _
  refine XS.iushr X0.here hx rfl (hb hby at_14) rfl ?_
  show Steps p.tables e below (T0.setTop (mkF m 15 #[.val (.int p1), .val (.int p2), .val (.int p3), .val (.int ((p3 &&& (2147483647 : Int32)) % (5 : Int32))), .val (.int (p1.toInt8.toInt32)), .unset, .unset, .unset, .unset, .unset, .unset, .unset, .unset, .unset, .unset] [(.int ((p1.toUInt32 >>> ((8 : Int32) &&& 31).toUInt32).toInt32))])) _
  refine XS.i2b X0.here hx rfl (hb hby at_15) rfl ?_
  show Steps p.tables e below (T0.setTop (mkF m 16 #[.val (.int p1), .val (.int p2), .val (.int p3), .val (.int ((p3 &&& (2147483647 : Int32)) % (5 : Int32))), .val (.int (p1.toInt8.toInt32)), .unset, .unset, .unset, .unset, .unset, .unset, .unset, .unset, .unset, .unset] [(.int (((p1.toUInt32 >>> ((8 : Int32) &&& 31).toUInt32).toInt32).toInt8.toInt32))])) _
  refine XS.istore X0.here hx rfl (hb hby at_16) rfl (l' := #[.val (.int p1), .val (.int p2), .val (.int p3), .val (.int ((p3 &&& (2147483647 : Int32)) % (5 : Int32))), .val (.int (p1.toInt8.toInt32)), .val (.int (((p1.toUInt32 >>> ((8 : Int32) &&& 31).toUInt32).toInt32).toInt8.toInt32)), .unset, .unset, .unset, .unset, .unset, .unset, .unset, .unset, .unset]) rfl ?_
  show Steps p.tables e below (T0.setTop (mkF m 18 #[.val (.int p1), .val (.int p2), .val (.int p3), .val (.int ((p3 &&& (2147483647 : Int32)) % (5 : Int32))), .val (.int (p1.toInt8.toInt32)), .val (.int (((p1.toUInt32 >>> ((8 : Int32) &&& 31).toUInt32).toInt32).toInt8.toInt32)), .unset, .unset, .unset, .unset, .unset, .unset, .unset, .unset, .unset] [])) _
  refine XS.iloadN X0.here hx rfl (hb hby at_18) rfl ?_
  show Steps p.tables e below (T0.setTop (mkF m 19 #[.val (.int p1), .val (.int p2), .val (.int p3), .val (.int ((p3 &&& (2147483647 : Int32)) % (5 : Int32))), .val (.int (p1.toInt8.toInt32)), .val (.int (((p1.toUInt32 >>> ((8 : Int32) &&& 31).toUInt32).toInt32).toInt8.toInt32)), .unset, .unset, .unset, .unset, .unset, .unset, .unset, .unset, .unset] [(.int p1)])) _
  refine XS.bipush X0.here hx rfl (hb hby at_19) ?_
  show Steps p.tables e below (T0.setTop (mkF m 21 #[.val (.int p1), .val (.int p2), .val (.int p3), .val (.int ((p3 &&& (2147483647 : Int32)) % (5 : Int32))), .val (.int (p1.toInt8.toInt32)), .val (.int (((p1.toUInt32 >>> ((8 : Int32) &&& 31).toUInt32).toInt32).toInt8.toInt32)), .unset, .unset, .unset, .unset, .unset, .unset, .unset, .unset, .unset] [(.int (16 : Int32)), (.int p1)])) _
  refine XS.iushr X0.here hx rfl (hb hby at_21) rfl ?_
  show Steps p.tables e below (T0.setTop (mkF m 22 #[.val (.int p1), .val (.int p2), .val (.int p3), .val (.int ((p3 &&& (2147483647 : Int32)) % (5 : Int32))), .val (.int (p1.toInt8.toInt32)), .val (.int (((p1.toUInt32 >>> ((8 : Int32) &&& 31).toUInt32).toInt32).toInt8.toInt32)), .unset, .unset, .unset, .unset, .unset, .unset, .unset, .unset, .unset] [(.int ((p1.toUInt32 >>> ((16 : Int32) &&& 31).toUInt32).toInt32))])) _
  refine XS.i2b X0.here hx rfl (hb hby at_22) rfl ?_
  show Steps p.tables e below (T0.setTop (mkF m 23 #[.val (.int p1), .val (.int p2), .val (.int p3), .val (.int ((p3 &&& (2147483647 : Int32)) % (5 : Int32))), .val (.int (p1.toInt8.toInt32)), .val (.int (((p1.toUInt32 >>> ((8 : Int32) &&& 31).toUInt32).toInt32).toInt8.toInt32)), .unset, .unset, .unset, .unset, .unset, .unset, .unset, .unset, .unset] [(.int (((p1.toUInt32 >>> ((16 : Int32) &&& 31).toUInt32).toInt32).toInt8.toInt32))])) _
  refine XS.istore X0.here hx rfl (hb hby at_23) rfl (l' := #[.val (.int p1), .val (.int p2), .val (.int p3), .val (.int ((p3 &&& (2147483647 : Int32)) % (5 : Int32))), .val (.int (p1.toInt8.toInt32)), .val (.int (((p1.toUInt32 >>> ((8 : Int32) &&& 31).toUInt32).toInt32).toInt8.toInt32)), .val (.int (((p1.toUInt32 >>> ((16 : Int32) &&& 31).toUInt32).toInt32).toInt8.toInt32)), .unset, .unset, .unset, .unset, .unset, .unset, .unset, .unset]) rfl ?_
  show Steps p.tables e below (T0.setTop (mkF m 25 #[.val (.int p1), .val (.int p2), .val (.int p3), .val (.int ((p3 &&& (2147483647 : Int32)) % (5 : Int32))), .val (.int (p1.toInt8.toInt32)), .val (.int (((p1.toUInt32 >>> ((8 : Int32) &&& 31).toUInt32).toInt32).toInt8.toInt32)), .val (.int (((p1.toUInt32 >>> ((16 : Int32) &&& 31).toUInt32).toInt32).toInt8.toInt32)), .unset, .unset, .unset, .unset, .unset, .unset, .unset, .unset] [])) _
  refine XS.iloadN X0.here hx rfl (hb hby at_25) rfl ?_
  show Steps p.tables e below (T0.setTop (mkF m 26 #[.val (.int p1), .val (.int p2), .val (.int p3), .val (.int ((p3 &&& (2147483647 : Int32)) % (5 : Int32))), .val (.int (p1.toInt8.toInt32)), .val (.int (((p1.toUInt32 >>> ((8 : Int32) &&& 31).toUInt32).toInt32).toInt8.toInt32)), .val (.int (((p1.toUInt32 >>> ((16 : Int32) &&& 31).toUInt32).toInt32).toInt8.toInt32)), .unset, .unset, .unset, .unset, .unset, .unset, .unset, .unset] [(.int p1)])) _
  refine XS.bipush X0.here hx rfl (hb hby at_26) ?_
  show Steps p.tables e below (T0.setTop (mkF m 28 #[.val (.int p1), .val (.int p2), .val (.int p3), .val (.int ((p3 &&& (2147483647 : Int32)) % (5 : Int32))), .val (.int (p1.toInt8.toInt32)), .val (.int (((p1.toUInt32 >>> ((8 : Int32) &&& 31).toUInt32).toInt32).toInt8.toInt32)), .val (.int (((p1.toUInt32 >>> ((16 : Int32) &&& 31).toUInt32).toInt32).toInt8.toInt32)), .unset, .unset, .unset, .unset, .unset, .unset, .unset, .unset] [(.int (24 : Int32)), (.int p1)])) _
  refine XS.iushr X0.here hx rfl (hb hby at_28) rfl ?_
  show Steps p.tables e below (T0.setTop (mkF m 29 #[.val (.int p1), .val (.int p2), .val (.int p3), .val (.int ((p3 &&& (2147483647 : Int32)) % (5 : Int32))), .val (.int (p1.toInt8.toInt32)), .val (.int (((p1.toUInt32 >>> ((8 : Int32) &&& 31).toUInt32).toInt32).toInt8.toInt32)), .val (.int (((p1.toUInt32 >>> ((16 : Int32) &&& 31).toUInt32).toInt32).toInt8.toInt32)), .unset, .unset, .unset, .unset, .unset, .unset, .unset, .unset] [(.int ((p1.toUInt32 >>> ((24 : Int32) &&& 31).toUInt32).toInt32))])) _
  refine XS.i2b X0.here hx rfl (hb hby at_29) rfl ?_
  show Steps p.tables e below (T0.setTop (mkF m 30 #[.val (.int p1), .val (.int p2), .val (.int p3), .val (.int ((p3 &&& (2147483647 : Int32)) % (5 : Int32))), .val (.int (p1.toInt8.toInt32)), .val (.int (((p1.toUInt32 >>> ((8 : Int32) &&& 31).toUInt32).toInt32).toInt8.toInt32)), .val (.int (((p1.toUInt32 >>> ((16 : Int32) &&& 31).toUInt32).toInt32).toInt8.toInt32)), .unset, .unset, .unset, .unset, .unset, .unset, .unset, .unset] [(.int (((p1.toUInt32 >>> ((24 : Int32) &&& 31).toUInt32).toInt32).toInt8.toInt32))])) _
  refine XS.istore X0.here hx rfl (hb hby at_30) rfl (l' := #[.val (.int p1), .val (.int p2), .val (.int p3), .val (.int ((p3 &&& (2147483647 : Int32)) % (5 : Int32))), .val (.int (p1.toInt8.toInt32)), .val (.int (((p1.toUInt32 >>> ((8 : Int32) &&& 31).toUInt32).toInt32).toInt8.toInt32)), .val (.int (((p1.toUInt32 >>> ((16 : Int32) &&& 31).toUInt32).toInt32).toInt8.toInt32)), .val (.int (((p1.toUInt32 >>> ((24 : Int32) &&& 31).toUInt32).toInt32).toInt8.toInt32)), .unset, .unset, .unset, .unset, .unset, .unset, .unset]) rfl ?_
  show Steps p.tables e below (T0.setTop (mkF m 32 #[.val (.int p1), .val (.int p2), .val (.int p3), .val (.int ((p3 &&& (2147483647 : Int32)) % (5 : Int32))), .val (.int (p1.toInt8.toInt32)), .val (.int (((p1.toUInt32 >>> ((8 : Int32) &&& 31).toUInt32).toInt32).toInt8.toInt32)), .val (.int (((p1.toUInt32 >>> ((16 : Int32) &&& 31).toUInt32).toInt32).toInt8.toInt32)), .val (.int (((p1.toUInt32 >>> ((24 : Int32) &&& 31).toUInt32).toInt32).toInt8.toInt32)), .unset, .unset, .unset, .unset, .unset, .unset, .unset] [])) _
  refine XS.iloadN X0.here hx rfl (hb hby at_32) rfl ?_
  show Steps p.tables e below (T0.setTop (mkF m 33 #[.val (.int p1), .val (.int p2), .val (.int p3), .val (.int ((p3 &&& (2147483647 : Int32)) % (5 : Int32))), .val (.int (p1.toInt8.toInt32)), .val (.int (((p1.toUInt32 >>> ((8 : Int32) &&& 31).toUInt32).toInt32).toInt8.toInt32)), .val (.int (((p1.toUInt32 >>> ((16 : Int32) &&& 31).toUInt32).toInt32).toInt8.toInt32)), .val (.int (((p1.toUInt32 >>> ((24 : Int32) &&& 31).toUInt32).toInt32).toInt8.toInt32)), .unset, .unset, .unset, .unset, .unset, .unset, .unset] [(.int p2)])) _
  refine XS.i2b X0.here hx rfl (hb hby at_33) rfl ?_
  show Steps p.tables e below (T0.setTop (mkF m 34 #[.val (.int p1), .val (.int p2), .val (.int p3), .val (.int ((p3 &&& (2147483647 : Int32)) % (5 : Int32))), .val (.int (p1.toInt8.toInt32)), .val (.int (((p1.toUInt32 >>> ((8 : Int32) &&& 31).toUInt32).toInt32).toInt8.toInt32)), .val (.int (((p1.toUInt32 >>> ((16 : Int32) &&& 31).toUInt32).toInt32).toInt8.toInt32)), .val (.int (((p1.toUInt32 >>> ((24 : Int32) &&& 31).toUInt32).toInt32).toInt8.toInt32)), .unset, .unset, .unset, .unset, .unset, .unset, .unset] [(.int (p2.toInt8.toInt32))])) _
  refine XS.istore X0.here hx rfl (hb hby at_34) rfl (l' := #[.val (.int p1), .val (.int p2), .val (.int p3), .val (.int ((p3 &&& (2147483647 : Int32)) % (5 : Int32))), .val (.int (p1.toInt8.toInt32)), .val (.int (((p1.toUInt32 >>> ((8 : Int32) &&& 31).toUInt32).toInt32).toInt8.toInt32)), .val (.int (((p1.toUInt32 >>> ((16 : Int32) &&& 31).toUInt32).toInt32).toInt8.toInt32)), .val (.int (((p1.toUInt32 >>> ((24 : Int32) &&& 31).toUInt32).toInt32).toInt8.toInt32)), .val (.int (p2.toInt8.toInt32)), .unset, .unset, .unset, .unset, .unset, .unset]) rfl ?_
  show Steps p.tables e below (T0.setTop (mkF m 36 #[.val (.int p1), .val (.int p2), .val (.int p3), .val (.int ((p3 &&& (2147483647 : Int32)) % (5 : Int32))), .val (.int (p1.toInt8.toInt32)), .val (.int (((p1.toUInt32 >>> ((8 : Int32) &&& 31).toUInt32).toInt32).toInt8.toInt32)), .val (.int (((p1.toUInt32 >>> ((16 : Int32) &&& 31).toUInt32).toInt32).toInt8.toInt32)), .val (.int (((p1.toUInt32 >>> ((24 : Int32) &&& 31).toUInt32).toInt32).toInt8.toInt32)), .val (.int (p2.toInt8.toInt32)), .unset, .unset, .unset, .unset, .unset, .unset] [])) _
  refine XS.iloadN X0.here hx rfl (hb hby at_36) rfl ?_
  show Steps p.tables e below (T0.setTop (mkF m 37 #[.val (.int p1), .val (.int p2), .val (.int p3), .val (.int ((p3 &&& (2147483647 : Int32)) % (5 : Int32))), .val (.int (p1.toInt8.toInt32)), .val (.int (((p1.toUInt32 >>> ((8 : Int32) &&& 31).toUInt32).toInt32).toInt8.toInt32)), .val (.int (((p1.toUInt32 >>> ((16 : Int32) &&& 31).toUInt32).toInt32).toInt8.toInt32)), .val (.int (((p1.toUInt32 >>> ((24 : Int32) &&& 31).toUInt32).toInt32).toInt8.toInt32)), .val (.int (p2.toInt8.toInt32)), .unset, .unset, .unset, .unset, .unset, .unset] [(.int p2)])) _
  refine XS.bipush X0.here hx rfl (hb hby at_37) ?_
  show Steps p.tables e below (T0.setTop (mkF m 39 #[.val (.int p1), .val (.int p2), .val (.int p3), .val (.int ((p3 &&& (2147483647 : Int32)) % (5 : Int32))), .val (.int (p1.toInt8.toInt32)), .val (.int (((p1.toUInt32 >>> ((8 : Int32) &&& 31).toUInt32).toInt32).toInt8.toInt32)), .val (.int (((p1.toUInt32 >>> ((16 : Int32) &&& 31).toUInt32).toInt32).toInt8.toInt32)), .val (.int (((p1.toUInt32 >>> ((24 : Int32) &&& 31).toUInt32).toInt32).toInt8.toInt32)), .val (.int (p2.toInt8.toInt32)), .unset, .unset, .unset, .unset, .unset, .unset] [(.int (8 : Int32)), (.int p2)])) _
  refine XS.iushr X0.here hx rfl (hb hby at_39) rfl ?_
  show Steps p.tables e below (T0.setTop (mkF m 40 #[.val (.int p1), .val (.int p2), .val (.int p3), .val (.int ((p3 &&& (2147483647 : Int32)) % (5 : Int32))), .val (.int (p1.toInt8.toInt32)), .val (.int (((p1.toUInt32 >>> ((8 : Int32) &&& 31).toUInt32).toInt32).toInt8.toInt32)), .val (.int (((p1.toUInt32 >>> ((16 : Int32) &&& 31).toUInt32).toInt32).toInt8.toInt32)), .val (.int (((p1.toUInt32 >>> ((24 : Int32) &&& 31).toUInt32).toInt32).toInt8.toInt32)), .val (.int (p2.toInt8.toInt32)), .unset, .unset, .unset, .unset, .unset, .unset] [(.int ((p2.toUInt32 >>> ((8 : Int32) &&& 31).toUInt32).toInt32))])) _
  refine XS.i2b X0.here hx rfl (hb hby at_40) rfl ?_
  show Steps p.tables e below (T0.setTop (mkF m 41 #[.val (.int p1), .val (.int p2), .val (.int p3), .val (.int ((p3 &&& (2147483647 : Int32)) % (5 : Int32))), .val (.int (p1.toInt8.toInt32)), .val (.int (((p1.toUInt32 >>> ((8 : Int32) &&& 31).toUInt32).toInt32).toInt8.toInt32)), .val (.int (((p1.toUInt32 >>> ((16 : Int32) &&& 31).toUInt32).toInt32).toInt8.toInt32)), .val (.int (((p1.toUInt32 >>> ((24 : Int32) &&& 31).toUInt32).toInt32).toInt8.toInt32)), .val (.int (p2.toInt8.toInt32)), .unset, .unset, .unset, .unset, .unset, .unset] [(.int (((p2.toUInt32 >>> ((8 : Int32) &&& 31).toUInt32).toInt32).toInt8.toInt32))])) _
  refine XS.istore X0.here hx rfl (hb hby at_41) rfl (l' := #[.val (.int p1), .val (.int p2), .val (.int p3), .val (.int ((p3 &&& (2147483647 : Int32)) % (5 : Int32))), .val (.int (p1.toInt8.toInt32)), .val (.int (((p1.toUInt32 >>> ((8 : Int32) &&& 31).toUInt32).toInt32).toInt8.toInt32)), .val (.int (((p1.toUInt32 >>> ((16 : Int32) &&& 31).toUInt32).toInt32).toInt8.toInt32)), .val (.int (((p1.toUInt32 >>> ((24 : Int32) &&& 31).toUInt32).toInt32).toInt8.toInt32)), .val (.int (p2.toInt8.toInt32)), .val (.int (((p2.toUInt32 >>> ((8 : Int32) &&& 31).toUInt32).toInt32).toInt8.toInt32)), .unset, .unset, .unset, .unset, .unset]) rfl ?_
  show Steps p.tables e below (T0.setTop (mkF m 43 #[.val (.int p1), .val (.int p2), .val (.int p3), .val (.int ((p3 &&& (2147483647 : Int32)) % (5 : Int32))), .val (.int (p1.toInt8.toInt32)), .val (.int (((p1.toUInt32 >>> ((8 : Int32) &&& 31).toUInt32).toInt32).toInt8.toInt32)), .val (.int (((p1.toUInt32 >>> ((16 : Int32) &&& 31).toUInt32).toInt32).toInt8.toInt32)), .val (.int (((p1.toUInt32 >>> ((24 : Int32) &&& 31).toUInt32).toInt32).toInt8.toInt32)), .val (.int (p2.toInt8.toInt32)), .val (.int (((p2.toUInt32 >>> ((8 : Int32) &&& 31).toUInt32).toInt32).toInt8.toInt32)), .unset, .unset, .unset, .unset, .unset] [])) _
  refine XS.iloadN X0.here hx rfl (hb hby at_43) rfl ?_
  show Steps p.tables e below (T0.setTop (mkF m 44 #[.val (.int p1), .val (.int p2), .val (.int p3), .val (.int ((p3 &&& (2147483647 : Int32)) % (5 : Int32))), .val (.int (p1.toInt8.toInt32)), .val (.int (((p1.toUInt32 >>> ((8 : Int32) &&& 31).toUInt32).toInt32).toInt8.toInt32)), .val (.int (((p1.toUInt32 >>> ((16 : Int32) &&& 31).toUInt32).toInt32).toInt8.toInt32)), .val (.int (((p1.toUInt32 >>> ((24 : Int32) &&& 31).toUInt32).toInt32).toInt8.toInt32)), .val (.int (p2.toInt8.toInt32)), .val (.int (((p2.toUInt32 >>> ((8 : Int32) &&& 31).toUInt32).toInt32).toInt8.toInt32)), .unset, .unset, .unset, .unset, .unset] [(.int p2)])) _
  refine XS.bipush X0.here hx rfl (hb hby at_44) ?_
  show Steps p.tables e below (T0.setTop (mkF m 46 #[.val (.int p1), .val (.int p2), .val (.int p3), .val (.int ((p3 &&& (2147483647 : Int32)) % (5 : Int32))), .val (.int (p1.toInt8.toInt32)), .val (.int (((p1.toUInt32 >>> ((8 : Int32) &&& 31).toUInt32).toInt32).toInt8.toInt32)), .val (.int (((p1.toUInt32 >>> ((16 : Int32) &&& 31).toUInt32).toInt32).toInt8.toInt32)), .val (.int (((p1.toUInt32 >>> ((24 : Int32) &&& 31).toUInt32).toInt32).toInt8.toInt32)), .val (.int (p2.toInt8.toInt32)), .val (.int (((p2.toUInt32 >>> ((8 : Int32) &&& 31).toUInt32).toInt32).toInt8.toInt32)), .unset, .unset, .unset, .unset, .unset] [(.int (16 : Int32)), (.int p2)])) _
  refine XS.iushr X0.here hx rfl (hb hby at_46) rfl ?_
  show Steps p.tables e below (T0.setTop (mkF m 47 #[.val (.int p1), .val (.int p2), .val (.int p3), .val (.int ((p3 &&& (2147483647 : Int32)) % (5 : Int32))), .val (.int (p1.toInt8.toInt32)), .val (.int (((p1.toUInt32 >>> ((8 : Int32) &&& 31).toUInt32).toInt32).toInt8.toInt32)), .val (.int (((p1.toUInt32 >>> ((16 : Int32) &&& 31).toUInt32).toInt32).toInt8.toInt32)), .val (.int (((p1.toUInt32 >>> ((24 : Int32) &&& 31).toUInt32).toInt32).toInt8.toInt32)), .val (.int (p2.toInt8.toInt32)), .val (.int (((p2.toUInt32 >>> ((8 : Int32) &&& 31).toUInt32).toInt32).toInt8.toInt32)), .unset, .unset, .unset, .unset, .unset] [(.int ((p2.toUInt32 >>> ((16 : Int32) &&& 31).toUInt32).toInt32))])) _
  refine XS.i2b X0.here hx rfl (hb hby at_47) rfl ?_
  show Steps p.tables e below (T0.setTop (mkF m 48 #[.val (.int p1), .val (.int p2), .val (.int p3), .val (.int ((p3 &&& (2147483647 : Int32)) % (5 : Int32))), .val (.int (p1.toInt8.toInt32)), .val (.int (((p1.toUInt32 >>> ((8 : Int32) &&& 31).toUInt32).toInt32).toInt8.toInt32)), .val (.int (((p1.toUInt32 >>> ((16 : Int32) &&& 31).toUInt32).toInt32).toInt8.toInt32)), .val (.int (((p1.toUInt32 >>> ((24 : Int32) &&& 31).toUInt32).toInt32).toInt8.toInt32)), .val (.int (p2.toInt8.toInt32)), .val (.int (((p2.toUInt32 >>> ((8 : Int32) &&& 31).toUInt32).toInt32).toInt8.toInt32)), .unset, .unset, .unset, .unset, .unset] [(.int (((p2.toUInt32 >>> ((16 : Int32) &&& 31).toUInt32).toInt32).toInt8.toInt32))])) _
  refine XS.istore X0.here hx rfl (hb hby at_48) rfl (l' := #[.val (.int p1), .val (.int p2), .val (.int p3), .val (.int ((p3 &&& (2147483647 : Int32)) % (5 : Int32))), .val (.int (p1.toInt8.toInt32)), .val (.int (((p1.toUInt32 >>> ((8 : Int32) &&& 31).toUInt32).toInt32).toInt8.toInt32)), .val (.int (((p1.toUInt32 >>> ((16 : Int32) &&& 31).toUInt32).toInt32).toInt8.toInt32)), .val (.int (((p1.toUInt32 >>> ((24 : Int32) &&& 31).toUInt32).toInt32).toInt8.toInt32)), .val (.int (p2.toInt8.toInt32)), .val (.int (((p2.toUInt32 >>> ((8 : Int32) &&& 31).toUInt32).toInt32).toInt8.toInt32)), .val (.int (((p2.toUInt32 >>> ((16 : Int32) &&& 31).toUInt32).toInt32).toInt8.toInt32)), .unset, .unset, .unset, .unset]) rfl ?_
  show Steps p.tables e below (T0.setTop (mkF m 50 #[.val (.int p1), .val (.int p2), .val (.int p3), .val (.int ((p3 &&& (2147483647 : Int32)) % (5 : Int32))), .val (.int (p1.toInt8.toInt32)), .val (.int (((p1.toUInt32 >>> ((8 : Int32) &&& 31).toUInt32).toInt32).toInt8.toInt32)), .val (.int (((p1.toUInt32 >>> ((16 : Int32) &&& 31).toUInt32).toInt32).toInt8.toInt32)), .val (.int (((p1.toUInt32 >>> ((24 : Int32) &&& 31).toUInt32).toInt32).toInt8.toInt32)), .val (.int (p2.toInt8.toInt32)), .val (.int (((p2.toUInt32 >>> ((8 : Int32) &&& 31).toUInt32).toInt32).toInt8.toInt32)), .val (.int (((p2.toUInt32 >>> ((16 : Int32) &&& 31).toUInt32).toInt32).toInt8.toInt32)), .unset, .unset, .unset, .unset] [])) _
  refine XS.iloadN X0.here hx rfl (hb hby at_50) rfl ?_
  show Steps p.tables e below (T0.setTop (mkF m 51 #[.val (.int p1), .val (.int p2), .val (.int p3), .val (.int ((p3 &&& (2147483647 : Int32)) % (5 : Int32))), .val (.int (p1.toInt8.toInt32)), .val (.int (((p1.toUInt32 >>> ((8 : Int32) &&& 31).toUInt32).toInt32).toInt8.toInt32)), .val (.int (((p1.toUInt32 >>> ((16 : Int32) &&& 31).toUInt32).toInt32).toInt8.toInt32)), .val (.int (((p1.toUInt32 >>> ((24 : Int32) &&& 31).toUInt32).toInt32).toInt8.toInt32)), .val (.int (p2.toInt8.toInt32)), .val (.int (((p2.toUInt32 >>> ((8 : Int32) &&& 31).toUInt32).toInt32).toInt8.toInt32)), .val (.int (((p2.toUInt32 >>> ((16 : Int32) &&& 31).toUInt32).toInt32).toInt8.toInt32)), .unset, .unset, .unset, .unset] [(.int p2)])) _
  refine XS.bipush X0.here hx rfl (hb hby at_51) ?_
  show Steps p.tables e below (T0.setTop (mkF m 53 #[.val (.int p1), .val (.int p2), .val (.int p3), .val (.int ((p3 &&& (2147483647 : Int32)) % (5 : Int32))), .val (.int (p1.toInt8.toInt32)), .val (.int (((p1.toUInt32 >>> ((8 : Int32) &&& 31).toUInt32).toInt32).toInt8.toInt32)), .val (.int (((p1.toUInt32 >>> ((16 : Int32) &&& 31).toUInt32).toInt32).toInt8.toInt32)), .val (.int (((p1.toUInt32 >>> ((24 : Int32) &&& 31).toUInt32).toInt32).toInt8.toInt32)), .val (.int (p2.toInt8.toInt32)), .val (.int (((p2.toUInt32 >>> ((8 : Int32) &&& 31).toUInt32).toInt32).toInt8.toInt32)), .val (.int (((p2.toUInt32 >>> ((16 : Int32) &&& 31).toUInt32).toInt32).toInt8.toInt32)), .unset, .unset, .unset, .unset] [(.int (24 : Int32)), (.int p2)])) _
  refine XS.iushr X0.here hx rfl (hb hby at_53) rfl ?_
  show Steps p.tables e below (T0.setTop (mkF m 54 #[.val (.int p1), .val (.int p2), .val (.int p3), .val (.int ((p3 &&& (2147483647 : Int32)) % (5 : Int32))), .val (.int (p1.toInt8.toInt32)), .val (.int (((p1.toUInt32 >>> ((8 : Int32) &&& 31).toUInt32).toInt32).toInt8.toInt32)), .val (.int (((p1.toUInt32 >>> ((16 : Int32) &&& 31).toUInt32).toInt32).toInt8.toInt32)), .val (.int (((p1.toUInt32 >>> ((24 : Int32) &&& 31).toUInt32).toInt32).toInt8.toInt32)), .val (.int (p2.toInt8.toInt32)), .val (.int (((p2.toUInt32 >>> ((8 : Int32) &&& 31).toUInt32).toInt32).toInt8.toInt32)), .val (.int (((p2.toUInt32 >>> ((16 : Int32) &&& 31).toUInt32).toInt32).toInt8.toInt32)), .unset, .unset, .unset, .unset] [(.int ((p2.toUInt32 >>> ((24 : Int32) &&& 31).toUInt32).toInt32))])) _
  refine XS.i2b X0.here hx rfl (hb hby at_54) rfl ?_
  show Steps p.tables e below (T0.setTop (mkF m 55 #[.val (.int p1), .val (.int p2), .val (.int p3), .val (.int ((p3 &&& (2147483647 : Int32)) % (5 : Int32))), .val (.int (p1.toInt8.toInt32)), .val (.int (((p1.toUInt32 >>> ((8 : Int32) &&& 31).toUInt32).toInt32).toInt8.toInt32)), .val (.int (((p1.toUInt32 >>> ((16 : Int32) &&& 31).toUInt32).toInt32).toInt8.toInt32)), .val (.int (((p1.toUInt32 >>> ((24 : Int32) &&& 31).toUInt32).toInt32).toInt8.toInt32)), .val (.int (p2.toInt8.toInt32)), .val (.int (((p2.toUInt32 >>> ((8 : Int32) &&& 31).toUInt32).toInt32).toInt8.toInt32)), .val (.int (((p2.toUInt32 >>> ((16 : Int32) &&& 31).toUInt32).toInt32).toInt8.toInt32)), .unset, .unset, .unset, .unset] [(.int (((p2.toUInt32 >>> ((24 : Int32) &&& 31).toUInt32).toInt32).toInt8.toInt32))])) _
  refine XS.istore X0.here hx rfl (hb hby at_55) rfl (l' := #[.val (.int p1), .val (.int p2), .val (.int p3), .val (.int ((p3 &&& (2147483647 : Int32)) % (5 : Int32))), .val (.int (p1.toInt8.toInt32)), .val (.int (((p1.toUInt32 >>> ((8 : Int32) &&& 31).toUInt32).toInt32).toInt8.toInt32)), .val (.int (((p1.toUInt32 >>> ((16 : Int32) &&& 31).toUInt32).toInt32).toInt8.toInt32)), .val (.int (((p1.toUInt32 >>> ((24 : Int32) &&& 31).toUInt32).toInt32).toInt8.toInt32)), .val (.int (p2.toInt8.toInt32)), .val (.int (((p2.toUInt32 >>> ((8 : Int32) &&& 31).toUInt32).toInt32).toInt8.toInt32)), .val (.int (((p2.toUInt32 >>> ((16 : Int32) &&& 31).toUInt32).toInt32).toInt8.toInt32)), .val (.int (((p2.toUInt32 >>> ((24 : Int32) &&& 31).toUInt32).toInt32).toInt8.toInt32)), .unset, .unset, .unset]) rfl ?_
  rw [k1] at kt
  rw [k2] at kt
  rw [k3] at kt
  rw [k4] at kt
  rw [k5] at kt
  rw [k6] at kt
  rw [k7] at kt
  rw [k8] at kt
  rw [k9] at kt
  exact kt
set_option maxRecDepth 65536 in
set_option maxHeartbeats 40000000 in
theorem segE0 {p : Program} {l : Launch} {e : Env} {R : Room} {s : State} {m : MethodId} {args : Array Value} {below : List Frame} {meth : Method} {c : Code} {T0 : State} {locs : List Loc} {cells slots : Nat} {Z : State} {a0 : Array Value} {h0 : Heap} (z0 : Slot) (z1 : Slot) (z2 : Slot) (i3 : Int32) (t0 : Int32) (t1 : Int32) (t2 : Int32) (t3 : Int32) (s0_ : Int32) (s1_ : Int32) (s2_ : Int32) (s3_ : Int32) (o12 : Addr) (z13 : Slot) (z14 : Slot) (rb : Int32) (w : Int32) (cl : Cell)
    (X0 : Stand p l e R s m args below meth c T0 locs cells slots) (hx : p.tables.exec = Jvm.exec) (hZ : Z.Warmed39 s.vm) (hw : ∀ d ∈ tables_1, d.before a0 Z = true) (hby : c.code = code) (hml : c.maxLocals = 15) (hown : s.vm.findClass "com/example/fountainwire/fountainwire/codec/OctetsAddPinLaw" = some m.cls) (e0 : T0.heap = h0) (Ar : Arr Z h0 o12 cl .byte) (hin : ¬ ((0 : Int32) < 0 ∨ cl.slots.size ≤ (0 : Int32).toNatClampNeg)) (hat : cl.slots[(0 : Int32).toNatClampNeg]? = some (.int w)) (k1 : ((0 : Int32) < i3) → rb = (1 : Int32)) (k2 : ¬ ((0 : Int32) < i3) → rb = (0 : Int32)) {target : State}
    (kt : Steps p.tables e below (T0.setTop (mkF m 147 #[z0, z1, z2, .val (.int i3), .val (.int t0), .val (.int t1), .val (.int t2), .val (.int t3), .val (.int s0_), .val (.int s1_), .val (.int s2_), .val (.int s3_), .val (.ref o12), z13, z14] [(.int rb), (.int s0_), (.int t0), (.int w)])) target) : Steps p.tables e below (T0.setTop (mkF m 129 #[z0, z1, z2, .val (.int i3), .val (.int t0), .val (.int t1), .val (.int t2), .val (.int t3), .val (.int s0_), .val (.int s1_), .val (.int s2_), .val (.int s3_), .val (.ref o12), z13, z14] [])) target := by
  show Steps p.tables e below (T0.setTop (mkF m 129 #[z0, z1, z2, .val (.int i3), .val (.int t0), .val (.int t1), .val (.int t2), .val (.int t3), .val (.int s0_), .val (.int s1_), .val (.int s2_), .val (.int s3_), .val (.ref o12), z13, z14] [])) _
  refine XS.aload X0.here hx rfl (hb hby at_129) rfl rfl ?_
  show Steps p.tables e below (T0.setTop (mkF m 131 #[z0, z1, z2, .val (.int i3), .val (.int t0), .val (.int t1), .val (.int t2), .val (.int t3), .val (.int s0_), .val (.int s1_), .val (.int s2_), .val (.int s3_), .val (.ref o12), z13, z14] [(.ref o12)])) _
  refine XS.iconst X0.here hx rfl (hb hby at_131) ?_
  show Steps p.tables e below (T0.setTop (mkF m 132 #[z0, z1, z2, .val (.int i3), .val (.int t0), .val (.int t1), .val (.int t2), .val (.int t3), .val (.int s0_), .val (.int s1_), .val (.int s2_), .val (.int s3_), .val (.ref o12), z13, z14] [(.int (0 : Int32)), (.ref o12)])) _
  refine X0.baloadBytes hx (j := (0 : Int32)) (v := (.int w)) (by rw [e0]; exact Ar.1) (State.isArrayOf_alike hZ.alike Ar.2.1) Ar.2.2 hin hat (g := (mkF m 132 #[z0, z1, z2, .val (.int i3), .val (.int t0), .val (.int t1), .val (.int t2), .val (.int t3), .val (.int s0_), .val (.int s1_), .val (.int s2_), .val (.int s3_), .val (.ref o12), z13, z14] [(.int (0 : Int32)), (.ref o12)])) rfl rfl (hb hby at_132) _ ?_
  show Steps p.tables e below (T0.setTop (mkF m 133 #[z0, z1, z2, .val (.int i3), .val (.int t0), .val (.int t1), .val (.int t2), .val (.int t3), .val (.int s0_), .val (.int s1_), .val (.int s2_), .val (.int s3_), .val (.ref o12), z13, z14] [(.int w)])) _
  refine XS.iload X0.here hx rfl (hb hby at_133) rfl ?_
  show Steps p.tables e below (T0.setTop (mkF m 135 #[z0, z1, z2, .val (.int i3), .val (.int t0), .val (.int t1), .val (.int t2), .val (.int t3), .val (.int s0_), .val (.int s1_), .val (.int s2_), .val (.int s3_), .val (.ref o12), z13, z14] [(.int t0), (.int w)])) _
  refine XS.iload X0.here hx rfl (hb hby at_135) rfl ?_
  show Steps p.tables e below (T0.setTop (mkF m 137 #[z0, z1, z2, .val (.int i3), .val (.int t0), .val (.int t1), .val (.int t2), .val (.int t3), .val (.int s0_), .val (.int s1_), .val (.int s2_), .val (.int s3_), .val (.ref o12), z13, z14] [(.int s0_), (.int t0), (.int w)])) _
  refine XS.iconst X0.here hx rfl (hb hby at_137) ?_
  show Steps p.tables e below (T0.setTop (mkF m 138 #[z0, z1, z2, .val (.int i3), .val (.int t0), .val (.int t1), .val (.int t2), .val (.int t3), .val (.int s0_), .val (.int s1_), .val (.int s2_), .val (.int s3_), .val (.ref o12), z13, z14] [(.int (0 : Int32)), (.int s0_), (.int t0), (.int w)])) _
  refine XS.iloadN X0.here hx rfl (hb hby at_138) rfl ?_
  show Steps p.tables e below (T0.setTop (mkF m 139 #[z0, z1, z2, .val (.int i3), .val (.int t0), .val (.int t1), .val (.int t2), .val (.int t3), .val (.int s0_), .val (.int s1_), .val (.int s2_), .val (.int s3_), .val (.ref o12), z13, z14] [(.int i3), (.int (0 : Int32)), (.int s0_), (.int t0), (.int w)])) _
  by_cases hc139 : (0 : Int32) < i3
  · refine XS.icmpNo X0.here hx rfl (hb hby at_139) rfl (tlt hc139).2.1 ?_
    show Steps p.tables e below (T0.setTop (mkF m 142 #[z0, z1, z2, .val (.int i3), .val (.int t0), .val (.int t1), .val (.int t2), .val (.int t3), .val (.int s0_), .val (.int s1_), .val (.int s2_), .val (.int s3_), .val (.ref o12), z13, z14] [(.int s0_), (.int t0), (.int w)])) _
    refine XS.iconst X0.here hx rfl (hb hby at_142) ?_
    show Steps p.tables e below (T0.setTop (mkF m 143 #[z0, z1, z2, .val (.int i3), .val (.int t0), .val (.int t1), .val (.int t2), .val (.int t3), .val (.int s0_), .val (.int s1_), .val (.int s2_), .val (.int s3_), .val (.ref o12), z13, z14] [(.int (1 : Int32)), (.int s0_), (.int t0), (.int w)])) _
    refine XS.goto X0.here hx rfl (pc0 := 143) (pc' := 147) rfl (hb hby at_143) (by decide) (by decide) ?_
    rw [k1 hc139] at kt
    exact kt
  · refine XS.icmpYes X0.here hx rfl (pc0 := 139) (pc' := 146) rfl (hb hby at_139) rfl (flt hc139).2.1 (by decide) (by decide) ?_
    show Steps p.tables e below (T0.setTop (mkF m 146 #[z0, z1, z2, .val (.int i3), .val (.int t0), .val (.int t1), .val (.int t2), .val (.int t3), .val (.int s0_), .val (.int s1_), .val (.int s2_), .val (.int s3_), .val (.ref o12), z13, z14] [(.int s0_), (.int t0), (.int w)])) _
    refine XS.iconst X0.here hx rfl (hb hby at_146) ?_
    rw [k2 hc139] at kt
    exact kt
set_option maxRecDepth 65536 in
set_option maxHeartbeats 40000000 in
theorem segE1 {p : Program} {l : Launch} {e : Env} {R : Room} {s : State} {m : MethodId} {args : Array Value} {below : List Frame} {meth : Method} {c : Code} {T0 : State} {locs : List Loc} {cells slots : Nat} {Z : State} {a0 : Array Value} {h0 : Heap} (z0 : Slot) (z1 : Slot) (z2 : Slot) (i3 : Int32) (t0 : Int32) (t1 : Int32) (t2 : Int32) (t3 : Int32) (s0_ : Int32) (s1_ : Int32) (s2_ : Int32) (s3_ : Int32) (o12 : Addr) (z13 : Slot) (z14 : Slot) (rb : Int32) (w : Int32) (cl : Cell)
    (X0 : Stand p l e R s m args below meth c T0 locs cells slots) (hx : p.tables.exec = Jvm.exec) (hZ : Z.Warmed39 s.vm) (hw : ∀ d ∈ tables_1, d.before a0 Z = true) (hby : c.code = code) (hml : c.maxLocals = 15) (hown : s.vm.findClass "com/example/fountainwire/fountainwire/codec/OctetsAddPinLaw" = some m.cls) (e0 : T0.heap = h0) (Ar : Arr Z h0 o12 cl .byte) (hin : ¬ ((1 : Int32) < 0 ∨ cl.slots.size ≤ (1 : Int32).toNatClampNeg)) (hat : cl.slots[(1 : Int32).toNatClampNeg]? = some (.int w)) (k1 : ((1 : Int32) < i3) → rb = (1 : Int32)) (k2 : ¬ ((1 : Int32) < i3) → rb = (0 : Int32)) {target : State}
    (kt : Steps p.tables e below (T0.setTop (mkF m 183 #[z0, z1, z2, .val (.int i3), .val (.int t0), .val (.int t1), .val (.int t2), .val (.int t3), .val (.int s0_), .val (.int s1_), .val (.int s2_), .val (.int s3_), .val (.ref o12), z13, z14] [(.int rb), (.int s1_), (.int t1), (.int w)])) target) : Steps p.tables e below (T0.setTop (mkF m 165 #[z0, z1, z2, .val (.int i3), .val (.int t0), .val (.int t1), .val (.int t2), .val (.int t3), .val (.int s0_), .val (.int s1_), .val (.int s2_), .val (.int s3_), .val (.ref o12), z13, z14] [])) target := by
  show Steps p.tables e below (T0.setTop (mkF m 165 #[z0, z1, z2, .val (.int i3), .val (.int t0), .val (.int t1), .val (.int t2), .val (.int t3), .val (.int s0_), .val (.int s1_), .val (.int s2_), .val (.int s3_), .val (.ref o12), z13, z14] [])) _
  refine XS.aload X0.here hx rfl (hb hby at_165) rfl rfl ?_
  show Steps p.tables e below (T0.setTop (mkF m 167 #[z0, z1, z2, .val (.int i3), .val (.int t0), .val (.int t1), .val (.int t2), .val (.int t3), .val (.int s0_), .val (.int s1_), .val (.int s2_), .val (.int s3_), .val (.ref o12), z13, z14] [(.ref o12)])) _
  refine XS.iconst X0.here hx rfl (hb hby at_167) ?_
  show Steps p.tables e below (T0.setTop (mkF m 168 #[z0, z1, z2, .val (.int i3), .val (.int t0), .val (.int t1), .val (.int t2), .val (.int t3), .val (.int s0_), .val (.int s1_), .val (.int s2_), .val (.int s3_), .val (.ref o12), z13, z14] [(.int (1 : Int32)), (.ref o12)])) _
  refine X0.baloadBytes hx (j := (1 : Int32)) (v := (.int w)) (by rw [e0]; exact Ar.1) (State.isArrayOf_alike hZ.alike Ar.2.1) Ar.2.2 hin hat (g := (mkF m 168 #[z0, z1, z2, .val (.int i3), .val (.int t0), .val (.int t1), .val (.int t2), .val (.int t3), .val (.int s0_), .val (.int s1_), .val (.int s2_), .val (.int s3_), .val (.ref o12), z13, z14] [(.int (1 : Int32)), (.ref o12)])) rfl rfl (hb hby at_168) _ ?_
  show Steps p.tables e below (T0.setTop (mkF m 169 #[z0, z1, z2, .val (.int i3), .val (.int t0), .val (.int t1), .val (.int t2), .val (.int t3), .val (.int s0_), .val (.int s1_), .val (.int s2_), .val (.int s3_), .val (.ref o12), z13, z14] [(.int w)])) _
  refine XS.iload X0.here hx rfl (hb hby at_169) rfl ?_
  show Steps p.tables e below (T0.setTop (mkF m 171 #[z0, z1, z2, .val (.int i3), .val (.int t0), .val (.int t1), .val (.int t2), .val (.int t3), .val (.int s0_), .val (.int s1_), .val (.int s2_), .val (.int s3_), .val (.ref o12), z13, z14] [(.int t1), (.int w)])) _
  refine XS.iload X0.here hx rfl (hb hby at_171) rfl ?_
  show Steps p.tables e below (T0.setTop (mkF m 173 #[z0, z1, z2, .val (.int i3), .val (.int t0), .val (.int t1), .val (.int t2), .val (.int t3), .val (.int s0_), .val (.int s1_), .val (.int s2_), .val (.int s3_), .val (.ref o12), z13, z14] [(.int s1_), (.int t1), (.int w)])) _
  refine XS.iconst X0.here hx rfl (hb hby at_173) ?_
  show Steps p.tables e below (T0.setTop (mkF m 174 #[z0, z1, z2, .val (.int i3), .val (.int t0), .val (.int t1), .val (.int t2), .val (.int t3), .val (.int s0_), .val (.int s1_), .val (.int s2_), .val (.int s3_), .val (.ref o12), z13, z14] [(.int (1 : Int32)), (.int s1_), (.int t1), (.int w)])) _
  refine XS.iloadN X0.here hx rfl (hb hby at_174) rfl ?_
  show Steps p.tables e below (T0.setTop (mkF m 175 #[z0, z1, z2, .val (.int i3), .val (.int t0), .val (.int t1), .val (.int t2), .val (.int t3), .val (.int s0_), .val (.int s1_), .val (.int s2_), .val (.int s3_), .val (.ref o12), z13, z14] [(.int i3), (.int (1 : Int32)), (.int s1_), (.int t1), (.int w)])) _
  by_cases hc175 : (1 : Int32) < i3
  · refine XS.icmpNo X0.here hx rfl (hb hby at_175) rfl (tlt hc175).2.1 ?_
    show Steps p.tables e below (T0.setTop (mkF m 178 #[z0, z1, z2, .val (.int i3), .val (.int t0), .val (.int t1), .val (.int t2), .val (.int t3), .val (.int s0_), .val (.int s1_), .val (.int s2_), .val (.int s3_), .val (.ref o12), z13, z14] [(.int s1_), (.int t1), (.int w)])) _
    refine XS.iconst X0.here hx rfl (hb hby at_178) ?_
    show Steps p.tables e below (T0.setTop (mkF m 179 #[z0, z1, z2, .val (.int i3), .val (.int t0), .val (.int t1), .val (.int t2), .val (.int t3), .val (.int s0_), .val (.int s1_), .val (.int s2_), .val (.int s3_), .val (.ref o12), z13, z14] [(.int (1 : Int32)), (.int s1_), (.int t1), (.int w)])) _
    refine XS.goto X0.here hx rfl (pc0 := 179) (pc' := 183) rfl (hb hby at_179) (by decide) (by decide) ?_
    rw [k1 hc175] at kt
    exact kt
  · refine XS.icmpYes X0.here hx rfl (pc0 := 175) (pc' := 182) rfl (hb hby at_175) rfl (flt hc175).2.1 (by decide) (by decide) ?_
    show Steps p.tables e below (T0.setTop (mkF m 182 #[z0, z1, z2, .val (.int i3), .val (.int t0), .val (.int t1), .val (.int t2), .val (.int t3), .val (.int s0_), .val (.int s1_), .val (.int s2_), .val (.int s3_), .val (.ref o12), z13, z14] [(.int s1_), (.int t1), (.int w)])) _
    refine XS.iconst X0.here hx rfl (hb hby at_182) ?_
    rw [k2 hc175] at kt
    exact kt
set_option maxRecDepth 65536 in
set_option maxHeartbeats 40000000 in
theorem segE2 {p : Program} {l : Launch} {e : Env} {R : Room} {s : State} {m : MethodId} {args : Array Value} {below : List Frame} {meth : Method} {c : Code} {T0 : State} {locs : List Loc} {cells slots : Nat} {Z : State} {a0 : Array Value} {h0 : Heap} (z0 : Slot) (z1 : Slot) (z2 : Slot) (i3 : Int32) (t0 : Int32) (t1 : Int32) (t2 : Int32) (t3 : Int32) (s0_ : Int32) (s1_ : Int32) (s2_ : Int32) (s3_ : Int32) (o12 : Addr) (z13 : Slot) (z14 : Slot) (rb : Int32) (w : Int32) (cl : Cell)
    (X0 : Stand p l e R s m args below meth c T0 locs cells slots) (hx : p.tables.exec = Jvm.exec) (hZ : Z.Warmed39 s.vm) (hw : ∀ d ∈ tables_1, d.before a0 Z = true) (hby : c.code = code) (hml : c.maxLocals = 15) (hown : s.vm.findClass "com/example/fountainwire/fountainwire/codec/OctetsAddPinLaw" = some m.cls) (e0 : T0.heap = h0) (Ar : Arr Z h0 o12 cl .byte) (hin : ¬ ((2 : Int32) < 0 ∨ cl.slots.size ≤ (2 : Int32).toNatClampNeg)) (hat : cl.slots[(2 : Int32).toNatClampNeg]? = some (.int w)) (k1 : ((2 : Int32) < i3) → rb = (1 : Int32)) (k2 : ¬ ((2 : Int32) < i3) → rb = (0 : Int32)) {target : State}
    (kt : Steps p.tables e below (T0.setTop (mkF m 219 #[z0, z1, z2, .val (.int i3), .val (.int t0), .val (.int t1), .val (.int t2), .val (.int t3), .val (.int s0_), .val (.int s1_), .val (.int s2_), .val (.int s3_), .val (.ref o12), z13, z14] [(.int rb), (.int s2_), (.int t2), (.int w)])) target) : Steps p.tables e below (T0.setTop (mkF m 201 #[z0, z1, z2, .val (.int i3), .val (.int t0), .val (.int t1), .val (.int t2), .val (.int t3), .val (.int s0_), .val (.int s1_), .val (.int s2_), .val (.int s3_), .val (.ref o12), z13, z14] [])) target := by
  show Steps p.tables e below (T0.setTop (mkF m 201 #[z0, z1, z2, .val (.int i3), .val (.int t0), .val (.int t1), .val (.int t2), .val (.int t3), .val (.int s0_), .val (.int s1_), .val (.int s2_), .val (.int s3_), .val (.ref o12), z13, z14] [])) _
  refine XS.aload X0.here hx rfl (hb hby at_201) rfl rfl ?_
  show Steps p.tables e below (T0.setTop (mkF m 203 #[z0, z1, z2, .val (.int i3), .val (.int t0), .val (.int t1), .val (.int t2), .val (.int t3), .val (.int s0_), .val (.int s1_), .val (.int s2_), .val (.int s3_), .val (.ref o12), z13, z14] [(.ref o12)])) _
  refine XS.iconst X0.here hx rfl (hb hby at_203) ?_
  show Steps p.tables e below (T0.setTop (mkF m 204 #[z0, z1, z2, .val (.int i3), .val (.int t0), .val (.int t1), .val (.int t2), .val (.int t3), .val (.int s0_), .val (.int s1_), .val (.int s2_), .val (.int s3_), .val (.ref o12), z13, z14] [(.int (2 : Int32)), (.ref o12)])) _
  refine X0.baloadBytes hx (j := (2 : Int32)) (v := (.int w)) (by rw [e0]; exact Ar.1) (State.isArrayOf_alike hZ.alike Ar.2.1) Ar.2.2 hin hat (g := (mkF m 204 #[z0, z1, z2, .val (.int i3), .val (.int t0), .val (.int t1), .val (.int t2), .val (.int t3), .val (.int s0_), .val (.int s1_), .val (.int s2_), .val (.int s3_), .val (.ref o12), z13, z14] [(.int (2 : Int32)), (.ref o12)])) rfl rfl (hb hby at_204) _ ?_
  show Steps p.tables e below (T0.setTop (mkF m 205 #[z0, z1, z2, .val (.int i3), .val (.int t0), .val (.int t1), .val (.int t2), .val (.int t3), .val (.int s0_), .val (.int s1_), .val (.int s2_), .val (.int s3_), .val (.ref o12), z13, z14] [(.int w)])) _
  refine XS.iload X0.here hx rfl (hb hby at_205) rfl ?_
  show Steps p.tables e below (T0.setTop (mkF m 207 #[z0, z1, z2, .val (.int i3), .val (.int t0), .val (.int t1), .val (.int t2), .val (.int t3), .val (.int s0_), .val (.int s1_), .val (.int s2_), .val (.int s3_), .val (.ref o12), z13, z14] [(.int t2), (.int w)])) _
  refine XS.iload X0.here hx rfl (hb hby at_207) rfl ?_
  show Steps p.tables e below (T0.setTop (mkF m 209 #[z0, z1, z2, .val (.int i3), .val (.int t0), .val (.int t1), .val (.int t2), .val (.int t3), .val (.int s0_), .val (.int s1_), .val (.int s2_), .val (.int s3_), .val (.ref o12), z13, z14] [(.int s2_), (.int t2), (.int w)])) _
  refine XS.iconst X0.here hx rfl (hb hby at_209) ?_
  show Steps p.tables e below (T0.setTop (mkF m 210 #[z0, z1, z2, .val (.int i3), .val (.int t0), .val (.int t1), .val (.int t2), .val (.int t3), .val (.int s0_), .val (.int s1_), .val (.int s2_), .val (.int s3_), .val (.ref o12), z13, z14] [(.int (2 : Int32)), (.int s2_), (.int t2), (.int w)])) _
  refine XS.iloadN X0.here hx rfl (hb hby at_210) rfl ?_
  show Steps p.tables e below (T0.setTop (mkF m 211 #[z0, z1, z2, .val (.int i3), .val (.int t0), .val (.int t1), .val (.int t2), .val (.int t3), .val (.int s0_), .val (.int s1_), .val (.int s2_), .val (.int s3_), .val (.ref o12), z13, z14] [(.int i3), (.int (2 : Int32)), (.int s2_), (.int t2), (.int w)])) _
  by_cases hc211 : (2 : Int32) < i3
  · refine XS.icmpNo X0.here hx rfl (hb hby at_211) rfl (tlt hc211).2.1 ?_
    show Steps p.tables e below (T0.setTop (mkF m 214 #[z0, z1, z2, .val (.int i3), .val (.int t0), .val (.int t1), .val (.int t2), .val (.int t3), .val (.int s0_), .val (.int s1_), .val (.int s2_), .val (.int s3_), .val (.ref o12), z13, z14] [(.int s2_), (.int t2), (.int w)])) _
    refine XS.iconst X0.here hx rfl (hb hby at_214) ?_
    show Steps p.tables e below (T0.setTop (mkF m 215 #[z0, z1, z2, .val (.int i3), .val (.int t0), .val (.int t1), .val (.int t2), .val (.int t3), .val (.int s0_), .val (.int s1_), .val (.int s2_), .val (.int s3_), .val (.ref o12), z13, z14] [(.int (1 : Int32)), (.int s2_), (.int t2), (.int w)])) _
    refine XS.goto X0.here hx rfl (pc0 := 215) (pc' := 219) rfl (hb hby at_215) (by decide) (by decide) ?_
    rw [k1 hc211] at kt
    exact kt
  · refine XS.icmpYes X0.here hx rfl (pc0 := 211) (pc' := 218) rfl (hb hby at_211) rfl (flt hc211).2.1 (by decide) (by decide) ?_
    show Steps p.tables e below (T0.setTop (mkF m 218 #[z0, z1, z2, .val (.int i3), .val (.int t0), .val (.int t1), .val (.int t2), .val (.int t3), .val (.int s0_), .val (.int s1_), .val (.int s2_), .val (.int s3_), .val (.ref o12), z13, z14] [(.int s2_), (.int t2), (.int w)])) _
    refine XS.iconst X0.here hx rfl (hb hby at_218) ?_
    rw [k2 hc211] at kt
    exact kt
set_option maxRecDepth 65536 in
set_option maxHeartbeats 40000000 in
theorem segE3 {p : Program} {l : Launch} {e : Env} {R : Room} {s : State} {m : MethodId} {args : Array Value} {below : List Frame} {meth : Method} {c : Code} {T0 : State} {locs : List Loc} {cells slots : Nat} {Z : State} {a0 : Array Value} {h0 : Heap} (z0 : Slot) (z1 : Slot) (z2 : Slot) (i3 : Int32) (t0 : Int32) (t1 : Int32) (t2 : Int32) (t3 : Int32) (s0_ : Int32) (s1_ : Int32) (s2_ : Int32) (s3_ : Int32) (o12 : Addr) (z13 : Slot) (z14 : Slot) (rb : Int32) (w : Int32) (cl : Cell)
    (X0 : Stand p l e R s m args below meth c T0 locs cells slots) (hx : p.tables.exec = Jvm.exec) (hZ : Z.Warmed39 s.vm) (hw : ∀ d ∈ tables_1, d.before a0 Z = true) (hby : c.code = code) (hml : c.maxLocals = 15) (hown : s.vm.findClass "com/example/fountainwire/fountainwire/codec/OctetsAddPinLaw" = some m.cls) (e0 : T0.heap = h0) (Ar : Arr Z h0 o12 cl .byte) (hin : ¬ ((3 : Int32) < 0 ∨ cl.slots.size ≤ (3 : Int32).toNatClampNeg)) (hat : cl.slots[(3 : Int32).toNatClampNeg]? = some (.int w)) (k1 : ((3 : Int32) < i3) → rb = (1 : Int32)) (k2 : ¬ ((3 : Int32) < i3) → rb = (0 : Int32)) {target : State}
    (kt : Steps p.tables e below (T0.setTop (mkF m 255 #[z0, z1, z2, .val (.int i3), .val (.int t0), .val (.int t1), .val (.int t2), .val (.int t3), .val (.int s0_), .val (.int s1_), .val (.int s2_), .val (.int s3_), .val (.ref o12), z13, z14] [(.int rb), (.int s3_), (.int t3), (.int w)])) target) : Steps p.tables e below (T0.setTop (mkF m 237 #[z0, z1, z2, .val (.int i3), .val (.int t0), .val (.int t1), .val (.int t2), .val (.int t3), .val (.int s0_), .val (.int s1_), .val (.int s2_), .val (.int s3_), .val (.ref o12), z13, z14] [])) target := by
  show Steps p.tables e below (T0.setTop (mkF m 237 #[z0, z1, z2, .val (.int i3), .val (.int t0), .val (.int t1), .val (.int t2), .val (.int t3), .val (.int s0_), .val (.int s1_), .val (.int s2_), .val (.int s3_), .val (.ref o12), z13, z14] [])) _
  refine XS.aload X0.here hx rfl (hb hby at_237) rfl rfl ?_
  show Steps p.tables e below (T0.setTop (mkF m 239 #[z0, z1, z2, .val (.int i3), .val (.int t0), .val (.int t1), .val (.int t2), .val (.int t3), .val (.int s0_), .val (.int s1_), .val (.int s2_), .val (.int s3_), .val (.ref o12), z13, z14] [(.ref o12)])) _
  refine XS.iconst X0.here hx rfl (hb hby at_239) ?_
  show Steps p.tables e below (T0.setTop (mkF m 240 #[z0, z1, z2, .val (.int i3), .val (.int t0), .val (.int t1), .val (.int t2), .val (.int t3), .val (.int s0_), .val (.int s1_), .val (.int s2_), .val (.int s3_), .val (.ref o12), z13, z14] [(.int (3 : Int32)), (.ref o12)])) _
  refine X0.baloadBytes hx (j := (3 : Int32)) (v := (.int w)) (by rw [e0]; exact Ar.1) (State.isArrayOf_alike hZ.alike Ar.2.1) Ar.2.2 hin hat (g := (mkF m 240 #[z0, z1, z2, .val (.int i3), .val (.int t0), .val (.int t1), .val (.int t2), .val (.int t3), .val (.int s0_), .val (.int s1_), .val (.int s2_), .val (.int s3_), .val (.ref o12), z13, z14] [(.int (3 : Int32)), (.ref o12)])) rfl rfl (hb hby at_240) _ ?_
  show Steps p.tables e below (T0.setTop (mkF m 241 #[z0, z1, z2, .val (.int i3), .val (.int t0), .val (.int t1), .val (.int t2), .val (.int t3), .val (.int s0_), .val (.int s1_), .val (.int s2_), .val (.int s3_), .val (.ref o12), z13, z14] [(.int w)])) _
  refine XS.iload X0.here hx rfl (hb hby at_241) rfl ?_
  show Steps p.tables e below (T0.setTop (mkF m 243 #[z0, z1, z2, .val (.int i3), .val (.int t0), .val (.int t1), .val (.int t2), .val (.int t3), .val (.int s0_), .val (.int s1_), .val (.int s2_), .val (.int s3_), .val (.ref o12), z13, z14] [(.int t3), (.int w)])) _
  refine XS.iload X0.here hx rfl (hb hby at_243) rfl ?_
  show Steps p.tables e below (T0.setTop (mkF m 245 #[z0, z1, z2, .val (.int i3), .val (.int t0), .val (.int t1), .val (.int t2), .val (.int t3), .val (.int s0_), .val (.int s1_), .val (.int s2_), .val (.int s3_), .val (.ref o12), z13, z14] [(.int s3_), (.int t3), (.int w)])) _
  refine XS.iconst X0.here hx rfl (hb hby at_245) ?_
  show Steps p.tables e below (T0.setTop (mkF m 246 #[z0, z1, z2, .val (.int i3), .val (.int t0), .val (.int t1), .val (.int t2), .val (.int t3), .val (.int s0_), .val (.int s1_), .val (.int s2_), .val (.int s3_), .val (.ref o12), z13, z14] [(.int (3 : Int32)), (.int s3_), (.int t3), (.int w)])) _
  refine XS.iloadN X0.here hx rfl (hb hby at_246) rfl ?_
  show Steps p.tables e below (T0.setTop (mkF m 247 #[z0, z1, z2, .val (.int i3), .val (.int t0), .val (.int t1), .val (.int t2), .val (.int t3), .val (.int s0_), .val (.int s1_), .val (.int s2_), .val (.int s3_), .val (.ref o12), z13, z14] [(.int i3), (.int (3 : Int32)), (.int s3_), (.int t3), (.int w)])) _
  by_cases hc247 : (3 : Int32) < i3
  · refine XS.icmpNo X0.here hx rfl (hb hby at_247) rfl (tlt hc247).2.1 ?_
    show Steps p.tables e below (T0.setTop (mkF m 250 #[z0, z1, z2, .val (.int i3), .val (.int t0), .val (.int t1), .val (.int t2), .val (.int t3), .val (.int s0_), .val (.int s1_), .val (.int s2_), .val (.int s3_), .val (.ref o12), z13, z14] [(.int s3_), (.int t3), (.int w)])) _
    refine XS.iconst X0.here hx rfl (hb hby at_250) ?_
    show Steps p.tables e below (T0.setTop (mkF m 251 #[z0, z1, z2, .val (.int i3), .val (.int t0), .val (.int t1), .val (.int t2), .val (.int t3), .val (.int s0_), .val (.int s1_), .val (.int s2_), .val (.int s3_), .val (.ref o12), z13, z14] [(.int (1 : Int32)), (.int s3_), (.int t3), (.int w)])) _
    refine XS.goto X0.here hx rfl (pc0 := 251) (pc' := 255) rfl (hb hby at_251) (by decide) (by decide) ?_
    rw [k1 hc247] at kt
    exact kt
  · refine XS.icmpYes X0.here hx rfl (pc0 := 247) (pc' := 254) rfl (hb hby at_247) rfl (flt hc247).2.1 (by decide) (by decide) ?_
    show Steps p.tables e below (T0.setTop (mkF m 254 #[z0, z1, z2, .val (.int i3), .val (.int t0), .val (.int t1), .val (.int t2), .val (.int t3), .val (.int s0_), .val (.int s1_), .val (.int s2_), .val (.int s3_), .val (.ref o12), z13, z14] [(.int s3_), (.int t3), (.int w)])) _
    refine XS.iconst X0.here hx rfl (hb hby at_254) ?_
    rw [k2 hc247] at kt
    exact kt
set_option maxRecDepth 65536 in
set_option maxHeartbeats 40000000 in
theorem segS0 {p : Program} {l : Launch} {e : Env} {R : Room} {s : State} {m : MethodId} {args : Array Value} {below : List Frame} {meth : Method} {c : Code} {T0 : State} {locs : List Loc} {cells slots : Nat} {Z : State} {a0 : Array Value} {h0 : Heap} (z0 : Slot) (z1 : Slot) (z2 : Slot) (i3 : Int32) (t0 : Int32) (t1 : Int32) (t2 : Int32) (t3 : Int32) (s0_ : Int32) (s1_ : Int32) (s2_ : Int32) (s3_ : Int32) (z12 : Slot) (o13 : Addr) (z14 : Slot) (rs : Int32) (cl : Cell) (w : Int32)
    (X0 : Stand p l e R s m args below meth c T0 locs cells slots) (hx : p.tables.exec = Jvm.exec) (hZ : Z.Warmed39 s.vm) (hw : ∀ d ∈ tables_1, d.before a0 Z = true) (hby : c.code = code) (hml : c.maxLocals = 15) (hown : s.vm.findClass "com/example/fountainwire/fountainwire/codec/OctetsAddPinLaw" = some m.cls) (e0 : T0.heap = h0) (Ar : Arr Z h0 o13 cl .byte) (hin : ¬ (i3 < (1 : Int32)) → ¬ ((0 : Int32) < 0 ∨ cl.slots.size ≤ (0 : Int32).toNatClampNeg)) (hat : ¬ (i3 < (1 : Int32)) → cl.slots[(0 : Int32).toNatClampNeg]? = some (.int w)) (k1 : (i3 < (1 : Int32)) → rs = (1 : Int32)) (k2 : ¬ (i3 < (1 : Int32)) → (w = s0_) → rs = (1 : Int32)) (k3 : ¬ (i3 < (1 : Int32)) → ¬ (w = s0_) → rs = (0 : Int32)) {target : State}
    (kt : Steps p.tables e below (T0.setTop (mkF m 292 #[z0, z1, z2, .val (.int i3), .val (.int t0), .val (.int t1), .val (.int t2), .val (.int t3), .val (.int s0_), .val (.int s1_), .val (.int s2_), .val (.int s3_), z12, .val (.ref o13), z14] [(.int rs)])) target) : Steps p.tables e below (T0.setTop (mkF m 273 #[z0, z1, z2, .val (.int i3), .val (.int t0), .val (.int t1), .val (.int t2), .val (.int t3), .val (.int s0_), .val (.int s1_), .val (.int s2_), .val (.int s3_), z12, .val (.ref o13), z14] [])) target := by
  show Steps p.tables e below (T0.setTop (mkF m 273 #[z0, z1, z2, .val (.int i3), .val (.int t0), .val (.int t1), .val (.int t2), .val (.int t3), .val (.int s0_), .val (.int s1_), .val (.int s2_), .val (.int s3_), z12, .val (.ref o13), z14] [])) _
  refine XS.iloadN X0.here hx rfl (hb hby at_273) rfl ?_
  show Steps p.tables e below (T0.setTop (mkF m 274 #[z0, z1, z2, .val (.int i3), .val (.int t0), .val (.int t1), .val (.int t2), .val (.int t3), .val (.int s0_), .val (.int s1_), .val (.int s2_), .val (.int s3_), z12, .val (.ref o13), z14] [(.int i3)])) _
  refine XS.iconst X0.here hx rfl (hb hby at_274) ?_
  show Steps p.tables e below (T0.setTop (mkF m 275 #[z0, z1, z2, .val (.int i3), .val (.int t0), .val (.int t1), .val (.int t2), .val (.int t3), .val (.int s0_), .val (.int s1_), .val (.int s2_), .val (.int s3_), z12, .val (.ref o13), z14] [(.int (1 : Int32)), (.int i3)])) _
  by_cases hc275 : i3 < (1 : Int32)
  · refine XS.icmpYes X0.here hx rfl (pc0 := 275) (pc' := 287) rfl (hb hby at_275) rfl (tlt hc275).1 (by decide) (by decide) ?_
    show Steps p.tables e below (T0.setTop (mkF m 287 #[z0, z1, z2, .val (.int i3), .val (.int t0), .val (.int t1), .val (.int t2), .val (.int t3), .val (.int s0_), .val (.int s1_), .val (.int s2_), .val (.int s3_), z12, .val (.ref o13), z14] [])) _
    refine XS.iconst X0.here hx rfl (hb hby at_287) ?_
    show Steps p.tables e below (T0.setTop (mkF m 288 #[z0, z1, z2, .val (.int i3), .val (.int t0), .val (.int t1), .val (.int t2), .val (.int t3), .val (.int s0_), .val (.int s1_), .val (.int s2_), .val (.int s3_), z12, .val (.ref o13), z14] [(.int (1 : Int32))])) _
    refine XS.goto X0.here hx rfl (pc0 := 288) (pc' := 292) rfl (hb hby at_288) (by decide) (by decide) ?_
    rw [k1 hc275] at kt
    exact kt
  · refine XS.icmpNo X0.here hx rfl (hb hby at_275) rfl (flt hc275).1 ?_
    show Steps p.tables e below (T0.setTop (mkF m 278 #[z0, z1, z2, .val (.int i3), .val (.int t0), .val (.int t1), .val (.int t2), .val (.int t3), .val (.int s0_), .val (.int s1_), .val (.int s2_), .val (.int s3_), z12, .val (.ref o13), z14] [])) _
    refine XS.aload X0.here hx rfl (hb hby at_278) rfl rfl ?_
    show Steps p.tables e below (T0.setTop (mkF m 280 #[z0, z1, z2, .val (.int i3), .val (.int t0), .val (.int t1), .val (.int t2), .val (.int t3), .val (.int s0_), .val (.int s1_), .val (.int s2_), .val (.int s3_), z12, .val (.ref o13), z14] [(.ref o13)])) _
    refine XS.iconst X0.here hx rfl (hb hby at_280) ?_
    show Steps p.tables e below (T0.setTop (mkF m 281 #[z0, z1, z2, .val (.int i3), .val (.int t0), .val (.int t1), .val (.int t2), .val (.int t3), .val (.int s0_), .val (.int s1_), .val (.int s2_), .val (.int s3_), z12, .val (.ref o13), z14] [(.int (0 : Int32)), (.ref o13)])) _
    refine X0.baloadBytes hx (j := (0 : Int32)) (v := (.int w)) (by rw [e0]; exact Ar.1) (State.isArrayOf_alike hZ.alike Ar.2.1) Ar.2.2 (hin hc275) (hat hc275) (g := (mkF m 281 #[z0, z1, z2, .val (.int i3), .val (.int t0), .val (.int t1), .val (.int t2), .val (.int t3), .val (.int s0_), .val (.int s1_), .val (.int s2_), .val (.int s3_), z12, .val (.ref o13), z14] [(.int (0 : Int32)), (.ref o13)])) rfl rfl (hb hby at_281) _ ?_
    show Steps p.tables e below (T0.setTop (mkF m 282 #[z0, z1, z2, .val (.int i3), .val (.int t0), .val (.int t1), .val (.int t2), .val (.int t3), .val (.int s0_), .val (.int s1_), .val (.int s2_), .val (.int s3_), z12, .val (.ref o13), z14] [(.int w)])) _
    refine XS.iload X0.here hx rfl (hb hby at_282) rfl ?_
    show Steps p.tables e below (T0.setTop (mkF m 284 #[z0, z1, z2, .val (.int i3), .val (.int t0), .val (.int t1), .val (.int t2), .val (.int t3), .val (.int s0_), .val (.int s1_), .val (.int s2_), .val (.int s3_), z12, .val (.ref o13), z14] [(.int s0_), (.int w)])) _
    by_cases hc284 : w = s0_
    · refine XS.icmpNo X0.here hx rfl (hb hby at_284) rfl (teq hc284).2 ?_
      show Steps p.tables e below (T0.setTop (mkF m 287 #[z0, z1, z2, .val (.int i3), .val (.int t0), .val (.int t1), .val (.int t2), .val (.int t3), .val (.int s0_), .val (.int s1_), .val (.int s2_), .val (.int s3_), z12, .val (.ref o13), z14] [])) _
      refine XS.iconst X0.here hx rfl (hb hby at_287) ?_
      show Steps p.tables e below (T0.setTop (mkF m 288 #[z0, z1, z2, .val (.int i3), .val (.int t0), .val (.int t1), .val (.int t2), .val (.int t3), .val (.int s0_), .val (.int s1_), .val (.int s2_), .val (.int s3_), z12, .val (.ref o13), z14] [(.int (1 : Int32))])) _
      refine XS.goto X0.here hx rfl (pc0 := 288) (pc' := 292) rfl (hb hby at_288) (by decide) (by decide) ?_
      rw [k2 hc275 hc284] at kt
      exact kt
    · refine XS.icmpYes X0.here hx rfl (pc0 := 284) (pc' := 291) rfl (hb hby at_284) rfl (feq hc284).2 (by decide) (by decide) ?_
      show Steps p.tables e below (T0.setTop (mkF m 291 #[z0, z1, z2, .val (.int i3), .val (.int t0), .val (.int t1), .val (.int t2), .val (.int t3), .val (.int s0_), .val (.int s1_), .val (.int s2_), .val (.int s3_), z12, .val (.ref o13), z14] [])) _
      refine XS.iconst X0.here hx rfl (hb hby at_291) ?_
      rw [k3 hc275 hc284] at kt
      exact kt
set_option maxRecDepth 65536 in
set_option maxHeartbeats 40000000 in
theorem segS1 {p : Program} {l : Launch} {e : Env} {R : Room} {s : State} {m : MethodId} {args : Array Value} {below : List Frame} {meth : Method} {c : Code} {T0 : State} {locs : List Loc} {cells slots : Nat} {Z : State} {a0 : Array Value} {h0 : Heap} (z0 : Slot) (z1 : Slot) (z2 : Slot) (i3 : Int32) (t0 : Int32) (t1 : Int32) (t2 : Int32) (t3 : Int32) (s0_ : Int32) (s1_ : Int32) (s2_ : Int32) (s3_ : Int32) (z12 : Slot) (o13 : Addr) (z14 : Slot) (rs : Int32) (cl : Cell) (w : Int32)
    (X0 : Stand p l e R s m args below meth c T0 locs cells slots) (hx : p.tables.exec = Jvm.exec) (hZ : Z.Warmed39 s.vm) (hw : ∀ d ∈ tables_1, d.before a0 Z = true) (hby : c.code = code) (hml : c.maxLocals = 15) (hown : s.vm.findClass "com/example/fountainwire/fountainwire/codec/OctetsAddPinLaw" = some m.cls) (e0 : T0.heap = h0) (Ar : Arr Z h0 o13 cl .byte) (hin : ¬ (i3 < (2 : Int32)) → ¬ ((1 : Int32) < 0 ∨ cl.slots.size ≤ (1 : Int32).toNatClampNeg)) (hat : ¬ (i3 < (2 : Int32)) → cl.slots[(1 : Int32).toNatClampNeg]? = some (.int w)) (k1 : (i3 < (2 : Int32)) → rs = (1 : Int32)) (k2 : ¬ (i3 < (2 : Int32)) → (w = s1_) → rs = (1 : Int32)) (k3 : ¬ (i3 < (2 : Int32)) → ¬ (w = s1_) → rs = (0 : Int32)) {target : State}
    (kt : Steps p.tables e below (T0.setTop (mkF m 318 #[z0, z1, z2, .val (.int i3), .val (.int t0), .val (.int t1), .val (.int t2), .val (.int t3), .val (.int s0_), .val (.int s1_), .val (.int s2_), .val (.int s3_), z12, .val (.ref o13), z14] [(.int rs)])) target) : Steps p.tables e below (T0.setTop (mkF m 299 #[z0, z1, z2, .val (.int i3), .val (.int t0), .val (.int t1), .val (.int t2), .val (.int t3), .val (.int s0_), .val (.int s1_), .val (.int s2_), .val (.int s3_), z12, .val (.ref o13), z14] [])) target := by
  show Steps p.tables e below (T0.setTop (mkF m 299 #[z0, z1, z2, .val (.int i3), .val (.int t0), .val (.int t1), .val (.int t2), .val (.int t3), .val (.int s0_), .val (.int s1_), .val (.int s2_), .val (.int s3_), z12, .val (.ref o13), z14] [])) _
  refine XS.iloadN X0.here hx rfl (hb hby at_299) rfl ?_
  show Steps p.tables e below (T0.setTop (mkF m 300 #[z0, z1, z2, .val (.int i3), .val (.int t0), .val (.int t1), .val (.int t2), .val (.int t3), .val (.int s0_), .val (.int s1_), .val (.int s2_), .val (.int s3_), z12, .val (.ref o13), z14] [(.int i3)])) _
  refine XS.iconst X0.here hx rfl (hb hby at_300) ?_
  show Steps p.tables e below (T0.setTop (mkF m 301 #[z0, z1, z2, .val (.int i3), .val (.int t0), .val (.int t1), .val (.int t2), .val (.int t3), .val (.int s0_), .val (.int s1_), .val (.int s2_), .val (.int s3_), z12, .val (.ref o13), z14] [(.int (2 : Int32)), (.int i3)])) _
  by_cases hc301 : i3 < (2 : Int32)
  · refine XS.icmpYes X0.here hx rfl (pc0 := 301) (pc' := 313) rfl (hb hby at_301) rfl (tlt hc301).1 (by decide) (by decide) ?_
    show Steps p.tables e below (T0.setTop (mkF m 313 #[z0, z1, z2, .val (.int i3), .val (.int t0), .val (.int t1), .val (.int t2), .val (.int t3), .val (.int s0_), .val (.int s1_), .val (.int s2_), .val (.int s3_), z12, .val (.ref o13), z14] [])) _
    refine XS.iconst X0.here hx rfl (hb hby at_313) ?_
    show Steps p.tables e below (T0.setTop (mkF m 314 #[z0, z1, z2, .val (.int i3), .val (.int t0), .val (.int t1), .val (.int t2), .val (.int t3), .val (.int s0_), .val (.int s1_), .val (.int s2_), .val (.int s3_), z12, .val (.ref o13), z14] [(.int (1 : Int32))])) _
    refine XS.goto X0.here hx rfl (pc0 := 314) (pc' := 318) rfl (hb hby at_314) (by decide) (by decide) ?_
    rw [k1 hc301] at kt
    exact kt
  · refine XS.icmpNo X0.here hx rfl (hb hby at_301) rfl (flt hc301).1 ?_
    show Steps p.tables e below (T0.setTop (mkF m 304 #[z0, z1, z2, .val (.int i3), .val (.int t0), .val (.int t1), .val (.int t2), .val (.int t3), .val (.int s0_), .val (.int s1_), .val (.int s2_), .val (.int s3_), z12, .val (.ref o13), z14] [])) _
    refine XS.aload X0.here hx rfl (hb hby at_304) rfl rfl ?_
    show Steps p.tables e below (T0.setTop (mkF m 306 #[z0, z1, z2, .val (.int i3), .val (.int t0), .val (.int t1), .val (.int t2), .val (.int t3), .val (.int s0_), .val (.int s1_), .val (.int s2_), .val (.int s3_), z12, .val (.ref o13), z14] [(.ref o13)])) _
    refine XS.iconst X0.here hx rfl (hb hby at_306) ?_
    show Steps p.tables e below (T0.setTop (mkF m 307 #[z0, z1, z2, .val (.int i3), .val (.int t0), .val (.int t1), .val (.int t2), .val (.int t3), .val (.int s0_), .val (.int s1_), .val (.int s2_), .val (.int s3_), z12, .val (.ref o13), z14] [(.int (1 : Int32)), (.ref o13)])) _
    refine X0.baloadBytes hx (j := (1 : Int32)) (v := (.int w)) (by rw [e0]; exact Ar.1) (State.isArrayOf_alike hZ.alike Ar.2.1) Ar.2.2 (hin hc301) (hat hc301) (g := (mkF m 307 #[z0, z1, z2, .val (.int i3), .val (.int t0), .val (.int t1), .val (.int t2), .val (.int t3), .val (.int s0_), .val (.int s1_), .val (.int s2_), .val (.int s3_), z12, .val (.ref o13), z14] [(.int (1 : Int32)), (.ref o13)])) rfl rfl (hb hby at_307) _ ?_
    show Steps p.tables e below (T0.setTop (mkF m 308 #[z0, z1, z2, .val (.int i3), .val (.int t0), .val (.int t1), .val (.int t2), .val (.int t3), .val (.int s0_), .val (.int s1_), .val (.int s2_), .val (.int s3_), z12, .val (.ref o13), z14] [(.int w)])) _
    refine XS.iload X0.here hx rfl (hb hby at_308) rfl ?_
    show Steps p.tables e below (T0.setTop (mkF m 310 #[z0, z1, z2, .val (.int i3), .val (.int t0), .val (.int t1), .val (.int t2), .val (.int t3), .val (.int s0_), .val (.int s1_), .val (.int s2_), .val (.int s3_), z12, .val (.ref o13), z14] [(.int s1_), (.int w)])) _
    by_cases hc310 : w = s1_
    · refine XS.icmpNo X0.here hx rfl (hb hby at_310) rfl (teq hc310).2 ?_
      show Steps p.tables e below (T0.setTop (mkF m 313 #[z0, z1, z2, .val (.int i3), .val (.int t0), .val (.int t1), .val (.int t2), .val (.int t3), .val (.int s0_), .val (.int s1_), .val (.int s2_), .val (.int s3_), z12, .val (.ref o13), z14] [])) _
      refine XS.iconst X0.here hx rfl (hb hby at_313) ?_
      show Steps p.tables e below (T0.setTop (mkF m 314 #[z0, z1, z2, .val (.int i3), .val (.int t0), .val (.int t1), .val (.int t2), .val (.int t3), .val (.int s0_), .val (.int s1_), .val (.int s2_), .val (.int s3_), z12, .val (.ref o13), z14] [(.int (1 : Int32))])) _
      refine XS.goto X0.here hx rfl (pc0 := 314) (pc' := 318) rfl (hb hby at_314) (by decide) (by decide) ?_
      rw [k2 hc301 hc310] at kt
      exact kt
    · refine XS.icmpYes X0.here hx rfl (pc0 := 310) (pc' := 317) rfl (hb hby at_310) rfl (feq hc310).2 (by decide) (by decide) ?_
      show Steps p.tables e below (T0.setTop (mkF m 317 #[z0, z1, z2, .val (.int i3), .val (.int t0), .val (.int t1), .val (.int t2), .val (.int t3), .val (.int s0_), .val (.int s1_), .val (.int s2_), .val (.int s3_), z12, .val (.ref o13), z14] [])) _
      refine XS.iconst X0.here hx rfl (hb hby at_317) ?_
      rw [k3 hc301 hc310] at kt
      exact kt
set_option maxRecDepth 65536 in
set_option maxHeartbeats 40000000 in
theorem segS2 {p : Program} {l : Launch} {e : Env} {R : Room} {s : State} {m : MethodId} {args : Array Value} {below : List Frame} {meth : Method} {c : Code} {T0 : State} {locs : List Loc} {cells slots : Nat} {Z : State} {a0 : Array Value} {h0 : Heap} (z0 : Slot) (z1 : Slot) (z2 : Slot) (i3 : Int32) (t0 : Int32) (t1 : Int32) (t2 : Int32) (t3 : Int32) (s0_ : Int32) (s1_ : Int32) (s2_ : Int32) (s3_ : Int32) (z12 : Slot) (o13 : Addr) (z14 : Slot) (rs : Int32) (cl : Cell) (w : Int32)
    (X0 : Stand p l e R s m args below meth c T0 locs cells slots) (hx : p.tables.exec = Jvm.exec) (hZ : Z.Warmed39 s.vm) (hw : ∀ d ∈ tables_1, d.before a0 Z = true) (hby : c.code = code) (hml : c.maxLocals = 15) (hown : s.vm.findClass "com/example/fountainwire/fountainwire/codec/OctetsAddPinLaw" = some m.cls) (e0 : T0.heap = h0) (Ar : Arr Z h0 o13 cl .byte) (hin : ¬ (i3 < (3 : Int32)) → ¬ ((2 : Int32) < 0 ∨ cl.slots.size ≤ (2 : Int32).toNatClampNeg)) (hat : ¬ (i3 < (3 : Int32)) → cl.slots[(2 : Int32).toNatClampNeg]? = some (.int w)) (k1 : (i3 < (3 : Int32)) → rs = (1 : Int32)) (k2 : ¬ (i3 < (3 : Int32)) → (w = s2_) → rs = (1 : Int32)) (k3 : ¬ (i3 < (3 : Int32)) → ¬ (w = s2_) → rs = (0 : Int32)) {target : State}
    (kt : Steps p.tables e below (T0.setTop (mkF m 344 #[z0, z1, z2, .val (.int i3), .val (.int t0), .val (.int t1), .val (.int t2), .val (.int t3), .val (.int s0_), .val (.int s1_), .val (.int s2_), .val (.int s3_), z12, .val (.ref o13), z14] [(.int rs)])) target) : Steps p.tables e below (T0.setTop (mkF m 325 #[z0, z1, z2, .val (.int i3), .val (.int t0), .val (.int t1), .val (.int t2), .val (.int t3), .val (.int s0_), .val (.int s1_), .val (.int s2_), .val (.int s3_), z12, .val (.ref o13), z14] [])) target := by
  show Steps p.tables e below (T0.setTop (mkF m 325 #[z0, z1, z2, .val (.int i3), .val (.int t0), .val (.int t1), .val (.int t2), .val (.int t3), .val (.int s0_), .val (.int s1_), .val (.int s2_), .val (.int s3_), z12, .val (.ref o13), z14] [])) _
  refine XS.iloadN X0.here hx rfl (hb hby at_325) rfl ?_
  show Steps p.tables e below (T0.setTop (mkF m 326 #[z0, z1, z2, .val (.int i3), .val (.int t0), .val (.int t1), .val (.int t2), .val (.int t3), .val (.int s0_), .val (.int s1_), .val (.int s2_), .val (.int s3_), z12, .val (.ref o13), z14] [(.int i3)])) _
  refine XS.iconst X0.here hx rfl (hb hby at_326) ?_
  show Steps p.tables e below (T0.setTop (mkF m 327 #[z0, z1, z2, .val (.int i3), .val (.int t0), .val (.int t1), .val (.int t2), .val (.int t3), .val (.int s0_), .val (.int s1_), .val (.int s2_), .val (.int s3_), z12, .val (.ref o13), z14] [(.int (3 : Int32)), (.int i3)])) _
  by_cases hc327 : i3 < (3 : Int32)
  · refine XS.icmpYes X0.here hx rfl (pc0 := 327) (pc' := 339) rfl (hb hby at_327) rfl (tlt hc327).1 (by decide) (by decide) ?_
    show Steps p.tables e below (T0.setTop (mkF m 339 #[z0, z1, z2, .val (.int i3), .val (.int t0), .val (.int t1), .val (.int t2), .val (.int t3), .val (.int s0_), .val (.int s1_), .val (.int s2_), .val (.int s3_), z12, .val (.ref o13), z14] [])) _
    refine XS.iconst X0.here hx rfl (hb hby at_339) ?_
    show Steps p.tables e below (T0.setTop (mkF m 340 #[z0, z1, z2, .val (.int i3), .val (.int t0), .val (.int t1), .val (.int t2), .val (.int t3), .val (.int s0_), .val (.int s1_), .val (.int s2_), .val (.int s3_), z12, .val (.ref o13), z14] [(.int (1 : Int32))])) _
    refine XS.goto X0.here hx rfl (pc0 := 340) (pc' := 344) rfl (hb hby at_340) (by decide) (by decide) ?_
    rw [k1 hc327] at kt
    exact kt
  · refine XS.icmpNo X0.here hx rfl (hb hby at_327) rfl (flt hc327).1 ?_
    show Steps p.tables e below (T0.setTop (mkF m 330 #[z0, z1, z2, .val (.int i3), .val (.int t0), .val (.int t1), .val (.int t2), .val (.int t3), .val (.int s0_), .val (.int s1_), .val (.int s2_), .val (.int s3_), z12, .val (.ref o13), z14] [])) _
    refine XS.aload X0.here hx rfl (hb hby at_330) rfl rfl ?_
    show Steps p.tables e below (T0.setTop (mkF m 332 #[z0, z1, z2, .val (.int i3), .val (.int t0), .val (.int t1), .val (.int t2), .val (.int t3), .val (.int s0_), .val (.int s1_), .val (.int s2_), .val (.int s3_), z12, .val (.ref o13), z14] [(.ref o13)])) _
    refine XS.iconst X0.here hx rfl (hb hby at_332) ?_
    show Steps p.tables e below (T0.setTop (mkF m 333 #[z0, z1, z2, .val (.int i3), .val (.int t0), .val (.int t1), .val (.int t2), .val (.int t3), .val (.int s0_), .val (.int s1_), .val (.int s2_), .val (.int s3_), z12, .val (.ref o13), z14] [(.int (2 : Int32)), (.ref o13)])) _
    refine X0.baloadBytes hx (j := (2 : Int32)) (v := (.int w)) (by rw [e0]; exact Ar.1) (State.isArrayOf_alike hZ.alike Ar.2.1) Ar.2.2 (hin hc327) (hat hc327) (g := (mkF m 333 #[z0, z1, z2, .val (.int i3), .val (.int t0), .val (.int t1), .val (.int t2), .val (.int t3), .val (.int s0_), .val (.int s1_), .val (.int s2_), .val (.int s3_), z12, .val (.ref o13), z14] [(.int (2 : Int32)), (.ref o13)])) rfl rfl (hb hby at_333) _ ?_
    show Steps p.tables e below (T0.setTop (mkF m 334 #[z0, z1, z2, .val (.int i3), .val (.int t0), .val (.int t1), .val (.int t2), .val (.int t3), .val (.int s0_), .val (.int s1_), .val (.int s2_), .val (.int s3_), z12, .val (.ref o13), z14] [(.int w)])) _
    refine XS.iload X0.here hx rfl (hb hby at_334) rfl ?_
    show Steps p.tables e below (T0.setTop (mkF m 336 #[z0, z1, z2, .val (.int i3), .val (.int t0), .val (.int t1), .val (.int t2), .val (.int t3), .val (.int s0_), .val (.int s1_), .val (.int s2_), .val (.int s3_), z12, .val (.ref o13), z14] [(.int s2_), (.int w)])) _
    by_cases hc336 : w = s2_
    · refine XS.icmpNo X0.here hx rfl (hb hby at_336) rfl (teq hc336).2 ?_
      show Steps p.tables e below (T0.setTop (mkF m 339 #[z0, z1, z2, .val (.int i3), .val (.int t0), .val (.int t1), .val (.int t2), .val (.int t3), .val (.int s0_), .val (.int s1_), .val (.int s2_), .val (.int s3_), z12, .val (.ref o13), z14] [])) _
      refine XS.iconst X0.here hx rfl (hb hby at_339) ?_
      show Steps p.tables e below (T0.setTop (mkF m 340 #[z0, z1, z2, .val (.int i3), .val (.int t0), .val (.int t1), .val (.int t2), .val (.int t3), .val (.int s0_), .val (.int s1_), .val (.int s2_), .val (.int s3_), z12, .val (.ref o13), z14] [(.int (1 : Int32))])) _
      refine XS.goto X0.here hx rfl (pc0 := 340) (pc' := 344) rfl (hb hby at_340) (by decide) (by decide) ?_
      rw [k2 hc327 hc336] at kt
      exact kt
    · refine XS.icmpYes X0.here hx rfl (pc0 := 336) (pc' := 343) rfl (hb hby at_336) rfl (feq hc336).2 (by decide) (by decide) ?_
      show Steps p.tables e below (T0.setTop (mkF m 343 #[z0, z1, z2, .val (.int i3), .val (.int t0), .val (.int t1), .val (.int t2), .val (.int t3), .val (.int s0_), .val (.int s1_), .val (.int s2_), .val (.int s3_), z12, .val (.ref o13), z14] [])) _
      refine XS.iconst X0.here hx rfl (hb hby at_343) ?_
      rw [k3 hc327 hc336] at kt
      exact kt
set_option maxRecDepth 65536 in
set_option maxHeartbeats 40000000 in
theorem segS3 {p : Program} {l : Launch} {e : Env} {R : Room} {s : State} {m : MethodId} {args : Array Value} {below : List Frame} {meth : Method} {c : Code} {T0 : State} {locs : List Loc} {cells slots : Nat} {Z : State} {a0 : Array Value} {h0 : Heap} (z0 : Slot) (z1 : Slot) (z2 : Slot) (i3 : Int32) (t0 : Int32) (t1 : Int32) (t2 : Int32) (t3 : Int32) (s0_ : Int32) (s1_ : Int32) (s2_ : Int32) (s3_ : Int32) (z12 : Slot) (o13 : Addr) (z14 : Slot) (rs : Int32) (cl : Cell) (w : Int32)
    (X0 : Stand p l e R s m args below meth c T0 locs cells slots) (hx : p.tables.exec = Jvm.exec) (hZ : Z.Warmed39 s.vm) (hw : ∀ d ∈ tables_1, d.before a0 Z = true) (hby : c.code = code) (hml : c.maxLocals = 15) (hown : s.vm.findClass "com/example/fountainwire/fountainwire/codec/OctetsAddPinLaw" = some m.cls) (e0 : T0.heap = h0) (Ar : Arr Z h0 o13 cl .byte) (hin : ¬ (i3 < (4 : Int32)) → ¬ ((3 : Int32) < 0 ∨ cl.slots.size ≤ (3 : Int32).toNatClampNeg)) (hat : ¬ (i3 < (4 : Int32)) → cl.slots[(3 : Int32).toNatClampNeg]? = some (.int w)) (k1 : (i3 < (4 : Int32)) → rs = (1 : Int32)) (k2 : ¬ (i3 < (4 : Int32)) → (w = s3_) → rs = (1 : Int32)) (k3 : ¬ (i3 < (4 : Int32)) → ¬ (w = s3_) → rs = (0 : Int32)) {target : State}
    (kt : Steps p.tables e below (T0.setTop (mkF m 370 #[z0, z1, z2, .val (.int i3), .val (.int t0), .val (.int t1), .val (.int t2), .val (.int t3), .val (.int s0_), .val (.int s1_), .val (.int s2_), .val (.int s3_), z12, .val (.ref o13), z14] [(.int rs)])) target) : Steps p.tables e below (T0.setTop (mkF m 351 #[z0, z1, z2, .val (.int i3), .val (.int t0), .val (.int t1), .val (.int t2), .val (.int t3), .val (.int s0_), .val (.int s1_), .val (.int s2_), .val (.int s3_), z12, .val (.ref o13), z14] [])) target := by
  show Steps p.tables e below (T0.setTop (mkF m 351 #[z0, z1, z2, .val (.int i3), .val (.int t0), .val (.int t1), .val (.int t2), .val (.int t3), .val (.int s0_), .val (.int s1_), .val (.int s2_), .val (.int s3_), z12, .val (.ref o13), z14] [])) _
  refine XS.iloadN X0.here hx rfl (hb hby at_351) rfl ?_
  show Steps p.tables e below (T0.setTop (mkF m 352 #[z0, z1, z2, .val (.int i3), .val (.int t0), .val (.int t1), .val (.int t2), .val (.int t3), .val (.int s0_), .val (.int s1_), .val (.int s2_), .val (.int s3_), z12, .val (.ref o13), z14] [(.int i3)])) _
  refine XS.iconst X0.here hx rfl (hb hby at_352) ?_
  show Steps p.tables e below (T0.setTop (mkF m 353 #[z0, z1, z2, .val (.int i3), .val (.int t0), .val (.int t1), .val (.int t2), .val (.int t3), .val (.int s0_), .val (.int s1_), .val (.int s2_), .val (.int s3_), z12, .val (.ref o13), z14] [(.int (4 : Int32)), (.int i3)])) _
  by_cases hc353 : i3 < (4 : Int32)
  · refine XS.icmpYes X0.here hx rfl (pc0 := 353) (pc' := 365) rfl (hb hby at_353) rfl (tlt hc353).1 (by decide) (by decide) ?_
    show Steps p.tables e below (T0.setTop (mkF m 365 #[z0, z1, z2, .val (.int i3), .val (.int t0), .val (.int t1), .val (.int t2), .val (.int t3), .val (.int s0_), .val (.int s1_), .val (.int s2_), .val (.int s3_), z12, .val (.ref o13), z14] [])) _
    refine XS.iconst X0.here hx rfl (hb hby at_365) ?_
    show Steps p.tables e below (T0.setTop (mkF m 366 #[z0, z1, z2, .val (.int i3), .val (.int t0), .val (.int t1), .val (.int t2), .val (.int t3), .val (.int s0_), .val (.int s1_), .val (.int s2_), .val (.int s3_), z12, .val (.ref o13), z14] [(.int (1 : Int32))])) _
    refine XS.goto X0.here hx rfl (pc0 := 366) (pc' := 370) rfl (hb hby at_366) (by decide) (by decide) ?_
    rw [k1 hc353] at kt
    exact kt
  · refine XS.icmpNo X0.here hx rfl (hb hby at_353) rfl (flt hc353).1 ?_
    show Steps p.tables e below (T0.setTop (mkF m 356 #[z0, z1, z2, .val (.int i3), .val (.int t0), .val (.int t1), .val (.int t2), .val (.int t3), .val (.int s0_), .val (.int s1_), .val (.int s2_), .val (.int s3_), z12, .val (.ref o13), z14] [])) _
    refine XS.aload X0.here hx rfl (hb hby at_356) rfl rfl ?_
    show Steps p.tables e below (T0.setTop (mkF m 358 #[z0, z1, z2, .val (.int i3), .val (.int t0), .val (.int t1), .val (.int t2), .val (.int t3), .val (.int s0_), .val (.int s1_), .val (.int s2_), .val (.int s3_), z12, .val (.ref o13), z14] [(.ref o13)])) _
    refine XS.iconst X0.here hx rfl (hb hby at_358) ?_
    show Steps p.tables e below (T0.setTop (mkF m 359 #[z0, z1, z2, .val (.int i3), .val (.int t0), .val (.int t1), .val (.int t2), .val (.int t3), .val (.int s0_), .val (.int s1_), .val (.int s2_), .val (.int s3_), z12, .val (.ref o13), z14] [(.int (3 : Int32)), (.ref o13)])) _
    refine X0.baloadBytes hx (j := (3 : Int32)) (v := (.int w)) (by rw [e0]; exact Ar.1) (State.isArrayOf_alike hZ.alike Ar.2.1) Ar.2.2 (hin hc353) (hat hc353) (g := (mkF m 359 #[z0, z1, z2, .val (.int i3), .val (.int t0), .val (.int t1), .val (.int t2), .val (.int t3), .val (.int s0_), .val (.int s1_), .val (.int s2_), .val (.int s3_), z12, .val (.ref o13), z14] [(.int (3 : Int32)), (.ref o13)])) rfl rfl (hb hby at_359) _ ?_
    show Steps p.tables e below (T0.setTop (mkF m 360 #[z0, z1, z2, .val (.int i3), .val (.int t0), .val (.int t1), .val (.int t2), .val (.int t3), .val (.int s0_), .val (.int s1_), .val (.int s2_), .val (.int s3_), z12, .val (.ref o13), z14] [(.int w)])) _
    refine XS.iload X0.here hx rfl (hb hby at_360) rfl ?_
    show Steps p.tables e below (T0.setTop (mkF m 362 #[z0, z1, z2, .val (.int i3), .val (.int t0), .val (.int t1), .val (.int t2), .val (.int t3), .val (.int s0_), .val (.int s1_), .val (.int s2_), .val (.int s3_), z12, .val (.ref o13), z14] [(.int s3_), (.int w)])) _
    by_cases hc362 : w = s3_
    · refine XS.icmpNo X0.here hx rfl (hb hby at_362) rfl (teq hc362).2 ?_
      show Steps p.tables e below (T0.setTop (mkF m 365 #[z0, z1, z2, .val (.int i3), .val (.int t0), .val (.int t1), .val (.int t2), .val (.int t3), .val (.int s0_), .val (.int s1_), .val (.int s2_), .val (.int s3_), z12, .val (.ref o13), z14] [])) _
      refine XS.iconst X0.here hx rfl (hb hby at_365) ?_
      show Steps p.tables e below (T0.setTop (mkF m 366 #[z0, z1, z2, .val (.int i3), .val (.int t0), .val (.int t1), .val (.int t2), .val (.int t3), .val (.int s0_), .val (.int s1_), .val (.int s2_), .val (.int s3_), z12, .val (.ref o13), z14] [(.int (1 : Int32))])) _
      refine XS.goto X0.here hx rfl (pc0 := 366) (pc' := 370) rfl (hb hby at_366) (by decide) (by decide) ?_
      rw [k2 hc353 hc362] at kt
      exact kt
    · refine XS.icmpYes X0.here hx rfl (pc0 := 362) (pc' := 369) rfl (hb hby at_362) rfl (feq hc362).2 (by decide) (by decide) ?_
      show Steps p.tables e below (T0.setTop (mkF m 369 #[z0, z1, z2, .val (.int i3), .val (.int t0), .val (.int t1), .val (.int t2), .val (.int t3), .val (.int s0_), .val (.int s1_), .val (.int s2_), .val (.int s3_), z12, .val (.ref o13), z14] [])) _
      refine XS.iconst X0.here hx rfl (hb hby at_369) ?_
      rw [k3 hc353 hc362] at kt
      exact kt
theorem pn_0 : plainName "com/example/fountainwire/fountainwire/codec/OctetsAddPinLaw" = true := by first | (simp [plainName, overriddenIn]; done) | decide +kernel
theorem ef_0 (m : MethodId) (p1 : Int32) (p2 : Int32) (p3 : Int32) : entryFrame m #[(.int p1), (.int p2), (.int p3)] maxLocals = mkF m 0 #[.val (.int p1), .val (.int p2), .val (.int p3), .unset, .unset, .unset, .unset, .unset, .unset, .unset, .unset, .unset, .unset, .unset, .unset] [] := by first | (simp [entryFrame, mkF, argsToLocals, Value.category, maxLocals]; done) | rfl
theorem pd_0_0 : parseMethodDescriptor "(IBBBB)[B" = some ⟨[.int, .byte, .byte, .byte, .byte], some (.array .byte)⟩ := by decide +kernel
theorem pd_0_1 : parseMethodDescriptor "([B[B)V" = some ⟨[(.array .byte), (.array .byte)], none⟩ := by decide +kernel
theorem pd_0_2 : parseMethodDescriptor "(BBZ)B" = some ⟨[.byte, .byte, .boolean], some .byte⟩ := by decide +kernel
def Q0 (h0 : Heap) (n0 : Nat) (v : Option Value) (h : Heap) (L : List Loc) : Prop := v = some (.int (1 : Int32)) ∧ Fr n0 L
set_option maxRecDepth 65536 in
set_option maxHeartbeats 40000000 in
theorem rm0 (l : Launch) (Z : State) (a0 : Array Value) (hw : ∀ d ∈ tables_1, d.before a0 Z = true) (ws : List Jvm.Cond) (p1 : Int32) (p2 : Int32) (p3 : Int32) (h0 : Heap) (n0 : Nat) (Z0 : n0 ≤ h0.size) :
    MetFree l x (head1 (Jvm.Cond.code x code maxLocals ret :: ws) room_1) (fun a U => a = #[(.int p1), (.int p2), (.int p3)] ∧ Z.Warmed39 U.vm ∧ U.heap = h0) (fun _ _ _ _ _ => True) (fun _ U o U' => ∃ v L, o = .returned v ∧ Q0 h0 n0 v U'.heap L ∧ FrameEnd U o U' L room_1.cells room_1.slots) := by
  refine MetFree.of_bodySF (plainFor_of_name pn_0) hisR ?_
  intro p e s m args below meth c s₁ Bd hml0 hP hK
  obtain ⟨rfl, hZ, hh⟩ := hP
  have hx := Bd.exec
  have hby := Bd.bytes
  have hml : c.maxLocals = 15 := hml0
  have hown : s.vm.findClass "com/example/fountainwire/fountainwire/codec/OctetsAddPinLaw" = some m.cls := findClass_of_methodNamed Bd.named
  have hnm := (name_of_methodNamed Bd.named Bd.method).1
  have X0 : Stand p l e room_1 s m #[(.int p1), (.int p2), (.int p3)] below meth c s₁ [] 0 0 := Stand.of_body Bd
  have e0 : s₁.heap = h0 := by rw [← hh, Bd.state]; rfl
  have N0 := Fr.nil n0
  have pre0 : ∀ t, Steps p.tables e below (s₁.setTop (mkF m 0 #[.val (.int p1), .val (.int p2), .val (.int p3), .unset, .unset, .unset, .unset, .unset, .unset, .unset, .unset, .unset, .unset, .unset, .unset] [])) t → Steps p.tables e below (s₁.setTop (entryFrame m #[(.int p1), (.int p2), (.int p3)] maxLocals)) t := fun t k => castTop (ef_0 m p1 p2 p3) k
  obtain ⟨nn, hnn, enn⟩ := own_rem p3 5 (by decide) (by decide)
  obtain ⟨t0, ht0⟩ : ∃ z, z = (p1.toInt8.toInt32) := ⟨_, rfl⟩
  obtain ⟨s0_, hs0⟩ : ∃ z, z = (p2.toInt8.toInt32) := ⟨_, rfl⟩
  obtain ⟨t1, ht1⟩ : ∃ z, z = (((p1.toUInt32 >>> ((8 : Int32) &&& 31).toUInt32).toInt32).toInt8.toInt32) := ⟨_, rfl⟩
  obtain ⟨s1_, hs1⟩ : ∃ z, z = (((p2.toUInt32 >>> ((8 : Int32) &&& 31).toUInt32).toInt32).toInt8.toInt32) := ⟨_, rfl⟩
  obtain ⟨t2, ht2⟩ : ∃ z, z = (((p1.toUInt32 >>> ((16 : Int32) &&& 31).toUInt32).toInt32).toInt8.toInt32) := ⟨_, rfl⟩
  obtain ⟨s2_, hs2⟩ : ∃ z, z = (((p2.toUInt32 >>> ((16 : Int32) &&& 31).toUInt32).toInt32).toInt8.toInt32) := ⟨_, rfl⟩
  obtain ⟨t3, ht3⟩ : ∃ z, z = (((p1.toUInt32 >>> ((24 : Int32) &&& 31).toUInt32).toInt32).toInt8.toInt32) := ⟨_, rfl⟩
  obtain ⟨s3_, hs3⟩ : ∃ z, z = (((p2.toUInt32 >>> ((24 : Int32) &&& 31).toUInt32).toInt32).toInt8.toInt32) := ⟨_, rfl⟩
  obtain ⟨T1, h1, k1, X1, e1, E1, A1, st1⟩ := newP X0 hx hZ (hw _ (List.mem_of_getElem? (i := 1) rfl)) e0 (g := (mkF m 58 #[.val (.int p1), .val (.int p2), .val (.int p3), .val (.int (Int32.ofNat nn)), .val (.int t0), .val (.int t1), .val (.int t2), .val (.int t3), .val (.int s0_), .val (.int s1_), .val (.int s2_), .val (.int s3_), .unset, .unset, .unset] [(.int (4 : Int32))])) rfl (hb hby at_58) rfl (by decide) (cap := 4) (by decide) (by decide) (by decide) (by decide)
  obtain ⟨b1, g1⟩ : ∃ z, z = h0.size := ⟨_, rfl⟩
  rw [← g1] at A1 st1
  have g_b1 : n0 ≤ b1 := Nat.le_trans Z0 (Nat.le_of_eq g1.symm)
  have V1 : Arv Z h1 b1 k1 .byte (4 : Int32) (own_vals (fun _ => 0) 4) (.int (0 : Int32)) := (Arv.new A1 (by decide)).pad (own_pad 4)
  have Z1 : n0 ≤ h1.size := Nat.le_trans Z0 E1.1
  obtain ⟨clm2, Arm2, qm2, Sm2, Mm2, Hm2, Gm2⟩ := V1
  have hinm2 := inb_of (j := (0 : Int32)) Sm2 ⟨by decide, by decide⟩
  obtain ⟨Tm2, hm2, Xm2, em2, Wm2, stm2⟩ := stB X1 hx hZ e1 Arm2 (j := (0 : Int32)) hinm2 (g := (mkF m 64 #[.val (.int p1), .val (.int p2), .val (.int p3), .val (.int (Int32.ofNat nn)), .val (.int t0), .val (.int t1), .val (.int t2), .val (.int t3), .val (.int s0_), .val (.int s1_), .val (.int s2_), .val (.int s3_), .unset, .unset, .unset] [(.int t0), (.int (0 : Int32)), (.ref b1), (.ref b1)])) rfl rfl (hb hby at_64)
  have Nm2 := Fr.snoc Xm2 N0 g_b1
  have Vm2 := Arv.set Arm2 qm2 Sm2 Mm2 Hm2 Gm2 (fits_nar_byte _) Wm2 0 rfl (by rw [own_len]; decide)
  rw [own_set] at Vm2
  obtain ⟨clm3, Arm3, qm3, Sm3, Mm3, Hm3, Gm3⟩ := Vm2
  have hinm3 := inb_of (j := (1 : Int32)) Sm3 ⟨by decide, by decide⟩
  obtain ⟨Tm3, hm3, Xm3, em3, Wm3, stm3⟩ := stB Xm2 hx hZ em2 Arm3 (j := (1 : Int32)) hinm3 (g := (mkF m 69 #[.val (.int p1), .val (.int p2), .val (.int p3), .val (.int (Int32.ofNat nn)), .val (.int t0), .val (.int t1), .val (.int t2), .val (.int t3), .val (.int s0_), .val (.int s1_), .val (.int s2_), .val (.int s3_), .unset, .unset, .unset] [(.int t1), (.int (1 : Int32)), (.ref b1), (.ref b1)])) rfl rfl (hb hby at_69)
  have Nm3 := Fr.snoc Xm3 Nm2 g_b1
  have Vm3 := Arv.set Arm3 qm3 Sm3 Mm3 Hm3 Gm3 (fits_nar_byte _) Wm3 1 rfl (by rw [own_len]; decide)
  rw [own_set] at Vm3
  obtain ⟨clm4, Arm4, qm4, Sm4, Mm4, Hm4, Gm4⟩ := Vm3
  have hinm4 := inb_of (j := (2 : Int32)) Sm4 ⟨by decide, by decide⟩
  obtain ⟨Tm4, hm4, Xm4, em4, Wm4, stm4⟩ := stB Xm3 hx hZ em3 Arm4 (j := (2 : Int32)) hinm4 (g := (mkF m 74 #[.val (.int p1), .val (.int p2), .val (.int p3), .val (.int (Int32.ofNat nn)), .val (.int t0), .val (.int t1), .val (.int t2), .val (.int t3), .val (.int s0_), .val (.int s1_), .val (.int s2_), .val (.int s3_), .unset, .unset, .unset] [(.int t2), (.int (2 : Int32)), (.ref b1), (.ref b1)])) rfl rfl (hb hby at_74)
  have Nm4 := Fr.snoc Xm4 Nm3 g_b1
  have Vm4 := Arv.set Arm4 qm4 Sm4 Mm4 Hm4 Gm4 (fits_nar_byte _) Wm4 2 rfl (by rw [own_len]; decide)
  rw [own_set] at Vm4
  obtain ⟨clm5, Arm5, qm5, Sm5, Mm5, Hm5, Gm5⟩ := Vm4
  have hinm5 := inb_of (j := (3 : Int32)) Sm5 ⟨by decide, by decide⟩
  obtain ⟨Tm5, hm5, Xm5, em5, Wm5, stm5⟩ := stB Xm4 hx hZ em4 Arm5 (j := (3 : Int32)) hinm5 (g := (mkF m 79 #[.val (.int p1), .val (.int p2), .val (.int p3), .val (.int (Int32.ofNat nn)), .val (.int t0), .val (.int t1), .val (.int t2), .val (.int t3), .val (.int s0_), .val (.int s1_), .val (.int s2_), .val (.int s3_), .unset, .unset, .unset] [(.int t3), (.int (3 : Int32)), (.ref b1), (.ref b1)])) rfl rfl (hb hby at_79)
  have Nm5 := Fr.snoc Xm5 Nm4 g_b1
  have Vm5 := Arv.set Arm5 qm5 Sm5 Mm5 Hm5 Gm5 (fits_nar_byte _) Wm5 3 rfl (by rw [own_len]; decide)
  rw [own_set] at Vm5
  have Zm2 : n0 ≤ hm2.size := Nat.le_trans Z1 (Keep.of_wr Wm2).1
  have Zm3 : n0 ≤ hm3.size := Nat.le_trans Zm2 (Keep.of_wr Wm3).1
  have Zm4 : n0 ≤ hm4.size := Nat.le_trans Zm3 (Keep.of_wr Wm4).1
  have Zm5 : n0 ≤ hm5.size := Nat.le_trans Zm4 (Keep.of_wr Wm5).1
  have VT : Arv Z hm5 b1 k1 .byte (4 : Int32) (own_vals (own_src t0 t1 t2 t3) 4) (.int (0 : Int32)) := Vm5
  obtain ⟨_, _, ⟨T20, L20, k20, n20⟩, -, X20, ⟨Lc20, hQ20, l20, y20, z20⟩, st20⟩ := Jvm.LawKit.callS Xm5 hx (y := (⟨"com/example/fountainwire/fountainwire/codec/OctetsAddPinLaw", "makeSource", "(IBBBB)[B"⟩ : MethodName)) hown (mvT hZ (hw _ (List.mem_of_getElem? (i := 2) rfl))) (mvT hZ (hw _ (List.mem_of_getElem? (i := 3) rfl))) (mvT hZ (hw _ (List.mem_of_getElem? (i := 4) rfl))) (mvT hZ (hw _ (List.mem_of_getElem? (i := 5) rfl))) (by decide) (backOf (W := 0) (rm1 l Z a0 hw [] nn hnn s0_ s1_ s2_ s3_ hm5 n0 Zm5) hZ (hw _ (List.mem_of_getElem? (i := 5) rfl)) (hw _ (List.mem_of_getElem? (i := 4) rfl)) (by decide) (by decide)) (g := (mkF m 91 #[.val (.int p1), .val (.int p2), .val (.int p3), .val (.int (Int32.ofNat nn)), .val (.int t0), .val (.int t1), .val (.int t2), .val (.int t3), .val (.int s0_), .val (.int s1_), .val (.int s2_), .val (.int s3_), .val (.ref b1), .unset, .unset] [(.int s3_), (.int s2_), (.int s1_), (.int s0_), (.int (Int32.ofNat nn))])) rfl (by rw [hml]; rfl) (argsL := [(.int (Int32.ofNat nn)), (.int s0_), (.int s1_), (.int s2_), (.int s3_)]) (rest := []) (lenOf pd_0_0 rfl) rfl (by show 2 * 0 + _ ≤ _; exact Nat.le_of_eq rfl) (hb hby at_91) (fun _ _ => ⟨rfl, em5, (by decide : 1 + 1 ≤ _), (by decide : 4 + 4 ≤ _)⟩)
  dsimp only [Pt.U, Pt.locs, Pt.cells, Pt.slots] at X20 l20 y20 z20 st20 hQ20
  subst l20 y20 z20
  obtain ⟨bs, ks, rfl, N20q, E20, g20, VS⟩ := hQ20
  have N20 := Fr.app Nm5 N20q
  have VT2 := VT.ext E20
  have hne : bs ≠ b1 := Ne.symm (Nat.ne_of_lt (Nat.lt_of_lt_of_le VT.lt g20))
  have Z20 : n0 ≤ T20.heap.size := Nat.le_trans Zm5 E20.1
  obtain ⟨_, _, ⟨T21, L21, k21, n21⟩, -, X21, ⟨Lc21, hQ21, l21, y21, z21⟩, st21⟩ := Jvm.LawKit.callS X20 hx (y := (⟨"com/example/fountainwire/fountainwire/codec/Octets", "add", "([B[B)V"⟩ : MethodName)) hown (mvT hZ (hw _ (List.mem_of_getElem? (i := 6) rfl))) (mvT hZ (hw _ (List.mem_of_getElem? (i := 7) rfl))) (mvT hZ (hw _ (List.mem_of_getElem? (i := 8) rfl))) (mvT hZ (hw _ (List.mem_of_getElem? (i := 9) rfl))) (by decide) (backOf (W := 0) (rm2 l Z a0 hw [] b1 bs k1 ks (own_src t0 t1 t2 t3) (own_src s0_ s1_ s2_ s3_) nn T20.heap n0 Z20 (by omega) g_b1 hne VT2 VS) hZ (hw _ (List.mem_of_getElem? (i := 9) rfl)) (hw _ (List.mem_of_getElem? (i := 8) rfl)) (by decide) (by decide)) (g := (mkF m 100 #[.val (.int p1), .val (.int p2), .val (.int p3), .val (.int (Int32.ofNat nn)), .val (.int t0), .val (.int t1), .val (.int t2), .val (.int t3), .val (.int s0_), .val (.int s1_), .val (.int s2_), .val (.int s3_), .val (.ref b1), .val (.ref bs), .unset] [(.ref bs), (.ref b1)])) rfl (by rw [hml]; rfl) (argsL := [(.ref b1), (.ref bs)]) (rest := []) (lenOf pd_0_1 rfl) rfl (by show 2 * 0 + _ ≤ _; exact Nat.le_of_eq rfl) (hb hby at_100) (fun _ _ => ⟨rfl, rfl, (by decide : 2 + 0 ≤ _), (by decide : 8 + 0 ≤ _)⟩)
  dsimp only [Pt.U, Pt.locs, Pt.cells, Pt.slots] at X21 l21 y21 z21 st21 hQ21
  subst l21 y21 z21
  obtain ⟨rfl, N21q, K21, VT3⟩ := hQ21
  have N21 := Fr.app N20 N21q
  have VS3 := VS.keep K21 (ninS hne nin0)
  obtain ⟨clT, ArT, qT, ST, MT, HT, GT⟩ := VT3
  obtain ⟨clS, ArS, qS, SS, MS, HS, GS⟩ := VS3
  have zS : clS.slots.size = nn := by rw [SS, own_n32 (by omega)]
  have Z21 : n0 ≤ T21.heap.size := Nat.le_trans Z20 K21.1
  have hatT : ∀ j, j < 4 → clT.slots[j]? = some (.int (own_add (own_src t0 t1 t2 t3) (own_src s0_ s1_ s2_ s3_) nn j)) := fun j hj => by
    have q := HT j (by rw [ST]; exact hj)
    rw [own_at _ hj] at q
    exact q
  have hatS : ∀ j, j < nn → clS.slots[j]? = some (.int (own_src s0_ s1_ s2_ s3_ j)) := fun j hj => by
    have q := HS j (by rw [zS]; exact hj)
    rw [own_at _ hj] at q
    exact q
  obtain ⟨_, _, ⟨T30, L30, k30, n30⟩, -, X30, ⟨Lc30, hQ30, l30, y30, z30⟩, st30⟩ := Jvm.LawKit.callS X21 hx (y := (⟨"com/example/fountainwire/fountainwire/codec/OctetsAddPinLaw", "expect", "(BBZ)B"⟩ : MethodName)) hown (mvT hZ (hw _ (List.mem_of_getElem? (i := 10) rfl))) (mvT hZ (hw _ (List.mem_of_getElem? (i := 11) rfl))) (mvT hZ (hw _ (List.mem_of_getElem? (i := 4) rfl))) (mvT hZ (hw _ (List.mem_of_getElem? (i := 12) rfl))) (by decide) (backOf (W := 1) (rm3 l Z a0 hw [] t0 s0_ (own_b 0 nn) (own_add (own_src t0 t1 t2 t3) (own_src s0_ s1_ s2_ s3_) nn 0) T21.heap n0 Z21 (own_e0 _ _ _ s0_ (j := 0) rfl) (own_e1 _ _ _ _ (j := 0) rfl rfl)) hZ (hw _ (List.mem_of_getElem? (i := 12) rfl)) (hw _ (List.mem_of_getElem? (i := 4) rfl)) (by decide) (by decide)) (g := (mkF m 147 #[.val (.int p1), .val (.int p2), .val (.int p3), .val (.int (Int32.ofNat nn)), .val (.int t0), .val (.int t1), .val (.int t2), .val (.int t3), .val (.int s0_), .val (.int s1_), .val (.int s2_), .val (.int s3_), .val (.ref b1), .val (.ref bs), .val (.int (1 : Int32))] [(.int (own_b 0 nn)), (.int s0_), (.int t0), (.int (own_add (own_src t0 t1 t2 t3) (own_src s0_ s1_ s2_ s3_) nn 0))])) rfl (by rw [hml]; rfl) (argsL := [(.int t0), (.int s0_), (.int (own_b 0 nn))]) (rest := [(.int (own_add (own_src t0 t1 t2 t3) (own_src s0_ s1_ s2_ s3_) nn 0))]) (lenOf pd_0_2 rfl) rfl (by show 2 * 0 + _ ≤ _; exact Nat.le_of_eq rfl) (hb hby at_147) (fun _ _ => ⟨rfl, rfl, (by decide : 2 + 0 ≤ _), (by decide : 8 + 0 ≤ _)⟩)
  dsimp only [Pt.U, Pt.locs, Pt.cells, Pt.slots] at X30 l30 y30 z30 st30 hQ30
  subst l30 y30 z30
  obtain ⟨rfl, N30q, e30⟩ := hQ30
  have N30 := Fr.app N21 N30q
  obtain ⟨_, _, ⟨T31, L31, k31, n31⟩, -, X31, ⟨Lc31, hQ31, l31, y31, z31⟩, st31⟩ := Jvm.LawKit.callS X30 hx (y := (⟨"com/example/fountainwire/fountainwire/codec/OctetsAddPinLaw", "expect", "(BBZ)B"⟩ : MethodName)) hown (mvT hZ (hw _ (List.mem_of_getElem? (i := 10) rfl))) (mvT hZ (hw _ (List.mem_of_getElem? (i := 11) rfl))) (mvT hZ (hw _ (List.mem_of_getElem? (i := 4) rfl))) (mvT hZ (hw _ (List.mem_of_getElem? (i := 12) rfl))) (by decide) (backOf (W := 1) (rm3 l Z a0 hw [] t1 s1_ (own_b 1 nn) (own_add (own_src t0 t1 t2 t3) (own_src s0_ s1_ s2_ s3_) nn 1) T21.heap n0 Z21 (own_e0 _ _ _ s1_ (j := 1) rfl) (own_e1 _ _ _ _ (j := 1) rfl rfl)) hZ (hw _ (List.mem_of_getElem? (i := 12) rfl)) (hw _ (List.mem_of_getElem? (i := 4) rfl)) (by decide) (by decide)) (g := (mkF m 183 #[.val (.int p1), .val (.int p2), .val (.int p3), .val (.int (Int32.ofNat nn)), .val (.int t0), .val (.int t1), .val (.int t2), .val (.int t3), .val (.int s0_), .val (.int s1_), .val (.int s2_), .val (.int s3_), .val (.ref b1), .val (.ref bs), .val (.int (1 : Int32))] [(.int (own_b 1 nn)), (.int s1_), (.int t1), (.int (own_add (own_src t0 t1 t2 t3) (own_src s0_ s1_ s2_ s3_) nn 1))])) rfl (by rw [hml]; rfl) (argsL := [(.int t1), (.int s1_), (.int (own_b 1 nn))]) (rest := [(.int (own_add (own_src t0 t1 t2 t3) (own_src s0_ s1_ s2_ s3_) nn 1))]) (lenOf pd_0_2 rfl) rfl (by show 2 * 0 + _ ≤ _; exact Nat.le_of_eq rfl) (hb hby at_183) (fun _ _ => ⟨rfl, e30, (by decide : 2 + 0 ≤ _), (by decide : 8 + 0 ≤ _)⟩)
  dsimp only [Pt.U, Pt.locs, Pt.cells, Pt.slots] at X31 l31 y31 z31 st31 hQ31
  subst l31 y31 z31
  obtain ⟨rfl, N31q, e31⟩ := hQ31
  have N31 := Fr.app N30 N31q
  obtain ⟨_, _, ⟨T32, L32, k32, n32⟩, -, X32, ⟨Lc32, hQ32, l32, y32, z32⟩, st32⟩ := Jvm.LawKit.callS X31 hx (y := (⟨"com/example/fountainwire/fountainwire/codec/OctetsAddPinLaw", "expect", "(BBZ)B"⟩ : MethodName)) hown (mvT hZ (hw _ (List.mem_of_getElem? (i := 10) rfl))) (mvT hZ (hw _ (List.mem_of_getElem? (i := 11) rfl))) (mvT hZ (hw _ (List.mem_of_getElem? (i := 4) rfl))) (mvT hZ (hw _ (List.mem_of_getElem? (i := 12) rfl))) (by decide) (backOf (W := 1) (rm3 l Z a0 hw [] t2 s2_ (own_b 2 nn) (own_add (own_src t0 t1 t2 t3) (own_src s0_ s1_ s2_ s3_) nn 2) T21.heap n0 Z21 (own_e0 _ _ _ s2_ (j := 2) rfl) (own_e1 _ _ _ _ (j := 2) rfl rfl)) hZ (hw _ (List.mem_of_getElem? (i := 12) rfl)) (hw _ (List.mem_of_getElem? (i := 4) rfl)) (by decide) (by decide)) (g := (mkF m 219 #[.val (.int p1), .val (.int p2), .val (.int p3), .val (.int (Int32.ofNat nn)), .val (.int t0), .val (.int t1), .val (.int t2), .val (.int t3), .val (.int s0_), .val (.int s1_), .val (.int s2_), .val (.int s3_), .val (.ref b1), .val (.ref bs), .val (.int (1 : Int32))] [(.int (own_b 2 nn)), (.int s2_), (.int t2), (.int (own_add (own_src t0 t1 t2 t3) (own_src s0_ s1_ s2_ s3_) nn 2))])) rfl (by rw [hml]; rfl) (argsL := [(.int t2), (.int s2_), (.int (own_b 2 nn))]) (rest := [(.int (own_add (own_src t0 t1 t2 t3) (own_src s0_ s1_ s2_ s3_) nn 2))]) (lenOf pd_0_2 rfl) rfl (by show 2 * 0 + _ ≤ _; exact Nat.le_of_eq rfl) (hb hby at_219) (fun _ _ => ⟨rfl, e31, (by decide : 2 + 0 ≤ _), (by decide : 8 + 0 ≤ _)⟩)
  dsimp only [Pt.U, Pt.locs, Pt.cells, Pt.slots] at X32 l32 y32 z32 st32 hQ32
  subst l32 y32 z32
  obtain ⟨rfl, N32q, e32⟩ := hQ32
  have N32 := Fr.app N31 N32q
  obtain ⟨_, _, ⟨T33, L33, k33, n33⟩, -, X33, ⟨Lc33, hQ33, l33, y33, z33⟩, st33⟩ := Jvm.LawKit.callS X32 hx (y := (⟨"com/example/fountainwire/fountainwire/codec/OctetsAddPinLaw", "expect", "(BBZ)B"⟩ : MethodName)) hown (mvT hZ (hw _ (List.mem_of_getElem? (i := 10) rfl))) (mvT hZ (hw _ (List.mem_of_getElem? (i := 11) rfl))) (mvT hZ (hw _ (List.mem_of_getElem? (i := 4) rfl))) (mvT hZ (hw _ (List.mem_of_getElem? (i := 12) rfl))) (by decide) (backOf (W := 1) (rm3 l Z a0 hw [] t3 s3_ (own_b 3 nn) (own_add (own_src t0 t1 t2 t3) (own_src s0_ s1_ s2_ s3_) nn 3) T21.heap n0 Z21 (own_e0 _ _ _ s3_ (j := 3) rfl) (own_e1 _ _ _ _ (j := 3) rfl rfl)) hZ (hw _ (List.mem_of_getElem? (i := 12) rfl)) (hw _ (List.mem_of_getElem? (i := 4) rfl)) (by decide) (by decide)) (g := (mkF m 255 #[.val (.int p1), .val (.int p2), .val (.int p3), .val (.int (Int32.ofNat nn)), .val (.int t0), .val (.int t1), .val (.int t2), .val (.int t3), .val (.int s0_), .val (.int s1_), .val (.int s2_), .val (.int s3_), .val (.ref b1), .val (.ref bs), .val (.int (1 : Int32))] [(.int (own_b 3 nn)), (.int s3_), (.int t3), (.int (own_add (own_src t0 t1 t2 t3) (own_src s0_ s1_ s2_ s3_) nn 3))])) rfl (by rw [hml]; rfl) (argsL := [(.int t3), (.int s3_), (.int (own_b 3 nn))]) (rest := [(.int (own_add (own_src t0 t1 t2 t3) (own_src s0_ s1_ s2_ s3_) nn 3))]) (lenOf pd_0_2 rfl) rfl (by show 2 * 0 + _ ≤ _; exact Nat.le_of_eq rfl) (hb hby at_255) (fun _ _ => ⟨rfl, e32, (by decide : 2 + 0 ≤ _), (by decide : 8 + 0 ≤ _)⟩)
  dsimp only [Pt.U, Pt.locs, Pt.cells, Pt.slots] at X33 l33 y33 z33 st33 hQ33
  subst l33 y33 z33
  obtain ⟨rfl, N33q, e33⟩ := hQ33
  have N33 := Fr.app N32 N33q
  obtain ⟨fs, hr, hrun, hended, hW, hsame⟩ := X33.leave (v := some (.int (1 : Int32))) (fun h => by rw [Bd.returns] at h; cases h)
  refine ⟨_, _, pre0 _ ?_, hrun, hended, _, _, rfl, ?_, ⟨_, rfl⟩, hW, hsame.mono (by decide) (by decide)⟩
  · show Steps p.tables e below (s₁.setTop (mkF m 0 #[.val (.int p1), .val (.int p2), .val (.int p3), .unset, .unset, .unset, .unset, .unset, .unset, .unset, .unset, .unset, .unset, .unset, .unset] [])) _
    refine segK (p1 := p1) (p2 := p2) (p3 := p3) (r3 := (Int32.ofNat nn)) (t0 := t0) (t1 := t1) (t2 := t2) (t3 := t3) (s0_ := s0_) (s1_ := s1_) (s2_ := s2_) (s3_ := s3_) X0 hx hZ hw hby hml hown e0 enn.symm ht0 ht1 ht2 ht3 hs0 hs1 hs2 hs3 ?_
    show Steps p.tables e below (s₁.setTop (mkF m 57 #[.val (.int p1), .val (.int p2), .val (.int p3), .val (.int (Int32.ofNat nn)), .val (.int t0), .val (.int t1), .val (.int t2), .val (.int t3), .val (.int s0_), .val (.int s1_), .val (.int s2_), .val (.int s3_), .unset, .unset, .unset] [])) _
    refine XS.iconst X0.here hx rfl (hb hby at_57) ?_
    show Steps p.tables e below (s₁.setTop (mkF m 58 #[.val (.int p1), .val (.int p2), .val (.int p3), .val (.int (Int32.ofNat nn)), .val (.int t0), .val (.int t1), .val (.int t2), .val (.int t3), .val (.int s0_), .val (.int s1_), .val (.int s2_), .val (.int s3_), .unset, .unset, .unset] [(.int (4 : Int32))])) _
    refine st1 _ ?_
    show Steps p.tables e below (T1.setTop (mkF m 60 #[.val (.int p1), .val (.int p2), .val (.int p3), .val (.int (Int32.ofNat nn)), .val (.int t0), .val (.int t1), .val (.int t2), .val (.int t3), .val (.int s0_), .val (.int s1_), .val (.int s2_), .val (.int s3_), .unset, .unset, .unset] [(.ref b1)])) _
    refine XS.dup X1.here hx rfl (hb hby at_60) rfl rfl ?_
    show Steps p.tables e below (T1.setTop (mkF m 61 #[.val (.int p1), .val (.int p2), .val (.int p3), .val (.int (Int32.ofNat nn)), .val (.int t0), .val (.int t1), .val (.int t2), .val (.int t3), .val (.int s0_), .val (.int s1_), .val (.int s2_), .val (.int s3_), .unset, .unset, .unset] [(.ref b1), (.ref b1)])) _
    refine XS.iconst X1.here hx rfl (hb hby at_61) ?_
    show Steps p.tables e below (T1.setTop (mkF m 62 #[.val (.int p1), .val (.int p2), .val (.int p3), .val (.int (Int32.ofNat nn)), .val (.int t0), .val (.int t1), .val (.int t2), .val (.int t3), .val (.int s0_), .val (.int s1_), .val (.int s2_), .val (.int s3_), .unset, .unset, .unset] [(.int (0 : Int32)), (.ref b1), (.ref b1)])) _
    refine XS.iload X1.here hx rfl (hb hby at_62) rfl ?_
    show Steps p.tables e below (T1.setTop (mkF m 64 #[.val (.int p1), .val (.int p2), .val (.int p3), .val (.int (Int32.ofNat nn)), .val (.int t0), .val (.int t1), .val (.int t2), .val (.int t3), .val (.int s0_), .val (.int s1_), .val (.int s2_), .val (.int s3_), .unset, .unset, .unset] [(.int t0), (.int (0 : Int32)), (.ref b1), (.ref b1)])) _
    refine stm2 _ ?_
    show Steps p.tables e below (Tm2.setTop (mkF m 65 #[.val (.int p1), .val (.int p2), .val (.int p3), .val (.int (Int32.ofNat nn)), .val (.int t0), .val (.int t1), .val (.int t2), .val (.int t3), .val (.int s0_), .val (.int s1_), .val (.int s2_), .val (.int s3_), .unset, .unset, .unset] [(.ref b1)])) _
    refine XS.dup Xm2.here hx rfl (hb hby at_65) rfl rfl ?_
    show Steps p.tables e below (Tm2.setTop (mkF m 66 #[.val (.int p1), .val (.int p2), .val (.int p3), .val (.int (Int32.ofNat nn)), .val (.int t0), .val (.int t1), .val (.int t2), .val (.int t3), .val (.int s0_), .val (.int s1_), .val (.int s2_), .val (.int s3_), .unset, .unset, .unset] [(.ref b1), (.ref b1)])) _
    refine XS.iconst Xm2.here hx rfl (hb hby at_66) ?_
    show Steps p.tables e below (Tm2.setTop (mkF m 67 #[.val (.int p1), .val (.int p2), .val (.int p3), .val (.int (Int32.ofNat nn)), .val (.int t0), .val (.int t1), .val (.int t2), .val (.int t3), .val (.int s0_), .val (.int s1_), .val (.int s2_), .val (.int s3_), .unset, .unset, .unset] [(.int (1 : Int32)), (.ref b1), (.ref b1)])) _
    refine XS.iload Xm2.here hx rfl (hb hby at_67) rfl ?_
    show Steps p.tables e below (Tm2.setTop (mkF m 69 #[.val (.int p1), .val (.int p2), .val (.int p3), .val (.int (Int32.ofNat nn)), .val (.int t0), .val (.int t1), .val (.int t2), .val (.int t3), .val (.int s0_), .val (.int s1_), .val (.int s2_), .val (.int s3_), .unset, .unset, .unset] [(.int t1), (.int (1 : Int32)), (.ref b1), (.ref b1)])) _
    refine stm3 _ ?_
    show Steps p.tables e below (Tm3.setTop (mkF m 70 #[.val (.int p1), .val (.int p2), .val (.int p3), .val (.int (Int32.ofNat nn)), .val (.int t0), .val (.int t1), .val (.int t2), .val (.int t3), .val (.int s0_), .val (.int s1_), .val (.int s2_), .val (.int s3_), .unset, .unset, .unset] [(.ref b1)])) _
    refine XS.dup Xm3.here hx rfl (hb hby at_70) rfl rfl ?_
    show Steps p.tables e below (Tm3.setTop (mkF m 71 #[.val (.int p1), .val (.int p2), .val (.int p3), .val (.int (Int32.ofNat nn)), .val (.int t0), .val (.int t1), .val (.int t2), .val (.int t3), .val (.int s0_), .val (.int s1_), .val (.int s2_), .val (.int s3_), .unset, .unset, .unset] [(.ref b1), (.ref b1)])) _
    refine XS.iconst Xm3.here hx rfl (hb hby at_71) ?_
    show Steps p.tables e below (Tm3.setTop (mkF m 72 #[.val (.int p1), .val (.int p2), .val (.int p3), .val (.int (Int32.ofNat nn)), .val (.int t0), .val (.int t1), .val (.int t2), .val (.int t3), .val (.int s0_), .val (.int s1_), .val (.int s2_), .val (.int s3_), .unset, .unset, .unset] [(.int (2 : Int32)), (.ref b1), (.ref b1)])) _
    refine XS.iload Xm3.here hx rfl (hb hby at_72) rfl ?_
    show Steps p.tables e below (Tm3.setTop (mkF m 74 #[.val (.int p1), .val (.int p2), .val (.int p3), .val (.int (Int32.ofNat nn)), .val (.int t0), .val (.int t1), .val (.int t2), .val (.int t3), .val (.int s0_), .val (.int s1_), .val (.int s2_), .val (.int s3_), .unset, .unset, .unset] [(.int t2), (.int (2 : Int32)), (.ref b1), (.ref b1)])) _
    refine stm4 _ ?_
    show Steps p.tables e below (Tm4.setTop (mkF m 75 #[.val (.int p1), .val (.int p2), .val (.int p3), .val (.int (Int32.ofNat nn)), .val (.int t0), .val (.int t1), .val (.int t2), .val (.int t3), .val (.int s0_), .val (.int s1_), .val (.int s2_), .val (.int s3_), .unset, .unset, .unset] [(.ref b1)])) _
    refine XS.dup Xm4.here hx rfl (hb hby at_75) rfl rfl ?_
    show Steps p.tables e below (Tm4.setTop (mkF m 76 #[.val (.int p1), .val (.int p2), .val (.int p3), .val (.int (Int32.ofNat nn)), .val (.int t0), .val (.int t1), .val (.int t2), .val (.int t3), .val (.int s0_), .val (.int s1_), .val (.int s2_), .val (.int s3_), .unset, .unset, .unset] [(.ref b1), (.ref b1)])) _
    refine XS.iconst Xm4.here hx rfl (hb hby at_76) ?_
    show Steps p.tables e below (Tm4.setTop (mkF m 77 #[.val (.int p1), .val (.int p2), .val (.int p3), .val (.int (Int32.ofNat nn)), .val (.int t0), .val (.int t1), .val (.int t2), .val (.int t3), .val (.int s0_), .val (.int s1_), .val (.int s2_), .val (.int s3_), .unset, .unset, .unset] [(.int (3 : Int32)), (.ref b1), (.ref b1)])) _
    refine XS.iload Xm4.here hx rfl (hb hby at_77) rfl ?_
    show Steps p.tables e below (Tm4.setTop (mkF m 79 #[.val (.int p1), .val (.int p2), .val (.int p3), .val (.int (Int32.ofNat nn)), .val (.int t0), .val (.int t1), .val (.int t2), .val (.int t3), .val (.int s0_), .val (.int s1_), .val (.int s2_), .val (.int s3_), .unset, .unset, .unset] [(.int t3), (.int (3 : Int32)), (.ref b1), (.ref b1)])) _
    refine stm5 _ ?_
    show Steps p.tables e below (Tm5.setTop (mkF m 80 #[.val (.int p1), .val (.int p2), .val (.int p3), .val (.int (Int32.ofNat nn)), .val (.int t0), .val (.int t1), .val (.int t2), .val (.int t3), .val (.int s0_), .val (.int s1_), .val (.int s2_), .val (.int s3_), .unset, .unset, .unset] [(.ref b1)])) _
    refine XS.astore Xm5.here hx rfl (hb hby at_80) rfl rfl (l' := #[.val (.int p1), .val (.int p2), .val (.int p3), .val (.int (Int32.ofNat nn)), .val (.int t0), .val (.int t1), .val (.int t2), .val (.int t3), .val (.int s0_), .val (.int s1_), .val (.int s2_), .val (.int s3_), .val (.ref b1), .unset, .unset]) rfl ?_
    show Steps p.tables e below (Tm5.setTop (mkF m 82 #[.val (.int p1), .val (.int p2), .val (.int p3), .val (.int (Int32.ofNat nn)), .val (.int t0), .val (.int t1), .val (.int t2), .val (.int t3), .val (.int s0_), .val (.int s1_), .val (.int s2_), .val (.int s3_), .val (.ref b1), .unset, .unset] [])) _
    refine XS.iloadN Xm5.here hx rfl (hb hby at_82) rfl ?_
    show Steps p.tables e below (Tm5.setTop (mkF m 83 #[.val (.int p1), .val (.int p2), .val (.int p3), .val (.int (Int32.ofNat nn)), .val (.int t0), .val (.int t1), .val (.int t2), .val (.int t3), .val (.int s0_), .val (.int s1_), .val (.int s2_), .val (.int s3_), .val (.ref b1), .unset, .unset] [(.int (Int32.ofNat nn))])) _
    refine XS.iload Xm5.here hx rfl (hb hby at_83) rfl ?_
    show Steps p.tables e below (Tm5.setTop (mkF m 85 #[.val (.int p1), .val (.int p2), .val (.int p3), .val (.int (Int32.ofNat nn)), .val (.int t0), .val (.int t1), .val (.int t2), .val (.int t3), .val (.int s0_), .val (.int s1_), .val (.int s2_), .val (.int s3_), .val (.ref b1), .unset, .unset] [(.int s0_), (.int (Int32.ofNat nn))])) _
    refine XS.iload Xm5.here hx rfl (hb hby at_85) rfl ?_
    show Steps p.tables e below (Tm5.setTop (mkF m 87 #[.val (.int p1), .val (.int p2), .val (.int p3), .val (.int (Int32.ofNat nn)), .val (.int t0), .val (.int t1), .val (.int t2), .val (.int t3), .val (.int s0_), .val (.int s1_), .val (.int s2_), .val (.int s3_), .val (.ref b1), .unset, .unset] [(.int s1_), (.int s0_), (.int (Int32.ofNat nn))])) _
    refine XS.iload Xm5.here hx rfl (hb hby at_87) rfl ?_
    show Steps p.tables e below (Tm5.setTop (mkF m 89 #[.val (.int p1), .val (.int p2), .val (.int p3), .val (.int (Int32.ofNat nn)), .val (.int t0), .val (.int t1), .val (.int t2), .val (.int t3), .val (.int s0_), .val (.int s1_), .val (.int s2_), .val (.int s3_), .val (.ref b1), .unset, .unset] [(.int s2_), (.int s1_), (.int s0_), (.int (Int32.ofNat nn))])) _
    refine XS.iload Xm5.here hx rfl (hb hby at_89) rfl ?_
    show Steps p.tables e below (Tm5.setTop (mkF m 91 #[.val (.int p1), .val (.int p2), .val (.int p3), .val (.int (Int32.ofNat nn)), .val (.int t0), .val (.int t1), .val (.int t2), .val (.int t3), .val (.int s0_), .val (.int s1_), .val (.int s2_), .val (.int s3_), .val (.ref b1), .unset, .unset] [(.int s3_), (.int s2_), (.int s1_), (.int s0_), (.int (Int32.ofNat nn))])) _
    refine st20 _ ?_
    show Steps p.tables e below (T20.setTop (mkF m 94 #[.val (.int p1), .val (.int p2), .val (.int p3), .val (.int (Int32.ofNat nn)), .val (.int t0), .val (.int t1), .val (.int t2), .val (.int t3), .val (.int s0_), .val (.int s1_), .val (.int s2_), .val (.int s3_), .val (.ref b1), .unset, .unset] [(.ref bs)])) _
    refine XS.astore X20.here hx rfl (hb hby at_94) rfl rfl (l' := #[.val (.int p1), .val (.int p2), .val (.int p3), .val (.int (Int32.ofNat nn)), .val (.int t0), .val (.int t1), .val (.int t2), .val (.int t3), .val (.int s0_), .val (.int s1_), .val (.int s2_), .val (.int s3_), .val (.ref b1), .val (.ref bs), .unset]) rfl ?_
    show Steps p.tables e below (T20.setTop (mkF m 96 #[.val (.int p1), .val (.int p2), .val (.int p3), .val (.int (Int32.ofNat nn)), .val (.int t0), .val (.int t1), .val (.int t2), .val (.int t3), .val (.int s0_), .val (.int s1_), .val (.int s2_), .val (.int s3_), .val (.ref b1), .val (.ref bs), .unset] [])) _
    refine XS.aload X20.here hx rfl (hb hby at_96) rfl rfl ?_
    show Steps p.tables e below (T20.setTop (mkF m 98 #[.val (.int p1), .val (.int p2), .val (.int p3), .val (.int (Int32.ofNat nn)), .val (.int t0), .val (.int t1), .val (.int t2), .val (.int t3), .val (.int s0_), .val (.int s1_), .val (.int s2_), .val (.int s3_), .val (.ref b1), .val (.ref bs), .unset] [(.ref b1)])) _
    refine XS.aload X20.here hx rfl (hb hby at_98) rfl rfl ?_
    show Steps p.tables e below (T20.setTop (mkF m 100 #[.val (.int p1), .val (.int p2), .val (.int p3), .val (.int (Int32.ofNat nn)), .val (.int t0), .val (.int t1), .val (.int t2), .val (.int t3), .val (.int s0_), .val (.int s1_), .val (.int s2_), .val (.int s3_), .val (.ref b1), .val (.ref bs), .unset] [(.ref bs), (.ref b1)])) _
    refine st21 _ ?_
    show Steps p.tables e below (T21.setTop (mkF m 103 #[.val (.int p1), .val (.int p2), .val (.int p3), .val (.int (Int32.ofNat nn)), .val (.int t0), .val (.int t1), .val (.int t2), .val (.int t3), .val (.int s0_), .val (.int s1_), .val (.int s2_), .val (.int s3_), .val (.ref b1), .val (.ref bs), .unset] [])) _
    refine XS.aload X21.here hx rfl (hb hby at_103) rfl rfl ?_
    show Steps p.tables e below (T21.setTop (mkF m 105 #[.val (.int p1), .val (.int p2), .val (.int p3), .val (.int (Int32.ofNat nn)), .val (.int t0), .val (.int t1), .val (.int t2), .val (.int t3), .val (.int s0_), .val (.int s1_), .val (.int s2_), .val (.int s3_), .val (.ref b1), .val (.ref bs), .unset] [(.ref b1)])) _
    refine X21.arraylength hx (cell := clT) ArT.1 (State.isArrayOf_alike hZ.alike ArT.2.1) (g := (mkF m 105 #[.val (.int p1), .val (.int p2), .val (.int p3), .val (.int (Int32.ofNat nn)), .val (.int t0), .val (.int t1), .val (.int t2), .val (.int t3), .val (.int s0_), .val (.int s1_), .val (.int s2_), .val (.int s3_), .val (.ref b1), .val (.ref bs), .unset] [(.ref b1)])) rfl (rest := []) rfl (hb hby at_105) _ ?_
    rw [len_of ST MT]
    show Steps p.tables e below (T21.setTop (mkF m 106 #[.val (.int p1), .val (.int p2), .val (.int p3), .val (.int (Int32.ofNat nn)), .val (.int t0), .val (.int t1), .val (.int t2), .val (.int t3), .val (.int s0_), .val (.int s1_), .val (.int s2_), .val (.int s3_), .val (.ref b1), .val (.ref bs), .unset] [(.int (4 : Int32))])) _
    refine XS.iconst X21.here hx rfl (hb hby at_106) ?_
    show Steps p.tables e below (T21.setTop (mkF m 107 #[.val (.int p1), .val (.int p2), .val (.int p3), .val (.int (Int32.ofNat nn)), .val (.int t0), .val (.int t1), .val (.int t2), .val (.int t3), .val (.int s0_), .val (.int s1_), .val (.int s2_), .val (.int s3_), .val (.ref b1), .val (.ref bs), .unset] [(.int (4 : Int32)), (.int (4 : Int32))])) _
    refine XS.icmpNo X21.here hx rfl (hb hby at_107) rfl (teq (rfl : (4 : Int32) = (4 : Int32))).2 ?_
    show Steps p.tables e below (T21.setTop (mkF m 110 #[.val (.int p1), .val (.int p2), .val (.int p3), .val (.int (Int32.ofNat nn)), .val (.int t0), .val (.int t1), .val (.int t2), .val (.int t3), .val (.int s0_), .val (.int s1_), .val (.int s2_), .val (.int s3_), .val (.ref b1), .val (.ref bs), .unset] [])) _
    refine XS.aload X21.here hx rfl (hb hby at_110) rfl rfl ?_
    show Steps p.tables e below (T21.setTop (mkF m 112 #[.val (.int p1), .val (.int p2), .val (.int p3), .val (.int (Int32.ofNat nn)), .val (.int t0), .val (.int t1), .val (.int t2), .val (.int t3), .val (.int s0_), .val (.int s1_), .val (.int s2_), .val (.int s3_), .val (.ref b1), .val (.ref bs), .unset] [(.ref bs)])) _
    refine X21.arraylength hx (cell := clS) ArS.1 (State.isArrayOf_alike hZ.alike ArS.2.1) (g := (mkF m 112 #[.val (.int p1), .val (.int p2), .val (.int p3), .val (.int (Int32.ofNat nn)), .val (.int t0), .val (.int t1), .val (.int t2), .val (.int t3), .val (.int s0_), .val (.int s1_), .val (.int s2_), .val (.int s3_), .val (.ref b1), .val (.ref bs), .unset] [(.ref bs)])) rfl (rest := []) rfl (hb hby at_112) _ ?_
    rw [len_of SS MS]
    show Steps p.tables e below (T21.setTop (mkF m 113 #[.val (.int p1), .val (.int p2), .val (.int p3), .val (.int (Int32.ofNat nn)), .val (.int t0), .val (.int t1), .val (.int t2), .val (.int t3), .val (.int s0_), .val (.int s1_), .val (.int s2_), .val (.int s3_), .val (.ref b1), .val (.ref bs), .unset] [(.int (Int32.ofNat nn))])) _
    refine XS.iloadN X21.here hx rfl (hb hby at_113) rfl ?_
    show Steps p.tables e below (T21.setTop (mkF m 114 #[.val (.int p1), .val (.int p2), .val (.int p3), .val (.int (Int32.ofNat nn)), .val (.int t0), .val (.int t1), .val (.int t2), .val (.int t3), .val (.int s0_), .val (.int s1_), .val (.int s2_), .val (.int s3_), .val (.ref b1), .val (.ref bs), .unset] [(.int (Int32.ofNat nn)), (.int (Int32.ofNat nn))])) _
    refine XS.icmpNo X21.here hx rfl (hb hby at_114) rfl (teq (rfl : (Int32.ofNat nn) = (Int32.ofNat nn))).2 ?_
    show Steps p.tables e below (T21.setTop (mkF m 117 #[.val (.int p1), .val (.int p2), .val (.int p3), .val (.int (Int32.ofNat nn)), .val (.int t0), .val (.int t1), .val (.int t2), .val (.int t3), .val (.int s0_), .val (.int s1_), .val (.int s2_), .val (.int s3_), .val (.ref b1), .val (.ref bs), .unset] [])) _
    refine XS.iconst X21.here hx rfl (hb hby at_117) ?_
    show Steps p.tables e below (T21.setTop (mkF m 118 #[.val (.int p1), .val (.int p2), .val (.int p3), .val (.int (Int32.ofNat nn)), .val (.int t0), .val (.int t1), .val (.int t2), .val (.int t3), .val (.int s0_), .val (.int s1_), .val (.int s2_), .val (.int s3_), .val (.ref b1), .val (.ref bs), .unset] [(.int (1 : Int32))])) _
    refine XS.goto X21.here hx rfl (pc0 := 118) (pc' := 122) rfl (hb hby at_118) (by decide) (by decide) ?_
    show Steps p.tables e below (T21.setTop (mkF m 122 #[.val (.int p1), .val (.int p2), .val (.int p3), .val (.int (Int32.ofNat nn)), .val (.int t0), .val (.int t1), .val (.int t2), .val (.int t3), .val (.int s0_), .val (.int s1_), .val (.int s2_), .val (.int s3_), .val (.ref b1), .val (.ref bs), .unset] [(.int (1 : Int32))])) _
    refine XS.istore X21.here hx rfl (hb hby at_122) rfl (l' := #[.val (.int p1), .val (.int p2), .val (.int p3), .val (.int (Int32.ofNat nn)), .val (.int t0), .val (.int t1), .val (.int t2), .val (.int t3), .val (.int s0_), .val (.int s1_), .val (.int s2_), .val (.int s3_), .val (.ref b1), .val (.ref bs), .val (.int (1 : Int32))]) rfl ?_
    show Steps p.tables e below (T21.setTop (mkF m 124 #[.val (.int p1), .val (.int p2), .val (.int p3), .val (.int (Int32.ofNat nn)), .val (.int t0), .val (.int t1), .val (.int t2), .val (.int t3), .val (.int s0_), .val (.int s1_), .val (.int s2_), .val (.int s3_), .val (.ref b1), .val (.ref bs), .val (.int (1 : Int32))] [])) _
    refine XS.iload X21.here hx rfl (hb hby at_124) rfl ?_
    show Steps p.tables e below (T21.setTop (mkF m 126 #[.val (.int p1), .val (.int p2), .val (.int p3), .val (.int (Int32.ofNat nn)), .val (.int t0), .val (.int t1), .val (.int t2), .val (.int t3), .val (.int s0_), .val (.int s1_), .val (.int s2_), .val (.int s3_), .val (.ref b1), .val (.ref bs), .val (.int (1 : Int32))] [(.int (1 : Int32))])) _
    refine XS.ifNo X21.here hx rfl (hb hby at_126) rfl ((if0 _ _).trans (feq (by decide : ¬ ((1 : Int32) = (0 : Int32)))).1) ?_
    show Steps p.tables e below (T21.setTop (mkF m 129 #[.val (.int p1), .val (.int p2), .val (.int p3), .val (.int (Int32.ofNat nn)), .val (.int t0), .val (.int t1), .val (.int t2), .val (.int t3), .val (.int s0_), .val (.int s1_), .val (.int s2_), .val (.int s3_), .val (.ref b1), .val (.ref bs), .val (.int (1 : Int32))] [])) _
    refine segE0 (z0 := (.val (.int p1))) (z1 := (.val (.int p2))) (z2 := (.val (.int p3))) (i3 := (Int32.ofNat nn)) (o12 := b1) (z13 := (.val (.ref bs))) (z14 := (.val (.int (1 : Int32)))) (rb := (own_b 0 nn)) (cl := clT) (w := (own_add (own_src t0 t1 t2 t3) (own_src s0_ s1_ s2_ s3_) nn 0)) (t0 := t0) (t1 := t1) (t2 := t2) (t3 := t3) (s0_ := s0_) (s1_ := s1_) (s2_ := s2_) (s3_ := s3_) X21 hx hZ hw hby hml hown rfl ArT (inb_of (j := (0 : Int32)) ST ⟨by decide, by decide⟩) (hatT 0 (by decide)) (own_b1 (j := 0) (by decide) (by omega)) (own_b0 (j := 0) (by omega)) ?_
    show Steps p.tables e below (T21.setTop (mkF m 147 #[.val (.int p1), .val (.int p2), .val (.int p3), .val (.int (Int32.ofNat nn)), .val (.int t0), .val (.int t1), .val (.int t2), .val (.int t3), .val (.int s0_), .val (.int s1_), .val (.int s2_), .val (.int s3_), .val (.ref b1), .val (.ref bs), .val (.int (1 : Int32))] [(.int (own_b 0 nn)), (.int s0_), (.int t0), (.int (own_add (own_src t0 t1 t2 t3) (own_src s0_ s1_ s2_ s3_) nn 0))])) _
    refine st30 _ ?_
    show Steps p.tables e below (T30.setTop (mkF m 150 #[.val (.int p1), .val (.int p2), .val (.int p3), .val (.int (Int32.ofNat nn)), .val (.int t0), .val (.int t1), .val (.int t2), .val (.int t3), .val (.int s0_), .val (.int s1_), .val (.int s2_), .val (.int s3_), .val (.ref b1), .val (.ref bs), .val (.int (1 : Int32))] [(.int (own_add (own_src t0 t1 t2 t3) (own_src s0_ s1_ s2_ s3_) nn 0)), (.int (own_add (own_src t0 t1 t2 t3) (own_src s0_ s1_ s2_ s3_) nn 0))])) _
    refine XS.icmpNo X30.here hx rfl (hb hby at_150) rfl (teq (rfl : (own_add (own_src t0 t1 t2 t3) (own_src s0_ s1_ s2_ s3_) nn 0) = (own_add (own_src t0 t1 t2 t3) (own_src s0_ s1_ s2_ s3_) nn 0))).2 ?_
    show Steps p.tables e below (T30.setTop (mkF m 153 #[.val (.int p1), .val (.int p2), .val (.int p3), .val (.int (Int32.ofNat nn)), .val (.int t0), .val (.int t1), .val (.int t2), .val (.int t3), .val (.int s0_), .val (.int s1_), .val (.int s2_), .val (.int s3_), .val (.ref b1), .val (.ref bs), .val (.int (1 : Int32))] [])) _
    refine XS.iconst X30.here hx rfl (hb hby at_153) ?_
    show Steps p.tables e below (T30.setTop (mkF m 154 #[.val (.int p1), .val (.int p2), .val (.int p3), .val (.int (Int32.ofNat nn)), .val (.int t0), .val (.int t1), .val (.int t2), .val (.int t3), .val (.int s0_), .val (.int s1_), .val (.int s2_), .val (.int s3_), .val (.ref b1), .val (.ref bs), .val (.int (1 : Int32))] [(.int (1 : Int32))])) _
    refine XS.goto X30.here hx rfl (pc0 := 154) (pc' := 158) rfl (hb hby at_154) (by decide) (by decide) ?_
    show Steps p.tables e below (T30.setTop (mkF m 158 #[.val (.int p1), .val (.int p2), .val (.int p3), .val (.int (Int32.ofNat nn)), .val (.int t0), .val (.int t1), .val (.int t2), .val (.int t3), .val (.int s0_), .val (.int s1_), .val (.int s2_), .val (.int s3_), .val (.ref b1), .val (.ref bs), .val (.int (1 : Int32))] [(.int (1 : Int32))])) _
    refine XS.istore X30.here hx rfl (hb hby at_158) rfl (l' := #[.val (.int p1), .val (.int p2), .val (.int p3), .val (.int (Int32.ofNat nn)), .val (.int t0), .val (.int t1), .val (.int t2), .val (.int t3), .val (.int s0_), .val (.int s1_), .val (.int s2_), .val (.int s3_), .val (.ref b1), .val (.ref bs), .val (.int (1 : Int32))]) rfl ?_
    show Steps p.tables e below (T30.setTop (mkF m 160 #[.val (.int p1), .val (.int p2), .val (.int p3), .val (.int (Int32.ofNat nn)), .val (.int t0), .val (.int t1), .val (.int t2), .val (.int t3), .val (.int s0_), .val (.int s1_), .val (.int s2_), .val (.int s3_), .val (.ref b1), .val (.ref bs), .val (.int (1 : Int32))] [])) _
    refine XS.iload X30.here hx rfl (hb hby at_160) rfl ?_
    show Steps p.tables e below (T30.setTop (mkF m 162 #[.val (.int p1), .val (.int p2), .val (.int p3), .val (.int (Int32.ofNat nn)), .val (.int t0), .val (.int t1), .val (.int t2), .val (.int t3), .val (.int s0_), .val (.int s1_), .val (.int s2_), .val (.int s3_), .val (.ref b1), .val (.ref bs), .val (.int (1 : Int32))] [(.int (1 : Int32))])) _
    refine XS.ifNo X30.here hx rfl (hb hby at_162) rfl ((if0 _ _).trans (feq (by decide : ¬ ((1 : Int32) = (0 : Int32)))).1) ?_
    show Steps p.tables e below (T30.setTop (mkF m 165 #[.val (.int p1), .val (.int p2), .val (.int p3), .val (.int (Int32.ofNat nn)), .val (.int t0), .val (.int t1), .val (.int t2), .val (.int t3), .val (.int s0_), .val (.int s1_), .val (.int s2_), .val (.int s3_), .val (.ref b1), .val (.ref bs), .val (.int (1 : Int32))] [])) _
    refine segE1 (z0 := (.val (.int p1))) (z1 := (.val (.int p2))) (z2 := (.val (.int p3))) (i3 := (Int32.ofNat nn)) (o12 := b1) (z13 := (.val (.ref bs))) (z14 := (.val (.int (1 : Int32)))) (rb := (own_b 1 nn)) (cl := clT) (w := (own_add (own_src t0 t1 t2 t3) (own_src s0_ s1_ s2_ s3_) nn 1)) (t0 := t0) (t1 := t1) (t2 := t2) (t3 := t3) (s0_ := s0_) (s1_ := s1_) (s2_ := s2_) (s3_ := s3_) X30 hx hZ hw hby hml hown e30 ArT (inb_of (j := (1 : Int32)) ST ⟨by decide, by decide⟩) (hatT 1 (by decide)) (own_b1 (j := 1) (by decide) (by omega)) (own_b0 (j := 1) (by omega)) ?_
    show Steps p.tables e below (T30.setTop (mkF m 183 #[.val (.int p1), .val (.int p2), .val (.int p3), .val (.int (Int32.ofNat nn)), .val (.int t0), .val (.int t1), .val (.int t2), .val (.int t3), .val (.int s0_), .val (.int s1_), .val (.int s2_), .val (.int s3_), .val (.ref b1), .val (.ref bs), .val (.int (1 : Int32))] [(.int (own_b 1 nn)), (.int s1_), (.int t1), (.int (own_add (own_src t0 t1 t2 t3) (own_src s0_ s1_ s2_ s3_) nn 1))])) _
    refine st31 _ ?_
    show Steps p.tables e below (T31.setTop (mkF m 186 #[.val (.int p1), .val (.int p2), .val (.int p3), .val (.int (Int32.ofNat nn)), .val (.int t0), .val (.int t1), .val (.int t2), .val (.int t3), .val (.int s0_), .val (.int s1_), .val (.int s2_), .val (.int s3_), .val (.ref b1), .val (.ref bs), .val (.int (1 : Int32))] [(.int (own_add (own_src t0 t1 t2 t3) (own_src s0_ s1_ s2_ s3_) nn 1)), (.int (own_add (own_src t0 t1 t2 t3) (own_src s0_ s1_ s2_ s3_) nn 1))])) _
    refine XS.icmpNo X31.here hx rfl (hb hby at_186) rfl (teq (rfl : (own_add (own_src t0 t1 t2 t3) (own_src s0_ s1_ s2_ s3_) nn 1) = (own_add (own_src t0 t1 t2 t3) (own_src s0_ s1_ s2_ s3_) nn 1))).2 ?_
    show Steps p.tables e below (T31.setTop (mkF m 189 #[.val (.int p1), .val (.int p2), .val (.int p3), .val (.int (Int32.ofNat nn)), .val (.int t0), .val (.int t1), .val (.int t2), .val (.int t3), .val (.int s0_), .val (.int s1_), .val (.int s2_), .val (.int s3_), .val (.ref b1), .val (.ref bs), .val (.int (1 : Int32))] [])) _
    refine XS.iconst X31.here hx rfl (hb hby at_189) ?_
    show Steps p.tables e below (T31.setTop (mkF m 190 #[.val (.int p1), .val (.int p2), .val (.int p3), .val (.int (Int32.ofNat nn)), .val (.int t0), .val (.int t1), .val (.int t2), .val (.int t3), .val (.int s0_), .val (.int s1_), .val (.int s2_), .val (.int s3_), .val (.ref b1), .val (.ref bs), .val (.int (1 : Int32))] [(.int (1 : Int32))])) _
    refine XS.goto X31.here hx rfl (pc0 := 190) (pc' := 194) rfl (hb hby at_190) (by decide) (by decide) ?_
    show Steps p.tables e below (T31.setTop (mkF m 194 #[.val (.int p1), .val (.int p2), .val (.int p3), .val (.int (Int32.ofNat nn)), .val (.int t0), .val (.int t1), .val (.int t2), .val (.int t3), .val (.int s0_), .val (.int s1_), .val (.int s2_), .val (.int s3_), .val (.ref b1), .val (.ref bs), .val (.int (1 : Int32))] [(.int (1 : Int32))])) _
    refine XS.istore X31.here hx rfl (hb hby at_194) rfl (l' := #[.val (.int p1), .val (.int p2), .val (.int p3), .val (.int (Int32.ofNat nn)), .val (.int t0), .val (.int t1), .val (.int t2), .val (.int t3), .val (.int s0_), .val (.int s1_), .val (.int s2_), .val (.int s3_), .val (.ref b1), .val (.ref bs), .val (.int (1 : Int32))]) rfl ?_
    show Steps p.tables e below (T31.setTop (mkF m 196 #[.val (.int p1), .val (.int p2), .val (.int p3), .val (.int (Int32.ofNat nn)), .val (.int t0), .val (.int t1), .val (.int t2), .val (.int t3), .val (.int s0_), .val (.int s1_), .val (.int s2_), .val (.int s3_), .val (.ref b1), .val (.ref bs), .val (.int (1 : Int32))] [])) _
    refine XS.iload X31.here hx rfl (hb hby at_196) rfl ?_
    show Steps p.tables e below (T31.setTop (mkF m 198 #[.val (.int p1), .val (.int p2), .val (.int p3), .val (.int (Int32.ofNat nn)), .val (.int t0), .val (.int t1), .val (.int t2), .val (.int t3), .val (.int s0_), .val (.int s1_), .val (.int s2_), .val (.int s3_), .val (.ref b1), .val (.ref bs), .val (.int (1 : Int32))] [(.int (1 : Int32))])) _
    refine XS.ifNo X31.here hx rfl (hb hby at_198) rfl ((if0 _ _).trans (feq (by decide : ¬ ((1 : Int32) = (0 : Int32)))).1) ?_
    show Steps p.tables e below (T31.setTop (mkF m 201 #[.val (.int p1), .val (.int p2), .val (.int p3), .val (.int (Int32.ofNat nn)), .val (.int t0), .val (.int t1), .val (.int t2), .val (.int t3), .val (.int s0_), .val (.int s1_), .val (.int s2_), .val (.int s3_), .val (.ref b1), .val (.ref bs), .val (.int (1 : Int32))] [])) _
    refine segE2 (z0 := (.val (.int p1))) (z1 := (.val (.int p2))) (z2 := (.val (.int p3))) (i3 := (Int32.ofNat nn)) (o12 := b1) (z13 := (.val (.ref bs))) (z14 := (.val (.int (1 : Int32)))) (rb := (own_b 2 nn)) (cl := clT) (w := (own_add (own_src t0 t1 t2 t3) (own_src s0_ s1_ s2_ s3_) nn 2)) (t0 := t0) (t1 := t1) (t2 := t2) (t3 := t3) (s0_ := s0_) (s1_ := s1_) (s2_ := s2_) (s3_ := s3_) X31 hx hZ hw hby hml hown e31 ArT (inb_of (j := (2 : Int32)) ST ⟨by decide, by decide⟩) (hatT 2 (by decide)) (own_b1 (j := 2) (by decide) (by omega)) (own_b0 (j := 2) (by omega)) ?_
    show Steps p.tables e below (T31.setTop (mkF m 219 #[.val (.int p1), .val (.int p2), .val (.int p3), .val (.int (Int32.ofNat nn)), .val (.int t0), .val (.int t1), .val (.int t2), .val (.int t3), .val (.int s0_), .val (.int s1_), .val (.int s2_), .val (.int s3_), .val (.ref b1), .val (.ref bs), .val (.int (1 : Int32))] [(.int (own_b 2 nn)), (.int s2_), (.int t2), (.int (own_add (own_src t0 t1 t2 t3) (own_src s0_ s1_ s2_ s3_) nn 2))])) _
    refine st32 _ ?_
    show Steps p.tables e below (T32.setTop (mkF m 222 #[.val (.int p1), .val (.int p2), .val (.int p3), .val (.int (Int32.ofNat nn)), .val (.int t0), .val (.int t1), .val (.int t2), .val (.int t3), .val (.int s0_), .val (.int s1_), .val (.int s2_), .val (.int s3_), .val (.ref b1), .val (.ref bs), .val (.int (1 : Int32))] [(.int (own_add (own_src t0 t1 t2 t3) (own_src s0_ s1_ s2_ s3_) nn 2)), (.int (own_add (own_src t0 t1 t2 t3) (own_src s0_ s1_ s2_ s3_) nn 2))])) _
    refine XS.icmpNo X32.here hx rfl (hb hby at_222) rfl (teq (rfl : (own_add (own_src t0 t1 t2 t3) (own_src s0_ s1_ s2_ s3_) nn 2) = (own_add (own_src t0 t1 t2 t3) (own_src s0_ s1_ s2_ s3_) nn 2))).2 ?_
    show Steps p.tables e below (T32.setTop (mkF m 225 #[.val (.int p1), .val (.int p2), .val (.int p3), .val (.int (Int32.ofNat nn)), .val (.int t0), .val (.int t1), .val (.int t2), .val (.int t3), .val (.int s0_), .val (.int s1_), .val (.int s2_), .val (.int s3_), .val (.ref b1), .val (.ref bs), .val (.int (1 : Int32))] [])) _
    refine XS.iconst X32.here hx rfl (hb hby at_225) ?_
    show Steps p.tables e below (T32.setTop (mkF m 226 #[.val (.int p1), .val (.int p2), .val (.int p3), .val (.int (Int32.ofNat nn)), .val (.int t0), .val (.int t1), .val (.int t2), .val (.int t3), .val (.int s0_), .val (.int s1_), .val (.int s2_), .val (.int s3_), .val (.ref b1), .val (.ref bs), .val (.int (1 : Int32))] [(.int (1 : Int32))])) _
    refine XS.goto X32.here hx rfl (pc0 := 226) (pc' := 230) rfl (hb hby at_226) (by decide) (by decide) ?_
    show Steps p.tables e below (T32.setTop (mkF m 230 #[.val (.int p1), .val (.int p2), .val (.int p3), .val (.int (Int32.ofNat nn)), .val (.int t0), .val (.int t1), .val (.int t2), .val (.int t3), .val (.int s0_), .val (.int s1_), .val (.int s2_), .val (.int s3_), .val (.ref b1), .val (.ref bs), .val (.int (1 : Int32))] [(.int (1 : Int32))])) _
    refine XS.istore X32.here hx rfl (hb hby at_230) rfl (l' := #[.val (.int p1), .val (.int p2), .val (.int p3), .val (.int (Int32.ofNat nn)), .val (.int t0), .val (.int t1), .val (.int t2), .val (.int t3), .val (.int s0_), .val (.int s1_), .val (.int s2_), .val (.int s3_), .val (.ref b1), .val (.ref bs), .val (.int (1 : Int32))]) rfl ?_
    show Steps p.tables e below (T32.setTop (mkF m 232 #[.val (.int p1), .val (.int p2), .val (.int p3), .val (.int (Int32.ofNat nn)), .val (.int t0), .val (.int t1), .val (.int t2), .val (.int t3), .val (.int s0_), .val (.int s1_), .val (.int s2_), .val (.int s3_), .val (.ref b1), .val (.ref bs), .val (.int (1 : Int32))] [])) _
    refine XS.iload X32.here hx rfl (hb hby at_232) rfl ?_
    show Steps p.tables e below (T32.setTop (mkF m 234 #[.val (.int p1), .val (.int p2), .val (.int p3), .val (.int (Int32.ofNat nn)), .val (.int t0), .val (.int t1), .val (.int t2), .val (.int t3), .val (.int s0_), .val (.int s1_), .val (.int s2_), .val (.int s3_), .val (.ref b1), .val (.ref bs), .val (.int (1 : Int32))] [(.int (1 : Int32))])) _
    refine XS.ifNo X32.here hx rfl (hb hby at_234) rfl ((if0 _ _).trans (feq (by decide : ¬ ((1 : Int32) = (0 : Int32)))).1) ?_
    show Steps p.tables e below (T32.setTop (mkF m 237 #[.val (.int p1), .val (.int p2), .val (.int p3), .val (.int (Int32.ofNat nn)), .val (.int t0), .val (.int t1), .val (.int t2), .val (.int t3), .val (.int s0_), .val (.int s1_), .val (.int s2_), .val (.int s3_), .val (.ref b1), .val (.ref bs), .val (.int (1 : Int32))] [])) _
    refine segE3 (z0 := (.val (.int p1))) (z1 := (.val (.int p2))) (z2 := (.val (.int p3))) (i3 := (Int32.ofNat nn)) (o12 := b1) (z13 := (.val (.ref bs))) (z14 := (.val (.int (1 : Int32)))) (rb := (own_b 3 nn)) (cl := clT) (w := (own_add (own_src t0 t1 t2 t3) (own_src s0_ s1_ s2_ s3_) nn 3)) (t0 := t0) (t1 := t1) (t2 := t2) (t3 := t3) (s0_ := s0_) (s1_ := s1_) (s2_ := s2_) (s3_ := s3_) X32 hx hZ hw hby hml hown e32 ArT (inb_of (j := (3 : Int32)) ST ⟨by decide, by decide⟩) (hatT 3 (by decide)) (own_b1 (j := 3) (by decide) (by omega)) (own_b0 (j := 3) (by omega)) ?_
    show Steps p.tables e below (T32.setTop (mkF m 255 #[.val (.int p1), .val (.int p2), .val (.int p3), .val (.int (Int32.ofNat nn)), .val (.int t0), .val (.int t1), .val (.int t2), .val (.int t3), .val (.int s0_), .val (.int s1_), .val (.int s2_), .val (.int s3_), .val (.ref b1), .val (.ref bs), .val (.int (1 : Int32))] [(.int (own_b 3 nn)), (.int s3_), (.int t3), (.int (own_add (own_src t0 t1 t2 t3) (own_src s0_ s1_ s2_ s3_) nn 3))])) _
    refine st33 _ ?_
    show Steps p.tables e below (T33.setTop (mkF m 258 #[.val (.int p1), .val (.int p2), .val (.int p3), .val (.int (Int32.ofNat nn)), .val (.int t0), .val (.int t1), .val (.int t2), .val (.int t3), .val (.int s0_), .val (.int s1_), .val (.int s2_), .val (.int s3_), .val (.ref b1), .val (.ref bs), .val (.int (1 : Int32))] [(.int (own_add (own_src t0 t1 t2 t3) (own_src s0_ s1_ s2_ s3_) nn 3)), (.int (own_add (own_src t0 t1 t2 t3) (own_src s0_ s1_ s2_ s3_) nn 3))])) _
    refine XS.icmpNo X33.here hx rfl (hb hby at_258) rfl (teq (rfl : (own_add (own_src t0 t1 t2 t3) (own_src s0_ s1_ s2_ s3_) nn 3) = (own_add (own_src t0 t1 t2 t3) (own_src s0_ s1_ s2_ s3_) nn 3))).2 ?_
    show Steps p.tables e below (T33.setTop (mkF m 261 #[.val (.int p1), .val (.int p2), .val (.int p3), .val (.int (Int32.ofNat nn)), .val (.int t0), .val (.int t1), .val (.int t2), .val (.int t3), .val (.int s0_), .val (.int s1_), .val (.int s2_), .val (.int s3_), .val (.ref b1), .val (.ref bs), .val (.int (1 : Int32))] [])) _
    refine XS.iconst X33.here hx rfl (hb hby at_261) ?_
    show Steps p.tables e below (T33.setTop (mkF m 262 #[.val (.int p1), .val (.int p2), .val (.int p3), .val (.int (Int32.ofNat nn)), .val (.int t0), .val (.int t1), .val (.int t2), .val (.int t3), .val (.int s0_), .val (.int s1_), .val (.int s2_), .val (.int s3_), .val (.ref b1), .val (.ref bs), .val (.int (1 : Int32))] [(.int (1 : Int32))])) _
    refine XS.goto X33.here hx rfl (pc0 := 262) (pc' := 266) rfl (hb hby at_262) (by decide) (by decide) ?_
    show Steps p.tables e below (T33.setTop (mkF m 266 #[.val (.int p1), .val (.int p2), .val (.int p3), .val (.int (Int32.ofNat nn)), .val (.int t0), .val (.int t1), .val (.int t2), .val (.int t3), .val (.int s0_), .val (.int s1_), .val (.int s2_), .val (.int s3_), .val (.ref b1), .val (.ref bs), .val (.int (1 : Int32))] [(.int (1 : Int32))])) _
    refine XS.istore X33.here hx rfl (hb hby at_266) rfl (l' := #[.val (.int p1), .val (.int p2), .val (.int p3), .val (.int (Int32.ofNat nn)), .val (.int t0), .val (.int t1), .val (.int t2), .val (.int t3), .val (.int s0_), .val (.int s1_), .val (.int s2_), .val (.int s3_), .val (.ref b1), .val (.ref bs), .val (.int (1 : Int32))]) rfl ?_
    show Steps p.tables e below (T33.setTop (mkF m 268 #[.val (.int p1), .val (.int p2), .val (.int p3), .val (.int (Int32.ofNat nn)), .val (.int t0), .val (.int t1), .val (.int t2), .val (.int t3), .val (.int s0_), .val (.int s1_), .val (.int s2_), .val (.int s3_), .val (.ref b1), .val (.ref bs), .val (.int (1 : Int32))] [])) _
    refine XS.iload X33.here hx rfl (hb hby at_268) rfl ?_
    show Steps p.tables e below (T33.setTop (mkF m 270 #[.val (.int p1), .val (.int p2), .val (.int p3), .val (.int (Int32.ofNat nn)), .val (.int t0), .val (.int t1), .val (.int t2), .val (.int t3), .val (.int s0_), .val (.int s1_), .val (.int s2_), .val (.int s3_), .val (.ref b1), .val (.ref bs), .val (.int (1 : Int32))] [(.int (1 : Int32))])) _
    refine XS.ifNo X33.here hx rfl (hb hby at_270) rfl ((if0 _ _).trans (feq (by decide : ¬ ((1 : Int32) = (0 : Int32)))).1) ?_
    show Steps p.tables e below (T33.setTop (mkF m 273 #[.val (.int p1), .val (.int p2), .val (.int p3), .val (.int (Int32.ofNat nn)), .val (.int t0), .val (.int t1), .val (.int t2), .val (.int t3), .val (.int s0_), .val (.int s1_), .val (.int s2_), .val (.int s3_), .val (.ref b1), .val (.ref bs), .val (.int (1 : Int32))] [])) _
    refine segS0 (z0 := (.val (.int p1))) (z1 := (.val (.int p2))) (z2 := (.val (.int p3))) (i3 := (Int32.ofNat nn)) (z12 := (.val (.ref b1))) (o13 := bs) (z14 := (.val (.int (1 : Int32)))) (rs := (1 : Int32)) (cl := clS) (w := (own_src s0_ s1_ s2_ s3_ 0)) (t0 := t0) (t1 := t1) (t2 := t2) (t3 := t3) (s0_ := s0_) (s1_ := s1_) (s2_ := s2_) (s3_ := s3_) X33 hx hZ hw hby hml hown e33 ArS (fun h => by rw [zS]; exact fun q => q.elim (by decide) (fun q => h (own_lt (n := 1) (Nat.lt_succ_of_le q) (by decide)))) (fun h => hatS 0 (Nat.lt_of_not_le fun q => h (own_lt (n := 1) (Nat.lt_succ_of_le q) (by decide)))) (fun _ => rfl) (fun _ _ => rfl) (fun _ h => absurd (by rw [hs0]; exact own_nb _) h) ?_
    show Steps p.tables e below (T33.setTop (mkF m 292 #[.val (.int p1), .val (.int p2), .val (.int p3), .val (.int (Int32.ofNat nn)), .val (.int t0), .val (.int t1), .val (.int t2), .val (.int t3), .val (.int s0_), .val (.int s1_), .val (.int s2_), .val (.int s3_), .val (.ref b1), .val (.ref bs), .val (.int (1 : Int32))] [(.int (1 : Int32))])) _
    refine XS.istore X33.here hx rfl (hb hby at_292) rfl (l' := #[.val (.int p1), .val (.int p2), .val (.int p3), .val (.int (Int32.ofNat nn)), .val (.int t0), .val (.int t1), .val (.int t2), .val (.int t3), .val (.int s0_), .val (.int s1_), .val (.int s2_), .val (.int s3_), .val (.ref b1), .val (.ref bs), .val (.int (1 : Int32))]) rfl ?_
    show Steps p.tables e below (T33.setTop (mkF m 294 #[.val (.int p1), .val (.int p2), .val (.int p3), .val (.int (Int32.ofNat nn)), .val (.int t0), .val (.int t1), .val (.int t2), .val (.int t3), .val (.int s0_), .val (.int s1_), .val (.int s2_), .val (.int s3_), .val (.ref b1), .val (.ref bs), .val (.int (1 : Int32))] [])) _
    refine XS.iload X33.here hx rfl (hb hby at_294) rfl ?_
    show Steps p.tables e below (T33.setTop (mkF m 296 #[.val (.int p1), .val (.int p2), .val (.int p3), .val (.int (Int32.ofNat nn)), .val (.int t0), .val (.int t1), .val (.int t2), .val (.int t3), .val (.int s0_), .val (.int s1_), .val (.int s2_), .val (.int s3_), .val (.ref b1), .val (.ref bs), .val (.int (1 : Int32))] [(.int (1 : Int32))])) _
    refine XS.ifNo X33.here hx rfl (hb hby at_296) rfl ((if0 _ _).trans (feq (by decide : ¬ ((1 : Int32) = (0 : Int32)))).1) ?_
    show Steps p.tables e below (T33.setTop (mkF m 299 #[.val (.int p1), .val (.int p2), .val (.int p3), .val (.int (Int32.ofNat nn)), .val (.int t0), .val (.int t1), .val (.int t2), .val (.int t3), .val (.int s0_), .val (.int s1_), .val (.int s2_), .val (.int s3_), .val (.ref b1), .val (.ref bs), .val (.int (1 : Int32))] [])) _
    refine segS1 (z0 := (.val (.int p1))) (z1 := (.val (.int p2))) (z2 := (.val (.int p3))) (i3 := (Int32.ofNat nn)) (z12 := (.val (.ref b1))) (o13 := bs) (z14 := (.val (.int (1 : Int32)))) (rs := (1 : Int32)) (cl := clS) (w := (own_src s0_ s1_ s2_ s3_ 1)) (t0 := t0) (t1 := t1) (t2 := t2) (t3 := t3) (s0_ := s0_) (s1_ := s1_) (s2_ := s2_) (s3_ := s3_) X33 hx hZ hw hby hml hown e33 ArS (fun h => by rw [zS]; exact fun q => q.elim (by decide) (fun q => h (own_lt (n := 2) (Nat.lt_succ_of_le q) (by decide)))) (fun h => hatS 1 (Nat.lt_of_not_le fun q => h (own_lt (n := 2) (Nat.lt_succ_of_le q) (by decide)))) (fun _ => rfl) (fun _ _ => rfl) (fun _ h => absurd (by rw [hs1]; exact own_nb _) h) ?_
    show Steps p.tables e below (T33.setTop (mkF m 318 #[.val (.int p1), .val (.int p2), .val (.int p3), .val (.int (Int32.ofNat nn)), .val (.int t0), .val (.int t1), .val (.int t2), .val (.int t3), .val (.int s0_), .val (.int s1_), .val (.int s2_), .val (.int s3_), .val (.ref b1), .val (.ref bs), .val (.int (1 : Int32))] [(.int (1 : Int32))])) _
    refine XS.istore X33.here hx rfl (hb hby at_318) rfl (l' := #[.val (.int p1), .val (.int p2), .val (.int p3), .val (.int (Int32.ofNat nn)), .val (.int t0), .val (.int t1), .val (.int t2), .val (.int t3), .val (.int s0_), .val (.int s1_), .val (.int s2_), .val (.int s3_), .val (.ref b1), .val (.ref bs), .val (.int (1 : Int32))]) rfl ?_
    show Steps p.tables e below (T33.setTop (mkF m 320 #[.val (.int p1), .val (.int p2), .val (.int p3), .val (.int (Int32.ofNat nn)), .val (.int t0), .val (.int t1), .val (.int t2), .val (.int t3), .val (.int s0_), .val (.int s1_), .val (.int s2_), .val (.int s3_), .val (.ref b1), .val (.ref bs), .val (.int (1 : Int32))] [])) _
    refine XS.iload X33.here hx rfl (hb hby at_320) rfl ?_
    show Steps p.tables e below (T33.setTop (mkF m 322 #[.val (.int p1), .val (.int p2), .val (.int p3), .val (.int (Int32.ofNat nn)), .val (.int t0), .val (.int t1), .val (.int t2), .val (.int t3), .val (.int s0_), .val (.int s1_), .val (.int s2_), .val (.int s3_), .val (.ref b1), .val (.ref bs), .val (.int (1 : Int32))] [(.int (1 : Int32))])) _
    refine XS.ifNo X33.here hx rfl (hb hby at_322) rfl ((if0 _ _).trans (feq (by decide : ¬ ((1 : Int32) = (0 : Int32)))).1) ?_
    show Steps p.tables e below (T33.setTop (mkF m 325 #[.val (.int p1), .val (.int p2), .val (.int p3), .val (.int (Int32.ofNat nn)), .val (.int t0), .val (.int t1), .val (.int t2), .val (.int t3), .val (.int s0_), .val (.int s1_), .val (.int s2_), .val (.int s3_), .val (.ref b1), .val (.ref bs), .val (.int (1 : Int32))] [])) _
    refine segS2 (z0 := (.val (.int p1))) (z1 := (.val (.int p2))) (z2 := (.val (.int p3))) (i3 := (Int32.ofNat nn)) (z12 := (.val (.ref b1))) (o13 := bs) (z14 := (.val (.int (1 : Int32)))) (rs := (1 : Int32)) (cl := clS) (w := (own_src s0_ s1_ s2_ s3_ 2)) (t0 := t0) (t1 := t1) (t2 := t2) (t3 := t3) (s0_ := s0_) (s1_ := s1_) (s2_ := s2_) (s3_ := s3_) X33 hx hZ hw hby hml hown e33 ArS (fun h => by rw [zS]; exact fun q => q.elim (by decide) (fun q => h (own_lt (n := 3) (Nat.lt_succ_of_le q) (by decide)))) (fun h => hatS 2 (Nat.lt_of_not_le fun q => h (own_lt (n := 3) (Nat.lt_succ_of_le q) (by decide)))) (fun _ => rfl) (fun _ _ => rfl) (fun _ h => absurd (by rw [hs2]; exact own_nb _) h) ?_
    show Steps p.tables e below (T33.setTop (mkF m 344 #[.val (.int p1), .val (.int p2), .val (.int p3), .val (.int (Int32.ofNat nn)), .val (.int t0), .val (.int t1), .val (.int t2), .val (.int t3), .val (.int s0_), .val (.int s1_), .val (.int s2_), .val (.int s3_), .val (.ref b1), .val (.ref bs), .val (.int (1 : Int32))] [(.int (1 : Int32))])) _
    refine XS.istore X33.here hx rfl (hb hby at_344) rfl (l' := #[.val (.int p1), .val (.int p2), .val (.int p3), .val (.int (Int32.ofNat nn)), .val (.int t0), .val (.int t1), .val (.int t2), .val (.int t3), .val (.int s0_), .val (.int s1_), .val (.int s2_), .val (.int s3_), .val (.ref b1), .val (.ref bs), .val (.int (1 : Int32))]) rfl ?_
    show Steps p.tables e below (T33.setTop (mkF m 346 #[.val (.int p1), .val (.int p2), .val (.int p3), .val (.int (Int32.ofNat nn)), .val (.int t0), .val (.int t1), .val (.int t2), .val (.int t3), .val (.int s0_), .val (.int s1_), .val (.int s2_), .val (.int s3_), .val (.ref b1), .val (.ref bs), .val (.int (1 : Int32))] [])) _
    refine XS.iload X33.here hx rfl (hb hby at_346) rfl ?_
    show Steps p.tables e below (T33.setTop (mkF m 348 #[.val (.int p1), .val (.int p2), .val (.int p3), .val (.int (Int32.ofNat nn)), .val (.int t0), .val (.int t1), .val (.int t2), .val (.int t3), .val (.int s0_), .val (.int s1_), .val (.int s2_), .val (.int s3_), .val (.ref b1), .val (.ref bs), .val (.int (1 : Int32))] [(.int (1 : Int32))])) _
    refine XS.ifNo X33.here hx rfl (hb hby at_348) rfl ((if0 _ _).trans (feq (by decide : ¬ ((1 : Int32) = (0 : Int32)))).1) ?_
    show Steps p.tables e below (T33.setTop (mkF m 351 #[.val (.int p1), .val (.int p2), .val (.int p3), .val (.int (Int32.ofNat nn)), .val (.int t0), .val (.int t1), .val (.int t2), .val (.int t3), .val (.int s0_), .val (.int s1_), .val (.int s2_), .val (.int s3_), .val (.ref b1), .val (.ref bs), .val (.int (1 : Int32))] [])) _
    refine segS3 (z0 := (.val (.int p1))) (z1 := (.val (.int p2))) (z2 := (.val (.int p3))) (i3 := (Int32.ofNat nn)) (z12 := (.val (.ref b1))) (o13 := bs) (z14 := (.val (.int (1 : Int32)))) (rs := (1 : Int32)) (cl := clS) (w := (own_src s0_ s1_ s2_ s3_ 3)) (t0 := t0) (t1 := t1) (t2 := t2) (t3 := t3) (s0_ := s0_) (s1_ := s1_) (s2_ := s2_) (s3_ := s3_) X33 hx hZ hw hby hml hown e33 ArS (fun h => by rw [zS]; exact fun q => q.elim (by decide) (fun q => h (own_lt (n := 4) (Nat.lt_succ_of_le q) (by decide)))) (fun h => hatS 3 (Nat.lt_of_not_le fun q => h (own_lt (n := 4) (Nat.lt_succ_of_le q) (by decide)))) (fun _ => rfl) (fun _ _ => rfl) (fun _ h => absurd (by rw [hs3]; exact own_nb _) h) ?_
    show Steps p.tables e below (T33.setTop (mkF m 370 #[.val (.int p1), .val (.int p2), .val (.int p3), .val (.int (Int32.ofNat nn)), .val (.int t0), .val (.int t1), .val (.int t2), .val (.int t3), .val (.int s0_), .val (.int s1_), .val (.int s2_), .val (.int s3_), .val (.ref b1), .val (.ref bs), .val (.int (1 : Int32))] [(.int (1 : Int32))])) _
    refine XS.istore X33.here hx rfl (hb hby at_370) rfl (l' := #[.val (.int p1), .val (.int p2), .val (.int p3), .val (.int (Int32.ofNat nn)), .val (.int t0), .val (.int t1), .val (.int t2), .val (.int t3), .val (.int s0_), .val (.int s1_), .val (.int s2_), .val (.int s3_), .val (.ref b1), .val (.ref bs), .val (.int (1 : Int32))]) rfl ?_
    show Steps p.tables e below (T33.setTop (mkF m 372 #[.val (.int p1), .val (.int p2), .val (.int p3), .val (.int (Int32.ofNat nn)), .val (.int t0), .val (.int t1), .val (.int t2), .val (.int t3), .val (.int s0_), .val (.int s1_), .val (.int s2_), .val (.int s3_), .val (.ref b1), .val (.ref bs), .val (.int (1 : Int32))] [])) _
    refine XS.iload X33.here hx rfl (hb hby at_372) rfl ?_
    show Steps p.tables e below (T33.setTop (mkF m 374 #[.val (.int p1), .val (.int p2), .val (.int p3), .val (.int (Int32.ofNat nn)), .val (.int t0), .val (.int t1), .val (.int t2), .val (.int t3), .val (.int s0_), .val (.int s1_), .val (.int s2_), .val (.int s3_), .val (.ref b1), .val (.ref bs), .val (.int (1 : Int32))] [(.int (1 : Int32))])) _
    exact retN X33 hx (t := .boolean) Bd.returns (by simp) (hb hby at_374) hr
  · show Q0 h0 n0 _ T33.heap _
    exact ⟨rfl, N33⟩
set_option maxRecDepth 65536 in
set_option maxHeartbeats 40000000 in
theorem comes_1 {Post : Tables → Env → Array Value → State → Outcome → State → Prop} (hpost : ∀ tb e args s v u, (limb_1_1.after args s (.returned v) u = true ∧ limb_1_2.after args s (.returned v) u = true ∧ True) → FrameEnd s (.returned v) u (Jvm.fieldLocs frame_1_writes args s ++ Jvm.arrayLocs frame_1_arrays args s ++ Jvm.staticLocs frame_1_statics s) 16 128 → Post tb e args s (.returned v) u) :
    ArmFor flags0 classFile x code maxLocals ret World_1 tables_1 room_1 Calls_1 rest_1 Pre_1 Post := by
  intro l hfl _ _ p e ha hc hk s m args below hf hA hF happ hP
  obtain ⟨hcalls, hrest, hpre⟩ := hP
  obtain ⟨-, -, -, hnamed, -, -, -, hat⟩ := (Spec.applies_iff hf).mp happ
  obtain ⟨hg, hn⟩ := and_e (Cond.before_iff.mp (show (Jvm.Cond.and given_1 narrow_1).before args s = true from hpre))
  obtain ⟨ga0, gb0⟩ := and_e hg
  obtain ⟨ga1, gb1⟩ := and_e gb0
  obtain ⟨ga2, gb2⟩ := and_e gb1
  obtain ⟨w0, w1, w2, rfl⟩ : ∃ w0 w1 w2 : Value, args = #[w0, w1, w2] := by
    have hs : args.size = 3 := by simpa [Cond.value, given_1] using ga0
    obtain ⟨L⟩ := args
    match L, hs with
    | [w0, w1, w2], _ => exact ⟨w0, w1, w2, rfl⟩
  have hw := fun d (hd : d ∈ tables_1) => atoms_spec (ws := Jvm.Cond.code x code maxLocals ret :: tables_1) hat d (List.mem_cons_of_mem _ hd)
  obtain ⟨i0, ei0⟩ := is_v ga1
  obtain rfl : w0 = (.int i0) := Option.some.inj ei0
  obtain ⟨i1, ei1⟩ := is_v ga2
  obtain rfl : w1 = (.int i1) := Option.some.inj ei1
  obtain ⟨i2, ei2⟩ := is_v gb2
  obtain rfl : w2 = (.int i2) := Option.some.inj ei2
  obtain ⟨n, o, h1, h2, h3, _, L, rfl, ⟨rfl, N⟩, hq⟩ := rm0 l s _ hw tables_1 i0 i1 i2 s.heap s.heap.size (Nat.le_refl _) p e ha hc hk s m _ below hf ((Spec.applies_iff_loose hf).mp happ).1 ⟨rfl, State.Warmed39.refl s, rfl⟩ trivial
  refine ⟨n, _, h1, h2, h3, hpost _ _ _ _ _ _ ⟨Cond.after_iff.mpr rfl, Cond.after_iff.mpr (eq_i res_at (Term.int_eval (1)) rfl), trivial⟩ ⟨hq.1, hq.2.1, (hq.2.2.sift fun y hy => Or.inr (N y hy)).mono (by decide) (by decide)⟩⟩
theorem main_1_1 : Claimed_1_1 := comes_1 fun _ _ _ _ _ _ h hF => ⟨h.1, hF⟩
theorem main_1_2 : Claimed_1_2 := comes_1 fun _ _ _ _ _ _ h hF => ⟨h.2.1, hF⟩
end Jvm.Pilot.@@N@@
namespace Jvm.Pilot.@@N@@
open Jvm Jvm.ClassFile Sem Op Lib Jvm.Free Jvm.Stand Jvm.Pilot.@@N@@.Jvm.D
/-! MADE BY PROGRAM (witnessworld.py) out of the Statement's table words and the real class files: 9 classes; the members and pool entries that the words name. The judged class is class 1, her method 1. -/
namespace start1
open Jvm.ClassFile
def u (s : String) : CpInfo := .utf8 (stringToUtf16 s)
/-- a pool by its gaps: so many unusable entries, then the entry; so many at the end -/
def gap : Nat → List CpInfo → List CpInfo
  | 0, r => r
  | n + 1, r => .unusable :: gap n r
def poolList (es : List (Nat × CpInfo)) (last : Nat) : List CpInfo := es.foldr (fun e r => gap e.1 (e.2 :: r)) (gap last [])
def pool (es : List (Nat × CpInfo)) (last : Nat) : Array CpInfo := ⟨poolList es last⟩
def fileOf (pool : Array CpInfo) (this : Nat) (attrs : Array Attribute := #[]) (ms : Array MethodInfo := #[]) (fl : Nat := 33) (sup : Nat := 0) (ifs : Array Nat := #[]) (fds : Array FieldInfo := #[]) : ClassFile where
  minorVersion := 0
  majorVersion := 65
  constantPool := pool
  accessFlags := fl
  thisClass := this
  superClass := sup
  interfaces := ifs
  fields := fds
  methods := ms
  attributes := attrs
def plain (name : String) (sup : Option ClassId) : Class where
  name := name
  kind := .ordinary
  loader := none
  accessFlags := 33
  super := sup
  interfaces := #[]
  cf := none
  fields := #[]
  methods := #[]
  instanceTypes := #[]
  staticTypes := #[]
  resolved := #[]
  callSites := []
  init := .initialized
  statics := none
  mirror := none

def pool0 : Array CpInfo := pool [(5, u "<init>"), (0, u "()V"), (1, .class_ 10), (1, u "java/lang/Object")] 113

def k0m0 : Method := { name := "<init>", desc := "()V", sig := { parameters := [], returnType := none }, accessFlags := 1, code := none }
/-- java/lang/Object -/
def k0 : Class := { plain "java/lang/Object" none with
  accessFlags := 33
  interfaces := #[]
  cf := some (fileOf pool0 8 #[] #[{ accessFlags := 1, nameIndex := 5, descriptorIndex := 6, attributes := #[] }] 33 0 #[] #[])
  fields := #[]
  methods := #[k0m0]
  instanceTypes := #[]
  staticTypes := #[]
  resolved := Array.replicate 124 none
  statics := none }

def pool1 : Array CpInfo := pool [(2, .class_ 4), (1, u "java/lang/Object"), (0, u "<init>"), (0, u "()V"), (0, .integer 2147483647), (0, .methodref 9 10), (0, .class_ 11), (0, .nameAndType 12 13), (0, u "com/example/fountainwire/fountainwire/codec/OctetsAddPinLaw"), (0, u "makeSource"), (0, u "(IBBBB)[B"), (0, .methodref 15 16), (0, .class_ 17), (0, .nameAndType 18 19), (0, u "com/example/fountainwire/fountainwire/codec/Octets"), (0, u "add"), (0, u "([B[B)V"), (0, .methodref 9 21), (0, .nameAndType 22 23), (0, u "expect"), (0, u "(BBZ)B"), (2, u "law"), (0, u "(III)Z")] 5

def k1m0 : Method := { name := "<init>", desc := "()V", sig := { parameters := [], returnType := none }, accessFlags := 1, code := none }
def k1c1 : Code := { maxStack := 5, maxLocals := 15, code := code, exceptionTable := #[], attributes := #[] }
def k1m1 : Method := { name := "law", desc := "(III)Z", sig := { parameters := [.int, .int, .int], returnType := some .boolean }, accessFlags := 9, code := some k1c1 }
def k1c2 : Code := { maxStack := 3, maxLocals := 3, code := method_3_code, exceptionTable := #[], attributes := #[] }
def k1m2 : Method := { name := "expect", desc := "(BBZ)B", sig := { parameters := [.byte, .byte, .boolean], returnType := some .byte }, accessFlags := 10, code := some k1c2 }
def k1c3 : Code := { maxStack := 4, maxLocals := 5, code := method_4_code, exceptionTable := #[], attributes := #[] }
def k1m3 : Method := { name := "makeSource", desc := "(IBBBB)[B", sig := { parameters := [.int, .byte, .byte, .byte, .byte], returnType := some (.array .byte) }, accessFlags := 10, code := some k1c3 }
/-- com/example/fountainwire/fountainwire/codec/OctetsAddPinLaw -/
def k1 : Class := { plain "com/example/fountainwire/fountainwire/codec/OctetsAddPinLaw" (some 0) with
  accessFlags := 49
  interfaces := #[]
  cf := some (fileOf pool1 9 #[] #[{ accessFlags := 1, nameIndex := 5, descriptorIndex := 6, attributes := #[] }, { accessFlags := 9, nameIndex := 26, descriptorIndex := 27, attributes := #[] }, { accessFlags := 10, nameIndex := 22, descriptorIndex := 23, attributes := #[] }, { accessFlags := 10, nameIndex := 12, descriptorIndex := 13, attributes := #[] }] 49 2 #[] #[])
  fields := #[]
  methods := #[k1m0, k1m1, k1m2, k1m3]
  instanceTypes := #[]
  staticTypes := #[]
  resolved := Array.replicate 33 none
  statics := none }

def pool2 : Array CpInfo := pool [(2, .class_ 4), (1, u "java/lang/Object"), (0, u "<init>"), (0, u "()V"), (1, .class_ 10), (1, u "com/example/fountainwire/fountainwire/codec/Octets"), (0, u "EXP"), (0, u "[I"), (9, u "LOG"), (2, u "add"), (0, u "([B[B)V"), (2, u "PRODUCTS"), (0, u "[[B"), (1, u "ALPHA"), (0, u "I"), (2, u "POLYNOMIAL")] 16

def k2m0 : Method := { name := "<init>", desc := "()V", sig := { parameters := [], returnType := none }, accessFlags := 2, code := none }
def k2c1 : Code := { maxStack := 5, maxLocals := 3, code := prog_16_method_4_code, exceptionTable := #[], attributes := #[] }
def k2m1 : Method := { name := "add", desc := "([B[B)V", sig := { parameters := [(.array .byte), (.array .byte)], returnType := none }, accessFlags := 8, code := some k2c1 }
/-- com/example/fountainwire/fountainwire/codec/Octets -/
def k2 : Class := { plain "com/example/fountainwire/fountainwire/codec/Octets" (some 0) with
  accessFlags := 48
  interfaces := #[]
  cf := some (fileOf pool2 8 #[] #[{ accessFlags := 2, nameIndex := 5, descriptorIndex := 6, attributes := #[] }, { accessFlags := 8, nameIndex := 25, descriptorIndex := 26, attributes := #[] }] 48 2 #[] #[{ accessFlags := 24, nameIndex := 32, descriptorIndex := 33, attributes := #[] }, { accessFlags := 26, nameIndex := 36, descriptorIndex := 33, attributes := #[] }, { accessFlags := 26, nameIndex := 11, descriptorIndex := 12, attributes := #[] }, { accessFlags := 26, nameIndex := 22, descriptorIndex := 12, attributes := #[] }, { accessFlags := 26, nameIndex := 29, descriptorIndex := 30, attributes := #[] }])
  fields := #[{ name := "ALPHA", type := .int, accessFlags := 24, slot := 0, constantValue := 0 }, { name := "POLYNOMIAL", type := .int, accessFlags := 26, slot := 1, constantValue := 0 }, { name := "EXP", type := (.array .int), accessFlags := 26, slot := 2, constantValue := 0 }, { name := "LOG", type := (.array .int), accessFlags := 26, slot := 3, constantValue := 0 }, { name := "PRODUCTS", type := (.array (.array .byte)), accessFlags := 26, slot := 4, constantValue := 0 }]
  methods := #[k2m0, k2m1]
  instanceTypes := #[]
  staticTypes := #[.int, .int, (.array .int), (.array .int), (.array (.array .byte))]
  resolved := Array.replicate 53 none
  statics := none }

def pool3 : Array CpInfo := pool [(1, u "java/lang/Cloneable"), (0, .class_ 1), (0, u "java/lang/Object"), (0, .class_ 3)] 3

/-- java/lang/Cloneable -/
def k3 : Class := { plain "java/lang/Cloneable" (some 0) with
  accessFlags := 1537
  interfaces := #[]
  cf := some (fileOf pool3 2 #[] #[] 1537 4 #[] #[])
  fields := #[]
  methods := #[]
  instanceTypes := #[]
  staticTypes := #[]
  resolved := Array.replicate 8 none
  statics := none }

def pool4 : Array CpInfo := pool [(1, u "java/io/Serializable"), (0, .class_ 1), (0, u "java/lang/Object"), (0, .class_ 3)] 3

/-- java/io/Serializable -/
def k4 : Class := { plain "java/io/Serializable" (some 0) with
  accessFlags := 1537
  interfaces := #[]
  cf := some (fileOf pool4 2 #[] #[] 1537 4 #[] #[])
  fields := #[]
  methods := #[]
  instanceTypes := #[]
  staticTypes := #[]
  resolved := Array.replicate 8 none
  statics := none }

/-- the primitive byte -/
def k5 : Class := { plain "byte" none with kind := .primitive 'B', accessFlags := 0x411 }
/-- [B -/
def k6 : Class := { plain "[B" (some 0) with kind := .array 5 .byte, interfaces := #[3, 4], accessFlags := 1041 }

/-- the primitive int -/
def k7 : Class := { plain "int" none with kind := .primitive 'I', accessFlags := 0x411 }
/-- [I -/
def k8 : Class := { plain "[I" (some 0) with kind := .array 7 .int, interfaces := #[3, 4], accessFlags := 1041 }

def heap : Heap := #[]
def classes : Array Class := #[k0, k1, k2, k3, k4, k5, k6, k7, k8]
def interned : List (Array UInt16 × Addr) := []
def slotsUsed : Nat := 0
def theMethod : MethodId := ⟨1, 1⟩
def args0 : Array Value := #[.int 7, .int 4, .int 3]
def aboutOver (below : List Frame) : State where
  vm := { classes := classes, interned := interned.toArray }
  heap := heap
  slotsUsed := slotsUsed
  threads := #[{ frames := .invoking theMethod args0 :: below }]
def below0 : List Frame := [.native { method := ⟨0, 0⟩, args := #[] }]
def about1 : State := aboutOver below0
def p0 : Program := .bare "" "" ""
def e0 : Env := launch0.env 0 0 0
theorem w_frames : about1.frames = Frame.invoking theMethod args0 :: below0 := rfl
set_option maxRecDepth 65536 in
theorem w_args : argsFit about1.vm theMethod args0 = true := by decide +kernel
set_option maxRecDepth 65536 in
theorem w_heap : heapFits about1 = true := by decide +kernel
set_option maxRecDepth 65536 in
theorem w_runnable : about1.curStatus? = some .runnable := by decide +kernel
set_option maxRecDepth 65536 in
theorem w_alone : about1.alone = true := by decide +kernel
set_option maxRecDepth 65536 in
theorem w_named : about1.methodNamed? x = some theMethod := by decide +kernel
set_option maxRecDepth 65536 in
theorem w_hears : about1.hears theMethod below0 = true := by decide +kernel
set_option maxRecDepth 65536 in
theorem w_ripe : about1.ripe theMethod args0 below0 = true := by decide +kernel
theorem w_running : about1.status = .running := rfl
set_option maxRecDepth 65536 in
theorem w_room : about1.hasRoom e0.platform room_1 = true :=
  launch0.hasRoom_least _ room_1 (by decide +kernel) (by decide +kernel) (by decide +kernel) (by decide +kernel) (by decide +kernel) (by decide +kernel)
theorem allAtoms_all (ts : List Jvm.Cond) (a : Array Jvm.Value) (st : Jvm.State) : (allAtoms ts).before a st = ts.all (fun c => c.before a st) := by
  induction ts with
  | nil => rfl
  | cons c t ih =>
    show (Jvm.Cond.and c (allAtoms t)).before a st = _
    rw [Jvm.Cond.before_and, ih, List.all_cons]
def words1 : List Jvm.Cond := Jvm.Cond.code x code maxLocals ret :: tables_1
/-- a 'code' word, met by the world's own term for the bytes: nothing is compared byte by byte -/
theorem code_word {y : MethodName} {bytes : ByteArray} {mx : Nat} {rt : Option FieldType} {a : Array Value} {s : State} {m : MethodId} {meth : Method} {c : Code} (h1 : s.methodNamed? y = some m) (h2 : s.vm.method? m = some meth) (h3 : meth.code = some c) (h4 : c.code = bytes)
    (h5 : (c.maxLocals == mx && c.exceptionTable.isEmpty && decide (c.maxStack ≤ mostOperands) && decide (meth.sig.returnType = rt) && !meth.locks && decide (parseMethodDescriptor y.desc = some meth.sig)) = true) : (Jvm.Cond.code y bytes mx rt).before a s = true := by
  simp only [Bool.and_eq_true, beq_iff_eq, Bool.not_eq_true', decide_eq_true_eq] at h5
  obtain ⟨⟨⟨⟨⟨g1, g2⟩, g3⟩, g4⟩, g5⟩, g6⟩ := h5
  simp [Cond.before, Cond.holds, Cond.value, h1, h2, h3, h4, g1, g2, g3, g4, g5, g6]
def isCode : Jvm.Cond → Bool
  | .code _ _ _ _ => true
  | _ => false
theorem all_split {L : List Jvm.Cond} {P : Jvm.Cond → Bool} (h1 : L.all (fun c => isCode c || P c) = true) (h2 : ∀ c ∈ L.filter isCode, P c = true) : L.all P = true := by
  refine List.all_eq_true.mpr fun c hc => ?_
  have h := List.all_eq_true.mp h1 c hc
  rcases Bool.eq_false_or_eq_true (isCode c) with hi | hi
  · exact h2 c (List.mem_filter.mpr ⟨hc, hi⟩)
  · simpa [hi] using h
set_option maxRecDepth 65536 in
theorem w_c0 : (Jvm.Cond.code x code maxLocals ret).before args0 about1 = true := code_word (m := ⟨1, 1⟩) (meth := k1m1) (c := k1c1) (by decide +kernel) rfl rfl rfl (by decide +kernel)
set_option maxRecDepth 65536 in
theorem w_c1 : (Jvm.Cond.code ({ cls := "com/example/fountainwire/fountainwire/codec/OctetsAddPinLaw", name := "makeSource", desc := "(IBBBB)[B" } : Jvm.MethodName) method_4_code (5 : Nat) (Option.some (Jvm.ClassFile.FieldType.array Jvm.ClassFile.FieldType.byte))).before args0 about1 = true := code_word (m := ⟨1, 3⟩) (meth := k1m3) (c := k1c3) (by decide +kernel) rfl rfl rfl (by decide +kernel)
set_option maxRecDepth 65536 in
theorem w_c2 : (Jvm.Cond.code ({ cls := "com/example/fountainwire/fountainwire/codec/Octets", name := "add", desc := "([B[B)V" } : Jvm.MethodName) prog_16_method_4_code (3 : Nat) (Option.none : Option Jvm.ClassFile.FieldType)).before args0 about1 = true := code_word (m := ⟨2, 1⟩) (meth := k2m1) (c := k2c1) (by decide +kernel) rfl rfl rfl (by decide +kernel)
set_option maxRecDepth 65536 in
theorem w_c3 : (Jvm.Cond.code ({ cls := "com/example/fountainwire/fountainwire/codec/OctetsAddPinLaw", name := "expect", desc := "(BBZ)B" } : Jvm.MethodName) method_3_code (3 : Nat) (Option.some Jvm.ClassFile.FieldType.byte)).before args0 about1 = true := code_word (m := ⟨1, 2⟩) (meth := k1m2) (c := k1c2) (by decide +kernel) rfl rfl rfl (by decide +kernel)
def codes1 : List Jvm.Cond := [Jvm.Cond.code x code maxLocals ret, Jvm.Cond.code ({ cls := "com/example/fountainwire/fountainwire/codec/OctetsAddPinLaw", name := "makeSource", desc := "(IBBBB)[B" } : Jvm.MethodName) method_4_code (5 : Nat) (Option.some (Jvm.ClassFile.FieldType.array Jvm.ClassFile.FieldType.byte)), Jvm.Cond.code ({ cls := "com/example/fountainwire/fountainwire/codec/Octets", name := "add", desc := "([B[B)V" } : Jvm.MethodName) prog_16_method_4_code (3 : Nat) (Option.none : Option Jvm.ClassFile.FieldType), Jvm.Cond.code ({ cls := "com/example/fountainwire/fountainwire/codec/OctetsAddPinLaw", name := "expect", desc := "(BBZ)B" } : Jvm.MethodName) method_3_code (3 : Nat) (Option.some Jvm.ClassFile.FieldType.byte)]
set_option maxRecDepth 65536 in
theorem codes_eq : words1.filter isCode = codes1 := rfl
theorem w_codes : ∀ c ∈ words1.filter isCode, c.before args0 about1 = true := by
  rw [codes_eq]
  intro c hc
  simp only [codes1, List.mem_cons, List.not_mem_nil, or_false] at hc
  rcases hc with rfl | rfl | rfl | rfl
  · exact w_c0
  · exact w_c1
  · exact w_c2
  · exact w_c3
set_option maxRecDepth 65536 in
theorem w_t1 : words1.all (fun c => isCode c || c.before args0 about1) = true := by decide +kernel
theorem w_tables : (allAtoms (Jvm.Cond.code x code maxLocals ret :: tables_1)).before args0 about1 = true := by
  rw [allAtoms_all]
  show words1.all (fun c => c.before args0 about1) = true
  refine all_split ?_ w_codes
  rw [w_t1]
set_option maxRecDepth 65536 in
theorem w_case : (Jvm.Cond.and given_1 narrow_1).before args0 about1 = true := by decide +kernel
theorem w_applies : (headSpec (Jvm.Cond.code x code maxLocals ret :: tables_1) room_1).applies x e0.platform about1 = true :=
  (Spec.applies_iff w_frames).mpr ⟨w_running, w_runnable, w_alone, w_named, w_hears, w_ripe, w_room, w_tables⟩
theorem atStart : AtStart classFile x code maxLocals ret World_1 tables_1 room_1 Calls_1 rest_1 Pre_1 launch0 p0 e0 about1 theMethod args0 below0 :=
  ⟨lists_1, trivial, launch0.admits_env _ _ _, launch0.least_env, fairChoices_fair.cas, fairChoices_fair.clock, w_frames, w_args, w_heap, w_applies, trivial, trivial, w_case⟩
end start1
theorem witness_1 : WitnessClaimed_1 := ⟨start1.p0, start1.e0, start1.about1, start1.theMethod, start1.args0, start1.below0, start1.atStart⟩
end Jvm.Pilot.@@N@@
