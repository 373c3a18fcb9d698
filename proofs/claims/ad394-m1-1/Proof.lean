import JvmDerived
import JvmDerived.Pilot.@@N@@Statement
import JvmDerived.Pilot.@@N@@Code
set_option linter.unusedVariables false
set_option linter.unusedSimpArgs false
namespace Jvm.RoadKit
open Sem ClassFile Op Lib Jvm.Stand Jvm.Free Jvm.LawKit
section New
variable {p : Program} {l : Launch} {e : Env} {R : Room} {s : State} {m : MethodId} {args : Array Value} {below : List Frame} {meth : Method} {c : Code} {T : State} {locs : List Loc} {cells slots : Nat}
theorem retI (X : Stand p l e R s m args below meth c T locs cells slots) (hx : p.tables.exec = Jvm.exec) {pc : Nat} {Ls : Array Slot} {z : Int32} {rest : List Value} (hret : meth.sig.returnType = some .int) (hd : decode c.code pc = .ok (.ireturn, 1)) {fs : List Frame}
    (hl : ∀ (f : JFrame) (acts : List Action), f.method = m → f.locked = none → f.entered = [] → (doReturn e (T.setTop f) acts (some (.int z))).1 = T.setFrames fs) : Steps p.tables e below (T.setTop (mkF m pc Ls (.int z :: rest))) (T.setFrames fs) := by
  have hm' : T.vm.method? m = some meth := X.method'
  have hn : narrow .int (.int z) = .int z := rfl
  show Steps p.tables e below (T.setTop { method := m, pc := pc, locals := Ls, stack := _ :: rest, locked := none }) _
  jvm_step X.here [X.here.top, hx, hd, hm', hret, hn]
  first | (intro acts; rw [hl _ acts rfl rfl rfl]) | rw [hl _ _ rfl rfl rfl]
  exact Steps.refl _
end New
end Jvm.RoadKit
@@BLOCK:NumsL.lean.txt@@
namespace Jvm.Pilot.@@N@@
open Jvm Jvm.ClassFile Sem Op Lib Jvm.Free Jvm.Stand Jvm.LawKit Jvm.RoadKit Bundle Jvm.Pilot.@@N@@.Jvm.D
theorem own_lt {i n : Nat} (h : i < n) (hn : n ≤ 255) : Int32.ofNat i < Int32.ofNat n := by
  rw [Int32.lt_iff_toInt_lt, Int32.toInt_ofNat_of_lt (by omega), Int32.toInt_ofNat_of_lt (by omega)]
  omega
theorem own_nlt {i n : Nat} (h : Int32.ofNat i < Int32.ofNat n) (hi : i ≤ 255) (hn : n ≤ 255) : i < n := by
  rw [Int32.lt_iff_toInt_lt, Int32.toInt_ofNat_of_lt (by omega), Int32.toInt_ofNat_of_lt (by omega)] at h
  omega
theorem own_nn {n : Nat} (hn : n ≤ 255) : ¬ Int32.ofNat n < 0 := by
  rw [Int32.lt_iff_toInt_lt, Int32.toInt_ofNat_of_lt (by omega), show (0 : Int32).toInt = 0 from rfl]
  omega
theorem own_n32 {n : Nat} (hn : n ≤ 255) : (Int32.ofNat n).toNatClampNeg = n := by
  rw [Int32.toNatClampNeg, Int32.toInt_ofNat_of_lt (by omega)]; rfl
theorem own_one (i : Nat) : Int32.ofNat i + (1 : Int32) = Int32.ofNat (i + 1) := (Int32.ofNat_add i 1).symm
theorem own_rem (x : Int32) (q : Nat) (h0 : 0 < q) (hq : q ≤ 255) : ∃ n : Nat, n < q ∧ ((x &&& (2147483647 : Int32)) % Int32.ofNat q) = Int32.ofNat n := by
  have h1 : (x &&& (2147483647 : Int32)).toInt = x.toInt % 2 ^ 31 := Jvm.Kit.i32_mask x 2147483647 (k := 31) (by decide) (by decide)
  have h2 : (Int32.ofNat q).toInt = (q : Int) := Int32.toInt_ofNat_of_lt (by omega)
  have h3 : ((x &&& (2147483647 : Int32)) % Int32.ofNat q).toInt = (x.toInt % 2 ^ 31) % (q : Int) := by
    rw [Jvm.Kit.i32_rem_nonneg (by rw [h1]; omega), h1, h2]
  have h4 : 0 ≤ (x.toInt % 2 ^ 31) % (q : Int) := Int.emod_nonneg _ (by omega)
  have h5 : (x.toInt % 2 ^ 31) % (q : Int) < (q : Int) := Int.emod_lt_of_pos _ (by omega)
  refine ⟨((x.toInt % 2 ^ 31) % (q : Int)).toNat, by omega, ?_⟩
  rw [← Int32.toInt_inj, h3, Int32.toInt_ofNat_of_lt (by omega)]
  omega
def own_vals (f : Nat → Int32) (n : Nat) : List Value := (List.range n).map fun j => .int (f j)
theorem own_len (f : Nat → Int32) (n : Nat) : (own_vals f n).length = n := by simp [own_vals]
theorem own_at (f : Nat → Int32) {n j : Nat} (h : j < n) (d : Value) : (own_vals f n).getD j d = .int (f j) := by simp [own_vals, List.getD_eq_getElem?_getD, h]
def own_upd (f : Nat → Int32) (i : Nat) (v : Int32) : Nat → Int32 := fun j => if j = i then v else f j
theorem own_set (f : Nat → Int32) (n i : Nat) (v : Int32) : (own_vals f n).set i (.int v) = own_vals (own_upd f i v) n := by
  apply List.ext_getElem?
  intro j
  rw [List.getElem?_set]
  by_cases h : i = j
  · subst h
    by_cases h2 : i < n
    · simp [own_vals, own_upd, h2]
    · simp [own_vals, own_upd, h2]
  · have h3 : ¬ j = i := fun q => h q.symm
    by_cases h2 : j < n
    · simp [own_vals, own_upd, h, h3, h2]
    · simp [own_vals, own_upd, h, h3, h2]
theorem own_pad (n : Nat) : ∀ i, (own_vals (fun _ => 0) n).getD i (.int (0 : Int32)) = ([] : List Value).getD i (.int (0 : Int32)) := fun i => by
  by_cases h : i < n
  · rw [own_at _ h]; simp
  · simp [own_vals, List.getD_eq_getElem?_getD, h]
def own_el (q : Int64) (s b i : Int32) : Int32 := if ((s >>> (i &&& 31)) &&& (1 : Int32)) = (0 : Int32) then (((((q.toUInt64 >>> (((8 : Int32) * i) &&& 0x3f).toInt64.toUInt64).toInt64).toInt32).toInt8.toInt32).toInt8.toInt32) else (b.toInt8.toInt32)
def own_st (k a c e : Nat) (w b : Int32) : Nat := if k < a then e else if k < c then (if w = b then k else e) else e
theorem own_s1 {k a c e z : Nat} {w b : Int32} (hk : k ≤ 255) (ha : a ≤ 255) (hz : z = own_st k a c e w b) (h : Int32.ofNat k < Int32.ofNat a) : Int32.ofNat z = Int32.ofNat e := by
  rw [hz, own_st, if_pos (own_nlt h hk ha)]
theorem own_s2 {k a c e z : Nat} {w b : Int32} (hk : k ≤ 255) (ha : a ≤ 255) (hc : c ≤ 255) (hz : z = own_st k a c e w b) (h : ¬ Int32.ofNat k < Int32.ofNat a) (h2 : Int32.ofNat k < Int32.ofNat c) (h3 : w = b) : Int32.ofNat z = Int32.ofNat k := by
  rw [hz, own_st, if_neg (fun q => h (own_lt q ha)), if_pos (own_nlt h2 hk hc), if_pos h3]
theorem own_s3 {k a c e z : Nat} {w b : Int32} (hk : k ≤ 255) (ha : a ≤ 255) (hc : c ≤ 255) (hz : z = own_st k a c e w b) (h : ¬ Int32.ofNat k < Int32.ofNat a) (h2 : Int32.ofNat k < Int32.ofNat c) (h3 : ¬ w = b) : Int32.ofNat z = Int32.ofNat e := by
  rw [hz, own_st, if_neg (fun q => h (own_lt q ha)), if_pos (own_nlt h2 hk hc), if_neg h3]
theorem own_s4 {k a c e z : Nat} {w b : Int32} (ha : a ≤ 255) (hc : c ≤ 255) (hz : z = own_st k a c e w b) (h : ¬ Int32.ofNat k < Int32.ofNat a) (h2 : ¬ Int32.ofNat k < Int32.ofNat c) : Int32.ofNat z = Int32.ofNat e := by
  rw [hz, own_st, if_neg (fun q => h (own_lt q ha)), if_neg (fun q => h2 (own_lt q hc))]
def own_find (f : Nat → Int32) (b : Int32) : Nat → Nat → Nat
  | 0, i => i
  | k + 1, i => if f i = b then i else own_find f b k (i + 1)
def own_res (f : Nat → Int32) (b : Int32) (a c : Nat) : Nat := if a < c then own_find f b (c - a) a else c
theorem own_law (f : Nat → Int32) (b : Int32) (a c : Nat) (ha : a < 7) (hc : c < 7) : own_st 0 a c (own_st 1 a c (own_st 2 a c (own_st 3 a c (own_st 4 a c (own_st 5 a c c (f 5) b) (f 4) b) (f 3) b) (f 2) b) (f 1) b) (f 0) b = own_res f b a c := by
  have h1 : a = 0 ∨ a = 1 ∨ a = 2 ∨ a = 3 ∨ a = 4 ∨ a = 5 ∨ a = 6 := by omega
  have h2 : c = 0 ∨ c = 1 ∨ c = 2 ∨ c = 3 ∨ c = 4 ∨ c = 5 ∨ c = 6 := by omega
  rcases h1 with rfl | rfl | rfl | rfl | rfl | rfl | rfl <;> rcases h2 with rfl | rfl | rfl | rfl | rfl | rfl | rfl <;> simp [own_st, own_res, own_find]
theorem pn_1 : plainName "com/example/vouchgate/vouchgate/http/FormIndexOfPinLaw" = true := by first | (simp [plainName, overriddenIn]; done) | decide +kernel
theorem ef_1 (m : MethodId) (q1 : Int64) (p2 : Int32) (p3 : Int32) (p4 : Int32) : entryFrame m #[(.long q1), (.int p2), (.int p3), (.int p4)] 5 = mkF m 0 #[.val (.long q1), .second, .val (.int p2), .val (.int p3), .val (.int p4)] [] := by first | (simp [entryFrame, mkF, argsToLocals, Value.category]; done) | rfl
theorem d1_0 : decode method_2_code 0 = .ok (.iload_n 2, 1) := by decide +kernel
theorem d1_1 : decode method_2_code 1 = .ok (.iload 4, 2) := by decide +kernel
theorem d1_3 : decode method_2_code 3 = .ok (.ishr, 1) := by decide +kernel
theorem d1_4 : decode method_2_code 4 = .ok (.iconst 1, 1) := by decide +kernel
theorem d1_5 : decode method_2_code 5 = .ok (.iand, 1) := by decide +kernel
theorem d1_6 : decode method_2_code 6 = .ok (.ifCond .eq 5, 3) := by decide +kernel
theorem d1_9 : decode method_2_code 9 = .ok (.iload_n 3, 1) := by decide +kernel
theorem d1_10 : decode method_2_code 10 = .ok (.ireturn, 1) := by decide +kernel
theorem d1_11 : decode method_2_code 11 = .ok (.lload_n 0, 1) := by decide +kernel
theorem d1_12 : decode method_2_code 12 = .ok (.bipush 8, 2) := by decide +kernel
theorem d1_14 : decode method_2_code 14 = .ok (.iload 4, 2) := by decide +kernel
theorem d1_16 : decode method_2_code 16 = .ok (.imul, 1) := by decide +kernel
theorem d1_17 : decode method_2_code 17 = .ok (.lushr, 1) := by decide +kernel
theorem d1_18 : decode method_2_code 18 = .ok (.l2i, 1) := by decide +kernel
theorem d1_19 : decode method_2_code 19 = .ok (.i2b, 1) := by decide +kernel
theorem d1_20 : decode method_2_code 20 = .ok (.ireturn, 1) := by decide +kernel
def Q1 (r : Int32) (h0 : Heap) (n0 : Nat) (v : Option Value) (h : Heap) (L : List Loc) : Prop := v = some (.int r) ∧ Fr n0 L ∧ h = h0
set_option maxRecDepth 65536 in
set_option maxHeartbeats 40000000 in
theorem rm1 (l : Launch) (Z : State) (a0 : Array Value) (hw : ∀ d ∈ tables_1, d.before a0 Z = true) (ws : List Jvm.Cond) (q1 : Int64) (p2 : Int32) (p3 : Int32) (p4 : Int32) (r : Int32) (h0 : Heap) (n0 : Nat) (Z0 : n0 ≤ h0.size) (k1 : (((p2 >>> (p4 &&& 31)) &&& (1 : Int32)) = (0 : Int32)) → r = (((((q1.toUInt64 >>> (((8 : Int32) * p4) &&& 0x3f).toInt64.toUInt64).toInt64).toInt32).toInt8.toInt32).toInt8.toInt32)) (k2 : ¬ (((p2 >>> (p4 &&& 31)) &&& (1 : Int32)) = (0 : Int32)) → r = (p3.toInt8.toInt32)) :
    MetFree l (⟨"com/example/vouchgate/vouchgate/http/FormIndexOfPinLaw", "el", "(JIBI)B"⟩ : MethodName) (head1 (Jvm.Cond.code (⟨"com/example/vouchgate/vouchgate/http/FormIndexOfPinLaw", "el", "(JIBI)B"⟩ : MethodName) method_2_code 5 (some .byte) :: ws) ({ frames := 0, cells := 0, slots := 0, locals := 0 } : Room)) (fun a U => a = #[(.long q1), (.int p2), (.int p3), (.int p4)] ∧ Z.Warmed39 U.vm ∧ U.heap = h0) (fun _ _ _ _ _ => True) (fun _ U o U' => ∃ v L, o = .returned v ∧ Q1 r h0 n0 v U'.heap L ∧ FrameEnd U o U' L ({ frames := 0, cells := 0, slots := 0, locals := 0 } : Room).cells ({ frames := 0, cells := 0, slots := 0, locals := 0 } : Room).slots) := by
  refine MetFree.of_bodySF (plainFor_of_name pn_1) hisR ?_
  intro p e s m args below meth c s₁ Bd hml0 hP hK
  obtain ⟨rfl, hZ, hh⟩ := hP
  have hx := Bd.exec
  have hby := Bd.bytes
  have hml : c.maxLocals = 5 := hml0
  have hown : s.vm.findClass "com/example/vouchgate/vouchgate/http/FormIndexOfPinLaw" = some m.cls := findClass_of_methodNamed Bd.named
  have hnm := (name_of_methodNamed Bd.named Bd.method).1
  have X0 : Stand p l e ({ frames := 0, cells := 0, slots := 0, locals := 0 } : Room) s m #[(.long q1), (.int p2), (.int p3), (.int p4)] below meth c s₁ [] 0 0 := Stand.of_body Bd
  have e0 : s₁.heap = h0 := by rw [← hh, Bd.state]; rfl
  have N0 := Fr.nil n0
  have pre0 : ∀ t, Steps p.tables e below (s₁.setTop (mkF m 0 #[.val (.long q1), .second, .val (.int p2), .val (.int p3), .val (.int p4)] [])) t → Steps p.tables e below (s₁.setTop (entryFrame m #[(.long q1), (.int p2), (.int p3), (.int p4)] 5)) t := fun t k => castTop (ef_1 m q1 p2 p3 p4) k
  obtain ⟨fs, hr, hrun, hended, hW, hsame⟩ := X0.leave (v := some (.int r)) (fun h => by rw [Bd.returns] at h; cases h)
  refine ⟨_, _, pre0 _ ?_, hrun, hended, _, _, rfl, ?_, ⟨_, rfl⟩, hW, hsame.mono (by decide) (by decide)⟩
  · show Steps p.tables e below (s₁.setTop (mkF m 0 #[.val (.long q1), .second, .val (.int p2), .val (.int p3), .val (.int p4)] [])) _
    refine XS.iloadN X0.here hx rfl (hb hby d1_0) rfl ?_
    show Steps p.tables e below (s₁.setTop (mkF m 1 #[.val (.long q1), .second, .val (.int p2), .val (.int p3), .val (.int p4)] [(.int p2)])) _
    refine XS.iload X0.here hx rfl (hb hby d1_1) rfl ?_
    show Steps p.tables e below (s₁.setTop (mkF m 3 #[.val (.long q1), .second, .val (.int p2), .val (.int p3), .val (.int p4)] [(.int p4), (.int p2)])) _
    refine XS.ishr X0.here hx rfl (hb hby d1_3) rfl ?_
    show Steps p.tables e below (s₁.setTop (mkF m 4 #[.val (.long q1), .second, .val (.int p2), .val (.int p3), .val (.int p4)] [(.int (p2 >>> (p4 &&& 31)))])) _
    refine XS.iconst X0.here hx rfl (hb hby d1_4) ?_
    show Steps p.tables e below (s₁.setTop (mkF m 5 #[.val (.long q1), .second, .val (.int p2), .val (.int p3), .val (.int p4)] [(.int (1 : Int32)), (.int (p2 >>> (p4 &&& 31)))])) _
    refine XS.iand X0.here hx rfl (hb hby d1_5) rfl ?_
    show Steps p.tables e below (s₁.setTop (mkF m 6 #[.val (.long q1), .second, .val (.int p2), .val (.int p3), .val (.int p4)] [(.int ((p2 >>> (p4 &&& 31)) &&& (1 : Int32)))])) _
    by_cases hc6 : ((p2 >>> (p4 &&& 31)) &&& (1 : Int32)) = (0 : Int32)
    · refine XS.ifYes X0.here hx rfl (pc0 := 6) (pc' := 11) rfl (hb hby d1_6) rfl ((if0 _ _).trans (teq hc6).1) (by decide) (by decide) ?_
      show Steps p.tables e below (s₁.setTop (mkF m 11 #[.val (.long q1), .second, .val (.int p2), .val (.int p3), .val (.int p4)] [])) _
      refine XS.lloadN X0.here hx rfl (hb hby d1_11) rfl ?_
      show Steps p.tables e below (s₁.setTop (mkF m 12 #[.val (.long q1), .second, .val (.int p2), .val (.int p3), .val (.int p4)] [(.long q1)])) _
      refine XS.bipush X0.here hx rfl (hb hby d1_12) ?_
      show Steps p.tables e below (s₁.setTop (mkF m 14 #[.val (.long q1), .second, .val (.int p2), .val (.int p3), .val (.int p4)] [(.int (8 : Int32)), (.long q1)])) _
      refine XS.iload X0.here hx rfl (hb hby d1_14) rfl ?_
      show Steps p.tables e below (s₁.setTop (mkF m 16 #[.val (.long q1), .second, .val (.int p2), .val (.int p3), .val (.int p4)] [(.int p4), (.int (8 : Int32)), (.long q1)])) _
      refine XS.imul X0.here hx rfl (hb hby d1_16) rfl ?_
      show Steps p.tables e below (s₁.setTop (mkF m 17 #[.val (.long q1), .second, .val (.int p2), .val (.int p3), .val (.int p4)] [(.int ((8 : Int32) * p4)), (.long q1)])) _
      refine XS.lushr X0.here hx rfl (hb hby d1_17) rfl ?_
      show Steps p.tables e below (s₁.setTop (mkF m 18 #[.val (.long q1), .second, .val (.int p2), .val (.int p3), .val (.int p4)] [(.long ((q1.toUInt64 >>> (((8 : Int32) * p4) &&& 0x3f).toInt64.toUInt64).toInt64))])) _
      refine XS.l2i X0.here hx rfl (hb hby d1_18) rfl ?_
      show Steps p.tables e below (s₁.setTop (mkF m 19 #[.val (.long q1), .second, .val (.int p2), .val (.int p3), .val (.int p4)] [(.int (((q1.toUInt64 >>> (((8 : Int32) * p4) &&& 0x3f).toInt64.toUInt64).toInt64).toInt32))])) _
      refine XS.i2b X0.here hx rfl (hb hby d1_19) rfl ?_
      rw [k1 hc6] at hr
      show Steps p.tables e below (s₁.setTop (mkF m 20 #[.val (.long q1), .second, .val (.int p2), .val (.int p3), .val (.int p4)] [(.int ((((q1.toUInt64 >>> (((8 : Int32) * p4) &&& 0x3f).toInt64.toUInt64).toInt64).toInt32).toInt8.toInt32))])) _
      exact retN X0 hx (t := .byte) Bd.returns (by simp) (hb hby d1_20) hr
    · refine XS.ifNo X0.here hx rfl (hb hby d1_6) rfl ((if0 _ _).trans (feq hc6).1) ?_
      show Steps p.tables e below (s₁.setTop (mkF m 9 #[.val (.long q1), .second, .val (.int p2), .val (.int p3), .val (.int p4)] [])) _
      refine XS.iloadN X0.here hx rfl (hb hby d1_9) rfl ?_
      rw [k2 hc6] at hr
      show Steps p.tables e below (s₁.setTop (mkF m 10 #[.val (.long q1), .second, .val (.int p2), .val (.int p3), .val (.int p4)] [(.int p3)])) _
      exact retN X0 hx (t := .byte) Bd.returns (by simp) (hb hby d1_10) hr
  · show Q1 r h0 n0 _ s₁.heap _
    rw [e0]
    exact ⟨rfl, N0, rfl⟩
theorem pn_2 : plainName "com/example/vouchgate/vouchgate/http/Form" = true := by first | (simp [plainName, overriddenIn]; done) | decide +kernel
theorem ef_2 (m : MethodId) (a1 : Addr) (p2 : Int32) (p3 : Int32) (p4 : Int32) : entryFrame m #[(.ref a1), (.int p2), (.int p3), (.int p4)] 5 = mkF m 0 #[.val (.ref a1), .val (.int p2), .val (.int p3), .val (.int p4), .unset] [] := by first | (simp [entryFrame, mkF, argsToLocals, Value.category]; done) | rfl
theorem d2_0 : decode prog_27_method_3_code 0 = .ok (.iload_n 2, 1) := by decide +kernel
theorem d2_1 : decode prog_27_method_3_code 1 = .ok (.istore 4, 2) := by decide +kernel
theorem d2_3 : decode prog_27_method_3_code 3 = .ok (.iload 4, 2) := by decide +kernel
theorem d2_5 : decode prog_27_method_3_code 5 = .ok (.iload_n 3, 1) := by decide +kernel
theorem d2_6 : decode prog_27_method_3_code 6 = .ok (.if_icmp .ge 20, 3) := by decide +kernel
theorem d2_9 : decode prog_27_method_3_code 9 = .ok (.aload_n 0, 1) := by decide +kernel
theorem d2_10 : decode prog_27_method_3_code 10 = .ok (.iload 4, 2) := by decide +kernel
theorem d2_12 : decode prog_27_method_3_code 12 = .ok (.baload, 1) := by decide +kernel
theorem d2_13 : decode prog_27_method_3_code 13 = .ok (.iload_n 1, 1) := by decide +kernel
theorem d2_14 : decode prog_27_method_3_code 14 = .ok (.if_icmp .ne 6, 3) := by decide +kernel
theorem d2_17 : decode prog_27_method_3_code 17 = .ok (.iload 4, 2) := by decide +kernel
theorem d2_19 : decode prog_27_method_3_code 19 = .ok (.ireturn, 1) := by decide +kernel
theorem d2_20 : decode prog_27_method_3_code 20 = .ok (.iinc 4 1, 3) := by decide +kernel
theorem d2_23 : decode prog_27_method_3_code 23 = .ok (.goto (-20), 3) := by decide +kernel
theorem d2_26 : decode prog_27_method_3_code 26 = .ok (.iload_n 3, 1) := by decide +kernel
theorem d2_27 : decode prog_27_method_3_code 27 = .ok (.ireturn, 1) := by decide +kernel
set_option maxRecDepth 65536 in
set_option maxHeartbeats 40000000 in
theorem t33 {p : Program} {l : Launch} {e : Env} {R : Room} {s : State} {m : MethodId} {args : Array Value} {below : List Frame} {meth : Method} {c : Code} {T0 : State} {locs : List Loc} {cells slots : Nat} {Z : State} {a0 : Array Value} {h0 : Heap} (o0 : Addr) (b1 : Int32) (s2 : Slot) (i3 : Int32) (i4 : Int32) (cl : Cell) (w : Int32)
    (X0 : Stand p l e R s m args below meth c T0 locs cells slots) (hx : p.tables.exec = Jvm.exec) (hZ : Z.Warmed39 s.vm) (hw : ∀ d ∈ tables_1, d.before a0 Z = true) (hby : c.code = prog_27_method_3_code) (hml : c.maxLocals = 5) (hown : s.vm.findClass "com/example/vouchgate/vouchgate/http/Form" = some m.cls) (e0 : T0.heap = h0) (Ar : Arr Z h0 o0 cl .byte) (hlt : i4 < i3) (hin : ¬ (i4 < 0 ∨ cl.slots.size ≤ i4.toNatClampNeg)) (hat : cl.slots[i4.toNatClampNeg]? = some (.int w)) (hne : ¬ (w = b1)) {target : State}
    (kt : Steps p.tables e below (T0.setTop (mkF m 3 #[.val (.ref o0), .val (.int b1), s2, .val (.int i3), .val (.int (i4 + (1 : Int32)))] [])) target) : Steps p.tables e below (T0.setTop (mkF m 3 #[.val (.ref o0), .val (.int b1), s2, .val (.int i3), .val (.int i4)] [])) target := by
  show Steps p.tables e below (T0.setTop (mkF m 3 #[.val (.ref o0), .val (.int b1), s2, .val (.int i3), .val (.int i4)] [])) _
  refine XS.iload X0.here hx rfl (hb hby d2_3) rfl ?_
  show Steps p.tables e below (T0.setTop (mkF m 5 #[.val (.ref o0), .val (.int b1), s2, .val (.int i3), .val (.int i4)] [(.int i4)])) _
  refine XS.iloadN X0.here hx rfl (hb hby d2_5) rfl ?_
  show Steps p.tables e below (T0.setTop (mkF m 6 #[.val (.ref o0), .val (.int b1), s2, .val (.int i3), .val (.int i4)] [(.int i3), (.int i4)])) _
  refine XS.icmpNo X0.here hx rfl (hb hby d2_6) rfl (tlt hlt).2.1 ?_
  show Steps p.tables e below (T0.setTop (mkF m 9 #[.val (.ref o0), .val (.int b1), s2, .val (.int i3), .val (.int i4)] [])) _
  refine XS.aloadN X0.here hx rfl (hb hby d2_9) rfl rfl ?_
  show Steps p.tables e below (T0.setTop (mkF m 10 #[.val (.ref o0), .val (.int b1), s2, .val (.int i3), .val (.int i4)] [(.ref o0)])) _
  refine XS.iload X0.here hx rfl (hb hby d2_10) rfl ?_
  show Steps p.tables e below (T0.setTop (mkF m 12 #[.val (.ref o0), .val (.int b1), s2, .val (.int i3), .val (.int i4)] [(.int i4), (.ref o0)])) _
  refine X0.baloadBytes hx (j := i4) (v := (.int w)) (by rw [e0]; exact Ar.1) (State.isArrayOf_alike hZ.alike Ar.2.1) Ar.2.2 hin hat (g := (mkF m 12 #[.val (.ref o0), .val (.int b1), s2, .val (.int i3), .val (.int i4)] [(.int i4), (.ref o0)])) rfl rfl (hb hby d2_12) _ ?_
  show Steps p.tables e below (T0.setTop (mkF m 13 #[.val (.ref o0), .val (.int b1), s2, .val (.int i3), .val (.int i4)] [(.int w)])) _
  refine XS.iloadN X0.here hx rfl (hb hby d2_13) rfl ?_
  show Steps p.tables e below (T0.setTop (mkF m 14 #[.val (.ref o0), .val (.int b1), s2, .val (.int i3), .val (.int i4)] [(.int b1), (.int w)])) _
  refine XS.icmpYes X0.here hx rfl (pc0 := 14) (pc' := 20) rfl (hb hby d2_14) rfl (feq hne).2 (by decide) (by decide) ?_
  show Steps p.tables e below (T0.setTop (mkF m 20 #[.val (.ref o0), .val (.int b1), s2, .val (.int i3), .val (.int i4)] [])) _
  refine XS.iinc X0.here hx rfl (hb hby d2_20) rfl (l' := #[.val (.ref o0), .val (.int b1), s2, .val (.int i3), .val (.int (i4 + (1 : Int32)))]) rfl ?_
  show Steps p.tables e below (T0.setTop (mkF m 23 #[.val (.ref o0), .val (.int b1), s2, .val (.int i3), .val (.int (i4 + (1 : Int32)))] [])) _
  refine XS.goto X0.here hx rfl (pc0 := 23) (pc' := 3) rfl (hb hby d2_23) (by decide) (by decide) ?_
  exact kt
set_option maxRecDepth 65536 in
set_option maxHeartbeats 40000000 in
theorem t319 {p : Program} {l : Launch} {e : Env} {R : Room} {s : State} {m : MethodId} {args : Array Value} {below : List Frame} {meth : Method} {c : Code} {T0 : State} {locs : List Loc} {cells slots : Nat} {Z : State} {a0 : Array Value} {h0 : Heap} (o0 : Addr) (b1 : Int32) (s2 : Slot) (i3 : Int32) (i4 : Int32) (cl : Cell) (w : Int32)
    (X0 : Stand p l e R s m args below meth c T0 locs cells slots) (hx : p.tables.exec = Jvm.exec) (hZ : Z.Warmed39 s.vm) (hw : ∀ d ∈ tables_1, d.before a0 Z = true) (hby : c.code = prog_27_method_3_code) (hml : c.maxLocals = 5) (hown : s.vm.findClass "com/example/vouchgate/vouchgate/http/Form" = some m.cls) (e0 : T0.heap = h0) (Ar : Arr Z h0 o0 cl .byte) (hlt : i4 < i3) (hin : ¬ (i4 < 0 ∨ cl.slots.size ≤ i4.toNatClampNeg)) (hat : cl.slots[i4.toNatClampNeg]? = some (.int w)) (heq : w = b1) {target : State}
    (kt : Steps p.tables e below (T0.setTop (mkF m 19 #[.val (.ref o0), .val (.int b1), s2, .val (.int i3), .val (.int i4)] [(.int i4)])) target) : Steps p.tables e below (T0.setTop (mkF m 3 #[.val (.ref o0), .val (.int b1), s2, .val (.int i3), .val (.int i4)] [])) target := by
  show Steps p.tables e below (T0.setTop (mkF m 3 #[.val (.ref o0), .val (.int b1), s2, .val (.int i3), .val (.int i4)] [])) _
  refine XS.iload X0.here hx rfl (hb hby d2_3) rfl ?_
  show Steps p.tables e below (T0.setTop (mkF m 5 #[.val (.ref o0), .val (.int b1), s2, .val (.int i3), .val (.int i4)] [(.int i4)])) _
  refine XS.iloadN X0.here hx rfl (hb hby d2_5) rfl ?_
  show Steps p.tables e below (T0.setTop (mkF m 6 #[.val (.ref o0), .val (.int b1), s2, .val (.int i3), .val (.int i4)] [(.int i3), (.int i4)])) _
  refine XS.icmpNo X0.here hx rfl (hb hby d2_6) rfl (tlt hlt).2.1 ?_
  show Steps p.tables e below (T0.setTop (mkF m 9 #[.val (.ref o0), .val (.int b1), s2, .val (.int i3), .val (.int i4)] [])) _
  refine XS.aloadN X0.here hx rfl (hb hby d2_9) rfl rfl ?_
  show Steps p.tables e below (T0.setTop (mkF m 10 #[.val (.ref o0), .val (.int b1), s2, .val (.int i3), .val (.int i4)] [(.ref o0)])) _
  refine XS.iload X0.here hx rfl (hb hby d2_10) rfl ?_
  show Steps p.tables e below (T0.setTop (mkF m 12 #[.val (.ref o0), .val (.int b1), s2, .val (.int i3), .val (.int i4)] [(.int i4), (.ref o0)])) _
  refine X0.baloadBytes hx (j := i4) (v := (.int w)) (by rw [e0]; exact Ar.1) (State.isArrayOf_alike hZ.alike Ar.2.1) Ar.2.2 hin hat (g := (mkF m 12 #[.val (.ref o0), .val (.int b1), s2, .val (.int i3), .val (.int i4)] [(.int i4), (.ref o0)])) rfl rfl (hb hby d2_12) _ ?_
  show Steps p.tables e below (T0.setTop (mkF m 13 #[.val (.ref o0), .val (.int b1), s2, .val (.int i3), .val (.int i4)] [(.int w)])) _
  refine XS.iloadN X0.here hx rfl (hb hby d2_13) rfl ?_
  show Steps p.tables e below (T0.setTop (mkF m 14 #[.val (.ref o0), .val (.int b1), s2, .val (.int i3), .val (.int i4)] [(.int b1), (.int w)])) _
  refine XS.icmpNo X0.here hx rfl (hb hby d2_14) rfl (teq heq).2 ?_
  show Steps p.tables e below (T0.setTop (mkF m 17 #[.val (.ref o0), .val (.int b1), s2, .val (.int i3), .val (.int i4)] [])) _
  refine XS.iload X0.here hx rfl (hb hby d2_17) rfl ?_
  exact kt
set_option maxRecDepth 65536 in
set_option maxHeartbeats 40000000 in
theorem t327 {p : Program} {l : Launch} {e : Env} {R : Room} {s : State} {m : MethodId} {args : Array Value} {below : List Frame} {meth : Method} {c : Code} {T0 : State} {locs : List Loc} {cells slots : Nat} {Z : State} {a0 : Array Value} {h0 : Heap} (o0 : Addr) (b1 : Int32) (s2 : Slot) (i3 : Int32) (i4 : Int32) 
    (X0 : Stand p l e R s m args below meth c T0 locs cells slots) (hx : p.tables.exec = Jvm.exec) (hZ : Z.Warmed39 s.vm) (hw : ∀ d ∈ tables_1, d.before a0 Z = true) (hby : c.code = prog_27_method_3_code) (hml : c.maxLocals = 5) (hown : s.vm.findClass "com/example/vouchgate/vouchgate/http/Form" = some m.cls) (e0 : T0.heap = h0) (hge : ¬ (i4 < i3)) {target : State}
    (kt : Steps p.tables e below (T0.setTop (mkF m 27 #[.val (.ref o0), .val (.int b1), s2, .val (.int i3), .val (.int i4)] [(.int i3)])) target) : Steps p.tables e below (T0.setTop (mkF m 3 #[.val (.ref o0), .val (.int b1), s2, .val (.int i3), .val (.int i4)] [])) target := by
  show Steps p.tables e below (T0.setTop (mkF m 3 #[.val (.ref o0), .val (.int b1), s2, .val (.int i3), .val (.int i4)] [])) _
  refine XS.iload X0.here hx rfl (hb hby d2_3) rfl ?_
  show Steps p.tables e below (T0.setTop (mkF m 5 #[.val (.ref o0), .val (.int b1), s2, .val (.int i3), .val (.int i4)] [(.int i4)])) _
  refine XS.iloadN X0.here hx rfl (hb hby d2_5) rfl ?_
  show Steps p.tables e below (T0.setTop (mkF m 6 #[.val (.ref o0), .val (.int b1), s2, .val (.int i3), .val (.int i4)] [(.int i3), (.int i4)])) _
  refine XS.icmpYes X0.here hx rfl (pc0 := 6) (pc' := 26) rfl (hb hby d2_6) rfl (flt hge).2.1 (by decide) (by decide) ?_
  show Steps p.tables e below (T0.setTop (mkF m 26 #[.val (.ref o0), .val (.int b1), s2, .val (.int i3), .val (.int i4)] [])) _
  refine XS.iloadN X0.here hx rfl (hb hby d2_26) rfl ?_
  exact kt
set_option maxRecDepth 65536 in
set_option maxHeartbeats 40000000 in
theorem loop2 {p : Program} {l : Launch} {e : Env} {R : Room} {s : State} {m : MethodId} {args : Array Value} {below : List Frame} {meth : Method} {c : Code} {T0 : State} {locs : List Loc} {cells slots : Nat} {Z : State} {a0 : Array Value} {h0 : Heap} (o0 : Addr) (b1 : Int32) (s2 : Slot) (f : Nat → Int32) (cc : Nat) (hcc : cc ≤ 6)
    (X0 : Stand p l e R s m args below meth c T0 locs cells slots) (hx : p.tables.exec = Jvm.exec) (hZ : Z.Warmed39 s.vm) (hw : ∀ d ∈ tables_1, d.before a0 Z = true) (hby : c.code = prog_27_method_3_code) (hml : c.maxLocals = 5) (hown : s.vm.findClass "com/example/vouchgate/vouchgate/http/Form" = some m.cls) (e0 : T0.heap = h0) (cl : Cell) (Ar : Arr Z h0 o0 cl .byte) (S : cl.slots.size = 6) (hat : ∀ j, j < 6 → cl.slots[j]? = some (.int (f j))) {target : State} :
    ∀ (k i : Nat), i + k = cc → (∀ z, Steps p.tables e below (T0.setTop (mkF m 19 #[.val (.ref o0), .val (.int b1), s2, .val (.int (Int32.ofNat cc)), .val (.int z)] [(.int (Int32.ofNat (own_find f b1 k i)))])) target) → (∀ z, Steps p.tables e below (T0.setTop (mkF m 27 #[.val (.ref o0), .val (.int b1), s2, .val (.int (Int32.ofNat cc)), .val (.int z)] [(.int (Int32.ofNat (own_find f b1 k i)))])) target) → Steps p.tables e below (T0.setTop (mkF m 3 #[.val (.ref o0), .val (.int b1), s2, .val (.int (Int32.ofNat cc)), .val (.int (Int32.ofNat i))] [])) target := by
  intro k
  induction k with
  | zero =>
    intro i hi h19 h27
    obtain rfl : i = cc := by omega
    exact t327 (o0 := o0) (b1 := b1) (s2 := s2) (i3 := Int32.ofNat i) (i4 := Int32.ofNat i) X0 hx hZ hw hby hml hown e0 Int32.lt_irrefl (h27 _)
  | succ k ih =>
    intro i hi h19 h27
    have hin : ¬ (Int32.ofNat i < 0 ∨ cl.slots.size ≤ (Int32.ofNat i).toNatClampNeg) := by
      rw [S, own_n32 (by omega)]
      exact fun q => q.elim (own_nn (by omega)) (fun q => by omega)
    have hai : cl.slots[(Int32.ofNat i).toNatClampNeg]? = some (.int (f i)) := by rw [own_n32 (by omega)]; exact hat i (by omega)
    by_cases q : f i = b1
    · have e1 : own_find f b1 (k + 1) i = i := by rw [own_find, if_pos q]
      rw [e1] at h19
      exact t319 (o0 := o0) (b1 := b1) (s2 := s2) (i3 := Int32.ofNat cc) (i4 := Int32.ofNat i) (cl := cl) (w := f i) X0 hx hZ hw hby hml hown e0 Ar (own_lt (by omega) (by omega)) hin hai q (h19 _)
    · have e1 : own_find f b1 (k + 1) i = own_find f b1 k (i + 1) := by rw [own_find, if_neg q]
      rw [e1] at h19 h27
      refine t33 (o0 := o0) (b1 := b1) (s2 := s2) (i3 := Int32.ofNat cc) (i4 := Int32.ofNat i) (cl := cl) (w := f i) X0 hx hZ hw hby hml hown e0 Ar (own_lt (by omega) (by omega)) hin hai q ?_
      rw [own_one]
      exact ih (i + 1) (by omega) h19 h27
def Q2 (r : Int32) (h0 : Heap) (n0 : Nat) (v : Option Value) (h : Heap) (L : List Loc) : Prop := v = some (.int r) ∧ Fr n0 L ∧ h = h0
set_option maxRecDepth 65536 in
set_option maxHeartbeats 40000000 in
theorem rm2 (l : Launch) (Z : State) (a0 : Array Value) (hw : ∀ d ∈ tables_1, d.before a0 Z = true) (ws : List Jvm.Cond) (a1 : Addr) (p2 : Int32) (aa cc : Nat) (ka : ClassId) (f : Nat → Int32) (h0 : Heap) (n0 : Nat) (Z0 : n0 ≤ h0.size) (haa : aa ≤ 6) (hcc : cc ≤ 6) (V_a1 : Arv Z h0 a1 ka .byte (6 : Int32) (own_vals f 6) (.int (0 : Int32))) :
    MetFree l (⟨"com/example/vouchgate/vouchgate/http/Form", "indexOf", "([BBII)I"⟩ : MethodName) (head1 (Jvm.Cond.code (⟨"com/example/vouchgate/vouchgate/http/Form", "indexOf", "([BBII)I"⟩ : MethodName) prog_27_method_3_code 5 (some .int) :: ws) ({ frames := 0, cells := 0, slots := 0, locals := 0 } : Room)) (fun a U => a = #[(.ref a1), (.int p2), (.int (Int32.ofNat aa)), (.int (Int32.ofNat cc))] ∧ Z.Warmed39 U.vm ∧ U.heap = h0) (fun _ _ _ _ _ => True) (fun _ U o U' => ∃ v L, o = .returned v ∧ Q2 (Int32.ofNat (own_res f p2 aa cc)) h0 n0 v U'.heap L ∧ FrameEnd U o U' L ({ frames := 0, cells := 0, slots := 0, locals := 0 } : Room).cells ({ frames := 0, cells := 0, slots := 0, locals := 0 } : Room).slots) := by
  refine MetFree.of_bodySF (plainFor_of_name pn_2) hisR ?_
  intro p e s m args below meth c s₁ Bd hml0 hP hK
  obtain ⟨rfl, hZ, hh⟩ := hP
  have hx := Bd.exec
  have hby := Bd.bytes
  have hml : c.maxLocals = 5 := hml0
  have hown : s.vm.findClass "com/example/vouchgate/vouchgate/http/Form" = some m.cls := findClass_of_methodNamed Bd.named
  have hnm := (name_of_methodNamed Bd.named Bd.method).1
  have X0 : Stand p l e ({ frames := 0, cells := 0, slots := 0, locals := 0 } : Room) s m #[(.ref a1), (.int p2), (.int (Int32.ofNat aa)), (.int (Int32.ofNat cc))] below meth c s₁ [] 0 0 := Stand.of_body Bd
  have e0 : s₁.heap = h0 := by rw [← hh, Bd.state]; rfl
  have N0 := Fr.nil n0
  have pre0 : ∀ t, Steps p.tables e below (s₁.setTop (mkF m 0 #[.val (.ref a1), .val (.int p2), .val (.int (Int32.ofNat aa)), .val (.int (Int32.ofNat cc)), .unset] [])) t → Steps p.tables e below (s₁.setTop (entryFrame m #[(.ref a1), (.int p2), (.int (Int32.ofNat aa)), (.int (Int32.ofNat cc))] 5)) t := fun t k => castTop (ef_2 m a1 p2 (Int32.ofNat aa) (Int32.ofNat cc)) k
  obtain ⟨cl, Ar, -, S, -, H, -⟩ := V_a1
  have S6 : cl.slots.size = 6 := S
  have hat : ∀ j, j < 6 → cl.slots[j]? = some (.int (f j)) := fun j hj => by
    have q := H j (by rw [S6]; exact hj)
    rw [own_at f hj] at q
    exact q
  obtain ⟨fs, hr, hrun, hended, hW, hsame⟩ := X0.leave (v := some (.int (Int32.ofNat (own_res f p2 aa cc)))) (fun h => by rw [Bd.returns] at h; cases h)
  refine ⟨_, _, pre0 _ ?_, hrun, hended, _, _, rfl, ?_, ⟨_, rfl⟩, hW, hsame.mono (by decide) (by decide)⟩
  · show Steps p.tables e below (s₁.setTop (mkF m 0 #[.val (.ref a1), .val (.int p2), .val (.int (Int32.ofNat aa)), .val (.int (Int32.ofNat cc)), .unset] [])) _
    refine XS.iloadN X0.here hx rfl (hb hby d2_0) rfl ?_
    show Steps p.tables e below (s₁.setTop (mkF m 1 #[.val (.ref a1), .val (.int p2), .val (.int (Int32.ofNat aa)), .val (.int (Int32.ofNat cc)), .unset] [(.int (Int32.ofNat aa))])) _
    refine XS.istore X0.here hx rfl (hb hby d2_1) rfl (l' := #[.val (.ref a1), .val (.int p2), .val (.int (Int32.ofNat aa)), .val (.int (Int32.ofNat cc)), .val (.int (Int32.ofNat aa))]) rfl ?_
    show Steps p.tables e below (s₁.setTop (mkF m 3 #[.val (.ref a1), .val (.int p2), .val (.int (Int32.ofNat aa)), .val (.int (Int32.ofNat cc)), .val (.int (Int32.ofNat aa))] [])) _
    by_cases hac : aa < cc
    · rw [own_res, if_pos hac] at hr
      refine loop2 (T0 := s₁) a1 p2 (.val (.int (Int32.ofNat aa))) f cc hcc X0 hx hZ hw hby hml hown e0 cl Ar S6 hat (cc - aa) aa (by omega) ?_ ?_
      · intro z
        exact retI X0 hx Bd.returns (hb hby d2_19) hr
      · intro z
        exact retI X0 hx Bd.returns (hb hby d2_27) hr
    · rw [own_res, if_neg hac] at hr
      refine t327 (T0 := s₁) (o0 := a1) (b1 := p2) (s2 := (.val (.int (Int32.ofNat aa)))) (i3 := Int32.ofNat cc) (i4 := Int32.ofNat aa) X0 hx hZ hw hby hml hown e0 (fun q => hac (own_nlt q (by omega) (by omega))) ?_
      exact retI X0 hx Bd.returns (hb hby d2_27) hr
  · show Q2 (Int32.ofNat (own_res f p2 aa cc)) h0 n0 _ s₁.heap _
    rw [e0]
    exact ⟨rfl, N0, rfl⟩
set_option maxRecDepth 65536 in
set_option maxHeartbeats 40000000 in
theorem segP {p : Program} {l : Launch} {e : Env} {R : Room} {s : State} {m : MethodId} {args : Array Value} {below : List Frame} {meth : Method} {c : Code} {T0 : State} {locs : List Loc} {cells slots : Nat} {Z : State} {a0 : Array Value} {h0 : Heap} (s0 : Slot) (s1 : Slot) (s2 : Slot) (s3 : Slot) (i4 : Int32) (i5 : Int32) (s6 : Slot) (s7 : Slot) (r8 : Int32) (r9 : Int32) 
    (X0 : Stand p l e R s m args below meth c T0 locs cells slots) (hx : p.tables.exec = Jvm.exec) (hZ : Z.Warmed39 s.vm) (hw : ∀ d ∈ tables_1, d.before a0 Z = true) (hby : c.code = code) (hml : c.maxLocals = 12) (hown : s.vm.findClass "com/example/vouchgate/vouchgate/http/FormIndexOfPinLaw" = some m.cls) (e0 : T0.heap = h0) (k1 : r8 = ((i4 &&& (2147483647 : Int32)) % (7 : Int32))) (k2 : r9 = ((i5 &&& (2147483647 : Int32)) % (7 : Int32))) {target : State}
    (kt : Steps p.tables e below (T0.setTop (mkF m 106 #[s0, s1, s2, s3, .val (.int i4), .val (.int i5), s6, s7, .val (.int r8), .val (.int r9), .val (.int r9), .unset] [])) target) : Steps p.tables e below (T0.setTop (mkF m 82 #[s0, s1, s2, s3, .val (.int i4), .val (.int i5), s6, s7, .unset, .unset, .unset, .unset] [])) target := by
  show Steps p.tables e below (T0.setTop (mkF m 82 #[s0, s1, s2, s3, .val (.int i4), .val (.int i5), s6, s7, .unset, .unset, .unset, .unset] [])) _
  refine XS.iload X0.here hx rfl (hb hby at_82) rfl ?_
  show Steps p.tables e below (T0.setTop (mkF m 84 #[s0, s1, s2, s3, .val (.int i4), .val (.int i5), s6, s7, .unset, .unset, .unset, .unset] [(.int i4)])) _
  refine X0.ldcInt hx hown (mvT hZ (hw _ (List.mem_of_getElem? (i := 5) rfl))) (g := (mkF m 84 #[s0, s1, s2, s3, .val (.int i4), .val (.int i5), s6, s7, .unset, .unset, .unset, .unset] [(.int i4)])) rfl (hb hby at_84) _ ?_
  show Steps p.tables e below (T0.setTop (mkF m 86 #[s0, s1, s2, s3, .val (.int i4), .val (.int i5), s6, s7, .unset, .unset, .unset, .unset] [(.int (2147483647 : Int32)), (.int i4)])) _
  refine XS.iand X0.here hx rfl (hb hby at_86) rfl ?_
  show Steps p.tables e below (T0.setTop (mkF m 87 #[s0, s1, s2, s3, .val (.int i4), .val (.int i5), s6, s7, .unset, .unset, .unset, .unset] [(.int (i4 &&& (2147483647 : Int32)))])) _
  refine XS.bipush X0.here hx rfl (hb hby at_87) ?_
  show Steps p.tables e below (T0.setTop (mkF m 89 #[s0, s1, s2, s3, .val (.int i4), .val (.int i5), s6, s7, .unset, .unset, .unset, .unset] [(.int (7 : Int32)), (.int (i4 &&& (2147483647 : Int32)))])) _
  refine iremM (g := (mkF m 89 #[s0, s1, s2, s3, .val (.int i4), .val (.int i5), s6, s7, .unset, .unset, .unset, .unset] [(.int (7 : Int32)), (.int (i4 &&& (2147483647 : Int32)))])) X0 hx rfl (hb hby at_89) rfl (by decide) ?_
  show Steps p.tables e below (T0.setTop (mkF m 90 #[s0, s1, s2, s3, .val (.int i4), .val (.int i5), s6, s7, .unset, .unset, .unset, .unset] [(.int ((i4 &&& (2147483647 : Int32)) % (7 : Int32)))])) _
  refine XS.istore X0.here hx rfl (hb hby at_90) rfl (l' := #[s0, s1, s2, s3, .val (.int i4), .val (.int i5), s6, s7, .val (.int ((i4 &&& (2147483647 : Int32)) % (7 : Int32))), .unset, .unset, .unset]) rfl ?_
  show Steps p.tables e below (T0.setTop (mkF m 92 #[s0, s1, s2, s3, .val (.int i4), .val (.int i5), s6, s7, .val (.int ((i4 &&& (2147483647 : Int32)) % (7 : Int32))), .unset, .unset, .unset] [])) _
  refine XS.iload X0.here hx rfl (hb hby at_92) rfl ?_
  show Steps p.tables e below (T0.setTop (mkF m 94 #[s0, s1, s2, s3, .val (.int i4), .val (.int i5), s6, s7, .val (.int ((i4 &&& (2147483647 : Int32)) % (7 : Int32))), .unset, .unset, .unset] [(.int i5)])) _
  refine X0.ldcInt hx hown (mvT hZ (hw _ (List.mem_of_getElem? (i := 5) rfl))) (g := (mkF m 94 #[s0, s1, s2, s3, .val (.int i4), .val (.int i5), s6, s7, .val (.int ((i4 &&& (2147483647 : Int32)) % (7 : Int32))), .unset, .unset, .unset] [(.int i5)])) rfl (hb hby at_94) _ ?_
  show Steps p.tables e below (T0.setTop (mkF m 96 #[s0, s1, s2, s3, .val (.int i4), .val (.int i5), s6, s7, .val (.int ((i4 &&& (2147483647 : Int32)) % (7 : Int32))), .unset, .unset, .unset] [(.int (2147483647 : Int32)), (.int i5)])) _
  refine XS.iand X0.here hx rfl (hb hby at_96) rfl ?_
  show Steps p.tables e below (T0.setTop (mkF m 97 #[s0, s1, s2, s3, .val (.int i4), .val (.int i5), s6, s7, .val (.int ((i4 &&& (2147483647 : Int32)) % (7 : Int32))), .unset, .unset, .unset] [(.int (i5 &&& (2147483647 : Int32)))])) _
  refine XS.bipush X0.here hx rfl (hb hby at_97) ?_
  show Steps p.tables e below (T0.setTop (mkF m 99 #[s0, s1, s2, s3, .val (.int i4), .val (.int i5), s6, s7, .val (.int ((i4 &&& (2147483647 : Int32)) % (7 : Int32))), .unset, .unset, .unset] [(.int (7 : Int32)), (.int (i5 &&& (2147483647 : Int32)))])) _
  refine iremM (g := (mkF m 99 #[s0, s1, s2, s3, .val (.int i4), .val (.int i5), s6, s7, .val (.int ((i4 &&& (2147483647 : Int32)) % (7 : Int32))), .unset, .unset, .unset] [(.int (7 : Int32)), (.int (i5 &&& (2147483647 : Int32)))])) X0 hx rfl (hb hby at_99) rfl (by decide) ?_
  show Steps p.tables e below (T0.setTop (mkF m 100 #[s0, s1, s2, s3, .val (.int i4), .val (.int i5), s6, s7, .val (.int ((i4 &&& (2147483647 : Int32)) % (7 : Int32))), .unset, .unset, .unset] [(.int ((i5 &&& (2147483647 : Int32)) % (7 : Int32)))])) _
  refine XS.istore X0.here hx rfl (hb hby at_100) rfl (l' := #[s0, s1, s2, s3, .val (.int i4), .val (.int i5), s6, s7, .val (.int ((i4 &&& (2147483647 : Int32)) % (7 : Int32))), .val (.int ((i5 &&& (2147483647 : Int32)) % (7 : Int32))), .unset, .unset]) rfl ?_
  show Steps p.tables e below (T0.setTop (mkF m 102 #[s0, s1, s2, s3, .val (.int i4), .val (.int i5), s6, s7, .val (.int ((i4 &&& (2147483647 : Int32)) % (7 : Int32))), .val (.int ((i5 &&& (2147483647 : Int32)) % (7 : Int32))), .unset, .unset] [])) _
  refine XS.iload X0.here hx rfl (hb hby at_102) rfl ?_
  show Steps p.tables e below (T0.setTop (mkF m 104 #[s0, s1, s2, s3, .val (.int i4), .val (.int i5), s6, s7, .val (.int ((i4 &&& (2147483647 : Int32)) % (7 : Int32))), .val (.int ((i5 &&& (2147483647 : Int32)) % (7 : Int32))), .unset, .unset] [(.int ((i5 &&& (2147483647 : Int32)) % (7 : Int32)))])) _
  refine XS.istore X0.here hx rfl (hb hby at_104) rfl (l' := #[s0, s1, s2, s3, .val (.int i4), .val (.int i5), s6, s7, .val (.int ((i4 &&& (2147483647 : Int32)) % (7 : Int32))), .val (.int ((i5 &&& (2147483647 : Int32)) % (7 : Int32))), .val (.int ((i5 &&& (2147483647 : Int32)) % (7 : Int32))), .unset]) rfl ?_
  rw [k1] at kt
  rw [k2] at kt
  exact kt
set_option maxRecDepth 65536 in
set_option maxHeartbeats 40000000 in
theorem seg5 {p : Program} {l : Launch} {e : Env} {R : Room} {s : State} {m : MethodId} {args : Array Value} {below : List Frame} {meth : Method} {c : Code} {T0 : State} {locs : List Loc} {cells slots : Nat} {Z : State} {a0 : Array Value} {h0 : Heap} (s0 : Slot) (s1 : Slot) (s2 : Slot) (s3 : Slot) (s4 : Slot) (s5 : Slot) (b6 : Int32) (o7 : Addr) (i8 : Int32) (i9 : Int32) (i10 : Int32) (r10 : Int32) (cl : Cell) (w : Int32)
    (X0 : Stand p l e R s m args below meth c T0 locs cells slots) (hx : p.tables.exec = Jvm.exec) (hZ : Z.Warmed39 s.vm) (hw : ∀ d ∈ tables_1, d.before a0 Z = true) (hby : c.code = code) (hml : c.maxLocals = 12) (hown : s.vm.findClass "com/example/vouchgate/vouchgate/http/FormIndexOfPinLaw" = some m.cls) (e0 : T0.heap = h0) (Ar : Arr Z h0 o7 cl .byte) (hin : ¬ ((5 : Int32) < 0 ∨ cl.slots.size ≤ (5 : Int32).toNatClampNeg)) (hat : cl.slots[(5 : Int32).toNatClampNeg]? = some (.int w)) (k1 : ((5 : Int32) < i8) → r10 = i10) (k2 : ¬ ((5 : Int32) < i8) → ((5 : Int32) < i9) → (w = b6) → r10 = (5 : Int32)) (k3 : ¬ ((5 : Int32) < i8) → ((5 : Int32) < i9) → ¬ (w = b6) → r10 = i10) (k4 : ¬ ((5 : Int32) < i8) → ¬ ((5 : Int32) < i9) → r10 = i10) {target : State}
    (kt : Steps p.tables e below (T0.setTop (mkF m 130 #[s0, s1, s2, s3, s4, s5, .val (.int b6), .val (.ref o7), .val (.int i8), .val (.int i9), .val (.int r10), .unset] [])) target) : Steps p.tables e below (T0.setTop (mkF m 106 #[s0, s1, s2, s3, s4, s5, .val (.int b6), .val (.ref o7), .val (.int i8), .val (.int i9), .val (.int i10), .unset] [])) target := by
  show Steps p.tables e below (T0.setTop (mkF m 106 #[s0, s1, s2, s3, s4, s5, .val (.int b6), .val (.ref o7), .val (.int i8), .val (.int i9), .val (.int i10), .unset] [])) _
  refine XS.iload X0.here hx rfl (hb hby at_106) rfl ?_
  show Steps p.tables e below (T0.setTop (mkF m 108 #[s0, s1, s2, s3, s4, s5, .val (.int b6), .val (.ref o7), .val (.int i8), .val (.int i9), .val (.int i10), .unset] [(.int i8)])) _
  refine XS.iconst X0.here hx rfl (hb hby at_108) ?_
  show Steps p.tables e below (T0.setTop (mkF m 109 #[s0, s1, s2, s3, s4, s5, .val (.int b6), .val (.ref o7), .val (.int i8), .val (.int i9), .val (.int i10), .unset] [(.int (5 : Int32)), (.int i8)])) _
  by_cases hc109 : (5 : Int32) < i8
  · refine XS.icmpYes X0.here hx rfl (pc0 := 109) (pc' := 130) rfl (hb hby at_109) rfl (tlt hc109).2.2.1 (by decide) (by decide) ?_
    rw [k1 hc109] at kt
    exact kt
  · refine XS.icmpNo X0.here hx rfl (hb hby at_109) rfl (flt hc109).2.2.1 ?_
    show Steps p.tables e below (T0.setTop (mkF m 112 #[s0, s1, s2, s3, s4, s5, .val (.int b6), .val (.ref o7), .val (.int i8), .val (.int i9), .val (.int i10), .unset] [])) _
    refine XS.iconst X0.here hx rfl (hb hby at_112) ?_
    show Steps p.tables e below (T0.setTop (mkF m 113 #[s0, s1, s2, s3, s4, s5, .val (.int b6), .val (.ref o7), .val (.int i8), .val (.int i9), .val (.int i10), .unset] [(.int (5 : Int32))])) _
    refine XS.iload X0.here hx rfl (hb hby at_113) rfl ?_
    show Steps p.tables e below (T0.setTop (mkF m 115 #[s0, s1, s2, s3, s4, s5, .val (.int b6), .val (.ref o7), .val (.int i8), .val (.int i9), .val (.int i10), .unset] [(.int i9), (.int (5 : Int32))])) _
    by_cases hc115 : (5 : Int32) < i9
    · refine XS.icmpNo X0.here hx rfl (hb hby at_115) rfl (tlt hc115).2.1 ?_
      show Steps p.tables e below (T0.setTop (mkF m 118 #[s0, s1, s2, s3, s4, s5, .val (.int b6), .val (.ref o7), .val (.int i8), .val (.int i9), .val (.int i10), .unset] [])) _
      refine XS.aload X0.here hx rfl (hb hby at_118) rfl rfl ?_
      show Steps p.tables e below (T0.setTop (mkF m 120 #[s0, s1, s2, s3, s4, s5, .val (.int b6), .val (.ref o7), .val (.int i8), .val (.int i9), .val (.int i10), .unset] [(.ref o7)])) _
      refine XS.iconst X0.here hx rfl (hb hby at_120) ?_
      show Steps p.tables e below (T0.setTop (mkF m 121 #[s0, s1, s2, s3, s4, s5, .val (.int b6), .val (.ref o7), .val (.int i8), .val (.int i9), .val (.int i10), .unset] [(.int (5 : Int32)), (.ref o7)])) _
      refine X0.baloadBytes hx (j := (5 : Int32)) (v := (.int w)) (by rw [e0]; exact Ar.1) (State.isArrayOf_alike hZ.alike Ar.2.1) Ar.2.2 hin hat (g := (mkF m 121 #[s0, s1, s2, s3, s4, s5, .val (.int b6), .val (.ref o7), .val (.int i8), .val (.int i9), .val (.int i10), .unset] [(.int (5 : Int32)), (.ref o7)])) rfl rfl (hb hby at_121) _ ?_
      show Steps p.tables e below (T0.setTop (mkF m 122 #[s0, s1, s2, s3, s4, s5, .val (.int b6), .val (.ref o7), .val (.int i8), .val (.int i9), .val (.int i10), .unset] [(.int w)])) _
      refine XS.iload X0.here hx rfl (hb hby at_122) rfl ?_
      show Steps p.tables e below (T0.setTop (mkF m 124 #[s0, s1, s2, s3, s4, s5, .val (.int b6), .val (.ref o7), .val (.int i8), .val (.int i9), .val (.int i10), .unset] [(.int b6), (.int w)])) _
      by_cases hc124 : w = b6
      · refine XS.icmpNo X0.here hx rfl (hb hby at_124) rfl (teq hc124).2 ?_
        show Steps p.tables e below (T0.setTop (mkF m 127 #[s0, s1, s2, s3, s4, s5, .val (.int b6), .val (.ref o7), .val (.int i8), .val (.int i9), .val (.int i10), .unset] [])) _
        refine XS.iconst X0.here hx rfl (hb hby at_127) ?_
        show Steps p.tables e below (T0.setTop (mkF m 128 #[s0, s1, s2, s3, s4, s5, .val (.int b6), .val (.ref o7), .val (.int i8), .val (.int i9), .val (.int i10), .unset] [(.int (5 : Int32))])) _
        refine XS.istore X0.here hx rfl (hb hby at_128) rfl (l' := #[s0, s1, s2, s3, s4, s5, .val (.int b6), .val (.ref o7), .val (.int i8), .val (.int i9), .val (.int (5 : Int32)), .unset]) rfl ?_
        rw [k2 hc109 hc115 hc124] at kt
        exact kt
      · refine XS.icmpYes X0.here hx rfl (pc0 := 124) (pc' := 130) rfl (hb hby at_124) rfl (feq hc124).2 (by decide) (by decide) ?_
        rw [k3 hc109 hc115 hc124] at kt
        exact kt
    · refine XS.icmpYes X0.here hx rfl (pc0 := 115) (pc' := 130) rfl (hb hby at_115) rfl (flt hc115).2.1 (by decide) (by decide) ?_
      rw [k4 hc109 hc115] at kt
      exact kt
set_option maxRecDepth 65536 in
set_option maxHeartbeats 40000000 in
theorem seg4 {p : Program} {l : Launch} {e : Env} {R : Room} {s : State} {m : MethodId} {args : Array Value} {below : List Frame} {meth : Method} {c : Code} {T0 : State} {locs : List Loc} {cells slots : Nat} {Z : State} {a0 : Array Value} {h0 : Heap} (s0 : Slot) (s1 : Slot) (s2 : Slot) (s3 : Slot) (s4 : Slot) (s5 : Slot) (b6 : Int32) (o7 : Addr) (i8 : Int32) (i9 : Int32) (i10 : Int32) (r10 : Int32) (cl : Cell) (w : Int32)
    (X0 : Stand p l e R s m args below meth c T0 locs cells slots) (hx : p.tables.exec = Jvm.exec) (hZ : Z.Warmed39 s.vm) (hw : ∀ d ∈ tables_1, d.before a0 Z = true) (hby : c.code = code) (hml : c.maxLocals = 12) (hown : s.vm.findClass "com/example/vouchgate/vouchgate/http/FormIndexOfPinLaw" = some m.cls) (e0 : T0.heap = h0) (Ar : Arr Z h0 o7 cl .byte) (hin : ¬ ((4 : Int32) < 0 ∨ cl.slots.size ≤ (4 : Int32).toNatClampNeg)) (hat : cl.slots[(4 : Int32).toNatClampNeg]? = some (.int w)) (k1 : ((4 : Int32) < i8) → r10 = i10) (k2 : ¬ ((4 : Int32) < i8) → ((4 : Int32) < i9) → (w = b6) → r10 = (4 : Int32)) (k3 : ¬ ((4 : Int32) < i8) → ((4 : Int32) < i9) → ¬ (w = b6) → r10 = i10) (k4 : ¬ ((4 : Int32) < i8) → ¬ ((4 : Int32) < i9) → r10 = i10) {target : State}
    (kt : Steps p.tables e below (T0.setTop (mkF m 154 #[s0, s1, s2, s3, s4, s5, .val (.int b6), .val (.ref o7), .val (.int i8), .val (.int i9), .val (.int r10), .unset] [])) target) : Steps p.tables e below (T0.setTop (mkF m 130 #[s0, s1, s2, s3, s4, s5, .val (.int b6), .val (.ref o7), .val (.int i8), .val (.int i9), .val (.int i10), .unset] [])) target := by
  show Steps p.tables e below (T0.setTop (mkF m 130 #[s0, s1, s2, s3, s4, s5, .val (.int b6), .val (.ref o7), .val (.int i8), .val (.int i9), .val (.int i10), .unset] [])) _
  refine XS.iload X0.here hx rfl (hb hby at_130) rfl ?_
  show Steps p.tables e below (T0.setTop (mkF m 132 #[s0, s1, s2, s3, s4, s5, .val (.int b6), .val (.ref o7), .val (.int i8), .val (.int i9), .val (.int i10), .unset] [(.int i8)])) _
  refine XS.iconst X0.here hx rfl (hb hby at_132) ?_
  show Steps p.tables e below (T0.setTop (mkF m 133 #[s0, s1, s2, s3, s4, s5, .val (.int b6), .val (.ref o7), .val (.int i8), .val (.int i9), .val (.int i10), .unset] [(.int (4 : Int32)), (.int i8)])) _
  by_cases hc133 : (4 : Int32) < i8
  · refine XS.icmpYes X0.here hx rfl (pc0 := 133) (pc' := 154) rfl (hb hby at_133) rfl (tlt hc133).2.2.1 (by decide) (by decide) ?_
    rw [k1 hc133] at kt
    exact kt
  · refine XS.icmpNo X0.here hx rfl (hb hby at_133) rfl (flt hc133).2.2.1 ?_
    show Steps p.tables e below (T0.setTop (mkF m 136 #[s0, s1, s2, s3, s4, s5, .val (.int b6), .val (.ref o7), .val (.int i8), .val (.int i9), .val (.int i10), .unset] [])) _
    refine XS.iconst X0.here hx rfl (hb hby at_136) ?_
    show Steps p.tables e below (T0.setTop (mkF m 137 #[s0, s1, s2, s3, s4, s5, .val (.int b6), .val (.ref o7), .val (.int i8), .val (.int i9), .val (.int i10), .unset] [(.int (4 : Int32))])) _
    refine XS.iload X0.here hx rfl (hb hby at_137) rfl ?_
    show Steps p.tables e below (T0.setTop (mkF m 139 #[s0, s1, s2, s3, s4, s5, .val (.int b6), .val (.ref o7), .val (.int i8), .val (.int i9), .val (.int i10), .unset] [(.int i9), (.int (4 : Int32))])) _
    by_cases hc139 : (4 : Int32) < i9
    · refine XS.icmpNo X0.here hx rfl (hb hby at_139) rfl (tlt hc139).2.1 ?_
      show Steps p.tables e below (T0.setTop (mkF m 142 #[s0, s1, s2, s3, s4, s5, .val (.int b6), .val (.ref o7), .val (.int i8), .val (.int i9), .val (.int i10), .unset] [])) _
      refine XS.aload X0.here hx rfl (hb hby at_142) rfl rfl ?_
      show Steps p.tables e below (T0.setTop (mkF m 144 #[s0, s1, s2, s3, s4, s5, .val (.int b6), .val (.ref o7), .val (.int i8), .val (.int i9), .val (.int i10), .unset] [(.ref o7)])) _
      refine XS.iconst X0.here hx rfl (hb hby at_144) ?_
      show Steps p.tables e below (T0.setTop (mkF m 145 #[s0, s1, s2, s3, s4, s5, .val (.int b6), .val (.ref o7), .val (.int i8), .val (.int i9), .val (.int i10), .unset] [(.int (4 : Int32)), (.ref o7)])) _
      refine X0.baloadBytes hx (j := (4 : Int32)) (v := (.int w)) (by rw [e0]; exact Ar.1) (State.isArrayOf_alike hZ.alike Ar.2.1) Ar.2.2 hin hat (g := (mkF m 145 #[s0, s1, s2, s3, s4, s5, .val (.int b6), .val (.ref o7), .val (.int i8), .val (.int i9), .val (.int i10), .unset] [(.int (4 : Int32)), (.ref o7)])) rfl rfl (hb hby at_145) _ ?_
      show Steps p.tables e below (T0.setTop (mkF m 146 #[s0, s1, s2, s3, s4, s5, .val (.int b6), .val (.ref o7), .val (.int i8), .val (.int i9), .val (.int i10), .unset] [(.int w)])) _
      refine XS.iload X0.here hx rfl (hb hby at_146) rfl ?_
      show Steps p.tables e below (T0.setTop (mkF m 148 #[s0, s1, s2, s3, s4, s5, .val (.int b6), .val (.ref o7), .val (.int i8), .val (.int i9), .val (.int i10), .unset] [(.int b6), (.int w)])) _
      by_cases hc148 : w = b6
      · refine XS.icmpNo X0.here hx rfl (hb hby at_148) rfl (teq hc148).2 ?_
        show Steps p.tables e below (T0.setTop (mkF m 151 #[s0, s1, s2, s3, s4, s5, .val (.int b6), .val (.ref o7), .val (.int i8), .val (.int i9), .val (.int i10), .unset] [])) _
        refine XS.iconst X0.here hx rfl (hb hby at_151) ?_
        show Steps p.tables e below (T0.setTop (mkF m 152 #[s0, s1, s2, s3, s4, s5, .val (.int b6), .val (.ref o7), .val (.int i8), .val (.int i9), .val (.int i10), .unset] [(.int (4 : Int32))])) _
        refine XS.istore X0.here hx rfl (hb hby at_152) rfl (l' := #[s0, s1, s2, s3, s4, s5, .val (.int b6), .val (.ref o7), .val (.int i8), .val (.int i9), .val (.int (4 : Int32)), .unset]) rfl ?_
        rw [k2 hc133 hc139 hc148] at kt
        exact kt
      · refine XS.icmpYes X0.here hx rfl (pc0 := 148) (pc' := 154) rfl (hb hby at_148) rfl (feq hc148).2 (by decide) (by decide) ?_
        rw [k3 hc133 hc139 hc148] at kt
        exact kt
    · refine XS.icmpYes X0.here hx rfl (pc0 := 139) (pc' := 154) rfl (hb hby at_139) rfl (flt hc139).2.1 (by decide) (by decide) ?_
      rw [k4 hc133 hc139] at kt
      exact kt
set_option maxRecDepth 65536 in
set_option maxHeartbeats 40000000 in
theorem seg3 {p : Program} {l : Launch} {e : Env} {R : Room} {s : State} {m : MethodId} {args : Array Value} {below : List Frame} {meth : Method} {c : Code} {T0 : State} {locs : List Loc} {cells slots : Nat} {Z : State} {a0 : Array Value} {h0 : Heap} (s0 : Slot) (s1 : Slot) (s2 : Slot) (s3 : Slot) (s4 : Slot) (s5 : Slot) (b6 : Int32) (o7 : Addr) (i8 : Int32) (i9 : Int32) (i10 : Int32) (r10 : Int32) (cl : Cell) (w : Int32)
    (X0 : Stand p l e R s m args below meth c T0 locs cells slots) (hx : p.tables.exec = Jvm.exec) (hZ : Z.Warmed39 s.vm) (hw : ∀ d ∈ tables_1, d.before a0 Z = true) (hby : c.code = code) (hml : c.maxLocals = 12) (hown : s.vm.findClass "com/example/vouchgate/vouchgate/http/FormIndexOfPinLaw" = some m.cls) (e0 : T0.heap = h0) (Ar : Arr Z h0 o7 cl .byte) (hin : ¬ ((3 : Int32) < 0 ∨ cl.slots.size ≤ (3 : Int32).toNatClampNeg)) (hat : cl.slots[(3 : Int32).toNatClampNeg]? = some (.int w)) (k1 : ((3 : Int32) < i8) → r10 = i10) (k2 : ¬ ((3 : Int32) < i8) → ((3 : Int32) < i9) → (w = b6) → r10 = (3 : Int32)) (k3 : ¬ ((3 : Int32) < i8) → ((3 : Int32) < i9) → ¬ (w = b6) → r10 = i10) (k4 : ¬ ((3 : Int32) < i8) → ¬ ((3 : Int32) < i9) → r10 = i10) {target : State}
    (kt : Steps p.tables e below (T0.setTop (mkF m 178 #[s0, s1, s2, s3, s4, s5, .val (.int b6), .val (.ref o7), .val (.int i8), .val (.int i9), .val (.int r10), .unset] [])) target) : Steps p.tables e below (T0.setTop (mkF m 154 #[s0, s1, s2, s3, s4, s5, .val (.int b6), .val (.ref o7), .val (.int i8), .val (.int i9), .val (.int i10), .unset] [])) target := by
  show Steps p.tables e below (T0.setTop (mkF m 154 #[s0, s1, s2, s3, s4, s5, .val (.int b6), .val (.ref o7), .val (.int i8), .val (.int i9), .val (.int i10), .unset] [])) _
  refine XS.iload X0.here hx rfl (hb hby at_154) rfl ?_
  show Steps p.tables e below (T0.setTop (mkF m 156 #[s0, s1, s2, s3, s4, s5, .val (.int b6), .val (.ref o7), .val (.int i8), .val (.int i9), .val (.int i10), .unset] [(.int i8)])) _
  refine XS.iconst X0.here hx rfl (hb hby at_156) ?_
  show Steps p.tables e below (T0.setTop (mkF m 157 #[s0, s1, s2, s3, s4, s5, .val (.int b6), .val (.ref o7), .val (.int i8), .val (.int i9), .val (.int i10), .unset] [(.int (3 : Int32)), (.int i8)])) _
  by_cases hc157 : (3 : Int32) < i8
  · refine XS.icmpYes X0.here hx rfl (pc0 := 157) (pc' := 178) rfl (hb hby at_157) rfl (tlt hc157).2.2.1 (by decide) (by decide) ?_
    rw [k1 hc157] at kt
    exact kt
  · refine XS.icmpNo X0.here hx rfl (hb hby at_157) rfl (flt hc157).2.2.1 ?_
    show Steps p.tables e below (T0.setTop (mkF m 160 #[s0, s1, s2, s3, s4, s5, .val (.int b6), .val (.ref o7), .val (.int i8), .val (.int i9), .val (.int i10), .unset] [])) _
    refine XS.iconst X0.here hx rfl (hb hby at_160) ?_
    show Steps p.tables e below (T0.setTop (mkF m 161 #[s0, s1, s2, s3, s4, s5, .val (.int b6), .val (.ref o7), .val (.int i8), .val (.int i9), .val (.int i10), .unset] [(.int (3 : Int32))])) _
    refine XS.iload X0.here hx rfl (hb hby at_161) rfl ?_
    show Steps p.tables e below (T0.setTop (mkF m 163 #[s0, s1, s2, s3, s4, s5, .val (.int b6), .val (.ref o7), .val (.int i8), .val (.int i9), .val (.int i10), .unset] [(.int i9), (.int (3 : Int32))])) _
    by_cases hc163 : (3 : Int32) < i9
    · refine XS.icmpNo X0.here hx rfl (hb hby at_163) rfl (tlt hc163).2.1 ?_
      show Steps p.tables e below (T0.setTop (mkF m 166 #[s0, s1, s2, s3, s4, s5, .val (.int b6), .val (.ref o7), .val (.int i8), .val (.int i9), .val (.int i10), .unset] [])) _
      refine XS.aload X0.here hx rfl (hb hby at_166) rfl rfl ?_
      show Steps p.tables e below (T0.setTop (mkF m 168 #[s0, s1, s2, s3, s4, s5, .val (.int b6), .val (.ref o7), .val (.int i8), .val (.int i9), .val (.int i10), .unset] [(.ref o7)])) _
      refine XS.iconst X0.here hx rfl (hb hby at_168) ?_
      show Steps p.tables e below (T0.setTop (mkF m 169 #[s0, s1, s2, s3, s4, s5, .val (.int b6), .val (.ref o7), .val (.int i8), .val (.int i9), .val (.int i10), .unset] [(.int (3 : Int32)), (.ref o7)])) _
      refine X0.baloadBytes hx (j := (3 : Int32)) (v := (.int w)) (by rw [e0]; exact Ar.1) (State.isArrayOf_alike hZ.alike Ar.2.1) Ar.2.2 hin hat (g := (mkF m 169 #[s0, s1, s2, s3, s4, s5, .val (.int b6), .val (.ref o7), .val (.int i8), .val (.int i9), .val (.int i10), .unset] [(.int (3 : Int32)), (.ref o7)])) rfl rfl (hb hby at_169) _ ?_
      show Steps p.tables e below (T0.setTop (mkF m 170 #[s0, s1, s2, s3, s4, s5, .val (.int b6), .val (.ref o7), .val (.int i8), .val (.int i9), .val (.int i10), .unset] [(.int w)])) _
      refine XS.iload X0.here hx rfl (hb hby at_170) rfl ?_
      show Steps p.tables e below (T0.setTop (mkF m 172 #[s0, s1, s2, s3, s4, s5, .val (.int b6), .val (.ref o7), .val (.int i8), .val (.int i9), .val (.int i10), .unset] [(.int b6), (.int w)])) _
      by_cases hc172 : w = b6
      · refine XS.icmpNo X0.here hx rfl (hb hby at_172) rfl (teq hc172).2 ?_
        show Steps p.tables e below (T0.setTop (mkF m 175 #[s0, s1, s2, s3, s4, s5, .val (.int b6), .val (.ref o7), .val (.int i8), .val (.int i9), .val (.int i10), .unset] [])) _
        refine XS.iconst X0.here hx rfl (hb hby at_175) ?_
        show Steps p.tables e below (T0.setTop (mkF m 176 #[s0, s1, s2, s3, s4, s5, .val (.int b6), .val (.ref o7), .val (.int i8), .val (.int i9), .val (.int i10), .unset] [(.int (3 : Int32))])) _
        refine XS.istore X0.here hx rfl (hb hby at_176) rfl (l' := #[s0, s1, s2, s3, s4, s5, .val (.int b6), .val (.ref o7), .val (.int i8), .val (.int i9), .val (.int (3 : Int32)), .unset]) rfl ?_
        rw [k2 hc157 hc163 hc172] at kt
        exact kt
      · refine XS.icmpYes X0.here hx rfl (pc0 := 172) (pc' := 178) rfl (hb hby at_172) rfl (feq hc172).2 (by decide) (by decide) ?_
        rw [k3 hc157 hc163 hc172] at kt
        exact kt
    · refine XS.icmpYes X0.here hx rfl (pc0 := 163) (pc' := 178) rfl (hb hby at_163) rfl (flt hc163).2.1 (by decide) (by decide) ?_
      rw [k4 hc157 hc163] at kt
      exact kt
set_option maxRecDepth 65536 in
set_option maxHeartbeats 40000000 in
theorem seg2 {p : Program} {l : Launch} {e : Env} {R : Room} {s : State} {m : MethodId} {args : Array Value} {below : List Frame} {meth : Method} {c : Code} {T0 : State} {locs : List Loc} {cells slots : Nat} {Z : State} {a0 : Array Value} {h0 : Heap} (s0 : Slot) (s1 : Slot) (s2 : Slot) (s3 : Slot) (s4 : Slot) (s5 : Slot) (b6 : Int32) (o7 : Addr) (i8 : Int32) (i9 : Int32) (i10 : Int32) (r10 : Int32) (cl : Cell) (w : Int32)
    (X0 : Stand p l e R s m args below meth c T0 locs cells slots) (hx : p.tables.exec = Jvm.exec) (hZ : Z.Warmed39 s.vm) (hw : ∀ d ∈ tables_1, d.before a0 Z = true) (hby : c.code = code) (hml : c.maxLocals = 12) (hown : s.vm.findClass "com/example/vouchgate/vouchgate/http/FormIndexOfPinLaw" = some m.cls) (e0 : T0.heap = h0) (Ar : Arr Z h0 o7 cl .byte) (hin : ¬ ((2 : Int32) < 0 ∨ cl.slots.size ≤ (2 : Int32).toNatClampNeg)) (hat : cl.slots[(2 : Int32).toNatClampNeg]? = some (.int w)) (k1 : ((2 : Int32) < i8) → r10 = i10) (k2 : ¬ ((2 : Int32) < i8) → ((2 : Int32) < i9) → (w = b6) → r10 = (2 : Int32)) (k3 : ¬ ((2 : Int32) < i8) → ((2 : Int32) < i9) → ¬ (w = b6) → r10 = i10) (k4 : ¬ ((2 : Int32) < i8) → ¬ ((2 : Int32) < i9) → r10 = i10) {target : State}
    (kt : Steps p.tables e below (T0.setTop (mkF m 202 #[s0, s1, s2, s3, s4, s5, .val (.int b6), .val (.ref o7), .val (.int i8), .val (.int i9), .val (.int r10), .unset] [])) target) : Steps p.tables e below (T0.setTop (mkF m 178 #[s0, s1, s2, s3, s4, s5, .val (.int b6), .val (.ref o7), .val (.int i8), .val (.int i9), .val (.int i10), .unset] [])) target := by
  show Steps p.tables e below (T0.setTop (mkF m 178 #[s0, s1, s2, s3, s4, s5, .val (.int b6), .val (.ref o7), .val (.int i8), .val (.int i9), .val (.int i10), .unset] [])) _
  refine XS.iload X0.here hx rfl (hb hby at_178) rfl ?_
  show Steps p.tables e below (T0.setTop (mkF m 180 #[s0, s1, s2, s3, s4, s5, .val (.int b6), .val (.ref o7), .val (.int i8), .val (.int i9), .val (.int i10), .unset] [(.int i8)])) _
  refine XS.iconst X0.here hx rfl (hb hby at_180) ?_
  show Steps p.tables e below (T0.setTop (mkF m 181 #[s0, s1, s2, s3, s4, s5, .val (.int b6), .val (.ref o7), .val (.int i8), .val (.int i9), .val (.int i10), .unset] [(.int (2 : Int32)), (.int i8)])) _
  by_cases hc181 : (2 : Int32) < i8
  · refine XS.icmpYes X0.here hx rfl (pc0 := 181) (pc' := 202) rfl (hb hby at_181) rfl (tlt hc181).2.2.1 (by decide) (by decide) ?_
    rw [k1 hc181] at kt
    exact kt
  · refine XS.icmpNo X0.here hx rfl (hb hby at_181) rfl (flt hc181).2.2.1 ?_
    show Steps p.tables e below (T0.setTop (mkF m 184 #[s0, s1, s2, s3, s4, s5, .val (.int b6), .val (.ref o7), .val (.int i8), .val (.int i9), .val (.int i10), .unset] [])) _
    refine XS.iconst X0.here hx rfl (hb hby at_184) ?_
    show Steps p.tables e below (T0.setTop (mkF m 185 #[s0, s1, s2, s3, s4, s5, .val (.int b6), .val (.ref o7), .val (.int i8), .val (.int i9), .val (.int i10), .unset] [(.int (2 : Int32))])) _
    refine XS.iload X0.here hx rfl (hb hby at_185) rfl ?_
    show Steps p.tables e below (T0.setTop (mkF m 187 #[s0, s1, s2, s3, s4, s5, .val (.int b6), .val (.ref o7), .val (.int i8), .val (.int i9), .val (.int i10), .unset] [(.int i9), (.int (2 : Int32))])) _
    by_cases hc187 : (2 : Int32) < i9
    · refine XS.icmpNo X0.here hx rfl (hb hby at_187) rfl (tlt hc187).2.1 ?_
      show Steps p.tables e below (T0.setTop (mkF m 190 #[s0, s1, s2, s3, s4, s5, .val (.int b6), .val (.ref o7), .val (.int i8), .val (.int i9), .val (.int i10), .unset] [])) _
      refine XS.aload X0.here hx rfl (hb hby at_190) rfl rfl ?_
      show Steps p.tables e below (T0.setTop (mkF m 192 #[s0, s1, s2, s3, s4, s5, .val (.int b6), .val (.ref o7), .val (.int i8), .val (.int i9), .val (.int i10), .unset] [(.ref o7)])) _
      refine XS.iconst X0.here hx rfl (hb hby at_192) ?_
      show Steps p.tables e below (T0.setTop (mkF m 193 #[s0, s1, s2, s3, s4, s5, .val (.int b6), .val (.ref o7), .val (.int i8), .val (.int i9), .val (.int i10), .unset] [(.int (2 : Int32)), (.ref o7)])) _
      refine X0.baloadBytes hx (j := (2 : Int32)) (v := (.int w)) (by rw [e0]; exact Ar.1) (State.isArrayOf_alike hZ.alike Ar.2.1) Ar.2.2 hin hat (g := (mkF m 193 #[s0, s1, s2, s3, s4, s5, .val (.int b6), .val (.ref o7), .val (.int i8), .val (.int i9), .val (.int i10), .unset] [(.int (2 : Int32)), (.ref o7)])) rfl rfl (hb hby at_193) _ ?_
      show Steps p.tables e below (T0.setTop (mkF m 194 #[s0, s1, s2, s3, s4, s5, .val (.int b6), .val (.ref o7), .val (.int i8), .val (.int i9), .val (.int i10), .unset] [(.int w)])) _
      refine XS.iload X0.here hx rfl (hb hby at_194) rfl ?_
      show Steps p.tables e below (T0.setTop (mkF m 196 #[s0, s1, s2, s3, s4, s5, .val (.int b6), .val (.ref o7), .val (.int i8), .val (.int i9), .val (.int i10), .unset] [(.int b6), (.int w)])) _
      by_cases hc196 : w = b6
      · refine XS.icmpNo X0.here hx rfl (hb hby at_196) rfl (teq hc196).2 ?_
        show Steps p.tables e below (T0.setTop (mkF m 199 #[s0, s1, s2, s3, s4, s5, .val (.int b6), .val (.ref o7), .val (.int i8), .val (.int i9), .val (.int i10), .unset] [])) _
        refine XS.iconst X0.here hx rfl (hb hby at_199) ?_
        show Steps p.tables e below (T0.setTop (mkF m 200 #[s0, s1, s2, s3, s4, s5, .val (.int b6), .val (.ref o7), .val (.int i8), .val (.int i9), .val (.int i10), .unset] [(.int (2 : Int32))])) _
        refine XS.istore X0.here hx rfl (hb hby at_200) rfl (l' := #[s0, s1, s2, s3, s4, s5, .val (.int b6), .val (.ref o7), .val (.int i8), .val (.int i9), .val (.int (2 : Int32)), .unset]) rfl ?_
        rw [k2 hc181 hc187 hc196] at kt
        exact kt
      · refine XS.icmpYes X0.here hx rfl (pc0 := 196) (pc' := 202) rfl (hb hby at_196) rfl (feq hc196).2 (by decide) (by decide) ?_
        rw [k3 hc181 hc187 hc196] at kt
        exact kt
    · refine XS.icmpYes X0.here hx rfl (pc0 := 187) (pc' := 202) rfl (hb hby at_187) rfl (flt hc187).2.1 (by decide) (by decide) ?_
      rw [k4 hc181 hc187] at kt
      exact kt
set_option maxRecDepth 65536 in
set_option maxHeartbeats 40000000 in
theorem seg1 {p : Program} {l : Launch} {e : Env} {R : Room} {s : State} {m : MethodId} {args : Array Value} {below : List Frame} {meth : Method} {c : Code} {T0 : State} {locs : List Loc} {cells slots : Nat} {Z : State} {a0 : Array Value} {h0 : Heap} (s0 : Slot) (s1 : Slot) (s2 : Slot) (s3 : Slot) (s4 : Slot) (s5 : Slot) (b6 : Int32) (o7 : Addr) (i8 : Int32) (i9 : Int32) (i10 : Int32) (r10 : Int32) (cl : Cell) (w : Int32)
    (X0 : Stand p l e R s m args below meth c T0 locs cells slots) (hx : p.tables.exec = Jvm.exec) (hZ : Z.Warmed39 s.vm) (hw : ∀ d ∈ tables_1, d.before a0 Z = true) (hby : c.code = code) (hml : c.maxLocals = 12) (hown : s.vm.findClass "com/example/vouchgate/vouchgate/http/FormIndexOfPinLaw" = some m.cls) (e0 : T0.heap = h0) (Ar : Arr Z h0 o7 cl .byte) (hin : ¬ ((1 : Int32) < 0 ∨ cl.slots.size ≤ (1 : Int32).toNatClampNeg)) (hat : cl.slots[(1 : Int32).toNatClampNeg]? = some (.int w)) (k1 : ((1 : Int32) < i8) → r10 = i10) (k2 : ¬ ((1 : Int32) < i8) → ((1 : Int32) < i9) → (w = b6) → r10 = (1 : Int32)) (k3 : ¬ ((1 : Int32) < i8) → ((1 : Int32) < i9) → ¬ (w = b6) → r10 = i10) (k4 : ¬ ((1 : Int32) < i8) → ¬ ((1 : Int32) < i9) → r10 = i10) {target : State}
    (kt : Steps p.tables e below (T0.setTop (mkF m 226 #[s0, s1, s2, s3, s4, s5, .val (.int b6), .val (.ref o7), .val (.int i8), .val (.int i9), .val (.int r10), .unset] [])) target) : Steps p.tables e below (T0.setTop (mkF m 202 #[s0, s1, s2, s3, s4, s5, .val (.int b6), .val (.ref o7), .val (.int i8), .val (.int i9), .val (.int i10), .unset] [])) target := by
  show Steps p.tables e below (T0.setTop (mkF m 202 #[s0, s1, s2, s3, s4, s5, .val (.int b6), .val (.ref o7), .val (.int i8), .val (.int i9), .val (.int i10), .unset] [])) _
  refine XS.iload X0.here hx rfl (hb hby at_202) rfl ?_
  show Steps p.tables e below (T0.setTop (mkF m 204 #[s0, s1, s2, s3, s4, s5, .val (.int b6), .val (.ref o7), .val (.int i8), .val (.int i9), .val (.int i10), .unset] [(.int i8)])) _
  refine XS.iconst X0.here hx rfl (hb hby at_204) ?_
  show Steps p.tables e below (T0.setTop (mkF m 205 #[s0, s1, s2, s3, s4, s5, .val (.int b6), .val (.ref o7), .val (.int i8), .val (.int i9), .val (.int i10), .unset] [(.int (1 : Int32)), (.int i8)])) _
  by_cases hc205 : (1 : Int32) < i8
  · refine XS.icmpYes X0.here hx rfl (pc0 := 205) (pc' := 226) rfl (hb hby at_205) rfl (tlt hc205).2.2.1 (by decide) (by decide) ?_
    rw [k1 hc205] at kt
    exact kt
  · refine XS.icmpNo X0.here hx rfl (hb hby at_205) rfl (flt hc205).2.2.1 ?_
    show Steps p.tables e below (T0.setTop (mkF m 208 #[s0, s1, s2, s3, s4, s5, .val (.int b6), .val (.ref o7), .val (.int i8), .val (.int i9), .val (.int i10), .unset] [])) _
    refine XS.iconst X0.here hx rfl (hb hby at_208) ?_
    show Steps p.tables e below (T0.setTop (mkF m 209 #[s0, s1, s2, s3, s4, s5, .val (.int b6), .val (.ref o7), .val (.int i8), .val (.int i9), .val (.int i10), .unset] [(.int (1 : Int32))])) _
    refine XS.iload X0.here hx rfl (hb hby at_209) rfl ?_
    show Steps p.tables e below (T0.setTop (mkF m 211 #[s0, s1, s2, s3, s4, s5, .val (.int b6), .val (.ref o7), .val (.int i8), .val (.int i9), .val (.int i10), .unset] [(.int i9), (.int (1 : Int32))])) _
    by_cases hc211 : (1 : Int32) < i9
    · refine XS.icmpNo X0.here hx rfl (hb hby at_211) rfl (tlt hc211).2.1 ?_
      show Steps p.tables e below (T0.setTop (mkF m 214 #[s0, s1, s2, s3, s4, s5, .val (.int b6), .val (.ref o7), .val (.int i8), .val (.int i9), .val (.int i10), .unset] [])) _
      refine XS.aload X0.here hx rfl (hb hby at_214) rfl rfl ?_
      show Steps p.tables e below (T0.setTop (mkF m 216 #[s0, s1, s2, s3, s4, s5, .val (.int b6), .val (.ref o7), .val (.int i8), .val (.int i9), .val (.int i10), .unset] [(.ref o7)])) _
      refine XS.iconst X0.here hx rfl (hb hby at_216) ?_
      show Steps p.tables e below (T0.setTop (mkF m 217 #[s0, s1, s2, s3, s4, s5, .val (.int b6), .val (.ref o7), .val (.int i8), .val (.int i9), .val (.int i10), .unset] [(.int (1 : Int32)), (.ref o7)])) _
      refine X0.baloadBytes hx (j := (1 : Int32)) (v := (.int w)) (by rw [e0]; exact Ar.1) (State.isArrayOf_alike hZ.alike Ar.2.1) Ar.2.2 hin hat (g := (mkF m 217 #[s0, s1, s2, s3, s4, s5, .val (.int b6), .val (.ref o7), .val (.int i8), .val (.int i9), .val (.int i10), .unset] [(.int (1 : Int32)), (.ref o7)])) rfl rfl (hb hby at_217) _ ?_
      show Steps p.tables e below (T0.setTop (mkF m 218 #[s0, s1, s2, s3, s4, s5, .val (.int b6), .val (.ref o7), .val (.int i8), .val (.int i9), .val (.int i10), .unset] [(.int w)])) _
      refine XS.iload X0.here hx rfl (hb hby at_218) rfl ?_
      show Steps p.tables e below (T0.setTop (mkF m 220 #[s0, s1, s2, s3, s4, s5, .val (.int b6), .val (.ref o7), .val (.int i8), .val (.int i9), .val (.int i10), .unset] [(.int b6), (.int w)])) _
      by_cases hc220 : w = b6
      · refine XS.icmpNo X0.here hx rfl (hb hby at_220) rfl (teq hc220).2 ?_
        show Steps p.tables e below (T0.setTop (mkF m 223 #[s0, s1, s2, s3, s4, s5, .val (.int b6), .val (.ref o7), .val (.int i8), .val (.int i9), .val (.int i10), .unset] [])) _
        refine XS.iconst X0.here hx rfl (hb hby at_223) ?_
        show Steps p.tables e below (T0.setTop (mkF m 224 #[s0, s1, s2, s3, s4, s5, .val (.int b6), .val (.ref o7), .val (.int i8), .val (.int i9), .val (.int i10), .unset] [(.int (1 : Int32))])) _
        refine XS.istore X0.here hx rfl (hb hby at_224) rfl (l' := #[s0, s1, s2, s3, s4, s5, .val (.int b6), .val (.ref o7), .val (.int i8), .val (.int i9), .val (.int (1 : Int32)), .unset]) rfl ?_
        rw [k2 hc205 hc211 hc220] at kt
        exact kt
      · refine XS.icmpYes X0.here hx rfl (pc0 := 220) (pc' := 226) rfl (hb hby at_220) rfl (feq hc220).2 (by decide) (by decide) ?_
        rw [k3 hc205 hc211 hc220] at kt
        exact kt
    · refine XS.icmpYes X0.here hx rfl (pc0 := 211) (pc' := 226) rfl (hb hby at_211) rfl (flt hc211).2.1 (by decide) (by decide) ?_
      rw [k4 hc205 hc211] at kt
      exact kt
set_option maxRecDepth 65536 in
set_option maxHeartbeats 40000000 in
theorem seg0 {p : Program} {l : Launch} {e : Env} {R : Room} {s : State} {m : MethodId} {args : Array Value} {below : List Frame} {meth : Method} {c : Code} {T0 : State} {locs : List Loc} {cells slots : Nat} {Z : State} {a0 : Array Value} {h0 : Heap} (s0 : Slot) (s1 : Slot) (s2 : Slot) (s3 : Slot) (s4 : Slot) (s5 : Slot) (b6 : Int32) (o7 : Addr) (i8 : Int32) (i9 : Int32) (i10 : Int32) (r10 : Int32) (cl : Cell) (w : Int32)
    (X0 : Stand p l e R s m args below meth c T0 locs cells slots) (hx : p.tables.exec = Jvm.exec) (hZ : Z.Warmed39 s.vm) (hw : ∀ d ∈ tables_1, d.before a0 Z = true) (hby : c.code = code) (hml : c.maxLocals = 12) (hown : s.vm.findClass "com/example/vouchgate/vouchgate/http/FormIndexOfPinLaw" = some m.cls) (e0 : T0.heap = h0) (Ar : Arr Z h0 o7 cl .byte) (hin : ¬ ((0 : Int32) < 0 ∨ cl.slots.size ≤ (0 : Int32).toNatClampNeg)) (hat : cl.slots[(0 : Int32).toNatClampNeg]? = some (.int w)) (k1 : ((0 : Int32) < i8) → r10 = i10) (k2 : ¬ ((0 : Int32) < i8) → ((0 : Int32) < i9) → (w = b6) → r10 = (0 : Int32)) (k3 : ¬ ((0 : Int32) < i8) → ((0 : Int32) < i9) → ¬ (w = b6) → r10 = i10) (k4 : ¬ ((0 : Int32) < i8) → ¬ ((0 : Int32) < i9) → r10 = i10) {target : State}
    (kt : Steps p.tables e below (T0.setTop (mkF m 249 #[s0, s1, s2, s3, s4, s5, .val (.int b6), .val (.ref o7), .val (.int i8), .val (.int i9), .val (.int r10), .unset] [])) target) : Steps p.tables e below (T0.setTop (mkF m 226 #[s0, s1, s2, s3, s4, s5, .val (.int b6), .val (.ref o7), .val (.int i8), .val (.int i9), .val (.int i10), .unset] [])) target := by
  show Steps p.tables e below (T0.setTop (mkF m 226 #[s0, s1, s2, s3, s4, s5, .val (.int b6), .val (.ref o7), .val (.int i8), .val (.int i9), .val (.int i10), .unset] [])) _
  refine XS.iload X0.here hx rfl (hb hby at_226) rfl ?_
  show Steps p.tables e below (T0.setTop (mkF m 228 #[s0, s1, s2, s3, s4, s5, .val (.int b6), .val (.ref o7), .val (.int i8), .val (.int i9), .val (.int i10), .unset] [(.int i8)])) _
  by_cases hc228 : (0 : Int32) < i8
  · refine XS.ifYes X0.here hx rfl (pc0 := 228) (pc' := 249) rfl (hb hby at_228) rfl ((if0 _ _).trans (tlt hc228).2.2.1) (by decide) (by decide) ?_
    rw [k1 hc228] at kt
    exact kt
  · refine XS.ifNo X0.here hx rfl (hb hby at_228) rfl ((if0 _ _).trans (flt hc228).2.2.1) ?_
    show Steps p.tables e below (T0.setTop (mkF m 231 #[s0, s1, s2, s3, s4, s5, .val (.int b6), .val (.ref o7), .val (.int i8), .val (.int i9), .val (.int i10), .unset] [])) _
    refine XS.iconst X0.here hx rfl (hb hby at_231) ?_
    show Steps p.tables e below (T0.setTop (mkF m 232 #[s0, s1, s2, s3, s4, s5, .val (.int b6), .val (.ref o7), .val (.int i8), .val (.int i9), .val (.int i10), .unset] [(.int (0 : Int32))])) _
    refine XS.iload X0.here hx rfl (hb hby at_232) rfl ?_
    show Steps p.tables e below (T0.setTop (mkF m 234 #[s0, s1, s2, s3, s4, s5, .val (.int b6), .val (.ref o7), .val (.int i8), .val (.int i9), .val (.int i10), .unset] [(.int i9), (.int (0 : Int32))])) _
    by_cases hc234 : (0 : Int32) < i9
    · refine XS.icmpNo X0.here hx rfl (hb hby at_234) rfl (tlt hc234).2.1 ?_
      show Steps p.tables e below (T0.setTop (mkF m 237 #[s0, s1, s2, s3, s4, s5, .val (.int b6), .val (.ref o7), .val (.int i8), .val (.int i9), .val (.int i10), .unset] [])) _
      refine XS.aload X0.here hx rfl (hb hby at_237) rfl rfl ?_
      show Steps p.tables e below (T0.setTop (mkF m 239 #[s0, s1, s2, s3, s4, s5, .val (.int b6), .val (.ref o7), .val (.int i8), .val (.int i9), .val (.int i10), .unset] [(.ref o7)])) _
      refine XS.iconst X0.here hx rfl (hb hby at_239) ?_
      show Steps p.tables e below (T0.setTop (mkF m 240 #[s0, s1, s2, s3, s4, s5, .val (.int b6), .val (.ref o7), .val (.int i8), .val (.int i9), .val (.int i10), .unset] [(.int (0 : Int32)), (.ref o7)])) _
      refine X0.baloadBytes hx (j := (0 : Int32)) (v := (.int w)) (by rw [e0]; exact Ar.1) (State.isArrayOf_alike hZ.alike Ar.2.1) Ar.2.2 hin hat (g := (mkF m 240 #[s0, s1, s2, s3, s4, s5, .val (.int b6), .val (.ref o7), .val (.int i8), .val (.int i9), .val (.int i10), .unset] [(.int (0 : Int32)), (.ref o7)])) rfl rfl (hb hby at_240) _ ?_
      show Steps p.tables e below (T0.setTop (mkF m 241 #[s0, s1, s2, s3, s4, s5, .val (.int b6), .val (.ref o7), .val (.int i8), .val (.int i9), .val (.int i10), .unset] [(.int w)])) _
      refine XS.iload X0.here hx rfl (hb hby at_241) rfl ?_
      show Steps p.tables e below (T0.setTop (mkF m 243 #[s0, s1, s2, s3, s4, s5, .val (.int b6), .val (.ref o7), .val (.int i8), .val (.int i9), .val (.int i10), .unset] [(.int b6), (.int w)])) _
      by_cases hc243 : w = b6
      · refine XS.icmpNo X0.here hx rfl (hb hby at_243) rfl (teq hc243).2 ?_
        show Steps p.tables e below (T0.setTop (mkF m 246 #[s0, s1, s2, s3, s4, s5, .val (.int b6), .val (.ref o7), .val (.int i8), .val (.int i9), .val (.int i10), .unset] [])) _
        refine XS.iconst X0.here hx rfl (hb hby at_246) ?_
        show Steps p.tables e below (T0.setTop (mkF m 247 #[s0, s1, s2, s3, s4, s5, .val (.int b6), .val (.ref o7), .val (.int i8), .val (.int i9), .val (.int i10), .unset] [(.int (0 : Int32))])) _
        refine XS.istore X0.here hx rfl (hb hby at_247) rfl (l' := #[s0, s1, s2, s3, s4, s5, .val (.int b6), .val (.ref o7), .val (.int i8), .val (.int i9), .val (.int (0 : Int32)), .unset]) rfl ?_
        rw [k2 hc228 hc234 hc243] at kt
        exact kt
      · refine XS.icmpYes X0.here hx rfl (pc0 := 243) (pc' := 249) rfl (hb hby at_243) rfl (feq hc243).2 (by decide) (by decide) ?_
        rw [k3 hc228 hc234 hc243] at kt
        exact kt
    · refine XS.icmpYes X0.here hx rfl (pc0 := 234) (pc' := 249) rfl (hb hby at_234) rfl (flt hc234).2.1 (by decide) (by decide) ?_
      rw [k4 hc228 hc234] at kt
      exact kt
theorem pn_0 : plainName "com/example/vouchgate/vouchgate/http/FormIndexOfPinLaw" = true := by first | (simp [plainName, overriddenIn]; done) | decide +kernel
theorem ef_0 (m : MethodId) (q1 : Int64) (p2 : Int32) (p3 : Int32) (p4 : Int32) (p5 : Int32) : entryFrame m #[(.long q1), (.int p2), (.int p3), (.int p4), (.int p5)] maxLocals = mkF m 0 #[.val (.long q1), .second, .val (.int p2), .val (.int p3), .val (.int p4), .val (.int p5), .unset, .unset, .unset, .unset, .unset, .unset] [] := by first | (simp [entryFrame, mkF, argsToLocals, Value.category, maxLocals]; done) | rfl
theorem pd_0_0 : parseMethodDescriptor "(JIBI)B" = some ⟨[.long, .int, .byte, .int], some .byte⟩ := by decide +kernel
theorem pd_0_1 : parseMethodDescriptor "([BBII)I" = some ⟨[(.array .byte), .byte, .int, .int], some .int⟩ := by decide +kernel
def Q0 (h0 : Heap) (n0 : Nat) (v : Option Value) (h : Heap) (L : List Loc) : Prop := v = some (.int (1 : Int32)) ∧ Fr n0 L
set_option maxRecDepth 65536 in
set_option maxHeartbeats 40000000 in
theorem rm0 (l : Launch) (Z : State) (a0 : Array Value) (hw : ∀ d ∈ tables_1, d.before a0 Z = true) (ws : List Jvm.Cond) (q1 : Int64) (p2 : Int32) (p3 : Int32) (p4 : Int32) (p5 : Int32) (h0 : Heap) (n0 : Nat) (Z0 : n0 ≤ h0.size) :
    MetFree l x (head1 (Jvm.Cond.code x code maxLocals ret :: ws) room_1) (fun a U => a = #[(.long q1), (.int p2), (.int p3), (.int p4), (.int p5)] ∧ Z.Warmed39 U.vm ∧ U.heap = h0) (fun _ _ _ _ _ => True) (fun _ U o U' => ∃ v L, o = .returned v ∧ Q0 h0 n0 v U'.heap L ∧ FrameEnd U o U' L room_1.cells room_1.slots) := by
  refine MetFree.of_bodySF (plainFor_of_name pn_0) hisR ?_
  intro p e s m args below meth c s₁ Bd hml0 hP hK
  obtain ⟨rfl, hZ, hh⟩ := hP
  have hx := Bd.exec
  have hby := Bd.bytes
  have hml : c.maxLocals = 12 := hml0
  have hown : s.vm.findClass "com/example/vouchgate/vouchgate/http/FormIndexOfPinLaw" = some m.cls := findClass_of_methodNamed Bd.named
  have hnm := (name_of_methodNamed Bd.named Bd.method).1
  have X0 : Stand p l e room_1 s m #[(.long q1), (.int p2), (.int p3), (.int p4), (.int p5)] below meth c s₁ [] 0 0 := Stand.of_body Bd
  have e0 : s₁.heap = h0 := by rw [← hh, Bd.state]; rfl
  have N0 := Fr.nil n0
  have pre0 : ∀ t, Steps p.tables e below (s₁.setTop (mkF m 0 #[.val (.long q1), .second, .val (.int p2), .val (.int p3), .val (.int p4), .val (.int p5), .unset, .unset, .unset, .unset, .unset, .unset] [])) t → Steps p.tables e below (s₁.setTop (entryFrame m #[(.long q1), (.int p2), (.int p3), (.int p4), (.int p5)] maxLocals)) t := fun t k => castTop (ef_0 m q1 p2 p3 p4 p5) k
  obtain ⟨T1, h1, k1, X1, e1, E1, A1, st1⟩ := newP X0 hx hZ (hw _ (List.mem_of_getElem? (i := 0) rfl)) e0 (g := (mkF m 6 #[.val (.long q1), .second, .val (.int p2), .val (.int p3), .val (.int p4), .val (.int p5), .val (.int (p3.toInt8.toInt32)), .unset, .unset, .unset, .unset, .unset] [(.int (6 : Int32))])) rfl (hb hby at_6) rfl (by decide) (cap := 6) (by decide) (by decide) (by decide) (by decide)
  obtain ⟨b1, g1⟩ : ∃ z, z = h0.size := ⟨_, rfl⟩
  rw [← g1] at A1 st1
  have g_b : n0 ≤ b1 := Nat.le_trans Z0 (Nat.le_of_eq g1.symm)
  have Z1 : n0 ≤ h1.size := Nat.le_trans Z0 E1.1
  obtain ⟨f1, V1⟩ : ∃ f : Nat → Int32, Arv Z h1 b1 k1 .byte (6 : Int32) (own_vals f 6) (.int (0 : Int32)) := ⟨_, (Arv.new A1 (by decide)).pad (own_pad 6)⟩
  obtain ⟨w2, hw2⟩ : ∃ z, z = (own_el q1 p2 (p3.toInt8.toInt32) (0 : Int32)) := ⟨_, rfl⟩
  obtain ⟨_, _, ⟨T2, L2, k2, n2⟩, -, X2, ⟨Lc2, hQ2, l2, y2, z2⟩, st2⟩ := Jvm.LawKit.callS X1 hx (y := (⟨"com/example/vouchgate/vouchgate/http/FormIndexOfPinLaw", "el", "(JIBI)B"⟩ : MethodName)) hown (mvT hZ (hw _ (List.mem_of_getElem? (i := 1) rfl))) (mvT hZ (hw _ (List.mem_of_getElem? (i := 2) rfl))) (mvT hZ (hw _ (List.mem_of_getElem? (i := 3) rfl))) (mvT hZ (hw _ (List.mem_of_getElem? (i := 4) rfl))) (by decide) (backOf (W := 2) (rm1 l Z a0 hw [] q1 p2 (p3.toInt8.toInt32) (0 : Int32) w2 h1 n0 Z1 (fun h => hw2.trans (if_pos h)) (fun h => hw2.trans (if_neg h))) hZ (hw _ (List.mem_of_getElem? (i := 4) rfl)) (hw _ (List.mem_of_getElem? (i := 3) rfl)) (by decide) (by decide)) (g := (mkF m 18 #[.val (.long q1), .second, .val (.int p2), .val (.int p3), .val (.int p4), .val (.int p5), .val (.int (p3.toInt8.toInt32)), .val (.ref b1), .unset, .unset, .unset, .unset] [(.int (0 : Int32)), (.int (p3.toInt8.toInt32)), (.int p2), (.long q1), (.int (0 : Int32)), (.ref b1)])) rfl (by rw [hml]; rfl) (argsL := [(.long q1), (.int p2), (.int (p3.toInt8.toInt32)), (.int (0 : Int32))]) (rest := [(.int (0 : Int32)), (.ref b1)]) (lenOf pd_0_0 rfl) rfl (by show 2 * 0 + _ ≤ _; exact Nat.le_of_eq rfl) (hb hby at_18) (fun _ _ => ⟨rfl, e1, (by decide : 1 + 0 ≤ _), (by decide : 6 + 0 ≤ _)⟩)
  dsimp only [Pt.U, Pt.locs, Pt.cells, Pt.slots] at X2 l2 y2 z2 st2 hQ2
  subst l2 y2 z2
  obtain ⟨rfl, N2q, e2⟩ := hQ2
  have N2 := Fr.app N0 N2q
  obtain ⟨cl3, Ar3, q3, S3, M3, H3, G3⟩ := V1
  have hin3 := inb_of (j := (0 : Int32)) S3 ⟨by decide, by decide⟩
  obtain ⟨T3, h3, X3, e3, W3, st3⟩ := stB X2 hx hZ e2 Ar3 (j := (0 : Int32)) hin3 (g := (mkF m 21 #[.val (.long q1), .second, .val (.int p2), .val (.int p3), .val (.int p4), .val (.int p5), .val (.int (p3.toInt8.toInt32)), .val (.ref b1), .unset, .unset, .unset, .unset] [(.int w2), (.int (0 : Int32)), (.ref b1)])) rfl rfl (hb hby at_21)
  have N3 := Fr.snoc X3 N2 g_b
  have V3' := Arv.set Ar3 q3 S3 M3 H3 G3 (fits_nar_byte _) W3 0 rfl (by rw [own_len]; decide)
  rw [own_set] at V3'
  obtain ⟨f3, V3⟩ : ∃ f : Nat → Int32, Arv Z h3 b1 k1 .byte (6 : Int32) (own_vals f 6) (.int (0 : Int32)) := ⟨_, V3'⟩
  have Z3 : n0 ≤ h3.size := Nat.le_trans Z1 (Keep.of_wr W3).1
  obtain ⟨w4, hw4⟩ : ∃ z, z = (own_el q1 p2 (p3.toInt8.toInt32) (1 : Int32)) := ⟨_, rfl⟩
  obtain ⟨_, _, ⟨T4, L4, k4, n4⟩, -, X4, ⟨Lc4, hQ4, l4, y4, z4⟩, st4⟩ := Jvm.LawKit.callS X3 hx (y := (⟨"com/example/vouchgate/vouchgate/http/FormIndexOfPinLaw", "el", "(JIBI)B"⟩ : MethodName)) hown (mvT hZ (hw _ (List.mem_of_getElem? (i := 1) rfl))) (mvT hZ (hw _ (List.mem_of_getElem? (i := 2) rfl))) (mvT hZ (hw _ (List.mem_of_getElem? (i := 3) rfl))) (mvT hZ (hw _ (List.mem_of_getElem? (i := 4) rfl))) (by decide) (backOf (W := 2) (rm1 l Z a0 hw [] q1 p2 (p3.toInt8.toInt32) (1 : Int32) w4 h3 n0 Z3 (fun h => hw4.trans (if_pos h)) (fun h => hw4.trans (if_neg h))) hZ (hw _ (List.mem_of_getElem? (i := 4) rfl)) (hw _ (List.mem_of_getElem? (i := 3) rfl)) (by decide) (by decide)) (g := (mkF m 30 #[.val (.long q1), .second, .val (.int p2), .val (.int p3), .val (.int p4), .val (.int p5), .val (.int (p3.toInt8.toInt32)), .val (.ref b1), .unset, .unset, .unset, .unset] [(.int (1 : Int32)), (.int (p3.toInt8.toInt32)), (.int p2), (.long q1), (.int (1 : Int32)), (.ref b1)])) rfl (by rw [hml]; rfl) (argsL := [(.long q1), (.int p2), (.int (p3.toInt8.toInt32)), (.int (1 : Int32))]) (rest := [(.int (1 : Int32)), (.ref b1)]) (lenOf pd_0_0 rfl) rfl (by show 2 * 0 + _ ≤ _; exact Nat.le_of_eq rfl) (hb hby at_30) (fun _ _ => ⟨rfl, e3, (by decide : 1 + 0 ≤ _), (by decide : 6 + 0 ≤ _)⟩)
  dsimp only [Pt.U, Pt.locs, Pt.cells, Pt.slots] at X4 l4 y4 z4 st4 hQ4
  subst l4 y4 z4
  obtain ⟨rfl, N4q, e4⟩ := hQ4
  have N4 := Fr.app N3 N4q
  obtain ⟨cl5, Ar5, q5, S5, M5, H5, G5⟩ := V3
  have hin5 := inb_of (j := (1 : Int32)) S5 ⟨by decide, by decide⟩
  obtain ⟨T5, h5, X5, e5, W5, st5⟩ := stB X4 hx hZ e4 Ar5 (j := (1 : Int32)) hin5 (g := (mkF m 33 #[.val (.long q1), .second, .val (.int p2), .val (.int p3), .val (.int p4), .val (.int p5), .val (.int (p3.toInt8.toInt32)), .val (.ref b1), .unset, .unset, .unset, .unset] [(.int w4), (.int (1 : Int32)), (.ref b1)])) rfl rfl (hb hby at_33)
  have N5 := Fr.snoc X5 N4 g_b
  have V5' := Arv.set Ar5 q5 S5 M5 H5 G5 (fits_nar_byte _) W5 1 rfl (by rw [own_len]; decide)
  rw [own_set] at V5'
  obtain ⟨f5, V5⟩ : ∃ f : Nat → Int32, Arv Z h5 b1 k1 .byte (6 : Int32) (own_vals f 6) (.int (0 : Int32)) := ⟨_, V5'⟩
  have Z5 : n0 ≤ h5.size := Nat.le_trans Z3 (Keep.of_wr W5).1
  obtain ⟨w6, hw6⟩ : ∃ z, z = (own_el q1 p2 (p3.toInt8.toInt32) (2 : Int32)) := ⟨_, rfl⟩
  obtain ⟨_, _, ⟨T6, L6, k6, n6⟩, -, X6, ⟨Lc6, hQ6, l6, y6, z6⟩, st6⟩ := Jvm.LawKit.callS X5 hx (y := (⟨"com/example/vouchgate/vouchgate/http/FormIndexOfPinLaw", "el", "(JIBI)B"⟩ : MethodName)) hown (mvT hZ (hw _ (List.mem_of_getElem? (i := 1) rfl))) (mvT hZ (hw _ (List.mem_of_getElem? (i := 2) rfl))) (mvT hZ (hw _ (List.mem_of_getElem? (i := 3) rfl))) (mvT hZ (hw _ (List.mem_of_getElem? (i := 4) rfl))) (by decide) (backOf (W := 2) (rm1 l Z a0 hw [] q1 p2 (p3.toInt8.toInt32) (2 : Int32) w6 h5 n0 Z5 (fun h => hw6.trans (if_pos h)) (fun h => hw6.trans (if_neg h))) hZ (hw _ (List.mem_of_getElem? (i := 4) rfl)) (hw _ (List.mem_of_getElem? (i := 3) rfl)) (by decide) (by decide)) (g := (mkF m 42 #[.val (.long q1), .second, .val (.int p2), .val (.int p3), .val (.int p4), .val (.int p5), .val (.int (p3.toInt8.toInt32)), .val (.ref b1), .unset, .unset, .unset, .unset] [(.int (2 : Int32)), (.int (p3.toInt8.toInt32)), (.int p2), (.long q1), (.int (2 : Int32)), (.ref b1)])) rfl (by rw [hml]; rfl) (argsL := [(.long q1), (.int p2), (.int (p3.toInt8.toInt32)), (.int (2 : Int32))]) (rest := [(.int (2 : Int32)), (.ref b1)]) (lenOf pd_0_0 rfl) rfl (by show 2 * 0 + _ ≤ _; exact Nat.le_of_eq rfl) (hb hby at_42) (fun _ _ => ⟨rfl, e5, (by decide : 1 + 0 ≤ _), (by decide : 6 + 0 ≤ _)⟩)
  dsimp only [Pt.U, Pt.locs, Pt.cells, Pt.slots] at X6 l6 y6 z6 st6 hQ6
  subst l6 y6 z6
  obtain ⟨rfl, N6q, e6⟩ := hQ6
  have N6 := Fr.app N5 N6q
  obtain ⟨cl7, Ar7, q7, S7, M7, H7, G7⟩ := V5
  have hin7 := inb_of (j := (2 : Int32)) S7 ⟨by decide, by decide⟩
  obtain ⟨T7, h7, X7, e7, W7, st7⟩ := stB X6 hx hZ e6 Ar7 (j := (2 : Int32)) hin7 (g := (mkF m 45 #[.val (.long q1), .second, .val (.int p2), .val (.int p3), .val (.int p4), .val (.int p5), .val (.int (p3.toInt8.toInt32)), .val (.ref b1), .unset, .unset, .unset, .unset] [(.int w6), (.int (2 : Int32)), (.ref b1)])) rfl rfl (hb hby at_45)
  have N7 := Fr.snoc X7 N6 g_b
  have V7' := Arv.set Ar7 q7 S7 M7 H7 G7 (fits_nar_byte _) W7 2 rfl (by rw [own_len]; decide)
  rw [own_set] at V7'
  obtain ⟨f7, V7⟩ : ∃ f : Nat → Int32, Arv Z h7 b1 k1 .byte (6 : Int32) (own_vals f 6) (.int (0 : Int32)) := ⟨_, V7'⟩
  have Z7 : n0 ≤ h7.size := Nat.le_trans Z5 (Keep.of_wr W7).1
  obtain ⟨w8, hw8⟩ : ∃ z, z = (own_el q1 p2 (p3.toInt8.toInt32) (3 : Int32)) := ⟨_, rfl⟩
  obtain ⟨_, _, ⟨T8, L8, k8, n8⟩, -, X8, ⟨Lc8, hQ8, l8, y8, z8⟩, st8⟩ := Jvm.LawKit.callS X7 hx (y := (⟨"com/example/vouchgate/vouchgate/http/FormIndexOfPinLaw", "el", "(JIBI)B"⟩ : MethodName)) hown (mvT hZ (hw _ (List.mem_of_getElem? (i := 1) rfl))) (mvT hZ (hw _ (List.mem_of_getElem? (i := 2) rfl))) (mvT hZ (hw _ (List.mem_of_getElem? (i := 3) rfl))) (mvT hZ (hw _ (List.mem_of_getElem? (i := 4) rfl))) (by decide) (backOf (W := 2) (rm1 l Z a0 hw [] q1 p2 (p3.toInt8.toInt32) (3 : Int32) w8 h7 n0 Z7 (fun h => hw8.trans (if_pos h)) (fun h => hw8.trans (if_neg h))) hZ (hw _ (List.mem_of_getElem? (i := 4) rfl)) (hw _ (List.mem_of_getElem? (i := 3) rfl)) (by decide) (by decide)) (g := (mkF m 54 #[.val (.long q1), .second, .val (.int p2), .val (.int p3), .val (.int p4), .val (.int p5), .val (.int (p3.toInt8.toInt32)), .val (.ref b1), .unset, .unset, .unset, .unset] [(.int (3 : Int32)), (.int (p3.toInt8.toInt32)), (.int p2), (.long q1), (.int (3 : Int32)), (.ref b1)])) rfl (by rw [hml]; rfl) (argsL := [(.long q1), (.int p2), (.int (p3.toInt8.toInt32)), (.int (3 : Int32))]) (rest := [(.int (3 : Int32)), (.ref b1)]) (lenOf pd_0_0 rfl) rfl (by show 2 * 0 + _ ≤ _; exact Nat.le_of_eq rfl) (hb hby at_54) (fun _ _ => ⟨rfl, e7, (by decide : 1 + 0 ≤ _), (by decide : 6 + 0 ≤ _)⟩)
  dsimp only [Pt.U, Pt.locs, Pt.cells, Pt.slots] at X8 l8 y8 z8 st8 hQ8
  subst l8 y8 z8
  obtain ⟨rfl, N8q, e8⟩ := hQ8
  have N8 := Fr.app N7 N8q
  obtain ⟨cl9, Ar9, q9, S9, M9, H9, G9⟩ := V7
  have hin9 := inb_of (j := (3 : Int32)) S9 ⟨by decide, by decide⟩
  obtain ⟨T9, h9, X9, e9, W9, st9⟩ := stB X8 hx hZ e8 Ar9 (j := (3 : Int32)) hin9 (g := (mkF m 57 #[.val (.long q1), .second, .val (.int p2), .val (.int p3), .val (.int p4), .val (.int p5), .val (.int (p3.toInt8.toInt32)), .val (.ref b1), .unset, .unset, .unset, .unset] [(.int w8), (.int (3 : Int32)), (.ref b1)])) rfl rfl (hb hby at_57)
  have N9 := Fr.snoc X9 N8 g_b
  have V9' := Arv.set Ar9 q9 S9 M9 H9 G9 (fits_nar_byte _) W9 3 rfl (by rw [own_len]; decide)
  rw [own_set] at V9'
  obtain ⟨f9, V9⟩ : ∃ f : Nat → Int32, Arv Z h9 b1 k1 .byte (6 : Int32) (own_vals f 6) (.int (0 : Int32)) := ⟨_, V9'⟩
  have Z9 : n0 ≤ h9.size := Nat.le_trans Z7 (Keep.of_wr W9).1
  obtain ⟨w10, hw10⟩ : ∃ z, z = (own_el q1 p2 (p3.toInt8.toInt32) (4 : Int32)) := ⟨_, rfl⟩
  obtain ⟨_, _, ⟨T10, L10, k10, n10⟩, -, X10, ⟨Lc10, hQ10, l10, y10, z10⟩, st10⟩ := Jvm.LawKit.callS X9 hx (y := (⟨"com/example/vouchgate/vouchgate/http/FormIndexOfPinLaw", "el", "(JIBI)B"⟩ : MethodName)) hown (mvT hZ (hw _ (List.mem_of_getElem? (i := 1) rfl))) (mvT hZ (hw _ (List.mem_of_getElem? (i := 2) rfl))) (mvT hZ (hw _ (List.mem_of_getElem? (i := 3) rfl))) (mvT hZ (hw _ (List.mem_of_getElem? (i := 4) rfl))) (by decide) (backOf (W := 2) (rm1 l Z a0 hw [] q1 p2 (p3.toInt8.toInt32) (4 : Int32) w10 h9 n0 Z9 (fun h => hw10.trans (if_pos h)) (fun h => hw10.trans (if_neg h))) hZ (hw _ (List.mem_of_getElem? (i := 4) rfl)) (hw _ (List.mem_of_getElem? (i := 3) rfl)) (by decide) (by decide)) (g := (mkF m 66 #[.val (.long q1), .second, .val (.int p2), .val (.int p3), .val (.int p4), .val (.int p5), .val (.int (p3.toInt8.toInt32)), .val (.ref b1), .unset, .unset, .unset, .unset] [(.int (4 : Int32)), (.int (p3.toInt8.toInt32)), (.int p2), (.long q1), (.int (4 : Int32)), (.ref b1)])) rfl (by rw [hml]; rfl) (argsL := [(.long q1), (.int p2), (.int (p3.toInt8.toInt32)), (.int (4 : Int32))]) (rest := [(.int (4 : Int32)), (.ref b1)]) (lenOf pd_0_0 rfl) rfl (by show 2 * 0 + _ ≤ _; exact Nat.le_of_eq rfl) (hb hby at_66) (fun _ _ => ⟨rfl, e9, (by decide : 1 + 0 ≤ _), (by decide : 6 + 0 ≤ _)⟩)
  dsimp only [Pt.U, Pt.locs, Pt.cells, Pt.slots] at X10 l10 y10 z10 st10 hQ10
  subst l10 y10 z10
  obtain ⟨rfl, N10q, e10⟩ := hQ10
  have N10 := Fr.app N9 N10q
  obtain ⟨cl11, Ar11, q11, S11, M11, H11, G11⟩ := V9
  have hin11 := inb_of (j := (4 : Int32)) S11 ⟨by decide, by decide⟩
  obtain ⟨T11, h11, X11, e11, W11, st11⟩ := stB X10 hx hZ e10 Ar11 (j := (4 : Int32)) hin11 (g := (mkF m 69 #[.val (.long q1), .second, .val (.int p2), .val (.int p3), .val (.int p4), .val (.int p5), .val (.int (p3.toInt8.toInt32)), .val (.ref b1), .unset, .unset, .unset, .unset] [(.int w10), (.int (4 : Int32)), (.ref b1)])) rfl rfl (hb hby at_69)
  have N11 := Fr.snoc X11 N10 g_b
  have V11' := Arv.set Ar11 q11 S11 M11 H11 G11 (fits_nar_byte _) W11 4 rfl (by rw [own_len]; decide)
  rw [own_set] at V11'
  obtain ⟨f11, V11⟩ : ∃ f : Nat → Int32, Arv Z h11 b1 k1 .byte (6 : Int32) (own_vals f 6) (.int (0 : Int32)) := ⟨_, V11'⟩
  have Z11 : n0 ≤ h11.size := Nat.le_trans Z9 (Keep.of_wr W11).1
  obtain ⟨w12, hw12⟩ : ∃ z, z = (own_el q1 p2 (p3.toInt8.toInt32) (5 : Int32)) := ⟨_, rfl⟩
  obtain ⟨_, _, ⟨T12, L12, k12, n12⟩, -, X12, ⟨Lc12, hQ12, l12, y12, z12⟩, st12⟩ := Jvm.LawKit.callS X11 hx (y := (⟨"com/example/vouchgate/vouchgate/http/FormIndexOfPinLaw", "el", "(JIBI)B"⟩ : MethodName)) hown (mvT hZ (hw _ (List.mem_of_getElem? (i := 1) rfl))) (mvT hZ (hw _ (List.mem_of_getElem? (i := 2) rfl))) (mvT hZ (hw _ (List.mem_of_getElem? (i := 3) rfl))) (mvT hZ (hw _ (List.mem_of_getElem? (i := 4) rfl))) (by decide) (backOf (W := 2) (rm1 l Z a0 hw [] q1 p2 (p3.toInt8.toInt32) (5 : Int32) w12 h11 n0 Z11 (fun h => hw12.trans (if_pos h)) (fun h => hw12.trans (if_neg h))) hZ (hw _ (List.mem_of_getElem? (i := 4) rfl)) (hw _ (List.mem_of_getElem? (i := 3) rfl)) (by decide) (by decide)) (g := (mkF m 78 #[.val (.long q1), .second, .val (.int p2), .val (.int p3), .val (.int p4), .val (.int p5), .val (.int (p3.toInt8.toInt32)), .val (.ref b1), .unset, .unset, .unset, .unset] [(.int (5 : Int32)), (.int (p3.toInt8.toInt32)), (.int p2), (.long q1), (.int (5 : Int32)), (.ref b1)])) rfl (by rw [hml]; rfl) (argsL := [(.long q1), (.int p2), (.int (p3.toInt8.toInt32)), (.int (5 : Int32))]) (rest := [(.int (5 : Int32)), (.ref b1)]) (lenOf pd_0_0 rfl) rfl (by show 2 * 0 + _ ≤ _; exact Nat.le_of_eq rfl) (hb hby at_78) (fun _ _ => ⟨rfl, e11, (by decide : 1 + 0 ≤ _), (by decide : 6 + 0 ≤ _)⟩)
  dsimp only [Pt.U, Pt.locs, Pt.cells, Pt.slots] at X12 l12 y12 z12 st12 hQ12
  subst l12 y12 z12
  obtain ⟨rfl, N12q, e12⟩ := hQ12
  have N12 := Fr.app N11 N12q
  obtain ⟨cl13, Ar13, q13, S13, M13, H13, G13⟩ := V11
  have hin13 := inb_of (j := (5 : Int32)) S13 ⟨by decide, by decide⟩
  obtain ⟨T13, h13, X13, e13, W13, st13⟩ := stB X12 hx hZ e12 Ar13 (j := (5 : Int32)) hin13 (g := (mkF m 81 #[.val (.long q1), .second, .val (.int p2), .val (.int p3), .val (.int p4), .val (.int p5), .val (.int (p3.toInt8.toInt32)), .val (.ref b1), .unset, .unset, .unset, .unset] [(.int w12), (.int (5 : Int32)), (.ref b1)])) rfl rfl (hb hby at_81)
  have N13 := Fr.snoc X13 N12 g_b
  have V13' := Arv.set Ar13 q13 S13 M13 H13 G13 (fits_nar_byte _) W13 5 rfl (by rw [own_len]; decide)
  rw [own_set] at V13'
  obtain ⟨f13, V13⟩ : ∃ f : Nat → Int32, Arv Z h13 b1 k1 .byte (6 : Int32) (own_vals f 6) (.int (0 : Int32)) := ⟨_, V13'⟩
  have Z13 : n0 ≤ h13.size := Nat.le_trans Z11 (Keep.of_wr W13).1
  obtain ⟨cl, Ar, q_, S_, M_, H_, G_⟩ := V13
  have S6 : cl.slots.size = 6 := S_
  have hat : ∀ j, j < 6 → cl.slots[j]? = some (.int (f13 j)) := fun j hj => by
    have q := H_ j (by rw [S6]; exact hj)
    rw [own_at f13 hj] at q
    exact q
  obtain ⟨aa, haa, eaa⟩ := own_rem p4 7 (by decide) (by decide)
  obtain ⟨cc, hcc, ecc⟩ := own_rem p5 7 (by decide) (by decide)
  obtain ⟨e_5, he_5⟩ : ∃ z, z = own_st 5 aa cc cc (f13 5) (p3.toInt8.toInt32) := ⟨_, rfl⟩
  obtain ⟨e_4, he_4⟩ : ∃ z, z = own_st 4 aa cc e_5 (f13 4) (p3.toInt8.toInt32) := ⟨_, rfl⟩
  obtain ⟨e_3, he_3⟩ : ∃ z, z = own_st 3 aa cc e_4 (f13 3) (p3.toInt8.toInt32) := ⟨_, rfl⟩
  obtain ⟨e_2, he_2⟩ : ∃ z, z = own_st 2 aa cc e_3 (f13 2) (p3.toInt8.toInt32) := ⟨_, rfl⟩
  obtain ⟨e_1, he_1⟩ : ∃ z, z = own_st 1 aa cc e_2 (f13 1) (p3.toInt8.toInt32) := ⟨_, rfl⟩
  obtain ⟨e_0, he_0⟩ : ∃ z, z = own_st 0 aa cc e_1 (f13 0) (p3.toInt8.toInt32) := ⟨_, rfl⟩
  have hfin : Int32.ofNat (own_res f13 (p3.toInt8.toInt32) aa cc) = Int32.ofNat e_0 := by
    rw [he_0, he_1, he_2, he_3, he_4, he_5, own_law _ _ _ _ haa hcc]
  obtain ⟨_, _, ⟨T20, L20, k20, n20⟩, -, X20, ⟨Lc20, hQ20, l20, y20, z20⟩, st20⟩ := Jvm.LawKit.callS X13 hx (y := (⟨"com/example/vouchgate/vouchgate/http/Form", "indexOf", "([BBII)I"⟩ : MethodName)) hown (mvT hZ (hw _ (List.mem_of_getElem? (i := 6) rfl))) (mvT hZ (hw _ (List.mem_of_getElem? (i := 7) rfl))) (mvT hZ (hw _ (List.mem_of_getElem? (i := 8) rfl))) (mvT hZ (hw _ (List.mem_of_getElem? (i := 9) rfl))) (by decide) (backOf (W := 0) (rm2 l Z a0 hw [] b1 (p3.toInt8.toInt32) aa cc k1 f13 h13 n0 Z13 (by omega) (by omega) ⟨cl, Ar, q_, S_, M_, H_, G_⟩) hZ (hw _ (List.mem_of_getElem? (i := 9) rfl)) (hw _ (List.mem_of_getElem? (i := 8) rfl)) (by decide) (by decide)) (g := (mkF m 257 #[.val (.long q1), .second, .val (.int p2), .val (.int p3), .val (.int p4), .val (.int p5), .val (.int (p3.toInt8.toInt32)), .val (.ref b1), .val (.int (Int32.ofNat aa)), .val (.int (Int32.ofNat cc)), .val (.int (Int32.ofNat e_0)), .unset] [(.int (Int32.ofNat cc)), (.int (Int32.ofNat aa)), (.int (p3.toInt8.toInt32)), (.ref b1)])) rfl (by rw [hml]; rfl) (argsL := [(.ref b1), (.int (p3.toInt8.toInt32)), (.int (Int32.ofNat aa)), (.int (Int32.ofNat cc))]) (rest := []) (lenOf pd_0_1 rfl) rfl (by show 2 * 0 + _ ≤ _; exact Nat.le_of_eq rfl) (hb hby at_257) (fun _ _ => ⟨rfl, e13, (by decide : 1 + 0 ≤ _), (by decide : 6 + 0 ≤ _)⟩)
  dsimp only [Pt.U, Pt.locs, Pt.cells, Pt.slots] at X20 l20 y20 z20 st20 hQ20
  subst l20 y20 z20
  obtain ⟨rfl, N20q, e20⟩ := hQ20
  have N20 := Fr.app N13 N20q
  obtain ⟨fs, hr, hrun, hended, hW, hsame⟩ := X20.leave (v := some (.int (1 : Int32))) (fun h => by rw [Bd.returns] at h; cases h)
  refine ⟨_, _, pre0 _ ?_, hrun, hended, _, _, rfl, ?_, ⟨_, rfl⟩, hW, hsame.mono (by decide) (by decide)⟩
  · show Steps p.tables e below (s₁.setTop (mkF m 0 #[.val (.long q1), .second, .val (.int p2), .val (.int p3), .val (.int p4), .val (.int p5), .unset, .unset, .unset, .unset, .unset, .unset] [])) _
    refine XS.iloadN X0.here hx rfl (hb hby at_0) rfl ?_
    show Steps p.tables e below (s₁.setTop (mkF m 1 #[.val (.long q1), .second, .val (.int p2), .val (.int p3), .val (.int p4), .val (.int p5), .unset, .unset, .unset, .unset, .unset, .unset] [(.int p3)])) _
    refine XS.i2b X0.here hx rfl (hb hby at_1) rfl ?_
    show Steps p.tables e below (s₁.setTop (mkF m 2 #[.val (.long q1), .second, .val (.int p2), .val (.int p3), .val (.int p4), .val (.int p5), .unset, .unset, .unset, .unset, .unset, .unset] [(.int (p3.toInt8.toInt32))])) _
    refine XS.istore X0.here hx rfl (hb hby at_2) rfl (l' := #[.val (.long q1), .second, .val (.int p2), .val (.int p3), .val (.int p4), .val (.int p5), .val (.int (p3.toInt8.toInt32)), .unset, .unset, .unset, .unset, .unset]) rfl ?_
    show Steps p.tables e below (s₁.setTop (mkF m 4 #[.val (.long q1), .second, .val (.int p2), .val (.int p3), .val (.int p4), .val (.int p5), .val (.int (p3.toInt8.toInt32)), .unset, .unset, .unset, .unset, .unset] [])) _
    refine XS.bipush X0.here hx rfl (hb hby at_4) ?_
    show Steps p.tables e below (s₁.setTop (mkF m 6 #[.val (.long q1), .second, .val (.int p2), .val (.int p3), .val (.int p4), .val (.int p5), .val (.int (p3.toInt8.toInt32)), .unset, .unset, .unset, .unset, .unset] [(.int (6 : Int32))])) _
    refine st1 _ ?_
    show Steps p.tables e below (T1.setTop (mkF m 8 #[.val (.long q1), .second, .val (.int p2), .val (.int p3), .val (.int p4), .val (.int p5), .val (.int (p3.toInt8.toInt32)), .unset, .unset, .unset, .unset, .unset] [(.ref b1)])) _
    refine XS.astore X1.here hx rfl (hb hby at_8) rfl rfl (l' := #[.val (.long q1), .second, .val (.int p2), .val (.int p3), .val (.int p4), .val (.int p5), .val (.int (p3.toInt8.toInt32)), .val (.ref b1), .unset, .unset, .unset, .unset]) rfl ?_
    show Steps p.tables e below (T1.setTop (mkF m 10 #[.val (.long q1), .second, .val (.int p2), .val (.int p3), .val (.int p4), .val (.int p5), .val (.int (p3.toInt8.toInt32)), .val (.ref b1), .unset, .unset, .unset, .unset] [])) _
    refine XS.aload X1.here hx rfl (hb hby at_10) rfl rfl ?_
    show Steps p.tables e below (T1.setTop (mkF m 12 #[.val (.long q1), .second, .val (.int p2), .val (.int p3), .val (.int p4), .val (.int p5), .val (.int (p3.toInt8.toInt32)), .val (.ref b1), .unset, .unset, .unset, .unset] [(.ref b1)])) _
    refine XS.iconst X1.here hx rfl (hb hby at_12) ?_
    show Steps p.tables e below (T1.setTop (mkF m 13 #[.val (.long q1), .second, .val (.int p2), .val (.int p3), .val (.int p4), .val (.int p5), .val (.int (p3.toInt8.toInt32)), .val (.ref b1), .unset, .unset, .unset, .unset] [(.int (0 : Int32)), (.ref b1)])) _
    refine XS.lloadN X1.here hx rfl (hb hby at_13) rfl ?_
    show Steps p.tables e below (T1.setTop (mkF m 14 #[.val (.long q1), .second, .val (.int p2), .val (.int p3), .val (.int p4), .val (.int p5), .val (.int (p3.toInt8.toInt32)), .val (.ref b1), .unset, .unset, .unset, .unset] [(.long q1), (.int (0 : Int32)), (.ref b1)])) _
    refine XS.iloadN X1.here hx rfl (hb hby at_14) rfl ?_
    show Steps p.tables e below (T1.setTop (mkF m 15 #[.val (.long q1), .second, .val (.int p2), .val (.int p3), .val (.int p4), .val (.int p5), .val (.int (p3.toInt8.toInt32)), .val (.ref b1), .unset, .unset, .unset, .unset] [(.int p2), (.long q1), (.int (0 : Int32)), (.ref b1)])) _
    refine XS.iload X1.here hx rfl (hb hby at_15) rfl ?_
    show Steps p.tables e below (T1.setTop (mkF m 17 #[.val (.long q1), .second, .val (.int p2), .val (.int p3), .val (.int p4), .val (.int p5), .val (.int (p3.toInt8.toInt32)), .val (.ref b1), .unset, .unset, .unset, .unset] [(.int (p3.toInt8.toInt32)), (.int p2), (.long q1), (.int (0 : Int32)), (.ref b1)])) _
    refine XS.iconst X1.here hx rfl (hb hby at_17) ?_
    show Steps p.tables e below (T1.setTop (mkF m 18 #[.val (.long q1), .second, .val (.int p2), .val (.int p3), .val (.int p4), .val (.int p5), .val (.int (p3.toInt8.toInt32)), .val (.ref b1), .unset, .unset, .unset, .unset] [(.int (0 : Int32)), (.int (p3.toInt8.toInt32)), (.int p2), (.long q1), (.int (0 : Int32)), (.ref b1)])) _
    refine st2 _ ?_
    show Steps p.tables e below (T2.setTop (mkF m 21 #[.val (.long q1), .second, .val (.int p2), .val (.int p3), .val (.int p4), .val (.int p5), .val (.int (p3.toInt8.toInt32)), .val (.ref b1), .unset, .unset, .unset, .unset] [(.int w2), (.int (0 : Int32)), (.ref b1)])) _
    refine st3 _ ?_
    show Steps p.tables e below (T3.setTop (mkF m 22 #[.val (.long q1), .second, .val (.int p2), .val (.int p3), .val (.int p4), .val (.int p5), .val (.int (p3.toInt8.toInt32)), .val (.ref b1), .unset, .unset, .unset, .unset] [])) _
    refine XS.aload X3.here hx rfl (hb hby at_22) rfl rfl ?_
    show Steps p.tables e below (T3.setTop (mkF m 24 #[.val (.long q1), .second, .val (.int p2), .val (.int p3), .val (.int p4), .val (.int p5), .val (.int (p3.toInt8.toInt32)), .val (.ref b1), .unset, .unset, .unset, .unset] [(.ref b1)])) _
    refine XS.iconst X3.here hx rfl (hb hby at_24) ?_
    show Steps p.tables e below (T3.setTop (mkF m 25 #[.val (.long q1), .second, .val (.int p2), .val (.int p3), .val (.int p4), .val (.int p5), .val (.int (p3.toInt8.toInt32)), .val (.ref b1), .unset, .unset, .unset, .unset] [(.int (1 : Int32)), (.ref b1)])) _
    refine XS.lloadN X3.here hx rfl (hb hby at_25) rfl ?_
    show Steps p.tables e below (T3.setTop (mkF m 26 #[.val (.long q1), .second, .val (.int p2), .val (.int p3), .val (.int p4), .val (.int p5), .val (.int (p3.toInt8.toInt32)), .val (.ref b1), .unset, .unset, .unset, .unset] [(.long q1), (.int (1 : Int32)), (.ref b1)])) _
    refine XS.iloadN X3.here hx rfl (hb hby at_26) rfl ?_
    show Steps p.tables e below (T3.setTop (mkF m 27 #[.val (.long q1), .second, .val (.int p2), .val (.int p3), .val (.int p4), .val (.int p5), .val (.int (p3.toInt8.toInt32)), .val (.ref b1), .unset, .unset, .unset, .unset] [(.int p2), (.long q1), (.int (1 : Int32)), (.ref b1)])) _
    refine XS.iload X3.here hx rfl (hb hby at_27) rfl ?_
    show Steps p.tables e below (T3.setTop (mkF m 29 #[.val (.long q1), .second, .val (.int p2), .val (.int p3), .val (.int p4), .val (.int p5), .val (.int (p3.toInt8.toInt32)), .val (.ref b1), .unset, .unset, .unset, .unset] [(.int (p3.toInt8.toInt32)), (.int p2), (.long q1), (.int (1 : Int32)), (.ref b1)])) _
    refine XS.iconst X3.here hx rfl (hb hby at_29) ?_
    show Steps p.tables e below (T3.setTop (mkF m 30 #[.val (.long q1), .second, .val (.int p2), .val (.int p3), .val (.int p4), .val (.int p5), .val (.int (p3.toInt8.toInt32)), .val (.ref b1), .unset, .unset, .unset, .unset] [(.int (1 : Int32)), (.int (p3.toInt8.toInt32)), (.int p2), (.long q1), (.int (1 : Int32)), (.ref b1)])) _
    refine st4 _ ?_
    show Steps p.tables e below (T4.setTop (mkF m 33 #[.val (.long q1), .second, .val (.int p2), .val (.int p3), .val (.int p4), .val (.int p5), .val (.int (p3.toInt8.toInt32)), .val (.ref b1), .unset, .unset, .unset, .unset] [(.int w4), (.int (1 : Int32)), (.ref b1)])) _
    refine st5 _ ?_
    show Steps p.tables e below (T5.setTop (mkF m 34 #[.val (.long q1), .second, .val (.int p2), .val (.int p3), .val (.int p4), .val (.int p5), .val (.int (p3.toInt8.toInt32)), .val (.ref b1), .unset, .unset, .unset, .unset] [])) _
    refine XS.aload X5.here hx rfl (hb hby at_34) rfl rfl ?_
    show Steps p.tables e below (T5.setTop (mkF m 36 #[.val (.long q1), .second, .val (.int p2), .val (.int p3), .val (.int p4), .val (.int p5), .val (.int (p3.toInt8.toInt32)), .val (.ref b1), .unset, .unset, .unset, .unset] [(.ref b1)])) _
    refine XS.iconst X5.here hx rfl (hb hby at_36) ?_
    show Steps p.tables e below (T5.setTop (mkF m 37 #[.val (.long q1), .second, .val (.int p2), .val (.int p3), .val (.int p4), .val (.int p5), .val (.int (p3.toInt8.toInt32)), .val (.ref b1), .unset, .unset, .unset, .unset] [(.int (2 : Int32)), (.ref b1)])) _
    refine XS.lloadN X5.here hx rfl (hb hby at_37) rfl ?_
    show Steps p.tables e below (T5.setTop (mkF m 38 #[.val (.long q1), .second, .val (.int p2), .val (.int p3), .val (.int p4), .val (.int p5), .val (.int (p3.toInt8.toInt32)), .val (.ref b1), .unset, .unset, .unset, .unset] [(.long q1), (.int (2 : Int32)), (.ref b1)])) _
    refine XS.iloadN X5.here hx rfl (hb hby at_38) rfl ?_
    show Steps p.tables e below (T5.setTop (mkF m 39 #[.val (.long q1), .second, .val (.int p2), .val (.int p3), .val (.int p4), .val (.int p5), .val (.int (p3.toInt8.toInt32)), .val (.ref b1), .unset, .unset, .unset, .unset] [(.int p2), (.long q1), (.int (2 : Int32)), (.ref b1)])) _
    refine XS.iload X5.here hx rfl (hb hby at_39) rfl ?_
    show Steps p.tables e below (T5.setTop (mkF m 41 #[.val (.long q1), .second, .val (.int p2), .val (.int p3), .val (.int p4), .val (.int p5), .val (.int (p3.toInt8.toInt32)), .val (.ref b1), .unset, .unset, .unset, .unset] [(.int (p3.toInt8.toInt32)), (.int p2), (.long q1), (.int (2 : Int32)), (.ref b1)])) _
    refine XS.iconst X5.here hx rfl (hb hby at_41) ?_
    show Steps p.tables e below (T5.setTop (mkF m 42 #[.val (.long q1), .second, .val (.int p2), .val (.int p3), .val (.int p4), .val (.int p5), .val (.int (p3.toInt8.toInt32)), .val (.ref b1), .unset, .unset, .unset, .unset] [(.int (2 : Int32)), (.int (p3.toInt8.toInt32)), (.int p2), (.long q1), (.int (2 : Int32)), (.ref b1)])) _
    refine st6 _ ?_
    show Steps p.tables e below (T6.setTop (mkF m 45 #[.val (.long q1), .second, .val (.int p2), .val (.int p3), .val (.int p4), .val (.int p5), .val (.int (p3.toInt8.toInt32)), .val (.ref b1), .unset, .unset, .unset, .unset] [(.int w6), (.int (2 : Int32)), (.ref b1)])) _
    refine st7 _ ?_
    show Steps p.tables e below (T7.setTop (mkF m 46 #[.val (.long q1), .second, .val (.int p2), .val (.int p3), .val (.int p4), .val (.int p5), .val (.int (p3.toInt8.toInt32)), .val (.ref b1), .unset, .unset, .unset, .unset] [])) _
    refine XS.aload X7.here hx rfl (hb hby at_46) rfl rfl ?_
    show Steps p.tables e below (T7.setTop (mkF m 48 #[.val (.long q1), .second, .val (.int p2), .val (.int p3), .val (.int p4), .val (.int p5), .val (.int (p3.toInt8.toInt32)), .val (.ref b1), .unset, .unset, .unset, .unset] [(.ref b1)])) _
    refine XS.iconst X7.here hx rfl (hb hby at_48) ?_
    show Steps p.tables e below (T7.setTop (mkF m 49 #[.val (.long q1), .second, .val (.int p2), .val (.int p3), .val (.int p4), .val (.int p5), .val (.int (p3.toInt8.toInt32)), .val (.ref b1), .unset, .unset, .unset, .unset] [(.int (3 : Int32)), (.ref b1)])) _
    refine XS.lloadN X7.here hx rfl (hb hby at_49) rfl ?_
    show Steps p.tables e below (T7.setTop (mkF m 50 #[.val (.long q1), .second, .val (.int p2), .val (.int p3), .val (.int p4), .val (.int p5), .val (.int (p3.toInt8.toInt32)), .val (.ref b1), .unset, .unset, .unset, .unset] [(.long q1), (.int (3 : Int32)), (.ref b1)])) _
    refine XS.iloadN X7.here hx rfl (hb hby at_50) rfl ?_
    show Steps p.tables e below (T7.setTop (mkF m 51 #[.val (.long q1), .second, .val (.int p2), .val (.int p3), .val (.int p4), .val (.int p5), .val (.int (p3.toInt8.toInt32)), .val (.ref b1), .unset, .unset, .unset, .unset] [(.int p2), (.long q1), (.int (3 : Int32)), (.ref b1)])) _
    refine XS.iload X7.here hx rfl (hb hby at_51) rfl ?_
    show Steps p.tables e below (T7.setTop (mkF m 53 #[.val (.long q1), .second, .val (.int p2), .val (.int p3), .val (.int p4), .val (.int p5), .val (.int (p3.toInt8.toInt32)), .val (.ref b1), .unset, .unset, .unset, .unset] [(.int (p3.toInt8.toInt32)), (.int p2), (.long q1), (.int (3 : Int32)), (.ref b1)])) _
    refine XS.iconst X7.here hx rfl (hb hby at_53) ?_
    show Steps p.tables e below (T7.setTop (mkF m 54 #[.val (.long q1), .second, .val (.int p2), .val (.int p3), .val (.int p4), .val (.int p5), .val (.int (p3.toInt8.toInt32)), .val (.ref b1), .unset, .unset, .unset, .unset] [(.int (3 : Int32)), (.int (p3.toInt8.toInt32)), (.int p2), (.long q1), (.int (3 : Int32)), (.ref b1)])) _
    refine st8 _ ?_
    show Steps p.tables e below (T8.setTop (mkF m 57 #[.val (.long q1), .second, .val (.int p2), .val (.int p3), .val (.int p4), .val (.int p5), .val (.int (p3.toInt8.toInt32)), .val (.ref b1), .unset, .unset, .unset, .unset] [(.int w8), (.int (3 : Int32)), (.ref b1)])) _
    refine st9 _ ?_
    show Steps p.tables e below (T9.setTop (mkF m 58 #[.val (.long q1), .second, .val (.int p2), .val (.int p3), .val (.int p4), .val (.int p5), .val (.int (p3.toInt8.toInt32)), .val (.ref b1), .unset, .unset, .unset, .unset] [])) _
    refine XS.aload X9.here hx rfl (hb hby at_58) rfl rfl ?_
    show Steps p.tables e below (T9.setTop (mkF m 60 #[.val (.long q1), .second, .val (.int p2), .val (.int p3), .val (.int p4), .val (.int p5), .val (.int (p3.toInt8.toInt32)), .val (.ref b1), .unset, .unset, .unset, .unset] [(.ref b1)])) _
    refine XS.iconst X9.here hx rfl (hb hby at_60) ?_
    show Steps p.tables e below (T9.setTop (mkF m 61 #[.val (.long q1), .second, .val (.int p2), .val (.int p3), .val (.int p4), .val (.int p5), .val (.int (p3.toInt8.toInt32)), .val (.ref b1), .unset, .unset, .unset, .unset] [(.int (4 : Int32)), (.ref b1)])) _
    refine XS.lloadN X9.here hx rfl (hb hby at_61) rfl ?_
    show Steps p.tables e below (T9.setTop (mkF m 62 #[.val (.long q1), .second, .val (.int p2), .val (.int p3), .val (.int p4), .val (.int p5), .val (.int (p3.toInt8.toInt32)), .val (.ref b1), .unset, .unset, .unset, .unset] [(.long q1), (.int (4 : Int32)), (.ref b1)])) _
    refine XS.iloadN X9.here hx rfl (hb hby at_62) rfl ?_
    show Steps p.tables e below (T9.setTop (mkF m 63 #[.val (.long q1), .second, .val (.int p2), .val (.int p3), .val (.int p4), .val (.int p5), .val (.int (p3.toInt8.toInt32)), .val (.ref b1), .unset, .unset, .unset, .unset] [(.int p2), (.long q1), (.int (4 : Int32)), (.ref b1)])) _
    refine XS.iload X9.here hx rfl (hb hby at_63) rfl ?_
    show Steps p.tables e below (T9.setTop (mkF m 65 #[.val (.long q1), .second, .val (.int p2), .val (.int p3), .val (.int p4), .val (.int p5), .val (.int (p3.toInt8.toInt32)), .val (.ref b1), .unset, .unset, .unset, .unset] [(.int (p3.toInt8.toInt32)), (.int p2), (.long q1), (.int (4 : Int32)), (.ref b1)])) _
    refine XS.iconst X9.here hx rfl (hb hby at_65) ?_
    show Steps p.tables e below (T9.setTop (mkF m 66 #[.val (.long q1), .second, .val (.int p2), .val (.int p3), .val (.int p4), .val (.int p5), .val (.int (p3.toInt8.toInt32)), .val (.ref b1), .unset, .unset, .unset, .unset] [(.int (4 : Int32)), (.int (p3.toInt8.toInt32)), (.int p2), (.long q1), (.int (4 : Int32)), (.ref b1)])) _
    refine st10 _ ?_
    show Steps p.tables e below (T10.setTop (mkF m 69 #[.val (.long q1), .second, .val (.int p2), .val (.int p3), .val (.int p4), .val (.int p5), .val (.int (p3.toInt8.toInt32)), .val (.ref b1), .unset, .unset, .unset, .unset] [(.int w10), (.int (4 : Int32)), (.ref b1)])) _
    refine st11 _ ?_
    show Steps p.tables e below (T11.setTop (mkF m 70 #[.val (.long q1), .second, .val (.int p2), .val (.int p3), .val (.int p4), .val (.int p5), .val (.int (p3.toInt8.toInt32)), .val (.ref b1), .unset, .unset, .unset, .unset] [])) _
    refine XS.aload X11.here hx rfl (hb hby at_70) rfl rfl ?_
    show Steps p.tables e below (T11.setTop (mkF m 72 #[.val (.long q1), .second, .val (.int p2), .val (.int p3), .val (.int p4), .val (.int p5), .val (.int (p3.toInt8.toInt32)), .val (.ref b1), .unset, .unset, .unset, .unset] [(.ref b1)])) _
    refine XS.iconst X11.here hx rfl (hb hby at_72) ?_
    show Steps p.tables e below (T11.setTop (mkF m 73 #[.val (.long q1), .second, .val (.int p2), .val (.int p3), .val (.int p4), .val (.int p5), .val (.int (p3.toInt8.toInt32)), .val (.ref b1), .unset, .unset, .unset, .unset] [(.int (5 : Int32)), (.ref b1)])) _
    refine XS.lloadN X11.here hx rfl (hb hby at_73) rfl ?_
    show Steps p.tables e below (T11.setTop (mkF m 74 #[.val (.long q1), .second, .val (.int p2), .val (.int p3), .val (.int p4), .val (.int p5), .val (.int (p3.toInt8.toInt32)), .val (.ref b1), .unset, .unset, .unset, .unset] [(.long q1), (.int (5 : Int32)), (.ref b1)])) _
    refine XS.iloadN X11.here hx rfl (hb hby at_74) rfl ?_
    show Steps p.tables e below (T11.setTop (mkF m 75 #[.val (.long q1), .second, .val (.int p2), .val (.int p3), .val (.int p4), .val (.int p5), .val (.int (p3.toInt8.toInt32)), .val (.ref b1), .unset, .unset, .unset, .unset] [(.int p2), (.long q1), (.int (5 : Int32)), (.ref b1)])) _
    refine XS.iload X11.here hx rfl (hb hby at_75) rfl ?_
    show Steps p.tables e below (T11.setTop (mkF m 77 #[.val (.long q1), .second, .val (.int p2), .val (.int p3), .val (.int p4), .val (.int p5), .val (.int (p3.toInt8.toInt32)), .val (.ref b1), .unset, .unset, .unset, .unset] [(.int (p3.toInt8.toInt32)), (.int p2), (.long q1), (.int (5 : Int32)), (.ref b1)])) _
    refine XS.iconst X11.here hx rfl (hb hby at_77) ?_
    show Steps p.tables e below (T11.setTop (mkF m 78 #[.val (.long q1), .second, .val (.int p2), .val (.int p3), .val (.int p4), .val (.int p5), .val (.int (p3.toInt8.toInt32)), .val (.ref b1), .unset, .unset, .unset, .unset] [(.int (5 : Int32)), (.int (p3.toInt8.toInt32)), (.int p2), (.long q1), (.int (5 : Int32)), (.ref b1)])) _
    refine st12 _ ?_
    show Steps p.tables e below (T12.setTop (mkF m 81 #[.val (.long q1), .second, .val (.int p2), .val (.int p3), .val (.int p4), .val (.int p5), .val (.int (p3.toInt8.toInt32)), .val (.ref b1), .unset, .unset, .unset, .unset] [(.int w12), (.int (5 : Int32)), (.ref b1)])) _
    refine st13 _ ?_
    show Steps p.tables e below (T13.setTop (mkF m 82 #[.val (.long q1), .second, .val (.int p2), .val (.int p3), .val (.int p4), .val (.int p5), .val (.int (p3.toInt8.toInt32)), .val (.ref b1), .unset, .unset, .unset, .unset] [])) _
    refine segP (s0 := (.val (.long q1))) (s1 := .second) (s2 := (.val (.int p2))) (s3 := (.val (.int p3))) (i4 := p4) (i5 := p5) (s6 := (.val (.int (p3.toInt8.toInt32)))) (s7 := (.val (.ref b1))) (r8 := (Int32.ofNat aa)) (r9 := (Int32.ofNat cc)) X13 hx hZ hw hby hml hown e13 eaa.symm ecc.symm ?_
    show Steps p.tables e below (T13.setTop (mkF m 106 #[.val (.long q1), .second, .val (.int p2), .val (.int p3), .val (.int p4), .val (.int p5), .val (.int (p3.toInt8.toInt32)), .val (.ref b1), .val (.int (Int32.ofNat aa)), .val (.int (Int32.ofNat cc)), .val (.int (Int32.ofNat cc)), .unset] [])) _
    refine seg5 (s0 := (.val (.long q1))) (s1 := .second) (s2 := (.val (.int p2))) (s3 := (.val (.int p3))) (s4 := (.val (.int p4))) (s5 := (.val (.int p5))) (b6 := (p3.toInt8.toInt32)) (o7 := b1) (i8 := (Int32.ofNat aa)) (i9 := (Int32.ofNat cc)) (i10 := (Int32.ofNat cc)) (r10 := (Int32.ofNat e_5)) (cl := cl) (w := (f13 5)) X13 hx hZ hw hby hml hown e13 Ar (inb_of (j := (5 : Int32)) S_ ⟨by decide, by decide⟩) (hat 5 (by decide)) (own_s1 (k := 5) (a := aa) (c := cc) (e := cc) (by decide) (by omega) he_5) (own_s2 (k := 5) (a := aa) (c := cc) (e := cc) (by decide) (by omega) (by omega) he_5) (own_s3 (k := 5) (a := aa) (c := cc) (e := cc) (by decide) (by omega) (by omega) he_5) (own_s4 (k := 5) (a := aa) (c := cc) (e := cc) (by omega) (by omega) he_5) ?_
    show Steps p.tables e below (T13.setTop (mkF m 130 #[.val (.long q1), .second, .val (.int p2), .val (.int p3), .val (.int p4), .val (.int p5), .val (.int (p3.toInt8.toInt32)), .val (.ref b1), .val (.int (Int32.ofNat aa)), .val (.int (Int32.ofNat cc)), .val (.int (Int32.ofNat e_5)), .unset] [])) _
    refine seg4 (s0 := (.val (.long q1))) (s1 := .second) (s2 := (.val (.int p2))) (s3 := (.val (.int p3))) (s4 := (.val (.int p4))) (s5 := (.val (.int p5))) (b6 := (p3.toInt8.toInt32)) (o7 := b1) (i8 := (Int32.ofNat aa)) (i9 := (Int32.ofNat cc)) (i10 := (Int32.ofNat e_5)) (r10 := (Int32.ofNat e_4)) (cl := cl) (w := (f13 4)) X13 hx hZ hw hby hml hown e13 Ar (inb_of (j := (4 : Int32)) S_ ⟨by decide, by decide⟩) (hat 4 (by decide)) (own_s1 (k := 4) (a := aa) (c := cc) (e := e_5) (by decide) (by omega) he_4) (own_s2 (k := 4) (a := aa) (c := cc) (e := e_5) (by decide) (by omega) (by omega) he_4) (own_s3 (k := 4) (a := aa) (c := cc) (e := e_5) (by decide) (by omega) (by omega) he_4) (own_s4 (k := 4) (a := aa) (c := cc) (e := e_5) (by omega) (by omega) he_4) ?_
    show Steps p.tables e below (T13.setTop (mkF m 154 #[.val (.long q1), .second, .val (.int p2), .val (.int p3), .val (.int p4), .val (.int p5), .val (.int (p3.toInt8.toInt32)), .val (.ref b1), .val (.int (Int32.ofNat aa)), .val (.int (Int32.ofNat cc)), .val (.int (Int32.ofNat e_4)), .unset] [])) _
    refine seg3 (s0 := (.val (.long q1))) (s1 := .second) (s2 := (.val (.int p2))) (s3 := (.val (.int p3))) (s4 := (.val (.int p4))) (s5 := (.val (.int p5))) (b6 := (p3.toInt8.toInt32)) (o7 := b1) (i8 := (Int32.ofNat aa)) (i9 := (Int32.ofNat cc)) (i10 := (Int32.ofNat e_4)) (r10 := (Int32.ofNat e_3)) (cl := cl) (w := (f13 3)) X13 hx hZ hw hby hml hown e13 Ar (inb_of (j := (3 : Int32)) S_ ⟨by decide, by decide⟩) (hat 3 (by decide)) (own_s1 (k := 3) (a := aa) (c := cc) (e := e_4) (by decide) (by omega) he_3) (own_s2 (k := 3) (a := aa) (c := cc) (e := e_4) (by decide) (by omega) (by omega) he_3) (own_s3 (k := 3) (a := aa) (c := cc) (e := e_4) (by decide) (by omega) (by omega) he_3) (own_s4 (k := 3) (a := aa) (c := cc) (e := e_4) (by omega) (by omega) he_3) ?_
    show Steps p.tables e below (T13.setTop (mkF m 178 #[.val (.long q1), .second, .val (.int p2), .val (.int p3), .val (.int p4), .val (.int p5), .val (.int (p3.toInt8.toInt32)), .val (.ref b1), .val (.int (Int32.ofNat aa)), .val (.int (Int32.ofNat cc)), .val (.int (Int32.ofNat e_3)), .unset] [])) _
    refine seg2 (s0 := (.val (.long q1))) (s1 := .second) (s2 := (.val (.int p2))) (s3 := (.val (.int p3))) (s4 := (.val (.int p4))) (s5 := (.val (.int p5))) (b6 := (p3.toInt8.toInt32)) (o7 := b1) (i8 := (Int32.ofNat aa)) (i9 := (Int32.ofNat cc)) (i10 := (Int32.ofNat e_3)) (r10 := (Int32.ofNat e_2)) (cl := cl) (w := (f13 2)) X13 hx hZ hw hby hml hown e13 Ar (inb_of (j := (2 : Int32)) S_ ⟨by decide, by decide⟩) (hat 2 (by decide)) (own_s1 (k := 2) (a := aa) (c := cc) (e := e_3) (by decide) (by omega) he_2) (own_s2 (k := 2) (a := aa) (c := cc) (e := e_3) (by decide) (by omega) (by omega) he_2) (own_s3 (k := 2) (a := aa) (c := cc) (e := e_3) (by decide) (by omega) (by omega) he_2) (own_s4 (k := 2) (a := aa) (c := cc) (e := e_3) (by omega) (by omega) he_2) ?_
    show Steps p.tables e below (T13.setTop (mkF m 202 #[.val (.long q1), .second, .val (.int p2), .val (.int p3), .val (.int p4), .val (.int p5), .val (.int (p3.toInt8.toInt32)), .val (.ref b1), .val (.int (Int32.ofNat aa)), .val (.int (Int32.ofNat cc)), .val (.int (Int32.ofNat e_2)), .unset] [])) _
    refine seg1 (s0 := (.val (.long q1))) (s1 := .second) (s2 := (.val (.int p2))) (s3 := (.val (.int p3))) (s4 := (.val (.int p4))) (s5 := (.val (.int p5))) (b6 := (p3.toInt8.toInt32)) (o7 := b1) (i8 := (Int32.ofNat aa)) (i9 := (Int32.ofNat cc)) (i10 := (Int32.ofNat e_2)) (r10 := (Int32.ofNat e_1)) (cl := cl) (w := (f13 1)) X13 hx hZ hw hby hml hown e13 Ar (inb_of (j := (1 : Int32)) S_ ⟨by decide, by decide⟩) (hat 1 (by decide)) (own_s1 (k := 1) (a := aa) (c := cc) (e := e_2) (by decide) (by omega) he_1) (own_s2 (k := 1) (a := aa) (c := cc) (e := e_2) (by decide) (by omega) (by omega) he_1) (own_s3 (k := 1) (a := aa) (c := cc) (e := e_2) (by decide) (by omega) (by omega) he_1) (own_s4 (k := 1) (a := aa) (c := cc) (e := e_2) (by omega) (by omega) he_1) ?_
    show Steps p.tables e below (T13.setTop (mkF m 226 #[.val (.long q1), .second, .val (.int p2), .val (.int p3), .val (.int p4), .val (.int p5), .val (.int (p3.toInt8.toInt32)), .val (.ref b1), .val (.int (Int32.ofNat aa)), .val (.int (Int32.ofNat cc)), .val (.int (Int32.ofNat e_1)), .unset] [])) _
    refine seg0 (s0 := (.val (.long q1))) (s1 := .second) (s2 := (.val (.int p2))) (s3 := (.val (.int p3))) (s4 := (.val (.int p4))) (s5 := (.val (.int p5))) (b6 := (p3.toInt8.toInt32)) (o7 := b1) (i8 := (Int32.ofNat aa)) (i9 := (Int32.ofNat cc)) (i10 := (Int32.ofNat e_1)) (r10 := (Int32.ofNat e_0)) (cl := cl) (w := (f13 0)) X13 hx hZ hw hby hml hown e13 Ar (inb_of (j := (0 : Int32)) S_ ⟨by decide, by decide⟩) (hat 0 (by decide)) (own_s1 (k := 0) (a := aa) (c := cc) (e := e_1) (by decide) (by omega) he_0) (own_s2 (k := 0) (a := aa) (c := cc) (e := e_1) (by decide) (by omega) (by omega) he_0) (own_s3 (k := 0) (a := aa) (c := cc) (e := e_1) (by decide) (by omega) (by omega) he_0) (own_s4 (k := 0) (a := aa) (c := cc) (e := e_1) (by omega) (by omega) he_0) ?_
    show Steps p.tables e below (T13.setTop (mkF m 249 #[.val (.long q1), .second, .val (.int p2), .val (.int p3), .val (.int p4), .val (.int p5), .val (.int (p3.toInt8.toInt32)), .val (.ref b1), .val (.int (Int32.ofNat aa)), .val (.int (Int32.ofNat cc)), .val (.int (Int32.ofNat e_0)), .unset] [])) _
    refine XS.aload X13.here hx rfl (hb hby at_249) rfl rfl ?_
    show Steps p.tables e below (T13.setTop (mkF m 251 #[.val (.long q1), .second, .val (.int p2), .val (.int p3), .val (.int p4), .val (.int p5), .val (.int (p3.toInt8.toInt32)), .val (.ref b1), .val (.int (Int32.ofNat aa)), .val (.int (Int32.ofNat cc)), .val (.int (Int32.ofNat e_0)), .unset] [(.ref b1)])) _
    refine XS.iload X13.here hx rfl (hb hby at_251) rfl ?_
    show Steps p.tables e below (T13.setTop (mkF m 253 #[.val (.long q1), .second, .val (.int p2), .val (.int p3), .val (.int p4), .val (.int p5), .val (.int (p3.toInt8.toInt32)), .val (.ref b1), .val (.int (Int32.ofNat aa)), .val (.int (Int32.ofNat cc)), .val (.int (Int32.ofNat e_0)), .unset] [(.int (p3.toInt8.toInt32)), (.ref b1)])) _
    refine XS.iload X13.here hx rfl (hb hby at_253) rfl ?_
    show Steps p.tables e below (T13.setTop (mkF m 255 #[.val (.long q1), .second, .val (.int p2), .val (.int p3), .val (.int p4), .val (.int p5), .val (.int (p3.toInt8.toInt32)), .val (.ref b1), .val (.int (Int32.ofNat aa)), .val (.int (Int32.ofNat cc)), .val (.int (Int32.ofNat e_0)), .unset] [(.int (Int32.ofNat aa)), (.int (p3.toInt8.toInt32)), (.ref b1)])) _
    refine XS.iload X13.here hx rfl (hb hby at_255) rfl ?_
    show Steps p.tables e below (T13.setTop (mkF m 257 #[.val (.long q1), .second, .val (.int p2), .val (.int p3), .val (.int p4), .val (.int p5), .val (.int (p3.toInt8.toInt32)), .val (.ref b1), .val (.int (Int32.ofNat aa)), .val (.int (Int32.ofNat cc)), .val (.int (Int32.ofNat e_0)), .unset] [(.int (Int32.ofNat cc)), (.int (Int32.ofNat aa)), (.int (p3.toInt8.toInt32)), (.ref b1)])) _
    refine st20 _ ?_
    show Steps p.tables e below (T20.setTop (mkF m 260 #[.val (.long q1), .second, .val (.int p2), .val (.int p3), .val (.int p4), .val (.int p5), .val (.int (p3.toInt8.toInt32)), .val (.ref b1), .val (.int (Int32.ofNat aa)), .val (.int (Int32.ofNat cc)), .val (.int (Int32.ofNat e_0)), .unset] [(.int (Int32.ofNat (own_res f13 (p3.toInt8.toInt32) aa cc)))])) _
    refine XS.istore X20.here hx rfl (hb hby at_260) rfl (l' := #[.val (.long q1), .second, .val (.int p2), .val (.int p3), .val (.int p4), .val (.int p5), .val (.int (p3.toInt8.toInt32)), .val (.ref b1), .val (.int (Int32.ofNat aa)), .val (.int (Int32.ofNat cc)), .val (.int (Int32.ofNat e_0)), .val (.int (Int32.ofNat (own_res f13 (p3.toInt8.toInt32) aa cc)))]) rfl ?_
    show Steps p.tables e below (T20.setTop (mkF m 262 #[.val (.long q1), .second, .val (.int p2), .val (.int p3), .val (.int p4), .val (.int p5), .val (.int (p3.toInt8.toInt32)), .val (.ref b1), .val (.int (Int32.ofNat aa)), .val (.int (Int32.ofNat cc)), .val (.int (Int32.ofNat e_0)), .val (.int (Int32.ofNat (own_res f13 (p3.toInt8.toInt32) aa cc)))] [])) _
    refine XS.iload X20.here hx rfl (hb hby at_262) rfl ?_
    show Steps p.tables e below (T20.setTop (mkF m 264 #[.val (.long q1), .second, .val (.int p2), .val (.int p3), .val (.int p4), .val (.int p5), .val (.int (p3.toInt8.toInt32)), .val (.ref b1), .val (.int (Int32.ofNat aa)), .val (.int (Int32.ofNat cc)), .val (.int (Int32.ofNat e_0)), .val (.int (Int32.ofNat (own_res f13 (p3.toInt8.toInt32) aa cc)))] [(.int (Int32.ofNat (own_res f13 (p3.toInt8.toInt32) aa cc)))])) _
    refine XS.iload X20.here hx rfl (hb hby at_264) rfl ?_
    show Steps p.tables e below (T20.setTop (mkF m 266 #[.val (.long q1), .second, .val (.int p2), .val (.int p3), .val (.int p4), .val (.int p5), .val (.int (p3.toInt8.toInt32)), .val (.ref b1), .val (.int (Int32.ofNat aa)), .val (.int (Int32.ofNat cc)), .val (.int (Int32.ofNat e_0)), .val (.int (Int32.ofNat (own_res f13 (p3.toInt8.toInt32) aa cc)))] [(.int (Int32.ofNat e_0)), (.int (Int32.ofNat (own_res f13 (p3.toInt8.toInt32) aa cc)))])) _
    refine XS.icmpNo X20.here hx rfl (hb hby at_266) rfl (teq hfin).2 ?_
    show Steps p.tables e below (T20.setTop (mkF m 269 #[.val (.long q1), .second, .val (.int p2), .val (.int p3), .val (.int p4), .val (.int p5), .val (.int (p3.toInt8.toInt32)), .val (.ref b1), .val (.int (Int32.ofNat aa)), .val (.int (Int32.ofNat cc)), .val (.int (Int32.ofNat e_0)), .val (.int (Int32.ofNat (own_res f13 (p3.toInt8.toInt32) aa cc)))] [])) _
    refine XS.iconst X20.here hx rfl (hb hby at_269) ?_
    show Steps p.tables e below (T20.setTop (mkF m 270 #[.val (.long q1), .second, .val (.int p2), .val (.int p3), .val (.int p4), .val (.int p5), .val (.int (p3.toInt8.toInt32)), .val (.ref b1), .val (.int (Int32.ofNat aa)), .val (.int (Int32.ofNat cc)), .val (.int (Int32.ofNat e_0)), .val (.int (Int32.ofNat (own_res f13 (p3.toInt8.toInt32) aa cc)))] [(.int (1 : Int32))])) _
    refine XS.goto X20.here hx rfl (pc0 := 270) (pc' := 274) rfl (hb hby at_270) (by decide) (by decide) ?_
    show Steps p.tables e below (T20.setTop (mkF m 274 #[.val (.long q1), .second, .val (.int p2), .val (.int p3), .val (.int p4), .val (.int p5), .val (.int (p3.toInt8.toInt32)), .val (.ref b1), .val (.int (Int32.ofNat aa)), .val (.int (Int32.ofNat cc)), .val (.int (Int32.ofNat e_0)), .val (.int (Int32.ofNat (own_res f13 (p3.toInt8.toInt32) aa cc)))] [(.int (1 : Int32))])) _
    exact retN X20 hx (t := .boolean) Bd.returns (by simp) (hb hby at_274) hr
  · show Q0 h0 n0 _ T20.heap _
    exact ⟨rfl, N20⟩
set_option maxRecDepth 65536 in
set_option maxHeartbeats 40000000 in
theorem comes_1 {Post : Tables → Env → Array Value → State → Outcome → State → Prop} (hpost : ∀ tb e args s v u, (limb_1_1.after args s (.returned v) u = true ∧ limb_1_2.after args s (.returned v) u = true ∧ True) → FrameEnd s (.returned v) u (Jvm.fieldLocs frame_1_writes args s ++ Jvm.arrayLocs frame_1_arrays args s ++ Jvm.staticLocs frame_1_statics s) 16 128 → Post tb e args s (.returned v) u) :
    ArmFor flags0 classFile x code maxLocals ret World_1 tables_1 room_1 Calls_1 rest_1 Pre_1 Post := by
  intro l hfl _ _ p e ha hc hk s m args below hf hA hF happ hP
  obtain ⟨hcalls, hrest, hpre⟩ := hP
  obtain ⟨-, -, -, hnamed, -, -, -, hat⟩ := (Spec.applies_iff hf).mp happ
  obtain ⟨hg, hn⟩ := and_e (Cond.before_iff.mp (show (Jvm.Cond.and given_1 narrow_1).before args s = true from hpre))
  obtain ⟨ga0, gb0⟩ := and_e hg
  obtain ⟨ga1, gb1⟩ := and_e gb0
  obtain ⟨ga2, gb2⟩ := and_e gb1
  obtain ⟨ga3, gb3⟩ := and_e gb2
  obtain ⟨ga4, gb4⟩ := and_e gb3
  obtain ⟨w0, w1, w2, w3, w4, rfl⟩ : ∃ w0 w1 w2 w3 w4 : Value, args = #[w0, w1, w2, w3, w4] := by
    have hs : args.size = 5 := by simpa [Cond.value, given_1] using ga0
    obtain ⟨L⟩ := args
    match L, hs with
    | [w0, w1, w2, w3, w4], _ => exact ⟨w0, w1, w2, w3, w4, rfl⟩
  have hw := fun d (hd : d ∈ tables_1) => atoms_spec (ws := Jvm.Cond.code x code maxLocals ret :: tables_1) hat d (List.mem_cons_of_mem _ hd)
  obtain ⟨i0, ei0⟩ := isL_v ga1
  obtain rfl : w0 = (.long i0) := Option.some.inj ei0
  obtain ⟨i1, ei1⟩ := is_v ga2
  obtain rfl : w1 = (.int i1) := Option.some.inj ei1
  obtain ⟨i2, ei2⟩ := is_v ga3
  obtain rfl : w2 = (.int i2) := Option.some.inj ei2
  obtain ⟨i3, ei3⟩ := is_v ga4
  obtain rfl : w3 = (.int i3) := Option.some.inj ei3
  obtain ⟨i4, ei4⟩ := is_v gb4
  obtain rfl : w4 = (.int i4) := Option.some.inj ei4
  obtain ⟨n, o, h1, h2, h3, _, L, rfl, ⟨rfl, N⟩, hq⟩ := rm0 l s _ hw tables_1 i0 i1 i2 i3 i4 s.heap s.heap.size (Nat.le_refl _) p e ha hc hk s m _ below hf ((Spec.applies_iff_loose hf).mp happ).1 ⟨rfl, State.Warmed39.refl s, rfl⟩ trivial
  refine ⟨n, _, h1, h2, h3, hpost _ _ _ _ _ _ ⟨Cond.after_iff.mpr rfl, Cond.after_iff.mpr (eq_i res_at (Term.int_eval (1)) rfl), trivial⟩ ⟨hq.1, hq.2.1, (hq.2.2.sift fun y hy => Or.inr (N y hy)).mono (by decide) (by decide)⟩⟩
theorem main_1_1 : Claimed_1_1 := comes_1 fun _ _ _ _ _ _ h hF => ⟨h.1, hF⟩
theorem main_1_2 : Claimed_1_2 := comes_1 fun _ _ _ _ _ _ h hF => ⟨h.2.1, hF⟩
end Jvm.Pilot.@@N@@
namespace Jvm.Pilot.@@N@@
open Jvm Jvm.ClassFile Sem Op Lib Jvm.Free Jvm.Stand Jvm.Pilot.@@N@@.Jvm.D
/-! MADE BY PROGRAM (witnessworld.py) out of the Statement's table words and the real class files: 9 classes; the members and pool entries that the words name. The judged class is class 1, her method 2. -/
namespace start1
open Jvm.ClassFile
def u (s : String) : CpInfo := .utf8 (stringToUtf16 s)
/-- a pool by its gaps: so many unusable entries, then the entry; so many at the end -/
def gap : Nat → List CpInfo → List CpInfo
  | 0, r => r
  | n + 1, r => .unusable :: gap n r
def poolList (es : List (Nat × CpInfo)) (last : Nat) : List CpInfo := es.foldr (fun e r => gap e.1 (e.2 :: r)) (gap last [])
def pool (es : List (Nat × CpInfo)) (last : Nat) : Array CpInfo := ⟨poolList es last⟩
def fileOf (pool : Array CpInfo) (this : Nat) (attrs : Array Attribute := #[]) (ms : Array MethodInfo := #[]) (fl : Nat := 33) (sup : Nat := 0) (ifs : Array Nat := #[]) (fds : Array FieldInfo := #[]) : ClassFile where
  minorVersion := 0
  majorVersion := 65
  constantPool := pool
  accessFlags := fl
  thisClass := this
  superClass := sup
  interfaces := ifs
  fields := fds
  methods := ms
  attributes := attrs
def plain (name : String) (sup : Option ClassId) : Class where
  name := name
  kind := .ordinary
  loader := none
  accessFlags := 33
  super := sup
  interfaces := #[]
  cf := none
  fields := #[]
  methods := #[]
  instanceTypes := #[]
  staticTypes := #[]
  resolved := #[]
  callSites := []
  init := .initialized
  statics := none
  mirror := none

def pool0 : Array CpInfo := pool [(5, u "<init>"), (0, u "()V"), (1, .class_ 10), (1, u "java/lang/Object")] 113

def k0m0 : Method := { name := "<init>", desc := "()V", sig := { parameters := [], returnType := none }, accessFlags := 1, code := none }
/-- java/lang/Object -/
def k0 : Class := { plain "java/lang/Object" none with
  accessFlags := 33
  interfaces := #[]
  cf := some (fileOf pool0 8 #[] #[{ accessFlags := 1, nameIndex := 5, descriptorIndex := 6, attributes := #[] }] 33 0 #[] #[])
  fields := #[]
  methods := #[k0m0]
  instanceTypes := #[]
  staticTypes := #[]
  resolved := Array.replicate 124 none
  statics := none }

def pool1 : Array CpInfo := pool [(2, .class_ 4), (1, u "java/lang/Object"), (0, u "<init>"), (0, u "()V"), (0, .methodref 8 9), (0, .class_ 10), (0, .nameAndType 11 12), (0, u "com/example/vouchgate/vouchgate/http/FormIndexOfPinLaw"), (0, u "el"), (0, u "(JIBI)B"), (0, .integer 2147483647), (0, .methodref 15 16), (0, .class_ 17), (0, .nameAndType 18 19), (0, u "com/example/vouchgate/vouchgate/http/Form"), (0, u "indexOf"), (0, u "([BBII)I"), (3, u "law"), (0, u "(JIIII)Z")] 4

def k1m0 : Method := { name := "<init>", desc := "()V", sig := { parameters := [], returnType := none }, accessFlags := 2, code := none }
def k1c1 : Code := { maxStack := 4, maxLocals := 5, code := method_2_code, exceptionTable := #[], attributes := #[] }
def k1m1 : Method := { name := "el", desc := "(JIBI)B", sig := { parameters := [.long, .int, .byte, .int], returnType := some .byte }, accessFlags := 10, code := some k1c1 }
def k1c2 : Code := { maxStack := 7, maxLocals := 12, code := code, exceptionTable := #[], attributes := #[] }
def k1m2 : Method := { name := "law", desc := "(JIIII)Z", sig := { parameters := [.long, .int, .int, .int, .int], returnType := some .boolean }, accessFlags := 9, code := some k1c2 }
/-- com/example/vouchgate/vouchgate/http/FormIndexOfPinLaw -/
def k1 : Class := { plain "com/example/vouchgate/vouchgate/http/FormIndexOfPinLaw" (some 0) with
  accessFlags := 49
  interfaces := #[]
  cf := some (fileOf pool1 8 #[] #[{ accessFlags := 2, nameIndex := 5, descriptorIndex := 6, attributes := #[] }, { accessFlags := 10, nameIndex := 11, descriptorIndex := 12, attributes := #[] }, { accessFlags := 9, nameIndex := 23, descriptorIndex := 24, attributes := #[] }] 49 2 #[] #[])
  fields := #[]
  methods := #[k1m0, k1m1, k1m2]
  instanceTypes := #[]
  staticTypes := #[]
  resolved := Array.replicate 29 none
  statics := none }

def pool2 : Array CpInfo := pool [(2, .class_ 4), (1, u "java/lang/Object"), (0, u "<init>"), (0, u "()V"), (20, u "indexOf"), (9, .class_ 39), (1, u "com/example/vouchgate/vouchgate/http/Form"), (96, u "NOT_ASCII"), (0, u "C"), (11, u "([BBII)I")] 37

def k2m0 : Method := { name := "<init>", desc := "()V", sig := { parameters := [], returnType := none }, accessFlags := 2, code := none }
def k2c1 : Code := { maxStack := 2, maxLocals := 5, code := prog_27_method_3_code, exceptionTable := #[], attributes := #[] }
def k2m1 : Method := { name := "indexOf", desc := "([BBII)I", sig := { parameters := [(.array .byte), .byte, .int, .int], returnType := some .int }, accessFlags := 8, code := some k2c1 }
/-- com/example/vouchgate/vouchgate/http/Form -/
def k2 : Class := { plain "com/example/vouchgate/vouchgate/http/Form" (some 0) with
  accessFlags := 48
  interfaces := #[]
  cf := some (fileOf pool2 37 #[] #[{ accessFlags := 2, nameIndex := 5, descriptorIndex := 6, attributes := #[] }, { accessFlags := 8, nameIndex := 27, descriptorIndex := 149, attributes := #[] }] 48 2 #[] #[{ accessFlags := 26, nameIndex := 136, descriptorIndex := 137, attributes := #[] }])
  fields := #[{ name := "NOT_ASCII", type := .char, accessFlags := 26, slot := 0, constantValue := 0 }]
  methods := #[k2m0, k2m1]
  instanceTypes := #[]
  staticTypes := #[.char]
  resolved := Array.replicate 187 none
  statics := none }

def pool3 : Array CpInfo := pool [(1, u "java/lang/Cloneable"), (0, .class_ 1), (0, u "java/lang/Object"), (0, .class_ 3)] 3

/-- java/lang/Cloneable -/
def k3 : Class := { plain "java/lang/Cloneable" (some 0) with
  accessFlags := 1537
  interfaces := #[]
  cf := some (fileOf pool3 2 #[] #[] 1537 4 #[] #[])
  fields := #[]
  methods := #[]
  instanceTypes := #[]
  staticTypes := #[]
  resolved := Array.replicate 8 none
  statics := none }

def pool4 : Array CpInfo := pool [(1, u "java/io/Serializable"), (0, .class_ 1), (0, u "java/lang/Object"), (0, .class_ 3)] 3

/-- java/io/Serializable -/
def k4 : Class := { plain "java/io/Serializable" (some 0) with
  accessFlags := 1537
  interfaces := #[]
  cf := some (fileOf pool4 2 #[] #[] 1537 4 #[] #[])
  fields := #[]
  methods := #[]
  instanceTypes := #[]
  staticTypes := #[]
  resolved := Array.replicate 8 none
  statics := none }

/-- the primitive byte -/
def k5 : Class := { plain "byte" none with kind := .primitive 'B', accessFlags := 0x411 }
/-- [B -/
def k6 : Class := { plain "[B" (some 0) with kind := .array 5 .byte, interfaces := #[3, 4], accessFlags := 1041 }

/-- the primitive int -/
def k7 : Class := { plain "int" none with kind := .primitive 'I', accessFlags := 0x411 }
/-- [I -/
def k8 : Class := { plain "[I" (some 0) with kind := .array 7 .int, interfaces := #[3, 4], accessFlags := 1041 }

def heap : Heap := #[]
def classes : Array Class := #[k0, k1, k2, k3, k4, k5, k6, k7, k8]
def interned : List (Array UInt16 × Addr) := []
def slotsUsed : Nat := 0
def theMethod : MethodId := ⟨1, 2⟩
def args0 : Array Value := #[.long 7, .int 4, .int 5, .int 1, .int 3]
def aboutOver (below : List Frame) : State where
  vm := { classes := classes, interned := interned.toArray }
  heap := heap
  slotsUsed := slotsUsed
  threads := #[{ frames := .invoking theMethod args0 :: below }]
def below0 : List Frame := [.native { method := ⟨0, 0⟩, args := #[] }]
def about1 : State := aboutOver below0
def p0 : Program := .bare "" "" ""
def e0 : Env := launch0.env 0 0 0
theorem w_frames : about1.frames = Frame.invoking theMethod args0 :: below0 := rfl
set_option maxRecDepth 65536 in
theorem w_args : argsFit about1.vm theMethod args0 = true := by decide +kernel
set_option maxRecDepth 65536 in
theorem w_heap : heapFits about1 = true := by decide +kernel
set_option maxRecDepth 65536 in
theorem w_runnable : about1.curStatus? = some .runnable := by decide +kernel
set_option maxRecDepth 65536 in
theorem w_alone : about1.alone = true := by decide +kernel
set_option maxRecDepth 65536 in
theorem w_named : about1.methodNamed? x = some theMethod := by decide +kernel
set_option maxRecDepth 65536 in
theorem w_hears : about1.hears theMethod below0 = true := by decide +kernel
set_option maxRecDepth 65536 in
theorem w_ripe : about1.ripe theMethod args0 below0 = true := by decide +kernel
theorem w_running : about1.status = .running := rfl
set_option maxRecDepth 65536 in
theorem w_room : about1.hasRoom e0.platform room_1 = true :=
  launch0.hasRoom_least _ room_1 (by decide +kernel) (by decide +kernel) (by decide +kernel) (by decide +kernel) (by decide +kernel) (by decide +kernel)
theorem allAtoms_all (ts : List Jvm.Cond) (a : Array Jvm.Value) (st : Jvm.State) : (allAtoms ts).before a st = ts.all (fun c => c.before a st) := by
  induction ts with
  | nil => rfl
  | cons c t ih =>
    show (Jvm.Cond.and c (allAtoms t)).before a st = _
    rw [Jvm.Cond.before_and, ih, List.all_cons]
def words1 : List Jvm.Cond := Jvm.Cond.code x code maxLocals ret :: tables_1
/-- a 'code' word, met by the world's own term for the bytes: nothing is compared byte by byte -/
theorem code_word {y : MethodName} {bytes : ByteArray} {mx : Nat} {rt : Option FieldType} {a : Array Value} {s : State} {m : MethodId} {meth : Method} {c : Code} (h1 : s.methodNamed? y = some m) (h2 : s.vm.method? m = some meth) (h3 : meth.code = some c) (h4 : c.code = bytes)
    (h5 : (c.maxLocals == mx && c.exceptionTable.isEmpty && decide (c.maxStack ≤ mostOperands) && decide (meth.sig.returnType = rt) && !meth.locks && decide (parseMethodDescriptor y.desc = some meth.sig)) = true) : (Jvm.Cond.code y bytes mx rt).before a s = true := by
  simp only [Bool.and_eq_true, beq_iff_eq, Bool.not_eq_true', decide_eq_true_eq] at h5
  obtain ⟨⟨⟨⟨⟨g1, g2⟩, g3⟩, g4⟩, g5⟩, g6⟩ := h5
  simp [Cond.before, Cond.holds, Cond.value, h1, h2, h3, h4, g1, g2, g3, g4, g5, g6]
def isCode : Jvm.Cond → Bool
  | .code _ _ _ _ => true
  | _ => false
theorem all_split {L : List Jvm.Cond} {P : Jvm.Cond → Bool} (h1 : L.all (fun c => isCode c || P c) = true) (h2 : ∀ c ∈ L.filter isCode, P c = true) : L.all P = true := by
  refine List.all_eq_true.mpr fun c hc => ?_
  have h := List.all_eq_true.mp h1 c hc
  rcases Bool.eq_false_or_eq_true (isCode c) with hi | hi
  · exact h2 c (List.mem_filter.mpr ⟨hc, hi⟩)
  · simpa [hi] using h
set_option maxRecDepth 65536 in
theorem w_c0 : (Jvm.Cond.code x code maxLocals ret).before args0 about1 = true := code_word (m := ⟨1, 2⟩) (meth := k1m2) (c := k1c2) (by decide +kernel) rfl rfl rfl (by decide +kernel)
set_option maxRecDepth 65536 in
theorem w_c1 : (Jvm.Cond.code ({ cls := "com/example/vouchgate/vouchgate/http/FormIndexOfPinLaw", name := "el", desc := "(JIBI)B" } : Jvm.MethodName) method_2_code (5 : Nat) (Option.some Jvm.ClassFile.FieldType.byte)).before args0 about1 = true := code_word (m := ⟨1, 1⟩) (meth := k1m1) (c := k1c1) (by decide +kernel) rfl rfl rfl (by decide +kernel)
set_option maxRecDepth 65536 in
theorem w_c2 : (Jvm.Cond.code ({ cls := "com/example/vouchgate/vouchgate/http/Form", name := "indexOf", desc := "([BBII)I" } : Jvm.MethodName) prog_27_method_3_code (5 : Nat) (Option.some Jvm.ClassFile.FieldType.int)).before args0 about1 = true := code_word (m := ⟨2, 1⟩) (meth := k2m1) (c := k2c1) (by decide +kernel) rfl rfl rfl (by decide +kernel)
def codes1 : List Jvm.Cond := [Jvm.Cond.code x code maxLocals ret, Jvm.Cond.code ({ cls := "com/example/vouchgate/vouchgate/http/FormIndexOfPinLaw", name := "el", desc := "(JIBI)B" } : Jvm.MethodName) method_2_code (5 : Nat) (Option.some Jvm.ClassFile.FieldType.byte), Jvm.Cond.code ({ cls := "com/example/vouchgate/vouchgate/http/Form", name := "indexOf", desc := "([BBII)I" } : Jvm.MethodName) prog_27_method_3_code (5 : Nat) (Option.some Jvm.ClassFile.FieldType.int)]
set_option maxRecDepth 65536 in
theorem codes_eq : words1.filter isCode = codes1 := rfl
theorem w_codes : ∀ c ∈ words1.filter isCode, c.before args0 about1 = true := by
  rw [codes_eq]
  intro c hc
  simp only [codes1, List.mem_cons, List.not_mem_nil, or_false] at hc
  rcases hc with rfl | rfl | rfl
  · exact w_c0
  · exact w_c1
  · exact w_c2
set_option maxRecDepth 65536 in
theorem w_t1 : words1.all (fun c => isCode c || c.before args0 about1) = true := by decide +kernel
theorem w_tables : (allAtoms (Jvm.Cond.code x code maxLocals ret :: tables_1)).before args0 about1 = true := by
  rw [allAtoms_all]
  show words1.all (fun c => c.before args0 about1) = true
  refine all_split ?_ w_codes
  rw [w_t1]
set_option maxRecDepth 65536 in
theorem w_case : (Jvm.Cond.and given_1 narrow_1).before args0 about1 = true := by decide +kernel
theorem w_applies : (headSpec (Jvm.Cond.code x code maxLocals ret :: tables_1) room_1).applies x e0.platform about1 = true :=
  (Spec.applies_iff w_frames).mpr ⟨w_running, w_runnable, w_alone, w_named, w_hears, w_ripe, w_room, w_tables⟩
theorem atStart : AtStart classFile x code maxLocals ret World_1 tables_1 room_1 Calls_1 rest_1 Pre_1 launch0 p0 e0 about1 theMethod args0 below0 :=
  ⟨lists_1, trivial, launch0.admits_env _ _ _, launch0.least_env, fairChoices_fair.cas, fairChoices_fair.clock, w_frames, w_args, w_heap, w_applies, trivial, trivial, w_case⟩
end start1
theorem witness_1 : WitnessClaimed_1 := ⟨start1.p0, start1.e0, start1.about1, start1.theMethod, start1.args0, start1.below0, start1.atStart⟩
end Jvm.Pilot.@@N@@
