import JvmDerived
import JvmDerived.Pilot.@@N@@Statement
import JvmDerived.Pilot.@@N@@Code
set_option linter.unusedVariables false
set_option linter.unusedSimpArgs false
namespace Jvm.RoadKit
open Sem ClassFile Op Lib Jvm.Stand Jvm.Free Jvm.LawKit
section New
variable {p : Program} {l : Launch} {e : Env} {R : Room} {s : State} {m : MethodId} {args : Array Value} {below : List Frame} {meth : Method} {c : Code} {T : State} {locs : List Loc} {cells slots : Nat}
theorem retI (X : Stand p l e R s m args below meth c T locs cells slots) (hx : p.tables.exec = Jvm.exec) {pc : Nat} {Ls : Array Slot} {z : Int32} {rest : List Value} (hret : meth.sig.returnType = some .int) (hd : decode c.code pc = .ok (.ireturn, 1)) {fs : List Frame}
    (hl : ∀ (f : JFrame) (acts : List Action), f.method = m → f.locked = none → f.entered = [] → (doReturn e (T.setTop f) acts (some (.int z))).1 = T.setFrames fs) : Steps p.tables e below (T.setTop (mkF m pc Ls (.int z :: rest))) (T.setFrames fs) := by
  have hm' : T.vm.method? m = some meth := X.method'
  have hn : narrow .int (.int z) = .int z := rfl
  show Steps p.tables e below (T.setTop { method := m, pc := pc, locals := Ls, stack := _ :: rest, locked := none }) _
  jvm_step X.here [X.here.top, hx, hd, hm', hret, hn]
  first | (intro acts; rw [hl _ acts rfl rfl rfl]) | rw [hl _ _ rfl rfl rfl]
  exact Steps.refl _
end New
end Jvm.RoadKit
@@BLOCK:NumsL.lean.txt@@
namespace Jvm.Pilot.@@N@@
open Jvm Jvm.ClassFile Sem Op Lib Jvm.Free Jvm.Stand Jvm.LawKit Jvm.RoadKit Bundle Jvm.Pilot.@@N@@.Jvm.D
theorem own_lt {i n : Nat} (h : i < n) (hn : n ≤ 255) : Int32.ofNat i < Int32.ofNat n := by
  rw [Int32.lt_iff_toInt_lt, Int32.toInt_ofNat_of_lt (by omega), Int32.toInt_ofNat_of_lt (by omega)]
  omega
theorem own_nlt {i n : Nat} (h : Int32.ofNat i < Int32.ofNat n) (hi : i ≤ 255) (hn : n ≤ 255) : i < n := by
  rw [Int32.lt_iff_toInt_lt, Int32.toInt_ofNat_of_lt (by omega), Int32.toInt_ofNat_of_lt (by omega)] at h
  omega
theorem own_nn {n : Nat} (hn : n ≤ 255) : ¬ Int32.ofNat n < 0 := by
  rw [Int32.lt_iff_toInt_lt, Int32.toInt_ofNat_of_lt (by omega), show (0 : Int32).toInt = 0 from rfl]
  omega
theorem own_n32 {n : Nat} (hn : n ≤ 255) : (Int32.ofNat n).toNatClampNeg = n := by
  rw [Int32.toNatClampNeg, Int32.toInt_ofNat_of_lt (by omega)]; rfl
theorem own_one (i : Nat) : Int32.ofNat i + (1 : Int32) = Int32.ofNat (i + 1) := (Int32.ofNat_add i 1).symm
theorem own_rem (x : Int32) (q : Nat) (h0 : 0 < q) (hq : q ≤ 255) : ∃ n : Nat, n < q ∧ ((x &&& (2147483647 : Int32)) % Int32.ofNat q) = Int32.ofNat n := by
  have h1 : (x &&& (2147483647 : Int32)).toInt = x.toInt % 2 ^ 31 := Jvm.Kit.i32_mask x 2147483647 (k := 31) (by decide) (by decide)
  have h2 : (Int32.ofNat q).toInt = (q : Int) := Int32.toInt_ofNat_of_lt (by omega)
  have h3 : ((x &&& (2147483647 : Int32)) % Int32.ofNat q).toInt = (x.toInt % 2 ^ 31) % (q : Int) := by
    rw [Jvm.Kit.i32_rem_nonneg (by rw [h1]; omega), h1, h2]
  have h4 : 0 ≤ (x.toInt % 2 ^ 31) % (q : Int) := Int.emod_nonneg _ (by omega)
  have h5 : (x.toInt % 2 ^ 31) % (q : Int) < (q : Int) := Int.emod_lt_of_pos _ (by omega)
  refine ⟨((x.toInt % 2 ^ 31) % (q : Int)).toNat, by omega, ?_⟩
  rw [← Int32.toInt_inj, h3, Int32.toInt_ofNat_of_lt (by omega)]
  omega
def own_vals (f : Nat → Int32) (n : Nat) : List Value := (List.range n).map fun j => .int (f j)
theorem own_len (f : Nat → Int32) (n : Nat) : (own_vals f n).length = n := by simp [own_vals]
theorem own_at (f : Nat → Int32) {n j : Nat} (h : j < n) (d : Value) : (own_vals f n).getD j d = .int (f j) := by simp [own_vals, List.getD_eq_getElem?_getD, h]
def own_upd (f : Nat → Int32) (i : Nat) (v : Int32) : Nat → Int32 := fun j => if j = i then v else f j
theorem own_set (f : Nat → Int32) (n i : Nat) (v : Int32) : (own_vals f n).set i (.int v) = own_vals (own_upd f i v) n := by
  apply List.ext_getElem?
  intro j
  rw [List.getElem?_set]
  by_cases h : i = j
  · subst h
    by_cases h2 : i < n
    · simp [own_vals, own_upd, h2]
    · simp [own_vals, own_upd, h2]
  · have h3 : ¬ j = i := fun q => h q.symm
    by_cases h2 : j < n
    · simp [own_vals, own_upd, h, h3, h2]
    · simp [own_vals, own_upd, h, h3, h2]
theorem own_pad (n : Nat) : ∀ i, (own_vals (fun _ => 0) n).getD i (.int (0 : Int32)) = ([] : List Value).getD i (.int (0 : Int32)) := fun i => by
  by_cases h : i < n
  · rw [own_at _ h]; simp
  · simp [own_vals, List.getD_eq_getElem?_getD, h]
def own_valsL (f : Nat → Int64) (n : Nat) : List Value := (List.range n).map fun j => .long (f j)
theorem own_lenL (f : Nat → Int64) (n : Nat) : (own_valsL f n).length = n := by simp [own_valsL]
theorem own_atL (f : Nat → Int64) {n j : Nat} (h : j < n) (d : Value) : (own_valsL f n).getD j d = .long (f j) := by simp [own_valsL, List.getD_eq_getElem?_getD, h]
def own_updL (f : Nat → Int64) (i : Nat) (v : Int64) : Nat → Int64 := fun j => if j = i then v else f j
theorem own_setL (f : Nat → Int64) (n i : Nat) (v : Int64) : (own_valsL f n).set i (.long v) = own_valsL (own_updL f i v) n := by
  apply List.ext_getElem?
  intro j
  rw [List.getElem?_set]
  by_cases h : i = j
  · subst h
    by_cases h2 : i < n
    · simp [own_valsL, own_updL, h2]
    · simp [own_valsL, own_updL, h2]
  · have h3 : ¬ j = i := fun q => h q.symm
    by_cases h2 : j < n
    · simp [own_valsL, own_updL, h, h3, h2]
    · simp [own_valsL, own_updL, h, h3, h2]
theorem own_padL (n : Nat) : ∀ i, (own_valsL (fun _ => 0) n).getD i (.long (0 : Int64)) = ([] : List Value).getD i (.long (0 : Int64)) := fun i => by
  by_cases h : i < n
  · rw [own_atL _ h]; simp
  · simp [own_valsL, List.getD_eq_getElem?_getD, h]
def own_fill (f : Nat → Int64) (q : Int64) (i : Nat) : Nat → Int64 := fun j => if j < i then q else f j
theorem own_fill0 (f : Nat → Int64) (q : Int64) : own_fill f q 0 = f := by funext j; simp [own_fill]
theorem own_fills (f : Nat → Int64) (q : Int64) (i : Nat) : own_updL (own_fill f q i) i q = own_fill f q (i + 1) := by
  funext j
  simp only [own_updL, own_fill]
  by_cases h : j = i
  · subst h; simp
  · rw [if_neg h]
    by_cases h2 : j < i
    · rw [if_pos h2, if_pos (by omega)]
    · rw [if_neg h2, if_neg (by omega)]
def own_N (n : Int64) (i : Nat) : Int64 := n + ((Int32.ofNat i >>> ((1 : Int32) &&& 31)).toInt64)
def own_E (e : Int64) (i : Nat) : Int64 := e + ((Int32.ofNat i &&& (1 : Int32)).toInt64)
def own_P (p : Int64) (i : Nat) : Int64 := p + ((Int32.ofNat i).toInt64)
def own_tell (g : Nat → Int64) (f0 : Nat → Int64) : Nat → (Nat → Int64)
  | 0 => f0
  | m + 1 => own_updL (own_tell g f0 m) (m % 8) (g m)
def own_zero : Nat → Int64 := fun _ => 0
def own_none : Nat → Int64 := own_fill own_zero (-1) 8
def own_ans (fn fe fa : Nat → Int64) (n e : Int64) : Nat → Nat → Int64
  | 0, _ => (-2 : Int64)
  | k + 1, i => if fe i = e then (if fn i = n then fa i else own_ans fn fe fa n e k (i + 1)) else own_ans fn fe fa n e k (i + 1)
def own_kept (cc jj : Nat) : Int32 := if jj < cc then (if cc = 9 then (if jj = 0 then 0 else 1) else 1) else 0
def own_exp (p : Int64) (cc jj : Nat) : Int64 := if jj < cc then (if cc = 9 then (if jj = 0 then (-2 : Int64) else own_P p jj) else own_P p jj) else (-2 : Int64)
theorem own_nx {nx : Nat} (h : nx < 8) : (Int32.ofNat nx + (1 : Int32)) % (8 : Int32) = Int32.ofNat ((nx + 1) % 8) := by
  have h1 : nx = 0 ∨ nx = 1 ∨ nx = 2 ∨ nx = 3 ∨ nx = 4 ∨ nx = 5 ∨ nx = 6 ∨ nx = 7 := by omega
  rcases h1 with rfl | rfl | rfl | rfl | rfl | rfl | rfl | rfl <;> decide
theorem own_eq {a b : Nat} (ha : a ≤ 255) (hb : b ≤ 255) (h : Int32.ofNat a = Int32.ofNat b) : a = b := by
  have q := congrArg Int32.toInt h
  rw [Int32.toInt_ofNat_of_lt (by omega), Int32.toInt_ofNat_of_lt (by omega)] at q
  omega
theorem own_pos (q : Int64) : 0 ≤ (q &&& (9223372036854775807 : Int64)).toInt := by
  have h : (q &&& (9223372036854775807 : Int64)).toInt = q.toInt % 2 ^ 63 := Jvm.Kit.i64_mask q 9223372036854775807 (k := 63) (by decide) (by decide)
  rw [h]; omega
theorem own_ceq {a : Nat} (ha : a < 10) (h : Int32.ofNat a = (9 : Int32)) : a = 9 := own_eq (b := 9) (by omega) (by decide) h
theorem own_zeq {a : Nat} (ha : a < 10) (h : Int32.ofNat a = (0 : Int32)) : a = 0 := own_eq (b := 0) (by omega) (by decide) h
theorem own_x1 (q : Int64) {cc jj : Nat} (hc : cc < 10) (hj : jj < 10) (h1 : Int32.ofNat jj < Int32.ofNat cc) (h2 : Int32.ofNat cc = (9 : Int32)) (h3 : Int32.ofNat jj = (0 : Int32)) : own_kept cc jj = (0 : Int32) := by
  rw [own_kept, if_pos (own_nlt h1 (by omega) (by omega)), if_pos (own_ceq hc h2), if_pos (own_zeq hj h3)]
theorem own_x2 (q : Int64) {cc jj : Nat} (hc : cc < 10) (hj : jj < 10) (h1 : Int32.ofNat jj < Int32.ofNat cc) (h2 : Int32.ofNat cc = (9 : Int32)) (h3 : Int32.ofNat jj = (0 : Int32)) : own_exp q cc jj = (-2 : Int64) := by
  rw [own_exp, if_pos (own_nlt h1 (by omega) (by omega)), if_pos (own_ceq hc h2), if_pos (own_zeq hj h3)]
theorem own_x3 (q : Int64) {cc jj : Nat} (hc : cc < 10) (hj : jj < 10) (h1 : Int32.ofNat jj < Int32.ofNat cc) (h2 : Int32.ofNat cc = (9 : Int32)) (h3 : ¬ Int32.ofNat jj = (0 : Int32)) : own_kept cc jj = (1 : Int32) := by
  rw [own_kept, if_pos (own_nlt h1 (by omega) (by omega)), if_pos (own_ceq hc h2), if_neg (fun g => h3 (by rw [g]; rfl))]
theorem own_x4 (q : Int64) {cc jj : Nat} (hc : cc < 10) (hj : jj < 10) (h1 : Int32.ofNat jj < Int32.ofNat cc) (h2 : Int32.ofNat cc = (9 : Int32)) (h3 : ¬ Int32.ofNat jj = (0 : Int32)) : own_exp q cc jj = (q + ((Int32.ofNat jj).toInt64)) := by
  rw [own_exp, if_pos (own_nlt h1 (by omega) (by omega)), if_pos (own_ceq hc h2), if_neg (fun g => h3 (by rw [g]; rfl))]; rfl
theorem own_x5 (q : Int64) {cc jj : Nat} (hc : cc < 10) (hj : jj < 10) (h1 : Int32.ofNat jj < Int32.ofNat cc) (h2 : ¬ Int32.ofNat cc = (9 : Int32)) : own_kept cc jj = (1 : Int32) := by
  rw [own_kept, if_pos (own_nlt h1 (by omega) (by omega)), if_neg (fun g => h2 (by rw [g]; rfl))]
theorem own_x6 (q : Int64) {cc jj : Nat} (hc : cc < 10) (hj : jj < 10) (h1 : Int32.ofNat jj < Int32.ofNat cc) (h2 : ¬ Int32.ofNat cc = (9 : Int32)) : own_exp q cc jj = (q + ((Int32.ofNat jj).toInt64)) := by
  rw [own_exp, if_pos (own_nlt h1 (by omega) (by omega)), if_neg (fun g => h2 (by rw [g]; rfl))]; rfl
theorem own_x7 (q : Int64) {cc jj : Nat} (hc : cc < 10) (hj : jj < 10) (h1 : ¬ Int32.ofNat jj < Int32.ofNat cc) : own_kept cc jj = (0 : Int32) := by
  rw [own_kept, if_neg (fun g => h1 (own_lt g (by omega)))]
theorem own_x8 (q : Int64) {cc jj : Nat} (hc : cc < 10) (hj : jj < 10) (h1 : ¬ Int32.ofNat jj < Int32.ofNat cc) : own_exp q cc jj = (-2 : Int64) := by
  rw [own_exp, if_neg (fun g => h1 (own_lt g (by omega)))]
def own_id (cc i : Nat) : Nat := if cc = 9 then (if i = 0 then 8 else i) else i
theorem own_slot (g f0 : Nat → Int64) (cc i : Nat) (hc : cc < 10) (hi : i < 8) : own_tell g f0 cc i = if i < cc then g (own_id cc i) else f0 i := by
  have h1 : cc = 0 ∨ cc = 1 ∨ cc = 2 ∨ cc = 3 ∨ cc = 4 ∨ cc = 5 ∨ cc = 6 ∨ cc = 7 ∨ cc = 8 ∨ cc = 9 := by omega
  have h2 : i = 0 ∨ i = 1 ∨ i = 2 ∨ i = 3 ∨ i = 4 ∨ i = 5 ∨ i = 6 ∨ i = 7 := by omega
  rcases h1 with rfl | rfl | rfl | rfl | rfl | rfl | rfl | rfl | rfl | rfl <;> rcases h2 with rfl | rfl | rfl | rfl | rfl | rfl | rfl | rfl <;> rfl
theorem own_hit (fn fe fa : Nat → Int64) (n e : Int64) : ∀ (k i i0 : Nat), i ≤ i0 → i0 < i + k → (fe i0 = e ∧ fn i0 = n) → (∀ t, i ≤ t → t < i0 → ¬ (fe t = e ∧ fn t = n)) → own_ans fn fe fa n e k i = fa i0 := by
  intro k
  induction k with
  | zero => intro i i0 h1 h2; omega
  | succ k ih =>
    intro i i0 h1 h2 h3 h4
    by_cases g : i = i0
    · subst g
      rw [own_ans, if_pos h3.1, if_pos h3.2]
    · have h5 := h4 i (Nat.le_refl _) (by omega)
      have h6 := ih (i + 1) i0 (by omega) (by omega) h3 (fun t a b => h4 t (by omega) b)
      by_cases q : fe i = e
      · rw [own_ans, if_pos q, if_neg (fun r => h5 ⟨q, r⟩)]; exact h6
      · rw [own_ans, if_neg q]; exact h6
theorem own_miss (fn fe fa : Nat → Int64) (n e : Int64) : ∀ (k i : Nat), (∀ t, i ≤ t → t < i + k → ¬ (fe t = e ∧ fn t = n)) → own_ans fn fe fa n e k i = (-2 : Int64) := by
  intro k
  induction k with
  | zero => intro i h; rfl
  | succ k ih =>
    intro i h4
    have h5 := h4 i (Nat.le_refl _) (by omega)
    have h6 := ih (i + 1) (fun t a b => h4 t (by omega) (by omega))
    by_cases q : fe i = e
    · rw [own_ans, if_pos q, if_neg (fun r => h5 ⟨q, r⟩)]; exact h6
    · rw [own_ans, if_neg q]; exact h6
theorem own_cancel {a b c : Int64} (h : a + b = a + c) : b = c := by
  have q : (a + b) - a = (a + c) - a := by rw [h]
  rw [Int64.add_comm a b, Int64.add_comm a c, Int64.add_sub_cancel, Int64.add_sub_cancel] at q
  exact q
theorem own_inj (n e : Int64) (s t : Nat) (hs : s < 10) (ht : t < 10) (h1 : own_E e s = own_E e t) (h2 : own_N n s = own_N n t) : s = t := by
  have g1 := own_cancel h1
  have g2 := own_cancel h2
  have q1 : s = 0 ∨ s = 1 ∨ s = 2 ∨ s = 3 ∨ s = 4 ∨ s = 5 ∨ s = 6 ∨ s = 7 ∨ s = 8 ∨ s = 9 := by omega
  have q2 : t = 0 ∨ t = 1 ∨ t = 2 ∨ t = 3 ∨ t = 4 ∨ t = 5 ∨ t = 6 ∨ t = 7 ∨ t = 8 ∨ t = 9 := by omega
  rcases q1 with rfl | rfl | rfl | rfl | rfl | rfl | rfl | rfl | rfl | rfl <;> rcases q2 with rfl | rfl | rfl | rfl | rfl | rfl | rfl | rfl | rfl | rfl <;> first | rfl | (exact absurd g1 (by decide)) | (exact absurd g2 (by decide))
theorem own_ne (e : Int64) (he : 0 ≤ e.toInt) (s : Nat) (hs : s < 10) : own_E e s ≠ (-1 : Int64) := by
  intro h
  have hx : ∀ y : Int64, e + y = (-1 : Int64) → e = (-1 : Int64) - y := fun y q => by rw [← q, Int64.add_sub_cancel]
  have h2 := hx _ h
  have q1 : s = 0 ∨ s = 1 ∨ s = 2 ∨ s = 3 ∨ s = 4 ∨ s = 5 ∨ s = 6 ∨ s = 7 ∨ s = 8 ∨ s = 9 := by omega
  rcases q1 with rfl | rfl | rfl | rfl | rfl | rfl | rfl | rfl | rfl | rfl <;> (rw [h2] at he; exact absurd he (by decide))
theorem own_law (n e p : Int64) (cc jj : Nat) (hc : cc < 10) (hj : jj < 10) (he : 0 ≤ e.toInt) : own_ans (own_tell (own_N n) own_zero cc) (own_tell (own_E e) own_none cc) (own_tell (own_P p) own_zero cc) (own_N n jj) (own_E e jj) 8 0 = own_exp p cc jj := by
  have hid : ∀ i, i < 8 → own_id cc i < 10 := fun i hi => by
    rw [own_id]; split
    · split <;> omega
    · omega
  have hm : ∀ i, i < 8 → ((own_tell (own_E e) own_none cc i = own_E e jj ∧ own_tell (own_N n) own_zero cc i = own_N n jj) ↔ (i < cc ∧ own_id cc i = jj)) := fun i hi => by
    rw [own_slot _ _ cc i hc hi, own_slot _ _ cc i hc hi]
    by_cases g : i < cc
    · rw [if_pos g, if_pos g]
      exact ⟨fun q => ⟨g, own_inj n e _ _ (hid i hi) hj q.1 q.2⟩, fun q => by rw [q.2]; exact ⟨rfl, rfl⟩⟩
    · rw [if_neg g, if_neg g]
      refine ⟨fun q => absurd q.1 ?_, fun q => absurd q.1 g⟩
      have h1 : own_none i = (-1 : Int64) := if_pos hi
      rw [h1]
      exact fun z => own_ne e he jj hj z.symm
  have hit : ∀ i0, i0 < 8 → i0 < cc → own_id cc i0 = jj → (∀ t, t < i0 → ¬ own_id cc t = jj) → own_ans (own_tell (own_N n) own_zero cc) (own_tell (own_E e) own_none cc) (own_tell (own_P p) own_zero cc) (own_N n jj) (own_E e jj) 8 0 = own_P p jj := fun i0 h1 h2 h3 h4 => by
    rw [own_hit _ _ _ _ _ 8 0 i0 (Nat.zero_le _) (by omega) ((hm i0 h1).mpr ⟨h2, h3⟩) (fun t _ b q => h4 t b ((hm t (by omega)).mp q).2), own_slot _ _ cc i0 hc h1, if_pos h2, h3]
  have miss : (∀ t, t < 8 → t < cc → ¬ own_id cc t = jj) → own_ans (own_tell (own_N n) own_zero cc) (own_tell (own_E e) own_none cc) (own_tell (own_P p) own_zero cc) (own_N n jj) (own_E e jj) 8 0 = (-2 : Int64) := fun h =>
    own_miss _ _ _ _ _ 8 0 (fun t _ b q => h t (by omega) ((hm t (by omega)).mp q).1 ((hm t (by omega)).mp q).2)
  by_cases a1 : jj < cc
  · by_cases a2 : cc = 9
    · by_cases a3 : jj = 0
      · rw [own_exp, if_pos a1, if_pos a2, if_pos a3]
        refine miss fun t h1 h2 h3 => ?_
        rw [own_id, if_pos a2] at h3
        split at h3 <;> omega
      · rw [own_exp, if_pos a1, if_pos a2, if_neg a3]
        by_cases a4 : jj = 8
        · refine hit 0 (by omega) (by omega) ?_ (fun t h1 => by omega)
          rw [own_id, if_pos a2, if_pos rfl, a4]
        · refine hit jj (by omega) a1 ?_ (fun t h1 h3 => ?_)
          · rw [own_id, if_pos a2, if_neg a3]
          · rw [own_id, if_pos a2] at h3
            split at h3 <;> omega
    · rw [own_exp, if_pos a1, if_neg a2]
      refine hit jj (by omega) a1 ?_ (fun t h1 h3 => ?_)
      · rw [own_id, if_neg a2]
      · rw [own_id, if_neg a2] at h3
        omega
  · rw [own_exp, if_neg a1]
    refine miss fun t h1 h2 h3 => ?_
    rw [own_id] at h3
    split at h3
    · split at h3 <;> omega
    · omega
def own_TM (Z : State) (h : Heap) (a : Addr) (n0 : Nat) (fn fe fa : Nat → Int64) (nx : Nat) : Prop := ∃ (b1 b2 b3 : Addr) (k1 k2 k3 : ClassId), Exa Z h a "com/example/binlens/binlens/TableMaps" ∧ Fld Z h a "com/example/binlens/binlens/TableMaps" "askedNumbers" "[J" (.ref b1) ∧ Fld Z h a "com/example/binlens/binlens/TableMaps" "askedEnds" "[J" (.ref b2) ∧ Fld Z h a "com/example/binlens/binlens/TableMaps" "answers" "[J" (.ref b3) ∧ Fld Z h a "com/example/binlens/binlens/TableMaps" "next" "I" (.int (Int32.ofNat nx)) ∧ Arv Z h b1 k1 .long (8 : Int32) (own_valsL fn 8) (.long (0 : Int64)) ∧ Arv Z h b2 k2 .long (8 : Int32) (own_valsL fe 8) (.long (0 : Int64)) ∧ Arv Z h b3 k3 .long (8 : Int32) (own_valsL fa 8) (.long (0 : Int64)) ∧ (b1 ≠ a ∧ b2 ≠ a ∧ b3 ≠ a ∧ b1 ≠ b2 ∧ b1 ≠ b3 ∧ b2 ≠ b3) ∧ n0 ≤ a ∧ n0 ≤ b1 ∧ n0 ≤ b2 ∧ n0 ≤ b3
theorem pn_3 : plainName "java/util/Arrays" = true := by first | (simp [plainName, overriddenIn]; done) | decide +kernel
theorem ef_3 (m : MethodId) (a1 : Addr) (q2 : Int64) : entryFrame m #[(.ref a1), (.long q2)] 5 = mkF m 0 #[.val (.ref a1), .val (.long q2), .second, .unset, .unset] [] := by first | (simp [entryFrame, mkF, argsToLocals, Value.category]; done) | rfl
theorem d3_0 : decode jdk_65_method_101_code 0 = .ok (.iconst 0, 1) := by decide +kernel
theorem d3_1 : decode jdk_65_method_101_code 1 = .ok (.istore_n 3, 1) := by decide +kernel
theorem d3_2 : decode jdk_65_method_101_code 2 = .ok (.aload_n 0, 1) := by decide +kernel
theorem d3_3 : decode jdk_65_method_101_code 3 = .ok (.arraylength, 1) := by decide +kernel
theorem d3_4 : decode jdk_65_method_101_code 4 = .ok (.istore 4, 2) := by decide +kernel
theorem d3_6 : decode jdk_65_method_101_code 6 = .ok (.iload_n 3, 1) := by decide +kernel
theorem d3_7 : decode jdk_65_method_101_code 7 = .ok (.iload 4, 2) := by decide +kernel
theorem d3_9 : decode jdk_65_method_101_code 9 = .ok (.if_icmp .ge 13, 3) := by decide +kernel
theorem d3_12 : decode jdk_65_method_101_code 12 = .ok (.aload_n 0, 1) := by decide +kernel
theorem d3_13 : decode jdk_65_method_101_code 13 = .ok (.iload_n 3, 1) := by decide +kernel
theorem d3_14 : decode jdk_65_method_101_code 14 = .ok (.lload_n 1, 1) := by decide +kernel
theorem d3_15 : decode jdk_65_method_101_code 15 = .ok (.lastore, 1) := by decide +kernel
theorem d3_16 : decode jdk_65_method_101_code 16 = .ok (.iinc 3 1, 3) := by decide +kernel
theorem d3_19 : decode jdk_65_method_101_code 19 = .ok (.goto (-13), 3) := by decide +kernel
theorem d3_22 : decode jdk_65_method_101_code 22 = .ok (.return_, 1) := by decide +kernel
set_option maxRecDepth 65536 in
set_option maxHeartbeats 40000000 in
theorem t622 {p : Program} {l : Launch} {e : Env} {R : Room} {s : State} {m : MethodId} {args : Array Value} {below : List Frame} {meth : Method} {c : Code} {T0 : State} {locs : List Loc} {cells slots : Nat} {Z : State} {a0 : Array Value} {h0 : Heap} (o0 : Addr) (q1 : Int64) (i3 : Int32) (i4 : Int32) 
    (X0 : Stand p l e R s m args below meth c T0 locs cells slots) (hx : p.tables.exec = Jvm.exec) (hZ : Z.Warmed39 s.vm) (hw : ∀ d ∈ tables_1, d.before a0 Z = true) (hby : c.code = jdk_65_method_101_code) (hml : c.maxLocals = 5) (hown : s.vm.findClass "java/util/Arrays" = some m.cls) (e0 : T0.heap = h0) (hge : ¬ (i3 < i4)) {target : State}
    (kt : Steps p.tables e below (T0.setTop (mkF m 22 #[.val (.ref o0), .val (.long q1), .second, .val (.int i3), .val (.int i4)] [])) target) : Steps p.tables e below (T0.setTop (mkF m 6 #[.val (.ref o0), .val (.long q1), .second, .val (.int i3), .val (.int i4)] [])) target := by
  show Steps p.tables e below (T0.setTop (mkF m 6 #[.val (.ref o0), .val (.long q1), .second, .val (.int i3), .val (.int i4)] [])) _
  refine XS.iloadN X0.here hx rfl (hb hby d3_6) rfl ?_
  show Steps p.tables e below (T0.setTop (mkF m 7 #[.val (.ref o0), .val (.long q1), .second, .val (.int i3), .val (.int i4)] [(.int i3)])) _
  refine XS.iload X0.here hx rfl (hb hby d3_7) rfl ?_
  show Steps p.tables e below (T0.setTop (mkF m 9 #[.val (.ref o0), .val (.long q1), .second, .val (.int i3), .val (.int i4)] [(.int i4), (.int i3)])) _
  refine XS.icmpYes X0.here hx rfl (pc0 := 9) (pc' := 22) rfl (hb hby d3_9) rfl (flt hge).2.1 (by decide) (by decide) ?_
  exact kt
set_option maxRecDepth 65536 in
set_option maxHeartbeats 40000000 in
theorem t66 {p : Program} {l : Launch} {e : Env} {R : Room} {s : State} {m : MethodId} {args : Array Value} {below : List Frame} {meth : Method} {c : Code} {T0 : State} {locs : List Loc} {cells slots : Nat} {Z : State} {a0 : Array Value} {h0 : Heap} (o0 : Addr) (q1 : Int64) (i3 i4 : Int32) (cl : Cell) (n0 : Nat)
    (X0 : Stand p l e R s m args below meth c T0 locs cells slots) (hx : p.tables.exec = Jvm.exec) (hZ : Z.Warmed39 s.vm) (hw : ∀ d ∈ tables_1, d.before a0 Z = true) (hby : c.code = jdk_65_method_101_code) (hml : c.maxLocals = 5) (hown : s.vm.findClass "java/util/Arrays" = some m.cls) (e0 : T0.heap = h0) (Ar : Arr Z h0 o0 cl .long) (hlt : i3 < i4) (hin : ¬ (i3 < 0 ∨ cl.slots.size ≤ i3.toNatClampNeg)) (N0 : Fr n0 locs) (ga : n0 ≤ o0) :
    ∃ (T' : State) (h' : Heap) (locs' : List Loc), Stand p l e R s m args below meth c T' locs' cells slots ∧ T'.heap = h' ∧ Fr n0 locs' ∧ Wr h0 h' o0 i3.toNatClampNeg (.long q1) ∧ ∀ target, Steps p.tables e below (T'.setTop (mkF m 6 #[.val (.ref o0), .val (.long q1), .second, .val (.int (i3 + (1 : Int32))), .val (.int i4)] [])) target → Steps p.tables e below (T0.setTop (mkF m 6 #[.val (.ref o0), .val (.long q1), .second, .val (.int i3), .val (.int i4)] [])) target := by
  obtain ⟨T1, h1, X1, e1, W1, st1⟩ := stJ X0 hx hZ e0 Ar (j := i3) hin (g := (mkF m 15 #[.val (.ref o0), .val (.long q1), .second, .val (.int i3), .val (.int i4)] [(.long q1), (.int i3), (.ref o0)])) rfl rfl (hb hby d3_15)
  have N1 := Fr.snoc X1 N0 ga
  refine ⟨T1, _, _, X1, e1, N1, W1, fun target kt => ?_⟩
  show Steps p.tables e below (T0.setTop (mkF m 6 #[.val (.ref o0), .val (.long q1), .second, .val (.int i3), .val (.int i4)] [])) _
  refine XS.iloadN X0.here hx rfl (hb hby d3_6) rfl ?_
  show Steps p.tables e below (T0.setTop (mkF m 7 #[.val (.ref o0), .val (.long q1), .second, .val (.int i3), .val (.int i4)] [(.int i3)])) _
  refine XS.iload X0.here hx rfl (hb hby d3_7) rfl ?_
  show Steps p.tables e below (T0.setTop (mkF m 9 #[.val (.ref o0), .val (.long q1), .second, .val (.int i3), .val (.int i4)] [(.int i4), (.int i3)])) _
  refine XS.icmpNo X0.here hx rfl (hb hby d3_9) rfl (tlt hlt).2.1 ?_
  show Steps p.tables e below (T0.setTop (mkF m 12 #[.val (.ref o0), .val (.long q1), .second, .val (.int i3), .val (.int i4)] [])) _
  refine XS.aloadN X0.here hx rfl (hb hby d3_12) rfl rfl ?_
  show Steps p.tables e below (T0.setTop (mkF m 13 #[.val (.ref o0), .val (.long q1), .second, .val (.int i3), .val (.int i4)] [(.ref o0)])) _
  refine XS.iloadN X0.here hx rfl (hb hby d3_13) rfl ?_
  show Steps p.tables e below (T0.setTop (mkF m 14 #[.val (.ref o0), .val (.long q1), .second, .val (.int i3), .val (.int i4)] [(.int i3), (.ref o0)])) _
  refine XS.lloadN X0.here hx rfl (hb hby d3_14) rfl ?_
  show Steps p.tables e below (T0.setTop (mkF m 15 #[.val (.ref o0), .val (.long q1), .second, .val (.int i3), .val (.int i4)] [(.long q1), (.int i3), (.ref o0)])) _
  refine st1 _ ?_
  show Steps p.tables e below (T1.setTop (mkF m 16 #[.val (.ref o0), .val (.long q1), .second, .val (.int i3), .val (.int i4)] [])) _
  refine XS.iinc X1.here hx rfl (hb hby d3_16) rfl (l' := #[.val (.ref o0), .val (.long q1), .second, .val (.int (i3 + (1 : Int32))), .val (.int i4)]) rfl ?_
  show Steps p.tables e below (T1.setTop (mkF m 19 #[.val (.ref o0), .val (.long q1), .second, .val (.int (i3 + (1 : Int32))), .val (.int i4)] [])) _
  refine XS.goto X1.here hx rfl (pc0 := 19) (pc' := 6) rfl (hb hby d3_19) (by decide) (by decide) ?_
  exact kt
set_option maxRecDepth 65536 in
set_option maxHeartbeats 40000000 in
theorem loop3 {p : Program} {l : Launch} {e : Env} {R : Room} {s : State} {m : MethodId} {args : Array Value} {below : List Frame} {meth : Method} {c : Code} {cells slots : Nat} {Z : State} {a0 : Array Value} (o0 : Addr) (q1 : Int64) (ka : ClassId) (f : Nat → Int64) (n0 : Nat) (ga : n0 ≤ o0) (hx : p.tables.exec = Jvm.exec) (hZ : Z.Warmed39 s.vm) (hw : ∀ d ∈ tables_1, d.before a0 Z = true) (hby : c.code = jdk_65_method_101_code) (hml : c.maxLocals = 5) (hown : s.vm.findClass "java/util/Arrays" = some m.cls) :
    ∀ (k i : Nat) (T0 : State) (h0 : Heap) (locs : List Loc), i + k = 8 → Stand p l e R s m args below meth c T0 locs cells slots → T0.heap = h0 → Fr n0 locs → Arv Z h0 o0 ka .long (8 : Int32) (own_valsL (own_fill f q1 i) 8) (.long (0 : Int64)) →
      ∃ (T' : State) (h' : Heap) (locs' : List Loc), Stand p l e R s m args below meth c T' locs' cells slots ∧ T'.heap = h' ∧ Fr n0 locs' ∧ Keep h0 h' [o0] ∧ Arv Z h' o0 ka .long (8 : Int32) (own_valsL (own_fill f q1 8) 8) (.long (0 : Int64)) ∧ ∀ target, Steps p.tables e below (T'.setTop (mkF m 22 #[.val (.ref o0), .val (.long q1), .second, .val (.int (8 : Int32)), .val (.int (8 : Int32))] [])) target → Steps p.tables e below (T0.setTop (mkF m 6 #[.val (.ref o0), .val (.long q1), .second, .val (.int (Int32.ofNat i)), .val (.int (8 : Int32))] [])) target := by
  intro k
  induction k with
  | zero =>
    intro i T0 h0 locs hi X0 e0 N0 VA
    obtain rfl : i = 8 := by omega
    refine ⟨T0, h0, locs, X0, e0, N0, Keep.refl _ _, VA, fun target kt => ?_⟩
    exact t622 (o0 := o0) (q1 := q1) (i3 := (8 : Int32)) (i4 := (8 : Int32)) X0 hx hZ hw hby hml hown e0 (by decide) kt
  | succ k ih =>
    intro i T0 h0 locs hi X0 e0 N0 VA
    obtain ⟨cl0, Ar0, q0, S0, M0, H0, G0⟩ := VA
    have z0 : cl0.slots.size = 8 := S0
    have hin0 : ¬ (Int32.ofNat i < 0 ∨ cl0.slots.size ≤ (Int32.ofNat i).toNatClampNeg) := by
      rw [z0, own_n32 (by omega)]
      exact fun q => q.elim (own_nn (by omega)) (fun q => by omega)
    obtain ⟨T1, h1, L1, X1, e1, N1, W1, st1⟩ := t66 o0 q1 (Int32.ofNat i) (8 : Int32) cl0 n0 X0 hx hZ hw hby hml hown e0 Ar0 (own_lt (n := 8) (by omega) (by decide)) hin0 N0 ga
    have VA1 := Arv.set Ar0 q0 S0 M0 H0 G0 rfl W1 i (own_n32 (by omega)) (by rw [own_lenL]; omega)
    rw [own_setL, own_fills] at VA1
    obtain ⟨T', h', L', X', e', N', K', VA', st⟩ := ih (i + 1) T1 h1 L1 (by omega) X1 e1 N1 VA1
    refine ⟨T', h', L', X', e', N', (Keep.of_wr W1).trans K' (fun x hx => Or.inl hx), VA', fun target kt => st1 target ?_⟩
    rw [own_one]
    exact st target kt
def Q3 (Z : State) (a1 : Addr) (q2 : Int64) (ka : ClassId) (f : Nat → Int64) (h0 : Heap) (n0 : Nat) (v : Option Value) (h : Heap) (L : List Loc) : Prop := v = none ∧ Fr n0 L ∧ Keep h0 h [a1] ∧ Arv Z h a1 ka .long (8 : Int32) (own_valsL (own_fill f q2 8) 8) (.long (0 : Int64))
set_option maxRecDepth 65536 in
set_option maxHeartbeats 40000000 in
theorem rm3 (l : Launch) (Z : State) (a0 : Array Value) (hw : ∀ d ∈ tables_1, d.before a0 Z = true) (ws : List Jvm.Cond) (a1 : Addr) (q2 : Int64) (ka : ClassId) (f : Nat → Int64) (h0 : Heap) (n0 : Nat) (Z0 : n0 ≤ h0.size) (ga : n0 ≤ a1) (VA : Arv Z h0 a1 ka .long (8 : Int32) (own_valsL f 8) (.long (0 : Int64))) :
    MetFree l (⟨"java/util/Arrays", "fill", "([JJ)V"⟩ : MethodName) (head1 (Jvm.Cond.code (⟨"java/util/Arrays", "fill", "([JJ)V"⟩ : MethodName) jdk_65_method_101_code 5 none :: ws) ({ frames := 0, cells := 0, slots := 0, locals := 0 } : Room)) (fun a U => a = #[(.ref a1), (.long q2)] ∧ Z.Warmed39 U.vm ∧ U.heap = h0) (fun _ _ _ _ _ => True) (fun _ U o U' => ∃ v L, o = .returned v ∧ Q3 Z a1 q2 ka f h0 n0 v U'.heap L ∧ FrameEnd U o U' L ({ frames := 0, cells := 0, slots := 0, locals := 0 } : Room).cells ({ frames := 0, cells := 0, slots := 0, locals := 0 } : Room).slots) := by
  refine MetFree.of_bodySF (plainFor_of_name pn_3) hisR ?_
  intro p e s m args below meth c s₁ Bd hml0 hP hK
  obtain ⟨rfl, hZ, hh⟩ := hP
  have hx := Bd.exec
  have hby := Bd.bytes
  have hml : c.maxLocals = 5 := hml0
  have hown : s.vm.findClass "java/util/Arrays" = some m.cls := findClass_of_methodNamed Bd.named
  have hnm := (name_of_methodNamed Bd.named Bd.method).1
  have X0 : Stand p l e ({ frames := 0, cells := 0, slots := 0, locals := 0 } : Room) s m #[(.ref a1), (.long q2)] below meth c s₁ [] 0 0 := Stand.of_body Bd
  have e0 : s₁.heap = h0 := by rw [← hh, Bd.state]; rfl
  have N0 := Fr.nil n0
  have pre0 : ∀ t, Steps p.tables e below (s₁.setTop (mkF m 0 #[.val (.ref a1), .val (.long q2), .second, .unset, .unset] [])) t → Steps p.tables e below (s₁.setTop (entryFrame m #[(.ref a1), (.long q2)] 5)) t := fun t k => castTop (ef_3 m a1 q2) k
  have VA' : Arv Z h0 a1 ka .long (8 : Int32) (own_valsL (own_fill f q2 0) 8) (.long (0 : Int64)) := by rw [own_fill0]; exact VA
  obtain ⟨T1, h1, L1, X1, e1, N1, K1, VA1, st1⟩ := loop3 a1 q2 ka f n0 ga hx hZ hw hby hml hown 8 0 s₁ h0 [] (by omega) X0 e0 N0 VA'
  obtain ⟨cl, Ar, -, S_, M_, -, -⟩ := VA
  obtain ⟨fs, hr, hrun, hended, hW, hsame⟩ := X1.leave (v := none) (fun _ => rfl)
  refine ⟨_, _, pre0 _ ?_, hrun, hended, _, _, rfl, ?_, ⟨_, rfl⟩, hW, hsame.mono (by decide) (by decide)⟩
  · show Steps p.tables e below (s₁.setTop (mkF m 0 #[.val (.ref a1), .val (.long q2), .second, .unset, .unset] [])) _
    refine XS.iconst X0.here hx rfl (hb hby d3_0) ?_
    show Steps p.tables e below (s₁.setTop (mkF m 1 #[.val (.ref a1), .val (.long q2), .second, .unset, .unset] [(.int (0 : Int32))])) _
    refine XS.istoreN X0.here hx rfl (hb hby d3_1) rfl (l' := #[.val (.ref a1), .val (.long q2), .second, .val (.int (0 : Int32)), .unset]) rfl ?_
    show Steps p.tables e below (s₁.setTop (mkF m 2 #[.val (.ref a1), .val (.long q2), .second, .val (.int (0 : Int32)), .unset] [])) _
    refine XS.aloadN X0.here hx rfl (hb hby d3_2) rfl rfl ?_
    show Steps p.tables e below (s₁.setTop (mkF m 3 #[.val (.ref a1), .val (.long q2), .second, .val (.int (0 : Int32)), .unset] [(.ref a1)])) _
    refine X0.arraylength hx (cell := cl) (by rw [e0]; exact Ar.1) (State.isArrayOf_alike hZ.alike Ar.2.1) (g := (mkF m 3 #[.val (.ref a1), .val (.long q2), .second, .val (.int (0 : Int32)), .unset] [(.ref a1)])) rfl (rest := []) rfl (hb hby d3_3) _ ?_
    rw [len_of S_ M_]
    show Steps p.tables e below (s₁.setTop (mkF m 4 #[.val (.ref a1), .val (.long q2), .second, .val (.int (0 : Int32)), .unset] [(.int (8 : Int32))])) _
    refine XS.istore X0.here hx rfl (hb hby d3_4) rfl (l' := #[.val (.ref a1), .val (.long q2), .second, .val (.int (0 : Int32)), .val (.int (8 : Int32))]) rfl ?_
    show Steps p.tables e below (s₁.setTop (mkF m 6 #[.val (.ref a1), .val (.long q2), .second, .val (.int (0 : Int32)), .val (.int (8 : Int32))] [])) _
    refine st1 _ ?_
    exact X1.returnOut hx Bd.returns (hb hby d3_22) hr
  · show Q3 Z a1 q2 ka f h0 n0 _ T1.heap _
    rw [e1]
    exact ⟨rfl, N1, K1, VA1⟩
theorem pn_1 : plainName "com/example/binlens/binlens/TableMaps" = true := by first | (simp [plainName, overriddenIn]; done) | decide +kernel
theorem ef_1 (m : MethodId) (a1 : Addr) : entryFrame m #[(.ref a1)] 1 = mkF m 0 #[.val (.ref a1)] [] := by first | (simp [entryFrame, mkF, argsToLocals, Value.category]; done) | rfl
theorem d1_0 : decode prog_182_method_1_code 0 = .ok (.aload_n 0, 1) := by decide +kernel
theorem d1_1 : decode prog_182_method_1_code 1 = .ok (.invokespecial 3, 3) := by decide +kernel
theorem d1_4 : decode prog_182_method_1_code 4 = .ok (.aload_n 0, 1) := by decide +kernel
theorem d1_5 : decode prog_182_method_1_code 5 = .ok (.bipush 8, 2) := by decide +kernel
theorem d1_7 : decode prog_182_method_1_code 7 = .ok (.newarray .long, 2) := by decide +kernel
theorem d1_9 : decode prog_182_method_1_code 9 = .ok (.putfield 9, 3) := by decide +kernel
theorem d1_12 : decode prog_182_method_1_code 12 = .ok (.aload_n 0, 1) := by decide +kernel
theorem d1_13 : decode prog_182_method_1_code 13 = .ok (.bipush 8, 2) := by decide +kernel
theorem d1_15 : decode prog_182_method_1_code 15 = .ok (.newarray .long, 2) := by decide +kernel
theorem d1_17 : decode prog_182_method_1_code 17 = .ok (.putfield 13, 3) := by decide +kernel
theorem d1_20 : decode prog_182_method_1_code 20 = .ok (.aload_n 0, 1) := by decide +kernel
theorem d1_21 : decode prog_182_method_1_code 21 = .ok (.bipush 8, 2) := by decide +kernel
theorem d1_23 : decode prog_182_method_1_code 23 = .ok (.newarray .long, 2) := by decide +kernel
theorem d1_25 : decode prog_182_method_1_code 25 = .ok (.putfield 16, 3) := by decide +kernel
theorem d1_28 : decode prog_182_method_1_code 28 = .ok (.aload_n 0, 1) := by decide +kernel
theorem d1_29 : decode prog_182_method_1_code 29 = .ok (.getfield 13, 3) := by decide +kernel
theorem d1_32 : decode prog_182_method_1_code 32 = .ok (.ldc2_w 19, 3) := by decide +kernel
theorem d1_35 : decode prog_182_method_1_code 35 = .ok (.invokestatic 21, 3) := by decide +kernel
theorem d1_38 : decode prog_182_method_1_code 38 = .ok (.return_, 1) := by decide +kernel
theorem pd_1_0 : parseMethodDescriptor "([JJ)V" = some ⟨[(.array .long), .long], none⟩ := by decide +kernel
def Q1 (Z : State) (a1 : Addr) (h0 : Heap) (n0 : Nat) (v : Option Value) (h : Heap) (L : List Loc) : Prop := v = none ∧ Fr n0 L ∧ h0.size ≤ h.size ∧ own_TM Z h a1 n0 own_zero own_none own_zero 0
set_option maxRecDepth 65536 in
set_option maxHeartbeats 40000000 in
theorem rm1 (l : Launch) (Z : State) (a0 : Array Value) (hw : ∀ d ∈ tables_1, d.before a0 Z = true) (ws : List Jvm.Cond) (a1 : Addr) (h0 : Heap) (n0 : Nat) (Z0 : n0 ≤ h0.size) (g_o : n0 ≤ a1) (E_0 : Exa Z h0 a1 "com/example/binlens/binlens/TableMaps") (Fn_0 : Fld Z h0 a1 "com/example/binlens/binlens/TableMaps" "askedNumbers" "[J" .null) (Fe_0 : Fld Z h0 a1 "com/example/binlens/binlens/TableMaps" "askedEnds" "[J" .null) (Fa_0 : Fld Z h0 a1 "com/example/binlens/binlens/TableMaps" "answers" "[J" .null) (Fx_0 : Fld Z h0 a1 "com/example/binlens/binlens/TableMaps" "next" "I" (.int (0 : Int32))) :
    MetFree l (⟨"com/example/binlens/binlens/TableMaps", "<init>", "()V"⟩ : MethodName) (head1 (Jvm.Cond.code (⟨"com/example/binlens/binlens/TableMaps", "<init>", "()V"⟩ : MethodName) prog_182_method_1_code 1 none :: ws) ({ frames := 1, cells := 3, slots := 24, locals := 16 } : Room)) (fun a U => a = #[(.ref a1)] ∧ Z.Warmed39 U.vm ∧ U.heap = h0) (fun _ _ _ _ _ => True) (fun _ U o U' => ∃ v L, o = .returned v ∧ Q1 Z a1 h0 n0 v U'.heap L ∧ FrameEnd U o U' L ({ frames := 1, cells := 3, slots := 24, locals := 16 } : Room).cells ({ frames := 1, cells := 3, slots := 24, locals := 16 } : Room).slots) := by
  refine MetFree.of_bodySF (plainFor_of_name pn_1) hisR ?_
  intro p e s m args below meth c s₁ Bd hml0 hP hK
  obtain ⟨rfl, hZ, hh⟩ := hP
  have hx := Bd.exec
  have hby := Bd.bytes
  have hml : c.maxLocals = 1 := hml0
  have hown : s.vm.findClass "com/example/binlens/binlens/TableMaps" = some m.cls := findClass_of_methodNamed Bd.named
  have hnm := (name_of_methodNamed Bd.named Bd.method).1
  have X0 : Stand p l e ({ frames := 1, cells := 3, slots := 24, locals := 16 } : Room) s m #[(.ref a1)] below meth c s₁ [] 0 0 := Stand.of_body Bd
  have e0 : s₁.heap = h0 := by rw [← hh, Bd.state]; rfl
  have N0 := Fr.nil n0
  have pre0 : ∀ t, Steps p.tables e below (s₁.setTop (mkF m 0 #[.val (.ref a1)] [])) t → Steps p.tables e below (s₁.setTop (entryFrame m #[(.ref a1)] 1)) t := fun t k => castTop (ef_1 m a1) k
  obtain ⟨T1, X1, e1, st1⟩ := initO X0 hx hZ hown (hw _ (List.mem_of_getElem? (i := 8) rfl)) (hw _ (List.mem_of_getElem? (i := 9) rfl)) (hw _ (List.mem_of_getElem? (i := 10) rfl)) e0 (g := (mkF m 1 #[.val (.ref a1)] [(.ref a1)])) rfl (by rw [hml]; rfl) rfl (hb hby d1_1) (by decide) (W := 0) (by show 2 * 0 + _ ≤ _; exact Nat.le_of_eq rfl) (by decide)
  obtain ⟨T2, h2, k2, X2, e2, E2, A2, st2⟩ := newP X1 hx hZ (hw _ (List.mem_of_getElem? (i := 11) rfl)) e1 (g := (mkF m 7 #[.val (.ref a1)] [(.int (8 : Int32)), (.ref a1)])) rfl (hb hby d1_7) rfl (by decide) (cap := 8) (by decide) (by decide) (by decide) (by decide)
  obtain ⟨b2, g2⟩ : ∃ z, z = h0.size := ⟨_, rfl⟩
  rw [← g2] at A2 st2
  have E_2 := E_0.ext E2
  have Fn_2 := Fn_0.ext E2
  have Fe_2 := Fe_0.ext E2
  have Fa_2 := Fa_0.ext E2
  have Fx_2 := Fx_0.ext E2
  have ne_n_o : b2 ≠ a1 := Ne.symm (Nat.ne_of_lt (Nat.lt_of_lt_of_le E_0.lt (Nat.le_of_eq g2.symm)))
  have Vn_2 : Arv Z h2 b2 k2 .long (8 : Int32) (own_valsL own_zero 8) (.long (0 : Int64)) := (Arv.new A2 (by decide)).pad (own_padL 8)
  have zz2 : n0 ≤ h2.size := Nat.le_trans Z0 E2.1
  have sz2 : h0.size ≤ h2.size := Nat.le_trans (Nat.le_refl h0.size) E2.1
  have g_n : n0 ≤ b2 := Nat.le_trans Z0 (Nat.le_of_eq g2.symm)
  obtain ⟨T3, h3, X3, e3, W3, st3⟩ := putF X2 hx hZ hown (host := "") (Or.inl (hw _ (List.mem_of_getElem? (i := 12) rfl))) Via.refl e2 Fn_2 E_2 (Or.inr ⟨(hw _ (List.mem_of_getElem? (i := 13) rfl)), rfl, hnm⟩) (hw _ (List.mem_of_getElem? (i := 3) rfl)) (ty := (.array .long)) (by decide) rfl rfl (g := (mkF m 9 #[.val (.ref a1)] [(.ref b2), (.ref a1)])) rfl rfl (hb hby d1_9)
  have N3 := Fr.snoc X3 N0 g_o
  have E_3 := E_2.wr W3
  have Fn_3 := Fn_2.same W3
  have Fe_3 := Fe_2.other W3 (Or.inr (slot_ne (Or.inr (hw _ (List.mem_of_getElem? (i := 15) rfl))) (Or.inr (hw _ (List.mem_of_getElem? (i := 13) rfl))) (by decide) (t := (.array .long)) (t' := (.array .long)) (by decide) (by decide)))
  have Fa_3 := Fa_2.other W3 (Or.inr (slot_ne (Or.inr (hw _ (List.mem_of_getElem? (i := 17) rfl))) (Or.inr (hw _ (List.mem_of_getElem? (i := 13) rfl))) (by decide) (t := (.array .long)) (t' := (.array .long)) (by decide) (by decide)))
  have Fx_3 := Fx_2.other W3 (Or.inr (slot_ne (Or.inl (hw _ (List.mem_of_getElem? (i := 33) rfl))) (Or.inr (hw _ (List.mem_of_getElem? (i := 13) rfl))) (by decide) (t := .int) (t' := (.array .long)) (by decide) (by decide)))
  have Vn_3 := Vn_2.other W3 ne_n_o
  have zz3 : n0 ≤ h3.size := Nat.le_trans zz2 (Keep.of_wr W3).1
  have sz3 : h0.size ≤ h3.size := Nat.le_trans sz2 (Keep.of_wr W3).1
  obtain ⟨T4, h4, k4, X4, e4, E4, A4, st4⟩ := newP X3 hx hZ (hw _ (List.mem_of_getElem? (i := 11) rfl)) e3 (g := (mkF m 15 #[.val (.ref a1)] [(.int (8 : Int32)), (.ref a1)])) rfl (hb hby d1_15) rfl (by decide) (cap := 8) (by decide) (by decide) (by decide) (by decide)
  obtain ⟨b4, g4⟩ : ∃ z, z = h3.size := ⟨_, rfl⟩
  rw [← g4] at A4 st4
  have E_4 := E_3.ext E4
  have Fn_4 := Fn_3.ext E4
  have Fe_4 := Fe_3.ext E4
  have Fa_4 := Fa_3.ext E4
  have Fx_4 := Fx_3.ext E4
  have Vn_4 := Vn_3.ext E4
  have ne_e_o : b4 ≠ a1 := Ne.symm (Nat.ne_of_lt (Nat.lt_of_lt_of_le E_3.lt (Nat.le_of_eq g4.symm)))
  have ne_n_e : b2 ≠ b4 := Nat.ne_of_lt (Nat.lt_of_lt_of_le Vn_3.lt (Nat.le_of_eq g4.symm))
  have Ve_4 : Arv Z h4 b4 k4 .long (8 : Int32) (own_valsL own_zero 8) (.long (0 : Int64)) := (Arv.new A4 (by decide)).pad (own_padL 8)
  have zz4 : n0 ≤ h4.size := Nat.le_trans zz3 E4.1
  have sz4 : h0.size ≤ h4.size := Nat.le_trans sz3 E4.1
  have g_e : n0 ≤ b4 := Nat.le_trans zz3 (Nat.le_of_eq g4.symm)
  obtain ⟨T5, h5, X5, e5, W5, st5⟩ := putF X4 hx hZ hown (host := "") (Or.inl (hw _ (List.mem_of_getElem? (i := 14) rfl))) Via.refl e4 Fe_4 E_4 (Or.inr ⟨(hw _ (List.mem_of_getElem? (i := 15) rfl)), rfl, hnm⟩) (hw _ (List.mem_of_getElem? (i := 3) rfl)) (ty := (.array .long)) (by decide) rfl rfl (g := (mkF m 17 #[.val (.ref a1)] [(.ref b4), (.ref a1)])) rfl rfl (hb hby d1_17)
  have N5 := Fr.snoc X5 N3 g_o
  have E_5 := E_4.wr W5
  have Fn_5 := Fn_4.other W5 (Or.inr (slot_ne (Or.inr (hw _ (List.mem_of_getElem? (i := 13) rfl))) (Or.inr (hw _ (List.mem_of_getElem? (i := 15) rfl))) (by decide) (t := (.array .long)) (t' := (.array .long)) (by decide) (by decide)))
  have Fe_5 := Fe_4.same W5
  have Fa_5 := Fa_4.other W5 (Or.inr (slot_ne (Or.inr (hw _ (List.mem_of_getElem? (i := 17) rfl))) (Or.inr (hw _ (List.mem_of_getElem? (i := 15) rfl))) (by decide) (t := (.array .long)) (t' := (.array .long)) (by decide) (by decide)))
  have Fx_5 := Fx_4.other W5 (Or.inr (slot_ne (Or.inl (hw _ (List.mem_of_getElem? (i := 33) rfl))) (Or.inr (hw _ (List.mem_of_getElem? (i := 15) rfl))) (by decide) (t := .int) (t' := (.array .long)) (by decide) (by decide)))
  have Vn_5 := Vn_4.other W5 ne_n_o
  have Ve_5 := Ve_4.other W5 ne_e_o
  have zz5 : n0 ≤ h5.size := Nat.le_trans zz4 (Keep.of_wr W5).1
  have sz5 : h0.size ≤ h5.size := Nat.le_trans sz4 (Keep.of_wr W5).1
  obtain ⟨T6, h6, k6, X6, e6, E6, A6, st6⟩ := newP X5 hx hZ (hw _ (List.mem_of_getElem? (i := 11) rfl)) e5 (g := (mkF m 23 #[.val (.ref a1)] [(.int (8 : Int32)), (.ref a1)])) rfl (hb hby d1_23) rfl (by decide) (cap := 8) (by decide) (by decide) (by decide) (by decide)
  obtain ⟨b6, g6⟩ : ∃ z, z = h5.size := ⟨_, rfl⟩
  rw [← g6] at A6 st6
  have E_6 := E_5.ext E6
  have Fn_6 := Fn_5.ext E6
  have Fe_6 := Fe_5.ext E6
  have Fa_6 := Fa_5.ext E6
  have Fx_6 := Fx_5.ext E6
  have Vn_6 := Vn_5.ext E6
  have Ve_6 := Ve_5.ext E6
  have ne_a_o : b6 ≠ a1 := Ne.symm (Nat.ne_of_lt (Nat.lt_of_lt_of_le E_5.lt (Nat.le_of_eq g6.symm)))
  have ne_n_a : b2 ≠ b6 := Nat.ne_of_lt (Nat.lt_of_lt_of_le Vn_5.lt (Nat.le_of_eq g6.symm))
  have ne_e_a : b4 ≠ b6 := Nat.ne_of_lt (Nat.lt_of_lt_of_le Ve_5.lt (Nat.le_of_eq g6.symm))
  have Va_6 : Arv Z h6 b6 k6 .long (8 : Int32) (own_valsL own_zero 8) (.long (0 : Int64)) := (Arv.new A6 (by decide)).pad (own_padL 8)
  have zz6 : n0 ≤ h6.size := Nat.le_trans zz5 E6.1
  have sz6 : h0.size ≤ h6.size := Nat.le_trans sz5 E6.1
  have g_a : n0 ≤ b6 := Nat.le_trans zz5 (Nat.le_of_eq g6.symm)
  obtain ⟨T7, h7, X7, e7, W7, st7⟩ := putF X6 hx hZ hown (host := "") (Or.inl (hw _ (List.mem_of_getElem? (i := 16) rfl))) Via.refl e6 Fa_6 E_6 (Or.inr ⟨(hw _ (List.mem_of_getElem? (i := 17) rfl)), rfl, hnm⟩) (hw _ (List.mem_of_getElem? (i := 3) rfl)) (ty := (.array .long)) (by decide) rfl rfl (g := (mkF m 25 #[.val (.ref a1)] [(.ref b6), (.ref a1)])) rfl rfl (hb hby d1_25)
  have N7 := Fr.snoc X7 N5 g_o
  have E_7 := E_6.wr W7
  have Fn_7 := Fn_6.other W7 (Or.inr (slot_ne (Or.inr (hw _ (List.mem_of_getElem? (i := 13) rfl))) (Or.inr (hw _ (List.mem_of_getElem? (i := 17) rfl))) (by decide) (t := (.array .long)) (t' := (.array .long)) (by decide) (by decide)))
  have Fe_7 := Fe_6.other W7 (Or.inr (slot_ne (Or.inr (hw _ (List.mem_of_getElem? (i := 15) rfl))) (Or.inr (hw _ (List.mem_of_getElem? (i := 17) rfl))) (by decide) (t := (.array .long)) (t' := (.array .long)) (by decide) (by decide)))
  have Fa_7 := Fa_6.same W7
  have Fx_7 := Fx_6.other W7 (Or.inr (slot_ne (Or.inl (hw _ (List.mem_of_getElem? (i := 33) rfl))) (Or.inr (hw _ (List.mem_of_getElem? (i := 17) rfl))) (by decide) (t := .int) (t' := (.array .long)) (by decide) (by decide)))
  have Vn_7 := Vn_6.other W7 ne_n_o
  have Ve_7 := Ve_6.other W7 ne_e_o
  have Va_7 := Va_6.other W7 ne_a_o
  have zz7 : n0 ≤ h7.size := Nat.le_trans zz6 (Keep.of_wr W7).1
  have sz7 : h0.size ≤ h7.size := Nat.le_trans sz6 (Keep.of_wr W7).1
  obtain ⟨T8, X8, e8, st8⟩ := getF X7 hx hZ hown (host := "") (Or.inl (hw _ (List.mem_of_getElem? (i := 14) rfl))) Via.refl e7 Fe_7 (g := (mkF m 29 #[.val (.ref a1)] [(.ref a1)])) rfl rfl (hb hby d1_29)
  obtain ⟨_, _, ⟨T9, L9, k9, n9⟩, -, X9, ⟨Lc9, hQ9, l9, y9, z9⟩, st9⟩ := Jvm.LawKit.callS X8 hx (y := (⟨"java/util/Arrays", "fill", "([JJ)V"⟩ : MethodName)) hown (mvT hZ (hw _ (List.mem_of_getElem? (i := 19) rfl))) (mvT hZ (hw _ (List.mem_of_getElem? (i := 20) rfl))) (mvT hZ (hw _ (List.mem_of_getElem? (i := 21) rfl))) (mvT hZ (hw _ (List.mem_of_getElem? (i := 22) rfl))) (by decide) (backOf (W := 0) (rm3 l Z a0 hw [] b4 (-1 : Int64) k4 own_zero h7 n0 zz7 g_e Ve_7) hZ (hw _ (List.mem_of_getElem? (i := 22) rfl)) (hw _ (List.mem_of_getElem? (i := 21) rfl)) (by decide) (by decide)) (g := (mkF m 35 #[.val (.ref a1)] [(.long (-1 : Int64)), (.ref b4)])) rfl (by rw [hml]; rfl) (argsL := [(.ref b4), (.long (-1 : Int64))]) (rest := []) (lenOf pd_1_0 rfl) rfl (by show 2 * 0 + _ ≤ _; exact Nat.le_of_eq rfl) (hb hby d1_35) (fun _ _ => ⟨rfl, e8, (by decide : 3 + 0 ≤ _), (by decide : 24 + 0 ≤ _)⟩)
  dsimp only [Pt.U, Pt.locs, Pt.cells, Pt.slots] at X9 l9 y9 z9 st9 hQ9
  subst l9 y9 z9
  obtain ⟨rfl, N9q, K9, Ve_9⟩ := hQ9
  have N9 := Fr.app N7 N9q
  have E_9 := E_7.keep K9
  have Fn_9 := Fn_7.keep K9 (ninS (Ne.symm ne_e_o) nin0)
  have Fe_9 := Fe_7.keep K9 (ninS (Ne.symm ne_e_o) nin0)
  have Fa_9 := Fa_7.keep K9 (ninS (Ne.symm ne_e_o) nin0)
  have Fx_9 := Fx_7.keep K9 (ninS (Ne.symm ne_e_o) nin0)
  have Vn_9 := Vn_7.keep K9 (ninS ne_n_e nin0)
  have Va_9 := Va_7.keep K9 (ninS (Ne.symm ne_e_a) nin0)
  have sz9 : h0.size ≤ T9.heap.size := Nat.le_trans sz7 K9.1
  obtain ⟨fs, hr, hrun, hended, hW, hsame⟩ := X9.leave (v := none) (fun _ => rfl)
  refine ⟨_, _, pre0 _ ?_, hrun, hended, _, _, rfl, ?_, ⟨_, rfl⟩, hW, hsame.mono (by decide) (by decide)⟩
  · show Steps p.tables e below (s₁.setTop (mkF m 0 #[.val (.ref a1)] [])) _
    refine XS.aloadN X0.here hx rfl (hb hby d1_0) rfl rfl ?_
    show Steps p.tables e below (s₁.setTop (mkF m 1 #[.val (.ref a1)] [(.ref a1)])) _
    refine st1 _ ?_
    show Steps p.tables e below (T1.setTop (mkF m 4 #[.val (.ref a1)] [])) _
    refine XS.aloadN X1.here hx rfl (hb hby d1_4) rfl rfl ?_
    show Steps p.tables e below (T1.setTop (mkF m 5 #[.val (.ref a1)] [(.ref a1)])) _
    refine XS.bipush X1.here hx rfl (hb hby d1_5) ?_
    show Steps p.tables e below (T1.setTop (mkF m 7 #[.val (.ref a1)] [(.int (8 : Int32)), (.ref a1)])) _
    refine st2 _ ?_
    show Steps p.tables e below (T2.setTop (mkF m 9 #[.val (.ref a1)] [(.ref b2), (.ref a1)])) _
    refine st3 _ ?_
    show Steps p.tables e below (T3.setTop (mkF m 12 #[.val (.ref a1)] [])) _
    refine XS.aloadN X3.here hx rfl (hb hby d1_12) rfl rfl ?_
    show Steps p.tables e below (T3.setTop (mkF m 13 #[.val (.ref a1)] [(.ref a1)])) _
    refine XS.bipush X3.here hx rfl (hb hby d1_13) ?_
    show Steps p.tables e below (T3.setTop (mkF m 15 #[.val (.ref a1)] [(.int (8 : Int32)), (.ref a1)])) _
    refine st4 _ ?_
    show Steps p.tables e below (T4.setTop (mkF m 17 #[.val (.ref a1)] [(.ref b4), (.ref a1)])) _
    refine st5 _ ?_
    show Steps p.tables e below (T5.setTop (mkF m 20 #[.val (.ref a1)] [])) _
    refine XS.aloadN X5.here hx rfl (hb hby d1_20) rfl rfl ?_
    show Steps p.tables e below (T5.setTop (mkF m 21 #[.val (.ref a1)] [(.ref a1)])) _
    refine XS.bipush X5.here hx rfl (hb hby d1_21) ?_
    show Steps p.tables e below (T5.setTop (mkF m 23 #[.val (.ref a1)] [(.int (8 : Int32)), (.ref a1)])) _
    refine st6 _ ?_
    show Steps p.tables e below (T6.setTop (mkF m 25 #[.val (.ref a1)] [(.ref b6), (.ref a1)])) _
    refine st7 _ ?_
    show Steps p.tables e below (T7.setTop (mkF m 28 #[.val (.ref a1)] [])) _
    refine XS.aloadN X7.here hx rfl (hb hby d1_28) rfl rfl ?_
    show Steps p.tables e below (T7.setTop (mkF m 29 #[.val (.ref a1)] [(.ref a1)])) _
    refine st8 _ ?_
    show Steps p.tables e below (T8.setTop (mkF m 32 #[.val (.ref a1)] [(.ref b4)])) _
    refine X8.ldc2Long hx hown (mvT hZ (hw _ (List.mem_of_getElem? (i := 18) rfl))) (g := (mkF m 32 #[.val (.ref a1)] [(.ref b4)])) rfl (hb hby d1_32) _ ?_
    show Steps p.tables e below (T8.setTop (mkF m 35 #[.val (.ref a1)] [(.long (-1 : Int64)), (.ref b4)])) _
    refine st9 _ ?_
    show Steps p.tables e below (T9.setTop (mkF m 38 #[.val (.ref a1)] [])) _
    exact X9.returnOut hx Bd.returns (hb hby d1_38) hr
  · show Q1 Z a1 h0 n0 _ T9.heap _
    exact ⟨rfl, N9, sz9, b2, b4, b6, k2, k4, k6, E_9, Fn_9, Fe_9, Fa_9, Fx_9, Vn_9, Ve_9, Va_9, ⟨ne_n_o, ne_e_o, ne_a_o, ne_n_e, ne_n_a, ne_e_a⟩, g_o, g_n, g_e, g_a⟩
theorem pn_5 : plainName "com/example/binlens/binlens/TableMaps" = true := by first | (simp [plainName, overriddenIn]; done) | decide +kernel
theorem ef_5 (m : MethodId) (a1 : Addr) (q2 : Int64) (q3 : Int64) (q4 : Int64) : entryFrame m #[(.ref a1), (.long q2), (.long q3), (.long q4)] 7 = mkF m 0 #[.val (.ref a1), .val (.long q2), .second, .val (.long q3), .second, .val (.long q4), .second] [] := by first | (simp [entryFrame, mkF, argsToLocals, Value.category]; done) | rfl
theorem d5_0 : decode prog_182_method_8_code 0 = .ok (.aload_n 0, 1) := by decide +kernel
theorem d5_1 : decode prog_182_method_8_code 1 = .ok (.getfield 9, 3) := by decide +kernel
theorem d5_4 : decode prog_182_method_8_code 4 = .ok (.aload_n 0, 1) := by decide +kernel
theorem d5_5 : decode prog_182_method_8_code 5 = .ok (.getfield 65, 3) := by decide +kernel
theorem d5_8 : decode prog_182_method_8_code 8 = .ok (.lload_n 1, 1) := by decide +kernel
theorem d5_9 : decode prog_182_method_8_code 9 = .ok (.lastore, 1) := by decide +kernel
theorem d5_10 : decode prog_182_method_8_code 10 = .ok (.aload_n 0, 1) := by decide +kernel
theorem d5_11 : decode prog_182_method_8_code 11 = .ok (.getfield 13, 3) := by decide +kernel
theorem d5_14 : decode prog_182_method_8_code 14 = .ok (.aload_n 0, 1) := by decide +kernel
theorem d5_15 : decode prog_182_method_8_code 15 = .ok (.getfield 65, 3) := by decide +kernel
theorem d5_18 : decode prog_182_method_8_code 18 = .ok (.lload_n 3, 1) := by decide +kernel
theorem d5_19 : decode prog_182_method_8_code 19 = .ok (.lastore, 1) := by decide +kernel
theorem d5_20 : decode prog_182_method_8_code 20 = .ok (.aload_n 0, 1) := by decide +kernel
theorem d5_21 : decode prog_182_method_8_code 21 = .ok (.getfield 16, 3) := by decide +kernel
theorem d5_24 : decode prog_182_method_8_code 24 = .ok (.aload_n 0, 1) := by decide +kernel
theorem d5_25 : decode prog_182_method_8_code 25 = .ok (.getfield 65, 3) := by decide +kernel
theorem d5_28 : decode prog_182_method_8_code 28 = .ok (.lload 5, 2) := by decide +kernel
theorem d5_30 : decode prog_182_method_8_code 30 = .ok (.lastore, 1) := by decide +kernel
theorem d5_31 : decode prog_182_method_8_code 31 = .ok (.aload_n 0, 1) := by decide +kernel
theorem d5_32 : decode prog_182_method_8_code 32 = .ok (.aload_n 0, 1) := by decide +kernel
theorem d5_33 : decode prog_182_method_8_code 33 = .ok (.getfield 65, 3) := by decide +kernel
theorem d5_36 : decode prog_182_method_8_code 36 = .ok (.iconst 1, 1) := by decide +kernel
theorem d5_37 : decode prog_182_method_8_code 37 = .ok (.iadd, 1) := by decide +kernel
theorem d5_38 : decode prog_182_method_8_code 38 = .ok (.bipush 8, 2) := by decide +kernel
theorem d5_40 : decode prog_182_method_8_code 40 = .ok (.irem, 1) := by decide +kernel
theorem d5_41 : decode prog_182_method_8_code 41 = .ok (.putfield 65, 3) := by decide +kernel
theorem d5_44 : decode prog_182_method_8_code 44 = .ok (.return_, 1) := by decide +kernel
def Q5 (Z : State) (a1 : Addr) (fn fe fa : Nat → Int64) (nx : Nat) (q2 q3 q4 : Int64) (h0 : Heap) (n0 : Nat) (v : Option Value) (h : Heap) (L : List Loc) : Prop := v = none ∧ Fr n0 L ∧ h0.size ≤ h.size ∧ own_TM Z h a1 n0 (own_updL fn nx q2) (own_updL fe nx q3) (own_updL fa nx q4) ((nx + 1) % 8)
set_option maxRecDepth 65536 in
set_option maxHeartbeats 40000000 in
theorem rm5 (l : Launch) (Z : State) (a0 : Array Value) (hw : ∀ d ∈ tables_1, d.before a0 Z = true) (ws : List Jvm.Cond) (a1 : Addr) (q2 q3 q4 : Int64) (fn fe fa : Nat → Int64) (nx : Nat) (h0 : Heap) (n0 : Nat) (Z0 : n0 ≤ h0.size) (hnx : nx < 8) (TM : own_TM Z h0 a1 n0 fn fe fa nx) :
    MetFree l (⟨"com/example/binlens/binlens/TableMaps", "answered", "(JJJ)V"⟩ : MethodName) (head1 (Jvm.Cond.code (⟨"com/example/binlens/binlens/TableMaps", "answered", "(JJJ)V"⟩ : MethodName) prog_182_method_8_code 7 none :: ws) ({ frames := 0, cells := 0, slots := 0, locals := 0 } : Room)) (fun a U => a = #[(.ref a1), (.long q2), (.long q3), (.long q4)] ∧ Z.Warmed39 U.vm ∧ U.heap = h0) (fun _ _ _ _ _ => True) (fun _ U o U' => ∃ v L, o = .returned v ∧ Q5 Z a1 fn fe fa nx q2 q3 q4 h0 n0 v U'.heap L ∧ FrameEnd U o U' L ({ frames := 0, cells := 0, slots := 0, locals := 0 } : Room).cells ({ frames := 0, cells := 0, slots := 0, locals := 0 } : Room).slots) := by
  refine MetFree.of_bodySF (plainFor_of_name pn_5) hisR ?_
  intro p e s m args below meth c s₁ Bd hml0 hP hK
  obtain ⟨rfl, hZ, hh⟩ := hP
  have hx := Bd.exec
  have hby := Bd.bytes
  have hml : c.maxLocals = 7 := hml0
  have hown : s.vm.findClass "com/example/binlens/binlens/TableMaps" = some m.cls := findClass_of_methodNamed Bd.named
  have hnm := (name_of_methodNamed Bd.named Bd.method).1
  have X0 : Stand p l e ({ frames := 0, cells := 0, slots := 0, locals := 0 } : Room) s m #[(.ref a1), (.long q2), (.long q3), (.long q4)] below meth c s₁ [] 0 0 := Stand.of_body Bd
  have e0 : s₁.heap = h0 := by rw [← hh, Bd.state]; rfl
  have N0 := Fr.nil n0
  have pre0 : ∀ t, Steps p.tables e below (s₁.setTop (mkF m 0 #[.val (.ref a1), .val (.long q2), .second, .val (.long q3), .second, .val (.long q4), .second] [])) t → Steps p.tables e below (s₁.setTop (entryFrame m #[(.ref a1), (.long q2), (.long q3), (.long q4)] 7)) t := fun t k => castTop (ef_5 m a1 q2 q3 q4) k
  obtain ⟨b1, b2, b3, k1, k2, k3, E_0, Fn_0, Fe_0, Fa_0, Fx_0, Vn_0, Ve_0, Va_0, ⟨ne_n_o, ne_e_o, ne_a_o, ne_n_e, ne_n_a, ne_e_a⟩, g_o, g_n, g_e, g_a⟩ := TM
  obtain ⟨T1, X1, e1, st1⟩ := getF X0 hx hZ hown (host := "") (Or.inl (hw _ (List.mem_of_getElem? (i := 12) rfl))) Via.refl e0 Fn_0 (g := (mkF m 1 #[.val (.ref a1), .val (.long q2), .second, .val (.long q3), .second, .val (.long q4), .second] [(.ref a1)])) rfl rfl (hb hby d5_1)
  obtain ⟨T2, X2, e2, st2⟩ := getF X1 hx hZ hown (host := "") (Or.inl (hw _ (List.mem_of_getElem? (i := 32) rfl))) Via.refl e1 Fx_0 (g := (mkF m 5 #[.val (.ref a1), .val (.long q2), .second, .val (.long q3), .second, .val (.long q4), .second] [(.ref a1), (.ref b1)])) rfl rfl (hb hby d5_5)
  obtain ⟨cl3, Ar3, q3_, S3, M3, H3, G3⟩ := Vn_0
  have hin3 : ¬ ((Int32.ofNat nx) < 0 ∨ cl3.slots.size ≤ (Int32.ofNat nx).toNatClampNeg) := by
    rw [show cl3.slots.size = 8 from S3, own_n32 (by omega)]
    exact fun q => q.elim (own_nn (by omega)) (fun q => by omega)
  obtain ⟨T3, h3, X3, e3, W3, st3⟩ := stJ X2 hx hZ e2 Ar3 (j := (Int32.ofNat nx)) hin3 (g := (mkF m 9 #[.val (.ref a1), .val (.long q2), .second, .val (.long q3), .second, .val (.long q4), .second] [(.long q2), (.int (Int32.ofNat nx)), (.ref b1)])) rfl rfl (hb hby d5_9)
  have N3 := Fr.snoc X3 N0 g_n
  have E_3 := E_0.wr W3
  have Fn_3 := Fn_0.other W3 (Or.inl (Ne.symm ne_n_o))
  have Fe_3 := Fe_0.other W3 (Or.inl (Ne.symm ne_n_o))
  have Fa_3 := Fa_0.other W3 (Or.inl (Ne.symm ne_n_o))
  have Fx_3 := Fx_0.other W3 (Or.inl (Ne.symm ne_n_o))
  have Ve_3 := Ve_0.other W3 (Ne.symm ne_n_e)
  have Va_3 := Va_0.other W3 (Ne.symm ne_n_a)
  have Vn_3 := Arv.set Ar3 q3_ S3 M3 H3 G3 rfl W3 nx (own_n32 (by omega)) (by rw [own_lenL]; omega)
  rw [own_setL] at Vn_3
  obtain ⟨T4, X4, e4, st4⟩ := getF X3 hx hZ hown (host := "") (Or.inl (hw _ (List.mem_of_getElem? (i := 14) rfl))) Via.refl e3 Fe_3 (g := (mkF m 11 #[.val (.ref a1), .val (.long q2), .second, .val (.long q3), .second, .val (.long q4), .second] [(.ref a1)])) rfl rfl (hb hby d5_11)
  obtain ⟨T5, X5, e5, st5⟩ := getF X4 hx hZ hown (host := "") (Or.inl (hw _ (List.mem_of_getElem? (i := 32) rfl))) Via.refl e4 Fx_3 (g := (mkF m 15 #[.val (.ref a1), .val (.long q2), .second, .val (.long q3), .second, .val (.long q4), .second] [(.ref a1), (.ref b2)])) rfl rfl (hb hby d5_15)
  obtain ⟨cl6, Ar6, q6_, S6, M6, H6, G6⟩ := Ve_3
  have hin6 : ¬ ((Int32.ofNat nx) < 0 ∨ cl6.slots.size ≤ (Int32.ofNat nx).toNatClampNeg) := by
    rw [show cl6.slots.size = 8 from S6, own_n32 (by omega)]
    exact fun q => q.elim (own_nn (by omega)) (fun q => by omega)
  obtain ⟨T6, h6, X6, e6, W6, st6⟩ := stJ X5 hx hZ e5 Ar6 (j := (Int32.ofNat nx)) hin6 (g := (mkF m 19 #[.val (.ref a1), .val (.long q2), .second, .val (.long q3), .second, .val (.long q4), .second] [(.long q3), (.int (Int32.ofNat nx)), (.ref b2)])) rfl rfl (hb hby d5_19)
  have N6 := Fr.snoc X6 N3 g_e
  have E_6 := E_3.wr W6
  have Fn_6 := Fn_3.other W6 (Or.inl (Ne.symm ne_e_o))
  have Fe_6 := Fe_3.other W6 (Or.inl (Ne.symm ne_e_o))
  have Fa_6 := Fa_3.other W6 (Or.inl (Ne.symm ne_e_o))
  have Fx_6 := Fx_3.other W6 (Or.inl (Ne.symm ne_e_o))
  have Vn_6 := Vn_3.other W6 ne_n_e
  have Va_6 := Va_3.other W6 (Ne.symm ne_e_a)
  have Ve_6 := Arv.set Ar6 q6_ S6 M6 H6 G6 rfl W6 nx (own_n32 (by omega)) (by rw [own_lenL]; omega)
  rw [own_setL] at Ve_6
  obtain ⟨T7, X7, e7, st7⟩ := getF X6 hx hZ hown (host := "") (Or.inl (hw _ (List.mem_of_getElem? (i := 16) rfl))) Via.refl e6 Fa_6 (g := (mkF m 21 #[.val (.ref a1), .val (.long q2), .second, .val (.long q3), .second, .val (.long q4), .second] [(.ref a1)])) rfl rfl (hb hby d5_21)
  obtain ⟨T8, X8, e8, st8⟩ := getF X7 hx hZ hown (host := "") (Or.inl (hw _ (List.mem_of_getElem? (i := 32) rfl))) Via.refl e7 Fx_6 (g := (mkF m 25 #[.val (.ref a1), .val (.long q2), .second, .val (.long q3), .second, .val (.long q4), .second] [(.ref a1), (.ref b3)])) rfl rfl (hb hby d5_25)
  obtain ⟨cl9, Ar9, q9_, S9, M9, H9, G9⟩ := Va_6
  have hin9 : ¬ ((Int32.ofNat nx) < 0 ∨ cl9.slots.size ≤ (Int32.ofNat nx).toNatClampNeg) := by
    rw [show cl9.slots.size = 8 from S9, own_n32 (by omega)]
    exact fun q => q.elim (own_nn (by omega)) (fun q => by omega)
  obtain ⟨T9, h9, X9, e9, W9, st9⟩ := stJ X8 hx hZ e8 Ar9 (j := (Int32.ofNat nx)) hin9 (g := (mkF m 30 #[.val (.ref a1), .val (.long q2), .second, .val (.long q3), .second, .val (.long q4), .second] [(.long q4), (.int (Int32.ofNat nx)), (.ref b3)])) rfl rfl (hb hby d5_30)
  have N9 := Fr.snoc X9 N6 g_a
  have E_9 := E_6.wr W9
  have Fn_9 := Fn_6.other W9 (Or.inl (Ne.symm ne_a_o))
  have Fe_9 := Fe_6.other W9 (Or.inl (Ne.symm ne_a_o))
  have Fa_9 := Fa_6.other W9 (Or.inl (Ne.symm ne_a_o))
  have Fx_9 := Fx_6.other W9 (Or.inl (Ne.symm ne_a_o))
  have Vn_9 := Vn_6.other W9 ne_n_a
  have Ve_9 := Ve_6.other W9 ne_e_a
  have Va_9 := Arv.set Ar9 q9_ S9 M9 H9 G9 rfl W9 nx (own_n32 (by omega)) (by rw [own_lenL]; omega)
  rw [own_setL] at Va_9
  obtain ⟨T10, X10, e10, st10⟩ := getF X9 hx hZ hown (host := "") (Or.inl (hw _ (List.mem_of_getElem? (i := 32) rfl))) Via.refl e9 Fx_9 (g := (mkF m 33 #[.val (.ref a1), .val (.long q2), .second, .val (.long q3), .second, .val (.long q4), .second] [(.ref a1), (.ref a1)])) rfl rfl (hb hby d5_33)
  obtain ⟨T11, h11, X11, e11, W11, st11⟩ := putF X10 hx hZ hown (host := "") (Or.inl (hw _ (List.mem_of_getElem? (i := 32) rfl))) Via.refl e10 Fx_9 E_9 (Or.inl (hw _ (List.mem_of_getElem? (i := 33) rfl))) (hw _ (List.mem_of_getElem? (i := 3) rfl)) (ty := .int) (by decide) rfl rfl (g := (mkF m 41 #[.val (.ref a1), .val (.long q2), .second, .val (.long q3), .second, .val (.long q4), .second] [(.int (((Int32.ofNat nx) + (1 : Int32)) % (8 : Int32))), (.ref a1)])) rfl rfl (hb hby d5_41)
  have N11 := Fr.snoc X11 N9 g_o
  have E_11 := E_9.wr W11
  have Fn_11 := Fn_9.other W11 (Or.inr (slot_ne (Or.inr (hw _ (List.mem_of_getElem? (i := 13) rfl))) (Or.inl (hw _ (List.mem_of_getElem? (i := 33) rfl))) (by decide) (t := (.array .long)) (t' := .int) (by decide) (by decide)))
  have Fe_11 := Fe_9.other W11 (Or.inr (slot_ne (Or.inr (hw _ (List.mem_of_getElem? (i := 15) rfl))) (Or.inl (hw _ (List.mem_of_getElem? (i := 33) rfl))) (by decide) (t := (.array .long)) (t' := .int) (by decide) (by decide)))
  have Fa_11 := Fa_9.other W11 (Or.inr (slot_ne (Or.inr (hw _ (List.mem_of_getElem? (i := 17) rfl))) (Or.inl (hw _ (List.mem_of_getElem? (i := 33) rfl))) (by decide) (t := (.array .long)) (t' := .int) (by decide) (by decide)))
  have Fx_11 := Fx_9.same W11
  have Vn_11 := Vn_9.other W11 ne_n_o
  have Ve_11 := Ve_9.other W11 ne_e_o
  have Va_11 := Va_9.other W11 ne_a_o
  rw [own_nx hnx] at Fx_11
  have sz : h0.size ≤ h11.size := Nat.le_trans (Nat.le_trans (Nat.le_trans (Keep.of_wr W3).1 (Keep.of_wr W6).1) (Keep.of_wr W9).1) (Keep.of_wr W11).1
  obtain ⟨fs, hr, hrun, hended, hW, hsame⟩ := X11.leave (v := none) (fun _ => rfl)
  refine ⟨_, _, pre0 _ ?_, hrun, hended, _, _, rfl, ?_, ⟨_, rfl⟩, hW, hsame.mono (by decide) (by decide)⟩
  · show Steps p.tables e below (s₁.setTop (mkF m 0 #[.val (.ref a1), .val (.long q2), .second, .val (.long q3), .second, .val (.long q4), .second] [])) _
    refine XS.aloadN X0.here hx rfl (hb hby d5_0) rfl rfl ?_
    show Steps p.tables e below (s₁.setTop (mkF m 1 #[.val (.ref a1), .val (.long q2), .second, .val (.long q3), .second, .val (.long q4), .second] [(.ref a1)])) _
    refine st1 _ ?_
    show Steps p.tables e below (T1.setTop (mkF m 4 #[.val (.ref a1), .val (.long q2), .second, .val (.long q3), .second, .val (.long q4), .second] [(.ref b1)])) _
    refine XS.aloadN X1.here hx rfl (hb hby d5_4) rfl rfl ?_
    show Steps p.tables e below (T1.setTop (mkF m 5 #[.val (.ref a1), .val (.long q2), .second, .val (.long q3), .second, .val (.long q4), .second] [(.ref a1), (.ref b1)])) _
    refine st2 _ ?_
    show Steps p.tables e below (T2.setTop (mkF m 8 #[.val (.ref a1), .val (.long q2), .second, .val (.long q3), .second, .val (.long q4), .second] [(.int (Int32.ofNat nx)), (.ref b1)])) _
    refine XS.lloadN X2.here hx rfl (hb hby d5_8) rfl ?_
    show Steps p.tables e below (T2.setTop (mkF m 9 #[.val (.ref a1), .val (.long q2), .second, .val (.long q3), .second, .val (.long q4), .second] [(.long q2), (.int (Int32.ofNat nx)), (.ref b1)])) _
    refine st3 _ ?_
    show Steps p.tables e below (T3.setTop (mkF m 10 #[.val (.ref a1), .val (.long q2), .second, .val (.long q3), .second, .val (.long q4), .second] [])) _
    refine XS.aloadN X3.here hx rfl (hb hby d5_10) rfl rfl ?_
    show Steps p.tables e below (T3.setTop (mkF m 11 #[.val (.ref a1), .val (.long q2), .second, .val (.long q3), .second, .val (.long q4), .second] [(.ref a1)])) _
    refine st4 _ ?_
    show Steps p.tables e below (T4.setTop (mkF m 14 #[.val (.ref a1), .val (.long q2), .second, .val (.long q3), .second, .val (.long q4), .second] [(.ref b2)])) _
    refine XS.aloadN X4.here hx rfl (hb hby d5_14) rfl rfl ?_
    show Steps p.tables e below (T4.setTop (mkF m 15 #[.val (.ref a1), .val (.long q2), .second, .val (.long q3), .second, .val (.long q4), .second] [(.ref a1), (.ref b2)])) _
    refine st5 _ ?_
    show Steps p.tables e below (T5.setTop (mkF m 18 #[.val (.ref a1), .val (.long q2), .second, .val (.long q3), .second, .val (.long q4), .second] [(.int (Int32.ofNat nx)), (.ref b2)])) _
    refine XS.lloadN X5.here hx rfl (hb hby d5_18) rfl ?_
    show Steps p.tables e below (T5.setTop (mkF m 19 #[.val (.ref a1), .val (.long q2), .second, .val (.long q3), .second, .val (.long q4), .second] [(.long q3), (.int (Int32.ofNat nx)), (.ref b2)])) _
    refine st6 _ ?_
    show Steps p.tables e below (T6.setTop (mkF m 20 #[.val (.ref a1), .val (.long q2), .second, .val (.long q3), .second, .val (.long q4), .second] [])) _
    refine XS.aloadN X6.here hx rfl (hb hby d5_20) rfl rfl ?_
    show Steps p.tables e below (T6.setTop (mkF m 21 #[.val (.ref a1), .val (.long q2), .second, .val (.long q3), .second, .val (.long q4), .second] [(.ref a1)])) _
    refine st7 _ ?_
    show Steps p.tables e below (T7.setTop (mkF m 24 #[.val (.ref a1), .val (.long q2), .second, .val (.long q3), .second, .val (.long q4), .second] [(.ref b3)])) _
    refine XS.aloadN X7.here hx rfl (hb hby d5_24) rfl rfl ?_
    show Steps p.tables e below (T7.setTop (mkF m 25 #[.val (.ref a1), .val (.long q2), .second, .val (.long q3), .second, .val (.long q4), .second] [(.ref a1), (.ref b3)])) _
    refine st8 _ ?_
    show Steps p.tables e below (T8.setTop (mkF m 28 #[.val (.ref a1), .val (.long q2), .second, .val (.long q3), .second, .val (.long q4), .second] [(.int (Int32.ofNat nx)), (.ref b3)])) _
    refine XS.lload X8.here hx rfl (hb hby d5_28) rfl ?_
    show Steps p.tables e below (T8.setTop (mkF m 30 #[.val (.ref a1), .val (.long q2), .second, .val (.long q3), .second, .val (.long q4), .second] [(.long q4), (.int (Int32.ofNat nx)), (.ref b3)])) _
    refine st9 _ ?_
    show Steps p.tables e below (T9.setTop (mkF m 31 #[.val (.ref a1), .val (.long q2), .second, .val (.long q3), .second, .val (.long q4), .second] [])) _
    refine XS.aloadN X9.here hx rfl (hb hby d5_31) rfl rfl ?_
    show Steps p.tables e below (T9.setTop (mkF m 32 #[.val (.ref a1), .val (.long q2), .second, .val (.long q3), .second, .val (.long q4), .second] [(.ref a1)])) _
    refine XS.aloadN X9.here hx rfl (hb hby d5_32) rfl rfl ?_
    show Steps p.tables e below (T9.setTop (mkF m 33 #[.val (.ref a1), .val (.long q2), .second, .val (.long q3), .second, .val (.long q4), .second] [(.ref a1), (.ref a1)])) _
    refine st10 _ ?_
    show Steps p.tables e below (T10.setTop (mkF m 36 #[.val (.ref a1), .val (.long q2), .second, .val (.long q3), .second, .val (.long q4), .second] [(.int (Int32.ofNat nx)), (.ref a1)])) _
    refine XS.iconst X10.here hx rfl (hb hby d5_36) ?_
    show Steps p.tables e below (T10.setTop (mkF m 37 #[.val (.ref a1), .val (.long q2), .second, .val (.long q3), .second, .val (.long q4), .second] [(.int (1 : Int32)), (.int (Int32.ofNat nx)), (.ref a1)])) _
    refine XS.iadd X10.here hx rfl (hb hby d5_37) rfl ?_
    show Steps p.tables e below (T10.setTop (mkF m 38 #[.val (.ref a1), .val (.long q2), .second, .val (.long q3), .second, .val (.long q4), .second] [(.int ((Int32.ofNat nx) + (1 : Int32))), (.ref a1)])) _
    refine XS.bipush X10.here hx rfl (hb hby d5_38) ?_
    show Steps p.tables e below (T10.setTop (mkF m 40 #[.val (.ref a1), .val (.long q2), .second, .val (.long q3), .second, .val (.long q4), .second] [(.int (8 : Int32)), (.int ((Int32.ofNat nx) + (1 : Int32))), (.ref a1)])) _
    refine iremM (g := (mkF m 40 #[.val (.ref a1), .val (.long q2), .second, .val (.long q3), .second, .val (.long q4), .second] [(.int (8 : Int32)), (.int ((Int32.ofNat nx) + (1 : Int32))), (.ref a1)])) X10 hx rfl (hb hby d5_40) rfl (by decide) ?_
    show Steps p.tables e below (T10.setTop (mkF m 41 #[.val (.ref a1), .val (.long q2), .second, .val (.long q3), .second, .val (.long q4), .second] [(.int (((Int32.ofNat nx) + (1 : Int32)) % (8 : Int32))), (.ref a1)])) _
    refine st11 _ ?_
    show Steps p.tables e below (T11.setTop (mkF m 44 #[.val (.ref a1), .val (.long q2), .second, .val (.long q3), .second, .val (.long q4), .second] [])) _
    exact X11.returnOut hx Bd.returns (hb hby d5_44) hr
  · show Q5 Z a1 fn fe fa nx q2 q3 q4 h0 n0 _ T11.heap _
    rw [e11]
    exact ⟨rfl, N11, sz, b1, b2, b3, k1, k2, k3, E_11, Fn_11, Fe_11, Fa_11, Fx_11, Vn_11, Ve_11, Va_11, ⟨ne_n_o, ne_e_o, ne_a_o, ne_n_e, ne_n_a, ne_e_a⟩, g_o, g_n, g_e, g_a⟩
theorem pn_4 : plainName "com/example/binlens/binlens/TableMapsAnswerPinLaw" = true := by first | (simp [plainName, overriddenIn]; done) | decide +kernel
theorem ef_4 (m : MethodId) (a1 : Addr) (q2 : Int64) (q3 : Int64) (q4 : Int64) (p5 : Int32) : entryFrame m #[(.ref a1), (.long q2), (.long q3), (.long q4), (.int p5)] 8 = mkF m 0 #[.val (.ref a1), .val (.long q2), .second, .val (.long q3), .second, .val (.long q4), .second, .val (.int p5)] [] := by first | (simp [entryFrame, mkF, argsToLocals, Value.category]; done) | rfl
theorem d4_0 : decode method_2_code 0 = .ok (.aload_n 0, 1) := by decide +kernel
theorem d4_1 : decode method_2_code 1 = .ok (.lload_n 1, 1) := by decide +kernel
theorem d4_2 : decode method_2_code 2 = .ok (.iload 7, 2) := by decide +kernel
theorem d4_4 : decode method_2_code 4 = .ok (.iconst 1, 1) := by decide +kernel
theorem d4_5 : decode method_2_code 5 = .ok (.ishr, 1) := by decide +kernel
theorem d4_6 : decode method_2_code 6 = .ok (.i2l, 1) := by decide +kernel
theorem d4_7 : decode method_2_code 7 = .ok (.ladd, 1) := by decide +kernel
theorem d4_8 : decode method_2_code 8 = .ok (.lload_n 3, 1) := by decide +kernel
theorem d4_9 : decode method_2_code 9 = .ok (.iload 7, 2) := by decide +kernel
theorem d4_11 : decode method_2_code 11 = .ok (.iconst 1, 1) := by decide +kernel
theorem d4_12 : decode method_2_code 12 = .ok (.iand, 1) := by decide +kernel
theorem d4_13 : decode method_2_code 13 = .ok (.i2l, 1) := by decide +kernel
theorem d4_14 : decode method_2_code 14 = .ok (.ladd, 1) := by decide +kernel
theorem d4_15 : decode method_2_code 15 = .ok (.lload 5, 2) := by decide +kernel
theorem d4_17 : decode method_2_code 17 = .ok (.iload 7, 2) := by decide +kernel
theorem d4_19 : decode method_2_code 19 = .ok (.i2l, 1) := by decide +kernel
theorem d4_20 : decode method_2_code 20 = .ok (.ladd, 1) := by decide +kernel
theorem d4_21 : decode method_2_code 21 = .ok (.invokevirtual 7, 3) := by decide +kernel
theorem d4_24 : decode method_2_code 24 = .ok (.return_, 1) := by decide +kernel
theorem pd_4_0 : parseMethodDescriptor "(JJJ)V" = some ⟨[.long, .long, .long], none⟩ := by decide +kernel
def Q4 (Z : State) (a1 : Addr) (fn fe fa : Nat → Int64) (nx : Nat) (q2 q3 q4 : Int64) (p5 : Int32) (h0 : Heap) (n0 : Nat) (v : Option Value) (h : Heap) (L : List Loc) : Prop := v = none ∧ Fr n0 L ∧ h0.size ≤ h.size ∧ own_TM Z h a1 n0 (own_updL fn nx (q2 + ((p5 >>> ((1 : Int32) &&& 31)).toInt64))) (own_updL fe nx (q3 + ((p5 &&& (1 : Int32)).toInt64))) (own_updL fa nx (q4 + (p5.toInt64))) ((nx + 1) % 8)
set_option maxRecDepth 65536 in
set_option maxHeartbeats 40000000 in
theorem rm4 (l : Launch) (Z : State) (a0 : Array Value) (hw : ∀ d ∈ tables_1, d.before a0 Z = true) (ws : List Jvm.Cond) (a1 : Addr) (q2 q3 q4 : Int64) (p5 : Int32) (fn fe fa : Nat → Int64) (nx : Nat) (h0 : Heap) (n0 : Nat) (Z0 : n0 ≤ h0.size) (hnx : nx < 8) (TM : own_TM Z h0 a1 n0 fn fe fa nx) :
    MetFree l (⟨"com/example/binlens/binlens/TableMapsAnswerPinLaw", "put", "(Lcom/example/binlens/binlens/TableMaps;JJJI)V"⟩ : MethodName) (head1 (Jvm.Cond.code (⟨"com/example/binlens/binlens/TableMapsAnswerPinLaw", "put", "(Lcom/example/binlens/binlens/TableMaps;JJJI)V"⟩ : MethodName) method_2_code 8 none :: ws) ({ frames := 1, cells := 0, slots := 0, locals := 18 } : Room)) (fun a U => a = #[(.ref a1), (.long q2), (.long q3), (.long q4), (.int p5)] ∧ Z.Warmed39 U.vm ∧ U.heap = h0) (fun _ _ _ _ _ => True) (fun _ U o U' => ∃ v L, o = .returned v ∧ Q4 Z a1 fn fe fa nx q2 q3 q4 p5 h0 n0 v U'.heap L ∧ FrameEnd U o U' L ({ frames := 1, cells := 0, slots := 0, locals := 18 } : Room).cells ({ frames := 1, cells := 0, slots := 0, locals := 18 } : Room).slots) := by
  refine MetFree.of_bodySF (plainFor_of_name pn_4) hisR ?_
  intro p e s m args below meth c s₁ Bd hml0 hP hK
  obtain ⟨rfl, hZ, hh⟩ := hP
  have hx := Bd.exec
  have hby := Bd.bytes
  have hml : c.maxLocals = 8 := hml0
  have hown : s.vm.findClass "com/example/binlens/binlens/TableMapsAnswerPinLaw" = some m.cls := findClass_of_methodNamed Bd.named
  have hnm := (name_of_methodNamed Bd.named Bd.method).1
  have X0 : Stand p l e ({ frames := 1, cells := 0, slots := 0, locals := 18 } : Room) s m #[(.ref a1), (.long q2), (.long q3), (.long q4), (.int p5)] below meth c s₁ [] 0 0 := Stand.of_body Bd
  have e0 : s₁.heap = h0 := by rw [← hh, Bd.state]; rfl
  have N0 := Fr.nil n0
  have pre0 : ∀ t, Steps p.tables e below (s₁.setTop (mkF m 0 #[.val (.ref a1), .val (.long q2), .second, .val (.long q3), .second, .val (.long q4), .second, .val (.int p5)] [])) t → Steps p.tables e below (s₁.setTop (entryFrame m #[(.ref a1), (.long q2), (.long q3), (.long q4), (.int p5)] 8)) t := fun t k => castTop (ef_4 m a1 q2 q3 q4 p5) k
  have TM' := TM
  obtain ⟨b1, b2, b3, k1, k2, k3, E_0, Fn_0, Fe_0, Fa_0, Fx_0, Vn_0, Ve_0, Va_0, ⟨ne_n_o, ne_e_o, ne_a_o, ne_n_e, ne_n_a, ne_e_a⟩, g_o, g_n, g_e, g_a⟩ := TM'
  obtain ⟨cq1, kq1, q1a, q1b, q1c⟩ := isOf hZ e0 E_0
  obtain ⟨_, _, ⟨T1, L1, k1, n1⟩, -, X1, ⟨Lc1, hQ1, l1, y1, z1⟩, st1⟩ := X0.virtualBack hx (y := (⟨"com/example/binlens/binlens/TableMaps", "answered", "(JJJ)V"⟩ : MethodName)) (z := (⟨"com/example/binlens/binlens/TableMaps", "answered", "(JJJ)V"⟩ : MethodName)) hown (mvT hZ (hw _ (List.mem_of_getElem? (i := 27) rfl))) (mvT hZ (hw _ (List.mem_of_getElem? (i := 28) rfl))) (notFace_of_selects (args := #[]) (mvT hZ (hw _ (List.mem_of_getElem? (i := 30) rfl)))) (mvT hZ (hw _ (List.mem_of_getElem? (i := 30) rfl))) (mvT hZ (hw _ (List.mem_of_getElem? (i := 29) rfl))) (by decide) (backOf (W := 0) (rm5 l Z a0 hw [] a1 (q2 + ((p5 >>> ((1 : Int32) &&& 31)).toInt64)) (q3 + ((p5 &&& (1 : Int32)).toInt64)) (q4 + (p5.toInt64)) fn fe fa nx h0 n0 Z0 hnx TM) hZ (hw _ (List.mem_of_getElem? (i := 31) rfl)) (hw _ (List.mem_of_getElem? (i := 4) rfl)) (by decide) (by decide)) q1a q1c (g := (mkF m 21 #[.val (.ref a1), .val (.long q2), .second, .val (.long q3), .second, .val (.long q4), .second, .val (.int p5)] [(.long (q4 + (p5.toInt64))), (.long (q3 + ((p5 &&& (1 : Int32)).toInt64))), (.long (q2 + ((p5 >>> ((1 : Int32) &&& 31)).toInt64))), (.ref a1)])) rfl (by rw [hml]; rfl) (Steps.refl _) (argsL := [(.long (q2 + ((p5 >>> ((1 : Int32) &&& 31)).toInt64))), (.long (q3 + ((p5 &&& (1 : Int32)).toInt64))), (.long (q4 + (p5.toInt64)))]) (rest := []) (lenOf pd_4_0 rfl) rfl (by show 2 * 0 + _ ≤ _; exact Nat.le_of_eq rfl) (hb hby d4_21) (fun _ _ => ⟨rfl, e0, (by decide : 0 + 0 ≤ _), (by decide : 0 + 0 ≤ _)⟩)
  dsimp only [Pt.U, Pt.locs, Pt.cells, Pt.slots] at X1 l1 y1 z1 st1 hQ1
  subst l1 y1 z1
  obtain ⟨rfl, N1q, sz1, TM1⟩ := hQ1
  have N1 := Fr.app N0 N1q
  obtain ⟨fs, hr, hrun, hended, hW, hsame⟩ := X1.leave (v := none) (fun _ => rfl)
  refine ⟨_, _, pre0 _ ?_, hrun, hended, _, _, rfl, ?_, ⟨_, rfl⟩, hW, hsame.mono (by decide) (by decide)⟩
  · show Steps p.tables e below (s₁.setTop (mkF m 0 #[.val (.ref a1), .val (.long q2), .second, .val (.long q3), .second, .val (.long q4), .second, .val (.int p5)] [])) _
    refine XS.aloadN X0.here hx rfl (hb hby d4_0) rfl rfl ?_
    show Steps p.tables e below (s₁.setTop (mkF m 1 #[.val (.ref a1), .val (.long q2), .second, .val (.long q3), .second, .val (.long q4), .second, .val (.int p5)] [(.ref a1)])) _
    refine XS.lloadN X0.here hx rfl (hb hby d4_1) rfl ?_
    show Steps p.tables e below (s₁.setTop (mkF m 2 #[.val (.ref a1), .val (.long q2), .second, .val (.long q3), .second, .val (.long q4), .second, .val (.int p5)] [(.long q2), (.ref a1)])) _
    refine XS.iload X0.here hx rfl (hb hby d4_2) rfl ?_
    show Steps p.tables e below (s₁.setTop (mkF m 4 #[.val (.ref a1), .val (.long q2), .second, .val (.long q3), .second, .val (.long q4), .second, .val (.int p5)] [(.int p5), (.long q2), (.ref a1)])) _
    refine XS.iconst X0.here hx rfl (hb hby d4_4) ?_
    show Steps p.tables e below (s₁.setTop (mkF m 5 #[.val (.ref a1), .val (.long q2), .second, .val (.long q3), .second, .val (.long q4), .second, .val (.int p5)] [(.int (1 : Int32)), (.int p5), (.long q2), (.ref a1)])) _
    refine XS.ishr X0.here hx rfl (hb hby d4_5) rfl ?_
    show Steps p.tables e below (s₁.setTop (mkF m 6 #[.val (.ref a1), .val (.long q2), .second, .val (.long q3), .second, .val (.long q4), .second, .val (.int p5)] [(.int (p5 >>> ((1 : Int32) &&& 31))), (.long q2), (.ref a1)])) _
    refine XS.i2l X0.here hx rfl (hb hby d4_6) rfl ?_
    show Steps p.tables e below (s₁.setTop (mkF m 7 #[.val (.ref a1), .val (.long q2), .second, .val (.long q3), .second, .val (.long q4), .second, .val (.int p5)] [(.long ((p5 >>> ((1 : Int32) &&& 31)).toInt64)), (.long q2), (.ref a1)])) _
    refine XS.ladd X0.here hx rfl (hb hby d4_7) rfl ?_
    show Steps p.tables e below (s₁.setTop (mkF m 8 #[.val (.ref a1), .val (.long q2), .second, .val (.long q3), .second, .val (.long q4), .second, .val (.int p5)] [(.long (q2 + ((p5 >>> ((1 : Int32) &&& 31)).toInt64))), (.ref a1)])) _
    refine XS.lloadN X0.here hx rfl (hb hby d4_8) rfl ?_
    show Steps p.tables e below (s₁.setTop (mkF m 9 #[.val (.ref a1), .val (.long q2), .second, .val (.long q3), .second, .val (.long q4), .second, .val (.int p5)] [(.long q3), (.long (q2 + ((p5 >>> ((1 : Int32) &&& 31)).toInt64))), (.ref a1)])) _
    refine XS.iload X0.here hx rfl (hb hby d4_9) rfl ?_
    show Steps p.tables e below (s₁.setTop (mkF m 11 #[.val (.ref a1), .val (.long q2), .second, .val (.long q3), .second, .val (.long q4), .second, .val (.int p5)] [(.int p5), (.long q3), (.long (q2 + ((p5 >>> ((1 : Int32) &&& 31)).toInt64))), (.ref a1)])) _
    refine XS.iconst X0.here hx rfl (hb hby d4_11) ?_
    show Steps p.tables e below (s₁.setTop (mkF m 12 #[.val (.ref a1), .val (.long q2), .second, .val (.long q3), .second, .val (.long q4), .second, .val (.int p5)] [(.int (1 : Int32)), (.int p5), (.long q3), (.long (q2 + ((p5 >>> ((1 : Int32) &&& 31)).toInt64))), (.ref a1)])) _
    refine XS.iand X0.here hx rfl (hb hby d4_12) rfl ?_
    show Steps p.tables e below (s₁.setTop (mkF m 13 #[.val (.ref a1), .val (.long q2), .second, .val (.long q3), .second, .val (.long q4), .second, .val (.int p5)] [(.int (p5 &&& (1 : Int32))), (.long q3), (.long (q2 + ((p5 >>> ((1 : Int32) &&& 31)).toInt64))), (.ref a1)])) _
    refine XS.i2l X0.here hx rfl (hb hby d4_13) rfl ?_
    show Steps p.tables e below (s₁.setTop (mkF m 14 #[.val (.ref a1), .val (.long q2), .second, .val (.long q3), .second, .val (.long q4), .second, .val (.int p5)] [(.long ((p5 &&& (1 : Int32)).toInt64)), (.long q3), (.long (q2 + ((p5 >>> ((1 : Int32) &&& 31)).toInt64))), (.ref a1)])) _
    refine XS.ladd X0.here hx rfl (hb hby d4_14) rfl ?_
    show Steps p.tables e below (s₁.setTop (mkF m 15 #[.val (.ref a1), .val (.long q2), .second, .val (.long q3), .second, .val (.long q4), .second, .val (.int p5)] [(.long (q3 + ((p5 &&& (1 : Int32)).toInt64))), (.long (q2 + ((p5 >>> ((1 : Int32) &&& 31)).toInt64))), (.ref a1)])) _
    refine XS.lload X0.here hx rfl (hb hby d4_15) rfl ?_
    show Steps p.tables e below (s₁.setTop (mkF m 17 #[.val (.ref a1), .val (.long q2), .second, .val (.long q3), .second, .val (.long q4), .second, .val (.int p5)] [(.long q4), (.long (q3 + ((p5 &&& (1 : Int32)).toInt64))), (.long (q2 + ((p5 >>> ((1 : Int32) &&& 31)).toInt64))), (.ref a1)])) _
    refine XS.iload X0.here hx rfl (hb hby d4_17) rfl ?_
    show Steps p.tables e below (s₁.setTop (mkF m 19 #[.val (.ref a1), .val (.long q2), .second, .val (.long q3), .second, .val (.long q4), .second, .val (.int p5)] [(.int p5), (.long q4), (.long (q3 + ((p5 &&& (1 : Int32)).toInt64))), (.long (q2 + ((p5 >>> ((1 : Int32) &&& 31)).toInt64))), (.ref a1)])) _
    refine XS.i2l X0.here hx rfl (hb hby d4_19) rfl ?_
    show Steps p.tables e below (s₁.setTop (mkF m 20 #[.val (.ref a1), .val (.long q2), .second, .val (.long q3), .second, .val (.long q4), .second, .val (.int p5)] [(.long (p5.toInt64)), (.long q4), (.long (q3 + ((p5 &&& (1 : Int32)).toInt64))), (.long (q2 + ((p5 >>> ((1 : Int32) &&& 31)).toInt64))), (.ref a1)])) _
    refine XS.ladd X0.here hx rfl (hb hby d4_20) rfl ?_
    show Steps p.tables e below (s₁.setTop (mkF m 21 #[.val (.ref a1), .val (.long q2), .second, .val (.long q3), .second, .val (.long q4), .second, .val (.int p5)] [(.long (q4 + (p5.toInt64))), (.long (q3 + ((p5 &&& (1 : Int32)).toInt64))), (.long (q2 + ((p5 >>> ((1 : Int32) &&& 31)).toInt64))), (.ref a1)])) _
    refine st1.trans ?_
    show Steps p.tables e below (T1.setTop (mkF m 24 #[.val (.ref a1), .val (.long q2), .second, .val (.long q3), .second, .val (.long q4), .second, .val (.int p5)] [])) _
    exact X1.returnOut hx Bd.returns (hb hby d4_24) hr
  · show Q4 Z a1 fn fe fa nx q2 q3 q4 p5 h0 n0 _ T1.heap _
    exact ⟨rfl, N1, sz1, TM1⟩
theorem pn_6 : plainName "com/example/binlens/binlens/TableMaps" = true := by first | (simp [plainName, overriddenIn]; done) | decide +kernel
theorem ef_6 (m : MethodId) (a1 : Addr) (q2 : Int64) (q3 : Int64) : entryFrame m #[(.ref a1), (.long q2), (.long q3)] 6 = mkF m 0 #[.val (.ref a1), .val (.long q2), .second, .val (.long q3), .second, .unset] [] := by first | (simp [entryFrame, mkF, argsToLocals, Value.category]; done) | rfl
theorem d6_0 : decode prog_182_method_7_code 0 = .ok (.iconst 0, 1) := by decide +kernel
theorem d6_1 : decode prog_182_method_7_code 1 = .ok (.istore 5, 2) := by decide +kernel
theorem d6_3 : decode prog_182_method_7_code 3 = .ok (.iload 5, 2) := by decide +kernel
theorem d6_5 : decode prog_182_method_7_code 5 = .ok (.bipush 8, 2) := by decide +kernel
theorem d6_7 : decode prog_182_method_7_code 7 = .ok (.if_icmp .ge 41, 3) := by decide +kernel
theorem d6_10 : decode prog_182_method_7_code 10 = .ok (.aload_n 0, 1) := by decide +kernel
theorem d6_11 : decode prog_182_method_7_code 11 = .ok (.getfield 13, 3) := by decide +kernel
theorem d6_14 : decode prog_182_method_7_code 14 = .ok (.iload 5, 2) := by decide +kernel
theorem d6_16 : decode prog_182_method_7_code 16 = .ok (.laload, 1) := by decide +kernel
theorem d6_17 : decode prog_182_method_7_code 17 = .ok (.lload_n 3, 1) := by decide +kernel
theorem d6_18 : decode prog_182_method_7_code 18 = .ok (.lcmp, 1) := by decide +kernel
theorem d6_19 : decode prog_182_method_7_code 19 = .ok (.ifCond .ne 23, 3) := by decide +kernel
theorem d6_22 : decode prog_182_method_7_code 22 = .ok (.aload_n 0, 1) := by decide +kernel
theorem d6_23 : decode prog_182_method_7_code 23 = .ok (.getfield 9, 3) := by decide +kernel
theorem d6_26 : decode prog_182_method_7_code 26 = .ok (.iload 5, 2) := by decide +kernel
theorem d6_28 : decode prog_182_method_7_code 28 = .ok (.laload, 1) := by decide +kernel
theorem d6_29 : decode prog_182_method_7_code 29 = .ok (.lload_n 1, 1) := by decide +kernel
theorem d6_30 : decode prog_182_method_7_code 30 = .ok (.lcmp, 1) := by decide +kernel
theorem d6_31 : decode prog_182_method_7_code 31 = .ok (.ifCond .ne 11, 3) := by decide +kernel
theorem d6_34 : decode prog_182_method_7_code 34 = .ok (.aload_n 0, 1) := by decide +kernel
theorem d6_35 : decode prog_182_method_7_code 35 = .ok (.getfield 16, 3) := by decide +kernel
theorem d6_38 : decode prog_182_method_7_code 38 = .ok (.iload 5, 2) := by decide +kernel
theorem d6_40 : decode prog_182_method_7_code 40 = .ok (.laload, 1) := by decide +kernel
theorem d6_41 : decode prog_182_method_7_code 41 = .ok (.lreturn, 1) := by decide +kernel
theorem d6_42 : decode prog_182_method_7_code 42 = .ok (.iinc 5 1, 3) := by decide +kernel
theorem d6_45 : decode prog_182_method_7_code 45 = .ok (.goto (-42), 3) := by decide +kernel
theorem d6_48 : decode prog_182_method_7_code 48 = .ok (.ldc2_w 63, 3) := by decide +kernel
theorem d6_51 : decode prog_182_method_7_code 51 = .ok (.lreturn, 1) := by decide +kernel
set_option maxRecDepth 65536 in
set_option maxHeartbeats 40000000 in
theorem rA {p : Program} {l : Launch} {e : Env} {R : Room} {s : State} {m : MethodId} {args : Array Value} {below : List Frame} {meth : Method} {c : Code} {T0 : State} {locs : List Loc} {cells slots : Nat} {Z : State} {a0 : Array Value} {h0 : Heap} (o0 : Addr) (q1 q3 : Int64) (i5 : Int32) (b2 : Addr) (cle : Cell) (we : Int64)
    (X0 : Stand p l e R s m args below meth c T0 locs cells slots) (hx : p.tables.exec = Jvm.exec) (hZ : Z.Warmed39 s.vm) (hw : ∀ d ∈ tables_1, d.before a0 Z = true) (hby : c.code = prog_182_method_7_code) (hml : c.maxLocals = 6) (hown : s.vm.findClass "com/example/binlens/binlens/TableMaps" = some m.cls) (e0 : T0.heap = h0) (Fe_0 : Fld Z h0 o0 "com/example/binlens/binlens/TableMaps" "askedEnds" "[J" (.ref b2)) (Ae : Arr Z h0 b2 cle .long) (hlt : i5 < (8 : Int32)) (hine : ¬ (i5 < 0 ∨ cle.slots.size ≤ i5.toNatClampNeg)) (hate : cle.slots[i5.toNatClampNeg]? = some (.long we)) (hne : ¬ (we = q3)) :
    ∃ (T' : State), Stand p l e R s m args below meth c T' locs cells slots ∧ T'.heap = h0 ∧ ∀ target, Steps p.tables e below (T'.setTop (mkF m 3 #[.val (.ref o0), .val (.long q1), .second, .val (.long q3), .second, .val (.int (i5 + (1 : Int32)))] [])) target → Steps p.tables e below (T0.setTop (mkF m 3 #[.val (.ref o0), .val (.long q1), .second, .val (.long q3), .second, .val (.int i5)] [])) target := by
  obtain ⟨T1, X1, e1, st1⟩ := getF X0 hx hZ hown (host := "") (Or.inl (hw _ (List.mem_of_getElem? (i := 14) rfl))) Via.refl e0 Fe_0 (g := (mkF m 11 #[.val (.ref o0), .val (.long q1), .second, .val (.long q3), .second, .val (.int i5)] [(.ref o0)])) rfl rfl (hb hby d6_11)
  refine ⟨T1, X1, e1, fun target kt => ?_⟩
  show Steps p.tables e below (T0.setTop (mkF m 3 #[.val (.ref o0), .val (.long q1), .second, .val (.long q3), .second, .val (.int i5)] [])) _
  refine XS.iload X0.here hx rfl (hb hby d6_3) rfl ?_
  show Steps p.tables e below (T0.setTop (mkF m 5 #[.val (.ref o0), .val (.long q1), .second, .val (.long q3), .second, .val (.int i5)] [(.int i5)])) _
  refine XS.bipush X0.here hx rfl (hb hby d6_5) ?_
  show Steps p.tables e below (T0.setTop (mkF m 7 #[.val (.ref o0), .val (.long q1), .second, .val (.long q3), .second, .val (.int i5)] [(.int (8 : Int32)), (.int i5)])) _
  refine XS.icmpNo X0.here hx rfl (hb hby d6_7) rfl (tlt hlt).2.1 ?_
  show Steps p.tables e below (T0.setTop (mkF m 10 #[.val (.ref o0), .val (.long q1), .second, .val (.long q3), .second, .val (.int i5)] [])) _
  refine XS.aloadN X0.here hx rfl (hb hby d6_10) rfl rfl ?_
  show Steps p.tables e below (T0.setTop (mkF m 11 #[.val (.ref o0), .val (.long q1), .second, .val (.long q3), .second, .val (.int i5)] [(.ref o0)])) _
  refine st1 _ ?_
  show Steps p.tables e below (T1.setTop (mkF m 14 #[.val (.ref o0), .val (.long q1), .second, .val (.long q3), .second, .val (.int i5)] [(.ref b2)])) _
  refine XS.iload X1.here hx rfl (hb hby d6_14) rfl ?_
  show Steps p.tables e below (T1.setTop (mkF m 16 #[.val (.ref o0), .val (.long q1), .second, .val (.long q3), .second, .val (.int i5)] [(.int i5), (.ref b2)])) _
  refine X1.laload hx (j := i5) (v := (.long we)) (by rw [e1]; exact Ae.1) (State.isArrayOf_alike hZ.alike Ae.2.1) Ae.2.2 hine hate (g := (mkF m 16 #[.val (.ref o0), .val (.long q1), .second, .val (.long q3), .second, .val (.int i5)] [(.int i5), (.ref b2)])) rfl rfl (hb hby d6_16) _ ?_
  show Steps p.tables e below (T1.setTop (mkF m 17 #[.val (.ref o0), .val (.long q1), .second, .val (.long q3), .second, .val (.int i5)] [(.long we)])) _
  refine XS.lloadN X1.here hx rfl (hb hby d6_17) rfl ?_
  show Steps p.tables e below (T1.setTop (mkF m 18 #[.val (.ref o0), .val (.long q1), .second, .val (.long q3), .second, .val (.int i5)] [(.long q3), (.long we)])) _
  refine XS.lcmp X1.here hx rfl (hb hby d6_18) rfl ?_
  show Steps p.tables e below (T1.setTop (mkF m 19 #[.val (.ref o0), .val (.long q1), .second, .val (.long q3), .second, .val (.int i5)] [(.int (lcmpW we q3))])) _
  refine XS.ifYes X1.here hx rfl (pc0 := 19) (pc' := 42) rfl (hb hby d6_19) rfl ((if0 _ _).trans (feq (mt (lw_eq we q3).mp hne)).2) (by decide) (by decide) ?_
  show Steps p.tables e below (T1.setTop (mkF m 42 #[.val (.ref o0), .val (.long q1), .second, .val (.long q3), .second, .val (.int i5)] [])) _
  refine XS.iinc X1.here hx rfl (hb hby d6_42) rfl (l' := #[.val (.ref o0), .val (.long q1), .second, .val (.long q3), .second, .val (.int (i5 + (1 : Int32)))]) rfl ?_
  show Steps p.tables e below (T1.setTop (mkF m 45 #[.val (.ref o0), .val (.long q1), .second, .val (.long q3), .second, .val (.int (i5 + (1 : Int32)))] [])) _
  refine XS.goto X1.here hx rfl (pc0 := 45) (pc' := 3) rfl (hb hby d6_45) (by decide) (by decide) ?_
  exact kt
set_option maxRecDepth 65536 in
set_option maxHeartbeats 40000000 in
theorem rB {p : Program} {l : Launch} {e : Env} {R : Room} {s : State} {m : MethodId} {args : Array Value} {below : List Frame} {meth : Method} {c : Code} {T0 : State} {locs : List Loc} {cells slots : Nat} {Z : State} {a0 : Array Value} {h0 : Heap} (o0 : Addr) (q1 q3 : Int64) (i5 : Int32) (b1 b2 : Addr) (cle cln : Cell) (we wn : Int64)
    (X0 : Stand p l e R s m args below meth c T0 locs cells slots) (hx : p.tables.exec = Jvm.exec) (hZ : Z.Warmed39 s.vm) (hw : ∀ d ∈ tables_1, d.before a0 Z = true) (hby : c.code = prog_182_method_7_code) (hml : c.maxLocals = 6) (hown : s.vm.findClass "com/example/binlens/binlens/TableMaps" = some m.cls) (e0 : T0.heap = h0) (Fe_0 : Fld Z h0 o0 "com/example/binlens/binlens/TableMaps" "askedEnds" "[J" (.ref b2)) (Ae : Arr Z h0 b2 cle .long) (hlt : i5 < (8 : Int32)) (hine : ¬ (i5 < 0 ∨ cle.slots.size ≤ i5.toNatClampNeg)) (hate : cle.slots[i5.toNatClampNeg]? = some (.long we)) (Fn_0 : Fld Z h0 o0 "com/example/binlens/binlens/TableMaps" "askedNumbers" "[J" (.ref b1)) (An : Arr Z h0 b1 cln .long) (hinn : ¬ (i5 < 0 ∨ cln.slots.size ≤ i5.toNatClampNeg)) (hatn : cln.slots[i5.toNatClampNeg]? = some (.long wn)) (heq : we = q3) (hnn : ¬ (wn = q1)) :
    ∃ (T' : State), Stand p l e R s m args below meth c T' locs cells slots ∧ T'.heap = h0 ∧ ∀ target, Steps p.tables e below (T'.setTop (mkF m 3 #[.val (.ref o0), .val (.long q1), .second, .val (.long q3), .second, .val (.int (i5 + (1 : Int32)))] [])) target → Steps p.tables e below (T0.setTop (mkF m 3 #[.val (.ref o0), .val (.long q1), .second, .val (.long q3), .second, .val (.int i5)] [])) target := by
  obtain ⟨T1, X1, e1, st1⟩ := getF X0 hx hZ hown (host := "") (Or.inl (hw _ (List.mem_of_getElem? (i := 14) rfl))) Via.refl e0 Fe_0 (g := (mkF m 11 #[.val (.ref o0), .val (.long q1), .second, .val (.long q3), .second, .val (.int i5)] [(.ref o0)])) rfl rfl (hb hby d6_11)
  obtain ⟨T2, X2, e2, st2⟩ := getF X1 hx hZ hown (host := "") (Or.inl (hw _ (List.mem_of_getElem? (i := 12) rfl))) Via.refl e1 Fn_0 (g := (mkF m 23 #[.val (.ref o0), .val (.long q1), .second, .val (.long q3), .second, .val (.int i5)] [(.ref o0)])) rfl rfl (hb hby d6_23)
  refine ⟨T2, X2, e2, fun target kt => ?_⟩
  show Steps p.tables e below (T0.setTop (mkF m 3 #[.val (.ref o0), .val (.long q1), .second, .val (.long q3), .second, .val (.int i5)] [])) _
  refine XS.iload X0.here hx rfl (hb hby d6_3) rfl ?_
  show Steps p.tables e below (T0.setTop (mkF m 5 #[.val (.ref o0), .val (.long q1), .second, .val (.long q3), .second, .val (.int i5)] [(.int i5)])) _
  refine XS.bipush X0.here hx rfl (hb hby d6_5) ?_
  show Steps p.tables e below (T0.setTop (mkF m 7 #[.val (.ref o0), .val (.long q1), .second, .val (.long q3), .second, .val (.int i5)] [(.int (8 : Int32)), (.int i5)])) _
  refine XS.icmpNo X0.here hx rfl (hb hby d6_7) rfl (tlt hlt).2.1 ?_
  show Steps p.tables e below (T0.setTop (mkF m 10 #[.val (.ref o0), .val (.long q1), .second, .val (.long q3), .second, .val (.int i5)] [])) _
  refine XS.aloadN X0.here hx rfl (hb hby d6_10) rfl rfl ?_
  show Steps p.tables e below (T0.setTop (mkF m 11 #[.val (.ref o0), .val (.long q1), .second, .val (.long q3), .second, .val (.int i5)] [(.ref o0)])) _
  refine st1 _ ?_
  show Steps p.tables e below (T1.setTop (mkF m 14 #[.val (.ref o0), .val (.long q1), .second, .val (.long q3), .second, .val (.int i5)] [(.ref b2)])) _
  refine XS.iload X1.here hx rfl (hb hby d6_14) rfl ?_
  show Steps p.tables e below (T1.setTop (mkF m 16 #[.val (.ref o0), .val (.long q1), .second, .val (.long q3), .second, .val (.int i5)] [(.int i5), (.ref b2)])) _
  refine X1.laload hx (j := i5) (v := (.long we)) (by rw [e1]; exact Ae.1) (State.isArrayOf_alike hZ.alike Ae.2.1) Ae.2.2 hine hate (g := (mkF m 16 #[.val (.ref o0), .val (.long q1), .second, .val (.long q3), .second, .val (.int i5)] [(.int i5), (.ref b2)])) rfl rfl (hb hby d6_16) _ ?_
  show Steps p.tables e below (T1.setTop (mkF m 17 #[.val (.ref o0), .val (.long q1), .second, .val (.long q3), .second, .val (.int i5)] [(.long we)])) _
  refine XS.lloadN X1.here hx rfl (hb hby d6_17) rfl ?_
  show Steps p.tables e below (T1.setTop (mkF m 18 #[.val (.ref o0), .val (.long q1), .second, .val (.long q3), .second, .val (.int i5)] [(.long q3), (.long we)])) _
  refine XS.lcmp X1.here hx rfl (hb hby d6_18) rfl ?_
  show Steps p.tables e below (T1.setTop (mkF m 19 #[.val (.ref o0), .val (.long q1), .second, .val (.long q3), .second, .val (.int i5)] [(.int (lcmpW we q3))])) _
  refine XS.ifNo X1.here hx rfl (hb hby d6_19) rfl ((if0 _ _).trans (teq ((lw_eq we q3).mpr heq)).2) ?_
  show Steps p.tables e below (T1.setTop (mkF m 22 #[.val (.ref o0), .val (.long q1), .second, .val (.long q3), .second, .val (.int i5)] [])) _
  refine XS.aloadN X1.here hx rfl (hb hby d6_22) rfl rfl ?_
  show Steps p.tables e below (T1.setTop (mkF m 23 #[.val (.ref o0), .val (.long q1), .second, .val (.long q3), .second, .val (.int i5)] [(.ref o0)])) _
  refine st2 _ ?_
  show Steps p.tables e below (T2.setTop (mkF m 26 #[.val (.ref o0), .val (.long q1), .second, .val (.long q3), .second, .val (.int i5)] [(.ref b1)])) _
  refine XS.iload X2.here hx rfl (hb hby d6_26) rfl ?_
  show Steps p.tables e below (T2.setTop (mkF m 28 #[.val (.ref o0), .val (.long q1), .second, .val (.long q3), .second, .val (.int i5)] [(.int i5), (.ref b1)])) _
  refine X2.laload hx (j := i5) (v := (.long wn)) (by rw [e2]; exact An.1) (State.isArrayOf_alike hZ.alike An.2.1) An.2.2 hinn hatn (g := (mkF m 28 #[.val (.ref o0), .val (.long q1), .second, .val (.long q3), .second, .val (.int i5)] [(.int i5), (.ref b1)])) rfl rfl (hb hby d6_28) _ ?_
  show Steps p.tables e below (T2.setTop (mkF m 29 #[.val (.ref o0), .val (.long q1), .second, .val (.long q3), .second, .val (.int i5)] [(.long wn)])) _
  refine XS.lloadN X2.here hx rfl (hb hby d6_29) rfl ?_
  show Steps p.tables e below (T2.setTop (mkF m 30 #[.val (.ref o0), .val (.long q1), .second, .val (.long q3), .second, .val (.int i5)] [(.long q1), (.long wn)])) _
  refine XS.lcmp X2.here hx rfl (hb hby d6_30) rfl ?_
  show Steps p.tables e below (T2.setTop (mkF m 31 #[.val (.ref o0), .val (.long q1), .second, .val (.long q3), .second, .val (.int i5)] [(.int (lcmpW wn q1))])) _
  refine XS.ifYes X2.here hx rfl (pc0 := 31) (pc' := 42) rfl (hb hby d6_31) rfl ((if0 _ _).trans (feq (mt (lw_eq wn q1).mp hnn)).2) (by decide) (by decide) ?_
  show Steps p.tables e below (T2.setTop (mkF m 42 #[.val (.ref o0), .val (.long q1), .second, .val (.long q3), .second, .val (.int i5)] [])) _
  refine XS.iinc X2.here hx rfl (hb hby d6_42) rfl (l' := #[.val (.ref o0), .val (.long q1), .second, .val (.long q3), .second, .val (.int (i5 + (1 : Int32)))]) rfl ?_
  show Steps p.tables e below (T2.setTop (mkF m 45 #[.val (.ref o0), .val (.long q1), .second, .val (.long q3), .second, .val (.int (i5 + (1 : Int32)))] [])) _
  refine XS.goto X2.here hx rfl (pc0 := 45) (pc' := 3) rfl (hb hby d6_45) (by decide) (by decide) ?_
  exact kt
set_option maxRecDepth 65536 in
set_option maxHeartbeats 40000000 in
theorem rC {p : Program} {l : Launch} {e : Env} {R : Room} {s : State} {m : MethodId} {args : Array Value} {below : List Frame} {meth : Method} {c : Code} {T0 : State} {locs : List Loc} {cells slots : Nat} {Z : State} {a0 : Array Value} {h0 : Heap} (o0 : Addr) (q1 q3 : Int64) (i5 : Int32) (b1 b2 b3 : Addr) (cle cln cla : Cell) (we wn wa : Int64)
    (X0 : Stand p l e R s m args below meth c T0 locs cells slots) (hx : p.tables.exec = Jvm.exec) (hZ : Z.Warmed39 s.vm) (hw : ∀ d ∈ tables_1, d.before a0 Z = true) (hby : c.code = prog_182_method_7_code) (hml : c.maxLocals = 6) (hown : s.vm.findClass "com/example/binlens/binlens/TableMaps" = some m.cls) (e0 : T0.heap = h0) (Fe_0 : Fld Z h0 o0 "com/example/binlens/binlens/TableMaps" "askedEnds" "[J" (.ref b2)) (Ae : Arr Z h0 b2 cle .long) (hlt : i5 < (8 : Int32)) (hine : ¬ (i5 < 0 ∨ cle.slots.size ≤ i5.toNatClampNeg)) (hate : cle.slots[i5.toNatClampNeg]? = some (.long we)) (Fn_0 : Fld Z h0 o0 "com/example/binlens/binlens/TableMaps" "askedNumbers" "[J" (.ref b1)) (An : Arr Z h0 b1 cln .long) (hinn : ¬ (i5 < 0 ∨ cln.slots.size ≤ i5.toNatClampNeg)) (hatn : cln.slots[i5.toNatClampNeg]? = some (.long wn)) (Fa_0 : Fld Z h0 o0 "com/example/binlens/binlens/TableMaps" "answers" "[J" (.ref b3)) (Aa : Arr Z h0 b3 cla .long) (hina : ¬ (i5 < 0 ∨ cla.slots.size ≤ i5.toNatClampNeg)) (hata : cla.slots[i5.toNatClampNeg]? = some (.long wa)) (heq : we = q3) (hen : wn = q1) :
    ∃ (T' : State), Stand p l e R s m args below meth c T' locs cells slots ∧ T'.heap = h0 ∧ ∀ target, Steps p.tables e below (T'.setTop (mkF m 41 #[.val (.ref o0), .val (.long q1), .second, .val (.long q3), .second, .val (.int i5)] [(.long wa)])) target → Steps p.tables e below (T0.setTop (mkF m 3 #[.val (.ref o0), .val (.long q1), .second, .val (.long q3), .second, .val (.int i5)] [])) target := by
  obtain ⟨T1, X1, e1, st1⟩ := getF X0 hx hZ hown (host := "") (Or.inl (hw _ (List.mem_of_getElem? (i := 14) rfl))) Via.refl e0 Fe_0 (g := (mkF m 11 #[.val (.ref o0), .val (.long q1), .second, .val (.long q3), .second, .val (.int i5)] [(.ref o0)])) rfl rfl (hb hby d6_11)
  obtain ⟨T2, X2, e2, st2⟩ := getF X1 hx hZ hown (host := "") (Or.inl (hw _ (List.mem_of_getElem? (i := 12) rfl))) Via.refl e1 Fn_0 (g := (mkF m 23 #[.val (.ref o0), .val (.long q1), .second, .val (.long q3), .second, .val (.int i5)] [(.ref o0)])) rfl rfl (hb hby d6_23)
  obtain ⟨T3, X3, e3, st3⟩ := getF X2 hx hZ hown (host := "") (Or.inl (hw _ (List.mem_of_getElem? (i := 16) rfl))) Via.refl e2 Fa_0 (g := (mkF m 35 #[.val (.ref o0), .val (.long q1), .second, .val (.long q3), .second, .val (.int i5)] [(.ref o0)])) rfl rfl (hb hby d6_35)
  refine ⟨T3, X3, e3, fun target kt => ?_⟩
  show Steps p.tables e below (T0.setTop (mkF m 3 #[.val (.ref o0), .val (.long q1), .second, .val (.long q3), .second, .val (.int i5)] [])) _
  refine XS.iload X0.here hx rfl (hb hby d6_3) rfl ?_
  show Steps p.tables e below (T0.setTop (mkF m 5 #[.val (.ref o0), .val (.long q1), .second, .val (.long q3), .second, .val (.int i5)] [(.int i5)])) _
  refine XS.bipush X0.here hx rfl (hb hby d6_5) ?_
  show Steps p.tables e below (T0.setTop (mkF m 7 #[.val (.ref o0), .val (.long q1), .second, .val (.long q3), .second, .val (.int i5)] [(.int (8 : Int32)), (.int i5)])) _
  refine XS.icmpNo X0.here hx rfl (hb hby d6_7) rfl (tlt hlt).2.1 ?_
  show Steps p.tables e below (T0.setTop (mkF m 10 #[.val (.ref o0), .val (.long q1), .second, .val (.long q3), .second, .val (.int i5)] [])) _
  refine XS.aloadN X0.here hx rfl (hb hby d6_10) rfl rfl ?_
  show Steps p.tables e below (T0.setTop (mkF m 11 #[.val (.ref o0), .val (.long q1), .second, .val (.long q3), .second, .val (.int i5)] [(.ref o0)])) _
  refine st1 _ ?_
  show Steps p.tables e below (T1.setTop (mkF m 14 #[.val (.ref o0), .val (.long q1), .second, .val (.long q3), .second, .val (.int i5)] [(.ref b2)])) _
  refine XS.iload X1.here hx rfl (hb hby d6_14) rfl ?_
  show Steps p.tables e below (T1.setTop (mkF m 16 #[.val (.ref o0), .val (.long q1), .second, .val (.long q3), .second, .val (.int i5)] [(.int i5), (.ref b2)])) _
  refine X1.laload hx (j := i5) (v := (.long we)) (by rw [e1]; exact Ae.1) (State.isArrayOf_alike hZ.alike Ae.2.1) Ae.2.2 hine hate (g := (mkF m 16 #[.val (.ref o0), .val (.long q1), .second, .val (.long q3), .second, .val (.int i5)] [(.int i5), (.ref b2)])) rfl rfl (hb hby d6_16) _ ?_
  show Steps p.tables e below (T1.setTop (mkF m 17 #[.val (.ref o0), .val (.long q1), .second, .val (.long q3), .second, .val (.int i5)] [(.long we)])) _
  refine XS.lloadN X1.here hx rfl (hb hby d6_17) rfl ?_
  show Steps p.tables e below (T1.setTop (mkF m 18 #[.val (.ref o0), .val (.long q1), .second, .val (.long q3), .second, .val (.int i5)] [(.long q3), (.long we)])) _
  refine XS.lcmp X1.here hx rfl (hb hby d6_18) rfl ?_
  show Steps p.tables e below (T1.setTop (mkF m 19 #[.val (.ref o0), .val (.long q1), .second, .val (.long q3), .second, .val (.int i5)] [(.int (lcmpW we q3))])) _
  refine XS.ifNo X1.here hx rfl (hb hby d6_19) rfl ((if0 _ _).trans (teq ((lw_eq we q3).mpr heq)).2) ?_
  show Steps p.tables e below (T1.setTop (mkF m 22 #[.val (.ref o0), .val (.long q1), .second, .val (.long q3), .second, .val (.int i5)] [])) _
  refine XS.aloadN X1.here hx rfl (hb hby d6_22) rfl rfl ?_
  show Steps p.tables e below (T1.setTop (mkF m 23 #[.val (.ref o0), .val (.long q1), .second, .val (.long q3), .second, .val (.int i5)] [(.ref o0)])) _
  refine st2 _ ?_
  show Steps p.tables e below (T2.setTop (mkF m 26 #[.val (.ref o0), .val (.long q1), .second, .val (.long q3), .second, .val (.int i5)] [(.ref b1)])) _
  refine XS.iload X2.here hx rfl (hb hby d6_26) rfl ?_
  show Steps p.tables e below (T2.setTop (mkF m 28 #[.val (.ref o0), .val (.long q1), .second, .val (.long q3), .second, .val (.int i5)] [(.int i5), (.ref b1)])) _
  refine X2.laload hx (j := i5) (v := (.long wn)) (by rw [e2]; exact An.1) (State.isArrayOf_alike hZ.alike An.2.1) An.2.2 hinn hatn (g := (mkF m 28 #[.val (.ref o0), .val (.long q1), .second, .val (.long q3), .second, .val (.int i5)] [(.int i5), (.ref b1)])) rfl rfl (hb hby d6_28) _ ?_
  show Steps p.tables e below (T2.setTop (mkF m 29 #[.val (.ref o0), .val (.long q1), .second, .val (.long q3), .second, .val (.int i5)] [(.long wn)])) _
  refine XS.lloadN X2.here hx rfl (hb hby d6_29) rfl ?_
  show Steps p.tables e below (T2.setTop (mkF m 30 #[.val (.ref o0), .val (.long q1), .second, .val (.long q3), .second, .val (.int i5)] [(.long q1), (.long wn)])) _
  refine XS.lcmp X2.here hx rfl (hb hby d6_30) rfl ?_
  show Steps p.tables e below (T2.setTop (mkF m 31 #[.val (.ref o0), .val (.long q1), .second, .val (.long q3), .second, .val (.int i5)] [(.int (lcmpW wn q1))])) _
  refine XS.ifNo X2.here hx rfl (hb hby d6_31) rfl ((if0 _ _).trans (teq ((lw_eq wn q1).mpr hen)).2) ?_
  show Steps p.tables e below (T2.setTop (mkF m 34 #[.val (.ref o0), .val (.long q1), .second, .val (.long q3), .second, .val (.int i5)] [])) _
  refine XS.aloadN X2.here hx rfl (hb hby d6_34) rfl rfl ?_
  show Steps p.tables e below (T2.setTop (mkF m 35 #[.val (.ref o0), .val (.long q1), .second, .val (.long q3), .second, .val (.int i5)] [(.ref o0)])) _
  refine st3 _ ?_
  show Steps p.tables e below (T3.setTop (mkF m 38 #[.val (.ref o0), .val (.long q1), .second, .val (.long q3), .second, .val (.int i5)] [(.ref b3)])) _
  refine XS.iload X3.here hx rfl (hb hby d6_38) rfl ?_
  show Steps p.tables e below (T3.setTop (mkF m 40 #[.val (.ref o0), .val (.long q1), .second, .val (.long q3), .second, .val (.int i5)] [(.int i5), (.ref b3)])) _
  refine X3.laload hx (j := i5) (v := (.long wa)) (by rw [e3]; exact Aa.1) (State.isArrayOf_alike hZ.alike Aa.2.1) Aa.2.2 hina hata (g := (mkF m 40 #[.val (.ref o0), .val (.long q1), .second, .val (.long q3), .second, .val (.int i5)] [(.int i5), (.ref b3)])) rfl rfl (hb hby d6_40) _ ?_
  exact kt
set_option maxRecDepth 65536 in
set_option maxHeartbeats 40000000 in
theorem rD {p : Program} {l : Launch} {e : Env} {R : Room} {s : State} {m : MethodId} {args : Array Value} {below : List Frame} {meth : Method} {c : Code} {T0 : State} {locs : List Loc} {cells slots : Nat} {Z : State} {a0 : Array Value} {h0 : Heap} (o0 : Addr) (q1 q3 : Int64) (i5 : Int32) 
    (X0 : Stand p l e R s m args below meth c T0 locs cells slots) (hx : p.tables.exec = Jvm.exec) (hZ : Z.Warmed39 s.vm) (hw : ∀ d ∈ tables_1, d.before a0 Z = true) (hby : c.code = prog_182_method_7_code) (hml : c.maxLocals = 6) (hown : s.vm.findClass "com/example/binlens/binlens/TableMaps" = some m.cls) (e0 : T0.heap = h0) (hge : ¬ (i5 < (8 : Int32))) :
    ∃ (T' : State), Stand p l e R s m args below meth c T' locs cells slots ∧ T'.heap = h0 ∧ ∀ target, Steps p.tables e below (T'.setTop (mkF m 51 #[.val (.ref o0), .val (.long q1), .second, .val (.long q3), .second, .val (.int i5)] [(.long (-2 : Int64))])) target → Steps p.tables e below (T0.setTop (mkF m 3 #[.val (.ref o0), .val (.long q1), .second, .val (.long q3), .second, .val (.int i5)] [])) target := by
  refine ⟨T0, X0, e0, fun target kt => ?_⟩
  show Steps p.tables e below (T0.setTop (mkF m 3 #[.val (.ref o0), .val (.long q1), .second, .val (.long q3), .second, .val (.int i5)] [])) _
  refine XS.iload X0.here hx rfl (hb hby d6_3) rfl ?_
  show Steps p.tables e below (T0.setTop (mkF m 5 #[.val (.ref o0), .val (.long q1), .second, .val (.long q3), .second, .val (.int i5)] [(.int i5)])) _
  refine XS.bipush X0.here hx rfl (hb hby d6_5) ?_
  show Steps p.tables e below (T0.setTop (mkF m 7 #[.val (.ref o0), .val (.long q1), .second, .val (.long q3), .second, .val (.int i5)] [(.int (8 : Int32)), (.int i5)])) _
  refine XS.icmpYes X0.here hx rfl (pc0 := 7) (pc' := 48) rfl (hb hby d6_7) rfl (flt hge).2.1 (by decide) (by decide) ?_
  show Steps p.tables e below (T0.setTop (mkF m 48 #[.val (.ref o0), .val (.long q1), .second, .val (.long q3), .second, .val (.int i5)] [])) _
  refine X0.ldc2Long hx hown (mvT hZ (hw _ (List.mem_of_getElem? (i := 40) rfl))) (g := (mkF m 48 #[.val (.ref o0), .val (.long q1), .second, .val (.long q3), .second, .val (.int i5)] [])) rfl (hb hby d6_48) _ ?_
  exact kt
set_option maxRecDepth 65536 in
set_option maxHeartbeats 40000000 in
theorem loop6 {p : Program} {l : Launch} {e : Env} {R : Room} {s : State} {m : MethodId} {args : Array Value} {below : List Frame} {meth : Method} {c : Code} {cells slots : Nat} {Z : State} {a0 : Array Value} {locs : List Loc} {h0 : Heap} (o0 b1 b2 b3 : Addr) (q1 q3 : Int64) (fn fe fa : Nat → Int64) (hx : p.tables.exec = Jvm.exec) (hZ : Z.Warmed39 s.vm) (hw : ∀ d ∈ tables_1, d.before a0 Z = true) (hby : c.code = prog_182_method_7_code) (hml : c.maxLocals = 6) (hown : s.vm.findClass "com/example/binlens/binlens/TableMaps" = some m.cls) (Fn_0 : Fld Z h0 o0 "com/example/binlens/binlens/TableMaps" "askedNumbers" "[J" (.ref b1)) (Fe_0 : Fld Z h0 o0 "com/example/binlens/binlens/TableMaps" "askedEnds" "[J" (.ref b2)) (Fa_0 : Fld Z h0 o0 "com/example/binlens/binlens/TableMaps" "answers" "[J" (.ref b3)) (cln cle cla : Cell) (An : Arr Z h0 b1 cln .long) (Ae : Arr Z h0 b2 cle .long) (Aa : Arr Z h0 b3 cla .long) (Sn : cln.slots.size = 8) (Se : cle.slots.size = 8) (Sa : cla.slots.size = 8) (Hn : ∀ j, j < 8 → cln.slots[j]? = some (.long (fn j))) (He : ∀ j, j < 8 → cle.slots[j]? = some (.long (fe j))) (Ha : ∀ j, j < 8 → cla.slots[j]? = some (.long (fa j))) :
    ∀ (k i : Nat) (T0 : State), i + k = 8 → Stand p l e R s m args below meth c T0 locs cells slots → T0.heap = h0 →
      ∃ (T' : State) (pc' : Nat) (z : Int32), (pc' = 41 ∨ pc' = 51) ∧ Stand p l e R s m args below meth c T' locs cells slots ∧ T'.heap = h0 ∧ ∀ target, Steps p.tables e below (T'.setTop (mkF m pc' #[.val (.ref o0), .val (.long q1), .second, .val (.long q3), .second, .val (.int z)] [(.long (own_ans fn fe fa q1 q3 k i))])) target → Steps p.tables e below (T0.setTop (mkF m 3 #[.val (.ref o0), .val (.long q1), .second, .val (.long q3), .second, .val (.int (Int32.ofNat i))] [])) target := by
  intro k
  induction k with
  | zero =>
    intro i T0 hi X0 e0
    obtain rfl : i = 8 := by omega
    obtain ⟨T1, X1, e1, st1⟩ := rD o0 q1 q3 (8 : Int32) X0 hx hZ hw hby hml hown e0 (by decide)
    exact ⟨T1, 51, _, Or.inr rfl, X1, e1, st1⟩
  | succ k ih =>
    intro i T0 hi X0 e0
    have hine : ¬ (Int32.ofNat i < 0 ∨ cle.slots.size ≤ (Int32.ofNat i).toNatClampNeg) := by
      rw [Se, own_n32 (by omega)]
      exact fun q => q.elim (own_nn (by omega)) (fun q => by omega)
    have hinn : ¬ (Int32.ofNat i < 0 ∨ cln.slots.size ≤ (Int32.ofNat i).toNatClampNeg) := by
      rw [Sn, own_n32 (by omega)]
      exact fun q => q.elim (own_nn (by omega)) (fun q => by omega)
    have hina : ¬ (Int32.ofNat i < 0 ∨ cla.slots.size ≤ (Int32.ofNat i).toNatClampNeg) := by
      rw [Sa, own_n32 (by omega)]
      exact fun q => q.elim (own_nn (by omega)) (fun q => by omega)
    have hate : cle.slots[(Int32.ofNat i).toNatClampNeg]? = some (.long (fe i)) := by rw [own_n32 (by omega)]; exact He i (by omega)
    have hatn : cln.slots[(Int32.ofNat i).toNatClampNeg]? = some (.long (fn i)) := by rw [own_n32 (by omega)]; exact Hn i (by omega)
    have hata : cla.slots[(Int32.ofNat i).toNatClampNeg]? = some (.long (fa i)) := by rw [own_n32 (by omega)]; exact Ha i (by omega)
    have hlt : Int32.ofNat i < (8 : Int32) := own_lt (n := 8) (by omega) (by decide)
    by_cases heq : fe i = q3
    · by_cases hen : fn i = q1
      · have ea : (own_ans fn fe fa q1 q3 (k + 1) i) = fa i := by rw [own_ans, if_pos heq, if_pos hen]
        rw [ea]
        obtain ⟨T1, X1, e1, st1⟩ := rC o0 q1 q3 (Int32.ofNat i) b1 b2 b3 cle cln cla (fe i) (fn i) (fa i) X0 hx hZ hw hby hml hown e0 Fe_0 Ae hlt hine hate Fn_0 An hinn hatn Fa_0 Aa hina hata heq hen
        exact ⟨T1, 41, _, Or.inl rfl, X1, e1, st1⟩
      · have ea : (own_ans fn fe fa q1 q3 (k + 1) i) = (own_ans fn fe fa q1 q3 k (i + 1)) := by rw [own_ans, if_pos heq, if_neg hen]
        rw [ea]
        obtain ⟨T1, X1, e1, st1⟩ := rB o0 q1 q3 (Int32.ofNat i) b1 b2 cle cln (fe i) (fn i) X0 hx hZ hw hby hml hown e0 Fe_0 Ae hlt hine hate Fn_0 An hinn hatn heq hen
        rw [own_one] at st1
        obtain ⟨T', pc', z, hp, X', e', st⟩ := ih (i + 1) T1 (by omega) X1 e1
        exact ⟨T', pc', z, hp, X', e', fun target kt => st1 target (st target kt)⟩
    · have ea : (own_ans fn fe fa q1 q3 (k + 1) i) = (own_ans fn fe fa q1 q3 k (i + 1)) := by rw [own_ans, if_neg heq]
      rw [ea]
      obtain ⟨T1, X1, e1, st1⟩ := rA o0 q1 q3 (Int32.ofNat i) b2 cle (fe i) X0 hx hZ hw hby hml hown e0 Fe_0 Ae hlt hine hate heq
      rw [own_one] at st1
      obtain ⟨T', pc', z, hp, X', e', st⟩ := ih (i + 1) T1 (by omega) X1 e1
      exact ⟨T', pc', z, hp, X', e', fun target kt => st1 target (st target kt)⟩
def Q6 (r : Int64) (h0 : Heap) (n0 : Nat) (v : Option Value) (h : Heap) (L : List Loc) : Prop := v = some (.long r) ∧ Fr n0 L ∧ h = h0
set_option maxRecDepth 65536 in
set_option maxHeartbeats 40000000 in
theorem rm6 (l : Launch) (Z : State) (a0 : Array Value) (hw : ∀ d ∈ tables_1, d.before a0 Z = true) (ws : List Jvm.Cond) (a1 : Addr) (q2 q3 : Int64) (fn fe fa : Nat → Int64) (nx : Nat) (h0 : Heap) (n0 : Nat) (Z0 : n0 ≤ h0.size) (TM : own_TM Z h0 a1 n0 fn fe fa nx) :
    MetFree l (⟨"com/example/binlens/binlens/TableMaps", "answer", "(JJ)J"⟩ : MethodName) (head1 (Jvm.Cond.code (⟨"com/example/binlens/binlens/TableMaps", "answer", "(JJ)J"⟩ : MethodName) prog_182_method_7_code 6 (some .long) :: ws) ({ frames := 0, cells := 0, slots := 0, locals := 0 } : Room)) (fun a U => a = #[(.ref a1), (.long q2), (.long q3)] ∧ Z.Warmed39 U.vm ∧ U.heap = h0) (fun _ _ _ _ _ => True) (fun _ U o U' => ∃ v L, o = .returned v ∧ Q6 (own_ans fn fe fa q2 q3 8 0) h0 n0 v U'.heap L ∧ FrameEnd U o U' L ({ frames := 0, cells := 0, slots := 0, locals := 0 } : Room).cells ({ frames := 0, cells := 0, slots := 0, locals := 0 } : Room).slots) := by
  refine MetFree.of_bodySF (plainFor_of_name pn_6) hisR ?_
  intro p e s m args below meth c s₁ Bd hml0 hP hK
  obtain ⟨rfl, hZ, hh⟩ := hP
  have hx := Bd.exec
  have hby := Bd.bytes
  have hml : c.maxLocals = 6 := hml0
  have hown : s.vm.findClass "com/example/binlens/binlens/TableMaps" = some m.cls := findClass_of_methodNamed Bd.named
  have hnm := (name_of_methodNamed Bd.named Bd.method).1
  have X0 : Stand p l e ({ frames := 0, cells := 0, slots := 0, locals := 0 } : Room) s m #[(.ref a1), (.long q2), (.long q3)] below meth c s₁ [] 0 0 := Stand.of_body Bd
  have e0 : s₁.heap = h0 := by rw [← hh, Bd.state]; rfl
  have N0 := Fr.nil n0
  have pre0 : ∀ t, Steps p.tables e below (s₁.setTop (mkF m 0 #[.val (.ref a1), .val (.long q2), .second, .val (.long q3), .second, .unset] [])) t → Steps p.tables e below (s₁.setTop (entryFrame m #[(.ref a1), (.long q2), (.long q3)] 6)) t := fun t k => castTop (ef_6 m a1 q2 q3) k
  obtain ⟨b1, b2, b3, k1, k2, k3, E_0, Fn_0, Fe_0, Fa_0, Fx_0, Vn_0, Ve_0, Va_0, ⟨ne_n_o, ne_e_o, ne_a_o, ne_n_e, ne_n_a, ne_e_a⟩, g_o, g_n, g_e, g_a⟩ := TM
  obtain ⟨cln, An, -, Sn, -, Hn_, -⟩ := Vn_0
  have Sn8 : cln.slots.size = 8 := Sn
  have Hn : ∀ j, j < 8 → cln.slots[j]? = some (.long (fn j)) := fun j hj => by
    have q := Hn_ j (by rw [Sn8]; exact hj)
    rw [own_atL fn hj] at q
    exact q
  obtain ⟨cle, Ae, -, Se, -, He_, -⟩ := Ve_0
  have Se8 : cle.slots.size = 8 := Se
  have He : ∀ j, j < 8 → cle.slots[j]? = some (.long (fe j)) := fun j hj => by
    have q := He_ j (by rw [Se8]; exact hj)
    rw [own_atL fe hj] at q
    exact q
  obtain ⟨cla, Aa, -, Sa, -, Ha_, -⟩ := Va_0
  have Sa8 : cla.slots.size = 8 := Sa
  have Ha : ∀ j, j < 8 → cla.slots[j]? = some (.long (fa j)) := fun j hj => by
    have q := Ha_ j (by rw [Sa8]; exact hj)
    rw [own_atL fa hj] at q
    exact q
  obtain ⟨T1, pc1, z1, hp1, X1, e1, st1⟩ := loop6 a1 b1 b2 b3 q2 q3 fn fe fa hx hZ hw hby hml hown Fn_0 Fe_0 Fa_0 cln cle cla An Ae Aa Sn8 Se8 Sa8 Hn He Ha 8 0 s₁ (by omega) X0 e0
  obtain ⟨fs, hr, hrun, hended, hW, hsame⟩ := X1.leave (v := some (.long (own_ans fn fe fa q2 q3 8 0))) (fun h => by rw [Bd.returns] at h; cases h)
  refine ⟨_, _, pre0 _ ?_, hrun, hended, _, _, rfl, ?_, ⟨_, rfl⟩, hW, hsame.mono (by decide) (by decide)⟩
  · show Steps p.tables e below (s₁.setTop (mkF m 0 #[.val (.ref a1), .val (.long q2), .second, .val (.long q3), .second, .unset] [])) _
    refine XS.iconst X0.here hx rfl (hb hby d6_0) ?_
    show Steps p.tables e below (s₁.setTop (mkF m 1 #[.val (.ref a1), .val (.long q2), .second, .val (.long q3), .second, .unset] [(.int (0 : Int32))])) _
    refine XS.istore X0.here hx rfl (hb hby d6_1) rfl (l' := #[.val (.ref a1), .val (.long q2), .second, .val (.long q3), .second, .val (.int (0 : Int32))]) rfl ?_
    show Steps p.tables e below (s₁.setTop (mkF m 3 #[.val (.ref a1), .val (.long q2), .second, .val (.long q3), .second, .val (.int (0 : Int32))] [])) _
    refine st1 _ ?_
    rcases hp1 with rfl | rfl
    · exact X1.lreturnOut hx Bd.returns (hb hby d6_41) hr
    · exact X1.lreturnOut hx Bd.returns (hb hby d6_51) hr
  · show Q6 (own_ans fn fe fa q2 q3 8 0) h0 n0 _ T1.heap _
    rw [e1]
    exact ⟨rfl, N0, rfl⟩
set_option maxRecDepth 65536 in
set_option maxHeartbeats 40000000 in
theorem segX {p : Program} {l : Launch} {e : Env} {R : Room} {s : State} {m : MethodId} {args : Array Value} {below : List Frame} {meth : Method} {c : Code} {T0 : State} {locs : List Loc} {cells slots : Nat} {Z : State} {a0 : Array Value} {h0 : Heap} (s0 : Slot) (s1 : Slot) (s2 : Slot) (s3 : Slot) (q3 : Int64) (s6 : Slot) (s7 : Slot) (s8 : Slot) (s9 : Slot) (i10 : Int32) (i11 : Int32) (s12 : Slot) (r13 : Int32) (r14 : Int64) 
    (X0 : Stand p l e R s m args below meth c T0 locs cells slots) (hx : p.tables.exec = Jvm.exec) (hZ : Z.Warmed39 s.vm) (hw : ∀ d ∈ tables_1, d.before a0 Z = true) (hby : c.code = code) (hml : c.maxLocals = 16) (hown : s.vm.findClass "com/example/binlens/binlens/TableMapsAnswerPinLaw" = some m.cls) (e0 : T0.heap = h0) (k1 : (i11 < i10) → (i10 = (9 : Int32)) → (i11 = (0 : Int32)) → r13 = (0 : Int32)) (k2 : (i11 < i10) → (i10 = (9 : Int32)) → (i11 = (0 : Int32)) → r14 = (-2 : Int64)) (k3 : (i11 < i10) → (i10 = (9 : Int32)) → ¬ (i11 = (0 : Int32)) → r13 = (1 : Int32)) (k4 : (i11 < i10) → (i10 = (9 : Int32)) → ¬ (i11 = (0 : Int32)) → r14 = (q3 + (i11.toInt64))) (k5 : (i11 < i10) → ¬ (i10 = (9 : Int32)) → r13 = (1 : Int32)) (k6 : (i11 < i10) → ¬ (i10 = (9 : Int32)) → r14 = (q3 + (i11.toInt64))) (k7 : ¬ (i11 < i10) → r13 = (0 : Int32)) (k8 : ¬ (i11 < i10) → r14 = (-2 : Int64)) {target : State}
    (kt : Steps p.tables e below (T0.setTop (mkF m 239 #[s0, s1, s2, s3, .val (.long q3), .second, s6, s7, s8, s9, .val (.int i10), .val (.int i11), s12, .val (.int r13), .val (.long r14), .second] [])) target) : Steps p.tables e below (T0.setTop (mkF m 194 #[s0, s1, s2, s3, .val (.long q3), .second, s6, s7, s8, s9, .val (.int i10), .val (.int i11), s12, .unset, .unset, .unset] [])) target := by
  show Steps p.tables e below (T0.setTop (mkF m 194 #[s0, s1, s2, s3, .val (.long q3), .second, s6, s7, s8, s9, .val (.int i10), .val (.int i11), s12, .unset, .unset, .unset] [])) _
  refine XS.iload X0.here hx rfl (hb hby at_194) rfl ?_
  show Steps p.tables e below (T0.setTop (mkF m 196 #[s0, s1, s2, s3, .val (.long q3), .second, s6, s7, s8, s9, .val (.int i10), .val (.int i11), s12, .unset, .unset, .unset] [(.int i11)])) _
  refine XS.iload X0.here hx rfl (hb hby at_196) rfl ?_
  show Steps p.tables e below (T0.setTop (mkF m 198 #[s0, s1, s2, s3, .val (.long q3), .second, s6, s7, s8, s9, .val (.int i10), .val (.int i11), s12, .unset, .unset, .unset] [(.int i10), (.int i11)])) _
  by_cases hc198 : i11 < i10
  · refine XS.icmpNo X0.here hx rfl (hb hby at_198) rfl (tlt hc198).2.1 ?_
    show Steps p.tables e below (T0.setTop (mkF m 201 #[s0, s1, s2, s3, .val (.long q3), .second, s6, s7, s8, s9, .val (.int i10), .val (.int i11), s12, .unset, .unset, .unset] [])) _
    refine XS.iload X0.here hx rfl (hb hby at_201) rfl ?_
    show Steps p.tables e below (T0.setTop (mkF m 203 #[s0, s1, s2, s3, .val (.long q3), .second, s6, s7, s8, s9, .val (.int i10), .val (.int i11), s12, .unset, .unset, .unset] [(.int i10)])) _
    refine XS.bipush X0.here hx rfl (hb hby at_203) ?_
    show Steps p.tables e below (T0.setTop (mkF m 205 #[s0, s1, s2, s3, .val (.long q3), .second, s6, s7, s8, s9, .val (.int i10), .val (.int i11), s12, .unset, .unset, .unset] [(.int (9 : Int32)), (.int i10)])) _
    by_cases hc205 : i10 = (9 : Int32)
    · refine XS.icmpNo X0.here hx rfl (hb hby at_205) rfl (teq hc205).2 ?_
      show Steps p.tables e below (T0.setTop (mkF m 208 #[s0, s1, s2, s3, .val (.long q3), .second, s6, s7, s8, s9, .val (.int i10), .val (.int i11), s12, .unset, .unset, .unset] [])) _
      refine XS.iload X0.here hx rfl (hb hby at_208) rfl ?_
      show Steps p.tables e below (T0.setTop (mkF m 210 #[s0, s1, s2, s3, .val (.long q3), .second, s6, s7, s8, s9, .val (.int i10), .val (.int i11), s12, .unset, .unset, .unset] [(.int i11)])) _
      by_cases hc210 : i11 = (0 : Int32)
      · refine XS.ifYes X0.here hx rfl (pc0 := 210) (pc' := 217) rfl (hb hby at_210) rfl ((if0 _ _).trans (teq hc210).1) (by decide) (by decide) ?_
        show Steps p.tables e below (T0.setTop (mkF m 217 #[s0, s1, s2, s3, .val (.long q3), .second, s6, s7, s8, s9, .val (.int i10), .val (.int i11), s12, .unset, .unset, .unset] [])) _
        refine XS.iconst X0.here hx rfl (hb hby at_217) ?_
        show Steps p.tables e below (T0.setTop (mkF m 218 #[s0, s1, s2, s3, .val (.long q3), .second, s6, s7, s8, s9, .val (.int i10), .val (.int i11), s12, .unset, .unset, .unset] [(.int (0 : Int32))])) _
        refine XS.istore X0.here hx rfl (hb hby at_218) rfl (l' := #[s0, s1, s2, s3, .val (.long q3), .second, s6, s7, s8, s9, .val (.int i10), .val (.int i11), s12, .val (.int (0 : Int32)), .unset, .unset]) rfl ?_
        show Steps p.tables e below (T0.setTop (mkF m 220 #[s0, s1, s2, s3, .val (.long q3), .second, s6, s7, s8, s9, .val (.int i10), .val (.int i11), s12, .val (.int (0 : Int32)), .unset, .unset] [])) _
        refine XS.iload X0.here hx rfl (hb hby at_220) rfl ?_
        show Steps p.tables e below (T0.setTop (mkF m 222 #[s0, s1, s2, s3, .val (.long q3), .second, s6, s7, s8, s9, .val (.int i10), .val (.int i11), s12, .val (.int (0 : Int32)), .unset, .unset] [(.int (0 : Int32))])) _
        refine XS.ifYes X0.here hx rfl (pc0 := 222) (pc' := 234) rfl (hb hby at_222) rfl ((if0 _ _).trans (teq (rfl : (0 : Int32) = (0 : Int32))).1) (by decide) (by decide) ?_
        show Steps p.tables e below (T0.setTop (mkF m 234 #[s0, s1, s2, s3, .val (.long q3), .second, s6, s7, s8, s9, .val (.int i10), .val (.int i11), s12, .val (.int (0 : Int32)), .unset, .unset] [])) _
        refine X0.ldc2Long hx hown (mvT hZ (hw _ (List.mem_of_getElem? (i := 34) rfl))) (g := (mkF m 234 #[s0, s1, s2, s3, .val (.long q3), .second, s6, s7, s8, s9, .val (.int i10), .val (.int i11), s12, .val (.int (0 : Int32)), .unset, .unset] [])) rfl (hb hby at_234) _ ?_
        show Steps p.tables e below (T0.setTop (mkF m 237 #[s0, s1, s2, s3, .val (.long q3), .second, s6, s7, s8, s9, .val (.int i10), .val (.int i11), s12, .val (.int (0 : Int32)), .unset, .unset] [(.long (-2 : Int64))])) _
        refine XS.lstore X0.here hx rfl (hb hby at_237) rfl (l' := #[s0, s1, s2, s3, .val (.long q3), .second, s6, s7, s8, s9, .val (.int i10), .val (.int i11), s12, .val (.int (0 : Int32)), .val (.long (-2 : Int64)), .second]) rfl ?_
        rw [k1 hc198 hc205 hc210] at kt
        rw [k2 hc198 hc205 hc210] at kt
        exact kt
      · refine XS.ifNo X0.here hx rfl (hb hby at_210) rfl ((if0 _ _).trans (feq hc210).1) ?_
        show Steps p.tables e below (T0.setTop (mkF m 213 #[s0, s1, s2, s3, .val (.long q3), .second, s6, s7, s8, s9, .val (.int i10), .val (.int i11), s12, .unset, .unset, .unset] [])) _
        refine XS.iconst X0.here hx rfl (hb hby at_213) ?_
        show Steps p.tables e below (T0.setTop (mkF m 214 #[s0, s1, s2, s3, .val (.long q3), .second, s6, s7, s8, s9, .val (.int i10), .val (.int i11), s12, .unset, .unset, .unset] [(.int (1 : Int32))])) _
        refine XS.goto X0.here hx rfl (pc0 := 214) (pc' := 218) rfl (hb hby at_214) (by decide) (by decide) ?_
        show Steps p.tables e below (T0.setTop (mkF m 218 #[s0, s1, s2, s3, .val (.long q3), .second, s6, s7, s8, s9, .val (.int i10), .val (.int i11), s12, .unset, .unset, .unset] [(.int (1 : Int32))])) _
        refine XS.istore X0.here hx rfl (hb hby at_218) rfl (l' := #[s0, s1, s2, s3, .val (.long q3), .second, s6, s7, s8, s9, .val (.int i10), .val (.int i11), s12, .val (.int (1 : Int32)), .unset, .unset]) rfl ?_
        show Steps p.tables e below (T0.setTop (mkF m 220 #[s0, s1, s2, s3, .val (.long q3), .second, s6, s7, s8, s9, .val (.int i10), .val (.int i11), s12, .val (.int (1 : Int32)), .unset, .unset] [])) _
        refine XS.iload X0.here hx rfl (hb hby at_220) rfl ?_
        show Steps p.tables e below (T0.setTop (mkF m 222 #[s0, s1, s2, s3, .val (.long q3), .second, s6, s7, s8, s9, .val (.int i10), .val (.int i11), s12, .val (.int (1 : Int32)), .unset, .unset] [(.int (1 : Int32))])) _
        refine XS.ifNo X0.here hx rfl (hb hby at_222) rfl ((if0 _ _).trans (feq (by decide : ¬ ((1 : Int32) = (0 : Int32)))).1) ?_
        show Steps p.tables e below (T0.setTop (mkF m 225 #[s0, s1, s2, s3, .val (.long q3), .second, s6, s7, s8, s9, .val (.int i10), .val (.int i11), s12, .val (.int (1 : Int32)), .unset, .unset] [])) _
        refine XS.lload X0.here hx rfl (hb hby at_225) rfl ?_
        show Steps p.tables e below (T0.setTop (mkF m 227 #[s0, s1, s2, s3, .val (.long q3), .second, s6, s7, s8, s9, .val (.int i10), .val (.int i11), s12, .val (.int (1 : Int32)), .unset, .unset] [(.long q3)])) _
        refine XS.iload X0.here hx rfl (hb hby at_227) rfl ?_
        show Steps p.tables e below (T0.setTop (mkF m 229 #[s0, s1, s2, s3, .val (.long q3), .second, s6, s7, s8, s9, .val (.int i10), .val (.int i11), s12, .val (.int (1 : Int32)), .unset, .unset] [(.int i11), (.long q3)])) _
        refine XS.i2l X0.here hx rfl (hb hby at_229) rfl ?_
        show Steps p.tables e below (T0.setTop (mkF m 230 #[s0, s1, s2, s3, .val (.long q3), .second, s6, s7, s8, s9, .val (.int i10), .val (.int i11), s12, .val (.int (1 : Int32)), .unset, .unset] [(.long (i11.toInt64)), (.long q3)])) _
        refine XS.ladd X0.here hx rfl (hb hby at_230) rfl ?_
        show Steps p.tables e below (T0.setTop (mkF m 231 #[s0, s1, s2, s3, .val (.long q3), .second, s6, s7, s8, s9, .val (.int i10), .val (.int i11), s12, .val (.int (1 : Int32)), .unset, .unset] [(.long (q3 + (i11.toInt64)))])) _
        refine XS.goto X0.here hx rfl (pc0 := 231) (pc' := 237) rfl (hb hby at_231) (by decide) (by decide) ?_
        show Steps p.tables e below (T0.setTop (mkF m 237 #[s0, s1, s2, s3, .val (.long q3), .second, s6, s7, s8, s9, .val (.int i10), .val (.int i11), s12, .val (.int (1 : Int32)), .unset, .unset] [(.long (q3 + (i11.toInt64)))])) _
        refine XS.lstore X0.here hx rfl (hb hby at_237) rfl (l' := #[s0, s1, s2, s3, .val (.long q3), .second, s6, s7, s8, s9, .val (.int i10), .val (.int i11), s12, .val (.int (1 : Int32)), .val (.long (q3 + (i11.toInt64))), .second]) rfl ?_
        rw [k3 hc198 hc205 hc210] at kt
        rw [k4 hc198 hc205 hc210] at kt
        exact kt
    · refine XS.icmpYes X0.here hx rfl (pc0 := 205) (pc' := 213) rfl (hb hby at_205) rfl (feq hc205).2 (by decide) (by decide) ?_
      show Steps p.tables e below (T0.setTop (mkF m 213 #[s0, s1, s2, s3, .val (.long q3), .second, s6, s7, s8, s9, .val (.int i10), .val (.int i11), s12, .unset, .unset, .unset] [])) _
      refine XS.iconst X0.here hx rfl (hb hby at_213) ?_
      show Steps p.tables e below (T0.setTop (mkF m 214 #[s0, s1, s2, s3, .val (.long q3), .second, s6, s7, s8, s9, .val (.int i10), .val (.int i11), s12, .unset, .unset, .unset] [(.int (1 : Int32))])) _
      refine XS.goto X0.here hx rfl (pc0 := 214) (pc' := 218) rfl (hb hby at_214) (by decide) (by decide) ?_
      show Steps p.tables e below (T0.setTop (mkF m 218 #[s0, s1, s2, s3, .val (.long q3), .second, s6, s7, s8, s9, .val (.int i10), .val (.int i11), s12, .unset, .unset, .unset] [(.int (1 : Int32))])) _
      refine XS.istore X0.here hx rfl (hb hby at_218) rfl (l' := #[s0, s1, s2, s3, .val (.long q3), .second, s6, s7, s8, s9, .val (.int i10), .val (.int i11), s12, .val (.int (1 : Int32)), .unset, .unset]) rfl ?_
      show Steps p.tables e below (T0.setTop (mkF m 220 #[s0, s1, s2, s3, .val (.long q3), .second, s6, s7, s8, s9, .val (.int i10), .val (.int i11), s12, .val (.int (1 : Int32)), .unset, .unset] [])) _
      refine XS.iload X0.here hx rfl (hb hby at_220) rfl ?_
      show Steps p.tables e below (T0.setTop (mkF m 222 #[s0, s1, s2, s3, .val (.long q3), .second, s6, s7, s8, s9, .val (.int i10), .val (.int i11), s12, .val (.int (1 : Int32)), .unset, .unset] [(.int (1 : Int32))])) _
      refine XS.ifNo X0.here hx rfl (hb hby at_222) rfl ((if0 _ _).trans (feq (by decide : ¬ ((1 : Int32) = (0 : Int32)))).1) ?_
      show Steps p.tables e below (T0.setTop (mkF m 225 #[s0, s1, s2, s3, .val (.long q3), .second, s6, s7, s8, s9, .val (.int i10), .val (.int i11), s12, .val (.int (1 : Int32)), .unset, .unset] [])) _
      refine XS.lload X0.here hx rfl (hb hby at_225) rfl ?_
      show Steps p.tables e below (T0.setTop (mkF m 227 #[s0, s1, s2, s3, .val (.long q3), .second, s6, s7, s8, s9, .val (.int i10), .val (.int i11), s12, .val (.int (1 : Int32)), .unset, .unset] [(.long q3)])) _
      refine XS.iload X0.here hx rfl (hb hby at_227) rfl ?_
      show Steps p.tables e below (T0.setTop (mkF m 229 #[s0, s1, s2, s3, .val (.long q3), .second, s6, s7, s8, s9, .val (.int i10), .val (.int i11), s12, .val (.int (1 : Int32)), .unset, .unset] [(.int i11), (.long q3)])) _
      refine XS.i2l X0.here hx rfl (hb hby at_229) rfl ?_
      show Steps p.tables e below (T0.setTop (mkF m 230 #[s0, s1, s2, s3, .val (.long q3), .second, s6, s7, s8, s9, .val (.int i10), .val (.int i11), s12, .val (.int (1 : Int32)), .unset, .unset] [(.long (i11.toInt64)), (.long q3)])) _
      refine XS.ladd X0.here hx rfl (hb hby at_230) rfl ?_
      show Steps p.tables e below (T0.setTop (mkF m 231 #[s0, s1, s2, s3, .val (.long q3), .second, s6, s7, s8, s9, .val (.int i10), .val (.int i11), s12, .val (.int (1 : Int32)), .unset, .unset] [(.long (q3 + (i11.toInt64)))])) _
      refine XS.goto X0.here hx rfl (pc0 := 231) (pc' := 237) rfl (hb hby at_231) (by decide) (by decide) ?_
      show Steps p.tables e below (T0.setTop (mkF m 237 #[s0, s1, s2, s3, .val (.long q3), .second, s6, s7, s8, s9, .val (.int i10), .val (.int i11), s12, .val (.int (1 : Int32)), .unset, .unset] [(.long (q3 + (i11.toInt64)))])) _
      refine XS.lstore X0.here hx rfl (hb hby at_237) rfl (l' := #[s0, s1, s2, s3, .val (.long q3), .second, s6, s7, s8, s9, .val (.int i10), .val (.int i11), s12, .val (.int (1 : Int32)), .val (.long (q3 + (i11.toInt64))), .second]) rfl ?_
      rw [k5 hc198 hc205] at kt
      rw [k6 hc198 hc205] at kt
      exact kt
  · refine XS.icmpYes X0.here hx rfl (pc0 := 198) (pc' := 217) rfl (hb hby at_198) rfl (flt hc198).2.1 (by decide) (by decide) ?_
    show Steps p.tables e below (T0.setTop (mkF m 217 #[s0, s1, s2, s3, .val (.long q3), .second, s6, s7, s8, s9, .val (.int i10), .val (.int i11), s12, .unset, .unset, .unset] [])) _
    refine XS.iconst X0.here hx rfl (hb hby at_217) ?_
    show Steps p.tables e below (T0.setTop (mkF m 218 #[s0, s1, s2, s3, .val (.long q3), .second, s6, s7, s8, s9, .val (.int i10), .val (.int i11), s12, .unset, .unset, .unset] [(.int (0 : Int32))])) _
    refine XS.istore X0.here hx rfl (hb hby at_218) rfl (l' := #[s0, s1, s2, s3, .val (.long q3), .second, s6, s7, s8, s9, .val (.int i10), .val (.int i11), s12, .val (.int (0 : Int32)), .unset, .unset]) rfl ?_
    show Steps p.tables e below (T0.setTop (mkF m 220 #[s0, s1, s2, s3, .val (.long q3), .second, s6, s7, s8, s9, .val (.int i10), .val (.int i11), s12, .val (.int (0 : Int32)), .unset, .unset] [])) _
    refine XS.iload X0.here hx rfl (hb hby at_220) rfl ?_
    show Steps p.tables e below (T0.setTop (mkF m 222 #[s0, s1, s2, s3, .val (.long q3), .second, s6, s7, s8, s9, .val (.int i10), .val (.int i11), s12, .val (.int (0 : Int32)), .unset, .unset] [(.int (0 : Int32))])) _
    refine XS.ifYes X0.here hx rfl (pc0 := 222) (pc' := 234) rfl (hb hby at_222) rfl ((if0 _ _).trans (teq (rfl : (0 : Int32) = (0 : Int32))).1) (by decide) (by decide) ?_
    show Steps p.tables e below (T0.setTop (mkF m 234 #[s0, s1, s2, s3, .val (.long q3), .second, s6, s7, s8, s9, .val (.int i10), .val (.int i11), s12, .val (.int (0 : Int32)), .unset, .unset] [])) _
    refine X0.ldc2Long hx hown (mvT hZ (hw _ (List.mem_of_getElem? (i := 34) rfl))) (g := (mkF m 234 #[s0, s1, s2, s3, .val (.long q3), .second, s6, s7, s8, s9, .val (.int i10), .val (.int i11), s12, .val (.int (0 : Int32)), .unset, .unset] [])) rfl (hb hby at_234) _ ?_
    show Steps p.tables e below (T0.setTop (mkF m 237 #[s0, s1, s2, s3, .val (.long q3), .second, s6, s7, s8, s9, .val (.int i10), .val (.int i11), s12, .val (.int (0 : Int32)), .unset, .unset] [(.long (-2 : Int64))])) _
    refine XS.lstore X0.here hx rfl (hb hby at_237) rfl (l' := #[s0, s1, s2, s3, .val (.long q3), .second, s6, s7, s8, s9, .val (.int i10), .val (.int i11), s12, .val (.int (0 : Int32)), .val (.long (-2 : Int64)), .second]) rfl ?_
    rw [k7 hc198] at kt
    rw [k8 hc198] at kt
    exact kt
set_option maxRecDepth 65536 in
set_option maxHeartbeats 40000000 in
theorem segI {p : Program} {l : Launch} {e : Env} {R : Room} {s : State} {m : MethodId} {args : Array Value} {below : List Frame} {meth : Method} {c : Code} {T0 : State} {locs : List Loc} {cells slots : Nat} {Z : State} {a0 : Array Value} {h0 : Heap} (q1 : Int64) (q2 : Int64) (q3 : Int64) (p4 : Int32) (p5 : Int32) (r8 : Int64) (r10 : Int32) (r11 : Int32) 
    (X0 : Stand p l e R s m args below meth c T0 locs cells slots) (hx : p.tables.exec = Jvm.exec) (hZ : Z.Warmed39 s.vm) (hw : ∀ d ∈ tables_1, d.before a0 Z = true) (hby : c.code = code) (hml : c.maxLocals = 16) (hown : s.vm.findClass "com/example/binlens/binlens/TableMapsAnswerPinLaw" = some m.cls) (e0 : T0.heap = h0) (k1 : r8 = (q2 &&& (9223372036854775807 : Int64))) (k2 : r10 = ((p4 &&& (2147483647 : Int32)) % (10 : Int32))) (k3 : r11 = ((p5 &&& (2147483647 : Int32)) % (10 : Int32))) {target : State}
    (kt : Steps p.tables e below (T0.setTop (mkF m 27 #[.val (.long q1), .second, .val (.long q2), .second, .val (.long q3), .second, .val (.int p4), .val (.int p5), .val (.long r8), .second, .val (.int r10), .val (.int r11), .unset, .unset, .unset, .unset] [])) target) : Steps p.tables e below (T0.setTop (mkF m 0 #[.val (.long q1), .second, .val (.long q2), .second, .val (.long q3), .second, .val (.int p4), .val (.int p5), .unset, .unset, .unset, .unset, .unset, .unset, .unset, .unset] [])) target := by
  show Steps p.tables e below (T0.setTop (mkF m 0 #[.val (.long q1), .second, .val (.long q2), .second, .val (.long q3), .second, .val (.int p4), .val (.int p5), .unset, .unset, .unset, .unset, .unset, .unset, .unset, .unset] [])) _
  refine XS.lloadN X0.here hx rfl (hb hby at_0) rfl ?_
  show Steps p.tables e below (T0.setTop (mkF m 1 #[.val (.long q1), .second, .val (.long q2), .second, .val (.long q3), .second, .val (.int p4), .val (.int p5), .unset, .unset, .unset, .unset, .unset, .unset, .unset, .unset] [(.long q2)])) _
  refine X0.ldc2Long hx hown (mvT hZ (hw _ (List.mem_of_getElem? (i := 0) rfl))) (g := (mkF m 1 #[.val (.long q1), .second, .val (.long q2), .second, .val (.long q3), .second, .val (.int p4), .val (.int p5), .unset, .unset, .unset, .unset, .unset, .unset, .unset, .unset] [(.long q2)])) rfl (hb hby at_1) _ ?_
  show Steps p.tables e below (T0.setTop (mkF m 4 #[.val (.long q1), .second, .val (.long q2), .second, .val (.long q3), .second, .val (.int p4), .val (.int p5), .unset, .unset, .unset, .unset, .unset, .unset, .unset, .unset] [(.long (9223372036854775807 : Int64)), (.long q2)])) _
  refine XS.land X0.here hx rfl (hb hby at_4) rfl ?_
  show Steps p.tables e below (T0.setTop (mkF m 5 #[.val (.long q1), .second, .val (.long q2), .second, .val (.long q3), .second, .val (.int p4), .val (.int p5), .unset, .unset, .unset, .unset, .unset, .unset, .unset, .unset] [(.long (q2 &&& (9223372036854775807 : Int64)))])) _
  refine XS.lstore X0.here hx rfl (hb hby at_5) rfl (l' := #[.val (.long q1), .second, .val (.long q2), .second, .val (.long q3), .second, .val (.int p4), .val (.int p5), .val (.long (q2 &&& (9223372036854775807 : Int64))), .second, .unset, .unset, .unset, .unset, .unset, .unset]) rfl ?_
  show Steps p.tables e below (T0.setTop (mkF m 7 #[.val (.long q1), .second, .val (.long q2), .second, .val (.long q3), .second, .val (.int p4), .val (.int p5), .val (.long (q2 &&& (9223372036854775807 : Int64))), .second, .unset, .unset, .unset, .unset, .unset, .unset] [])) _
  refine XS.iload X0.here hx rfl (hb hby at_7) rfl ?_
  show Steps p.tables e below (T0.setTop (mkF m 9 #[.val (.long q1), .second, .val (.long q2), .second, .val (.long q3), .second, .val (.int p4), .val (.int p5), .val (.long (q2 &&& (9223372036854775807 : Int64))), .second, .unset, .unset, .unset, .unset, .unset, .unset] [(.int p4)])) _
  refine X0.ldcInt hx hown (mvT hZ (hw _ (List.mem_of_getElem? (i := 1) rfl))) (g := (mkF m 9 #[.val (.long q1), .second, .val (.long q2), .second, .val (.long q3), .second, .val (.int p4), .val (.int p5), .val (.long (q2 &&& (9223372036854775807 : Int64))), .second, .unset, .unset, .unset, .unset, .unset, .unset] [(.int p4)])) rfl (hb hby at_9) _ ?_
  show Steps p.tables e below (T0.setTop (mkF m 11 #[.val (.long q1), .second, .val (.long q2), .second, .val (.long q3), .second, .val (.int p4), .val (.int p5), .val (.long (q2 &&& (9223372036854775807 : Int64))), .second, .unset, .unset, .unset, .unset, .unset, .unset] [(.int (2147483647 : Int32)), (.int p4)])) _
  refine XS.iand X0.here hx rfl (hb hby at_11) rfl ?_
  show Steps p.tables e below (T0.setTop (mkF m 12 #[.val (.long q1), .second, .val (.long q2), .second, .val (.long q3), .second, .val (.int p4), .val (.int p5), .val (.long (q2 &&& (9223372036854775807 : Int64))), .second, .unset, .unset, .unset, .unset, .unset, .unset] [(.int (p4 &&& (2147483647 : Int32)))])) _
  refine XS.bipush X0.here hx rfl (hb hby at_12) ?_
  show Steps p.tables e below (T0.setTop (mkF m 14 #[.val (.long q1), .second, .val (.long q2), .second, .val (.long q3), .second, .val (.int p4), .val (.int p5), .val (.long (q2 &&& (9223372036854775807 : Int64))), .second, .unset, .unset, .unset, .unset, .unset, .unset] [(.int (10 : Int32)), (.int (p4 &&& (2147483647 : Int32)))])) _
  refine iremM (g := (mkF m 14 #[.val (.long q1), .second, .val (.long q2), .second, .val (.long q3), .second, .val (.int p4), .val (.int p5), .val (.long (q2 &&& (9223372036854775807 : Int64))), .second, .unset, .unset, .unset, .unset, .unset, .unset] [(.int (10 : Int32)), (.int (p4 &&& (2147483647 : Int32)))])) X0 hx rfl (hb hby at_14) rfl (by decide) ?_
  show Steps p.tables e below (T0.setTop (mkF m 15 #[.val (.long q1), .second, .val (.long q2), .second, .val (.long q3), .second, .val (.int p4), .val (.int p5), .val (.long (q2 &&& (9223372036854775807 : Int64))), .second, .unset, .unset, .unset, .unset, .unset, .unset] [(.int ((p4 &&& (2147483647 : Int32)) % (10 : Int32)))])) _
  refine XS.istore X0.here hx rfl (hb hby at_15) rfl (l' := #[.val (.long q1), .second, .val (.long q2), .second, .val (.long q3), .second, .val (.int p4), .val (.int p5), .val (.long (q2 &&& (9223372036854775807 : Int64))), .second, .val (.int ((p4 &&& (2147483647 : Int32)) % (10 : Int32))), .unset, .unset, .unset, .unset, .unset]) rfl ?_
  show Steps p.tables e below (T0.setTop (mkF m 17 #[.val (.long q1), .second, .val (.long q2), .second, .val (.long q3), .second, .val (.int p4), .val (.int p5), .val (.long (q2 &&& (9223372036854775807 : Int64))), .second, .val (.int ((p4 &&& (2147483647 : Int32)) % (10 : Int32))), .unset, .unset, .unset, .unset, .unset] [])) _
  refine XS.iload X0.here hx rfl (hb hby at_17) rfl ?_
  show Steps p.tables e below (T0.setTop (mkF m 19 #[.val (.long q1), .second, .val (.long q2), .second, .val (.long q3), .second, .val (.int p4), .val (.int p5), .val (.long (q2 &&& (9223372036854775807 : Int64))), .second, .val (.int ((p4 &&& (2147483647 : Int32)) % (10 : Int32))), .unset, .unset, .unset, .unset, .unset] [(.int p5)])) _
  refine X0.ldcInt hx hown (mvT hZ (hw _ (List.mem_of_getElem? (i := 1) rfl))) (g := (mkF m 19 #[.val (.long q1), .second, .val (.long q2), .second, .val (.long q3), .second, .val (.int p4), .val (.int p5), .val (.long (q2 &&& (9223372036854775807 : Int64))), .second, .val (.int ((p4 &&& (2147483647 : Int32)) % (10 : Int32))), .unset, .unset, .unset, .unset, .unset] [(.int p5)])) rfl (hb hby at_19) _ ?_
  show Steps p.tables e below (T0.setTop (mkF m 21 #[.val (.long q1), .second, .val (.long q2), .second, .val (.long q3), .second, .val (.int p4), .val (.int p5), .val (.long (q2 &&& (9223372036854775807 : Int64))), .second, .val (.int ((p4 &&& (2147483647 : Int32)) % (10 : Int32))), .unset, .unset, .unset, .unset, .unset] [(.int (2147483647 : Int32)), (.int p5)])) _
  refine XS.iand X0.here hx rfl (hb hby at_21) rfl ?_
  show Steps p.tables e below (T0.setTop (mkF m 22 #[.val (.long q1), .second, .val (.long q2), .second, .val (.long q3), .second, .val (.int p4), .val (.int p5), .val (.long (q2 &&& (9223372036854775807 : Int64))), .second, .val (.int ((p4 &&& (2147483647 : Int32)) % (10 : Int32))), .unset, .unset, .unset, .unset, .unset] [(.int (p5 &&& (2147483647 : Int32)))])) _
  refine XS.bipush X0.here hx rfl (hb hby at_22) ?_
  show Steps p.tables e below (T0.setTop (mkF m 24 #[.val (.long q1), .second, .val (.long q2), .second, .val (.long q3), .second, .val (.int p4), .val (.int p5), .val (.long (q2 &&& (9223372036854775807 : Int64))), .second, .val (.int ((p4 &&& (2147483647 : Int32)) % (10 : Int32))), .unset, .unset, .unset, .unset, .unset] [(.int (10 : Int32)), (.int (p5 &&& (2147483647 : Int32)))])) _
  refine iremM (g := (mkF m 24 #[.val (.long q1), .second, .val (.long q2), .second, .val (.long q3), .second, .val (.int p4), .val (.int p5), .val (.long (q2 &&& (9223372036854775807 : Int64))), .second, .val (.int ((p4 &&& (2147483647 : Int32)) % (10 : Int32))), .unset, .unset, .unset, .unset, .unset] [(.int (10 : Int32)), (.int (p5 &&& (2147483647 : Int32)))])) X0 hx rfl (hb hby at_24) rfl (by decide) ?_
  show Steps p.tables e below (T0.setTop (mkF m 25 #[.val (.long q1), .second, .val (.long q2), .second, .val (.long q3), .second, .val (.int p4), .val (.int p5), .val (.long (q2 &&& (9223372036854775807 : Int64))), .second, .val (.int ((p4 &&& (2147483647 : Int32)) % (10 : Int32))), .unset, .unset, .unset, .unset, .unset] [(.int ((p5 &&& (2147483647 : Int32)) % (10 : Int32)))])) _
  refine XS.istore X0.here hx rfl (hb hby at_25) rfl (l' := #[.val (.long q1), .second, .val (.long q2), .second, .val (.long q3), .second, .val (.int p4), .val (.int p5), .val (.long (q2 &&& (9223372036854775807 : Int64))), .second, .val (.int ((p4 &&& (2147483647 : Int32)) % (10 : Int32))), .val (.int ((p5 &&& (2147483647 : Int32)) % (10 : Int32))), .unset, .unset, .unset, .unset]) rfl ?_
  rw [k1] at kt
  rw [k2] at kt
  rw [k3] at kt
  exact kt
theorem pn_0 : plainName "com/example/binlens/binlens/TableMapsAnswerPinLaw" = true := by first | (simp [plainName, overriddenIn]; done) | decide +kernel
theorem ef_0 (m : MethodId) (q1 : Int64) (q2 : Int64) (q3 : Int64) (p4 : Int32) (p5 : Int32) : entryFrame m #[(.long q1), (.long q2), (.long q3), (.int p4), (.int p5)] maxLocals = mkF m 0 #[.val (.long q1), .second, .val (.long q2), .second, .val (.long q3), .second, .val (.int p4), .val (.int p5), .unset, .unset, .unset, .unset, .unset, .unset, .unset, .unset] [] := by first | (simp [entryFrame, mkF, argsToLocals, Value.category, maxLocals]; done) | rfl
theorem pd_0_0 : parseMethodDescriptor "(Lcom/example/binlens/binlens/TableMaps;JJJI)V" = some ⟨[(.object "com/example/binlens/binlens/TableMaps"), .long, .long, .long, .int], none⟩ := by decide +kernel
theorem pd_0_1 : parseMethodDescriptor "()V" = some ⟨[], none⟩ := by decide +kernel
theorem pd_0_2 : parseMethodDescriptor "(JJ)J" = some ⟨[.long, .long], some .long⟩ := by decide +kernel
set_option maxRecDepth 65536 in
set_option maxHeartbeats 40000000 in
theorem put0 {p : Program} {l : Launch} {e : Env} {s : State} {m : MethodId} {args : Array Value} {below : List Frame} {meth : Method} {c : Code} {T0 : State} {locs : List Loc} {Z : State} {a0 : Array Value} {h0 : Heap} (q1 q3 r8 : Int64) (cc : Nat) (hcc : cc < 10) (s2 s3 s6 s7 s11 : Slot) (o12 : Addr) (n0 : Nat)
    (X0 : Stand p l e room_1 s m args below meth c T0 locs 4 35) (hx : p.tables.exec = Jvm.exec) (hZ : Z.Warmed39 s.vm) (hw : ∀ d ∈ tables_1, d.before a0 Z = true) (hby : c.code = code) (hml : c.maxLocals = 16) (hown : s.vm.findClass "com/example/binlens/binlens/TableMapsAnswerPinLaw" = some m.cls) (e0 : T0.heap = h0) (Z0 : n0 ≤ h0.size) (N0 : Fr n0 locs) (TM : own_TM Z h0 o12 n0 (own_tell (own_N q1) own_zero (min cc 0)) (own_tell (own_E r8) own_none (min cc 0)) (own_tell (own_P q3) own_zero (min cc 0)) ((min cc 0) % 8)) :
    ∃ (T' : State) (h' : Heap) (locs' : List Loc), Stand p l e room_1 s m args below meth c T' locs' 4 35 ∧ T'.heap = h' ∧ Fr n0 locs' ∧ n0 ≤ h'.size ∧ own_TM Z h' o12 n0 (own_tell (own_N q1) own_zero (min cc 1)) (own_tell (own_E r8) own_none (min cc 1)) (own_tell (own_P q3) own_zero (min cc 1)) ((min cc 1) % 8) ∧ ∀ target, Steps p.tables e below (T'.setTop (mkF m 52 #[.val (.long q1), .second, s2, s3, .val (.long q3), .second, s6, s7, .val (.long r8), .second, .val (.int (Int32.ofNat cc)), s11, .val (.ref o12), .unset, .unset, .unset] [])) target → Steps p.tables e below (T0.setTop (mkF m 36 #[.val (.long q1), .second, s2, s3, .val (.long q3), .second, s6, s7, .val (.long r8), .second, .val (.int (Int32.ofNat cc)), s11, .val (.ref o12), .unset, .unset, .unset] [])) target := by
  by_cases hc : (0 : Int32) < (Int32.ofNat cc)
  · have hlt : 0 < cc := own_nlt hc (by decide) (by omega)
    have e0' : (min cc 0) = 0 := by omega
    have e1' : (min cc 1) = 1 := by omega
    rw [e0'] at TM
    rw [e1']
    have TM' : own_TM Z h0 o12 n0 (own_tell (own_N q1) own_zero 0) (own_tell (own_E r8) own_none 0) (own_tell (own_P q3) own_zero 0) 0 := TM
    obtain ⟨_, _, ⟨T1, L1, k1, n1⟩, -, X1, ⟨Lc1, hQ1, l1, y1, z1⟩, st1⟩ := Jvm.LawKit.callS X0 hx (y := (⟨"com/example/binlens/binlens/TableMapsAnswerPinLaw", "put", "(Lcom/example/binlens/binlens/TableMaps;JJJI)V"⟩ : MethodName)) hown (mvT hZ (hw _ (List.mem_of_getElem? (i := 23) rfl))) (mvT hZ (hw _ (List.mem_of_getElem? (i := 24) rfl))) (mvT hZ (hw _ (List.mem_of_getElem? (i := 25) rfl))) (mvT hZ (hw _ (List.mem_of_getElem? (i := 26) rfl))) (by decide) (backOf (W := 0) (rm4 l Z a0 hw [] o12 q1 r8 q3 (0 : Int32) (own_tell (own_N q1) own_zero 0) (own_tell (own_E r8) own_none 0) (own_tell (own_P q3) own_zero 0) 0 h0 n0 Z0 (by decide) TM') hZ (hw _ (List.mem_of_getElem? (i := 26) rfl)) (hw _ (List.mem_of_getElem? (i := 25) rfl)) (by decide) (by decide)) (g := (mkF m 49 #[.val (.long q1), .second, s2, s3, .val (.long q3), .second, s6, s7, .val (.long r8), .second, .val (.int (Int32.ofNat cc)), s11, .val (.ref o12), .unset, .unset, .unset] [(.int (0 : Int32)), (.long q3), (.long r8), (.long q1), (.ref o12)])) rfl (by rw [hml]; rfl) (argsL := [(.ref o12), (.long q1), (.long r8), (.long q3), (.int (0 : Int32))]) (rest := []) (lenOf pd_0_0 rfl) rfl (by show 2 * 0 + _ ≤ _; exact Nat.le_of_eq rfl) (hb hby at_49) (fun _ _ => ⟨rfl, e0, (by decide : 4 + 0 ≤ _), (by decide : 35 + 0 ≤ _)⟩)
    dsimp only [Pt.U, Pt.locs, Pt.cells, Pt.slots] at X1 l1 y1 z1 st1 hQ1
    subst l1 y1 z1
    obtain ⟨rfl, N1q, sz1, TM1⟩ := hQ1
    have N1 := Fr.app N0 N1q
    refine ⟨T1, _, _, X1, rfl, N1, Nat.le_trans Z0 sz1, TM1, fun target kt => ?_⟩
    show Steps p.tables e below (T0.setTop (mkF m 36 #[.val (.long q1), .second, s2, s3, .val (.long q3), .second, s6, s7, .val (.long r8), .second, .val (.int (Int32.ofNat cc)), s11, .val (.ref o12), .unset, .unset, .unset] [])) _
    refine XS.iload X0.here hx rfl (hb hby at_36) rfl ?_
    show Steps p.tables e below (T0.setTop (mkF m 38 #[.val (.long q1), .second, s2, s3, .val (.long q3), .second, s6, s7, .val (.long r8), .second, .val (.int (Int32.ofNat cc)), s11, .val (.ref o12), .unset, .unset, .unset] [(.int (Int32.ofNat cc))])) _
    refine XS.ifNo X0.here hx rfl (hb hby at_38) rfl ((if0 _ _).trans (tlt hc).2.2.2) ?_
    show Steps p.tables e below (T0.setTop (mkF m 41 #[.val (.long q1), .second, s2, s3, .val (.long q3), .second, s6, s7, .val (.long r8), .second, .val (.int (Int32.ofNat cc)), s11, .val (.ref o12), .unset, .unset, .unset] [])) _
    refine XS.aload X0.here hx rfl (hb hby at_41) rfl rfl ?_
    show Steps p.tables e below (T0.setTop (mkF m 43 #[.val (.long q1), .second, s2, s3, .val (.long q3), .second, s6, s7, .val (.long r8), .second, .val (.int (Int32.ofNat cc)), s11, .val (.ref o12), .unset, .unset, .unset] [(.ref o12)])) _
    refine XS.lloadN X0.here hx rfl (hb hby at_43) rfl ?_
    show Steps p.tables e below (T0.setTop (mkF m 44 #[.val (.long q1), .second, s2, s3, .val (.long q3), .second, s6, s7, .val (.long r8), .second, .val (.int (Int32.ofNat cc)), s11, .val (.ref o12), .unset, .unset, .unset] [(.long q1), (.ref o12)])) _
    refine XS.lload X0.here hx rfl (hb hby at_44) rfl ?_
    show Steps p.tables e below (T0.setTop (mkF m 46 #[.val (.long q1), .second, s2, s3, .val (.long q3), .second, s6, s7, .val (.long r8), .second, .val (.int (Int32.ofNat cc)), s11, .val (.ref o12), .unset, .unset, .unset] [(.long r8), (.long q1), (.ref o12)])) _
    refine XS.lload X0.here hx rfl (hb hby at_46) rfl ?_
    show Steps p.tables e below (T0.setTop (mkF m 48 #[.val (.long q1), .second, s2, s3, .val (.long q3), .second, s6, s7, .val (.long r8), .second, .val (.int (Int32.ofNat cc)), s11, .val (.ref o12), .unset, .unset, .unset] [(.long q3), (.long r8), (.long q1), (.ref o12)])) _
    refine XS.iconst X0.here hx rfl (hb hby at_48) ?_
    show Steps p.tables e below (T0.setTop (mkF m 49 #[.val (.long q1), .second, s2, s3, .val (.long q3), .second, s6, s7, .val (.long r8), .second, .val (.int (Int32.ofNat cc)), s11, .val (.ref o12), .unset, .unset, .unset] [(.int (0 : Int32)), (.long q3), (.long r8), (.long q1), (.ref o12)])) _
    refine st1 _ ?_
    exact kt
  · have hlt : ¬ 0 < cc := fun q => hc (own_lt q (by omega))
    have e1' : (min cc 1) = (min cc 0) := by omega
    rw [e1']
    refine ⟨T0, h0, locs, X0, e0, N0, Z0, TM, fun target kt => ?_⟩
    show Steps p.tables e below (T0.setTop (mkF m 36 #[.val (.long q1), .second, s2, s3, .val (.long q3), .second, s6, s7, .val (.long r8), .second, .val (.int (Int32.ofNat cc)), s11, .val (.ref o12), .unset, .unset, .unset] [])) _
    refine XS.iload X0.here hx rfl (hb hby at_36) rfl ?_
    show Steps p.tables e below (T0.setTop (mkF m 38 #[.val (.long q1), .second, s2, s3, .val (.long q3), .second, s6, s7, .val (.long r8), .second, .val (.int (Int32.ofNat cc)), s11, .val (.ref o12), .unset, .unset, .unset] [(.int (Int32.ofNat cc))])) _
    refine XS.ifYes X0.here hx rfl (pc0 := 38) (pc' := 52) rfl (hb hby at_38) rfl ((if0 _ _).trans (flt hc).2.2.2) (by decide) (by decide) ?_
    exact kt
set_option maxRecDepth 65536 in
set_option maxHeartbeats 40000000 in
theorem put1 {p : Program} {l : Launch} {e : Env} {s : State} {m : MethodId} {args : Array Value} {below : List Frame} {meth : Method} {c : Code} {T0 : State} {locs : List Loc} {Z : State} {a0 : Array Value} {h0 : Heap} (q1 q3 r8 : Int64) (cc : Nat) (hcc : cc < 10) (s2 s3 s6 s7 s11 : Slot) (o12 : Addr) (n0 : Nat)
    (X0 : Stand p l e room_1 s m args below meth c T0 locs 4 35) (hx : p.tables.exec = Jvm.exec) (hZ : Z.Warmed39 s.vm) (hw : ∀ d ∈ tables_1, d.before a0 Z = true) (hby : c.code = code) (hml : c.maxLocals = 16) (hown : s.vm.findClass "com/example/binlens/binlens/TableMapsAnswerPinLaw" = some m.cls) (e0 : T0.heap = h0) (Z0 : n0 ≤ h0.size) (N0 : Fr n0 locs) (TM : own_TM Z h0 o12 n0 (own_tell (own_N q1) own_zero (min cc 1)) (own_tell (own_E r8) own_none (min cc 1)) (own_tell (own_P q3) own_zero (min cc 1)) ((min cc 1) % 8)) :
    ∃ (T' : State) (h' : Heap) (locs' : List Loc), Stand p l e room_1 s m args below meth c T' locs' 4 35 ∧ T'.heap = h' ∧ Fr n0 locs' ∧ n0 ≤ h'.size ∧ own_TM Z h' o12 n0 (own_tell (own_N q1) own_zero (min cc 2)) (own_tell (own_E r8) own_none (min cc 2)) (own_tell (own_P q3) own_zero (min cc 2)) ((min cc 2) % 8) ∧ ∀ target, Steps p.tables e below (T'.setTop (mkF m 69 #[.val (.long q1), .second, s2, s3, .val (.long q3), .second, s6, s7, .val (.long r8), .second, .val (.int (Int32.ofNat cc)), s11, .val (.ref o12), .unset, .unset, .unset] [])) target → Steps p.tables e below (T0.setTop (mkF m 52 #[.val (.long q1), .second, s2, s3, .val (.long q3), .second, s6, s7, .val (.long r8), .second, .val (.int (Int32.ofNat cc)), s11, .val (.ref o12), .unset, .unset, .unset] [])) target := by
  by_cases hc : (1 : Int32) < (Int32.ofNat cc)
  · have hlt : 1 < cc := own_nlt hc (by decide) (by omega)
    have e0' : (min cc 1) = 1 := by omega
    have e1' : (min cc 2) = 2 := by omega
    rw [e0'] at TM
    rw [e1']
    have TM' : own_TM Z h0 o12 n0 (own_tell (own_N q1) own_zero 1) (own_tell (own_E r8) own_none 1) (own_tell (own_P q3) own_zero 1) 1 := TM
    obtain ⟨_, _, ⟨T1, L1, k1, n1⟩, -, X1, ⟨Lc1, hQ1, l1, y1, z1⟩, st1⟩ := Jvm.LawKit.callS X0 hx (y := (⟨"com/example/binlens/binlens/TableMapsAnswerPinLaw", "put", "(Lcom/example/binlens/binlens/TableMaps;JJJI)V"⟩ : MethodName)) hown (mvT hZ (hw _ (List.mem_of_getElem? (i := 23) rfl))) (mvT hZ (hw _ (List.mem_of_getElem? (i := 24) rfl))) (mvT hZ (hw _ (List.mem_of_getElem? (i := 25) rfl))) (mvT hZ (hw _ (List.mem_of_getElem? (i := 26) rfl))) (by decide) (backOf (W := 0) (rm4 l Z a0 hw [] o12 q1 r8 q3 (1 : Int32) (own_tell (own_N q1) own_zero 1) (own_tell (own_E r8) own_none 1) (own_tell (own_P q3) own_zero 1) 1 h0 n0 Z0 (by decide) TM') hZ (hw _ (List.mem_of_getElem? (i := 26) rfl)) (hw _ (List.mem_of_getElem? (i := 25) rfl)) (by decide) (by decide)) (g := (mkF m 66 #[.val (.long q1), .second, s2, s3, .val (.long q3), .second, s6, s7, .val (.long r8), .second, .val (.int (Int32.ofNat cc)), s11, .val (.ref o12), .unset, .unset, .unset] [(.int (1 : Int32)), (.long q3), (.long r8), (.long q1), (.ref o12)])) rfl (by rw [hml]; rfl) (argsL := [(.ref o12), (.long q1), (.long r8), (.long q3), (.int (1 : Int32))]) (rest := []) (lenOf pd_0_0 rfl) rfl (by show 2 * 0 + _ ≤ _; exact Nat.le_of_eq rfl) (hb hby at_66) (fun _ _ => ⟨rfl, e0, (by decide : 4 + 0 ≤ _), (by decide : 35 + 0 ≤ _)⟩)
    dsimp only [Pt.U, Pt.locs, Pt.cells, Pt.slots] at X1 l1 y1 z1 st1 hQ1
    subst l1 y1 z1
    obtain ⟨rfl, N1q, sz1, TM1⟩ := hQ1
    have N1 := Fr.app N0 N1q
    refine ⟨T1, _, _, X1, rfl, N1, Nat.le_trans Z0 sz1, TM1, fun target kt => ?_⟩
    show Steps p.tables e below (T0.setTop (mkF m 52 #[.val (.long q1), .second, s2, s3, .val (.long q3), .second, s6, s7, .val (.long r8), .second, .val (.int (Int32.ofNat cc)), s11, .val (.ref o12), .unset, .unset, .unset] [])) _
    refine XS.iload X0.here hx rfl (hb hby at_52) rfl ?_
    show Steps p.tables e below (T0.setTop (mkF m 54 #[.val (.long q1), .second, s2, s3, .val (.long q3), .second, s6, s7, .val (.long r8), .second, .val (.int (Int32.ofNat cc)), s11, .val (.ref o12), .unset, .unset, .unset] [(.int (Int32.ofNat cc))])) _
    refine XS.iconst X0.here hx rfl (hb hby at_54) ?_
    show Steps p.tables e below (T0.setTop (mkF m 55 #[.val (.long q1), .second, s2, s3, .val (.long q3), .second, s6, s7, .val (.long r8), .second, .val (.int (Int32.ofNat cc)), s11, .val (.ref o12), .unset, .unset, .unset] [(.int (1 : Int32)), (.int (Int32.ofNat cc))])) _
    refine XS.icmpNo X0.here hx rfl (hb hby at_55) rfl (tlt hc).2.2.2 ?_
    show Steps p.tables e below (T0.setTop (mkF m 58 #[.val (.long q1), .second, s2, s3, .val (.long q3), .second, s6, s7, .val (.long r8), .second, .val (.int (Int32.ofNat cc)), s11, .val (.ref o12), .unset, .unset, .unset] [])) _
    refine XS.aload X0.here hx rfl (hb hby at_58) rfl rfl ?_
    show Steps p.tables e below (T0.setTop (mkF m 60 #[.val (.long q1), .second, s2, s3, .val (.long q3), .second, s6, s7, .val (.long r8), .second, .val (.int (Int32.ofNat cc)), s11, .val (.ref o12), .unset, .unset, .unset] [(.ref o12)])) _
    refine XS.lloadN X0.here hx rfl (hb hby at_60) rfl ?_
    show Steps p.tables e below (T0.setTop (mkF m 61 #[.val (.long q1), .second, s2, s3, .val (.long q3), .second, s6, s7, .val (.long r8), .second, .val (.int (Int32.ofNat cc)), s11, .val (.ref o12), .unset, .unset, .unset] [(.long q1), (.ref o12)])) _
    refine XS.lload X0.here hx rfl (hb hby at_61) rfl ?_
    show Steps p.tables e below (T0.setTop (mkF m 63 #[.val (.long q1), .second, s2, s3, .val (.long q3), .second, s6, s7, .val (.long r8), .second, .val (.int (Int32.ofNat cc)), s11, .val (.ref o12), .unset, .unset, .unset] [(.long r8), (.long q1), (.ref o12)])) _
    refine XS.lload X0.here hx rfl (hb hby at_63) rfl ?_
    show Steps p.tables e below (T0.setTop (mkF m 65 #[.val (.long q1), .second, s2, s3, .val (.long q3), .second, s6, s7, .val (.long r8), .second, .val (.int (Int32.ofNat cc)), s11, .val (.ref o12), .unset, .unset, .unset] [(.long q3), (.long r8), (.long q1), (.ref o12)])) _
    refine XS.iconst X0.here hx rfl (hb hby at_65) ?_
    show Steps p.tables e below (T0.setTop (mkF m 66 #[.val (.long q1), .second, s2, s3, .val (.long q3), .second, s6, s7, .val (.long r8), .second, .val (.int (Int32.ofNat cc)), s11, .val (.ref o12), .unset, .unset, .unset] [(.int (1 : Int32)), (.long q3), (.long r8), (.long q1), (.ref o12)])) _
    refine st1 _ ?_
    exact kt
  · have hlt : ¬ 1 < cc := fun q => hc (own_lt q (by omega))
    have e1' : (min cc 2) = (min cc 1) := by omega
    rw [e1']
    refine ⟨T0, h0, locs, X0, e0, N0, Z0, TM, fun target kt => ?_⟩
    show Steps p.tables e below (T0.setTop (mkF m 52 #[.val (.long q1), .second, s2, s3, .val (.long q3), .second, s6, s7, .val (.long r8), .second, .val (.int (Int32.ofNat cc)), s11, .val (.ref o12), .unset, .unset, .unset] [])) _
    refine XS.iload X0.here hx rfl (hb hby at_52) rfl ?_
    show Steps p.tables e below (T0.setTop (mkF m 54 #[.val (.long q1), .second, s2, s3, .val (.long q3), .second, s6, s7, .val (.long r8), .second, .val (.int (Int32.ofNat cc)), s11, .val (.ref o12), .unset, .unset, .unset] [(.int (Int32.ofNat cc))])) _
    refine XS.iconst X0.here hx rfl (hb hby at_54) ?_
    show Steps p.tables e below (T0.setTop (mkF m 55 #[.val (.long q1), .second, s2, s3, .val (.long q3), .second, s6, s7, .val (.long r8), .second, .val (.int (Int32.ofNat cc)), s11, .val (.ref o12), .unset, .unset, .unset] [(.int (1 : Int32)), (.int (Int32.ofNat cc))])) _
    refine XS.icmpYes X0.here hx rfl (pc0 := 55) (pc' := 69) rfl (hb hby at_55) rfl (flt hc).2.2.2 (by decide) (by decide) ?_
    exact kt
set_option maxRecDepth 65536 in
set_option maxHeartbeats 40000000 in
theorem put2 {p : Program} {l : Launch} {e : Env} {s : State} {m : MethodId} {args : Array Value} {below : List Frame} {meth : Method} {c : Code} {T0 : State} {locs : List Loc} {Z : State} {a0 : Array Value} {h0 : Heap} (q1 q3 r8 : Int64) (cc : Nat) (hcc : cc < 10) (s2 s3 s6 s7 s11 : Slot) (o12 : Addr) (n0 : Nat)
    (X0 : Stand p l e room_1 s m args below meth c T0 locs 4 35) (hx : p.tables.exec = Jvm.exec) (hZ : Z.Warmed39 s.vm) (hw : ∀ d ∈ tables_1, d.before a0 Z = true) (hby : c.code = code) (hml : c.maxLocals = 16) (hown : s.vm.findClass "com/example/binlens/binlens/TableMapsAnswerPinLaw" = some m.cls) (e0 : T0.heap = h0) (Z0 : n0 ≤ h0.size) (N0 : Fr n0 locs) (TM : own_TM Z h0 o12 n0 (own_tell (own_N q1) own_zero (min cc 2)) (own_tell (own_E r8) own_none (min cc 2)) (own_tell (own_P q3) own_zero (min cc 2)) ((min cc 2) % 8)) :
    ∃ (T' : State) (h' : Heap) (locs' : List Loc), Stand p l e room_1 s m args below meth c T' locs' 4 35 ∧ T'.heap = h' ∧ Fr n0 locs' ∧ n0 ≤ h'.size ∧ own_TM Z h' o12 n0 (own_tell (own_N q1) own_zero (min cc 3)) (own_tell (own_E r8) own_none (min cc 3)) (own_tell (own_P q3) own_zero (min cc 3)) ((min cc 3) % 8) ∧ ∀ target, Steps p.tables e below (T'.setTop (mkF m 86 #[.val (.long q1), .second, s2, s3, .val (.long q3), .second, s6, s7, .val (.long r8), .second, .val (.int (Int32.ofNat cc)), s11, .val (.ref o12), .unset, .unset, .unset] [])) target → Steps p.tables e below (T0.setTop (mkF m 69 #[.val (.long q1), .second, s2, s3, .val (.long q3), .second, s6, s7, .val (.long r8), .second, .val (.int (Int32.ofNat cc)), s11, .val (.ref o12), .unset, .unset, .unset] [])) target := by
  by_cases hc : (2 : Int32) < (Int32.ofNat cc)
  · have hlt : 2 < cc := own_nlt hc (by decide) (by omega)
    have e0' : (min cc 2) = 2 := by omega
    have e1' : (min cc 3) = 3 := by omega
    rw [e0'] at TM
    rw [e1']
    have TM' : own_TM Z h0 o12 n0 (own_tell (own_N q1) own_zero 2) (own_tell (own_E r8) own_none 2) (own_tell (own_P q3) own_zero 2) 2 := TM
    obtain ⟨_, _, ⟨T1, L1, k1, n1⟩, -, X1, ⟨Lc1, hQ1, l1, y1, z1⟩, st1⟩ := Jvm.LawKit.callS X0 hx (y := (⟨"com/example/binlens/binlens/TableMapsAnswerPinLaw", "put", "(Lcom/example/binlens/binlens/TableMaps;JJJI)V"⟩ : MethodName)) hown (mvT hZ (hw _ (List.mem_of_getElem? (i := 23) rfl))) (mvT hZ (hw _ (List.mem_of_getElem? (i := 24) rfl))) (mvT hZ (hw _ (List.mem_of_getElem? (i := 25) rfl))) (mvT hZ (hw _ (List.mem_of_getElem? (i := 26) rfl))) (by decide) (backOf (W := 0) (rm4 l Z a0 hw [] o12 q1 r8 q3 (2 : Int32) (own_tell (own_N q1) own_zero 2) (own_tell (own_E r8) own_none 2) (own_tell (own_P q3) own_zero 2) 2 h0 n0 Z0 (by decide) TM') hZ (hw _ (List.mem_of_getElem? (i := 26) rfl)) (hw _ (List.mem_of_getElem? (i := 25) rfl)) (by decide) (by decide)) (g := (mkF m 83 #[.val (.long q1), .second, s2, s3, .val (.long q3), .second, s6, s7, .val (.long r8), .second, .val (.int (Int32.ofNat cc)), s11, .val (.ref o12), .unset, .unset, .unset] [(.int (2 : Int32)), (.long q3), (.long r8), (.long q1), (.ref o12)])) rfl (by rw [hml]; rfl) (argsL := [(.ref o12), (.long q1), (.long r8), (.long q3), (.int (2 : Int32))]) (rest := []) (lenOf pd_0_0 rfl) rfl (by show 2 * 0 + _ ≤ _; exact Nat.le_of_eq rfl) (hb hby at_83) (fun _ _ => ⟨rfl, e0, (by decide : 4 + 0 ≤ _), (by decide : 35 + 0 ≤ _)⟩)
    dsimp only [Pt.U, Pt.locs, Pt.cells, Pt.slots] at X1 l1 y1 z1 st1 hQ1
    subst l1 y1 z1
    obtain ⟨rfl, N1q, sz1, TM1⟩ := hQ1
    have N1 := Fr.app N0 N1q
    refine ⟨T1, _, _, X1, rfl, N1, Nat.le_trans Z0 sz1, TM1, fun target kt => ?_⟩
    show Steps p.tables e below (T0.setTop (mkF m 69 #[.val (.long q1), .second, s2, s3, .val (.long q3), .second, s6, s7, .val (.long r8), .second, .val (.int (Int32.ofNat cc)), s11, .val (.ref o12), .unset, .unset, .unset] [])) _
    refine XS.iload X0.here hx rfl (hb hby at_69) rfl ?_
    show Steps p.tables e below (T0.setTop (mkF m 71 #[.val (.long q1), .second, s2, s3, .val (.long q3), .second, s6, s7, .val (.long r8), .second, .val (.int (Int32.ofNat cc)), s11, .val (.ref o12), .unset, .unset, .unset] [(.int (Int32.ofNat cc))])) _
    refine XS.iconst X0.here hx rfl (hb hby at_71) ?_
    show Steps p.tables e below (T0.setTop (mkF m 72 #[.val (.long q1), .second, s2, s3, .val (.long q3), .second, s6, s7, .val (.long r8), .second, .val (.int (Int32.ofNat cc)), s11, .val (.ref o12), .unset, .unset, .unset] [(.int (2 : Int32)), (.int (Int32.ofNat cc))])) _
    refine XS.icmpNo X0.here hx rfl (hb hby at_72) rfl (tlt hc).2.2.2 ?_
    show Steps p.tables e below (T0.setTop (mkF m 75 #[.val (.long q1), .second, s2, s3, .val (.long q3), .second, s6, s7, .val (.long r8), .second, .val (.int (Int32.ofNat cc)), s11, .val (.ref o12), .unset, .unset, .unset] [])) _
    refine XS.aload X0.here hx rfl (hb hby at_75) rfl rfl ?_
    show Steps p.tables e below (T0.setTop (mkF m 77 #[.val (.long q1), .second, s2, s3, .val (.long q3), .second, s6, s7, .val (.long r8), .second, .val (.int (Int32.ofNat cc)), s11, .val (.ref o12), .unset, .unset, .unset] [(.ref o12)])) _
    refine XS.lloadN X0.here hx rfl (hb hby at_77) rfl ?_
    show Steps p.tables e below (T0.setTop (mkF m 78 #[.val (.long q1), .second, s2, s3, .val (.long q3), .second, s6, s7, .val (.long r8), .second, .val (.int (Int32.ofNat cc)), s11, .val (.ref o12), .unset, .unset, .unset] [(.long q1), (.ref o12)])) _
    refine XS.lload X0.here hx rfl (hb hby at_78) rfl ?_
    show Steps p.tables e below (T0.setTop (mkF m 80 #[.val (.long q1), .second, s2, s3, .val (.long q3), .second, s6, s7, .val (.long r8), .second, .val (.int (Int32.ofNat cc)), s11, .val (.ref o12), .unset, .unset, .unset] [(.long r8), (.long q1), (.ref o12)])) _
    refine XS.lload X0.here hx rfl (hb hby at_80) rfl ?_
    show Steps p.tables e below (T0.setTop (mkF m 82 #[.val (.long q1), .second, s2, s3, .val (.long q3), .second, s6, s7, .val (.long r8), .second, .val (.int (Int32.ofNat cc)), s11, .val (.ref o12), .unset, .unset, .unset] [(.long q3), (.long r8), (.long q1), (.ref o12)])) _
    refine XS.iconst X0.here hx rfl (hb hby at_82) ?_
    show Steps p.tables e below (T0.setTop (mkF m 83 #[.val (.long q1), .second, s2, s3, .val (.long q3), .second, s6, s7, .val (.long r8), .second, .val (.int (Int32.ofNat cc)), s11, .val (.ref o12), .unset, .unset, .unset] [(.int (2 : Int32)), (.long q3), (.long r8), (.long q1), (.ref o12)])) _
    refine st1 _ ?_
    exact kt
  · have hlt : ¬ 2 < cc := fun q => hc (own_lt q (by omega))
    have e1' : (min cc 3) = (min cc 2) := by omega
    rw [e1']
    refine ⟨T0, h0, locs, X0, e0, N0, Z0, TM, fun target kt => ?_⟩
    show Steps p.tables e below (T0.setTop (mkF m 69 #[.val (.long q1), .second, s2, s3, .val (.long q3), .second, s6, s7, .val (.long r8), .second, .val (.int (Int32.ofNat cc)), s11, .val (.ref o12), .unset, .unset, .unset] [])) _
    refine XS.iload X0.here hx rfl (hb hby at_69) rfl ?_
    show Steps p.tables e below (T0.setTop (mkF m 71 #[.val (.long q1), .second, s2, s3, .val (.long q3), .second, s6, s7, .val (.long r8), .second, .val (.int (Int32.ofNat cc)), s11, .val (.ref o12), .unset, .unset, .unset] [(.int (Int32.ofNat cc))])) _
    refine XS.iconst X0.here hx rfl (hb hby at_71) ?_
    show Steps p.tables e below (T0.setTop (mkF m 72 #[.val (.long q1), .second, s2, s3, .val (.long q3), .second, s6, s7, .val (.long r8), .second, .val (.int (Int32.ofNat cc)), s11, .val (.ref o12), .unset, .unset, .unset] [(.int (2 : Int32)), (.int (Int32.ofNat cc))])) _
    refine XS.icmpYes X0.here hx rfl (pc0 := 72) (pc' := 86) rfl (hb hby at_72) rfl (flt hc).2.2.2 (by decide) (by decide) ?_
    exact kt
set_option maxRecDepth 65536 in
set_option maxHeartbeats 40000000 in
theorem put3 {p : Program} {l : Launch} {e : Env} {s : State} {m : MethodId} {args : Array Value} {below : List Frame} {meth : Method} {c : Code} {T0 : State} {locs : List Loc} {Z : State} {a0 : Array Value} {h0 : Heap} (q1 q3 r8 : Int64) (cc : Nat) (hcc : cc < 10) (s2 s3 s6 s7 s11 : Slot) (o12 : Addr) (n0 : Nat)
    (X0 : Stand p l e room_1 s m args below meth c T0 locs 4 35) (hx : p.tables.exec = Jvm.exec) (hZ : Z.Warmed39 s.vm) (hw : ∀ d ∈ tables_1, d.before a0 Z = true) (hby : c.code = code) (hml : c.maxLocals = 16) (hown : s.vm.findClass "com/example/binlens/binlens/TableMapsAnswerPinLaw" = some m.cls) (e0 : T0.heap = h0) (Z0 : n0 ≤ h0.size) (N0 : Fr n0 locs) (TM : own_TM Z h0 o12 n0 (own_tell (own_N q1) own_zero (min cc 3)) (own_tell (own_E r8) own_none (min cc 3)) (own_tell (own_P q3) own_zero (min cc 3)) ((min cc 3) % 8)) :
    ∃ (T' : State) (h' : Heap) (locs' : List Loc), Stand p l e room_1 s m args below meth c T' locs' 4 35 ∧ T'.heap = h' ∧ Fr n0 locs' ∧ n0 ≤ h'.size ∧ own_TM Z h' o12 n0 (own_tell (own_N q1) own_zero (min cc 4)) (own_tell (own_E r8) own_none (min cc 4)) (own_tell (own_P q3) own_zero (min cc 4)) ((min cc 4) % 8) ∧ ∀ target, Steps p.tables e below (T'.setTop (mkF m 103 #[.val (.long q1), .second, s2, s3, .val (.long q3), .second, s6, s7, .val (.long r8), .second, .val (.int (Int32.ofNat cc)), s11, .val (.ref o12), .unset, .unset, .unset] [])) target → Steps p.tables e below (T0.setTop (mkF m 86 #[.val (.long q1), .second, s2, s3, .val (.long q3), .second, s6, s7, .val (.long r8), .second, .val (.int (Int32.ofNat cc)), s11, .val (.ref o12), .unset, .unset, .unset] [])) target := by
  by_cases hc : (3 : Int32) < (Int32.ofNat cc)
  · have hlt : 3 < cc := own_nlt hc (by decide) (by omega)
    have e0' : (min cc 3) = 3 := by omega
    have e1' : (min cc 4) = 4 := by omega
    rw [e0'] at TM
    rw [e1']
    have TM' : own_TM Z h0 o12 n0 (own_tell (own_N q1) own_zero 3) (own_tell (own_E r8) own_none 3) (own_tell (own_P q3) own_zero 3) 3 := TM
    obtain ⟨_, _, ⟨T1, L1, k1, n1⟩, -, X1, ⟨Lc1, hQ1, l1, y1, z1⟩, st1⟩ := Jvm.LawKit.callS X0 hx (y := (⟨"com/example/binlens/binlens/TableMapsAnswerPinLaw", "put", "(Lcom/example/binlens/binlens/TableMaps;JJJI)V"⟩ : MethodName)) hown (mvT hZ (hw _ (List.mem_of_getElem? (i := 23) rfl))) (mvT hZ (hw _ (List.mem_of_getElem? (i := 24) rfl))) (mvT hZ (hw _ (List.mem_of_getElem? (i := 25) rfl))) (mvT hZ (hw _ (List.mem_of_getElem? (i := 26) rfl))) (by decide) (backOf (W := 0) (rm4 l Z a0 hw [] o12 q1 r8 q3 (3 : Int32) (own_tell (own_N q1) own_zero 3) (own_tell (own_E r8) own_none 3) (own_tell (own_P q3) own_zero 3) 3 h0 n0 Z0 (by decide) TM') hZ (hw _ (List.mem_of_getElem? (i := 26) rfl)) (hw _ (List.mem_of_getElem? (i := 25) rfl)) (by decide) (by decide)) (g := (mkF m 100 #[.val (.long q1), .second, s2, s3, .val (.long q3), .second, s6, s7, .val (.long r8), .second, .val (.int (Int32.ofNat cc)), s11, .val (.ref o12), .unset, .unset, .unset] [(.int (3 : Int32)), (.long q3), (.long r8), (.long q1), (.ref o12)])) rfl (by rw [hml]; rfl) (argsL := [(.ref o12), (.long q1), (.long r8), (.long q3), (.int (3 : Int32))]) (rest := []) (lenOf pd_0_0 rfl) rfl (by show 2 * 0 + _ ≤ _; exact Nat.le_of_eq rfl) (hb hby at_100) (fun _ _ => ⟨rfl, e0, (by decide : 4 + 0 ≤ _), (by decide : 35 + 0 ≤ _)⟩)
    dsimp only [Pt.U, Pt.locs, Pt.cells, Pt.slots] at X1 l1 y1 z1 st1 hQ1
    subst l1 y1 z1
    obtain ⟨rfl, N1q, sz1, TM1⟩ := hQ1
    have N1 := Fr.app N0 N1q
    refine ⟨T1, _, _, X1, rfl, N1, Nat.le_trans Z0 sz1, TM1, fun target kt => ?_⟩
    show Steps p.tables e below (T0.setTop (mkF m 86 #[.val (.long q1), .second, s2, s3, .val (.long q3), .second, s6, s7, .val (.long r8), .second, .val (.int (Int32.ofNat cc)), s11, .val (.ref o12), .unset, .unset, .unset] [])) _
    refine XS.iload X0.here hx rfl (hb hby at_86) rfl ?_
    show Steps p.tables e below (T0.setTop (mkF m 88 #[.val (.long q1), .second, s2, s3, .val (.long q3), .second, s6, s7, .val (.long r8), .second, .val (.int (Int32.ofNat cc)), s11, .val (.ref o12), .unset, .unset, .unset] [(.int (Int32.ofNat cc))])) _
    refine XS.iconst X0.here hx rfl (hb hby at_88) ?_
    show Steps p.tables e below (T0.setTop (mkF m 89 #[.val (.long q1), .second, s2, s3, .val (.long q3), .second, s6, s7, .val (.long r8), .second, .val (.int (Int32.ofNat cc)), s11, .val (.ref o12), .unset, .unset, .unset] [(.int (3 : Int32)), (.int (Int32.ofNat cc))])) _
    refine XS.icmpNo X0.here hx rfl (hb hby at_89) rfl (tlt hc).2.2.2 ?_
    show Steps p.tables e below (T0.setTop (mkF m 92 #[.val (.long q1), .second, s2, s3, .val (.long q3), .second, s6, s7, .val (.long r8), .second, .val (.int (Int32.ofNat cc)), s11, .val (.ref o12), .unset, .unset, .unset] [])) _
    refine XS.aload X0.here hx rfl (hb hby at_92) rfl rfl ?_
    show Steps p.tables e below (T0.setTop (mkF m 94 #[.val (.long q1), .second, s2, s3, .val (.long q3), .second, s6, s7, .val (.long r8), .second, .val (.int (Int32.ofNat cc)), s11, .val (.ref o12), .unset, .unset, .unset] [(.ref o12)])) _
    refine XS.lloadN X0.here hx rfl (hb hby at_94) rfl ?_
    show Steps p.tables e below (T0.setTop (mkF m 95 #[.val (.long q1), .second, s2, s3, .val (.long q3), .second, s6, s7, .val (.long r8), .second, .val (.int (Int32.ofNat cc)), s11, .val (.ref o12), .unset, .unset, .unset] [(.long q1), (.ref o12)])) _
    refine XS.lload X0.here hx rfl (hb hby at_95) rfl ?_
    show Steps p.tables e below (T0.setTop (mkF m 97 #[.val (.long q1), .second, s2, s3, .val (.long q3), .second, s6, s7, .val (.long r8), .second, .val (.int (Int32.ofNat cc)), s11, .val (.ref o12), .unset, .unset, .unset] [(.long r8), (.long q1), (.ref o12)])) _
    refine XS.lload X0.here hx rfl (hb hby at_97) rfl ?_
    show Steps p.tables e below (T0.setTop (mkF m 99 #[.val (.long q1), .second, s2, s3, .val (.long q3), .second, s6, s7, .val (.long r8), .second, .val (.int (Int32.ofNat cc)), s11, .val (.ref o12), .unset, .unset, .unset] [(.long q3), (.long r8), (.long q1), (.ref o12)])) _
    refine XS.iconst X0.here hx rfl (hb hby at_99) ?_
    show Steps p.tables e below (T0.setTop (mkF m 100 #[.val (.long q1), .second, s2, s3, .val (.long q3), .second, s6, s7, .val (.long r8), .second, .val (.int (Int32.ofNat cc)), s11, .val (.ref o12), .unset, .unset, .unset] [(.int (3 : Int32)), (.long q3), (.long r8), (.long q1), (.ref o12)])) _
    refine st1 _ ?_
    exact kt
  · have hlt : ¬ 3 < cc := fun q => hc (own_lt q (by omega))
    have e1' : (min cc 4) = (min cc 3) := by omega
    rw [e1']
    refine ⟨T0, h0, locs, X0, e0, N0, Z0, TM, fun target kt => ?_⟩
    show Steps p.tables e below (T0.setTop (mkF m 86 #[.val (.long q1), .second, s2, s3, .val (.long q3), .second, s6, s7, .val (.long r8), .second, .val (.int (Int32.ofNat cc)), s11, .val (.ref o12), .unset, .unset, .unset] [])) _
    refine XS.iload X0.here hx rfl (hb hby at_86) rfl ?_
    show Steps p.tables e below (T0.setTop (mkF m 88 #[.val (.long q1), .second, s2, s3, .val (.long q3), .second, s6, s7, .val (.long r8), .second, .val (.int (Int32.ofNat cc)), s11, .val (.ref o12), .unset, .unset, .unset] [(.int (Int32.ofNat cc))])) _
    refine XS.iconst X0.here hx rfl (hb hby at_88) ?_
    show Steps p.tables e below (T0.setTop (mkF m 89 #[.val (.long q1), .second, s2, s3, .val (.long q3), .second, s6, s7, .val (.long r8), .second, .val (.int (Int32.ofNat cc)), s11, .val (.ref o12), .unset, .unset, .unset] [(.int (3 : Int32)), (.int (Int32.ofNat cc))])) _
    refine XS.icmpYes X0.here hx rfl (pc0 := 89) (pc' := 103) rfl (hb hby at_89) rfl (flt hc).2.2.2 (by decide) (by decide) ?_
    exact kt
set_option maxRecDepth 65536 in
set_option maxHeartbeats 40000000 in
theorem put4 {p : Program} {l : Launch} {e : Env} {s : State} {m : MethodId} {args : Array Value} {below : List Frame} {meth : Method} {c : Code} {T0 : State} {locs : List Loc} {Z : State} {a0 : Array Value} {h0 : Heap} (q1 q3 r8 : Int64) (cc : Nat) (hcc : cc < 10) (s2 s3 s6 s7 s11 : Slot) (o12 : Addr) (n0 : Nat)
    (X0 : Stand p l e room_1 s m args below meth c T0 locs 4 35) (hx : p.tables.exec = Jvm.exec) (hZ : Z.Warmed39 s.vm) (hw : ∀ d ∈ tables_1, d.before a0 Z = true) (hby : c.code = code) (hml : c.maxLocals = 16) (hown : s.vm.findClass "com/example/binlens/binlens/TableMapsAnswerPinLaw" = some m.cls) (e0 : T0.heap = h0) (Z0 : n0 ≤ h0.size) (N0 : Fr n0 locs) (TM : own_TM Z h0 o12 n0 (own_tell (own_N q1) own_zero (min cc 4)) (own_tell (own_E r8) own_none (min cc 4)) (own_tell (own_P q3) own_zero (min cc 4)) ((min cc 4) % 8)) :
    ∃ (T' : State) (h' : Heap) (locs' : List Loc), Stand p l e room_1 s m args below meth c T' locs' 4 35 ∧ T'.heap = h' ∧ Fr n0 locs' ∧ n0 ≤ h'.size ∧ own_TM Z h' o12 n0 (own_tell (own_N q1) own_zero (min cc 5)) (own_tell (own_E r8) own_none (min cc 5)) (own_tell (own_P q3) own_zero (min cc 5)) ((min cc 5) % 8) ∧ ∀ target, Steps p.tables e below (T'.setTop (mkF m 120 #[.val (.long q1), .second, s2, s3, .val (.long q3), .second, s6, s7, .val (.long r8), .second, .val (.int (Int32.ofNat cc)), s11, .val (.ref o12), .unset, .unset, .unset] [])) target → Steps p.tables e below (T0.setTop (mkF m 103 #[.val (.long q1), .second, s2, s3, .val (.long q3), .second, s6, s7, .val (.long r8), .second, .val (.int (Int32.ofNat cc)), s11, .val (.ref o12), .unset, .unset, .unset] [])) target := by
  by_cases hc : (4 : Int32) < (Int32.ofNat cc)
  · have hlt : 4 < cc := own_nlt hc (by decide) (by omega)
    have e0' : (min cc 4) = 4 := by omega
    have e1' : (min cc 5) = 5 := by omega
    rw [e0'] at TM
    rw [e1']
    have TM' : own_TM Z h0 o12 n0 (own_tell (own_N q1) own_zero 4) (own_tell (own_E r8) own_none 4) (own_tell (own_P q3) own_zero 4) 4 := TM
    obtain ⟨_, _, ⟨T1, L1, k1, n1⟩, -, X1, ⟨Lc1, hQ1, l1, y1, z1⟩, st1⟩ := Jvm.LawKit.callS X0 hx (y := (⟨"com/example/binlens/binlens/TableMapsAnswerPinLaw", "put", "(Lcom/example/binlens/binlens/TableMaps;JJJI)V"⟩ : MethodName)) hown (mvT hZ (hw _ (List.mem_of_getElem? (i := 23) rfl))) (mvT hZ (hw _ (List.mem_of_getElem? (i := 24) rfl))) (mvT hZ (hw _ (List.mem_of_getElem? (i := 25) rfl))) (mvT hZ (hw _ (List.mem_of_getElem? (i := 26) rfl))) (by decide) (backOf (W := 0) (rm4 l Z a0 hw [] o12 q1 r8 q3 (4 : Int32) (own_tell (own_N q1) own_zero 4) (own_tell (own_E r8) own_none 4) (own_tell (own_P q3) own_zero 4) 4 h0 n0 Z0 (by decide) TM') hZ (hw _ (List.mem_of_getElem? (i := 26) rfl)) (hw _ (List.mem_of_getElem? (i := 25) rfl)) (by decide) (by decide)) (g := (mkF m 117 #[.val (.long q1), .second, s2, s3, .val (.long q3), .second, s6, s7, .val (.long r8), .second, .val (.int (Int32.ofNat cc)), s11, .val (.ref o12), .unset, .unset, .unset] [(.int (4 : Int32)), (.long q3), (.long r8), (.long q1), (.ref o12)])) rfl (by rw [hml]; rfl) (argsL := [(.ref o12), (.long q1), (.long r8), (.long q3), (.int (4 : Int32))]) (rest := []) (lenOf pd_0_0 rfl) rfl (by show 2 * 0 + _ ≤ _; exact Nat.le_of_eq rfl) (hb hby at_117) (fun _ _ => ⟨rfl, e0, (by decide : 4 + 0 ≤ _), (by decide : 35 + 0 ≤ _)⟩)
    dsimp only [Pt.U, Pt.locs, Pt.cells, Pt.slots] at X1 l1 y1 z1 st1 hQ1
    subst l1 y1 z1
    obtain ⟨rfl, N1q, sz1, TM1⟩ := hQ1
    have N1 := Fr.app N0 N1q
    refine ⟨T1, _, _, X1, rfl, N1, Nat.le_trans Z0 sz1, TM1, fun target kt => ?_⟩
    show Steps p.tables e below (T0.setTop (mkF m 103 #[.val (.long q1), .second, s2, s3, .val (.long q3), .second, s6, s7, .val (.long r8), .second, .val (.int (Int32.ofNat cc)), s11, .val (.ref o12), .unset, .unset, .unset] [])) _
    refine XS.iload X0.here hx rfl (hb hby at_103) rfl ?_
    show Steps p.tables e below (T0.setTop (mkF m 105 #[.val (.long q1), .second, s2, s3, .val (.long q3), .second, s6, s7, .val (.long r8), .second, .val (.int (Int32.ofNat cc)), s11, .val (.ref o12), .unset, .unset, .unset] [(.int (Int32.ofNat cc))])) _
    refine XS.iconst X0.here hx rfl (hb hby at_105) ?_
    show Steps p.tables e below (T0.setTop (mkF m 106 #[.val (.long q1), .second, s2, s3, .val (.long q3), .second, s6, s7, .val (.long r8), .second, .val (.int (Int32.ofNat cc)), s11, .val (.ref o12), .unset, .unset, .unset] [(.int (4 : Int32)), (.int (Int32.ofNat cc))])) _
    refine XS.icmpNo X0.here hx rfl (hb hby at_106) rfl (tlt hc).2.2.2 ?_
    show Steps p.tables e below (T0.setTop (mkF m 109 #[.val (.long q1), .second, s2, s3, .val (.long q3), .second, s6, s7, .val (.long r8), .second, .val (.int (Int32.ofNat cc)), s11, .val (.ref o12), .unset, .unset, .unset] [])) _
    refine XS.aload X0.here hx rfl (hb hby at_109) rfl rfl ?_
    show Steps p.tables e below (T0.setTop (mkF m 111 #[.val (.long q1), .second, s2, s3, .val (.long q3), .second, s6, s7, .val (.long r8), .second, .val (.int (Int32.ofNat cc)), s11, .val (.ref o12), .unset, .unset, .unset] [(.ref o12)])) _
    refine XS.lloadN X0.here hx rfl (hb hby at_111) rfl ?_
    show Steps p.tables e below (T0.setTop (mkF m 112 #[.val (.long q1), .second, s2, s3, .val (.long q3), .second, s6, s7, .val (.long r8), .second, .val (.int (Int32.ofNat cc)), s11, .val (.ref o12), .unset, .unset, .unset] [(.long q1), (.ref o12)])) _
    refine XS.lload X0.here hx rfl (hb hby at_112) rfl ?_
    show Steps p.tables e below (T0.setTop (mkF m 114 #[.val (.long q1), .second, s2, s3, .val (.long q3), .second, s6, s7, .val (.long r8), .second, .val (.int (Int32.ofNat cc)), s11, .val (.ref o12), .unset, .unset, .unset] [(.long r8), (.long q1), (.ref o12)])) _
    refine XS.lload X0.here hx rfl (hb hby at_114) rfl ?_
    show Steps p.tables e below (T0.setTop (mkF m 116 #[.val (.long q1), .second, s2, s3, .val (.long q3), .second, s6, s7, .val (.long r8), .second, .val (.int (Int32.ofNat cc)), s11, .val (.ref o12), .unset, .unset, .unset] [(.long q3), (.long r8), (.long q1), (.ref o12)])) _
    refine XS.iconst X0.here hx rfl (hb hby at_116) ?_
    show Steps p.tables e below (T0.setTop (mkF m 117 #[.val (.long q1), .second, s2, s3, .val (.long q3), .second, s6, s7, .val (.long r8), .second, .val (.int (Int32.ofNat cc)), s11, .val (.ref o12), .unset, .unset, .unset] [(.int (4 : Int32)), (.long q3), (.long r8), (.long q1), (.ref o12)])) _
    refine st1 _ ?_
    exact kt
  · have hlt : ¬ 4 < cc := fun q => hc (own_lt q (by omega))
    have e1' : (min cc 5) = (min cc 4) := by omega
    rw [e1']
    refine ⟨T0, h0, locs, X0, e0, N0, Z0, TM, fun target kt => ?_⟩
    show Steps p.tables e below (T0.setTop (mkF m 103 #[.val (.long q1), .second, s2, s3, .val (.long q3), .second, s6, s7, .val (.long r8), .second, .val (.int (Int32.ofNat cc)), s11, .val (.ref o12), .unset, .unset, .unset] [])) _
    refine XS.iload X0.here hx rfl (hb hby at_103) rfl ?_
    show Steps p.tables e below (T0.setTop (mkF m 105 #[.val (.long q1), .second, s2, s3, .val (.long q3), .second, s6, s7, .val (.long r8), .second, .val (.int (Int32.ofNat cc)), s11, .val (.ref o12), .unset, .unset, .unset] [(.int (Int32.ofNat cc))])) _
    refine XS.iconst X0.here hx rfl (hb hby at_105) ?_
    show Steps p.tables e below (T0.setTop (mkF m 106 #[.val (.long q1), .second, s2, s3, .val (.long q3), .second, s6, s7, .val (.long r8), .second, .val (.int (Int32.ofNat cc)), s11, .val (.ref o12), .unset, .unset, .unset] [(.int (4 : Int32)), (.int (Int32.ofNat cc))])) _
    refine XS.icmpYes X0.here hx rfl (pc0 := 106) (pc' := 120) rfl (hb hby at_106) rfl (flt hc).2.2.2 (by decide) (by decide) ?_
    exact kt
set_option maxRecDepth 65536 in
set_option maxHeartbeats 40000000 in
theorem put5 {p : Program} {l : Launch} {e : Env} {s : State} {m : MethodId} {args : Array Value} {below : List Frame} {meth : Method} {c : Code} {T0 : State} {locs : List Loc} {Z : State} {a0 : Array Value} {h0 : Heap} (q1 q3 r8 : Int64) (cc : Nat) (hcc : cc < 10) (s2 s3 s6 s7 s11 : Slot) (o12 : Addr) (n0 : Nat)
    (X0 : Stand p l e room_1 s m args below meth c T0 locs 4 35) (hx : p.tables.exec = Jvm.exec) (hZ : Z.Warmed39 s.vm) (hw : ∀ d ∈ tables_1, d.before a0 Z = true) (hby : c.code = code) (hml : c.maxLocals = 16) (hown : s.vm.findClass "com/example/binlens/binlens/TableMapsAnswerPinLaw" = some m.cls) (e0 : T0.heap = h0) (Z0 : n0 ≤ h0.size) (N0 : Fr n0 locs) (TM : own_TM Z h0 o12 n0 (own_tell (own_N q1) own_zero (min cc 5)) (own_tell (own_E r8) own_none (min cc 5)) (own_tell (own_P q3) own_zero (min cc 5)) ((min cc 5) % 8)) :
    ∃ (T' : State) (h' : Heap) (locs' : List Loc), Stand p l e room_1 s m args below meth c T' locs' 4 35 ∧ T'.heap = h' ∧ Fr n0 locs' ∧ n0 ≤ h'.size ∧ own_TM Z h' o12 n0 (own_tell (own_N q1) own_zero (min cc 6)) (own_tell (own_E r8) own_none (min cc 6)) (own_tell (own_P q3) own_zero (min cc 6)) ((min cc 6) % 8) ∧ ∀ target, Steps p.tables e below (T'.setTop (mkF m 137 #[.val (.long q1), .second, s2, s3, .val (.long q3), .second, s6, s7, .val (.long r8), .second, .val (.int (Int32.ofNat cc)), s11, .val (.ref o12), .unset, .unset, .unset] [])) target → Steps p.tables e below (T0.setTop (mkF m 120 #[.val (.long q1), .second, s2, s3, .val (.long q3), .second, s6, s7, .val (.long r8), .second, .val (.int (Int32.ofNat cc)), s11, .val (.ref o12), .unset, .unset, .unset] [])) target := by
  by_cases hc : (5 : Int32) < (Int32.ofNat cc)
  · have hlt : 5 < cc := own_nlt hc (by decide) (by omega)
    have e0' : (min cc 5) = 5 := by omega
    have e1' : (min cc 6) = 6 := by omega
    rw [e0'] at TM
    rw [e1']
    have TM' : own_TM Z h0 o12 n0 (own_tell (own_N q1) own_zero 5) (own_tell (own_E r8) own_none 5) (own_tell (own_P q3) own_zero 5) 5 := TM
    obtain ⟨_, _, ⟨T1, L1, k1, n1⟩, -, X1, ⟨Lc1, hQ1, l1, y1, z1⟩, st1⟩ := Jvm.LawKit.callS X0 hx (y := (⟨"com/example/binlens/binlens/TableMapsAnswerPinLaw", "put", "(Lcom/example/binlens/binlens/TableMaps;JJJI)V"⟩ : MethodName)) hown (mvT hZ (hw _ (List.mem_of_getElem? (i := 23) rfl))) (mvT hZ (hw _ (List.mem_of_getElem? (i := 24) rfl))) (mvT hZ (hw _ (List.mem_of_getElem? (i := 25) rfl))) (mvT hZ (hw _ (List.mem_of_getElem? (i := 26) rfl))) (by decide) (backOf (W := 0) (rm4 l Z a0 hw [] o12 q1 r8 q3 (5 : Int32) (own_tell (own_N q1) own_zero 5) (own_tell (own_E r8) own_none 5) (own_tell (own_P q3) own_zero 5) 5 h0 n0 Z0 (by decide) TM') hZ (hw _ (List.mem_of_getElem? (i := 26) rfl)) (hw _ (List.mem_of_getElem? (i := 25) rfl)) (by decide) (by decide)) (g := (mkF m 134 #[.val (.long q1), .second, s2, s3, .val (.long q3), .second, s6, s7, .val (.long r8), .second, .val (.int (Int32.ofNat cc)), s11, .val (.ref o12), .unset, .unset, .unset] [(.int (5 : Int32)), (.long q3), (.long r8), (.long q1), (.ref o12)])) rfl (by rw [hml]; rfl) (argsL := [(.ref o12), (.long q1), (.long r8), (.long q3), (.int (5 : Int32))]) (rest := []) (lenOf pd_0_0 rfl) rfl (by show 2 * 0 + _ ≤ _; exact Nat.le_of_eq rfl) (hb hby at_134) (fun _ _ => ⟨rfl, e0, (by decide : 4 + 0 ≤ _), (by decide : 35 + 0 ≤ _)⟩)
    dsimp only [Pt.U, Pt.locs, Pt.cells, Pt.slots] at X1 l1 y1 z1 st1 hQ1
    subst l1 y1 z1
    obtain ⟨rfl, N1q, sz1, TM1⟩ := hQ1
    have N1 := Fr.app N0 N1q
    refine ⟨T1, _, _, X1, rfl, N1, Nat.le_trans Z0 sz1, TM1, fun target kt => ?_⟩
    show Steps p.tables e below (T0.setTop (mkF m 120 #[.val (.long q1), .second, s2, s3, .val (.long q3), .second, s6, s7, .val (.long r8), .second, .val (.int (Int32.ofNat cc)), s11, .val (.ref o12), .unset, .unset, .unset] [])) _
    refine XS.iload X0.here hx rfl (hb hby at_120) rfl ?_
    show Steps p.tables e below (T0.setTop (mkF m 122 #[.val (.long q1), .second, s2, s3, .val (.long q3), .second, s6, s7, .val (.long r8), .second, .val (.int (Int32.ofNat cc)), s11, .val (.ref o12), .unset, .unset, .unset] [(.int (Int32.ofNat cc))])) _
    refine XS.iconst X0.here hx rfl (hb hby at_122) ?_
    show Steps p.tables e below (T0.setTop (mkF m 123 #[.val (.long q1), .second, s2, s3, .val (.long q3), .second, s6, s7, .val (.long r8), .second, .val (.int (Int32.ofNat cc)), s11, .val (.ref o12), .unset, .unset, .unset] [(.int (5 : Int32)), (.int (Int32.ofNat cc))])) _
    refine XS.icmpNo X0.here hx rfl (hb hby at_123) rfl (tlt hc).2.2.2 ?_
    show Steps p.tables e below (T0.setTop (mkF m 126 #[.val (.long q1), .second, s2, s3, .val (.long q3), .second, s6, s7, .val (.long r8), .second, .val (.int (Int32.ofNat cc)), s11, .val (.ref o12), .unset, .unset, .unset] [])) _
    refine XS.aload X0.here hx rfl (hb hby at_126) rfl rfl ?_
    show Steps p.tables e below (T0.setTop (mkF m 128 #[.val (.long q1), .second, s2, s3, .val (.long q3), .second, s6, s7, .val (.long r8), .second, .val (.int (Int32.ofNat cc)), s11, .val (.ref o12), .unset, .unset, .unset] [(.ref o12)])) _
    refine XS.lloadN X0.here hx rfl (hb hby at_128) rfl ?_
    show Steps p.tables e below (T0.setTop (mkF m 129 #[.val (.long q1), .second, s2, s3, .val (.long q3), .second, s6, s7, .val (.long r8), .second, .val (.int (Int32.ofNat cc)), s11, .val (.ref o12), .unset, .unset, .unset] [(.long q1), (.ref o12)])) _
    refine XS.lload X0.here hx rfl (hb hby at_129) rfl ?_
    show Steps p.tables e below (T0.setTop (mkF m 131 #[.val (.long q1), .second, s2, s3, .val (.long q3), .second, s6, s7, .val (.long r8), .second, .val (.int (Int32.ofNat cc)), s11, .val (.ref o12), .unset, .unset, .unset] [(.long r8), (.long q1), (.ref o12)])) _
    refine XS.lload X0.here hx rfl (hb hby at_131) rfl ?_
    show Steps p.tables e below (T0.setTop (mkF m 133 #[.val (.long q1), .second, s2, s3, .val (.long q3), .second, s6, s7, .val (.long r8), .second, .val (.int (Int32.ofNat cc)), s11, .val (.ref o12), .unset, .unset, .unset] [(.long q3), (.long r8), (.long q1), (.ref o12)])) _
    refine XS.iconst X0.here hx rfl (hb hby at_133) ?_
    show Steps p.tables e below (T0.setTop (mkF m 134 #[.val (.long q1), .second, s2, s3, .val (.long q3), .second, s6, s7, .val (.long r8), .second, .val (.int (Int32.ofNat cc)), s11, .val (.ref o12), .unset, .unset, .unset] [(.int (5 : Int32)), (.long q3), (.long r8), (.long q1), (.ref o12)])) _
    refine st1 _ ?_
    exact kt
  · have hlt : ¬ 5 < cc := fun q => hc (own_lt q (by omega))
    have e1' : (min cc 6) = (min cc 5) := by omega
    rw [e1']
    refine ⟨T0, h0, locs, X0, e0, N0, Z0, TM, fun target kt => ?_⟩
    show Steps p.tables e below (T0.setTop (mkF m 120 #[.val (.long q1), .second, s2, s3, .val (.long q3), .second, s6, s7, .val (.long r8), .second, .val (.int (Int32.ofNat cc)), s11, .val (.ref o12), .unset, .unset, .unset] [])) _
    refine XS.iload X0.here hx rfl (hb hby at_120) rfl ?_
    show Steps p.tables e below (T0.setTop (mkF m 122 #[.val (.long q1), .second, s2, s3, .val (.long q3), .second, s6, s7, .val (.long r8), .second, .val (.int (Int32.ofNat cc)), s11, .val (.ref o12), .unset, .unset, .unset] [(.int (Int32.ofNat cc))])) _
    refine XS.iconst X0.here hx rfl (hb hby at_122) ?_
    show Steps p.tables e below (T0.setTop (mkF m 123 #[.val (.long q1), .second, s2, s3, .val (.long q3), .second, s6, s7, .val (.long r8), .second, .val (.int (Int32.ofNat cc)), s11, .val (.ref o12), .unset, .unset, .unset] [(.int (5 : Int32)), (.int (Int32.ofNat cc))])) _
    refine XS.icmpYes X0.here hx rfl (pc0 := 123) (pc' := 137) rfl (hb hby at_123) rfl (flt hc).2.2.2 (by decide) (by decide) ?_
    exact kt
set_option maxRecDepth 65536 in
set_option maxHeartbeats 40000000 in
theorem put6 {p : Program} {l : Launch} {e : Env} {s : State} {m : MethodId} {args : Array Value} {below : List Frame} {meth : Method} {c : Code} {T0 : State} {locs : List Loc} {Z : State} {a0 : Array Value} {h0 : Heap} (q1 q3 r8 : Int64) (cc : Nat) (hcc : cc < 10) (s2 s3 s6 s7 s11 : Slot) (o12 : Addr) (n0 : Nat)
    (X0 : Stand p l e room_1 s m args below meth c T0 locs 4 35) (hx : p.tables.exec = Jvm.exec) (hZ : Z.Warmed39 s.vm) (hw : ∀ d ∈ tables_1, d.before a0 Z = true) (hby : c.code = code) (hml : c.maxLocals = 16) (hown : s.vm.findClass "com/example/binlens/binlens/TableMapsAnswerPinLaw" = some m.cls) (e0 : T0.heap = h0) (Z0 : n0 ≤ h0.size) (N0 : Fr n0 locs) (TM : own_TM Z h0 o12 n0 (own_tell (own_N q1) own_zero (min cc 6)) (own_tell (own_E r8) own_none (min cc 6)) (own_tell (own_P q3) own_zero (min cc 6)) ((min cc 6) % 8)) :
    ∃ (T' : State) (h' : Heap) (locs' : List Loc), Stand p l e room_1 s m args below meth c T' locs' 4 35 ∧ T'.heap = h' ∧ Fr n0 locs' ∧ n0 ≤ h'.size ∧ own_TM Z h' o12 n0 (own_tell (own_N q1) own_zero (min cc 7)) (own_tell (own_E r8) own_none (min cc 7)) (own_tell (own_P q3) own_zero (min cc 7)) ((min cc 7) % 8) ∧ ∀ target, Steps p.tables e below (T'.setTop (mkF m 156 #[.val (.long q1), .second, s2, s3, .val (.long q3), .second, s6, s7, .val (.long r8), .second, .val (.int (Int32.ofNat cc)), s11, .val (.ref o12), .unset, .unset, .unset] [])) target → Steps p.tables e below (T0.setTop (mkF m 137 #[.val (.long q1), .second, s2, s3, .val (.long q3), .second, s6, s7, .val (.long r8), .second, .val (.int (Int32.ofNat cc)), s11, .val (.ref o12), .unset, .unset, .unset] [])) target := by
  by_cases hc : (6 : Int32) < (Int32.ofNat cc)
  · have hlt : 6 < cc := own_nlt hc (by decide) (by omega)
    have e0' : (min cc 6) = 6 := by omega
    have e1' : (min cc 7) = 7 := by omega
    rw [e0'] at TM
    rw [e1']
    have TM' : own_TM Z h0 o12 n0 (own_tell (own_N q1) own_zero 6) (own_tell (own_E r8) own_none 6) (own_tell (own_P q3) own_zero 6) 6 := TM
    obtain ⟨_, _, ⟨T1, L1, k1, n1⟩, -, X1, ⟨Lc1, hQ1, l1, y1, z1⟩, st1⟩ := Jvm.LawKit.callS X0 hx (y := (⟨"com/example/binlens/binlens/TableMapsAnswerPinLaw", "put", "(Lcom/example/binlens/binlens/TableMaps;JJJI)V"⟩ : MethodName)) hown (mvT hZ (hw _ (List.mem_of_getElem? (i := 23) rfl))) (mvT hZ (hw _ (List.mem_of_getElem? (i := 24) rfl))) (mvT hZ (hw _ (List.mem_of_getElem? (i := 25) rfl))) (mvT hZ (hw _ (List.mem_of_getElem? (i := 26) rfl))) (by decide) (backOf (W := 0) (rm4 l Z a0 hw [] o12 q1 r8 q3 (6 : Int32) (own_tell (own_N q1) own_zero 6) (own_tell (own_E r8) own_none 6) (own_tell (own_P q3) own_zero 6) 6 h0 n0 Z0 (by decide) TM') hZ (hw _ (List.mem_of_getElem? (i := 26) rfl)) (hw _ (List.mem_of_getElem? (i := 25) rfl)) (by decide) (by decide)) (g := (mkF m 153 #[.val (.long q1), .second, s2, s3, .val (.long q3), .second, s6, s7, .val (.long r8), .second, .val (.int (Int32.ofNat cc)), s11, .val (.ref o12), .unset, .unset, .unset] [(.int (6 : Int32)), (.long q3), (.long r8), (.long q1), (.ref o12)])) rfl (by rw [hml]; rfl) (argsL := [(.ref o12), (.long q1), (.long r8), (.long q3), (.int (6 : Int32))]) (rest := []) (lenOf pd_0_0 rfl) rfl (by show 2 * 0 + _ ≤ _; exact Nat.le_of_eq rfl) (hb hby at_153) (fun _ _ => ⟨rfl, e0, (by decide : 4 + 0 ≤ _), (by decide : 35 + 0 ≤ _)⟩)
    dsimp only [Pt.U, Pt.locs, Pt.cells, Pt.slots] at X1 l1 y1 z1 st1 hQ1
    subst l1 y1 z1
    obtain ⟨rfl, N1q, sz1, TM1⟩ := hQ1
    have N1 := Fr.app N0 N1q
    refine ⟨T1, _, _, X1, rfl, N1, Nat.le_trans Z0 sz1, TM1, fun target kt => ?_⟩
    show Steps p.tables e below (T0.setTop (mkF m 137 #[.val (.long q1), .second, s2, s3, .val (.long q3), .second, s6, s7, .val (.long r8), .second, .val (.int (Int32.ofNat cc)), s11, .val (.ref o12), .unset, .unset, .unset] [])) _
    refine XS.iload X0.here hx rfl (hb hby at_137) rfl ?_
    show Steps p.tables e below (T0.setTop (mkF m 139 #[.val (.long q1), .second, s2, s3, .val (.long q3), .second, s6, s7, .val (.long r8), .second, .val (.int (Int32.ofNat cc)), s11, .val (.ref o12), .unset, .unset, .unset] [(.int (Int32.ofNat cc))])) _
    refine XS.bipush X0.here hx rfl (hb hby at_139) ?_
    show Steps p.tables e below (T0.setTop (mkF m 141 #[.val (.long q1), .second, s2, s3, .val (.long q3), .second, s6, s7, .val (.long r8), .second, .val (.int (Int32.ofNat cc)), s11, .val (.ref o12), .unset, .unset, .unset] [(.int (6 : Int32)), (.int (Int32.ofNat cc))])) _
    refine XS.icmpNo X0.here hx rfl (hb hby at_141) rfl (tlt hc).2.2.2 ?_
    show Steps p.tables e below (T0.setTop (mkF m 144 #[.val (.long q1), .second, s2, s3, .val (.long q3), .second, s6, s7, .val (.long r8), .second, .val (.int (Int32.ofNat cc)), s11, .val (.ref o12), .unset, .unset, .unset] [])) _
    refine XS.aload X0.here hx rfl (hb hby at_144) rfl rfl ?_
    show Steps p.tables e below (T0.setTop (mkF m 146 #[.val (.long q1), .second, s2, s3, .val (.long q3), .second, s6, s7, .val (.long r8), .second, .val (.int (Int32.ofNat cc)), s11, .val (.ref o12), .unset, .unset, .unset] [(.ref o12)])) _
    refine XS.lloadN X0.here hx rfl (hb hby at_146) rfl ?_
    show Steps p.tables e below (T0.setTop (mkF m 147 #[.val (.long q1), .second, s2, s3, .val (.long q3), .second, s6, s7, .val (.long r8), .second, .val (.int (Int32.ofNat cc)), s11, .val (.ref o12), .unset, .unset, .unset] [(.long q1), (.ref o12)])) _
    refine XS.lload X0.here hx rfl (hb hby at_147) rfl ?_
    show Steps p.tables e below (T0.setTop (mkF m 149 #[.val (.long q1), .second, s2, s3, .val (.long q3), .second, s6, s7, .val (.long r8), .second, .val (.int (Int32.ofNat cc)), s11, .val (.ref o12), .unset, .unset, .unset] [(.long r8), (.long q1), (.ref o12)])) _
    refine XS.lload X0.here hx rfl (hb hby at_149) rfl ?_
    show Steps p.tables e below (T0.setTop (mkF m 151 #[.val (.long q1), .second, s2, s3, .val (.long q3), .second, s6, s7, .val (.long r8), .second, .val (.int (Int32.ofNat cc)), s11, .val (.ref o12), .unset, .unset, .unset] [(.long q3), (.long r8), (.long q1), (.ref o12)])) _
    refine XS.bipush X0.here hx rfl (hb hby at_151) ?_
    show Steps p.tables e below (T0.setTop (mkF m 153 #[.val (.long q1), .second, s2, s3, .val (.long q3), .second, s6, s7, .val (.long r8), .second, .val (.int (Int32.ofNat cc)), s11, .val (.ref o12), .unset, .unset, .unset] [(.int (6 : Int32)), (.long q3), (.long r8), (.long q1), (.ref o12)])) _
    refine st1 _ ?_
    exact kt
  · have hlt : ¬ 6 < cc := fun q => hc (own_lt q (by omega))
    have e1' : (min cc 7) = (min cc 6) := by omega
    rw [e1']
    refine ⟨T0, h0, locs, X0, e0, N0, Z0, TM, fun target kt => ?_⟩
    show Steps p.tables e below (T0.setTop (mkF m 137 #[.val (.long q1), .second, s2, s3, .val (.long q3), .second, s6, s7, .val (.long r8), .second, .val (.int (Int32.ofNat cc)), s11, .val (.ref o12), .unset, .unset, .unset] [])) _
    refine XS.iload X0.here hx rfl (hb hby at_137) rfl ?_
    show Steps p.tables e below (T0.setTop (mkF m 139 #[.val (.long q1), .second, s2, s3, .val (.long q3), .second, s6, s7, .val (.long r8), .second, .val (.int (Int32.ofNat cc)), s11, .val (.ref o12), .unset, .unset, .unset] [(.int (Int32.ofNat cc))])) _
    refine XS.bipush X0.here hx rfl (hb hby at_139) ?_
    show Steps p.tables e below (T0.setTop (mkF m 141 #[.val (.long q1), .second, s2, s3, .val (.long q3), .second, s6, s7, .val (.long r8), .second, .val (.int (Int32.ofNat cc)), s11, .val (.ref o12), .unset, .unset, .unset] [(.int (6 : Int32)), (.int (Int32.ofNat cc))])) _
    refine XS.icmpYes X0.here hx rfl (pc0 := 141) (pc' := 156) rfl (hb hby at_141) rfl (flt hc).2.2.2 (by decide) (by decide) ?_
    exact kt
set_option maxRecDepth 65536 in
set_option maxHeartbeats 40000000 in
theorem put7 {p : Program} {l : Launch} {e : Env} {s : State} {m : MethodId} {args : Array Value} {below : List Frame} {meth : Method} {c : Code} {T0 : State} {locs : List Loc} {Z : State} {a0 : Array Value} {h0 : Heap} (q1 q3 r8 : Int64) (cc : Nat) (hcc : cc < 10) (s2 s3 s6 s7 s11 : Slot) (o12 : Addr) (n0 : Nat)
    (X0 : Stand p l e room_1 s m args below meth c T0 locs 4 35) (hx : p.tables.exec = Jvm.exec) (hZ : Z.Warmed39 s.vm) (hw : ∀ d ∈ tables_1, d.before a0 Z = true) (hby : c.code = code) (hml : c.maxLocals = 16) (hown : s.vm.findClass "com/example/binlens/binlens/TableMapsAnswerPinLaw" = some m.cls) (e0 : T0.heap = h0) (Z0 : n0 ≤ h0.size) (N0 : Fr n0 locs) (TM : own_TM Z h0 o12 n0 (own_tell (own_N q1) own_zero (min cc 7)) (own_tell (own_E r8) own_none (min cc 7)) (own_tell (own_P q3) own_zero (min cc 7)) ((min cc 7) % 8)) :
    ∃ (T' : State) (h' : Heap) (locs' : List Loc), Stand p l e room_1 s m args below meth c T' locs' 4 35 ∧ T'.heap = h' ∧ Fr n0 locs' ∧ n0 ≤ h'.size ∧ own_TM Z h' o12 n0 (own_tell (own_N q1) own_zero (min cc 8)) (own_tell (own_E r8) own_none (min cc 8)) (own_tell (own_P q3) own_zero (min cc 8)) ((min cc 8) % 8) ∧ ∀ target, Steps p.tables e below (T'.setTop (mkF m 175 #[.val (.long q1), .second, s2, s3, .val (.long q3), .second, s6, s7, .val (.long r8), .second, .val (.int (Int32.ofNat cc)), s11, .val (.ref o12), .unset, .unset, .unset] [])) target → Steps p.tables e below (T0.setTop (mkF m 156 #[.val (.long q1), .second, s2, s3, .val (.long q3), .second, s6, s7, .val (.long r8), .second, .val (.int (Int32.ofNat cc)), s11, .val (.ref o12), .unset, .unset, .unset] [])) target := by
  by_cases hc : (7 : Int32) < (Int32.ofNat cc)
  · have hlt : 7 < cc := own_nlt hc (by decide) (by omega)
    have e0' : (min cc 7) = 7 := by omega
    have e1' : (min cc 8) = 8 := by omega
    rw [e0'] at TM
    rw [e1']
    have TM' : own_TM Z h0 o12 n0 (own_tell (own_N q1) own_zero 7) (own_tell (own_E r8) own_none 7) (own_tell (own_P q3) own_zero 7) 7 := TM
    obtain ⟨_, _, ⟨T1, L1, k1, n1⟩, -, X1, ⟨Lc1, hQ1, l1, y1, z1⟩, st1⟩ := Jvm.LawKit.callS X0 hx (y := (⟨"com/example/binlens/binlens/TableMapsAnswerPinLaw", "put", "(Lcom/example/binlens/binlens/TableMaps;JJJI)V"⟩ : MethodName)) hown (mvT hZ (hw _ (List.mem_of_getElem? (i := 23) rfl))) (mvT hZ (hw _ (List.mem_of_getElem? (i := 24) rfl))) (mvT hZ (hw _ (List.mem_of_getElem? (i := 25) rfl))) (mvT hZ (hw _ (List.mem_of_getElem? (i := 26) rfl))) (by decide) (backOf (W := 0) (rm4 l Z a0 hw [] o12 q1 r8 q3 (7 : Int32) (own_tell (own_N q1) own_zero 7) (own_tell (own_E r8) own_none 7) (own_tell (own_P q3) own_zero 7) 7 h0 n0 Z0 (by decide) TM') hZ (hw _ (List.mem_of_getElem? (i := 26) rfl)) (hw _ (List.mem_of_getElem? (i := 25) rfl)) (by decide) (by decide)) (g := (mkF m 172 #[.val (.long q1), .second, s2, s3, .val (.long q3), .second, s6, s7, .val (.long r8), .second, .val (.int (Int32.ofNat cc)), s11, .val (.ref o12), .unset, .unset, .unset] [(.int (7 : Int32)), (.long q3), (.long r8), (.long q1), (.ref o12)])) rfl (by rw [hml]; rfl) (argsL := [(.ref o12), (.long q1), (.long r8), (.long q3), (.int (7 : Int32))]) (rest := []) (lenOf pd_0_0 rfl) rfl (by show 2 * 0 + _ ≤ _; exact Nat.le_of_eq rfl) (hb hby at_172) (fun _ _ => ⟨rfl, e0, (by decide : 4 + 0 ≤ _), (by decide : 35 + 0 ≤ _)⟩)
    dsimp only [Pt.U, Pt.locs, Pt.cells, Pt.slots] at X1 l1 y1 z1 st1 hQ1
    subst l1 y1 z1
    obtain ⟨rfl, N1q, sz1, TM1⟩ := hQ1
    have N1 := Fr.app N0 N1q
    refine ⟨T1, _, _, X1, rfl, N1, Nat.le_trans Z0 sz1, TM1, fun target kt => ?_⟩
    show Steps p.tables e below (T0.setTop (mkF m 156 #[.val (.long q1), .second, s2, s3, .val (.long q3), .second, s6, s7, .val (.long r8), .second, .val (.int (Int32.ofNat cc)), s11, .val (.ref o12), .unset, .unset, .unset] [])) _
    refine XS.iload X0.here hx rfl (hb hby at_156) rfl ?_
    show Steps p.tables e below (T0.setTop (mkF m 158 #[.val (.long q1), .second, s2, s3, .val (.long q3), .second, s6, s7, .val (.long r8), .second, .val (.int (Int32.ofNat cc)), s11, .val (.ref o12), .unset, .unset, .unset] [(.int (Int32.ofNat cc))])) _
    refine XS.bipush X0.here hx rfl (hb hby at_158) ?_
    show Steps p.tables e below (T0.setTop (mkF m 160 #[.val (.long q1), .second, s2, s3, .val (.long q3), .second, s6, s7, .val (.long r8), .second, .val (.int (Int32.ofNat cc)), s11, .val (.ref o12), .unset, .unset, .unset] [(.int (7 : Int32)), (.int (Int32.ofNat cc))])) _
    refine XS.icmpNo X0.here hx rfl (hb hby at_160) rfl (tlt hc).2.2.2 ?_
    show Steps p.tables e below (T0.setTop (mkF m 163 #[.val (.long q1), .second, s2, s3, .val (.long q3), .second, s6, s7, .val (.long r8), .second, .val (.int (Int32.ofNat cc)), s11, .val (.ref o12), .unset, .unset, .unset] [])) _
    refine XS.aload X0.here hx rfl (hb hby at_163) rfl rfl ?_
    show Steps p.tables e below (T0.setTop (mkF m 165 #[.val (.long q1), .second, s2, s3, .val (.long q3), .second, s6, s7, .val (.long r8), .second, .val (.int (Int32.ofNat cc)), s11, .val (.ref o12), .unset, .unset, .unset] [(.ref o12)])) _
    refine XS.lloadN X0.here hx rfl (hb hby at_165) rfl ?_
    show Steps p.tables e below (T0.setTop (mkF m 166 #[.val (.long q1), .second, s2, s3, .val (.long q3), .second, s6, s7, .val (.long r8), .second, .val (.int (Int32.ofNat cc)), s11, .val (.ref o12), .unset, .unset, .unset] [(.long q1), (.ref o12)])) _
    refine XS.lload X0.here hx rfl (hb hby at_166) rfl ?_
    show Steps p.tables e below (T0.setTop (mkF m 168 #[.val (.long q1), .second, s2, s3, .val (.long q3), .second, s6, s7, .val (.long r8), .second, .val (.int (Int32.ofNat cc)), s11, .val (.ref o12), .unset, .unset, .unset] [(.long r8), (.long q1), (.ref o12)])) _
    refine XS.lload X0.here hx rfl (hb hby at_168) rfl ?_
    show Steps p.tables e below (T0.setTop (mkF m 170 #[.val (.long q1), .second, s2, s3, .val (.long q3), .second, s6, s7, .val (.long r8), .second, .val (.int (Int32.ofNat cc)), s11, .val (.ref o12), .unset, .unset, .unset] [(.long q3), (.long r8), (.long q1), (.ref o12)])) _
    refine XS.bipush X0.here hx rfl (hb hby at_170) ?_
    show Steps p.tables e below (T0.setTop (mkF m 172 #[.val (.long q1), .second, s2, s3, .val (.long q3), .second, s6, s7, .val (.long r8), .second, .val (.int (Int32.ofNat cc)), s11, .val (.ref o12), .unset, .unset, .unset] [(.int (7 : Int32)), (.long q3), (.long r8), (.long q1), (.ref o12)])) _
    refine st1 _ ?_
    exact kt
  · have hlt : ¬ 7 < cc := fun q => hc (own_lt q (by omega))
    have e1' : (min cc 8) = (min cc 7) := by omega
    rw [e1']
    refine ⟨T0, h0, locs, X0, e0, N0, Z0, TM, fun target kt => ?_⟩
    show Steps p.tables e below (T0.setTop (mkF m 156 #[.val (.long q1), .second, s2, s3, .val (.long q3), .second, s6, s7, .val (.long r8), .second, .val (.int (Int32.ofNat cc)), s11, .val (.ref o12), .unset, .unset, .unset] [])) _
    refine XS.iload X0.here hx rfl (hb hby at_156) rfl ?_
    show Steps p.tables e below (T0.setTop (mkF m 158 #[.val (.long q1), .second, s2, s3, .val (.long q3), .second, s6, s7, .val (.long r8), .second, .val (.int (Int32.ofNat cc)), s11, .val (.ref o12), .unset, .unset, .unset] [(.int (Int32.ofNat cc))])) _
    refine XS.bipush X0.here hx rfl (hb hby at_158) ?_
    show Steps p.tables e below (T0.setTop (mkF m 160 #[.val (.long q1), .second, s2, s3, .val (.long q3), .second, s6, s7, .val (.long r8), .second, .val (.int (Int32.ofNat cc)), s11, .val (.ref o12), .unset, .unset, .unset] [(.int (7 : Int32)), (.int (Int32.ofNat cc))])) _
    refine XS.icmpYes X0.here hx rfl (pc0 := 160) (pc' := 175) rfl (hb hby at_160) rfl (flt hc).2.2.2 (by decide) (by decide) ?_
    exact kt
set_option maxRecDepth 65536 in
set_option maxHeartbeats 40000000 in
theorem put8 {p : Program} {l : Launch} {e : Env} {s : State} {m : MethodId} {args : Array Value} {below : List Frame} {meth : Method} {c : Code} {T0 : State} {locs : List Loc} {Z : State} {a0 : Array Value} {h0 : Heap} (q1 q3 r8 : Int64) (cc : Nat) (hcc : cc < 10) (s2 s3 s6 s7 s11 : Slot) (o12 : Addr) (n0 : Nat)
    (X0 : Stand p l e room_1 s m args below meth c T0 locs 4 35) (hx : p.tables.exec = Jvm.exec) (hZ : Z.Warmed39 s.vm) (hw : ∀ d ∈ tables_1, d.before a0 Z = true) (hby : c.code = code) (hml : c.maxLocals = 16) (hown : s.vm.findClass "com/example/binlens/binlens/TableMapsAnswerPinLaw" = some m.cls) (e0 : T0.heap = h0) (Z0 : n0 ≤ h0.size) (N0 : Fr n0 locs) (TM : own_TM Z h0 o12 n0 (own_tell (own_N q1) own_zero (min cc 8)) (own_tell (own_E r8) own_none (min cc 8)) (own_tell (own_P q3) own_zero (min cc 8)) ((min cc 8) % 8)) :
    ∃ (T' : State) (h' : Heap) (locs' : List Loc), Stand p l e room_1 s m args below meth c T' locs' 4 35 ∧ T'.heap = h' ∧ Fr n0 locs' ∧ n0 ≤ h'.size ∧ own_TM Z h' o12 n0 (own_tell (own_N q1) own_zero (min cc 9)) (own_tell (own_E r8) own_none (min cc 9)) (own_tell (own_P q3) own_zero (min cc 9)) ((min cc 9) % 8) ∧ ∀ target, Steps p.tables e below (T'.setTop (mkF m 194 #[.val (.long q1), .second, s2, s3, .val (.long q3), .second, s6, s7, .val (.long r8), .second, .val (.int (Int32.ofNat cc)), s11, .val (.ref o12), .unset, .unset, .unset] [])) target → Steps p.tables e below (T0.setTop (mkF m 175 #[.val (.long q1), .second, s2, s3, .val (.long q3), .second, s6, s7, .val (.long r8), .second, .val (.int (Int32.ofNat cc)), s11, .val (.ref o12), .unset, .unset, .unset] [])) target := by
  by_cases hc : (8 : Int32) < (Int32.ofNat cc)
  · have hlt : 8 < cc := own_nlt hc (by decide) (by omega)
    have e0' : (min cc 8) = 8 := by omega
    have e1' : (min cc 9) = 9 := by omega
    rw [e0'] at TM
    rw [e1']
    have TM' : own_TM Z h0 o12 n0 (own_tell (own_N q1) own_zero 8) (own_tell (own_E r8) own_none 8) (own_tell (own_P q3) own_zero 8) 0 := TM
    obtain ⟨_, _, ⟨T1, L1, k1, n1⟩, -, X1, ⟨Lc1, hQ1, l1, y1, z1⟩, st1⟩ := Jvm.LawKit.callS X0 hx (y := (⟨"com/example/binlens/binlens/TableMapsAnswerPinLaw", "put", "(Lcom/example/binlens/binlens/TableMaps;JJJI)V"⟩ : MethodName)) hown (mvT hZ (hw _ (List.mem_of_getElem? (i := 23) rfl))) (mvT hZ (hw _ (List.mem_of_getElem? (i := 24) rfl))) (mvT hZ (hw _ (List.mem_of_getElem? (i := 25) rfl))) (mvT hZ (hw _ (List.mem_of_getElem? (i := 26) rfl))) (by decide) (backOf (W := 0) (rm4 l Z a0 hw [] o12 q1 r8 q3 (8 : Int32) (own_tell (own_N q1) own_zero 8) (own_tell (own_E r8) own_none 8) (own_tell (own_P q3) own_zero 8) 0 h0 n0 Z0 (by decide) TM') hZ (hw _ (List.mem_of_getElem? (i := 26) rfl)) (hw _ (List.mem_of_getElem? (i := 25) rfl)) (by decide) (by decide)) (g := (mkF m 191 #[.val (.long q1), .second, s2, s3, .val (.long q3), .second, s6, s7, .val (.long r8), .second, .val (.int (Int32.ofNat cc)), s11, .val (.ref o12), .unset, .unset, .unset] [(.int (8 : Int32)), (.long q3), (.long r8), (.long q1), (.ref o12)])) rfl (by rw [hml]; rfl) (argsL := [(.ref o12), (.long q1), (.long r8), (.long q3), (.int (8 : Int32))]) (rest := []) (lenOf pd_0_0 rfl) rfl (by show 2 * 0 + _ ≤ _; exact Nat.le_of_eq rfl) (hb hby at_191) (fun _ _ => ⟨rfl, e0, (by decide : 4 + 0 ≤ _), (by decide : 35 + 0 ≤ _)⟩)
    dsimp only [Pt.U, Pt.locs, Pt.cells, Pt.slots] at X1 l1 y1 z1 st1 hQ1
    subst l1 y1 z1
    obtain ⟨rfl, N1q, sz1, TM1⟩ := hQ1
    have N1 := Fr.app N0 N1q
    refine ⟨T1, _, _, X1, rfl, N1, Nat.le_trans Z0 sz1, TM1, fun target kt => ?_⟩
    show Steps p.tables e below (T0.setTop (mkF m 175 #[.val (.long q1), .second, s2, s3, .val (.long q3), .second, s6, s7, .val (.long r8), .second, .val (.int (Int32.ofNat cc)), s11, .val (.ref o12), .unset, .unset, .unset] [])) _
    refine XS.iload X0.here hx rfl (hb hby at_175) rfl ?_
    show Steps p.tables e below (T0.setTop (mkF m 177 #[.val (.long q1), .second, s2, s3, .val (.long q3), .second, s6, s7, .val (.long r8), .second, .val (.int (Int32.ofNat cc)), s11, .val (.ref o12), .unset, .unset, .unset] [(.int (Int32.ofNat cc))])) _
    refine XS.bipush X0.here hx rfl (hb hby at_177) ?_
    show Steps p.tables e below (T0.setTop (mkF m 179 #[.val (.long q1), .second, s2, s3, .val (.long q3), .second, s6, s7, .val (.long r8), .second, .val (.int (Int32.ofNat cc)), s11, .val (.ref o12), .unset, .unset, .unset] [(.int (8 : Int32)), (.int (Int32.ofNat cc))])) _
    refine XS.icmpNo X0.here hx rfl (hb hby at_179) rfl (tlt hc).2.2.2 ?_
    show Steps p.tables e below (T0.setTop (mkF m 182 #[.val (.long q1), .second, s2, s3, .val (.long q3), .second, s6, s7, .val (.long r8), .second, .val (.int (Int32.ofNat cc)), s11, .val (.ref o12), .unset, .unset, .unset] [])) _
    refine XS.aload X0.here hx rfl (hb hby at_182) rfl rfl ?_
    show Steps p.tables e below (T0.setTop (mkF m 184 #[.val (.long q1), .second, s2, s3, .val (.long q3), .second, s6, s7, .val (.long r8), .second, .val (.int (Int32.ofNat cc)), s11, .val (.ref o12), .unset, .unset, .unset] [(.ref o12)])) _
    refine XS.lloadN X0.here hx rfl (hb hby at_184) rfl ?_
    show Steps p.tables e below (T0.setTop (mkF m 185 #[.val (.long q1), .second, s2, s3, .val (.long q3), .second, s6, s7, .val (.long r8), .second, .val (.int (Int32.ofNat cc)), s11, .val (.ref o12), .unset, .unset, .unset] [(.long q1), (.ref o12)])) _
    refine XS.lload X0.here hx rfl (hb hby at_185) rfl ?_
    show Steps p.tables e below (T0.setTop (mkF m 187 #[.val (.long q1), .second, s2, s3, .val (.long q3), .second, s6, s7, .val (.long r8), .second, .val (.int (Int32.ofNat cc)), s11, .val (.ref o12), .unset, .unset, .unset] [(.long r8), (.long q1), (.ref o12)])) _
    refine XS.lload X0.here hx rfl (hb hby at_187) rfl ?_
    show Steps p.tables e below (T0.setTop (mkF m 189 #[.val (.long q1), .second, s2, s3, .val (.long q3), .second, s6, s7, .val (.long r8), .second, .val (.int (Int32.ofNat cc)), s11, .val (.ref o12), .unset, .unset, .unset] [(.long q3), (.long r8), (.long q1), (.ref o12)])) _
    refine XS.bipush X0.here hx rfl (hb hby at_189) ?_
    show Steps p.tables e below (T0.setTop (mkF m 191 #[.val (.long q1), .second, s2, s3, .val (.long q3), .second, s6, s7, .val (.long r8), .second, .val (.int (Int32.ofNat cc)), s11, .val (.ref o12), .unset, .unset, .unset] [(.int (8 : Int32)), (.long q3), (.long r8), (.long q1), (.ref o12)])) _
    refine st1 _ ?_
    exact kt
  · have hlt : ¬ 8 < cc := fun q => hc (own_lt q (by omega))
    have e1' : (min cc 9) = (min cc 8) := by omega
    rw [e1']
    refine ⟨T0, h0, locs, X0, e0, N0, Z0, TM, fun target kt => ?_⟩
    show Steps p.tables e below (T0.setTop (mkF m 175 #[.val (.long q1), .second, s2, s3, .val (.long q3), .second, s6, s7, .val (.long r8), .second, .val (.int (Int32.ofNat cc)), s11, .val (.ref o12), .unset, .unset, .unset] [])) _
    refine XS.iload X0.here hx rfl (hb hby at_175) rfl ?_
    show Steps p.tables e below (T0.setTop (mkF m 177 #[.val (.long q1), .second, s2, s3, .val (.long q3), .second, s6, s7, .val (.long r8), .second, .val (.int (Int32.ofNat cc)), s11, .val (.ref o12), .unset, .unset, .unset] [(.int (Int32.ofNat cc))])) _
    refine XS.bipush X0.here hx rfl (hb hby at_177) ?_
    show Steps p.tables e below (T0.setTop (mkF m 179 #[.val (.long q1), .second, s2, s3, .val (.long q3), .second, s6, s7, .val (.long r8), .second, .val (.int (Int32.ofNat cc)), s11, .val (.ref o12), .unset, .unset, .unset] [(.int (8 : Int32)), (.int (Int32.ofNat cc))])) _
    refine XS.icmpYes X0.here hx rfl (pc0 := 179) (pc' := 194) rfl (hb hby at_179) rfl (flt hc).2.2.2 (by decide) (by decide) ?_
    exact kt
def Q0 (h0 : Heap) (n0 : Nat) (v : Option Value) (h : Heap) (L : List Loc) : Prop := v = some (.int (1 : Int32)) ∧ Fr n0 L
set_option maxRecDepth 65536 in
set_option maxHeartbeats 40000000 in
theorem rm0 (l : Launch) (Z : State) (a0 : Array Value) (hw : ∀ d ∈ tables_1, d.before a0 Z = true) (ws : List Jvm.Cond) (q1 : Int64) (q2 : Int64) (q3 : Int64) (p4 : Int32) (p5 : Int32) (h0 : Heap) (n0 : Nat) (Z0 : n0 ≤ h0.size) :
    MetFree l x (head1 (Jvm.Cond.code x code maxLocals ret :: ws) room_1) (fun a U => a = #[(.long q1), (.long q2), (.long q3), (.int p4), (.int p5)] ∧ Z.Warmed39 U.vm ∧ U.heap = h0) (fun _ _ _ _ _ => True) (fun _ U o U' => ∃ v L, o = .returned v ∧ Q0 h0 n0 v U'.heap L ∧ FrameEnd U o U' L room_1.cells room_1.slots) := by
  refine MetFree.of_bodySF (plainFor_of_name pn_0) hisR ?_
  intro p e s m args below meth c s₁ Bd hml0 hP hK
  obtain ⟨rfl, hZ, hh⟩ := hP
  have hx := Bd.exec
  have hby := Bd.bytes
  have hml : c.maxLocals = 16 := hml0
  have hown : s.vm.findClass "com/example/binlens/binlens/TableMapsAnswerPinLaw" = some m.cls := findClass_of_methodNamed Bd.named
  have hnm := (name_of_methodNamed Bd.named Bd.method).1
  have X0 : Stand p l e room_1 s m #[(.long q1), (.long q2), (.long q3), (.int p4), (.int p5)] below meth c s₁ [] 0 0 := Stand.of_body Bd
  have e0 : s₁.heap = h0 := by rw [← hh, Bd.state]; rfl
  have N0 := Fr.nil n0
  have pre0 : ∀ t, Steps p.tables e below (s₁.setTop (mkF m 0 #[.val (.long q1), .second, .val (.long q2), .second, .val (.long q3), .second, .val (.int p4), .val (.int p5), .unset, .unset, .unset, .unset, .unset, .unset, .unset, .unset] [])) t → Steps p.tables e below (s₁.setTop (entryFrame m #[(.long q1), (.long q2), (.long q3), (.int p4), (.int p5)] maxLocals)) t := fun t k => castTop (ef_0 m q1 q2 q3 p4 p5) k
  obtain ⟨cc, hcc, ecc⟩ := own_rem p4 10 (by decide) (by decide)
  obtain ⟨jj, hjj, ejj⟩ := own_rem p5 10 (by decide) (by decide)
  obtain ⟨r8, hr8⟩ : ∃ z, z = (q2 &&& (9223372036854775807 : Int64)) := ⟨_, rfl⟩
  obtain ⟨T1, h1, X1, e1, E1, A1, D1, -, st1⟩ := newO X0 hx hZ hown (hw _ (List.mem_of_getElem? (i := 2) rfl)) (hw _ (List.mem_of_getElem? (i := 3) rfl)) (hw _ (List.mem_of_getElem? (i := 4) rfl)) e0 (g := (mkF m 27 #[.val (.long q1), .second, .val (.long q2), .second, .val (.long q3), .second, .val (.int p4), .val (.int p5), .val (.long r8), .second, .val (.int (Int32.ofNat cc)), .val (.int (Int32.ofNat jj)), .unset, .unset, .unset, .unset] [])) rfl (hb hby at_27) (by decide) (by decide)
  obtain ⟨b1, g1⟩ : ∃ z, z = h0.size := ⟨_, rfl⟩
  rw [← g1] at A1 D1 st1
  have Fn_1 : Fld Z h1 b1 "com/example/binlens/binlens/TableMaps" "askedNumbers" "[J" .null := D1 (Or.inr (hw _ (List.mem_of_getElem? (i := 13) rfl))) (ty := (.array .long)) (by decide)
  have Fe_1 : Fld Z h1 b1 "com/example/binlens/binlens/TableMaps" "askedEnds" "[J" .null := D1 (Or.inr (hw _ (List.mem_of_getElem? (i := 15) rfl))) (ty := (.array .long)) (by decide)
  have Fa_1 : Fld Z h1 b1 "com/example/binlens/binlens/TableMaps" "answers" "[J" .null := D1 (Or.inr (hw _ (List.mem_of_getElem? (i := 17) rfl))) (ty := (.array .long)) (by decide)
  have Fx_1 : Fld Z h1 b1 "com/example/binlens/binlens/TableMaps" "next" "I" (.int (0 : Int32)) := D1 (Or.inl (hw _ (List.mem_of_getElem? (i := 33) rfl))) (ty := .int) (by decide)
  have Z1 : n0 ≤ h1.size := Nat.le_trans Z0 E1.1
  have g_b : n0 ≤ b1 := Nat.le_trans Z0 (Nat.le_of_eq g1.symm)
  obtain ⟨_, _, ⟨T2, L2, k2, n2⟩, -, X2, ⟨Lc2, hQ2, l2, y2, z2⟩, st2⟩ := X1.specialBack hx (y := (⟨"com/example/binlens/binlens/TableMaps", "<init>", "()V"⟩ : MethodName)) rfl hown (mvT hZ (hw _ (List.mem_of_getElem? (i := 5) rfl))) (mvT hZ (hw _ (List.mem_of_getElem? (i := 6) rfl))) (mvT hZ (hw _ (List.mem_of_getElem? (i := 7) rfl))) (by decide) (backOf (W := 1) (rm1 l Z a0 hw [] b1 h1 n0 Z1 g_b A1 Fn_1 Fe_1 Fa_1 Fx_1) hZ (hw _ (List.mem_of_getElem? (i := 7) rfl)) (hw _ (List.mem_of_getElem? (i := 4) rfl)) (by decide) (by decide)) (g := (mkF m 31 #[.val (.long q1), .second, .val (.long q2), .second, .val (.long q3), .second, .val (.int p4), .val (.int p5), .val (.long r8), .second, .val (.int (Int32.ofNat cc)), .val (.int (Int32.ofNat jj)), .unset, .unset, .unset, .unset] [(.ref b1), (.ref b1)])) rfl (by rw [hml]; rfl) (Steps.refl _) (a := b1) (argsL := []) (rest := [(.ref b1)]) (lenOf pd_0_1 rfl) rfl (by show 2 * 0 + _ ≤ _; exact Nat.le_of_eq rfl) (hb hby at_31) (fun _ _ => ⟨rfl, e1, (by decide : 1 + 3 ≤ _), (by decide : 11 + 24 ≤ _)⟩)
  dsimp only [Pt.U, Pt.locs, Pt.cells, Pt.slots] at X2 l2 y2 z2 st2 hQ2
  subst l2 y2 z2
  obtain ⟨rfl, N2q, sz2, TM2⟩ := hQ2
  have N2 := Fr.app N0 N2q
  have U0 : n0 ≤ T2.heap.size := Nat.le_trans Z1 sz2
  have TM_0 : own_TM Z T2.heap b1 n0 (own_tell (own_N q1) own_zero (min cc 0)) (own_tell (own_E r8) own_none (min cc 0)) (own_tell (own_P q3) own_zero (min cc 0)) ((min cc 0) % 8) := by rw [show min cc 0 = 0 by omega]; exact TM2
  obtain ⟨U0_T, U0_h, U0_L, U0_X, U0_e, U0_N, U0_Z, TM_1, st_u0⟩ := put0 q1 q3 r8 cc hcc (.val (.long q2)) .second (.val (.int p4)) (.val (.int p5)) (.val (.int (Int32.ofNat jj))) b1 n0 X2 hx hZ hw hby hml hown rfl U0 N2 TM_0
  obtain ⟨U1_T, U1_h, U1_L, U1_X, U1_e, U1_N, U1_Z, TM_2, st_u1⟩ := put1 q1 q3 r8 cc hcc (.val (.long q2)) .second (.val (.int p4)) (.val (.int p5)) (.val (.int (Int32.ofNat jj))) b1 n0 U0_X hx hZ hw hby hml hown U0_e U0_Z U0_N TM_1
  obtain ⟨U2_T, U2_h, U2_L, U2_X, U2_e, U2_N, U2_Z, TM_3, st_u2⟩ := put2 q1 q3 r8 cc hcc (.val (.long q2)) .second (.val (.int p4)) (.val (.int p5)) (.val (.int (Int32.ofNat jj))) b1 n0 U1_X hx hZ hw hby hml hown U1_e U1_Z U1_N TM_2
  obtain ⟨U3_T, U3_h, U3_L, U3_X, U3_e, U3_N, U3_Z, TM_4, st_u3⟩ := put3 q1 q3 r8 cc hcc (.val (.long q2)) .second (.val (.int p4)) (.val (.int p5)) (.val (.int (Int32.ofNat jj))) b1 n0 U2_X hx hZ hw hby hml hown U2_e U2_Z U2_N TM_3
  obtain ⟨U4_T, U4_h, U4_L, U4_X, U4_e, U4_N, U4_Z, TM_5, st_u4⟩ := put4 q1 q3 r8 cc hcc (.val (.long q2)) .second (.val (.int p4)) (.val (.int p5)) (.val (.int (Int32.ofNat jj))) b1 n0 U3_X hx hZ hw hby hml hown U3_e U3_Z U3_N TM_4
  obtain ⟨U5_T, U5_h, U5_L, U5_X, U5_e, U5_N, U5_Z, TM_6, st_u5⟩ := put5 q1 q3 r8 cc hcc (.val (.long q2)) .second (.val (.int p4)) (.val (.int p5)) (.val (.int (Int32.ofNat jj))) b1 n0 U4_X hx hZ hw hby hml hown U4_e U4_Z U4_N TM_5
  obtain ⟨U6_T, U6_h, U6_L, U6_X, U6_e, U6_N, U6_Z, TM_7, st_u6⟩ := put6 q1 q3 r8 cc hcc (.val (.long q2)) .second (.val (.int p4)) (.val (.int p5)) (.val (.int (Int32.ofNat jj))) b1 n0 U5_X hx hZ hw hby hml hown U5_e U5_Z U5_N TM_6
  obtain ⟨U7_T, U7_h, U7_L, U7_X, U7_e, U7_N, U7_Z, TM_8, st_u7⟩ := put7 q1 q3 r8 cc hcc (.val (.long q2)) .second (.val (.int p4)) (.val (.int p5)) (.val (.int (Int32.ofNat jj))) b1 n0 U6_X hx hZ hw hby hml hown U6_e U6_Z U6_N TM_7
  obtain ⟨U8_T, U8_h, U8_L, U8_X, U8_e, U8_N, U8_Z, TM_9, st_u8⟩ := put8 q1 q3 r8 cc hcc (.val (.long q2)) .second (.val (.int p4)) (.val (.int p5)) (.val (.int (Int32.ofNat jj))) b1 n0 U7_X hx hZ hw hby hml hown U7_e U7_Z U7_N TM_8
  have e9 : min cc 9 = cc := by omega
  rw [e9] at TM_9
  have TM_10 := TM_9
  obtain ⟨c1, c2, c3, m1, m2, m3, E_0, Fn_0, Fe_0, Fa_0, Fx_0, Vn_0, Ve_0, Va_0, ⟨ne_n_o, ne_e_o, ne_a_o, ne_n_e, ne_n_a, ne_e_a⟩, g_o, g_n, g_e, g_a⟩ := TM_10
  obtain ⟨cq40, kq40, q40a, q40b, q40c⟩ := isOf hZ U8_e E_0
  obtain ⟨_, _, ⟨T40, L40, k40, n40⟩, -, X40, ⟨Lc40, hQ40, l40, y40, z40⟩, st40⟩ := U8_X.virtualBack hx (y := (⟨"com/example/binlens/binlens/TableMaps", "answer", "(JJ)J"⟩ : MethodName)) (z := (⟨"com/example/binlens/binlens/TableMaps", "answer", "(JJ)J"⟩ : MethodName)) hown (mvT hZ (hw _ (List.mem_of_getElem? (i := 35) rfl))) (mvT hZ (hw _ (List.mem_of_getElem? (i := 36) rfl))) (notFace_of_selects (args := #[]) (mvT hZ (hw _ (List.mem_of_getElem? (i := 38) rfl)))) (mvT hZ (hw _ (List.mem_of_getElem? (i := 38) rfl))) (mvT hZ (hw _ (List.mem_of_getElem? (i := 37) rfl))) (by decide) (backOf (W := 0) (rm6 l Z a0 hw [] b1 (own_N q1 jj) (own_E r8 jj) (own_tell (own_N q1) own_zero cc) (own_tell (own_E r8) own_none cc) (own_tell (own_P q3) own_zero cc) (cc % 8) U8_h n0 U8_Z TM_9) hZ (hw _ (List.mem_of_getElem? (i := 39) rfl)) (hw _ (List.mem_of_getElem? (i := 4) rfl)) (by decide) (by decide)) q40a q40c (g := (mkF m 256 #[.val (.long q1), .second, .val (.long q2), .second, .val (.long q3), .second, .val (.int p4), .val (.int p5), .val (.long r8), .second, .val (.int (Int32.ofNat cc)), .val (.int (Int32.ofNat jj)), .val (.ref b1), .val (.int (own_kept cc jj)), .val (.long (own_exp q3 cc jj)), .second] [(.long (r8 + (((Int32.ofNat jj) &&& (1 : Int32)).toInt64))), (.long (q1 + (((Int32.ofNat jj) >>> ((1 : Int32) &&& 31)).toInt64))), (.ref b1)])) rfl (by rw [hml]; rfl) (Steps.refl _) (argsL := [(.long (q1 + (((Int32.ofNat jj) >>> ((1 : Int32) &&& 31)).toInt64))), (.long (r8 + (((Int32.ofNat jj) &&& (1 : Int32)).toInt64)))]) (rest := []) (lenOf pd_0_2 rfl) rfl (by show 2 * 0 + _ ≤ _; exact Nat.le_of_eq rfl) (hb hby at_256) (fun _ _ => ⟨rfl, U8_e, (by decide : 4 + 0 ≤ _), (by decide : 35 + 0 ≤ _)⟩)
  dsimp only [Pt.U, Pt.locs, Pt.cells, Pt.slots] at X40 l40 y40 z40 st40 hQ40
  subst l40 y40 z40
  obtain ⟨rfl, N40q, e40⟩ := hQ40
  have N40 := Fr.app U8_N N40q
  have hfin : (own_ans (own_tell (own_N q1) own_zero cc) (own_tell (own_E r8) own_none cc) (own_tell (own_P q3) own_zero cc) (own_N q1 jj) (own_E r8 jj) 8 0) = (own_exp q3 cc jj) := own_law q1 r8 q3 cc jj hcc hjj (by rw [hr8]; exact own_pos q2)
  obtain ⟨fs, hr, hrun, hended, hW, hsame⟩ := X40.leave (v := some (.int (1 : Int32))) (fun h => by rw [Bd.returns] at h; cases h)
  refine ⟨_, _, pre0 _ ?_, hrun, hended, _, _, rfl, ?_, ⟨_, rfl⟩, hW, hsame.mono (by decide) (by decide)⟩
  · show Steps p.tables e below (s₁.setTop (mkF m 0 #[.val (.long q1), .second, .val (.long q2), .second, .val (.long q3), .second, .val (.int p4), .val (.int p5), .unset, .unset, .unset, .unset, .unset, .unset, .unset, .unset] [])) _
    refine segI (q1 := q1) (q2 := q2) (q3 := q3) (p4 := p4) (p5 := p5) (r8 := r8) (r10 := (Int32.ofNat cc)) (r11 := (Int32.ofNat jj)) X0 hx hZ hw hby hml hown e0 hr8 ecc.symm ejj.symm ?_
    show Steps p.tables e below (s₁.setTop (mkF m 27 #[.val (.long q1), .second, .val (.long q2), .second, .val (.long q3), .second, .val (.int p4), .val (.int p5), .val (.long r8), .second, .val (.int (Int32.ofNat cc)), .val (.int (Int32.ofNat jj)), .unset, .unset, .unset, .unset] [])) _
    refine st1 _ ?_
    show Steps p.tables e below (T1.setTop (mkF m 30 #[.val (.long q1), .second, .val (.long q2), .second, .val (.long q3), .second, .val (.int p4), .val (.int p5), .val (.long r8), .second, .val (.int (Int32.ofNat cc)), .val (.int (Int32.ofNat jj)), .unset, .unset, .unset, .unset] [(.ref b1)])) _
    refine XS.dup X1.here hx rfl (hb hby at_30) rfl rfl ?_
    show Steps p.tables e below (T1.setTop (mkF m 31 #[.val (.long q1), .second, .val (.long q2), .second, .val (.long q3), .second, .val (.int p4), .val (.int p5), .val (.long r8), .second, .val (.int (Int32.ofNat cc)), .val (.int (Int32.ofNat jj)), .unset, .unset, .unset, .unset] [(.ref b1), (.ref b1)])) _
    refine st2.trans ?_
    show Steps p.tables e below (T2.setTop (mkF m 34 #[.val (.long q1), .second, .val (.long q2), .second, .val (.long q3), .second, .val (.int p4), .val (.int p5), .val (.long r8), .second, .val (.int (Int32.ofNat cc)), .val (.int (Int32.ofNat jj)), .unset, .unset, .unset, .unset] [(.ref b1)])) _
    refine XS.astore X2.here hx rfl (hb hby at_34) rfl rfl (l' := #[.val (.long q1), .second, .val (.long q2), .second, .val (.long q3), .second, .val (.int p4), .val (.int p5), .val (.long r8), .second, .val (.int (Int32.ofNat cc)), .val (.int (Int32.ofNat jj)), .val (.ref b1), .unset, .unset, .unset]) rfl ?_
    show Steps p.tables e below (T2.setTop (mkF m 36 #[.val (.long q1), .second, .val (.long q2), .second, .val (.long q3), .second, .val (.int p4), .val (.int p5), .val (.long r8), .second, .val (.int (Int32.ofNat cc)), .val (.int (Int32.ofNat jj)), .val (.ref b1), .unset, .unset, .unset] [])) _
    refine st_u0 _ ?_
    show Steps p.tables e below (U0_T.setTop (mkF m 52 #[.val (.long q1), .second, .val (.long q2), .second, .val (.long q3), .second, .val (.int p4), .val (.int p5), .val (.long r8), .second, .val (.int (Int32.ofNat cc)), .val (.int (Int32.ofNat jj)), .val (.ref b1), .unset, .unset, .unset] [])) _
    refine st_u1 _ ?_
    show Steps p.tables e below (U1_T.setTop (mkF m 69 #[.val (.long q1), .second, .val (.long q2), .second, .val (.long q3), .second, .val (.int p4), .val (.int p5), .val (.long r8), .second, .val (.int (Int32.ofNat cc)), .val (.int (Int32.ofNat jj)), .val (.ref b1), .unset, .unset, .unset] [])) _
    refine st_u2 _ ?_
    show Steps p.tables e below (U2_T.setTop (mkF m 86 #[.val (.long q1), .second, .val (.long q2), .second, .val (.long q3), .second, .val (.int p4), .val (.int p5), .val (.long r8), .second, .val (.int (Int32.ofNat cc)), .val (.int (Int32.ofNat jj)), .val (.ref b1), .unset, .unset, .unset] [])) _
    refine st_u3 _ ?_
    show Steps p.tables e below (U3_T.setTop (mkF m 103 #[.val (.long q1), .second, .val (.long q2), .second, .val (.long q3), .second, .val (.int p4), .val (.int p5), .val (.long r8), .second, .val (.int (Int32.ofNat cc)), .val (.int (Int32.ofNat jj)), .val (.ref b1), .unset, .unset, .unset] [])) _
    refine st_u4 _ ?_
    show Steps p.tables e below (U4_T.setTop (mkF m 120 #[.val (.long q1), .second, .val (.long q2), .second, .val (.long q3), .second, .val (.int p4), .val (.int p5), .val (.long r8), .second, .val (.int (Int32.ofNat cc)), .val (.int (Int32.ofNat jj)), .val (.ref b1), .unset, .unset, .unset] [])) _
    refine st_u5 _ ?_
    show Steps p.tables e below (U5_T.setTop (mkF m 137 #[.val (.long q1), .second, .val (.long q2), .second, .val (.long q3), .second, .val (.int p4), .val (.int p5), .val (.long r8), .second, .val (.int (Int32.ofNat cc)), .val (.int (Int32.ofNat jj)), .val (.ref b1), .unset, .unset, .unset] [])) _
    refine st_u6 _ ?_
    show Steps p.tables e below (U6_T.setTop (mkF m 156 #[.val (.long q1), .second, .val (.long q2), .second, .val (.long q3), .second, .val (.int p4), .val (.int p5), .val (.long r8), .second, .val (.int (Int32.ofNat cc)), .val (.int (Int32.ofNat jj)), .val (.ref b1), .unset, .unset, .unset] [])) _
    refine st_u7 _ ?_
    show Steps p.tables e below (U7_T.setTop (mkF m 175 #[.val (.long q1), .second, .val (.long q2), .second, .val (.long q3), .second, .val (.int p4), .val (.int p5), .val (.long r8), .second, .val (.int (Int32.ofNat cc)), .val (.int (Int32.ofNat jj)), .val (.ref b1), .unset, .unset, .unset] [])) _
    refine st_u8 _ ?_
    show Steps p.tables e below (U8_T.setTop (mkF m 194 #[.val (.long q1), .second, .val (.long q2), .second, .val (.long q3), .second, .val (.int p4), .val (.int p5), .val (.long r8), .second, .val (.int (Int32.ofNat cc)), .val (.int (Int32.ofNat jj)), .val (.ref b1), .unset, .unset, .unset] [])) _
    refine segX (s0 := (.val (.long q1))) (s1 := .second) (s2 := (.val (.long q2))) (s3 := .second) (s6 := (.val (.int p4))) (s7 := (.val (.int p5))) (s8 := (.val (.long r8))) (s9 := .second) (s12 := (.val (.ref b1))) (q3 := q3) (i10 := (Int32.ofNat cc)) (i11 := (Int32.ofNat jj)) (r13 := (own_kept cc jj)) (r14 := (own_exp q3 cc jj)) U8_X hx hZ hw hby hml hown U8_e (own_x1 q3 hcc hjj) (own_x2 q3 hcc hjj) (own_x3 q3 hcc hjj) (own_x4 q3 hcc hjj) (own_x5 q3 hcc hjj) (own_x6 q3 hcc hjj) (own_x7 q3 hcc hjj) (own_x8 q3 hcc hjj) ?_
    show Steps p.tables e below (U8_T.setTop (mkF m 239 #[.val (.long q1), .second, .val (.long q2), .second, .val (.long q3), .second, .val (.int p4), .val (.int p5), .val (.long r8), .second, .val (.int (Int32.ofNat cc)), .val (.int (Int32.ofNat jj)), .val (.ref b1), .val (.int (own_kept cc jj)), .val (.long (own_exp q3 cc jj)), .second] [])) _
    refine XS.aload U8_X.here hx rfl (hb hby at_239) rfl rfl ?_
    show Steps p.tables e below (U8_T.setTop (mkF m 241 #[.val (.long q1), .second, .val (.long q2), .second, .val (.long q3), .second, .val (.int p4), .val (.int p5), .val (.long r8), .second, .val (.int (Int32.ofNat cc)), .val (.int (Int32.ofNat jj)), .val (.ref b1), .val (.int (own_kept cc jj)), .val (.long (own_exp q3 cc jj)), .second] [(.ref b1)])) _
    refine XS.lloadN U8_X.here hx rfl (hb hby at_241) rfl ?_
    show Steps p.tables e below (U8_T.setTop (mkF m 242 #[.val (.long q1), .second, .val (.long q2), .second, .val (.long q3), .second, .val (.int p4), .val (.int p5), .val (.long r8), .second, .val (.int (Int32.ofNat cc)), .val (.int (Int32.ofNat jj)), .val (.ref b1), .val (.int (own_kept cc jj)), .val (.long (own_exp q3 cc jj)), .second] [(.long q1), (.ref b1)])) _
    refine XS.iload U8_X.here hx rfl (hb hby at_242) rfl ?_
    show Steps p.tables e below (U8_T.setTop (mkF m 244 #[.val (.long q1), .second, .val (.long q2), .second, .val (.long q3), .second, .val (.int p4), .val (.int p5), .val (.long r8), .second, .val (.int (Int32.ofNat cc)), .val (.int (Int32.ofNat jj)), .val (.ref b1), .val (.int (own_kept cc jj)), .val (.long (own_exp q3 cc jj)), .second] [(.int (Int32.ofNat jj)), (.long q1), (.ref b1)])) _
    refine XS.iconst U8_X.here hx rfl (hb hby at_244) ?_
    show Steps p.tables e below (U8_T.setTop (mkF m 245 #[.val (.long q1), .second, .val (.long q2), .second, .val (.long q3), .second, .val (.int p4), .val (.int p5), .val (.long r8), .second, .val (.int (Int32.ofNat cc)), .val (.int (Int32.ofNat jj)), .val (.ref b1), .val (.int (own_kept cc jj)), .val (.long (own_exp q3 cc jj)), .second] [(.int (1 : Int32)), (.int (Int32.ofNat jj)), (.long q1), (.ref b1)])) _
    refine XS.ishr U8_X.here hx rfl (hb hby at_245) rfl ?_
    show Steps p.tables e below (U8_T.setTop (mkF m 246 #[.val (.long q1), .second, .val (.long q2), .second, .val (.long q3), .second, .val (.int p4), .val (.int p5), .val (.long r8), .second, .val (.int (Int32.ofNat cc)), .val (.int (Int32.ofNat jj)), .val (.ref b1), .val (.int (own_kept cc jj)), .val (.long (own_exp q3 cc jj)), .second] [(.int ((Int32.ofNat jj) >>> ((1 : Int32) &&& 31))), (.long q1), (.ref b1)])) _
    refine XS.i2l U8_X.here hx rfl (hb hby at_246) rfl ?_
    show Steps p.tables e below (U8_T.setTop (mkF m 247 #[.val (.long q1), .second, .val (.long q2), .second, .val (.long q3), .second, .val (.int p4), .val (.int p5), .val (.long r8), .second, .val (.int (Int32.ofNat cc)), .val (.int (Int32.ofNat jj)), .val (.ref b1), .val (.int (own_kept cc jj)), .val (.long (own_exp q3 cc jj)), .second] [(.long (((Int32.ofNat jj) >>> ((1 : Int32) &&& 31)).toInt64)), (.long q1), (.ref b1)])) _
    refine XS.ladd U8_X.here hx rfl (hb hby at_247) rfl ?_
    show Steps p.tables e below (U8_T.setTop (mkF m 248 #[.val (.long q1), .second, .val (.long q2), .second, .val (.long q3), .second, .val (.int p4), .val (.int p5), .val (.long r8), .second, .val (.int (Int32.ofNat cc)), .val (.int (Int32.ofNat jj)), .val (.ref b1), .val (.int (own_kept cc jj)), .val (.long (own_exp q3 cc jj)), .second] [(.long (q1 + (((Int32.ofNat jj) >>> ((1 : Int32) &&& 31)).toInt64))), (.ref b1)])) _
    refine XS.lload U8_X.here hx rfl (hb hby at_248) rfl ?_
    show Steps p.tables e below (U8_T.setTop (mkF m 250 #[.val (.long q1), .second, .val (.long q2), .second, .val (.long q3), .second, .val (.int p4), .val (.int p5), .val (.long r8), .second, .val (.int (Int32.ofNat cc)), .val (.int (Int32.ofNat jj)), .val (.ref b1), .val (.int (own_kept cc jj)), .val (.long (own_exp q3 cc jj)), .second] [(.long r8), (.long (q1 + (((Int32.ofNat jj) >>> ((1 : Int32) &&& 31)).toInt64))), (.ref b1)])) _
    refine XS.iload U8_X.here hx rfl (hb hby at_250) rfl ?_
    show Steps p.tables e below (U8_T.setTop (mkF m 252 #[.val (.long q1), .second, .val (.long q2), .second, .val (.long q3), .second, .val (.int p4), .val (.int p5), .val (.long r8), .second, .val (.int (Int32.ofNat cc)), .val (.int (Int32.ofNat jj)), .val (.ref b1), .val (.int (own_kept cc jj)), .val (.long (own_exp q3 cc jj)), .second] [(.int (Int32.ofNat jj)), (.long r8), (.long (q1 + (((Int32.ofNat jj) >>> ((1 : Int32) &&& 31)).toInt64))), (.ref b1)])) _
    refine XS.iconst U8_X.here hx rfl (hb hby at_252) ?_
    show Steps p.tables e below (U8_T.setTop (mkF m 253 #[.val (.long q1), .second, .val (.long q2), .second, .val (.long q3), .second, .val (.int p4), .val (.int p5), .val (.long r8), .second, .val (.int (Int32.ofNat cc)), .val (.int (Int32.ofNat jj)), .val (.ref b1), .val (.int (own_kept cc jj)), .val (.long (own_exp q3 cc jj)), .second] [(.int (1 : Int32)), (.int (Int32.ofNat jj)), (.long r8), (.long (q1 + (((Int32.ofNat jj) >>> ((1 : Int32) &&& 31)).toInt64))), (.ref b1)])) _
    refine XS.iand U8_X.here hx rfl (hb hby at_253) rfl ?_
    show Steps p.tables e below (U8_T.setTop (mkF m 254 #[.val (.long q1), .second, .val (.long q2), .second, .val (.long q3), .second, .val (.int p4), .val (.int p5), .val (.long r8), .second, .val (.int (Int32.ofNat cc)), .val (.int (Int32.ofNat jj)), .val (.ref b1), .val (.int (own_kept cc jj)), .val (.long (own_exp q3 cc jj)), .second] [(.int ((Int32.ofNat jj) &&& (1 : Int32))), (.long r8), (.long (q1 + (((Int32.ofNat jj) >>> ((1 : Int32) &&& 31)).toInt64))), (.ref b1)])) _
    refine XS.i2l U8_X.here hx rfl (hb hby at_254) rfl ?_
    show Steps p.tables e below (U8_T.setTop (mkF m 255 #[.val (.long q1), .second, .val (.long q2), .second, .val (.long q3), .second, .val (.int p4), .val (.int p5), .val (.long r8), .second, .val (.int (Int32.ofNat cc)), .val (.int (Int32.ofNat jj)), .val (.ref b1), .val (.int (own_kept cc jj)), .val (.long (own_exp q3 cc jj)), .second] [(.long (((Int32.ofNat jj) &&& (1 : Int32)).toInt64)), (.long r8), (.long (q1 + (((Int32.ofNat jj) >>> ((1 : Int32) &&& 31)).toInt64))), (.ref b1)])) _
    refine XS.ladd U8_X.here hx rfl (hb hby at_255) rfl ?_
    show Steps p.tables e below (U8_T.setTop (mkF m 256 #[.val (.long q1), .second, .val (.long q2), .second, .val (.long q3), .second, .val (.int p4), .val (.int p5), .val (.long r8), .second, .val (.int (Int32.ofNat cc)), .val (.int (Int32.ofNat jj)), .val (.ref b1), .val (.int (own_kept cc jj)), .val (.long (own_exp q3 cc jj)), .second] [(.long (r8 + (((Int32.ofNat jj) &&& (1 : Int32)).toInt64))), (.long (q1 + (((Int32.ofNat jj) >>> ((1 : Int32) &&& 31)).toInt64))), (.ref b1)])) _
    refine st40.trans ?_
    show Steps p.tables e below (T40.setTop (mkF m 259 #[.val (.long q1), .second, .val (.long q2), .second, .val (.long q3), .second, .val (.int p4), .val (.int p5), .val (.long r8), .second, .val (.int (Int32.ofNat cc)), .val (.int (Int32.ofNat jj)), .val (.ref b1), .val (.int (own_kept cc jj)), .val (.long (own_exp q3 cc jj)), .second] [(.long (own_ans (own_tell (own_N q1) own_zero cc) (own_tell (own_E r8) own_none cc) (own_tell (own_P q3) own_zero cc) (own_N q1 jj) (own_E r8 jj) 8 0))])) _
    refine XS.lload X40.here hx rfl (hb hby at_259) rfl ?_
    show Steps p.tables e below (T40.setTop (mkF m 261 #[.val (.long q1), .second, .val (.long q2), .second, .val (.long q3), .second, .val (.int p4), .val (.int p5), .val (.long r8), .second, .val (.int (Int32.ofNat cc)), .val (.int (Int32.ofNat jj)), .val (.ref b1), .val (.int (own_kept cc jj)), .val (.long (own_exp q3 cc jj)), .second] [(.long (own_exp q3 cc jj)), (.long (own_ans (own_tell (own_N q1) own_zero cc) (own_tell (own_E r8) own_none cc) (own_tell (own_P q3) own_zero cc) (own_N q1 jj) (own_E r8 jj) 8 0))])) _
    refine XS.lcmp X40.here hx rfl (hb hby at_261) rfl ?_
    show Steps p.tables e below (T40.setTop (mkF m 262 #[.val (.long q1), .second, .val (.long q2), .second, .val (.long q3), .second, .val (.int p4), .val (.int p5), .val (.long r8), .second, .val (.int (Int32.ofNat cc)), .val (.int (Int32.ofNat jj)), .val (.ref b1), .val (.int (own_kept cc jj)), .val (.long (own_exp q3 cc jj)), .second] [(.int (lcmpW (own_ans (own_tell (own_N q1) own_zero cc) (own_tell (own_E r8) own_none cc) (own_tell (own_P q3) own_zero cc) (own_N q1 jj) (own_E r8 jj) 8 0) (own_exp q3 cc jj)))])) _
    refine XS.ifNo X40.here hx rfl (hb hby at_262) rfl ((if0 _ _).trans (teq ((lw_eq (own_ans (own_tell (own_N q1) own_zero cc) (own_tell (own_E r8) own_none cc) (own_tell (own_P q3) own_zero cc) (own_N q1 jj) (own_E r8 jj) 8 0) (own_exp q3 cc jj)).mpr hfin)).2) ?_
    show Steps p.tables e below (T40.setTop (mkF m 265 #[.val (.long q1), .second, .val (.long q2), .second, .val (.long q3), .second, .val (.int p4), .val (.int p5), .val (.long r8), .second, .val (.int (Int32.ofNat cc)), .val (.int (Int32.ofNat jj)), .val (.ref b1), .val (.int (own_kept cc jj)), .val (.long (own_exp q3 cc jj)), .second] [])) _
    refine XS.iconst X40.here hx rfl (hb hby at_265) ?_
    show Steps p.tables e below (T40.setTop (mkF m 266 #[.val (.long q1), .second, .val (.long q2), .second, .val (.long q3), .second, .val (.int p4), .val (.int p5), .val (.long r8), .second, .val (.int (Int32.ofNat cc)), .val (.int (Int32.ofNat jj)), .val (.ref b1), .val (.int (own_kept cc jj)), .val (.long (own_exp q3 cc jj)), .second] [(.int (1 : Int32))])) _
    refine XS.goto X40.here hx rfl (pc0 := 266) (pc' := 270) rfl (hb hby at_266) (by decide) (by decide) ?_
    show Steps p.tables e below (T40.setTop (mkF m 270 #[.val (.long q1), .second, .val (.long q2), .second, .val (.long q3), .second, .val (.int p4), .val (.int p5), .val (.long r8), .second, .val (.int (Int32.ofNat cc)), .val (.int (Int32.ofNat jj)), .val (.ref b1), .val (.int (own_kept cc jj)), .val (.long (own_exp q3 cc jj)), .second] [(.int (1 : Int32))])) _
    exact retN X40 hx (t := .boolean) Bd.returns (by simp) (hb hby at_270) hr
  · show Q0 h0 n0 _ T40.heap _
    exact ⟨rfl, N40⟩
set_option maxRecDepth 65536 in
set_option maxHeartbeats 40000000 in
theorem comes_1 {Post : Tables → Env → Array Value → State → Outcome → State → Prop} (hpost : ∀ tb e args s v u, (limb_1_1.after args s (.returned v) u = true ∧ limb_1_2.after args s (.returned v) u = true ∧ True) → FrameEnd s (.returned v) u (Jvm.fieldLocs frame_1_writes args s ++ Jvm.arrayLocs frame_1_arrays args s ++ Jvm.staticLocs frame_1_statics s) 16 192 → Post tb e args s (.returned v) u) :
    ArmFor flags0 classFile x code maxLocals ret World_1 tables_1 room_1 Calls_1 rest_1 Pre_1 Post := by
  intro l hfl _ _ p e ha hc hk s m args below hf hA hF happ hP
  obtain ⟨hcalls, hrest, hpre⟩ := hP
  obtain ⟨-, -, -, hnamed, -, -, -, hat⟩ := (Spec.applies_iff hf).mp happ
  obtain ⟨hg, hn⟩ := and_e (Cond.before_iff.mp (show (Jvm.Cond.and given_1 narrow_1).before args s = true from hpre))
  obtain ⟨ga0, gb0⟩ := and_e hg
  obtain ⟨ga1, gb1⟩ := and_e gb0
  obtain ⟨ga2, gb2⟩ := and_e gb1
  obtain ⟨ga3, gb3⟩ := and_e gb2
  obtain ⟨ga4, gb4⟩ := and_e gb3
  obtain ⟨w0, w1, w2, w3, w4, rfl⟩ : ∃ w0 w1 w2 w3 w4 : Value, args = #[w0, w1, w2, w3, w4] := by
    have hs : args.size = 5 := by simpa [Cond.value, given_1] using ga0
    obtain ⟨L⟩ := args
    match L, hs with
    | [w0, w1, w2, w3, w4], _ => exact ⟨w0, w1, w2, w3, w4, rfl⟩
  have hw := fun d (hd : d ∈ tables_1) => atoms_spec (ws := Jvm.Cond.code x code maxLocals ret :: tables_1) hat d (List.mem_cons_of_mem _ hd)
  obtain ⟨i0, ei0⟩ := isL_v ga1
  obtain rfl : w0 = (.long i0) := Option.some.inj ei0
  obtain ⟨i1, ei1⟩ := isL_v ga2
  obtain rfl : w1 = (.long i1) := Option.some.inj ei1
  obtain ⟨i2, ei2⟩ := isL_v ga3
  obtain rfl : w2 = (.long i2) := Option.some.inj ei2
  obtain ⟨i3, ei3⟩ := is_v ga4
  obtain rfl : w3 = (.int i3) := Option.some.inj ei3
  obtain ⟨i4, ei4⟩ := is_v gb4
  obtain rfl : w4 = (.int i4) := Option.some.inj ei4
  obtain ⟨n, o, h1, h2, h3, _, L, rfl, ⟨rfl, N⟩, hq⟩ := rm0 l s _ hw tables_1 i0 i1 i2 i3 i4 s.heap s.heap.size (Nat.le_refl _) p e ha hc hk s m _ below hf ((Spec.applies_iff_loose hf).mp happ).1 ⟨rfl, State.Warmed39.refl s, rfl⟩ trivial
  refine ⟨n, _, h1, h2, h3, hpost _ _ _ _ _ _ ⟨Cond.after_iff.mpr rfl, Cond.after_iff.mpr (eq_i res_at (Term.int_eval (1)) rfl), trivial⟩ ⟨hq.1, hq.2.1, (hq.2.2.sift fun y hy => Or.inr (N y hy)).mono (by decide) (by decide)⟩⟩
theorem main_1_1 : Claimed_1_1 := comes_1 fun _ _ _ _ _ _ h hF => ⟨h.1, hF⟩
theorem main_1_2 : Claimed_1_2 := comes_1 fun _ _ _ _ _ _ h hF => ⟨h.2.1, hF⟩
end Jvm.Pilot.@@N@@
namespace Jvm.Pilot.@@N@@
open Jvm Jvm.ClassFile Sem Op Lib Jvm.Free Jvm.Stand Jvm.Pilot.@@N@@.Jvm.D
/-! MADE BY PROGRAM (witnessworld.py) out of the Statement's table words and the real class files: 12 classes; the members and pool entries that the words name. The judged class is class 1, her method 2. -/
namespace start1
open Jvm.ClassFile
def u (s : String) : CpInfo := .utf8 (stringToUtf16 s)
/-- a pool by its gaps: so many unusable entries, then the entry; so many at the end -/
def gap : Nat → List CpInfo → List CpInfo
  | 0, r => r
  | n + 1, r => .unusable :: gap n r
def poolList (es : List (Nat × CpInfo)) (last : Nat) : List CpInfo := es.foldr (fun e r => gap e.1 (e.2 :: r)) (gap last [])
def pool (es : List (Nat × CpInfo)) (last : Nat) : Array CpInfo := ⟨poolList es last⟩
def fileOf (pool : Array CpInfo) (this : Nat) (attrs : Array Attribute := #[]) (ms : Array MethodInfo := #[]) (fl : Nat := 33) (sup : Nat := 0) (ifs : Array Nat := #[]) (fds : Array FieldInfo := #[]) : ClassFile where
  minorVersion := 0
  majorVersion := 65
  constantPool := pool
  accessFlags := fl
  thisClass := this
  superClass := sup
  interfaces := ifs
  fields := fds
  methods := ms
  attributes := attrs
def plain (name : String) (sup : Option ClassId) : Class where
  name := name
  kind := .ordinary
  loader := none
  accessFlags := 33
  super := sup
  interfaces := #[]
  cf := none
  fields := #[]
  methods := #[]
  instanceTypes := #[]
  staticTypes := #[]
  resolved := #[]
  callSites := []
  init := .initialized
  statics := none
  mirror := none

def pool0 : Array CpInfo := pool [(5, u "<init>"), (0, u "()V"), (1, .class_ 10), (1, u "java/lang/Object")] 113

def k0c0 : Code := { maxStack := 0, maxLocals := 1, code := object_method_1_code, exceptionTable := #[], attributes := #[] }
def k0m0 : Method := { name := "<init>", desc := "()V", sig := { parameters := [], returnType := none }, accessFlags := 1, code := some k0c0 }
/-- java/lang/Object -/
def k0 : Class := { plain "java/lang/Object" none with
  accessFlags := 33
  interfaces := #[]
  cf := some (fileOf pool0 8 #[] #[{ accessFlags := 1, nameIndex := 5, descriptorIndex := 6, attributes := #[] }] 33 0 #[] #[])
  fields := #[]
  methods := #[k0m0]
  instanceTypes := #[]
  staticTypes := #[]
  resolved := Array.replicate 124 none
  statics := none }

def pool1 : Array CpInfo := pool [(2, .class_ 4), (0, .nameAndType 5 6), (0, u "java/lang/Object"), (0, u "<init>"), (0, u "()V"), (0, .methodref 8 9), (0, .class_ 10), (0, .nameAndType 11 12), (0, u "com/example/binlens/binlens/TableMaps"), (0, u "answered"), (0, u "(JJJ)V"), (2, .long 9223372036854775807), (1, .integer 2147483647), (0, .methodref 8 3), (0, .methodref 20 21), (0, .class_ 22), (0, .nameAndType 23 24), (0, u "com/example/binlens/binlens/TableMapsAnswerPinLaw"), (0, u "put"), (0, u "(Lcom/example/binlens/binlens/TableMaps;JJJI)V"), (0, .long 18446744073709551614), (1, .methodref 8 28), (0, .nameAndType 29 30), (0, u "answer"), (0, u "(JJ)J"), (2, u "law"), (0, u "(JJJII)Z")] 3

def k1m0 : Method := { name := "<init>", desc := "()V", sig := { parameters := [], returnType := none }, accessFlags := 1, code := none }
def k1c1 : Code := { maxStack := 9, maxLocals := 8, code := method_2_code, exceptionTable := #[], attributes := #[] }
def k1m1 : Method := { name := "put", desc := "(Lcom/example/binlens/binlens/TableMaps;JJJI)V", sig := { parameters := [(.object "com/example/binlens/binlens/TableMaps"), .long, .long, .long, .int], returnType := none }, accessFlags := 10, code := some k1c1 }
def k1c2 : Code := { maxStack := 8, maxLocals := 16, code := code, exceptionTable := #[], attributes := #[] }
def k1m2 : Method := { name := "law", desc := "(JJJII)Z", sig := { parameters := [.long, .long, .long, .int, .int], returnType := some .boolean }, accessFlags := 9, code := some k1c2 }
/-- com/example/binlens/binlens/TableMapsAnswerPinLaw -/
def k1 : Class := { plain "com/example/binlens/binlens/TableMapsAnswerPinLaw" (some 0) with
  accessFlags := 49
  interfaces := #[]
  cf := some (fileOf pool1 20 #[] #[{ accessFlags := 1, nameIndex := 5, descriptorIndex := 6, attributes := #[] }, { accessFlags := 10, nameIndex := 23, descriptorIndex := 24, attributes := #[] }, { accessFlags := 9, nameIndex := 33, descriptorIndex := 34, attributes := #[] }] 49 2 #[] #[])
  fields := #[]
  methods := #[k1m0, k1m1, k1m2]
  instanceTypes := #[]
  staticTypes := #[]
  resolved := Array.replicate 38 none
  statics := none }

def pool2 : Array CpInfo := pool [(1, .class_ 2), (0, u "com/example/binlens/binlens/TableMaps"), (0, .methodref 4 5), (0, .class_ 6), (0, .nameAndType 7 8), (0, u "java/lang/Object"), (0, u "<init>"), (0, u "()V"), (0, .fieldref 1 10), (0, .nameAndType 11 12), (0, u "askedNumbers"), (0, u "[J"), (0, .fieldref 1 14), (0, .nameAndType 15 12), (0, u "askedEnds"), (0, .fieldref 1 17), (0, .nameAndType 18 12), (0, u "answers"), (0, .long 18446744073709551615), (1, .methodref 22 23), (0, .class_ 24), (0, .nameAndType 25 26), (0, u "java/util/Arrays"), (0, u "fill"), (0, u "([JJ)V"), (2, u "numbers"), (2, u "positions"), (2, u "olderNumbers"), (2, u "olderPositions"), (6, u "size"), (0, u "I"), (5, u "generationStart"), (0, u "J"), (2, u "forgottenBefore"), (5, u "(JJ)J"), (0, .long 18446744073709551614), (1, .fieldref 1 66), (0, .nameAndType 67 46), (0, u "next"), (2, u "NONE"), (1, u "UNKNOWN"), (0, u "GENERATION"), (1, u "SLOTS"), (1, u "ANSWERS"), (11, u "answer"), (0, u "answered"), (0, u "(JJJ)V")] 2

def k2c0 : Code := { maxStack := 3, maxLocals := 1, code := prog_182_method_1_code, exceptionTable := #[], attributes := #[] }
def k2m0 : Method := { name := "<init>", desc := "()V", sig := { parameters := [], returnType := none }, accessFlags := 0, code := some k2c0 }
def k2c1 : Code := { maxStack := 4, maxLocals := 6, code := prog_182_method_7_code, exceptionTable := #[], attributes := #[] }
def k2m1 : Method := { name := "answer", desc := "(JJ)J", sig := { parameters := [.long, .long], returnType := some .long }, accessFlags := 0, code := some k2c1 }
def k2c2 : Code := { maxStack := 4, maxLocals := 7, code := prog_182_method_8_code, exceptionTable := #[], attributes := #[] }
def k2m2 : Method := { name := "answered", desc := "(JJJ)V", sig := { parameters := [.long, .long, .long], returnType := none }, accessFlags := 0, code := some k2c2 }
/-- com/example/binlens/binlens/TableMaps -/
def k2 : Class := { plain "com/example/binlens/binlens/TableMaps" (some 0) with
  accessFlags := 48
  interfaces := #[]
  cf := some (fileOf pool2 1 #[] #[{ accessFlags := 0, nameIndex := 7, descriptorIndex := 8, attributes := #[] }, { accessFlags := 0, nameIndex := 89, descriptorIndex := 62, attributes := #[] }, { accessFlags := 0, nameIndex := 90, descriptorIndex := 91, attributes := #[] }] 48 4 #[] #[{ accessFlags := 24, nameIndex := 70, descriptorIndex := 53, attributes := #[] }, { accessFlags := 24, nameIndex := 72, descriptorIndex := 53, attributes := #[] }, { accessFlags := 26, nameIndex := 73, descriptorIndex := 46, attributes := #[] }, { accessFlags := 26, nameIndex := 75, descriptorIndex := 46, attributes := #[] }, { accessFlags := 26, nameIndex := 77, descriptorIndex := 46, attributes := #[] }, { accessFlags := 2, nameIndex := 29, descriptorIndex := 12, attributes := #[] }, { accessFlags := 2, nameIndex := 32, descriptorIndex := 12, attributes := #[] }, { accessFlags := 2, nameIndex := 35, descriptorIndex := 12, attributes := #[] }, { accessFlags := 2, nameIndex := 38, descriptorIndex := 12, attributes := #[] }, { accessFlags := 2, nameIndex := 45, descriptorIndex := 46, attributes := #[] }, { accessFlags := 2, nameIndex := 52, descriptorIndex := 53, attributes := #[] }, { accessFlags := 2, nameIndex := 56, descriptorIndex := 53, attributes := #[] }, { accessFlags := 18, nameIndex := 11, descriptorIndex := 12, attributes := #[] }, { accessFlags := 18, nameIndex := 15, descriptorIndex := 12, attributes := #[] }, { accessFlags := 18, nameIndex := 18, descriptorIndex := 12, attributes := #[] }, { accessFlags := 2, nameIndex := 67, descriptorIndex := 46, attributes := #[] }])
  fields := #[{ name := "NONE", type := .long, accessFlags := 24, slot := 0, constantValue := 0 }, { name := "UNKNOWN", type := .long, accessFlags := 24, slot := 1, constantValue := 0 }, { name := "GENERATION", type := .int, accessFlags := 26, slot := 2, constantValue := 0 }, { name := "SLOTS", type := .int, accessFlags := 26, slot := 3, constantValue := 0 }, { name := "ANSWERS", type := .int, accessFlags := 26, slot := 4, constantValue := 0 }, { name := "numbers", type := (.array .long), accessFlags := 2, slot := 0, constantValue := 0 }, { name := "positions", type := (.array .long), accessFlags := 2, slot := 1, constantValue := 0 }, { name := "olderNumbers", type := (.array .long), accessFlags := 2, slot := 2, constantValue := 0 }, { name := "olderPositions", type := (.array .long), accessFlags := 2, slot := 3, constantValue := 0 }, { name := "size", type := .int, accessFlags := 2, slot := 4, constantValue := 0 }, { name := "generationStart", type := .long, accessFlags := 2, slot := 5, constantValue := 0 }, { name := "forgottenBefore", type := .long, accessFlags := 2, slot := 6, constantValue := 0 }, { name := "askedNumbers", type := (.array .long), accessFlags := 18, slot := 7, constantValue := 0 }, { name := "askedEnds", type := (.array .long), accessFlags := 18, slot := 8, constantValue := 0 }, { name := "answers", type := (.array .long), accessFlags := 18, slot := 9, constantValue := 0 }, { name := "next", type := .int, accessFlags := 2, slot := 10, constantValue := 0 }]
  methods := #[k2m0, k2m1, k2m2]
  instanceTypes := #[(.array .long), (.array .long), (.array .long), (.array .long), .int, .long, .long, (.array .long), (.array .long), (.array .long), .int]
  staticTypes := #[.long, .long, .int, .int, .int]
  resolved := Array.replicate 94 none
  statics := none }

def pool3 : Array CpInfo := pool [(2, .class_ 4), (1, u "java/lang/Object"), (0, u "<init>"), (0, u "()V"), (7, .class_ 16), (1, u "java/util/Arrays"), (57, .class_ 76), (1, u "java/util/Arrays$NaturalOrder"), (36, .class_ 115), (1, u "java/util/Arrays$LegacyMergeSort"), (1, u "Z"), (257, .class_ 376), (0, u "java/util/Arrays$ArrayList"), (68, u "$assertionsDisabled"), (269, u "MIN_ARRAY_SORT_GRAN"), (0, u "I"), (2, u "INSERTIONSORT_THRESHOLD"), (120, u "fill"), (0, u "([JJ)V"), (133, .class_ 976), (0, u "java/util/Arrays$ArrayItr")] 52

def k3m0 : Method := { name := "<init>", desc := "()V", sig := { parameters := [], returnType := none }, accessFlags := 2, code := none }
def k3c1 : Code := { maxStack := 4, maxLocals := 5, code := jdk_65_method_101_code, exceptionTable := #[], attributes := #[] }
def k3m1 : Method := { name := "fill", desc := "([JJ)V", sig := { parameters := [(.array .long), .long], returnType := none }, accessFlags := 9, code := some k3c1 }
/-- java/util/Arrays -/
def k3 : Class := { plain "java/util/Arrays" (some 0) with
  accessFlags := 49
  interfaces := #[]
  cf := some (fileOf pool3 14 #[.nestMembers #[975, 375, 113, 74]] #[{ accessFlags := 2, nameIndex := 5, descriptorIndex := 6, attributes := #[] }, { accessFlags := 9, nameIndex := 840, descriptorIndex := 841, attributes := #[] }] 49 2 #[] #[{ accessFlags := 26, nameIndex := 715, descriptorIndex := 716, attributes := #[] }, { accessFlags := 26, nameIndex := 719, descriptorIndex := 716, attributes := #[] }, { accessFlags := 4120, nameIndex := 445, descriptorIndex := 117, attributes := #[] }])
  fields := #[{ name := "MIN_ARRAY_SORT_GRAN", type := .int, accessFlags := 26, slot := 0, constantValue := 0 }, { name := "INSERTIONSORT_THRESHOLD", type := .int, accessFlags := 26, slot := 1, constantValue := 0 }, { name := "$assertionsDisabled", type := .boolean, accessFlags := 4120, slot := 2, constantValue := 0 }]
  methods := #[k3m0, k3m1]
  instanceTypes := #[]
  staticTypes := #[.int, .int, .boolean]
  resolved := Array.replicate 1029 none
  statics := none }

def pool4 : Array CpInfo := pool [(1, u "java/lang/Cloneable"), (0, .class_ 1), (0, u "java/lang/Object"), (0, .class_ 3)] 3

/-- java/lang/Cloneable -/
def k4 : Class := { plain "java/lang/Cloneable" (some 0) with
  accessFlags := 1537
  interfaces := #[]
  cf := some (fileOf pool4 2 #[] #[] 1537 4 #[] #[])
  fields := #[]
  methods := #[]
  instanceTypes := #[]
  staticTypes := #[]
  resolved := Array.replicate 8 none
  statics := none }

def pool5 : Array CpInfo := pool [(1, u "java/io/Serializable"), (0, .class_ 1), (0, u "java/lang/Object"), (0, .class_ 3)] 3

/-- java/io/Serializable -/
def k5 : Class := { plain "java/io/Serializable" (some 0) with
  accessFlags := 1537
  interfaces := #[]
  cf := some (fileOf pool5 2 #[] #[] 1537 4 #[] #[])
  fields := #[]
  methods := #[]
  instanceTypes := #[]
  staticTypes := #[]
  resolved := Array.replicate 8 none
  statics := none }

/-- the primitive byte -/
def k6 : Class := { plain "byte" none with kind := .primitive 'B', accessFlags := 0x411 }
/-- [B -/
def k7 : Class := { plain "[B" (some 0) with kind := .array 6 .byte, interfaces := #[4, 5], accessFlags := 1041 }

/-- the primitive int -/
def k8 : Class := { plain "int" none with kind := .primitive 'I', accessFlags := 0x411 }
/-- [I -/
def k9 : Class := { plain "[I" (some 0) with kind := .array 8 .int, interfaces := #[4, 5], accessFlags := 1041 }

/-- the primitive long -/
def k10 : Class := { plain "long" none with kind := .primitive 'J', accessFlags := 0x411 }
/-- [J -/
def k11 : Class := { plain "[J" (some 0) with kind := .array 10 .long, interfaces := #[4, 5], accessFlags := 1041 }

def heap : Heap := #[]
def classes : Array Class := #[k0, k1, k2, k3, k4, k5, k6, k7, k8, k9, k10, k11]
def interned : List (Array UInt16 × Addr) := []
def slotsUsed : Nat := 0
def theMethod : MethodId := ⟨1, 2⟩
def args0 : Array Value := #[.long 7, .long 4, .long 9, .int 3, .int 2]
def aboutOver (below : List Frame) : State where
  vm := { classes := classes, interned := interned.toArray }
  heap := heap
  slotsUsed := slotsUsed
  threads := #[{ frames := .invoking theMethod args0 :: below }]
def below0 : List Frame := [.native { method := ⟨0, 0⟩, args := #[] }]
def about1 : State := aboutOver below0
def p0 : Program := .bare "" "" ""
def e0 : Env := launch0.env 0 0 0
theorem w_frames : about1.frames = Frame.invoking theMethod args0 :: below0 := rfl
set_option maxRecDepth 65536 in
theorem w_args : argsFit about1.vm theMethod args0 = true := by decide +kernel
set_option maxRecDepth 65536 in
theorem w_heap : heapFits about1 = true := by decide +kernel
set_option maxRecDepth 65536 in
theorem w_runnable : about1.curStatus? = some .runnable := by decide +kernel
set_option maxRecDepth 65536 in
theorem w_alone : about1.alone = true := by decide +kernel
set_option maxRecDepth 65536 in
theorem w_named : about1.methodNamed? x = some theMethod := by decide +kernel
set_option maxRecDepth 65536 in
theorem w_hears : about1.hears theMethod below0 = true := by decide +kernel
set_option maxRecDepth 65536 in
theorem w_ripe : about1.ripe theMethod args0 below0 = true := by decide +kernel
theorem w_running : about1.status = .running := rfl
set_option maxRecDepth 65536 in
theorem w_room : about1.hasRoom e0.platform room_1 = true :=
  launch0.hasRoom_least _ room_1 (by decide +kernel) (by decide +kernel) (by decide +kernel) (by decide +kernel) (by decide +kernel) (by decide +kernel)
theorem allAtoms_all (ts : List Jvm.Cond) (a : Array Jvm.Value) (st : Jvm.State) : (allAtoms ts).before a st = ts.all (fun c => c.before a st) := by
  induction ts with
  | nil => rfl
  | cons c t ih =>
    show (Jvm.Cond.and c (allAtoms t)).before a st = _
    rw [Jvm.Cond.before_and, ih, List.all_cons]
def words1 : List Jvm.Cond := Jvm.Cond.code x code maxLocals ret :: tables_1
/-- a 'code' word, met by the world's own term for the bytes: nothing is compared byte by byte -/
theorem code_word {y : MethodName} {bytes : ByteArray} {mx : Nat} {rt : Option FieldType} {a : Array Value} {s : State} {m : MethodId} {meth : Method} {c : Code} (h1 : s.methodNamed? y = some m) (h2 : s.vm.method? m = some meth) (h3 : meth.code = some c) (h4 : c.code = bytes)
    (h5 : (c.maxLocals == mx && c.exceptionTable.isEmpty && decide (c.maxStack ≤ mostOperands) && decide (meth.sig.returnType = rt) && !meth.locks && decide (parseMethodDescriptor y.desc = some meth.sig)) = true) : (Jvm.Cond.code y bytes mx rt).before a s = true := by
  simp only [Bool.and_eq_true, beq_iff_eq, Bool.not_eq_true', decide_eq_true_eq] at h5
  obtain ⟨⟨⟨⟨⟨g1, g2⟩, g3⟩, g4⟩, g5⟩, g6⟩ := h5
  simp [Cond.before, Cond.holds, Cond.value, h1, h2, h3, h4, g1, g2, g3, g4, g5, g6]
def isCode : Jvm.Cond → Bool
  | .code _ _ _ _ => true
  | _ => false
theorem all_split {L : List Jvm.Cond} {P : Jvm.Cond → Bool} (h1 : L.all (fun c => isCode c || P c) = true) (h2 : ∀ c ∈ L.filter isCode, P c = true) : L.all P = true := by
  refine List.all_eq_true.mpr fun c hc => ?_
  have h := List.all_eq_true.mp h1 c hc
  rcases Bool.eq_false_or_eq_true (isCode c) with hi | hi
  · exact h2 c (List.mem_filter.mpr ⟨hc, hi⟩)
  · simpa [hi] using h
set_option maxRecDepth 65536 in
theorem w_c0 : (Jvm.Cond.code x code maxLocals ret).before args0 about1 = true := code_word (m := ⟨1, 2⟩) (meth := k1m2) (c := k1c2) (by decide +kernel) rfl rfl rfl (by decide +kernel)
set_option maxRecDepth 65536 in
theorem w_c1 : (Jvm.Cond.code ({ cls := "com/example/binlens/binlens/TableMaps", name := "<init>", desc := "()V" } : Jvm.MethodName) prog_182_method_1_code (1 : Nat) (Option.none : Option Jvm.ClassFile.FieldType)).before args0 about1 = true := code_word (m := ⟨2, 0⟩) (meth := k2m0) (c := k2c0) (by decide +kernel) rfl rfl rfl (by decide +kernel)
set_option maxRecDepth 65536 in
theorem w_c2 : (Jvm.Cond.code ({ cls := "java/lang/Object", name := "<init>", desc := "()V" } : Jvm.MethodName) object_method_1_code (1 : Nat) (Option.none : Option Jvm.ClassFile.FieldType)).before args0 about1 = true := code_word (m := ⟨0, 0⟩) (meth := k0m0) (c := k0c0) (by decide +kernel) rfl rfl rfl (by decide +kernel)
set_option maxRecDepth 65536 in
theorem w_c3 : (Jvm.Cond.code ({ cls := "java/util/Arrays", name := "fill", desc := "([JJ)V" } : Jvm.MethodName) jdk_65_method_101_code (5 : Nat) (Option.none : Option Jvm.ClassFile.FieldType)).before args0 about1 = true := code_word (m := ⟨3, 1⟩) (meth := k3m1) (c := k3c1) (by decide +kernel) rfl rfl rfl (by decide +kernel)
set_option maxRecDepth 65536 in
theorem w_c4 : (Jvm.Cond.code ({ cls := "com/example/binlens/binlens/TableMapsAnswerPinLaw", name := "put", desc := "(Lcom/example/binlens/binlens/TableMaps;JJJI)V" } : Jvm.MethodName) method_2_code (8 : Nat) (Option.none : Option Jvm.ClassFile.FieldType)).before args0 about1 = true := code_word (m := ⟨1, 1⟩) (meth := k1m1) (c := k1c1) (by decide +kernel) rfl rfl rfl (by decide +kernel)
set_option maxRecDepth 65536 in
theorem w_c5 : (Jvm.Cond.code ({ cls := "com/example/binlens/binlens/TableMaps", name := "answered", desc := "(JJJ)V" } : Jvm.MethodName) prog_182_method_8_code (7 : Nat) (Option.none : Option Jvm.ClassFile.FieldType)).before args0 about1 = true := code_word (m := ⟨2, 2⟩) (meth := k2m2) (c := k2c2) (by decide +kernel) rfl rfl rfl (by decide +kernel)
set_option maxRecDepth 65536 in
theorem w_c6 : (Jvm.Cond.code ({ cls := "com/example/binlens/binlens/TableMaps", name := "answer", desc := "(JJ)J" } : Jvm.MethodName) prog_182_method_7_code (6 : Nat) (Option.some Jvm.ClassFile.FieldType.long)).before args0 about1 = true := code_word (m := ⟨2, 1⟩) (meth := k2m1) (c := k2c1) (by decide +kernel) rfl rfl rfl (by decide +kernel)
def codes1 : List Jvm.Cond := [Jvm.Cond.code x code maxLocals ret, Jvm.Cond.code ({ cls := "com/example/binlens/binlens/TableMaps", name := "<init>", desc := "()V" } : Jvm.MethodName) prog_182_method_1_code (1 : Nat) (Option.none : Option Jvm.ClassFile.FieldType), Jvm.Cond.code ({ cls := "java/lang/Object", name := "<init>", desc := "()V" } : Jvm.MethodName) object_method_1_code (1 : Nat) (Option.none : Option Jvm.ClassFile.FieldType), Jvm.Cond.code ({ cls := "java/util/Arrays", name := "fill", desc := "([JJ)V" } : Jvm.MethodName) jdk_65_method_101_code (5 : Nat) (Option.none : Option Jvm.ClassFile.FieldType), Jvm.Cond.code ({ cls := "com/example/binlens/binlens/TableMapsAnswerPinLaw", name := "put", desc := "(Lcom/example/binlens/binlens/TableMaps;JJJI)V" } : Jvm.MethodName) method_2_code (8 : Nat) (Option.none : Option Jvm.ClassFile.FieldType), Jvm.Cond.code ({ cls := "com/example/binlens/binlens/TableMaps", name := "answered", desc := "(JJJ)V" } : Jvm.MethodName) prog_182_method_8_code (7 : Nat) (Option.none : Option Jvm.ClassFile.FieldType), Jvm.Cond.code ({ cls := "com/example/binlens/binlens/TableMaps", name := "answer", desc := "(JJ)J" } : Jvm.MethodName) prog_182_method_7_code (6 : Nat) (Option.some Jvm.ClassFile.FieldType.long)]
set_option maxRecDepth 65536 in
theorem codes_eq : words1.filter isCode = codes1 := rfl
theorem w_codes : ∀ c ∈ words1.filter isCode, c.before args0 about1 = true := by
  rw [codes_eq]
  intro c hc
  simp only [codes1, List.mem_cons, List.not_mem_nil, or_false] at hc
  rcases hc with rfl | rfl | rfl | rfl | rfl | rfl | rfl
  · exact w_c0
  · exact w_c1
  · exact w_c2
  · exact w_c3
  · exact w_c4
  · exact w_c5
  · exact w_c6
set_option maxRecDepth 65536 in
theorem w_t1 : (words1.take 24).all (fun c => isCode c || c.before args0 about1) = true := by decide +kernel
set_option maxRecDepth 65536 in
theorem w_t2 : (words1.drop 24).all (fun c => isCode c || c.before args0 about1) = true := by decide +kernel
theorem w_tables : (allAtoms (Jvm.Cond.code x code maxLocals ret :: tables_1)).before args0 about1 = true := by
  rw [allAtoms_all]
  show words1.all (fun c => c.before args0 about1) = true
  refine all_split ?_ w_codes
  rw [← List.take_append_drop 24 words1, List.all_append, w_t1, w_t2]
  rfl
set_option maxRecDepth 65536 in
theorem w_case : (Jvm.Cond.and given_1 narrow_1).before args0 about1 = true := by decide +kernel
theorem w_applies : (headSpec (Jvm.Cond.code x code maxLocals ret :: tables_1) room_1).applies x e0.platform about1 = true :=
  (Spec.applies_iff w_frames).mpr ⟨w_running, w_runnable, w_alone, w_named, w_hears, w_ripe, w_room, w_tables⟩
theorem atStart : AtStart classFile x code maxLocals ret World_1 tables_1 room_1 Calls_1 rest_1 Pre_1 launch0 p0 e0 about1 theMethod args0 below0 :=
  ⟨lists_1, trivial, launch0.admits_env _ _ _, launch0.least_env, fairChoices_fair.cas, fairChoices_fair.clock, w_frames, w_args, w_heap, w_applies, trivial, trivial, w_case⟩
end start1
theorem witness_1 : WitnessClaimed_1 := ⟨start1.p0, start1.e0, start1.about1, start1.theMethod, start1.args0, start1.below0, start1.atStart⟩
end Jvm.Pilot.@@N@@
