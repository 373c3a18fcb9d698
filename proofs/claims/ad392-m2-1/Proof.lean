import JvmDerived
import JvmDerived.Pilot.@@N@@Statement
import JvmDerived.Pilot.@@N@@Code
set_option linter.unusedVariables false
set_option linter.unusedSimpArgs false
namespace Jvm.RoadKit
open Sem ClassFile Op Lib Jvm.Stand Jvm.Free Jvm.LawKit
section New
variable {p : Program} {l : Launch} {e : Env} {R : Room} {s : State} {m : MethodId} {args : Array Value} {below : List Frame} {meth : Method} {c : Code} {T : State} {locs : List Loc} {cells slots : Nat}
theorem retI (X : Stand p l e R s m args below meth c T locs cells slots) (hx : p.tables.exec = Jvm.exec) {pc : Nat} {Ls : Array Slot} {z : Int32} {rest : List Value} (hret : meth.sig.returnType = some .int) (hd : decode c.code pc = .ok (.ireturn, 1)) {fs : List Frame}
    (hl : ∀ (f : JFrame) (acts : List Action), f.method = m → f.locked = none → f.entered = [] → (doReturn e (T.setTop f) acts (some (.int z))).1 = T.setFrames fs) : Steps p.tables e below (T.setTop (mkF m pc Ls (.int z :: rest))) (T.setFrames fs) := by
  have hm' : T.vm.method? m = some meth := X.method'
  have hn : narrow .int (.int z) = .int z := rfl
  show Steps p.tables e below (T.setTop { method := m, pc := pc, locals := Ls, stack := _ :: rest, locked := none }) _
  jvm_step X.here [X.here.top, hx, hd, hm', hret, hn]
  first | (intro acts; rw [hl _ acts rfl rfl rfl]) | rw [hl _ _ rfl rfl rfl]
  exact Steps.refl _
end New
end Jvm.RoadKit
@@BLOCK:NumsL.lean.txt@@
namespace Jvm.Pilot.@@N@@
open Jvm Jvm.ClassFile Sem Op Lib Jvm.Free Jvm.Stand Jvm.LawKit Jvm.RoadKit Bundle Jvm.Pilot.@@N@@.Jvm.D
def own_force (w : Int64) (i p m : Int32) : Int64 := if (((m.toUInt32 >>> (i &&& 31).toUInt32).toInt32) &&& (1 : Int32)) = (0 : Int32) then w else ((w &&& (((255 : Int64) <<< (((8 : Int32) * i) &&& 0x3f).toInt64) ^^^ (-1 : Int64))) ||| ((p.toInt64) <<< (((8 : Int32) * i) &&& 0x3f).toInt64))
theorem own_f1 (w : Int64) (i p m : Int32) (h : (((m.toUInt32 >>> (i &&& 31).toUInt32).toInt32) &&& (1 : Int32)) = (0 : Int32)) : own_force w i p m = w := if_pos h
theorem own_f2 (w : Int64) (i p m : Int32) (h : ¬ (((m.toUInt32 >>> (i &&& 31).toUInt32).toInt32) &&& (1 : Int32)) = (0 : Int32)) : own_force w i p m = ((w &&& (((255 : Int64) <<< (((8 : Int32) * i) &&& 0x3f).toInt64) ^^^ (-1 : Int64))) ||| ((p.toInt64) <<< (((8 : Int32) * i) &&& 0x3f).toInt64)) := if_neg h
def own_bit (w : Int64) (p i : Int32) : Int64 := if ((((w.toUInt64 >>> (((8 : Int32) * i) &&& 0x3f).toInt64.toUInt64).toInt64) &&& (255 : Int64)).toInt32) = p then ((1 : Int64) <<< ((((8 : Int32) * i) + (7 : Int32)) &&& 0x3f).toInt64) else (0 : Int64)
theorem own_b1 (w : Int64) (p i : Int32) (h : ((((w.toUInt64 >>> (((8 : Int32) * i) &&& 0x3f).toInt64.toUInt64).toInt64) &&& (255 : Int64)).toInt32) = p) : own_bit w p i = ((1 : Int64) <<< ((((8 : Int32) * i) + (7 : Int32)) &&& 0x3f).toInt64) := if_pos h
theorem own_b2 (w : Int64) (p i : Int32) (h : ¬ ((((w.toUInt64 >>> (((8 : Int32) * i) &&& 0x3f).toInt64.toUInt64).toInt64) &&& (255 : Int64)).toInt32) = p) : own_bit w p i = (0 : Int64) := if_neg h
def own_mat (w q : Int64) : Int64 := ((((((w ^^^ q) &&& (9187201950435737471 : Int64)) + (9187201950435737471 : Int64)) ||| (w ^^^ q)) ||| (9187201950435737471 : Int64)) ^^^ (-1 : Int64))
theorem own_pat (P : BitVec 8) : ∀ i t : Fin 8, (72340172838076673#64 * P.setWidth 64).getLsbD (8 * i.val + t.val) = P.getLsbD t.val := by
  revert P; decide +kernel
theorem own_M : ∀ j : Fin 64, (9187201950435737471#64).getLsbD j.val = decide (j.val % 8 ≠ 7) := by decide
theorem own_255 : ∀ j : Fin 64, (255#64).getLsbD j.val = decide (j.val < 8) := by decide
theorem own_255' : ∀ j : Fin 32, (255#32).getLsbD j.val = decide (j.val < 8) := by decide
theorem own_carry0 (X : BitVec 64) (i : Nat) (hi : i < 8) : BitVec.carry (8 * i) (X &&& 9187201950435737471#64) (9187201950435737471#64) false = false := by
  cases i with
  | zero => simp [BitVec.carry_zero]
  | succ i =>
    have h := own_M ⟨8 * i + 7, by omega⟩
    simp only at h
    have h7 : (8 * i + 7) % 8 = 7 := by omega
    rw [show 8 * (i + 1) = (8 * i + 7) + 1 by omega, BitVec.carry_succ, BitVec.getLsbD_and, h]
    simp [h7, Bool.atLeastTwo]
theorem own_carryS (X : BitVec 64) (i t : Nat) (hi : i < 8) (ht : t < 7) : BitVec.carry (8 * i + (t + 1)) (X &&& 9187201950435737471#64) (9187201950435737471#64) false = (X.getLsbD (8 * i + t) || BitVec.carry (8 * i + t) (X &&& 9187201950435737471#64) (9187201950435737471#64) false) := by
  have h := own_M ⟨8 * i + t, by omega⟩
  simp only at h
  have h7 : (8 * i + t) % 8 ≠ 7 := by omega
  have h8 : decide ((8 * i + t) % 8 ≠ 7) = true := decide_eq_true h7
  rw [show 8 * i + (t + 1) = (8 * i + t) + 1 by omega, BitVec.carry_succ, BitVec.getLsbD_and, h, h8]
  generalize X.getLsbD (8 * i + t) = u
  generalize BitVec.carry (8 * i + t) (X &&& 9187201950435737471#64) (9187201950435737471#64) false = v
  cases u <;> cases v <;> rfl
def own_any (X : BitVec 64) (i : Nat) : Nat → Bool
  | 0 => false
  | t + 1 => X.getLsbD (8 * i + t) || own_any X i t
theorem own_carry (X : BitVec 64) (i : Nat) (hi : i < 8) : ∀ t, t ≤ 7 → BitVec.carry (8 * i + t) (X &&& 9187201950435737471#64) (9187201950435737471#64) false = own_any X i t := by
  intro t
  induction t with
  | zero => intro _; exact own_carry0 X i hi
  | succ t ih => intro h; rw [own_carryS X i t hi (by omega), ih (by omega)]; rfl
theorem own_high (X : BitVec 64) (i : Nat) (hi : i < 8) : ((((X &&& 9187201950435737471#64) + 9187201950435737471#64) ||| X) ||| 9187201950435737471#64).getLsbD (8 * i + 7) = own_any X i 8 := by
  have h := own_M ⟨8 * i + 7, by omega⟩
  simp only at h
  have h7 : (8 * i + 7) % 8 = 7 := by omega
  have h8 : decide ((8 * i + 7) % 8 ≠ 7) = false := decide_eq_false (fun q => q h7)
  rw [BitVec.getLsbD_or, BitVec.getLsbD_or, BitVec.getLsbD_add (by omega), BitVec.getLsbD_and, h, own_carry X i hi 7 (by omega), h8]
  show _ = (X.getLsbD (8 * i + 7) || own_any X i 7)
  generalize X.getLsbD (8 * i + 7) = u
  generalize own_any X i 7 = v
  cases u <;> cases v <;> rfl
theorem own_low (X Y : BitVec 64) (j : Nat) (hj : j < 64) (h : j % 8 ≠ 7) : (Y ||| 9187201950435737471#64).getLsbD j = true := by
  have h2 := own_M ⟨j, hj⟩
  simp only at h2
  rw [BitVec.getLsbD_or, h2]
  simp [h]
theorem own_anyX (W : BitVec 64) (P : BitVec 8) (i : Nat) (hi : i < 8) : ∀ t, t ≤ 8 → (own_any (W ^^^ (72340172838076673#64 * P.setWidth 64)) i t = false ↔ ∀ u, u < t → W.getLsbD (8 * i + u) = P.getLsbD u) := by
  intro t
  induction t with
  | zero => intro _; simp [own_any]
  | succ t ih =>
    intro h
    have h1 := own_pat P ⟨i, hi⟩ ⟨t, by omega⟩
    simp only at h1
    rw [own_any, Bool.or_eq_false_iff, ih (by omega), BitVec.getLsbD_xor, h1]
    constructor
    · intro ⟨a, b⟩ u hu
      by_cases g : u = t
      · subst g; simpa using a
      · exact b u (by omega)
    · intro a
      exact ⟨by simpa using a t (by omega), fun u hu => a u (by omega)⟩
theorem own_byte (W : BitVec 64) (B : BitVec 32) (i : Nat) (hi : i < 8) : (BitVec.signExtend 32 ((W >>> (8 * i)) &&& 255#64) = (B &&& 255#32)) ↔ ∀ u, u < 8 → W.getLsbD (8 * i + u) = (B.setWidth 8).getLsbD u := by
  have hL : ∀ u, u < 32 → (BitVec.signExtend 32 ((W >>> (8 * i)) &&& 255#64)).getLsbD u = (W.getLsbD (8 * i + u) && decide (u < 8)) := fun u hu => by
    have g64 : u < 64 := by omega
    rw [BitVec.getLsbD_signExtend, if_pos g64, BitVec.getLsbD_and, BitVec.getLsbD_ushiftRight, own_255 ⟨u, g64⟩, decide_eq_true hu, Bool.true_and]
  have hR : ∀ u, u < 32 → (B &&& 255#32).getLsbD u = (B.getLsbD u && decide (u < 8)) := fun u hu => by
    rw [BitVec.getLsbD_and, own_255' ⟨u, hu⟩]
  have hB : ∀ u, u < 8 → (B.setWidth 8).getLsbD u = B.getLsbD u := fun u hu => by
    rw [BitVec.getLsbD_setWidth, decide_eq_true hu, Bool.true_and]
  constructor
  · intro h u hu
    have h1 := hL u (by omega)
    rw [h, hR u (by omega), decide_eq_true hu, Bool.and_true, Bool.and_true] at h1
    rw [hB u hu, h1]
  · intro h
    apply BitVec.eq_of_getLsbD_eq
    intro u hu
    rw [hL u hu, hR u hu]
    by_cases g : u < 8
    · rw [h u g, hB u g]
    · rw [decide_eq_false g, Bool.and_false, Bool.and_false]
theorem own_sx (B : BitVec 32) : BitVec.signExtend 64 (B &&& 255#32) = (B.setWidth 8).setWidth 64 := by
  have hm : (B &&& 255#32).msb = false := by
    have h0 : (255#32).msb = false := by decide
    rw [BitVec.msb_and, h0, Bool.and_false]
  apply BitVec.eq_of_getLsbD_eq
  intro u hu
  rw [BitVec.getLsbD_signExtend, hm, BitVec.getLsbD_setWidth, BitVec.getLsbD_setWidth]
  by_cases g : u < 32
  · rw [if_pos g, BitVec.getLsbD_and, own_255' ⟨u, g⟩]
    by_cases g8 : u < 8
    · simp only [g8, decide_true, Bool.and_true, Bool.true_and]
    · simp only [g8, decide_false, Bool.and_false, Bool.false_and]
  · have g8 : ¬ u < 8 := by omega
    rw [if_neg g]
    simp only [g8, decide_false, Bool.and_false, Bool.false_and]
def own_cb (W : BitVec 64) (P : BitVec 8) (i : Nat) : Bool := !(own_any (W ^^^ (72340172838076673#64 * P.setWidth 64)) i 8)
theorem own_cbt (W : BitVec 64) (B : BitVec 32) (i : Nat) (hi : i < 8) : (BitVec.signExtend 32 ((W >>> (8 * i)) &&& 255#64) = (B &&& 255#32)) ↔ own_cb W (B.setWidth 8) i = true := by
  rw [own_byte W B i hi, ← own_anyX W (B.setWidth 8) i hi 8 (Nat.le_refl _), own_cb]
  simp
theorem own_on0 : ∀ j : Fin 64, (((1 : Int64) <<< ((((8 : Int32) * (0 : Int32)) + (7 : Int32)) &&& 0x3f).toInt64)).toBitVec.getLsbD j.val = decide (j.val = 7) := by decide
theorem own_bt0 (w : Int64) (b : Int32) (j : Nat) (hj : j < 64) : (own_bit w (b &&& (255 : Int32)) (0 : Int32)).toBitVec.getLsbD j = (own_cb w.toBitVec (b.toBitVec.setWidth 8) 0 && decide (j = 7)) := by
  have e : (((((w.toUInt64 >>> (((8 : Int32) * (0 : Int32)) &&& 0x3f).toInt64.toUInt64).toInt64) &&& (255 : Int64)).toInt32) = (b &&& (255 : Int32))) ↔ own_cb w.toBitVec (b.toBitVec.setWidth 8) 0 = true := by
    rw [← own_cbt w.toBitVec b.toBitVec 0 (by decide), ← Int32.toBitVec_inj]
    simp only [Int64.toBitVec_toInt32, Int64.toBitVec_and, UInt64.toBitVec_toInt64, UInt64.toBitVec_shiftRight, Int64.toBitVec_toUInt64, Int32.toBitVec_and]
    exact Iff.rfl
  by_cases g : own_cb w.toBitVec (b.toBitVec.setWidth 8) 0 = true
  · rw [own_b1 w _ _ (e.mpr g), g, own_on0 ⟨j, hj⟩, Bool.true_and]
  · rw [own_b2 w _ _ (fun q => g (e.mp q)), Bool.eq_false_iff.mpr g, Bool.false_and]
    show (0#64).getLsbD j = false
    simp
theorem own_on1 : ∀ j : Fin 64, (((1 : Int64) <<< ((((8 : Int32) * (1 : Int32)) + (7 : Int32)) &&& 0x3f).toInt64)).toBitVec.getLsbD j.val = decide (j.val = 15) := by decide
theorem own_bt1 (w : Int64) (b : Int32) (j : Nat) (hj : j < 64) : (own_bit w (b &&& (255 : Int32)) (1 : Int32)).toBitVec.getLsbD j = (own_cb w.toBitVec (b.toBitVec.setWidth 8) 1 && decide (j = 15)) := by
  have e : (((((w.toUInt64 >>> (((8 : Int32) * (1 : Int32)) &&& 0x3f).toInt64.toUInt64).toInt64) &&& (255 : Int64)).toInt32) = (b &&& (255 : Int32))) ↔ own_cb w.toBitVec (b.toBitVec.setWidth 8) 1 = true := by
    rw [← own_cbt w.toBitVec b.toBitVec 1 (by decide), ← Int32.toBitVec_inj]
    simp only [Int64.toBitVec_toInt32, Int64.toBitVec_and, UInt64.toBitVec_toInt64, UInt64.toBitVec_shiftRight, Int64.toBitVec_toUInt64, Int32.toBitVec_and]
    exact Iff.rfl
  by_cases g : own_cb w.toBitVec (b.toBitVec.setWidth 8) 1 = true
  · rw [own_b1 w _ _ (e.mpr g), g, own_on1 ⟨j, hj⟩, Bool.true_and]
  · rw [own_b2 w _ _ (fun q => g (e.mp q)), Bool.eq_false_iff.mpr g, Bool.false_and]
    show (0#64).getLsbD j = false
    simp
theorem own_on2 : ∀ j : Fin 64, (((1 : Int64) <<< ((((8 : Int32) * (2 : Int32)) + (7 : Int32)) &&& 0x3f).toInt64)).toBitVec.getLsbD j.val = decide (j.val = 23) := by decide
theorem own_bt2 (w : Int64) (b : Int32) (j : Nat) (hj : j < 64) : (own_bit w (b &&& (255 : Int32)) (2 : Int32)).toBitVec.getLsbD j = (own_cb w.toBitVec (b.toBitVec.setWidth 8) 2 && decide (j = 23)) := by
  have e : (((((w.toUInt64 >>> (((8 : Int32) * (2 : Int32)) &&& 0x3f).toInt64.toUInt64).toInt64) &&& (255 : Int64)).toInt32) = (b &&& (255 : Int32))) ↔ own_cb w.toBitVec (b.toBitVec.setWidth 8) 2 = true := by
    rw [← own_cbt w.toBitVec b.toBitVec 2 (by decide), ← Int32.toBitVec_inj]
    simp only [Int64.toBitVec_toInt32, Int64.toBitVec_and, UInt64.toBitVec_toInt64, UInt64.toBitVec_shiftRight, Int64.toBitVec_toUInt64, Int32.toBitVec_and]
    exact Iff.rfl
  by_cases g : own_cb w.toBitVec (b.toBitVec.setWidth 8) 2 = true
  · rw [own_b1 w _ _ (e.mpr g), g, own_on2 ⟨j, hj⟩, Bool.true_and]
  · rw [own_b2 w _ _ (fun q => g (e.mp q)), Bool.eq_false_iff.mpr g, Bool.false_and]
    show (0#64).getLsbD j = false
    simp
theorem own_on3 : ∀ j : Fin 64, (((1 : Int64) <<< ((((8 : Int32) * (3 : Int32)) + (7 : Int32)) &&& 0x3f).toInt64)).toBitVec.getLsbD j.val = decide (j.val = 31) := by decide
theorem own_bt3 (w : Int64) (b : Int32) (j : Nat) (hj : j < 64) : (own_bit w (b &&& (255 : Int32)) (3 : Int32)).toBitVec.getLsbD j = (own_cb w.toBitVec (b.toBitVec.setWidth 8) 3 && decide (j = 31)) := by
  have e : (((((w.toUInt64 >>> (((8 : Int32) * (3 : Int32)) &&& 0x3f).toInt64.toUInt64).toInt64) &&& (255 : Int64)).toInt32) = (b &&& (255 : Int32))) ↔ own_cb w.toBitVec (b.toBitVec.setWidth 8) 3 = true := by
    rw [← own_cbt w.toBitVec b.toBitVec 3 (by decide), ← Int32.toBitVec_inj]
    simp only [Int64.toBitVec_toInt32, Int64.toBitVec_and, UInt64.toBitVec_toInt64, UInt64.toBitVec_shiftRight, Int64.toBitVec_toUInt64, Int32.toBitVec_and]
    exact Iff.rfl
  by_cases g : own_cb w.toBitVec (b.toBitVec.setWidth 8) 3 = true
  · rw [own_b1 w _ _ (e.mpr g), g, own_on3 ⟨j, hj⟩, Bool.true_and]
  · rw [own_b2 w _ _ (fun q => g (e.mp q)), Bool.eq_false_iff.mpr g, Bool.false_and]
    show (0#64).getLsbD j = false
    simp
theorem own_on4 : ∀ j : Fin 64, (((1 : Int64) <<< ((((8 : Int32) * (4 : Int32)) + (7 : Int32)) &&& 0x3f).toInt64)).toBitVec.getLsbD j.val = decide (j.val = 39) := by decide
theorem own_bt4 (w : Int64) (b : Int32) (j : Nat) (hj : j < 64) : (own_bit w (b &&& (255 : Int32)) (4 : Int32)).toBitVec.getLsbD j = (own_cb w.toBitVec (b.toBitVec.setWidth 8) 4 && decide (j = 39)) := by
  have e : (((((w.toUInt64 >>> (((8 : Int32) * (4 : Int32)) &&& 0x3f).toInt64.toUInt64).toInt64) &&& (255 : Int64)).toInt32) = (b &&& (255 : Int32))) ↔ own_cb w.toBitVec (b.toBitVec.setWidth 8) 4 = true := by
    rw [← own_cbt w.toBitVec b.toBitVec 4 (by decide), ← Int32.toBitVec_inj]
    simp only [Int64.toBitVec_toInt32, Int64.toBitVec_and, UInt64.toBitVec_toInt64, UInt64.toBitVec_shiftRight, Int64.toBitVec_toUInt64, Int32.toBitVec_and]
    exact Iff.rfl
  by_cases g : own_cb w.toBitVec (b.toBitVec.setWidth 8) 4 = true
  · rw [own_b1 w _ _ (e.mpr g), g, own_on4 ⟨j, hj⟩, Bool.true_and]
  · rw [own_b2 w _ _ (fun q => g (e.mp q)), Bool.eq_false_iff.mpr g, Bool.false_and]
    show (0#64).getLsbD j = false
    simp
theorem own_on5 : ∀ j : Fin 64, (((1 : Int64) <<< ((((8 : Int32) * (5 : Int32)) + (7 : Int32)) &&& 0x3f).toInt64)).toBitVec.getLsbD j.val = decide (j.val = 47) := by decide
theorem own_bt5 (w : Int64) (b : Int32) (j : Nat) (hj : j < 64) : (own_bit w (b &&& (255 : Int32)) (5 : Int32)).toBitVec.getLsbD j = (own_cb w.toBitVec (b.toBitVec.setWidth 8) 5 && decide (j = 47)) := by
  have e : (((((w.toUInt64 >>> (((8 : Int32) * (5 : Int32)) &&& 0x3f).toInt64.toUInt64).toInt64) &&& (255 : Int64)).toInt32) = (b &&& (255 : Int32))) ↔ own_cb w.toBitVec (b.toBitVec.setWidth 8) 5 = true := by
    rw [← own_cbt w.toBitVec b.toBitVec 5 (by decide), ← Int32.toBitVec_inj]
    simp only [Int64.toBitVec_toInt32, Int64.toBitVec_and, UInt64.toBitVec_toInt64, UInt64.toBitVec_shiftRight, Int64.toBitVec_toUInt64, Int32.toBitVec_and]
    exact Iff.rfl
  by_cases g : own_cb w.toBitVec (b.toBitVec.setWidth 8) 5 = true
  · rw [own_b1 w _ _ (e.mpr g), g, own_on5 ⟨j, hj⟩, Bool.true_and]
  · rw [own_b2 w _ _ (fun q => g (e.mp q)), Bool.eq_false_iff.mpr g, Bool.false_and]
    show (0#64).getLsbD j = false
    simp
theorem own_on6 : ∀ j : Fin 64, (((1 : Int64) <<< ((((8 : Int32) * (6 : Int32)) + (7 : Int32)) &&& 0x3f).toInt64)).toBitVec.getLsbD j.val = decide (j.val = 55) := by decide
theorem own_bt6 (w : Int64) (b : Int32) (j : Nat) (hj : j < 64) : (own_bit w (b &&& (255 : Int32)) (6 : Int32)).toBitVec.getLsbD j = (own_cb w.toBitVec (b.toBitVec.setWidth 8) 6 && decide (j = 55)) := by
  have e : (((((w.toUInt64 >>> (((8 : Int32) * (6 : Int32)) &&& 0x3f).toInt64.toUInt64).toInt64) &&& (255 : Int64)).toInt32) = (b &&& (255 : Int32))) ↔ own_cb w.toBitVec (b.toBitVec.setWidth 8) 6 = true := by
    rw [← own_cbt w.toBitVec b.toBitVec 6 (by decide), ← Int32.toBitVec_inj]
    simp only [Int64.toBitVec_toInt32, Int64.toBitVec_and, UInt64.toBitVec_toInt64, UInt64.toBitVec_shiftRight, Int64.toBitVec_toUInt64, Int32.toBitVec_and]
    exact Iff.rfl
  by_cases g : own_cb w.toBitVec (b.toBitVec.setWidth 8) 6 = true
  · rw [own_b1 w _ _ (e.mpr g), g, own_on6 ⟨j, hj⟩, Bool.true_and]
  · rw [own_b2 w _ _ (fun q => g (e.mp q)), Bool.eq_false_iff.mpr g, Bool.false_and]
    show (0#64).getLsbD j = false
    simp
theorem own_on7 : ∀ j : Fin 64, (((1 : Int64) <<< ((((8 : Int32) * (7 : Int32)) + (7 : Int32)) &&& 0x3f).toInt64)).toBitVec.getLsbD j.val = decide (j.val = 63) := by decide
theorem own_bt7 (w : Int64) (b : Int32) (j : Nat) (hj : j < 64) : (own_bit w (b &&& (255 : Int32)) (7 : Int32)).toBitVec.getLsbD j = (own_cb w.toBitVec (b.toBitVec.setWidth 8) 7 && decide (j = 63)) := by
  have e : (((((w.toUInt64 >>> (((8 : Int32) * (7 : Int32)) &&& 0x3f).toInt64.toUInt64).toInt64) &&& (255 : Int64)).toInt32) = (b &&& (255 : Int32))) ↔ own_cb w.toBitVec (b.toBitVec.setWidth 8) 7 = true := by
    rw [← own_cbt w.toBitVec b.toBitVec 7 (by decide), ← Int32.toBitVec_inj]
    simp only [Int64.toBitVec_toInt32, Int64.toBitVec_and, UInt64.toBitVec_toInt64, UInt64.toBitVec_shiftRight, Int64.toBitVec_toUInt64, Int32.toBitVec_and]
    exact Iff.rfl
  by_cases g : own_cb w.toBitVec (b.toBitVec.setWidth 8) 7 = true
  · rw [own_b1 w _ _ (e.mpr g), g, own_on7 ⟨j, hj⟩, Bool.true_and]
  · rw [own_b2 w _ _ (fun q => g (e.mp q)), Bool.eq_false_iff.mpr g, Bool.false_and]
    show (0#64).getLsbD j = false
    simp
theorem own_ones : ∀ j : Fin 64, ((-1 : Int64).toBitVec).getLsbD j.val = true := by decide
theorem own_matb (w : Int64) (b : Int32) (j : Nat) (hj : j < 64) : (own_mat w ((72340172838076673 : Int64) * ((b &&& (255 : Int32)).toInt64))).toBitVec.getLsbD j = (decide (j % 8 = 7) && own_cb w.toBitVec (b.toBitVec.setWidth 8) (j / 8)) := by
  have e0 : ((72340172838076673 : Int64) * ((b &&& (255 : Int32)).toInt64)).toBitVec = 72340172838076673#64 * (b.toBitVec.setWidth 8).setWidth 64 := by
    rw [← own_sx, Int64.toBitVec_mul, Int32.toBitVec_toInt64, Int32.toBitVec_and]; rfl
  have e1 : (own_mat w ((72340172838076673 : Int64) * ((b &&& (255 : Int32)).toInt64))).toBitVec = ((((w.toBitVec ^^^ ((72340172838076673 : Int64) * ((b &&& (255 : Int32)).toInt64)).toBitVec) &&& 9187201950435737471#64) + 9187201950435737471#64) ||| (w.toBitVec ^^^ ((72340172838076673 : Int64) * ((b &&& (255 : Int32)).toInt64)).toBitVec) ||| 9187201950435737471#64) ^^^ (-1 : Int64).toBitVec := by
    simp only [own_mat, Int64.toBitVec_xor, Int64.toBitVec_or, Int64.toBitVec_add, Int64.toBitVec_and]
    rfl
  rw [e1, e0, BitVec.getLsbD_xor, own_ones ⟨j, hj⟩]
  by_cases g : j % 8 = 7
  · have h1 := own_high (w.toBitVec ^^^ (72340172838076673#64 * (b.toBitVec.setWidth 8).setWidth 64)) (j / 8) (by omega)
    rw [show 8 * (j / 8) + 7 = j by omega] at h1
    rw [h1, own_cb]
    simp [g]
  · rw [own_low w.toBitVec _ j hj g]
    simp [g]
theorem own_law (w : Int64) (b : Int32) : own_mat w ((72340172838076673 : Int64) * ((b &&& (255 : Int32)).toInt64)) = (((((((own_bit w (b &&& (255 : Int32)) (0 : Int32) ||| own_bit w (b &&& (255 : Int32)) (1 : Int32)) ||| own_bit w (b &&& (255 : Int32)) (2 : Int32)) ||| own_bit w (b &&& (255 : Int32)) (3 : Int32)) ||| own_bit w (b &&& (255 : Int32)) (4 : Int32)) ||| own_bit w (b &&& (255 : Int32)) (5 : Int32)) ||| own_bit w (b &&& (255 : Int32)) (6 : Int32)) ||| own_bit w (b &&& (255 : Int32)) (7 : Int32)) := by
  apply Int64.toBitVec_inj.mp
  apply BitVec.eq_of_getLsbD_eq
  intro j hj
  rw [own_matb w b j hj]
  simp only [Int64.toBitVec_or, BitVec.getLsbD_or]
  rw [own_bt0 w b j hj, own_bt1 w b j hj, own_bt2 w b j hj, own_bt3 w b j hj, own_bt4 w b j hj, own_bt5 w b j hj, own_bt6 w b j hj, own_bt7 w b j hj]
  by_cases g : j % 8 = 7
  · have h : j = 7 ∨ j = 15 ∨ j = 23 ∨ j = 31 ∨ j = 39 ∨ j = 47 ∨ j = 55 ∨ j = 63 := by omega
    rcases h with rfl | rfl | rfl | rfl | rfl | rfl | rfl | rfl <;> simp
  · have h7 : ∀ k, j = 8 * k + 7 → False := fun k q => g (by omega)
    have a0 : ¬ j = 7 := fun q => h7 0 q
    have a1 : ¬ j = 15 := fun q => h7 1 q
    have a2 : ¬ j = 23 := fun q => h7 2 q
    have a3 : ¬ j = 31 := fun q => h7 3 q
    have a4 : ¬ j = 39 := fun q => h7 4 q
    have a5 : ¬ j = 47 := fun q => h7 5 q
    have a6 : ¬ j = 55 := fun q => h7 6 q
    have a7 : ¬ j = 63 := fun q => h7 7 q
    simp [g, a0, a1, a2, a3, a4, a5, a6, a7]
theorem pn_1 : plainName "com/example/treemend/treemend/BytesMatchesPinLaw" = true := by first | (simp [plainName, overriddenIn]; done) | decide +kernel
theorem ef_1 (m : MethodId) (q1 : Int64) (p2 : Int32) (p3 : Int32) (p4 : Int32) : entryFrame m #[(.long q1), (.int p2), (.int p3), (.int p4)] 6 = mkF m 0 #[.val (.long q1), .second, .val (.int p2), .val (.int p3), .val (.int p4), .unset] [] := by first | (simp [entryFrame, mkF, argsToLocals, Value.category]; done) | rfl
theorem d1_0 : decode method_3_code 0 = .ok (.iload 4, 2) := by decide +kernel
theorem d1_2 : decode method_3_code 2 = .ok (.iload_n 2, 1) := by decide +kernel
theorem d1_3 : decode method_3_code 3 = .ok (.iushr, 1) := by decide +kernel
theorem d1_4 : decode method_3_code 4 = .ok (.iconst 1, 1) := by decide +kernel
theorem d1_5 : decode method_3_code 5 = .ok (.iand, 1) := by decide +kernel
theorem d1_6 : decode method_3_code 6 = .ok (.ifCond .ne 5, 3) := by decide +kernel
theorem d1_9 : decode method_3_code 9 = .ok (.lload_n 0, 1) := by decide +kernel
theorem d1_10 : decode method_3_code 10 = .ok (.lreturn, 1) := by decide +kernel
theorem d1_11 : decode method_3_code 11 = .ok (.bipush 8, 2) := by decide +kernel
theorem d1_13 : decode method_3_code 13 = .ok (.iload_n 2, 1) := by decide +kernel
theorem d1_14 : decode method_3_code 14 = .ok (.imul, 1) := by decide +kernel
theorem d1_15 : decode method_3_code 15 = .ok (.istore 5, 2) := by decide +kernel
theorem d1_17 : decode method_3_code 17 = .ok (.lload_n 0, 1) := by decide +kernel
theorem d1_18 : decode method_3_code 18 = .ok (.ldc2_w 25, 3) := by decide +kernel
theorem d1_21 : decode method_3_code 21 = .ok (.iload 5, 2) := by decide +kernel
theorem d1_23 : decode method_3_code 23 = .ok (.lshl, 1) := by decide +kernel
theorem d1_24 : decode method_3_code 24 = .ok (.ldc2_w 27, 3) := by decide +kernel
theorem d1_27 : decode method_3_code 27 = .ok (.lxor, 1) := by decide +kernel
theorem d1_28 : decode method_3_code 28 = .ok (.land, 1) := by decide +kernel
theorem d1_29 : decode method_3_code 29 = .ok (.iload_n 3, 1) := by decide +kernel
theorem d1_30 : decode method_3_code 30 = .ok (.i2l, 1) := by decide +kernel
theorem d1_31 : decode method_3_code 31 = .ok (.iload 5, 2) := by decide +kernel
theorem d1_33 : decode method_3_code 33 = .ok (.lshl, 1) := by decide +kernel
theorem d1_34 : decode method_3_code 34 = .ok (.lor, 1) := by decide +kernel
theorem d1_35 : decode method_3_code 35 = .ok (.lreturn, 1) := by decide +kernel
def Q1 (r : Int64) (h0 : Heap) (n0 : Nat) (v : Option Value) (h : Heap) (L : List Loc) : Prop := v = some (.long r) ∧ Fr n0 L ∧ h = h0
set_option maxRecDepth 65536 in
set_option maxHeartbeats 40000000 in
theorem rm1 (l : Launch) (Z : State) (a0 : Array Value) (hw : ∀ d ∈ tables_1, d.before a0 Z = true) (ws : List Jvm.Cond) (q1 : Int64) (p2 : Int32) (p3 : Int32) (p4 : Int32) (r : Int64) (h0 : Heap) (n0 : Nat) (Z0 : n0 ≤ h0.size) (k1 : ((((p4.toUInt32 >>> (p2 &&& 31).toUInt32).toInt32) &&& (1 : Int32)) = (0 : Int32)) → r = q1) (k2 : ¬ ((((p4.toUInt32 >>> (p2 &&& 31).toUInt32).toInt32) &&& (1 : Int32)) = (0 : Int32)) → r = ((q1 &&& (((255 : Int64) <<< (((8 : Int32) * p2) &&& 0x3f).toInt64) ^^^ (-1 : Int64))) ||| ((p3.toInt64) <<< (((8 : Int32) * p2) &&& 0x3f).toInt64))) :
    MetFree l (⟨"com/example/treemend/treemend/BytesMatchesPinLaw", "force", "(JIII)J"⟩ : MethodName) (head1 (Jvm.Cond.code (⟨"com/example/treemend/treemend/BytesMatchesPinLaw", "force", "(JIII)J"⟩ : MethodName) method_3_code 6 (some .long) :: ws) ({ frames := 0, cells := 0, slots := 0, locals := 0 } : Room)) (fun a U => a = #[(.long q1), (.int p2), (.int p3), (.int p4)] ∧ Z.Warmed39 U.vm ∧ U.heap = h0) (fun _ _ _ _ _ => True) (fun _ U o U' => ∃ v L, o = .returned v ∧ Q1 r h0 n0 v U'.heap L ∧ FrameEnd U o U' L ({ frames := 0, cells := 0, slots := 0, locals := 0 } : Room).cells ({ frames := 0, cells := 0, slots := 0, locals := 0 } : Room).slots) := by
  refine MetFree.of_bodySF (plainFor_of_name pn_1) hisR ?_
  intro p e s m args below meth c s₁ Bd hml0 hP hK
  obtain ⟨rfl, hZ, hh⟩ := hP
  have hx := Bd.exec
  have hby := Bd.bytes
  have hml : c.maxLocals = 6 := hml0
  have hown : s.vm.findClass "com/example/treemend/treemend/BytesMatchesPinLaw" = some m.cls := findClass_of_methodNamed Bd.named
  have hnm := (name_of_methodNamed Bd.named Bd.method).1
  have X0 : Stand p l e ({ frames := 0, cells := 0, slots := 0, locals := 0 } : Room) s m #[(.long q1), (.int p2), (.int p3), (.int p4)] below meth c s₁ [] 0 0 := Stand.of_body Bd
  have e0 : s₁.heap = h0 := by rw [← hh, Bd.state]; rfl
  have N0 := Fr.nil n0
  have pre0 : ∀ t, Steps p.tables e below (s₁.setTop (mkF m 0 #[.val (.long q1), .second, .val (.int p2), .val (.int p3), .val (.int p4), .unset] [])) t → Steps p.tables e below (s₁.setTop (entryFrame m #[(.long q1), (.int p2), (.int p3), (.int p4)] 6)) t := fun t k => castTop (ef_1 m q1 p2 p3 p4) k
  obtain ⟨fs, hr, hrun, hended, hW, hsame⟩ := X0.leave (v := some (.long r)) (fun h => by rw [Bd.returns] at h; cases h)
  refine ⟨_, _, pre0 _ ?_, hrun, hended, _, _, rfl, ?_, ⟨_, rfl⟩, hW, hsame.mono (by decide) (by decide)⟩
  · show Steps p.tables e below (s₁.setTop (mkF m 0 #[.val (.long q1), .second, .val (.int p2), .val (.int p3), .val (.int p4), .unset] [])) _
    refine XS.iload X0.here hx rfl (hb hby d1_0) rfl ?_
    show Steps p.tables e below (s₁.setTop (mkF m 2 #[.val (.long q1), .second, .val (.int p2), .val (.int p3), .val (.int p4), .unset] [(.int p4)])) _
    refine XS.iloadN X0.here hx rfl (hb hby d1_2) rfl ?_
    show Steps p.tables e below (s₁.setTop (mkF m 3 #[.val (.long q1), .second, .val (.int p2), .val (.int p3), .val (.int p4), .unset] [(.int p2), (.int p4)])) _
    refine XS.iushr X0.here hx rfl (hb hby d1_3) rfl ?_
    show Steps p.tables e below (s₁.setTop (mkF m 4 #[.val (.long q1), .second, .val (.int p2), .val (.int p3), .val (.int p4), .unset] [(.int ((p4.toUInt32 >>> (p2 &&& 31).toUInt32).toInt32))])) _
    refine XS.iconst X0.here hx rfl (hb hby d1_4) ?_
    show Steps p.tables e below (s₁.setTop (mkF m 5 #[.val (.long q1), .second, .val (.int p2), .val (.int p3), .val (.int p4), .unset] [(.int (1 : Int32)), (.int ((p4.toUInt32 >>> (p2 &&& 31).toUInt32).toInt32))])) _
    refine XS.iand X0.here hx rfl (hb hby d1_5) rfl ?_
    show Steps p.tables e below (s₁.setTop (mkF m 6 #[.val (.long q1), .second, .val (.int p2), .val (.int p3), .val (.int p4), .unset] [(.int (((p4.toUInt32 >>> (p2 &&& 31).toUInt32).toInt32) &&& (1 : Int32)))])) _
    by_cases hc6 : (((p4.toUInt32 >>> (p2 &&& 31).toUInt32).toInt32) &&& (1 : Int32)) = (0 : Int32)
    · refine XS.ifNo X0.here hx rfl (hb hby d1_6) rfl ((if0 _ _).trans (teq hc6).2) ?_
      show Steps p.tables e below (s₁.setTop (mkF m 9 #[.val (.long q1), .second, .val (.int p2), .val (.int p3), .val (.int p4), .unset] [])) _
      refine XS.lloadN X0.here hx rfl (hb hby d1_9) rfl ?_
      rw [k1 hc6] at hr
      show Steps p.tables e below (s₁.setTop (mkF m 10 #[.val (.long q1), .second, .val (.int p2), .val (.int p3), .val (.int p4), .unset] [(.long q1)])) _
      exact X0.lreturnOut hx Bd.returns (hb hby d1_10) hr
    · refine XS.ifYes X0.here hx rfl (pc0 := 6) (pc' := 11) rfl (hb hby d1_6) rfl ((if0 _ _).trans (feq hc6).2) (by decide) (by decide) ?_
      show Steps p.tables e below (s₁.setTop (mkF m 11 #[.val (.long q1), .second, .val (.int p2), .val (.int p3), .val (.int p4), .unset] [])) _
      refine XS.bipush X0.here hx rfl (hb hby d1_11) ?_
      show Steps p.tables e below (s₁.setTop (mkF m 13 #[.val (.long q1), .second, .val (.int p2), .val (.int p3), .val (.int p4), .unset] [(.int (8 : Int32))])) _
      refine XS.iloadN X0.here hx rfl (hb hby d1_13) rfl ?_
      show Steps p.tables e below (s₁.setTop (mkF m 14 #[.val (.long q1), .second, .val (.int p2), .val (.int p3), .val (.int p4), .unset] [(.int p2), (.int (8 : Int32))])) _
      refine XS.imul X0.here hx rfl (hb hby d1_14) rfl ?_
      show Steps p.tables e below (s₁.setTop (mkF m 15 #[.val (.long q1), .second, .val (.int p2), .val (.int p3), .val (.int p4), .unset] [(.int ((8 : Int32) * p2))])) _
      refine XS.istore X0.here hx rfl (hb hby d1_15) rfl (l' := #[.val (.long q1), .second, .val (.int p2), .val (.int p3), .val (.int p4), .val (.int ((8 : Int32) * p2))]) rfl ?_
      show Steps p.tables e below (s₁.setTop (mkF m 17 #[.val (.long q1), .second, .val (.int p2), .val (.int p3), .val (.int p4), .val (.int ((8 : Int32) * p2))] [])) _
      refine XS.lloadN X0.here hx rfl (hb hby d1_17) rfl ?_
      show Steps p.tables e below (s₁.setTop (mkF m 18 #[.val (.long q1), .second, .val (.int p2), .val (.int p3), .val (.int p4), .val (.int ((8 : Int32) * p2))] [(.long q1)])) _
      refine X0.ldc2Long hx hown (mvT hZ (hw _ (List.mem_of_getElem? (i := 5) rfl))) (g := (mkF m 18 #[.val (.long q1), .second, .val (.int p2), .val (.int p3), .val (.int p4), .val (.int ((8 : Int32) * p2))] [(.long q1)])) rfl (hb hby d1_18) _ ?_
      show Steps p.tables e below (s₁.setTop (mkF m 21 #[.val (.long q1), .second, .val (.int p2), .val (.int p3), .val (.int p4), .val (.int ((8 : Int32) * p2))] [(.long (255 : Int64)), (.long q1)])) _
      refine XS.iload X0.here hx rfl (hb hby d1_21) rfl ?_
      show Steps p.tables e below (s₁.setTop (mkF m 23 #[.val (.long q1), .second, .val (.int p2), .val (.int p3), .val (.int p4), .val (.int ((8 : Int32) * p2))] [(.int ((8 : Int32) * p2)), (.long (255 : Int64)), (.long q1)])) _
      refine XS.lshl X0.here hx rfl (hb hby d1_23) rfl ?_
      show Steps p.tables e below (s₁.setTop (mkF m 24 #[.val (.long q1), .second, .val (.int p2), .val (.int p3), .val (.int p4), .val (.int ((8 : Int32) * p2))] [(.long ((255 : Int64) <<< (((8 : Int32) * p2) &&& 0x3f).toInt64)), (.long q1)])) _
      refine X0.ldc2Long hx hown (mvT hZ (hw _ (List.mem_of_getElem? (i := 6) rfl))) (g := (mkF m 24 #[.val (.long q1), .second, .val (.int p2), .val (.int p3), .val (.int p4), .val (.int ((8 : Int32) * p2))] [(.long ((255 : Int64) <<< (((8 : Int32) * p2) &&& 0x3f).toInt64)), (.long q1)])) rfl (hb hby d1_24) _ ?_
      show Steps p.tables e below (s₁.setTop (mkF m 27 #[.val (.long q1), .second, .val (.int p2), .val (.int p3), .val (.int p4), .val (.int ((8 : Int32) * p2))] [(.long (-1 : Int64)), (.long ((255 : Int64) <<< (((8 : Int32) * p2) &&& 0x3f).toInt64)), (.long q1)])) _
      refine XS.lxor X0.here hx rfl (hb hby d1_27) rfl ?_
      show Steps p.tables e below (s₁.setTop (mkF m 28 #[.val (.long q1), .second, .val (.int p2), .val (.int p3), .val (.int p4), .val (.int ((8 : Int32) * p2))] [(.long (((255 : Int64) <<< (((8 : Int32) * p2) &&& 0x3f).toInt64) ^^^ (-1 : Int64))), (.long q1)])) _
      refine XS.land X0.here hx rfl (hb hby d1_28) rfl ?_
      show Steps p.tables e below (s₁.setTop (mkF m 29 #[.val (.long q1), .second, .val (.int p2), .val (.int p3), .val (.int p4), .val (.int ((8 : Int32) * p2))] [(.long (q1 &&& (((255 : Int64) <<< (((8 : Int32) * p2) &&& 0x3f).toInt64) ^^^ (-1 : Int64))))])) _
      refine XS.iloadN X0.here hx rfl (hb hby d1_29) rfl ?_
      show Steps p.tables e below (s₁.setTop (mkF m 30 #[.val (.long q1), .second, .val (.int p2), .val (.int p3), .val (.int p4), .val (.int ((8 : Int32) * p2))] [(.int p3), (.long (q1 &&& (((255 : Int64) <<< (((8 : Int32) * p2) &&& 0x3f).toInt64) ^^^ (-1 : Int64))))])) _
      refine XS.i2l X0.here hx rfl (hb hby d1_30) rfl ?_
      show Steps p.tables e below (s₁.setTop (mkF m 31 #[.val (.long q1), .second, .val (.int p2), .val (.int p3), .val (.int p4), .val (.int ((8 : Int32) * p2))] [(.long (p3.toInt64)), (.long (q1 &&& (((255 : Int64) <<< (((8 : Int32) * p2) &&& 0x3f).toInt64) ^^^ (-1 : Int64))))])) _
      refine XS.iload X0.here hx rfl (hb hby d1_31) rfl ?_
      show Steps p.tables e below (s₁.setTop (mkF m 33 #[.val (.long q1), .second, .val (.int p2), .val (.int p3), .val (.int p4), .val (.int ((8 : Int32) * p2))] [(.int ((8 : Int32) * p2)), (.long (p3.toInt64)), (.long (q1 &&& (((255 : Int64) <<< (((8 : Int32) * p2) &&& 0x3f).toInt64) ^^^ (-1 : Int64))))])) _
      refine XS.lshl X0.here hx rfl (hb hby d1_33) rfl ?_
      show Steps p.tables e below (s₁.setTop (mkF m 34 #[.val (.long q1), .second, .val (.int p2), .val (.int p3), .val (.int p4), .val (.int ((8 : Int32) * p2))] [(.long ((p3.toInt64) <<< (((8 : Int32) * p2) &&& 0x3f).toInt64)), (.long (q1 &&& (((255 : Int64) <<< (((8 : Int32) * p2) &&& 0x3f).toInt64) ^^^ (-1 : Int64))))])) _
      refine XS.lor X0.here hx rfl (hb hby d1_34) rfl ?_
      rw [k2 hc6] at hr
      show Steps p.tables e below (s₁.setTop (mkF m 35 #[.val (.long q1), .second, .val (.int p2), .val (.int p3), .val (.int p4), .val (.int ((8 : Int32) * p2))] [(.long ((q1 &&& (((255 : Int64) <<< (((8 : Int32) * p2) &&& 0x3f).toInt64) ^^^ (-1 : Int64))) ||| ((p3.toInt64) <<< (((8 : Int32) * p2) &&& 0x3f).toInt64)))])) _
      exact X0.lreturnOut hx Bd.returns (hb hby d1_35) hr
  · show Q1 r h0 n0 _ s₁.heap _
    rw [e0]
    exact ⟨rfl, N0, rfl⟩
theorem pn_2 : plainName "com/example/treemend/treemend/BytesMatchesPinLaw" = true := by first | (simp [plainName, overriddenIn]; done) | decide +kernel
theorem ef_2 (m : MethodId) (q1 : Int64) (p2 : Int32) (p3 : Int32) : entryFrame m #[(.long q1), (.int p2), (.int p3)] 5 = mkF m 0 #[.val (.long q1), .second, .val (.int p2), .val (.int p3), .unset] [] := by first | (simp [entryFrame, mkF, argsToLocals, Value.category]; done) | rfl
theorem d2_0 : decode method_4_code 0 = .ok (.bipush 8, 2) := by decide +kernel
theorem d2_2 : decode method_4_code 2 = .ok (.iload_n 3, 1) := by decide +kernel
theorem d2_3 : decode method_4_code 3 = .ok (.imul, 1) := by decide +kernel
theorem d2_4 : decode method_4_code 4 = .ok (.istore 4, 2) := by decide +kernel
theorem d2_6 : decode method_4_code 6 = .ok (.lload_n 0, 1) := by decide +kernel
theorem d2_7 : decode method_4_code 7 = .ok (.iload 4, 2) := by decide +kernel
theorem d2_9 : decode method_4_code 9 = .ok (.lushr, 1) := by decide +kernel
theorem d2_10 : decode method_4_code 10 = .ok (.ldc2_w 25, 3) := by decide +kernel
theorem d2_13 : decode method_4_code 13 = .ok (.land, 1) := by decide +kernel
theorem d2_14 : decode method_4_code 14 = .ok (.l2i, 1) := by decide +kernel
theorem d2_15 : decode method_4_code 15 = .ok (.iload_n 2, 1) := by decide +kernel
theorem d2_16 : decode method_4_code 16 = .ok (.if_icmp .ne 11, 3) := by decide +kernel
theorem d2_19 : decode method_4_code 19 = .ok (.lconst 1, 1) := by decide +kernel
theorem d2_20 : decode method_4_code 20 = .ok (.iload 4, 2) := by decide +kernel
theorem d2_22 : decode method_4_code 22 = .ok (.bipush 7, 2) := by decide +kernel
theorem d2_24 : decode method_4_code 24 = .ok (.iadd, 1) := by decide +kernel
theorem d2_25 : decode method_4_code 25 = .ok (.lshl, 1) := by decide +kernel
theorem d2_26 : decode method_4_code 26 = .ok (.lreturn, 1) := by decide +kernel
theorem d2_27 : decode method_4_code 27 = .ok (.lconst 0, 1) := by decide +kernel
theorem d2_28 : decode method_4_code 28 = .ok (.lreturn, 1) := by decide +kernel
def Q2 (r : Int64) (h0 : Heap) (n0 : Nat) (v : Option Value) (h : Heap) (L : List Loc) : Prop := v = some (.long r) ∧ Fr n0 L ∧ h = h0
set_option maxRecDepth 65536 in
set_option maxHeartbeats 40000000 in
theorem rm2 (l : Launch) (Z : State) (a0 : Array Value) (hw : ∀ d ∈ tables_1, d.before a0 Z = true) (ws : List Jvm.Cond) (q1 : Int64) (p2 : Int32) (p3 : Int32) (r : Int64) (h0 : Heap) (n0 : Nat) (Z0 : n0 ≤ h0.size) (k1 : (((((q1.toUInt64 >>> (((8 : Int32) * p3) &&& 0x3f).toInt64.toUInt64).toInt64) &&& (255 : Int64)).toInt32) = p2) → r = ((1 : Int64) <<< ((((8 : Int32) * p3) + (7 : Int32)) &&& 0x3f).toInt64)) (k2 : ¬ (((((q1.toUInt64 >>> (((8 : Int32) * p3) &&& 0x3f).toInt64.toUInt64).toInt64) &&& (255 : Int64)).toInt32) = p2) → r = (0 : Int64)) :
    MetFree l (⟨"com/example/treemend/treemend/BytesMatchesPinLaw", "bit", "(JII)J"⟩ : MethodName) (head1 (Jvm.Cond.code (⟨"com/example/treemend/treemend/BytesMatchesPinLaw", "bit", "(JII)J"⟩ : MethodName) method_4_code 5 (some .long) :: ws) ({ frames := 0, cells := 0, slots := 0, locals := 0 } : Room)) (fun a U => a = #[(.long q1), (.int p2), (.int p3)] ∧ Z.Warmed39 U.vm ∧ U.heap = h0) (fun _ _ _ _ _ => True) (fun _ U o U' => ∃ v L, o = .returned v ∧ Q2 r h0 n0 v U'.heap L ∧ FrameEnd U o U' L ({ frames := 0, cells := 0, slots := 0, locals := 0 } : Room).cells ({ frames := 0, cells := 0, slots := 0, locals := 0 } : Room).slots) := by
  refine MetFree.of_bodySF (plainFor_of_name pn_2) hisR ?_
  intro p e s m args below meth c s₁ Bd hml0 hP hK
  obtain ⟨rfl, hZ, hh⟩ := hP
  have hx := Bd.exec
  have hby := Bd.bytes
  have hml : c.maxLocals = 5 := hml0
  have hown : s.vm.findClass "com/example/treemend/treemend/BytesMatchesPinLaw" = some m.cls := findClass_of_methodNamed Bd.named
  have hnm := (name_of_methodNamed Bd.named Bd.method).1
  have X0 : Stand p l e ({ frames := 0, cells := 0, slots := 0, locals := 0 } : Room) s m #[(.long q1), (.int p2), (.int p3)] below meth c s₁ [] 0 0 := Stand.of_body Bd
  have e0 : s₁.heap = h0 := by rw [← hh, Bd.state]; rfl
  have N0 := Fr.nil n0
  have pre0 : ∀ t, Steps p.tables e below (s₁.setTop (mkF m 0 #[.val (.long q1), .second, .val (.int p2), .val (.int p3), .unset] [])) t → Steps p.tables e below (s₁.setTop (entryFrame m #[(.long q1), (.int p2), (.int p3)] 5)) t := fun t k => castTop (ef_2 m q1 p2 p3) k
  obtain ⟨fs, hr, hrun, hended, hW, hsame⟩ := X0.leave (v := some (.long r)) (fun h => by rw [Bd.returns] at h; cases h)
  refine ⟨_, _, pre0 _ ?_, hrun, hended, _, _, rfl, ?_, ⟨_, rfl⟩, hW, hsame.mono (by decide) (by decide)⟩
  · show Steps p.tables e below (s₁.setTop (mkF m 0 #[.val (.long q1), .second, .val (.int p2), .val (.int p3), .unset] [])) _
    refine XS.bipush X0.here hx rfl (hb hby d2_0) ?_
    show Steps p.tables e below (s₁.setTop (mkF m 2 #[.val (.long q1), .second, .val (.int p2), .val (.int p3), .unset] [(.int (8 : Int32))])) _
    refine XS.iloadN X0.here hx rfl (hb hby d2_2) rfl ?_
    show Steps p.tables e below (s₁.setTop (mkF m 3 #[.val (.long q1), .second, .val (.int p2), .val (.int p3), .unset] [(.int p3), (.int (8 : Int32))])) _
    refine XS.imul X0.here hx rfl (hb hby d2_3) rfl ?_
    show Steps p.tables e below (s₁.setTop (mkF m 4 #[.val (.long q1), .second, .val (.int p2), .val (.int p3), .unset] [(.int ((8 : Int32) * p3))])) _
    refine XS.istore X0.here hx rfl (hb hby d2_4) rfl (l' := #[.val (.long q1), .second, .val (.int p2), .val (.int p3), .val (.int ((8 : Int32) * p3))]) rfl ?_
    show Steps p.tables e below (s₁.setTop (mkF m 6 #[.val (.long q1), .second, .val (.int p2), .val (.int p3), .val (.int ((8 : Int32) * p3))] [])) _
    refine XS.lloadN X0.here hx rfl (hb hby d2_6) rfl ?_
    show Steps p.tables e below (s₁.setTop (mkF m 7 #[.val (.long q1), .second, .val (.int p2), .val (.int p3), .val (.int ((8 : Int32) * p3))] [(.long q1)])) _
    refine XS.iload X0.here hx rfl (hb hby d2_7) rfl ?_
    show Steps p.tables e below (s₁.setTop (mkF m 9 #[.val (.long q1), .second, .val (.int p2), .val (.int p3), .val (.int ((8 : Int32) * p3))] [(.int ((8 : Int32) * p3)), (.long q1)])) _
    refine XS.lushr X0.here hx rfl (hb hby d2_9) rfl ?_
    show Steps p.tables e below (s₁.setTop (mkF m 10 #[.val (.long q1), .second, .val (.int p2), .val (.int p3), .val (.int ((8 : Int32) * p3))] [(.long ((q1.toUInt64 >>> (((8 : Int32) * p3) &&& 0x3f).toInt64.toUInt64).toInt64))])) _
    refine X0.ldc2Long hx hown (mvT hZ (hw _ (List.mem_of_getElem? (i := 5) rfl))) (g := (mkF m 10 #[.val (.long q1), .second, .val (.int p2), .val (.int p3), .val (.int ((8 : Int32) * p3))] [(.long ((q1.toUInt64 >>> (((8 : Int32) * p3) &&& 0x3f).toInt64.toUInt64).toInt64))])) rfl (hb hby d2_10) _ ?_
    show Steps p.tables e below (s₁.setTop (mkF m 13 #[.val (.long q1), .second, .val (.int p2), .val (.int p3), .val (.int ((8 : Int32) * p3))] [(.long (255 : Int64)), (.long ((q1.toUInt64 >>> (((8 : Int32) * p3) &&& 0x3f).toInt64.toUInt64).toInt64))])) _
    refine XS.land X0.here hx rfl (hb hby d2_13) rfl ?_
    show Steps p.tables e below (s₁.setTop (mkF m 14 #[.val (.long q1), .second, .val (.int p2), .val (.int p3), .val (.int ((8 : Int32) * p3))] [(.long (((q1.toUInt64 >>> (((8 : Int32) * p3) &&& 0x3f).toInt64.toUInt64).toInt64) &&& (255 : Int64)))])) _
    refine XS.l2i X0.here hx rfl (hb hby d2_14) rfl ?_
    show Steps p.tables e below (s₁.setTop (mkF m 15 #[.val (.long q1), .second, .val (.int p2), .val (.int p3), .val (.int ((8 : Int32) * p3))] [(.int ((((q1.toUInt64 >>> (((8 : Int32) * p3) &&& 0x3f).toInt64.toUInt64).toInt64) &&& (255 : Int64)).toInt32))])) _
    refine XS.iloadN X0.here hx rfl (hb hby d2_15) rfl ?_
    show Steps p.tables e below (s₁.setTop (mkF m 16 #[.val (.long q1), .second, .val (.int p2), .val (.int p3), .val (.int ((8 : Int32) * p3))] [(.int p2), (.int ((((q1.toUInt64 >>> (((8 : Int32) * p3) &&& 0x3f).toInt64.toUInt64).toInt64) &&& (255 : Int64)).toInt32))])) _
    by_cases hc16 : ((((q1.toUInt64 >>> (((8 : Int32) * p3) &&& 0x3f).toInt64.toUInt64).toInt64) &&& (255 : Int64)).toInt32) = p2
    · refine XS.icmpNo X0.here hx rfl (hb hby d2_16) rfl (teq hc16).2 ?_
      show Steps p.tables e below (s₁.setTop (mkF m 19 #[.val (.long q1), .second, .val (.int p2), .val (.int p3), .val (.int ((8 : Int32) * p3))] [])) _
      refine XS.lconst X0.here hx rfl (hb hby d2_19) ?_
      show Steps p.tables e below (s₁.setTop (mkF m 20 #[.val (.long q1), .second, .val (.int p2), .val (.int p3), .val (.int ((8 : Int32) * p3))] [(.long (1 : Int64))])) _
      refine XS.iload X0.here hx rfl (hb hby d2_20) rfl ?_
      show Steps p.tables e below (s₁.setTop (mkF m 22 #[.val (.long q1), .second, .val (.int p2), .val (.int p3), .val (.int ((8 : Int32) * p3))] [(.int ((8 : Int32) * p3)), (.long (1 : Int64))])) _
      refine XS.bipush X0.here hx rfl (hb hby d2_22) ?_
      show Steps p.tables e below (s₁.setTop (mkF m 24 #[.val (.long q1), .second, .val (.int p2), .val (.int p3), .val (.int ((8 : Int32) * p3))] [(.int (7 : Int32)), (.int ((8 : Int32) * p3)), (.long (1 : Int64))])) _
      refine XS.iadd X0.here hx rfl (hb hby d2_24) rfl ?_
      show Steps p.tables e below (s₁.setTop (mkF m 25 #[.val (.long q1), .second, .val (.int p2), .val (.int p3), .val (.int ((8 : Int32) * p3))] [(.int (((8 : Int32) * p3) + (7 : Int32))), (.long (1 : Int64))])) _
      refine XS.lshl X0.here hx rfl (hb hby d2_25) rfl ?_
      rw [k1 hc16] at hr
      show Steps p.tables e below (s₁.setTop (mkF m 26 #[.val (.long q1), .second, .val (.int p2), .val (.int p3), .val (.int ((8 : Int32) * p3))] [(.long ((1 : Int64) <<< ((((8 : Int32) * p3) + (7 : Int32)) &&& 0x3f).toInt64))])) _
      exact X0.lreturnOut hx Bd.returns (hb hby d2_26) hr
    · refine XS.icmpYes X0.here hx rfl (pc0 := 16) (pc' := 27) rfl (hb hby d2_16) rfl (feq hc16).2 (by decide) (by decide) ?_
      show Steps p.tables e below (s₁.setTop (mkF m 27 #[.val (.long q1), .second, .val (.int p2), .val (.int p3), .val (.int ((8 : Int32) * p3))] [])) _
      refine XS.lconst X0.here hx rfl (hb hby d2_27) ?_
      rw [k2 hc16] at hr
      show Steps p.tables e below (s₁.setTop (mkF m 28 #[.val (.long q1), .second, .val (.int p2), .val (.int p3), .val (.int ((8 : Int32) * p3))] [(.long (0 : Int64))])) _
      exact X0.lreturnOut hx Bd.returns (hb hby d2_28) hr
  · show Q2 r h0 n0 _ s₁.heap _
    rw [e0]
    exact ⟨rfl, N0, rfl⟩
theorem pn_3 : plainName "com/example/treemend/treemend/Bytes" = true := by first | (simp [plainName, overriddenIn]; done) | decide +kernel
theorem ef_3 (m : MethodId) (q1 : Int64) (q2 : Int64) : entryFrame m #[(.long q1), (.long q2)] 6 = mkF m 0 #[.val (.long q1), .second, .val (.long q2), .second, .unset, .unset] [] := by first | (simp [entryFrame, mkF, argsToLocals, Value.category]; done) | rfl
theorem d3_0 : decode prog_17_method_3_code 0 = .ok (.lload_n 0, 1) := by decide +kernel
theorem d3_1 : decode prog_17_method_3_code 1 = .ok (.lload_n 2, 1) := by decide +kernel
theorem d3_2 : decode prog_17_method_3_code 2 = .ok (.lxor, 1) := by decide +kernel
theorem d3_3 : decode prog_17_method_3_code 3 = .ok (.lstore 4, 2) := by decide +kernel
theorem d3_5 : decode prog_17_method_3_code 5 = .ok (.lload 4, 2) := by decide +kernel
theorem d3_7 : decode prog_17_method_3_code 7 = .ok (.ldc2_w 11, 3) := by decide +kernel
theorem d3_10 : decode prog_17_method_3_code 10 = .ok (.land, 1) := by decide +kernel
theorem d3_11 : decode prog_17_method_3_code 11 = .ok (.ldc2_w 11, 3) := by decide +kernel
theorem d3_14 : decode prog_17_method_3_code 14 = .ok (.ladd, 1) := by decide +kernel
theorem d3_15 : decode prog_17_method_3_code 15 = .ok (.lload 4, 2) := by decide +kernel
theorem d3_17 : decode prog_17_method_3_code 17 = .ok (.lor, 1) := by decide +kernel
theorem d3_18 : decode prog_17_method_3_code 18 = .ok (.ldc2_w 11, 3) := by decide +kernel
theorem d3_21 : decode prog_17_method_3_code 21 = .ok (.lor, 1) := by decide +kernel
theorem d3_22 : decode prog_17_method_3_code 22 = .ok (.ldc2_w 13, 3) := by decide +kernel
theorem d3_25 : decode prog_17_method_3_code 25 = .ok (.lxor, 1) := by decide +kernel
theorem d3_26 : decode prog_17_method_3_code 26 = .ok (.lreturn, 1) := by decide +kernel
def Q3 (r : Int64) (h0 : Heap) (n0 : Nat) (v : Option Value) (h : Heap) (L : List Loc) : Prop := v = some (.long r) ∧ Fr n0 L ∧ h = h0
set_option maxRecDepth 65536 in
set_option maxHeartbeats 40000000 in
theorem rm3 (l : Launch) (Z : State) (a0 : Array Value) (hw : ∀ d ∈ tables_1, d.before a0 Z = true) (ws : List Jvm.Cond) (q1 : Int64) (q2 : Int64) (h0 : Heap) (n0 : Nat) (Z0 : n0 ≤ h0.size) :
    MetFree l (⟨"com/example/treemend/treemend/Bytes", "matches", "(JJ)J"⟩ : MethodName) (head1 (Jvm.Cond.code (⟨"com/example/treemend/treemend/Bytes", "matches", "(JJ)J"⟩ : MethodName) prog_17_method_3_code 6 (some .long) :: ws) ({ frames := 0, cells := 0, slots := 0, locals := 0 } : Room)) (fun a U => a = #[(.long q1), (.long q2)] ∧ Z.Warmed39 U.vm ∧ U.heap = h0) (fun _ _ _ _ _ => True) (fun _ U o U' => ∃ v L, o = .returned v ∧ Q3 ((((((q1 ^^^ q2) &&& (9187201950435737471 : Int64)) + (9187201950435737471 : Int64)) ||| (q1 ^^^ q2)) ||| (9187201950435737471 : Int64)) ^^^ (-1 : Int64)) h0 n0 v U'.heap L ∧ FrameEnd U o U' L ({ frames := 0, cells := 0, slots := 0, locals := 0 } : Room).cells ({ frames := 0, cells := 0, slots := 0, locals := 0 } : Room).slots) := by
  refine MetFree.of_bodySF (plainFor_of_name pn_3) hisR ?_
  intro p e s m args below meth c s₁ Bd hml0 hP hK
  obtain ⟨rfl, hZ, hh⟩ := hP
  have hx := Bd.exec
  have hby := Bd.bytes
  have hml : c.maxLocals = 6 := hml0
  have hown : s.vm.findClass "com/example/treemend/treemend/Bytes" = some m.cls := findClass_of_methodNamed Bd.named
  have hnm := (name_of_methodNamed Bd.named Bd.method).1
  have X0 : Stand p l e ({ frames := 0, cells := 0, slots := 0, locals := 0 } : Room) s m #[(.long q1), (.long q2)] below meth c s₁ [] 0 0 := Stand.of_body Bd
  have e0 : s₁.heap = h0 := by rw [← hh, Bd.state]; rfl
  have N0 := Fr.nil n0
  have pre0 : ∀ t, Steps p.tables e below (s₁.setTop (mkF m 0 #[.val (.long q1), .second, .val (.long q2), .second, .unset, .unset] [])) t → Steps p.tables e below (s₁.setTop (entryFrame m #[(.long q1), (.long q2)] 6)) t := fun t k => castTop (ef_3 m q1 q2) k
  obtain ⟨fs, hr, hrun, hended, hW, hsame⟩ := X0.leave (v := some (.long ((((((q1 ^^^ q2) &&& (9187201950435737471 : Int64)) + (9187201950435737471 : Int64)) ||| (q1 ^^^ q2)) ||| (9187201950435737471 : Int64)) ^^^ (-1 : Int64)))) (fun h => by rw [Bd.returns] at h; cases h)
  refine ⟨_, _, pre0 _ ?_, hrun, hended, _, _, rfl, ?_, ⟨_, rfl⟩, hW, hsame.mono (by decide) (by decide)⟩
  · show Steps p.tables e below (s₁.setTop (mkF m 0 #[.val (.long q1), .second, .val (.long q2), .second, .unset, .unset] [])) _
    refine XS.lloadN X0.here hx rfl (hb hby d3_0) rfl ?_
    show Steps p.tables e below (s₁.setTop (mkF m 1 #[.val (.long q1), .second, .val (.long q2), .second, .unset, .unset] [(.long q1)])) _
    refine XS.lloadN X0.here hx rfl (hb hby d3_1) rfl ?_
    show Steps p.tables e below (s₁.setTop (mkF m 2 #[.val (.long q1), .second, .val (.long q2), .second, .unset, .unset] [(.long q2), (.long q1)])) _
    refine XS.lxor X0.here hx rfl (hb hby d3_2) rfl ?_
    show Steps p.tables e below (s₁.setTop (mkF m 3 #[.val (.long q1), .second, .val (.long q2), .second, .unset, .unset] [(.long (q1 ^^^ q2))])) _
    refine XS.lstore X0.here hx rfl (hb hby d3_3) rfl (l' := #[.val (.long q1), .second, .val (.long q2), .second, .val (.long (q1 ^^^ q2)), .second]) rfl ?_
    show Steps p.tables e below (s₁.setTop (mkF m 5 #[.val (.long q1), .second, .val (.long q2), .second, .val (.long (q1 ^^^ q2)), .second] [])) _
    refine XS.lload X0.here hx rfl (hb hby d3_5) rfl ?_
    show Steps p.tables e below (s₁.setTop (mkF m 7 #[.val (.long q1), .second, .val (.long q2), .second, .val (.long (q1 ^^^ q2)), .second] [(.long (q1 ^^^ q2))])) _
    refine X0.ldc2Long hx hown (mvT hZ (hw _ (List.mem_of_getElem? (i := 14) rfl))) (g := (mkF m 7 #[.val (.long q1), .second, .val (.long q2), .second, .val (.long (q1 ^^^ q2)), .second] [(.long (q1 ^^^ q2))])) rfl (hb hby d3_7) _ ?_
    show Steps p.tables e below (s₁.setTop (mkF m 10 #[.val (.long q1), .second, .val (.long q2), .second, .val (.long (q1 ^^^ q2)), .second] [(.long (9187201950435737471 : Int64)), (.long (q1 ^^^ q2))])) _
    refine XS.land X0.here hx rfl (hb hby d3_10) rfl ?_
    show Steps p.tables e below (s₁.setTop (mkF m 11 #[.val (.long q1), .second, .val (.long q2), .second, .val (.long (q1 ^^^ q2)), .second] [(.long ((q1 ^^^ q2) &&& (9187201950435737471 : Int64)))])) _
    refine X0.ldc2Long hx hown (mvT hZ (hw _ (List.mem_of_getElem? (i := 14) rfl))) (g := (mkF m 11 #[.val (.long q1), .second, .val (.long q2), .second, .val (.long (q1 ^^^ q2)), .second] [(.long ((q1 ^^^ q2) &&& (9187201950435737471 : Int64)))])) rfl (hb hby d3_11) _ ?_
    show Steps p.tables e below (s₁.setTop (mkF m 14 #[.val (.long q1), .second, .val (.long q2), .second, .val (.long (q1 ^^^ q2)), .second] [(.long (9187201950435737471 : Int64)), (.long ((q1 ^^^ q2) &&& (9187201950435737471 : Int64)))])) _
    refine XS.ladd X0.here hx rfl (hb hby d3_14) rfl ?_
    show Steps p.tables e below (s₁.setTop (mkF m 15 #[.val (.long q1), .second, .val (.long q2), .second, .val (.long (q1 ^^^ q2)), .second] [(.long (((q1 ^^^ q2) &&& (9187201950435737471 : Int64)) + (9187201950435737471 : Int64)))])) _
    refine XS.lload X0.here hx rfl (hb hby d3_15) rfl ?_
    show Steps p.tables e below (s₁.setTop (mkF m 17 #[.val (.long q1), .second, .val (.long q2), .second, .val (.long (q1 ^^^ q2)), .second] [(.long (q1 ^^^ q2)), (.long (((q1 ^^^ q2) &&& (9187201950435737471 : Int64)) + (9187201950435737471 : Int64)))])) _
    refine XS.lor X0.here hx rfl (hb hby d3_17) rfl ?_
    show Steps p.tables e below (s₁.setTop (mkF m 18 #[.val (.long q1), .second, .val (.long q2), .second, .val (.long (q1 ^^^ q2)), .second] [(.long ((((q1 ^^^ q2) &&& (9187201950435737471 : Int64)) + (9187201950435737471 : Int64)) ||| (q1 ^^^ q2)))])) _
    refine X0.ldc2Long hx hown (mvT hZ (hw _ (List.mem_of_getElem? (i := 14) rfl))) (g := (mkF m 18 #[.val (.long q1), .second, .val (.long q2), .second, .val (.long (q1 ^^^ q2)), .second] [(.long ((((q1 ^^^ q2) &&& (9187201950435737471 : Int64)) + (9187201950435737471 : Int64)) ||| (q1 ^^^ q2)))])) rfl (hb hby d3_18) _ ?_
    show Steps p.tables e below (s₁.setTop (mkF m 21 #[.val (.long q1), .second, .val (.long q2), .second, .val (.long (q1 ^^^ q2)), .second] [(.long (9187201950435737471 : Int64)), (.long ((((q1 ^^^ q2) &&& (9187201950435737471 : Int64)) + (9187201950435737471 : Int64)) ||| (q1 ^^^ q2)))])) _
    refine XS.lor X0.here hx rfl (hb hby d3_21) rfl ?_
    show Steps p.tables e below (s₁.setTop (mkF m 22 #[.val (.long q1), .second, .val (.long q2), .second, .val (.long (q1 ^^^ q2)), .second] [(.long (((((q1 ^^^ q2) &&& (9187201950435737471 : Int64)) + (9187201950435737471 : Int64)) ||| (q1 ^^^ q2)) ||| (9187201950435737471 : Int64)))])) _
    refine X0.ldc2Long hx hown (mvT hZ (hw _ (List.mem_of_getElem? (i := 15) rfl))) (g := (mkF m 22 #[.val (.long q1), .second, .val (.long q2), .second, .val (.long (q1 ^^^ q2)), .second] [(.long (((((q1 ^^^ q2) &&& (9187201950435737471 : Int64)) + (9187201950435737471 : Int64)) ||| (q1 ^^^ q2)) ||| (9187201950435737471 : Int64)))])) rfl (hb hby d3_22) _ ?_
    show Steps p.tables e below (s₁.setTop (mkF m 25 #[.val (.long q1), .second, .val (.long q2), .second, .val (.long (q1 ^^^ q2)), .second] [(.long (-1 : Int64)), (.long (((((q1 ^^^ q2) &&& (9187201950435737471 : Int64)) + (9187201950435737471 : Int64)) ||| (q1 ^^^ q2)) ||| (9187201950435737471 : Int64)))])) _
    refine XS.lxor X0.here hx rfl (hb hby d3_25) rfl ?_
    show Steps p.tables e below (s₁.setTop (mkF m 26 #[.val (.long q1), .second, .val (.long q2), .second, .val (.long (q1 ^^^ q2)), .second] [(.long ((((((q1 ^^^ q2) &&& (9187201950435737471 : Int64)) + (9187201950435737471 : Int64)) ||| (q1 ^^^ q2)) ||| (9187201950435737471 : Int64)) ^^^ (-1 : Int64)))])) _
    exact X0.lreturnOut hx Bd.returns (hb hby d3_26) hr
  · show Q3 ((((((q1 ^^^ q2) &&& (9187201950435737471 : Int64)) + (9187201950435737471 : Int64)) ||| (q1 ^^^ q2)) ||| (9187201950435737471 : Int64)) ^^^ (-1 : Int64)) h0 n0 _ s₁.heap _
    rw [e0]
    exact ⟨rfl, N0, rfl⟩
theorem pn_0 : plainName "com/example/treemend/treemend/BytesMatchesPinLaw" = true := by first | (simp [plainName, overriddenIn]; done) | decide +kernel
theorem ef_0 (m : MethodId) (q1 : Int64) (p2 : Int32) (p3 : Int32) : entryFrame m #[(.long q1), (.int p2), (.int p3)] maxLocals = mkF m 0 #[.val (.long q1), .second, .val (.int p2), .val (.int p3), .unset, .unset, .unset, .unset, .unset, .unset, .unset] [] := by first | (simp [entryFrame, mkF, argsToLocals, Value.category, maxLocals]; done) | rfl
theorem pd_0_0 : parseMethodDescriptor "(JIII)J" = some ⟨[.long, .int, .int, .int], some .long⟩ := by decide +kernel
theorem pd_0_1 : parseMethodDescriptor "(JII)J" = some ⟨[.long, .int, .int], some .long⟩ := by decide +kernel
theorem pd_0_2 : parseMethodDescriptor "(JJ)J" = some ⟨[.long, .long], some .long⟩ := by decide +kernel
def Q0 (h0 : Heap) (n0 : Nat) (v : Option Value) (h : Heap) (L : List Loc) : Prop := v = some (.int (1 : Int32)) ∧ Fr n0 L
set_option maxRecDepth 65536 in
set_option maxHeartbeats 40000000 in
theorem rm0 (l : Launch) (Z : State) (a0 : Array Value) (hw : ∀ d ∈ tables_1, d.before a0 Z = true) (ws : List Jvm.Cond) (q1 : Int64) (p2 : Int32) (p3 : Int32) (h0 : Heap) (n0 : Nat) (Z0 : n0 ≤ h0.size) :
    MetFree l x (head1 (Jvm.Cond.code x code maxLocals ret :: ws) room_1) (fun a U => a = #[(.long q1), (.int p2), (.int p3)] ∧ Z.Warmed39 U.vm ∧ U.heap = h0) (fun _ _ _ _ _ => True) (fun _ U o U' => ∃ v L, o = .returned v ∧ Q0 h0 n0 v U'.heap L ∧ FrameEnd U o U' L room_1.cells room_1.slots) := by
  refine MetFree.of_bodySF (plainFor_of_name pn_0) hisR ?_
  intro p e s m args below meth c s₁ Bd hml0 hP hK
  obtain ⟨rfl, hZ, hh⟩ := hP
  have hx := Bd.exec
  have hby := Bd.bytes
  have hml : c.maxLocals = 11 := hml0
  have hown : s.vm.findClass "com/example/treemend/treemend/BytesMatchesPinLaw" = some m.cls := findClass_of_methodNamed Bd.named
  have hnm := (name_of_methodNamed Bd.named Bd.method).1
  have X0 : Stand p l e room_1 s m #[(.long q1), (.int p2), (.int p3)] below meth c s₁ [] 0 0 := Stand.of_body Bd
  have e0 : s₁.heap = h0 := by rw [← hh, Bd.state]; rfl
  have N0 := Fr.nil n0
  have pre0 : ∀ t, Steps p.tables e below (s₁.setTop (mkF m 0 #[.val (.long q1), .second, .val (.int p2), .val (.int p3), .unset, .unset, .unset, .unset, .unset, .unset, .unset] [])) t → Steps p.tables e below (s₁.setTop (entryFrame m #[(.long q1), (.int p2), (.int p3)] maxLocals)) t := fun t k => castTop (ef_0 m q1 p2 p3) k
  obtain ⟨w1, hw1⟩ : ∃ z, z = (own_force q1 (0 : Int32) (p2 &&& (255 : Int32)) p3) := ⟨_, rfl⟩
  obtain ⟨_, _, ⟨T1, L1, k1, n1⟩, -, X1, ⟨Lc1, hQ1, l1, y1, z1⟩, st1⟩ := Jvm.LawKit.callS X0 hx (y := (⟨"com/example/treemend/treemend/BytesMatchesPinLaw", "force", "(JIII)J"⟩ : MethodName)) hown (mvT hZ (hw _ (List.mem_of_getElem? (i := 1) rfl))) (mvT hZ (hw _ (List.mem_of_getElem? (i := 2) rfl))) (mvT hZ (hw _ (List.mem_of_getElem? (i := 3) rfl))) (mvT hZ (hw _ (List.mem_of_getElem? (i := 4) rfl))) (by decide) (backOf (W := 0) ((rm1 l Z a0 hw [] q1 (0 : Int32) (p2 &&& (255 : Int32)) p3 w1 h0 n0 Z0 (fun h => hw1.trans (own_f1 _ _ _ _ h)) (fun h => hw1.trans (own_f2 _ _ _ _ h)))) hZ (hw _ (List.mem_of_getElem? (i := 4) rfl)) (hw _ (List.mem_of_getElem? (i := 3) rfl)) (by decide) (by decide)) (g := (mkF m 25 #[.val (.long q1), .second, .val (.int p2), .val (.int p3), .val (.int (p2 &&& (255 : Int32))), .val (.long ((72340172838076673 : Int64) * ((p2 &&& (255 : Int32)).toInt64))), .second, .val (.long q1), .second, .unset, .unset] [(.int p3), (.int (p2 &&& (255 : Int32))), (.int (0 : Int32)), (.long q1)])) rfl (by rw [hml]; rfl) (argsL := [(.long q1), (.int (0 : Int32)), (.int (p2 &&& (255 : Int32))), (.int p3)]) (rest := []) (lenOf pd_0_0 rfl) rfl (by show 2 * 0 + _ ≤ _; exact Nat.le_of_eq rfl) (hb hby at_25) (fun _ _ => ⟨rfl, e0, (by decide : 0 + 0 ≤ _), (by decide : 0 + 0 ≤ _)⟩)
  dsimp only [Pt.U, Pt.locs, Pt.cells, Pt.slots] at X1 l1 y1 z1 st1 hQ1
  subst l1 y1 z1
  obtain ⟨rfl, N1q, e1⟩ := hQ1
  have N1 := Fr.app N0 N1q
  obtain ⟨w2, hw2⟩ : ∃ z, z = (own_force w1 (1 : Int32) (p2 &&& (255 : Int32)) p3) := ⟨_, rfl⟩
  obtain ⟨_, _, ⟨T2, L2, k2, n2⟩, -, X2, ⟨Lc2, hQ2, l2, y2, z2⟩, st2⟩ := Jvm.LawKit.callS X1 hx (y := (⟨"com/example/treemend/treemend/BytesMatchesPinLaw", "force", "(JIII)J"⟩ : MethodName)) hown (mvT hZ (hw _ (List.mem_of_getElem? (i := 1) rfl))) (mvT hZ (hw _ (List.mem_of_getElem? (i := 2) rfl))) (mvT hZ (hw _ (List.mem_of_getElem? (i := 3) rfl))) (mvT hZ (hw _ (List.mem_of_getElem? (i := 4) rfl))) (by decide) (backOf (W := 0) ((rm1 l Z a0 hw [] w1 (1 : Int32) (p2 &&& (255 : Int32)) p3 w2 h0 n0 Z0 (fun h => hw2.trans (own_f1 _ _ _ _ h)) (fun h => hw2.trans (own_f2 _ _ _ _ h)))) hZ (hw _ (List.mem_of_getElem? (i := 4) rfl)) (hw _ (List.mem_of_getElem? (i := 3) rfl)) (by decide) (by decide)) (g := (mkF m 36 #[.val (.long q1), .second, .val (.int p2), .val (.int p3), .val (.int (p2 &&& (255 : Int32))), .val (.long ((72340172838076673 : Int64) * ((p2 &&& (255 : Int32)).toInt64))), .second, .val (.long w1), .second, .unset, .unset] [(.int p3), (.int (p2 &&& (255 : Int32))), (.int (1 : Int32)), (.long w1)])) rfl (by rw [hml]; rfl) (argsL := [(.long w1), (.int (1 : Int32)), (.int (p2 &&& (255 : Int32))), (.int p3)]) (rest := []) (lenOf pd_0_0 rfl) rfl (by show 2 * 0 + _ ≤ _; exact Nat.le_of_eq rfl) (hb hby at_36) (fun _ _ => ⟨rfl, e1, (by decide : 0 + 0 ≤ _), (by decide : 0 + 0 ≤ _)⟩)
  dsimp only [Pt.U, Pt.locs, Pt.cells, Pt.slots] at X2 l2 y2 z2 st2 hQ2
  subst l2 y2 z2
  obtain ⟨rfl, N2q, e2⟩ := hQ2
  have N2 := Fr.app N1 N2q
  obtain ⟨w3, hw3⟩ : ∃ z, z = (own_force w2 (2 : Int32) (p2 &&& (255 : Int32)) p3) := ⟨_, rfl⟩
  obtain ⟨_, _, ⟨T3, L3, k3, n3⟩, -, X3, ⟨Lc3, hQ3, l3, y3, z3⟩, st3⟩ := Jvm.LawKit.callS X2 hx (y := (⟨"com/example/treemend/treemend/BytesMatchesPinLaw", "force", "(JIII)J"⟩ : MethodName)) hown (mvT hZ (hw _ (List.mem_of_getElem? (i := 1) rfl))) (mvT hZ (hw _ (List.mem_of_getElem? (i := 2) rfl))) (mvT hZ (hw _ (List.mem_of_getElem? (i := 3) rfl))) (mvT hZ (hw _ (List.mem_of_getElem? (i := 4) rfl))) (by decide) (backOf (W := 0) ((rm1 l Z a0 hw [] w2 (2 : Int32) (p2 &&& (255 : Int32)) p3 w3 h0 n0 Z0 (fun h => hw3.trans (own_f1 _ _ _ _ h)) (fun h => hw3.trans (own_f2 _ _ _ _ h)))) hZ (hw _ (List.mem_of_getElem? (i := 4) rfl)) (hw _ (List.mem_of_getElem? (i := 3) rfl)) (by decide) (by decide)) (g := (mkF m 47 #[.val (.long q1), .second, .val (.int p2), .val (.int p3), .val (.int (p2 &&& (255 : Int32))), .val (.long ((72340172838076673 : Int64) * ((p2 &&& (255 : Int32)).toInt64))), .second, .val (.long w2), .second, .unset, .unset] [(.int p3), (.int (p2 &&& (255 : Int32))), (.int (2 : Int32)), (.long w2)])) rfl (by rw [hml]; rfl) (argsL := [(.long w2), (.int (2 : Int32)), (.int (p2 &&& (255 : Int32))), (.int p3)]) (rest := []) (lenOf pd_0_0 rfl) rfl (by show 2 * 0 + _ ≤ _; exact Nat.le_of_eq rfl) (hb hby at_47) (fun _ _ => ⟨rfl, e2, (by decide : 0 + 0 ≤ _), (by decide : 0 + 0 ≤ _)⟩)
  dsimp only [Pt.U, Pt.locs, Pt.cells, Pt.slots] at X3 l3 y3 z3 st3 hQ3
  subst l3 y3 z3
  obtain ⟨rfl, N3q, e3⟩ := hQ3
  have N3 := Fr.app N2 N3q
  obtain ⟨w4, hw4⟩ : ∃ z, z = (own_force w3 (3 : Int32) (p2 &&& (255 : Int32)) p3) := ⟨_, rfl⟩
  obtain ⟨_, _, ⟨T4, L4, k4, n4⟩, -, X4, ⟨Lc4, hQ4, l4, y4, z4⟩, st4⟩ := Jvm.LawKit.callS X3 hx (y := (⟨"com/example/treemend/treemend/BytesMatchesPinLaw", "force", "(JIII)J"⟩ : MethodName)) hown (mvT hZ (hw _ (List.mem_of_getElem? (i := 1) rfl))) (mvT hZ (hw _ (List.mem_of_getElem? (i := 2) rfl))) (mvT hZ (hw _ (List.mem_of_getElem? (i := 3) rfl))) (mvT hZ (hw _ (List.mem_of_getElem? (i := 4) rfl))) (by decide) (backOf (W := 0) ((rm1 l Z a0 hw [] w3 (3 : Int32) (p2 &&& (255 : Int32)) p3 w4 h0 n0 Z0 (fun h => hw4.trans (own_f1 _ _ _ _ h)) (fun h => hw4.trans (own_f2 _ _ _ _ h)))) hZ (hw _ (List.mem_of_getElem? (i := 4) rfl)) (hw _ (List.mem_of_getElem? (i := 3) rfl)) (by decide) (by decide)) (g := (mkF m 58 #[.val (.long q1), .second, .val (.int p2), .val (.int p3), .val (.int (p2 &&& (255 : Int32))), .val (.long ((72340172838076673 : Int64) * ((p2 &&& (255 : Int32)).toInt64))), .second, .val (.long w3), .second, .unset, .unset] [(.int p3), (.int (p2 &&& (255 : Int32))), (.int (3 : Int32)), (.long w3)])) rfl (by rw [hml]; rfl) (argsL := [(.long w3), (.int (3 : Int32)), (.int (p2 &&& (255 : Int32))), (.int p3)]) (rest := []) (lenOf pd_0_0 rfl) rfl (by show 2 * 0 + _ ≤ _; exact Nat.le_of_eq rfl) (hb hby at_58) (fun _ _ => ⟨rfl, e3, (by decide : 0 + 0 ≤ _), (by decide : 0 + 0 ≤ _)⟩)
  dsimp only [Pt.U, Pt.locs, Pt.cells, Pt.slots] at X4 l4 y4 z4 st4 hQ4
  subst l4 y4 z4
  obtain ⟨rfl, N4q, e4⟩ := hQ4
  have N4 := Fr.app N3 N4q
  obtain ⟨w5, hw5⟩ : ∃ z, z = (own_force w4 (4 : Int32) (p2 &&& (255 : Int32)) p3) := ⟨_, rfl⟩
  obtain ⟨_, _, ⟨T5, L5, k5, n5⟩, -, X5, ⟨Lc5, hQ5, l5, y5, z5⟩, st5⟩ := Jvm.LawKit.callS X4 hx (y := (⟨"com/example/treemend/treemend/BytesMatchesPinLaw", "force", "(JIII)J"⟩ : MethodName)) hown (mvT hZ (hw _ (List.mem_of_getElem? (i := 1) rfl))) (mvT hZ (hw _ (List.mem_of_getElem? (i := 2) rfl))) (mvT hZ (hw _ (List.mem_of_getElem? (i := 3) rfl))) (mvT hZ (hw _ (List.mem_of_getElem? (i := 4) rfl))) (by decide) (backOf (W := 0) ((rm1 l Z a0 hw [] w4 (4 : Int32) (p2 &&& (255 : Int32)) p3 w5 h0 n0 Z0 (fun h => hw5.trans (own_f1 _ _ _ _ h)) (fun h => hw5.trans (own_f2 _ _ _ _ h)))) hZ (hw _ (List.mem_of_getElem? (i := 4) rfl)) (hw _ (List.mem_of_getElem? (i := 3) rfl)) (by decide) (by decide)) (g := (mkF m 69 #[.val (.long q1), .second, .val (.int p2), .val (.int p3), .val (.int (p2 &&& (255 : Int32))), .val (.long ((72340172838076673 : Int64) * ((p2 &&& (255 : Int32)).toInt64))), .second, .val (.long w4), .second, .unset, .unset] [(.int p3), (.int (p2 &&& (255 : Int32))), (.int (4 : Int32)), (.long w4)])) rfl (by rw [hml]; rfl) (argsL := [(.long w4), (.int (4 : Int32)), (.int (p2 &&& (255 : Int32))), (.int p3)]) (rest := []) (lenOf pd_0_0 rfl) rfl (by show 2 * 0 + _ ≤ _; exact Nat.le_of_eq rfl) (hb hby at_69) (fun _ _ => ⟨rfl, e4, (by decide : 0 + 0 ≤ _), (by decide : 0 + 0 ≤ _)⟩)
  dsimp only [Pt.U, Pt.locs, Pt.cells, Pt.slots] at X5 l5 y5 z5 st5 hQ5
  subst l5 y5 z5
  obtain ⟨rfl, N5q, e5⟩ := hQ5
  have N5 := Fr.app N4 N5q
  obtain ⟨w6, hw6⟩ : ∃ z, z = (own_force w5 (5 : Int32) (p2 &&& (255 : Int32)) p3) := ⟨_, rfl⟩
  obtain ⟨_, _, ⟨T6, L6, k6, n6⟩, -, X6, ⟨Lc6, hQ6, l6, y6, z6⟩, st6⟩ := Jvm.LawKit.callS X5 hx (y := (⟨"com/example/treemend/treemend/BytesMatchesPinLaw", "force", "(JIII)J"⟩ : MethodName)) hown (mvT hZ (hw _ (List.mem_of_getElem? (i := 1) rfl))) (mvT hZ (hw _ (List.mem_of_getElem? (i := 2) rfl))) (mvT hZ (hw _ (List.mem_of_getElem? (i := 3) rfl))) (mvT hZ (hw _ (List.mem_of_getElem? (i := 4) rfl))) (by decide) (backOf (W := 0) ((rm1 l Z a0 hw [] w5 (5 : Int32) (p2 &&& (255 : Int32)) p3 w6 h0 n0 Z0 (fun h => hw6.trans (own_f1 _ _ _ _ h)) (fun h => hw6.trans (own_f2 _ _ _ _ h)))) hZ (hw _ (List.mem_of_getElem? (i := 4) rfl)) (hw _ (List.mem_of_getElem? (i := 3) rfl)) (by decide) (by decide)) (g := (mkF m 80 #[.val (.long q1), .second, .val (.int p2), .val (.int p3), .val (.int (p2 &&& (255 : Int32))), .val (.long ((72340172838076673 : Int64) * ((p2 &&& (255 : Int32)).toInt64))), .second, .val (.long w5), .second, .unset, .unset] [(.int p3), (.int (p2 &&& (255 : Int32))), (.int (5 : Int32)), (.long w5)])) rfl (by rw [hml]; rfl) (argsL := [(.long w5), (.int (5 : Int32)), (.int (p2 &&& (255 : Int32))), (.int p3)]) (rest := []) (lenOf pd_0_0 rfl) rfl (by show 2 * 0 + _ ≤ _; exact Nat.le_of_eq rfl) (hb hby at_80) (fun _ _ => ⟨rfl, e5, (by decide : 0 + 0 ≤ _), (by decide : 0 + 0 ≤ _)⟩)
  dsimp only [Pt.U, Pt.locs, Pt.cells, Pt.slots] at X6 l6 y6 z6 st6 hQ6
  subst l6 y6 z6
  obtain ⟨rfl, N6q, e6⟩ := hQ6
  have N6 := Fr.app N5 N6q
  obtain ⟨w7, hw7⟩ : ∃ z, z = (own_force w6 (6 : Int32) (p2 &&& (255 : Int32)) p3) := ⟨_, rfl⟩
  obtain ⟨_, _, ⟨T7, L7, k7, n7⟩, -, X7, ⟨Lc7, hQ7, l7, y7, z7⟩, st7⟩ := Jvm.LawKit.callS X6 hx (y := (⟨"com/example/treemend/treemend/BytesMatchesPinLaw", "force", "(JIII)J"⟩ : MethodName)) hown (mvT hZ (hw _ (List.mem_of_getElem? (i := 1) rfl))) (mvT hZ (hw _ (List.mem_of_getElem? (i := 2) rfl))) (mvT hZ (hw _ (List.mem_of_getElem? (i := 3) rfl))) (mvT hZ (hw _ (List.mem_of_getElem? (i := 4) rfl))) (by decide) (backOf (W := 0) ((rm1 l Z a0 hw [] w6 (6 : Int32) (p2 &&& (255 : Int32)) p3 w7 h0 n0 Z0 (fun h => hw7.trans (own_f1 _ _ _ _ h)) (fun h => hw7.trans (own_f2 _ _ _ _ h)))) hZ (hw _ (List.mem_of_getElem? (i := 4) rfl)) (hw _ (List.mem_of_getElem? (i := 3) rfl)) (by decide) (by decide)) (g := (mkF m 92 #[.val (.long q1), .second, .val (.int p2), .val (.int p3), .val (.int (p2 &&& (255 : Int32))), .val (.long ((72340172838076673 : Int64) * ((p2 &&& (255 : Int32)).toInt64))), .second, .val (.long w6), .second, .unset, .unset] [(.int p3), (.int (p2 &&& (255 : Int32))), (.int (6 : Int32)), (.long w6)])) rfl (by rw [hml]; rfl) (argsL := [(.long w6), (.int (6 : Int32)), (.int (p2 &&& (255 : Int32))), (.int p3)]) (rest := []) (lenOf pd_0_0 rfl) rfl (by show 2 * 0 + _ ≤ _; exact Nat.le_of_eq rfl) (hb hby at_92) (fun _ _ => ⟨rfl, e6, (by decide : 0 + 0 ≤ _), (by decide : 0 + 0 ≤ _)⟩)
  dsimp only [Pt.U, Pt.locs, Pt.cells, Pt.slots] at X7 l7 y7 z7 st7 hQ7
  subst l7 y7 z7
  obtain ⟨rfl, N7q, e7⟩ := hQ7
  have N7 := Fr.app N6 N7q
  obtain ⟨w8, hw8⟩ : ∃ z, z = (own_force w7 (7 : Int32) (p2 &&& (255 : Int32)) p3) := ⟨_, rfl⟩
  obtain ⟨_, _, ⟨T8, L8, k8, n8⟩, -, X8, ⟨Lc8, hQ8, l8, y8, z8⟩, st8⟩ := Jvm.LawKit.callS X7 hx (y := (⟨"com/example/treemend/treemend/BytesMatchesPinLaw", "force", "(JIII)J"⟩ : MethodName)) hown (mvT hZ (hw _ (List.mem_of_getElem? (i := 1) rfl))) (mvT hZ (hw _ (List.mem_of_getElem? (i := 2) rfl))) (mvT hZ (hw _ (List.mem_of_getElem? (i := 3) rfl))) (mvT hZ (hw _ (List.mem_of_getElem? (i := 4) rfl))) (by decide) (backOf (W := 0) ((rm1 l Z a0 hw [] w7 (7 : Int32) (p2 &&& (255 : Int32)) p3 w8 h0 n0 Z0 (fun h => hw8.trans (own_f1 _ _ _ _ h)) (fun h => hw8.trans (own_f2 _ _ _ _ h)))) hZ (hw _ (List.mem_of_getElem? (i := 4) rfl)) (hw _ (List.mem_of_getElem? (i := 3) rfl)) (by decide) (by decide)) (g := (mkF m 104 #[.val (.long q1), .second, .val (.int p2), .val (.int p3), .val (.int (p2 &&& (255 : Int32))), .val (.long ((72340172838076673 : Int64) * ((p2 &&& (255 : Int32)).toInt64))), .second, .val (.long w7), .second, .unset, .unset] [(.int p3), (.int (p2 &&& (255 : Int32))), (.int (7 : Int32)), (.long w7)])) rfl (by rw [hml]; rfl) (argsL := [(.long w7), (.int (7 : Int32)), (.int (p2 &&& (255 : Int32))), (.int p3)]) (rest := []) (lenOf pd_0_0 rfl) rfl (by show 2 * 0 + _ ≤ _; exact Nat.le_of_eq rfl) (hb hby at_104) (fun _ _ => ⟨rfl, e7, (by decide : 0 + 0 ≤ _), (by decide : 0 + 0 ≤ _)⟩)
  dsimp only [Pt.U, Pt.locs, Pt.cells, Pt.slots] at X8 l8 y8 z8 st8 hQ8
  subst l8 y8 z8
  obtain ⟨rfl, N8q, e8⟩ := hQ8
  have N8 := Fr.app N7 N8q
  obtain ⟨_, _, ⟨T9, L9, k9, n9⟩, -, X9, ⟨Lc9, hQ9, l9, y9, z9⟩, st9⟩ := Jvm.LawKit.callS X8 hx (y := (⟨"com/example/treemend/treemend/BytesMatchesPinLaw", "bit", "(JII)J"⟩ : MethodName)) hown (mvT hZ (hw _ (List.mem_of_getElem? (i := 7) rfl))) (mvT hZ (hw _ (List.mem_of_getElem? (i := 8) rfl))) (mvT hZ (hw _ (List.mem_of_getElem? (i := 3) rfl))) (mvT hZ (hw _ (List.mem_of_getElem? (i := 9) rfl))) (by decide) (backOf (W := 0) (rm2 l Z a0 hw [] w8 (p2 &&& (255 : Int32)) (0 : Int32) (own_bit w8 (p2 &&& (255 : Int32)) (0 : Int32)) h0 n0 Z0 (own_b1 _ _ _) (own_b2 _ _ _)) hZ (hw _ (List.mem_of_getElem? (i := 9) rfl)) (hw _ (List.mem_of_getElem? (i := 3) rfl)) (by decide) (by decide)) (g := (mkF m 114 #[.val (.long q1), .second, .val (.int p2), .val (.int p3), .val (.int (p2 &&& (255 : Int32))), .val (.long ((72340172838076673 : Int64) * ((p2 &&& (255 : Int32)).toInt64))), .second, .val (.long w8), .second, .unset, .unset] [(.int (0 : Int32)), (.int (p2 &&& (255 : Int32))), (.long w8)])) rfl (by rw [hml]; rfl) (argsL := [(.long w8), (.int (p2 &&& (255 : Int32))), (.int (0 : Int32))]) (rest := []) (lenOf pd_0_1 rfl) rfl (by show 2 * 0 + _ ≤ _; exact Nat.le_of_eq rfl) (hb hby at_114) (fun _ _ => ⟨rfl, e8, (by decide : 0 + 0 ≤ _), (by decide : 0 + 0 ≤ _)⟩)
  dsimp only [Pt.U, Pt.locs, Pt.cells, Pt.slots] at X9 l9 y9 z9 st9 hQ9
  subst l9 y9 z9
  obtain ⟨rfl, N9q, e9⟩ := hQ9
  have N9 := Fr.app N8 N9q
  obtain ⟨_, _, ⟨T10, L10, k10, n10⟩, -, X10, ⟨Lc10, hQ10, l10, y10, z10⟩, st10⟩ := Jvm.LawKit.callS X9 hx (y := (⟨"com/example/treemend/treemend/BytesMatchesPinLaw", "bit", "(JII)J"⟩ : MethodName)) hown (mvT hZ (hw _ (List.mem_of_getElem? (i := 7) rfl))) (mvT hZ (hw _ (List.mem_of_getElem? (i := 8) rfl))) (mvT hZ (hw _ (List.mem_of_getElem? (i := 3) rfl))) (mvT hZ (hw _ (List.mem_of_getElem? (i := 9) rfl))) (by decide) (backOf (W := 2) (rm2 l Z a0 hw [] w8 (p2 &&& (255 : Int32)) (1 : Int32) (own_bit w8 (p2 &&& (255 : Int32)) (1 : Int32)) h0 n0 Z0 (own_b1 _ _ _) (own_b2 _ _ _)) hZ (hw _ (List.mem_of_getElem? (i := 9) rfl)) (hw _ (List.mem_of_getElem? (i := 3) rfl)) (by decide) (by decide)) (g := (mkF m 122 #[.val (.long q1), .second, .val (.int p2), .val (.int p3), .val (.int (p2 &&& (255 : Int32))), .val (.long ((72340172838076673 : Int64) * ((p2 &&& (255 : Int32)).toInt64))), .second, .val (.long w8), .second, .unset, .unset] [(.int (1 : Int32)), (.int (p2 &&& (255 : Int32))), (.long w8), (.long (own_bit w8 (p2 &&& (255 : Int32)) (0 : Int32)))])) rfl (by rw [hml]; rfl) (argsL := [(.long w8), (.int (p2 &&& (255 : Int32))), (.int (1 : Int32))]) (rest := [(.long (own_bit w8 (p2 &&& (255 : Int32)) (0 : Int32)))]) (lenOf pd_0_1 rfl) rfl (by show 2 * 0 + _ ≤ _; exact Nat.le_of_eq rfl) (hb hby at_122) (fun _ _ => ⟨rfl, e9, (by decide : 0 + 0 ≤ _), (by decide : 0 + 0 ≤ _)⟩)
  dsimp only [Pt.U, Pt.locs, Pt.cells, Pt.slots] at X10 l10 y10 z10 st10 hQ10
  subst l10 y10 z10
  obtain ⟨rfl, N10q, e10⟩ := hQ10
  have N10 := Fr.app N9 N10q
  obtain ⟨_, _, ⟨T11, L11, k11, n11⟩, -, X11, ⟨Lc11, hQ11, l11, y11, z11⟩, st11⟩ := Jvm.LawKit.callS X10 hx (y := (⟨"com/example/treemend/treemend/BytesMatchesPinLaw", "bit", "(JII)J"⟩ : MethodName)) hown (mvT hZ (hw _ (List.mem_of_getElem? (i := 7) rfl))) (mvT hZ (hw _ (List.mem_of_getElem? (i := 8) rfl))) (mvT hZ (hw _ (List.mem_of_getElem? (i := 3) rfl))) (mvT hZ (hw _ (List.mem_of_getElem? (i := 9) rfl))) (by decide) (backOf (W := 2) (rm2 l Z a0 hw [] w8 (p2 &&& (255 : Int32)) (2 : Int32) (own_bit w8 (p2 &&& (255 : Int32)) (2 : Int32)) h0 n0 Z0 (own_b1 _ _ _) (own_b2 _ _ _)) hZ (hw _ (List.mem_of_getElem? (i := 9) rfl)) (hw _ (List.mem_of_getElem? (i := 3) rfl)) (by decide) (by decide)) (g := (mkF m 131 #[.val (.long q1), .second, .val (.int p2), .val (.int p3), .val (.int (p2 &&& (255 : Int32))), .val (.long ((72340172838076673 : Int64) * ((p2 &&& (255 : Int32)).toInt64))), .second, .val (.long w8), .second, .unset, .unset] [(.int (2 : Int32)), (.int (p2 &&& (255 : Int32))), (.long w8), (.long ((own_bit w8 (p2 &&& (255 : Int32)) (0 : Int32)) ||| (own_bit w8 (p2 &&& (255 : Int32)) (1 : Int32))))])) rfl (by rw [hml]; rfl) (argsL := [(.long w8), (.int (p2 &&& (255 : Int32))), (.int (2 : Int32))]) (rest := [(.long ((own_bit w8 (p2 &&& (255 : Int32)) (0 : Int32)) ||| (own_bit w8 (p2 &&& (255 : Int32)) (1 : Int32))))]) (lenOf pd_0_1 rfl) rfl (by show 2 * 0 + _ ≤ _; exact Nat.le_of_eq rfl) (hb hby at_131) (fun _ _ => ⟨rfl, e10, (by decide : 0 + 0 ≤ _), (by decide : 0 + 0 ≤ _)⟩)
  dsimp only [Pt.U, Pt.locs, Pt.cells, Pt.slots] at X11 l11 y11 z11 st11 hQ11
  subst l11 y11 z11
  obtain ⟨rfl, N11q, e11⟩ := hQ11
  have N11 := Fr.app N10 N11q
  obtain ⟨_, _, ⟨T12, L12, k12, n12⟩, -, X12, ⟨Lc12, hQ12, l12, y12, z12⟩, st12⟩ := Jvm.LawKit.callS X11 hx (y := (⟨"com/example/treemend/treemend/BytesMatchesPinLaw", "bit", "(JII)J"⟩ : MethodName)) hown (mvT hZ (hw _ (List.mem_of_getElem? (i := 7) rfl))) (mvT hZ (hw _ (List.mem_of_getElem? (i := 8) rfl))) (mvT hZ (hw _ (List.mem_of_getElem? (i := 3) rfl))) (mvT hZ (hw _ (List.mem_of_getElem? (i := 9) rfl))) (by decide) (backOf (W := 2) (rm2 l Z a0 hw [] w8 (p2 &&& (255 : Int32)) (3 : Int32) (own_bit w8 (p2 &&& (255 : Int32)) (3 : Int32)) h0 n0 Z0 (own_b1 _ _ _) (own_b2 _ _ _)) hZ (hw _ (List.mem_of_getElem? (i := 9) rfl)) (hw _ (List.mem_of_getElem? (i := 3) rfl)) (by decide) (by decide)) (g := (mkF m 140 #[.val (.long q1), .second, .val (.int p2), .val (.int p3), .val (.int (p2 &&& (255 : Int32))), .val (.long ((72340172838076673 : Int64) * ((p2 &&& (255 : Int32)).toInt64))), .second, .val (.long w8), .second, .unset, .unset] [(.int (3 : Int32)), (.int (p2 &&& (255 : Int32))), (.long w8), (.long (((own_bit w8 (p2 &&& (255 : Int32)) (0 : Int32)) ||| (own_bit w8 (p2 &&& (255 : Int32)) (1 : Int32))) ||| (own_bit w8 (p2 &&& (255 : Int32)) (2 : Int32))))])) rfl (by rw [hml]; rfl) (argsL := [(.long w8), (.int (p2 &&& (255 : Int32))), (.int (3 : Int32))]) (rest := [(.long (((own_bit w8 (p2 &&& (255 : Int32)) (0 : Int32)) ||| (own_bit w8 (p2 &&& (255 : Int32)) (1 : Int32))) ||| (own_bit w8 (p2 &&& (255 : Int32)) (2 : Int32))))]) (lenOf pd_0_1 rfl) rfl (by show 2 * 0 + _ ≤ _; exact Nat.le_of_eq rfl) (hb hby at_140) (fun _ _ => ⟨rfl, e11, (by decide : 0 + 0 ≤ _), (by decide : 0 + 0 ≤ _)⟩)
  dsimp only [Pt.U, Pt.locs, Pt.cells, Pt.slots] at X12 l12 y12 z12 st12 hQ12
  subst l12 y12 z12
  obtain ⟨rfl, N12q, e12⟩ := hQ12
  have N12 := Fr.app N11 N12q
  obtain ⟨_, _, ⟨T13, L13, k13, n13⟩, -, X13, ⟨Lc13, hQ13, l13, y13, z13⟩, st13⟩ := Jvm.LawKit.callS X12 hx (y := (⟨"com/example/treemend/treemend/BytesMatchesPinLaw", "bit", "(JII)J"⟩ : MethodName)) hown (mvT hZ (hw _ (List.mem_of_getElem? (i := 7) rfl))) (mvT hZ (hw _ (List.mem_of_getElem? (i := 8) rfl))) (mvT hZ (hw _ (List.mem_of_getElem? (i := 3) rfl))) (mvT hZ (hw _ (List.mem_of_getElem? (i := 9) rfl))) (by decide) (backOf (W := 2) (rm2 l Z a0 hw [] w8 (p2 &&& (255 : Int32)) (4 : Int32) (own_bit w8 (p2 &&& (255 : Int32)) (4 : Int32)) h0 n0 Z0 (own_b1 _ _ _) (own_b2 _ _ _)) hZ (hw _ (List.mem_of_getElem? (i := 9) rfl)) (hw _ (List.mem_of_getElem? (i := 3) rfl)) (by decide) (by decide)) (g := (mkF m 149 #[.val (.long q1), .second, .val (.int p2), .val (.int p3), .val (.int (p2 &&& (255 : Int32))), .val (.long ((72340172838076673 : Int64) * ((p2 &&& (255 : Int32)).toInt64))), .second, .val (.long w8), .second, .unset, .unset] [(.int (4 : Int32)), (.int (p2 &&& (255 : Int32))), (.long w8), (.long ((((own_bit w8 (p2 &&& (255 : Int32)) (0 : Int32)) ||| (own_bit w8 (p2 &&& (255 : Int32)) (1 : Int32))) ||| (own_bit w8 (p2 &&& (255 : Int32)) (2 : Int32))) ||| (own_bit w8 (p2 &&& (255 : Int32)) (3 : Int32))))])) rfl (by rw [hml]; rfl) (argsL := [(.long w8), (.int (p2 &&& (255 : Int32))), (.int (4 : Int32))]) (rest := [(.long ((((own_bit w8 (p2 &&& (255 : Int32)) (0 : Int32)) ||| (own_bit w8 (p2 &&& (255 : Int32)) (1 : Int32))) ||| (own_bit w8 (p2 &&& (255 : Int32)) (2 : Int32))) ||| (own_bit w8 (p2 &&& (255 : Int32)) (3 : Int32))))]) (lenOf pd_0_1 rfl) rfl (by show 2 * 0 + _ ≤ _; exact Nat.le_of_eq rfl) (hb hby at_149) (fun _ _ => ⟨rfl, e12, (by decide : 0 + 0 ≤ _), (by decide : 0 + 0 ≤ _)⟩)
  dsimp only [Pt.U, Pt.locs, Pt.cells, Pt.slots] at X13 l13 y13 z13 st13 hQ13
  subst l13 y13 z13
  obtain ⟨rfl, N13q, e13⟩ := hQ13
  have N13 := Fr.app N12 N13q
  obtain ⟨_, _, ⟨T14, L14, k14, n14⟩, -, X14, ⟨Lc14, hQ14, l14, y14, z14⟩, st14⟩ := Jvm.LawKit.callS X13 hx (y := (⟨"com/example/treemend/treemend/BytesMatchesPinLaw", "bit", "(JII)J"⟩ : MethodName)) hown (mvT hZ (hw _ (List.mem_of_getElem? (i := 7) rfl))) (mvT hZ (hw _ (List.mem_of_getElem? (i := 8) rfl))) (mvT hZ (hw _ (List.mem_of_getElem? (i := 3) rfl))) (mvT hZ (hw _ (List.mem_of_getElem? (i := 9) rfl))) (by decide) (backOf (W := 2) (rm2 l Z a0 hw [] w8 (p2 &&& (255 : Int32)) (5 : Int32) (own_bit w8 (p2 &&& (255 : Int32)) (5 : Int32)) h0 n0 Z0 (own_b1 _ _ _) (own_b2 _ _ _)) hZ (hw _ (List.mem_of_getElem? (i := 9) rfl)) (hw _ (List.mem_of_getElem? (i := 3) rfl)) (by decide) (by decide)) (g := (mkF m 158 #[.val (.long q1), .second, .val (.int p2), .val (.int p3), .val (.int (p2 &&& (255 : Int32))), .val (.long ((72340172838076673 : Int64) * ((p2 &&& (255 : Int32)).toInt64))), .second, .val (.long w8), .second, .unset, .unset] [(.int (5 : Int32)), (.int (p2 &&& (255 : Int32))), (.long w8), (.long (((((own_bit w8 (p2 &&& (255 : Int32)) (0 : Int32)) ||| (own_bit w8 (p2 &&& (255 : Int32)) (1 : Int32))) ||| (own_bit w8 (p2 &&& (255 : Int32)) (2 : Int32))) ||| (own_bit w8 (p2 &&& (255 : Int32)) (3 : Int32))) ||| (own_bit w8 (p2 &&& (255 : Int32)) (4 : Int32))))])) rfl (by rw [hml]; rfl) (argsL := [(.long w8), (.int (p2 &&& (255 : Int32))), (.int (5 : Int32))]) (rest := [(.long (((((own_bit w8 (p2 &&& (255 : Int32)) (0 : Int32)) ||| (own_bit w8 (p2 &&& (255 : Int32)) (1 : Int32))) ||| (own_bit w8 (p2 &&& (255 : Int32)) (2 : Int32))) ||| (own_bit w8 (p2 &&& (255 : Int32)) (3 : Int32))) ||| (own_bit w8 (p2 &&& (255 : Int32)) (4 : Int32))))]) (lenOf pd_0_1 rfl) rfl (by show 2 * 0 + _ ≤ _; exact Nat.le_of_eq rfl) (hb hby at_158) (fun _ _ => ⟨rfl, e13, (by decide : 0 + 0 ≤ _), (by decide : 0 + 0 ≤ _)⟩)
  dsimp only [Pt.U, Pt.locs, Pt.cells, Pt.slots] at X14 l14 y14 z14 st14 hQ14
  subst l14 y14 z14
  obtain ⟨rfl, N14q, e14⟩ := hQ14
  have N14 := Fr.app N13 N14q
  obtain ⟨_, _, ⟨T15, L15, k15, n15⟩, -, X15, ⟨Lc15, hQ15, l15, y15, z15⟩, st15⟩ := Jvm.LawKit.callS X14 hx (y := (⟨"com/example/treemend/treemend/BytesMatchesPinLaw", "bit", "(JII)J"⟩ : MethodName)) hown (mvT hZ (hw _ (List.mem_of_getElem? (i := 7) rfl))) (mvT hZ (hw _ (List.mem_of_getElem? (i := 8) rfl))) (mvT hZ (hw _ (List.mem_of_getElem? (i := 3) rfl))) (mvT hZ (hw _ (List.mem_of_getElem? (i := 9) rfl))) (by decide) (backOf (W := 2) (rm2 l Z a0 hw [] w8 (p2 &&& (255 : Int32)) (6 : Int32) (own_bit w8 (p2 &&& (255 : Int32)) (6 : Int32)) h0 n0 Z0 (own_b1 _ _ _) (own_b2 _ _ _)) hZ (hw _ (List.mem_of_getElem? (i := 9) rfl)) (hw _ (List.mem_of_getElem? (i := 3) rfl)) (by decide) (by decide)) (g := (mkF m 168 #[.val (.long q1), .second, .val (.int p2), .val (.int p3), .val (.int (p2 &&& (255 : Int32))), .val (.long ((72340172838076673 : Int64) * ((p2 &&& (255 : Int32)).toInt64))), .second, .val (.long w8), .second, .unset, .unset] [(.int (6 : Int32)), (.int (p2 &&& (255 : Int32))), (.long w8), (.long ((((((own_bit w8 (p2 &&& (255 : Int32)) (0 : Int32)) ||| (own_bit w8 (p2 &&& (255 : Int32)) (1 : Int32))) ||| (own_bit w8 (p2 &&& (255 : Int32)) (2 : Int32))) ||| (own_bit w8 (p2 &&& (255 : Int32)) (3 : Int32))) ||| (own_bit w8 (p2 &&& (255 : Int32)) (4 : Int32))) ||| (own_bit w8 (p2 &&& (255 : Int32)) (5 : Int32))))])) rfl (by rw [hml]; rfl) (argsL := [(.long w8), (.int (p2 &&& (255 : Int32))), (.int (6 : Int32))]) (rest := [(.long ((((((own_bit w8 (p2 &&& (255 : Int32)) (0 : Int32)) ||| (own_bit w8 (p2 &&& (255 : Int32)) (1 : Int32))) ||| (own_bit w8 (p2 &&& (255 : Int32)) (2 : Int32))) ||| (own_bit w8 (p2 &&& (255 : Int32)) (3 : Int32))) ||| (own_bit w8 (p2 &&& (255 : Int32)) (4 : Int32))) ||| (own_bit w8 (p2 &&& (255 : Int32)) (5 : Int32))))]) (lenOf pd_0_1 rfl) rfl (by show 2 * 0 + _ ≤ _; exact Nat.le_of_eq rfl) (hb hby at_168) (fun _ _ => ⟨rfl, e14, (by decide : 0 + 0 ≤ _), (by decide : 0 + 0 ≤ _)⟩)
  dsimp only [Pt.U, Pt.locs, Pt.cells, Pt.slots] at X15 l15 y15 z15 st15 hQ15
  subst l15 y15 z15
  obtain ⟨rfl, N15q, e15⟩ := hQ15
  have N15 := Fr.app N14 N15q
  obtain ⟨_, _, ⟨T16, L16, k16, n16⟩, -, X16, ⟨Lc16, hQ16, l16, y16, z16⟩, st16⟩ := Jvm.LawKit.callS X15 hx (y := (⟨"com/example/treemend/treemend/BytesMatchesPinLaw", "bit", "(JII)J"⟩ : MethodName)) hown (mvT hZ (hw _ (List.mem_of_getElem? (i := 7) rfl))) (mvT hZ (hw _ (List.mem_of_getElem? (i := 8) rfl))) (mvT hZ (hw _ (List.mem_of_getElem? (i := 3) rfl))) (mvT hZ (hw _ (List.mem_of_getElem? (i := 9) rfl))) (by decide) (backOf (W := 2) (rm2 l Z a0 hw [] w8 (p2 &&& (255 : Int32)) (7 : Int32) (own_bit w8 (p2 &&& (255 : Int32)) (7 : Int32)) h0 n0 Z0 (own_b1 _ _ _) (own_b2 _ _ _)) hZ (hw _ (List.mem_of_getElem? (i := 9) rfl)) (hw _ (List.mem_of_getElem? (i := 3) rfl)) (by decide) (by decide)) (g := (mkF m 178 #[.val (.long q1), .second, .val (.int p2), .val (.int p3), .val (.int (p2 &&& (255 : Int32))), .val (.long ((72340172838076673 : Int64) * ((p2 &&& (255 : Int32)).toInt64))), .second, .val (.long w8), .second, .unset, .unset] [(.int (7 : Int32)), (.int (p2 &&& (255 : Int32))), (.long w8), (.long (((((((own_bit w8 (p2 &&& (255 : Int32)) (0 : Int32)) ||| (own_bit w8 (p2 &&& (255 : Int32)) (1 : Int32))) ||| (own_bit w8 (p2 &&& (255 : Int32)) (2 : Int32))) ||| (own_bit w8 (p2 &&& (255 : Int32)) (3 : Int32))) ||| (own_bit w8 (p2 &&& (255 : Int32)) (4 : Int32))) ||| (own_bit w8 (p2 &&& (255 : Int32)) (5 : Int32))) ||| (own_bit w8 (p2 &&& (255 : Int32)) (6 : Int32))))])) rfl (by rw [hml]; rfl) (argsL := [(.long w8), (.int (p2 &&& (255 : Int32))), (.int (7 : Int32))]) (rest := [(.long (((((((own_bit w8 (p2 &&& (255 : Int32)) (0 : Int32)) ||| (own_bit w8 (p2 &&& (255 : Int32)) (1 : Int32))) ||| (own_bit w8 (p2 &&& (255 : Int32)) (2 : Int32))) ||| (own_bit w8 (p2 &&& (255 : Int32)) (3 : Int32))) ||| (own_bit w8 (p2 &&& (255 : Int32)) (4 : Int32))) ||| (own_bit w8 (p2 &&& (255 : Int32)) (5 : Int32))) ||| (own_bit w8 (p2 &&& (255 : Int32)) (6 : Int32))))]) (lenOf pd_0_1 rfl) rfl (by show 2 * 0 + _ ≤ _; exact Nat.le_of_eq rfl) (hb hby at_178) (fun _ _ => ⟨rfl, e15, (by decide : 0 + 0 ≤ _), (by decide : 0 + 0 ≤ _)⟩)
  dsimp only [Pt.U, Pt.locs, Pt.cells, Pt.slots] at X16 l16 y16 z16 st16 hQ16
  subst l16 y16 z16
  obtain ⟨rfl, N16q, e16⟩ := hQ16
  have N16 := Fr.app N15 N16q
  obtain ⟨_, _, ⟨T17, L17, k17, n17⟩, -, X17, ⟨Lc17, hQ17, l17, y17, z17⟩, st17⟩ := Jvm.LawKit.callS X16 hx (y := (⟨"com/example/treemend/treemend/Bytes", "matches", "(JJ)J"⟩ : MethodName)) hown (mvT hZ (hw _ (List.mem_of_getElem? (i := 10) rfl))) (mvT hZ (hw _ (List.mem_of_getElem? (i := 11) rfl))) (mvT hZ (hw _ (List.mem_of_getElem? (i := 12) rfl))) (mvT hZ (hw _ (List.mem_of_getElem? (i := 13) rfl))) (by decide) (backOf (W := 0) (rm3 l Z a0 hw [] w8 ((72340172838076673 : Int64) * ((p2 &&& (255 : Int32)).toInt64)) h0 n0 Z0) hZ (hw _ (List.mem_of_getElem? (i := 13) rfl)) (hw _ (List.mem_of_getElem? (i := 12) rfl)) (by decide) (by decide)) (g := (mkF m 188 #[.val (.long q1), .second, .val (.int p2), .val (.int p3), .val (.int (p2 &&& (255 : Int32))), .val (.long ((72340172838076673 : Int64) * ((p2 &&& (255 : Int32)).toInt64))), .second, .val (.long w8), .second, .val (.long ((((((((own_bit w8 (p2 &&& (255 : Int32)) (0 : Int32)) ||| (own_bit w8 (p2 &&& (255 : Int32)) (1 : Int32))) ||| (own_bit w8 (p2 &&& (255 : Int32)) (2 : Int32))) ||| (own_bit w8 (p2 &&& (255 : Int32)) (3 : Int32))) ||| (own_bit w8 (p2 &&& (255 : Int32)) (4 : Int32))) ||| (own_bit w8 (p2 &&& (255 : Int32)) (5 : Int32))) ||| (own_bit w8 (p2 &&& (255 : Int32)) (6 : Int32))) ||| (own_bit w8 (p2 &&& (255 : Int32)) (7 : Int32)))), .second] [(.long ((72340172838076673 : Int64) * ((p2 &&& (255 : Int32)).toInt64))), (.long w8)])) rfl (by rw [hml]; rfl) (argsL := [(.long w8), (.long ((72340172838076673 : Int64) * ((p2 &&& (255 : Int32)).toInt64)))]) (rest := []) (lenOf pd_0_2 rfl) rfl (by show 2 * 0 + _ ≤ _; exact Nat.le_of_eq rfl) (hb hby at_188) (fun _ _ => ⟨rfl, e16, (by decide : 0 + 0 ≤ _), (by decide : 0 + 0 ≤ _)⟩)
  dsimp only [Pt.U, Pt.locs, Pt.cells, Pt.slots] at X17 l17 y17 z17 st17 hQ17
  subst l17 y17 z17
  obtain ⟨rfl, N17q, e17⟩ := hQ17
  have N17 := Fr.app N16 N17q
  obtain ⟨fs, hr, hrun, hended, hW, hsame⟩ := X17.leave (v := some (.int (1 : Int32))) (fun h => by rw [Bd.returns] at h; cases h)
  refine ⟨_, _, pre0 _ ?_, hrun, hended, _, _, rfl, ?_, ⟨_, rfl⟩, hW, hsame.mono (by decide) (by decide)⟩
  · show Steps p.tables e below (s₁.setTop (mkF m 0 #[.val (.long q1), .second, .val (.int p2), .val (.int p3), .unset, .unset, .unset, .unset, .unset, .unset, .unset] [])) _
    refine XS.iloadN X0.here hx rfl (hb hby at_0) rfl ?_
    show Steps p.tables e below (s₁.setTop (mkF m 1 #[.val (.long q1), .second, .val (.int p2), .val (.int p3), .unset, .unset, .unset, .unset, .unset, .unset, .unset] [(.int p2)])) _
    refine XS.sipush X0.here hx rfl (hb hby at_1) ?_
    show Steps p.tables e below (s₁.setTop (mkF m 4 #[.val (.long q1), .second, .val (.int p2), .val (.int p3), .unset, .unset, .unset, .unset, .unset, .unset, .unset] [(.int (255 : Int32)), (.int p2)])) _
    refine XS.iand X0.here hx rfl (hb hby at_4) rfl ?_
    show Steps p.tables e below (s₁.setTop (mkF m 5 #[.val (.long q1), .second, .val (.int p2), .val (.int p3), .unset, .unset, .unset, .unset, .unset, .unset, .unset] [(.int (p2 &&& (255 : Int32)))])) _
    refine XS.istore X0.here hx rfl (hb hby at_5) rfl (l' := #[.val (.long q1), .second, .val (.int p2), .val (.int p3), .val (.int (p2 &&& (255 : Int32))), .unset, .unset, .unset, .unset, .unset, .unset]) rfl ?_
    show Steps p.tables e below (s₁.setTop (mkF m 7 #[.val (.long q1), .second, .val (.int p2), .val (.int p3), .val (.int (p2 &&& (255 : Int32))), .unset, .unset, .unset, .unset, .unset, .unset] [])) _
    refine X0.ldc2Long hx hown (mvT hZ (hw _ (List.mem_of_getElem? (i := 0) rfl))) (g := (mkF m 7 #[.val (.long q1), .second, .val (.int p2), .val (.int p3), .val (.int (p2 &&& (255 : Int32))), .unset, .unset, .unset, .unset, .unset, .unset] [])) rfl (hb hby at_7) _ ?_
    show Steps p.tables e below (s₁.setTop (mkF m 10 #[.val (.long q1), .second, .val (.int p2), .val (.int p3), .val (.int (p2 &&& (255 : Int32))), .unset, .unset, .unset, .unset, .unset, .unset] [(.long (72340172838076673 : Int64))])) _
    refine XS.iload X0.here hx rfl (hb hby at_10) rfl ?_
    show Steps p.tables e below (s₁.setTop (mkF m 12 #[.val (.long q1), .second, .val (.int p2), .val (.int p3), .val (.int (p2 &&& (255 : Int32))), .unset, .unset, .unset, .unset, .unset, .unset] [(.int (p2 &&& (255 : Int32))), (.long (72340172838076673 : Int64))])) _
    refine XS.i2l X0.here hx rfl (hb hby at_12) rfl ?_
    show Steps p.tables e below (s₁.setTop (mkF m 13 #[.val (.long q1), .second, .val (.int p2), .val (.int p3), .val (.int (p2 &&& (255 : Int32))), .unset, .unset, .unset, .unset, .unset, .unset] [(.long ((p2 &&& (255 : Int32)).toInt64)), (.long (72340172838076673 : Int64))])) _
    refine XS.lmul X0.here hx rfl (hb hby at_13) rfl ?_
    show Steps p.tables e below (s₁.setTop (mkF m 14 #[.val (.long q1), .second, .val (.int p2), .val (.int p3), .val (.int (p2 &&& (255 : Int32))), .unset, .unset, .unset, .unset, .unset, .unset] [(.long ((72340172838076673 : Int64) * ((p2 &&& (255 : Int32)).toInt64)))])) _
    refine XS.lstore X0.here hx rfl (hb hby at_14) rfl (l' := #[.val (.long q1), .second, .val (.int p2), .val (.int p3), .val (.int (p2 &&& (255 : Int32))), .val (.long ((72340172838076673 : Int64) * ((p2 &&& (255 : Int32)).toInt64))), .second, .unset, .unset, .unset, .unset]) rfl ?_
    show Steps p.tables e below (s₁.setTop (mkF m 16 #[.val (.long q1), .second, .val (.int p2), .val (.int p3), .val (.int (p2 &&& (255 : Int32))), .val (.long ((72340172838076673 : Int64) * ((p2 &&& (255 : Int32)).toInt64))), .second, .unset, .unset, .unset, .unset] [])) _
    refine XS.lloadN X0.here hx rfl (hb hby at_16) rfl ?_
    show Steps p.tables e below (s₁.setTop (mkF m 17 #[.val (.long q1), .second, .val (.int p2), .val (.int p3), .val (.int (p2 &&& (255 : Int32))), .val (.long ((72340172838076673 : Int64) * ((p2 &&& (255 : Int32)).toInt64))), .second, .unset, .unset, .unset, .unset] [(.long q1)])) _
    refine XS.lstore X0.here hx rfl (hb hby at_17) rfl (l' := #[.val (.long q1), .second, .val (.int p2), .val (.int p3), .val (.int (p2 &&& (255 : Int32))), .val (.long ((72340172838076673 : Int64) * ((p2 &&& (255 : Int32)).toInt64))), .second, .val (.long q1), .second, .unset, .unset]) rfl ?_
    show Steps p.tables e below (s₁.setTop (mkF m 19 #[.val (.long q1), .second, .val (.int p2), .val (.int p3), .val (.int (p2 &&& (255 : Int32))), .val (.long ((72340172838076673 : Int64) * ((p2 &&& (255 : Int32)).toInt64))), .second, .val (.long q1), .second, .unset, .unset] [])) _
    refine XS.lload X0.here hx rfl (hb hby at_19) rfl ?_
    show Steps p.tables e below (s₁.setTop (mkF m 21 #[.val (.long q1), .second, .val (.int p2), .val (.int p3), .val (.int (p2 &&& (255 : Int32))), .val (.long ((72340172838076673 : Int64) * ((p2 &&& (255 : Int32)).toInt64))), .second, .val (.long q1), .second, .unset, .unset] [(.long q1)])) _
    refine XS.iconst X0.here hx rfl (hb hby at_21) ?_
    show Steps p.tables e below (s₁.setTop (mkF m 22 #[.val (.long q1), .second, .val (.int p2), .val (.int p3), .val (.int (p2 &&& (255 : Int32))), .val (.long ((72340172838076673 : Int64) * ((p2 &&& (255 : Int32)).toInt64))), .second, .val (.long q1), .second, .unset, .unset] [(.int (0 : Int32)), (.long q1)])) _
    refine XS.iload X0.here hx rfl (hb hby at_22) rfl ?_
    show Steps p.tables e below (s₁.setTop (mkF m 24 #[.val (.long q1), .second, .val (.int p2), .val (.int p3), .val (.int (p2 &&& (255 : Int32))), .val (.long ((72340172838076673 : Int64) * ((p2 &&& (255 : Int32)).toInt64))), .second, .val (.long q1), .second, .unset, .unset] [(.int (p2 &&& (255 : Int32))), (.int (0 : Int32)), (.long q1)])) _
    refine XS.iloadN X0.here hx rfl (hb hby at_24) rfl ?_
    show Steps p.tables e below (s₁.setTop (mkF m 25 #[.val (.long q1), .second, .val (.int p2), .val (.int p3), .val (.int (p2 &&& (255 : Int32))), .val (.long ((72340172838076673 : Int64) * ((p2 &&& (255 : Int32)).toInt64))), .second, .val (.long q1), .second, .unset, .unset] [(.int p3), (.int (p2 &&& (255 : Int32))), (.int (0 : Int32)), (.long q1)])) _
    refine st1 _ ?_
    show Steps p.tables e below (T1.setTop (mkF m 28 #[.val (.long q1), .second, .val (.int p2), .val (.int p3), .val (.int (p2 &&& (255 : Int32))), .val (.long ((72340172838076673 : Int64) * ((p2 &&& (255 : Int32)).toInt64))), .second, .val (.long q1), .second, .unset, .unset] [(.long w1)])) _
    refine XS.lstore X1.here hx rfl (hb hby at_28) rfl (l' := #[.val (.long q1), .second, .val (.int p2), .val (.int p3), .val (.int (p2 &&& (255 : Int32))), .val (.long ((72340172838076673 : Int64) * ((p2 &&& (255 : Int32)).toInt64))), .second, .val (.long w1), .second, .unset, .unset]) rfl ?_
    show Steps p.tables e below (T1.setTop (mkF m 30 #[.val (.long q1), .second, .val (.int p2), .val (.int p3), .val (.int (p2 &&& (255 : Int32))), .val (.long ((72340172838076673 : Int64) * ((p2 &&& (255 : Int32)).toInt64))), .second, .val (.long w1), .second, .unset, .unset] [])) _
    refine XS.lload X1.here hx rfl (hb hby at_30) rfl ?_
    show Steps p.tables e below (T1.setTop (mkF m 32 #[.val (.long q1), .second, .val (.int p2), .val (.int p3), .val (.int (p2 &&& (255 : Int32))), .val (.long ((72340172838076673 : Int64) * ((p2 &&& (255 : Int32)).toInt64))), .second, .val (.long w1), .second, .unset, .unset] [(.long w1)])) _
    refine XS.iconst X1.here hx rfl (hb hby at_32) ?_
    show Steps p.tables e below (T1.setTop (mkF m 33 #[.val (.long q1), .second, .val (.int p2), .val (.int p3), .val (.int (p2 &&& (255 : Int32))), .val (.long ((72340172838076673 : Int64) * ((p2 &&& (255 : Int32)).toInt64))), .second, .val (.long w1), .second, .unset, .unset] [(.int (1 : Int32)), (.long w1)])) _
    refine XS.iload X1.here hx rfl (hb hby at_33) rfl ?_
    show Steps p.tables e below (T1.setTop (mkF m 35 #[.val (.long q1), .second, .val (.int p2), .val (.int p3), .val (.int (p2 &&& (255 : Int32))), .val (.long ((72340172838076673 : Int64) * ((p2 &&& (255 : Int32)).toInt64))), .second, .val (.long w1), .second, .unset, .unset] [(.int (p2 &&& (255 : Int32))), (.int (1 : Int32)), (.long w1)])) _
    refine XS.iloadN X1.here hx rfl (hb hby at_35) rfl ?_
    show Steps p.tables e below (T1.setTop (mkF m 36 #[.val (.long q1), .second, .val (.int p2), .val (.int p3), .val (.int (p2 &&& (255 : Int32))), .val (.long ((72340172838076673 : Int64) * ((p2 &&& (255 : Int32)).toInt64))), .second, .val (.long w1), .second, .unset, .unset] [(.int p3), (.int (p2 &&& (255 : Int32))), (.int (1 : Int32)), (.long w1)])) _
    refine st2 _ ?_
    show Steps p.tables e below (T2.setTop (mkF m 39 #[.val (.long q1), .second, .val (.int p2), .val (.int p3), .val (.int (p2 &&& (255 : Int32))), .val (.long ((72340172838076673 : Int64) * ((p2 &&& (255 : Int32)).toInt64))), .second, .val (.long w1), .second, .unset, .unset] [(.long w2)])) _
    refine XS.lstore X2.here hx rfl (hb hby at_39) rfl (l' := #[.val (.long q1), .second, .val (.int p2), .val (.int p3), .val (.int (p2 &&& (255 : Int32))), .val (.long ((72340172838076673 : Int64) * ((p2 &&& (255 : Int32)).toInt64))), .second, .val (.long w2), .second, .unset, .unset]) rfl ?_
    show Steps p.tables e below (T2.setTop (mkF m 41 #[.val (.long q1), .second, .val (.int p2), .val (.int p3), .val (.int (p2 &&& (255 : Int32))), .val (.long ((72340172838076673 : Int64) * ((p2 &&& (255 : Int32)).toInt64))), .second, .val (.long w2), .second, .unset, .unset] [])) _
    refine XS.lload X2.here hx rfl (hb hby at_41) rfl ?_
    show Steps p.tables e below (T2.setTop (mkF m 43 #[.val (.long q1), .second, .val (.int p2), .val (.int p3), .val (.int (p2 &&& (255 : Int32))), .val (.long ((72340172838076673 : Int64) * ((p2 &&& (255 : Int32)).toInt64))), .second, .val (.long w2), .second, .unset, .unset] [(.long w2)])) _
    refine XS.iconst X2.here hx rfl (hb hby at_43) ?_
    show Steps p.tables e below (T2.setTop (mkF m 44 #[.val (.long q1), .second, .val (.int p2), .val (.int p3), .val (.int (p2 &&& (255 : Int32))), .val (.long ((72340172838076673 : Int64) * ((p2 &&& (255 : Int32)).toInt64))), .second, .val (.long w2), .second, .unset, .unset] [(.int (2 : Int32)), (.long w2)])) _
    refine XS.iload X2.here hx rfl (hb hby at_44) rfl ?_
    show Steps p.tables e below (T2.setTop (mkF m 46 #[.val (.long q1), .second, .val (.int p2), .val (.int p3), .val (.int (p2 &&& (255 : Int32))), .val (.long ((72340172838076673 : Int64) * ((p2 &&& (255 : Int32)).toInt64))), .second, .val (.long w2), .second, .unset, .unset] [(.int (p2 &&& (255 : Int32))), (.int (2 : Int32)), (.long w2)])) _
    refine XS.iloadN X2.here hx rfl (hb hby at_46) rfl ?_
    show Steps p.tables e below (T2.setTop (mkF m 47 #[.val (.long q1), .second, .val (.int p2), .val (.int p3), .val (.int (p2 &&& (255 : Int32))), .val (.long ((72340172838076673 : Int64) * ((p2 &&& (255 : Int32)).toInt64))), .second, .val (.long w2), .second, .unset, .unset] [(.int p3), (.int (p2 &&& (255 : Int32))), (.int (2 : Int32)), (.long w2)])) _
    refine st3 _ ?_
    show Steps p.tables e below (T3.setTop (mkF m 50 #[.val (.long q1), .second, .val (.int p2), .val (.int p3), .val (.int (p2 &&& (255 : Int32))), .val (.long ((72340172838076673 : Int64) * ((p2 &&& (255 : Int32)).toInt64))), .second, .val (.long w2), .second, .unset, .unset] [(.long w3)])) _
    refine XS.lstore X3.here hx rfl (hb hby at_50) rfl (l' := #[.val (.long q1), .second, .val (.int p2), .val (.int p3), .val (.int (p2 &&& (255 : Int32))), .val (.long ((72340172838076673 : Int64) * ((p2 &&& (255 : Int32)).toInt64))), .second, .val (.long w3), .second, .unset, .unset]) rfl ?_
    show Steps p.tables e below (T3.setTop (mkF m 52 #[.val (.long q1), .second, .val (.int p2), .val (.int p3), .val (.int (p2 &&& (255 : Int32))), .val (.long ((72340172838076673 : Int64) * ((p2 &&& (255 : Int32)).toInt64))), .second, .val (.long w3), .second, .unset, .unset] [])) _
    refine XS.lload X3.here hx rfl (hb hby at_52) rfl ?_
    show Steps p.tables e below (T3.setTop (mkF m 54 #[.val (.long q1), .second, .val (.int p2), .val (.int p3), .val (.int (p2 &&& (255 : Int32))), .val (.long ((72340172838076673 : Int64) * ((p2 &&& (255 : Int32)).toInt64))), .second, .val (.long w3), .second, .unset, .unset] [(.long w3)])) _
    refine XS.iconst X3.here hx rfl (hb hby at_54) ?_
    show Steps p.tables e below (T3.setTop (mkF m 55 #[.val (.long q1), .second, .val (.int p2), .val (.int p3), .val (.int (p2 &&& (255 : Int32))), .val (.long ((72340172838076673 : Int64) * ((p2 &&& (255 : Int32)).toInt64))), .second, .val (.long w3), .second, .unset, .unset] [(.int (3 : Int32)), (.long w3)])) _
    refine XS.iload X3.here hx rfl (hb hby at_55) rfl ?_
    show Steps p.tables e below (T3.setTop (mkF m 57 #[.val (.long q1), .second, .val (.int p2), .val (.int p3), .val (.int (p2 &&& (255 : Int32))), .val (.long ((72340172838076673 : Int64) * ((p2 &&& (255 : Int32)).toInt64))), .second, .val (.long w3), .second, .unset, .unset] [(.int (p2 &&& (255 : Int32))), (.int (3 : Int32)), (.long w3)])) _
    refine XS.iloadN X3.here hx rfl (hb hby at_57) rfl ?_
    show Steps p.tables e below (T3.setTop (mkF m 58 #[.val (.long q1), .second, .val (.int p2), .val (.int p3), .val (.int (p2 &&& (255 : Int32))), .val (.long ((72340172838076673 : Int64) * ((p2 &&& (255 : Int32)).toInt64))), .second, .val (.long w3), .second, .unset, .unset] [(.int p3), (.int (p2 &&& (255 : Int32))), (.int (3 : Int32)), (.long w3)])) _
    refine st4 _ ?_
    show Steps p.tables e below (T4.setTop (mkF m 61 #[.val (.long q1), .second, .val (.int p2), .val (.int p3), .val (.int (p2 &&& (255 : Int32))), .val (.long ((72340172838076673 : Int64) * ((p2 &&& (255 : Int32)).toInt64))), .second, .val (.long w3), .second, .unset, .unset] [(.long w4)])) _
    refine XS.lstore X4.here hx rfl (hb hby at_61) rfl (l' := #[.val (.long q1), .second, .val (.int p2), .val (.int p3), .val (.int (p2 &&& (255 : Int32))), .val (.long ((72340172838076673 : Int64) * ((p2 &&& (255 : Int32)).toInt64))), .second, .val (.long w4), .second, .unset, .unset]) rfl ?_
    show Steps p.tables e below (T4.setTop (mkF m 63 #[.val (.long q1), .second, .val (.int p2), .val (.int p3), .val (.int (p2 &&& (255 : Int32))), .val (.long ((72340172838076673 : Int64) * ((p2 &&& (255 : Int32)).toInt64))), .second, .val (.long w4), .second, .unset, .unset] [])) _
    refine XS.lload X4.here hx rfl (hb hby at_63) rfl ?_
    show Steps p.tables e below (T4.setTop (mkF m 65 #[.val (.long q1), .second, .val (.int p2), .val (.int p3), .val (.int (p2 &&& (255 : Int32))), .val (.long ((72340172838076673 : Int64) * ((p2 &&& (255 : Int32)).toInt64))), .second, .val (.long w4), .second, .unset, .unset] [(.long w4)])) _
    refine XS.iconst X4.here hx rfl (hb hby at_65) ?_
    show Steps p.tables e below (T4.setTop (mkF m 66 #[.val (.long q1), .second, .val (.int p2), .val (.int p3), .val (.int (p2 &&& (255 : Int32))), .val (.long ((72340172838076673 : Int64) * ((p2 &&& (255 : Int32)).toInt64))), .second, .val (.long w4), .second, .unset, .unset] [(.int (4 : Int32)), (.long w4)])) _
    refine XS.iload X4.here hx rfl (hb hby at_66) rfl ?_
    show Steps p.tables e below (T4.setTop (mkF m 68 #[.val (.long q1), .second, .val (.int p2), .val (.int p3), .val (.int (p2 &&& (255 : Int32))), .val (.long ((72340172838076673 : Int64) * ((p2 &&& (255 : Int32)).toInt64))), .second, .val (.long w4), .second, .unset, .unset] [(.int (p2 &&& (255 : Int32))), (.int (4 : Int32)), (.long w4)])) _
    refine XS.iloadN X4.here hx rfl (hb hby at_68) rfl ?_
    show Steps p.tables e below (T4.setTop (mkF m 69 #[.val (.long q1), .second, .val (.int p2), .val (.int p3), .val (.int (p2 &&& (255 : Int32))), .val (.long ((72340172838076673 : Int64) * ((p2 &&& (255 : Int32)).toInt64))), .second, .val (.long w4), .second, .unset, .unset] [(.int p3), (.int (p2 &&& (255 : Int32))), (.int (4 : Int32)), (.long w4)])) _
    refine st5 _ ?_
    show Steps p.tables e below (T5.setTop (mkF m 72 #[.val (.long q1), .second, .val (.int p2), .val (.int p3), .val (.int (p2 &&& (255 : Int32))), .val (.long ((72340172838076673 : Int64) * ((p2 &&& (255 : Int32)).toInt64))), .second, .val (.long w4), .second, .unset, .unset] [(.long w5)])) _
    refine XS.lstore X5.here hx rfl (hb hby at_72) rfl (l' := #[.val (.long q1), .second, .val (.int p2), .val (.int p3), .val (.int (p2 &&& (255 : Int32))), .val (.long ((72340172838076673 : Int64) * ((p2 &&& (255 : Int32)).toInt64))), .second, .val (.long w5), .second, .unset, .unset]) rfl ?_
    show Steps p.tables e below (T5.setTop (mkF m 74 #[.val (.long q1), .second, .val (.int p2), .val (.int p3), .val (.int (p2 &&& (255 : Int32))), .val (.long ((72340172838076673 : Int64) * ((p2 &&& (255 : Int32)).toInt64))), .second, .val (.long w5), .second, .unset, .unset] [])) _
    refine XS.lload X5.here hx rfl (hb hby at_74) rfl ?_
    show Steps p.tables e below (T5.setTop (mkF m 76 #[.val (.long q1), .second, .val (.int p2), .val (.int p3), .val (.int (p2 &&& (255 : Int32))), .val (.long ((72340172838076673 : Int64) * ((p2 &&& (255 : Int32)).toInt64))), .second, .val (.long w5), .second, .unset, .unset] [(.long w5)])) _
    refine XS.iconst X5.here hx rfl (hb hby at_76) ?_
    show Steps p.tables e below (T5.setTop (mkF m 77 #[.val (.long q1), .second, .val (.int p2), .val (.int p3), .val (.int (p2 &&& (255 : Int32))), .val (.long ((72340172838076673 : Int64) * ((p2 &&& (255 : Int32)).toInt64))), .second, .val (.long w5), .second, .unset, .unset] [(.int (5 : Int32)), (.long w5)])) _
    refine XS.iload X5.here hx rfl (hb hby at_77) rfl ?_
    show Steps p.tables e below (T5.setTop (mkF m 79 #[.val (.long q1), .second, .val (.int p2), .val (.int p3), .val (.int (p2 &&& (255 : Int32))), .val (.long ((72340172838076673 : Int64) * ((p2 &&& (255 : Int32)).toInt64))), .second, .val (.long w5), .second, .unset, .unset] [(.int (p2 &&& (255 : Int32))), (.int (5 : Int32)), (.long w5)])) _
    refine XS.iloadN X5.here hx rfl (hb hby at_79) rfl ?_
    show Steps p.tables e below (T5.setTop (mkF m 80 #[.val (.long q1), .second, .val (.int p2), .val (.int p3), .val (.int (p2 &&& (255 : Int32))), .val (.long ((72340172838076673 : Int64) * ((p2 &&& (255 : Int32)).toInt64))), .second, .val (.long w5), .second, .unset, .unset] [(.int p3), (.int (p2 &&& (255 : Int32))), (.int (5 : Int32)), (.long w5)])) _
    refine st6 _ ?_
    show Steps p.tables e below (T6.setTop (mkF m 83 #[.val (.long q1), .second, .val (.int p2), .val (.int p3), .val (.int (p2 &&& (255 : Int32))), .val (.long ((72340172838076673 : Int64) * ((p2 &&& (255 : Int32)).toInt64))), .second, .val (.long w5), .second, .unset, .unset] [(.long w6)])) _
    refine XS.lstore X6.here hx rfl (hb hby at_83) rfl (l' := #[.val (.long q1), .second, .val (.int p2), .val (.int p3), .val (.int (p2 &&& (255 : Int32))), .val (.long ((72340172838076673 : Int64) * ((p2 &&& (255 : Int32)).toInt64))), .second, .val (.long w6), .second, .unset, .unset]) rfl ?_
    show Steps p.tables e below (T6.setTop (mkF m 85 #[.val (.long q1), .second, .val (.int p2), .val (.int p3), .val (.int (p2 &&& (255 : Int32))), .val (.long ((72340172838076673 : Int64) * ((p2 &&& (255 : Int32)).toInt64))), .second, .val (.long w6), .second, .unset, .unset] [])) _
    refine XS.lload X6.here hx rfl (hb hby at_85) rfl ?_
    show Steps p.tables e below (T6.setTop (mkF m 87 #[.val (.long q1), .second, .val (.int p2), .val (.int p3), .val (.int (p2 &&& (255 : Int32))), .val (.long ((72340172838076673 : Int64) * ((p2 &&& (255 : Int32)).toInt64))), .second, .val (.long w6), .second, .unset, .unset] [(.long w6)])) _
    refine XS.bipush X6.here hx rfl (hb hby at_87) ?_
    show Steps p.tables e below (T6.setTop (mkF m 89 #[.val (.long q1), .second, .val (.int p2), .val (.int p3), .val (.int (p2 &&& (255 : Int32))), .val (.long ((72340172838076673 : Int64) * ((p2 &&& (255 : Int32)).toInt64))), .second, .val (.long w6), .second, .unset, .unset] [(.int (6 : Int32)), (.long w6)])) _
    refine XS.iload X6.here hx rfl (hb hby at_89) rfl ?_
    show Steps p.tables e below (T6.setTop (mkF m 91 #[.val (.long q1), .second, .val (.int p2), .val (.int p3), .val (.int (p2 &&& (255 : Int32))), .val (.long ((72340172838076673 : Int64) * ((p2 &&& (255 : Int32)).toInt64))), .second, .val (.long w6), .second, .unset, .unset] [(.int (p2 &&& (255 : Int32))), (.int (6 : Int32)), (.long w6)])) _
    refine XS.iloadN X6.here hx rfl (hb hby at_91) rfl ?_
    show Steps p.tables e below (T6.setTop (mkF m 92 #[.val (.long q1), .second, .val (.int p2), .val (.int p3), .val (.int (p2 &&& (255 : Int32))), .val (.long ((72340172838076673 : Int64) * ((p2 &&& (255 : Int32)).toInt64))), .second, .val (.long w6), .second, .unset, .unset] [(.int p3), (.int (p2 &&& (255 : Int32))), (.int (6 : Int32)), (.long w6)])) _
    refine st7 _ ?_
    show Steps p.tables e below (T7.setTop (mkF m 95 #[.val (.long q1), .second, .val (.int p2), .val (.int p3), .val (.int (p2 &&& (255 : Int32))), .val (.long ((72340172838076673 : Int64) * ((p2 &&& (255 : Int32)).toInt64))), .second, .val (.long w6), .second, .unset, .unset] [(.long w7)])) _
    refine XS.lstore X7.here hx rfl (hb hby at_95) rfl (l' := #[.val (.long q1), .second, .val (.int p2), .val (.int p3), .val (.int (p2 &&& (255 : Int32))), .val (.long ((72340172838076673 : Int64) * ((p2 &&& (255 : Int32)).toInt64))), .second, .val (.long w7), .second, .unset, .unset]) rfl ?_
    show Steps p.tables e below (T7.setTop (mkF m 97 #[.val (.long q1), .second, .val (.int p2), .val (.int p3), .val (.int (p2 &&& (255 : Int32))), .val (.long ((72340172838076673 : Int64) * ((p2 &&& (255 : Int32)).toInt64))), .second, .val (.long w7), .second, .unset, .unset] [])) _
    refine XS.lload X7.here hx rfl (hb hby at_97) rfl ?_
    show Steps p.tables e below (T7.setTop (mkF m 99 #[.val (.long q1), .second, .val (.int p2), .val (.int p3), .val (.int (p2 &&& (255 : Int32))), .val (.long ((72340172838076673 : Int64) * ((p2 &&& (255 : Int32)).toInt64))), .second, .val (.long w7), .second, .unset, .unset] [(.long w7)])) _
    refine XS.bipush X7.here hx rfl (hb hby at_99) ?_
    show Steps p.tables e below (T7.setTop (mkF m 101 #[.val (.long q1), .second, .val (.int p2), .val (.int p3), .val (.int (p2 &&& (255 : Int32))), .val (.long ((72340172838076673 : Int64) * ((p2 &&& (255 : Int32)).toInt64))), .second, .val (.long w7), .second, .unset, .unset] [(.int (7 : Int32)), (.long w7)])) _
    refine XS.iload X7.here hx rfl (hb hby at_101) rfl ?_
    show Steps p.tables e below (T7.setTop (mkF m 103 #[.val (.long q1), .second, .val (.int p2), .val (.int p3), .val (.int (p2 &&& (255 : Int32))), .val (.long ((72340172838076673 : Int64) * ((p2 &&& (255 : Int32)).toInt64))), .second, .val (.long w7), .second, .unset, .unset] [(.int (p2 &&& (255 : Int32))), (.int (7 : Int32)), (.long w7)])) _
    refine XS.iloadN X7.here hx rfl (hb hby at_103) rfl ?_
    show Steps p.tables e below (T7.setTop (mkF m 104 #[.val (.long q1), .second, .val (.int p2), .val (.int p3), .val (.int (p2 &&& (255 : Int32))), .val (.long ((72340172838076673 : Int64) * ((p2 &&& (255 : Int32)).toInt64))), .second, .val (.long w7), .second, .unset, .unset] [(.int p3), (.int (p2 &&& (255 : Int32))), (.int (7 : Int32)), (.long w7)])) _
    refine st8 _ ?_
    show Steps p.tables e below (T8.setTop (mkF m 107 #[.val (.long q1), .second, .val (.int p2), .val (.int p3), .val (.int (p2 &&& (255 : Int32))), .val (.long ((72340172838076673 : Int64) * ((p2 &&& (255 : Int32)).toInt64))), .second, .val (.long w7), .second, .unset, .unset] [(.long w8)])) _
    refine XS.lstore X8.here hx rfl (hb hby at_107) rfl (l' := #[.val (.long q1), .second, .val (.int p2), .val (.int p3), .val (.int (p2 &&& (255 : Int32))), .val (.long ((72340172838076673 : Int64) * ((p2 &&& (255 : Int32)).toInt64))), .second, .val (.long w8), .second, .unset, .unset]) rfl ?_
    show Steps p.tables e below (T8.setTop (mkF m 109 #[.val (.long q1), .second, .val (.int p2), .val (.int p3), .val (.int (p2 &&& (255 : Int32))), .val (.long ((72340172838076673 : Int64) * ((p2 &&& (255 : Int32)).toInt64))), .second, .val (.long w8), .second, .unset, .unset] [])) _
    refine XS.lload X8.here hx rfl (hb hby at_109) rfl ?_
    show Steps p.tables e below (T8.setTop (mkF m 111 #[.val (.long q1), .second, .val (.int p2), .val (.int p3), .val (.int (p2 &&& (255 : Int32))), .val (.long ((72340172838076673 : Int64) * ((p2 &&& (255 : Int32)).toInt64))), .second, .val (.long w8), .second, .unset, .unset] [(.long w8)])) _
    refine XS.iload X8.here hx rfl (hb hby at_111) rfl ?_
    show Steps p.tables e below (T8.setTop (mkF m 113 #[.val (.long q1), .second, .val (.int p2), .val (.int p3), .val (.int (p2 &&& (255 : Int32))), .val (.long ((72340172838076673 : Int64) * ((p2 &&& (255 : Int32)).toInt64))), .second, .val (.long w8), .second, .unset, .unset] [(.int (p2 &&& (255 : Int32))), (.long w8)])) _
    refine XS.iconst X8.here hx rfl (hb hby at_113) ?_
    show Steps p.tables e below (T8.setTop (mkF m 114 #[.val (.long q1), .second, .val (.int p2), .val (.int p3), .val (.int (p2 &&& (255 : Int32))), .val (.long ((72340172838076673 : Int64) * ((p2 &&& (255 : Int32)).toInt64))), .second, .val (.long w8), .second, .unset, .unset] [(.int (0 : Int32)), (.int (p2 &&& (255 : Int32))), (.long w8)])) _
    refine st9 _ ?_
    show Steps p.tables e below (T9.setTop (mkF m 117 #[.val (.long q1), .second, .val (.int p2), .val (.int p3), .val (.int (p2 &&& (255 : Int32))), .val (.long ((72340172838076673 : Int64) * ((p2 &&& (255 : Int32)).toInt64))), .second, .val (.long w8), .second, .unset, .unset] [(.long (own_bit w8 (p2 &&& (255 : Int32)) (0 : Int32)))])) _
    refine XS.lload X9.here hx rfl (hb hby at_117) rfl ?_
    show Steps p.tables e below (T9.setTop (mkF m 119 #[.val (.long q1), .second, .val (.int p2), .val (.int p3), .val (.int (p2 &&& (255 : Int32))), .val (.long ((72340172838076673 : Int64) * ((p2 &&& (255 : Int32)).toInt64))), .second, .val (.long w8), .second, .unset, .unset] [(.long w8), (.long (own_bit w8 (p2 &&& (255 : Int32)) (0 : Int32)))])) _
    refine XS.iload X9.here hx rfl (hb hby at_119) rfl ?_
    show Steps p.tables e below (T9.setTop (mkF m 121 #[.val (.long q1), .second, .val (.int p2), .val (.int p3), .val (.int (p2 &&& (255 : Int32))), .val (.long ((72340172838076673 : Int64) * ((p2 &&& (255 : Int32)).toInt64))), .second, .val (.long w8), .second, .unset, .unset] [(.int (p2 &&& (255 : Int32))), (.long w8), (.long (own_bit w8 (p2 &&& (255 : Int32)) (0 : Int32)))])) _
    refine XS.iconst X9.here hx rfl (hb hby at_121) ?_
    show Steps p.tables e below (T9.setTop (mkF m 122 #[.val (.long q1), .second, .val (.int p2), .val (.int p3), .val (.int (p2 &&& (255 : Int32))), .val (.long ((72340172838076673 : Int64) * ((p2 &&& (255 : Int32)).toInt64))), .second, .val (.long w8), .second, .unset, .unset] [(.int (1 : Int32)), (.int (p2 &&& (255 : Int32))), (.long w8), (.long (own_bit w8 (p2 &&& (255 : Int32)) (0 : Int32)))])) _
    refine st10 _ ?_
    show Steps p.tables e below (T10.setTop (mkF m 125 #[.val (.long q1), .second, .val (.int p2), .val (.int p3), .val (.int (p2 &&& (255 : Int32))), .val (.long ((72340172838076673 : Int64) * ((p2 &&& (255 : Int32)).toInt64))), .second, .val (.long w8), .second, .unset, .unset] [(.long (own_bit w8 (p2 &&& (255 : Int32)) (1 : Int32))), (.long (own_bit w8 (p2 &&& (255 : Int32)) (0 : Int32)))])) _
    refine XS.lor X10.here hx rfl (hb hby at_125) rfl ?_
    show Steps p.tables e below (T10.setTop (mkF m 126 #[.val (.long q1), .second, .val (.int p2), .val (.int p3), .val (.int (p2 &&& (255 : Int32))), .val (.long ((72340172838076673 : Int64) * ((p2 &&& (255 : Int32)).toInt64))), .second, .val (.long w8), .second, .unset, .unset] [(.long ((own_bit w8 (p2 &&& (255 : Int32)) (0 : Int32)) ||| (own_bit w8 (p2 &&& (255 : Int32)) (1 : Int32))))])) _
    refine XS.lload X10.here hx rfl (hb hby at_126) rfl ?_
    show Steps p.tables e below (T10.setTop (mkF m 128 #[.val (.long q1), .second, .val (.int p2), .val (.int p3), .val (.int (p2 &&& (255 : Int32))), .val (.long ((72340172838076673 : Int64) * ((p2 &&& (255 : Int32)).toInt64))), .second, .val (.long w8), .second, .unset, .unset] [(.long w8), (.long ((own_bit w8 (p2 &&& (255 : Int32)) (0 : Int32)) ||| (own_bit w8 (p2 &&& (255 : Int32)) (1 : Int32))))])) _
    refine XS.iload X10.here hx rfl (hb hby at_128) rfl ?_
    show Steps p.tables e below (T10.setTop (mkF m 130 #[.val (.long q1), .second, .val (.int p2), .val (.int p3), .val (.int (p2 &&& (255 : Int32))), .val (.long ((72340172838076673 : Int64) * ((p2 &&& (255 : Int32)).toInt64))), .second, .val (.long w8), .second, .unset, .unset] [(.int (p2 &&& (255 : Int32))), (.long w8), (.long ((own_bit w8 (p2 &&& (255 : Int32)) (0 : Int32)) ||| (own_bit w8 (p2 &&& (255 : Int32)) (1 : Int32))))])) _
    refine XS.iconst X10.here hx rfl (hb hby at_130) ?_
    show Steps p.tables e below (T10.setTop (mkF m 131 #[.val (.long q1), .second, .val (.int p2), .val (.int p3), .val (.int (p2 &&& (255 : Int32))), .val (.long ((72340172838076673 : Int64) * ((p2 &&& (255 : Int32)).toInt64))), .second, .val (.long w8), .second, .unset, .unset] [(.int (2 : Int32)), (.int (p2 &&& (255 : Int32))), (.long w8), (.long ((own_bit w8 (p2 &&& (255 : Int32)) (0 : Int32)) ||| (own_bit w8 (p2 &&& (255 : Int32)) (1 : Int32))))])) _
    refine st11 _ ?_
    show Steps p.tables e below (T11.setTop (mkF m 134 #[.val (.long q1), .second, .val (.int p2), .val (.int p3), .val (.int (p2 &&& (255 : Int32))), .val (.long ((72340172838076673 : Int64) * ((p2 &&& (255 : Int32)).toInt64))), .second, .val (.long w8), .second, .unset, .unset] [(.long (own_bit w8 (p2 &&& (255 : Int32)) (2 : Int32))), (.long ((own_bit w8 (p2 &&& (255 : Int32)) (0 : Int32)) ||| (own_bit w8 (p2 &&& (255 : Int32)) (1 : Int32))))])) _
    refine XS.lor X11.here hx rfl (hb hby at_134) rfl ?_
    show Steps p.tables e below (T11.setTop (mkF m 135 #[.val (.long q1), .second, .val (.int p2), .val (.int p3), .val (.int (p2 &&& (255 : Int32))), .val (.long ((72340172838076673 : Int64) * ((p2 &&& (255 : Int32)).toInt64))), .second, .val (.long w8), .second, .unset, .unset] [(.long (((own_bit w8 (p2 &&& (255 : Int32)) (0 : Int32)) ||| (own_bit w8 (p2 &&& (255 : Int32)) (1 : Int32))) ||| (own_bit w8 (p2 &&& (255 : Int32)) (2 : Int32))))])) _
    refine XS.lload X11.here hx rfl (hb hby at_135) rfl ?_
    show Steps p.tables e below (T11.setTop (mkF m 137 #[.val (.long q1), .second, .val (.int p2), .val (.int p3), .val (.int (p2 &&& (255 : Int32))), .val (.long ((72340172838076673 : Int64) * ((p2 &&& (255 : Int32)).toInt64))), .second, .val (.long w8), .second, .unset, .unset] [(.long w8), (.long (((own_bit w8 (p2 &&& (255 : Int32)) (0 : Int32)) ||| (own_bit w8 (p2 &&& (255 : Int32)) (1 : Int32))) ||| (own_bit w8 (p2 &&& (255 : Int32)) (2 : Int32))))])) _
    refine XS.iload X11.here hx rfl (hb hby at_137) rfl ?_
    show Steps p.tables e below (T11.setTop (mkF m 139 #[.val (.long q1), .second, .val (.int p2), .val (.int p3), .val (.int (p2 &&& (255 : Int32))), .val (.long ((72340172838076673 : Int64) * ((p2 &&& (255 : Int32)).toInt64))), .second, .val (.long w8), .second, .unset, .unset] [(.int (p2 &&& (255 : Int32))), (.long w8), (.long (((own_bit w8 (p2 &&& (255 : Int32)) (0 : Int32)) ||| (own_bit w8 (p2 &&& (255 : Int32)) (1 : Int32))) ||| (own_bit w8 (p2 &&& (255 : Int32)) (2 : Int32))))])) _
    refine XS.iconst X11.here hx rfl (hb hby at_139) ?_
    show Steps p.tables e below (T11.setTop (mkF m 140 #[.val (.long q1), .second, .val (.int p2), .val (.int p3), .val (.int (p2 &&& (255 : Int32))), .val (.long ((72340172838076673 : Int64) * ((p2 &&& (255 : Int32)).toInt64))), .second, .val (.long w8), .second, .unset, .unset] [(.int (3 : Int32)), (.int (p2 &&& (255 : Int32))), (.long w8), (.long (((own_bit w8 (p2 &&& (255 : Int32)) (0 : Int32)) ||| (own_bit w8 (p2 &&& (255 : Int32)) (1 : Int32))) ||| (own_bit w8 (p2 &&& (255 : Int32)) (2 : Int32))))])) _
    refine st12 _ ?_
    show Steps p.tables e below (T12.setTop (mkF m 143 #[.val (.long q1), .second, .val (.int p2), .val (.int p3), .val (.int (p2 &&& (255 : Int32))), .val (.long ((72340172838076673 : Int64) * ((p2 &&& (255 : Int32)).toInt64))), .second, .val (.long w8), .second, .unset, .unset] [(.long (own_bit w8 (p2 &&& (255 : Int32)) (3 : Int32))), (.long (((own_bit w8 (p2 &&& (255 : Int32)) (0 : Int32)) ||| (own_bit w8 (p2 &&& (255 : Int32)) (1 : Int32))) ||| (own_bit w8 (p2 &&& (255 : Int32)) (2 : Int32))))])) _
    refine XS.lor X12.here hx rfl (hb hby at_143) rfl ?_
    show Steps p.tables e below (T12.setTop (mkF m 144 #[.val (.long q1), .second, .val (.int p2), .val (.int p3), .val (.int (p2 &&& (255 : Int32))), .val (.long ((72340172838076673 : Int64) * ((p2 &&& (255 : Int32)).toInt64))), .second, .val (.long w8), .second, .unset, .unset] [(.long ((((own_bit w8 (p2 &&& (255 : Int32)) (0 : Int32)) ||| (own_bit w8 (p2 &&& (255 : Int32)) (1 : Int32))) ||| (own_bit w8 (p2 &&& (255 : Int32)) (2 : Int32))) ||| (own_bit w8 (p2 &&& (255 : Int32)) (3 : Int32))))])) _
    refine XS.lload X12.here hx rfl (hb hby at_144) rfl ?_
    show Steps p.tables e below (T12.setTop (mkF m 146 #[.val (.long q1), .second, .val (.int p2), .val (.int p3), .val (.int (p2 &&& (255 : Int32))), .val (.long ((72340172838076673 : Int64) * ((p2 &&& (255 : Int32)).toInt64))), .second, .val (.long w8), .second, .unset, .unset] [(.long w8), (.long ((((own_bit w8 (p2 &&& (255 : Int32)) (0 : Int32)) ||| (own_bit w8 (p2 &&& (255 : Int32)) (1 : Int32))) ||| (own_bit w8 (p2 &&& (255 : Int32)) (2 : Int32))) ||| (own_bit w8 (p2 &&& (255 : Int32)) (3 : Int32))))])) _
    refine XS.iload X12.here hx rfl (hb hby at_146) rfl ?_
    show Steps p.tables e below (T12.setTop (mkF m 148 #[.val (.long q1), .second, .val (.int p2), .val (.int p3), .val (.int (p2 &&& (255 : Int32))), .val (.long ((72340172838076673 : Int64) * ((p2 &&& (255 : Int32)).toInt64))), .second, .val (.long w8), .second, .unset, .unset] [(.int (p2 &&& (255 : Int32))), (.long w8), (.long ((((own_bit w8 (p2 &&& (255 : Int32)) (0 : Int32)) ||| (own_bit w8 (p2 &&& (255 : Int32)) (1 : Int32))) ||| (own_bit w8 (p2 &&& (255 : Int32)) (2 : Int32))) ||| (own_bit w8 (p2 &&& (255 : Int32)) (3 : Int32))))])) _
    refine XS.iconst X12.here hx rfl (hb hby at_148) ?_
    show Steps p.tables e below (T12.setTop (mkF m 149 #[.val (.long q1), .second, .val (.int p2), .val (.int p3), .val (.int (p2 &&& (255 : Int32))), .val (.long ((72340172838076673 : Int64) * ((p2 &&& (255 : Int32)).toInt64))), .second, .val (.long w8), .second, .unset, .unset] [(.int (4 : Int32)), (.int (p2 &&& (255 : Int32))), (.long w8), (.long ((((own_bit w8 (p2 &&& (255 : Int32)) (0 : Int32)) ||| (own_bit w8 (p2 &&& (255 : Int32)) (1 : Int32))) ||| (own_bit w8 (p2 &&& (255 : Int32)) (2 : Int32))) ||| (own_bit w8 (p2 &&& (255 : Int32)) (3 : Int32))))])) _
    refine st13 _ ?_
    show Steps p.tables e below (T13.setTop (mkF m 152 #[.val (.long q1), .second, .val (.int p2), .val (.int p3), .val (.int (p2 &&& (255 : Int32))), .val (.long ((72340172838076673 : Int64) * ((p2 &&& (255 : Int32)).toInt64))), .second, .val (.long w8), .second, .unset, .unset] [(.long (own_bit w8 (p2 &&& (255 : Int32)) (4 : Int32))), (.long ((((own_bit w8 (p2 &&& (255 : Int32)) (0 : Int32)) ||| (own_bit w8 (p2 &&& (255 : Int32)) (1 : Int32))) ||| (own_bit w8 (p2 &&& (255 : Int32)) (2 : Int32))) ||| (own_bit w8 (p2 &&& (255 : Int32)) (3 : Int32))))])) _
    refine XS.lor X13.here hx rfl (hb hby at_152) rfl ?_
    show Steps p.tables e below (T13.setTop (mkF m 153 #[.val (.long q1), .second, .val (.int p2), .val (.int p3), .val (.int (p2 &&& (255 : Int32))), .val (.long ((72340172838076673 : Int64) * ((p2 &&& (255 : Int32)).toInt64))), .second, .val (.long w8), .second, .unset, .unset] [(.long (((((own_bit w8 (p2 &&& (255 : Int32)) (0 : Int32)) ||| (own_bit w8 (p2 &&& (255 : Int32)) (1 : Int32))) ||| (own_bit w8 (p2 &&& (255 : Int32)) (2 : Int32))) ||| (own_bit w8 (p2 &&& (255 : Int32)) (3 : Int32))) ||| (own_bit w8 (p2 &&& (255 : Int32)) (4 : Int32))))])) _
    refine XS.lload X13.here hx rfl (hb hby at_153) rfl ?_
    show Steps p.tables e below (T13.setTop (mkF m 155 #[.val (.long q1), .second, .val (.int p2), .val (.int p3), .val (.int (p2 &&& (255 : Int32))), .val (.long ((72340172838076673 : Int64) * ((p2 &&& (255 : Int32)).toInt64))), .second, .val (.long w8), .second, .unset, .unset] [(.long w8), (.long (((((own_bit w8 (p2 &&& (255 : Int32)) (0 : Int32)) ||| (own_bit w8 (p2 &&& (255 : Int32)) (1 : Int32))) ||| (own_bit w8 (p2 &&& (255 : Int32)) (2 : Int32))) ||| (own_bit w8 (p2 &&& (255 : Int32)) (3 : Int32))) ||| (own_bit w8 (p2 &&& (255 : Int32)) (4 : Int32))))])) _
    refine XS.iload X13.here hx rfl (hb hby at_155) rfl ?_
    show Steps p.tables e below (T13.setTop (mkF m 157 #[.val (.long q1), .second, .val (.int p2), .val (.int p3), .val (.int (p2 &&& (255 : Int32))), .val (.long ((72340172838076673 : Int64) * ((p2 &&& (255 : Int32)).toInt64))), .second, .val (.long w8), .second, .unset, .unset] [(.int (p2 &&& (255 : Int32))), (.long w8), (.long (((((own_bit w8 (p2 &&& (255 : Int32)) (0 : Int32)) ||| (own_bit w8 (p2 &&& (255 : Int32)) (1 : Int32))) ||| (own_bit w8 (p2 &&& (255 : Int32)) (2 : Int32))) ||| (own_bit w8 (p2 &&& (255 : Int32)) (3 : Int32))) ||| (own_bit w8 (p2 &&& (255 : Int32)) (4 : Int32))))])) _
    refine XS.iconst X13.here hx rfl (hb hby at_157) ?_
    show Steps p.tables e below (T13.setTop (mkF m 158 #[.val (.long q1), .second, .val (.int p2), .val (.int p3), .val (.int (p2 &&& (255 : Int32))), .val (.long ((72340172838076673 : Int64) * ((p2 &&& (255 : Int32)).toInt64))), .second, .val (.long w8), .second, .unset, .unset] [(.int (5 : Int32)), (.int (p2 &&& (255 : Int32))), (.long w8), (.long (((((own_bit w8 (p2 &&& (255 : Int32)) (0 : Int32)) ||| (own_bit w8 (p2 &&& (255 : Int32)) (1 : Int32))) ||| (own_bit w8 (p2 &&& (255 : Int32)) (2 : Int32))) ||| (own_bit w8 (p2 &&& (255 : Int32)) (3 : Int32))) ||| (own_bit w8 (p2 &&& (255 : Int32)) (4 : Int32))))])) _
    refine st14 _ ?_
    show Steps p.tables e below (T14.setTop (mkF m 161 #[.val (.long q1), .second, .val (.int p2), .val (.int p3), .val (.int (p2 &&& (255 : Int32))), .val (.long ((72340172838076673 : Int64) * ((p2 &&& (255 : Int32)).toInt64))), .second, .val (.long w8), .second, .unset, .unset] [(.long (own_bit w8 (p2 &&& (255 : Int32)) (5 : Int32))), (.long (((((own_bit w8 (p2 &&& (255 : Int32)) (0 : Int32)) ||| (own_bit w8 (p2 &&& (255 : Int32)) (1 : Int32))) ||| (own_bit w8 (p2 &&& (255 : Int32)) (2 : Int32))) ||| (own_bit w8 (p2 &&& (255 : Int32)) (3 : Int32))) ||| (own_bit w8 (p2 &&& (255 : Int32)) (4 : Int32))))])) _
    refine XS.lor X14.here hx rfl (hb hby at_161) rfl ?_
    show Steps p.tables e below (T14.setTop (mkF m 162 #[.val (.long q1), .second, .val (.int p2), .val (.int p3), .val (.int (p2 &&& (255 : Int32))), .val (.long ((72340172838076673 : Int64) * ((p2 &&& (255 : Int32)).toInt64))), .second, .val (.long w8), .second, .unset, .unset] [(.long ((((((own_bit w8 (p2 &&& (255 : Int32)) (0 : Int32)) ||| (own_bit w8 (p2 &&& (255 : Int32)) (1 : Int32))) ||| (own_bit w8 (p2 &&& (255 : Int32)) (2 : Int32))) ||| (own_bit w8 (p2 &&& (255 : Int32)) (3 : Int32))) ||| (own_bit w8 (p2 &&& (255 : Int32)) (4 : Int32))) ||| (own_bit w8 (p2 &&& (255 : Int32)) (5 : Int32))))])) _
    refine XS.lload X14.here hx rfl (hb hby at_162) rfl ?_
    show Steps p.tables e below (T14.setTop (mkF m 164 #[.val (.long q1), .second, .val (.int p2), .val (.int p3), .val (.int (p2 &&& (255 : Int32))), .val (.long ((72340172838076673 : Int64) * ((p2 &&& (255 : Int32)).toInt64))), .second, .val (.long w8), .second, .unset, .unset] [(.long w8), (.long ((((((own_bit w8 (p2 &&& (255 : Int32)) (0 : Int32)) ||| (own_bit w8 (p2 &&& (255 : Int32)) (1 : Int32))) ||| (own_bit w8 (p2 &&& (255 : Int32)) (2 : Int32))) ||| (own_bit w8 (p2 &&& (255 : Int32)) (3 : Int32))) ||| (own_bit w8 (p2 &&& (255 : Int32)) (4 : Int32))) ||| (own_bit w8 (p2 &&& (255 : Int32)) (5 : Int32))))])) _
    refine XS.iload X14.here hx rfl (hb hby at_164) rfl ?_
    show Steps p.tables e below (T14.setTop (mkF m 166 #[.val (.long q1), .second, .val (.int p2), .val (.int p3), .val (.int (p2 &&& (255 : Int32))), .val (.long ((72340172838076673 : Int64) * ((p2 &&& (255 : Int32)).toInt64))), .second, .val (.long w8), .second, .unset, .unset] [(.int (p2 &&& (255 : Int32))), (.long w8), (.long ((((((own_bit w8 (p2 &&& (255 : Int32)) (0 : Int32)) ||| (own_bit w8 (p2 &&& (255 : Int32)) (1 : Int32))) ||| (own_bit w8 (p2 &&& (255 : Int32)) (2 : Int32))) ||| (own_bit w8 (p2 &&& (255 : Int32)) (3 : Int32))) ||| (own_bit w8 (p2 &&& (255 : Int32)) (4 : Int32))) ||| (own_bit w8 (p2 &&& (255 : Int32)) (5 : Int32))))])) _
    refine XS.bipush X14.here hx rfl (hb hby at_166) ?_
    show Steps p.tables e below (T14.setTop (mkF m 168 #[.val (.long q1), .second, .val (.int p2), .val (.int p3), .val (.int (p2 &&& (255 : Int32))), .val (.long ((72340172838076673 : Int64) * ((p2 &&& (255 : Int32)).toInt64))), .second, .val (.long w8), .second, .unset, .unset] [(.int (6 : Int32)), (.int (p2 &&& (255 : Int32))), (.long w8), (.long ((((((own_bit w8 (p2 &&& (255 : Int32)) (0 : Int32)) ||| (own_bit w8 (p2 &&& (255 : Int32)) (1 : Int32))) ||| (own_bit w8 (p2 &&& (255 : Int32)) (2 : Int32))) ||| (own_bit w8 (p2 &&& (255 : Int32)) (3 : Int32))) ||| (own_bit w8 (p2 &&& (255 : Int32)) (4 : Int32))) ||| (own_bit w8 (p2 &&& (255 : Int32)) (5 : Int32))))])) _
    refine st15 _ ?_
    show Steps p.tables e below (T15.setTop (mkF m 171 #[.val (.long q1), .second, .val (.int p2), .val (.int p3), .val (.int (p2 &&& (255 : Int32))), .val (.long ((72340172838076673 : Int64) * ((p2 &&& (255 : Int32)).toInt64))), .second, .val (.long w8), .second, .unset, .unset] [(.long (own_bit w8 (p2 &&& (255 : Int32)) (6 : Int32))), (.long ((((((own_bit w8 (p2 &&& (255 : Int32)) (0 : Int32)) ||| (own_bit w8 (p2 &&& (255 : Int32)) (1 : Int32))) ||| (own_bit w8 (p2 &&& (255 : Int32)) (2 : Int32))) ||| (own_bit w8 (p2 &&& (255 : Int32)) (3 : Int32))) ||| (own_bit w8 (p2 &&& (255 : Int32)) (4 : Int32))) ||| (own_bit w8 (p2 &&& (255 : Int32)) (5 : Int32))))])) _
    refine XS.lor X15.here hx rfl (hb hby at_171) rfl ?_
    show Steps p.tables e below (T15.setTop (mkF m 172 #[.val (.long q1), .second, .val (.int p2), .val (.int p3), .val (.int (p2 &&& (255 : Int32))), .val (.long ((72340172838076673 : Int64) * ((p2 &&& (255 : Int32)).toInt64))), .second, .val (.long w8), .second, .unset, .unset] [(.long (((((((own_bit w8 (p2 &&& (255 : Int32)) (0 : Int32)) ||| (own_bit w8 (p2 &&& (255 : Int32)) (1 : Int32))) ||| (own_bit w8 (p2 &&& (255 : Int32)) (2 : Int32))) ||| (own_bit w8 (p2 &&& (255 : Int32)) (3 : Int32))) ||| (own_bit w8 (p2 &&& (255 : Int32)) (4 : Int32))) ||| (own_bit w8 (p2 &&& (255 : Int32)) (5 : Int32))) ||| (own_bit w8 (p2 &&& (255 : Int32)) (6 : Int32))))])) _
    refine XS.lload X15.here hx rfl (hb hby at_172) rfl ?_
    show Steps p.tables e below (T15.setTop (mkF m 174 #[.val (.long q1), .second, .val (.int p2), .val (.int p3), .val (.int (p2 &&& (255 : Int32))), .val (.long ((72340172838076673 : Int64) * ((p2 &&& (255 : Int32)).toInt64))), .second, .val (.long w8), .second, .unset, .unset] [(.long w8), (.long (((((((own_bit w8 (p2 &&& (255 : Int32)) (0 : Int32)) ||| (own_bit w8 (p2 &&& (255 : Int32)) (1 : Int32))) ||| (own_bit w8 (p2 &&& (255 : Int32)) (2 : Int32))) ||| (own_bit w8 (p2 &&& (255 : Int32)) (3 : Int32))) ||| (own_bit w8 (p2 &&& (255 : Int32)) (4 : Int32))) ||| (own_bit w8 (p2 &&& (255 : Int32)) (5 : Int32))) ||| (own_bit w8 (p2 &&& (255 : Int32)) (6 : Int32))))])) _
    refine XS.iload X15.here hx rfl (hb hby at_174) rfl ?_
    show Steps p.tables e below (T15.setTop (mkF m 176 #[.val (.long q1), .second, .val (.int p2), .val (.int p3), .val (.int (p2 &&& (255 : Int32))), .val (.long ((72340172838076673 : Int64) * ((p2 &&& (255 : Int32)).toInt64))), .second, .val (.long w8), .second, .unset, .unset] [(.int (p2 &&& (255 : Int32))), (.long w8), (.long (((((((own_bit w8 (p2 &&& (255 : Int32)) (0 : Int32)) ||| (own_bit w8 (p2 &&& (255 : Int32)) (1 : Int32))) ||| (own_bit w8 (p2 &&& (255 : Int32)) (2 : Int32))) ||| (own_bit w8 (p2 &&& (255 : Int32)) (3 : Int32))) ||| (own_bit w8 (p2 &&& (255 : Int32)) (4 : Int32))) ||| (own_bit w8 (p2 &&& (255 : Int32)) (5 : Int32))) ||| (own_bit w8 (p2 &&& (255 : Int32)) (6 : Int32))))])) _
    refine XS.bipush X15.here hx rfl (hb hby at_176) ?_
    show Steps p.tables e below (T15.setTop (mkF m 178 #[.val (.long q1), .second, .val (.int p2), .val (.int p3), .val (.int (p2 &&& (255 : Int32))), .val (.long ((72340172838076673 : Int64) * ((p2 &&& (255 : Int32)).toInt64))), .second, .val (.long w8), .second, .unset, .unset] [(.int (7 : Int32)), (.int (p2 &&& (255 : Int32))), (.long w8), (.long (((((((own_bit w8 (p2 &&& (255 : Int32)) (0 : Int32)) ||| (own_bit w8 (p2 &&& (255 : Int32)) (1 : Int32))) ||| (own_bit w8 (p2 &&& (255 : Int32)) (2 : Int32))) ||| (own_bit w8 (p2 &&& (255 : Int32)) (3 : Int32))) ||| (own_bit w8 (p2 &&& (255 : Int32)) (4 : Int32))) ||| (own_bit w8 (p2 &&& (255 : Int32)) (5 : Int32))) ||| (own_bit w8 (p2 &&& (255 : Int32)) (6 : Int32))))])) _
    refine st16 _ ?_
    show Steps p.tables e below (T16.setTop (mkF m 181 #[.val (.long q1), .second, .val (.int p2), .val (.int p3), .val (.int (p2 &&& (255 : Int32))), .val (.long ((72340172838076673 : Int64) * ((p2 &&& (255 : Int32)).toInt64))), .second, .val (.long w8), .second, .unset, .unset] [(.long (own_bit w8 (p2 &&& (255 : Int32)) (7 : Int32))), (.long (((((((own_bit w8 (p2 &&& (255 : Int32)) (0 : Int32)) ||| (own_bit w8 (p2 &&& (255 : Int32)) (1 : Int32))) ||| (own_bit w8 (p2 &&& (255 : Int32)) (2 : Int32))) ||| (own_bit w8 (p2 &&& (255 : Int32)) (3 : Int32))) ||| (own_bit w8 (p2 &&& (255 : Int32)) (4 : Int32))) ||| (own_bit w8 (p2 &&& (255 : Int32)) (5 : Int32))) ||| (own_bit w8 (p2 &&& (255 : Int32)) (6 : Int32))))])) _
    refine XS.lor X16.here hx rfl (hb hby at_181) rfl ?_
    show Steps p.tables e below (T16.setTop (mkF m 182 #[.val (.long q1), .second, .val (.int p2), .val (.int p3), .val (.int (p2 &&& (255 : Int32))), .val (.long ((72340172838076673 : Int64) * ((p2 &&& (255 : Int32)).toInt64))), .second, .val (.long w8), .second, .unset, .unset] [(.long ((((((((own_bit w8 (p2 &&& (255 : Int32)) (0 : Int32)) ||| (own_bit w8 (p2 &&& (255 : Int32)) (1 : Int32))) ||| (own_bit w8 (p2 &&& (255 : Int32)) (2 : Int32))) ||| (own_bit w8 (p2 &&& (255 : Int32)) (3 : Int32))) ||| (own_bit w8 (p2 &&& (255 : Int32)) (4 : Int32))) ||| (own_bit w8 (p2 &&& (255 : Int32)) (5 : Int32))) ||| (own_bit w8 (p2 &&& (255 : Int32)) (6 : Int32))) ||| (own_bit w8 (p2 &&& (255 : Int32)) (7 : Int32))))])) _
    refine XS.lstore X16.here hx rfl (hb hby at_182) rfl (l' := #[.val (.long q1), .second, .val (.int p2), .val (.int p3), .val (.int (p2 &&& (255 : Int32))), .val (.long ((72340172838076673 : Int64) * ((p2 &&& (255 : Int32)).toInt64))), .second, .val (.long w8), .second, .val (.long ((((((((own_bit w8 (p2 &&& (255 : Int32)) (0 : Int32)) ||| (own_bit w8 (p2 &&& (255 : Int32)) (1 : Int32))) ||| (own_bit w8 (p2 &&& (255 : Int32)) (2 : Int32))) ||| (own_bit w8 (p2 &&& (255 : Int32)) (3 : Int32))) ||| (own_bit w8 (p2 &&& (255 : Int32)) (4 : Int32))) ||| (own_bit w8 (p2 &&& (255 : Int32)) (5 : Int32))) ||| (own_bit w8 (p2 &&& (255 : Int32)) (6 : Int32))) ||| (own_bit w8 (p2 &&& (255 : Int32)) (7 : Int32)))), .second]) rfl ?_
    show Steps p.tables e below (T16.setTop (mkF m 184 #[.val (.long q1), .second, .val (.int p2), .val (.int p3), .val (.int (p2 &&& (255 : Int32))), .val (.long ((72340172838076673 : Int64) * ((p2 &&& (255 : Int32)).toInt64))), .second, .val (.long w8), .second, .val (.long ((((((((own_bit w8 (p2 &&& (255 : Int32)) (0 : Int32)) ||| (own_bit w8 (p2 &&& (255 : Int32)) (1 : Int32))) ||| (own_bit w8 (p2 &&& (255 : Int32)) (2 : Int32))) ||| (own_bit w8 (p2 &&& (255 : Int32)) (3 : Int32))) ||| (own_bit w8 (p2 &&& (255 : Int32)) (4 : Int32))) ||| (own_bit w8 (p2 &&& (255 : Int32)) (5 : Int32))) ||| (own_bit w8 (p2 &&& (255 : Int32)) (6 : Int32))) ||| (own_bit w8 (p2 &&& (255 : Int32)) (7 : Int32)))), .second] [])) _
    refine XS.lload X16.here hx rfl (hb hby at_184) rfl ?_
    show Steps p.tables e below (T16.setTop (mkF m 186 #[.val (.long q1), .second, .val (.int p2), .val (.int p3), .val (.int (p2 &&& (255 : Int32))), .val (.long ((72340172838076673 : Int64) * ((p2 &&& (255 : Int32)).toInt64))), .second, .val (.long w8), .second, .val (.long ((((((((own_bit w8 (p2 &&& (255 : Int32)) (0 : Int32)) ||| (own_bit w8 (p2 &&& (255 : Int32)) (1 : Int32))) ||| (own_bit w8 (p2 &&& (255 : Int32)) (2 : Int32))) ||| (own_bit w8 (p2 &&& (255 : Int32)) (3 : Int32))) ||| (own_bit w8 (p2 &&& (255 : Int32)) (4 : Int32))) ||| (own_bit w8 (p2 &&& (255 : Int32)) (5 : Int32))) ||| (own_bit w8 (p2 &&& (255 : Int32)) (6 : Int32))) ||| (own_bit w8 (p2 &&& (255 : Int32)) (7 : Int32)))), .second] [(.long w8)])) _
    refine XS.lload X16.here hx rfl (hb hby at_186) rfl ?_
    show Steps p.tables e below (T16.setTop (mkF m 188 #[.val (.long q1), .second, .val (.int p2), .val (.int p3), .val (.int (p2 &&& (255 : Int32))), .val (.long ((72340172838076673 : Int64) * ((p2 &&& (255 : Int32)).toInt64))), .second, .val (.long w8), .second, .val (.long ((((((((own_bit w8 (p2 &&& (255 : Int32)) (0 : Int32)) ||| (own_bit w8 (p2 &&& (255 : Int32)) (1 : Int32))) ||| (own_bit w8 (p2 &&& (255 : Int32)) (2 : Int32))) ||| (own_bit w8 (p2 &&& (255 : Int32)) (3 : Int32))) ||| (own_bit w8 (p2 &&& (255 : Int32)) (4 : Int32))) ||| (own_bit w8 (p2 &&& (255 : Int32)) (5 : Int32))) ||| (own_bit w8 (p2 &&& (255 : Int32)) (6 : Int32))) ||| (own_bit w8 (p2 &&& (255 : Int32)) (7 : Int32)))), .second] [(.long ((72340172838076673 : Int64) * ((p2 &&& (255 : Int32)).toInt64))), (.long w8)])) _
    refine st17 _ ?_
    show Steps p.tables e below (T17.setTop (mkF m 191 #[.val (.long q1), .second, .val (.int p2), .val (.int p3), .val (.int (p2 &&& (255 : Int32))), .val (.long ((72340172838076673 : Int64) * ((p2 &&& (255 : Int32)).toInt64))), .second, .val (.long w8), .second, .val (.long ((((((((own_bit w8 (p2 &&& (255 : Int32)) (0 : Int32)) ||| (own_bit w8 (p2 &&& (255 : Int32)) (1 : Int32))) ||| (own_bit w8 (p2 &&& (255 : Int32)) (2 : Int32))) ||| (own_bit w8 (p2 &&& (255 : Int32)) (3 : Int32))) ||| (own_bit w8 (p2 &&& (255 : Int32)) (4 : Int32))) ||| (own_bit w8 (p2 &&& (255 : Int32)) (5 : Int32))) ||| (own_bit w8 (p2 &&& (255 : Int32)) (6 : Int32))) ||| (own_bit w8 (p2 &&& (255 : Int32)) (7 : Int32)))), .second] [(.long (own_mat w8 ((72340172838076673 : Int64) * ((p2 &&& (255 : Int32)).toInt64))))])) _
    refine XS.lload X17.here hx rfl (hb hby at_191) rfl ?_
    show Steps p.tables e below (T17.setTop (mkF m 193 #[.val (.long q1), .second, .val (.int p2), .val (.int p3), .val (.int (p2 &&& (255 : Int32))), .val (.long ((72340172838076673 : Int64) * ((p2 &&& (255 : Int32)).toInt64))), .second, .val (.long w8), .second, .val (.long ((((((((own_bit w8 (p2 &&& (255 : Int32)) (0 : Int32)) ||| (own_bit w8 (p2 &&& (255 : Int32)) (1 : Int32))) ||| (own_bit w8 (p2 &&& (255 : Int32)) (2 : Int32))) ||| (own_bit w8 (p2 &&& (255 : Int32)) (3 : Int32))) ||| (own_bit w8 (p2 &&& (255 : Int32)) (4 : Int32))) ||| (own_bit w8 (p2 &&& (255 : Int32)) (5 : Int32))) ||| (own_bit w8 (p2 &&& (255 : Int32)) (6 : Int32))) ||| (own_bit w8 (p2 &&& (255 : Int32)) (7 : Int32)))), .second] [(.long ((((((((own_bit w8 (p2 &&& (255 : Int32)) (0 : Int32)) ||| (own_bit w8 (p2 &&& (255 : Int32)) (1 : Int32))) ||| (own_bit w8 (p2 &&& (255 : Int32)) (2 : Int32))) ||| (own_bit w8 (p2 &&& (255 : Int32)) (3 : Int32))) ||| (own_bit w8 (p2 &&& (255 : Int32)) (4 : Int32))) ||| (own_bit w8 (p2 &&& (255 : Int32)) (5 : Int32))) ||| (own_bit w8 (p2 &&& (255 : Int32)) (6 : Int32))) ||| (own_bit w8 (p2 &&& (255 : Int32)) (7 : Int32)))), (.long (own_mat w8 ((72340172838076673 : Int64) * ((p2 &&& (255 : Int32)).toInt64))))])) _
    refine XS.lcmp X17.here hx rfl (hb hby at_193) rfl ?_
    show Steps p.tables e below (T17.setTop (mkF m 194 #[.val (.long q1), .second, .val (.int p2), .val (.int p3), .val (.int (p2 &&& (255 : Int32))), .val (.long ((72340172838076673 : Int64) * ((p2 &&& (255 : Int32)).toInt64))), .second, .val (.long w8), .second, .val (.long ((((((((own_bit w8 (p2 &&& (255 : Int32)) (0 : Int32)) ||| (own_bit w8 (p2 &&& (255 : Int32)) (1 : Int32))) ||| (own_bit w8 (p2 &&& (255 : Int32)) (2 : Int32))) ||| (own_bit w8 (p2 &&& (255 : Int32)) (3 : Int32))) ||| (own_bit w8 (p2 &&& (255 : Int32)) (4 : Int32))) ||| (own_bit w8 (p2 &&& (255 : Int32)) (5 : Int32))) ||| (own_bit w8 (p2 &&& (255 : Int32)) (6 : Int32))) ||| (own_bit w8 (p2 &&& (255 : Int32)) (7 : Int32)))), .second] [(.int (lcmpW (own_mat w8 ((72340172838076673 : Int64) * ((p2 &&& (255 : Int32)).toInt64))) ((((((((own_bit w8 (p2 &&& (255 : Int32)) (0 : Int32)) ||| (own_bit w8 (p2 &&& (255 : Int32)) (1 : Int32))) ||| (own_bit w8 (p2 &&& (255 : Int32)) (2 : Int32))) ||| (own_bit w8 (p2 &&& (255 : Int32)) (3 : Int32))) ||| (own_bit w8 (p2 &&& (255 : Int32)) (4 : Int32))) ||| (own_bit w8 (p2 &&& (255 : Int32)) (5 : Int32))) ||| (own_bit w8 (p2 &&& (255 : Int32)) (6 : Int32))) ||| (own_bit w8 (p2 &&& (255 : Int32)) (7 : Int32)))))])) _
    refine XS.ifNo X17.here hx rfl (hb hby at_194) rfl ((if0 _ _).trans (teq ((lw_eq (own_mat w8 ((72340172838076673 : Int64) * ((p2 &&& (255 : Int32)).toInt64))) ((((((((own_bit w8 (p2 &&& (255 : Int32)) (0 : Int32)) ||| (own_bit w8 (p2 &&& (255 : Int32)) (1 : Int32))) ||| (own_bit w8 (p2 &&& (255 : Int32)) (2 : Int32))) ||| (own_bit w8 (p2 &&& (255 : Int32)) (3 : Int32))) ||| (own_bit w8 (p2 &&& (255 : Int32)) (4 : Int32))) ||| (own_bit w8 (p2 &&& (255 : Int32)) (5 : Int32))) ||| (own_bit w8 (p2 &&& (255 : Int32)) (6 : Int32))) ||| (own_bit w8 (p2 &&& (255 : Int32)) (7 : Int32)))).mpr (own_law _ _))).2) ?_
    show Steps p.tables e below (T17.setTop (mkF m 197 #[.val (.long q1), .second, .val (.int p2), .val (.int p3), .val (.int (p2 &&& (255 : Int32))), .val (.long ((72340172838076673 : Int64) * ((p2 &&& (255 : Int32)).toInt64))), .second, .val (.long w8), .second, .val (.long ((((((((own_bit w8 (p2 &&& (255 : Int32)) (0 : Int32)) ||| (own_bit w8 (p2 &&& (255 : Int32)) (1 : Int32))) ||| (own_bit w8 (p2 &&& (255 : Int32)) (2 : Int32))) ||| (own_bit w8 (p2 &&& (255 : Int32)) (3 : Int32))) ||| (own_bit w8 (p2 &&& (255 : Int32)) (4 : Int32))) ||| (own_bit w8 (p2 &&& (255 : Int32)) (5 : Int32))) ||| (own_bit w8 (p2 &&& (255 : Int32)) (6 : Int32))) ||| (own_bit w8 (p2 &&& (255 : Int32)) (7 : Int32)))), .second] [])) _
    refine XS.iconst X17.here hx rfl (hb hby at_197) ?_
    show Steps p.tables e below (T17.setTop (mkF m 198 #[.val (.long q1), .second, .val (.int p2), .val (.int p3), .val (.int (p2 &&& (255 : Int32))), .val (.long ((72340172838076673 : Int64) * ((p2 &&& (255 : Int32)).toInt64))), .second, .val (.long w8), .second, .val (.long ((((((((own_bit w8 (p2 &&& (255 : Int32)) (0 : Int32)) ||| (own_bit w8 (p2 &&& (255 : Int32)) (1 : Int32))) ||| (own_bit w8 (p2 &&& (255 : Int32)) (2 : Int32))) ||| (own_bit w8 (p2 &&& (255 : Int32)) (3 : Int32))) ||| (own_bit w8 (p2 &&& (255 : Int32)) (4 : Int32))) ||| (own_bit w8 (p2 &&& (255 : Int32)) (5 : Int32))) ||| (own_bit w8 (p2 &&& (255 : Int32)) (6 : Int32))) ||| (own_bit w8 (p2 &&& (255 : Int32)) (7 : Int32)))), .second] [(.int (1 : Int32))])) _
    refine XS.goto X17.here hx rfl (pc0 := 198) (pc' := 202) rfl (hb hby at_198) (by decide) (by decide) ?_
    show Steps p.tables e below (T17.setTop (mkF m 202 #[.val (.long q1), .second, .val (.int p2), .val (.int p3), .val (.int (p2 &&& (255 : Int32))), .val (.long ((72340172838076673 : Int64) * ((p2 &&& (255 : Int32)).toInt64))), .second, .val (.long w8), .second, .val (.long ((((((((own_bit w8 (p2 &&& (255 : Int32)) (0 : Int32)) ||| (own_bit w8 (p2 &&& (255 : Int32)) (1 : Int32))) ||| (own_bit w8 (p2 &&& (255 : Int32)) (2 : Int32))) ||| (own_bit w8 (p2 &&& (255 : Int32)) (3 : Int32))) ||| (own_bit w8 (p2 &&& (255 : Int32)) (4 : Int32))) ||| (own_bit w8 (p2 &&& (255 : Int32)) (5 : Int32))) ||| (own_bit w8 (p2 &&& (255 : Int32)) (6 : Int32))) ||| (own_bit w8 (p2 &&& (255 : Int32)) (7 : Int32)))), .second] [(.int (1 : Int32))])) _
    exact retN X17 hx (t := .boolean) Bd.returns (by simp) (hb hby at_202) hr
  · show Q0 h0 n0 _ T17.heap _
    exact ⟨rfl, N17⟩
set_option maxRecDepth 65536 in
set_option maxHeartbeats 40000000 in
theorem comes_1 {Post : Tables → Env → Array Value → State → Outcome → State → Prop} (hpost : ∀ tb e args s v u, (limb_1_1.after args s (.returned v) u = true ∧ limb_1_2.after args s (.returned v) u = true ∧ True) → FrameEnd s (.returned v) u (Jvm.fieldLocs frame_1_writes args s ++ Jvm.arrayLocs frame_1_arrays args s ++ Jvm.staticLocs frame_1_statics s) 0 0 → Post tb e args s (.returned v) u) :
    ArmFor flags0 classFile x code maxLocals ret World_1 tables_1 room_1 Calls_1 rest_1 Pre_1 Post := by
  intro l hfl _ _ p e ha hc hk s m args below hf hA hF happ hP
  obtain ⟨hcalls, hrest, hpre⟩ := hP
  obtain ⟨-, -, -, hnamed, -, -, -, hat⟩ := (Spec.applies_iff hf).mp happ
  obtain ⟨hg, hn⟩ := and_e (Cond.before_iff.mp (show (Jvm.Cond.and given_1 narrow_1).before args s = true from hpre))
  obtain ⟨ga0, gb0⟩ := and_e hg
  obtain ⟨ga1, gb1⟩ := and_e gb0
  obtain ⟨ga2, gb2⟩ := and_e gb1
  obtain ⟨w0, w1, w2, rfl⟩ : ∃ w0 w1 w2 : Value, args = #[w0, w1, w2] := by
    have hs : args.size = 3 := by simpa [Cond.value, given_1] using ga0
    obtain ⟨L⟩ := args
    match L, hs with
    | [w0, w1, w2], _ => exact ⟨w0, w1, w2, rfl⟩
  have hw := fun d (hd : d ∈ tables_1) => atoms_spec (ws := Jvm.Cond.code x code maxLocals ret :: tables_1) hat d (List.mem_cons_of_mem _ hd)
  obtain ⟨i0, ei0⟩ := isL_v ga1
  obtain rfl : w0 = (.long i0) := Option.some.inj ei0
  obtain ⟨i1, ei1⟩ := is_v ga2
  obtain rfl : w1 = (.int i1) := Option.some.inj ei1
  obtain ⟨i2, ei2⟩ := is_v gb2
  obtain rfl : w2 = (.int i2) := Option.some.inj ei2
  obtain ⟨n, o, h1, h2, h3, _, L, rfl, ⟨rfl, N⟩, hq⟩ := rm0 l s _ hw tables_1 i0 i1 i2 s.heap s.heap.size (Nat.le_refl _) p e ha hc hk s m _ below hf ((Spec.applies_iff_loose hf).mp happ).1 ⟨rfl, State.Warmed39.refl s, rfl⟩ trivial
  refine ⟨n, _, h1, h2, h3, hpost _ _ _ _ _ _ ⟨Cond.after_iff.mpr rfl, Cond.after_iff.mpr (eq_i res_at (Term.int_eval (1)) rfl), trivial⟩ ⟨hq.1, hq.2.1, (hq.2.2.sift fun y hy => Or.inr (N y hy)).mono (by decide) (by decide)⟩⟩
theorem main_1_1 : Claimed_1_1 := comes_1 fun _ _ _ _ _ _ h hF => ⟨h.1, hF⟩
theorem main_1_2 : Claimed_1_2 := comes_1 fun _ _ _ _ _ _ h hF => ⟨h.2.1, hF⟩
end Jvm.Pilot.@@N@@
namespace Jvm.Pilot.@@N@@
open Jvm Jvm.ClassFile Sem Op Lib Jvm.Free Jvm.Stand Jvm.Pilot.@@N@@.Jvm.D
/-! MADE BY PROGRAM (witnessworld.py) out of the Statement's table words and the real class files: 9 classes; the members and pool entries that the words name. The judged class is class 1, her method 1. -/
namespace start1
open Jvm.ClassFile
def u (s : String) : CpInfo := .utf8 (stringToUtf16 s)
/-- a pool by its gaps: so many unusable entries, then the entry; so many at the end -/
def gap : Nat → List CpInfo → List CpInfo
  | 0, r => r
  | n + 1, r => .unusable :: gap n r
def poolList (es : List (Nat × CpInfo)) (last : Nat) : List CpInfo := es.foldr (fun e r => gap e.1 (e.2 :: r)) (gap last [])
def pool (es : List (Nat × CpInfo)) (last : Nat) : Array CpInfo := ⟨poolList es last⟩
def fileOf (pool : Array CpInfo) (this : Nat) (attrs : Array Attribute := #[]) (ms : Array MethodInfo := #[]) (fl : Nat := 33) (sup : Nat := 0) (ifs : Array Nat := #[]) (fds : Array FieldInfo := #[]) : ClassFile where
  minorVersion := 0
  majorVersion := 65
  constantPool := pool
  accessFlags := fl
  thisClass := this
  superClass := sup
  interfaces := ifs
  fields := fds
  methods := ms
  attributes := attrs
def plain (name : String) (sup : Option ClassId) : Class where
  name := name
  kind := .ordinary
  loader := none
  accessFlags := 33
  super := sup
  interfaces := #[]
  cf := none
  fields := #[]
  methods := #[]
  instanceTypes := #[]
  staticTypes := #[]
  resolved := #[]
  callSites := []
  init := .initialized
  statics := none
  mirror := none

def pool0 : Array CpInfo := pool [(5, u "<init>"), (0, u "()V"), (1, .class_ 10), (1, u "java/lang/Object")] 113

def k0m0 : Method := { name := "<init>", desc := "()V", sig := { parameters := [], returnType := none }, accessFlags := 1, code := none }
/-- java/lang/Object -/
def k0 : Class := { plain "java/lang/Object" none with
  accessFlags := 33
  interfaces := #[]
  cf := some (fileOf pool0 8 #[] #[{ accessFlags := 1, nameIndex := 5, descriptorIndex := 6, attributes := #[] }] 33 0 #[] #[])
  fields := #[]
  methods := #[k0m0]
  instanceTypes := #[]
  staticTypes := #[]
  resolved := Array.replicate 124 none
  statics := none }

def pool1 : Array CpInfo := pool [(2, .class_ 4), (1, u "java/lang/Object"), (0, u "<init>"), (0, u "()V"), (0, .long 72340172838076673), (1, .methodref 10 11), (0, .class_ 12), (0, .nameAndType 13 14), (0, u "com/example/treemend/treemend/BytesMatchesPinLaw"), (0, u "force"), (0, u "(JIII)J"), (0, .methodref 10 16), (0, .nameAndType 17 18), (0, u "bit"), (0, u "(JII)J"), (0, .methodref 20 21), (0, .class_ 22), (0, .nameAndType 23 24), (0, u "com/example/treemend/treemend/Bytes"), (0, u "matches"), (0, u "(JJ)J"), (0, .long 255), (1, .long 18446744073709551615), (3, u "law"), (0, u "(JII)Z")] 3

def k1m0 : Method := { name := "<init>", desc := "()V", sig := { parameters := [], returnType := none }, accessFlags := 1, code := none }
def k1c1 : Code := { maxStack := 6, maxLocals := 11, code := code, exceptionTable := #[], attributes := #[] }
def k1m1 : Method := { name := "law", desc := "(JII)Z", sig := { parameters := [.long, .int, .int], returnType := some .boolean }, accessFlags := 9, code := some k1c1 }
def k1c2 : Code := { maxStack := 6, maxLocals := 6, code := method_3_code, exceptionTable := #[], attributes := #[] }
def k1m2 : Method := { name := "force", desc := "(JIII)J", sig := { parameters := [.long, .int, .int, .int], returnType := some .long }, accessFlags := 10, code := some k1c2 }
def k1c3 : Code := { maxStack := 4, maxLocals := 5, code := method_4_code, exceptionTable := #[], attributes := #[] }
def k1m3 : Method := { name := "bit", desc := "(JII)J", sig := { parameters := [.long, .int, .int], returnType := some .long }, accessFlags := 10, code := some k1c3 }
/-- com/example/treemend/treemend/BytesMatchesPinLaw -/
def k1 : Class := { plain "com/example/treemend/treemend/BytesMatchesPinLaw" (some 0) with
  accessFlags := 49
  interfaces := #[]
  cf := some (fileOf pool1 10 #[] #[{ accessFlags := 1, nameIndex := 5, descriptorIndex := 6, attributes := #[] }, { accessFlags := 9, nameIndex := 31, descriptorIndex := 32, attributes := #[] }, { accessFlags := 10, nameIndex := 13, descriptorIndex := 14, attributes := #[] }, { accessFlags := 10, nameIndex := 17, descriptorIndex := 18, attributes := #[] }] 49 2 #[] #[])
  fields := #[]
  methods := #[k1m0, k1m1, k1m2, k1m3]
  instanceTypes := #[]
  staticTypes := #[]
  resolved := Array.replicate 36 none
  statics := none }

def pool2 : Array CpInfo := pool [(2, .class_ 4), (1, u "java/lang/Object"), (0, u "<init>"), (0, u "()V"), (0, .class_ 8), (0, u "com/example/treemend/treemend/Bytes"), (2, .long 9187201950435737471), (1, .long 18446744073709551615), (9, u "WORDS"), (0, u "Ljava/lang/invoke/VarHandle;"), (8, u "matches"), (0, u "(JJ)J"), (18, u "ONES"), (0, u "J"), (1, u "LOW_BITS")] 8

def k2m0 : Method := { name := "<init>", desc := "()V", sig := { parameters := [], returnType := none }, accessFlags := 2, code := none }
def k2c1 : Code := { maxStack := 4, maxLocals := 6, code := prog_17_method_3_code, exceptionTable := #[], attributes := #[] }
def k2m1 : Method := { name := "matches", desc := "(JJ)J", sig := { parameters := [.long, .long], returnType := some .long }, accessFlags := 8, code := some k2c1 }
/-- com/example/treemend/treemend/Bytes -/
def k2 : Class := { plain "com/example/treemend/treemend/Bytes" (some 0) with
  accessFlags := 48
  interfaces := #[]
  cf := some (fileOf pool2 7 #[] #[{ accessFlags := 2, nameIndex := 5, descriptorIndex := 6, attributes := #[] }, { accessFlags := 8, nameIndex := 33, descriptorIndex := 34, attributes := #[] }] 48 2 #[] #[{ accessFlags := 24, nameIndex := 23, descriptorIndex := 24, attributes := #[] }, { accessFlags := 26, nameIndex := 53, descriptorIndex := 54, attributes := #[] }, { accessFlags := 26, nameIndex := 56, descriptorIndex := 54, attributes := #[] }])
  fields := #[{ name := "WORDS", type := (.object "java/lang/invoke/VarHandle"), accessFlags := 24, slot := 0, constantValue := 0 }, { name := "ONES", type := .long, accessFlags := 26, slot := 1, constantValue := 0 }, { name := "LOW_BITS", type := .long, accessFlags := 26, slot := 2, constantValue := 0 }]
  methods := #[k2m0, k2m1]
  instanceTypes := #[]
  staticTypes := #[(.object "java/lang/invoke/VarHandle"), .long, .long]
  resolved := Array.replicate 65 none
  statics := none }

def pool3 : Array CpInfo := pool [(1, u "java/lang/Cloneable"), (0, .class_ 1), (0, u "java/lang/Object"), (0, .class_ 3)] 3

/-- java/lang/Cloneable -/
def k3 : Class := { plain "java/lang/Cloneable" (some 0) with
  accessFlags := 1537
  interfaces := #[]
  cf := some (fileOf pool3 2 #[] #[] 1537 4 #[] #[])
  fields := #[]
  methods := #[]
  instanceTypes := #[]
  staticTypes := #[]
  resolved := Array.replicate 8 none
  statics := none }

def pool4 : Array CpInfo := pool [(1, u "java/io/Serializable"), (0, .class_ 1), (0, u "java/lang/Object"), (0, .class_ 3)] 3

/-- java/io/Serializable -/
def k4 : Class := { plain "java/io/Serializable" (some 0) with
  accessFlags := 1537
  interfaces := #[]
  cf := some (fileOf pool4 2 #[] #[] 1537 4 #[] #[])
  fields := #[]
  methods := #[]
  instanceTypes := #[]
  staticTypes := #[]
  resolved := Array.replicate 8 none
  statics := none }

/-- the primitive byte -/
def k5 : Class := { plain "byte" none with kind := .primitive 'B', accessFlags := 0x411 }
/-- [B -/
def k6 : Class := { plain "[B" (some 0) with kind := .array 5 .byte, interfaces := #[3, 4], accessFlags := 1041 }

/-- the primitive int -/
def k7 : Class := { plain "int" none with kind := .primitive 'I', accessFlags := 0x411 }
/-- [I -/
def k8 : Class := { plain "[I" (some 0) with kind := .array 7 .int, interfaces := #[3, 4], accessFlags := 1041 }

def heap : Heap := #[]
def classes : Array Class := #[k0, k1, k2, k3, k4, k5, k6, k7, k8]
def interned : List (Array UInt16 × Addr) := []
def slotsUsed : Nat := 0
def theMethod : MethodId := ⟨1, 1⟩
def args0 : Array Value := #[.long 7, .int 4, .int 3]
def aboutOver (below : List Frame) : State where
  vm := { classes := classes, interned := interned.toArray }
  heap := heap
  slotsUsed := slotsUsed
  threads := #[{ frames := .invoking theMethod args0 :: below }]
def below0 : List Frame := [.native { method := ⟨0, 0⟩, args := #[] }]
def about1 : State := aboutOver below0
def p0 : Program := .bare "" "" ""
def e0 : Env := launch0.env 0 0 0
theorem w_frames : about1.frames = Frame.invoking theMethod args0 :: below0 := rfl
set_option maxRecDepth 65536 in
theorem w_args : argsFit about1.vm theMethod args0 = true := by decide +kernel
set_option maxRecDepth 65536 in
theorem w_heap : heapFits about1 = true := by decide +kernel
set_option maxRecDepth 65536 in
theorem w_runnable : about1.curStatus? = some .runnable := by decide +kernel
set_option maxRecDepth 65536 in
theorem w_alone : about1.alone = true := by decide +kernel
set_option maxRecDepth 65536 in
theorem w_named : about1.methodNamed? x = some theMethod := by decide +kernel
set_option maxRecDepth 65536 in
theorem w_hears : about1.hears theMethod below0 = true := by decide +kernel
set_option maxRecDepth 65536 in
theorem w_ripe : about1.ripe theMethod args0 below0 = true := by decide +kernel
theorem w_running : about1.status = .running := rfl
set_option maxRecDepth 65536 in
theorem w_room : about1.hasRoom e0.platform room_1 = true :=
  launch0.hasRoom_least _ room_1 (by decide +kernel) (by decide +kernel) (by decide +kernel) (by decide +kernel) (by decide +kernel) (by decide +kernel)
theorem allAtoms_all (ts : List Jvm.Cond) (a : Array Jvm.Value) (st : Jvm.State) : (allAtoms ts).before a st = ts.all (fun c => c.before a st) := by
  induction ts with
  | nil => rfl
  | cons c t ih =>
    show (Jvm.Cond.and c (allAtoms t)).before a st = _
    rw [Jvm.Cond.before_and, ih, List.all_cons]
def words1 : List Jvm.Cond := Jvm.Cond.code x code maxLocals ret :: tables_1
/-- a 'code' word, met by the world's own term for the bytes: nothing is compared byte by byte -/
theorem code_word {y : MethodName} {bytes : ByteArray} {mx : Nat} {rt : Option FieldType} {a : Array Value} {s : State} {m : MethodId} {meth : Method} {c : Code} (h1 : s.methodNamed? y = some m) (h2 : s.vm.method? m = some meth) (h3 : meth.code = some c) (h4 : c.code = bytes)
    (h5 : (c.maxLocals == mx && c.exceptionTable.isEmpty && decide (c.maxStack ≤ mostOperands) && decide (meth.sig.returnType = rt) && !meth.locks && decide (parseMethodDescriptor y.desc = some meth.sig)) = true) : (Jvm.Cond.code y bytes mx rt).before a s = true := by
  simp only [Bool.and_eq_true, beq_iff_eq, Bool.not_eq_true', decide_eq_true_eq] at h5
  obtain ⟨⟨⟨⟨⟨g1, g2⟩, g3⟩, g4⟩, g5⟩, g6⟩ := h5
  simp [Cond.before, Cond.holds, Cond.value, h1, h2, h3, h4, g1, g2, g3, g4, g5, g6]
def isCode : Jvm.Cond → Bool
  | .code _ _ _ _ => true
  | _ => false
theorem all_split {L : List Jvm.Cond} {P : Jvm.Cond → Bool} (h1 : L.all (fun c => isCode c || P c) = true) (h2 : ∀ c ∈ L.filter isCode, P c = true) : L.all P = true := by
  refine List.all_eq_true.mpr fun c hc => ?_
  have h := List.all_eq_true.mp h1 c hc
  rcases Bool.eq_false_or_eq_true (isCode c) with hi | hi
  · exact h2 c (List.mem_filter.mpr ⟨hc, hi⟩)
  · simpa [hi] using h
set_option maxRecDepth 65536 in
theorem w_c0 : (Jvm.Cond.code x code maxLocals ret).before args0 about1 = true := code_word (m := ⟨1, 1⟩) (meth := k1m1) (c := k1c1) (by decide +kernel) rfl rfl rfl (by decide +kernel)
set_option maxRecDepth 65536 in
theorem w_c1 : (Jvm.Cond.code ({ cls := "com/example/treemend/treemend/BytesMatchesPinLaw", name := "force", desc := "(JIII)J" } : Jvm.MethodName) method_3_code (6 : Nat) (Option.some Jvm.ClassFile.FieldType.long)).before args0 about1 = true := code_word (m := ⟨1, 2⟩) (meth := k1m2) (c := k1c2) (by decide +kernel) rfl rfl rfl (by decide +kernel)
set_option maxRecDepth 65536 in
theorem w_c2 : (Jvm.Cond.code ({ cls := "com/example/treemend/treemend/BytesMatchesPinLaw", name := "bit", desc := "(JII)J" } : Jvm.MethodName) method_4_code (5 : Nat) (Option.some Jvm.ClassFile.FieldType.long)).before args0 about1 = true := code_word (m := ⟨1, 3⟩) (meth := k1m3) (c := k1c3) (by decide +kernel) rfl rfl rfl (by decide +kernel)
set_option maxRecDepth 65536 in
theorem w_c3 : (Jvm.Cond.code ({ cls := "com/example/treemend/treemend/Bytes", name := "matches", desc := "(JJ)J" } : Jvm.MethodName) prog_17_method_3_code (6 : Nat) (Option.some Jvm.ClassFile.FieldType.long)).before args0 about1 = true := code_word (m := ⟨2, 1⟩) (meth := k2m1) (c := k2c1) (by decide +kernel) rfl rfl rfl (by decide +kernel)
def codes1 : List Jvm.Cond := [Jvm.Cond.code x code maxLocals ret, Jvm.Cond.code ({ cls := "com/example/treemend/treemend/BytesMatchesPinLaw", name := "force", desc := "(JIII)J" } : Jvm.MethodName) method_3_code (6 : Nat) (Option.some Jvm.ClassFile.FieldType.long), Jvm.Cond.code ({ cls := "com/example/treemend/treemend/BytesMatchesPinLaw", name := "bit", desc := "(JII)J" } : Jvm.MethodName) method_4_code (5 : Nat) (Option.some Jvm.ClassFile.FieldType.long), Jvm.Cond.code ({ cls := "com/example/treemend/treemend/Bytes", name := "matches", desc := "(JJ)J" } : Jvm.MethodName) prog_17_method_3_code (6 : Nat) (Option.some Jvm.ClassFile.FieldType.long)]
set_option maxRecDepth 65536 in
theorem codes_eq : words1.filter isCode = codes1 := rfl
theorem w_codes : ∀ c ∈ words1.filter isCode, c.before args0 about1 = true := by
  rw [codes_eq]
  intro c hc
  simp only [codes1, List.mem_cons, List.not_mem_nil, or_false] at hc
  rcases hc with rfl | rfl | rfl | rfl
  · exact w_c0
  · exact w_c1
  · exact w_c2
  · exact w_c3
set_option maxRecDepth 65536 in
theorem w_t1 : words1.all (fun c => isCode c || c.before args0 about1) = true := by decide +kernel
theorem w_tables : (allAtoms (Jvm.Cond.code x code maxLocals ret :: tables_1)).before args0 about1 = true := by
  rw [allAtoms_all]
  show words1.all (fun c => c.before args0 about1) = true
  refine all_split ?_ w_codes
  rw [w_t1]
set_option maxRecDepth 65536 in
theorem w_case : (Jvm.Cond.and given_1 narrow_1).before args0 about1 = true := by decide +kernel
theorem w_applies : (headSpec (Jvm.Cond.code x code maxLocals ret :: tables_1) room_1).applies x e0.platform about1 = true :=
  (Spec.applies_iff w_frames).mpr ⟨w_running, w_runnable, w_alone, w_named, w_hears, w_ripe, w_room, w_tables⟩
theorem atStart : AtStart classFile x code maxLocals ret World_1 tables_1 room_1 Calls_1 rest_1 Pre_1 launch0 p0 e0 about1 theMethod args0 below0 :=
  ⟨lists_1, trivial, launch0.admits_env _ _ _, launch0.least_env, fairChoices_fair.cas, fairChoices_fair.clock, w_frames, w_args, w_heap, w_applies, trivial, trivial, w_case⟩
end start1
theorem witness_1 : WitnessClaimed_1 := ⟨start1.p0, start1.e0, start1.about1, start1.theMethod, start1.args0, start1.below0, start1.atStart⟩
end Jvm.Pilot.@@N@@
