import JvmDerived
import JvmDerived.Pilot.@@N@@Statement
import JvmDerived.Pilot.@@N@@Code
set_option linter.unusedVariables false
set_option linter.unusedSimpArgs false
namespace Jvm.RoadKit
open Sem ClassFile Op Lib Jvm.Stand Jvm.Free Jvm.LawKit
section New
variable {p : Program} {l : Launch} {e : Env} {R : Room} {s : State} {m : MethodId} {args : Array Value} {below : List Frame} {meth : Method} {c : Code} {T : State} {locs : List Loc} {cells slots : Nat}
theorem retI (X : Stand p l e R s m args below meth c T locs cells slots) (hx : p.tables.exec = Jvm.exec) {pc : Nat} {Ls : Array Slot} {z : Int32} {rest : List Value} (hret : meth.sig.returnType = some .int) (hd : decode c.code pc = .ok (.ireturn, 1)) {fs : List Frame}
    (hl : ∀ (f : JFrame) (acts : List Action), f.method = m → f.locked = none → f.entered = [] → (doReturn e (T.setTop f) acts (some (.int z))).1 = T.setFrames fs) : Steps p.tables e below (T.setTop (mkF m pc Ls (.int z :: rest))) (T.setFrames fs) := by
  have hm' : T.vm.method? m = some meth := X.method'
  have hn : narrow .int (.int z) = .int z := rfl
  show Steps p.tables e below (T.setTop { method := m, pc := pc, locals := Ls, stack := _ :: rest, locked := none }) _
  jvm_step X.here [X.here.top, hx, hd, hm', hret, hn]
  first | (intro acts; rw [hl _ acts rfl rfl rfl]) | rw [hl _ _ rfl rfl rfl]
  exact Steps.refl _
end New
end Jvm.RoadKit
namespace Jvm.Pilot.@@N@@
open Jvm Jvm.ClassFile Sem Op Lib Jvm.Free Jvm.Stand Jvm.LawKit Jvm.RoadKit Bundle Jvm.Pilot.@@N@@.Jvm.D
def own_widest (W : Int32) : Int32 := if W = 1 then 255 else if W = 2 then 65535 else if W = 3 then 16777215 else 2147483647
def own_okW (W : Int32) : Prop := W = 1 ∨ W = 2 ∨ W = 3 ∨ W = 4
def own_isW (v w : Int32) : Prop := (v.toInt < 256 ∧ w = 1) ∨ (256 ≤ v.toInt ∧ v.toInt < 65536 ∧ w = 2) ∨ (65536 ≤ v.toInt ∧ v.toInt < 16777216 ∧ w = 3) ∨ (16777216 ≤ v.toInt ∧ w = 4)
def own_P (v r : Int32) : Prop := (v.toInt < 256 → 24 ≤ r.toInt ∧ r.toInt ≤ 32) ∧ (256 ≤ v.toInt → v.toInt < 65536 → 16 ≤ r.toInt ∧ r.toInt < 24) ∧ (65536 ≤ v.toInt → v.toInt < 16777216 → 8 ≤ r.toInt ∧ r.toInt < 16) ∧ (16777216 ≤ v.toInt → 1 ≤ r.toInt ∧ r.toInt < 8)
def own_sb (k : Nat) (v : Int32) : Int32 := nar .byte (match k with
  | 0 => v.toInt8.toInt32
  | 1 => ((v.toUInt32 >>> ((8 : Int32) &&& 31).toUInt32).toInt32).toInt8.toInt32
  | 2 => ((v.toUInt32 >>> ((16 : Int32) &&& 31).toUInt32).toInt32).toInt8.toInt32
  | _ => ((v.toUInt32 >>> ((24 : Int32) &&& 31).toUInt32).toInt32).toInt8.toInt32)
def own_get (W b0 b1 b2 b3 : Int32) : Int32 :=
  if W = 1 then (b0 &&& (255 : Int32))
  else if W = 2 then ((b0 &&& (255 : Int32)) ||| ((b1 &&& (255 : Int32)) <<< ((8 : Int32) &&& 31)))
  else if W = 3 then (((b0 &&& (255 : Int32)) ||| ((b1 &&& (255 : Int32)) <<< ((8 : Int32) &&& 31))) ||| ((b2 &&& (255 : Int32)) <<< ((16 : Int32) &&& 31)))
  else ((((b0 &&& (255 : Int32)) ||| ((b1 &&& (255 : Int32)) <<< ((8 : Int32) &&& 31))) ||| ((b2 &&& (255 : Int32)) <<< ((16 : Int32) &&& 31))) ||| ((b3 &&& (255 : Int32)) <<< ((24 : Int32) &&& 31)))
theorem own_i32 {x y : Int32} (h : x.toInt = y.toInt) : x = y := Int32.toInt_inj.mp h
theorem own_byte (x : Int32) : (nar .byte x.toInt8.toInt32 &&& (255 : Int32)).toInt = x.toInt % 256 := by
  have e : nar .byte x.toInt8.toInt32 = x.toInt8.toInt32.toInt8.toInt32 := rfl
  rw [e]
  have h1 := c_mask x.toInt8.toInt32.toInt8.toInt32 255 8 (by decide) (by decide)
  have h1' : (x.toInt8.toInt32.toInt8.toInt32 &&& (255 : Int32)).toInt = x.toInt8.toInt32.toInt8.toInt32.toInt % 256 := h1
  have h2 := (c_i2b x).1
  have h3 := (c_i2b x.toInt8.toInt32).1
  omega
theorem own_shr (v q : Int32) (k : Nat) (hk : q.toBitVec.toNat % 32 = k) (h0 : 0 < k) (hv : 0 ≤ v.toInt) : ((v.toUInt32 >>> (q &&& 31).toUInt32).toInt32).toInt = v.toInt / (2 ^ k : Nat) := by
  rw [c_iushr v q k hk h0, Int.emod_eq_of_lt hv (by have := v.toInt_lt; omega)]
theorem own_shl (x q : Int32) (k : Nat) (hk : q.toBitVec.toNat % 32 = k) (h1 : 0 ≤ x.toInt * (2 ^ k : Nat)) (h2 : x.toInt * (2 ^ k : Nat) < 2147483648) : (x <<< (q &&& 31)).toInt = x.toInt * (2 ^ k : Nat) := by
  have h := c_ishl x q k hk
  have r := rng32 (x <<< (q &&& 31))
  omega
theorem own_nn (a : Int32) (h : 0 ≤ a.toInt) : (a.toBitVec.toNat : Int) = a.toInt := by
  have e : a.toInt = a.toBitVec.toInt := rfl
  have l := a.toBitVec.isLt
  rw [e, BitVec.toInt_eq_toNat_cond] at h
  rw [e, BitVec.toInt_eq_toNat_cond]
  split at h
  · rename_i q
    rw [if_pos q]
  · omega
theorem own_or (a b : Int32) (k m : Nat) (ha : 0 ≤ a.toInt) (ha2 : a.toInt < (2 ^ k : Nat)) (hb : b.toInt = (m : Int) * (2 ^ k : Nat)) : (a ||| b).toInt = a.toInt + b.toInt := by
  have ra := rng32 a
  have rb := rng32 b
  have na : a.toBitVec.toNat = a.toInt.toNat := by have := own_nn a ha; omega
  have hb0 : 0 ≤ b.toInt := by rw [hb]; exact Int.mul_nonneg (Int.natCast_nonneg _) (Int.natCast_nonneg _)
  have nb : b.toBitVec.toNat = b.toInt.toNat := by have := own_nn b hb0; omega
  have nb2 : b.toBitVec.toNat = 2 ^ k * m := by rw [nb, hb, ← Int.natCast_mul, Int.toNat_natCast, Nat.mul_comm]
  have na2 : a.toBitVec.toNat < 2 ^ k := by rw [na]; omega
  have ho : (a ||| b).toBitVec.toNat = a.toBitVec.toNat + b.toBitVec.toNat := by
    show (a.toBitVec ||| b.toBitVec).toNat = _
    rw [BitVec.toNat_or, nb2, Nat.or_comm, ← Nat.two_pow_add_eq_or_of_lt na2, Nat.add_comm]
  have hlt : (a ||| b).toBitVec.toNat < 2147483648 := by
    have h1 : a.toBitVec.toNat < 2 ^ 31 := by rw [na]; omega
    have h2 : b.toBitVec.toNat < 2 ^ 31 := by rw [nb]; omega
    have : (a.toBitVec ||| b.toBitVec).toNat < 2 ^ 31 := by rw [BitVec.toNat_or]; exact Nat.or_lt_two_pow h1 h2
    exact this
  have : (a ||| b).toInt = ((a ||| b).toBitVec.toNat : Int) := by
    show (a ||| b).toBitVec.toInt = _
    rw [BitVec.toInt_eq_toNat_cond, if_pos (by omega)]
  rw [this, ho, na, nb]
  omega
theorem own_round (v W : Int32) (hW : own_okW W) (h0 : 0 ≤ v.toInt) (h1 : v.toInt ≤ (own_widest W).toInt) : own_get W (own_sb 0 v) (own_sb 1 v) (own_sb 2 v) (own_sb 3 v) = v := by
  have s1 := own_shr v 8 8 (by decide) (by decide) h0
  have s2 := own_shr v 16 16 (by decide) (by decide) h0
  have s3 := own_shr v 24 24 (by decide) (by decide) h0
  have e0 : (own_sb 0 v &&& (255 : Int32)).toInt = v.toInt % 256 := own_byte v
  have e1 : (own_sb 1 v &&& (255 : Int32)).toInt = v.toInt / 256 % 256 := (own_byte _).trans (by rw [s1]; rfl)
  have e2 : (own_sb 2 v &&& (255 : Int32)).toInt = v.toInt / 65536 % 256 := (own_byte _).trans (by rw [s2]; rfl)
  have e3 : (own_sb 3 v &&& (255 : Int32)).toInt = v.toInt / 16777216 % 256 := (own_byte _).trans (by rw [s3]; rfl)
  have rv := rng32 v
  unfold own_get
  generalize (own_sb 0 v &&& (255 : Int32)) = b0 at *
  generalize (own_sb 1 v &&& (255 : Int32)) = b1 at *
  generalize (own_sb 2 v &&& (255 : Int32)) = b2 at *
  generalize (own_sb 3 v &&& (255 : Int32)) = b3 at *
  rcases hW with rfl | rfl | rfl | rfl
  · have w : (own_widest 1).toInt = 255 := rfl
    refine own_i32 ?_
    rw [if_pos rfl]
    omega
  · have w : (own_widest 2).toInt = 65535 := rfl
    refine own_i32 ?_
    rw [if_neg (by decide), if_pos rfl]
    have l1 := own_shl b1 8 8 (by decide) (by omega) (by omega)
    have o1 := own_or b0 (b1 <<< ((8 : Int32) &&& 31)) 8 b1.toInt.toNat (by omega) (by omega) (by rw [l1]; omega)
    omega
  · have w : (own_widest 3).toInt = 16777215 := rfl
    refine own_i32 ?_
    rw [if_neg (by decide), if_neg (by decide), if_pos rfl]
    have l1 := own_shl b1 8 8 (by decide) (by omega) (by omega)
    have o1 := own_or b0 (b1 <<< ((8 : Int32) &&& 31)) 8 b1.toInt.toNat (by omega) (by omega) (by rw [l1]; omega)
    have l2 := own_shl b2 16 16 (by decide) (by omega) (by omega)
    have o2 := own_or (b0 ||| (b1 <<< ((8 : Int32) &&& 31))) (b2 <<< ((16 : Int32) &&& 31)) 16 b2.toInt.toNat (by omega) (by omega) (by rw [l2]; omega)
    omega
  · have w : (own_widest 4).toInt = 2147483647 := rfl
    refine own_i32 ?_
    rw [if_neg (by decide), if_neg (by decide), if_neg (by decide)]
    have l1 := own_shl b1 8 8 (by decide) (by omega) (by omega)
    have o1 := own_or b0 (b1 <<< ((8 : Int32) &&& 31)) 8 b1.toInt.toNat (by omega) (by omega) (by rw [l1]; omega)
    have l2 := own_shl b2 16 16 (by decide) (by omega) (by omega)
    have o2 := own_or (b0 ||| (b1 <<< ((8 : Int32) &&& 31))) (b2 <<< ((16 : Int32) &&& 31)) 16 b2.toInt.toNat (by omega) (by omega) (by rw [l2]; omega)
    have l3 := own_shl b3 24 24 (by decide) (by omega) (by omega)
    have o3 := own_or ((b0 ||| (b1 <<< ((8 : Int32) &&& 31))) ||| (b2 <<< ((16 : Int32) &&& 31))) (b3 <<< ((24 : Int32) &&& 31)) 24 b3.toInt.toNat (by omega) (by omega) (by rw [l3]; omega)
    omega
theorem own_isW_ok {v w : Int32} (h : own_isW v w) : own_okW w := by
  rcases h with ⟨_, h⟩ | ⟨_, _, h⟩ | ⟨_, _, h⟩ | ⟨_, h⟩
  · exact Or.inl h
  · exact Or.inr (Or.inl h)
  · exact Or.inr (Or.inr (Or.inl h))
  · exact Or.inr (Or.inr (Or.inr h))
theorem own_isW_le {v w : Int32} (h : own_isW v w) : v.toInt ≤ (own_widest w).toInt := by
  have rv := rng32 v
  rcases h with ⟨h1, rfl⟩ | ⟨_, h1, rfl⟩ | ⟨_, h1, rfl⟩ | ⟨_, rfl⟩
  · show v.toInt ≤ 255; omega
  · show v.toInt ≤ 65535; omega
  · show v.toInt ≤ 16777215; omega
  · show v.toInt ≤ 2147483647; omega
theorem own_isW_gt {v w W : Int32} (h : own_isW v w) (hW : own_okW W) (hv : (own_widest W).toInt < v.toInt) : W < w := by
  have rv := rng32 v
  have w1 : (own_widest 1).toInt = 255 := rfl
  have w2 : (own_widest 2).toInt = 65535 := rfl
  have w3 : (own_widest 3).toInt = 16777215 := rfl
  have w4 : (own_widest 4).toInt = 2147483647 := rfl
  rcases hW with rfl | rfl | rfl | rfl <;> rcases h with ⟨h1, rfl⟩ | ⟨h0, h1, rfl⟩ | ⟨h0, h1, rfl⟩ | ⟨h1, rfl⟩ <;> first | decide | (exfalso; omega)

theorem own_div (r : Int32) (v : Int32) (hP : own_P v r) (hv : 0 ≤ v.toInt) : own_isW v (if (1 : Int32) < (((32 : Int32) - r) + (7 : Int32)) / (8 : Int32) then (((32 : Int32) - r) + (7 : Int32)) / (8 : Int32) else 1) := by
  obtain ⟨h1, h2, h3, h4⟩ := hP
  have rr : 0 ≤ r.toInt ∧ r.toInt ≤ 32 := by
    by_cases q1 : v.toInt < 256
    · have := h1 q1; omega
    · by_cases q2 : v.toInt < 65536
      · have := h2 (by omega) q2; omega
      · by_cases q3 : v.toInt < 16777216
        · have := h3 (by omega) q3; omega
        · have := h4 (by omega); omega
  have e32 : (32 : Int32).toInt = 32 := rfl
  have e7 : (7 : Int32).toInt = 7 := rfl
  have e8 : (8 : Int32).toInt = 8 := rfl
  have e1 : (1 : Int32).toInt = 1 := rfl
  have s1 := c_isub 32 r
  have t1 := rng32 ((32 : Int32) - r)
  have s2 := c_iadd ((32 : Int32) - r) 7
  have t2 := rng32 (((32 : Int32) - r) + (7 : Int32))
  have s3 := (c_idiv (((32 : Int32) - r) + (7 : Int32)) 8 8 rfl (by decide)).1 (by omega)
  generalize (((32 : Int32) - r) + (7 : Int32)) / (8 : Int32) = q at *
  have eq : q.toInt = (39 - r.toInt) / 8 := by omega
  have c1 : ((1 : Int32) < q) = (1 < q.toInt) := by rw [Int32.lt_iff_toInt_lt, e1]
  by_cases q1 : v.toInt < 256
  · have := h1 q1
    rw [if_neg (by rw [c1]; omega)]
    exact Or.inl ⟨q1, rfl⟩
  · by_cases q2 : v.toInt < 65536
    · have := h2 (by omega) q2
      rw [if_pos (by rw [c1]; omega)]
      exact Or.inr (Or.inl ⟨by omega, q2, own_i32 (show q.toInt = 2 by omega)⟩)
    · by_cases q3 : v.toInt < 16777216
      · have := h3 (by omega) q3
        rw [if_pos (by rw [c1]; omega)]
        exact Or.inr (Or.inr (Or.inl ⟨by omega, q3, own_i32 (show q.toInt = 3 by omega)⟩))
      · have := h4 (by omega)
        rw [if_pos (by rw [c1]; omega)]
        exact Or.inr (Or.inr (Or.inr ⟨by omega, own_i32 (show q.toInt = 4 by omega)⟩))
def own_ok2 (p : Int32) : Prop := p = 0 ∨ p = 1 ∨ p = 2
def own_ix (p W : Int32) : Nat := p.toNatClampNeg * W.toNatClampNeg
theorem own_idx (p W : Int32) (hp : own_ok2 p) (hW : own_okW W) :
    ((p &&& (65535 : Int32)) * W).toNatClampNeg = own_ix p W ∧ (((p &&& (65535 : Int32)) * W) + (1 : Int32)).toNatClampNeg = own_ix p W + 1 ∧ (((p &&& (65535 : Int32)) * W) + (2 : Int32)).toNatClampNeg = own_ix p W + 2 ∧ (((p &&& (65535 : Int32)) * W) + (3 : Int32)).toNatClampNeg = own_ix p W + 3 ∧
    ¬ (((p &&& (65535 : Int32)) * W) < 0) ∧ ¬ ((((p &&& (65535 : Int32)) * W) + (1 : Int32)) < 0) ∧ ¬ ((((p &&& (65535 : Int32)) * W) + (2 : Int32)) < 0) ∧ ¬ ((((p &&& (65535 : Int32)) * W) + (3 : Int32)) < 0) ∧
    own_ix p W + W.toNatClampNeg ≤ 12 ∧ own_ix p W + 3 < ((64 : Int32) * W).toNatClampNeg ∧ ((p.toUInt32 >>> ((16 : Int32) &&& 31).toUInt32).toInt32) = 0 := by
  rcases hp with rfl | rfl | rfl <;> rcases hW with rfl | rfl | rfl | rfl <;> decide
theorem own_64 (W : Int32) (hW : own_okW W) : ¬ (((64 : Int32) * W) < 0) ∧ ((64 : Int32) * W).toNatClampNeg ≤ 256 ∧ 12 ≤ ((64 : Int32) * W).toNatClampNeg ∧ ((64 : Int32) * W) / W = 64 ∧ ¬ (W = 0) := by
  rcases hW with rfl | rfl | rfl | rfl <;> decide
def Pg (Z : State) (h : Heap) (pg : Addr) (z : Int32) (B : Nat → Int32) : Prop := ∃ cl : Cell, Arr Z h pg cl .byte ∧ cl.slots.size = z.toNatClampNeg ∧ ∀ i, i < 12 → cl.slots[i]? = some (.int (B i))
def own_p1 (B : Nat → Int32) (j : Nat) (x : Int32) : Nat → Int32 := fun i => if i = j then x else B i
theorem Pg.ext {Z : State} {h h' : Heap} {pg : Addr} {z : Int32} {B : Nat → Int32} (P : Pg Z h pg z B) (E : Ext h h') : Pg Z h' pg z B := by
  obtain ⟨cl, A, r⟩ := P; exact ⟨cl, A.ext E, r⟩
theorem Pg.other {Z : State} {h h' : Heap} {pg a : Addr} {z : Int32} {B : Nat → Int32} {sl : Nat} {v : Value} (P : Pg Z h pg z B) (W : Wr h h' a sl v) (q : pg ≠ a) : Pg Z h' pg z B := by
  obtain ⟨cl, A, r⟩ := P; exact ⟨cl, A.other W q, r⟩
theorem Pg.keep {Z : State} {h h' : Heap} {pg : Addr} {z : Int32} {B : Nat → Int32} {ws : List Addr} (P : Pg Z h pg z B) (K : Keep h h' ws) (q : pg ∉ ws) : Pg Z h' pg z B := by
  obtain ⟨cl, A, r⟩ := P; exact ⟨cl, ⟨K.2.1 pg cl A.1 q, A.2⟩, r⟩
theorem Pg.wr {Z : State} {h h' : Heap} {pg : Addr} {z x : Int32} {B : Nat → Int32} {j : Nat} (P : Pg Z h pg z B) (W : Wr h h' pg j (.int x)) : Pg Z h' pg z (own_p1 B j x) := by
  obtain ⟨cl, A, s, c⟩ := P
  refine ⟨_, A.same W, by rw [sz_set]; exact s, fun i hi => ?_⟩
  obtain ⟨cell, w1, w2, w3, w4⟩ := W
  cases A.1.symm.trans w1
  by_cases e : i = j
  · subst e
    simp [Cell.setSlot, own_p1, w3]
  · have := c i hi
    simp only [Cell.setSlot, own_p1, if_neg e]
    rw [Array.getElem?_setIfInBounds_ne (Ne.symm e)]; exact this
theorem Pg.new {Z : State} {h : Heap} {pg : Addr} {k : ClassId} {z : Int32} (A : Arr Z h pg (newA k .byte z) .byte) (hz : ¬ z < 0) (h12 : 12 ≤ z.toNatClampNeg) : Pg Z h pg z (fun _ => 0) := by
  obtain ⟨c, A', q1, S, q3, H, G⟩ := Arv.new A hz
  refine ⟨c, A', S, fun i hi => ?_⟩
  rw [H i (by omega)]
  simp [defaultValue]
def own_Enc (W : Int32) (B : Nat → Int32) (n : Nat) (vals : Nat → Int32) : Prop := ∀ i, i < n → ∀ k, k < W.toNatClampNeg → B (i * W.toNatClampNeg + k) = own_sb k (vals i)
def own_putB (W : Int32) (B : Nat → Int32) (i : Nat) (v : Int32) : Nat → Int32 :=
  if W = 1 then own_p1 B i (own_sb 0 v)
  else if W = 2 then own_p1 (own_p1 B i (own_sb 0 v)) (i + 1) (own_sb 1 v)
  else if W = 3 then own_p1 (own_p1 (own_p1 B i (own_sb 0 v)) (i + 1) (own_sb 1 v)) (i + 2) (own_sb 2 v)
  else own_p1 (own_p1 (own_p1 (own_p1 B i (own_sb 0 v)) (i + 1) (own_sb 1 v)) (i + 2) (own_sb 2 v)) (i + 3) (own_sb 3 v)
theorem own_putAt (W : Int32) (hW : own_okW W) (B : Nat → Int32) (i j : Nat) (v : Int32) : own_putB W B i v j = if i ≤ j ∧ j < i + W.toNatClampNeg then own_sb (j - i) v else B j := by
  rcases hW with rfl | rfl | rfl | rfl
  · have e : (1 : Int32).toNatClampNeg = 1 := rfl
    simp only [own_putB, if_pos, own_p1, e]
    by_cases q : j = i
    · subst q; simp
    · rw [if_neg q, if_neg (by omega)]
  · have e : (2 : Int32).toNatClampNeg = 2 := rfl
    simp only [own_putB, show ¬ ((2 : Int32) = 1) by decide, if_false, if_true, own_p1, e]
    by_cases q : j = i + 1
    · subst q; simp [show i + 1 - i = 1 by omega]
    · rw [if_neg q]
      by_cases q : j = i
      · subst q; simp
      · rw [if_neg q, if_neg (by omega)]
  · have e : (3 : Int32).toNatClampNeg = 3 := rfl
    simp only [own_putB, show ¬ ((3 : Int32) = 1) by decide, show ¬ ((3 : Int32) = 2) by decide, if_false, if_true, own_p1, e]
    by_cases q : j = i + 2
    · subst q; simp [show i + 2 - i = 2 by omega]
    · rw [if_neg q]
      by_cases q : j = i + 1
      · subst q; simp [show i + 1 - i = 1 by omega]
      · rw [if_neg q]
        by_cases q : j = i
        · subst q; simp
        · rw [if_neg q, if_neg (by omega)]
  · have e : (4 : Int32).toNatClampNeg = 4 := rfl
    simp only [own_putB, show ¬ ((4 : Int32) = 1) by decide, show ¬ ((4 : Int32) = 2) by decide, show ¬ ((4 : Int32) = 3) by decide, if_false, own_p1, e]
    by_cases q : j = i + 3
    · subst q; simp [show i + 3 - i = 3 by omega]
    · rw [if_neg q]
      by_cases q : j = i + 2
      · subst q; simp [show i + 2 - i = 2 by omega]
      · rw [if_neg q]
        by_cases q : j = i + 1
        · subst q; simp [show i + 1 - i = 1 by omega]
        · rw [if_neg q]
          by_cases q : j = i
          · subst q; simp
          · rw [if_neg q, if_neg (by omega)]
theorem own_encPut {W : Int32} (hW : own_okW W) {B : Nat → Int32} {n : Nat} {vals : Nat → Int32} (h : own_Enc W B n vals) : own_Enc W (own_putB W B (n * W.toNatClampNeg) (vals n)) (n + 1) vals := by
  intro i hi k hk
  rw [own_putAt W hW]
  by_cases q : i = n
  · subst q
    rw [if_pos (by omega), show i * W.toNatClampNeg + k - i * W.toNatClampNeg = k by omega]
  · have hin : i < n := by omega
    have : (i + 1) * W.toNatClampNeg ≤ n * W.toNatClampNeg := Nat.mul_le_mul_right _ hin
    rw [Nat.add_mul, Nat.one_mul] at this
    rw [if_neg (by omega)]
    exact h i hin k hk
theorem own_getEnc {W : Int32} (hW : own_okW W) {B : Nat → Int32} {n : Nat} {vals : Nat → Int32} (h : own_Enc W B n vals) (i : Nat) (hi : i < n) (h0 : 0 ≤ (vals i).toInt) (h1 : (vals i).toInt ≤ (own_widest W).toInt) :
    own_get W (B (i * W.toNatClampNeg)) (B (i * W.toNatClampNeg + 1)) (B (i * W.toNatClampNeg + 2)) (B (i * W.toNatClampNeg + 3)) = vals i := by
  have r := own_round (vals i) W hW h0 h1
  have e := h i hi
  rcases hW with rfl | rfl | rfl | rfl
  · have w : (1 : Int32).toNatClampNeg = 1 := rfl
    rw [w] at e ⊢
    have e0 := e 0 (by decide)
    simp only [Nat.add_zero] at e0
    rw [e0]
    unfold own_get at r ⊢
    rw [if_pos rfl] at r ⊢
    exact r
  · have w : (2 : Int32).toNatClampNeg = 2 := rfl
    rw [w] at e ⊢
    have e0 := e 0 (by decide)
    simp only [Nat.add_zero] at e0
    rw [e0, e 1 (by decide)]
    unfold own_get at r ⊢
    rw [if_neg (by decide), if_pos rfl] at r ⊢
    exact r
  · have w : (3 : Int32).toNatClampNeg = 3 := rfl
    rw [w] at e ⊢
    have e0 := e 0 (by decide)
    simp only [Nat.add_zero] at e0
    rw [e0, e 1 (by decide), e 2 (by decide)]
    unfold own_get at r ⊢
    rw [if_neg (by decide), if_neg (by decide), if_pos rfl] at r ⊢
    exact r
  · have w : (4 : Int32).toNatClampNeg = 4 := rfl
    rw [w] at e ⊢
    have e0 := e 0 (by decide)
    simp only [Nat.add_zero] at e0
    rw [e0, e 1 (by decide), e 2 (by decide), e 3 (by decide)]; exact r

theorem own_fld {s : State} {args : Array Value} {t : Term} {a : Addr} {C n d : String} {k : Int32} (ht : t.eval args s none [] s = some (.ref a)) (h : (Jvm.Cond.eq (.field t C n d) (.int k)).value args s none s [] = some true) : Fld s s.heap a C n d (.int k) := by
  refine Fld.start ?_
  have e := fld_at (C := C) (n := n) (dd := d) ht
  obtain ⟨x, y, h1, h2, h3, h4⟩ := cmp_v (Or.inl h)
  obtain rfl : y = .int k := (Option.some.inj (h2.symm.trans (Term.int_eval k)))
  obtain ⟨z, rfl⟩ := h4
  rw [← e, h1]
  simp only [Cond.value, h1, h2] at h
  simpa using h
theorem own_st {s : State} {args : Array Value} {C n d K : String} (h : (Jvm.Cond.exactly (.static C n d) K).value args s none s [] = some true) (hi : (Jvm.Cond.initialized C).before args s = true) (hl : (Jvm.Cond.laysStatic C n d).before args s = true) :
    ∃ a, (Term.static C n d).eval args s none [] s = some (.ref a) ∧ Sta s s.heap C n d (.ref a) ∧ Exa s s.heap a K := by
  obtain ⟨a, ev⟩ := exa_v h
  exact ⟨a, ev, Sta.start ev (Or.inr ⟨hi, hl⟩), Exa.start ev h⟩
def Q3 (r : Int32) (h0 : Heap) (n0 : Nat) (v : Option Value) (h : Heap) (L : List Loc) : Prop := v = some (.int r) ∧ Fr n0 L ∧ h = h0
def Q7 (r : Int32) (h0 : Heap) (n0 : Nat) (v : Option Value) (h : Heap) (L : List Loc) : Prop := v = some (.int r) ∧ Fr n0 L ∧ h = h0
def Q8 (r : Int64) (h0 : Heap) (n0 : Nat) (v : Option Value) (h : Heap) (L : List Loc) : Prop := v = some (.long r) ∧ Fr n0 L ∧ h = h0
def Q11 (r : Int32) (h0 : Heap) (n0 : Nat) (v : Option Value) (h : Heap) (L : List Loc) : Prop := v = some (.int r) ∧ Fr n0 L ∧ h = h0
theorem d3_0 : decode prog_4_method_7_code 0 = .ok (.iload_n 0, 1) := by decide +kernel
theorem d3_1 : decode prog_4_method_7_code 1 = .ok (.iconst 4, 1) := by decide +kernel
theorem d3_2 : decode prog_4_method_7_code 2 = .ok (.if_icmp .ne 8, 3) := by decide +kernel
theorem d3_5 : decode prog_4_method_7_code 5 = .ok (.ldc 47, 2) := by decide +kernel
theorem d3_7 : decode prog_4_method_7_code 7 = .ok (.goto 11, 3) := by decide +kernel
theorem d3_18 : decode prog_4_method_7_code 18 = .ok (.ireturn, 1) := by decide +kernel
theorem pn_3 : plainName "com/example/agave_bloom/agavebloom/check/CompactInts" = true := by first | (simp [plainName, overriddenIn]; done) | decide +kernel
theorem ef_3 (m : MethodId) (x0 : Int32) : entryFrame m #[(.int x0)] 1 = mkF m 0 #[.val (.int x0)] [] := by first | (simp [entryFrame, mkF, argsToLocals, Value.category]; done) | rfl
set_option maxRecDepth 65536 in
set_option maxHeartbeats 40000000 in
theorem rm3_f (l : Launch) (Z : State) (a0 : Array Value) (hw : ∀ d ∈ tables_1, d.before a0 Z = true) (ws : List Jvm.Cond) (p1 : Int32) (h0 : Heap) (n0 : Nat) (Z0 : n0 ≤ h0.size) (hc2 : p1 = (4 : Int32)) :
    MetFree l (⟨"com/example/agave_bloom/agavebloom/check/CompactInts", "_widest", "(I)I"⟩ : MethodName) (head1 (Jvm.Cond.code (⟨"com/example/agave_bloom/agavebloom/check/CompactInts", "_widest", "(I)I"⟩ : MethodName) prog_4_method_7_code 1 (some .int) :: ws) ({ frames := 0, cells := 0, slots := 0, locals := 0 } : Room)) (fun a U => a = #[(.int p1)] ∧ Z.Warmed39 U.vm ∧ U.heap = h0) (fun _ _ _ _ _ => True) (fun _ U o U' => ∃ v L, o = .returned v ∧ Q3 ((2147483647 : Int32)) h0 n0 v U'.heap L ∧ FrameEnd U o U' L ({ frames := 0, cells := 0, slots := 0, locals := 0 } : Room).cells ({ frames := 0, cells := 0, slots := 0, locals := 0 } : Room).slots) := by
  refine MetFree.of_bodySF (plainFor_of_name pn_3) hisR ?_
  intro p e s m args below meth c s₁ Bd hml0 hP hK
  obtain ⟨rfl, hZ, hh⟩ := hP
  have hx := Bd.exec
  have hby := Bd.bytes
  have hml : c.maxLocals = 1 := hml0
  have hown : s.vm.findClass "com/example/agave_bloom/agavebloom/check/CompactInts" = some m.cls := findClass_of_methodNamed Bd.named
  have hnm := (name_of_methodNamed Bd.named Bd.method).1
  have X0 : Stand p l e ({ frames := 0, cells := 0, slots := 0, locals := 0 } : Room) s m #[(.int p1)] below meth c s₁ [] 0 0 := Stand.of_body Bd
  have e0 : s₁.heap = h0 := by rw [← hh, Bd.state]; rfl
  have N0 := Fr.nil n0
  have pre0 : ∀ t, Steps p.tables e below (s₁.setTop (mkF m 0 #[.val (.int p1)] [])) t → Steps p.tables e below (s₁.setTop (entryFrame m #[(.int p1)] 1)) t := fun t k => castTop (ef_3 m p1) k

  obtain ⟨fs, hr, hrun, hended, hW, hsame⟩ := X0.leave (v := some (.int (2147483647 : Int32))) (fun h => by rw [Bd.returns] at h; cases h)
  refine ⟨_, _, pre0 _ ?_, hrun, hended, _, _, rfl, ?_, ⟨_, rfl⟩, hW, hsame.mono (by decide) (by decide)⟩
  · show Steps p.tables e below (s₁.setTop (mkF m 0 #[.val (.int p1)] [])) _
    refine XS.iloadN X0.here hx rfl (hb hby d3_0) rfl ?_
    show Steps p.tables e below (s₁.setTop (mkF m 1 #[.val (.int p1)] [(.int p1)])) _
    refine XS.iconst X0.here hx rfl (hb hby d3_1) ?_
    show Steps p.tables e below (s₁.setTop (mkF m 2 #[.val (.int p1)] [(.int (4 : Int32)), (.int p1)])) _
    refine XS.icmpNo X0.here hx rfl (hb hby d3_2) rfl (teq hc2).2 ?_
    show Steps p.tables e below (s₁.setTop (mkF m 5 #[.val (.int p1)] [])) _
    refine X0.ldcInt hx hown (mvT hZ (hw _ (List.mem_of_getElem? (i := 30) rfl))) (g := (mkF m 5 #[.val (.int p1)] [])) rfl (hb hby d3_5) _ ?_
    show Steps p.tables e below (s₁.setTop (mkF m 7 #[.val (.int p1)] [(.int (2147483647 : Int32))])) _
    refine XS.goto X0.here hx rfl (pc0 := 7) (pc' := 18) rfl (hb hby d3_7) (by decide) (by decide) ?_
    show Steps p.tables e below (s₁.setTop (mkF m 18 #[.val (.int p1)] [(.int (2147483647 : Int32))])) _
    exact retI X0 hx Bd.returns (hb hby d3_18) hr
  · show Q3 ((2147483647 : Int32)) h0 n0 _ s₁.heap _
    rw [e0]
    exact ⟨rfl, N0, rfl⟩
theorem d3_10 : decode prog_4_method_7_code 10 = .ok (.iconst 1, 1) := by decide +kernel
theorem d3_11 : decode prog_4_method_7_code 11 = .ok (.iload_n 0, 1) := by decide +kernel
theorem d3_12 : decode prog_4_method_7_code 12 = .ok (.bipush 8, 2) := by decide +kernel
theorem d3_14 : decode prog_4_method_7_code 14 = .ok (.imul, 1) := by decide +kernel
theorem d3_15 : decode prog_4_method_7_code 15 = .ok (.ishl, 1) := by decide +kernel
theorem d3_16 : decode prog_4_method_7_code 16 = .ok (.iconst 1, 1) := by decide +kernel
theorem d3_17 : decode prog_4_method_7_code 17 = .ok (.isub, 1) := by decide +kernel
set_option maxRecDepth 65536 in
set_option maxHeartbeats 40000000 in
theorem rm3_t (l : Launch) (Z : State) (a0 : Array Value) (hw : ∀ d ∈ tables_1, d.before a0 Z = true) (ws : List Jvm.Cond) (p1 : Int32) (h0 : Heap) (n0 : Nat) (Z0 : n0 ≤ h0.size) (hc2 : ¬ (p1 = (4 : Int32))) :
    MetFree l (⟨"com/example/agave_bloom/agavebloom/check/CompactInts", "_widest", "(I)I"⟩ : MethodName) (head1 (Jvm.Cond.code (⟨"com/example/agave_bloom/agavebloom/check/CompactInts", "_widest", "(I)I"⟩ : MethodName) prog_4_method_7_code 1 (some .int) :: ws) ({ frames := 0, cells := 0, slots := 0, locals := 0 } : Room)) (fun a U => a = #[(.int p1)] ∧ Z.Warmed39 U.vm ∧ U.heap = h0) (fun _ _ _ _ _ => True) (fun _ U o U' => ∃ v L, o = .returned v ∧ Q3 ((((1 : Int32) <<< ((p1 * (8 : Int32)) &&& 31)) - (1 : Int32))) h0 n0 v U'.heap L ∧ FrameEnd U o U' L ({ frames := 0, cells := 0, slots := 0, locals := 0 } : Room).cells ({ frames := 0, cells := 0, slots := 0, locals := 0 } : Room).slots) := by
  refine MetFree.of_bodySF (plainFor_of_name pn_3) hisR ?_
  intro p e s m args below meth c s₁ Bd hml0 hP hK
  obtain ⟨rfl, hZ, hh⟩ := hP
  have hx := Bd.exec
  have hby := Bd.bytes
  have hml : c.maxLocals = 1 := hml0
  have hown : s.vm.findClass "com/example/agave_bloom/agavebloom/check/CompactInts" = some m.cls := findClass_of_methodNamed Bd.named
  have hnm := (name_of_methodNamed Bd.named Bd.method).1
  have X0 : Stand p l e ({ frames := 0, cells := 0, slots := 0, locals := 0 } : Room) s m #[(.int p1)] below meth c s₁ [] 0 0 := Stand.of_body Bd
  have e0 : s₁.heap = h0 := by rw [← hh, Bd.state]; rfl
  have N0 := Fr.nil n0
  have pre0 : ∀ t, Steps p.tables e below (s₁.setTop (mkF m 0 #[.val (.int p1)] [])) t → Steps p.tables e below (s₁.setTop (entryFrame m #[(.int p1)] 1)) t := fun t k => castTop (ef_3 m p1) k

  obtain ⟨fs, hr, hrun, hended, hW, hsame⟩ := X0.leave (v := some (.int (((1 : Int32) <<< ((p1 * (8 : Int32)) &&& 31)) - (1 : Int32)))) (fun h => by rw [Bd.returns] at h; cases h)
  refine ⟨_, _, pre0 _ ?_, hrun, hended, _, _, rfl, ?_, ⟨_, rfl⟩, hW, hsame.mono (by decide) (by decide)⟩
  · show Steps p.tables e below (s₁.setTop (mkF m 0 #[.val (.int p1)] [])) _
    refine XS.iloadN X0.here hx rfl (hb hby d3_0) rfl ?_
    show Steps p.tables e below (s₁.setTop (mkF m 1 #[.val (.int p1)] [(.int p1)])) _
    refine XS.iconst X0.here hx rfl (hb hby d3_1) ?_
    show Steps p.tables e below (s₁.setTop (mkF m 2 #[.val (.int p1)] [(.int (4 : Int32)), (.int p1)])) _
    refine XS.icmpYes X0.here hx rfl (pc0 := 2) (pc' := 10) rfl (hb hby d3_2) rfl (feq hc2).2 (by decide) (by decide) ?_
    show Steps p.tables e below (s₁.setTop (mkF m 10 #[.val (.int p1)] [])) _
    refine XS.iconst X0.here hx rfl (hb hby d3_10) ?_
    show Steps p.tables e below (s₁.setTop (mkF m 11 #[.val (.int p1)] [(.int (1 : Int32))])) _
    refine XS.iloadN X0.here hx rfl (hb hby d3_11) rfl ?_
    show Steps p.tables e below (s₁.setTop (mkF m 12 #[.val (.int p1)] [(.int p1), (.int (1 : Int32))])) _
    refine XS.bipush X0.here hx rfl (hb hby d3_12) ?_
    show Steps p.tables e below (s₁.setTop (mkF m 14 #[.val (.int p1)] [(.int (8 : Int32)), (.int p1), (.int (1 : Int32))])) _
    refine XS.imul X0.here hx rfl (hb hby d3_14) rfl ?_
    show Steps p.tables e below (s₁.setTop (mkF m 15 #[.val (.int p1)] [(.int (p1 * (8 : Int32))), (.int (1 : Int32))])) _
    refine XS.ishl X0.here hx rfl (hb hby d3_15) rfl ?_
    show Steps p.tables e below (s₁.setTop (mkF m 16 #[.val (.int p1)] [(.int ((1 : Int32) <<< ((p1 * (8 : Int32)) &&& 31)))])) _
    refine XS.iconst X0.here hx rfl (hb hby d3_16) ?_
    show Steps p.tables e below (s₁.setTop (mkF m 17 #[.val (.int p1)] [(.int (1 : Int32)), (.int ((1 : Int32) <<< ((p1 * (8 : Int32)) &&& 31)))])) _
    refine XS.isub X0.here hx rfl (hb hby d3_17) rfl ?_
    show Steps p.tables e below (s₁.setTop (mkF m 18 #[.val (.int p1)] [(.int (((1 : Int32) <<< ((p1 * (8 : Int32)) &&& 31)) - (1 : Int32)))])) _
    exact retI X0 hx Bd.returns (hb hby d3_18) hr
  · show Q3 ((((1 : Int32) <<< ((p1 * (8 : Int32)) &&& 31)) - (1 : Int32))) h0 n0 _ s₁.heap _
    rw [e0]
    exact ⟨rfl, N0, rfl⟩
theorem rm3 (l : Launch) (Z : State) (a0 : Array Value) (hw : ∀ d ∈ tables_1, d.before a0 Z = true) (ws : List Jvm.Cond) (p1 : Int32) (h0 : Heap) (n0 : Nat) (Z0 : n0 ≤ h0.size) (hW : own_okW p1) :
    MetFree l (⟨"com/example/agave_bloom/agavebloom/check/CompactInts", "_widest", "(I)I"⟩ : MethodName) (head1 (Jvm.Cond.code (⟨"com/example/agave_bloom/agavebloom/check/CompactInts", "_widest", "(I)I"⟩ : MethodName) prog_4_method_7_code 1 (some .int) :: ws) ({ frames := 0, cells := 0, slots := 0, locals := 0 } : Room)) (fun a U => a = #[(.int p1)] ∧ Z.Warmed39 U.vm ∧ U.heap = h0) (fun _ _ _ _ _ => True) (fun _ U o U' => ∃ v L, o = .returned v ∧ Q3 (own_widest p1) h0 n0 v U'.heap L ∧ FrameEnd U o U' L ({ frames := 0, cells := 0, slots := 0, locals := 0 } : Room).cells ({ frames := 0, cells := 0, slots := 0, locals := 0 } : Room).slots) := by
  rcases hW with rfl | rfl | rfl | rfl
  · exact rm3_t l Z a0 hw ws 1 h0 n0 Z0 (by decide)
  · exact rm3_t l Z a0 hw ws 2 h0 n0 Z0 (by decide)
  · exact rm3_t l Z a0 hw ws 3 h0 n0 Z0 (by decide)
  · exact rm3_f l Z a0 hw ws 4 h0 n0 Z0 rfl
theorem d7_0 : decode jdk_29_method_65_code 0 = .ok (.iload_n 0, 1) := by decide +kernel
theorem d7_1 : decode jdk_29_method_65_code 1 = .ok (.iload_n 1, 1) := by decide +kernel
theorem d7_2 : decode jdk_29_method_65_code 2 = .ok (.if_icmp .lt 7, 3) := by decide +kernel
theorem d7_5 : decode jdk_29_method_65_code 5 = .ok (.iload_n 0, 1) := by decide +kernel
theorem d7_6 : decode jdk_29_method_65_code 6 = .ok (.goto 4, 3) := by decide +kernel
theorem d7_10 : decode jdk_29_method_65_code 10 = .ok (.ireturn, 1) := by decide +kernel
theorem ef_7 (m : MethodId) (x0 : Int32) (x1 : Int32) : entryFrame m #[(.int x0), (.int x1)] 2 = mkF m 0 #[.val (.int x0), .val (.int x1)] [] := by first | (simp [entryFrame, mkF, argsToLocals, Value.category]; done) | rfl
set_option maxRecDepth 65536 in
set_option maxHeartbeats 40000000 in
theorem rm7_f (l : Launch) (Z : State) (a0 : Array Value) (hw : ∀ d ∈ tables_1, d.before a0 Z = true) (ws : List Jvm.Cond) (p1 : Int32) (p2 : Int32) (h0 : Heap) (n0 : Nat) (Z0 : n0 ≤ h0.size) (hc2 : ¬ (p1 < p2)) :
    MetFree l (⟨"java/lang/Math", "max", "(II)I"⟩ : MethodName) (head1 (Jvm.Cond.code (⟨"java/lang/Math", "max", "(II)I"⟩ : MethodName) jdk_29_method_65_code 2 (some .int) :: ws) ({ frames := 0, cells := 0, slots := 0, locals := 0 } : Room)) (fun a U => a = #[(.int p1), (.int p2)] ∧ Z.Warmed39 U.vm ∧ U.heap = h0) (fun _ _ _ _ _ => True) (fun _ U o U' => ∃ v L, o = .returned v ∧ Q7 (p1) h0 n0 v U'.heap L ∧ FrameEnd U o U' L ({ frames := 0, cells := 0, slots := 0, locals := 0 } : Room).cells ({ frames := 0, cells := 0, slots := 0, locals := 0 } : Room).slots) := by
  refine MetFree.of_bodySF (Jvm.Free.JP.mathPlain rfl (by decide +kernel)) hisR ?_
  intro p e s m args below meth c s₁ Bd hml0 hP hK
  obtain ⟨rfl, hZ, hh⟩ := hP
  have hx := Bd.exec
  have hby := Bd.bytes
  have hml : c.maxLocals = 2 := hml0
  have hown : s.vm.findClass "java/lang/Math" = some m.cls := findClass_of_methodNamed Bd.named
  have hnm := (name_of_methodNamed Bd.named Bd.method).1
  have X0 : Stand p l e ({ frames := 0, cells := 0, slots := 0, locals := 0 } : Room) s m #[(.int p1), (.int p2)] below meth c s₁ [] 0 0 := Stand.of_body Bd
  have e0 : s₁.heap = h0 := by rw [← hh, Bd.state]; rfl
  have N0 := Fr.nil n0
  have pre0 : ∀ t, Steps p.tables e below (s₁.setTop (mkF m 0 #[.val (.int p1), .val (.int p2)] [])) t → Steps p.tables e below (s₁.setTop (entryFrame m #[(.int p1), (.int p2)] 2)) t := fun t k => castTop (ef_7 m p1 p2) k

  obtain ⟨fs, hr, hrun, hended, hW, hsame⟩ := X0.leave (v := some (.int p1)) (fun h => by rw [Bd.returns] at h; cases h)
  refine ⟨_, _, pre0 _ ?_, hrun, hended, _, _, rfl, ?_, ⟨_, rfl⟩, hW, hsame.mono (by decide) (by decide)⟩
  · show Steps p.tables e below (s₁.setTop (mkF m 0 #[.val (.int p1), .val (.int p2)] [])) _
    refine XS.iloadN X0.here hx rfl (hb hby d7_0) rfl ?_
    show Steps p.tables e below (s₁.setTop (mkF m 1 #[.val (.int p1), .val (.int p2)] [(.int p1)])) _
    refine XS.iloadN X0.here hx rfl (hb hby d7_1) rfl ?_
    show Steps p.tables e below (s₁.setTop (mkF m 2 #[.val (.int p1), .val (.int p2)] [(.int p2), (.int p1)])) _
    refine XS.icmpNo X0.here hx rfl (hb hby d7_2) rfl (flt hc2).1 ?_
    show Steps p.tables e below (s₁.setTop (mkF m 5 #[.val (.int p1), .val (.int p2)] [])) _
    refine XS.iloadN X0.here hx rfl (hb hby d7_5) rfl ?_
    show Steps p.tables e below (s₁.setTop (mkF m 6 #[.val (.int p1), .val (.int p2)] [(.int p1)])) _
    refine XS.goto X0.here hx rfl (pc0 := 6) (pc' := 10) rfl (hb hby d7_6) (by decide) (by decide) ?_
    show Steps p.tables e below (s₁.setTop (mkF m 10 #[.val (.int p1), .val (.int p2)] [(.int p1)])) _
    exact retI X0 hx Bd.returns (hb hby d7_10) hr
  · show Q7 (p1) h0 n0 _ s₁.heap _
    rw [e0]
    exact ⟨rfl, N0, rfl⟩
theorem d7_9 : decode jdk_29_method_65_code 9 = .ok (.iload_n 1, 1) := by decide +kernel
set_option maxRecDepth 65536 in
set_option maxHeartbeats 40000000 in
theorem rm7_t (l : Launch) (Z : State) (a0 : Array Value) (hw : ∀ d ∈ tables_1, d.before a0 Z = true) (ws : List Jvm.Cond) (p1 : Int32) (p2 : Int32) (h0 : Heap) (n0 : Nat) (Z0 : n0 ≤ h0.size) (hc2 : p1 < p2) :
    MetFree l (⟨"java/lang/Math", "max", "(II)I"⟩ : MethodName) (head1 (Jvm.Cond.code (⟨"java/lang/Math", "max", "(II)I"⟩ : MethodName) jdk_29_method_65_code 2 (some .int) :: ws) ({ frames := 0, cells := 0, slots := 0, locals := 0 } : Room)) (fun a U => a = #[(.int p1), (.int p2)] ∧ Z.Warmed39 U.vm ∧ U.heap = h0) (fun _ _ _ _ _ => True) (fun _ U o U' => ∃ v L, o = .returned v ∧ Q7 (p2) h0 n0 v U'.heap L ∧ FrameEnd U o U' L ({ frames := 0, cells := 0, slots := 0, locals := 0 } : Room).cells ({ frames := 0, cells := 0, slots := 0, locals := 0 } : Room).slots) := by
  refine MetFree.of_bodySF (Jvm.Free.JP.mathPlain rfl (by decide +kernel)) hisR ?_
  intro p e s m args below meth c s₁ Bd hml0 hP hK
  obtain ⟨rfl, hZ, hh⟩ := hP
  have hx := Bd.exec
  have hby := Bd.bytes
  have hml : c.maxLocals = 2 := hml0
  have hown : s.vm.findClass "java/lang/Math" = some m.cls := findClass_of_methodNamed Bd.named
  have hnm := (name_of_methodNamed Bd.named Bd.method).1
  have X0 : Stand p l e ({ frames := 0, cells := 0, slots := 0, locals := 0 } : Room) s m #[(.int p1), (.int p2)] below meth c s₁ [] 0 0 := Stand.of_body Bd
  have e0 : s₁.heap = h0 := by rw [← hh, Bd.state]; rfl
  have N0 := Fr.nil n0
  have pre0 : ∀ t, Steps p.tables e below (s₁.setTop (mkF m 0 #[.val (.int p1), .val (.int p2)] [])) t → Steps p.tables e below (s₁.setTop (entryFrame m #[(.int p1), (.int p2)] 2)) t := fun t k => castTop (ef_7 m p1 p2) k

  obtain ⟨fs, hr, hrun, hended, hW, hsame⟩ := X0.leave (v := some (.int p2)) (fun h => by rw [Bd.returns] at h; cases h)
  refine ⟨_, _, pre0 _ ?_, hrun, hended, _, _, rfl, ?_, ⟨_, rfl⟩, hW, hsame.mono (by decide) (by decide)⟩
  · show Steps p.tables e below (s₁.setTop (mkF m 0 #[.val (.int p1), .val (.int p2)] [])) _
    refine XS.iloadN X0.here hx rfl (hb hby d7_0) rfl ?_
    show Steps p.tables e below (s₁.setTop (mkF m 1 #[.val (.int p1), .val (.int p2)] [(.int p1)])) _
    refine XS.iloadN X0.here hx rfl (hb hby d7_1) rfl ?_
    show Steps p.tables e below (s₁.setTop (mkF m 2 #[.val (.int p1), .val (.int p2)] [(.int p2), (.int p1)])) _
    refine XS.icmpYes X0.here hx rfl (pc0 := 2) (pc' := 9) rfl (hb hby d7_2) rfl (tlt hc2).1 (by decide) (by decide) ?_
    show Steps p.tables e below (s₁.setTop (mkF m 9 #[.val (.int p1), .val (.int p2)] [])) _
    refine XS.iloadN X0.here hx rfl (hb hby d7_9) rfl ?_
    show Steps p.tables e below (s₁.setTop (mkF m 10 #[.val (.int p1), .val (.int p2)] [(.int p2)])) _
    exact retI X0 hx Bd.returns (hb hby d7_10) hr
  · show Q7 (p2) h0 n0 _ s₁.heap _
    rw [e0]
    exact ⟨rfl, N0, rfl⟩
theorem rm7 (l : Launch) (Z : State) (a0 : Array Value) (hw : ∀ d ∈ tables_1, d.before a0 Z = true) (ws : List Jvm.Cond) (p1 p2 : Int32) (h0 : Heap) (n0 : Nat) (Z0 : n0 ≤ h0.size) :
    MetFree l (⟨"java/lang/Math", "max", "(II)I"⟩ : MethodName) (head1 (Jvm.Cond.code (⟨"java/lang/Math", "max", "(II)I"⟩ : MethodName) jdk_29_method_65_code 2 (some .int) :: ws) ({ frames := 0, cells := 0, slots := 0, locals := 0 } : Room)) (fun a U => a = #[(.int p1), (.int p2)] ∧ Z.Warmed39 U.vm ∧ U.heap = h0) (fun _ _ _ _ _ => True) (fun _ U o U' => ∃ v L, o = .returned v ∧ Q7 (if p1 < p2 then p2 else p1) h0 n0 v U'.heap L ∧ FrameEnd U o U' L ({ frames := 0, cells := 0, slots := 0, locals := 0 } : Room).cells ({ frames := 0, cells := 0, slots := 0, locals := 0 } : Room).slots) := by
  by_cases hc : p1 < p2
  · rw [if_pos hc]; exact rm7_t l Z a0 hw ws p1 p2 h0 n0 Z0 hc
  · rw [if_neg hc]; exact rm7_f l Z a0 hw ws p1 p2 h0 n0 Z0 hc
theorem d8_0 : decode jdk_29_method_70_code 0 = .ok (.lload_n 0, 1) := by decide +kernel
theorem d8_1 : decode jdk_29_method_70_code 1 = .ok (.lload_n 2, 1) := by decide +kernel
theorem d8_2 : decode jdk_29_method_70_code 2 = .ok (.lcmp, 1) := by decide +kernel
theorem d8_3 : decode jdk_29_method_70_code 3 = .ok (.ifCond .gt 7, 3) := by decide +kernel
theorem d8_10 : decode jdk_29_method_70_code 10 = .ok (.lload_n 2, 1) := by decide +kernel
theorem d8_11 : decode jdk_29_method_70_code 11 = .ok (.lreturn, 1) := by decide +kernel
theorem ef_8 (m : MethodId) (x0 : Int64) (x1 : Int64) : entryFrame m #[(.long x0), (.long x1)] 4 = mkF m 0 #[.val (.long x0), .second, .val (.long x1), .second] [] := by first | (simp [entryFrame, mkF, argsToLocals, Value.category]; done) | rfl
set_option maxRecDepth 65536 in
set_option maxHeartbeats 40000000 in
theorem rm8_t (l : Launch) (Z : State) (a0 : Array Value) (hw : ∀ d ∈ tables_1, d.before a0 Z = true) (ws : List Jvm.Cond) (q1 : Int64) (q2 : Int64) (h0 : Heap) (n0 : Nat) (Z0 : n0 ≤ h0.size) (hc3 : (0 : Int32) < (lcmpW q1 q2)) :
    MetFree l (⟨"java/lang/Math", "min", "(JJ)J"⟩ : MethodName) (head1 (Jvm.Cond.code (⟨"java/lang/Math", "min", "(JJ)J"⟩ : MethodName) jdk_29_method_70_code 4 (some .long) :: ws) ({ frames := 0, cells := 0, slots := 0, locals := 0 } : Room)) (fun a U => a = #[(.long q1), (.long q2)] ∧ Z.Warmed39 U.vm ∧ U.heap = h0) (fun _ _ _ _ _ => True) (fun _ U o U' => ∃ v L, o = .returned v ∧ Q8 (q2) h0 n0 v U'.heap L ∧ FrameEnd U o U' L ({ frames := 0, cells := 0, slots := 0, locals := 0 } : Room).cells ({ frames := 0, cells := 0, slots := 0, locals := 0 } : Room).slots) := by
  refine MetFree.of_bodySF (Jvm.Free.JP.mathPlain rfl (by decide +kernel)) hisR ?_
  intro p e s m args below meth c s₁ Bd hml0 hP hK
  obtain ⟨rfl, hZ, hh⟩ := hP
  have hx := Bd.exec
  have hby := Bd.bytes
  have hml : c.maxLocals = 4 := hml0
  have hown : s.vm.findClass "java/lang/Math" = some m.cls := findClass_of_methodNamed Bd.named
  have hnm := (name_of_methodNamed Bd.named Bd.method).1
  have X0 : Stand p l e ({ frames := 0, cells := 0, slots := 0, locals := 0 } : Room) s m #[(.long q1), (.long q2)] below meth c s₁ [] 0 0 := Stand.of_body Bd
  have e0 : s₁.heap = h0 := by rw [← hh, Bd.state]; rfl
  have N0 := Fr.nil n0
  have pre0 : ∀ t, Steps p.tables e below (s₁.setTop (mkF m 0 #[.val (.long q1), .second, .val (.long q2), .second] [])) t → Steps p.tables e below (s₁.setTop (entryFrame m #[(.long q1), (.long q2)] 4)) t := fun t k => castTop (ef_8 m q1 q2) k

  obtain ⟨fs, hr, hrun, hended, hW, hsame⟩ := X0.leave (v := some (.long q2)) (fun h => by rw [Bd.returns] at h; cases h)
  refine ⟨_, _, pre0 _ ?_, hrun, hended, _, _, rfl, ?_, ⟨_, rfl⟩, hW, hsame.mono (by decide) (by decide)⟩
  · show Steps p.tables e below (s₁.setTop (mkF m 0 #[.val (.long q1), .second, .val (.long q2), .second] [])) _
    refine XS.lloadN X0.here hx rfl (hb hby d8_0) rfl ?_
    show Steps p.tables e below (s₁.setTop (mkF m 1 #[.val (.long q1), .second, .val (.long q2), .second] [(.long q1)])) _
    refine XS.lloadN X0.here hx rfl (hb hby d8_1) rfl ?_
    show Steps p.tables e below (s₁.setTop (mkF m 2 #[.val (.long q1), .second, .val (.long q2), .second] [(.long q2), (.long q1)])) _
    refine XS.lcmp X0.here hx rfl (hb hby d8_2) rfl ?_
    show Steps p.tables e below (s₁.setTop (mkF m 3 #[.val (.long q1), .second, .val (.long q2), .second] [(.int (lcmpW q1 q2))])) _
    refine XS.ifYes X0.here hx rfl (pc0 := 3) (pc' := 10) rfl (hb hby d8_3) rfl ((if0 _ _).trans (tlt hc3).2.2.1) (by decide) (by decide) ?_
    show Steps p.tables e below (s₁.setTop (mkF m 10 #[.val (.long q1), .second, .val (.long q2), .second] [])) _
    refine XS.lloadN X0.here hx rfl (hb hby d8_10) rfl ?_
    show Steps p.tables e below (s₁.setTop (mkF m 11 #[.val (.long q1), .second, .val (.long q2), .second] [(.long q2)])) _
    jvm_step X0.here [X0.here.top, hx, (hb hby d8_11), X0.method', Bd.returns, narrow]
    first | (intro acts; rw [hr _ acts rfl rfl rfl]) | rw [hr _ _ rfl rfl rfl]
    exact Steps.refl _
  · show Q8 (q2) h0 n0 _ s₁.heap _
    rw [e0]
    exact ⟨rfl, N0, rfl⟩
def Q6 (p : Int32) (h0 : Heap) (n0 : Nat) (v : Option Value) (h : Heap) (L : List Loc) : Prop := ∃ r : Int32, v = some (.int r) ∧ Fr n0 L ∧ h = h0 ∧ own_P p r
theorem d6_0 : decode jdk_33_method_47_code 0 = .ok (.iload_n 0, 1) := by decide +kernel
theorem d6_1 : decode jdk_33_method_47_code 1 = .ok (.ifCond .gt 14, 3) := by decide +kernel
theorem d6_4 : decode jdk_33_method_47_code 4 = .ok (.iload_n 0, 1) := by decide +kernel
theorem d6_5 : decode jdk_33_method_47_code 5 = .ok (.ifCond .ne 8, 3) := by decide +kernel
theorem d6_8 : decode jdk_33_method_47_code 8 = .ok (.bipush 32, 2) := by decide +kernel
theorem d6_10 : decode jdk_33_method_47_code 10 = .ok (.goto 4, 3) := by decide +kernel
theorem d6_14 : decode jdk_33_method_47_code 14 = .ok (.ireturn, 1) := by decide +kernel
theorem pn_6 : plainName "java/lang/Integer" = true := by first | (simp [plainName, overriddenIn]; done) | decide +kernel
theorem ef_6 (m : MethodId) (x0 : Int32) : entryFrame m #[(.int x0)] 2 = mkF m 0 #[.val (.int x0), .unset] [] := by first | (simp [entryFrame, mkF, argsToLocals, Value.category]; done) | rfl
theorem own_n_ff (p1 : Int32) (hc5 : p1 = (0 : Int32)) : own_P p1 (32 : Int32) := by
  subst hc5
  unfold own_P
  decide
set_option maxRecDepth 65536 in
set_option maxHeartbeats 40000000 in
theorem rm6_ff (l : Launch) (Z : State) (a0 : Array Value) (hw : ∀ d ∈ tables_1, d.before a0 Z = true) (ws : List Jvm.Cond) (p1 : Int32) (h0 : Heap) (n0 : Nat) (Z0 : n0 ≤ h0.size) (hc1 : ¬ ((0 : Int32) < p1)) (hc5 : p1 = (0 : Int32)) :
    MetFree l (⟨"java/lang/Integer", "numberOfLeadingZeros", "(I)I"⟩ : MethodName) (head1 (Jvm.Cond.code (⟨"java/lang/Integer", "numberOfLeadingZeros", "(I)I"⟩ : MethodName) jdk_33_method_47_code 2 (some .int) :: ws) ({ frames := 0, cells := 0, slots := 0, locals := 0 } : Room)) (fun a U => a = #[(.int p1)] ∧ Z.Warmed39 U.vm ∧ U.heap = h0) (fun _ _ _ _ _ => True) (fun _ U o U' => ∃ v L, o = .returned v ∧ Q6 p1 h0 n0 v U'.heap L ∧ FrameEnd U o U' L ({ frames := 0, cells := 0, slots := 0, locals := 0 } : Room).cells ({ frames := 0, cells := 0, slots := 0, locals := 0 } : Room).slots) := by
  refine MetFree.of_bodySF (plainFor_of_name pn_6) hisR ?_
  intro p e s m args below meth c s₁ Bd hml0 hP hK
  obtain ⟨rfl, hZ, hh⟩ := hP
  have hx := Bd.exec
  have hby := Bd.bytes
  have hml : c.maxLocals = 2 := hml0
  have hown : s.vm.findClass "java/lang/Integer" = some m.cls := findClass_of_methodNamed Bd.named
  have hnm := (name_of_methodNamed Bd.named Bd.method).1
  have X0 : Stand p l e ({ frames := 0, cells := 0, slots := 0, locals := 0 } : Room) s m #[(.int p1)] below meth c s₁ [] 0 0 := Stand.of_body Bd
  have e0 : s₁.heap = h0 := by rw [← hh, Bd.state]; rfl
  have N0 := Fr.nil n0
  have pre0 : ∀ t, Steps p.tables e below (s₁.setTop (mkF m 0 #[.val (.int p1), .unset] [])) t → Steps p.tables e below (s₁.setTop (entryFrame m #[(.int p1)] 2)) t := fun t k => castTop (ef_6 m p1) k

  obtain ⟨fs, hr, hrun, hended, hW, hsame⟩ := X0.leave (v := some (.int (32 : Int32))) (fun h => by rw [Bd.returns] at h; cases h)
  refine ⟨_, _, pre0 _ ?_, hrun, hended, _, _, rfl, ?_, ⟨_, rfl⟩, hW, hsame.mono (by decide) (by decide)⟩
  · show Steps p.tables e below (s₁.setTop (mkF m 0 #[.val (.int p1), .unset] [])) _
    refine XS.iloadN X0.here hx rfl (hb hby d6_0) rfl ?_
    show Steps p.tables e below (s₁.setTop (mkF m 1 #[.val (.int p1), .unset] [(.int p1)])) _
    refine XS.ifNo X0.here hx rfl (hb hby d6_1) rfl ((if0 _ _).trans (flt hc1).2.2.1) ?_
    show Steps p.tables e below (s₁.setTop (mkF m 4 #[.val (.int p1), .unset] [])) _
    refine XS.iloadN X0.here hx rfl (hb hby d6_4) rfl ?_
    show Steps p.tables e below (s₁.setTop (mkF m 5 #[.val (.int p1), .unset] [(.int p1)])) _
    refine XS.ifNo X0.here hx rfl (hb hby d6_5) rfl ((if0 _ _).trans (teq hc5).2) ?_
    show Steps p.tables e below (s₁.setTop (mkF m 8 #[.val (.int p1), .unset] [])) _
    refine XS.bipush X0.here hx rfl (hb hby d6_8) ?_
    show Steps p.tables e below (s₁.setTop (mkF m 10 #[.val (.int p1), .unset] [(.int (32 : Int32))])) _
    refine XS.goto X0.here hx rfl (pc0 := 10) (pc' := 14) rfl (hb hby d6_10) (by decide) (by decide) ?_
    show Steps p.tables e below (s₁.setTop (mkF m 14 #[.val (.int p1), .unset] [(.int (32 : Int32))])) _
    exact retI X0 hx Bd.returns (hb hby d6_14) hr
  · show Q6 p1 h0 n0 _ s₁.heap _
    rw [e0]
    exact ⟨_, rfl, N0, rfl, own_n_ff p1 hc5⟩
theorem d6_15 : decode jdk_33_method_47_code 15 = .ok (.bipush 31, 2) := by decide +kernel
theorem d6_17 : decode jdk_33_method_47_code 17 = .ok (.istore_n 1, 1) := by decide +kernel
theorem d6_18 : decode jdk_33_method_47_code 18 = .ok (.iload_n 0, 1) := by decide +kernel
theorem d6_19 : decode jdk_33_method_47_code 19 = .ok (.ldc_w 264, 3) := by decide +kernel
theorem d6_22 : decode jdk_33_method_47_code 22 = .ok (.if_icmp .lt 11, 3) := by decide +kernel
theorem d6_33 : decode jdk_33_method_47_code 33 = .ok (.iload_n 0, 1) := by decide +kernel
theorem d6_34 : decode jdk_33_method_47_code 34 = .ok (.sipush 256, 3) := by decide +kernel
theorem d6_37 : decode jdk_33_method_47_code 37 = .ok (.if_icmp .lt 11, 3) := by decide +kernel
theorem d6_48 : decode jdk_33_method_47_code 48 = .ok (.iload_n 0, 1) := by decide +kernel
theorem d6_49 : decode jdk_33_method_47_code 49 = .ok (.bipush 16, 2) := by decide +kernel
theorem d6_51 : decode jdk_33_method_47_code 51 = .ok (.if_icmp .lt 10, 3) := by decide +kernel
theorem d6_61 : decode jdk_33_method_47_code 61 = .ok (.iload_n 0, 1) := by decide +kernel
theorem d6_62 : decode jdk_33_method_47_code 62 = .ok (.iconst 4, 1) := by decide +kernel
theorem d6_63 : decode jdk_33_method_47_code 63 = .ok (.if_icmp .lt 10, 3) := by decide +kernel
theorem d6_73 : decode jdk_33_method_47_code 73 = .ok (.iload_n 1, 1) := by decide +kernel
theorem d6_74 : decode jdk_33_method_47_code 74 = .ok (.iload_n 0, 1) := by decide +kernel
theorem d6_75 : decode jdk_33_method_47_code 75 = .ok (.iconst 1, 1) := by decide +kernel
theorem d6_76 : decode jdk_33_method_47_code 76 = .ok (.iushr, 1) := by decide +kernel
theorem d6_77 : decode jdk_33_method_47_code 77 = .ok (.isub, 1) := by decide +kernel
theorem d6_78 : decode jdk_33_method_47_code 78 = .ok (.ireturn, 1) := by decide +kernel
theorem own_n_ttttt (p1 : Int32) (hc1 : (0 : Int32) < p1) (hc22 : p1 < (65536 : Int32)) (hc37 : p1 < (256 : Int32)) (hc51 : p1 < (16 : Int32)) (hc63 : p1 < (4 : Int32)) : own_P p1 ((31 : Int32) - ((p1.toUInt32 >>> ((1 : Int32) &&& 31).toUInt32).toInt32)) := by
  have e0 : (0 : Int32).toInt = 0 := rfl
  have z0 : 0 ≤ p1.toInt := by rw [Int32.lt_iff_toInt_lt] at hc1; omega
  have rv := rng32 p1
  have c16 : (65536 : Int32).toInt = 65536 := rfl
  have c8 : (256 : Int32).toInt = 256 := rfl
  have c4 : (16 : Int32).toInt = 16 := rfl
  have c2 : (4 : Int32).toInt = 4 := rfl
  rw [Int32.lt_iff_toInt_lt] at hc22
  rw [Int32.lt_iff_toInt_lt] at hc37
  rw [Int32.lt_iff_toInt_lt] at hc51
  rw [Int32.lt_iff_toInt_lt] at hc63
  have s1 := own_shr p1 1 1 (by decide) (by decide) z0
  have d := c_isub (31 : Int32) ((p1.toUInt32 >>> ((1 : Int32) &&& 31).toUInt32).toInt32)
  have rd := rng32 ((31 : Int32) - ((p1.toUInt32 >>> ((1 : Int32) &&& 31).toUInt32).toInt32))
  have en : (31 : Int32).toInt = 31 := rfl
  unfold own_P
  refine ⟨fun q => ?_, fun q q' => ?_, fun q q' => ?_, fun q => ?_⟩ <;> omega
set_option maxRecDepth 65536 in
set_option maxHeartbeats 40000000 in
theorem rm6_ttttt (l : Launch) (Z : State) (a0 : Array Value) (hw : ∀ d ∈ tables_1, d.before a0 Z = true) (ws : List Jvm.Cond) (p1 : Int32) (h0 : Heap) (n0 : Nat) (Z0 : n0 ≤ h0.size) (hc1 : (0 : Int32) < p1) (hc22 : p1 < (65536 : Int32)) (hc37 : p1 < (256 : Int32)) (hc51 : p1 < (16 : Int32)) (hc63 : p1 < (4 : Int32)) :
    MetFree l (⟨"java/lang/Integer", "numberOfLeadingZeros", "(I)I"⟩ : MethodName) (head1 (Jvm.Cond.code (⟨"java/lang/Integer", "numberOfLeadingZeros", "(I)I"⟩ : MethodName) jdk_33_method_47_code 2 (some .int) :: ws) ({ frames := 0, cells := 0, slots := 0, locals := 0 } : Room)) (fun a U => a = #[(.int p1)] ∧ Z.Warmed39 U.vm ∧ U.heap = h0) (fun _ _ _ _ _ => True) (fun _ U o U' => ∃ v L, o = .returned v ∧ Q6 p1 h0 n0 v U'.heap L ∧ FrameEnd U o U' L ({ frames := 0, cells := 0, slots := 0, locals := 0 } : Room).cells ({ frames := 0, cells := 0, slots := 0, locals := 0 } : Room).slots) := by
  refine MetFree.of_bodySF (plainFor_of_name pn_6) hisR ?_
  intro p e s m args below meth c s₁ Bd hml0 hP hK
  obtain ⟨rfl, hZ, hh⟩ := hP
  have hx := Bd.exec
  have hby := Bd.bytes
  have hml : c.maxLocals = 2 := hml0
  have hown : s.vm.findClass "java/lang/Integer" = some m.cls := findClass_of_methodNamed Bd.named
  have hnm := (name_of_methodNamed Bd.named Bd.method).1
  have X0 : Stand p l e ({ frames := 0, cells := 0, slots := 0, locals := 0 } : Room) s m #[(.int p1)] below meth c s₁ [] 0 0 := Stand.of_body Bd
  have e0 : s₁.heap = h0 := by rw [← hh, Bd.state]; rfl
  have N0 := Fr.nil n0
  have pre0 : ∀ t, Steps p.tables e below (s₁.setTop (mkF m 0 #[.val (.int p1), .unset] [])) t → Steps p.tables e below (s₁.setTop (entryFrame m #[(.int p1)] 2)) t := fun t k => castTop (ef_6 m p1) k

  obtain ⟨fs, hr, hrun, hended, hW, hsame⟩ := X0.leave (v := some (.int ((31 : Int32) - ((p1.toUInt32 >>> ((1 : Int32) &&& 31).toUInt32).toInt32)))) (fun h => by rw [Bd.returns] at h; cases h)
  refine ⟨_, _, pre0 _ ?_, hrun, hended, _, _, rfl, ?_, ⟨_, rfl⟩, hW, hsame.mono (by decide) (by decide)⟩
  · show Steps p.tables e below (s₁.setTop (mkF m 0 #[.val (.int p1), .unset] [])) _
    refine XS.iloadN X0.here hx rfl (hb hby d6_0) rfl ?_
    show Steps p.tables e below (s₁.setTop (mkF m 1 #[.val (.int p1), .unset] [(.int p1)])) _
    refine XS.ifYes X0.here hx rfl (pc0 := 1) (pc' := 15) rfl (hb hby d6_1) rfl ((if0 _ _).trans (tlt hc1).2.2.1) (by decide) (by decide) ?_
    show Steps p.tables e below (s₁.setTop (mkF m 15 #[.val (.int p1), .unset] [])) _
    refine XS.bipush X0.here hx rfl (hb hby d6_15) ?_
    show Steps p.tables e below (s₁.setTop (mkF m 17 #[.val (.int p1), .unset] [(.int (31 : Int32))])) _
    refine XS.istoreN X0.here hx rfl (hb hby d6_17) rfl (l' := #[.val (.int p1), .val (.int (31 : Int32))]) rfl ?_
    show Steps p.tables e below (s₁.setTop (mkF m 18 #[.val (.int p1), .val (.int (31 : Int32))] [])) _
    refine XS.iloadN X0.here hx rfl (hb hby d6_18) rfl ?_
    show Steps p.tables e below (s₁.setTop (mkF m 19 #[.val (.int p1), .val (.int (31 : Int32))] [(.int p1)])) _
    refine X0.ldcwInt hx hown (mvT hZ (hw _ (List.mem_of_getElem? (i := 65) rfl))) (g := (mkF m 19 #[.val (.int p1), .val (.int (31 : Int32))] [(.int p1)])) rfl (hb hby d6_19) _ ?_
    show Steps p.tables e below (s₁.setTop (mkF m 22 #[.val (.int p1), .val (.int (31 : Int32))] [(.int (65536 : Int32)), (.int p1)])) _
    refine XS.icmpYes X0.here hx rfl (pc0 := 22) (pc' := 33) rfl (hb hby d6_22) rfl (tlt hc22).1 (by decide) (by decide) ?_
    show Steps p.tables e below (s₁.setTop (mkF m 33 #[.val (.int p1), .val (.int (31 : Int32))] [])) _
    refine XS.iloadN X0.here hx rfl (hb hby d6_33) rfl ?_
    show Steps p.tables e below (s₁.setTop (mkF m 34 #[.val (.int p1), .val (.int (31 : Int32))] [(.int p1)])) _
    refine XS.sipush X0.here hx rfl (hb hby d6_34) ?_
    show Steps p.tables e below (s₁.setTop (mkF m 37 #[.val (.int p1), .val (.int (31 : Int32))] [(.int (256 : Int32)), (.int p1)])) _
    refine XS.icmpYes X0.here hx rfl (pc0 := 37) (pc' := 48) rfl (hb hby d6_37) rfl (tlt hc37).1 (by decide) (by decide) ?_
    show Steps p.tables e below (s₁.setTop (mkF m 48 #[.val (.int p1), .val (.int (31 : Int32))] [])) _
    refine XS.iloadN X0.here hx rfl (hb hby d6_48) rfl ?_
    show Steps p.tables e below (s₁.setTop (mkF m 49 #[.val (.int p1), .val (.int (31 : Int32))] [(.int p1)])) _
    refine XS.bipush X0.here hx rfl (hb hby d6_49) ?_
    show Steps p.tables e below (s₁.setTop (mkF m 51 #[.val (.int p1), .val (.int (31 : Int32))] [(.int (16 : Int32)), (.int p1)])) _
    refine XS.icmpYes X0.here hx rfl (pc0 := 51) (pc' := 61) rfl (hb hby d6_51) rfl (tlt hc51).1 (by decide) (by decide) ?_
    show Steps p.tables e below (s₁.setTop (mkF m 61 #[.val (.int p1), .val (.int (31 : Int32))] [])) _
    refine XS.iloadN X0.here hx rfl (hb hby d6_61) rfl ?_
    show Steps p.tables e below (s₁.setTop (mkF m 62 #[.val (.int p1), .val (.int (31 : Int32))] [(.int p1)])) _
    refine XS.iconst X0.here hx rfl (hb hby d6_62) ?_
    show Steps p.tables e below (s₁.setTop (mkF m 63 #[.val (.int p1), .val (.int (31 : Int32))] [(.int (4 : Int32)), (.int p1)])) _
    refine XS.icmpYes X0.here hx rfl (pc0 := 63) (pc' := 73) rfl (hb hby d6_63) rfl (tlt hc63).1 (by decide) (by decide) ?_
    show Steps p.tables e below (s₁.setTop (mkF m 73 #[.val (.int p1), .val (.int (31 : Int32))] [])) _
    refine XS.iloadN X0.here hx rfl (hb hby d6_73) rfl ?_
    show Steps p.tables e below (s₁.setTop (mkF m 74 #[.val (.int p1), .val (.int (31 : Int32))] [(.int (31 : Int32))])) _
    refine XS.iloadN X0.here hx rfl (hb hby d6_74) rfl ?_
    show Steps p.tables e below (s₁.setTop (mkF m 75 #[.val (.int p1), .val (.int (31 : Int32))] [(.int p1), (.int (31 : Int32))])) _
    refine XS.iconst X0.here hx rfl (hb hby d6_75) ?_
    show Steps p.tables e below (s₁.setTop (mkF m 76 #[.val (.int p1), .val (.int (31 : Int32))] [(.int (1 : Int32)), (.int p1), (.int (31 : Int32))])) _
    refine XS.iushr X0.here hx rfl (hb hby d6_76) rfl ?_
    show Steps p.tables e below (s₁.setTop (mkF m 77 #[.val (.int p1), .val (.int (31 : Int32))] [(.int ((p1.toUInt32 >>> ((1 : Int32) &&& 31).toUInt32).toInt32)), (.int (31 : Int32))])) _
    refine XS.isub X0.here hx rfl (hb hby d6_77) rfl ?_
    show Steps p.tables e below (s₁.setTop (mkF m 78 #[.val (.int p1), .val (.int (31 : Int32))] [(.int ((31 : Int32) - ((p1.toUInt32 >>> ((1 : Int32) &&& 31).toUInt32).toInt32)))])) _
    exact retI X0 hx Bd.returns (hb hby d6_78) hr
  · show Q6 p1 h0 n0 _ s₁.heap _
    rw [e0]
    exact ⟨_, rfl, N0, rfl, own_n_ttttt p1 hc1 hc22 hc37 hc51 hc63⟩
theorem d6_66 : decode jdk_33_method_47_code 66 = .ok (.iinc 1 (-2), 3) := by decide +kernel
theorem d6_69 : decode jdk_33_method_47_code 69 = .ok (.iload_n 0, 1) := by decide +kernel
theorem d6_70 : decode jdk_33_method_47_code 70 = .ok (.iconst 2, 1) := by decide +kernel
theorem d6_71 : decode jdk_33_method_47_code 71 = .ok (.iushr, 1) := by decide +kernel
theorem d6_72 : decode jdk_33_method_47_code 72 = .ok (.istore_n 0, 1) := by decide +kernel
theorem own_n_ttttf (p1 : Int32) (hc1 : (0 : Int32) < p1) (hc22 : p1 < (65536 : Int32)) (hc37 : p1 < (256 : Int32)) (hc51 : p1 < (16 : Int32)) (hc63 : ¬ (p1 < (4 : Int32))) : own_P p1 ((29 : Int32) - ((((p1.toUInt32 >>> ((2 : Int32) &&& 31).toUInt32).toInt32).toUInt32 >>> ((1 : Int32) &&& 31).toUInt32).toInt32)) := by
  have e0 : (0 : Int32).toInt = 0 := rfl
  have z0 : 0 ≤ p1.toInt := by rw [Int32.lt_iff_toInt_lt] at hc1; omega
  have rv := rng32 p1
  have c16 : (65536 : Int32).toInt = 65536 := rfl
  have c8 : (256 : Int32).toInt = 256 := rfl
  have c4 : (16 : Int32).toInt = 16 := rfl
  have c2 : (4 : Int32).toInt = 4 := rfl
  rw [Int32.lt_iff_toInt_lt] at hc22
  rw [Int32.lt_iff_toInt_lt] at hc37
  rw [Int32.lt_iff_toInt_lt] at hc51
  rw [Int32.lt_iff_toInt_lt] at hc63
  have s2 := own_shr p1 2 2 (by decide) (by decide) z0
  have y2 : 0 ≤ (((p1.toUInt32 >>> ((2 : Int32) &&& 31).toUInt32).toInt32)).toInt := by omega
  have s1 := own_shr ((p1.toUInt32 >>> ((2 : Int32) &&& 31).toUInt32).toInt32) 1 1 (by decide) (by decide) y2
  have d := c_isub (29 : Int32) ((((p1.toUInt32 >>> ((2 : Int32) &&& 31).toUInt32).toInt32).toUInt32 >>> ((1 : Int32) &&& 31).toUInt32).toInt32)
  have rd := rng32 ((29 : Int32) - ((((p1.toUInt32 >>> ((2 : Int32) &&& 31).toUInt32).toInt32).toUInt32 >>> ((1 : Int32) &&& 31).toUInt32).toInt32))
  have en : (29 : Int32).toInt = 29 := rfl
  unfold own_P
  refine ⟨fun q => ?_, fun q q' => ?_, fun q q' => ?_, fun q => ?_⟩ <;> omega
set_option maxRecDepth 65536 in
set_option maxHeartbeats 40000000 in
theorem rm6_ttttf (l : Launch) (Z : State) (a0 : Array Value) (hw : ∀ d ∈ tables_1, d.before a0 Z = true) (ws : List Jvm.Cond) (p1 : Int32) (h0 : Heap) (n0 : Nat) (Z0 : n0 ≤ h0.size) (hc1 : (0 : Int32) < p1) (hc22 : p1 < (65536 : Int32)) (hc37 : p1 < (256 : Int32)) (hc51 : p1 < (16 : Int32)) (hc63 : ¬ (p1 < (4 : Int32))) :
    MetFree l (⟨"java/lang/Integer", "numberOfLeadingZeros", "(I)I"⟩ : MethodName) (head1 (Jvm.Cond.code (⟨"java/lang/Integer", "numberOfLeadingZeros", "(I)I"⟩ : MethodName) jdk_33_method_47_code 2 (some .int) :: ws) ({ frames := 0, cells := 0, slots := 0, locals := 0 } : Room)) (fun a U => a = #[(.int p1)] ∧ Z.Warmed39 U.vm ∧ U.heap = h0) (fun _ _ _ _ _ => True) (fun _ U o U' => ∃ v L, o = .returned v ∧ Q6 p1 h0 n0 v U'.heap L ∧ FrameEnd U o U' L ({ frames := 0, cells := 0, slots := 0, locals := 0 } : Room).cells ({ frames := 0, cells := 0, slots := 0, locals := 0 } : Room).slots) := by
  refine MetFree.of_bodySF (plainFor_of_name pn_6) hisR ?_
  intro p e s m args below meth c s₁ Bd hml0 hP hK
  obtain ⟨rfl, hZ, hh⟩ := hP
  have hx := Bd.exec
  have hby := Bd.bytes
  have hml : c.maxLocals = 2 := hml0
  have hown : s.vm.findClass "java/lang/Integer" = some m.cls := findClass_of_methodNamed Bd.named
  have hnm := (name_of_methodNamed Bd.named Bd.method).1
  have X0 : Stand p l e ({ frames := 0, cells := 0, slots := 0, locals := 0 } : Room) s m #[(.int p1)] below meth c s₁ [] 0 0 := Stand.of_body Bd
  have e0 : s₁.heap = h0 := by rw [← hh, Bd.state]; rfl
  have N0 := Fr.nil n0
  have pre0 : ∀ t, Steps p.tables e below (s₁.setTop (mkF m 0 #[.val (.int p1), .unset] [])) t → Steps p.tables e below (s₁.setTop (entryFrame m #[(.int p1)] 2)) t := fun t k => castTop (ef_6 m p1) k

  obtain ⟨fs, hr, hrun, hended, hW, hsame⟩ := X0.leave (v := some (.int ((29 : Int32) - ((((p1.toUInt32 >>> ((2 : Int32) &&& 31).toUInt32).toInt32).toUInt32 >>> ((1 : Int32) &&& 31).toUInt32).toInt32)))) (fun h => by rw [Bd.returns] at h; cases h)
  refine ⟨_, _, pre0 _ ?_, hrun, hended, _, _, rfl, ?_, ⟨_, rfl⟩, hW, hsame.mono (by decide) (by decide)⟩
  · show Steps p.tables e below (s₁.setTop (mkF m 0 #[.val (.int p1), .unset] [])) _
    refine XS.iloadN X0.here hx rfl (hb hby d6_0) rfl ?_
    show Steps p.tables e below (s₁.setTop (mkF m 1 #[.val (.int p1), .unset] [(.int p1)])) _
    refine XS.ifYes X0.here hx rfl (pc0 := 1) (pc' := 15) rfl (hb hby d6_1) rfl ((if0 _ _).trans (tlt hc1).2.2.1) (by decide) (by decide) ?_
    show Steps p.tables e below (s₁.setTop (mkF m 15 #[.val (.int p1), .unset] [])) _
    refine XS.bipush X0.here hx rfl (hb hby d6_15) ?_
    show Steps p.tables e below (s₁.setTop (mkF m 17 #[.val (.int p1), .unset] [(.int (31 : Int32))])) _
    refine XS.istoreN X0.here hx rfl (hb hby d6_17) rfl (l' := #[.val (.int p1), .val (.int (31 : Int32))]) rfl ?_
    show Steps p.tables e below (s₁.setTop (mkF m 18 #[.val (.int p1), .val (.int (31 : Int32))] [])) _
    refine XS.iloadN X0.here hx rfl (hb hby d6_18) rfl ?_
    show Steps p.tables e below (s₁.setTop (mkF m 19 #[.val (.int p1), .val (.int (31 : Int32))] [(.int p1)])) _
    refine X0.ldcwInt hx hown (mvT hZ (hw _ (List.mem_of_getElem? (i := 65) rfl))) (g := (mkF m 19 #[.val (.int p1), .val (.int (31 : Int32))] [(.int p1)])) rfl (hb hby d6_19) _ ?_
    show Steps p.tables e below (s₁.setTop (mkF m 22 #[.val (.int p1), .val (.int (31 : Int32))] [(.int (65536 : Int32)), (.int p1)])) _
    refine XS.icmpYes X0.here hx rfl (pc0 := 22) (pc' := 33) rfl (hb hby d6_22) rfl (tlt hc22).1 (by decide) (by decide) ?_
    show Steps p.tables e below (s₁.setTop (mkF m 33 #[.val (.int p1), .val (.int (31 : Int32))] [])) _
    refine XS.iloadN X0.here hx rfl (hb hby d6_33) rfl ?_
    show Steps p.tables e below (s₁.setTop (mkF m 34 #[.val (.int p1), .val (.int (31 : Int32))] [(.int p1)])) _
    refine XS.sipush X0.here hx rfl (hb hby d6_34) ?_
    show Steps p.tables e below (s₁.setTop (mkF m 37 #[.val (.int p1), .val (.int (31 : Int32))] [(.int (256 : Int32)), (.int p1)])) _
    refine XS.icmpYes X0.here hx rfl (pc0 := 37) (pc' := 48) rfl (hb hby d6_37) rfl (tlt hc37).1 (by decide) (by decide) ?_
    show Steps p.tables e below (s₁.setTop (mkF m 48 #[.val (.int p1), .val (.int (31 : Int32))] [])) _
    refine XS.iloadN X0.here hx rfl (hb hby d6_48) rfl ?_
    show Steps p.tables e below (s₁.setTop (mkF m 49 #[.val (.int p1), .val (.int (31 : Int32))] [(.int p1)])) _
    refine XS.bipush X0.here hx rfl (hb hby d6_49) ?_
    show Steps p.tables e below (s₁.setTop (mkF m 51 #[.val (.int p1), .val (.int (31 : Int32))] [(.int (16 : Int32)), (.int p1)])) _
    refine XS.icmpYes X0.here hx rfl (pc0 := 51) (pc' := 61) rfl (hb hby d6_51) rfl (tlt hc51).1 (by decide) (by decide) ?_
    show Steps p.tables e below (s₁.setTop (mkF m 61 #[.val (.int p1), .val (.int (31 : Int32))] [])) _
    refine XS.iloadN X0.here hx rfl (hb hby d6_61) rfl ?_
    show Steps p.tables e below (s₁.setTop (mkF m 62 #[.val (.int p1), .val (.int (31 : Int32))] [(.int p1)])) _
    refine XS.iconst X0.here hx rfl (hb hby d6_62) ?_
    show Steps p.tables e below (s₁.setTop (mkF m 63 #[.val (.int p1), .val (.int (31 : Int32))] [(.int (4 : Int32)), (.int p1)])) _
    refine XS.icmpNo X0.here hx rfl (hb hby d6_63) rfl (flt hc63).1 ?_
    show Steps p.tables e below (s₁.setTop (mkF m 66 #[.val (.int p1), .val (.int (31 : Int32))] [])) _
    refine XS.iinc X0.here hx rfl (hb hby d6_66) rfl (l' := #[.val (.int p1), .val (.int (29 : Int32))]) rfl ?_
    show Steps p.tables e below (s₁.setTop (mkF m 69 #[.val (.int p1), .val (.int (29 : Int32))] [])) _
    refine XS.iloadN X0.here hx rfl (hb hby d6_69) rfl ?_
    show Steps p.tables e below (s₁.setTop (mkF m 70 #[.val (.int p1), .val (.int (29 : Int32))] [(.int p1)])) _
    refine XS.iconst X0.here hx rfl (hb hby d6_70) ?_
    show Steps p.tables e below (s₁.setTop (mkF m 71 #[.val (.int p1), .val (.int (29 : Int32))] [(.int (2 : Int32)), (.int p1)])) _
    refine XS.iushr X0.here hx rfl (hb hby d6_71) rfl ?_
    show Steps p.tables e below (s₁.setTop (mkF m 72 #[.val (.int p1), .val (.int (29 : Int32))] [(.int ((p1.toUInt32 >>> ((2 : Int32) &&& 31).toUInt32).toInt32))])) _
    refine XS.istoreN X0.here hx rfl (hb hby d6_72) rfl (l' := #[.val (.int ((p1.toUInt32 >>> ((2 : Int32) &&& 31).toUInt32).toInt32)), .val (.int (29 : Int32))]) rfl ?_
    show Steps p.tables e below (s₁.setTop (mkF m 73 #[.val (.int ((p1.toUInt32 >>> ((2 : Int32) &&& 31).toUInt32).toInt32)), .val (.int (29 : Int32))] [])) _
    refine XS.iloadN X0.here hx rfl (hb hby d6_73) rfl ?_
    show Steps p.tables e below (s₁.setTop (mkF m 74 #[.val (.int ((p1.toUInt32 >>> ((2 : Int32) &&& 31).toUInt32).toInt32)), .val (.int (29 : Int32))] [(.int (29 : Int32))])) _
    refine XS.iloadN X0.here hx rfl (hb hby d6_74) rfl ?_
    show Steps p.tables e below (s₁.setTop (mkF m 75 #[.val (.int ((p1.toUInt32 >>> ((2 : Int32) &&& 31).toUInt32).toInt32)), .val (.int (29 : Int32))] [(.int ((p1.toUInt32 >>> ((2 : Int32) &&& 31).toUInt32).toInt32)), (.int (29 : Int32))])) _
    refine XS.iconst X0.here hx rfl (hb hby d6_75) ?_
    show Steps p.tables e below (s₁.setTop (mkF m 76 #[.val (.int ((p1.toUInt32 >>> ((2 : Int32) &&& 31).toUInt32).toInt32)), .val (.int (29 : Int32))] [(.int (1 : Int32)), (.int ((p1.toUInt32 >>> ((2 : Int32) &&& 31).toUInt32).toInt32)), (.int (29 : Int32))])) _
    refine XS.iushr X0.here hx rfl (hb hby d6_76) rfl ?_
    show Steps p.tables e below (s₁.setTop (mkF m 77 #[.val (.int ((p1.toUInt32 >>> ((2 : Int32) &&& 31).toUInt32).toInt32)), .val (.int (29 : Int32))] [(.int ((((p1.toUInt32 >>> ((2 : Int32) &&& 31).toUInt32).toInt32).toUInt32 >>> ((1 : Int32) &&& 31).toUInt32).toInt32)), (.int (29 : Int32))])) _
    refine XS.isub X0.here hx rfl (hb hby d6_77) rfl ?_
    show Steps p.tables e below (s₁.setTop (mkF m 78 #[.val (.int ((p1.toUInt32 >>> ((2 : Int32) &&& 31).toUInt32).toInt32)), .val (.int (29 : Int32))] [(.int ((29 : Int32) - ((((p1.toUInt32 >>> ((2 : Int32) &&& 31).toUInt32).toInt32).toUInt32 >>> ((1 : Int32) &&& 31).toUInt32).toInt32)))])) _
    exact retI X0 hx Bd.returns (hb hby d6_78) hr
  · show Q6 p1 h0 n0 _ s₁.heap _
    rw [e0]
    exact ⟨_, rfl, N0, rfl, own_n_ttttf p1 hc1 hc22 hc37 hc51 hc63⟩
theorem d6_54 : decode jdk_33_method_47_code 54 = .ok (.iinc 1 (-4), 3) := by decide +kernel
theorem d6_57 : decode jdk_33_method_47_code 57 = .ok (.iload_n 0, 1) := by decide +kernel
theorem d6_58 : decode jdk_33_method_47_code 58 = .ok (.iconst 4, 1) := by decide +kernel
theorem d6_59 : decode jdk_33_method_47_code 59 = .ok (.iushr, 1) := by decide +kernel
theorem d6_60 : decode jdk_33_method_47_code 60 = .ok (.istore_n 0, 1) := by decide +kernel
theorem own_n_tttft (p1 : Int32) (hc1 : (0 : Int32) < p1) (hc22 : p1 < (65536 : Int32)) (hc37 : p1 < (256 : Int32)) (hc51 : ¬ (p1 < (16 : Int32))) (hc63 : ((p1.toUInt32 >>> ((4 : Int32) &&& 31).toUInt32).toInt32) < (4 : Int32)) : own_P p1 ((27 : Int32) - ((((p1.toUInt32 >>> ((4 : Int32) &&& 31).toUInt32).toInt32).toUInt32 >>> ((1 : Int32) &&& 31).toUInt32).toInt32)) := by
  have e0 : (0 : Int32).toInt = 0 := rfl
  have z0 : 0 ≤ p1.toInt := by rw [Int32.lt_iff_toInt_lt] at hc1; omega
  have rv := rng32 p1
  have c16 : (65536 : Int32).toInt = 65536 := rfl
  have c8 : (256 : Int32).toInt = 256 := rfl
  have c4 : (16 : Int32).toInt = 16 := rfl
  have c2 : (4 : Int32).toInt = 4 := rfl
  rw [Int32.lt_iff_toInt_lt] at hc22
  rw [Int32.lt_iff_toInt_lt] at hc37
  rw [Int32.lt_iff_toInt_lt] at hc51
  have s4 := own_shr p1 4 4 (by decide) (by decide) z0
  have y4 : 0 ≤ (((p1.toUInt32 >>> ((4 : Int32) &&& 31).toUInt32).toInt32)).toInt := by omega
  rw [Int32.lt_iff_toInt_lt] at hc63
  have s1 := own_shr ((p1.toUInt32 >>> ((4 : Int32) &&& 31).toUInt32).toInt32) 1 1 (by decide) (by decide) y4
  have d := c_isub (27 : Int32) ((((p1.toUInt32 >>> ((4 : Int32) &&& 31).toUInt32).toInt32).toUInt32 >>> ((1 : Int32) &&& 31).toUInt32).toInt32)
  have rd := rng32 ((27 : Int32) - ((((p1.toUInt32 >>> ((4 : Int32) &&& 31).toUInt32).toInt32).toUInt32 >>> ((1 : Int32) &&& 31).toUInt32).toInt32))
  have en : (27 : Int32).toInt = 27 := rfl
  unfold own_P
  refine ⟨fun q => ?_, fun q q' => ?_, fun q q' => ?_, fun q => ?_⟩ <;> omega
set_option maxRecDepth 65536 in
set_option maxHeartbeats 40000000 in
theorem rm6_tttft (l : Launch) (Z : State) (a0 : Array Value) (hw : ∀ d ∈ tables_1, d.before a0 Z = true) (ws : List Jvm.Cond) (p1 : Int32) (h0 : Heap) (n0 : Nat) (Z0 : n0 ≤ h0.size) (hc1 : (0 : Int32) < p1) (hc22 : p1 < (65536 : Int32)) (hc37 : p1 < (256 : Int32)) (hc51 : ¬ (p1 < (16 : Int32))) (hc63 : ((p1.toUInt32 >>> ((4 : Int32) &&& 31).toUInt32).toInt32) < (4 : Int32)) :
    MetFree l (⟨"java/lang/Integer", "numberOfLeadingZeros", "(I)I"⟩ : MethodName) (head1 (Jvm.Cond.code (⟨"java/lang/Integer", "numberOfLeadingZeros", "(I)I"⟩ : MethodName) jdk_33_method_47_code 2 (some .int) :: ws) ({ frames := 0, cells := 0, slots := 0, locals := 0 } : Room)) (fun a U => a = #[(.int p1)] ∧ Z.Warmed39 U.vm ∧ U.heap = h0) (fun _ _ _ _ _ => True) (fun _ U o U' => ∃ v L, o = .returned v ∧ Q6 p1 h0 n0 v U'.heap L ∧ FrameEnd U o U' L ({ frames := 0, cells := 0, slots := 0, locals := 0 } : Room).cells ({ frames := 0, cells := 0, slots := 0, locals := 0 } : Room).slots) := by
  refine MetFree.of_bodySF (plainFor_of_name pn_6) hisR ?_
  intro p e s m args below meth c s₁ Bd hml0 hP hK
  obtain ⟨rfl, hZ, hh⟩ := hP
  have hx := Bd.exec
  have hby := Bd.bytes
  have hml : c.maxLocals = 2 := hml0
  have hown : s.vm.findClass "java/lang/Integer" = some m.cls := findClass_of_methodNamed Bd.named
  have hnm := (name_of_methodNamed Bd.named Bd.method).1
  have X0 : Stand p l e ({ frames := 0, cells := 0, slots := 0, locals := 0 } : Room) s m #[(.int p1)] below meth c s₁ [] 0 0 := Stand.of_body Bd
  have e0 : s₁.heap = h0 := by rw [← hh, Bd.state]; rfl
  have N0 := Fr.nil n0
  have pre0 : ∀ t, Steps p.tables e below (s₁.setTop (mkF m 0 #[.val (.int p1), .unset] [])) t → Steps p.tables e below (s₁.setTop (entryFrame m #[(.int p1)] 2)) t := fun t k => castTop (ef_6 m p1) k

  obtain ⟨fs, hr, hrun, hended, hW, hsame⟩ := X0.leave (v := some (.int ((27 : Int32) - ((((p1.toUInt32 >>> ((4 : Int32) &&& 31).toUInt32).toInt32).toUInt32 >>> ((1 : Int32) &&& 31).toUInt32).toInt32)))) (fun h => by rw [Bd.returns] at h; cases h)
  refine ⟨_, _, pre0 _ ?_, hrun, hended, _, _, rfl, ?_, ⟨_, rfl⟩, hW, hsame.mono (by decide) (by decide)⟩
  · show Steps p.tables e below (s₁.setTop (mkF m 0 #[.val (.int p1), .unset] [])) _
    refine XS.iloadN X0.here hx rfl (hb hby d6_0) rfl ?_
    show Steps p.tables e below (s₁.setTop (mkF m 1 #[.val (.int p1), .unset] [(.int p1)])) _
    refine XS.ifYes X0.here hx rfl (pc0 := 1) (pc' := 15) rfl (hb hby d6_1) rfl ((if0 _ _).trans (tlt hc1).2.2.1) (by decide) (by decide) ?_
    show Steps p.tables e below (s₁.setTop (mkF m 15 #[.val (.int p1), .unset] [])) _
    refine XS.bipush X0.here hx rfl (hb hby d6_15) ?_
    show Steps p.tables e below (s₁.setTop (mkF m 17 #[.val (.int p1), .unset] [(.int (31 : Int32))])) _
    refine XS.istoreN X0.here hx rfl (hb hby d6_17) rfl (l' := #[.val (.int p1), .val (.int (31 : Int32))]) rfl ?_
    show Steps p.tables e below (s₁.setTop (mkF m 18 #[.val (.int p1), .val (.int (31 : Int32))] [])) _
    refine XS.iloadN X0.here hx rfl (hb hby d6_18) rfl ?_
    show Steps p.tables e below (s₁.setTop (mkF m 19 #[.val (.int p1), .val (.int (31 : Int32))] [(.int p1)])) _
    refine X0.ldcwInt hx hown (mvT hZ (hw _ (List.mem_of_getElem? (i := 65) rfl))) (g := (mkF m 19 #[.val (.int p1), .val (.int (31 : Int32))] [(.int p1)])) rfl (hb hby d6_19) _ ?_
    show Steps p.tables e below (s₁.setTop (mkF m 22 #[.val (.int p1), .val (.int (31 : Int32))] [(.int (65536 : Int32)), (.int p1)])) _
    refine XS.icmpYes X0.here hx rfl (pc0 := 22) (pc' := 33) rfl (hb hby d6_22) rfl (tlt hc22).1 (by decide) (by decide) ?_
    show Steps p.tables e below (s₁.setTop (mkF m 33 #[.val (.int p1), .val (.int (31 : Int32))] [])) _
    refine XS.iloadN X0.here hx rfl (hb hby d6_33) rfl ?_
    show Steps p.tables e below (s₁.setTop (mkF m 34 #[.val (.int p1), .val (.int (31 : Int32))] [(.int p1)])) _
    refine XS.sipush X0.here hx rfl (hb hby d6_34) ?_
    show Steps p.tables e below (s₁.setTop (mkF m 37 #[.val (.int p1), .val (.int (31 : Int32))] [(.int (256 : Int32)), (.int p1)])) _
    refine XS.icmpYes X0.here hx rfl (pc0 := 37) (pc' := 48) rfl (hb hby d6_37) rfl (tlt hc37).1 (by decide) (by decide) ?_
    show Steps p.tables e below (s₁.setTop (mkF m 48 #[.val (.int p1), .val (.int (31 : Int32))] [])) _
    refine XS.iloadN X0.here hx rfl (hb hby d6_48) rfl ?_
    show Steps p.tables e below (s₁.setTop (mkF m 49 #[.val (.int p1), .val (.int (31 : Int32))] [(.int p1)])) _
    refine XS.bipush X0.here hx rfl (hb hby d6_49) ?_
    show Steps p.tables e below (s₁.setTop (mkF m 51 #[.val (.int p1), .val (.int (31 : Int32))] [(.int (16 : Int32)), (.int p1)])) _
    refine XS.icmpNo X0.here hx rfl (hb hby d6_51) rfl (flt hc51).1 ?_
    show Steps p.tables e below (s₁.setTop (mkF m 54 #[.val (.int p1), .val (.int (31 : Int32))] [])) _
    refine XS.iinc X0.here hx rfl (hb hby d6_54) rfl (l' := #[.val (.int p1), .val (.int (27 : Int32))]) rfl ?_
    show Steps p.tables e below (s₁.setTop (mkF m 57 #[.val (.int p1), .val (.int (27 : Int32))] [])) _
    refine XS.iloadN X0.here hx rfl (hb hby d6_57) rfl ?_
    show Steps p.tables e below (s₁.setTop (mkF m 58 #[.val (.int p1), .val (.int (27 : Int32))] [(.int p1)])) _
    refine XS.iconst X0.here hx rfl (hb hby d6_58) ?_
    show Steps p.tables e below (s₁.setTop (mkF m 59 #[.val (.int p1), .val (.int (27 : Int32))] [(.int (4 : Int32)), (.int p1)])) _
    refine XS.iushr X0.here hx rfl (hb hby d6_59) rfl ?_
    show Steps p.tables e below (s₁.setTop (mkF m 60 #[.val (.int p1), .val (.int (27 : Int32))] [(.int ((p1.toUInt32 >>> ((4 : Int32) &&& 31).toUInt32).toInt32))])) _
    refine XS.istoreN X0.here hx rfl (hb hby d6_60) rfl (l' := #[.val (.int ((p1.toUInt32 >>> ((4 : Int32) &&& 31).toUInt32).toInt32)), .val (.int (27 : Int32))]) rfl ?_
    show Steps p.tables e below (s₁.setTop (mkF m 61 #[.val (.int ((p1.toUInt32 >>> ((4 : Int32) &&& 31).toUInt32).toInt32)), .val (.int (27 : Int32))] [])) _
    refine XS.iloadN X0.here hx rfl (hb hby d6_61) rfl ?_
    show Steps p.tables e below (s₁.setTop (mkF m 62 #[.val (.int ((p1.toUInt32 >>> ((4 : Int32) &&& 31).toUInt32).toInt32)), .val (.int (27 : Int32))] [(.int ((p1.toUInt32 >>> ((4 : Int32) &&& 31).toUInt32).toInt32))])) _
    refine XS.iconst X0.here hx rfl (hb hby d6_62) ?_
    show Steps p.tables e below (s₁.setTop (mkF m 63 #[.val (.int ((p1.toUInt32 >>> ((4 : Int32) &&& 31).toUInt32).toInt32)), .val (.int (27 : Int32))] [(.int (4 : Int32)), (.int ((p1.toUInt32 >>> ((4 : Int32) &&& 31).toUInt32).toInt32))])) _
    refine XS.icmpYes X0.here hx rfl (pc0 := 63) (pc' := 73) rfl (hb hby d6_63) rfl (tlt hc63).1 (by decide) (by decide) ?_
    show Steps p.tables e below (s₁.setTop (mkF m 73 #[.val (.int ((p1.toUInt32 >>> ((4 : Int32) &&& 31).toUInt32).toInt32)), .val (.int (27 : Int32))] [])) _
    refine XS.iloadN X0.here hx rfl (hb hby d6_73) rfl ?_
    show Steps p.tables e below (s₁.setTop (mkF m 74 #[.val (.int ((p1.toUInt32 >>> ((4 : Int32) &&& 31).toUInt32).toInt32)), .val (.int (27 : Int32))] [(.int (27 : Int32))])) _
    refine XS.iloadN X0.here hx rfl (hb hby d6_74) rfl ?_
    show Steps p.tables e below (s₁.setTop (mkF m 75 #[.val (.int ((p1.toUInt32 >>> ((4 : Int32) &&& 31).toUInt32).toInt32)), .val (.int (27 : Int32))] [(.int ((p1.toUInt32 >>> ((4 : Int32) &&& 31).toUInt32).toInt32)), (.int (27 : Int32))])) _
    refine XS.iconst X0.here hx rfl (hb hby d6_75) ?_
    show Steps p.tables e below (s₁.setTop (mkF m 76 #[.val (.int ((p1.toUInt32 >>> ((4 : Int32) &&& 31).toUInt32).toInt32)), .val (.int (27 : Int32))] [(.int (1 : Int32)), (.int ((p1.toUInt32 >>> ((4 : Int32) &&& 31).toUInt32).toInt32)), (.int (27 : Int32))])) _
    refine XS.iushr X0.here hx rfl (hb hby d6_76) rfl ?_
    show Steps p.tables e below (s₁.setTop (mkF m 77 #[.val (.int ((p1.toUInt32 >>> ((4 : Int32) &&& 31).toUInt32).toInt32)), .val (.int (27 : Int32))] [(.int ((((p1.toUInt32 >>> ((4 : Int32) &&& 31).toUInt32).toInt32).toUInt32 >>> ((1 : Int32) &&& 31).toUInt32).toInt32)), (.int (27 : Int32))])) _
    refine XS.isub X0.here hx rfl (hb hby d6_77) rfl ?_
    show Steps p.tables e below (s₁.setTop (mkF m 78 #[.val (.int ((p1.toUInt32 >>> ((4 : Int32) &&& 31).toUInt32).toInt32)), .val (.int (27 : Int32))] [(.int ((27 : Int32) - ((((p1.toUInt32 >>> ((4 : Int32) &&& 31).toUInt32).toInt32).toUInt32 >>> ((1 : Int32) &&& 31).toUInt32).toInt32)))])) _
    exact retI X0 hx Bd.returns (hb hby d6_78) hr
  · show Q6 p1 h0 n0 _ s₁.heap _
    rw [e0]
    exact ⟨_, rfl, N0, rfl, own_n_tttft p1 hc1 hc22 hc37 hc51 hc63⟩
theorem own_n_tttff (p1 : Int32) (hc1 : (0 : Int32) < p1) (hc22 : p1 < (65536 : Int32)) (hc37 : p1 < (256 : Int32)) (hc51 : ¬ (p1 < (16 : Int32))) (hc63 : ¬ (((p1.toUInt32 >>> ((4 : Int32) &&& 31).toUInt32).toInt32) < (4 : Int32))) : own_P p1 ((25 : Int32) - ((((((p1.toUInt32 >>> ((4 : Int32) &&& 31).toUInt32).toInt32).toUInt32 >>> ((2 : Int32) &&& 31).toUInt32).toInt32).toUInt32 >>> ((1 : Int32) &&& 31).toUInt32).toInt32)) := by
  have e0 : (0 : Int32).toInt = 0 := rfl
  have z0 : 0 ≤ p1.toInt := by rw [Int32.lt_iff_toInt_lt] at hc1; omega
  have rv := rng32 p1
  have c16 : (65536 : Int32).toInt = 65536 := rfl
  have c8 : (256 : Int32).toInt = 256 := rfl
  have c4 : (16 : Int32).toInt = 16 := rfl
  have c2 : (4 : Int32).toInt = 4 := rfl
  rw [Int32.lt_iff_toInt_lt] at hc22
  rw [Int32.lt_iff_toInt_lt] at hc37
  rw [Int32.lt_iff_toInt_lt] at hc51
  have s4 := own_shr p1 4 4 (by decide) (by decide) z0
  have y4 : 0 ≤ (((p1.toUInt32 >>> ((4 : Int32) &&& 31).toUInt32).toInt32)).toInt := by omega
  rw [Int32.lt_iff_toInt_lt] at hc63
  have s2 := own_shr ((p1.toUInt32 >>> ((4 : Int32) &&& 31).toUInt32).toInt32) 2 2 (by decide) (by decide) y4
  have y2 : 0 ≤ (((((p1.toUInt32 >>> ((4 : Int32) &&& 31).toUInt32).toInt32).toUInt32 >>> ((2 : Int32) &&& 31).toUInt32).toInt32)).toInt := by omega
  have s1 := own_shr ((((p1.toUInt32 >>> ((4 : Int32) &&& 31).toUInt32).toInt32).toUInt32 >>> ((2 : Int32) &&& 31).toUInt32).toInt32) 1 1 (by decide) (by decide) y2
  have d := c_isub (25 : Int32) ((((((p1.toUInt32 >>> ((4 : Int32) &&& 31).toUInt32).toInt32).toUInt32 >>> ((2 : Int32) &&& 31).toUInt32).toInt32).toUInt32 >>> ((1 : Int32) &&& 31).toUInt32).toInt32)
  have rd := rng32 ((25 : Int32) - ((((((p1.toUInt32 >>> ((4 : Int32) &&& 31).toUInt32).toInt32).toUInt32 >>> ((2 : Int32) &&& 31).toUInt32).toInt32).toUInt32 >>> ((1 : Int32) &&& 31).toUInt32).toInt32))
  have en : (25 : Int32).toInt = 25 := rfl
  unfold own_P
  refine ⟨fun q => ?_, fun q q' => ?_, fun q q' => ?_, fun q => ?_⟩ <;> omega
set_option maxRecDepth 65536 in
set_option maxHeartbeats 40000000 in
theorem rm6_tttff (l : Launch) (Z : State) (a0 : Array Value) (hw : ∀ d ∈ tables_1, d.before a0 Z = true) (ws : List Jvm.Cond) (p1 : Int32) (h0 : Heap) (n0 : Nat) (Z0 : n0 ≤ h0.size) (hc1 : (0 : Int32) < p1) (hc22 : p1 < (65536 : Int32)) (hc37 : p1 < (256 : Int32)) (hc51 : ¬ (p1 < (16 : Int32))) (hc63 : ¬ (((p1.toUInt32 >>> ((4 : Int32) &&& 31).toUInt32).toInt32) < (4 : Int32))) :
    MetFree l (⟨"java/lang/Integer", "numberOfLeadingZeros", "(I)I"⟩ : MethodName) (head1 (Jvm.Cond.code (⟨"java/lang/Integer", "numberOfLeadingZeros", "(I)I"⟩ : MethodName) jdk_33_method_47_code 2 (some .int) :: ws) ({ frames := 0, cells := 0, slots := 0, locals := 0 } : Room)) (fun a U => a = #[(.int p1)] ∧ Z.Warmed39 U.vm ∧ U.heap = h0) (fun _ _ _ _ _ => True) (fun _ U o U' => ∃ v L, o = .returned v ∧ Q6 p1 h0 n0 v U'.heap L ∧ FrameEnd U o U' L ({ frames := 0, cells := 0, slots := 0, locals := 0 } : Room).cells ({ frames := 0, cells := 0, slots := 0, locals := 0 } : Room).slots) := by
  refine MetFree.of_bodySF (plainFor_of_name pn_6) hisR ?_
  intro p e s m args below meth c s₁ Bd hml0 hP hK
  obtain ⟨rfl, hZ, hh⟩ := hP
  have hx := Bd.exec
  have hby := Bd.bytes
  have hml : c.maxLocals = 2 := hml0
  have hown : s.vm.findClass "java/lang/Integer" = some m.cls := findClass_of_methodNamed Bd.named
  have hnm := (name_of_methodNamed Bd.named Bd.method).1
  have X0 : Stand p l e ({ frames := 0, cells := 0, slots := 0, locals := 0 } : Room) s m #[(.int p1)] below meth c s₁ [] 0 0 := Stand.of_body Bd
  have e0 : s₁.heap = h0 := by rw [← hh, Bd.state]; rfl
  have N0 := Fr.nil n0
  have pre0 : ∀ t, Steps p.tables e below (s₁.setTop (mkF m 0 #[.val (.int p1), .unset] [])) t → Steps p.tables e below (s₁.setTop (entryFrame m #[(.int p1)] 2)) t := fun t k => castTop (ef_6 m p1) k

  obtain ⟨fs, hr, hrun, hended, hW, hsame⟩ := X0.leave (v := some (.int ((25 : Int32) - ((((((p1.toUInt32 >>> ((4 : Int32) &&& 31).toUInt32).toInt32).toUInt32 >>> ((2 : Int32) &&& 31).toUInt32).toInt32).toUInt32 >>> ((1 : Int32) &&& 31).toUInt32).toInt32)))) (fun h => by rw [Bd.returns] at h; cases h)
  refine ⟨_, _, pre0 _ ?_, hrun, hended, _, _, rfl, ?_, ⟨_, rfl⟩, hW, hsame.mono (by decide) (by decide)⟩
  · show Steps p.tables e below (s₁.setTop (mkF m 0 #[.val (.int p1), .unset] [])) _
    refine XS.iloadN X0.here hx rfl (hb hby d6_0) rfl ?_
    show Steps p.tables e below (s₁.setTop (mkF m 1 #[.val (.int p1), .unset] [(.int p1)])) _
    refine XS.ifYes X0.here hx rfl (pc0 := 1) (pc' := 15) rfl (hb hby d6_1) rfl ((if0 _ _).trans (tlt hc1).2.2.1) (by decide) (by decide) ?_
    show Steps p.tables e below (s₁.setTop (mkF m 15 #[.val (.int p1), .unset] [])) _
    refine XS.bipush X0.here hx rfl (hb hby d6_15) ?_
    show Steps p.tables e below (s₁.setTop (mkF m 17 #[.val (.int p1), .unset] [(.int (31 : Int32))])) _
    refine XS.istoreN X0.here hx rfl (hb hby d6_17) rfl (l' := #[.val (.int p1), .val (.int (31 : Int32))]) rfl ?_
    show Steps p.tables e below (s₁.setTop (mkF m 18 #[.val (.int p1), .val (.int (31 : Int32))] [])) _
    refine XS.iloadN X0.here hx rfl (hb hby d6_18) rfl ?_
    show Steps p.tables e below (s₁.setTop (mkF m 19 #[.val (.int p1), .val (.int (31 : Int32))] [(.int p1)])) _
    refine X0.ldcwInt hx hown (mvT hZ (hw _ (List.mem_of_getElem? (i := 65) rfl))) (g := (mkF m 19 #[.val (.int p1), .val (.int (31 : Int32))] [(.int p1)])) rfl (hb hby d6_19) _ ?_
    show Steps p.tables e below (s₁.setTop (mkF m 22 #[.val (.int p1), .val (.int (31 : Int32))] [(.int (65536 : Int32)), (.int p1)])) _
    refine XS.icmpYes X0.here hx rfl (pc0 := 22) (pc' := 33) rfl (hb hby d6_22) rfl (tlt hc22).1 (by decide) (by decide) ?_
    show Steps p.tables e below (s₁.setTop (mkF m 33 #[.val (.int p1), .val (.int (31 : Int32))] [])) _
    refine XS.iloadN X0.here hx rfl (hb hby d6_33) rfl ?_
    show Steps p.tables e below (s₁.setTop (mkF m 34 #[.val (.int p1), .val (.int (31 : Int32))] [(.int p1)])) _
    refine XS.sipush X0.here hx rfl (hb hby d6_34) ?_
    show Steps p.tables e below (s₁.setTop (mkF m 37 #[.val (.int p1), .val (.int (31 : Int32))] [(.int (256 : Int32)), (.int p1)])) _
    refine XS.icmpYes X0.here hx rfl (pc0 := 37) (pc' := 48) rfl (hb hby d6_37) rfl (tlt hc37).1 (by decide) (by decide) ?_
    show Steps p.tables e below (s₁.setTop (mkF m 48 #[.val (.int p1), .val (.int (31 : Int32))] [])) _
    refine XS.iloadN X0.here hx rfl (hb hby d6_48) rfl ?_
    show Steps p.tables e below (s₁.setTop (mkF m 49 #[.val (.int p1), .val (.int (31 : Int32))] [(.int p1)])) _
    refine XS.bipush X0.here hx rfl (hb hby d6_49) ?_
    show Steps p.tables e below (s₁.setTop (mkF m 51 #[.val (.int p1), .val (.int (31 : Int32))] [(.int (16 : Int32)), (.int p1)])) _
    refine XS.icmpNo X0.here hx rfl (hb hby d6_51) rfl (flt hc51).1 ?_
    show Steps p.tables e below (s₁.setTop (mkF m 54 #[.val (.int p1), .val (.int (31 : Int32))] [])) _
    refine XS.iinc X0.here hx rfl (hb hby d6_54) rfl (l' := #[.val (.int p1), .val (.int (27 : Int32))]) rfl ?_
    show Steps p.tables e below (s₁.setTop (mkF m 57 #[.val (.int p1), .val (.int (27 : Int32))] [])) _
    refine XS.iloadN X0.here hx rfl (hb hby d6_57) rfl ?_
    show Steps p.tables e below (s₁.setTop (mkF m 58 #[.val (.int p1), .val (.int (27 : Int32))] [(.int p1)])) _
    refine XS.iconst X0.here hx rfl (hb hby d6_58) ?_
    show Steps p.tables e below (s₁.setTop (mkF m 59 #[.val (.int p1), .val (.int (27 : Int32))] [(.int (4 : Int32)), (.int p1)])) _
    refine XS.iushr X0.here hx rfl (hb hby d6_59) rfl ?_
    show Steps p.tables e below (s₁.setTop (mkF m 60 #[.val (.int p1), .val (.int (27 : Int32))] [(.int ((p1.toUInt32 >>> ((4 : Int32) &&& 31).toUInt32).toInt32))])) _
    refine XS.istoreN X0.here hx rfl (hb hby d6_60) rfl (l' := #[.val (.int ((p1.toUInt32 >>> ((4 : Int32) &&& 31).toUInt32).toInt32)), .val (.int (27 : Int32))]) rfl ?_
    show Steps p.tables e below (s₁.setTop (mkF m 61 #[.val (.int ((p1.toUInt32 >>> ((4 : Int32) &&& 31).toUInt32).toInt32)), .val (.int (27 : Int32))] [])) _
    refine XS.iloadN X0.here hx rfl (hb hby d6_61) rfl ?_
    show Steps p.tables e below (s₁.setTop (mkF m 62 #[.val (.int ((p1.toUInt32 >>> ((4 : Int32) &&& 31).toUInt32).toInt32)), .val (.int (27 : Int32))] [(.int ((p1.toUInt32 >>> ((4 : Int32) &&& 31).toUInt32).toInt32))])) _
    refine XS.iconst X0.here hx rfl (hb hby d6_62) ?_
    show Steps p.tables e below (s₁.setTop (mkF m 63 #[.val (.int ((p1.toUInt32 >>> ((4 : Int32) &&& 31).toUInt32).toInt32)), .val (.int (27 : Int32))] [(.int (4 : Int32)), (.int ((p1.toUInt32 >>> ((4 : Int32) &&& 31).toUInt32).toInt32))])) _
    refine XS.icmpNo X0.here hx rfl (hb hby d6_63) rfl (flt hc63).1 ?_
    show Steps p.tables e below (s₁.setTop (mkF m 66 #[.val (.int ((p1.toUInt32 >>> ((4 : Int32) &&& 31).toUInt32).toInt32)), .val (.int (27 : Int32))] [])) _
    refine XS.iinc X0.here hx rfl (hb hby d6_66) rfl (l' := #[.val (.int ((p1.toUInt32 >>> ((4 : Int32) &&& 31).toUInt32).toInt32)), .val (.int (25 : Int32))]) rfl ?_
    show Steps p.tables e below (s₁.setTop (mkF m 69 #[.val (.int ((p1.toUInt32 >>> ((4 : Int32) &&& 31).toUInt32).toInt32)), .val (.int (25 : Int32))] [])) _
    refine XS.iloadN X0.here hx rfl (hb hby d6_69) rfl ?_
    show Steps p.tables e below (s₁.setTop (mkF m 70 #[.val (.int ((p1.toUInt32 >>> ((4 : Int32) &&& 31).toUInt32).toInt32)), .val (.int (25 : Int32))] [(.int ((p1.toUInt32 >>> ((4 : Int32) &&& 31).toUInt32).toInt32))])) _
    refine XS.iconst X0.here hx rfl (hb hby d6_70) ?_
    show Steps p.tables e below (s₁.setTop (mkF m 71 #[.val (.int ((p1.toUInt32 >>> ((4 : Int32) &&& 31).toUInt32).toInt32)), .val (.int (25 : Int32))] [(.int (2 : Int32)), (.int ((p1.toUInt32 >>> ((4 : Int32) &&& 31).toUInt32).toInt32))])) _
    refine XS.iushr X0.here hx rfl (hb hby d6_71) rfl ?_
    show Steps p.tables e below (s₁.setTop (mkF m 72 #[.val (.int ((p1.toUInt32 >>> ((4 : Int32) &&& 31).toUInt32).toInt32)), .val (.int (25 : Int32))] [(.int ((((p1.toUInt32 >>> ((4 : Int32) &&& 31).toUInt32).toInt32).toUInt32 >>> ((2 : Int32) &&& 31).toUInt32).toInt32))])) _
    refine XS.istoreN X0.here hx rfl (hb hby d6_72) rfl (l' := #[.val (.int ((((p1.toUInt32 >>> ((4 : Int32) &&& 31).toUInt32).toInt32).toUInt32 >>> ((2 : Int32) &&& 31).toUInt32).toInt32)), .val (.int (25 : Int32))]) rfl ?_
    show Steps p.tables e below (s₁.setTop (mkF m 73 #[.val (.int ((((p1.toUInt32 >>> ((4 : Int32) &&& 31).toUInt32).toInt32).toUInt32 >>> ((2 : Int32) &&& 31).toUInt32).toInt32)), .val (.int (25 : Int32))] [])) _
    refine XS.iloadN X0.here hx rfl (hb hby d6_73) rfl ?_
    show Steps p.tables e below (s₁.setTop (mkF m 74 #[.val (.int ((((p1.toUInt32 >>> ((4 : Int32) &&& 31).toUInt32).toInt32).toUInt32 >>> ((2 : Int32) &&& 31).toUInt32).toInt32)), .val (.int (25 : Int32))] [(.int (25 : Int32))])) _
    refine XS.iloadN X0.here hx rfl (hb hby d6_74) rfl ?_
    show Steps p.tables e below (s₁.setTop (mkF m 75 #[.val (.int ((((p1.toUInt32 >>> ((4 : Int32) &&& 31).toUInt32).toInt32).toUInt32 >>> ((2 : Int32) &&& 31).toUInt32).toInt32)), .val (.int (25 : Int32))] [(.int ((((p1.toUInt32 >>> ((4 : Int32) &&& 31).toUInt32).toInt32).toUInt32 >>> ((2 : Int32) &&& 31).toUInt32).toInt32)), (.int (25 : Int32))])) _
    refine XS.iconst X0.here hx rfl (hb hby d6_75) ?_
    show Steps p.tables e below (s₁.setTop (mkF m 76 #[.val (.int ((((p1.toUInt32 >>> ((4 : Int32) &&& 31).toUInt32).toInt32).toUInt32 >>> ((2 : Int32) &&& 31).toUInt32).toInt32)), .val (.int (25 : Int32))] [(.int (1 : Int32)), (.int ((((p1.toUInt32 >>> ((4 : Int32) &&& 31).toUInt32).toInt32).toUInt32 >>> ((2 : Int32) &&& 31).toUInt32).toInt32)), (.int (25 : Int32))])) _
    refine XS.iushr X0.here hx rfl (hb hby d6_76) rfl ?_
    show Steps p.tables e below (s₁.setTop (mkF m 77 #[.val (.int ((((p1.toUInt32 >>> ((4 : Int32) &&& 31).toUInt32).toInt32).toUInt32 >>> ((2 : Int32) &&& 31).toUInt32).toInt32)), .val (.int (25 : Int32))] [(.int ((((((p1.toUInt32 >>> ((4 : Int32) &&& 31).toUInt32).toInt32).toUInt32 >>> ((2 : Int32) &&& 31).toUInt32).toInt32).toUInt32 >>> ((1 : Int32) &&& 31).toUInt32).toInt32)), (.int (25 : Int32))])) _
    refine XS.isub X0.here hx rfl (hb hby d6_77) rfl ?_
    show Steps p.tables e below (s₁.setTop (mkF m 78 #[.val (.int ((((p1.toUInt32 >>> ((4 : Int32) &&& 31).toUInt32).toInt32).toUInt32 >>> ((2 : Int32) &&& 31).toUInt32).toInt32)), .val (.int (25 : Int32))] [(.int ((25 : Int32) - ((((((p1.toUInt32 >>> ((4 : Int32) &&& 31).toUInt32).toInt32).toUInt32 >>> ((2 : Int32) &&& 31).toUInt32).toInt32).toUInt32 >>> ((1 : Int32) &&& 31).toUInt32).toInt32)))])) _
    exact retI X0 hx Bd.returns (hb hby d6_78) hr
  · show Q6 p1 h0 n0 _ s₁.heap _
    rw [e0]
    exact ⟨_, rfl, N0, rfl, own_n_tttff p1 hc1 hc22 hc37 hc51 hc63⟩
theorem d6_40 : decode jdk_33_method_47_code 40 = .ok (.iinc 1 (-8), 3) := by decide +kernel
theorem d6_43 : decode jdk_33_method_47_code 43 = .ok (.iload_n 0, 1) := by decide +kernel
theorem d6_44 : decode jdk_33_method_47_code 44 = .ok (.bipush 8, 2) := by decide +kernel
theorem d6_46 : decode jdk_33_method_47_code 46 = .ok (.iushr, 1) := by decide +kernel
theorem d6_47 : decode jdk_33_method_47_code 47 = .ok (.istore_n 0, 1) := by decide +kernel
theorem own_n_ttftt (p1 : Int32) (hc1 : (0 : Int32) < p1) (hc22 : p1 < (65536 : Int32)) (hc37 : ¬ (p1 < (256 : Int32))) (hc51 : ((p1.toUInt32 >>> ((8 : Int32) &&& 31).toUInt32).toInt32) < (16 : Int32)) (hc63 : ((p1.toUInt32 >>> ((8 : Int32) &&& 31).toUInt32).toInt32) < (4 : Int32)) : own_P p1 ((23 : Int32) - ((((p1.toUInt32 >>> ((8 : Int32) &&& 31).toUInt32).toInt32).toUInt32 >>> ((1 : Int32) &&& 31).toUInt32).toInt32)) := by
  have e0 : (0 : Int32).toInt = 0 := rfl
  have z0 : 0 ≤ p1.toInt := by rw [Int32.lt_iff_toInt_lt] at hc1; omega
  have rv := rng32 p1
  have c16 : (65536 : Int32).toInt = 65536 := rfl
  have c8 : (256 : Int32).toInt = 256 := rfl
  have c4 : (16 : Int32).toInt = 16 := rfl
  have c2 : (4 : Int32).toInt = 4 := rfl
  rw [Int32.lt_iff_toInt_lt] at hc22
  rw [Int32.lt_iff_toInt_lt] at hc37
  have s8 := own_shr p1 8 8 (by decide) (by decide) z0
  have y8 : 0 ≤ (((p1.toUInt32 >>> ((8 : Int32) &&& 31).toUInt32).toInt32)).toInt := by omega
  rw [Int32.lt_iff_toInt_lt] at hc51
  rw [Int32.lt_iff_toInt_lt] at hc63
  have s1 := own_shr ((p1.toUInt32 >>> ((8 : Int32) &&& 31).toUInt32).toInt32) 1 1 (by decide) (by decide) y8
  have d := c_isub (23 : Int32) ((((p1.toUInt32 >>> ((8 : Int32) &&& 31).toUInt32).toInt32).toUInt32 >>> ((1 : Int32) &&& 31).toUInt32).toInt32)
  have rd := rng32 ((23 : Int32) - ((((p1.toUInt32 >>> ((8 : Int32) &&& 31).toUInt32).toInt32).toUInt32 >>> ((1 : Int32) &&& 31).toUInt32).toInt32))
  have en : (23 : Int32).toInt = 23 := rfl
  unfold own_P
  refine ⟨fun q => ?_, fun q q' => ?_, fun q q' => ?_, fun q => ?_⟩ <;> omega
set_option maxRecDepth 65536 in
set_option maxHeartbeats 40000000 in
theorem rm6_ttftt (l : Launch) (Z : State) (a0 : Array Value) (hw : ∀ d ∈ tables_1, d.before a0 Z = true) (ws : List Jvm.Cond) (p1 : Int32) (h0 : Heap) (n0 : Nat) (Z0 : n0 ≤ h0.size) (hc1 : (0 : Int32) < p1) (hc22 : p1 < (65536 : Int32)) (hc37 : ¬ (p1 < (256 : Int32))) (hc51 : ((p1.toUInt32 >>> ((8 : Int32) &&& 31).toUInt32).toInt32) < (16 : Int32)) (hc63 : ((p1.toUInt32 >>> ((8 : Int32) &&& 31).toUInt32).toInt32) < (4 : Int32)) :
    MetFree l (⟨"java/lang/Integer", "numberOfLeadingZeros", "(I)I"⟩ : MethodName) (head1 (Jvm.Cond.code (⟨"java/lang/Integer", "numberOfLeadingZeros", "(I)I"⟩ : MethodName) jdk_33_method_47_code 2 (some .int) :: ws) ({ frames := 0, cells := 0, slots := 0, locals := 0 } : Room)) (fun a U => a = #[(.int p1)] ∧ Z.Warmed39 U.vm ∧ U.heap = h0) (fun _ _ _ _ _ => True) (fun _ U o U' => ∃ v L, o = .returned v ∧ Q6 p1 h0 n0 v U'.heap L ∧ FrameEnd U o U' L ({ frames := 0, cells := 0, slots := 0, locals := 0 } : Room).cells ({ frames := 0, cells := 0, slots := 0, locals := 0 } : Room).slots) := by
  refine MetFree.of_bodySF (plainFor_of_name pn_6) hisR ?_
  intro p e s m args below meth c s₁ Bd hml0 hP hK
  obtain ⟨rfl, hZ, hh⟩ := hP
  have hx := Bd.exec
  have hby := Bd.bytes
  have hml : c.maxLocals = 2 := hml0
  have hown : s.vm.findClass "java/lang/Integer" = some m.cls := findClass_of_methodNamed Bd.named
  have hnm := (name_of_methodNamed Bd.named Bd.method).1
  have X0 : Stand p l e ({ frames := 0, cells := 0, slots := 0, locals := 0 } : Room) s m #[(.int p1)] below meth c s₁ [] 0 0 := Stand.of_body Bd
  have e0 : s₁.heap = h0 := by rw [← hh, Bd.state]; rfl
  have N0 := Fr.nil n0
  have pre0 : ∀ t, Steps p.tables e below (s₁.setTop (mkF m 0 #[.val (.int p1), .unset] [])) t → Steps p.tables e below (s₁.setTop (entryFrame m #[(.int p1)] 2)) t := fun t k => castTop (ef_6 m p1) k

  obtain ⟨fs, hr, hrun, hended, hW, hsame⟩ := X0.leave (v := some (.int ((23 : Int32) - ((((p1.toUInt32 >>> ((8 : Int32) &&& 31).toUInt32).toInt32).toUInt32 >>> ((1 : Int32) &&& 31).toUInt32).toInt32)))) (fun h => by rw [Bd.returns] at h; cases h)
  refine ⟨_, _, pre0 _ ?_, hrun, hended, _, _, rfl, ?_, ⟨_, rfl⟩, hW, hsame.mono (by decide) (by decide)⟩
  · show Steps p.tables e below (s₁.setTop (mkF m 0 #[.val (.int p1), .unset] [])) _
    refine XS.iloadN X0.here hx rfl (hb hby d6_0) rfl ?_
    show Steps p.tables e below (s₁.setTop (mkF m 1 #[.val (.int p1), .unset] [(.int p1)])) _
    refine XS.ifYes X0.here hx rfl (pc0 := 1) (pc' := 15) rfl (hb hby d6_1) rfl ((if0 _ _).trans (tlt hc1).2.2.1) (by decide) (by decide) ?_
    show Steps p.tables e below (s₁.setTop (mkF m 15 #[.val (.int p1), .unset] [])) _
    refine XS.bipush X0.here hx rfl (hb hby d6_15) ?_
    show Steps p.tables e below (s₁.setTop (mkF m 17 #[.val (.int p1), .unset] [(.int (31 : Int32))])) _
    refine XS.istoreN X0.here hx rfl (hb hby d6_17) rfl (l' := #[.val (.int p1), .val (.int (31 : Int32))]) rfl ?_
    show Steps p.tables e below (s₁.setTop (mkF m 18 #[.val (.int p1), .val (.int (31 : Int32))] [])) _
    refine XS.iloadN X0.here hx rfl (hb hby d6_18) rfl ?_
    show Steps p.tables e below (s₁.setTop (mkF m 19 #[.val (.int p1), .val (.int (31 : Int32))] [(.int p1)])) _
    refine X0.ldcwInt hx hown (mvT hZ (hw _ (List.mem_of_getElem? (i := 65) rfl))) (g := (mkF m 19 #[.val (.int p1), .val (.int (31 : Int32))] [(.int p1)])) rfl (hb hby d6_19) _ ?_
    show Steps p.tables e below (s₁.setTop (mkF m 22 #[.val (.int p1), .val (.int (31 : Int32))] [(.int (65536 : Int32)), (.int p1)])) _
    refine XS.icmpYes X0.here hx rfl (pc0 := 22) (pc' := 33) rfl (hb hby d6_22) rfl (tlt hc22).1 (by decide) (by decide) ?_
    show Steps p.tables e below (s₁.setTop (mkF m 33 #[.val (.int p1), .val (.int (31 : Int32))] [])) _
    refine XS.iloadN X0.here hx rfl (hb hby d6_33) rfl ?_
    show Steps p.tables e below (s₁.setTop (mkF m 34 #[.val (.int p1), .val (.int (31 : Int32))] [(.int p1)])) _
    refine XS.sipush X0.here hx rfl (hb hby d6_34) ?_
    show Steps p.tables e below (s₁.setTop (mkF m 37 #[.val (.int p1), .val (.int (31 : Int32))] [(.int (256 : Int32)), (.int p1)])) _
    refine XS.icmpNo X0.here hx rfl (hb hby d6_37) rfl (flt hc37).1 ?_
    show Steps p.tables e below (s₁.setTop (mkF m 40 #[.val (.int p1), .val (.int (31 : Int32))] [])) _
    refine XS.iinc X0.here hx rfl (hb hby d6_40) rfl (l' := #[.val (.int p1), .val (.int (23 : Int32))]) rfl ?_
    show Steps p.tables e below (s₁.setTop (mkF m 43 #[.val (.int p1), .val (.int (23 : Int32))] [])) _
    refine XS.iloadN X0.here hx rfl (hb hby d6_43) rfl ?_
    show Steps p.tables e below (s₁.setTop (mkF m 44 #[.val (.int p1), .val (.int (23 : Int32))] [(.int p1)])) _
    refine XS.bipush X0.here hx rfl (hb hby d6_44) ?_
    show Steps p.tables e below (s₁.setTop (mkF m 46 #[.val (.int p1), .val (.int (23 : Int32))] [(.int (8 : Int32)), (.int p1)])) _
    refine XS.iushr X0.here hx rfl (hb hby d6_46) rfl ?_
    show Steps p.tables e below (s₁.setTop (mkF m 47 #[.val (.int p1), .val (.int (23 : Int32))] [(.int ((p1.toUInt32 >>> ((8 : Int32) &&& 31).toUInt32).toInt32))])) _
    refine XS.istoreN X0.here hx rfl (hb hby d6_47) rfl (l' := #[.val (.int ((p1.toUInt32 >>> ((8 : Int32) &&& 31).toUInt32).toInt32)), .val (.int (23 : Int32))]) rfl ?_
    show Steps p.tables e below (s₁.setTop (mkF m 48 #[.val (.int ((p1.toUInt32 >>> ((8 : Int32) &&& 31).toUInt32).toInt32)), .val (.int (23 : Int32))] [])) _
    refine XS.iloadN X0.here hx rfl (hb hby d6_48) rfl ?_
    show Steps p.tables e below (s₁.setTop (mkF m 49 #[.val (.int ((p1.toUInt32 >>> ((8 : Int32) &&& 31).toUInt32).toInt32)), .val (.int (23 : Int32))] [(.int ((p1.toUInt32 >>> ((8 : Int32) &&& 31).toUInt32).toInt32))])) _
    refine XS.bipush X0.here hx rfl (hb hby d6_49) ?_
    show Steps p.tables e below (s₁.setTop (mkF m 51 #[.val (.int ((p1.toUInt32 >>> ((8 : Int32) &&& 31).toUInt32).toInt32)), .val (.int (23 : Int32))] [(.int (16 : Int32)), (.int ((p1.toUInt32 >>> ((8 : Int32) &&& 31).toUInt32).toInt32))])) _
    refine XS.icmpYes X0.here hx rfl (pc0 := 51) (pc' := 61) rfl (hb hby d6_51) rfl (tlt hc51).1 (by decide) (by decide) ?_
    show Steps p.tables e below (s₁.setTop (mkF m 61 #[.val (.int ((p1.toUInt32 >>> ((8 : Int32) &&& 31).toUInt32).toInt32)), .val (.int (23 : Int32))] [])) _
    refine XS.iloadN X0.here hx rfl (hb hby d6_61) rfl ?_
    show Steps p.tables e below (s₁.setTop (mkF m 62 #[.val (.int ((p1.toUInt32 >>> ((8 : Int32) &&& 31).toUInt32).toInt32)), .val (.int (23 : Int32))] [(.int ((p1.toUInt32 >>> ((8 : Int32) &&& 31).toUInt32).toInt32))])) _
    refine XS.iconst X0.here hx rfl (hb hby d6_62) ?_
    show Steps p.tables e below (s₁.setTop (mkF m 63 #[.val (.int ((p1.toUInt32 >>> ((8 : Int32) &&& 31).toUInt32).toInt32)), .val (.int (23 : Int32))] [(.int (4 : Int32)), (.int ((p1.toUInt32 >>> ((8 : Int32) &&& 31).toUInt32).toInt32))])) _
    refine XS.icmpYes X0.here hx rfl (pc0 := 63) (pc' := 73) rfl (hb hby d6_63) rfl (tlt hc63).1 (by decide) (by decide) ?_
    show Steps p.tables e below (s₁.setTop (mkF m 73 #[.val (.int ((p1.toUInt32 >>> ((8 : Int32) &&& 31).toUInt32).toInt32)), .val (.int (23 : Int32))] [])) _
    refine XS.iloadN X0.here hx rfl (hb hby d6_73) rfl ?_
    show Steps p.tables e below (s₁.setTop (mkF m 74 #[.val (.int ((p1.toUInt32 >>> ((8 : Int32) &&& 31).toUInt32).toInt32)), .val (.int (23 : Int32))] [(.int (23 : Int32))])) _
    refine XS.iloadN X0.here hx rfl (hb hby d6_74) rfl ?_
    show Steps p.tables e below (s₁.setTop (mkF m 75 #[.val (.int ((p1.toUInt32 >>> ((8 : Int32) &&& 31).toUInt32).toInt32)), .val (.int (23 : Int32))] [(.int ((p1.toUInt32 >>> ((8 : Int32) &&& 31).toUInt32).toInt32)), (.int (23 : Int32))])) _
    refine XS.iconst X0.here hx rfl (hb hby d6_75) ?_
    show Steps p.tables e below (s₁.setTop (mkF m 76 #[.val (.int ((p1.toUInt32 >>> ((8 : Int32) &&& 31).toUInt32).toInt32)), .val (.int (23 : Int32))] [(.int (1 : Int32)), (.int ((p1.toUInt32 >>> ((8 : Int32) &&& 31).toUInt32).toInt32)), (.int (23 : Int32))])) _
    refine XS.iushr X0.here hx rfl (hb hby d6_76) rfl ?_
    show Steps p.tables e below (s₁.setTop (mkF m 77 #[.val (.int ((p1.toUInt32 >>> ((8 : Int32) &&& 31).toUInt32).toInt32)), .val (.int (23 : Int32))] [(.int ((((p1.toUInt32 >>> ((8 : Int32) &&& 31).toUInt32).toInt32).toUInt32 >>> ((1 : Int32) &&& 31).toUInt32).toInt32)), (.int (23 : Int32))])) _
    refine XS.isub X0.here hx rfl (hb hby d6_77) rfl ?_
    show Steps p.tables e below (s₁.setTop (mkF m 78 #[.val (.int ((p1.toUInt32 >>> ((8 : Int32) &&& 31).toUInt32).toInt32)), .val (.int (23 : Int32))] [(.int ((23 : Int32) - ((((p1.toUInt32 >>> ((8 : Int32) &&& 31).toUInt32).toInt32).toUInt32 >>> ((1 : Int32) &&& 31).toUInt32).toInt32)))])) _
    exact retI X0 hx Bd.returns (hb hby d6_78) hr
  · show Q6 p1 h0 n0 _ s₁.heap _
    rw [e0]
    exact ⟨_, rfl, N0, rfl, own_n_ttftt p1 hc1 hc22 hc37 hc51 hc63⟩
theorem own_n_ttftf (p1 : Int32) (hc1 : (0 : Int32) < p1) (hc22 : p1 < (65536 : Int32)) (hc37 : ¬ (p1 < (256 : Int32))) (hc51 : ((p1.toUInt32 >>> ((8 : Int32) &&& 31).toUInt32).toInt32) < (16 : Int32)) (hc63 : ¬ (((p1.toUInt32 >>> ((8 : Int32) &&& 31).toUInt32).toInt32) < (4 : Int32))) : own_P p1 ((21 : Int32) - ((((((p1.toUInt32 >>> ((8 : Int32) &&& 31).toUInt32).toInt32).toUInt32 >>> ((2 : Int32) &&& 31).toUInt32).toInt32).toUInt32 >>> ((1 : Int32) &&& 31).toUInt32).toInt32)) := by
  have e0 : (0 : Int32).toInt = 0 := rfl
  have z0 : 0 ≤ p1.toInt := by rw [Int32.lt_iff_toInt_lt] at hc1; omega
  have rv := rng32 p1
  have c16 : (65536 : Int32).toInt = 65536 := rfl
  have c8 : (256 : Int32).toInt = 256 := rfl
  have c4 : (16 : Int32).toInt = 16 := rfl
  have c2 : (4 : Int32).toInt = 4 := rfl
  rw [Int32.lt_iff_toInt_lt] at hc22
  rw [Int32.lt_iff_toInt_lt] at hc37
  have s8 := own_shr p1 8 8 (by decide) (by decide) z0
  have y8 : 0 ≤ (((p1.toUInt32 >>> ((8 : Int32) &&& 31).toUInt32).toInt32)).toInt := by omega
  rw [Int32.lt_iff_toInt_lt] at hc51
  rw [Int32.lt_iff_toInt_lt] at hc63
  have s2 := own_shr ((p1.toUInt32 >>> ((8 : Int32) &&& 31).toUInt32).toInt32) 2 2 (by decide) (by decide) y8
  have y2 : 0 ≤ (((((p1.toUInt32 >>> ((8 : Int32) &&& 31).toUInt32).toInt32).toUInt32 >>> ((2 : Int32) &&& 31).toUInt32).toInt32)).toInt := by omega
  have s1 := own_shr ((((p1.toUInt32 >>> ((8 : Int32) &&& 31).toUInt32).toInt32).toUInt32 >>> ((2 : Int32) &&& 31).toUInt32).toInt32) 1 1 (by decide) (by decide) y2
  have d := c_isub (21 : Int32) ((((((p1.toUInt32 >>> ((8 : Int32) &&& 31).toUInt32).toInt32).toUInt32 >>> ((2 : Int32) &&& 31).toUInt32).toInt32).toUInt32 >>> ((1 : Int32) &&& 31).toUInt32).toInt32)
  have rd := rng32 ((21 : Int32) - ((((((p1.toUInt32 >>> ((8 : Int32) &&& 31).toUInt32).toInt32).toUInt32 >>> ((2 : Int32) &&& 31).toUInt32).toInt32).toUInt32 >>> ((1 : Int32) &&& 31).toUInt32).toInt32))
  have en : (21 : Int32).toInt = 21 := rfl
  unfold own_P
  refine ⟨fun q => ?_, fun q q' => ?_, fun q q' => ?_, fun q => ?_⟩ <;> omega
set_option maxRecDepth 65536 in
set_option maxHeartbeats 40000000 in
theorem rm6_ttftf (l : Launch) (Z : State) (a0 : Array Value) (hw : ∀ d ∈ tables_1, d.before a0 Z = true) (ws : List Jvm.Cond) (p1 : Int32) (h0 : Heap) (n0 : Nat) (Z0 : n0 ≤ h0.size) (hc1 : (0 : Int32) < p1) (hc22 : p1 < (65536 : Int32)) (hc37 : ¬ (p1 < (256 : Int32))) (hc51 : ((p1.toUInt32 >>> ((8 : Int32) &&& 31).toUInt32).toInt32) < (16 : Int32)) (hc63 : ¬ (((p1.toUInt32 >>> ((8 : Int32) &&& 31).toUInt32).toInt32) < (4 : Int32))) :
    MetFree l (⟨"java/lang/Integer", "numberOfLeadingZeros", "(I)I"⟩ : MethodName) (head1 (Jvm.Cond.code (⟨"java/lang/Integer", "numberOfLeadingZeros", "(I)I"⟩ : MethodName) jdk_33_method_47_code 2 (some .int) :: ws) ({ frames := 0, cells := 0, slots := 0, locals := 0 } : Room)) (fun a U => a = #[(.int p1)] ∧ Z.Warmed39 U.vm ∧ U.heap = h0) (fun _ _ _ _ _ => True) (fun _ U o U' => ∃ v L, o = .returned v ∧ Q6 p1 h0 n0 v U'.heap L ∧ FrameEnd U o U' L ({ frames := 0, cells := 0, slots := 0, locals := 0 } : Room).cells ({ frames := 0, cells := 0, slots := 0, locals := 0 } : Room).slots) := by
  refine MetFree.of_bodySF (plainFor_of_name pn_6) hisR ?_
  intro p e s m args below meth c s₁ Bd hml0 hP hK
  obtain ⟨rfl, hZ, hh⟩ := hP
  have hx := Bd.exec
  have hby := Bd.bytes
  have hml : c.maxLocals = 2 := hml0
  have hown : s.vm.findClass "java/lang/Integer" = some m.cls := findClass_of_methodNamed Bd.named
  have hnm := (name_of_methodNamed Bd.named Bd.method).1
  have X0 : Stand p l e ({ frames := 0, cells := 0, slots := 0, locals := 0 } : Room) s m #[(.int p1)] below meth c s₁ [] 0 0 := Stand.of_body Bd
  have e0 : s₁.heap = h0 := by rw [← hh, Bd.state]; rfl
  have N0 := Fr.nil n0
  have pre0 : ∀ t, Steps p.tables e below (s₁.setTop (mkF m 0 #[.val (.int p1), .unset] [])) t → Steps p.tables e below (s₁.setTop (entryFrame m #[(.int p1)] 2)) t := fun t k => castTop (ef_6 m p1) k

  obtain ⟨fs, hr, hrun, hended, hW, hsame⟩ := X0.leave (v := some (.int ((21 : Int32) - ((((((p1.toUInt32 >>> ((8 : Int32) &&& 31).toUInt32).toInt32).toUInt32 >>> ((2 : Int32) &&& 31).toUInt32).toInt32).toUInt32 >>> ((1 : Int32) &&& 31).toUInt32).toInt32)))) (fun h => by rw [Bd.returns] at h; cases h)
  refine ⟨_, _, pre0 _ ?_, hrun, hended, _, _, rfl, ?_, ⟨_, rfl⟩, hW, hsame.mono (by decide) (by decide)⟩
  · show Steps p.tables e below (s₁.setTop (mkF m 0 #[.val (.int p1), .unset] [])) _
    refine XS.iloadN X0.here hx rfl (hb hby d6_0) rfl ?_
    show Steps p.tables e below (s₁.setTop (mkF m 1 #[.val (.int p1), .unset] [(.int p1)])) _
    refine XS.ifYes X0.here hx rfl (pc0 := 1) (pc' := 15) rfl (hb hby d6_1) rfl ((if0 _ _).trans (tlt hc1).2.2.1) (by decide) (by decide) ?_
    show Steps p.tables e below (s₁.setTop (mkF m 15 #[.val (.int p1), .unset] [])) _
    refine XS.bipush X0.here hx rfl (hb hby d6_15) ?_
    show Steps p.tables e below (s₁.setTop (mkF m 17 #[.val (.int p1), .unset] [(.int (31 : Int32))])) _
    refine XS.istoreN X0.here hx rfl (hb hby d6_17) rfl (l' := #[.val (.int p1), .val (.int (31 : Int32))]) rfl ?_
    show Steps p.tables e below (s₁.setTop (mkF m 18 #[.val (.int p1), .val (.int (31 : Int32))] [])) _
    refine XS.iloadN X0.here hx rfl (hb hby d6_18) rfl ?_
    show Steps p.tables e below (s₁.setTop (mkF m 19 #[.val (.int p1), .val (.int (31 : Int32))] [(.int p1)])) _
    refine X0.ldcwInt hx hown (mvT hZ (hw _ (List.mem_of_getElem? (i := 65) rfl))) (g := (mkF m 19 #[.val (.int p1), .val (.int (31 : Int32))] [(.int p1)])) rfl (hb hby d6_19) _ ?_
    show Steps p.tables e below (s₁.setTop (mkF m 22 #[.val (.int p1), .val (.int (31 : Int32))] [(.int (65536 : Int32)), (.int p1)])) _
    refine XS.icmpYes X0.here hx rfl (pc0 := 22) (pc' := 33) rfl (hb hby d6_22) rfl (tlt hc22).1 (by decide) (by decide) ?_
    show Steps p.tables e below (s₁.setTop (mkF m 33 #[.val (.int p1), .val (.int (31 : Int32))] [])) _
    refine XS.iloadN X0.here hx rfl (hb hby d6_33) rfl ?_
    show Steps p.tables e below (s₁.setTop (mkF m 34 #[.val (.int p1), .val (.int (31 : Int32))] [(.int p1)])) _
    refine XS.sipush X0.here hx rfl (hb hby d6_34) ?_
    show Steps p.tables e below (s₁.setTop (mkF m 37 #[.val (.int p1), .val (.int (31 : Int32))] [(.int (256 : Int32)), (.int p1)])) _
    refine XS.icmpNo X0.here hx rfl (hb hby d6_37) rfl (flt hc37).1 ?_
    show Steps p.tables e below (s₁.setTop (mkF m 40 #[.val (.int p1), .val (.int (31 : Int32))] [])) _
    refine XS.iinc X0.here hx rfl (hb hby d6_40) rfl (l' := #[.val (.int p1), .val (.int (23 : Int32))]) rfl ?_
    show Steps p.tables e below (s₁.setTop (mkF m 43 #[.val (.int p1), .val (.int (23 : Int32))] [])) _
    refine XS.iloadN X0.here hx rfl (hb hby d6_43) rfl ?_
    show Steps p.tables e below (s₁.setTop (mkF m 44 #[.val (.int p1), .val (.int (23 : Int32))] [(.int p1)])) _
    refine XS.bipush X0.here hx rfl (hb hby d6_44) ?_
    show Steps p.tables e below (s₁.setTop (mkF m 46 #[.val (.int p1), .val (.int (23 : Int32))] [(.int (8 : Int32)), (.int p1)])) _
    refine XS.iushr X0.here hx rfl (hb hby d6_46) rfl ?_
    show Steps p.tables e below (s₁.setTop (mkF m 47 #[.val (.int p1), .val (.int (23 : Int32))] [(.int ((p1.toUInt32 >>> ((8 : Int32) &&& 31).toUInt32).toInt32))])) _
    refine XS.istoreN X0.here hx rfl (hb hby d6_47) rfl (l' := #[.val (.int ((p1.toUInt32 >>> ((8 : Int32) &&& 31).toUInt32).toInt32)), .val (.int (23 : Int32))]) rfl ?_
    show Steps p.tables e below (s₁.setTop (mkF m 48 #[.val (.int ((p1.toUInt32 >>> ((8 : Int32) &&& 31).toUInt32).toInt32)), .val (.int (23 : Int32))] [])) _
    refine XS.iloadN X0.here hx rfl (hb hby d6_48) rfl ?_
    show Steps p.tables e below (s₁.setTop (mkF m 49 #[.val (.int ((p1.toUInt32 >>> ((8 : Int32) &&& 31).toUInt32).toInt32)), .val (.int (23 : Int32))] [(.int ((p1.toUInt32 >>> ((8 : Int32) &&& 31).toUInt32).toInt32))])) _
    refine XS.bipush X0.here hx rfl (hb hby d6_49) ?_
    show Steps p.tables e below (s₁.setTop (mkF m 51 #[.val (.int ((p1.toUInt32 >>> ((8 : Int32) &&& 31).toUInt32).toInt32)), .val (.int (23 : Int32))] [(.int (16 : Int32)), (.int ((p1.toUInt32 >>> ((8 : Int32) &&& 31).toUInt32).toInt32))])) _
    refine XS.icmpYes X0.here hx rfl (pc0 := 51) (pc' := 61) rfl (hb hby d6_51) rfl (tlt hc51).1 (by decide) (by decide) ?_
    show Steps p.tables e below (s₁.setTop (mkF m 61 #[.val (.int ((p1.toUInt32 >>> ((8 : Int32) &&& 31).toUInt32).toInt32)), .val (.int (23 : Int32))] [])) _
    refine XS.iloadN X0.here hx rfl (hb hby d6_61) rfl ?_
    show Steps p.tables e below (s₁.setTop (mkF m 62 #[.val (.int ((p1.toUInt32 >>> ((8 : Int32) &&& 31).toUInt32).toInt32)), .val (.int (23 : Int32))] [(.int ((p1.toUInt32 >>> ((8 : Int32) &&& 31).toUInt32).toInt32))])) _
    refine XS.iconst X0.here hx rfl (hb hby d6_62) ?_
    show Steps p.tables e below (s₁.setTop (mkF m 63 #[.val (.int ((p1.toUInt32 >>> ((8 : Int32) &&& 31).toUInt32).toInt32)), .val (.int (23 : Int32))] [(.int (4 : Int32)), (.int ((p1.toUInt32 >>> ((8 : Int32) &&& 31).toUInt32).toInt32))])) _
    refine XS.icmpNo X0.here hx rfl (hb hby d6_63) rfl (flt hc63).1 ?_
    show Steps p.tables e below (s₁.setTop (mkF m 66 #[.val (.int ((p1.toUInt32 >>> ((8 : Int32) &&& 31).toUInt32).toInt32)), .val (.int (23 : Int32))] [])) _
    refine XS.iinc X0.here hx rfl (hb hby d6_66) rfl (l' := #[.val (.int ((p1.toUInt32 >>> ((8 : Int32) &&& 31).toUInt32).toInt32)), .val (.int (21 : Int32))]) rfl ?_
    show Steps p.tables e below (s₁.setTop (mkF m 69 #[.val (.int ((p1.toUInt32 >>> ((8 : Int32) &&& 31).toUInt32).toInt32)), .val (.int (21 : Int32))] [])) _
    refine XS.iloadN X0.here hx rfl (hb hby d6_69) rfl ?_
    show Steps p.tables e below (s₁.setTop (mkF m 70 #[.val (.int ((p1.toUInt32 >>> ((8 : Int32) &&& 31).toUInt32).toInt32)), .val (.int (21 : Int32))] [(.int ((p1.toUInt32 >>> ((8 : Int32) &&& 31).toUInt32).toInt32))])) _
    refine XS.iconst X0.here hx rfl (hb hby d6_70) ?_
    show Steps p.tables e below (s₁.setTop (mkF m 71 #[.val (.int ((p1.toUInt32 >>> ((8 : Int32) &&& 31).toUInt32).toInt32)), .val (.int (21 : Int32))] [(.int (2 : Int32)), (.int ((p1.toUInt32 >>> ((8 : Int32) &&& 31).toUInt32).toInt32))])) _
    refine XS.iushr X0.here hx rfl (hb hby d6_71) rfl ?_
    show Steps p.tables e below (s₁.setTop (mkF m 72 #[.val (.int ((p1.toUInt32 >>> ((8 : Int32) &&& 31).toUInt32).toInt32)), .val (.int (21 : Int32))] [(.int ((((p1.toUInt32 >>> ((8 : Int32) &&& 31).toUInt32).toInt32).toUInt32 >>> ((2 : Int32) &&& 31).toUInt32).toInt32))])) _
    refine XS.istoreN X0.here hx rfl (hb hby d6_72) rfl (l' := #[.val (.int ((((p1.toUInt32 >>> ((8 : Int32) &&& 31).toUInt32).toInt32).toUInt32 >>> ((2 : Int32) &&& 31).toUInt32).toInt32)), .val (.int (21 : Int32))]) rfl ?_
    show Steps p.tables e below (s₁.setTop (mkF m 73 #[.val (.int ((((p1.toUInt32 >>> ((8 : Int32) &&& 31).toUInt32).toInt32).toUInt32 >>> ((2 : Int32) &&& 31).toUInt32).toInt32)), .val (.int (21 : Int32))] [])) _
    refine XS.iloadN X0.here hx rfl (hb hby d6_73) rfl ?_
    show Steps p.tables e below (s₁.setTop (mkF m 74 #[.val (.int ((((p1.toUInt32 >>> ((8 : Int32) &&& 31).toUInt32).toInt32).toUInt32 >>> ((2 : Int32) &&& 31).toUInt32).toInt32)), .val (.int (21 : Int32))] [(.int (21 : Int32))])) _
    refine XS.iloadN X0.here hx rfl (hb hby d6_74) rfl ?_
    show Steps p.tables e below (s₁.setTop (mkF m 75 #[.val (.int ((((p1.toUInt32 >>> ((8 : Int32) &&& 31).toUInt32).toInt32).toUInt32 >>> ((2 : Int32) &&& 31).toUInt32).toInt32)), .val (.int (21 : Int32))] [(.int ((((p1.toUInt32 >>> ((8 : Int32) &&& 31).toUInt32).toInt32).toUInt32 >>> ((2 : Int32) &&& 31).toUInt32).toInt32)), (.int (21 : Int32))])) _
    refine XS.iconst X0.here hx rfl (hb hby d6_75) ?_
    show Steps p.tables e below (s₁.setTop (mkF m 76 #[.val (.int ((((p1.toUInt32 >>> ((8 : Int32) &&& 31).toUInt32).toInt32).toUInt32 >>> ((2 : Int32) &&& 31).toUInt32).toInt32)), .val (.int (21 : Int32))] [(.int (1 : Int32)), (.int ((((p1.toUInt32 >>> ((8 : Int32) &&& 31).toUInt32).toInt32).toUInt32 >>> ((2 : Int32) &&& 31).toUInt32).toInt32)), (.int (21 : Int32))])) _
    refine XS.iushr X0.here hx rfl (hb hby d6_76) rfl ?_
    show Steps p.tables e below (s₁.setTop (mkF m 77 #[.val (.int ((((p1.toUInt32 >>> ((8 : Int32) &&& 31).toUInt32).toInt32).toUInt32 >>> ((2 : Int32) &&& 31).toUInt32).toInt32)), .val (.int (21 : Int32))] [(.int ((((((p1.toUInt32 >>> ((8 : Int32) &&& 31).toUInt32).toInt32).toUInt32 >>> ((2 : Int32) &&& 31).toUInt32).toInt32).toUInt32 >>> ((1 : Int32) &&& 31).toUInt32).toInt32)), (.int (21 : Int32))])) _
    refine XS.isub X0.here hx rfl (hb hby d6_77) rfl ?_
    show Steps p.tables e below (s₁.setTop (mkF m 78 #[.val (.int ((((p1.toUInt32 >>> ((8 : Int32) &&& 31).toUInt32).toInt32).toUInt32 >>> ((2 : Int32) &&& 31).toUInt32).toInt32)), .val (.int (21 : Int32))] [(.int ((21 : Int32) - ((((((p1.toUInt32 >>> ((8 : Int32) &&& 31).toUInt32).toInt32).toUInt32 >>> ((2 : Int32) &&& 31).toUInt32).toInt32).toUInt32 >>> ((1 : Int32) &&& 31).toUInt32).toInt32)))])) _
    exact retI X0 hx Bd.returns (hb hby d6_78) hr
  · show Q6 p1 h0 n0 _ s₁.heap _
    rw [e0]
    exact ⟨_, rfl, N0, rfl, own_n_ttftf p1 hc1 hc22 hc37 hc51 hc63⟩
theorem own_n_ttfft (p1 : Int32) (hc1 : (0 : Int32) < p1) (hc22 : p1 < (65536 : Int32)) (hc37 : ¬ (p1 < (256 : Int32))) (hc51 : ¬ (((p1.toUInt32 >>> ((8 : Int32) &&& 31).toUInt32).toInt32) < (16 : Int32))) (hc63 : ((((p1.toUInt32 >>> ((8 : Int32) &&& 31).toUInt32).toInt32).toUInt32 >>> ((4 : Int32) &&& 31).toUInt32).toInt32) < (4 : Int32)) : own_P p1 ((19 : Int32) - ((((((p1.toUInt32 >>> ((8 : Int32) &&& 31).toUInt32).toInt32).toUInt32 >>> ((4 : Int32) &&& 31).toUInt32).toInt32).toUInt32 >>> ((1 : Int32) &&& 31).toUInt32).toInt32)) := by
  have e0 : (0 : Int32).toInt = 0 := rfl
  have z0 : 0 ≤ p1.toInt := by rw [Int32.lt_iff_toInt_lt] at hc1; omega
  have rv := rng32 p1
  have c16 : (65536 : Int32).toInt = 65536 := rfl
  have c8 : (256 : Int32).toInt = 256 := rfl
  have c4 : (16 : Int32).toInt = 16 := rfl
  have c2 : (4 : Int32).toInt = 4 := rfl
  rw [Int32.lt_iff_toInt_lt] at hc22
  rw [Int32.lt_iff_toInt_lt] at hc37
  have s8 := own_shr p1 8 8 (by decide) (by decide) z0
  have y8 : 0 ≤ (((p1.toUInt32 >>> ((8 : Int32) &&& 31).toUInt32).toInt32)).toInt := by omega
  rw [Int32.lt_iff_toInt_lt] at hc51
  have s4 := own_shr ((p1.toUInt32 >>> ((8 : Int32) &&& 31).toUInt32).toInt32) 4 4 (by decide) (by decide) y8
  have y4 : 0 ≤ (((((p1.toUInt32 >>> ((8 : Int32) &&& 31).toUInt32).toInt32).toUInt32 >>> ((4 : Int32) &&& 31).toUInt32).toInt32)).toInt := by omega
  rw [Int32.lt_iff_toInt_lt] at hc63
  have s1 := own_shr ((((p1.toUInt32 >>> ((8 : Int32) &&& 31).toUInt32).toInt32).toUInt32 >>> ((4 : Int32) &&& 31).toUInt32).toInt32) 1 1 (by decide) (by decide) y4
  have d := c_isub (19 : Int32) ((((((p1.toUInt32 >>> ((8 : Int32) &&& 31).toUInt32).toInt32).toUInt32 >>> ((4 : Int32) &&& 31).toUInt32).toInt32).toUInt32 >>> ((1 : Int32) &&& 31).toUInt32).toInt32)
  have rd := rng32 ((19 : Int32) - ((((((p1.toUInt32 >>> ((8 : Int32) &&& 31).toUInt32).toInt32).toUInt32 >>> ((4 : Int32) &&& 31).toUInt32).toInt32).toUInt32 >>> ((1 : Int32) &&& 31).toUInt32).toInt32))
  have en : (19 : Int32).toInt = 19 := rfl
  unfold own_P
  refine ⟨fun q => ?_, fun q q' => ?_, fun q q' => ?_, fun q => ?_⟩ <;> omega
set_option maxRecDepth 65536 in
set_option maxHeartbeats 40000000 in
theorem rm6_ttfft (l : Launch) (Z : State) (a0 : Array Value) (hw : ∀ d ∈ tables_1, d.before a0 Z = true) (ws : List Jvm.Cond) (p1 : Int32) (h0 : Heap) (n0 : Nat) (Z0 : n0 ≤ h0.size) (hc1 : (0 : Int32) < p1) (hc22 : p1 < (65536 : Int32)) (hc37 : ¬ (p1 < (256 : Int32))) (hc51 : ¬ (((p1.toUInt32 >>> ((8 : Int32) &&& 31).toUInt32).toInt32) < (16 : Int32))) (hc63 : ((((p1.toUInt32 >>> ((8 : Int32) &&& 31).toUInt32).toInt32).toUInt32 >>> ((4 : Int32) &&& 31).toUInt32).toInt32) < (4 : Int32)) :
    MetFree l (⟨"java/lang/Integer", "numberOfLeadingZeros", "(I)I"⟩ : MethodName) (head1 (Jvm.Cond.code (⟨"java/lang/Integer", "numberOfLeadingZeros", "(I)I"⟩ : MethodName) jdk_33_method_47_code 2 (some .int) :: ws) ({ frames := 0, cells := 0, slots := 0, locals := 0 } : Room)) (fun a U => a = #[(.int p1)] ∧ Z.Warmed39 U.vm ∧ U.heap = h0) (fun _ _ _ _ _ => True) (fun _ U o U' => ∃ v L, o = .returned v ∧ Q6 p1 h0 n0 v U'.heap L ∧ FrameEnd U o U' L ({ frames := 0, cells := 0, slots := 0, locals := 0 } : Room).cells ({ frames := 0, cells := 0, slots := 0, locals := 0 } : Room).slots) := by
  refine MetFree.of_bodySF (plainFor_of_name pn_6) hisR ?_
  intro p e s m args below meth c s₁ Bd hml0 hP hK
  obtain ⟨rfl, hZ, hh⟩ := hP
  have hx := Bd.exec
  have hby := Bd.bytes
  have hml : c.maxLocals = 2 := hml0
  have hown : s.vm.findClass "java/lang/Integer" = some m.cls := findClass_of_methodNamed Bd.named
  have hnm := (name_of_methodNamed Bd.named Bd.method).1
  have X0 : Stand p l e ({ frames := 0, cells := 0, slots := 0, locals := 0 } : Room) s m #[(.int p1)] below meth c s₁ [] 0 0 := Stand.of_body Bd
  have e0 : s₁.heap = h0 := by rw [← hh, Bd.state]; rfl
  have N0 := Fr.nil n0
  have pre0 : ∀ t, Steps p.tables e below (s₁.setTop (mkF m 0 #[.val (.int p1), .unset] [])) t → Steps p.tables e below (s₁.setTop (entryFrame m #[(.int p1)] 2)) t := fun t k => castTop (ef_6 m p1) k

  obtain ⟨fs, hr, hrun, hended, hW, hsame⟩ := X0.leave (v := some (.int ((19 : Int32) - ((((((p1.toUInt32 >>> ((8 : Int32) &&& 31).toUInt32).toInt32).toUInt32 >>> ((4 : Int32) &&& 31).toUInt32).toInt32).toUInt32 >>> ((1 : Int32) &&& 31).toUInt32).toInt32)))) (fun h => by rw [Bd.returns] at h; cases h)
  refine ⟨_, _, pre0 _ ?_, hrun, hended, _, _, rfl, ?_, ⟨_, rfl⟩, hW, hsame.mono (by decide) (by decide)⟩
  · show Steps p.tables e below (s₁.setTop (mkF m 0 #[.val (.int p1), .unset] [])) _
    refine XS.iloadN X0.here hx rfl (hb hby d6_0) rfl ?_
    show Steps p.tables e below (s₁.setTop (mkF m 1 #[.val (.int p1), .unset] [(.int p1)])) _
    refine XS.ifYes X0.here hx rfl (pc0 := 1) (pc' := 15) rfl (hb hby d6_1) rfl ((if0 _ _).trans (tlt hc1).2.2.1) (by decide) (by decide) ?_
    show Steps p.tables e below (s₁.setTop (mkF m 15 #[.val (.int p1), .unset] [])) _
    refine XS.bipush X0.here hx rfl (hb hby d6_15) ?_
    show Steps p.tables e below (s₁.setTop (mkF m 17 #[.val (.int p1), .unset] [(.int (31 : Int32))])) _
    refine XS.istoreN X0.here hx rfl (hb hby d6_17) rfl (l' := #[.val (.int p1), .val (.int (31 : Int32))]) rfl ?_
    show Steps p.tables e below (s₁.setTop (mkF m 18 #[.val (.int p1), .val (.int (31 : Int32))] [])) _
    refine XS.iloadN X0.here hx rfl (hb hby d6_18) rfl ?_
    show Steps p.tables e below (s₁.setTop (mkF m 19 #[.val (.int p1), .val (.int (31 : Int32))] [(.int p1)])) _
    refine X0.ldcwInt hx hown (mvT hZ (hw _ (List.mem_of_getElem? (i := 65) rfl))) (g := (mkF m 19 #[.val (.int p1), .val (.int (31 : Int32))] [(.int p1)])) rfl (hb hby d6_19) _ ?_
    show Steps p.tables e below (s₁.setTop (mkF m 22 #[.val (.int p1), .val (.int (31 : Int32))] [(.int (65536 : Int32)), (.int p1)])) _
    refine XS.icmpYes X0.here hx rfl (pc0 := 22) (pc' := 33) rfl (hb hby d6_22) rfl (tlt hc22).1 (by decide) (by decide) ?_
    show Steps p.tables e below (s₁.setTop (mkF m 33 #[.val (.int p1), .val (.int (31 : Int32))] [])) _
    refine XS.iloadN X0.here hx rfl (hb hby d6_33) rfl ?_
    show Steps p.tables e below (s₁.setTop (mkF m 34 #[.val (.int p1), .val (.int (31 : Int32))] [(.int p1)])) _
    refine XS.sipush X0.here hx rfl (hb hby d6_34) ?_
    show Steps p.tables e below (s₁.setTop (mkF m 37 #[.val (.int p1), .val (.int (31 : Int32))] [(.int (256 : Int32)), (.int p1)])) _
    refine XS.icmpNo X0.here hx rfl (hb hby d6_37) rfl (flt hc37).1 ?_
    show Steps p.tables e below (s₁.setTop (mkF m 40 #[.val (.int p1), .val (.int (31 : Int32))] [])) _
    refine XS.iinc X0.here hx rfl (hb hby d6_40) rfl (l' := #[.val (.int p1), .val (.int (23 : Int32))]) rfl ?_
    show Steps p.tables e below (s₁.setTop (mkF m 43 #[.val (.int p1), .val (.int (23 : Int32))] [])) _
    refine XS.iloadN X0.here hx rfl (hb hby d6_43) rfl ?_
    show Steps p.tables e below (s₁.setTop (mkF m 44 #[.val (.int p1), .val (.int (23 : Int32))] [(.int p1)])) _
    refine XS.bipush X0.here hx rfl (hb hby d6_44) ?_
    show Steps p.tables e below (s₁.setTop (mkF m 46 #[.val (.int p1), .val (.int (23 : Int32))] [(.int (8 : Int32)), (.int p1)])) _
    refine XS.iushr X0.here hx rfl (hb hby d6_46) rfl ?_
    show Steps p.tables e below (s₁.setTop (mkF m 47 #[.val (.int p1), .val (.int (23 : Int32))] [(.int ((p1.toUInt32 >>> ((8 : Int32) &&& 31).toUInt32).toInt32))])) _
    refine XS.istoreN X0.here hx rfl (hb hby d6_47) rfl (l' := #[.val (.int ((p1.toUInt32 >>> ((8 : Int32) &&& 31).toUInt32).toInt32)), .val (.int (23 : Int32))]) rfl ?_
    show Steps p.tables e below (s₁.setTop (mkF m 48 #[.val (.int ((p1.toUInt32 >>> ((8 : Int32) &&& 31).toUInt32).toInt32)), .val (.int (23 : Int32))] [])) _
    refine XS.iloadN X0.here hx rfl (hb hby d6_48) rfl ?_
    show Steps p.tables e below (s₁.setTop (mkF m 49 #[.val (.int ((p1.toUInt32 >>> ((8 : Int32) &&& 31).toUInt32).toInt32)), .val (.int (23 : Int32))] [(.int ((p1.toUInt32 >>> ((8 : Int32) &&& 31).toUInt32).toInt32))])) _
    refine XS.bipush X0.here hx rfl (hb hby d6_49) ?_
    show Steps p.tables e below (s₁.setTop (mkF m 51 #[.val (.int ((p1.toUInt32 >>> ((8 : Int32) &&& 31).toUInt32).toInt32)), .val (.int (23 : Int32))] [(.int (16 : Int32)), (.int ((p1.toUInt32 >>> ((8 : Int32) &&& 31).toUInt32).toInt32))])) _
    refine XS.icmpNo X0.here hx rfl (hb hby d6_51) rfl (flt hc51).1 ?_
    show Steps p.tables e below (s₁.setTop (mkF m 54 #[.val (.int ((p1.toUInt32 >>> ((8 : Int32) &&& 31).toUInt32).toInt32)), .val (.int (23 : Int32))] [])) _
    refine XS.iinc X0.here hx rfl (hb hby d6_54) rfl (l' := #[.val (.int ((p1.toUInt32 >>> ((8 : Int32) &&& 31).toUInt32).toInt32)), .val (.int (19 : Int32))]) rfl ?_
    show Steps p.tables e below (s₁.setTop (mkF m 57 #[.val (.int ((p1.toUInt32 >>> ((8 : Int32) &&& 31).toUInt32).toInt32)), .val (.int (19 : Int32))] [])) _
    refine XS.iloadN X0.here hx rfl (hb hby d6_57) rfl ?_
    show Steps p.tables e below (s₁.setTop (mkF m 58 #[.val (.int ((p1.toUInt32 >>> ((8 : Int32) &&& 31).toUInt32).toInt32)), .val (.int (19 : Int32))] [(.int ((p1.toUInt32 >>> ((8 : Int32) &&& 31).toUInt32).toInt32))])) _
    refine XS.iconst X0.here hx rfl (hb hby d6_58) ?_
    show Steps p.tables e below (s₁.setTop (mkF m 59 #[.val (.int ((p1.toUInt32 >>> ((8 : Int32) &&& 31).toUInt32).toInt32)), .val (.int (19 : Int32))] [(.int (4 : Int32)), (.int ((p1.toUInt32 >>> ((8 : Int32) &&& 31).toUInt32).toInt32))])) _
    refine XS.iushr X0.here hx rfl (hb hby d6_59) rfl ?_
    show Steps p.tables e below (s₁.setTop (mkF m 60 #[.val (.int ((p1.toUInt32 >>> ((8 : Int32) &&& 31).toUInt32).toInt32)), .val (.int (19 : Int32))] [(.int ((((p1.toUInt32 >>> ((8 : Int32) &&& 31).toUInt32).toInt32).toUInt32 >>> ((4 : Int32) &&& 31).toUInt32).toInt32))])) _
    refine XS.istoreN X0.here hx rfl (hb hby d6_60) rfl (l' := #[.val (.int ((((p1.toUInt32 >>> ((8 : Int32) &&& 31).toUInt32).toInt32).toUInt32 >>> ((4 : Int32) &&& 31).toUInt32).toInt32)), .val (.int (19 : Int32))]) rfl ?_
    show Steps p.tables e below (s₁.setTop (mkF m 61 #[.val (.int ((((p1.toUInt32 >>> ((8 : Int32) &&& 31).toUInt32).toInt32).toUInt32 >>> ((4 : Int32) &&& 31).toUInt32).toInt32)), .val (.int (19 : Int32))] [])) _
    refine XS.iloadN X0.here hx rfl (hb hby d6_61) rfl ?_
    show Steps p.tables e below (s₁.setTop (mkF m 62 #[.val (.int ((((p1.toUInt32 >>> ((8 : Int32) &&& 31).toUInt32).toInt32).toUInt32 >>> ((4 : Int32) &&& 31).toUInt32).toInt32)), .val (.int (19 : Int32))] [(.int ((((p1.toUInt32 >>> ((8 : Int32) &&& 31).toUInt32).toInt32).toUInt32 >>> ((4 : Int32) &&& 31).toUInt32).toInt32))])) _
    refine XS.iconst X0.here hx rfl (hb hby d6_62) ?_
    show Steps p.tables e below (s₁.setTop (mkF m 63 #[.val (.int ((((p1.toUInt32 >>> ((8 : Int32) &&& 31).toUInt32).toInt32).toUInt32 >>> ((4 : Int32) &&& 31).toUInt32).toInt32)), .val (.int (19 : Int32))] [(.int (4 : Int32)), (.int ((((p1.toUInt32 >>> ((8 : Int32) &&& 31).toUInt32).toInt32).toUInt32 >>> ((4 : Int32) &&& 31).toUInt32).toInt32))])) _
    refine XS.icmpYes X0.here hx rfl (pc0 := 63) (pc' := 73) rfl (hb hby d6_63) rfl (tlt hc63).1 (by decide) (by decide) ?_
    show Steps p.tables e below (s₁.setTop (mkF m 73 #[.val (.int ((((p1.toUInt32 >>> ((8 : Int32) &&& 31).toUInt32).toInt32).toUInt32 >>> ((4 : Int32) &&& 31).toUInt32).toInt32)), .val (.int (19 : Int32))] [])) _
    refine XS.iloadN X0.here hx rfl (hb hby d6_73) rfl ?_
    show Steps p.tables e below (s₁.setTop (mkF m 74 #[.val (.int ((((p1.toUInt32 >>> ((8 : Int32) &&& 31).toUInt32).toInt32).toUInt32 >>> ((4 : Int32) &&& 31).toUInt32).toInt32)), .val (.int (19 : Int32))] [(.int (19 : Int32))])) _
    refine XS.iloadN X0.here hx rfl (hb hby d6_74) rfl ?_
    show Steps p.tables e below (s₁.setTop (mkF m 75 #[.val (.int ((((p1.toUInt32 >>> ((8 : Int32) &&& 31).toUInt32).toInt32).toUInt32 >>> ((4 : Int32) &&& 31).toUInt32).toInt32)), .val (.int (19 : Int32))] [(.int ((((p1.toUInt32 >>> ((8 : Int32) &&& 31).toUInt32).toInt32).toUInt32 >>> ((4 : Int32) &&& 31).toUInt32).toInt32)), (.int (19 : Int32))])) _
    refine XS.iconst X0.here hx rfl (hb hby d6_75) ?_
    show Steps p.tables e below (s₁.setTop (mkF m 76 #[.val (.int ((((p1.toUInt32 >>> ((8 : Int32) &&& 31).toUInt32).toInt32).toUInt32 >>> ((4 : Int32) &&& 31).toUInt32).toInt32)), .val (.int (19 : Int32))] [(.int (1 : Int32)), (.int ((((p1.toUInt32 >>> ((8 : Int32) &&& 31).toUInt32).toInt32).toUInt32 >>> ((4 : Int32) &&& 31).toUInt32).toInt32)), (.int (19 : Int32))])) _
    refine XS.iushr X0.here hx rfl (hb hby d6_76) rfl ?_
    show Steps p.tables e below (s₁.setTop (mkF m 77 #[.val (.int ((((p1.toUInt32 >>> ((8 : Int32) &&& 31).toUInt32).toInt32).toUInt32 >>> ((4 : Int32) &&& 31).toUInt32).toInt32)), .val (.int (19 : Int32))] [(.int ((((((p1.toUInt32 >>> ((8 : Int32) &&& 31).toUInt32).toInt32).toUInt32 >>> ((4 : Int32) &&& 31).toUInt32).toInt32).toUInt32 >>> ((1 : Int32) &&& 31).toUInt32).toInt32)), (.int (19 : Int32))])) _
    refine XS.isub X0.here hx rfl (hb hby d6_77) rfl ?_
    show Steps p.tables e below (s₁.setTop (mkF m 78 #[.val (.int ((((p1.toUInt32 >>> ((8 : Int32) &&& 31).toUInt32).toInt32).toUInt32 >>> ((4 : Int32) &&& 31).toUInt32).toInt32)), .val (.int (19 : Int32))] [(.int ((19 : Int32) - ((((((p1.toUInt32 >>> ((8 : Int32) &&& 31).toUInt32).toInt32).toUInt32 >>> ((4 : Int32) &&& 31).toUInt32).toInt32).toUInt32 >>> ((1 : Int32) &&& 31).toUInt32).toInt32)))])) _
    exact retI X0 hx Bd.returns (hb hby d6_78) hr
  · show Q6 p1 h0 n0 _ s₁.heap _
    rw [e0]
    exact ⟨_, rfl, N0, rfl, own_n_ttfft p1 hc1 hc22 hc37 hc51 hc63⟩
theorem own_n_ttfff (p1 : Int32) (hc1 : (0 : Int32) < p1) (hc22 : p1 < (65536 : Int32)) (hc37 : ¬ (p1 < (256 : Int32))) (hc51 : ¬ (((p1.toUInt32 >>> ((8 : Int32) &&& 31).toUInt32).toInt32) < (16 : Int32))) (hc63 : ¬ (((((p1.toUInt32 >>> ((8 : Int32) &&& 31).toUInt32).toInt32).toUInt32 >>> ((4 : Int32) &&& 31).toUInt32).toInt32) < (4 : Int32))) : own_P p1 ((17 : Int32) - ((((((((p1.toUInt32 >>> ((8 : Int32) &&& 31).toUInt32).toInt32).toUInt32 >>> ((4 : Int32) &&& 31).toUInt32).toInt32).toUInt32 >>> ((2 : Int32) &&& 31).toUInt32).toInt32).toUInt32 >>> ((1 : Int32) &&& 31).toUInt32).toInt32)) := by
  have e0 : (0 : Int32).toInt = 0 := rfl
  have z0 : 0 ≤ p1.toInt := by rw [Int32.lt_iff_toInt_lt] at hc1; omega
  have rv := rng32 p1
  have c16 : (65536 : Int32).toInt = 65536 := rfl
  have c8 : (256 : Int32).toInt = 256 := rfl
  have c4 : (16 : Int32).toInt = 16 := rfl
  have c2 : (4 : Int32).toInt = 4 := rfl
  rw [Int32.lt_iff_toInt_lt] at hc22
  rw [Int32.lt_iff_toInt_lt] at hc37
  have s8 := own_shr p1 8 8 (by decide) (by decide) z0
  have y8 : 0 ≤ (((p1.toUInt32 >>> ((8 : Int32) &&& 31).toUInt32).toInt32)).toInt := by omega
  rw [Int32.lt_iff_toInt_lt] at hc51
  have s4 := own_shr ((p1.toUInt32 >>> ((8 : Int32) &&& 31).toUInt32).toInt32) 4 4 (by decide) (by decide) y8
  have y4 : 0 ≤ (((((p1.toUInt32 >>> ((8 : Int32) &&& 31).toUInt32).toInt32).toUInt32 >>> ((4 : Int32) &&& 31).toUInt32).toInt32)).toInt := by omega
  rw [Int32.lt_iff_toInt_lt] at hc63
  have s2 := own_shr ((((p1.toUInt32 >>> ((8 : Int32) &&& 31).toUInt32).toInt32).toUInt32 >>> ((4 : Int32) &&& 31).toUInt32).toInt32) 2 2 (by decide) (by decide) y4
  have y2 : 0 ≤ (((((((p1.toUInt32 >>> ((8 : Int32) &&& 31).toUInt32).toInt32).toUInt32 >>> ((4 : Int32) &&& 31).toUInt32).toInt32).toUInt32 >>> ((2 : Int32) &&& 31).toUInt32).toInt32)).toInt := by omega
  have s1 := own_shr ((((((p1.toUInt32 >>> ((8 : Int32) &&& 31).toUInt32).toInt32).toUInt32 >>> ((4 : Int32) &&& 31).toUInt32).toInt32).toUInt32 >>> ((2 : Int32) &&& 31).toUInt32).toInt32) 1 1 (by decide) (by decide) y2
  have d := c_isub (17 : Int32) ((((((((p1.toUInt32 >>> ((8 : Int32) &&& 31).toUInt32).toInt32).toUInt32 >>> ((4 : Int32) &&& 31).toUInt32).toInt32).toUInt32 >>> ((2 : Int32) &&& 31).toUInt32).toInt32).toUInt32 >>> ((1 : Int32) &&& 31).toUInt32).toInt32)
  have rd := rng32 ((17 : Int32) - ((((((((p1.toUInt32 >>> ((8 : Int32) &&& 31).toUInt32).toInt32).toUInt32 >>> ((4 : Int32) &&& 31).toUInt32).toInt32).toUInt32 >>> ((2 : Int32) &&& 31).toUInt32).toInt32).toUInt32 >>> ((1 : Int32) &&& 31).toUInt32).toInt32))
  have en : (17 : Int32).toInt = 17 := rfl
  unfold own_P
  refine ⟨fun q => ?_, fun q q' => ?_, fun q q' => ?_, fun q => ?_⟩ <;> omega
set_option maxRecDepth 65536 in
set_option maxHeartbeats 40000000 in
theorem rm6_ttfff (l : Launch) (Z : State) (a0 : Array Value) (hw : ∀ d ∈ tables_1, d.before a0 Z = true) (ws : List Jvm.Cond) (p1 : Int32) (h0 : Heap) (n0 : Nat) (Z0 : n0 ≤ h0.size) (hc1 : (0 : Int32) < p1) (hc22 : p1 < (65536 : Int32)) (hc37 : ¬ (p1 < (256 : Int32))) (hc51 : ¬ (((p1.toUInt32 >>> ((8 : Int32) &&& 31).toUInt32).toInt32) < (16 : Int32))) (hc63 : ¬ (((((p1.toUInt32 >>> ((8 : Int32) &&& 31).toUInt32).toInt32).toUInt32 >>> ((4 : Int32) &&& 31).toUInt32).toInt32) < (4 : Int32))) :
    MetFree l (⟨"java/lang/Integer", "numberOfLeadingZeros", "(I)I"⟩ : MethodName) (head1 (Jvm.Cond.code (⟨"java/lang/Integer", "numberOfLeadingZeros", "(I)I"⟩ : MethodName) jdk_33_method_47_code 2 (some .int) :: ws) ({ frames := 0, cells := 0, slots := 0, locals := 0 } : Room)) (fun a U => a = #[(.int p1)] ∧ Z.Warmed39 U.vm ∧ U.heap = h0) (fun _ _ _ _ _ => True) (fun _ U o U' => ∃ v L, o = .returned v ∧ Q6 p1 h0 n0 v U'.heap L ∧ FrameEnd U o U' L ({ frames := 0, cells := 0, slots := 0, locals := 0 } : Room).cells ({ frames := 0, cells := 0, slots := 0, locals := 0 } : Room).slots) := by
  refine MetFree.of_bodySF (plainFor_of_name pn_6) hisR ?_
  intro p e s m args below meth c s₁ Bd hml0 hP hK
  obtain ⟨rfl, hZ, hh⟩ := hP
  have hx := Bd.exec
  have hby := Bd.bytes
  have hml : c.maxLocals = 2 := hml0
  have hown : s.vm.findClass "java/lang/Integer" = some m.cls := findClass_of_methodNamed Bd.named
  have hnm := (name_of_methodNamed Bd.named Bd.method).1
  have X0 : Stand p l e ({ frames := 0, cells := 0, slots := 0, locals := 0 } : Room) s m #[(.int p1)] below meth c s₁ [] 0 0 := Stand.of_body Bd
  have e0 : s₁.heap = h0 := by rw [← hh, Bd.state]; rfl
  have N0 := Fr.nil n0
  have pre0 : ∀ t, Steps p.tables e below (s₁.setTop (mkF m 0 #[.val (.int p1), .unset] [])) t → Steps p.tables e below (s₁.setTop (entryFrame m #[(.int p1)] 2)) t := fun t k => castTop (ef_6 m p1) k

  obtain ⟨fs, hr, hrun, hended, hW, hsame⟩ := X0.leave (v := some (.int ((17 : Int32) - ((((((((p1.toUInt32 >>> ((8 : Int32) &&& 31).toUInt32).toInt32).toUInt32 >>> ((4 : Int32) &&& 31).toUInt32).toInt32).toUInt32 >>> ((2 : Int32) &&& 31).toUInt32).toInt32).toUInt32 >>> ((1 : Int32) &&& 31).toUInt32).toInt32)))) (fun h => by rw [Bd.returns] at h; cases h)
  refine ⟨_, _, pre0 _ ?_, hrun, hended, _, _, rfl, ?_, ⟨_, rfl⟩, hW, hsame.mono (by decide) (by decide)⟩
  · show Steps p.tables e below (s₁.setTop (mkF m 0 #[.val (.int p1), .unset] [])) _
    refine XS.iloadN X0.here hx rfl (hb hby d6_0) rfl ?_
    show Steps p.tables e below (s₁.setTop (mkF m 1 #[.val (.int p1), .unset] [(.int p1)])) _
    refine XS.ifYes X0.here hx rfl (pc0 := 1) (pc' := 15) rfl (hb hby d6_1) rfl ((if0 _ _).trans (tlt hc1).2.2.1) (by decide) (by decide) ?_
    show Steps p.tables e below (s₁.setTop (mkF m 15 #[.val (.int p1), .unset] [])) _
    refine XS.bipush X0.here hx rfl (hb hby d6_15) ?_
    show Steps p.tables e below (s₁.setTop (mkF m 17 #[.val (.int p1), .unset] [(.int (31 : Int32))])) _
    refine XS.istoreN X0.here hx rfl (hb hby d6_17) rfl (l' := #[.val (.int p1), .val (.int (31 : Int32))]) rfl ?_
    show Steps p.tables e below (s₁.setTop (mkF m 18 #[.val (.int p1), .val (.int (31 : Int32))] [])) _
    refine XS.iloadN X0.here hx rfl (hb hby d6_18) rfl ?_
    show Steps p.tables e below (s₁.setTop (mkF m 19 #[.val (.int p1), .val (.int (31 : Int32))] [(.int p1)])) _
    refine X0.ldcwInt hx hown (mvT hZ (hw _ (List.mem_of_getElem? (i := 65) rfl))) (g := (mkF m 19 #[.val (.int p1), .val (.int (31 : Int32))] [(.int p1)])) rfl (hb hby d6_19) _ ?_
    show Steps p.tables e below (s₁.setTop (mkF m 22 #[.val (.int p1), .val (.int (31 : Int32))] [(.int (65536 : Int32)), (.int p1)])) _
    refine XS.icmpYes X0.here hx rfl (pc0 := 22) (pc' := 33) rfl (hb hby d6_22) rfl (tlt hc22).1 (by decide) (by decide) ?_
    show Steps p.tables e below (s₁.setTop (mkF m 33 #[.val (.int p1), .val (.int (31 : Int32))] [])) _
    refine XS.iloadN X0.here hx rfl (hb hby d6_33) rfl ?_
    show Steps p.tables e below (s₁.setTop (mkF m 34 #[.val (.int p1), .val (.int (31 : Int32))] [(.int p1)])) _
    refine XS.sipush X0.here hx rfl (hb hby d6_34) ?_
    show Steps p.tables e below (s₁.setTop (mkF m 37 #[.val (.int p1), .val (.int (31 : Int32))] [(.int (256 : Int32)), (.int p1)])) _
    refine XS.icmpNo X0.here hx rfl (hb hby d6_37) rfl (flt hc37).1 ?_
    show Steps p.tables e below (s₁.setTop (mkF m 40 #[.val (.int p1), .val (.int (31 : Int32))] [])) _
    refine XS.iinc X0.here hx rfl (hb hby d6_40) rfl (l' := #[.val (.int p1), .val (.int (23 : Int32))]) rfl ?_
    show Steps p.tables e below (s₁.setTop (mkF m 43 #[.val (.int p1), .val (.int (23 : Int32))] [])) _
    refine XS.iloadN X0.here hx rfl (hb hby d6_43) rfl ?_
    show Steps p.tables e below (s₁.setTop (mkF m 44 #[.val (.int p1), .val (.int (23 : Int32))] [(.int p1)])) _
    refine XS.bipush X0.here hx rfl (hb hby d6_44) ?_
    show Steps p.tables e below (s₁.setTop (mkF m 46 #[.val (.int p1), .val (.int (23 : Int32))] [(.int (8 : Int32)), (.int p1)])) _
    refine XS.iushr X0.here hx rfl (hb hby d6_46) rfl ?_
    show Steps p.tables e below (s₁.setTop (mkF m 47 #[.val (.int p1), .val (.int (23 : Int32))] [(.int ((p1.toUInt32 >>> ((8 : Int32) &&& 31).toUInt32).toInt32))])) _
    refine XS.istoreN X0.here hx rfl (hb hby d6_47) rfl (l' := #[.val (.int ((p1.toUInt32 >>> ((8 : Int32) &&& 31).toUInt32).toInt32)), .val (.int (23 : Int32))]) rfl ?_
    show Steps p.tables e below (s₁.setTop (mkF m 48 #[.val (.int ((p1.toUInt32 >>> ((8 : Int32) &&& 31).toUInt32).toInt32)), .val (.int (23 : Int32))] [])) _
    refine XS.iloadN X0.here hx rfl (hb hby d6_48) rfl ?_
    show Steps p.tables e below (s₁.setTop (mkF m 49 #[.val (.int ((p1.toUInt32 >>> ((8 : Int32) &&& 31).toUInt32).toInt32)), .val (.int (23 : Int32))] [(.int ((p1.toUInt32 >>> ((8 : Int32) &&& 31).toUInt32).toInt32))])) _
    refine XS.bipush X0.here hx rfl (hb hby d6_49) ?_
    show Steps p.tables e below (s₁.setTop (mkF m 51 #[.val (.int ((p1.toUInt32 >>> ((8 : Int32) &&& 31).toUInt32).toInt32)), .val (.int (23 : Int32))] [(.int (16 : Int32)), (.int ((p1.toUInt32 >>> ((8 : Int32) &&& 31).toUInt32).toInt32))])) _
    refine XS.icmpNo X0.here hx rfl (hb hby d6_51) rfl (flt hc51).1 ?_
    show Steps p.tables e below (s₁.setTop (mkF m 54 #[.val (.int ((p1.toUInt32 >>> ((8 : Int32) &&& 31).toUInt32).toInt32)), .val (.int (23 : Int32))] [])) _
    refine XS.iinc X0.here hx rfl (hb hby d6_54) rfl (l' := #[.val (.int ((p1.toUInt32 >>> ((8 : Int32) &&& 31).toUInt32).toInt32)), .val (.int (19 : Int32))]) rfl ?_
    show Steps p.tables e below (s₁.setTop (mkF m 57 #[.val (.int ((p1.toUInt32 >>> ((8 : Int32) &&& 31).toUInt32).toInt32)), .val (.int (19 : Int32))] [])) _
    refine XS.iloadN X0.here hx rfl (hb hby d6_57) rfl ?_
    show Steps p.tables e below (s₁.setTop (mkF m 58 #[.val (.int ((p1.toUInt32 >>> ((8 : Int32) &&& 31).toUInt32).toInt32)), .val (.int (19 : Int32))] [(.int ((p1.toUInt32 >>> ((8 : Int32) &&& 31).toUInt32).toInt32))])) _
    refine XS.iconst X0.here hx rfl (hb hby d6_58) ?_
    show Steps p.tables e below (s₁.setTop (mkF m 59 #[.val (.int ((p1.toUInt32 >>> ((8 : Int32) &&& 31).toUInt32).toInt32)), .val (.int (19 : Int32))] [(.int (4 : Int32)), (.int ((p1.toUInt32 >>> ((8 : Int32) &&& 31).toUInt32).toInt32))])) _
    refine XS.iushr X0.here hx rfl (hb hby d6_59) rfl ?_
    show Steps p.tables e below (s₁.setTop (mkF m 60 #[.val (.int ((p1.toUInt32 >>> ((8 : Int32) &&& 31).toUInt32).toInt32)), .val (.int (19 : Int32))] [(.int ((((p1.toUInt32 >>> ((8 : Int32) &&& 31).toUInt32).toInt32).toUInt32 >>> ((4 : Int32) &&& 31).toUInt32).toInt32))])) _
    refine XS.istoreN X0.here hx rfl (hb hby d6_60) rfl (l' := #[.val (.int ((((p1.toUInt32 >>> ((8 : Int32) &&& 31).toUInt32).toInt32).toUInt32 >>> ((4 : Int32) &&& 31).toUInt32).toInt32)), .val (.int (19 : Int32))]) rfl ?_
    show Steps p.tables e below (s₁.setTop (mkF m 61 #[.val (.int ((((p1.toUInt32 >>> ((8 : Int32) &&& 31).toUInt32).toInt32).toUInt32 >>> ((4 : Int32) &&& 31).toUInt32).toInt32)), .val (.int (19 : Int32))] [])) _
    refine XS.iloadN X0.here hx rfl (hb hby d6_61) rfl ?_
    show Steps p.tables e below (s₁.setTop (mkF m 62 #[.val (.int ((((p1.toUInt32 >>> ((8 : Int32) &&& 31).toUInt32).toInt32).toUInt32 >>> ((4 : Int32) &&& 31).toUInt32).toInt32)), .val (.int (19 : Int32))] [(.int ((((p1.toUInt32 >>> ((8 : Int32) &&& 31).toUInt32).toInt32).toUInt32 >>> ((4 : Int32) &&& 31).toUInt32).toInt32))])) _
    refine XS.iconst X0.here hx rfl (hb hby d6_62) ?_
    show Steps p.tables e below (s₁.setTop (mkF m 63 #[.val (.int ((((p1.toUInt32 >>> ((8 : Int32) &&& 31).toUInt32).toInt32).toUInt32 >>> ((4 : Int32) &&& 31).toUInt32).toInt32)), .val (.int (19 : Int32))] [(.int (4 : Int32)), (.int ((((p1.toUInt32 >>> ((8 : Int32) &&& 31).toUInt32).toInt32).toUInt32 >>> ((4 : Int32) &&& 31).toUInt32).toInt32))])) _
    refine XS.icmpNo X0.here hx rfl (hb hby d6_63) rfl (flt hc63).1 ?_
    show Steps p.tables e below (s₁.setTop (mkF m 66 #[.val (.int ((((p1.toUInt32 >>> ((8 : Int32) &&& 31).toUInt32).toInt32).toUInt32 >>> ((4 : Int32) &&& 31).toUInt32).toInt32)), .val (.int (19 : Int32))] [])) _
    refine XS.iinc X0.here hx rfl (hb hby d6_66) rfl (l' := #[.val (.int ((((p1.toUInt32 >>> ((8 : Int32) &&& 31).toUInt32).toInt32).toUInt32 >>> ((4 : Int32) &&& 31).toUInt32).toInt32)), .val (.int (17 : Int32))]) rfl ?_
    show Steps p.tables e below (s₁.setTop (mkF m 69 #[.val (.int ((((p1.toUInt32 >>> ((8 : Int32) &&& 31).toUInt32).toInt32).toUInt32 >>> ((4 : Int32) &&& 31).toUInt32).toInt32)), .val (.int (17 : Int32))] [])) _
    refine XS.iloadN X0.here hx rfl (hb hby d6_69) rfl ?_
    show Steps p.tables e below (s₁.setTop (mkF m 70 #[.val (.int ((((p1.toUInt32 >>> ((8 : Int32) &&& 31).toUInt32).toInt32).toUInt32 >>> ((4 : Int32) &&& 31).toUInt32).toInt32)), .val (.int (17 : Int32))] [(.int ((((p1.toUInt32 >>> ((8 : Int32) &&& 31).toUInt32).toInt32).toUInt32 >>> ((4 : Int32) &&& 31).toUInt32).toInt32))])) _
    refine XS.iconst X0.here hx rfl (hb hby d6_70) ?_
    show Steps p.tables e below (s₁.setTop (mkF m 71 #[.val (.int ((((p1.toUInt32 >>> ((8 : Int32) &&& 31).toUInt32).toInt32).toUInt32 >>> ((4 : Int32) &&& 31).toUInt32).toInt32)), .val (.int (17 : Int32))] [(.int (2 : Int32)), (.int ((((p1.toUInt32 >>> ((8 : Int32) &&& 31).toUInt32).toInt32).toUInt32 >>> ((4 : Int32) &&& 31).toUInt32).toInt32))])) _
    refine XS.iushr X0.here hx rfl (hb hby d6_71) rfl ?_
    show Steps p.tables e below (s₁.setTop (mkF m 72 #[.val (.int ((((p1.toUInt32 >>> ((8 : Int32) &&& 31).toUInt32).toInt32).toUInt32 >>> ((4 : Int32) &&& 31).toUInt32).toInt32)), .val (.int (17 : Int32))] [(.int ((((((p1.toUInt32 >>> ((8 : Int32) &&& 31).toUInt32).toInt32).toUInt32 >>> ((4 : Int32) &&& 31).toUInt32).toInt32).toUInt32 >>> ((2 : Int32) &&& 31).toUInt32).toInt32))])) _
    refine XS.istoreN X0.here hx rfl (hb hby d6_72) rfl (l' := #[.val (.int ((((((p1.toUInt32 >>> ((8 : Int32) &&& 31).toUInt32).toInt32).toUInt32 >>> ((4 : Int32) &&& 31).toUInt32).toInt32).toUInt32 >>> ((2 : Int32) &&& 31).toUInt32).toInt32)), .val (.int (17 : Int32))]) rfl ?_
    show Steps p.tables e below (s₁.setTop (mkF m 73 #[.val (.int ((((((p1.toUInt32 >>> ((8 : Int32) &&& 31).toUInt32).toInt32).toUInt32 >>> ((4 : Int32) &&& 31).toUInt32).toInt32).toUInt32 >>> ((2 : Int32) &&& 31).toUInt32).toInt32)), .val (.int (17 : Int32))] [])) _
    refine XS.iloadN X0.here hx rfl (hb hby d6_73) rfl ?_
    show Steps p.tables e below (s₁.setTop (mkF m 74 #[.val (.int ((((((p1.toUInt32 >>> ((8 : Int32) &&& 31).toUInt32).toInt32).toUInt32 >>> ((4 : Int32) &&& 31).toUInt32).toInt32).toUInt32 >>> ((2 : Int32) &&& 31).toUInt32).toInt32)), .val (.int (17 : Int32))] [(.int (17 : Int32))])) _
    refine XS.iloadN X0.here hx rfl (hb hby d6_74) rfl ?_
    show Steps p.tables e below (s₁.setTop (mkF m 75 #[.val (.int ((((((p1.toUInt32 >>> ((8 : Int32) &&& 31).toUInt32).toInt32).toUInt32 >>> ((4 : Int32) &&& 31).toUInt32).toInt32).toUInt32 >>> ((2 : Int32) &&& 31).toUInt32).toInt32)), .val (.int (17 : Int32))] [(.int ((((((p1.toUInt32 >>> ((8 : Int32) &&& 31).toUInt32).toInt32).toUInt32 >>> ((4 : Int32) &&& 31).toUInt32).toInt32).toUInt32 >>> ((2 : Int32) &&& 31).toUInt32).toInt32)), (.int (17 : Int32))])) _
    refine XS.iconst X0.here hx rfl (hb hby d6_75) ?_
    show Steps p.tables e below (s₁.setTop (mkF m 76 #[.val (.int ((((((p1.toUInt32 >>> ((8 : Int32) &&& 31).toUInt32).toInt32).toUInt32 >>> ((4 : Int32) &&& 31).toUInt32).toInt32).toUInt32 >>> ((2 : Int32) &&& 31).toUInt32).toInt32)), .val (.int (17 : Int32))] [(.int (1 : Int32)), (.int ((((((p1.toUInt32 >>> ((8 : Int32) &&& 31).toUInt32).toInt32).toUInt32 >>> ((4 : Int32) &&& 31).toUInt32).toInt32).toUInt32 >>> ((2 : Int32) &&& 31).toUInt32).toInt32)), (.int (17 : Int32))])) _
    refine XS.iushr X0.here hx rfl (hb hby d6_76) rfl ?_
    show Steps p.tables e below (s₁.setTop (mkF m 77 #[.val (.int ((((((p1.toUInt32 >>> ((8 : Int32) &&& 31).toUInt32).toInt32).toUInt32 >>> ((4 : Int32) &&& 31).toUInt32).toInt32).toUInt32 >>> ((2 : Int32) &&& 31).toUInt32).toInt32)), .val (.int (17 : Int32))] [(.int ((((((((p1.toUInt32 >>> ((8 : Int32) &&& 31).toUInt32).toInt32).toUInt32 >>> ((4 : Int32) &&& 31).toUInt32).toInt32).toUInt32 >>> ((2 : Int32) &&& 31).toUInt32).toInt32).toUInt32 >>> ((1 : Int32) &&& 31).toUInt32).toInt32)), (.int (17 : Int32))])) _
    refine XS.isub X0.here hx rfl (hb hby d6_77) rfl ?_
    show Steps p.tables e below (s₁.setTop (mkF m 78 #[.val (.int ((((((p1.toUInt32 >>> ((8 : Int32) &&& 31).toUInt32).toInt32).toUInt32 >>> ((4 : Int32) &&& 31).toUInt32).toInt32).toUInt32 >>> ((2 : Int32) &&& 31).toUInt32).toInt32)), .val (.int (17 : Int32))] [(.int ((17 : Int32) - ((((((((p1.toUInt32 >>> ((8 : Int32) &&& 31).toUInt32).toInt32).toUInt32 >>> ((4 : Int32) &&& 31).toUInt32).toInt32).toUInt32 >>> ((2 : Int32) &&& 31).toUInt32).toInt32).toUInt32 >>> ((1 : Int32) &&& 31).toUInt32).toInt32)))])) _
    exact retI X0 hx Bd.returns (hb hby d6_78) hr
  · show Q6 p1 h0 n0 _ s₁.heap _
    rw [e0]
    exact ⟨_, rfl, N0, rfl, own_n_ttfff p1 hc1 hc22 hc37 hc51 hc63⟩
theorem d6_25 : decode jdk_33_method_47_code 25 = .ok (.iinc 1 (-16), 3) := by decide +kernel
theorem d6_28 : decode jdk_33_method_47_code 28 = .ok (.iload_n 0, 1) := by decide +kernel
theorem d6_29 : decode jdk_33_method_47_code 29 = .ok (.bipush 16, 2) := by decide +kernel
theorem d6_31 : decode jdk_33_method_47_code 31 = .ok (.iushr, 1) := by decide +kernel
theorem d6_32 : decode jdk_33_method_47_code 32 = .ok (.istore_n 0, 1) := by decide +kernel
theorem own_n_tfttt (p1 : Int32) (hc1 : (0 : Int32) < p1) (hc22 : ¬ (p1 < (65536 : Int32))) (hc37 : ((p1.toUInt32 >>> ((16 : Int32) &&& 31).toUInt32).toInt32) < (256 : Int32)) (hc51 : ((p1.toUInt32 >>> ((16 : Int32) &&& 31).toUInt32).toInt32) < (16 : Int32)) (hc63 : ((p1.toUInt32 >>> ((16 : Int32) &&& 31).toUInt32).toInt32) < (4 : Int32)) : own_P p1 ((15 : Int32) - ((((p1.toUInt32 >>> ((16 : Int32) &&& 31).toUInt32).toInt32).toUInt32 >>> ((1 : Int32) &&& 31).toUInt32).toInt32)) := by
  have e0 : (0 : Int32).toInt = 0 := rfl
  have z0 : 0 ≤ p1.toInt := by rw [Int32.lt_iff_toInt_lt] at hc1; omega
  have rv := rng32 p1
  have c16 : (65536 : Int32).toInt = 65536 := rfl
  have c8 : (256 : Int32).toInt = 256 := rfl
  have c4 : (16 : Int32).toInt = 16 := rfl
  have c2 : (4 : Int32).toInt = 4 := rfl
  rw [Int32.lt_iff_toInt_lt] at hc22
  have s16 := own_shr p1 16 16 (by decide) (by decide) z0
  have y16 : 0 ≤ (((p1.toUInt32 >>> ((16 : Int32) &&& 31).toUInt32).toInt32)).toInt := by omega
  rw [Int32.lt_iff_toInt_lt] at hc37
  rw [Int32.lt_iff_toInt_lt] at hc51
  rw [Int32.lt_iff_toInt_lt] at hc63
  have s1 := own_shr ((p1.toUInt32 >>> ((16 : Int32) &&& 31).toUInt32).toInt32) 1 1 (by decide) (by decide) y16
  have d := c_isub (15 : Int32) ((((p1.toUInt32 >>> ((16 : Int32) &&& 31).toUInt32).toInt32).toUInt32 >>> ((1 : Int32) &&& 31).toUInt32).toInt32)
  have rd := rng32 ((15 : Int32) - ((((p1.toUInt32 >>> ((16 : Int32) &&& 31).toUInt32).toInt32).toUInt32 >>> ((1 : Int32) &&& 31).toUInt32).toInt32))
  have en : (15 : Int32).toInt = 15 := rfl
  unfold own_P
  refine ⟨fun q => ?_, fun q q' => ?_, fun q q' => ?_, fun q => ?_⟩ <;> omega
set_option maxRecDepth 65536 in
set_option maxHeartbeats 40000000 in
theorem rm6_tfttt (l : Launch) (Z : State) (a0 : Array Value) (hw : ∀ d ∈ tables_1, d.before a0 Z = true) (ws : List Jvm.Cond) (p1 : Int32) (h0 : Heap) (n0 : Nat) (Z0 : n0 ≤ h0.size) (hc1 : (0 : Int32) < p1) (hc22 : ¬ (p1 < (65536 : Int32))) (hc37 : ((p1.toUInt32 >>> ((16 : Int32) &&& 31).toUInt32).toInt32) < (256 : Int32)) (hc51 : ((p1.toUInt32 >>> ((16 : Int32) &&& 31).toUInt32).toInt32) < (16 : Int32)) (hc63 : ((p1.toUInt32 >>> ((16 : Int32) &&& 31).toUInt32).toInt32) < (4 : Int32)) :
    MetFree l (⟨"java/lang/Integer", "numberOfLeadingZeros", "(I)I"⟩ : MethodName) (head1 (Jvm.Cond.code (⟨"java/lang/Integer", "numberOfLeadingZeros", "(I)I"⟩ : MethodName) jdk_33_method_47_code 2 (some .int) :: ws) ({ frames := 0, cells := 0, slots := 0, locals := 0 } : Room)) (fun a U => a = #[(.int p1)] ∧ Z.Warmed39 U.vm ∧ U.heap = h0) (fun _ _ _ _ _ => True) (fun _ U o U' => ∃ v L, o = .returned v ∧ Q6 p1 h0 n0 v U'.heap L ∧ FrameEnd U o U' L ({ frames := 0, cells := 0, slots := 0, locals := 0 } : Room).cells ({ frames := 0, cells := 0, slots := 0, locals := 0 } : Room).slots) := by
  refine MetFree.of_bodySF (plainFor_of_name pn_6) hisR ?_
  intro p e s m args below meth c s₁ Bd hml0 hP hK
  obtain ⟨rfl, hZ, hh⟩ := hP
  have hx := Bd.exec
  have hby := Bd.bytes
  have hml : c.maxLocals = 2 := hml0
  have hown : s.vm.findClass "java/lang/Integer" = some m.cls := findClass_of_methodNamed Bd.named
  have hnm := (name_of_methodNamed Bd.named Bd.method).1
  have X0 : Stand p l e ({ frames := 0, cells := 0, slots := 0, locals := 0 } : Room) s m #[(.int p1)] below meth c s₁ [] 0 0 := Stand.of_body Bd
  have e0 : s₁.heap = h0 := by rw [← hh, Bd.state]; rfl
  have N0 := Fr.nil n0
  have pre0 : ∀ t, Steps p.tables e below (s₁.setTop (mkF m 0 #[.val (.int p1), .unset] [])) t → Steps p.tables e below (s₁.setTop (entryFrame m #[(.int p1)] 2)) t := fun t k => castTop (ef_6 m p1) k

  obtain ⟨fs, hr, hrun, hended, hW, hsame⟩ := X0.leave (v := some (.int ((15 : Int32) - ((((p1.toUInt32 >>> ((16 : Int32) &&& 31).toUInt32).toInt32).toUInt32 >>> ((1 : Int32) &&& 31).toUInt32).toInt32)))) (fun h => by rw [Bd.returns] at h; cases h)
  refine ⟨_, _, pre0 _ ?_, hrun, hended, _, _, rfl, ?_, ⟨_, rfl⟩, hW, hsame.mono (by decide) (by decide)⟩
  · show Steps p.tables e below (s₁.setTop (mkF m 0 #[.val (.int p1), .unset] [])) _
    refine XS.iloadN X0.here hx rfl (hb hby d6_0) rfl ?_
    show Steps p.tables e below (s₁.setTop (mkF m 1 #[.val (.int p1), .unset] [(.int p1)])) _
    refine XS.ifYes X0.here hx rfl (pc0 := 1) (pc' := 15) rfl (hb hby d6_1) rfl ((if0 _ _).trans (tlt hc1).2.2.1) (by decide) (by decide) ?_
    show Steps p.tables e below (s₁.setTop (mkF m 15 #[.val (.int p1), .unset] [])) _
    refine XS.bipush X0.here hx rfl (hb hby d6_15) ?_
    show Steps p.tables e below (s₁.setTop (mkF m 17 #[.val (.int p1), .unset] [(.int (31 : Int32))])) _
    refine XS.istoreN X0.here hx rfl (hb hby d6_17) rfl (l' := #[.val (.int p1), .val (.int (31 : Int32))]) rfl ?_
    show Steps p.tables e below (s₁.setTop (mkF m 18 #[.val (.int p1), .val (.int (31 : Int32))] [])) _
    refine XS.iloadN X0.here hx rfl (hb hby d6_18) rfl ?_
    show Steps p.tables e below (s₁.setTop (mkF m 19 #[.val (.int p1), .val (.int (31 : Int32))] [(.int p1)])) _
    refine X0.ldcwInt hx hown (mvT hZ (hw _ (List.mem_of_getElem? (i := 65) rfl))) (g := (mkF m 19 #[.val (.int p1), .val (.int (31 : Int32))] [(.int p1)])) rfl (hb hby d6_19) _ ?_
    show Steps p.tables e below (s₁.setTop (mkF m 22 #[.val (.int p1), .val (.int (31 : Int32))] [(.int (65536 : Int32)), (.int p1)])) _
    refine XS.icmpNo X0.here hx rfl (hb hby d6_22) rfl (flt hc22).1 ?_
    show Steps p.tables e below (s₁.setTop (mkF m 25 #[.val (.int p1), .val (.int (31 : Int32))] [])) _
    refine XS.iinc X0.here hx rfl (hb hby d6_25) rfl (l' := #[.val (.int p1), .val (.int (15 : Int32))]) rfl ?_
    show Steps p.tables e below (s₁.setTop (mkF m 28 #[.val (.int p1), .val (.int (15 : Int32))] [])) _
    refine XS.iloadN X0.here hx rfl (hb hby d6_28) rfl ?_
    show Steps p.tables e below (s₁.setTop (mkF m 29 #[.val (.int p1), .val (.int (15 : Int32))] [(.int p1)])) _
    refine XS.bipush X0.here hx rfl (hb hby d6_29) ?_
    show Steps p.tables e below (s₁.setTop (mkF m 31 #[.val (.int p1), .val (.int (15 : Int32))] [(.int (16 : Int32)), (.int p1)])) _
    refine XS.iushr X0.here hx rfl (hb hby d6_31) rfl ?_
    show Steps p.tables e below (s₁.setTop (mkF m 32 #[.val (.int p1), .val (.int (15 : Int32))] [(.int ((p1.toUInt32 >>> ((16 : Int32) &&& 31).toUInt32).toInt32))])) _
    refine XS.istoreN X0.here hx rfl (hb hby d6_32) rfl (l' := #[.val (.int ((p1.toUInt32 >>> ((16 : Int32) &&& 31).toUInt32).toInt32)), .val (.int (15 : Int32))]) rfl ?_
    show Steps p.tables e below (s₁.setTop (mkF m 33 #[.val (.int ((p1.toUInt32 >>> ((16 : Int32) &&& 31).toUInt32).toInt32)), .val (.int (15 : Int32))] [])) _
    refine XS.iloadN X0.here hx rfl (hb hby d6_33) rfl ?_
    show Steps p.tables e below (s₁.setTop (mkF m 34 #[.val (.int ((p1.toUInt32 >>> ((16 : Int32) &&& 31).toUInt32).toInt32)), .val (.int (15 : Int32))] [(.int ((p1.toUInt32 >>> ((16 : Int32) &&& 31).toUInt32).toInt32))])) _
    refine XS.sipush X0.here hx rfl (hb hby d6_34) ?_
    show Steps p.tables e below (s₁.setTop (mkF m 37 #[.val (.int ((p1.toUInt32 >>> ((16 : Int32) &&& 31).toUInt32).toInt32)), .val (.int (15 : Int32))] [(.int (256 : Int32)), (.int ((p1.toUInt32 >>> ((16 : Int32) &&& 31).toUInt32).toInt32))])) _
    refine XS.icmpYes X0.here hx rfl (pc0 := 37) (pc' := 48) rfl (hb hby d6_37) rfl (tlt hc37).1 (by decide) (by decide) ?_
    show Steps p.tables e below (s₁.setTop (mkF m 48 #[.val (.int ((p1.toUInt32 >>> ((16 : Int32) &&& 31).toUInt32).toInt32)), .val (.int (15 : Int32))] [])) _
    refine XS.iloadN X0.here hx rfl (hb hby d6_48) rfl ?_
    show Steps p.tables e below (s₁.setTop (mkF m 49 #[.val (.int ((p1.toUInt32 >>> ((16 : Int32) &&& 31).toUInt32).toInt32)), .val (.int (15 : Int32))] [(.int ((p1.toUInt32 >>> ((16 : Int32) &&& 31).toUInt32).toInt32))])) _
    refine XS.bipush X0.here hx rfl (hb hby d6_49) ?_
    show Steps p.tables e below (s₁.setTop (mkF m 51 #[.val (.int ((p1.toUInt32 >>> ((16 : Int32) &&& 31).toUInt32).toInt32)), .val (.int (15 : Int32))] [(.int (16 : Int32)), (.int ((p1.toUInt32 >>> ((16 : Int32) &&& 31).toUInt32).toInt32))])) _
    refine XS.icmpYes X0.here hx rfl (pc0 := 51) (pc' := 61) rfl (hb hby d6_51) rfl (tlt hc51).1 (by decide) (by decide) ?_
    show Steps p.tables e below (s₁.setTop (mkF m 61 #[.val (.int ((p1.toUInt32 >>> ((16 : Int32) &&& 31).toUInt32).toInt32)), .val (.int (15 : Int32))] [])) _
    refine XS.iloadN X0.here hx rfl (hb hby d6_61) rfl ?_
    show Steps p.tables e below (s₁.setTop (mkF m 62 #[.val (.int ((p1.toUInt32 >>> ((16 : Int32) &&& 31).toUInt32).toInt32)), .val (.int (15 : Int32))] [(.int ((p1.toUInt32 >>> ((16 : Int32) &&& 31).toUInt32).toInt32))])) _
    refine XS.iconst X0.here hx rfl (hb hby d6_62) ?_
    show Steps p.tables e below (s₁.setTop (mkF m 63 #[.val (.int ((p1.toUInt32 >>> ((16 : Int32) &&& 31).toUInt32).toInt32)), .val (.int (15 : Int32))] [(.int (4 : Int32)), (.int ((p1.toUInt32 >>> ((16 : Int32) &&& 31).toUInt32).toInt32))])) _
    refine XS.icmpYes X0.here hx rfl (pc0 := 63) (pc' := 73) rfl (hb hby d6_63) rfl (tlt hc63).1 (by decide) (by decide) ?_
    show Steps p.tables e below (s₁.setTop (mkF m 73 #[.val (.int ((p1.toUInt32 >>> ((16 : Int32) &&& 31).toUInt32).toInt32)), .val (.int (15 : Int32))] [])) _
    refine XS.iloadN X0.here hx rfl (hb hby d6_73) rfl ?_
    show Steps p.tables e below (s₁.setTop (mkF m 74 #[.val (.int ((p1.toUInt32 >>> ((16 : Int32) &&& 31).toUInt32).toInt32)), .val (.int (15 : Int32))] [(.int (15 : Int32))])) _
    refine XS.iloadN X0.here hx rfl (hb hby d6_74) rfl ?_
    show Steps p.tables e below (s₁.setTop (mkF m 75 #[.val (.int ((p1.toUInt32 >>> ((16 : Int32) &&& 31).toUInt32).toInt32)), .val (.int (15 : Int32))] [(.int ((p1.toUInt32 >>> ((16 : Int32) &&& 31).toUInt32).toInt32)), (.int (15 : Int32))])) _
    refine XS.iconst X0.here hx rfl (hb hby d6_75) ?_
    show Steps p.tables e below (s₁.setTop (mkF m 76 #[.val (.int ((p1.toUInt32 >>> ((16 : Int32) &&& 31).toUInt32).toInt32)), .val (.int (15 : Int32))] [(.int (1 : Int32)), (.int ((p1.toUInt32 >>> ((16 : Int32) &&& 31).toUInt32).toInt32)), (.int (15 : Int32))])) _
    refine XS.iushr X0.here hx rfl (hb hby d6_76) rfl ?_
    show Steps p.tables e below (s₁.setTop (mkF m 77 #[.val (.int ((p1.toUInt32 >>> ((16 : Int32) &&& 31).toUInt32).toInt32)), .val (.int (15 : Int32))] [(.int ((((p1.toUInt32 >>> ((16 : Int32) &&& 31).toUInt32).toInt32).toUInt32 >>> ((1 : Int32) &&& 31).toUInt32).toInt32)), (.int (15 : Int32))])) _
    refine XS.isub X0.here hx rfl (hb hby d6_77) rfl ?_
    show Steps p.tables e below (s₁.setTop (mkF m 78 #[.val (.int ((p1.toUInt32 >>> ((16 : Int32) &&& 31).toUInt32).toInt32)), .val (.int (15 : Int32))] [(.int ((15 : Int32) - ((((p1.toUInt32 >>> ((16 : Int32) &&& 31).toUInt32).toInt32).toUInt32 >>> ((1 : Int32) &&& 31).toUInt32).toInt32)))])) _
    exact retI X0 hx Bd.returns (hb hby d6_78) hr
  · show Q6 p1 h0 n0 _ s₁.heap _
    rw [e0]
    exact ⟨_, rfl, N0, rfl, own_n_tfttt p1 hc1 hc22 hc37 hc51 hc63⟩
theorem own_n_tfttf (p1 : Int32) (hc1 : (0 : Int32) < p1) (hc22 : ¬ (p1 < (65536 : Int32))) (hc37 : ((p1.toUInt32 >>> ((16 : Int32) &&& 31).toUInt32).toInt32) < (256 : Int32)) (hc51 : ((p1.toUInt32 >>> ((16 : Int32) &&& 31).toUInt32).toInt32) < (16 : Int32)) (hc63 : ¬ (((p1.toUInt32 >>> ((16 : Int32) &&& 31).toUInt32).toInt32) < (4 : Int32))) : own_P p1 ((13 : Int32) - ((((((p1.toUInt32 >>> ((16 : Int32) &&& 31).toUInt32).toInt32).toUInt32 >>> ((2 : Int32) &&& 31).toUInt32).toInt32).toUInt32 >>> ((1 : Int32) &&& 31).toUInt32).toInt32)) := by
  have e0 : (0 : Int32).toInt = 0 := rfl
  have z0 : 0 ≤ p1.toInt := by rw [Int32.lt_iff_toInt_lt] at hc1; omega
  have rv := rng32 p1
  have c16 : (65536 : Int32).toInt = 65536 := rfl
  have c8 : (256 : Int32).toInt = 256 := rfl
  have c4 : (16 : Int32).toInt = 16 := rfl
  have c2 : (4 : Int32).toInt = 4 := rfl
  rw [Int32.lt_iff_toInt_lt] at hc22
  have s16 := own_shr p1 16 16 (by decide) (by decide) z0
  have y16 : 0 ≤ (((p1.toUInt32 >>> ((16 : Int32) &&& 31).toUInt32).toInt32)).toInt := by omega
  rw [Int32.lt_iff_toInt_lt] at hc37
  rw [Int32.lt_iff_toInt_lt] at hc51
  rw [Int32.lt_iff_toInt_lt] at hc63
  have s2 := own_shr ((p1.toUInt32 >>> ((16 : Int32) &&& 31).toUInt32).toInt32) 2 2 (by decide) (by decide) y16
  have y2 : 0 ≤ (((((p1.toUInt32 >>> ((16 : Int32) &&& 31).toUInt32).toInt32).toUInt32 >>> ((2 : Int32) &&& 31).toUInt32).toInt32)).toInt := by omega
  have s1 := own_shr ((((p1.toUInt32 >>> ((16 : Int32) &&& 31).toUInt32).toInt32).toUInt32 >>> ((2 : Int32) &&& 31).toUInt32).toInt32) 1 1 (by decide) (by decide) y2
  have d := c_isub (13 : Int32) ((((((p1.toUInt32 >>> ((16 : Int32) &&& 31).toUInt32).toInt32).toUInt32 >>> ((2 : Int32) &&& 31).toUInt32).toInt32).toUInt32 >>> ((1 : Int32) &&& 31).toUInt32).toInt32)
  have rd := rng32 ((13 : Int32) - ((((((p1.toUInt32 >>> ((16 : Int32) &&& 31).toUInt32).toInt32).toUInt32 >>> ((2 : Int32) &&& 31).toUInt32).toInt32).toUInt32 >>> ((1 : Int32) &&& 31).toUInt32).toInt32))
  have en : (13 : Int32).toInt = 13 := rfl
  unfold own_P
  refine ⟨fun q => ?_, fun q q' => ?_, fun q q' => ?_, fun q => ?_⟩ <;> omega
set_option maxRecDepth 65536 in
set_option maxHeartbeats 40000000 in
theorem rm6_tfttf (l : Launch) (Z : State) (a0 : Array Value) (hw : ∀ d ∈ tables_1, d.before a0 Z = true) (ws : List Jvm.Cond) (p1 : Int32) (h0 : Heap) (n0 : Nat) (Z0 : n0 ≤ h0.size) (hc1 : (0 : Int32) < p1) (hc22 : ¬ (p1 < (65536 : Int32))) (hc37 : ((p1.toUInt32 >>> ((16 : Int32) &&& 31).toUInt32).toInt32) < (256 : Int32)) (hc51 : ((p1.toUInt32 >>> ((16 : Int32) &&& 31).toUInt32).toInt32) < (16 : Int32)) (hc63 : ¬ (((p1.toUInt32 >>> ((16 : Int32) &&& 31).toUInt32).toInt32) < (4 : Int32))) :
    MetFree l (⟨"java/lang/Integer", "numberOfLeadingZeros", "(I)I"⟩ : MethodName) (head1 (Jvm.Cond.code (⟨"java/lang/Integer", "numberOfLeadingZeros", "(I)I"⟩ : MethodName) jdk_33_method_47_code 2 (some .int) :: ws) ({ frames := 0, cells := 0, slots := 0, locals := 0 } : Room)) (fun a U => a = #[(.int p1)] ∧ Z.Warmed39 U.vm ∧ U.heap = h0) (fun _ _ _ _ _ => True) (fun _ U o U' => ∃ v L, o = .returned v ∧ Q6 p1 h0 n0 v U'.heap L ∧ FrameEnd U o U' L ({ frames := 0, cells := 0, slots := 0, locals := 0 } : Room).cells ({ frames := 0, cells := 0, slots := 0, locals := 0 } : Room).slots) := by
  refine MetFree.of_bodySF (plainFor_of_name pn_6) hisR ?_
  intro p e s m args below meth c s₁ Bd hml0 hP hK
  obtain ⟨rfl, hZ, hh⟩ := hP
  have hx := Bd.exec
  have hby := Bd.bytes
  have hml : c.maxLocals = 2 := hml0
  have hown : s.vm.findClass "java/lang/Integer" = some m.cls := findClass_of_methodNamed Bd.named
  have hnm := (name_of_methodNamed Bd.named Bd.method).1
  have X0 : Stand p l e ({ frames := 0, cells := 0, slots := 0, locals := 0 } : Room) s m #[(.int p1)] below meth c s₁ [] 0 0 := Stand.of_body Bd
  have e0 : s₁.heap = h0 := by rw [← hh, Bd.state]; rfl
  have N0 := Fr.nil n0
  have pre0 : ∀ t, Steps p.tables e below (s₁.setTop (mkF m 0 #[.val (.int p1), .unset] [])) t → Steps p.tables e below (s₁.setTop (entryFrame m #[(.int p1)] 2)) t := fun t k => castTop (ef_6 m p1) k

  obtain ⟨fs, hr, hrun, hended, hW, hsame⟩ := X0.leave (v := some (.int ((13 : Int32) - ((((((p1.toUInt32 >>> ((16 : Int32) &&& 31).toUInt32).toInt32).toUInt32 >>> ((2 : Int32) &&& 31).toUInt32).toInt32).toUInt32 >>> ((1 : Int32) &&& 31).toUInt32).toInt32)))) (fun h => by rw [Bd.returns] at h; cases h)
  refine ⟨_, _, pre0 _ ?_, hrun, hended, _, _, rfl, ?_, ⟨_, rfl⟩, hW, hsame.mono (by decide) (by decide)⟩
  · show Steps p.tables e below (s₁.setTop (mkF m 0 #[.val (.int p1), .unset] [])) _
    refine XS.iloadN X0.here hx rfl (hb hby d6_0) rfl ?_
    show Steps p.tables e below (s₁.setTop (mkF m 1 #[.val (.int p1), .unset] [(.int p1)])) _
    refine XS.ifYes X0.here hx rfl (pc0 := 1) (pc' := 15) rfl (hb hby d6_1) rfl ((if0 _ _).trans (tlt hc1).2.2.1) (by decide) (by decide) ?_
    show Steps p.tables e below (s₁.setTop (mkF m 15 #[.val (.int p1), .unset] [])) _
    refine XS.bipush X0.here hx rfl (hb hby d6_15) ?_
    show Steps p.tables e below (s₁.setTop (mkF m 17 #[.val (.int p1), .unset] [(.int (31 : Int32))])) _
    refine XS.istoreN X0.here hx rfl (hb hby d6_17) rfl (l' := #[.val (.int p1), .val (.int (31 : Int32))]) rfl ?_
    show Steps p.tables e below (s₁.setTop (mkF m 18 #[.val (.int p1), .val (.int (31 : Int32))] [])) _
    refine XS.iloadN X0.here hx rfl (hb hby d6_18) rfl ?_
    show Steps p.tables e below (s₁.setTop (mkF m 19 #[.val (.int p1), .val (.int (31 : Int32))] [(.int p1)])) _
    refine X0.ldcwInt hx hown (mvT hZ (hw _ (List.mem_of_getElem? (i := 65) rfl))) (g := (mkF m 19 #[.val (.int p1), .val (.int (31 : Int32))] [(.int p1)])) rfl (hb hby d6_19) _ ?_
    show Steps p.tables e below (s₁.setTop (mkF m 22 #[.val (.int p1), .val (.int (31 : Int32))] [(.int (65536 : Int32)), (.int p1)])) _
    refine XS.icmpNo X0.here hx rfl (hb hby d6_22) rfl (flt hc22).1 ?_
    show Steps p.tables e below (s₁.setTop (mkF m 25 #[.val (.int p1), .val (.int (31 : Int32))] [])) _
    refine XS.iinc X0.here hx rfl (hb hby d6_25) rfl (l' := #[.val (.int p1), .val (.int (15 : Int32))]) rfl ?_
    show Steps p.tables e below (s₁.setTop (mkF m 28 #[.val (.int p1), .val (.int (15 : Int32))] [])) _
    refine XS.iloadN X0.here hx rfl (hb hby d6_28) rfl ?_
    show Steps p.tables e below (s₁.setTop (mkF m 29 #[.val (.int p1), .val (.int (15 : Int32))] [(.int p1)])) _
    refine XS.bipush X0.here hx rfl (hb hby d6_29) ?_
    show Steps p.tables e below (s₁.setTop (mkF m 31 #[.val (.int p1), .val (.int (15 : Int32))] [(.int (16 : Int32)), (.int p1)])) _
    refine XS.iushr X0.here hx rfl (hb hby d6_31) rfl ?_
    show Steps p.tables e below (s₁.setTop (mkF m 32 #[.val (.int p1), .val (.int (15 : Int32))] [(.int ((p1.toUInt32 >>> ((16 : Int32) &&& 31).toUInt32).toInt32))])) _
    refine XS.istoreN X0.here hx rfl (hb hby d6_32) rfl (l' := #[.val (.int ((p1.toUInt32 >>> ((16 : Int32) &&& 31).toUInt32).toInt32)), .val (.int (15 : Int32))]) rfl ?_
    show Steps p.tables e below (s₁.setTop (mkF m 33 #[.val (.int ((p1.toUInt32 >>> ((16 : Int32) &&& 31).toUInt32).toInt32)), .val (.int (15 : Int32))] [])) _
    refine XS.iloadN X0.here hx rfl (hb hby d6_33) rfl ?_
    show Steps p.tables e below (s₁.setTop (mkF m 34 #[.val (.int ((p1.toUInt32 >>> ((16 : Int32) &&& 31).toUInt32).toInt32)), .val (.int (15 : Int32))] [(.int ((p1.toUInt32 >>> ((16 : Int32) &&& 31).toUInt32).toInt32))])) _
    refine XS.sipush X0.here hx rfl (hb hby d6_34) ?_
    show Steps p.tables e below (s₁.setTop (mkF m 37 #[.val (.int ((p1.toUInt32 >>> ((16 : Int32) &&& 31).toUInt32).toInt32)), .val (.int (15 : Int32))] [(.int (256 : Int32)), (.int ((p1.toUInt32 >>> ((16 : Int32) &&& 31).toUInt32).toInt32))])) _
    refine XS.icmpYes X0.here hx rfl (pc0 := 37) (pc' := 48) rfl (hb hby d6_37) rfl (tlt hc37).1 (by decide) (by decide) ?_
    show Steps p.tables e below (s₁.setTop (mkF m 48 #[.val (.int ((p1.toUInt32 >>> ((16 : Int32) &&& 31).toUInt32).toInt32)), .val (.int (15 : Int32))] [])) _
    refine XS.iloadN X0.here hx rfl (hb hby d6_48) rfl ?_
    show Steps p.tables e below (s₁.setTop (mkF m 49 #[.val (.int ((p1.toUInt32 >>> ((16 : Int32) &&& 31).toUInt32).toInt32)), .val (.int (15 : Int32))] [(.int ((p1.toUInt32 >>> ((16 : Int32) &&& 31).toUInt32).toInt32))])) _
    refine XS.bipush X0.here hx rfl (hb hby d6_49) ?_
    show Steps p.tables e below (s₁.setTop (mkF m 51 #[.val (.int ((p1.toUInt32 >>> ((16 : Int32) &&& 31).toUInt32).toInt32)), .val (.int (15 : Int32))] [(.int (16 : Int32)), (.int ((p1.toUInt32 >>> ((16 : Int32) &&& 31).toUInt32).toInt32))])) _
    refine XS.icmpYes X0.here hx rfl (pc0 := 51) (pc' := 61) rfl (hb hby d6_51) rfl (tlt hc51).1 (by decide) (by decide) ?_
    show Steps p.tables e below (s₁.setTop (mkF m 61 #[.val (.int ((p1.toUInt32 >>> ((16 : Int32) &&& 31).toUInt32).toInt32)), .val (.int (15 : Int32))] [])) _
    refine XS.iloadN X0.here hx rfl (hb hby d6_61) rfl ?_
    show Steps p.tables e below (s₁.setTop (mkF m 62 #[.val (.int ((p1.toUInt32 >>> ((16 : Int32) &&& 31).toUInt32).toInt32)), .val (.int (15 : Int32))] [(.int ((p1.toUInt32 >>> ((16 : Int32) &&& 31).toUInt32).toInt32))])) _
    refine XS.iconst X0.here hx rfl (hb hby d6_62) ?_
    show Steps p.tables e below (s₁.setTop (mkF m 63 #[.val (.int ((p1.toUInt32 >>> ((16 : Int32) &&& 31).toUInt32).toInt32)), .val (.int (15 : Int32))] [(.int (4 : Int32)), (.int ((p1.toUInt32 >>> ((16 : Int32) &&& 31).toUInt32).toInt32))])) _
    refine XS.icmpNo X0.here hx rfl (hb hby d6_63) rfl (flt hc63).1 ?_
    show Steps p.tables e below (s₁.setTop (mkF m 66 #[.val (.int ((p1.toUInt32 >>> ((16 : Int32) &&& 31).toUInt32).toInt32)), .val (.int (15 : Int32))] [])) _
    refine XS.iinc X0.here hx rfl (hb hby d6_66) rfl (l' := #[.val (.int ((p1.toUInt32 >>> ((16 : Int32) &&& 31).toUInt32).toInt32)), .val (.int (13 : Int32))]) rfl ?_
    show Steps p.tables e below (s₁.setTop (mkF m 69 #[.val (.int ((p1.toUInt32 >>> ((16 : Int32) &&& 31).toUInt32).toInt32)), .val (.int (13 : Int32))] [])) _
    refine XS.iloadN X0.here hx rfl (hb hby d6_69) rfl ?_
    show Steps p.tables e below (s₁.setTop (mkF m 70 #[.val (.int ((p1.toUInt32 >>> ((16 : Int32) &&& 31).toUInt32).toInt32)), .val (.int (13 : Int32))] [(.int ((p1.toUInt32 >>> ((16 : Int32) &&& 31).toUInt32).toInt32))])) _
    refine XS.iconst X0.here hx rfl (hb hby d6_70) ?_
    show Steps p.tables e below (s₁.setTop (mkF m 71 #[.val (.int ((p1.toUInt32 >>> ((16 : Int32) &&& 31).toUInt32).toInt32)), .val (.int (13 : Int32))] [(.int (2 : Int32)), (.int ((p1.toUInt32 >>> ((16 : Int32) &&& 31).toUInt32).toInt32))])) _
    refine XS.iushr X0.here hx rfl (hb hby d6_71) rfl ?_
    show Steps p.tables e below (s₁.setTop (mkF m 72 #[.val (.int ((p1.toUInt32 >>> ((16 : Int32) &&& 31).toUInt32).toInt32)), .val (.int (13 : Int32))] [(.int ((((p1.toUInt32 >>> ((16 : Int32) &&& 31).toUInt32).toInt32).toUInt32 >>> ((2 : Int32) &&& 31).toUInt32).toInt32))])) _
    refine XS.istoreN X0.here hx rfl (hb hby d6_72) rfl (l' := #[.val (.int ((((p1.toUInt32 >>> ((16 : Int32) &&& 31).toUInt32).toInt32).toUInt32 >>> ((2 : Int32) &&& 31).toUInt32).toInt32)), .val (.int (13 : Int32))]) rfl ?_
    show Steps p.tables e below (s₁.setTop (mkF m 73 #[.val (.int ((((p1.toUInt32 >>> ((16 : Int32) &&& 31).toUInt32).toInt32).toUInt32 >>> ((2 : Int32) &&& 31).toUInt32).toInt32)), .val (.int (13 : Int32))] [])) _
    refine XS.iloadN X0.here hx rfl (hb hby d6_73) rfl ?_
    show Steps p.tables e below (s₁.setTop (mkF m 74 #[.val (.int ((((p1.toUInt32 >>> ((16 : Int32) &&& 31).toUInt32).toInt32).toUInt32 >>> ((2 : Int32) &&& 31).toUInt32).toInt32)), .val (.int (13 : Int32))] [(.int (13 : Int32))])) _
    refine XS.iloadN X0.here hx rfl (hb hby d6_74) rfl ?_
    show Steps p.tables e below (s₁.setTop (mkF m 75 #[.val (.int ((((p1.toUInt32 >>> ((16 : Int32) &&& 31).toUInt32).toInt32).toUInt32 >>> ((2 : Int32) &&& 31).toUInt32).toInt32)), .val (.int (13 : Int32))] [(.int ((((p1.toUInt32 >>> ((16 : Int32) &&& 31).toUInt32).toInt32).toUInt32 >>> ((2 : Int32) &&& 31).toUInt32).toInt32)), (.int (13 : Int32))])) _
    refine XS.iconst X0.here hx rfl (hb hby d6_75) ?_
    show Steps p.tables e below (s₁.setTop (mkF m 76 #[.val (.int ((((p1.toUInt32 >>> ((16 : Int32) &&& 31).toUInt32).toInt32).toUInt32 >>> ((2 : Int32) &&& 31).toUInt32).toInt32)), .val (.int (13 : Int32))] [(.int (1 : Int32)), (.int ((((p1.toUInt32 >>> ((16 : Int32) &&& 31).toUInt32).toInt32).toUInt32 >>> ((2 : Int32) &&& 31).toUInt32).toInt32)), (.int (13 : Int32))])) _
    refine XS.iushr X0.here hx rfl (hb hby d6_76) rfl ?_
    show Steps p.tables e below (s₁.setTop (mkF m 77 #[.val (.int ((((p1.toUInt32 >>> ((16 : Int32) &&& 31).toUInt32).toInt32).toUInt32 >>> ((2 : Int32) &&& 31).toUInt32).toInt32)), .val (.int (13 : Int32))] [(.int ((((((p1.toUInt32 >>> ((16 : Int32) &&& 31).toUInt32).toInt32).toUInt32 >>> ((2 : Int32) &&& 31).toUInt32).toInt32).toUInt32 >>> ((1 : Int32) &&& 31).toUInt32).toInt32)), (.int (13 : Int32))])) _
    refine XS.isub X0.here hx rfl (hb hby d6_77) rfl ?_
    show Steps p.tables e below (s₁.setTop (mkF m 78 #[.val (.int ((((p1.toUInt32 >>> ((16 : Int32) &&& 31).toUInt32).toInt32).toUInt32 >>> ((2 : Int32) &&& 31).toUInt32).toInt32)), .val (.int (13 : Int32))] [(.int ((13 : Int32) - ((((((p1.toUInt32 >>> ((16 : Int32) &&& 31).toUInt32).toInt32).toUInt32 >>> ((2 : Int32) &&& 31).toUInt32).toInt32).toUInt32 >>> ((1 : Int32) &&& 31).toUInt32).toInt32)))])) _
    exact retI X0 hx Bd.returns (hb hby d6_78) hr
  · show Q6 p1 h0 n0 _ s₁.heap _
    rw [e0]
    exact ⟨_, rfl, N0, rfl, own_n_tfttf p1 hc1 hc22 hc37 hc51 hc63⟩
theorem own_n_tftft (p1 : Int32) (hc1 : (0 : Int32) < p1) (hc22 : ¬ (p1 < (65536 : Int32))) (hc37 : ((p1.toUInt32 >>> ((16 : Int32) &&& 31).toUInt32).toInt32) < (256 : Int32)) (hc51 : ¬ (((p1.toUInt32 >>> ((16 : Int32) &&& 31).toUInt32).toInt32) < (16 : Int32))) (hc63 : ((((p1.toUInt32 >>> ((16 : Int32) &&& 31).toUInt32).toInt32).toUInt32 >>> ((4 : Int32) &&& 31).toUInt32).toInt32) < (4 : Int32)) : own_P p1 ((11 : Int32) - ((((((p1.toUInt32 >>> ((16 : Int32) &&& 31).toUInt32).toInt32).toUInt32 >>> ((4 : Int32) &&& 31).toUInt32).toInt32).toUInt32 >>> ((1 : Int32) &&& 31).toUInt32).toInt32)) := by
  have e0 : (0 : Int32).toInt = 0 := rfl
  have z0 : 0 ≤ p1.toInt := by rw [Int32.lt_iff_toInt_lt] at hc1; omega
  have rv := rng32 p1
  have c16 : (65536 : Int32).toInt = 65536 := rfl
  have c8 : (256 : Int32).toInt = 256 := rfl
  have c4 : (16 : Int32).toInt = 16 := rfl
  have c2 : (4 : Int32).toInt = 4 := rfl
  rw [Int32.lt_iff_toInt_lt] at hc22
  have s16 := own_shr p1 16 16 (by decide) (by decide) z0
  have y16 : 0 ≤ (((p1.toUInt32 >>> ((16 : Int32) &&& 31).toUInt32).toInt32)).toInt := by omega
  rw [Int32.lt_iff_toInt_lt] at hc37
  rw [Int32.lt_iff_toInt_lt] at hc51
  have s4 := own_shr ((p1.toUInt32 >>> ((16 : Int32) &&& 31).toUInt32).toInt32) 4 4 (by decide) (by decide) y16
  have y4 : 0 ≤ (((((p1.toUInt32 >>> ((16 : Int32) &&& 31).toUInt32).toInt32).toUInt32 >>> ((4 : Int32) &&& 31).toUInt32).toInt32)).toInt := by omega
  rw [Int32.lt_iff_toInt_lt] at hc63
  have s1 := own_shr ((((p1.toUInt32 >>> ((16 : Int32) &&& 31).toUInt32).toInt32).toUInt32 >>> ((4 : Int32) &&& 31).toUInt32).toInt32) 1 1 (by decide) (by decide) y4
  have d := c_isub (11 : Int32) ((((((p1.toUInt32 >>> ((16 : Int32) &&& 31).toUInt32).toInt32).toUInt32 >>> ((4 : Int32) &&& 31).toUInt32).toInt32).toUInt32 >>> ((1 : Int32) &&& 31).toUInt32).toInt32)
  have rd := rng32 ((11 : Int32) - ((((((p1.toUInt32 >>> ((16 : Int32) &&& 31).toUInt32).toInt32).toUInt32 >>> ((4 : Int32) &&& 31).toUInt32).toInt32).toUInt32 >>> ((1 : Int32) &&& 31).toUInt32).toInt32))
  have en : (11 : Int32).toInt = 11 := rfl
  unfold own_P
  refine ⟨fun q => ?_, fun q q' => ?_, fun q q' => ?_, fun q => ?_⟩ <;> omega
set_option maxRecDepth 65536 in
set_option maxHeartbeats 40000000 in
theorem rm6_tftft (l : Launch) (Z : State) (a0 : Array Value) (hw : ∀ d ∈ tables_1, d.before a0 Z = true) (ws : List Jvm.Cond) (p1 : Int32) (h0 : Heap) (n0 : Nat) (Z0 : n0 ≤ h0.size) (hc1 : (0 : Int32) < p1) (hc22 : ¬ (p1 < (65536 : Int32))) (hc37 : ((p1.toUInt32 >>> ((16 : Int32) &&& 31).toUInt32).toInt32) < (256 : Int32)) (hc51 : ¬ (((p1.toUInt32 >>> ((16 : Int32) &&& 31).toUInt32).toInt32) < (16 : Int32))) (hc63 : ((((p1.toUInt32 >>> ((16 : Int32) &&& 31).toUInt32).toInt32).toUInt32 >>> ((4 : Int32) &&& 31).toUInt32).toInt32) < (4 : Int32)) :
    MetFree l (⟨"java/lang/Integer", "numberOfLeadingZeros", "(I)I"⟩ : MethodName) (head1 (Jvm.Cond.code (⟨"java/lang/Integer", "numberOfLeadingZeros", "(I)I"⟩ : MethodName) jdk_33_method_47_code 2 (some .int) :: ws) ({ frames := 0, cells := 0, slots := 0, locals := 0 } : Room)) (fun a U => a = #[(.int p1)] ∧ Z.Warmed39 U.vm ∧ U.heap = h0) (fun _ _ _ _ _ => True) (fun _ U o U' => ∃ v L, o = .returned v ∧ Q6 p1 h0 n0 v U'.heap L ∧ FrameEnd U o U' L ({ frames := 0, cells := 0, slots := 0, locals := 0 } : Room).cells ({ frames := 0, cells := 0, slots := 0, locals := 0 } : Room).slots) := by
  refine MetFree.of_bodySF (plainFor_of_name pn_6) hisR ?_
  intro p e s m args below meth c s₁ Bd hml0 hP hK
  obtain ⟨rfl, hZ, hh⟩ := hP
  have hx := Bd.exec
  have hby := Bd.bytes
  have hml : c.maxLocals = 2 := hml0
  have hown : s.vm.findClass "java/lang/Integer" = some m.cls := findClass_of_methodNamed Bd.named
  have hnm := (name_of_methodNamed Bd.named Bd.method).1
  have X0 : Stand p l e ({ frames := 0, cells := 0, slots := 0, locals := 0 } : Room) s m #[(.int p1)] below meth c s₁ [] 0 0 := Stand.of_body Bd
  have e0 : s₁.heap = h0 := by rw [← hh, Bd.state]; rfl
  have N0 := Fr.nil n0
  have pre0 : ∀ t, Steps p.tables e below (s₁.setTop (mkF m 0 #[.val (.int p1), .unset] [])) t → Steps p.tables e below (s₁.setTop (entryFrame m #[(.int p1)] 2)) t := fun t k => castTop (ef_6 m p1) k

  obtain ⟨fs, hr, hrun, hended, hW, hsame⟩ := X0.leave (v := some (.int ((11 : Int32) - ((((((p1.toUInt32 >>> ((16 : Int32) &&& 31).toUInt32).toInt32).toUInt32 >>> ((4 : Int32) &&& 31).toUInt32).toInt32).toUInt32 >>> ((1 : Int32) &&& 31).toUInt32).toInt32)))) (fun h => by rw [Bd.returns] at h; cases h)
  refine ⟨_, _, pre0 _ ?_, hrun, hended, _, _, rfl, ?_, ⟨_, rfl⟩, hW, hsame.mono (by decide) (by decide)⟩
  · show Steps p.tables e below (s₁.setTop (mkF m 0 #[.val (.int p1), .unset] [])) _
    refine XS.iloadN X0.here hx rfl (hb hby d6_0) rfl ?_
    show Steps p.tables e below (s₁.setTop (mkF m 1 #[.val (.int p1), .unset] [(.int p1)])) _
    refine XS.ifYes X0.here hx rfl (pc0 := 1) (pc' := 15) rfl (hb hby d6_1) rfl ((if0 _ _).trans (tlt hc1).2.2.1) (by decide) (by decide) ?_
    show Steps p.tables e below (s₁.setTop (mkF m 15 #[.val (.int p1), .unset] [])) _
    refine XS.bipush X0.here hx rfl (hb hby d6_15) ?_
    show Steps p.tables e below (s₁.setTop (mkF m 17 #[.val (.int p1), .unset] [(.int (31 : Int32))])) _
    refine XS.istoreN X0.here hx rfl (hb hby d6_17) rfl (l' := #[.val (.int p1), .val (.int (31 : Int32))]) rfl ?_
    show Steps p.tables e below (s₁.setTop (mkF m 18 #[.val (.int p1), .val (.int (31 : Int32))] [])) _
    refine XS.iloadN X0.here hx rfl (hb hby d6_18) rfl ?_
    show Steps p.tables e below (s₁.setTop (mkF m 19 #[.val (.int p1), .val (.int (31 : Int32))] [(.int p1)])) _
    refine X0.ldcwInt hx hown (mvT hZ (hw _ (List.mem_of_getElem? (i := 65) rfl))) (g := (mkF m 19 #[.val (.int p1), .val (.int (31 : Int32))] [(.int p1)])) rfl (hb hby d6_19) _ ?_
    show Steps p.tables e below (s₁.setTop (mkF m 22 #[.val (.int p1), .val (.int (31 : Int32))] [(.int (65536 : Int32)), (.int p1)])) _
    refine XS.icmpNo X0.here hx rfl (hb hby d6_22) rfl (flt hc22).1 ?_
    show Steps p.tables e below (s₁.setTop (mkF m 25 #[.val (.int p1), .val (.int (31 : Int32))] [])) _
    refine XS.iinc X0.here hx rfl (hb hby d6_25) rfl (l' := #[.val (.int p1), .val (.int (15 : Int32))]) rfl ?_
    show Steps p.tables e below (s₁.setTop (mkF m 28 #[.val (.int p1), .val (.int (15 : Int32))] [])) _
    refine XS.iloadN X0.here hx rfl (hb hby d6_28) rfl ?_
    show Steps p.tables e below (s₁.setTop (mkF m 29 #[.val (.int p1), .val (.int (15 : Int32))] [(.int p1)])) _
    refine XS.bipush X0.here hx rfl (hb hby d6_29) ?_
    show Steps p.tables e below (s₁.setTop (mkF m 31 #[.val (.int p1), .val (.int (15 : Int32))] [(.int (16 : Int32)), (.int p1)])) _
    refine XS.iushr X0.here hx rfl (hb hby d6_31) rfl ?_
    show Steps p.tables e below (s₁.setTop (mkF m 32 #[.val (.int p1), .val (.int (15 : Int32))] [(.int ((p1.toUInt32 >>> ((16 : Int32) &&& 31).toUInt32).toInt32))])) _
    refine XS.istoreN X0.here hx rfl (hb hby d6_32) rfl (l' := #[.val (.int ((p1.toUInt32 >>> ((16 : Int32) &&& 31).toUInt32).toInt32)), .val (.int (15 : Int32))]) rfl ?_
    show Steps p.tables e below (s₁.setTop (mkF m 33 #[.val (.int ((p1.toUInt32 >>> ((16 : Int32) &&& 31).toUInt32).toInt32)), .val (.int (15 : Int32))] [])) _
    refine XS.iloadN X0.here hx rfl (hb hby d6_33) rfl ?_
    show Steps p.tables e below (s₁.setTop (mkF m 34 #[.val (.int ((p1.toUInt32 >>> ((16 : Int32) &&& 31).toUInt32).toInt32)), .val (.int (15 : Int32))] [(.int ((p1.toUInt32 >>> ((16 : Int32) &&& 31).toUInt32).toInt32))])) _
    refine XS.sipush X0.here hx rfl (hb hby d6_34) ?_
    show Steps p.tables e below (s₁.setTop (mkF m 37 #[.val (.int ((p1.toUInt32 >>> ((16 : Int32) &&& 31).toUInt32).toInt32)), .val (.int (15 : Int32))] [(.int (256 : Int32)), (.int ((p1.toUInt32 >>> ((16 : Int32) &&& 31).toUInt32).toInt32))])) _
    refine XS.icmpYes X0.here hx rfl (pc0 := 37) (pc' := 48) rfl (hb hby d6_37) rfl (tlt hc37).1 (by decide) (by decide) ?_
    show Steps p.tables e below (s₁.setTop (mkF m 48 #[.val (.int ((p1.toUInt32 >>> ((16 : Int32) &&& 31).toUInt32).toInt32)), .val (.int (15 : Int32))] [])) _
    refine XS.iloadN X0.here hx rfl (hb hby d6_48) rfl ?_
    show Steps p.tables e below (s₁.setTop (mkF m 49 #[.val (.int ((p1.toUInt32 >>> ((16 : Int32) &&& 31).toUInt32).toInt32)), .val (.int (15 : Int32))] [(.int ((p1.toUInt32 >>> ((16 : Int32) &&& 31).toUInt32).toInt32))])) _
    refine XS.bipush X0.here hx rfl (hb hby d6_49) ?_
    show Steps p.tables e below (s₁.setTop (mkF m 51 #[.val (.int ((p1.toUInt32 >>> ((16 : Int32) &&& 31).toUInt32).toInt32)), .val (.int (15 : Int32))] [(.int (16 : Int32)), (.int ((p1.toUInt32 >>> ((16 : Int32) &&& 31).toUInt32).toInt32))])) _
    refine XS.icmpNo X0.here hx rfl (hb hby d6_51) rfl (flt hc51).1 ?_
    show Steps p.tables e below (s₁.setTop (mkF m 54 #[.val (.int ((p1.toUInt32 >>> ((16 : Int32) &&& 31).toUInt32).toInt32)), .val (.int (15 : Int32))] [])) _
    refine XS.iinc X0.here hx rfl (hb hby d6_54) rfl (l' := #[.val (.int ((p1.toUInt32 >>> ((16 : Int32) &&& 31).toUInt32).toInt32)), .val (.int (11 : Int32))]) rfl ?_
    show Steps p.tables e below (s₁.setTop (mkF m 57 #[.val (.int ((p1.toUInt32 >>> ((16 : Int32) &&& 31).toUInt32).toInt32)), .val (.int (11 : Int32))] [])) _
    refine XS.iloadN X0.here hx rfl (hb hby d6_57) rfl ?_
    show Steps p.tables e below (s₁.setTop (mkF m 58 #[.val (.int ((p1.toUInt32 >>> ((16 : Int32) &&& 31).toUInt32).toInt32)), .val (.int (11 : Int32))] [(.int ((p1.toUInt32 >>> ((16 : Int32) &&& 31).toUInt32).toInt32))])) _
    refine XS.iconst X0.here hx rfl (hb hby d6_58) ?_
    show Steps p.tables e below (s₁.setTop (mkF m 59 #[.val (.int ((p1.toUInt32 >>> ((16 : Int32) &&& 31).toUInt32).toInt32)), .val (.int (11 : Int32))] [(.int (4 : Int32)), (.int ((p1.toUInt32 >>> ((16 : Int32) &&& 31).toUInt32).toInt32))])) _
    refine XS.iushr X0.here hx rfl (hb hby d6_59) rfl ?_
    show Steps p.tables e below (s₁.setTop (mkF m 60 #[.val (.int ((p1.toUInt32 >>> ((16 : Int32) &&& 31).toUInt32).toInt32)), .val (.int (11 : Int32))] [(.int ((((p1.toUInt32 >>> ((16 : Int32) &&& 31).toUInt32).toInt32).toUInt32 >>> ((4 : Int32) &&& 31).toUInt32).toInt32))])) _
    refine XS.istoreN X0.here hx rfl (hb hby d6_60) rfl (l' := #[.val (.int ((((p1.toUInt32 >>> ((16 : Int32) &&& 31).toUInt32).toInt32).toUInt32 >>> ((4 : Int32) &&& 31).toUInt32).toInt32)), .val (.int (11 : Int32))]) rfl ?_
    show Steps p.tables e below (s₁.setTop (mkF m 61 #[.val (.int ((((p1.toUInt32 >>> ((16 : Int32) &&& 31).toUInt32).toInt32).toUInt32 >>> ((4 : Int32) &&& 31).toUInt32).toInt32)), .val (.int (11 : Int32))] [])) _
    refine XS.iloadN X0.here hx rfl (hb hby d6_61) rfl ?_
    show Steps p.tables e below (s₁.setTop (mkF m 62 #[.val (.int ((((p1.toUInt32 >>> ((16 : Int32) &&& 31).toUInt32).toInt32).toUInt32 >>> ((4 : Int32) &&& 31).toUInt32).toInt32)), .val (.int (11 : Int32))] [(.int ((((p1.toUInt32 >>> ((16 : Int32) &&& 31).toUInt32).toInt32).toUInt32 >>> ((4 : Int32) &&& 31).toUInt32).toInt32))])) _
    refine XS.iconst X0.here hx rfl (hb hby d6_62) ?_
    show Steps p.tables e below (s₁.setTop (mkF m 63 #[.val (.int ((((p1.toUInt32 >>> ((16 : Int32) &&& 31).toUInt32).toInt32).toUInt32 >>> ((4 : Int32) &&& 31).toUInt32).toInt32)), .val (.int (11 : Int32))] [(.int (4 : Int32)), (.int ((((p1.toUInt32 >>> ((16 : Int32) &&& 31).toUInt32).toInt32).toUInt32 >>> ((4 : Int32) &&& 31).toUInt32).toInt32))])) _
    refine XS.icmpYes X0.here hx rfl (pc0 := 63) (pc' := 73) rfl (hb hby d6_63) rfl (tlt hc63).1 (by decide) (by decide) ?_
    show Steps p.tables e below (s₁.setTop (mkF m 73 #[.val (.int ((((p1.toUInt32 >>> ((16 : Int32) &&& 31).toUInt32).toInt32).toUInt32 >>> ((4 : Int32) &&& 31).toUInt32).toInt32)), .val (.int (11 : Int32))] [])) _
    refine XS.iloadN X0.here hx rfl (hb hby d6_73) rfl ?_
    show Steps p.tables e below (s₁.setTop (mkF m 74 #[.val (.int ((((p1.toUInt32 >>> ((16 : Int32) &&& 31).toUInt32).toInt32).toUInt32 >>> ((4 : Int32) &&& 31).toUInt32).toInt32)), .val (.int (11 : Int32))] [(.int (11 : Int32))])) _
    refine XS.iloadN X0.here hx rfl (hb hby d6_74) rfl ?_
    show Steps p.tables e below (s₁.setTop (mkF m 75 #[.val (.int ((((p1.toUInt32 >>> ((16 : Int32) &&& 31).toUInt32).toInt32).toUInt32 >>> ((4 : Int32) &&& 31).toUInt32).toInt32)), .val (.int (11 : Int32))] [(.int ((((p1.toUInt32 >>> ((16 : Int32) &&& 31).toUInt32).toInt32).toUInt32 >>> ((4 : Int32) &&& 31).toUInt32).toInt32)), (.int (11 : Int32))])) _
    refine XS.iconst X0.here hx rfl (hb hby d6_75) ?_
    show Steps p.tables e below (s₁.setTop (mkF m 76 #[.val (.int ((((p1.toUInt32 >>> ((16 : Int32) &&& 31).toUInt32).toInt32).toUInt32 >>> ((4 : Int32) &&& 31).toUInt32).toInt32)), .val (.int (11 : Int32))] [(.int (1 : Int32)), (.int ((((p1.toUInt32 >>> ((16 : Int32) &&& 31).toUInt32).toInt32).toUInt32 >>> ((4 : Int32) &&& 31).toUInt32).toInt32)), (.int (11 : Int32))])) _
    refine XS.iushr X0.here hx rfl (hb hby d6_76) rfl ?_
    show Steps p.tables e below (s₁.setTop (mkF m 77 #[.val (.int ((((p1.toUInt32 >>> ((16 : Int32) &&& 31).toUInt32).toInt32).toUInt32 >>> ((4 : Int32) &&& 31).toUInt32).toInt32)), .val (.int (11 : Int32))] [(.int ((((((p1.toUInt32 >>> ((16 : Int32) &&& 31).toUInt32).toInt32).toUInt32 >>> ((4 : Int32) &&& 31).toUInt32).toInt32).toUInt32 >>> ((1 : Int32) &&& 31).toUInt32).toInt32)), (.int (11 : Int32))])) _
    refine XS.isub X0.here hx rfl (hb hby d6_77) rfl ?_
    show Steps p.tables e below (s₁.setTop (mkF m 78 #[.val (.int ((((p1.toUInt32 >>> ((16 : Int32) &&& 31).toUInt32).toInt32).toUInt32 >>> ((4 : Int32) &&& 31).toUInt32).toInt32)), .val (.int (11 : Int32))] [(.int ((11 : Int32) - ((((((p1.toUInt32 >>> ((16 : Int32) &&& 31).toUInt32).toInt32).toUInt32 >>> ((4 : Int32) &&& 31).toUInt32).toInt32).toUInt32 >>> ((1 : Int32) &&& 31).toUInt32).toInt32)))])) _
    exact retI X0 hx Bd.returns (hb hby d6_78) hr
  · show Q6 p1 h0 n0 _ s₁.heap _
    rw [e0]
    exact ⟨_, rfl, N0, rfl, own_n_tftft p1 hc1 hc22 hc37 hc51 hc63⟩
theorem own_n_tftff (p1 : Int32) (hc1 : (0 : Int32) < p1) (hc22 : ¬ (p1 < (65536 : Int32))) (hc37 : ((p1.toUInt32 >>> ((16 : Int32) &&& 31).toUInt32).toInt32) < (256 : Int32)) (hc51 : ¬ (((p1.toUInt32 >>> ((16 : Int32) &&& 31).toUInt32).toInt32) < (16 : Int32))) (hc63 : ¬ (((((p1.toUInt32 >>> ((16 : Int32) &&& 31).toUInt32).toInt32).toUInt32 >>> ((4 : Int32) &&& 31).toUInt32).toInt32) < (4 : Int32))) : own_P p1 ((9 : Int32) - ((((((((p1.toUInt32 >>> ((16 : Int32) &&& 31).toUInt32).toInt32).toUInt32 >>> ((4 : Int32) &&& 31).toUInt32).toInt32).toUInt32 >>> ((2 : Int32) &&& 31).toUInt32).toInt32).toUInt32 >>> ((1 : Int32) &&& 31).toUInt32).toInt32)) := by
  have e0 : (0 : Int32).toInt = 0 := rfl
  have z0 : 0 ≤ p1.toInt := by rw [Int32.lt_iff_toInt_lt] at hc1; omega
  have rv := rng32 p1
  have c16 : (65536 : Int32).toInt = 65536 := rfl
  have c8 : (256 : Int32).toInt = 256 := rfl
  have c4 : (16 : Int32).toInt = 16 := rfl
  have c2 : (4 : Int32).toInt = 4 := rfl
  rw [Int32.lt_iff_toInt_lt] at hc22
  have s16 := own_shr p1 16 16 (by decide) (by decide) z0
  have y16 : 0 ≤ (((p1.toUInt32 >>> ((16 : Int32) &&& 31).toUInt32).toInt32)).toInt := by omega
  rw [Int32.lt_iff_toInt_lt] at hc37
  rw [Int32.lt_iff_toInt_lt] at hc51
  have s4 := own_shr ((p1.toUInt32 >>> ((16 : Int32) &&& 31).toUInt32).toInt32) 4 4 (by decide) (by decide) y16
  have y4 : 0 ≤ (((((p1.toUInt32 >>> ((16 : Int32) &&& 31).toUInt32).toInt32).toUInt32 >>> ((4 : Int32) &&& 31).toUInt32).toInt32)).toInt := by omega
  rw [Int32.lt_iff_toInt_lt] at hc63
  have s2 := own_shr ((((p1.toUInt32 >>> ((16 : Int32) &&& 31).toUInt32).toInt32).toUInt32 >>> ((4 : Int32) &&& 31).toUInt32).toInt32) 2 2 (by decide) (by decide) y4
  have y2 : 0 ≤ (((((((p1.toUInt32 >>> ((16 : Int32) &&& 31).toUInt32).toInt32).toUInt32 >>> ((4 : Int32) &&& 31).toUInt32).toInt32).toUInt32 >>> ((2 : Int32) &&& 31).toUInt32).toInt32)).toInt := by omega
  have s1 := own_shr ((((((p1.toUInt32 >>> ((16 : Int32) &&& 31).toUInt32).toInt32).toUInt32 >>> ((4 : Int32) &&& 31).toUInt32).toInt32).toUInt32 >>> ((2 : Int32) &&& 31).toUInt32).toInt32) 1 1 (by decide) (by decide) y2
  have d := c_isub (9 : Int32) ((((((((p1.toUInt32 >>> ((16 : Int32) &&& 31).toUInt32).toInt32).toUInt32 >>> ((4 : Int32) &&& 31).toUInt32).toInt32).toUInt32 >>> ((2 : Int32) &&& 31).toUInt32).toInt32).toUInt32 >>> ((1 : Int32) &&& 31).toUInt32).toInt32)
  have rd := rng32 ((9 : Int32) - ((((((((p1.toUInt32 >>> ((16 : Int32) &&& 31).toUInt32).toInt32).toUInt32 >>> ((4 : Int32) &&& 31).toUInt32).toInt32).toUInt32 >>> ((2 : Int32) &&& 31).toUInt32).toInt32).toUInt32 >>> ((1 : Int32) &&& 31).toUInt32).toInt32))
  have en : (9 : Int32).toInt = 9 := rfl
  unfold own_P
  refine ⟨fun q => ?_, fun q q' => ?_, fun q q' => ?_, fun q => ?_⟩ <;> omega
set_option maxRecDepth 65536 in
set_option maxHeartbeats 40000000 in
theorem rm6_tftff (l : Launch) (Z : State) (a0 : Array Value) (hw : ∀ d ∈ tables_1, d.before a0 Z = true) (ws : List Jvm.Cond) (p1 : Int32) (h0 : Heap) (n0 : Nat) (Z0 : n0 ≤ h0.size) (hc1 : (0 : Int32) < p1) (hc22 : ¬ (p1 < (65536 : Int32))) (hc37 : ((p1.toUInt32 >>> ((16 : Int32) &&& 31).toUInt32).toInt32) < (256 : Int32)) (hc51 : ¬ (((p1.toUInt32 >>> ((16 : Int32) &&& 31).toUInt32).toInt32) < (16 : Int32))) (hc63 : ¬ (((((p1.toUInt32 >>> ((16 : Int32) &&& 31).toUInt32).toInt32).toUInt32 >>> ((4 : Int32) &&& 31).toUInt32).toInt32) < (4 : Int32))) :
    MetFree l (⟨"java/lang/Integer", "numberOfLeadingZeros", "(I)I"⟩ : MethodName) (head1 (Jvm.Cond.code (⟨"java/lang/Integer", "numberOfLeadingZeros", "(I)I"⟩ : MethodName) jdk_33_method_47_code 2 (some .int) :: ws) ({ frames := 0, cells := 0, slots := 0, locals := 0 } : Room)) (fun a U => a = #[(.int p1)] ∧ Z.Warmed39 U.vm ∧ U.heap = h0) (fun _ _ _ _ _ => True) (fun _ U o U' => ∃ v L, o = .returned v ∧ Q6 p1 h0 n0 v U'.heap L ∧ FrameEnd U o U' L ({ frames := 0, cells := 0, slots := 0, locals := 0 } : Room).cells ({ frames := 0, cells := 0, slots := 0, locals := 0 } : Room).slots) := by
  refine MetFree.of_bodySF (plainFor_of_name pn_6) hisR ?_
  intro p e s m args below meth c s₁ Bd hml0 hP hK
  obtain ⟨rfl, hZ, hh⟩ := hP
  have hx := Bd.exec
  have hby := Bd.bytes
  have hml : c.maxLocals = 2 := hml0
  have hown : s.vm.findClass "java/lang/Integer" = some m.cls := findClass_of_methodNamed Bd.named
  have hnm := (name_of_methodNamed Bd.named Bd.method).1
  have X0 : Stand p l e ({ frames := 0, cells := 0, slots := 0, locals := 0 } : Room) s m #[(.int p1)] below meth c s₁ [] 0 0 := Stand.of_body Bd
  have e0 : s₁.heap = h0 := by rw [← hh, Bd.state]; rfl
  have N0 := Fr.nil n0
  have pre0 : ∀ t, Steps p.tables e below (s₁.setTop (mkF m 0 #[.val (.int p1), .unset] [])) t → Steps p.tables e below (s₁.setTop (entryFrame m #[(.int p1)] 2)) t := fun t k => castTop (ef_6 m p1) k

  obtain ⟨fs, hr, hrun, hended, hW, hsame⟩ := X0.leave (v := some (.int ((9 : Int32) - ((((((((p1.toUInt32 >>> ((16 : Int32) &&& 31).toUInt32).toInt32).toUInt32 >>> ((4 : Int32) &&& 31).toUInt32).toInt32).toUInt32 >>> ((2 : Int32) &&& 31).toUInt32).toInt32).toUInt32 >>> ((1 : Int32) &&& 31).toUInt32).toInt32)))) (fun h => by rw [Bd.returns] at h; cases h)
  refine ⟨_, _, pre0 _ ?_, hrun, hended, _, _, rfl, ?_, ⟨_, rfl⟩, hW, hsame.mono (by decide) (by decide)⟩
  · show Steps p.tables e below (s₁.setTop (mkF m 0 #[.val (.int p1), .unset] [])) _
    refine XS.iloadN X0.here hx rfl (hb hby d6_0) rfl ?_
    show Steps p.tables e below (s₁.setTop (mkF m 1 #[.val (.int p1), .unset] [(.int p1)])) _
    refine XS.ifYes X0.here hx rfl (pc0 := 1) (pc' := 15) rfl (hb hby d6_1) rfl ((if0 _ _).trans (tlt hc1).2.2.1) (by decide) (by decide) ?_
    show Steps p.tables e below (s₁.setTop (mkF m 15 #[.val (.int p1), .unset] [])) _
    refine XS.bipush X0.here hx rfl (hb hby d6_15) ?_
    show Steps p.tables e below (s₁.setTop (mkF m 17 #[.val (.int p1), .unset] [(.int (31 : Int32))])) _
    refine XS.istoreN X0.here hx rfl (hb hby d6_17) rfl (l' := #[.val (.int p1), .val (.int (31 : Int32))]) rfl ?_
    show Steps p.tables e below (s₁.setTop (mkF m 18 #[.val (.int p1), .val (.int (31 : Int32))] [])) _
    refine XS.iloadN X0.here hx rfl (hb hby d6_18) rfl ?_
    show Steps p.tables e below (s₁.setTop (mkF m 19 #[.val (.int p1), .val (.int (31 : Int32))] [(.int p1)])) _
    refine X0.ldcwInt hx hown (mvT hZ (hw _ (List.mem_of_getElem? (i := 65) rfl))) (g := (mkF m 19 #[.val (.int p1), .val (.int (31 : Int32))] [(.int p1)])) rfl (hb hby d6_19) _ ?_
    show Steps p.tables e below (s₁.setTop (mkF m 22 #[.val (.int p1), .val (.int (31 : Int32))] [(.int (65536 : Int32)), (.int p1)])) _
    refine XS.icmpNo X0.here hx rfl (hb hby d6_22) rfl (flt hc22).1 ?_
    show Steps p.tables e below (s₁.setTop (mkF m 25 #[.val (.int p1), .val (.int (31 : Int32))] [])) _
    refine XS.iinc X0.here hx rfl (hb hby d6_25) rfl (l' := #[.val (.int p1), .val (.int (15 : Int32))]) rfl ?_
    show Steps p.tables e below (s₁.setTop (mkF m 28 #[.val (.int p1), .val (.int (15 : Int32))] [])) _
    refine XS.iloadN X0.here hx rfl (hb hby d6_28) rfl ?_
    show Steps p.tables e below (s₁.setTop (mkF m 29 #[.val (.int p1), .val (.int (15 : Int32))] [(.int p1)])) _
    refine XS.bipush X0.here hx rfl (hb hby d6_29) ?_
    show Steps p.tables e below (s₁.setTop (mkF m 31 #[.val (.int p1), .val (.int (15 : Int32))] [(.int (16 : Int32)), (.int p1)])) _
    refine XS.iushr X0.here hx rfl (hb hby d6_31) rfl ?_
    show Steps p.tables e below (s₁.setTop (mkF m 32 #[.val (.int p1), .val (.int (15 : Int32))] [(.int ((p1.toUInt32 >>> ((16 : Int32) &&& 31).toUInt32).toInt32))])) _
    refine XS.istoreN X0.here hx rfl (hb hby d6_32) rfl (l' := #[.val (.int ((p1.toUInt32 >>> ((16 : Int32) &&& 31).toUInt32).toInt32)), .val (.int (15 : Int32))]) rfl ?_
    show Steps p.tables e below (s₁.setTop (mkF m 33 #[.val (.int ((p1.toUInt32 >>> ((16 : Int32) &&& 31).toUInt32).toInt32)), .val (.int (15 : Int32))] [])) _
    refine XS.iloadN X0.here hx rfl (hb hby d6_33) rfl ?_
    show Steps p.tables e below (s₁.setTop (mkF m 34 #[.val (.int ((p1.toUInt32 >>> ((16 : Int32) &&& 31).toUInt32).toInt32)), .val (.int (15 : Int32))] [(.int ((p1.toUInt32 >>> ((16 : Int32) &&& 31).toUInt32).toInt32))])) _
    refine XS.sipush X0.here hx rfl (hb hby d6_34) ?_
    show Steps p.tables e below (s₁.setTop (mkF m 37 #[.val (.int ((p1.toUInt32 >>> ((16 : Int32) &&& 31).toUInt32).toInt32)), .val (.int (15 : Int32))] [(.int (256 : Int32)), (.int ((p1.toUInt32 >>> ((16 : Int32) &&& 31).toUInt32).toInt32))])) _
    refine XS.icmpYes X0.here hx rfl (pc0 := 37) (pc' := 48) rfl (hb hby d6_37) rfl (tlt hc37).1 (by decide) (by decide) ?_
    show Steps p.tables e below (s₁.setTop (mkF m 48 #[.val (.int ((p1.toUInt32 >>> ((16 : Int32) &&& 31).toUInt32).toInt32)), .val (.int (15 : Int32))] [])) _
    refine XS.iloadN X0.here hx rfl (hb hby d6_48) rfl ?_
    show Steps p.tables e below (s₁.setTop (mkF m 49 #[.val (.int ((p1.toUInt32 >>> ((16 : Int32) &&& 31).toUInt32).toInt32)), .val (.int (15 : Int32))] [(.int ((p1.toUInt32 >>> ((16 : Int32) &&& 31).toUInt32).toInt32))])) _
    refine XS.bipush X0.here hx rfl (hb hby d6_49) ?_
    show Steps p.tables e below (s₁.setTop (mkF m 51 #[.val (.int ((p1.toUInt32 >>> ((16 : Int32) &&& 31).toUInt32).toInt32)), .val (.int (15 : Int32))] [(.int (16 : Int32)), (.int ((p1.toUInt32 >>> ((16 : Int32) &&& 31).toUInt32).toInt32))])) _
    refine XS.icmpNo X0.here hx rfl (hb hby d6_51) rfl (flt hc51).1 ?_
    show Steps p.tables e below (s₁.setTop (mkF m 54 #[.val (.int ((p1.toUInt32 >>> ((16 : Int32) &&& 31).toUInt32).toInt32)), .val (.int (15 : Int32))] [])) _
    refine XS.iinc X0.here hx rfl (hb hby d6_54) rfl (l' := #[.val (.int ((p1.toUInt32 >>> ((16 : Int32) &&& 31).toUInt32).toInt32)), .val (.int (11 : Int32))]) rfl ?_
    show Steps p.tables e below (s₁.setTop (mkF m 57 #[.val (.int ((p1.toUInt32 >>> ((16 : Int32) &&& 31).toUInt32).toInt32)), .val (.int (11 : Int32))] [])) _
    refine XS.iloadN X0.here hx rfl (hb hby d6_57) rfl ?_
    show Steps p.tables e below (s₁.setTop (mkF m 58 #[.val (.int ((p1.toUInt32 >>> ((16 : Int32) &&& 31).toUInt32).toInt32)), .val (.int (11 : Int32))] [(.int ((p1.toUInt32 >>> ((16 : Int32) &&& 31).toUInt32).toInt32))])) _
    refine XS.iconst X0.here hx rfl (hb hby d6_58) ?_
    show Steps p.tables e below (s₁.setTop (mkF m 59 #[.val (.int ((p1.toUInt32 >>> ((16 : Int32) &&& 31).toUInt32).toInt32)), .val (.int (11 : Int32))] [(.int (4 : Int32)), (.int ((p1.toUInt32 >>> ((16 : Int32) &&& 31).toUInt32).toInt32))])) _
    refine XS.iushr X0.here hx rfl (hb hby d6_59) rfl ?_
    show Steps p.tables e below (s₁.setTop (mkF m 60 #[.val (.int ((p1.toUInt32 >>> ((16 : Int32) &&& 31).toUInt32).toInt32)), .val (.int (11 : Int32))] [(.int ((((p1.toUInt32 >>> ((16 : Int32) &&& 31).toUInt32).toInt32).toUInt32 >>> ((4 : Int32) &&& 31).toUInt32).toInt32))])) _
    refine XS.istoreN X0.here hx rfl (hb hby d6_60) rfl (l' := #[.val (.int ((((p1.toUInt32 >>> ((16 : Int32) &&& 31).toUInt32).toInt32).toUInt32 >>> ((4 : Int32) &&& 31).toUInt32).toInt32)), .val (.int (11 : Int32))]) rfl ?_
    show Steps p.tables e below (s₁.setTop (mkF m 61 #[.val (.int ((((p1.toUInt32 >>> ((16 : Int32) &&& 31).toUInt32).toInt32).toUInt32 >>> ((4 : Int32) &&& 31).toUInt32).toInt32)), .val (.int (11 : Int32))] [])) _
    refine XS.iloadN X0.here hx rfl (hb hby d6_61) rfl ?_
    show Steps p.tables e below (s₁.setTop (mkF m 62 #[.val (.int ((((p1.toUInt32 >>> ((16 : Int32) &&& 31).toUInt32).toInt32).toUInt32 >>> ((4 : Int32) &&& 31).toUInt32).toInt32)), .val (.int (11 : Int32))] [(.int ((((p1.toUInt32 >>> ((16 : Int32) &&& 31).toUInt32).toInt32).toUInt32 >>> ((4 : Int32) &&& 31).toUInt32).toInt32))])) _
    refine XS.iconst X0.here hx rfl (hb hby d6_62) ?_
    show Steps p.tables e below (s₁.setTop (mkF m 63 #[.val (.int ((((p1.toUInt32 >>> ((16 : Int32) &&& 31).toUInt32).toInt32).toUInt32 >>> ((4 : Int32) &&& 31).toUInt32).toInt32)), .val (.int (11 : Int32))] [(.int (4 : Int32)), (.int ((((p1.toUInt32 >>> ((16 : Int32) &&& 31).toUInt32).toInt32).toUInt32 >>> ((4 : Int32) &&& 31).toUInt32).toInt32))])) _
    refine XS.icmpNo X0.here hx rfl (hb hby d6_63) rfl (flt hc63).1 ?_
    show Steps p.tables e below (s₁.setTop (mkF m 66 #[.val (.int ((((p1.toUInt32 >>> ((16 : Int32) &&& 31).toUInt32).toInt32).toUInt32 >>> ((4 : Int32) &&& 31).toUInt32).toInt32)), .val (.int (11 : Int32))] [])) _
    refine XS.iinc X0.here hx rfl (hb hby d6_66) rfl (l' := #[.val (.int ((((p1.toUInt32 >>> ((16 : Int32) &&& 31).toUInt32).toInt32).toUInt32 >>> ((4 : Int32) &&& 31).toUInt32).toInt32)), .val (.int (9 : Int32))]) rfl ?_
    show Steps p.tables e below (s₁.setTop (mkF m 69 #[.val (.int ((((p1.toUInt32 >>> ((16 : Int32) &&& 31).toUInt32).toInt32).toUInt32 >>> ((4 : Int32) &&& 31).toUInt32).toInt32)), .val (.int (9 : Int32))] [])) _
    refine XS.iloadN X0.here hx rfl (hb hby d6_69) rfl ?_
    show Steps p.tables e below (s₁.setTop (mkF m 70 #[.val (.int ((((p1.toUInt32 >>> ((16 : Int32) &&& 31).toUInt32).toInt32).toUInt32 >>> ((4 : Int32) &&& 31).toUInt32).toInt32)), .val (.int (9 : Int32))] [(.int ((((p1.toUInt32 >>> ((16 : Int32) &&& 31).toUInt32).toInt32).toUInt32 >>> ((4 : Int32) &&& 31).toUInt32).toInt32))])) _
    refine XS.iconst X0.here hx rfl (hb hby d6_70) ?_
    show Steps p.tables e below (s₁.setTop (mkF m 71 #[.val (.int ((((p1.toUInt32 >>> ((16 : Int32) &&& 31).toUInt32).toInt32).toUInt32 >>> ((4 : Int32) &&& 31).toUInt32).toInt32)), .val (.int (9 : Int32))] [(.int (2 : Int32)), (.int ((((p1.toUInt32 >>> ((16 : Int32) &&& 31).toUInt32).toInt32).toUInt32 >>> ((4 : Int32) &&& 31).toUInt32).toInt32))])) _
    refine XS.iushr X0.here hx rfl (hb hby d6_71) rfl ?_
    show Steps p.tables e below (s₁.setTop (mkF m 72 #[.val (.int ((((p1.toUInt32 >>> ((16 : Int32) &&& 31).toUInt32).toInt32).toUInt32 >>> ((4 : Int32) &&& 31).toUInt32).toInt32)), .val (.int (9 : Int32))] [(.int ((((((p1.toUInt32 >>> ((16 : Int32) &&& 31).toUInt32).toInt32).toUInt32 >>> ((4 : Int32) &&& 31).toUInt32).toInt32).toUInt32 >>> ((2 : Int32) &&& 31).toUInt32).toInt32))])) _
    refine XS.istoreN X0.here hx rfl (hb hby d6_72) rfl (l' := #[.val (.int ((((((p1.toUInt32 >>> ((16 : Int32) &&& 31).toUInt32).toInt32).toUInt32 >>> ((4 : Int32) &&& 31).toUInt32).toInt32).toUInt32 >>> ((2 : Int32) &&& 31).toUInt32).toInt32)), .val (.int (9 : Int32))]) rfl ?_
    show Steps p.tables e below (s₁.setTop (mkF m 73 #[.val (.int ((((((p1.toUInt32 >>> ((16 : Int32) &&& 31).toUInt32).toInt32).toUInt32 >>> ((4 : Int32) &&& 31).toUInt32).toInt32).toUInt32 >>> ((2 : Int32) &&& 31).toUInt32).toInt32)), .val (.int (9 : Int32))] [])) _
    refine XS.iloadN X0.here hx rfl (hb hby d6_73) rfl ?_
    show Steps p.tables e below (s₁.setTop (mkF m 74 #[.val (.int ((((((p1.toUInt32 >>> ((16 : Int32) &&& 31).toUInt32).toInt32).toUInt32 >>> ((4 : Int32) &&& 31).toUInt32).toInt32).toUInt32 >>> ((2 : Int32) &&& 31).toUInt32).toInt32)), .val (.int (9 : Int32))] [(.int (9 : Int32))])) _
    refine XS.iloadN X0.here hx rfl (hb hby d6_74) rfl ?_
    show Steps p.tables e below (s₁.setTop (mkF m 75 #[.val (.int ((((((p1.toUInt32 >>> ((16 : Int32) &&& 31).toUInt32).toInt32).toUInt32 >>> ((4 : Int32) &&& 31).toUInt32).toInt32).toUInt32 >>> ((2 : Int32) &&& 31).toUInt32).toInt32)), .val (.int (9 : Int32))] [(.int ((((((p1.toUInt32 >>> ((16 : Int32) &&& 31).toUInt32).toInt32).toUInt32 >>> ((4 : Int32) &&& 31).toUInt32).toInt32).toUInt32 >>> ((2 : Int32) &&& 31).toUInt32).toInt32)), (.int (9 : Int32))])) _
    refine XS.iconst X0.here hx rfl (hb hby d6_75) ?_
    show Steps p.tables e below (s₁.setTop (mkF m 76 #[.val (.int ((((((p1.toUInt32 >>> ((16 : Int32) &&& 31).toUInt32).toInt32).toUInt32 >>> ((4 : Int32) &&& 31).toUInt32).toInt32).toUInt32 >>> ((2 : Int32) &&& 31).toUInt32).toInt32)), .val (.int (9 : Int32))] [(.int (1 : Int32)), (.int ((((((p1.toUInt32 >>> ((16 : Int32) &&& 31).toUInt32).toInt32).toUInt32 >>> ((4 : Int32) &&& 31).toUInt32).toInt32).toUInt32 >>> ((2 : Int32) &&& 31).toUInt32).toInt32)), (.int (9 : Int32))])) _
    refine XS.iushr X0.here hx rfl (hb hby d6_76) rfl ?_
    show Steps p.tables e below (s₁.setTop (mkF m 77 #[.val (.int ((((((p1.toUInt32 >>> ((16 : Int32) &&& 31).toUInt32).toInt32).toUInt32 >>> ((4 : Int32) &&& 31).toUInt32).toInt32).toUInt32 >>> ((2 : Int32) &&& 31).toUInt32).toInt32)), .val (.int (9 : Int32))] [(.int ((((((((p1.toUInt32 >>> ((16 : Int32) &&& 31).toUInt32).toInt32).toUInt32 >>> ((4 : Int32) &&& 31).toUInt32).toInt32).toUInt32 >>> ((2 : Int32) &&& 31).toUInt32).toInt32).toUInt32 >>> ((1 : Int32) &&& 31).toUInt32).toInt32)), (.int (9 : Int32))])) _
    refine XS.isub X0.here hx rfl (hb hby d6_77) rfl ?_
    show Steps p.tables e below (s₁.setTop (mkF m 78 #[.val (.int ((((((p1.toUInt32 >>> ((16 : Int32) &&& 31).toUInt32).toInt32).toUInt32 >>> ((4 : Int32) &&& 31).toUInt32).toInt32).toUInt32 >>> ((2 : Int32) &&& 31).toUInt32).toInt32)), .val (.int (9 : Int32))] [(.int ((9 : Int32) - ((((((((p1.toUInt32 >>> ((16 : Int32) &&& 31).toUInt32).toInt32).toUInt32 >>> ((4 : Int32) &&& 31).toUInt32).toInt32).toUInt32 >>> ((2 : Int32) &&& 31).toUInt32).toInt32).toUInt32 >>> ((1 : Int32) &&& 31).toUInt32).toInt32)))])) _
    exact retI X0 hx Bd.returns (hb hby d6_78) hr
  · show Q6 p1 h0 n0 _ s₁.heap _
    rw [e0]
    exact ⟨_, rfl, N0, rfl, own_n_tftff p1 hc1 hc22 hc37 hc51 hc63⟩
theorem own_n_tfftt (p1 : Int32) (hc1 : (0 : Int32) < p1) (hc22 : ¬ (p1 < (65536 : Int32))) (hc37 : ¬ (((p1.toUInt32 >>> ((16 : Int32) &&& 31).toUInt32).toInt32) < (256 : Int32))) (hc51 : ((((p1.toUInt32 >>> ((16 : Int32) &&& 31).toUInt32).toInt32).toUInt32 >>> ((8 : Int32) &&& 31).toUInt32).toInt32) < (16 : Int32)) (hc63 : ((((p1.toUInt32 >>> ((16 : Int32) &&& 31).toUInt32).toInt32).toUInt32 >>> ((8 : Int32) &&& 31).toUInt32).toInt32) < (4 : Int32)) : own_P p1 ((7 : Int32) - ((((((p1.toUInt32 >>> ((16 : Int32) &&& 31).toUInt32).toInt32).toUInt32 >>> ((8 : Int32) &&& 31).toUInt32).toInt32).toUInt32 >>> ((1 : Int32) &&& 31).toUInt32).toInt32)) := by
  have e0 : (0 : Int32).toInt = 0 := rfl
  have z0 : 0 ≤ p1.toInt := by rw [Int32.lt_iff_toInt_lt] at hc1; omega
  have rv := rng32 p1
  have c16 : (65536 : Int32).toInt = 65536 := rfl
  have c8 : (256 : Int32).toInt = 256 := rfl
  have c4 : (16 : Int32).toInt = 16 := rfl
  have c2 : (4 : Int32).toInt = 4 := rfl
  rw [Int32.lt_iff_toInt_lt] at hc22
  have s16 := own_shr p1 16 16 (by decide) (by decide) z0
  have y16 : 0 ≤ (((p1.toUInt32 >>> ((16 : Int32) &&& 31).toUInt32).toInt32)).toInt := by omega
  rw [Int32.lt_iff_toInt_lt] at hc37
  have s8 := own_shr ((p1.toUInt32 >>> ((16 : Int32) &&& 31).toUInt32).toInt32) 8 8 (by decide) (by decide) y16
  have y8 : 0 ≤ (((((p1.toUInt32 >>> ((16 : Int32) &&& 31).toUInt32).toInt32).toUInt32 >>> ((8 : Int32) &&& 31).toUInt32).toInt32)).toInt := by omega
  rw [Int32.lt_iff_toInt_lt] at hc51
  rw [Int32.lt_iff_toInt_lt] at hc63
  have s1 := own_shr ((((p1.toUInt32 >>> ((16 : Int32) &&& 31).toUInt32).toInt32).toUInt32 >>> ((8 : Int32) &&& 31).toUInt32).toInt32) 1 1 (by decide) (by decide) y8
  have d := c_isub (7 : Int32) ((((((p1.toUInt32 >>> ((16 : Int32) &&& 31).toUInt32).toInt32).toUInt32 >>> ((8 : Int32) &&& 31).toUInt32).toInt32).toUInt32 >>> ((1 : Int32) &&& 31).toUInt32).toInt32)
  have rd := rng32 ((7 : Int32) - ((((((p1.toUInt32 >>> ((16 : Int32) &&& 31).toUInt32).toInt32).toUInt32 >>> ((8 : Int32) &&& 31).toUInt32).toInt32).toUInt32 >>> ((1 : Int32) &&& 31).toUInt32).toInt32))
  have en : (7 : Int32).toInt = 7 := rfl
  unfold own_P
  refine ⟨fun q => ?_, fun q q' => ?_, fun q q' => ?_, fun q => ?_⟩ <;> omega
set_option maxRecDepth 65536 in
set_option maxHeartbeats 40000000 in
theorem rm6_tfftt (l : Launch) (Z : State) (a0 : Array Value) (hw : ∀ d ∈ tables_1, d.before a0 Z = true) (ws : List Jvm.Cond) (p1 : Int32) (h0 : Heap) (n0 : Nat) (Z0 : n0 ≤ h0.size) (hc1 : (0 : Int32) < p1) (hc22 : ¬ (p1 < (65536 : Int32))) (hc37 : ¬ (((p1.toUInt32 >>> ((16 : Int32) &&& 31).toUInt32).toInt32) < (256 : Int32))) (hc51 : ((((p1.toUInt32 >>> ((16 : Int32) &&& 31).toUInt32).toInt32).toUInt32 >>> ((8 : Int32) &&& 31).toUInt32).toInt32) < (16 : Int32)) (hc63 : ((((p1.toUInt32 >>> ((16 : Int32) &&& 31).toUInt32).toInt32).toUInt32 >>> ((8 : Int32) &&& 31).toUInt32).toInt32) < (4 : Int32)) :
    MetFree l (⟨"java/lang/Integer", "numberOfLeadingZeros", "(I)I"⟩ : MethodName) (head1 (Jvm.Cond.code (⟨"java/lang/Integer", "numberOfLeadingZeros", "(I)I"⟩ : MethodName) jdk_33_method_47_code 2 (some .int) :: ws) ({ frames := 0, cells := 0, slots := 0, locals := 0 } : Room)) (fun a U => a = #[(.int p1)] ∧ Z.Warmed39 U.vm ∧ U.heap = h0) (fun _ _ _ _ _ => True) (fun _ U o U' => ∃ v L, o = .returned v ∧ Q6 p1 h0 n0 v U'.heap L ∧ FrameEnd U o U' L ({ frames := 0, cells := 0, slots := 0, locals := 0 } : Room).cells ({ frames := 0, cells := 0, slots := 0, locals := 0 } : Room).slots) := by
  refine MetFree.of_bodySF (plainFor_of_name pn_6) hisR ?_
  intro p e s m args below meth c s₁ Bd hml0 hP hK
  obtain ⟨rfl, hZ, hh⟩ := hP
  have hx := Bd.exec
  have hby := Bd.bytes
  have hml : c.maxLocals = 2 := hml0
  have hown : s.vm.findClass "java/lang/Integer" = some m.cls := findClass_of_methodNamed Bd.named
  have hnm := (name_of_methodNamed Bd.named Bd.method).1
  have X0 : Stand p l e ({ frames := 0, cells := 0, slots := 0, locals := 0 } : Room) s m #[(.int p1)] below meth c s₁ [] 0 0 := Stand.of_body Bd
  have e0 : s₁.heap = h0 := by rw [← hh, Bd.state]; rfl
  have N0 := Fr.nil n0
  have pre0 : ∀ t, Steps p.tables e below (s₁.setTop (mkF m 0 #[.val (.int p1), .unset] [])) t → Steps p.tables e below (s₁.setTop (entryFrame m #[(.int p1)] 2)) t := fun t k => castTop (ef_6 m p1) k

  obtain ⟨fs, hr, hrun, hended, hW, hsame⟩ := X0.leave (v := some (.int ((7 : Int32) - ((((((p1.toUInt32 >>> ((16 : Int32) &&& 31).toUInt32).toInt32).toUInt32 >>> ((8 : Int32) &&& 31).toUInt32).toInt32).toUInt32 >>> ((1 : Int32) &&& 31).toUInt32).toInt32)))) (fun h => by rw [Bd.returns] at h; cases h)
  refine ⟨_, _, pre0 _ ?_, hrun, hended, _, _, rfl, ?_, ⟨_, rfl⟩, hW, hsame.mono (by decide) (by decide)⟩
  · show Steps p.tables e below (s₁.setTop (mkF m 0 #[.val (.int p1), .unset] [])) _
    refine XS.iloadN X0.here hx rfl (hb hby d6_0) rfl ?_
    show Steps p.tables e below (s₁.setTop (mkF m 1 #[.val (.int p1), .unset] [(.int p1)])) _
    refine XS.ifYes X0.here hx rfl (pc0 := 1) (pc' := 15) rfl (hb hby d6_1) rfl ((if0 _ _).trans (tlt hc1).2.2.1) (by decide) (by decide) ?_
    show Steps p.tables e below (s₁.setTop (mkF m 15 #[.val (.int p1), .unset] [])) _
    refine XS.bipush X0.here hx rfl (hb hby d6_15) ?_
    show Steps p.tables e below (s₁.setTop (mkF m 17 #[.val (.int p1), .unset] [(.int (31 : Int32))])) _
    refine XS.istoreN X0.here hx rfl (hb hby d6_17) rfl (l' := #[.val (.int p1), .val (.int (31 : Int32))]) rfl ?_
    show Steps p.tables e below (s₁.setTop (mkF m 18 #[.val (.int p1), .val (.int (31 : Int32))] [])) _
    refine XS.iloadN X0.here hx rfl (hb hby d6_18) rfl ?_
    show Steps p.tables e below (s₁.setTop (mkF m 19 #[.val (.int p1), .val (.int (31 : Int32))] [(.int p1)])) _
    refine X0.ldcwInt hx hown (mvT hZ (hw _ (List.mem_of_getElem? (i := 65) rfl))) (g := (mkF m 19 #[.val (.int p1), .val (.int (31 : Int32))] [(.int p1)])) rfl (hb hby d6_19) _ ?_
    show Steps p.tables e below (s₁.setTop (mkF m 22 #[.val (.int p1), .val (.int (31 : Int32))] [(.int (65536 : Int32)), (.int p1)])) _
    refine XS.icmpNo X0.here hx rfl (hb hby d6_22) rfl (flt hc22).1 ?_
    show Steps p.tables e below (s₁.setTop (mkF m 25 #[.val (.int p1), .val (.int (31 : Int32))] [])) _
    refine XS.iinc X0.here hx rfl (hb hby d6_25) rfl (l' := #[.val (.int p1), .val (.int (15 : Int32))]) rfl ?_
    show Steps p.tables e below (s₁.setTop (mkF m 28 #[.val (.int p1), .val (.int (15 : Int32))] [])) _
    refine XS.iloadN X0.here hx rfl (hb hby d6_28) rfl ?_
    show Steps p.tables e below (s₁.setTop (mkF m 29 #[.val (.int p1), .val (.int (15 : Int32))] [(.int p1)])) _
    refine XS.bipush X0.here hx rfl (hb hby d6_29) ?_
    show Steps p.tables e below (s₁.setTop (mkF m 31 #[.val (.int p1), .val (.int (15 : Int32))] [(.int (16 : Int32)), (.int p1)])) _
    refine XS.iushr X0.here hx rfl (hb hby d6_31) rfl ?_
    show Steps p.tables e below (s₁.setTop (mkF m 32 #[.val (.int p1), .val (.int (15 : Int32))] [(.int ((p1.toUInt32 >>> ((16 : Int32) &&& 31).toUInt32).toInt32))])) _
    refine XS.istoreN X0.here hx rfl (hb hby d6_32) rfl (l' := #[.val (.int ((p1.toUInt32 >>> ((16 : Int32) &&& 31).toUInt32).toInt32)), .val (.int (15 : Int32))]) rfl ?_
    show Steps p.tables e below (s₁.setTop (mkF m 33 #[.val (.int ((p1.toUInt32 >>> ((16 : Int32) &&& 31).toUInt32).toInt32)), .val (.int (15 : Int32))] [])) _
    refine XS.iloadN X0.here hx rfl (hb hby d6_33) rfl ?_
    show Steps p.tables e below (s₁.setTop (mkF m 34 #[.val (.int ((p1.toUInt32 >>> ((16 : Int32) &&& 31).toUInt32).toInt32)), .val (.int (15 : Int32))] [(.int ((p1.toUInt32 >>> ((16 : Int32) &&& 31).toUInt32).toInt32))])) _
    refine XS.sipush X0.here hx rfl (hb hby d6_34) ?_
    show Steps p.tables e below (s₁.setTop (mkF m 37 #[.val (.int ((p1.toUInt32 >>> ((16 : Int32) &&& 31).toUInt32).toInt32)), .val (.int (15 : Int32))] [(.int (256 : Int32)), (.int ((p1.toUInt32 >>> ((16 : Int32) &&& 31).toUInt32).toInt32))])) _
    refine XS.icmpNo X0.here hx rfl (hb hby d6_37) rfl (flt hc37).1 ?_
    show Steps p.tables e below (s₁.setTop (mkF m 40 #[.val (.int ((p1.toUInt32 >>> ((16 : Int32) &&& 31).toUInt32).toInt32)), .val (.int (15 : Int32))] [])) _
    refine XS.iinc X0.here hx rfl (hb hby d6_40) rfl (l' := #[.val (.int ((p1.toUInt32 >>> ((16 : Int32) &&& 31).toUInt32).toInt32)), .val (.int (7 : Int32))]) rfl ?_
    show Steps p.tables e below (s₁.setTop (mkF m 43 #[.val (.int ((p1.toUInt32 >>> ((16 : Int32) &&& 31).toUInt32).toInt32)), .val (.int (7 : Int32))] [])) _
    refine XS.iloadN X0.here hx rfl (hb hby d6_43) rfl ?_
    show Steps p.tables e below (s₁.setTop (mkF m 44 #[.val (.int ((p1.toUInt32 >>> ((16 : Int32) &&& 31).toUInt32).toInt32)), .val (.int (7 : Int32))] [(.int ((p1.toUInt32 >>> ((16 : Int32) &&& 31).toUInt32).toInt32))])) _
    refine XS.bipush X0.here hx rfl (hb hby d6_44) ?_
    show Steps p.tables e below (s₁.setTop (mkF m 46 #[.val (.int ((p1.toUInt32 >>> ((16 : Int32) &&& 31).toUInt32).toInt32)), .val (.int (7 : Int32))] [(.int (8 : Int32)), (.int ((p1.toUInt32 >>> ((16 : Int32) &&& 31).toUInt32).toInt32))])) _
    refine XS.iushr X0.here hx rfl (hb hby d6_46) rfl ?_
    show Steps p.tables e below (s₁.setTop (mkF m 47 #[.val (.int ((p1.toUInt32 >>> ((16 : Int32) &&& 31).toUInt32).toInt32)), .val (.int (7 : Int32))] [(.int ((((p1.toUInt32 >>> ((16 : Int32) &&& 31).toUInt32).toInt32).toUInt32 >>> ((8 : Int32) &&& 31).toUInt32).toInt32))])) _
    refine XS.istoreN X0.here hx rfl (hb hby d6_47) rfl (l' := #[.val (.int ((((p1.toUInt32 >>> ((16 : Int32) &&& 31).toUInt32).toInt32).toUInt32 >>> ((8 : Int32) &&& 31).toUInt32).toInt32)), .val (.int (7 : Int32))]) rfl ?_
    show Steps p.tables e below (s₁.setTop (mkF m 48 #[.val (.int ((((p1.toUInt32 >>> ((16 : Int32) &&& 31).toUInt32).toInt32).toUInt32 >>> ((8 : Int32) &&& 31).toUInt32).toInt32)), .val (.int (7 : Int32))] [])) _
    refine XS.iloadN X0.here hx rfl (hb hby d6_48) rfl ?_
    show Steps p.tables e below (s₁.setTop (mkF m 49 #[.val (.int ((((p1.toUInt32 >>> ((16 : Int32) &&& 31).toUInt32).toInt32).toUInt32 >>> ((8 : Int32) &&& 31).toUInt32).toInt32)), .val (.int (7 : Int32))] [(.int ((((p1.toUInt32 >>> ((16 : Int32) &&& 31).toUInt32).toInt32).toUInt32 >>> ((8 : Int32) &&& 31).toUInt32).toInt32))])) _
    refine XS.bipush X0.here hx rfl (hb hby d6_49) ?_
    show Steps p.tables e below (s₁.setTop (mkF m 51 #[.val (.int ((((p1.toUInt32 >>> ((16 : Int32) &&& 31).toUInt32).toInt32).toUInt32 >>> ((8 : Int32) &&& 31).toUInt32).toInt32)), .val (.int (7 : Int32))] [(.int (16 : Int32)), (.int ((((p1.toUInt32 >>> ((16 : Int32) &&& 31).toUInt32).toInt32).toUInt32 >>> ((8 : Int32) &&& 31).toUInt32).toInt32))])) _
    refine XS.icmpYes X0.here hx rfl (pc0 := 51) (pc' := 61) rfl (hb hby d6_51) rfl (tlt hc51).1 (by decide) (by decide) ?_
    show Steps p.tables e below (s₁.setTop (mkF m 61 #[.val (.int ((((p1.toUInt32 >>> ((16 : Int32) &&& 31).toUInt32).toInt32).toUInt32 >>> ((8 : Int32) &&& 31).toUInt32).toInt32)), .val (.int (7 : Int32))] [])) _
    refine XS.iloadN X0.here hx rfl (hb hby d6_61) rfl ?_
    show Steps p.tables e below (s₁.setTop (mkF m 62 #[.val (.int ((((p1.toUInt32 >>> ((16 : Int32) &&& 31).toUInt32).toInt32).toUInt32 >>> ((8 : Int32) &&& 31).toUInt32).toInt32)), .val (.int (7 : Int32))] [(.int ((((p1.toUInt32 >>> ((16 : Int32) &&& 31).toUInt32).toInt32).toUInt32 >>> ((8 : Int32) &&& 31).toUInt32).toInt32))])) _
    refine XS.iconst X0.here hx rfl (hb hby d6_62) ?_
    show Steps p.tables e below (s₁.setTop (mkF m 63 #[.val (.int ((((p1.toUInt32 >>> ((16 : Int32) &&& 31).toUInt32).toInt32).toUInt32 >>> ((8 : Int32) &&& 31).toUInt32).toInt32)), .val (.int (7 : Int32))] [(.int (4 : Int32)), (.int ((((p1.toUInt32 >>> ((16 : Int32) &&& 31).toUInt32).toInt32).toUInt32 >>> ((8 : Int32) &&& 31).toUInt32).toInt32))])) _
    refine XS.icmpYes X0.here hx rfl (pc0 := 63) (pc' := 73) rfl (hb hby d6_63) rfl (tlt hc63).1 (by decide) (by decide) ?_
    show Steps p.tables e below (s₁.setTop (mkF m 73 #[.val (.int ((((p1.toUInt32 >>> ((16 : Int32) &&& 31).toUInt32).toInt32).toUInt32 >>> ((8 : Int32) &&& 31).toUInt32).toInt32)), .val (.int (7 : Int32))] [])) _
    refine XS.iloadN X0.here hx rfl (hb hby d6_73) rfl ?_
    show Steps p.tables e below (s₁.setTop (mkF m 74 #[.val (.int ((((p1.toUInt32 >>> ((16 : Int32) &&& 31).toUInt32).toInt32).toUInt32 >>> ((8 : Int32) &&& 31).toUInt32).toInt32)), .val (.int (7 : Int32))] [(.int (7 : Int32))])) _
    refine XS.iloadN X0.here hx rfl (hb hby d6_74) rfl ?_
    show Steps p.tables e below (s₁.setTop (mkF m 75 #[.val (.int ((((p1.toUInt32 >>> ((16 : Int32) &&& 31).toUInt32).toInt32).toUInt32 >>> ((8 : Int32) &&& 31).toUInt32).toInt32)), .val (.int (7 : Int32))] [(.int ((((p1.toUInt32 >>> ((16 : Int32) &&& 31).toUInt32).toInt32).toUInt32 >>> ((8 : Int32) &&& 31).toUInt32).toInt32)), (.int (7 : Int32))])) _
    refine XS.iconst X0.here hx rfl (hb hby d6_75) ?_
    show Steps p.tables e below (s₁.setTop (mkF m 76 #[.val (.int ((((p1.toUInt32 >>> ((16 : Int32) &&& 31).toUInt32).toInt32).toUInt32 >>> ((8 : Int32) &&& 31).toUInt32).toInt32)), .val (.int (7 : Int32))] [(.int (1 : Int32)), (.int ((((p1.toUInt32 >>> ((16 : Int32) &&& 31).toUInt32).toInt32).toUInt32 >>> ((8 : Int32) &&& 31).toUInt32).toInt32)), (.int (7 : Int32))])) _
    refine XS.iushr X0.here hx rfl (hb hby d6_76) rfl ?_
    show Steps p.tables e below (s₁.setTop (mkF m 77 #[.val (.int ((((p1.toUInt32 >>> ((16 : Int32) &&& 31).toUInt32).toInt32).toUInt32 >>> ((8 : Int32) &&& 31).toUInt32).toInt32)), .val (.int (7 : Int32))] [(.int ((((((p1.toUInt32 >>> ((16 : Int32) &&& 31).toUInt32).toInt32).toUInt32 >>> ((8 : Int32) &&& 31).toUInt32).toInt32).toUInt32 >>> ((1 : Int32) &&& 31).toUInt32).toInt32)), (.int (7 : Int32))])) _
    refine XS.isub X0.here hx rfl (hb hby d6_77) rfl ?_
    show Steps p.tables e below (s₁.setTop (mkF m 78 #[.val (.int ((((p1.toUInt32 >>> ((16 : Int32) &&& 31).toUInt32).toInt32).toUInt32 >>> ((8 : Int32) &&& 31).toUInt32).toInt32)), .val (.int (7 : Int32))] [(.int ((7 : Int32) - ((((((p1.toUInt32 >>> ((16 : Int32) &&& 31).toUInt32).toInt32).toUInt32 >>> ((8 : Int32) &&& 31).toUInt32).toInt32).toUInt32 >>> ((1 : Int32) &&& 31).toUInt32).toInt32)))])) _
    exact retI X0 hx Bd.returns (hb hby d6_78) hr
  · show Q6 p1 h0 n0 _ s₁.heap _
    rw [e0]
    exact ⟨_, rfl, N0, rfl, own_n_tfftt p1 hc1 hc22 hc37 hc51 hc63⟩
theorem own_n_tfftf (p1 : Int32) (hc1 : (0 : Int32) < p1) (hc22 : ¬ (p1 < (65536 : Int32))) (hc37 : ¬ (((p1.toUInt32 >>> ((16 : Int32) &&& 31).toUInt32).toInt32) < (256 : Int32))) (hc51 : ((((p1.toUInt32 >>> ((16 : Int32) &&& 31).toUInt32).toInt32).toUInt32 >>> ((8 : Int32) &&& 31).toUInt32).toInt32) < (16 : Int32)) (hc63 : ¬ (((((p1.toUInt32 >>> ((16 : Int32) &&& 31).toUInt32).toInt32).toUInt32 >>> ((8 : Int32) &&& 31).toUInt32).toInt32) < (4 : Int32))) : own_P p1 ((5 : Int32) - ((((((((p1.toUInt32 >>> ((16 : Int32) &&& 31).toUInt32).toInt32).toUInt32 >>> ((8 : Int32) &&& 31).toUInt32).toInt32).toUInt32 >>> ((2 : Int32) &&& 31).toUInt32).toInt32).toUInt32 >>> ((1 : Int32) &&& 31).toUInt32).toInt32)) := by
  have e0 : (0 : Int32).toInt = 0 := rfl
  have z0 : 0 ≤ p1.toInt := by rw [Int32.lt_iff_toInt_lt] at hc1; omega
  have rv := rng32 p1
  have c16 : (65536 : Int32).toInt = 65536 := rfl
  have c8 : (256 : Int32).toInt = 256 := rfl
  have c4 : (16 : Int32).toInt = 16 := rfl
  have c2 : (4 : Int32).toInt = 4 := rfl
  rw [Int32.lt_iff_toInt_lt] at hc22
  have s16 := own_shr p1 16 16 (by decide) (by decide) z0
  have y16 : 0 ≤ (((p1.toUInt32 >>> ((16 : Int32) &&& 31).toUInt32).toInt32)).toInt := by omega
  rw [Int32.lt_iff_toInt_lt] at hc37
  have s8 := own_shr ((p1.toUInt32 >>> ((16 : Int32) &&& 31).toUInt32).toInt32) 8 8 (by decide) (by decide) y16
  have y8 : 0 ≤ (((((p1.toUInt32 >>> ((16 : Int32) &&& 31).toUInt32).toInt32).toUInt32 >>> ((8 : Int32) &&& 31).toUInt32).toInt32)).toInt := by omega
  rw [Int32.lt_iff_toInt_lt] at hc51
  rw [Int32.lt_iff_toInt_lt] at hc63
  have s2 := own_shr ((((p1.toUInt32 >>> ((16 : Int32) &&& 31).toUInt32).toInt32).toUInt32 >>> ((8 : Int32) &&& 31).toUInt32).toInt32) 2 2 (by decide) (by decide) y8
  have y2 : 0 ≤ (((((((p1.toUInt32 >>> ((16 : Int32) &&& 31).toUInt32).toInt32).toUInt32 >>> ((8 : Int32) &&& 31).toUInt32).toInt32).toUInt32 >>> ((2 : Int32) &&& 31).toUInt32).toInt32)).toInt := by omega
  have s1 := own_shr ((((((p1.toUInt32 >>> ((16 : Int32) &&& 31).toUInt32).toInt32).toUInt32 >>> ((8 : Int32) &&& 31).toUInt32).toInt32).toUInt32 >>> ((2 : Int32) &&& 31).toUInt32).toInt32) 1 1 (by decide) (by decide) y2
  have d := c_isub (5 : Int32) ((((((((p1.toUInt32 >>> ((16 : Int32) &&& 31).toUInt32).toInt32).toUInt32 >>> ((8 : Int32) &&& 31).toUInt32).toInt32).toUInt32 >>> ((2 : Int32) &&& 31).toUInt32).toInt32).toUInt32 >>> ((1 : Int32) &&& 31).toUInt32).toInt32)
  have rd := rng32 ((5 : Int32) - ((((((((p1.toUInt32 >>> ((16 : Int32) &&& 31).toUInt32).toInt32).toUInt32 >>> ((8 : Int32) &&& 31).toUInt32).toInt32).toUInt32 >>> ((2 : Int32) &&& 31).toUInt32).toInt32).toUInt32 >>> ((1 : Int32) &&& 31).toUInt32).toInt32))
  have en : (5 : Int32).toInt = 5 := rfl
  unfold own_P
  refine ⟨fun q => ?_, fun q q' => ?_, fun q q' => ?_, fun q => ?_⟩ <;> omega
set_option maxRecDepth 65536 in
set_option maxHeartbeats 40000000 in
theorem rm6_tfftf (l : Launch) (Z : State) (a0 : Array Value) (hw : ∀ d ∈ tables_1, d.before a0 Z = true) (ws : List Jvm.Cond) (p1 : Int32) (h0 : Heap) (n0 : Nat) (Z0 : n0 ≤ h0.size) (hc1 : (0 : Int32) < p1) (hc22 : ¬ (p1 < (65536 : Int32))) (hc37 : ¬ (((p1.toUInt32 >>> ((16 : Int32) &&& 31).toUInt32).toInt32) < (256 : Int32))) (hc51 : ((((p1.toUInt32 >>> ((16 : Int32) &&& 31).toUInt32).toInt32).toUInt32 >>> ((8 : Int32) &&& 31).toUInt32).toInt32) < (16 : Int32)) (hc63 : ¬ (((((p1.toUInt32 >>> ((16 : Int32) &&& 31).toUInt32).toInt32).toUInt32 >>> ((8 : Int32) &&& 31).toUInt32).toInt32) < (4 : Int32))) :
    MetFree l (⟨"java/lang/Integer", "numberOfLeadingZeros", "(I)I"⟩ : MethodName) (head1 (Jvm.Cond.code (⟨"java/lang/Integer", "numberOfLeadingZeros", "(I)I"⟩ : MethodName) jdk_33_method_47_code 2 (some .int) :: ws) ({ frames := 0, cells := 0, slots := 0, locals := 0 } : Room)) (fun a U => a = #[(.int p1)] ∧ Z.Warmed39 U.vm ∧ U.heap = h0) (fun _ _ _ _ _ => True) (fun _ U o U' => ∃ v L, o = .returned v ∧ Q6 p1 h0 n0 v U'.heap L ∧ FrameEnd U o U' L ({ frames := 0, cells := 0, slots := 0, locals := 0 } : Room).cells ({ frames := 0, cells := 0, slots := 0, locals := 0 } : Room).slots) := by
  refine MetFree.of_bodySF (plainFor_of_name pn_6) hisR ?_
  intro p e s m args below meth c s₁ Bd hml0 hP hK
  obtain ⟨rfl, hZ, hh⟩ := hP
  have hx := Bd.exec
  have hby := Bd.bytes
  have hml : c.maxLocals = 2 := hml0
  have hown : s.vm.findClass "java/lang/Integer" = some m.cls := findClass_of_methodNamed Bd.named
  have hnm := (name_of_methodNamed Bd.named Bd.method).1
  have X0 : Stand p l e ({ frames := 0, cells := 0, slots := 0, locals := 0 } : Room) s m #[(.int p1)] below meth c s₁ [] 0 0 := Stand.of_body Bd
  have e0 : s₁.heap = h0 := by rw [← hh, Bd.state]; rfl
  have N0 := Fr.nil n0
  have pre0 : ∀ t, Steps p.tables e below (s₁.setTop (mkF m 0 #[.val (.int p1), .unset] [])) t → Steps p.tables e below (s₁.setTop (entryFrame m #[(.int p1)] 2)) t := fun t k => castTop (ef_6 m p1) k

  obtain ⟨fs, hr, hrun, hended, hW, hsame⟩ := X0.leave (v := some (.int ((5 : Int32) - ((((((((p1.toUInt32 >>> ((16 : Int32) &&& 31).toUInt32).toInt32).toUInt32 >>> ((8 : Int32) &&& 31).toUInt32).toInt32).toUInt32 >>> ((2 : Int32) &&& 31).toUInt32).toInt32).toUInt32 >>> ((1 : Int32) &&& 31).toUInt32).toInt32)))) (fun h => by rw [Bd.returns] at h; cases h)
  refine ⟨_, _, pre0 _ ?_, hrun, hended, _, _, rfl, ?_, ⟨_, rfl⟩, hW, hsame.mono (by decide) (by decide)⟩
  · show Steps p.tables e below (s₁.setTop (mkF m 0 #[.val (.int p1), .unset] [])) _
    refine XS.iloadN X0.here hx rfl (hb hby d6_0) rfl ?_
    show Steps p.tables e below (s₁.setTop (mkF m 1 #[.val (.int p1), .unset] [(.int p1)])) _
    refine XS.ifYes X0.here hx rfl (pc0 := 1) (pc' := 15) rfl (hb hby d6_1) rfl ((if0 _ _).trans (tlt hc1).2.2.1) (by decide) (by decide) ?_
    show Steps p.tables e below (s₁.setTop (mkF m 15 #[.val (.int p1), .unset] [])) _
    refine XS.bipush X0.here hx rfl (hb hby d6_15) ?_
    show Steps p.tables e below (s₁.setTop (mkF m 17 #[.val (.int p1), .unset] [(.int (31 : Int32))])) _
    refine XS.istoreN X0.here hx rfl (hb hby d6_17) rfl (l' := #[.val (.int p1), .val (.int (31 : Int32))]) rfl ?_
    show Steps p.tables e below (s₁.setTop (mkF m 18 #[.val (.int p1), .val (.int (31 : Int32))] [])) _
    refine XS.iloadN X0.here hx rfl (hb hby d6_18) rfl ?_
    show Steps p.tables e below (s₁.setTop (mkF m 19 #[.val (.int p1), .val (.int (31 : Int32))] [(.int p1)])) _
    refine X0.ldcwInt hx hown (mvT hZ (hw _ (List.mem_of_getElem? (i := 65) rfl))) (g := (mkF m 19 #[.val (.int p1), .val (.int (31 : Int32))] [(.int p1)])) rfl (hb hby d6_19) _ ?_
    show Steps p.tables e below (s₁.setTop (mkF m 22 #[.val (.int p1), .val (.int (31 : Int32))] [(.int (65536 : Int32)), (.int p1)])) _
    refine XS.icmpNo X0.here hx rfl (hb hby d6_22) rfl (flt hc22).1 ?_
    show Steps p.tables e below (s₁.setTop (mkF m 25 #[.val (.int p1), .val (.int (31 : Int32))] [])) _
    refine XS.iinc X0.here hx rfl (hb hby d6_25) rfl (l' := #[.val (.int p1), .val (.int (15 : Int32))]) rfl ?_
    show Steps p.tables e below (s₁.setTop (mkF m 28 #[.val (.int p1), .val (.int (15 : Int32))] [])) _
    refine XS.iloadN X0.here hx rfl (hb hby d6_28) rfl ?_
    show Steps p.tables e below (s₁.setTop (mkF m 29 #[.val (.int p1), .val (.int (15 : Int32))] [(.int p1)])) _
    refine XS.bipush X0.here hx rfl (hb hby d6_29) ?_
    show Steps p.tables e below (s₁.setTop (mkF m 31 #[.val (.int p1), .val (.int (15 : Int32))] [(.int (16 : Int32)), (.int p1)])) _
    refine XS.iushr X0.here hx rfl (hb hby d6_31) rfl ?_
    show Steps p.tables e below (s₁.setTop (mkF m 32 #[.val (.int p1), .val (.int (15 : Int32))] [(.int ((p1.toUInt32 >>> ((16 : Int32) &&& 31).toUInt32).toInt32))])) _
    refine XS.istoreN X0.here hx rfl (hb hby d6_32) rfl (l' := #[.val (.int ((p1.toUInt32 >>> ((16 : Int32) &&& 31).toUInt32).toInt32)), .val (.int (15 : Int32))]) rfl ?_
    show Steps p.tables e below (s₁.setTop (mkF m 33 #[.val (.int ((p1.toUInt32 >>> ((16 : Int32) &&& 31).toUInt32).toInt32)), .val (.int (15 : Int32))] [])) _
    refine XS.iloadN X0.here hx rfl (hb hby d6_33) rfl ?_
    show Steps p.tables e below (s₁.setTop (mkF m 34 #[.val (.int ((p1.toUInt32 >>> ((16 : Int32) &&& 31).toUInt32).toInt32)), .val (.int (15 : Int32))] [(.int ((p1.toUInt32 >>> ((16 : Int32) &&& 31).toUInt32).toInt32))])) _
    refine XS.sipush X0.here hx rfl (hb hby d6_34) ?_
    show Steps p.tables e below (s₁.setTop (mkF m 37 #[.val (.int ((p1.toUInt32 >>> ((16 : Int32) &&& 31).toUInt32).toInt32)), .val (.int (15 : Int32))] [(.int (256 : Int32)), (.int ((p1.toUInt32 >>> ((16 : Int32) &&& 31).toUInt32).toInt32))])) _
    refine XS.icmpNo X0.here hx rfl (hb hby d6_37) rfl (flt hc37).1 ?_
    show Steps p.tables e below (s₁.setTop (mkF m 40 #[.val (.int ((p1.toUInt32 >>> ((16 : Int32) &&& 31).toUInt32).toInt32)), .val (.int (15 : Int32))] [])) _
    refine XS.iinc X0.here hx rfl (hb hby d6_40) rfl (l' := #[.val (.int ((p1.toUInt32 >>> ((16 : Int32) &&& 31).toUInt32).toInt32)), .val (.int (7 : Int32))]) rfl ?_
    show Steps p.tables e below (s₁.setTop (mkF m 43 #[.val (.int ((p1.toUInt32 >>> ((16 : Int32) &&& 31).toUInt32).toInt32)), .val (.int (7 : Int32))] [])) _
    refine XS.iloadN X0.here hx rfl (hb hby d6_43) rfl ?_
    show Steps p.tables e below (s₁.setTop (mkF m 44 #[.val (.int ((p1.toUInt32 >>> ((16 : Int32) &&& 31).toUInt32).toInt32)), .val (.int (7 : Int32))] [(.int ((p1.toUInt32 >>> ((16 : Int32) &&& 31).toUInt32).toInt32))])) _
    refine XS.bipush X0.here hx rfl (hb hby d6_44) ?_
    show Steps p.tables e below (s₁.setTop (mkF m 46 #[.val (.int ((p1.toUInt32 >>> ((16 : Int32) &&& 31).toUInt32).toInt32)), .val (.int (7 : Int32))] [(.int (8 : Int32)), (.int ((p1.toUInt32 >>> ((16 : Int32) &&& 31).toUInt32).toInt32))])) _
    refine XS.iushr X0.here hx rfl (hb hby d6_46) rfl ?_
    show Steps p.tables e below (s₁.setTop (mkF m 47 #[.val (.int ((p1.toUInt32 >>> ((16 : Int32) &&& 31).toUInt32).toInt32)), .val (.int (7 : Int32))] [(.int ((((p1.toUInt32 >>> ((16 : Int32) &&& 31).toUInt32).toInt32).toUInt32 >>> ((8 : Int32) &&& 31).toUInt32).toInt32))])) _
    refine XS.istoreN X0.here hx rfl (hb hby d6_47) rfl (l' := #[.val (.int ((((p1.toUInt32 >>> ((16 : Int32) &&& 31).toUInt32).toInt32).toUInt32 >>> ((8 : Int32) &&& 31).toUInt32).toInt32)), .val (.int (7 : Int32))]) rfl ?_
    show Steps p.tables e below (s₁.setTop (mkF m 48 #[.val (.int ((((p1.toUInt32 >>> ((16 : Int32) &&& 31).toUInt32).toInt32).toUInt32 >>> ((8 : Int32) &&& 31).toUInt32).toInt32)), .val (.int (7 : Int32))] [])) _
    refine XS.iloadN X0.here hx rfl (hb hby d6_48) rfl ?_
    show Steps p.tables e below (s₁.setTop (mkF m 49 #[.val (.int ((((p1.toUInt32 >>> ((16 : Int32) &&& 31).toUInt32).toInt32).toUInt32 >>> ((8 : Int32) &&& 31).toUInt32).toInt32)), .val (.int (7 : Int32))] [(.int ((((p1.toUInt32 >>> ((16 : Int32) &&& 31).toUInt32).toInt32).toUInt32 >>> ((8 : Int32) &&& 31).toUInt32).toInt32))])) _
    refine XS.bipush X0.here hx rfl (hb hby d6_49) ?_
    show Steps p.tables e below (s₁.setTop (mkF m 51 #[.val (.int ((((p1.toUInt32 >>> ((16 : Int32) &&& 31).toUInt32).toInt32).toUInt32 >>> ((8 : Int32) &&& 31).toUInt32).toInt32)), .val (.int (7 : Int32))] [(.int (16 : Int32)), (.int ((((p1.toUInt32 >>> ((16 : Int32) &&& 31).toUInt32).toInt32).toUInt32 >>> ((8 : Int32) &&& 31).toUInt32).toInt32))])) _
    refine XS.icmpYes X0.here hx rfl (pc0 := 51) (pc' := 61) rfl (hb hby d6_51) rfl (tlt hc51).1 (by decide) (by decide) ?_
    show Steps p.tables e below (s₁.setTop (mkF m 61 #[.val (.int ((((p1.toUInt32 >>> ((16 : Int32) &&& 31).toUInt32).toInt32).toUInt32 >>> ((8 : Int32) &&& 31).toUInt32).toInt32)), .val (.int (7 : Int32))] [])) _
    refine XS.iloadN X0.here hx rfl (hb hby d6_61) rfl ?_
    show Steps p.tables e below (s₁.setTop (mkF m 62 #[.val (.int ((((p1.toUInt32 >>> ((16 : Int32) &&& 31).toUInt32).toInt32).toUInt32 >>> ((8 : Int32) &&& 31).toUInt32).toInt32)), .val (.int (7 : Int32))] [(.int ((((p1.toUInt32 >>> ((16 : Int32) &&& 31).toUInt32).toInt32).toUInt32 >>> ((8 : Int32) &&& 31).toUInt32).toInt32))])) _
    refine XS.iconst X0.here hx rfl (hb hby d6_62) ?_
    show Steps p.tables e below (s₁.setTop (mkF m 63 #[.val (.int ((((p1.toUInt32 >>> ((16 : Int32) &&& 31).toUInt32).toInt32).toUInt32 >>> ((8 : Int32) &&& 31).toUInt32).toInt32)), .val (.int (7 : Int32))] [(.int (4 : Int32)), (.int ((((p1.toUInt32 >>> ((16 : Int32) &&& 31).toUInt32).toInt32).toUInt32 >>> ((8 : Int32) &&& 31).toUInt32).toInt32))])) _
    refine XS.icmpNo X0.here hx rfl (hb hby d6_63) rfl (flt hc63).1 ?_
    show Steps p.tables e below (s₁.setTop (mkF m 66 #[.val (.int ((((p1.toUInt32 >>> ((16 : Int32) &&& 31).toUInt32).toInt32).toUInt32 >>> ((8 : Int32) &&& 31).toUInt32).toInt32)), .val (.int (7 : Int32))] [])) _
    refine XS.iinc X0.here hx rfl (hb hby d6_66) rfl (l' := #[.val (.int ((((p1.toUInt32 >>> ((16 : Int32) &&& 31).toUInt32).toInt32).toUInt32 >>> ((8 : Int32) &&& 31).toUInt32).toInt32)), .val (.int (5 : Int32))]) rfl ?_
    show Steps p.tables e below (s₁.setTop (mkF m 69 #[.val (.int ((((p1.toUInt32 >>> ((16 : Int32) &&& 31).toUInt32).toInt32).toUInt32 >>> ((8 : Int32) &&& 31).toUInt32).toInt32)), .val (.int (5 : Int32))] [])) _
    refine XS.iloadN X0.here hx rfl (hb hby d6_69) rfl ?_
    show Steps p.tables e below (s₁.setTop (mkF m 70 #[.val (.int ((((p1.toUInt32 >>> ((16 : Int32) &&& 31).toUInt32).toInt32).toUInt32 >>> ((8 : Int32) &&& 31).toUInt32).toInt32)), .val (.int (5 : Int32))] [(.int ((((p1.toUInt32 >>> ((16 : Int32) &&& 31).toUInt32).toInt32).toUInt32 >>> ((8 : Int32) &&& 31).toUInt32).toInt32))])) _
    refine XS.iconst X0.here hx rfl (hb hby d6_70) ?_
    show Steps p.tables e below (s₁.setTop (mkF m 71 #[.val (.int ((((p1.toUInt32 >>> ((16 : Int32) &&& 31).toUInt32).toInt32).toUInt32 >>> ((8 : Int32) &&& 31).toUInt32).toInt32)), .val (.int (5 : Int32))] [(.int (2 : Int32)), (.int ((((p1.toUInt32 >>> ((16 : Int32) &&& 31).toUInt32).toInt32).toUInt32 >>> ((8 : Int32) &&& 31).toUInt32).toInt32))])) _
    refine XS.iushr X0.here hx rfl (hb hby d6_71) rfl ?_
    show Steps p.tables e below (s₁.setTop (mkF m 72 #[.val (.int ((((p1.toUInt32 >>> ((16 : Int32) &&& 31).toUInt32).toInt32).toUInt32 >>> ((8 : Int32) &&& 31).toUInt32).toInt32)), .val (.int (5 : Int32))] [(.int ((((((p1.toUInt32 >>> ((16 : Int32) &&& 31).toUInt32).toInt32).toUInt32 >>> ((8 : Int32) &&& 31).toUInt32).toInt32).toUInt32 >>> ((2 : Int32) &&& 31).toUInt32).toInt32))])) _
    refine XS.istoreN X0.here hx rfl (hb hby d6_72) rfl (l' := #[.val (.int ((((((p1.toUInt32 >>> ((16 : Int32) &&& 31).toUInt32).toInt32).toUInt32 >>> ((8 : Int32) &&& 31).toUInt32).toInt32).toUInt32 >>> ((2 : Int32) &&& 31).toUInt32).toInt32)), .val (.int (5 : Int32))]) rfl ?_
    show Steps p.tables e below (s₁.setTop (mkF m 73 #[.val (.int ((((((p1.toUInt32 >>> ((16 : Int32) &&& 31).toUInt32).toInt32).toUInt32 >>> ((8 : Int32) &&& 31).toUInt32).toInt32).toUInt32 >>> ((2 : Int32) &&& 31).toUInt32).toInt32)), .val (.int (5 : Int32))] [])) _
    refine XS.iloadN X0.here hx rfl (hb hby d6_73) rfl ?_
    show Steps p.tables e below (s₁.setTop (mkF m 74 #[.val (.int ((((((p1.toUInt32 >>> ((16 : Int32) &&& 31).toUInt32).toInt32).toUInt32 >>> ((8 : Int32) &&& 31).toUInt32).toInt32).toUInt32 >>> ((2 : Int32) &&& 31).toUInt32).toInt32)), .val (.int (5 : Int32))] [(.int (5 : Int32))])) _
    refine XS.iloadN X0.here hx rfl (hb hby d6_74) rfl ?_
    show Steps p.tables e below (s₁.setTop (mkF m 75 #[.val (.int ((((((p1.toUInt32 >>> ((16 : Int32) &&& 31).toUInt32).toInt32).toUInt32 >>> ((8 : Int32) &&& 31).toUInt32).toInt32).toUInt32 >>> ((2 : Int32) &&& 31).toUInt32).toInt32)), .val (.int (5 : Int32))] [(.int ((((((p1.toUInt32 >>> ((16 : Int32) &&& 31).toUInt32).toInt32).toUInt32 >>> ((8 : Int32) &&& 31).toUInt32).toInt32).toUInt32 >>> ((2 : Int32) &&& 31).toUInt32).toInt32)), (.int (5 : Int32))])) _
    refine XS.iconst X0.here hx rfl (hb hby d6_75) ?_
    show Steps p.tables e below (s₁.setTop (mkF m 76 #[.val (.int ((((((p1.toUInt32 >>> ((16 : Int32) &&& 31).toUInt32).toInt32).toUInt32 >>> ((8 : Int32) &&& 31).toUInt32).toInt32).toUInt32 >>> ((2 : Int32) &&& 31).toUInt32).toInt32)), .val (.int (5 : Int32))] [(.int (1 : Int32)), (.int ((((((p1.toUInt32 >>> ((16 : Int32) &&& 31).toUInt32).toInt32).toUInt32 >>> ((8 : Int32) &&& 31).toUInt32).toInt32).toUInt32 >>> ((2 : Int32) &&& 31).toUInt32).toInt32)), (.int (5 : Int32))])) _
    refine XS.iushr X0.here hx rfl (hb hby d6_76) rfl ?_
    show Steps p.tables e below (s₁.setTop (mkF m 77 #[.val (.int ((((((p1.toUInt32 >>> ((16 : Int32) &&& 31).toUInt32).toInt32).toUInt32 >>> ((8 : Int32) &&& 31).toUInt32).toInt32).toUInt32 >>> ((2 : Int32) &&& 31).toUInt32).toInt32)), .val (.int (5 : Int32))] [(.int ((((((((p1.toUInt32 >>> ((16 : Int32) &&& 31).toUInt32).toInt32).toUInt32 >>> ((8 : Int32) &&& 31).toUInt32).toInt32).toUInt32 >>> ((2 : Int32) &&& 31).toUInt32).toInt32).toUInt32 >>> ((1 : Int32) &&& 31).toUInt32).toInt32)), (.int (5 : Int32))])) _
    refine XS.isub X0.here hx rfl (hb hby d6_77) rfl ?_
    show Steps p.tables e below (s₁.setTop (mkF m 78 #[.val (.int ((((((p1.toUInt32 >>> ((16 : Int32) &&& 31).toUInt32).toInt32).toUInt32 >>> ((8 : Int32) &&& 31).toUInt32).toInt32).toUInt32 >>> ((2 : Int32) &&& 31).toUInt32).toInt32)), .val (.int (5 : Int32))] [(.int ((5 : Int32) - ((((((((p1.toUInt32 >>> ((16 : Int32) &&& 31).toUInt32).toInt32).toUInt32 >>> ((8 : Int32) &&& 31).toUInt32).toInt32).toUInt32 >>> ((2 : Int32) &&& 31).toUInt32).toInt32).toUInt32 >>> ((1 : Int32) &&& 31).toUInt32).toInt32)))])) _
    exact retI X0 hx Bd.returns (hb hby d6_78) hr
  · show Q6 p1 h0 n0 _ s₁.heap _
    rw [e0]
    exact ⟨_, rfl, N0, rfl, own_n_tfftf p1 hc1 hc22 hc37 hc51 hc63⟩
theorem own_n_tffft (p1 : Int32) (hc1 : (0 : Int32) < p1) (hc22 : ¬ (p1 < (65536 : Int32))) (hc37 : ¬ (((p1.toUInt32 >>> ((16 : Int32) &&& 31).toUInt32).toInt32) < (256 : Int32))) (hc51 : ¬ (((((p1.toUInt32 >>> ((16 : Int32) &&& 31).toUInt32).toInt32).toUInt32 >>> ((8 : Int32) &&& 31).toUInt32).toInt32) < (16 : Int32))) (hc63 : ((((((p1.toUInt32 >>> ((16 : Int32) &&& 31).toUInt32).toInt32).toUInt32 >>> ((8 : Int32) &&& 31).toUInt32).toInt32).toUInt32 >>> ((4 : Int32) &&& 31).toUInt32).toInt32) < (4 : Int32)) : own_P p1 ((3 : Int32) - ((((((((p1.toUInt32 >>> ((16 : Int32) &&& 31).toUInt32).toInt32).toUInt32 >>> ((8 : Int32) &&& 31).toUInt32).toInt32).toUInt32 >>> ((4 : Int32) &&& 31).toUInt32).toInt32).toUInt32 >>> ((1 : Int32) &&& 31).toUInt32).toInt32)) := by
  have e0 : (0 : Int32).toInt = 0 := rfl
  have z0 : 0 ≤ p1.toInt := by rw [Int32.lt_iff_toInt_lt] at hc1; omega
  have rv := rng32 p1
  have c16 : (65536 : Int32).toInt = 65536 := rfl
  have c8 : (256 : Int32).toInt = 256 := rfl
  have c4 : (16 : Int32).toInt = 16 := rfl
  have c2 : (4 : Int32).toInt = 4 := rfl
  rw [Int32.lt_iff_toInt_lt] at hc22
  have s16 := own_shr p1 16 16 (by decide) (by decide) z0
  have y16 : 0 ≤ (((p1.toUInt32 >>> ((16 : Int32) &&& 31).toUInt32).toInt32)).toInt := by omega
  rw [Int32.lt_iff_toInt_lt] at hc37
  have s8 := own_shr ((p1.toUInt32 >>> ((16 : Int32) &&& 31).toUInt32).toInt32) 8 8 (by decide) (by decide) y16
  have y8 : 0 ≤ (((((p1.toUInt32 >>> ((16 : Int32) &&& 31).toUInt32).toInt32).toUInt32 >>> ((8 : Int32) &&& 31).toUInt32).toInt32)).toInt := by omega
  rw [Int32.lt_iff_toInt_lt] at hc51
  have s4 := own_shr ((((p1.toUInt32 >>> ((16 : Int32) &&& 31).toUInt32).toInt32).toUInt32 >>> ((8 : Int32) &&& 31).toUInt32).toInt32) 4 4 (by decide) (by decide) y8
  have y4 : 0 ≤ (((((((p1.toUInt32 >>> ((16 : Int32) &&& 31).toUInt32).toInt32).toUInt32 >>> ((8 : Int32) &&& 31).toUInt32).toInt32).toUInt32 >>> ((4 : Int32) &&& 31).toUInt32).toInt32)).toInt := by omega
  rw [Int32.lt_iff_toInt_lt] at hc63
  have s1 := own_shr ((((((p1.toUInt32 >>> ((16 : Int32) &&& 31).toUInt32).toInt32).toUInt32 >>> ((8 : Int32) &&& 31).toUInt32).toInt32).toUInt32 >>> ((4 : Int32) &&& 31).toUInt32).toInt32) 1 1 (by decide) (by decide) y4
  have d := c_isub (3 : Int32) ((((((((p1.toUInt32 >>> ((16 : Int32) &&& 31).toUInt32).toInt32).toUInt32 >>> ((8 : Int32) &&& 31).toUInt32).toInt32).toUInt32 >>> ((4 : Int32) &&& 31).toUInt32).toInt32).toUInt32 >>> ((1 : Int32) &&& 31).toUInt32).toInt32)
  have rd := rng32 ((3 : Int32) - ((((((((p1.toUInt32 >>> ((16 : Int32) &&& 31).toUInt32).toInt32).toUInt32 >>> ((8 : Int32) &&& 31).toUInt32).toInt32).toUInt32 >>> ((4 : Int32) &&& 31).toUInt32).toInt32).toUInt32 >>> ((1 : Int32) &&& 31).toUInt32).toInt32))
  have en : (3 : Int32).toInt = 3 := rfl
  unfold own_P
  refine ⟨fun q => ?_, fun q q' => ?_, fun q q' => ?_, fun q => ?_⟩ <;> omega
set_option maxRecDepth 65536 in
set_option maxHeartbeats 40000000 in
theorem rm6_tffft (l : Launch) (Z : State) (a0 : Array Value) (hw : ∀ d ∈ tables_1, d.before a0 Z = true) (ws : List Jvm.Cond) (p1 : Int32) (h0 : Heap) (n0 : Nat) (Z0 : n0 ≤ h0.size) (hc1 : (0 : Int32) < p1) (hc22 : ¬ (p1 < (65536 : Int32))) (hc37 : ¬ (((p1.toUInt32 >>> ((16 : Int32) &&& 31).toUInt32).toInt32) < (256 : Int32))) (hc51 : ¬ (((((p1.toUInt32 >>> ((16 : Int32) &&& 31).toUInt32).toInt32).toUInt32 >>> ((8 : Int32) &&& 31).toUInt32).toInt32) < (16 : Int32))) (hc63 : ((((((p1.toUInt32 >>> ((16 : Int32) &&& 31).toUInt32).toInt32).toUInt32 >>> ((8 : Int32) &&& 31).toUInt32).toInt32).toUInt32 >>> ((4 : Int32) &&& 31).toUInt32).toInt32) < (4 : Int32)) :
    MetFree l (⟨"java/lang/Integer", "numberOfLeadingZeros", "(I)I"⟩ : MethodName) (head1 (Jvm.Cond.code (⟨"java/lang/Integer", "numberOfLeadingZeros", "(I)I"⟩ : MethodName) jdk_33_method_47_code 2 (some .int) :: ws) ({ frames := 0, cells := 0, slots := 0, locals := 0 } : Room)) (fun a U => a = #[(.int p1)] ∧ Z.Warmed39 U.vm ∧ U.heap = h0) (fun _ _ _ _ _ => True) (fun _ U o U' => ∃ v L, o = .returned v ∧ Q6 p1 h0 n0 v U'.heap L ∧ FrameEnd U o U' L ({ frames := 0, cells := 0, slots := 0, locals := 0 } : Room).cells ({ frames := 0, cells := 0, slots := 0, locals := 0 } : Room).slots) := by
  refine MetFree.of_bodySF (plainFor_of_name pn_6) hisR ?_
  intro p e s m args below meth c s₁ Bd hml0 hP hK
  obtain ⟨rfl, hZ, hh⟩ := hP
  have hx := Bd.exec
  have hby := Bd.bytes
  have hml : c.maxLocals = 2 := hml0
  have hown : s.vm.findClass "java/lang/Integer" = some m.cls := findClass_of_methodNamed Bd.named
  have hnm := (name_of_methodNamed Bd.named Bd.method).1
  have X0 : Stand p l e ({ frames := 0, cells := 0, slots := 0, locals := 0 } : Room) s m #[(.int p1)] below meth c s₁ [] 0 0 := Stand.of_body Bd
  have e0 : s₁.heap = h0 := by rw [← hh, Bd.state]; rfl
  have N0 := Fr.nil n0
  have pre0 : ∀ t, Steps p.tables e below (s₁.setTop (mkF m 0 #[.val (.int p1), .unset] [])) t → Steps p.tables e below (s₁.setTop (entryFrame m #[(.int p1)] 2)) t := fun t k => castTop (ef_6 m p1) k

  obtain ⟨fs, hr, hrun, hended, hW, hsame⟩ := X0.leave (v := some (.int ((3 : Int32) - ((((((((p1.toUInt32 >>> ((16 : Int32) &&& 31).toUInt32).toInt32).toUInt32 >>> ((8 : Int32) &&& 31).toUInt32).toInt32).toUInt32 >>> ((4 : Int32) &&& 31).toUInt32).toInt32).toUInt32 >>> ((1 : Int32) &&& 31).toUInt32).toInt32)))) (fun h => by rw [Bd.returns] at h; cases h)
  refine ⟨_, _, pre0 _ ?_, hrun, hended, _, _, rfl, ?_, ⟨_, rfl⟩, hW, hsame.mono (by decide) (by decide)⟩
  · show Steps p.tables e below (s₁.setTop (mkF m 0 #[.val (.int p1), .unset] [])) _
    refine XS.iloadN X0.here hx rfl (hb hby d6_0) rfl ?_
    show Steps p.tables e below (s₁.setTop (mkF m 1 #[.val (.int p1), .unset] [(.int p1)])) _
    refine XS.ifYes X0.here hx rfl (pc0 := 1) (pc' := 15) rfl (hb hby d6_1) rfl ((if0 _ _).trans (tlt hc1).2.2.1) (by decide) (by decide) ?_
    show Steps p.tables e below (s₁.setTop (mkF m 15 #[.val (.int p1), .unset] [])) _
    refine XS.bipush X0.here hx rfl (hb hby d6_15) ?_
    show Steps p.tables e below (s₁.setTop (mkF m 17 #[.val (.int p1), .unset] [(.int (31 : Int32))])) _
    refine XS.istoreN X0.here hx rfl (hb hby d6_17) rfl (l' := #[.val (.int p1), .val (.int (31 : Int32))]) rfl ?_
    show Steps p.tables e below (s₁.setTop (mkF m 18 #[.val (.int p1), .val (.int (31 : Int32))] [])) _
    refine XS.iloadN X0.here hx rfl (hb hby d6_18) rfl ?_
    show Steps p.tables e below (s₁.setTop (mkF m 19 #[.val (.int p1), .val (.int (31 : Int32))] [(.int p1)])) _
    refine X0.ldcwInt hx hown (mvT hZ (hw _ (List.mem_of_getElem? (i := 65) rfl))) (g := (mkF m 19 #[.val (.int p1), .val (.int (31 : Int32))] [(.int p1)])) rfl (hb hby d6_19) _ ?_
    show Steps p.tables e below (s₁.setTop (mkF m 22 #[.val (.int p1), .val (.int (31 : Int32))] [(.int (65536 : Int32)), (.int p1)])) _
    refine XS.icmpNo X0.here hx rfl (hb hby d6_22) rfl (flt hc22).1 ?_
    show Steps p.tables e below (s₁.setTop (mkF m 25 #[.val (.int p1), .val (.int (31 : Int32))] [])) _
    refine XS.iinc X0.here hx rfl (hb hby d6_25) rfl (l' := #[.val (.int p1), .val (.int (15 : Int32))]) rfl ?_
    show Steps p.tables e below (s₁.setTop (mkF m 28 #[.val (.int p1), .val (.int (15 : Int32))] [])) _
    refine XS.iloadN X0.here hx rfl (hb hby d6_28) rfl ?_
    show Steps p.tables e below (s₁.setTop (mkF m 29 #[.val (.int p1), .val (.int (15 : Int32))] [(.int p1)])) _
    refine XS.bipush X0.here hx rfl (hb hby d6_29) ?_
    show Steps p.tables e below (s₁.setTop (mkF m 31 #[.val (.int p1), .val (.int (15 : Int32))] [(.int (16 : Int32)), (.int p1)])) _
    refine XS.iushr X0.here hx rfl (hb hby d6_31) rfl ?_
    show Steps p.tables e below (s₁.setTop (mkF m 32 #[.val (.int p1), .val (.int (15 : Int32))] [(.int ((p1.toUInt32 >>> ((16 : Int32) &&& 31).toUInt32).toInt32))])) _
    refine XS.istoreN X0.here hx rfl (hb hby d6_32) rfl (l' := #[.val (.int ((p1.toUInt32 >>> ((16 : Int32) &&& 31).toUInt32).toInt32)), .val (.int (15 : Int32))]) rfl ?_
    show Steps p.tables e below (s₁.setTop (mkF m 33 #[.val (.int ((p1.toUInt32 >>> ((16 : Int32) &&& 31).toUInt32).toInt32)), .val (.int (15 : Int32))] [])) _
    refine XS.iloadN X0.here hx rfl (hb hby d6_33) rfl ?_
    show Steps p.tables e below (s₁.setTop (mkF m 34 #[.val (.int ((p1.toUInt32 >>> ((16 : Int32) &&& 31).toUInt32).toInt32)), .val (.int (15 : Int32))] [(.int ((p1.toUInt32 >>> ((16 : Int32) &&& 31).toUInt32).toInt32))])) _
    refine XS.sipush X0.here hx rfl (hb hby d6_34) ?_
    show Steps p.tables e below (s₁.setTop (mkF m 37 #[.val (.int ((p1.toUInt32 >>> ((16 : Int32) &&& 31).toUInt32).toInt32)), .val (.int (15 : Int32))] [(.int (256 : Int32)), (.int ((p1.toUInt32 >>> ((16 : Int32) &&& 31).toUInt32).toInt32))])) _
    refine XS.icmpNo X0.here hx rfl (hb hby d6_37) rfl (flt hc37).1 ?_
    show Steps p.tables e below (s₁.setTop (mkF m 40 #[.val (.int ((p1.toUInt32 >>> ((16 : Int32) &&& 31).toUInt32).toInt32)), .val (.int (15 : Int32))] [])) _
    refine XS.iinc X0.here hx rfl (hb hby d6_40) rfl (l' := #[.val (.int ((p1.toUInt32 >>> ((16 : Int32) &&& 31).toUInt32).toInt32)), .val (.int (7 : Int32))]) rfl ?_
    show Steps p.tables e below (s₁.setTop (mkF m 43 #[.val (.int ((p1.toUInt32 >>> ((16 : Int32) &&& 31).toUInt32).toInt32)), .val (.int (7 : Int32))] [])) _
    refine XS.iloadN X0.here hx rfl (hb hby d6_43) rfl ?_
    show Steps p.tables e below (s₁.setTop (mkF m 44 #[.val (.int ((p1.toUInt32 >>> ((16 : Int32) &&& 31).toUInt32).toInt32)), .val (.int (7 : Int32))] [(.int ((p1.toUInt32 >>> ((16 : Int32) &&& 31).toUInt32).toInt32))])) _
    refine XS.bipush X0.here hx rfl (hb hby d6_44) ?_
    show Steps p.tables e below (s₁.setTop (mkF m 46 #[.val (.int ((p1.toUInt32 >>> ((16 : Int32) &&& 31).toUInt32).toInt32)), .val (.int (7 : Int32))] [(.int (8 : Int32)), (.int ((p1.toUInt32 >>> ((16 : Int32) &&& 31).toUInt32).toInt32))])) _
    refine XS.iushr X0.here hx rfl (hb hby d6_46) rfl ?_
    show Steps p.tables e below (s₁.setTop (mkF m 47 #[.val (.int ((p1.toUInt32 >>> ((16 : Int32) &&& 31).toUInt32).toInt32)), .val (.int (7 : Int32))] [(.int ((((p1.toUInt32 >>> ((16 : Int32) &&& 31).toUInt32).toInt32).toUInt32 >>> ((8 : Int32) &&& 31).toUInt32).toInt32))])) _
    refine XS.istoreN X0.here hx rfl (hb hby d6_47) rfl (l' := #[.val (.int ((((p1.toUInt32 >>> ((16 : Int32) &&& 31).toUInt32).toInt32).toUInt32 >>> ((8 : Int32) &&& 31).toUInt32).toInt32)), .val (.int (7 : Int32))]) rfl ?_
    show Steps p.tables e below (s₁.setTop (mkF m 48 #[.val (.int ((((p1.toUInt32 >>> ((16 : Int32) &&& 31).toUInt32).toInt32).toUInt32 >>> ((8 : Int32) &&& 31).toUInt32).toInt32)), .val (.int (7 : Int32))] [])) _
    refine XS.iloadN X0.here hx rfl (hb hby d6_48) rfl ?_
    show Steps p.tables e below (s₁.setTop (mkF m 49 #[.val (.int ((((p1.toUInt32 >>> ((16 : Int32) &&& 31).toUInt32).toInt32).toUInt32 >>> ((8 : Int32) &&& 31).toUInt32).toInt32)), .val (.int (7 : Int32))] [(.int ((((p1.toUInt32 >>> ((16 : Int32) &&& 31).toUInt32).toInt32).toUInt32 >>> ((8 : Int32) &&& 31).toUInt32).toInt32))])) _
    refine XS.bipush X0.here hx rfl (hb hby d6_49) ?_
    show Steps p.tables e below (s₁.setTop (mkF m 51 #[.val (.int ((((p1.toUInt32 >>> ((16 : Int32) &&& 31).toUInt32).toInt32).toUInt32 >>> ((8 : Int32) &&& 31).toUInt32).toInt32)), .val (.int (7 : Int32))] [(.int (16 : Int32)), (.int ((((p1.toUInt32 >>> ((16 : Int32) &&& 31).toUInt32).toInt32).toUInt32 >>> ((8 : Int32) &&& 31).toUInt32).toInt32))])) _
    refine XS.icmpNo X0.here hx rfl (hb hby d6_51) rfl (flt hc51).1 ?_
    show Steps p.tables e below (s₁.setTop (mkF m 54 #[.val (.int ((((p1.toUInt32 >>> ((16 : Int32) &&& 31).toUInt32).toInt32).toUInt32 >>> ((8 : Int32) &&& 31).toUInt32).toInt32)), .val (.int (7 : Int32))] [])) _
    refine XS.iinc X0.here hx rfl (hb hby d6_54) rfl (l' := #[.val (.int ((((p1.toUInt32 >>> ((16 : Int32) &&& 31).toUInt32).toInt32).toUInt32 >>> ((8 : Int32) &&& 31).toUInt32).toInt32)), .val (.int (3 : Int32))]) rfl ?_
    show Steps p.tables e below (s₁.setTop (mkF m 57 #[.val (.int ((((p1.toUInt32 >>> ((16 : Int32) &&& 31).toUInt32).toInt32).toUInt32 >>> ((8 : Int32) &&& 31).toUInt32).toInt32)), .val (.int (3 : Int32))] [])) _
    refine XS.iloadN X0.here hx rfl (hb hby d6_57) rfl ?_
    show Steps p.tables e below (s₁.setTop (mkF m 58 #[.val (.int ((((p1.toUInt32 >>> ((16 : Int32) &&& 31).toUInt32).toInt32).toUInt32 >>> ((8 : Int32) &&& 31).toUInt32).toInt32)), .val (.int (3 : Int32))] [(.int ((((p1.toUInt32 >>> ((16 : Int32) &&& 31).toUInt32).toInt32).toUInt32 >>> ((8 : Int32) &&& 31).toUInt32).toInt32))])) _
    refine XS.iconst X0.here hx rfl (hb hby d6_58) ?_
    show Steps p.tables e below (s₁.setTop (mkF m 59 #[.val (.int ((((p1.toUInt32 >>> ((16 : Int32) &&& 31).toUInt32).toInt32).toUInt32 >>> ((8 : Int32) &&& 31).toUInt32).toInt32)), .val (.int (3 : Int32))] [(.int (4 : Int32)), (.int ((((p1.toUInt32 >>> ((16 : Int32) &&& 31).toUInt32).toInt32).toUInt32 >>> ((8 : Int32) &&& 31).toUInt32).toInt32))])) _
    refine XS.iushr X0.here hx rfl (hb hby d6_59) rfl ?_
    show Steps p.tables e below (s₁.setTop (mkF m 60 #[.val (.int ((((p1.toUInt32 >>> ((16 : Int32) &&& 31).toUInt32).toInt32).toUInt32 >>> ((8 : Int32) &&& 31).toUInt32).toInt32)), .val (.int (3 : Int32))] [(.int ((((((p1.toUInt32 >>> ((16 : Int32) &&& 31).toUInt32).toInt32).toUInt32 >>> ((8 : Int32) &&& 31).toUInt32).toInt32).toUInt32 >>> ((4 : Int32) &&& 31).toUInt32).toInt32))])) _
    refine XS.istoreN X0.here hx rfl (hb hby d6_60) rfl (l' := #[.val (.int ((((((p1.toUInt32 >>> ((16 : Int32) &&& 31).toUInt32).toInt32).toUInt32 >>> ((8 : Int32) &&& 31).toUInt32).toInt32).toUInt32 >>> ((4 : Int32) &&& 31).toUInt32).toInt32)), .val (.int (3 : Int32))]) rfl ?_
    show Steps p.tables e below (s₁.setTop (mkF m 61 #[.val (.int ((((((p1.toUInt32 >>> ((16 : Int32) &&& 31).toUInt32).toInt32).toUInt32 >>> ((8 : Int32) &&& 31).toUInt32).toInt32).toUInt32 >>> ((4 : Int32) &&& 31).toUInt32).toInt32)), .val (.int (3 : Int32))] [])) _
    refine XS.iloadN X0.here hx rfl (hb hby d6_61) rfl ?_
    show Steps p.tables e below (s₁.setTop (mkF m 62 #[.val (.int ((((((p1.toUInt32 >>> ((16 : Int32) &&& 31).toUInt32).toInt32).toUInt32 >>> ((8 : Int32) &&& 31).toUInt32).toInt32).toUInt32 >>> ((4 : Int32) &&& 31).toUInt32).toInt32)), .val (.int (3 : Int32))] [(.int ((((((p1.toUInt32 >>> ((16 : Int32) &&& 31).toUInt32).toInt32).toUInt32 >>> ((8 : Int32) &&& 31).toUInt32).toInt32).toUInt32 >>> ((4 : Int32) &&& 31).toUInt32).toInt32))])) _
    refine XS.iconst X0.here hx rfl (hb hby d6_62) ?_
    show Steps p.tables e below (s₁.setTop (mkF m 63 #[.val (.int ((((((p1.toUInt32 >>> ((16 : Int32) &&& 31).toUInt32).toInt32).toUInt32 >>> ((8 : Int32) &&& 31).toUInt32).toInt32).toUInt32 >>> ((4 : Int32) &&& 31).toUInt32).toInt32)), .val (.int (3 : Int32))] [(.int (4 : Int32)), (.int ((((((p1.toUInt32 >>> ((16 : Int32) &&& 31).toUInt32).toInt32).toUInt32 >>> ((8 : Int32) &&& 31).toUInt32).toInt32).toUInt32 >>> ((4 : Int32) &&& 31).toUInt32).toInt32))])) _
    refine XS.icmpYes X0.here hx rfl (pc0 := 63) (pc' := 73) rfl (hb hby d6_63) rfl (tlt hc63).1 (by decide) (by decide) ?_
    show Steps p.tables e below (s₁.setTop (mkF m 73 #[.val (.int ((((((p1.toUInt32 >>> ((16 : Int32) &&& 31).toUInt32).toInt32).toUInt32 >>> ((8 : Int32) &&& 31).toUInt32).toInt32).toUInt32 >>> ((4 : Int32) &&& 31).toUInt32).toInt32)), .val (.int (3 : Int32))] [])) _
    refine XS.iloadN X0.here hx rfl (hb hby d6_73) rfl ?_
    show Steps p.tables e below (s₁.setTop (mkF m 74 #[.val (.int ((((((p1.toUInt32 >>> ((16 : Int32) &&& 31).toUInt32).toInt32).toUInt32 >>> ((8 : Int32) &&& 31).toUInt32).toInt32).toUInt32 >>> ((4 : Int32) &&& 31).toUInt32).toInt32)), .val (.int (3 : Int32))] [(.int (3 : Int32))])) _
    refine XS.iloadN X0.here hx rfl (hb hby d6_74) rfl ?_
    show Steps p.tables e below (s₁.setTop (mkF m 75 #[.val (.int ((((((p1.toUInt32 >>> ((16 : Int32) &&& 31).toUInt32).toInt32).toUInt32 >>> ((8 : Int32) &&& 31).toUInt32).toInt32).toUInt32 >>> ((4 : Int32) &&& 31).toUInt32).toInt32)), .val (.int (3 : Int32))] [(.int ((((((p1.toUInt32 >>> ((16 : Int32) &&& 31).toUInt32).toInt32).toUInt32 >>> ((8 : Int32) &&& 31).toUInt32).toInt32).toUInt32 >>> ((4 : Int32) &&& 31).toUInt32).toInt32)), (.int (3 : Int32))])) _
    refine XS.iconst X0.here hx rfl (hb hby d6_75) ?_
    show Steps p.tables e below (s₁.setTop (mkF m 76 #[.val (.int ((((((p1.toUInt32 >>> ((16 : Int32) &&& 31).toUInt32).toInt32).toUInt32 >>> ((8 : Int32) &&& 31).toUInt32).toInt32).toUInt32 >>> ((4 : Int32) &&& 31).toUInt32).toInt32)), .val (.int (3 : Int32))] [(.int (1 : Int32)), (.int ((((((p1.toUInt32 >>> ((16 : Int32) &&& 31).toUInt32).toInt32).toUInt32 >>> ((8 : Int32) &&& 31).toUInt32).toInt32).toUInt32 >>> ((4 : Int32) &&& 31).toUInt32).toInt32)), (.int (3 : Int32))])) _
    refine XS.iushr X0.here hx rfl (hb hby d6_76) rfl ?_
    show Steps p.tables e below (s₁.setTop (mkF m 77 #[.val (.int ((((((p1.toUInt32 >>> ((16 : Int32) &&& 31).toUInt32).toInt32).toUInt32 >>> ((8 : Int32) &&& 31).toUInt32).toInt32).toUInt32 >>> ((4 : Int32) &&& 31).toUInt32).toInt32)), .val (.int (3 : Int32))] [(.int ((((((((p1.toUInt32 >>> ((16 : Int32) &&& 31).toUInt32).toInt32).toUInt32 >>> ((8 : Int32) &&& 31).toUInt32).toInt32).toUInt32 >>> ((4 : Int32) &&& 31).toUInt32).toInt32).toUInt32 >>> ((1 : Int32) &&& 31).toUInt32).toInt32)), (.int (3 : Int32))])) _
    refine XS.isub X0.here hx rfl (hb hby d6_77) rfl ?_
    show Steps p.tables e below (s₁.setTop (mkF m 78 #[.val (.int ((((((p1.toUInt32 >>> ((16 : Int32) &&& 31).toUInt32).toInt32).toUInt32 >>> ((8 : Int32) &&& 31).toUInt32).toInt32).toUInt32 >>> ((4 : Int32) &&& 31).toUInt32).toInt32)), .val (.int (3 : Int32))] [(.int ((3 : Int32) - ((((((((p1.toUInt32 >>> ((16 : Int32) &&& 31).toUInt32).toInt32).toUInt32 >>> ((8 : Int32) &&& 31).toUInt32).toInt32).toUInt32 >>> ((4 : Int32) &&& 31).toUInt32).toInt32).toUInt32 >>> ((1 : Int32) &&& 31).toUInt32).toInt32)))])) _
    exact retI X0 hx Bd.returns (hb hby d6_78) hr
  · show Q6 p1 h0 n0 _ s₁.heap _
    rw [e0]
    exact ⟨_, rfl, N0, rfl, own_n_tffft p1 hc1 hc22 hc37 hc51 hc63⟩
theorem own_n_tffff (p1 : Int32) (hc1 : (0 : Int32) < p1) (hc22 : ¬ (p1 < (65536 : Int32))) (hc37 : ¬ (((p1.toUInt32 >>> ((16 : Int32) &&& 31).toUInt32).toInt32) < (256 : Int32))) (hc51 : ¬ (((((p1.toUInt32 >>> ((16 : Int32) &&& 31).toUInt32).toInt32).toUInt32 >>> ((8 : Int32) &&& 31).toUInt32).toInt32) < (16 : Int32))) (hc63 : ¬ (((((((p1.toUInt32 >>> ((16 : Int32) &&& 31).toUInt32).toInt32).toUInt32 >>> ((8 : Int32) &&& 31).toUInt32).toInt32).toUInt32 >>> ((4 : Int32) &&& 31).toUInt32).toInt32) < (4 : Int32))) : own_P p1 ((1 : Int32) - ((((((((((p1.toUInt32 >>> ((16 : Int32) &&& 31).toUInt32).toInt32).toUInt32 >>> ((8 : Int32) &&& 31).toUInt32).toInt32).toUInt32 >>> ((4 : Int32) &&& 31).toUInt32).toInt32).toUInt32 >>> ((2 : Int32) &&& 31).toUInt32).toInt32).toUInt32 >>> ((1 : Int32) &&& 31).toUInt32).toInt32)) := by
  have e0 : (0 : Int32).toInt = 0 := rfl
  have z0 : 0 ≤ p1.toInt := by rw [Int32.lt_iff_toInt_lt] at hc1; omega
  have rv := rng32 p1
  have c16 : (65536 : Int32).toInt = 65536 := rfl
  have c8 : (256 : Int32).toInt = 256 := rfl
  have c4 : (16 : Int32).toInt = 16 := rfl
  have c2 : (4 : Int32).toInt = 4 := rfl
  rw [Int32.lt_iff_toInt_lt] at hc22
  have s16 := own_shr p1 16 16 (by decide) (by decide) z0
  have y16 : 0 ≤ (((p1.toUInt32 >>> ((16 : Int32) &&& 31).toUInt32).toInt32)).toInt := by omega
  rw [Int32.lt_iff_toInt_lt] at hc37
  have s8 := own_shr ((p1.toUInt32 >>> ((16 : Int32) &&& 31).toUInt32).toInt32) 8 8 (by decide) (by decide) y16
  have y8 : 0 ≤ (((((p1.toUInt32 >>> ((16 : Int32) &&& 31).toUInt32).toInt32).toUInt32 >>> ((8 : Int32) &&& 31).toUInt32).toInt32)).toInt := by omega
  rw [Int32.lt_iff_toInt_lt] at hc51
  have s4 := own_shr ((((p1.toUInt32 >>> ((16 : Int32) &&& 31).toUInt32).toInt32).toUInt32 >>> ((8 : Int32) &&& 31).toUInt32).toInt32) 4 4 (by decide) (by decide) y8
  have y4 : 0 ≤ (((((((p1.toUInt32 >>> ((16 : Int32) &&& 31).toUInt32).toInt32).toUInt32 >>> ((8 : Int32) &&& 31).toUInt32).toInt32).toUInt32 >>> ((4 : Int32) &&& 31).toUInt32).toInt32)).toInt := by omega
  rw [Int32.lt_iff_toInt_lt] at hc63
  have s2 := own_shr ((((((p1.toUInt32 >>> ((16 : Int32) &&& 31).toUInt32).toInt32).toUInt32 >>> ((8 : Int32) &&& 31).toUInt32).toInt32).toUInt32 >>> ((4 : Int32) &&& 31).toUInt32).toInt32) 2 2 (by decide) (by decide) y4
  have y2 : 0 ≤ (((((((((p1.toUInt32 >>> ((16 : Int32) &&& 31).toUInt32).toInt32).toUInt32 >>> ((8 : Int32) &&& 31).toUInt32).toInt32).toUInt32 >>> ((4 : Int32) &&& 31).toUInt32).toInt32).toUInt32 >>> ((2 : Int32) &&& 31).toUInt32).toInt32)).toInt := by omega
  have s1 := own_shr ((((((((p1.toUInt32 >>> ((16 : Int32) &&& 31).toUInt32).toInt32).toUInt32 >>> ((8 : Int32) &&& 31).toUInt32).toInt32).toUInt32 >>> ((4 : Int32) &&& 31).toUInt32).toInt32).toUInt32 >>> ((2 : Int32) &&& 31).toUInt32).toInt32) 1 1 (by decide) (by decide) y2
  have d := c_isub (1 : Int32) ((((((((((p1.toUInt32 >>> ((16 : Int32) &&& 31).toUInt32).toInt32).toUInt32 >>> ((8 : Int32) &&& 31).toUInt32).toInt32).toUInt32 >>> ((4 : Int32) &&& 31).toUInt32).toInt32).toUInt32 >>> ((2 : Int32) &&& 31).toUInt32).toInt32).toUInt32 >>> ((1 : Int32) &&& 31).toUInt32).toInt32)
  have rd := rng32 ((1 : Int32) - ((((((((((p1.toUInt32 >>> ((16 : Int32) &&& 31).toUInt32).toInt32).toUInt32 >>> ((8 : Int32) &&& 31).toUInt32).toInt32).toUInt32 >>> ((4 : Int32) &&& 31).toUInt32).toInt32).toUInt32 >>> ((2 : Int32) &&& 31).toUInt32).toInt32).toUInt32 >>> ((1 : Int32) &&& 31).toUInt32).toInt32))
  have en : (1 : Int32).toInt = 1 := rfl
  unfold own_P
  refine ⟨fun q => ?_, fun q q' => ?_, fun q q' => ?_, fun q => ?_⟩ <;> omega
set_option maxRecDepth 65536 in
set_option maxHeartbeats 40000000 in
theorem rm6_tffff (l : Launch) (Z : State) (a0 : Array Value) (hw : ∀ d ∈ tables_1, d.before a0 Z = true) (ws : List Jvm.Cond) (p1 : Int32) (h0 : Heap) (n0 : Nat) (Z0 : n0 ≤ h0.size) (hc1 : (0 : Int32) < p1) (hc22 : ¬ (p1 < (65536 : Int32))) (hc37 : ¬ (((p1.toUInt32 >>> ((16 : Int32) &&& 31).toUInt32).toInt32) < (256 : Int32))) (hc51 : ¬ (((((p1.toUInt32 >>> ((16 : Int32) &&& 31).toUInt32).toInt32).toUInt32 >>> ((8 : Int32) &&& 31).toUInt32).toInt32) < (16 : Int32))) (hc63 : ¬ (((((((p1.toUInt32 >>> ((16 : Int32) &&& 31).toUInt32).toInt32).toUInt32 >>> ((8 : Int32) &&& 31).toUInt32).toInt32).toUInt32 >>> ((4 : Int32) &&& 31).toUInt32).toInt32) < (4 : Int32))) :
    MetFree l (⟨"java/lang/Integer", "numberOfLeadingZeros", "(I)I"⟩ : MethodName) (head1 (Jvm.Cond.code (⟨"java/lang/Integer", "numberOfLeadingZeros", "(I)I"⟩ : MethodName) jdk_33_method_47_code 2 (some .int) :: ws) ({ frames := 0, cells := 0, slots := 0, locals := 0 } : Room)) (fun a U => a = #[(.int p1)] ∧ Z.Warmed39 U.vm ∧ U.heap = h0) (fun _ _ _ _ _ => True) (fun _ U o U' => ∃ v L, o = .returned v ∧ Q6 p1 h0 n0 v U'.heap L ∧ FrameEnd U o U' L ({ frames := 0, cells := 0, slots := 0, locals := 0 } : Room).cells ({ frames := 0, cells := 0, slots := 0, locals := 0 } : Room).slots) := by
  refine MetFree.of_bodySF (plainFor_of_name pn_6) hisR ?_
  intro p e s m args below meth c s₁ Bd hml0 hP hK
  obtain ⟨rfl, hZ, hh⟩ := hP
  have hx := Bd.exec
  have hby := Bd.bytes
  have hml : c.maxLocals = 2 := hml0
  have hown : s.vm.findClass "java/lang/Integer" = some m.cls := findClass_of_methodNamed Bd.named
  have hnm := (name_of_methodNamed Bd.named Bd.method).1
  have X0 : Stand p l e ({ frames := 0, cells := 0, slots := 0, locals := 0 } : Room) s m #[(.int p1)] below meth c s₁ [] 0 0 := Stand.of_body Bd
  have e0 : s₁.heap = h0 := by rw [← hh, Bd.state]; rfl
  have N0 := Fr.nil n0
  have pre0 : ∀ t, Steps p.tables e below (s₁.setTop (mkF m 0 #[.val (.int p1), .unset] [])) t → Steps p.tables e below (s₁.setTop (entryFrame m #[(.int p1)] 2)) t := fun t k => castTop (ef_6 m p1) k

  obtain ⟨fs, hr, hrun, hended, hW, hsame⟩ := X0.leave (v := some (.int ((1 : Int32) - ((((((((((p1.toUInt32 >>> ((16 : Int32) &&& 31).toUInt32).toInt32).toUInt32 >>> ((8 : Int32) &&& 31).toUInt32).toInt32).toUInt32 >>> ((4 : Int32) &&& 31).toUInt32).toInt32).toUInt32 >>> ((2 : Int32) &&& 31).toUInt32).toInt32).toUInt32 >>> ((1 : Int32) &&& 31).toUInt32).toInt32)))) (fun h => by rw [Bd.returns] at h; cases h)
  refine ⟨_, _, pre0 _ ?_, hrun, hended, _, _, rfl, ?_, ⟨_, rfl⟩, hW, hsame.mono (by decide) (by decide)⟩
  · show Steps p.tables e below (s₁.setTop (mkF m 0 #[.val (.int p1), .unset] [])) _
    refine XS.iloadN X0.here hx rfl (hb hby d6_0) rfl ?_
    show Steps p.tables e below (s₁.setTop (mkF m 1 #[.val (.int p1), .unset] [(.int p1)])) _
    refine XS.ifYes X0.here hx rfl (pc0 := 1) (pc' := 15) rfl (hb hby d6_1) rfl ((if0 _ _).trans (tlt hc1).2.2.1) (by decide) (by decide) ?_
    show Steps p.tables e below (s₁.setTop (mkF m 15 #[.val (.int p1), .unset] [])) _
    refine XS.bipush X0.here hx rfl (hb hby d6_15) ?_
    show Steps p.tables e below (s₁.setTop (mkF m 17 #[.val (.int p1), .unset] [(.int (31 : Int32))])) _
    refine XS.istoreN X0.here hx rfl (hb hby d6_17) rfl (l' := #[.val (.int p1), .val (.int (31 : Int32))]) rfl ?_
    show Steps p.tables e below (s₁.setTop (mkF m 18 #[.val (.int p1), .val (.int (31 : Int32))] [])) _
    refine XS.iloadN X0.here hx rfl (hb hby d6_18) rfl ?_
    show Steps p.tables e below (s₁.setTop (mkF m 19 #[.val (.int p1), .val (.int (31 : Int32))] [(.int p1)])) _
    refine X0.ldcwInt hx hown (mvT hZ (hw _ (List.mem_of_getElem? (i := 65) rfl))) (g := (mkF m 19 #[.val (.int p1), .val (.int (31 : Int32))] [(.int p1)])) rfl (hb hby d6_19) _ ?_
    show Steps p.tables e below (s₁.setTop (mkF m 22 #[.val (.int p1), .val (.int (31 : Int32))] [(.int (65536 : Int32)), (.int p1)])) _
    refine XS.icmpNo X0.here hx rfl (hb hby d6_22) rfl (flt hc22).1 ?_
    show Steps p.tables e below (s₁.setTop (mkF m 25 #[.val (.int p1), .val (.int (31 : Int32))] [])) _
    refine XS.iinc X0.here hx rfl (hb hby d6_25) rfl (l' := #[.val (.int p1), .val (.int (15 : Int32))]) rfl ?_
    show Steps p.tables e below (s₁.setTop (mkF m 28 #[.val (.int p1), .val (.int (15 : Int32))] [])) _
    refine XS.iloadN X0.here hx rfl (hb hby d6_28) rfl ?_
    show Steps p.tables e below (s₁.setTop (mkF m 29 #[.val (.int p1), .val (.int (15 : Int32))] [(.int p1)])) _
    refine XS.bipush X0.here hx rfl (hb hby d6_29) ?_
    show Steps p.tables e below (s₁.setTop (mkF m 31 #[.val (.int p1), .val (.int (15 : Int32))] [(.int (16 : Int32)), (.int p1)])) _
    refine XS.iushr X0.here hx rfl (hb hby d6_31) rfl ?_
    show Steps p.tables e below (s₁.setTop (mkF m 32 #[.val (.int p1), .val (.int (15 : Int32))] [(.int ((p1.toUInt32 >>> ((16 : Int32) &&& 31).toUInt32).toInt32))])) _
    refine XS.istoreN X0.here hx rfl (hb hby d6_32) rfl (l' := #[.val (.int ((p1.toUInt32 >>> ((16 : Int32) &&& 31).toUInt32).toInt32)), .val (.int (15 : Int32))]) rfl ?_
    show Steps p.tables e below (s₁.setTop (mkF m 33 #[.val (.int ((p1.toUInt32 >>> ((16 : Int32) &&& 31).toUInt32).toInt32)), .val (.int (15 : Int32))] [])) _
    refine XS.iloadN X0.here hx rfl (hb hby d6_33) rfl ?_
    show Steps p.tables e below (s₁.setTop (mkF m 34 #[.val (.int ((p1.toUInt32 >>> ((16 : Int32) &&& 31).toUInt32).toInt32)), .val (.int (15 : Int32))] [(.int ((p1.toUInt32 >>> ((16 : Int32) &&& 31).toUInt32).toInt32))])) _
    refine XS.sipush X0.here hx rfl (hb hby d6_34) ?_
    show Steps p.tables e below (s₁.setTop (mkF m 37 #[.val (.int ((p1.toUInt32 >>> ((16 : Int32) &&& 31).toUInt32).toInt32)), .val (.int (15 : Int32))] [(.int (256 : Int32)), (.int ((p1.toUInt32 >>> ((16 : Int32) &&& 31).toUInt32).toInt32))])) _
    refine XS.icmpNo X0.here hx rfl (hb hby d6_37) rfl (flt hc37).1 ?_
    show Steps p.tables e below (s₁.setTop (mkF m 40 #[.val (.int ((p1.toUInt32 >>> ((16 : Int32) &&& 31).toUInt32).toInt32)), .val (.int (15 : Int32))] [])) _
    refine XS.iinc X0.here hx rfl (hb hby d6_40) rfl (l' := #[.val (.int ((p1.toUInt32 >>> ((16 : Int32) &&& 31).toUInt32).toInt32)), .val (.int (7 : Int32))]) rfl ?_
    show Steps p.tables e below (s₁.setTop (mkF m 43 #[.val (.int ((p1.toUInt32 >>> ((16 : Int32) &&& 31).toUInt32).toInt32)), .val (.int (7 : Int32))] [])) _
    refine XS.iloadN X0.here hx rfl (hb hby d6_43) rfl ?_
    show Steps p.tables e below (s₁.setTop (mkF m 44 #[.val (.int ((p1.toUInt32 >>> ((16 : Int32) &&& 31).toUInt32).toInt32)), .val (.int (7 : Int32))] [(.int ((p1.toUInt32 >>> ((16 : Int32) &&& 31).toUInt32).toInt32))])) _
    refine XS.bipush X0.here hx rfl (hb hby d6_44) ?_
    show Steps p.tables e below (s₁.setTop (mkF m 46 #[.val (.int ((p1.toUInt32 >>> ((16 : Int32) &&& 31).toUInt32).toInt32)), .val (.int (7 : Int32))] [(.int (8 : Int32)), (.int ((p1.toUInt32 >>> ((16 : Int32) &&& 31).toUInt32).toInt32))])) _
    refine XS.iushr X0.here hx rfl (hb hby d6_46) rfl ?_
    show Steps p.tables e below (s₁.setTop (mkF m 47 #[.val (.int ((p1.toUInt32 >>> ((16 : Int32) &&& 31).toUInt32).toInt32)), .val (.int (7 : Int32))] [(.int ((((p1.toUInt32 >>> ((16 : Int32) &&& 31).toUInt32).toInt32).toUInt32 >>> ((8 : Int32) &&& 31).toUInt32).toInt32))])) _
    refine XS.istoreN X0.here hx rfl (hb hby d6_47) rfl (l' := #[.val (.int ((((p1.toUInt32 >>> ((16 : Int32) &&& 31).toUInt32).toInt32).toUInt32 >>> ((8 : Int32) &&& 31).toUInt32).toInt32)), .val (.int (7 : Int32))]) rfl ?_
    show Steps p.tables e below (s₁.setTop (mkF m 48 #[.val (.int ((((p1.toUInt32 >>> ((16 : Int32) &&& 31).toUInt32).toInt32).toUInt32 >>> ((8 : Int32) &&& 31).toUInt32).toInt32)), .val (.int (7 : Int32))] [])) _
    refine XS.iloadN X0.here hx rfl (hb hby d6_48) rfl ?_
    show Steps p.tables e below (s₁.setTop (mkF m 49 #[.val (.int ((((p1.toUInt32 >>> ((16 : Int32) &&& 31).toUInt32).toInt32).toUInt32 >>> ((8 : Int32) &&& 31).toUInt32).toInt32)), .val (.int (7 : Int32))] [(.int ((((p1.toUInt32 >>> ((16 : Int32) &&& 31).toUInt32).toInt32).toUInt32 >>> ((8 : Int32) &&& 31).toUInt32).toInt32))])) _
    refine XS.bipush X0.here hx rfl (hb hby d6_49) ?_
    show Steps p.tables e below (s₁.setTop (mkF m 51 #[.val (.int ((((p1.toUInt32 >>> ((16 : Int32) &&& 31).toUInt32).toInt32).toUInt32 >>> ((8 : Int32) &&& 31).toUInt32).toInt32)), .val (.int (7 : Int32))] [(.int (16 : Int32)), (.int ((((p1.toUInt32 >>> ((16 : Int32) &&& 31).toUInt32).toInt32).toUInt32 >>> ((8 : Int32) &&& 31).toUInt32).toInt32))])) _
    refine XS.icmpNo X0.here hx rfl (hb hby d6_51) rfl (flt hc51).1 ?_
    show Steps p.tables e below (s₁.setTop (mkF m 54 #[.val (.int ((((p1.toUInt32 >>> ((16 : Int32) &&& 31).toUInt32).toInt32).toUInt32 >>> ((8 : Int32) &&& 31).toUInt32).toInt32)), .val (.int (7 : Int32))] [])) _
    refine XS.iinc X0.here hx rfl (hb hby d6_54) rfl (l' := #[.val (.int ((((p1.toUInt32 >>> ((16 : Int32) &&& 31).toUInt32).toInt32).toUInt32 >>> ((8 : Int32) &&& 31).toUInt32).toInt32)), .val (.int (3 : Int32))]) rfl ?_
    show Steps p.tables e below (s₁.setTop (mkF m 57 #[.val (.int ((((p1.toUInt32 >>> ((16 : Int32) &&& 31).toUInt32).toInt32).toUInt32 >>> ((8 : Int32) &&& 31).toUInt32).toInt32)), .val (.int (3 : Int32))] [])) _
    refine XS.iloadN X0.here hx rfl (hb hby d6_57) rfl ?_
    show Steps p.tables e below (s₁.setTop (mkF m 58 #[.val (.int ((((p1.toUInt32 >>> ((16 : Int32) &&& 31).toUInt32).toInt32).toUInt32 >>> ((8 : Int32) &&& 31).toUInt32).toInt32)), .val (.int (3 : Int32))] [(.int ((((p1.toUInt32 >>> ((16 : Int32) &&& 31).toUInt32).toInt32).toUInt32 >>> ((8 : Int32) &&& 31).toUInt32).toInt32))])) _
    refine XS.iconst X0.here hx rfl (hb hby d6_58) ?_
    show Steps p.tables e below (s₁.setTop (mkF m 59 #[.val (.int ((((p1.toUInt32 >>> ((16 : Int32) &&& 31).toUInt32).toInt32).toUInt32 >>> ((8 : Int32) &&& 31).toUInt32).toInt32)), .val (.int (3 : Int32))] [(.int (4 : Int32)), (.int ((((p1.toUInt32 >>> ((16 : Int32) &&& 31).toUInt32).toInt32).toUInt32 >>> ((8 : Int32) &&& 31).toUInt32).toInt32))])) _
    refine XS.iushr X0.here hx rfl (hb hby d6_59) rfl ?_
    show Steps p.tables e below (s₁.setTop (mkF m 60 #[.val (.int ((((p1.toUInt32 >>> ((16 : Int32) &&& 31).toUInt32).toInt32).toUInt32 >>> ((8 : Int32) &&& 31).toUInt32).toInt32)), .val (.int (3 : Int32))] [(.int ((((((p1.toUInt32 >>> ((16 : Int32) &&& 31).toUInt32).toInt32).toUInt32 >>> ((8 : Int32) &&& 31).toUInt32).toInt32).toUInt32 >>> ((4 : Int32) &&& 31).toUInt32).toInt32))])) _
    refine XS.istoreN X0.here hx rfl (hb hby d6_60) rfl (l' := #[.val (.int ((((((p1.toUInt32 >>> ((16 : Int32) &&& 31).toUInt32).toInt32).toUInt32 >>> ((8 : Int32) &&& 31).toUInt32).toInt32).toUInt32 >>> ((4 : Int32) &&& 31).toUInt32).toInt32)), .val (.int (3 : Int32))]) rfl ?_
    show Steps p.tables e below (s₁.setTop (mkF m 61 #[.val (.int ((((((p1.toUInt32 >>> ((16 : Int32) &&& 31).toUInt32).toInt32).toUInt32 >>> ((8 : Int32) &&& 31).toUInt32).toInt32).toUInt32 >>> ((4 : Int32) &&& 31).toUInt32).toInt32)), .val (.int (3 : Int32))] [])) _
    refine XS.iloadN X0.here hx rfl (hb hby d6_61) rfl ?_
    show Steps p.tables e below (s₁.setTop (mkF m 62 #[.val (.int ((((((p1.toUInt32 >>> ((16 : Int32) &&& 31).toUInt32).toInt32).toUInt32 >>> ((8 : Int32) &&& 31).toUInt32).toInt32).toUInt32 >>> ((4 : Int32) &&& 31).toUInt32).toInt32)), .val (.int (3 : Int32))] [(.int ((((((p1.toUInt32 >>> ((16 : Int32) &&& 31).toUInt32).toInt32).toUInt32 >>> ((8 : Int32) &&& 31).toUInt32).toInt32).toUInt32 >>> ((4 : Int32) &&& 31).toUInt32).toInt32))])) _
    refine XS.iconst X0.here hx rfl (hb hby d6_62) ?_
    show Steps p.tables e below (s₁.setTop (mkF m 63 #[.val (.int ((((((p1.toUInt32 >>> ((16 : Int32) &&& 31).toUInt32).toInt32).toUInt32 >>> ((8 : Int32) &&& 31).toUInt32).toInt32).toUInt32 >>> ((4 : Int32) &&& 31).toUInt32).toInt32)), .val (.int (3 : Int32))] [(.int (4 : Int32)), (.int ((((((p1.toUInt32 >>> ((16 : Int32) &&& 31).toUInt32).toInt32).toUInt32 >>> ((8 : Int32) &&& 31).toUInt32).toInt32).toUInt32 >>> ((4 : Int32) &&& 31).toUInt32).toInt32))])) _
    refine XS.icmpNo X0.here hx rfl (hb hby d6_63) rfl (flt hc63).1 ?_
    show Steps p.tables e below (s₁.setTop (mkF m 66 #[.val (.int ((((((p1.toUInt32 >>> ((16 : Int32) &&& 31).toUInt32).toInt32).toUInt32 >>> ((8 : Int32) &&& 31).toUInt32).toInt32).toUInt32 >>> ((4 : Int32) &&& 31).toUInt32).toInt32)), .val (.int (3 : Int32))] [])) _
    refine XS.iinc X0.here hx rfl (hb hby d6_66) rfl (l' := #[.val (.int ((((((p1.toUInt32 >>> ((16 : Int32) &&& 31).toUInt32).toInt32).toUInt32 >>> ((8 : Int32) &&& 31).toUInt32).toInt32).toUInt32 >>> ((4 : Int32) &&& 31).toUInt32).toInt32)), .val (.int (1 : Int32))]) rfl ?_
    show Steps p.tables e below (s₁.setTop (mkF m 69 #[.val (.int ((((((p1.toUInt32 >>> ((16 : Int32) &&& 31).toUInt32).toInt32).toUInt32 >>> ((8 : Int32) &&& 31).toUInt32).toInt32).toUInt32 >>> ((4 : Int32) &&& 31).toUInt32).toInt32)), .val (.int (1 : Int32))] [])) _
    refine XS.iloadN X0.here hx rfl (hb hby d6_69) rfl ?_
    show Steps p.tables e below (s₁.setTop (mkF m 70 #[.val (.int ((((((p1.toUInt32 >>> ((16 : Int32) &&& 31).toUInt32).toInt32).toUInt32 >>> ((8 : Int32) &&& 31).toUInt32).toInt32).toUInt32 >>> ((4 : Int32) &&& 31).toUInt32).toInt32)), .val (.int (1 : Int32))] [(.int ((((((p1.toUInt32 >>> ((16 : Int32) &&& 31).toUInt32).toInt32).toUInt32 >>> ((8 : Int32) &&& 31).toUInt32).toInt32).toUInt32 >>> ((4 : Int32) &&& 31).toUInt32).toInt32))])) _
    refine XS.iconst X0.here hx rfl (hb hby d6_70) ?_
    show Steps p.tables e below (s₁.setTop (mkF m 71 #[.val (.int ((((((p1.toUInt32 >>> ((16 : Int32) &&& 31).toUInt32).toInt32).toUInt32 >>> ((8 : Int32) &&& 31).toUInt32).toInt32).toUInt32 >>> ((4 : Int32) &&& 31).toUInt32).toInt32)), .val (.int (1 : Int32))] [(.int (2 : Int32)), (.int ((((((p1.toUInt32 >>> ((16 : Int32) &&& 31).toUInt32).toInt32).toUInt32 >>> ((8 : Int32) &&& 31).toUInt32).toInt32).toUInt32 >>> ((4 : Int32) &&& 31).toUInt32).toInt32))])) _
    refine XS.iushr X0.here hx rfl (hb hby d6_71) rfl ?_
    show Steps p.tables e below (s₁.setTop (mkF m 72 #[.val (.int ((((((p1.toUInt32 >>> ((16 : Int32) &&& 31).toUInt32).toInt32).toUInt32 >>> ((8 : Int32) &&& 31).toUInt32).toInt32).toUInt32 >>> ((4 : Int32) &&& 31).toUInt32).toInt32)), .val (.int (1 : Int32))] [(.int ((((((((p1.toUInt32 >>> ((16 : Int32) &&& 31).toUInt32).toInt32).toUInt32 >>> ((8 : Int32) &&& 31).toUInt32).toInt32).toUInt32 >>> ((4 : Int32) &&& 31).toUInt32).toInt32).toUInt32 >>> ((2 : Int32) &&& 31).toUInt32).toInt32))])) _
    refine XS.istoreN X0.here hx rfl (hb hby d6_72) rfl (l' := #[.val (.int ((((((((p1.toUInt32 >>> ((16 : Int32) &&& 31).toUInt32).toInt32).toUInt32 >>> ((8 : Int32) &&& 31).toUInt32).toInt32).toUInt32 >>> ((4 : Int32) &&& 31).toUInt32).toInt32).toUInt32 >>> ((2 : Int32) &&& 31).toUInt32).toInt32)), .val (.int (1 : Int32))]) rfl ?_
    show Steps p.tables e below (s₁.setTop (mkF m 73 #[.val (.int ((((((((p1.toUInt32 >>> ((16 : Int32) &&& 31).toUInt32).toInt32).toUInt32 >>> ((8 : Int32) &&& 31).toUInt32).toInt32).toUInt32 >>> ((4 : Int32) &&& 31).toUInt32).toInt32).toUInt32 >>> ((2 : Int32) &&& 31).toUInt32).toInt32)), .val (.int (1 : Int32))] [])) _
    refine XS.iloadN X0.here hx rfl (hb hby d6_73) rfl ?_
    show Steps p.tables e below (s₁.setTop (mkF m 74 #[.val (.int ((((((((p1.toUInt32 >>> ((16 : Int32) &&& 31).toUInt32).toInt32).toUInt32 >>> ((8 : Int32) &&& 31).toUInt32).toInt32).toUInt32 >>> ((4 : Int32) &&& 31).toUInt32).toInt32).toUInt32 >>> ((2 : Int32) &&& 31).toUInt32).toInt32)), .val (.int (1 : Int32))] [(.int (1 : Int32))])) _
    refine XS.iloadN X0.here hx rfl (hb hby d6_74) rfl ?_
    show Steps p.tables e below (s₁.setTop (mkF m 75 #[.val (.int ((((((((p1.toUInt32 >>> ((16 : Int32) &&& 31).toUInt32).toInt32).toUInt32 >>> ((8 : Int32) &&& 31).toUInt32).toInt32).toUInt32 >>> ((4 : Int32) &&& 31).toUInt32).toInt32).toUInt32 >>> ((2 : Int32) &&& 31).toUInt32).toInt32)), .val (.int (1 : Int32))] [(.int ((((((((p1.toUInt32 >>> ((16 : Int32) &&& 31).toUInt32).toInt32).toUInt32 >>> ((8 : Int32) &&& 31).toUInt32).toInt32).toUInt32 >>> ((4 : Int32) &&& 31).toUInt32).toInt32).toUInt32 >>> ((2 : Int32) &&& 31).toUInt32).toInt32)), (.int (1 : Int32))])) _
    refine XS.iconst X0.here hx rfl (hb hby d6_75) ?_
    show Steps p.tables e below (s₁.setTop (mkF m 76 #[.val (.int ((((((((p1.toUInt32 >>> ((16 : Int32) &&& 31).toUInt32).toInt32).toUInt32 >>> ((8 : Int32) &&& 31).toUInt32).toInt32).toUInt32 >>> ((4 : Int32) &&& 31).toUInt32).toInt32).toUInt32 >>> ((2 : Int32) &&& 31).toUInt32).toInt32)), .val (.int (1 : Int32))] [(.int (1 : Int32)), (.int ((((((((p1.toUInt32 >>> ((16 : Int32) &&& 31).toUInt32).toInt32).toUInt32 >>> ((8 : Int32) &&& 31).toUInt32).toInt32).toUInt32 >>> ((4 : Int32) &&& 31).toUInt32).toInt32).toUInt32 >>> ((2 : Int32) &&& 31).toUInt32).toInt32)), (.int (1 : Int32))])) _
    refine XS.iushr X0.here hx rfl (hb hby d6_76) rfl ?_
    show Steps p.tables e below (s₁.setTop (mkF m 77 #[.val (.int ((((((((p1.toUInt32 >>> ((16 : Int32) &&& 31).toUInt32).toInt32).toUInt32 >>> ((8 : Int32) &&& 31).toUInt32).toInt32).toUInt32 >>> ((4 : Int32) &&& 31).toUInt32).toInt32).toUInt32 >>> ((2 : Int32) &&& 31).toUInt32).toInt32)), .val (.int (1 : Int32))] [(.int ((((((((((p1.toUInt32 >>> ((16 : Int32) &&& 31).toUInt32).toInt32).toUInt32 >>> ((8 : Int32) &&& 31).toUInt32).toInt32).toUInt32 >>> ((4 : Int32) &&& 31).toUInt32).toInt32).toUInt32 >>> ((2 : Int32) &&& 31).toUInt32).toInt32).toUInt32 >>> ((1 : Int32) &&& 31).toUInt32).toInt32)), (.int (1 : Int32))])) _
    refine XS.isub X0.here hx rfl (hb hby d6_77) rfl ?_
    show Steps p.tables e below (s₁.setTop (mkF m 78 #[.val (.int ((((((((p1.toUInt32 >>> ((16 : Int32) &&& 31).toUInt32).toInt32).toUInt32 >>> ((8 : Int32) &&& 31).toUInt32).toInt32).toUInt32 >>> ((4 : Int32) &&& 31).toUInt32).toInt32).toUInt32 >>> ((2 : Int32) &&& 31).toUInt32).toInt32)), .val (.int (1 : Int32))] [(.int ((1 : Int32) - ((((((((((p1.toUInt32 >>> ((16 : Int32) &&& 31).toUInt32).toInt32).toUInt32 >>> ((8 : Int32) &&& 31).toUInt32).toInt32).toUInt32 >>> ((4 : Int32) &&& 31).toUInt32).toInt32).toUInt32 >>> ((2 : Int32) &&& 31).toUInt32).toInt32).toUInt32 >>> ((1 : Int32) &&& 31).toUInt32).toInt32)))])) _
    exact retI X0 hx Bd.returns (hb hby d6_78) hr
  · show Q6 p1 h0 n0 _ s₁.heap _
    rw [e0]
    exact ⟨_, rfl, N0, rfl, own_n_tffff p1 hc1 hc22 hc37 hc51 hc63⟩
theorem rm6 (l : Launch) (Z : State) (a0 : Array Value) (hw : ∀ d ∈ tables_1, d.before a0 Z = true) (ws : List Jvm.Cond) (p1 : Int32) (h0 : Heap) (n0 : Nat) (Z0 : n0 ≤ h0.size) (hv : 0 ≤ p1.toInt) :
    MetFree l (⟨"java/lang/Integer", "numberOfLeadingZeros", "(I)I"⟩ : MethodName) (head1 (Jvm.Cond.code (⟨"java/lang/Integer", "numberOfLeadingZeros", "(I)I"⟩ : MethodName) jdk_33_method_47_code 2 (some .int) :: ws) ({ frames := 0, cells := 0, slots := 0, locals := 0 } : Room)) (fun a U => a = #[(.int p1)] ∧ Z.Warmed39 U.vm ∧ U.heap = h0) (fun _ _ _ _ _ => True) (fun _ U o U' => ∃ v L, o = .returned v ∧ Q6 p1 h0 n0 v U'.heap L ∧ FrameEnd U o U' L ({ frames := 0, cells := 0, slots := 0, locals := 0 } : Room).cells ({ frames := 0, cells := 0, slots := 0, locals := 0 } : Room).slots) := by
  by_cases c0 : p1 = (0 : Int32)
  · exact rm6_ff l Z a0 hw ws p1 h0 n0 Z0 (by rw [c0]; decide) c0
  have hp : (0 : Int32) < p1 := by
    rw [Int32.lt_iff_toInt_lt]
    have e0 : (0 : Int32).toInt = 0 := rfl
    have : p1.toInt ≠ 0 := fun q => c0 (own_i32 q)
    omega
  by_cases d16 : p1 < (65536 : Int32)
  · by_cases d8 : p1 < (256 : Int32)
    · by_cases d4 : p1 < (16 : Int32)
      · by_cases d2 : p1 < (4 : Int32)
        · exact rm6_ttttt l Z a0 hw ws p1 h0 n0 Z0 hp d16 d8 d4 d2
        · exact rm6_ttttf l Z a0 hw ws p1 h0 n0 Z0 hp d16 d8 d4 d2
      · by_cases d2 : ((p1.toUInt32 >>> ((4 : Int32) &&& 31).toUInt32).toInt32) < (4 : Int32)
        · exact rm6_tttft l Z a0 hw ws p1 h0 n0 Z0 hp d16 d8 d4 d2
        · exact rm6_tttff l Z a0 hw ws p1 h0 n0 Z0 hp d16 d8 d4 d2
    · by_cases d4 : ((p1.toUInt32 >>> ((8 : Int32) &&& 31).toUInt32).toInt32) < (16 : Int32)
      · by_cases d2 : ((p1.toUInt32 >>> ((8 : Int32) &&& 31).toUInt32).toInt32) < (4 : Int32)
        · exact rm6_ttftt l Z a0 hw ws p1 h0 n0 Z0 hp d16 d8 d4 d2
        · exact rm6_ttftf l Z a0 hw ws p1 h0 n0 Z0 hp d16 d8 d4 d2
      · by_cases d2 : ((((p1.toUInt32 >>> ((8 : Int32) &&& 31).toUInt32).toInt32).toUInt32 >>> ((4 : Int32) &&& 31).toUInt32).toInt32) < (4 : Int32)
        · exact rm6_ttfft l Z a0 hw ws p1 h0 n0 Z0 hp d16 d8 d4 d2
        · exact rm6_ttfff l Z a0 hw ws p1 h0 n0 Z0 hp d16 d8 d4 d2
  · by_cases d8 : ((p1.toUInt32 >>> ((16 : Int32) &&& 31).toUInt32).toInt32) < (256 : Int32)
    · by_cases d4 : ((p1.toUInt32 >>> ((16 : Int32) &&& 31).toUInt32).toInt32) < (16 : Int32)
      · by_cases d2 : ((p1.toUInt32 >>> ((16 : Int32) &&& 31).toUInt32).toInt32) < (4 : Int32)
        · exact rm6_tfttt l Z a0 hw ws p1 h0 n0 Z0 hp d16 d8 d4 d2
        · exact rm6_tfttf l Z a0 hw ws p1 h0 n0 Z0 hp d16 d8 d4 d2
      · by_cases d2 : ((((p1.toUInt32 >>> ((16 : Int32) &&& 31).toUInt32).toInt32).toUInt32 >>> ((4 : Int32) &&& 31).toUInt32).toInt32) < (4 : Int32)
        · exact rm6_tftft l Z a0 hw ws p1 h0 n0 Z0 hp d16 d8 d4 d2
        · exact rm6_tftff l Z a0 hw ws p1 h0 n0 Z0 hp d16 d8 d4 d2
    · by_cases d4 : ((((p1.toUInt32 >>> ((16 : Int32) &&& 31).toUInt32).toInt32).toUInt32 >>> ((8 : Int32) &&& 31).toUInt32).toInt32) < (16 : Int32)
      · by_cases d2 : ((((p1.toUInt32 >>> ((16 : Int32) &&& 31).toUInt32).toInt32).toUInt32 >>> ((8 : Int32) &&& 31).toUInt32).toInt32) < (4 : Int32)
        · exact rm6_tfftt l Z a0 hw ws p1 h0 n0 Z0 hp d16 d8 d4 d2
        · exact rm6_tfftf l Z a0 hw ws p1 h0 n0 Z0 hp d16 d8 d4 d2
      · by_cases d2 : ((((((p1.toUInt32 >>> ((16 : Int32) &&& 31).toUInt32).toInt32).toUInt32 >>> ((8 : Int32) &&& 31).toUInt32).toInt32).toUInt32 >>> ((4 : Int32) &&& 31).toUInt32).toInt32) < (4 : Int32)
        · exact rm6_tffft l Z a0 hw ws p1 h0 n0 Z0 hp d16 d8 d4 d2
        · exact rm6_tffff l Z a0 hw ws p1 h0 n0 Z0 hp d16 d8 d4 d2
def Q5 (p : Int32) (h0 : Heap) (n0 : Nat) (v : Option Value) (h : Heap) (L : List Loc) : Prop := ∃ w : Int32, v = some (.int w) ∧ Fr n0 L ∧ h = h0 ∧ own_isW p w
theorem d5_0 : decode prog_4_method_6_code 0 = .ok (.iconst 1, 1) := by decide +kernel
theorem d5_1 : decode prog_4_method_6_code 1 = .ok (.bipush 32, 2) := by decide +kernel
theorem d5_3 : decode prog_4_method_6_code 3 = .ok (.iload_n 0, 1) := by decide +kernel
theorem d5_4 : decode prog_4_method_6_code 4 = .ok (.invokestatic 86, 3) := by decide +kernel
theorem d5_7 : decode prog_4_method_6_code 7 = .ok (.isub, 1) := by decide +kernel
theorem d5_8 : decode prog_4_method_6_code 8 = .ok (.bipush 7, 2) := by decide +kernel
theorem d5_10 : decode prog_4_method_6_code 10 = .ok (.iadd, 1) := by decide +kernel
theorem d5_11 : decode prog_4_method_6_code 11 = .ok (.bipush 8, 2) := by decide +kernel
theorem d5_13 : decode prog_4_method_6_code 13 = .ok (.idiv, 1) := by decide +kernel
theorem d5_14 : decode prog_4_method_6_code 14 = .ok (.invokestatic 89, 3) := by decide +kernel
theorem d5_17 : decode prog_4_method_6_code 17 = .ok (.ireturn, 1) := by decide +kernel
theorem pn_5 : plainName "com/example/agave_bloom/agavebloom/check/CompactInts" = true := by first | (simp [plainName, overriddenIn]; done) | decide +kernel
theorem pd_5_1 : parseMethodDescriptor "(I)I" = some ⟨[.int], some .int⟩ := by decide +kernel
theorem pd_5_3 : parseMethodDescriptor "(II)I" = some ⟨[.int, .int], some .int⟩ := by decide +kernel
theorem ef_5 (m : MethodId) (x0 : Int32) : entryFrame m #[(.int x0)] 1 = mkF m 0 #[.val (.int x0)] [] := by first | (simp [entryFrame, mkF, argsToLocals, Value.category]; done) | rfl
set_option maxRecDepth 65536 in
set_option maxHeartbeats 40000000 in
theorem rm5 (l : Launch) (Z : State) (a0 : Array Value) (hw : ∀ d ∈ tables_1, d.before a0 Z = true) (ws : List Jvm.Cond) (p1 : Int32) (h0 : Heap) (n0 : Nat) (Z0 : n0 ≤ h0.size) (hv : 0 ≤ p1.toInt) :
    MetFree l (⟨"com/example/agave_bloom/agavebloom/check/CompactInts", "_width", "(I)I"⟩ : MethodName) (head1 (Jvm.Cond.code (⟨"com/example/agave_bloom/agavebloom/check/CompactInts", "_width", "(I)I"⟩ : MethodName) prog_4_method_6_code 1 (some .int) :: ws) ({ frames := 1, cells := 0, slots := 0, locals := 15 } : Room)) (fun a U => a = #[(.int p1)] ∧ Z.Warmed39 U.vm ∧ U.heap = h0) (fun _ _ _ _ _ => True) (fun _ U o U' => ∃ v L, o = .returned v ∧ Q5 p1 h0 n0 v U'.heap L ∧ FrameEnd U o U' L ({ frames := 1, cells := 0, slots := 0, locals := 15 } : Room).cells ({ frames := 1, cells := 0, slots := 0, locals := 15 } : Room).slots) := by
  refine MetFree.of_bodySF (plainFor_of_name pn_5) hisR ?_
  intro p e s m args below meth c s₁ Bd hml0 hP hK
  obtain ⟨rfl, hZ, hh⟩ := hP
  have hx := Bd.exec
  have hby := Bd.bytes
  have hml : c.maxLocals = 1 := hml0
  have hown : s.vm.findClass "com/example/agave_bloom/agavebloom/check/CompactInts" = some m.cls := findClass_of_methodNamed Bd.named
  have hnm := (name_of_methodNamed Bd.named Bd.method).1
  have X0 : Stand p l e ({ frames := 1, cells := 0, slots := 0, locals := 15 } : Room) s m #[(.int p1)] below meth c s₁ [] 0 0 := Stand.of_body Bd
  have e0 : s₁.heap = h0 := by rw [← hh, Bd.state]; rfl
  have N0 := Fr.nil n0
  have pre0 : ∀ t, Steps p.tables e below (s₁.setTop (mkF m 0 #[.val (.int p1)] [])) t → Steps p.tables e below (s₁.setTop (entryFrame m #[(.int p1)] 1)) t := fun t k => castTop (ef_5 m p1) k
  obtain ⟨_, _, ⟨T2, L2, k2, n2⟩, -, X2, ⟨Lc2, hQ2, l2, y2, z2⟩, st2⟩ := Jvm.LawKit.callS X0 hx (y := (⟨"java/lang/Integer", "numberOfLeadingZeros", "(I)I"⟩ : MethodName)) hown (mvT hZ (hw _ (List.mem_of_getElem? (i := 34) rfl))) (mvT hZ (hw _ (List.mem_of_getElem? (i := 35) rfl))) (mvT hZ (hw _ (List.mem_of_getElem? (i := 36) rfl))) (mvT hZ (hw _ (List.mem_of_getElem? (i := 37) rfl))) (by decide) (backOf (W := 2) (rm6 l Z a0 hw [] p1 h0 n0 Z0 hv) hZ (hw _ (List.mem_of_getElem? (i := 37) rfl)) (hw _ (List.mem_of_getElem? (i := 36) rfl)) (by decide) (by decide)) (g := (mkF m 4 #[.val (.int p1)] [(.int p1), (.int (32 : Int32)), (.int (1 : Int32))])) rfl (by rw [hml]; rfl) (argsL := [(.int p1)]) (rest := [(.int (32 : Int32)), (.int (1 : Int32))]) (lenOf pd_5_1 rfl) rfl (by show 2 * 0 + _ ≤ _; exact Nat.le_of_eq rfl) (hb hby d5_4) (fun _ _ => ⟨rfl, e0, (by decide : 0 + 0 ≤ _), (by decide : 0 + 0 ≤ _)⟩)
  dsimp only [Pt.U, Pt.locs, Pt.cells, Pt.slots] at X2 l2 y2 z2 st2 hQ2
  subst l2 y2 z2
  obtain ⟨r, rfl, N2q, eq2, hP⟩ := hQ2
  have N2 := Fr.app N0 N2q
  obtain ⟨_, _, ⟨T3, L3, k3, n3⟩, -, X3, ⟨Lc3, hQ3, l3, y3, z3⟩, st3⟩ := Jvm.LawKit.callS X2 hx (y := (⟨"java/lang/Math", "max", "(II)I"⟩ : MethodName)) hown (mvT hZ (hw _ (List.mem_of_getElem? (i := 38) rfl))) (mvT hZ (hw _ (List.mem_of_getElem? (i := 39) rfl))) (mvT hZ (hw _ (List.mem_of_getElem? (i := 40) rfl))) (mvT hZ (hw _ (List.mem_of_getElem? (i := 41) rfl))) (by decide) (backOf (W := 0) (rm7 l Z a0 hw [] (1 : Int32) ((((32 : Int32) - r) + (7 : Int32)) / (8 : Int32)) h0 n0 Z0) hZ (hw _ (List.mem_of_getElem? (i := 41) rfl)) (hw _ (List.mem_of_getElem? (i := 40) rfl)) (by decide) (by decide)) (g := (mkF m 14 #[.val (.int p1)] [(.int ((((32 : Int32) - r) + (7 : Int32)) / (8 : Int32))), (.int (1 : Int32))])) rfl (by rw [hml]; rfl) (argsL := [(.int (1 : Int32)), (.int ((((32 : Int32) - r) + (7 : Int32)) / (8 : Int32)))]) (rest := []) (lenOf pd_5_3 rfl) rfl (by show 2 * 0 + _ ≤ _; exact Nat.le_of_eq rfl) (hb hby d5_14) (fun _ _ => ⟨rfl, eq2, (by decide : 0 + 0 ≤ _), (by decide : 0 + 0 ≤ _)⟩)
  dsimp only [Pt.U, Pt.locs, Pt.cells, Pt.slots] at X3 l3 y3 z3 st3 hQ3
  subst l3 y3 z3
  obtain ⟨rfl, N3q, eq3⟩ := hQ3
  have N3 := Fr.app N2 N3q
  obtain ⟨fs, hr, hrun, hended, hW, hsame⟩ := X3.leave (v := some (.int (if (1 : Int32) < ((((32 : Int32) - r) + (7 : Int32)) / (8 : Int32)) then ((((32 : Int32) - r) + (7 : Int32)) / (8 : Int32)) else (1 : Int32)))) (fun h => by rw [Bd.returns] at h; cases h)
  refine ⟨_, _, pre0 _ ?_, hrun, hended, _, _, rfl, ?_, ⟨_, rfl⟩, hW, hsame.mono (by decide) (by decide)⟩
  · show Steps p.tables e below (s₁.setTop (mkF m 0 #[.val (.int p1)] [])) _
    refine XS.iconst X0.here hx rfl (hb hby d5_0) ?_
    show Steps p.tables e below (s₁.setTop (mkF m 1 #[.val (.int p1)] [(.int (1 : Int32))])) _
    refine XS.bipush X0.here hx rfl (hb hby d5_1) ?_
    show Steps p.tables e below (s₁.setTop (mkF m 3 #[.val (.int p1)] [(.int (32 : Int32)), (.int (1 : Int32))])) _
    refine XS.iloadN X0.here hx rfl (hb hby d5_3) rfl ?_
    show Steps p.tables e below (s₁.setTop (mkF m 4 #[.val (.int p1)] [(.int p1), (.int (32 : Int32)), (.int (1 : Int32))])) _
    refine st2 _ ?_
    show Steps p.tables e below (T2.setTop (mkF m 7 #[.val (.int p1)] [(.int r), (.int (32 : Int32)), (.int (1 : Int32))])) _
    refine XS.isub X2.here hx rfl (hb hby d5_7) rfl ?_
    show Steps p.tables e below (T2.setTop (mkF m 8 #[.val (.int p1)] [(.int ((32 : Int32) - r)), (.int (1 : Int32))])) _
    refine XS.bipush X2.here hx rfl (hb hby d5_8) ?_
    show Steps p.tables e below (T2.setTop (mkF m 10 #[.val (.int p1)] [(.int (7 : Int32)), (.int ((32 : Int32) - r)), (.int (1 : Int32))])) _
    refine XS.iadd X2.here hx rfl (hb hby d5_10) rfl ?_
    show Steps p.tables e below (T2.setTop (mkF m 11 #[.val (.int p1)] [(.int (((32 : Int32) - r) + (7 : Int32))), (.int (1 : Int32))])) _
    refine XS.bipush X2.here hx rfl (hb hby d5_11) ?_
    show Steps p.tables e below (T2.setTop (mkF m 13 #[.val (.int p1)] [(.int (8 : Int32)), (.int (((32 : Int32) - r) + (7 : Int32))), (.int (1 : Int32))])) _
    refine XS.idiv X2.here hx rfl (hb hby d5_13) rfl (by decide) ?_
    show Steps p.tables e below (T2.setTop (mkF m 14 #[.val (.int p1)] [(.int ((((32 : Int32) - r) + (7 : Int32)) / (8 : Int32))), (.int (1 : Int32))])) _
    refine st3 _ ?_
    show Steps p.tables e below (T3.setTop (mkF m 17 #[.val (.int p1)] [(.int (if (1 : Int32) < ((((32 : Int32) - r) + (7 : Int32)) / (8 : Int32)) then ((((32 : Int32) - r) + (7 : Int32)) / (8 : Int32)) else (1 : Int32)))])) _
    exact retI X3 hx Bd.returns (hb hby d5_17) hr
  · show Q5 p1 h0 n0 _ T3.heap _
    exact ⟨_, rfl, N3, eq3, own_div r p1 hP hv⟩
def Q10 (Z : State) (a : Addr) (z : Int32) (B : Nat → Int32) (h0 : Heap) (n0 : Nat) (v : Option Value) (h : Heap) (L : List Loc) : Prop := v = none ∧ Fr n0 L ∧ Keep h0 h [a] ∧ Pg Z h a z B
theorem d10_0 : decode prog_4_method_8_code 0 = .ok (.aload_n 0, 1) := by decide +kernel
theorem d10_1 : decode prog_4_method_8_code 1 = .ok (.iload_n 1, 1) := by decide +kernel
theorem d10_2 : decode prog_4_method_8_code 2 = .ok (.iload_n 3, 1) := by decide +kernel
theorem d10_3 : decode prog_4_method_8_code 3 = .ok (.i2b, 1) := by decide +kernel
theorem d10_4 : decode prog_4_method_8_code 4 = .ok (.bastore, 1) := by decide +kernel
theorem d10_5 : decode prog_4_method_8_code 5 = .ok (.iload_n 2, 1) := by decide +kernel
theorem d10_6 : decode prog_4_method_8_code 6 = .ok (.iconst 1, 1) := by decide +kernel
theorem d10_7 : decode prog_4_method_8_code 7 = .ok (.if_icmp .le 13, 3) := by decide +kernel
theorem d10_20 : decode prog_4_method_8_code 20 = .ok (.iload_n 2, 1) := by decide +kernel
theorem d10_21 : decode prog_4_method_8_code 21 = .ok (.iconst 2, 1) := by decide +kernel
theorem d10_22 : decode prog_4_method_8_code 22 = .ok (.if_icmp .le 13, 3) := by decide +kernel
theorem d10_35 : decode prog_4_method_8_code 35 = .ok (.iload_n 2, 1) := by decide +kernel
theorem d10_36 : decode prog_4_method_8_code 36 = .ok (.iconst 3, 1) := by decide +kernel
theorem d10_37 : decode prog_4_method_8_code 37 = .ok (.if_icmp .le 13, 3) := by decide +kernel
theorem d10_50 : decode prog_4_method_8_code 50 = .ok (.return_, 1) := by decide +kernel
theorem pn_10 : plainName "com/example/agave_bloom/agavebloom/check/CompactInts" = true := by first | (simp [plainName, overriddenIn]; done) | decide +kernel
theorem ef_10 (m : MethodId) (x0 : Addr) (x1 : Int32) (x2 : Int32) (x3 : Int32) : entryFrame m #[(.ref x0), (.int x1), (.int x2), (.int x3)] 4 = mkF m 0 #[.val (.ref x0), .val (.int x1), .val (.int x2), .val (.int x3)] [] := by first | (simp [entryFrame, mkF, argsToLocals, Value.category]; done) | rfl
set_option maxRecDepth 65536 in
set_option maxHeartbeats 40000000 in
theorem rm10_1 (l : Launch) (Z : State) (a0 : Array Value) (hw : ∀ d ∈ tables_1, d.before a0 Z = true) (ws : List Jvm.Cond) (a1 : Addr) (p2 p3 p4 : Int32) (h0 : Heap) (n0 : Nat) (Z0 : n0 ≤ h0.size) (z : Int32) (B : Nat → Int32) (i : Nat) (P0 : Pg Z h0 a1 z B) (g_a1 : n0 ≤ a1) (j0 : (p2).toNatClampNeg = i + 0) (u0 : ¬ (p2 < 0)) (j1 : ((p2 + (1 : Int32))).toNatClampNeg = i + 1) (u1 : ¬ ((p2 + (1 : Int32)) < 0)) (j2 : ((p2 + (2 : Int32))).toNatClampNeg = i + 2) (u2 : ¬ ((p2 + (2 : Int32)) < 0)) (j3 : ((p2 + (3 : Int32))).toNatClampNeg = i + 3) (u3 : ¬ ((p2 + (3 : Int32)) < 0)) (hz : i + 3 < z.toNatClampNeg) (hc7 : ¬ ((1 : Int32) < p3)) (hc22 : ¬ ((2 : Int32) < p3)) (hc37 : ¬ ((3 : Int32) < p3)) :
    MetFree l (⟨"com/example/agave_bloom/agavebloom/check/CompactInts", "_put", "([BIII)V"⟩ : MethodName) (head1 (Jvm.Cond.code (⟨"com/example/agave_bloom/agavebloom/check/CompactInts", "_put", "([BIII)V"⟩ : MethodName) prog_4_method_8_code 4 none :: ws) ({ frames := 0, cells := 0, slots := 0, locals := 0 } : Room)) (fun a U => a = #[(.ref a1), (.int p2), (.int p3), (.int p4)] ∧ Z.Warmed39 U.vm ∧ U.heap = h0) (fun _ _ _ _ _ => True) (fun _ U o U' => ∃ v L, o = .returned v ∧ Q10 Z a1 z (own_putB 1 B i p4) h0 n0 v U'.heap L ∧ FrameEnd U o U' L ({ frames := 0, cells := 0, slots := 0, locals := 0 } : Room).cells ({ frames := 0, cells := 0, slots := 0, locals := 0 } : Room).slots) := by
  refine MetFree.of_bodySF (plainFor_of_name pn_10) hisR ?_
  intro p e s m args below meth c s₁ Bd hml0 hP hK
  obtain ⟨rfl, hZ, hh⟩ := hP
  have hx := Bd.exec
  have hby := Bd.bytes
  have hml : c.maxLocals = 4 := hml0
  have hown : s.vm.findClass "com/example/agave_bloom/agavebloom/check/CompactInts" = some m.cls := findClass_of_methodNamed Bd.named
  have hnm := (name_of_methodNamed Bd.named Bd.method).1
  have X0 : Stand p l e ({ frames := 0, cells := 0, slots := 0, locals := 0 } : Room) s m #[(.ref a1), (.int p2), (.int p3), (.int p4)] below meth c s₁ [] 0 0 := Stand.of_body Bd
  have e0 : s₁.heap = h0 := by rw [← hh, Bd.state]; rfl
  have N0 := Fr.nil n0
  have pre0 : ∀ t, Steps p.tables e below (s₁.setTop (mkF m 0 #[.val (.ref a1), .val (.int p2), .val (.int p3), .val (.int p4)] [])) t → Steps p.tables e below (s₁.setTop (entryFrame m #[(.ref a1), (.int p2), (.int p3), (.int p4)] 4)) t := fun t k => castTop (ef_10 m a1 p2 p3 p4) k
  obtain ⟨cl0, Ar0, Sz0, Ct0⟩ := P0
  have hin4 : ¬ (p2 < 0 ∨ cl0.slots.size ≤ (p2).toNatClampNeg) := fun q => q.elim u0 (fun y => by rw [Sz0, j0] at y; omega)
  obtain ⟨T5, h5, X5, e5, W5, st5⟩ := stB X0 hx hZ e0 Ar0 (j := p2) hin4 (g := (mkF m 4 #[.val (.ref a1), .val (.int p2), .val (.int p3), .val (.int p4)] [(.int (p4.toInt8.toInt32)), (.int p2), (.ref a1)])) rfl rfl (hb hby d10_4)
  have P1 := Pg.wr ⟨cl0, Ar0, Sz0, Ct0⟩ W5
  rw [j0] at P1
  have N5 := Fr.snoc X5 N0 g_a1
  have K5 : Keep h0 h5 [a1] := (Keep.refl h0 [a1]).wr W5 (Or.inl (List.mem_of_getElem? (i := 0) rfl))
  obtain ⟨fs, hr, hrun, hended, hW, hsame⟩ := X5.leave (v := none) (fun _ => rfl)
  refine ⟨_, _, pre0 _ ?_, hrun, hended, _, _, rfl, ?_, ⟨_, rfl⟩, hW, hsame.mono (by decide) (by decide)⟩
  · show Steps p.tables e below (s₁.setTop (mkF m 0 #[.val (.ref a1), .val (.int p2), .val (.int p3), .val (.int p4)] [])) _
    refine XS.aloadN X0.here hx rfl (hb hby d10_0) rfl rfl ?_
    show Steps p.tables e below (s₁.setTop (mkF m 1 #[.val (.ref a1), .val (.int p2), .val (.int p3), .val (.int p4)] [(.ref a1)])) _
    refine XS.iloadN X0.here hx rfl (hb hby d10_1) rfl ?_
    show Steps p.tables e below (s₁.setTop (mkF m 2 #[.val (.ref a1), .val (.int p2), .val (.int p3), .val (.int p4)] [(.int p2), (.ref a1)])) _
    refine XS.iloadN X0.here hx rfl (hb hby d10_2) rfl ?_
    show Steps p.tables e below (s₁.setTop (mkF m 3 #[.val (.ref a1), .val (.int p2), .val (.int p3), .val (.int p4)] [(.int p4), (.int p2), (.ref a1)])) _
    refine XS.i2b X0.here hx rfl (hb hby d10_3) rfl ?_
    show Steps p.tables e below (s₁.setTop (mkF m 4 #[.val (.ref a1), .val (.int p2), .val (.int p3), .val (.int p4)] [(.int (p4.toInt8.toInt32)), (.int p2), (.ref a1)])) _
    refine st5 _ ?_
    show Steps p.tables e below (T5.setTop (mkF m 5 #[.val (.ref a1), .val (.int p2), .val (.int p3), .val (.int p4)] [])) _
    refine XS.iloadN X5.here hx rfl (hb hby d10_5) rfl ?_
    show Steps p.tables e below (T5.setTop (mkF m 6 #[.val (.ref a1), .val (.int p2), .val (.int p3), .val (.int p4)] [(.int p3)])) _
    refine XS.iconst X5.here hx rfl (hb hby d10_6) ?_
    show Steps p.tables e below (T5.setTop (mkF m 7 #[.val (.ref a1), .val (.int p2), .val (.int p3), .val (.int p4)] [(.int (1 : Int32)), (.int p3)])) _
    refine XS.icmpYes X5.here hx rfl (pc0 := 7) (pc' := 20) rfl (hb hby d10_7) rfl (flt hc7).2.2.2 (by decide) (by decide) ?_
    show Steps p.tables e below (T5.setTop (mkF m 20 #[.val (.ref a1), .val (.int p2), .val (.int p3), .val (.int p4)] [])) _
    refine XS.iloadN X5.here hx rfl (hb hby d10_20) rfl ?_
    show Steps p.tables e below (T5.setTop (mkF m 21 #[.val (.ref a1), .val (.int p2), .val (.int p3), .val (.int p4)] [(.int p3)])) _
    refine XS.iconst X5.here hx rfl (hb hby d10_21) ?_
    show Steps p.tables e below (T5.setTop (mkF m 22 #[.val (.ref a1), .val (.int p2), .val (.int p3), .val (.int p4)] [(.int (2 : Int32)), (.int p3)])) _
    refine XS.icmpYes X5.here hx rfl (pc0 := 22) (pc' := 35) rfl (hb hby d10_22) rfl (flt hc22).2.2.2 (by decide) (by decide) ?_
    show Steps p.tables e below (T5.setTop (mkF m 35 #[.val (.ref a1), .val (.int p2), .val (.int p3), .val (.int p4)] [])) _
    refine XS.iloadN X5.here hx rfl (hb hby d10_35) rfl ?_
    show Steps p.tables e below (T5.setTop (mkF m 36 #[.val (.ref a1), .val (.int p2), .val (.int p3), .val (.int p4)] [(.int p3)])) _
    refine XS.iconst X5.here hx rfl (hb hby d10_36) ?_
    show Steps p.tables e below (T5.setTop (mkF m 37 #[.val (.ref a1), .val (.int p2), .val (.int p3), .val (.int p4)] [(.int (3 : Int32)), (.int p3)])) _
    refine XS.icmpYes X5.here hx rfl (pc0 := 37) (pc' := 50) rfl (hb hby d10_37) rfl (flt hc37).2.2.2 (by decide) (by decide) ?_
    show Steps p.tables e below (T5.setTop (mkF m 50 #[.val (.ref a1), .val (.int p2), .val (.int p3), .val (.int p4)] [])) _
    exact X5.returnOut hx Bd.returns (hb hby d10_50) hr
  · show Q10 Z a1 z (own_putB 1 B i p4) h0 n0 _ T5.heap _
    rw [e5]
    exact ⟨rfl, N5, K5, P1⟩
theorem d10_10 : decode prog_4_method_8_code 10 = .ok (.aload_n 0, 1) := by decide +kernel
theorem d10_11 : decode prog_4_method_8_code 11 = .ok (.iload_n 1, 1) := by decide +kernel
theorem d10_12 : decode prog_4_method_8_code 12 = .ok (.iconst 1, 1) := by decide +kernel
theorem d10_13 : decode prog_4_method_8_code 13 = .ok (.iadd, 1) := by decide +kernel
theorem d10_14 : decode prog_4_method_8_code 14 = .ok (.iload_n 3, 1) := by decide +kernel
theorem d10_15 : decode prog_4_method_8_code 15 = .ok (.bipush 8, 2) := by decide +kernel
theorem d10_17 : decode prog_4_method_8_code 17 = .ok (.iushr, 1) := by decide +kernel
theorem d10_18 : decode prog_4_method_8_code 18 = .ok (.i2b, 1) := by decide +kernel
theorem d10_19 : decode prog_4_method_8_code 19 = .ok (.bastore, 1) := by decide +kernel
set_option maxRecDepth 65536 in
set_option maxHeartbeats 40000000 in
theorem rm10_2 (l : Launch) (Z : State) (a0 : Array Value) (hw : ∀ d ∈ tables_1, d.before a0 Z = true) (ws : List Jvm.Cond) (a1 : Addr) (p2 p3 p4 : Int32) (h0 : Heap) (n0 : Nat) (Z0 : n0 ≤ h0.size) (z : Int32) (B : Nat → Int32) (i : Nat) (P0 : Pg Z h0 a1 z B) (g_a1 : n0 ≤ a1) (j0 : (p2).toNatClampNeg = i + 0) (u0 : ¬ (p2 < 0)) (j1 : ((p2 + (1 : Int32))).toNatClampNeg = i + 1) (u1 : ¬ ((p2 + (1 : Int32)) < 0)) (j2 : ((p2 + (2 : Int32))).toNatClampNeg = i + 2) (u2 : ¬ ((p2 + (2 : Int32)) < 0)) (j3 : ((p2 + (3 : Int32))).toNatClampNeg = i + 3) (u3 : ¬ ((p2 + (3 : Int32)) < 0)) (hz : i + 3 < z.toNatClampNeg) (hc7 : (1 : Int32) < p3) (hc22 : ¬ ((2 : Int32) < p3)) (hc37 : ¬ ((3 : Int32) < p3)) :
    MetFree l (⟨"com/example/agave_bloom/agavebloom/check/CompactInts", "_put", "([BIII)V"⟩ : MethodName) (head1 (Jvm.Cond.code (⟨"com/example/agave_bloom/agavebloom/check/CompactInts", "_put", "([BIII)V"⟩ : MethodName) prog_4_method_8_code 4 none :: ws) ({ frames := 0, cells := 0, slots := 0, locals := 0 } : Room)) (fun a U => a = #[(.ref a1), (.int p2), (.int p3), (.int p4)] ∧ Z.Warmed39 U.vm ∧ U.heap = h0) (fun _ _ _ _ _ => True) (fun _ U o U' => ∃ v L, o = .returned v ∧ Q10 Z a1 z (own_putB 2 B i p4) h0 n0 v U'.heap L ∧ FrameEnd U o U' L ({ frames := 0, cells := 0, slots := 0, locals := 0 } : Room).cells ({ frames := 0, cells := 0, slots := 0, locals := 0 } : Room).slots) := by
  refine MetFree.of_bodySF (plainFor_of_name pn_10) hisR ?_
  intro p e s m args below meth c s₁ Bd hml0 hP hK
  obtain ⟨rfl, hZ, hh⟩ := hP
  have hx := Bd.exec
  have hby := Bd.bytes
  have hml : c.maxLocals = 4 := hml0
  have hown : s.vm.findClass "com/example/agave_bloom/agavebloom/check/CompactInts" = some m.cls := findClass_of_methodNamed Bd.named
  have hnm := (name_of_methodNamed Bd.named Bd.method).1
  have X0 : Stand p l e ({ frames := 0, cells := 0, slots := 0, locals := 0 } : Room) s m #[(.ref a1), (.int p2), (.int p3), (.int p4)] below meth c s₁ [] 0 0 := Stand.of_body Bd
  have e0 : s₁.heap = h0 := by rw [← hh, Bd.state]; rfl
  have N0 := Fr.nil n0
  have pre0 : ∀ t, Steps p.tables e below (s₁.setTop (mkF m 0 #[.val (.ref a1), .val (.int p2), .val (.int p3), .val (.int p4)] [])) t → Steps p.tables e below (s₁.setTop (entryFrame m #[(.ref a1), (.int p2), (.int p3), (.int p4)] 4)) t := fun t k => castTop (ef_10 m a1 p2 p3 p4) k
  obtain ⟨cl0, Ar0, Sz0, Ct0⟩ := P0
  have hin4 : ¬ (p2 < 0 ∨ cl0.slots.size ≤ (p2).toNatClampNeg) := fun q => q.elim u0 (fun y => by rw [Sz0, j0] at y; omega)
  obtain ⟨T5, h5, X5, e5, W5, st5⟩ := stB X0 hx hZ e0 Ar0 (j := p2) hin4 (g := (mkF m 4 #[.val (.ref a1), .val (.int p2), .val (.int p3), .val (.int p4)] [(.int (p4.toInt8.toInt32)), (.int p2), (.ref a1)])) rfl rfl (hb hby d10_4)
  have P1 := Pg.wr ⟨cl0, Ar0, Sz0, Ct0⟩ W5
  rw [j0] at P1
  have N5 := Fr.snoc X5 N0 g_a1
  have K5 : Keep h0 h5 [a1] := (Keep.refl h0 [a1]).wr W5 (Or.inl (List.mem_of_getElem? (i := 0) rfl))
  obtain ⟨cl1, Ar1, Sz1, Ct1⟩ := P1
  have hin19 : ¬ ((p2 + (1 : Int32)) < 0 ∨ cl1.slots.size ≤ ((p2 + (1 : Int32))).toNatClampNeg) := fun q => q.elim u1 (fun y => by rw [Sz1, j1] at y; omega)
  obtain ⟨T6, h6, X6, e6, W6, st6⟩ := stB X5 hx hZ e5 Ar1 (j := (p2 + (1 : Int32))) hin19 (g := (mkF m 19 #[.val (.ref a1), .val (.int p2), .val (.int p3), .val (.int p4)] [(.int (((p4.toUInt32 >>> ((8 : Int32) &&& 31).toUInt32).toInt32).toInt8.toInt32)), (.int (p2 + (1 : Int32))), (.ref a1)])) rfl rfl (hb hby d10_19)
  have P2 := Pg.wr ⟨cl1, Ar1, Sz1, Ct1⟩ W6
  rw [j1] at P2
  have N6 := Fr.snoc X6 N5 g_a1
  have K6 : Keep h0 h6 [a1] := K5.wr W6 (Or.inl (List.mem_of_getElem? (i := 0) rfl))
  obtain ⟨fs, hr, hrun, hended, hW, hsame⟩ := X6.leave (v := none) (fun _ => rfl)
  refine ⟨_, _, pre0 _ ?_, hrun, hended, _, _, rfl, ?_, ⟨_, rfl⟩, hW, hsame.mono (by decide) (by decide)⟩
  · show Steps p.tables e below (s₁.setTop (mkF m 0 #[.val (.ref a1), .val (.int p2), .val (.int p3), .val (.int p4)] [])) _
    refine XS.aloadN X0.here hx rfl (hb hby d10_0) rfl rfl ?_
    show Steps p.tables e below (s₁.setTop (mkF m 1 #[.val (.ref a1), .val (.int p2), .val (.int p3), .val (.int p4)] [(.ref a1)])) _
    refine XS.iloadN X0.here hx rfl (hb hby d10_1) rfl ?_
    show Steps p.tables e below (s₁.setTop (mkF m 2 #[.val (.ref a1), .val (.int p2), .val (.int p3), .val (.int p4)] [(.int p2), (.ref a1)])) _
    refine XS.iloadN X0.here hx rfl (hb hby d10_2) rfl ?_
    show Steps p.tables e below (s₁.setTop (mkF m 3 #[.val (.ref a1), .val (.int p2), .val (.int p3), .val (.int p4)] [(.int p4), (.int p2), (.ref a1)])) _
    refine XS.i2b X0.here hx rfl (hb hby d10_3) rfl ?_
    show Steps p.tables e below (s₁.setTop (mkF m 4 #[.val (.ref a1), .val (.int p2), .val (.int p3), .val (.int p4)] [(.int (p4.toInt8.toInt32)), (.int p2), (.ref a1)])) _
    refine st5 _ ?_
    show Steps p.tables e below (T5.setTop (mkF m 5 #[.val (.ref a1), .val (.int p2), .val (.int p3), .val (.int p4)] [])) _
    refine XS.iloadN X5.here hx rfl (hb hby d10_5) rfl ?_
    show Steps p.tables e below (T5.setTop (mkF m 6 #[.val (.ref a1), .val (.int p2), .val (.int p3), .val (.int p4)] [(.int p3)])) _
    refine XS.iconst X5.here hx rfl (hb hby d10_6) ?_
    show Steps p.tables e below (T5.setTop (mkF m 7 #[.val (.ref a1), .val (.int p2), .val (.int p3), .val (.int p4)] [(.int (1 : Int32)), (.int p3)])) _
    refine XS.icmpNo X5.here hx rfl (hb hby d10_7) rfl (tlt hc7).2.2.2 ?_
    show Steps p.tables e below (T5.setTop (mkF m 10 #[.val (.ref a1), .val (.int p2), .val (.int p3), .val (.int p4)] [])) _
    refine XS.aloadN X5.here hx rfl (hb hby d10_10) rfl rfl ?_
    show Steps p.tables e below (T5.setTop (mkF m 11 #[.val (.ref a1), .val (.int p2), .val (.int p3), .val (.int p4)] [(.ref a1)])) _
    refine XS.iloadN X5.here hx rfl (hb hby d10_11) rfl ?_
    show Steps p.tables e below (T5.setTop (mkF m 12 #[.val (.ref a1), .val (.int p2), .val (.int p3), .val (.int p4)] [(.int p2), (.ref a1)])) _
    refine XS.iconst X5.here hx rfl (hb hby d10_12) ?_
    show Steps p.tables e below (T5.setTop (mkF m 13 #[.val (.ref a1), .val (.int p2), .val (.int p3), .val (.int p4)] [(.int (1 : Int32)), (.int p2), (.ref a1)])) _
    refine XS.iadd X5.here hx rfl (hb hby d10_13) rfl ?_
    show Steps p.tables e below (T5.setTop (mkF m 14 #[.val (.ref a1), .val (.int p2), .val (.int p3), .val (.int p4)] [(.int (p2 + (1 : Int32))), (.ref a1)])) _
    refine XS.iloadN X5.here hx rfl (hb hby d10_14) rfl ?_
    show Steps p.tables e below (T5.setTop (mkF m 15 #[.val (.ref a1), .val (.int p2), .val (.int p3), .val (.int p4)] [(.int p4), (.int (p2 + (1 : Int32))), (.ref a1)])) _
    refine XS.bipush X5.here hx rfl (hb hby d10_15) ?_
    show Steps p.tables e below (T5.setTop (mkF m 17 #[.val (.ref a1), .val (.int p2), .val (.int p3), .val (.int p4)] [(.int (8 : Int32)), (.int p4), (.int (p2 + (1 : Int32))), (.ref a1)])) _
    refine XS.iushr X5.here hx rfl (hb hby d10_17) rfl ?_
    show Steps p.tables e below (T5.setTop (mkF m 18 #[.val (.ref a1), .val (.int p2), .val (.int p3), .val (.int p4)] [(.int ((p4.toUInt32 >>> ((8 : Int32) &&& 31).toUInt32).toInt32)), (.int (p2 + (1 : Int32))), (.ref a1)])) _
    refine XS.i2b X5.here hx rfl (hb hby d10_18) rfl ?_
    show Steps p.tables e below (T5.setTop (mkF m 19 #[.val (.ref a1), .val (.int p2), .val (.int p3), .val (.int p4)] [(.int (((p4.toUInt32 >>> ((8 : Int32) &&& 31).toUInt32).toInt32).toInt8.toInt32)), (.int (p2 + (1 : Int32))), (.ref a1)])) _
    refine st6 _ ?_
    show Steps p.tables e below (T6.setTop (mkF m 20 #[.val (.ref a1), .val (.int p2), .val (.int p3), .val (.int p4)] [])) _
    refine XS.iloadN X6.here hx rfl (hb hby d10_20) rfl ?_
    show Steps p.tables e below (T6.setTop (mkF m 21 #[.val (.ref a1), .val (.int p2), .val (.int p3), .val (.int p4)] [(.int p3)])) _
    refine XS.iconst X6.here hx rfl (hb hby d10_21) ?_
    show Steps p.tables e below (T6.setTop (mkF m 22 #[.val (.ref a1), .val (.int p2), .val (.int p3), .val (.int p4)] [(.int (2 : Int32)), (.int p3)])) _
    refine XS.icmpYes X6.here hx rfl (pc0 := 22) (pc' := 35) rfl (hb hby d10_22) rfl (flt hc22).2.2.2 (by decide) (by decide) ?_
    show Steps p.tables e below (T6.setTop (mkF m 35 #[.val (.ref a1), .val (.int p2), .val (.int p3), .val (.int p4)] [])) _
    refine XS.iloadN X6.here hx rfl (hb hby d10_35) rfl ?_
    show Steps p.tables e below (T6.setTop (mkF m 36 #[.val (.ref a1), .val (.int p2), .val (.int p3), .val (.int p4)] [(.int p3)])) _
    refine XS.iconst X6.here hx rfl (hb hby d10_36) ?_
    show Steps p.tables e below (T6.setTop (mkF m 37 #[.val (.ref a1), .val (.int p2), .val (.int p3), .val (.int p4)] [(.int (3 : Int32)), (.int p3)])) _
    refine XS.icmpYes X6.here hx rfl (pc0 := 37) (pc' := 50) rfl (hb hby d10_37) rfl (flt hc37).2.2.2 (by decide) (by decide) ?_
    show Steps p.tables e below (T6.setTop (mkF m 50 #[.val (.ref a1), .val (.int p2), .val (.int p3), .val (.int p4)] [])) _
    exact X6.returnOut hx Bd.returns (hb hby d10_50) hr
  · show Q10 Z a1 z (own_putB 2 B i p4) h0 n0 _ T6.heap _
    rw [e6]
    exact ⟨rfl, N6, K6, P2⟩
theorem d10_25 : decode prog_4_method_8_code 25 = .ok (.aload_n 0, 1) := by decide +kernel
theorem d10_26 : decode prog_4_method_8_code 26 = .ok (.iload_n 1, 1) := by decide +kernel
theorem d10_27 : decode prog_4_method_8_code 27 = .ok (.iconst 2, 1) := by decide +kernel
theorem d10_28 : decode prog_4_method_8_code 28 = .ok (.iadd, 1) := by decide +kernel
theorem d10_29 : decode prog_4_method_8_code 29 = .ok (.iload_n 3, 1) := by decide +kernel
theorem d10_30 : decode prog_4_method_8_code 30 = .ok (.bipush 16, 2) := by decide +kernel
theorem d10_32 : decode prog_4_method_8_code 32 = .ok (.iushr, 1) := by decide +kernel
theorem d10_33 : decode prog_4_method_8_code 33 = .ok (.i2b, 1) := by decide +kernel
theorem d10_34 : decode prog_4_method_8_code 34 = .ok (.bastore, 1) := by decide +kernel
set_option maxRecDepth 65536 in
set_option maxHeartbeats 40000000 in
theorem rm10_3 (l : Launch) (Z : State) (a0 : Array Value) (hw : ∀ d ∈ tables_1, d.before a0 Z = true) (ws : List Jvm.Cond) (a1 : Addr) (p2 p3 p4 : Int32) (h0 : Heap) (n0 : Nat) (Z0 : n0 ≤ h0.size) (z : Int32) (B : Nat → Int32) (i : Nat) (P0 : Pg Z h0 a1 z B) (g_a1 : n0 ≤ a1) (j0 : (p2).toNatClampNeg = i + 0) (u0 : ¬ (p2 < 0)) (j1 : ((p2 + (1 : Int32))).toNatClampNeg = i + 1) (u1 : ¬ ((p2 + (1 : Int32)) < 0)) (j2 : ((p2 + (2 : Int32))).toNatClampNeg = i + 2) (u2 : ¬ ((p2 + (2 : Int32)) < 0)) (j3 : ((p2 + (3 : Int32))).toNatClampNeg = i + 3) (u3 : ¬ ((p2 + (3 : Int32)) < 0)) (hz : i + 3 < z.toNatClampNeg) (hc7 : (1 : Int32) < p3) (hc22 : (2 : Int32) < p3) (hc37 : ¬ ((3 : Int32) < p3)) :
    MetFree l (⟨"com/example/agave_bloom/agavebloom/check/CompactInts", "_put", "([BIII)V"⟩ : MethodName) (head1 (Jvm.Cond.code (⟨"com/example/agave_bloom/agavebloom/check/CompactInts", "_put", "([BIII)V"⟩ : MethodName) prog_4_method_8_code 4 none :: ws) ({ frames := 0, cells := 0, slots := 0, locals := 0 } : Room)) (fun a U => a = #[(.ref a1), (.int p2), (.int p3), (.int p4)] ∧ Z.Warmed39 U.vm ∧ U.heap = h0) (fun _ _ _ _ _ => True) (fun _ U o U' => ∃ v L, o = .returned v ∧ Q10 Z a1 z (own_putB 3 B i p4) h0 n0 v U'.heap L ∧ FrameEnd U o U' L ({ frames := 0, cells := 0, slots := 0, locals := 0 } : Room).cells ({ frames := 0, cells := 0, slots := 0, locals := 0 } : Room).slots) := by
  refine MetFree.of_bodySF (plainFor_of_name pn_10) hisR ?_
  intro p e s m args below meth c s₁ Bd hml0 hP hK
  obtain ⟨rfl, hZ, hh⟩ := hP
  have hx := Bd.exec
  have hby := Bd.bytes
  have hml : c.maxLocals = 4 := hml0
  have hown : s.vm.findClass "com/example/agave_bloom/agavebloom/check/CompactInts" = some m.cls := findClass_of_methodNamed Bd.named
  have hnm := (name_of_methodNamed Bd.named Bd.method).1
  have X0 : Stand p l e ({ frames := 0, cells := 0, slots := 0, locals := 0 } : Room) s m #[(.ref a1), (.int p2), (.int p3), (.int p4)] below meth c s₁ [] 0 0 := Stand.of_body Bd
  have e0 : s₁.heap = h0 := by rw [← hh, Bd.state]; rfl
  have N0 := Fr.nil n0
  have pre0 : ∀ t, Steps p.tables e below (s₁.setTop (mkF m 0 #[.val (.ref a1), .val (.int p2), .val (.int p3), .val (.int p4)] [])) t → Steps p.tables e below (s₁.setTop (entryFrame m #[(.ref a1), (.int p2), (.int p3), (.int p4)] 4)) t := fun t k => castTop (ef_10 m a1 p2 p3 p4) k
  obtain ⟨cl0, Ar0, Sz0, Ct0⟩ := P0
  have hin4 : ¬ (p2 < 0 ∨ cl0.slots.size ≤ (p2).toNatClampNeg) := fun q => q.elim u0 (fun y => by rw [Sz0, j0] at y; omega)
  obtain ⟨T5, h5, X5, e5, W5, st5⟩ := stB X0 hx hZ e0 Ar0 (j := p2) hin4 (g := (mkF m 4 #[.val (.ref a1), .val (.int p2), .val (.int p3), .val (.int p4)] [(.int (p4.toInt8.toInt32)), (.int p2), (.ref a1)])) rfl rfl (hb hby d10_4)
  have P1 := Pg.wr ⟨cl0, Ar0, Sz0, Ct0⟩ W5
  rw [j0] at P1
  have N5 := Fr.snoc X5 N0 g_a1
  have K5 : Keep h0 h5 [a1] := (Keep.refl h0 [a1]).wr W5 (Or.inl (List.mem_of_getElem? (i := 0) rfl))
  obtain ⟨cl1, Ar1, Sz1, Ct1⟩ := P1
  have hin19 : ¬ ((p2 + (1 : Int32)) < 0 ∨ cl1.slots.size ≤ ((p2 + (1 : Int32))).toNatClampNeg) := fun q => q.elim u1 (fun y => by rw [Sz1, j1] at y; omega)
  obtain ⟨T6, h6, X6, e6, W6, st6⟩ := stB X5 hx hZ e5 Ar1 (j := (p2 + (1 : Int32))) hin19 (g := (mkF m 19 #[.val (.ref a1), .val (.int p2), .val (.int p3), .val (.int p4)] [(.int (((p4.toUInt32 >>> ((8 : Int32) &&& 31).toUInt32).toInt32).toInt8.toInt32)), (.int (p2 + (1 : Int32))), (.ref a1)])) rfl rfl (hb hby d10_19)
  have P2 := Pg.wr ⟨cl1, Ar1, Sz1, Ct1⟩ W6
  rw [j1] at P2
  have N6 := Fr.snoc X6 N5 g_a1
  have K6 : Keep h0 h6 [a1] := K5.wr W6 (Or.inl (List.mem_of_getElem? (i := 0) rfl))
  obtain ⟨cl2, Ar2, Sz2, Ct2⟩ := P2
  have hin34 : ¬ ((p2 + (2 : Int32)) < 0 ∨ cl2.slots.size ≤ ((p2 + (2 : Int32))).toNatClampNeg) := fun q => q.elim u2 (fun y => by rw [Sz2, j2] at y; omega)
  obtain ⟨T7, h7, X7, e7, W7, st7⟩ := stB X6 hx hZ e6 Ar2 (j := (p2 + (2 : Int32))) hin34 (g := (mkF m 34 #[.val (.ref a1), .val (.int p2), .val (.int p3), .val (.int p4)] [(.int (((p4.toUInt32 >>> ((16 : Int32) &&& 31).toUInt32).toInt32).toInt8.toInt32)), (.int (p2 + (2 : Int32))), (.ref a1)])) rfl rfl (hb hby d10_34)
  have P3 := Pg.wr ⟨cl2, Ar2, Sz2, Ct2⟩ W7
  rw [j2] at P3
  have N7 := Fr.snoc X7 N6 g_a1
  have K7 : Keep h0 h7 [a1] := K6.wr W7 (Or.inl (List.mem_of_getElem? (i := 0) rfl))
  obtain ⟨fs, hr, hrun, hended, hW, hsame⟩ := X7.leave (v := none) (fun _ => rfl)
  refine ⟨_, _, pre0 _ ?_, hrun, hended, _, _, rfl, ?_, ⟨_, rfl⟩, hW, hsame.mono (by decide) (by decide)⟩
  · show Steps p.tables e below (s₁.setTop (mkF m 0 #[.val (.ref a1), .val (.int p2), .val (.int p3), .val (.int p4)] [])) _
    refine XS.aloadN X0.here hx rfl (hb hby d10_0) rfl rfl ?_
    show Steps p.tables e below (s₁.setTop (mkF m 1 #[.val (.ref a1), .val (.int p2), .val (.int p3), .val (.int p4)] [(.ref a1)])) _
    refine XS.iloadN X0.here hx rfl (hb hby d10_1) rfl ?_
    show Steps p.tables e below (s₁.setTop (mkF m 2 #[.val (.ref a1), .val (.int p2), .val (.int p3), .val (.int p4)] [(.int p2), (.ref a1)])) _
    refine XS.iloadN X0.here hx rfl (hb hby d10_2) rfl ?_
    show Steps p.tables e below (s₁.setTop (mkF m 3 #[.val (.ref a1), .val (.int p2), .val (.int p3), .val (.int p4)] [(.int p4), (.int p2), (.ref a1)])) _
    refine XS.i2b X0.here hx rfl (hb hby d10_3) rfl ?_
    show Steps p.tables e below (s₁.setTop (mkF m 4 #[.val (.ref a1), .val (.int p2), .val (.int p3), .val (.int p4)] [(.int (p4.toInt8.toInt32)), (.int p2), (.ref a1)])) _
    refine st5 _ ?_
    show Steps p.tables e below (T5.setTop (mkF m 5 #[.val (.ref a1), .val (.int p2), .val (.int p3), .val (.int p4)] [])) _
    refine XS.iloadN X5.here hx rfl (hb hby d10_5) rfl ?_
    show Steps p.tables e below (T5.setTop (mkF m 6 #[.val (.ref a1), .val (.int p2), .val (.int p3), .val (.int p4)] [(.int p3)])) _
    refine XS.iconst X5.here hx rfl (hb hby d10_6) ?_
    show Steps p.tables e below (T5.setTop (mkF m 7 #[.val (.ref a1), .val (.int p2), .val (.int p3), .val (.int p4)] [(.int (1 : Int32)), (.int p3)])) _
    refine XS.icmpNo X5.here hx rfl (hb hby d10_7) rfl (tlt hc7).2.2.2 ?_
    show Steps p.tables e below (T5.setTop (mkF m 10 #[.val (.ref a1), .val (.int p2), .val (.int p3), .val (.int p4)] [])) _
    refine XS.aloadN X5.here hx rfl (hb hby d10_10) rfl rfl ?_
    show Steps p.tables e below (T5.setTop (mkF m 11 #[.val (.ref a1), .val (.int p2), .val (.int p3), .val (.int p4)] [(.ref a1)])) _
    refine XS.iloadN X5.here hx rfl (hb hby d10_11) rfl ?_
    show Steps p.tables e below (T5.setTop (mkF m 12 #[.val (.ref a1), .val (.int p2), .val (.int p3), .val (.int p4)] [(.int p2), (.ref a1)])) _
    refine XS.iconst X5.here hx rfl (hb hby d10_12) ?_
    show Steps p.tables e below (T5.setTop (mkF m 13 #[.val (.ref a1), .val (.int p2), .val (.int p3), .val (.int p4)] [(.int (1 : Int32)), (.int p2), (.ref a1)])) _
    refine XS.iadd X5.here hx rfl (hb hby d10_13) rfl ?_
    show Steps p.tables e below (T5.setTop (mkF m 14 #[.val (.ref a1), .val (.int p2), .val (.int p3), .val (.int p4)] [(.int (p2 + (1 : Int32))), (.ref a1)])) _
    refine XS.iloadN X5.here hx rfl (hb hby d10_14) rfl ?_
    show Steps p.tables e below (T5.setTop (mkF m 15 #[.val (.ref a1), .val (.int p2), .val (.int p3), .val (.int p4)] [(.int p4), (.int (p2 + (1 : Int32))), (.ref a1)])) _
    refine XS.bipush X5.here hx rfl (hb hby d10_15) ?_
    show Steps p.tables e below (T5.setTop (mkF m 17 #[.val (.ref a1), .val (.int p2), .val (.int p3), .val (.int p4)] [(.int (8 : Int32)), (.int p4), (.int (p2 + (1 : Int32))), (.ref a1)])) _
    refine XS.iushr X5.here hx rfl (hb hby d10_17) rfl ?_
    show Steps p.tables e below (T5.setTop (mkF m 18 #[.val (.ref a1), .val (.int p2), .val (.int p3), .val (.int p4)] [(.int ((p4.toUInt32 >>> ((8 : Int32) &&& 31).toUInt32).toInt32)), (.int (p2 + (1 : Int32))), (.ref a1)])) _
    refine XS.i2b X5.here hx rfl (hb hby d10_18) rfl ?_
    show Steps p.tables e below (T5.setTop (mkF m 19 #[.val (.ref a1), .val (.int p2), .val (.int p3), .val (.int p4)] [(.int (((p4.toUInt32 >>> ((8 : Int32) &&& 31).toUInt32).toInt32).toInt8.toInt32)), (.int (p2 + (1 : Int32))), (.ref a1)])) _
    refine st6 _ ?_
    show Steps p.tables e below (T6.setTop (mkF m 20 #[.val (.ref a1), .val (.int p2), .val (.int p3), .val (.int p4)] [])) _
    refine XS.iloadN X6.here hx rfl (hb hby d10_20) rfl ?_
    show Steps p.tables e below (T6.setTop (mkF m 21 #[.val (.ref a1), .val (.int p2), .val (.int p3), .val (.int p4)] [(.int p3)])) _
    refine XS.iconst X6.here hx rfl (hb hby d10_21) ?_
    show Steps p.tables e below (T6.setTop (mkF m 22 #[.val (.ref a1), .val (.int p2), .val (.int p3), .val (.int p4)] [(.int (2 : Int32)), (.int p3)])) _
    refine XS.icmpNo X6.here hx rfl (hb hby d10_22) rfl (tlt hc22).2.2.2 ?_
    show Steps p.tables e below (T6.setTop (mkF m 25 #[.val (.ref a1), .val (.int p2), .val (.int p3), .val (.int p4)] [])) _
    refine XS.aloadN X6.here hx rfl (hb hby d10_25) rfl rfl ?_
    show Steps p.tables e below (T6.setTop (mkF m 26 #[.val (.ref a1), .val (.int p2), .val (.int p3), .val (.int p4)] [(.ref a1)])) _
    refine XS.iloadN X6.here hx rfl (hb hby d10_26) rfl ?_
    show Steps p.tables e below (T6.setTop (mkF m 27 #[.val (.ref a1), .val (.int p2), .val (.int p3), .val (.int p4)] [(.int p2), (.ref a1)])) _
    refine XS.iconst X6.here hx rfl (hb hby d10_27) ?_
    show Steps p.tables e below (T6.setTop (mkF m 28 #[.val (.ref a1), .val (.int p2), .val (.int p3), .val (.int p4)] [(.int (2 : Int32)), (.int p2), (.ref a1)])) _
    refine XS.iadd X6.here hx rfl (hb hby d10_28) rfl ?_
    show Steps p.tables e below (T6.setTop (mkF m 29 #[.val (.ref a1), .val (.int p2), .val (.int p3), .val (.int p4)] [(.int (p2 + (2 : Int32))), (.ref a1)])) _
    refine XS.iloadN X6.here hx rfl (hb hby d10_29) rfl ?_
    show Steps p.tables e below (T6.setTop (mkF m 30 #[.val (.ref a1), .val (.int p2), .val (.int p3), .val (.int p4)] [(.int p4), (.int (p2 + (2 : Int32))), (.ref a1)])) _
    refine XS.bipush X6.here hx rfl (hb hby d10_30) ?_
    show Steps p.tables e below (T6.setTop (mkF m 32 #[.val (.ref a1), .val (.int p2), .val (.int p3), .val (.int p4)] [(.int (16 : Int32)), (.int p4), (.int (p2 + (2 : Int32))), (.ref a1)])) _
    refine XS.iushr X6.here hx rfl (hb hby d10_32) rfl ?_
    show Steps p.tables e below (T6.setTop (mkF m 33 #[.val (.ref a1), .val (.int p2), .val (.int p3), .val (.int p4)] [(.int ((p4.toUInt32 >>> ((16 : Int32) &&& 31).toUInt32).toInt32)), (.int (p2 + (2 : Int32))), (.ref a1)])) _
    refine XS.i2b X6.here hx rfl (hb hby d10_33) rfl ?_
    show Steps p.tables e below (T6.setTop (mkF m 34 #[.val (.ref a1), .val (.int p2), .val (.int p3), .val (.int p4)] [(.int (((p4.toUInt32 >>> ((16 : Int32) &&& 31).toUInt32).toInt32).toInt8.toInt32)), (.int (p2 + (2 : Int32))), (.ref a1)])) _
    refine st7 _ ?_
    show Steps p.tables e below (T7.setTop (mkF m 35 #[.val (.ref a1), .val (.int p2), .val (.int p3), .val (.int p4)] [])) _
    refine XS.iloadN X7.here hx rfl (hb hby d10_35) rfl ?_
    show Steps p.tables e below (T7.setTop (mkF m 36 #[.val (.ref a1), .val (.int p2), .val (.int p3), .val (.int p4)] [(.int p3)])) _
    refine XS.iconst X7.here hx rfl (hb hby d10_36) ?_
    show Steps p.tables e below (T7.setTop (mkF m 37 #[.val (.ref a1), .val (.int p2), .val (.int p3), .val (.int p4)] [(.int (3 : Int32)), (.int p3)])) _
    refine XS.icmpYes X7.here hx rfl (pc0 := 37) (pc' := 50) rfl (hb hby d10_37) rfl (flt hc37).2.2.2 (by decide) (by decide) ?_
    show Steps p.tables e below (T7.setTop (mkF m 50 #[.val (.ref a1), .val (.int p2), .val (.int p3), .val (.int p4)] [])) _
    exact X7.returnOut hx Bd.returns (hb hby d10_50) hr
  · show Q10 Z a1 z (own_putB 3 B i p4) h0 n0 _ T7.heap _
    rw [e7]
    exact ⟨rfl, N7, K7, P3⟩
theorem d10_40 : decode prog_4_method_8_code 40 = .ok (.aload_n 0, 1) := by decide +kernel
theorem d10_41 : decode prog_4_method_8_code 41 = .ok (.iload_n 1, 1) := by decide +kernel
theorem d10_42 : decode prog_4_method_8_code 42 = .ok (.iconst 3, 1) := by decide +kernel
theorem d10_43 : decode prog_4_method_8_code 43 = .ok (.iadd, 1) := by decide +kernel
theorem d10_44 : decode prog_4_method_8_code 44 = .ok (.iload_n 3, 1) := by decide +kernel
theorem d10_45 : decode prog_4_method_8_code 45 = .ok (.bipush 24, 2) := by decide +kernel
theorem d10_47 : decode prog_4_method_8_code 47 = .ok (.iushr, 1) := by decide +kernel
theorem d10_48 : decode prog_4_method_8_code 48 = .ok (.i2b, 1) := by decide +kernel
theorem d10_49 : decode prog_4_method_8_code 49 = .ok (.bastore, 1) := by decide +kernel
set_option maxRecDepth 65536 in
set_option maxHeartbeats 40000000 in
theorem rm10_4 (l : Launch) (Z : State) (a0 : Array Value) (hw : ∀ d ∈ tables_1, d.before a0 Z = true) (ws : List Jvm.Cond) (a1 : Addr) (p2 p3 p4 : Int32) (h0 : Heap) (n0 : Nat) (Z0 : n0 ≤ h0.size) (z : Int32) (B : Nat → Int32) (i : Nat) (P0 : Pg Z h0 a1 z B) (g_a1 : n0 ≤ a1) (j0 : (p2).toNatClampNeg = i + 0) (u0 : ¬ (p2 < 0)) (j1 : ((p2 + (1 : Int32))).toNatClampNeg = i + 1) (u1 : ¬ ((p2 + (1 : Int32)) < 0)) (j2 : ((p2 + (2 : Int32))).toNatClampNeg = i + 2) (u2 : ¬ ((p2 + (2 : Int32)) < 0)) (j3 : ((p2 + (3 : Int32))).toNatClampNeg = i + 3) (u3 : ¬ ((p2 + (3 : Int32)) < 0)) (hz : i + 3 < z.toNatClampNeg) (hc7 : (1 : Int32) < p3) (hc22 : (2 : Int32) < p3) (hc37 : (3 : Int32) < p3) :
    MetFree l (⟨"com/example/agave_bloom/agavebloom/check/CompactInts", "_put", "([BIII)V"⟩ : MethodName) (head1 (Jvm.Cond.code (⟨"com/example/agave_bloom/agavebloom/check/CompactInts", "_put", "([BIII)V"⟩ : MethodName) prog_4_method_8_code 4 none :: ws) ({ frames := 0, cells := 0, slots := 0, locals := 0 } : Room)) (fun a U => a = #[(.ref a1), (.int p2), (.int p3), (.int p4)] ∧ Z.Warmed39 U.vm ∧ U.heap = h0) (fun _ _ _ _ _ => True) (fun _ U o U' => ∃ v L, o = .returned v ∧ Q10 Z a1 z (own_putB 4 B i p4) h0 n0 v U'.heap L ∧ FrameEnd U o U' L ({ frames := 0, cells := 0, slots := 0, locals := 0 } : Room).cells ({ frames := 0, cells := 0, slots := 0, locals := 0 } : Room).slots) := by
  refine MetFree.of_bodySF (plainFor_of_name pn_10) hisR ?_
  intro p e s m args below meth c s₁ Bd hml0 hP hK
  obtain ⟨rfl, hZ, hh⟩ := hP
  have hx := Bd.exec
  have hby := Bd.bytes
  have hml : c.maxLocals = 4 := hml0
  have hown : s.vm.findClass "com/example/agave_bloom/agavebloom/check/CompactInts" = some m.cls := findClass_of_methodNamed Bd.named
  have hnm := (name_of_methodNamed Bd.named Bd.method).1
  have X0 : Stand p l e ({ frames := 0, cells := 0, slots := 0, locals := 0 } : Room) s m #[(.ref a1), (.int p2), (.int p3), (.int p4)] below meth c s₁ [] 0 0 := Stand.of_body Bd
  have e0 : s₁.heap = h0 := by rw [← hh, Bd.state]; rfl
  have N0 := Fr.nil n0
  have pre0 : ∀ t, Steps p.tables e below (s₁.setTop (mkF m 0 #[.val (.ref a1), .val (.int p2), .val (.int p3), .val (.int p4)] [])) t → Steps p.tables e below (s₁.setTop (entryFrame m #[(.ref a1), (.int p2), (.int p3), (.int p4)] 4)) t := fun t k => castTop (ef_10 m a1 p2 p3 p4) k
  obtain ⟨cl0, Ar0, Sz0, Ct0⟩ := P0
  have hin4 : ¬ (p2 < 0 ∨ cl0.slots.size ≤ (p2).toNatClampNeg) := fun q => q.elim u0 (fun y => by rw [Sz0, j0] at y; omega)
  obtain ⟨T5, h5, X5, e5, W5, st5⟩ := stB X0 hx hZ e0 Ar0 (j := p2) hin4 (g := (mkF m 4 #[.val (.ref a1), .val (.int p2), .val (.int p3), .val (.int p4)] [(.int (p4.toInt8.toInt32)), (.int p2), (.ref a1)])) rfl rfl (hb hby d10_4)
  have P1 := Pg.wr ⟨cl0, Ar0, Sz0, Ct0⟩ W5
  rw [j0] at P1
  have N5 := Fr.snoc X5 N0 g_a1
  have K5 : Keep h0 h5 [a1] := (Keep.refl h0 [a1]).wr W5 (Or.inl (List.mem_of_getElem? (i := 0) rfl))
  obtain ⟨cl1, Ar1, Sz1, Ct1⟩ := P1
  have hin19 : ¬ ((p2 + (1 : Int32)) < 0 ∨ cl1.slots.size ≤ ((p2 + (1 : Int32))).toNatClampNeg) := fun q => q.elim u1 (fun y => by rw [Sz1, j1] at y; omega)
  obtain ⟨T6, h6, X6, e6, W6, st6⟩ := stB X5 hx hZ e5 Ar1 (j := (p2 + (1 : Int32))) hin19 (g := (mkF m 19 #[.val (.ref a1), .val (.int p2), .val (.int p3), .val (.int p4)] [(.int (((p4.toUInt32 >>> ((8 : Int32) &&& 31).toUInt32).toInt32).toInt8.toInt32)), (.int (p2 + (1 : Int32))), (.ref a1)])) rfl rfl (hb hby d10_19)
  have P2 := Pg.wr ⟨cl1, Ar1, Sz1, Ct1⟩ W6
  rw [j1] at P2
  have N6 := Fr.snoc X6 N5 g_a1
  have K6 : Keep h0 h6 [a1] := K5.wr W6 (Or.inl (List.mem_of_getElem? (i := 0) rfl))
  obtain ⟨cl2, Ar2, Sz2, Ct2⟩ := P2
  have hin34 : ¬ ((p2 + (2 : Int32)) < 0 ∨ cl2.slots.size ≤ ((p2 + (2 : Int32))).toNatClampNeg) := fun q => q.elim u2 (fun y => by rw [Sz2, j2] at y; omega)
  obtain ⟨T7, h7, X7, e7, W7, st7⟩ := stB X6 hx hZ e6 Ar2 (j := (p2 + (2 : Int32))) hin34 (g := (mkF m 34 #[.val (.ref a1), .val (.int p2), .val (.int p3), .val (.int p4)] [(.int (((p4.toUInt32 >>> ((16 : Int32) &&& 31).toUInt32).toInt32).toInt8.toInt32)), (.int (p2 + (2 : Int32))), (.ref a1)])) rfl rfl (hb hby d10_34)
  have P3 := Pg.wr ⟨cl2, Ar2, Sz2, Ct2⟩ W7
  rw [j2] at P3
  have N7 := Fr.snoc X7 N6 g_a1
  have K7 : Keep h0 h7 [a1] := K6.wr W7 (Or.inl (List.mem_of_getElem? (i := 0) rfl))
  obtain ⟨cl3, Ar3, Sz3, Ct3⟩ := P3
  have hin49 : ¬ ((p2 + (3 : Int32)) < 0 ∨ cl3.slots.size ≤ ((p2 + (3 : Int32))).toNatClampNeg) := fun q => q.elim u3 (fun y => by rw [Sz3, j3] at y; omega)
  obtain ⟨T8, h8, X8, e8, W8, st8⟩ := stB X7 hx hZ e7 Ar3 (j := (p2 + (3 : Int32))) hin49 (g := (mkF m 49 #[.val (.ref a1), .val (.int p2), .val (.int p3), .val (.int p4)] [(.int (((p4.toUInt32 >>> ((24 : Int32) &&& 31).toUInt32).toInt32).toInt8.toInt32)), (.int (p2 + (3 : Int32))), (.ref a1)])) rfl rfl (hb hby d10_49)
  have P4 := Pg.wr ⟨cl3, Ar3, Sz3, Ct3⟩ W8
  rw [j3] at P4
  have N8 := Fr.snoc X8 N7 g_a1
  have K8 : Keep h0 h8 [a1] := K7.wr W8 (Or.inl (List.mem_of_getElem? (i := 0) rfl))
  obtain ⟨fs, hr, hrun, hended, hW, hsame⟩ := X8.leave (v := none) (fun _ => rfl)
  refine ⟨_, _, pre0 _ ?_, hrun, hended, _, _, rfl, ?_, ⟨_, rfl⟩, hW, hsame.mono (by decide) (by decide)⟩
  · show Steps p.tables e below (s₁.setTop (mkF m 0 #[.val (.ref a1), .val (.int p2), .val (.int p3), .val (.int p4)] [])) _
    refine XS.aloadN X0.here hx rfl (hb hby d10_0) rfl rfl ?_
    show Steps p.tables e below (s₁.setTop (mkF m 1 #[.val (.ref a1), .val (.int p2), .val (.int p3), .val (.int p4)] [(.ref a1)])) _
    refine XS.iloadN X0.here hx rfl (hb hby d10_1) rfl ?_
    show Steps p.tables e below (s₁.setTop (mkF m 2 #[.val (.ref a1), .val (.int p2), .val (.int p3), .val (.int p4)] [(.int p2), (.ref a1)])) _
    refine XS.iloadN X0.here hx rfl (hb hby d10_2) rfl ?_
    show Steps p.tables e below (s₁.setTop (mkF m 3 #[.val (.ref a1), .val (.int p2), .val (.int p3), .val (.int p4)] [(.int p4), (.int p2), (.ref a1)])) _
    refine XS.i2b X0.here hx rfl (hb hby d10_3) rfl ?_
    show Steps p.tables e below (s₁.setTop (mkF m 4 #[.val (.ref a1), .val (.int p2), .val (.int p3), .val (.int p4)] [(.int (p4.toInt8.toInt32)), (.int p2), (.ref a1)])) _
    refine st5 _ ?_
    show Steps p.tables e below (T5.setTop (mkF m 5 #[.val (.ref a1), .val (.int p2), .val (.int p3), .val (.int p4)] [])) _
    refine XS.iloadN X5.here hx rfl (hb hby d10_5) rfl ?_
    show Steps p.tables e below (T5.setTop (mkF m 6 #[.val (.ref a1), .val (.int p2), .val (.int p3), .val (.int p4)] [(.int p3)])) _
    refine XS.iconst X5.here hx rfl (hb hby d10_6) ?_
    show Steps p.tables e below (T5.setTop (mkF m 7 #[.val (.ref a1), .val (.int p2), .val (.int p3), .val (.int p4)] [(.int (1 : Int32)), (.int p3)])) _
    refine XS.icmpNo X5.here hx rfl (hb hby d10_7) rfl (tlt hc7).2.2.2 ?_
    show Steps p.tables e below (T5.setTop (mkF m 10 #[.val (.ref a1), .val (.int p2), .val (.int p3), .val (.int p4)] [])) _
    refine XS.aloadN X5.here hx rfl (hb hby d10_10) rfl rfl ?_
    show Steps p.tables e below (T5.setTop (mkF m 11 #[.val (.ref a1), .val (.int p2), .val (.int p3), .val (.int p4)] [(.ref a1)])) _
    refine XS.iloadN X5.here hx rfl (hb hby d10_11) rfl ?_
    show Steps p.tables e below (T5.setTop (mkF m 12 #[.val (.ref a1), .val (.int p2), .val (.int p3), .val (.int p4)] [(.int p2), (.ref a1)])) _
    refine XS.iconst X5.here hx rfl (hb hby d10_12) ?_
    show Steps p.tables e below (T5.setTop (mkF m 13 #[.val (.ref a1), .val (.int p2), .val (.int p3), .val (.int p4)] [(.int (1 : Int32)), (.int p2), (.ref a1)])) _
    refine XS.iadd X5.here hx rfl (hb hby d10_13) rfl ?_
    show Steps p.tables e below (T5.setTop (mkF m 14 #[.val (.ref a1), .val (.int p2), .val (.int p3), .val (.int p4)] [(.int (p2 + (1 : Int32))), (.ref a1)])) _
    refine XS.iloadN X5.here hx rfl (hb hby d10_14) rfl ?_
    show Steps p.tables e below (T5.setTop (mkF m 15 #[.val (.ref a1), .val (.int p2), .val (.int p3), .val (.int p4)] [(.int p4), (.int (p2 + (1 : Int32))), (.ref a1)])) _
    refine XS.bipush X5.here hx rfl (hb hby d10_15) ?_
    show Steps p.tables e below (T5.setTop (mkF m 17 #[.val (.ref a1), .val (.int p2), .val (.int p3), .val (.int p4)] [(.int (8 : Int32)), (.int p4), (.int (p2 + (1 : Int32))), (.ref a1)])) _
    refine XS.iushr X5.here hx rfl (hb hby d10_17) rfl ?_
    show Steps p.tables e below (T5.setTop (mkF m 18 #[.val (.ref a1), .val (.int p2), .val (.int p3), .val (.int p4)] [(.int ((p4.toUInt32 >>> ((8 : Int32) &&& 31).toUInt32).toInt32)), (.int (p2 + (1 : Int32))), (.ref a1)])) _
    refine XS.i2b X5.here hx rfl (hb hby d10_18) rfl ?_
    show Steps p.tables e below (T5.setTop (mkF m 19 #[.val (.ref a1), .val (.int p2), .val (.int p3), .val (.int p4)] [(.int (((p4.toUInt32 >>> ((8 : Int32) &&& 31).toUInt32).toInt32).toInt8.toInt32)), (.int (p2 + (1 : Int32))), (.ref a1)])) _
    refine st6 _ ?_
    show Steps p.tables e below (T6.setTop (mkF m 20 #[.val (.ref a1), .val (.int p2), .val (.int p3), .val (.int p4)] [])) _
    refine XS.iloadN X6.here hx rfl (hb hby d10_20) rfl ?_
    show Steps p.tables e below (T6.setTop (mkF m 21 #[.val (.ref a1), .val (.int p2), .val (.int p3), .val (.int p4)] [(.int p3)])) _
    refine XS.iconst X6.here hx rfl (hb hby d10_21) ?_
    show Steps p.tables e below (T6.setTop (mkF m 22 #[.val (.ref a1), .val (.int p2), .val (.int p3), .val (.int p4)] [(.int (2 : Int32)), (.int p3)])) _
    refine XS.icmpNo X6.here hx rfl (hb hby d10_22) rfl (tlt hc22).2.2.2 ?_
    show Steps p.tables e below (T6.setTop (mkF m 25 #[.val (.ref a1), .val (.int p2), .val (.int p3), .val (.int p4)] [])) _
    refine XS.aloadN X6.here hx rfl (hb hby d10_25) rfl rfl ?_
    show Steps p.tables e below (T6.setTop (mkF m 26 #[.val (.ref a1), .val (.int p2), .val (.int p3), .val (.int p4)] [(.ref a1)])) _
    refine XS.iloadN X6.here hx rfl (hb hby d10_26) rfl ?_
    show Steps p.tables e below (T6.setTop (mkF m 27 #[.val (.ref a1), .val (.int p2), .val (.int p3), .val (.int p4)] [(.int p2), (.ref a1)])) _
    refine XS.iconst X6.here hx rfl (hb hby d10_27) ?_
    show Steps p.tables e below (T6.setTop (mkF m 28 #[.val (.ref a1), .val (.int p2), .val (.int p3), .val (.int p4)] [(.int (2 : Int32)), (.int p2), (.ref a1)])) _
    refine XS.iadd X6.here hx rfl (hb hby d10_28) rfl ?_
    show Steps p.tables e below (T6.setTop (mkF m 29 #[.val (.ref a1), .val (.int p2), .val (.int p3), .val (.int p4)] [(.int (p2 + (2 : Int32))), (.ref a1)])) _
    refine XS.iloadN X6.here hx rfl (hb hby d10_29) rfl ?_
    show Steps p.tables e below (T6.setTop (mkF m 30 #[.val (.ref a1), .val (.int p2), .val (.int p3), .val (.int p4)] [(.int p4), (.int (p2 + (2 : Int32))), (.ref a1)])) _
    refine XS.bipush X6.here hx rfl (hb hby d10_30) ?_
    show Steps p.tables e below (T6.setTop (mkF m 32 #[.val (.ref a1), .val (.int p2), .val (.int p3), .val (.int p4)] [(.int (16 : Int32)), (.int p4), (.int (p2 + (2 : Int32))), (.ref a1)])) _
    refine XS.iushr X6.here hx rfl (hb hby d10_32) rfl ?_
    show Steps p.tables e below (T6.setTop (mkF m 33 #[.val (.ref a1), .val (.int p2), .val (.int p3), .val (.int p4)] [(.int ((p4.toUInt32 >>> ((16 : Int32) &&& 31).toUInt32).toInt32)), (.int (p2 + (2 : Int32))), (.ref a1)])) _
    refine XS.i2b X6.here hx rfl (hb hby d10_33) rfl ?_
    show Steps p.tables e below (T6.setTop (mkF m 34 #[.val (.ref a1), .val (.int p2), .val (.int p3), .val (.int p4)] [(.int (((p4.toUInt32 >>> ((16 : Int32) &&& 31).toUInt32).toInt32).toInt8.toInt32)), (.int (p2 + (2 : Int32))), (.ref a1)])) _
    refine st7 _ ?_
    show Steps p.tables e below (T7.setTop (mkF m 35 #[.val (.ref a1), .val (.int p2), .val (.int p3), .val (.int p4)] [])) _
    refine XS.iloadN X7.here hx rfl (hb hby d10_35) rfl ?_
    show Steps p.tables e below (T7.setTop (mkF m 36 #[.val (.ref a1), .val (.int p2), .val (.int p3), .val (.int p4)] [(.int p3)])) _
    refine XS.iconst X7.here hx rfl (hb hby d10_36) ?_
    show Steps p.tables e below (T7.setTop (mkF m 37 #[.val (.ref a1), .val (.int p2), .val (.int p3), .val (.int p4)] [(.int (3 : Int32)), (.int p3)])) _
    refine XS.icmpNo X7.here hx rfl (hb hby d10_37) rfl (tlt hc37).2.2.2 ?_
    show Steps p.tables e below (T7.setTop (mkF m 40 #[.val (.ref a1), .val (.int p2), .val (.int p3), .val (.int p4)] [])) _
    refine XS.aloadN X7.here hx rfl (hb hby d10_40) rfl rfl ?_
    show Steps p.tables e below (T7.setTop (mkF m 41 #[.val (.ref a1), .val (.int p2), .val (.int p3), .val (.int p4)] [(.ref a1)])) _
    refine XS.iloadN X7.here hx rfl (hb hby d10_41) rfl ?_
    show Steps p.tables e below (T7.setTop (mkF m 42 #[.val (.ref a1), .val (.int p2), .val (.int p3), .val (.int p4)] [(.int p2), (.ref a1)])) _
    refine XS.iconst X7.here hx rfl (hb hby d10_42) ?_
    show Steps p.tables e below (T7.setTop (mkF m 43 #[.val (.ref a1), .val (.int p2), .val (.int p3), .val (.int p4)] [(.int (3 : Int32)), (.int p2), (.ref a1)])) _
    refine XS.iadd X7.here hx rfl (hb hby d10_43) rfl ?_
    show Steps p.tables e below (T7.setTop (mkF m 44 #[.val (.ref a1), .val (.int p2), .val (.int p3), .val (.int p4)] [(.int (p2 + (3 : Int32))), (.ref a1)])) _
    refine XS.iloadN X7.here hx rfl (hb hby d10_44) rfl ?_
    show Steps p.tables e below (T7.setTop (mkF m 45 #[.val (.ref a1), .val (.int p2), .val (.int p3), .val (.int p4)] [(.int p4), (.int (p2 + (3 : Int32))), (.ref a1)])) _
    refine XS.bipush X7.here hx rfl (hb hby d10_45) ?_
    show Steps p.tables e below (T7.setTop (mkF m 47 #[.val (.ref a1), .val (.int p2), .val (.int p3), .val (.int p4)] [(.int (24 : Int32)), (.int p4), (.int (p2 + (3 : Int32))), (.ref a1)])) _
    refine XS.iushr X7.here hx rfl (hb hby d10_47) rfl ?_
    show Steps p.tables e below (T7.setTop (mkF m 48 #[.val (.ref a1), .val (.int p2), .val (.int p3), .val (.int p4)] [(.int ((p4.toUInt32 >>> ((24 : Int32) &&& 31).toUInt32).toInt32)), (.int (p2 + (3 : Int32))), (.ref a1)])) _
    refine XS.i2b X7.here hx rfl (hb hby d10_48) rfl ?_
    show Steps p.tables e below (T7.setTop (mkF m 49 #[.val (.ref a1), .val (.int p2), .val (.int p3), .val (.int p4)] [(.int (((p4.toUInt32 >>> ((24 : Int32) &&& 31).toUInt32).toInt32).toInt8.toInt32)), (.int (p2 + (3 : Int32))), (.ref a1)])) _
    refine st8 _ ?_
    show Steps p.tables e below (T8.setTop (mkF m 50 #[.val (.ref a1), .val (.int p2), .val (.int p3), .val (.int p4)] [])) _
    exact X8.returnOut hx Bd.returns (hb hby d10_50) hr
  · show Q10 Z a1 z (own_putB 4 B i p4) h0 n0 _ T8.heap _
    rw [e8]
    exact ⟨rfl, N8, K8, P4⟩
theorem rm10 (l : Launch) (Z : State) (a0 : Array Value) (hw : ∀ d ∈ tables_1, d.before a0 Z = true) (ws : List Jvm.Cond) (a1 : Addr) (p2 p3 p4 : Int32) (h0 : Heap) (n0 : Nat) (Z0 : n0 ≤ h0.size) (z : Int32) (B : Nat → Int32) (i : Nat) (P0 : Pg Z h0 a1 z B) (g_a1 : n0 ≤ a1) (j0 : (p2).toNatClampNeg = i + 0) (u0 : ¬ (p2 < 0)) (j1 : ((p2 + (1 : Int32))).toNatClampNeg = i + 1) (u1 : ¬ ((p2 + (1 : Int32)) < 0)) (j2 : ((p2 + (2 : Int32))).toNatClampNeg = i + 2) (u2 : ¬ ((p2 + (2 : Int32)) < 0)) (j3 : ((p2 + (3 : Int32))).toNatClampNeg = i + 3) (u3 : ¬ ((p2 + (3 : Int32)) < 0)) (hz : i + 3 < z.toNatClampNeg) (hW : own_okW p3) :
    MetFree l (⟨"com/example/agave_bloom/agavebloom/check/CompactInts", "_put", "([BIII)V"⟩ : MethodName) (head1 (Jvm.Cond.code (⟨"com/example/agave_bloom/agavebloom/check/CompactInts", "_put", "([BIII)V"⟩ : MethodName) prog_4_method_8_code 4 none :: ws) ({ frames := 0, cells := 0, slots := 0, locals := 0 } : Room)) (fun a U => a = #[(.ref a1), (.int p2), (.int p3), (.int p4)] ∧ Z.Warmed39 U.vm ∧ U.heap = h0) (fun _ _ _ _ _ => True) (fun _ U o U' => ∃ v L, o = .returned v ∧ Q10 Z a1 z (own_putB p3 B i p4) h0 n0 v U'.heap L ∧ FrameEnd U o U' L ({ frames := 0, cells := 0, slots := 0, locals := 0 } : Room).cells ({ frames := 0, cells := 0, slots := 0, locals := 0 } : Room).slots) := by
  rcases hW with rfl | rfl | rfl | rfl
  · exact rm10_1 l Z a0 hw ws a1 p2 1 p4 h0 n0 Z0 z B i P0 g_a1 j0 u0 j1 u1 j2 u2 j3 u3 hz (by decide) (by decide) (by decide)
  · exact rm10_2 l Z a0 hw ws a1 p2 2 p4 h0 n0 Z0 z B i P0 g_a1 j0 u0 j1 u1 j2 u2 j3 u3 hz (by decide) (by decide) (by decide)
  · exact rm10_3 l Z a0 hw ws a1 p2 3 p4 h0 n0 Z0 z B i P0 g_a1 j0 u0 j1 u1 j2 u2 j3 u3 hz (by decide) (by decide) (by decide)
  · exact rm10_4 l Z a0 hw ws a1 p2 4 p4 h0 n0 Z0 z B i P0 g_a1 j0 u0 j1 u1 j2 u2 j3 u3 hz (by decide) (by decide) (by decide)
theorem d11_0 : decode prog_4_method_3_code 0 = .ok (.aload_n 0, 1) := by decide +kernel
theorem d11_1 : decode prog_4_method_3_code 1 = .ok (.getfield 11, 3) := by decide +kernel
theorem d11_4 : decode prog_4_method_3_code 4 = .ok (.iload_n 1, 1) := by decide +kernel
theorem d11_5 : decode prog_4_method_3_code 5 = .ok (.getstatic 31, 3) := by decide +kernel
theorem d11_8 : decode prog_4_method_3_code 8 = .ok (.iushr, 1) := by decide +kernel
theorem d11_9 : decode prog_4_method_3_code 9 = .ok (.aaload, 1) := by decide +kernel
theorem d11_10 : decode prog_4_method_3_code 10 = .ok (.astore_n 2, 1) := by decide +kernel
theorem d11_11 : decode prog_4_method_3_code 11 = .ok (.iload_n 1, 1) := by decide +kernel
theorem d11_12 : decode prog_4_method_3_code 12 = .ok (.ldc 34, 2) := by decide +kernel
theorem d11_14 : decode prog_4_method_3_code 14 = .ok (.iand, 1) := by decide +kernel
theorem d11_15 : decode prog_4_method_3_code 15 = .ok (.aload_n 0, 1) := by decide +kernel
theorem d11_16 : decode prog_4_method_3_code 16 = .ok (.getfield 17, 3) := by decide +kernel
theorem d11_19 : decode prog_4_method_3_code 19 = .ok (.imul, 1) := by decide +kernel
theorem d11_20 : decode prog_4_method_3_code 20 = .ok (.istore_n 3, 1) := by decide +kernel
theorem d11_21 : decode prog_4_method_3_code 21 = .ok (.aload_n 0, 1) := by decide +kernel
theorem d11_22 : decode prog_4_method_3_code 22 = .ok (.getfield 17, 3) := by decide +kernel
theorem d11_25 : decode prog_4_method_3_code 25 = .ok (.tableswitch 90 1 3 #[27, 35, 56], 27) := by decide +kernel
theorem d11_52 : decode prog_4_method_3_code 52 = .ok (.aload_n 2, 1) := by decide +kernel
theorem d11_53 : decode prog_4_method_3_code 53 = .ok (.iload_n 3, 1) := by decide +kernel
theorem d11_54 : decode prog_4_method_3_code 54 = .ok (.baload, 1) := by decide +kernel
theorem d11_55 : decode prog_4_method_3_code 55 = .ok (.sipush 255, 3) := by decide +kernel
theorem d11_58 : decode prog_4_method_3_code 58 = .ok (.iand, 1) := by decide +kernel
theorem d11_59 : decode prog_4_method_3_code 59 = .ok (.ireturn, 1) := by decide +kernel
theorem pn_11 : plainName "com/example/agave_bloom/agavebloom/check/CompactInts" = true := by first | (simp [plainName, overriddenIn]; done) | decide +kernel
theorem ef_11 (m : MethodId) (x0 : Addr) (x1 : Int32) : entryFrame m #[(.ref x0), (.int x1)] 4 = mkF m 0 #[.val (.ref x0), .val (.int x1), .unset, .unset] [] := by first | (simp [entryFrame, mkF, argsToLocals, Value.category]; done) | rfl
set_option maxRecDepth 65536 in
set_option maxHeartbeats 40000000 in
theorem rm11_1 (l : Launch) (Z : State) (a0 : Array Value) (hw : ∀ d ∈ tables_1, d.before a0 Z = true) (ws : List Jvm.Cond) (a1 : Addr) (p2 : Int32) (w3 : Addr) (w6 : Addr) (cl_w3 : Cell) (w7 : Int32) (w10 : Int32) (cl_w6 : Cell) (h0 : Heap) (n0 : Nat) (Z0 : n0 ≤ h0.size) (F_m_aPages_a1 : Fld Z h0 a1 "com/example/agave_bloom/agavebloom/check/CompactInts" "m_aPages" "[[B" (.ref w3)) (S_PAGE_SHIFT : Sta Z h0 "com/example/agave_bloom/agavebloom/check/CompactInts" "PAGE_SHIFT" "I" (.int (16 : Int32))) (Ar_w3 : Arr Z h0 w3 cl_w3 (.array .byte)) (hin9 : ¬ (((p2.toUInt32 >>> ((16 : Int32) &&& 31).toUInt32).toInt32) < 0 ∨ cl_w3.slots.size ≤ (((p2.toUInt32 >>> ((16 : Int32) &&& 31).toUInt32).toInt32)).toNatClampNeg)) (hat9 : cl_w3.slots[(((p2.toUInt32 >>> ((16 : Int32) &&& 31).toUInt32).toInt32)).toNatClampNeg]? = some (.ref w6)) (F_m_nWidth_a1 : Fld Z h0 a1 "com/example/agave_bloom/agavebloom/check/CompactInts" "m_nWidth" "I" (.int w7)) (Ar_w6 : Arr Z h0 w6 cl_w6 .byte) (hin54 : ¬ (((p2 &&& (65535 : Int32)) * w7) < 0 ∨ cl_w6.slots.size ≤ (((p2 &&& (65535 : Int32)) * w7)).toNatClampNeg)) (hat54 : cl_w6.slots[(((p2 &&& (65535 : Int32)) * w7)).toNatClampNeg]? = some (.int w10)) (hs25 : w7 = (1 : Int32)) :
    MetFree l (⟨"com/example/agave_bloom/agavebloom/check/CompactInts", "get", "(I)I"⟩ : MethodName) (head1 (Jvm.Cond.code (⟨"com/example/agave_bloom/agavebloom/check/CompactInts", "get", "(I)I"⟩ : MethodName) prog_4_method_3_code 4 (some .int) :: ws) ({ frames := 0, cells := 0, slots := 0, locals := 0 } : Room)) (fun a U => a = #[(.ref a1), (.int p2)] ∧ Z.Warmed39 U.vm ∧ U.heap = h0) (fun _ _ _ _ _ => True) (fun _ U o U' => ∃ v L, o = .returned v ∧ Q11 ((w10 &&& (255 : Int32))) h0 n0 v U'.heap L ∧ FrameEnd U o U' L ({ frames := 0, cells := 0, slots := 0, locals := 0 } : Room).cells ({ frames := 0, cells := 0, slots := 0, locals := 0 } : Room).slots) := by
  refine MetFree.of_bodySF (plainFor_of_name pn_11) hisR ?_
  intro p e s m args below meth c s₁ Bd hml0 hP hK
  obtain ⟨rfl, hZ, hh⟩ := hP
  have hx := Bd.exec
  have hby := Bd.bytes
  have hml : c.maxLocals = 4 := hml0
  have hown : s.vm.findClass "com/example/agave_bloom/agavebloom/check/CompactInts" = some m.cls := findClass_of_methodNamed Bd.named
  have hnm := (name_of_methodNamed Bd.named Bd.method).1
  have X0 : Stand p l e ({ frames := 0, cells := 0, slots := 0, locals := 0 } : Room) s m #[(.ref a1), (.int p2)] below meth c s₁ [] 0 0 := Stand.of_body Bd
  have e0 : s₁.heap = h0 := by rw [← hh, Bd.state]; rfl
  have N0 := Fr.nil n0
  have pre0 : ∀ t, Steps p.tables e below (s₁.setTop (mkF m 0 #[.val (.ref a1), .val (.int p2), .unset, .unset] [])) t → Steps p.tables e below (s₁.setTop (entryFrame m #[(.ref a1), (.int p2)] 4)) t := fun t k => castTop (ef_11 m a1 p2) k
  obtain ⟨T4, X4, e4, st4⟩ := getF X0 hx hZ hown (host := "") (Or.inl (hw _ (List.mem_of_getElem? (i := 12) rfl))) Via.refl e0 F_m_aPages_a1 (g := (mkF m 1 #[.val (.ref a1), .val (.int p2), .unset, .unset] [(.ref a1)])) rfl rfl (hb hby d11_1)
  obtain ⟨T5, X5, e5, st5⟩ := getS2 X4 hx hZ hown (host := "") (Or.inl (hw _ (List.mem_of_getElem? (i := 42) rfl))) Via.refl e4 S_PAGE_SHIFT (g := (mkF m 5 #[.val (.ref a1), .val (.int p2), .unset, .unset] [(.int p2), (.ref w3)])) rfl (hb hby d11_5)
  obtain ⟨T8, X8, e8, st8⟩ := getF X5 hx hZ hown (host := "") (Or.inl (hw _ (List.mem_of_getElem? (i := 14) rfl))) Via.refl e5 F_m_nWidth_a1 (g := (mkF m 16 #[.val (.ref a1), .val (.int p2), .val (.ref w6), .unset] [(.ref a1), (.int (p2 &&& (65535 : Int32)))])) rfl rfl (hb hby d11_16)
  obtain ⟨T9, X9, e9, st9⟩ := getF X8 hx hZ hown (host := "") (Or.inl (hw _ (List.mem_of_getElem? (i := 14) rfl))) Via.refl e8 F_m_nWidth_a1 (g := (mkF m 22 #[.val (.ref a1), .val (.int p2), .val (.ref w6), .val (.int ((p2 &&& (65535 : Int32)) * w7))] [(.ref a1)])) rfl rfl (hb hby d11_22)
  obtain ⟨fs, hr, hrun, hended, hW, hsame⟩ := X9.leave (v := some (.int (w10 &&& (255 : Int32)))) (fun h => by rw [Bd.returns] at h; cases h)
  refine ⟨_, _, pre0 _ ?_, hrun, hended, _, _, rfl, ?_, ⟨_, rfl⟩, hW, hsame.mono (by decide) (by decide)⟩
  · show Steps p.tables e below (s₁.setTop (mkF m 0 #[.val (.ref a1), .val (.int p2), .unset, .unset] [])) _
    refine XS.aloadN X0.here hx rfl (hb hby d11_0) rfl rfl ?_
    show Steps p.tables e below (s₁.setTop (mkF m 1 #[.val (.ref a1), .val (.int p2), .unset, .unset] [(.ref a1)])) _
    refine st4 _ ?_
    show Steps p.tables e below (T4.setTop (mkF m 4 #[.val (.ref a1), .val (.int p2), .unset, .unset] [(.ref w3)])) _
    refine XS.iloadN X4.here hx rfl (hb hby d11_4) rfl ?_
    show Steps p.tables e below (T4.setTop (mkF m 5 #[.val (.ref a1), .val (.int p2), .unset, .unset] [(.int p2), (.ref w3)])) _
    refine st5 _ ?_
    show Steps p.tables e below (T5.setTop (mkF m 8 #[.val (.ref a1), .val (.int p2), .unset, .unset] [(.int (16 : Int32)), (.int p2), (.ref w3)])) _
    refine XS.iushr X5.here hx rfl (hb hby d11_8) rfl ?_
    show Steps p.tables e below (T5.setTop (mkF m 9 #[.val (.ref a1), .val (.int p2), .unset, .unset] [(.int ((p2.toUInt32 >>> ((16 : Int32) &&& 31).toUInt32).toInt32)), (.ref w3)])) _
    refine X5.aaload hx (j := ((p2.toUInt32 >>> ((16 : Int32) &&& 31).toUInt32).toInt32)) (v := (.ref w6)) (by rw [e5]; exact Ar_w3.1) (State.isArrayOf_alike hZ.alike Ar_w3.2.1) rfl Ar_w3.2.2 hin9 hat9 (g := (mkF m 9 #[.val (.ref a1), .val (.int p2), .unset, .unset] [(.int ((p2.toUInt32 >>> ((16 : Int32) &&& 31).toUInt32).toInt32)), (.ref w3)])) rfl rfl (hb hby d11_9) _ ?_
    show Steps p.tables e below (T5.setTop (mkF m 10 #[.val (.ref a1), .val (.int p2), .unset, .unset] [(.ref w6)])) _
    refine XS.astoreN X5.here hx rfl (hb hby d11_10) rfl rfl (l' := #[.val (.ref a1), .val (.int p2), .val (.ref w6), .unset]) rfl ?_
    show Steps p.tables e below (T5.setTop (mkF m 11 #[.val (.ref a1), .val (.int p2), .val (.ref w6), .unset] [])) _
    refine XS.iloadN X5.here hx rfl (hb hby d11_11) rfl ?_
    show Steps p.tables e below (T5.setTop (mkF m 12 #[.val (.ref a1), .val (.int p2), .val (.ref w6), .unset] [(.int p2)])) _
    refine X5.ldcInt hx hown (mvT hZ (hw _ (List.mem_of_getElem? (i := 44) rfl))) (g := (mkF m 12 #[.val (.ref a1), .val (.int p2), .val (.ref w6), .unset] [(.int p2)])) rfl (hb hby d11_12) _ ?_
    show Steps p.tables e below (T5.setTop (mkF m 14 #[.val (.ref a1), .val (.int p2), .val (.ref w6), .unset] [(.int (65535 : Int32)), (.int p2)])) _
    refine XS.iand X5.here hx rfl (hb hby d11_14) rfl ?_
    show Steps p.tables e below (T5.setTop (mkF m 15 #[.val (.ref a1), .val (.int p2), .val (.ref w6), .unset] [(.int (p2 &&& (65535 : Int32)))])) _
    refine XS.aloadN X5.here hx rfl (hb hby d11_15) rfl rfl ?_
    show Steps p.tables e below (T5.setTop (mkF m 16 #[.val (.ref a1), .val (.int p2), .val (.ref w6), .unset] [(.ref a1), (.int (p2 &&& (65535 : Int32)))])) _
    refine st8 _ ?_
    show Steps p.tables e below (T8.setTop (mkF m 19 #[.val (.ref a1), .val (.int p2), .val (.ref w6), .unset] [(.int w7), (.int (p2 &&& (65535 : Int32)))])) _
    refine XS.imul X8.here hx rfl (hb hby d11_19) rfl ?_
    show Steps p.tables e below (T8.setTop (mkF m 20 #[.val (.ref a1), .val (.int p2), .val (.ref w6), .unset] [(.int ((p2 &&& (65535 : Int32)) * w7))])) _
    refine XS.istoreN X8.here hx rfl (hb hby d11_20) rfl (l' := #[.val (.ref a1), .val (.int p2), .val (.ref w6), .val (.int ((p2 &&& (65535 : Int32)) * w7))]) rfl ?_
    show Steps p.tables e below (T8.setTop (mkF m 21 #[.val (.ref a1), .val (.int p2), .val (.ref w6), .val (.int ((p2 &&& (65535 : Int32)) * w7))] [])) _
    refine XS.aloadN X8.here hx rfl (hb hby d11_21) rfl rfl ?_
    show Steps p.tables e below (T8.setTop (mkF m 22 #[.val (.ref a1), .val (.int p2), .val (.ref w6), .val (.int ((p2 &&& (65535 : Int32)) * w7))] [(.ref a1)])) _
    refine st9 _ ?_
    show Steps p.tables e below (T9.setTop (mkF m 25 #[.val (.ref a1), .val (.int p2), .val (.ref w6), .val (.int ((p2 &&& (65535 : Int32)) * w7))] [(.int w7)])) _
    refine XS.tswIn X9.here hx rfl (pc0 := 25) (pc' := 52) rfl (hb hby d11_25) rfl (by rw [hs25]; decide) (o := 27) (by rw [hs25]; rfl) (by decide) (by decide) ?_
    show Steps p.tables e below (T9.setTop (mkF m 52 #[.val (.ref a1), .val (.int p2), .val (.ref w6), .val (.int ((p2 &&& (65535 : Int32)) * w7))] [])) _
    refine XS.aloadN X9.here hx rfl (hb hby d11_52) rfl rfl ?_
    show Steps p.tables e below (T9.setTop (mkF m 53 #[.val (.ref a1), .val (.int p2), .val (.ref w6), .val (.int ((p2 &&& (65535 : Int32)) * w7))] [(.ref w6)])) _
    refine XS.iloadN X9.here hx rfl (hb hby d11_53) rfl ?_
    show Steps p.tables e below (T9.setTop (mkF m 54 #[.val (.ref a1), .val (.int p2), .val (.ref w6), .val (.int ((p2 &&& (65535 : Int32)) * w7))] [(.int ((p2 &&& (65535 : Int32)) * w7)), (.ref w6)])) _
    refine X9.baloadBytes hx (j := ((p2 &&& (65535 : Int32)) * w7)) (v := (.int w10)) (by rw [e9]; exact Ar_w6.1) (State.isArrayOf_alike hZ.alike Ar_w6.2.1) Ar_w6.2.2 hin54 hat54 (g := (mkF m 54 #[.val (.ref a1), .val (.int p2), .val (.ref w6), .val (.int ((p2 &&& (65535 : Int32)) * w7))] [(.int ((p2 &&& (65535 : Int32)) * w7)), (.ref w6)])) rfl rfl (hb hby d11_54) _ ?_
    show Steps p.tables e below (T9.setTop (mkF m 55 #[.val (.ref a1), .val (.int p2), .val (.ref w6), .val (.int ((p2 &&& (65535 : Int32)) * w7))] [(.int w10)])) _
    refine XS.sipush X9.here hx rfl (hb hby d11_55) ?_
    show Steps p.tables e below (T9.setTop (mkF m 58 #[.val (.ref a1), .val (.int p2), .val (.ref w6), .val (.int ((p2 &&& (65535 : Int32)) * w7))] [(.int (255 : Int32)), (.int w10)])) _
    refine XS.iand X9.here hx rfl (hb hby d11_58) rfl ?_
    show Steps p.tables e below (T9.setTop (mkF m 59 #[.val (.ref a1), .val (.int p2), .val (.ref w6), .val (.int ((p2 &&& (65535 : Int32)) * w7))] [(.int (w10 &&& (255 : Int32)))])) _
    exact retI X9 hx Bd.returns (hb hby d11_59) hr
  · show Q11 ((w10 &&& (255 : Int32))) h0 n0 _ T9.heap _
    rw [e9]
    exact ⟨rfl, N0, rfl⟩
theorem d11_60 : decode prog_4_method_3_code 60 = .ok (.aload_n 2, 1) := by decide +kernel
theorem d11_61 : decode prog_4_method_3_code 61 = .ok (.iload_n 3, 1) := by decide +kernel
theorem d11_62 : decode prog_4_method_3_code 62 = .ok (.baload, 1) := by decide +kernel
theorem d11_63 : decode prog_4_method_3_code 63 = .ok (.sipush 255, 3) := by decide +kernel
theorem d11_66 : decode prog_4_method_3_code 66 = .ok (.iand, 1) := by decide +kernel
theorem d11_67 : decode prog_4_method_3_code 67 = .ok (.aload_n 2, 1) := by decide +kernel
theorem d11_68 : decode prog_4_method_3_code 68 = .ok (.iload_n 3, 1) := by decide +kernel
theorem d11_69 : decode prog_4_method_3_code 69 = .ok (.iconst 1, 1) := by decide +kernel
theorem d11_70 : decode prog_4_method_3_code 70 = .ok (.iadd, 1) := by decide +kernel
theorem d11_71 : decode prog_4_method_3_code 71 = .ok (.baload, 1) := by decide +kernel
theorem d11_72 : decode prog_4_method_3_code 72 = .ok (.sipush 255, 3) := by decide +kernel
theorem d11_75 : decode prog_4_method_3_code 75 = .ok (.iand, 1) := by decide +kernel
theorem d11_76 : decode prog_4_method_3_code 76 = .ok (.bipush 8, 2) := by decide +kernel
theorem d11_78 : decode prog_4_method_3_code 78 = .ok (.ishl, 1) := by decide +kernel
theorem d11_79 : decode prog_4_method_3_code 79 = .ok (.ior, 1) := by decide +kernel
theorem d11_80 : decode prog_4_method_3_code 80 = .ok (.ireturn, 1) := by decide +kernel
set_option maxRecDepth 65536 in
set_option maxHeartbeats 40000000 in
theorem rm11_2 (l : Launch) (Z : State) (a0 : Array Value) (hw : ∀ d ∈ tables_1, d.before a0 Z = true) (ws : List Jvm.Cond) (a1 : Addr) (p2 : Int32) (w3 : Addr) (w6 : Addr) (cl_w3 : Cell) (w7 : Int32) (w10 : Int32) (cl_w6 : Cell) (w11 : Int32) (h0 : Heap) (n0 : Nat) (Z0 : n0 ≤ h0.size) (F_m_aPages_a1 : Fld Z h0 a1 "com/example/agave_bloom/agavebloom/check/CompactInts" "m_aPages" "[[B" (.ref w3)) (S_PAGE_SHIFT : Sta Z h0 "com/example/agave_bloom/agavebloom/check/CompactInts" "PAGE_SHIFT" "I" (.int (16 : Int32))) (Ar_w3 : Arr Z h0 w3 cl_w3 (.array .byte)) (hin9 : ¬ (((p2.toUInt32 >>> ((16 : Int32) &&& 31).toUInt32).toInt32) < 0 ∨ cl_w3.slots.size ≤ (((p2.toUInt32 >>> ((16 : Int32) &&& 31).toUInt32).toInt32)).toNatClampNeg)) (hat9 : cl_w3.slots[(((p2.toUInt32 >>> ((16 : Int32) &&& 31).toUInt32).toInt32)).toNatClampNeg]? = some (.ref w6)) (F_m_nWidth_a1 : Fld Z h0 a1 "com/example/agave_bloom/agavebloom/check/CompactInts" "m_nWidth" "I" (.int w7)) (Ar_w6 : Arr Z h0 w6 cl_w6 .byte) (hin62 : ¬ (((p2 &&& (65535 : Int32)) * w7) < 0 ∨ cl_w6.slots.size ≤ (((p2 &&& (65535 : Int32)) * w7)).toNatClampNeg)) (hat62 : cl_w6.slots[(((p2 &&& (65535 : Int32)) * w7)).toNatClampNeg]? = some (.int w10)) (hin71 : ¬ ((((p2 &&& (65535 : Int32)) * w7) + (1 : Int32)) < 0 ∨ cl_w6.slots.size ≤ ((((p2 &&& (65535 : Int32)) * w7) + (1 : Int32))).toNatClampNeg)) (hat71 : cl_w6.slots[((((p2 &&& (65535 : Int32)) * w7) + (1 : Int32))).toNatClampNeg]? = some (.int w11)) (hs25 : w7 = (2 : Int32)) :
    MetFree l (⟨"com/example/agave_bloom/agavebloom/check/CompactInts", "get", "(I)I"⟩ : MethodName) (head1 (Jvm.Cond.code (⟨"com/example/agave_bloom/agavebloom/check/CompactInts", "get", "(I)I"⟩ : MethodName) prog_4_method_3_code 4 (some .int) :: ws) ({ frames := 0, cells := 0, slots := 0, locals := 0 } : Room)) (fun a U => a = #[(.ref a1), (.int p2)] ∧ Z.Warmed39 U.vm ∧ U.heap = h0) (fun _ _ _ _ _ => True) (fun _ U o U' => ∃ v L, o = .returned v ∧ Q11 (((w10 &&& (255 : Int32)) ||| ((w11 &&& (255 : Int32)) <<< ((8 : Int32) &&& 31)))) h0 n0 v U'.heap L ∧ FrameEnd U o U' L ({ frames := 0, cells := 0, slots := 0, locals := 0 } : Room).cells ({ frames := 0, cells := 0, slots := 0, locals := 0 } : Room).slots) := by
  refine MetFree.of_bodySF (plainFor_of_name pn_11) hisR ?_
  intro p e s m args below meth c s₁ Bd hml0 hP hK
  obtain ⟨rfl, hZ, hh⟩ := hP
  have hx := Bd.exec
  have hby := Bd.bytes
  have hml : c.maxLocals = 4 := hml0
  have hown : s.vm.findClass "com/example/agave_bloom/agavebloom/check/CompactInts" = some m.cls := findClass_of_methodNamed Bd.named
  have hnm := (name_of_methodNamed Bd.named Bd.method).1
  have X0 : Stand p l e ({ frames := 0, cells := 0, slots := 0, locals := 0 } : Room) s m #[(.ref a1), (.int p2)] below meth c s₁ [] 0 0 := Stand.of_body Bd
  have e0 : s₁.heap = h0 := by rw [← hh, Bd.state]; rfl
  have N0 := Fr.nil n0
  have pre0 : ∀ t, Steps p.tables e below (s₁.setTop (mkF m 0 #[.val (.ref a1), .val (.int p2), .unset, .unset] [])) t → Steps p.tables e below (s₁.setTop (entryFrame m #[(.ref a1), (.int p2)] 4)) t := fun t k => castTop (ef_11 m a1 p2) k
  obtain ⟨T4, X4, e4, st4⟩ := getF X0 hx hZ hown (host := "") (Or.inl (hw _ (List.mem_of_getElem? (i := 12) rfl))) Via.refl e0 F_m_aPages_a1 (g := (mkF m 1 #[.val (.ref a1), .val (.int p2), .unset, .unset] [(.ref a1)])) rfl rfl (hb hby d11_1)
  obtain ⟨T5, X5, e5, st5⟩ := getS2 X4 hx hZ hown (host := "") (Or.inl (hw _ (List.mem_of_getElem? (i := 42) rfl))) Via.refl e4 S_PAGE_SHIFT (g := (mkF m 5 #[.val (.ref a1), .val (.int p2), .unset, .unset] [(.int p2), (.ref w3)])) rfl (hb hby d11_5)
  obtain ⟨T8, X8, e8, st8⟩ := getF X5 hx hZ hown (host := "") (Or.inl (hw _ (List.mem_of_getElem? (i := 14) rfl))) Via.refl e5 F_m_nWidth_a1 (g := (mkF m 16 #[.val (.ref a1), .val (.int p2), .val (.ref w6), .unset] [(.ref a1), (.int (p2 &&& (65535 : Int32)))])) rfl rfl (hb hby d11_16)
  obtain ⟨T9, X9, e9, st9⟩ := getF X8 hx hZ hown (host := "") (Or.inl (hw _ (List.mem_of_getElem? (i := 14) rfl))) Via.refl e8 F_m_nWidth_a1 (g := (mkF m 22 #[.val (.ref a1), .val (.int p2), .val (.ref w6), .val (.int ((p2 &&& (65535 : Int32)) * w7))] [(.ref a1)])) rfl rfl (hb hby d11_22)
  obtain ⟨fs, hr, hrun, hended, hW, hsame⟩ := X9.leave (v := some (.int ((w10 &&& (255 : Int32)) ||| ((w11 &&& (255 : Int32)) <<< ((8 : Int32) &&& 31))))) (fun h => by rw [Bd.returns] at h; cases h)
  refine ⟨_, _, pre0 _ ?_, hrun, hended, _, _, rfl, ?_, ⟨_, rfl⟩, hW, hsame.mono (by decide) (by decide)⟩
  · show Steps p.tables e below (s₁.setTop (mkF m 0 #[.val (.ref a1), .val (.int p2), .unset, .unset] [])) _
    refine XS.aloadN X0.here hx rfl (hb hby d11_0) rfl rfl ?_
    show Steps p.tables e below (s₁.setTop (mkF m 1 #[.val (.ref a1), .val (.int p2), .unset, .unset] [(.ref a1)])) _
    refine st4 _ ?_
    show Steps p.tables e below (T4.setTop (mkF m 4 #[.val (.ref a1), .val (.int p2), .unset, .unset] [(.ref w3)])) _
    refine XS.iloadN X4.here hx rfl (hb hby d11_4) rfl ?_
    show Steps p.tables e below (T4.setTop (mkF m 5 #[.val (.ref a1), .val (.int p2), .unset, .unset] [(.int p2), (.ref w3)])) _
    refine st5 _ ?_
    show Steps p.tables e below (T5.setTop (mkF m 8 #[.val (.ref a1), .val (.int p2), .unset, .unset] [(.int (16 : Int32)), (.int p2), (.ref w3)])) _
    refine XS.iushr X5.here hx rfl (hb hby d11_8) rfl ?_
    show Steps p.tables e below (T5.setTop (mkF m 9 #[.val (.ref a1), .val (.int p2), .unset, .unset] [(.int ((p2.toUInt32 >>> ((16 : Int32) &&& 31).toUInt32).toInt32)), (.ref w3)])) _
    refine X5.aaload hx (j := ((p2.toUInt32 >>> ((16 : Int32) &&& 31).toUInt32).toInt32)) (v := (.ref w6)) (by rw [e5]; exact Ar_w3.1) (State.isArrayOf_alike hZ.alike Ar_w3.2.1) rfl Ar_w3.2.2 hin9 hat9 (g := (mkF m 9 #[.val (.ref a1), .val (.int p2), .unset, .unset] [(.int ((p2.toUInt32 >>> ((16 : Int32) &&& 31).toUInt32).toInt32)), (.ref w3)])) rfl rfl (hb hby d11_9) _ ?_
    show Steps p.tables e below (T5.setTop (mkF m 10 #[.val (.ref a1), .val (.int p2), .unset, .unset] [(.ref w6)])) _
    refine XS.astoreN X5.here hx rfl (hb hby d11_10) rfl rfl (l' := #[.val (.ref a1), .val (.int p2), .val (.ref w6), .unset]) rfl ?_
    show Steps p.tables e below (T5.setTop (mkF m 11 #[.val (.ref a1), .val (.int p2), .val (.ref w6), .unset] [])) _
    refine XS.iloadN X5.here hx rfl (hb hby d11_11) rfl ?_
    show Steps p.tables e below (T5.setTop (mkF m 12 #[.val (.ref a1), .val (.int p2), .val (.ref w6), .unset] [(.int p2)])) _
    refine X5.ldcInt hx hown (mvT hZ (hw _ (List.mem_of_getElem? (i := 44) rfl))) (g := (mkF m 12 #[.val (.ref a1), .val (.int p2), .val (.ref w6), .unset] [(.int p2)])) rfl (hb hby d11_12) _ ?_
    show Steps p.tables e below (T5.setTop (mkF m 14 #[.val (.ref a1), .val (.int p2), .val (.ref w6), .unset] [(.int (65535 : Int32)), (.int p2)])) _
    refine XS.iand X5.here hx rfl (hb hby d11_14) rfl ?_
    show Steps p.tables e below (T5.setTop (mkF m 15 #[.val (.ref a1), .val (.int p2), .val (.ref w6), .unset] [(.int (p2 &&& (65535 : Int32)))])) _
    refine XS.aloadN X5.here hx rfl (hb hby d11_15) rfl rfl ?_
    show Steps p.tables e below (T5.setTop (mkF m 16 #[.val (.ref a1), .val (.int p2), .val (.ref w6), .unset] [(.ref a1), (.int (p2 &&& (65535 : Int32)))])) _
    refine st8 _ ?_
    show Steps p.tables e below (T8.setTop (mkF m 19 #[.val (.ref a1), .val (.int p2), .val (.ref w6), .unset] [(.int w7), (.int (p2 &&& (65535 : Int32)))])) _
    refine XS.imul X8.here hx rfl (hb hby d11_19) rfl ?_
    show Steps p.tables e below (T8.setTop (mkF m 20 #[.val (.ref a1), .val (.int p2), .val (.ref w6), .unset] [(.int ((p2 &&& (65535 : Int32)) * w7))])) _
    refine XS.istoreN X8.here hx rfl (hb hby d11_20) rfl (l' := #[.val (.ref a1), .val (.int p2), .val (.ref w6), .val (.int ((p2 &&& (65535 : Int32)) * w7))]) rfl ?_
    show Steps p.tables e below (T8.setTop (mkF m 21 #[.val (.ref a1), .val (.int p2), .val (.ref w6), .val (.int ((p2 &&& (65535 : Int32)) * w7))] [])) _
    refine XS.aloadN X8.here hx rfl (hb hby d11_21) rfl rfl ?_
    show Steps p.tables e below (T8.setTop (mkF m 22 #[.val (.ref a1), .val (.int p2), .val (.ref w6), .val (.int ((p2 &&& (65535 : Int32)) * w7))] [(.ref a1)])) _
    refine st9 _ ?_
    show Steps p.tables e below (T9.setTop (mkF m 25 #[.val (.ref a1), .val (.int p2), .val (.ref w6), .val (.int ((p2 &&& (65535 : Int32)) * w7))] [(.int w7)])) _
    refine XS.tswIn X9.here hx rfl (pc0 := 25) (pc' := 60) rfl (hb hby d11_25) rfl (by rw [hs25]; decide) (o := 35) (by rw [hs25]; rfl) (by decide) (by decide) ?_
    show Steps p.tables e below (T9.setTop (mkF m 60 #[.val (.ref a1), .val (.int p2), .val (.ref w6), .val (.int ((p2 &&& (65535 : Int32)) * w7))] [])) _
    refine XS.aloadN X9.here hx rfl (hb hby d11_60) rfl rfl ?_
    show Steps p.tables e below (T9.setTop (mkF m 61 #[.val (.ref a1), .val (.int p2), .val (.ref w6), .val (.int ((p2 &&& (65535 : Int32)) * w7))] [(.ref w6)])) _
    refine XS.iloadN X9.here hx rfl (hb hby d11_61) rfl ?_
    show Steps p.tables e below (T9.setTop (mkF m 62 #[.val (.ref a1), .val (.int p2), .val (.ref w6), .val (.int ((p2 &&& (65535 : Int32)) * w7))] [(.int ((p2 &&& (65535 : Int32)) * w7)), (.ref w6)])) _
    refine X9.baloadBytes hx (j := ((p2 &&& (65535 : Int32)) * w7)) (v := (.int w10)) (by rw [e9]; exact Ar_w6.1) (State.isArrayOf_alike hZ.alike Ar_w6.2.1) Ar_w6.2.2 hin62 hat62 (g := (mkF m 62 #[.val (.ref a1), .val (.int p2), .val (.ref w6), .val (.int ((p2 &&& (65535 : Int32)) * w7))] [(.int ((p2 &&& (65535 : Int32)) * w7)), (.ref w6)])) rfl rfl (hb hby d11_62) _ ?_
    show Steps p.tables e below (T9.setTop (mkF m 63 #[.val (.ref a1), .val (.int p2), .val (.ref w6), .val (.int ((p2 &&& (65535 : Int32)) * w7))] [(.int w10)])) _
    refine XS.sipush X9.here hx rfl (hb hby d11_63) ?_
    show Steps p.tables e below (T9.setTop (mkF m 66 #[.val (.ref a1), .val (.int p2), .val (.ref w6), .val (.int ((p2 &&& (65535 : Int32)) * w7))] [(.int (255 : Int32)), (.int w10)])) _
    refine XS.iand X9.here hx rfl (hb hby d11_66) rfl ?_
    show Steps p.tables e below (T9.setTop (mkF m 67 #[.val (.ref a1), .val (.int p2), .val (.ref w6), .val (.int ((p2 &&& (65535 : Int32)) * w7))] [(.int (w10 &&& (255 : Int32)))])) _
    refine XS.aloadN X9.here hx rfl (hb hby d11_67) rfl rfl ?_
    show Steps p.tables e below (T9.setTop (mkF m 68 #[.val (.ref a1), .val (.int p2), .val (.ref w6), .val (.int ((p2 &&& (65535 : Int32)) * w7))] [(.ref w6), (.int (w10 &&& (255 : Int32)))])) _
    refine XS.iloadN X9.here hx rfl (hb hby d11_68) rfl ?_
    show Steps p.tables e below (T9.setTop (mkF m 69 #[.val (.ref a1), .val (.int p2), .val (.ref w6), .val (.int ((p2 &&& (65535 : Int32)) * w7))] [(.int ((p2 &&& (65535 : Int32)) * w7)), (.ref w6), (.int (w10 &&& (255 : Int32)))])) _
    refine XS.iconst X9.here hx rfl (hb hby d11_69) ?_
    show Steps p.tables e below (T9.setTop (mkF m 70 #[.val (.ref a1), .val (.int p2), .val (.ref w6), .val (.int ((p2 &&& (65535 : Int32)) * w7))] [(.int (1 : Int32)), (.int ((p2 &&& (65535 : Int32)) * w7)), (.ref w6), (.int (w10 &&& (255 : Int32)))])) _
    refine XS.iadd X9.here hx rfl (hb hby d11_70) rfl ?_
    show Steps p.tables e below (T9.setTop (mkF m 71 #[.val (.ref a1), .val (.int p2), .val (.ref w6), .val (.int ((p2 &&& (65535 : Int32)) * w7))] [(.int (((p2 &&& (65535 : Int32)) * w7) + (1 : Int32))), (.ref w6), (.int (w10 &&& (255 : Int32)))])) _
    refine X9.baloadBytes hx (j := (((p2 &&& (65535 : Int32)) * w7) + (1 : Int32))) (v := (.int w11)) (by rw [e9]; exact Ar_w6.1) (State.isArrayOf_alike hZ.alike Ar_w6.2.1) Ar_w6.2.2 hin71 hat71 (g := (mkF m 71 #[.val (.ref a1), .val (.int p2), .val (.ref w6), .val (.int ((p2 &&& (65535 : Int32)) * w7))] [(.int (((p2 &&& (65535 : Int32)) * w7) + (1 : Int32))), (.ref w6), (.int (w10 &&& (255 : Int32)))])) rfl rfl (hb hby d11_71) _ ?_
    show Steps p.tables e below (T9.setTop (mkF m 72 #[.val (.ref a1), .val (.int p2), .val (.ref w6), .val (.int ((p2 &&& (65535 : Int32)) * w7))] [(.int w11), (.int (w10 &&& (255 : Int32)))])) _
    refine XS.sipush X9.here hx rfl (hb hby d11_72) ?_
    show Steps p.tables e below (T9.setTop (mkF m 75 #[.val (.ref a1), .val (.int p2), .val (.ref w6), .val (.int ((p2 &&& (65535 : Int32)) * w7))] [(.int (255 : Int32)), (.int w11), (.int (w10 &&& (255 : Int32)))])) _
    refine XS.iand X9.here hx rfl (hb hby d11_75) rfl ?_
    show Steps p.tables e below (T9.setTop (mkF m 76 #[.val (.ref a1), .val (.int p2), .val (.ref w6), .val (.int ((p2 &&& (65535 : Int32)) * w7))] [(.int (w11 &&& (255 : Int32))), (.int (w10 &&& (255 : Int32)))])) _
    refine XS.bipush X9.here hx rfl (hb hby d11_76) ?_
    show Steps p.tables e below (T9.setTop (mkF m 78 #[.val (.ref a1), .val (.int p2), .val (.ref w6), .val (.int ((p2 &&& (65535 : Int32)) * w7))] [(.int (8 : Int32)), (.int (w11 &&& (255 : Int32))), (.int (w10 &&& (255 : Int32)))])) _
    refine XS.ishl X9.here hx rfl (hb hby d11_78) rfl ?_
    show Steps p.tables e below (T9.setTop (mkF m 79 #[.val (.ref a1), .val (.int p2), .val (.ref w6), .val (.int ((p2 &&& (65535 : Int32)) * w7))] [(.int ((w11 &&& (255 : Int32)) <<< ((8 : Int32) &&& 31))), (.int (w10 &&& (255 : Int32)))])) _
    refine XS.ior X9.here hx rfl (hb hby d11_79) rfl ?_
    show Steps p.tables e below (T9.setTop (mkF m 80 #[.val (.ref a1), .val (.int p2), .val (.ref w6), .val (.int ((p2 &&& (65535 : Int32)) * w7))] [(.int ((w10 &&& (255 : Int32)) ||| ((w11 &&& (255 : Int32)) <<< ((8 : Int32) &&& 31))))])) _
    exact retI X9 hx Bd.returns (hb hby d11_80) hr
  · show Q11 (((w10 &&& (255 : Int32)) ||| ((w11 &&& (255 : Int32)) <<< ((8 : Int32) &&& 31)))) h0 n0 _ T9.heap _
    rw [e9]
    exact ⟨rfl, N0, rfl⟩
theorem d11_81 : decode prog_4_method_3_code 81 = .ok (.aload_n 2, 1) := by decide +kernel
theorem d11_82 : decode prog_4_method_3_code 82 = .ok (.iload_n 3, 1) := by decide +kernel
theorem d11_83 : decode prog_4_method_3_code 83 = .ok (.baload, 1) := by decide +kernel
theorem d11_84 : decode prog_4_method_3_code 84 = .ok (.sipush 255, 3) := by decide +kernel
theorem d11_87 : decode prog_4_method_3_code 87 = .ok (.iand, 1) := by decide +kernel
theorem d11_88 : decode prog_4_method_3_code 88 = .ok (.aload_n 2, 1) := by decide +kernel
theorem d11_89 : decode prog_4_method_3_code 89 = .ok (.iload_n 3, 1) := by decide +kernel
theorem d11_90 : decode prog_4_method_3_code 90 = .ok (.iconst 1, 1) := by decide +kernel
theorem d11_91 : decode prog_4_method_3_code 91 = .ok (.iadd, 1) := by decide +kernel
theorem d11_92 : decode prog_4_method_3_code 92 = .ok (.baload, 1) := by decide +kernel
theorem d11_93 : decode prog_4_method_3_code 93 = .ok (.sipush 255, 3) := by decide +kernel
theorem d11_96 : decode prog_4_method_3_code 96 = .ok (.iand, 1) := by decide +kernel
theorem d11_97 : decode prog_4_method_3_code 97 = .ok (.bipush 8, 2) := by decide +kernel
theorem d11_99 : decode prog_4_method_3_code 99 = .ok (.ishl, 1) := by decide +kernel
theorem d11_100 : decode prog_4_method_3_code 100 = .ok (.ior, 1) := by decide +kernel
theorem d11_101 : decode prog_4_method_3_code 101 = .ok (.aload_n 2, 1) := by decide +kernel
theorem d11_102 : decode prog_4_method_3_code 102 = .ok (.iload_n 3, 1) := by decide +kernel
theorem d11_103 : decode prog_4_method_3_code 103 = .ok (.iconst 2, 1) := by decide +kernel
theorem d11_104 : decode prog_4_method_3_code 104 = .ok (.iadd, 1) := by decide +kernel
theorem d11_105 : decode prog_4_method_3_code 105 = .ok (.baload, 1) := by decide +kernel
theorem d11_106 : decode prog_4_method_3_code 106 = .ok (.sipush 255, 3) := by decide +kernel
theorem d11_109 : decode prog_4_method_3_code 109 = .ok (.iand, 1) := by decide +kernel
theorem d11_110 : decode prog_4_method_3_code 110 = .ok (.bipush 16, 2) := by decide +kernel
theorem d11_112 : decode prog_4_method_3_code 112 = .ok (.ishl, 1) := by decide +kernel
theorem d11_113 : decode prog_4_method_3_code 113 = .ok (.ior, 1) := by decide +kernel
theorem d11_114 : decode prog_4_method_3_code 114 = .ok (.ireturn, 1) := by decide +kernel
set_option maxRecDepth 65536 in
set_option maxHeartbeats 40000000 in
theorem rm11_3 (l : Launch) (Z : State) (a0 : Array Value) (hw : ∀ d ∈ tables_1, d.before a0 Z = true) (ws : List Jvm.Cond) (a1 : Addr) (p2 : Int32) (w3 : Addr) (w6 : Addr) (cl_w3 : Cell) (w7 : Int32) (w10 : Int32) (cl_w6 : Cell) (w11 : Int32) (w12 : Int32) (h0 : Heap) (n0 : Nat) (Z0 : n0 ≤ h0.size) (F_m_aPages_a1 : Fld Z h0 a1 "com/example/agave_bloom/agavebloom/check/CompactInts" "m_aPages" "[[B" (.ref w3)) (S_PAGE_SHIFT : Sta Z h0 "com/example/agave_bloom/agavebloom/check/CompactInts" "PAGE_SHIFT" "I" (.int (16 : Int32))) (Ar_w3 : Arr Z h0 w3 cl_w3 (.array .byte)) (hin9 : ¬ (((p2.toUInt32 >>> ((16 : Int32) &&& 31).toUInt32).toInt32) < 0 ∨ cl_w3.slots.size ≤ (((p2.toUInt32 >>> ((16 : Int32) &&& 31).toUInt32).toInt32)).toNatClampNeg)) (hat9 : cl_w3.slots[(((p2.toUInt32 >>> ((16 : Int32) &&& 31).toUInt32).toInt32)).toNatClampNeg]? = some (.ref w6)) (F_m_nWidth_a1 : Fld Z h0 a1 "com/example/agave_bloom/agavebloom/check/CompactInts" "m_nWidth" "I" (.int w7)) (Ar_w6 : Arr Z h0 w6 cl_w6 .byte) (hin83 : ¬ (((p2 &&& (65535 : Int32)) * w7) < 0 ∨ cl_w6.slots.size ≤ (((p2 &&& (65535 : Int32)) * w7)).toNatClampNeg)) (hat83 : cl_w6.slots[(((p2 &&& (65535 : Int32)) * w7)).toNatClampNeg]? = some (.int w10)) (hin92 : ¬ ((((p2 &&& (65535 : Int32)) * w7) + (1 : Int32)) < 0 ∨ cl_w6.slots.size ≤ ((((p2 &&& (65535 : Int32)) * w7) + (1 : Int32))).toNatClampNeg)) (hat92 : cl_w6.slots[((((p2 &&& (65535 : Int32)) * w7) + (1 : Int32))).toNatClampNeg]? = some (.int w11)) (hin105 : ¬ ((((p2 &&& (65535 : Int32)) * w7) + (2 : Int32)) < 0 ∨ cl_w6.slots.size ≤ ((((p2 &&& (65535 : Int32)) * w7) + (2 : Int32))).toNatClampNeg)) (hat105 : cl_w6.slots[((((p2 &&& (65535 : Int32)) * w7) + (2 : Int32))).toNatClampNeg]? = some (.int w12)) (hs25 : w7 = (3 : Int32)) :
    MetFree l (⟨"com/example/agave_bloom/agavebloom/check/CompactInts", "get", "(I)I"⟩ : MethodName) (head1 (Jvm.Cond.code (⟨"com/example/agave_bloom/agavebloom/check/CompactInts", "get", "(I)I"⟩ : MethodName) prog_4_method_3_code 4 (some .int) :: ws) ({ frames := 0, cells := 0, slots := 0, locals := 0 } : Room)) (fun a U => a = #[(.ref a1), (.int p2)] ∧ Z.Warmed39 U.vm ∧ U.heap = h0) (fun _ _ _ _ _ => True) (fun _ U o U' => ∃ v L, o = .returned v ∧ Q11 ((((w10 &&& (255 : Int32)) ||| ((w11 &&& (255 : Int32)) <<< ((8 : Int32) &&& 31))) ||| ((w12 &&& (255 : Int32)) <<< ((16 : Int32) &&& 31)))) h0 n0 v U'.heap L ∧ FrameEnd U o U' L ({ frames := 0, cells := 0, slots := 0, locals := 0 } : Room).cells ({ frames := 0, cells := 0, slots := 0, locals := 0 } : Room).slots) := by
  refine MetFree.of_bodySF (plainFor_of_name pn_11) hisR ?_
  intro p e s m args below meth c s₁ Bd hml0 hP hK
  obtain ⟨rfl, hZ, hh⟩ := hP
  have hx := Bd.exec
  have hby := Bd.bytes
  have hml : c.maxLocals = 4 := hml0
  have hown : s.vm.findClass "com/example/agave_bloom/agavebloom/check/CompactInts" = some m.cls := findClass_of_methodNamed Bd.named
  have hnm := (name_of_methodNamed Bd.named Bd.method).1
  have X0 : Stand p l e ({ frames := 0, cells := 0, slots := 0, locals := 0 } : Room) s m #[(.ref a1), (.int p2)] below meth c s₁ [] 0 0 := Stand.of_body Bd
  have e0 : s₁.heap = h0 := by rw [← hh, Bd.state]; rfl
  have N0 := Fr.nil n0
  have pre0 : ∀ t, Steps p.tables e below (s₁.setTop (mkF m 0 #[.val (.ref a1), .val (.int p2), .unset, .unset] [])) t → Steps p.tables e below (s₁.setTop (entryFrame m #[(.ref a1), (.int p2)] 4)) t := fun t k => castTop (ef_11 m a1 p2) k
  obtain ⟨T4, X4, e4, st4⟩ := getF X0 hx hZ hown (host := "") (Or.inl (hw _ (List.mem_of_getElem? (i := 12) rfl))) Via.refl e0 F_m_aPages_a1 (g := (mkF m 1 #[.val (.ref a1), .val (.int p2), .unset, .unset] [(.ref a1)])) rfl rfl (hb hby d11_1)
  obtain ⟨T5, X5, e5, st5⟩ := getS2 X4 hx hZ hown (host := "") (Or.inl (hw _ (List.mem_of_getElem? (i := 42) rfl))) Via.refl e4 S_PAGE_SHIFT (g := (mkF m 5 #[.val (.ref a1), .val (.int p2), .unset, .unset] [(.int p2), (.ref w3)])) rfl (hb hby d11_5)
  obtain ⟨T8, X8, e8, st8⟩ := getF X5 hx hZ hown (host := "") (Or.inl (hw _ (List.mem_of_getElem? (i := 14) rfl))) Via.refl e5 F_m_nWidth_a1 (g := (mkF m 16 #[.val (.ref a1), .val (.int p2), .val (.ref w6), .unset] [(.ref a1), (.int (p2 &&& (65535 : Int32)))])) rfl rfl (hb hby d11_16)
  obtain ⟨T9, X9, e9, st9⟩ := getF X8 hx hZ hown (host := "") (Or.inl (hw _ (List.mem_of_getElem? (i := 14) rfl))) Via.refl e8 F_m_nWidth_a1 (g := (mkF m 22 #[.val (.ref a1), .val (.int p2), .val (.ref w6), .val (.int ((p2 &&& (65535 : Int32)) * w7))] [(.ref a1)])) rfl rfl (hb hby d11_22)
  obtain ⟨fs, hr, hrun, hended, hW, hsame⟩ := X9.leave (v := some (.int (((w10 &&& (255 : Int32)) ||| ((w11 &&& (255 : Int32)) <<< ((8 : Int32) &&& 31))) ||| ((w12 &&& (255 : Int32)) <<< ((16 : Int32) &&& 31))))) (fun h => by rw [Bd.returns] at h; cases h)
  refine ⟨_, _, pre0 _ ?_, hrun, hended, _, _, rfl, ?_, ⟨_, rfl⟩, hW, hsame.mono (by decide) (by decide)⟩
  · show Steps p.tables e below (s₁.setTop (mkF m 0 #[.val (.ref a1), .val (.int p2), .unset, .unset] [])) _
    refine XS.aloadN X0.here hx rfl (hb hby d11_0) rfl rfl ?_
    show Steps p.tables e below (s₁.setTop (mkF m 1 #[.val (.ref a1), .val (.int p2), .unset, .unset] [(.ref a1)])) _
    refine st4 _ ?_
    show Steps p.tables e below (T4.setTop (mkF m 4 #[.val (.ref a1), .val (.int p2), .unset, .unset] [(.ref w3)])) _
    refine XS.iloadN X4.here hx rfl (hb hby d11_4) rfl ?_
    show Steps p.tables e below (T4.setTop (mkF m 5 #[.val (.ref a1), .val (.int p2), .unset, .unset] [(.int p2), (.ref w3)])) _
    refine st5 _ ?_
    show Steps p.tables e below (T5.setTop (mkF m 8 #[.val (.ref a1), .val (.int p2), .unset, .unset] [(.int (16 : Int32)), (.int p2), (.ref w3)])) _
    refine XS.iushr X5.here hx rfl (hb hby d11_8) rfl ?_
    show Steps p.tables e below (T5.setTop (mkF m 9 #[.val (.ref a1), .val (.int p2), .unset, .unset] [(.int ((p2.toUInt32 >>> ((16 : Int32) &&& 31).toUInt32).toInt32)), (.ref w3)])) _
    refine X5.aaload hx (j := ((p2.toUInt32 >>> ((16 : Int32) &&& 31).toUInt32).toInt32)) (v := (.ref w6)) (by rw [e5]; exact Ar_w3.1) (State.isArrayOf_alike hZ.alike Ar_w3.2.1) rfl Ar_w3.2.2 hin9 hat9 (g := (mkF m 9 #[.val (.ref a1), .val (.int p2), .unset, .unset] [(.int ((p2.toUInt32 >>> ((16 : Int32) &&& 31).toUInt32).toInt32)), (.ref w3)])) rfl rfl (hb hby d11_9) _ ?_
    show Steps p.tables e below (T5.setTop (mkF m 10 #[.val (.ref a1), .val (.int p2), .unset, .unset] [(.ref w6)])) _
    refine XS.astoreN X5.here hx rfl (hb hby d11_10) rfl rfl (l' := #[.val (.ref a1), .val (.int p2), .val (.ref w6), .unset]) rfl ?_
    show Steps p.tables e below (T5.setTop (mkF m 11 #[.val (.ref a1), .val (.int p2), .val (.ref w6), .unset] [])) _
    refine XS.iloadN X5.here hx rfl (hb hby d11_11) rfl ?_
    show Steps p.tables e below (T5.setTop (mkF m 12 #[.val (.ref a1), .val (.int p2), .val (.ref w6), .unset] [(.int p2)])) _
    refine X5.ldcInt hx hown (mvT hZ (hw _ (List.mem_of_getElem? (i := 44) rfl))) (g := (mkF m 12 #[.val (.ref a1), .val (.int p2), .val (.ref w6), .unset] [(.int p2)])) rfl (hb hby d11_12) _ ?_
    show Steps p.tables e below (T5.setTop (mkF m 14 #[.val (.ref a1), .val (.int p2), .val (.ref w6), .unset] [(.int (65535 : Int32)), (.int p2)])) _
    refine XS.iand X5.here hx rfl (hb hby d11_14) rfl ?_
    show Steps p.tables e below (T5.setTop (mkF m 15 #[.val (.ref a1), .val (.int p2), .val (.ref w6), .unset] [(.int (p2 &&& (65535 : Int32)))])) _
    refine XS.aloadN X5.here hx rfl (hb hby d11_15) rfl rfl ?_
    show Steps p.tables e below (T5.setTop (mkF m 16 #[.val (.ref a1), .val (.int p2), .val (.ref w6), .unset] [(.ref a1), (.int (p2 &&& (65535 : Int32)))])) _
    refine st8 _ ?_
    show Steps p.tables e below (T8.setTop (mkF m 19 #[.val (.ref a1), .val (.int p2), .val (.ref w6), .unset] [(.int w7), (.int (p2 &&& (65535 : Int32)))])) _
    refine XS.imul X8.here hx rfl (hb hby d11_19) rfl ?_
    show Steps p.tables e below (T8.setTop (mkF m 20 #[.val (.ref a1), .val (.int p2), .val (.ref w6), .unset] [(.int ((p2 &&& (65535 : Int32)) * w7))])) _
    refine XS.istoreN X8.here hx rfl (hb hby d11_20) rfl (l' := #[.val (.ref a1), .val (.int p2), .val (.ref w6), .val (.int ((p2 &&& (65535 : Int32)) * w7))]) rfl ?_
    show Steps p.tables e below (T8.setTop (mkF m 21 #[.val (.ref a1), .val (.int p2), .val (.ref w6), .val (.int ((p2 &&& (65535 : Int32)) * w7))] [])) _
    refine XS.aloadN X8.here hx rfl (hb hby d11_21) rfl rfl ?_
    show Steps p.tables e below (T8.setTop (mkF m 22 #[.val (.ref a1), .val (.int p2), .val (.ref w6), .val (.int ((p2 &&& (65535 : Int32)) * w7))] [(.ref a1)])) _
    refine st9 _ ?_
    show Steps p.tables e below (T9.setTop (mkF m 25 #[.val (.ref a1), .val (.int p2), .val (.ref w6), .val (.int ((p2 &&& (65535 : Int32)) * w7))] [(.int w7)])) _
    refine XS.tswIn X9.here hx rfl (pc0 := 25) (pc' := 81) rfl (hb hby d11_25) rfl (by rw [hs25]; decide) (o := 56) (by rw [hs25]; rfl) (by decide) (by decide) ?_
    show Steps p.tables e below (T9.setTop (mkF m 81 #[.val (.ref a1), .val (.int p2), .val (.ref w6), .val (.int ((p2 &&& (65535 : Int32)) * w7))] [])) _
    refine XS.aloadN X9.here hx rfl (hb hby d11_81) rfl rfl ?_
    show Steps p.tables e below (T9.setTop (mkF m 82 #[.val (.ref a1), .val (.int p2), .val (.ref w6), .val (.int ((p2 &&& (65535 : Int32)) * w7))] [(.ref w6)])) _
    refine XS.iloadN X9.here hx rfl (hb hby d11_82) rfl ?_
    show Steps p.tables e below (T9.setTop (mkF m 83 #[.val (.ref a1), .val (.int p2), .val (.ref w6), .val (.int ((p2 &&& (65535 : Int32)) * w7))] [(.int ((p2 &&& (65535 : Int32)) * w7)), (.ref w6)])) _
    refine X9.baloadBytes hx (j := ((p2 &&& (65535 : Int32)) * w7)) (v := (.int w10)) (by rw [e9]; exact Ar_w6.1) (State.isArrayOf_alike hZ.alike Ar_w6.2.1) Ar_w6.2.2 hin83 hat83 (g := (mkF m 83 #[.val (.ref a1), .val (.int p2), .val (.ref w6), .val (.int ((p2 &&& (65535 : Int32)) * w7))] [(.int ((p2 &&& (65535 : Int32)) * w7)), (.ref w6)])) rfl rfl (hb hby d11_83) _ ?_
    show Steps p.tables e below (T9.setTop (mkF m 84 #[.val (.ref a1), .val (.int p2), .val (.ref w6), .val (.int ((p2 &&& (65535 : Int32)) * w7))] [(.int w10)])) _
    refine XS.sipush X9.here hx rfl (hb hby d11_84) ?_
    show Steps p.tables e below (T9.setTop (mkF m 87 #[.val (.ref a1), .val (.int p2), .val (.ref w6), .val (.int ((p2 &&& (65535 : Int32)) * w7))] [(.int (255 : Int32)), (.int w10)])) _
    refine XS.iand X9.here hx rfl (hb hby d11_87) rfl ?_
    show Steps p.tables e below (T9.setTop (mkF m 88 #[.val (.ref a1), .val (.int p2), .val (.ref w6), .val (.int ((p2 &&& (65535 : Int32)) * w7))] [(.int (w10 &&& (255 : Int32)))])) _
    refine XS.aloadN X9.here hx rfl (hb hby d11_88) rfl rfl ?_
    show Steps p.tables e below (T9.setTop (mkF m 89 #[.val (.ref a1), .val (.int p2), .val (.ref w6), .val (.int ((p2 &&& (65535 : Int32)) * w7))] [(.ref w6), (.int (w10 &&& (255 : Int32)))])) _
    refine XS.iloadN X9.here hx rfl (hb hby d11_89) rfl ?_
    show Steps p.tables e below (T9.setTop (mkF m 90 #[.val (.ref a1), .val (.int p2), .val (.ref w6), .val (.int ((p2 &&& (65535 : Int32)) * w7))] [(.int ((p2 &&& (65535 : Int32)) * w7)), (.ref w6), (.int (w10 &&& (255 : Int32)))])) _
    refine XS.iconst X9.here hx rfl (hb hby d11_90) ?_
    show Steps p.tables e below (T9.setTop (mkF m 91 #[.val (.ref a1), .val (.int p2), .val (.ref w6), .val (.int ((p2 &&& (65535 : Int32)) * w7))] [(.int (1 : Int32)), (.int ((p2 &&& (65535 : Int32)) * w7)), (.ref w6), (.int (w10 &&& (255 : Int32)))])) _
    refine XS.iadd X9.here hx rfl (hb hby d11_91) rfl ?_
    show Steps p.tables e below (T9.setTop (mkF m 92 #[.val (.ref a1), .val (.int p2), .val (.ref w6), .val (.int ((p2 &&& (65535 : Int32)) * w7))] [(.int (((p2 &&& (65535 : Int32)) * w7) + (1 : Int32))), (.ref w6), (.int (w10 &&& (255 : Int32)))])) _
    refine X9.baloadBytes hx (j := (((p2 &&& (65535 : Int32)) * w7) + (1 : Int32))) (v := (.int w11)) (by rw [e9]; exact Ar_w6.1) (State.isArrayOf_alike hZ.alike Ar_w6.2.1) Ar_w6.2.2 hin92 hat92 (g := (mkF m 92 #[.val (.ref a1), .val (.int p2), .val (.ref w6), .val (.int ((p2 &&& (65535 : Int32)) * w7))] [(.int (((p2 &&& (65535 : Int32)) * w7) + (1 : Int32))), (.ref w6), (.int (w10 &&& (255 : Int32)))])) rfl rfl (hb hby d11_92) _ ?_
    show Steps p.tables e below (T9.setTop (mkF m 93 #[.val (.ref a1), .val (.int p2), .val (.ref w6), .val (.int ((p2 &&& (65535 : Int32)) * w7))] [(.int w11), (.int (w10 &&& (255 : Int32)))])) _
    refine XS.sipush X9.here hx rfl (hb hby d11_93) ?_
    show Steps p.tables e below (T9.setTop (mkF m 96 #[.val (.ref a1), .val (.int p2), .val (.ref w6), .val (.int ((p2 &&& (65535 : Int32)) * w7))] [(.int (255 : Int32)), (.int w11), (.int (w10 &&& (255 : Int32)))])) _
    refine XS.iand X9.here hx rfl (hb hby d11_96) rfl ?_
    show Steps p.tables e below (T9.setTop (mkF m 97 #[.val (.ref a1), .val (.int p2), .val (.ref w6), .val (.int ((p2 &&& (65535 : Int32)) * w7))] [(.int (w11 &&& (255 : Int32))), (.int (w10 &&& (255 : Int32)))])) _
    refine XS.bipush X9.here hx rfl (hb hby d11_97) ?_
    show Steps p.tables e below (T9.setTop (mkF m 99 #[.val (.ref a1), .val (.int p2), .val (.ref w6), .val (.int ((p2 &&& (65535 : Int32)) * w7))] [(.int (8 : Int32)), (.int (w11 &&& (255 : Int32))), (.int (w10 &&& (255 : Int32)))])) _
    refine XS.ishl X9.here hx rfl (hb hby d11_99) rfl ?_
    show Steps p.tables e below (T9.setTop (mkF m 100 #[.val (.ref a1), .val (.int p2), .val (.ref w6), .val (.int ((p2 &&& (65535 : Int32)) * w7))] [(.int ((w11 &&& (255 : Int32)) <<< ((8 : Int32) &&& 31))), (.int (w10 &&& (255 : Int32)))])) _
    refine XS.ior X9.here hx rfl (hb hby d11_100) rfl ?_
    show Steps p.tables e below (T9.setTop (mkF m 101 #[.val (.ref a1), .val (.int p2), .val (.ref w6), .val (.int ((p2 &&& (65535 : Int32)) * w7))] [(.int ((w10 &&& (255 : Int32)) ||| ((w11 &&& (255 : Int32)) <<< ((8 : Int32) &&& 31))))])) _
    refine XS.aloadN X9.here hx rfl (hb hby d11_101) rfl rfl ?_
    show Steps p.tables e below (T9.setTop (mkF m 102 #[.val (.ref a1), .val (.int p2), .val (.ref w6), .val (.int ((p2 &&& (65535 : Int32)) * w7))] [(.ref w6), (.int ((w10 &&& (255 : Int32)) ||| ((w11 &&& (255 : Int32)) <<< ((8 : Int32) &&& 31))))])) _
    refine XS.iloadN X9.here hx rfl (hb hby d11_102) rfl ?_
    show Steps p.tables e below (T9.setTop (mkF m 103 #[.val (.ref a1), .val (.int p2), .val (.ref w6), .val (.int ((p2 &&& (65535 : Int32)) * w7))] [(.int ((p2 &&& (65535 : Int32)) * w7)), (.ref w6), (.int ((w10 &&& (255 : Int32)) ||| ((w11 &&& (255 : Int32)) <<< ((8 : Int32) &&& 31))))])) _
    refine XS.iconst X9.here hx rfl (hb hby d11_103) ?_
    show Steps p.tables e below (T9.setTop (mkF m 104 #[.val (.ref a1), .val (.int p2), .val (.ref w6), .val (.int ((p2 &&& (65535 : Int32)) * w7))] [(.int (2 : Int32)), (.int ((p2 &&& (65535 : Int32)) * w7)), (.ref w6), (.int ((w10 &&& (255 : Int32)) ||| ((w11 &&& (255 : Int32)) <<< ((8 : Int32) &&& 31))))])) _
    refine XS.iadd X9.here hx rfl (hb hby d11_104) rfl ?_
    show Steps p.tables e below (T9.setTop (mkF m 105 #[.val (.ref a1), .val (.int p2), .val (.ref w6), .val (.int ((p2 &&& (65535 : Int32)) * w7))] [(.int (((p2 &&& (65535 : Int32)) * w7) + (2 : Int32))), (.ref w6), (.int ((w10 &&& (255 : Int32)) ||| ((w11 &&& (255 : Int32)) <<< ((8 : Int32) &&& 31))))])) _
    refine X9.baloadBytes hx (j := (((p2 &&& (65535 : Int32)) * w7) + (2 : Int32))) (v := (.int w12)) (by rw [e9]; exact Ar_w6.1) (State.isArrayOf_alike hZ.alike Ar_w6.2.1) Ar_w6.2.2 hin105 hat105 (g := (mkF m 105 #[.val (.ref a1), .val (.int p2), .val (.ref w6), .val (.int ((p2 &&& (65535 : Int32)) * w7))] [(.int (((p2 &&& (65535 : Int32)) * w7) + (2 : Int32))), (.ref w6), (.int ((w10 &&& (255 : Int32)) ||| ((w11 &&& (255 : Int32)) <<< ((8 : Int32) &&& 31))))])) rfl rfl (hb hby d11_105) _ ?_
    show Steps p.tables e below (T9.setTop (mkF m 106 #[.val (.ref a1), .val (.int p2), .val (.ref w6), .val (.int ((p2 &&& (65535 : Int32)) * w7))] [(.int w12), (.int ((w10 &&& (255 : Int32)) ||| ((w11 &&& (255 : Int32)) <<< ((8 : Int32) &&& 31))))])) _
    refine XS.sipush X9.here hx rfl (hb hby d11_106) ?_
    show Steps p.tables e below (T9.setTop (mkF m 109 #[.val (.ref a1), .val (.int p2), .val (.ref w6), .val (.int ((p2 &&& (65535 : Int32)) * w7))] [(.int (255 : Int32)), (.int w12), (.int ((w10 &&& (255 : Int32)) ||| ((w11 &&& (255 : Int32)) <<< ((8 : Int32) &&& 31))))])) _
    refine XS.iand X9.here hx rfl (hb hby d11_109) rfl ?_
    show Steps p.tables e below (T9.setTop (mkF m 110 #[.val (.ref a1), .val (.int p2), .val (.ref w6), .val (.int ((p2 &&& (65535 : Int32)) * w7))] [(.int (w12 &&& (255 : Int32))), (.int ((w10 &&& (255 : Int32)) ||| ((w11 &&& (255 : Int32)) <<< ((8 : Int32) &&& 31))))])) _
    refine XS.bipush X9.here hx rfl (hb hby d11_110) ?_
    show Steps p.tables e below (T9.setTop (mkF m 112 #[.val (.ref a1), .val (.int p2), .val (.ref w6), .val (.int ((p2 &&& (65535 : Int32)) * w7))] [(.int (16 : Int32)), (.int (w12 &&& (255 : Int32))), (.int ((w10 &&& (255 : Int32)) ||| ((w11 &&& (255 : Int32)) <<< ((8 : Int32) &&& 31))))])) _
    refine XS.ishl X9.here hx rfl (hb hby d11_112) rfl ?_
    show Steps p.tables e below (T9.setTop (mkF m 113 #[.val (.ref a1), .val (.int p2), .val (.ref w6), .val (.int ((p2 &&& (65535 : Int32)) * w7))] [(.int ((w12 &&& (255 : Int32)) <<< ((16 : Int32) &&& 31))), (.int ((w10 &&& (255 : Int32)) ||| ((w11 &&& (255 : Int32)) <<< ((8 : Int32) &&& 31))))])) _
    refine XS.ior X9.here hx rfl (hb hby d11_113) rfl ?_
    show Steps p.tables e below (T9.setTop (mkF m 114 #[.val (.ref a1), .val (.int p2), .val (.ref w6), .val (.int ((p2 &&& (65535 : Int32)) * w7))] [(.int (((w10 &&& (255 : Int32)) ||| ((w11 &&& (255 : Int32)) <<< ((8 : Int32) &&& 31))) ||| ((w12 &&& (255 : Int32)) <<< ((16 : Int32) &&& 31))))])) _
    exact retI X9 hx Bd.returns (hb hby d11_114) hr
  · show Q11 ((((w10 &&& (255 : Int32)) ||| ((w11 &&& (255 : Int32)) <<< ((8 : Int32) &&& 31))) ||| ((w12 &&& (255 : Int32)) <<< ((16 : Int32) &&& 31)))) h0 n0 _ T9.heap _
    rw [e9]
    exact ⟨rfl, N0, rfl⟩
theorem d11_115 : decode prog_4_method_3_code 115 = .ok (.aload_n 2, 1) := by decide +kernel
theorem d11_116 : decode prog_4_method_3_code 116 = .ok (.iload_n 3, 1) := by decide +kernel
theorem d11_117 : decode prog_4_method_3_code 117 = .ok (.baload, 1) := by decide +kernel
theorem d11_118 : decode prog_4_method_3_code 118 = .ok (.sipush 255, 3) := by decide +kernel
theorem d11_121 : decode prog_4_method_3_code 121 = .ok (.iand, 1) := by decide +kernel
theorem d11_122 : decode prog_4_method_3_code 122 = .ok (.aload_n 2, 1) := by decide +kernel
theorem d11_123 : decode prog_4_method_3_code 123 = .ok (.iload_n 3, 1) := by decide +kernel
theorem d11_124 : decode prog_4_method_3_code 124 = .ok (.iconst 1, 1) := by decide +kernel
theorem d11_125 : decode prog_4_method_3_code 125 = .ok (.iadd, 1) := by decide +kernel
theorem d11_126 : decode prog_4_method_3_code 126 = .ok (.baload, 1) := by decide +kernel
theorem d11_127 : decode prog_4_method_3_code 127 = .ok (.sipush 255, 3) := by decide +kernel
theorem d11_130 : decode prog_4_method_3_code 130 = .ok (.iand, 1) := by decide +kernel
theorem d11_131 : decode prog_4_method_3_code 131 = .ok (.bipush 8, 2) := by decide +kernel
theorem d11_133 : decode prog_4_method_3_code 133 = .ok (.ishl, 1) := by decide +kernel
theorem d11_134 : decode prog_4_method_3_code 134 = .ok (.ior, 1) := by decide +kernel
theorem d11_135 : decode prog_4_method_3_code 135 = .ok (.aload_n 2, 1) := by decide +kernel
theorem d11_136 : decode prog_4_method_3_code 136 = .ok (.iload_n 3, 1) := by decide +kernel
theorem d11_137 : decode prog_4_method_3_code 137 = .ok (.iconst 2, 1) := by decide +kernel
theorem d11_138 : decode prog_4_method_3_code 138 = .ok (.iadd, 1) := by decide +kernel
theorem d11_139 : decode prog_4_method_3_code 139 = .ok (.baload, 1) := by decide +kernel
theorem d11_140 : decode prog_4_method_3_code 140 = .ok (.sipush 255, 3) := by decide +kernel
theorem d11_143 : decode prog_4_method_3_code 143 = .ok (.iand, 1) := by decide +kernel
theorem d11_144 : decode prog_4_method_3_code 144 = .ok (.bipush 16, 2) := by decide +kernel
theorem d11_146 : decode prog_4_method_3_code 146 = .ok (.ishl, 1) := by decide +kernel
theorem d11_147 : decode prog_4_method_3_code 147 = .ok (.ior, 1) := by decide +kernel
theorem d11_148 : decode prog_4_method_3_code 148 = .ok (.aload_n 2, 1) := by decide +kernel
theorem d11_149 : decode prog_4_method_3_code 149 = .ok (.iload_n 3, 1) := by decide +kernel
theorem d11_150 : decode prog_4_method_3_code 150 = .ok (.iconst 3, 1) := by decide +kernel
theorem d11_151 : decode prog_4_method_3_code 151 = .ok (.iadd, 1) := by decide +kernel
theorem d11_152 : decode prog_4_method_3_code 152 = .ok (.baload, 1) := by decide +kernel
theorem d11_153 : decode prog_4_method_3_code 153 = .ok (.sipush 255, 3) := by decide +kernel
theorem d11_156 : decode prog_4_method_3_code 156 = .ok (.iand, 1) := by decide +kernel
theorem d11_157 : decode prog_4_method_3_code 157 = .ok (.bipush 24, 2) := by decide +kernel
theorem d11_159 : decode prog_4_method_3_code 159 = .ok (.ishl, 1) := by decide +kernel
theorem d11_160 : decode prog_4_method_3_code 160 = .ok (.ior, 1) := by decide +kernel
theorem d11_161 : decode prog_4_method_3_code 161 = .ok (.ireturn, 1) := by decide +kernel
set_option maxRecDepth 65536 in
set_option maxHeartbeats 40000000 in
theorem rm11_4 (l : Launch) (Z : State) (a0 : Array Value) (hw : ∀ d ∈ tables_1, d.before a0 Z = true) (ws : List Jvm.Cond) (a1 : Addr) (p2 : Int32) (w3 : Addr) (w6 : Addr) (cl_w3 : Cell) (w7 : Int32) (w10 : Int32) (cl_w6 : Cell) (w11 : Int32) (w12 : Int32) (w13 : Int32) (h0 : Heap) (n0 : Nat) (Z0 : n0 ≤ h0.size) (F_m_aPages_a1 : Fld Z h0 a1 "com/example/agave_bloom/agavebloom/check/CompactInts" "m_aPages" "[[B" (.ref w3)) (S_PAGE_SHIFT : Sta Z h0 "com/example/agave_bloom/agavebloom/check/CompactInts" "PAGE_SHIFT" "I" (.int (16 : Int32))) (Ar_w3 : Arr Z h0 w3 cl_w3 (.array .byte)) (hin9 : ¬ (((p2.toUInt32 >>> ((16 : Int32) &&& 31).toUInt32).toInt32) < 0 ∨ cl_w3.slots.size ≤ (((p2.toUInt32 >>> ((16 : Int32) &&& 31).toUInt32).toInt32)).toNatClampNeg)) (hat9 : cl_w3.slots[(((p2.toUInt32 >>> ((16 : Int32) &&& 31).toUInt32).toInt32)).toNatClampNeg]? = some (.ref w6)) (F_m_nWidth_a1 : Fld Z h0 a1 "com/example/agave_bloom/agavebloom/check/CompactInts" "m_nWidth" "I" (.int w7)) (Ar_w6 : Arr Z h0 w6 cl_w6 .byte) (hin117 : ¬ (((p2 &&& (65535 : Int32)) * w7) < 0 ∨ cl_w6.slots.size ≤ (((p2 &&& (65535 : Int32)) * w7)).toNatClampNeg)) (hat117 : cl_w6.slots[(((p2 &&& (65535 : Int32)) * w7)).toNatClampNeg]? = some (.int w10)) (hin126 : ¬ ((((p2 &&& (65535 : Int32)) * w7) + (1 : Int32)) < 0 ∨ cl_w6.slots.size ≤ ((((p2 &&& (65535 : Int32)) * w7) + (1 : Int32))).toNatClampNeg)) (hat126 : cl_w6.slots[((((p2 &&& (65535 : Int32)) * w7) + (1 : Int32))).toNatClampNeg]? = some (.int w11)) (hin139 : ¬ ((((p2 &&& (65535 : Int32)) * w7) + (2 : Int32)) < 0 ∨ cl_w6.slots.size ≤ ((((p2 &&& (65535 : Int32)) * w7) + (2 : Int32))).toNatClampNeg)) (hat139 : cl_w6.slots[((((p2 &&& (65535 : Int32)) * w7) + (2 : Int32))).toNatClampNeg]? = some (.int w12)) (hin152 : ¬ ((((p2 &&& (65535 : Int32)) * w7) + (3 : Int32)) < 0 ∨ cl_w6.slots.size ≤ ((((p2 &&& (65535 : Int32)) * w7) + (3 : Int32))).toNatClampNeg)) (hat152 : cl_w6.slots[((((p2 &&& (65535 : Int32)) * w7) + (3 : Int32))).toNatClampNeg]? = some (.int w13)) (hs25 : w7.toInt < 1 ∨ w7.toInt > 3) :
    MetFree l (⟨"com/example/agave_bloom/agavebloom/check/CompactInts", "get", "(I)I"⟩ : MethodName) (head1 (Jvm.Cond.code (⟨"com/example/agave_bloom/agavebloom/check/CompactInts", "get", "(I)I"⟩ : MethodName) prog_4_method_3_code 4 (some .int) :: ws) ({ frames := 0, cells := 0, slots := 0, locals := 0 } : Room)) (fun a U => a = #[(.ref a1), (.int p2)] ∧ Z.Warmed39 U.vm ∧ U.heap = h0) (fun _ _ _ _ _ => True) (fun _ U o U' => ∃ v L, o = .returned v ∧ Q11 (((((w10 &&& (255 : Int32)) ||| ((w11 &&& (255 : Int32)) <<< ((8 : Int32) &&& 31))) ||| ((w12 &&& (255 : Int32)) <<< ((16 : Int32) &&& 31))) ||| ((w13 &&& (255 : Int32)) <<< ((24 : Int32) &&& 31)))) h0 n0 v U'.heap L ∧ FrameEnd U o U' L ({ frames := 0, cells := 0, slots := 0, locals := 0 } : Room).cells ({ frames := 0, cells := 0, slots := 0, locals := 0 } : Room).slots) := by
  refine MetFree.of_bodySF (plainFor_of_name pn_11) hisR ?_
  intro p e s m args below meth c s₁ Bd hml0 hP hK
  obtain ⟨rfl, hZ, hh⟩ := hP
  have hx := Bd.exec
  have hby := Bd.bytes
  have hml : c.maxLocals = 4 := hml0
  have hown : s.vm.findClass "com/example/agave_bloom/agavebloom/check/CompactInts" = some m.cls := findClass_of_methodNamed Bd.named
  have hnm := (name_of_methodNamed Bd.named Bd.method).1
  have X0 : Stand p l e ({ frames := 0, cells := 0, slots := 0, locals := 0 } : Room) s m #[(.ref a1), (.int p2)] below meth c s₁ [] 0 0 := Stand.of_body Bd
  have e0 : s₁.heap = h0 := by rw [← hh, Bd.state]; rfl
  have N0 := Fr.nil n0
  have pre0 : ∀ t, Steps p.tables e below (s₁.setTop (mkF m 0 #[.val (.ref a1), .val (.int p2), .unset, .unset] [])) t → Steps p.tables e below (s₁.setTop (entryFrame m #[(.ref a1), (.int p2)] 4)) t := fun t k => castTop (ef_11 m a1 p2) k
  obtain ⟨T4, X4, e4, st4⟩ := getF X0 hx hZ hown (host := "") (Or.inl (hw _ (List.mem_of_getElem? (i := 12) rfl))) Via.refl e0 F_m_aPages_a1 (g := (mkF m 1 #[.val (.ref a1), .val (.int p2), .unset, .unset] [(.ref a1)])) rfl rfl (hb hby d11_1)
  obtain ⟨T5, X5, e5, st5⟩ := getS2 X4 hx hZ hown (host := "") (Or.inl (hw _ (List.mem_of_getElem? (i := 42) rfl))) Via.refl e4 S_PAGE_SHIFT (g := (mkF m 5 #[.val (.ref a1), .val (.int p2), .unset, .unset] [(.int p2), (.ref w3)])) rfl (hb hby d11_5)
  obtain ⟨T8, X8, e8, st8⟩ := getF X5 hx hZ hown (host := "") (Or.inl (hw _ (List.mem_of_getElem? (i := 14) rfl))) Via.refl e5 F_m_nWidth_a1 (g := (mkF m 16 #[.val (.ref a1), .val (.int p2), .val (.ref w6), .unset] [(.ref a1), (.int (p2 &&& (65535 : Int32)))])) rfl rfl (hb hby d11_16)
  obtain ⟨T9, X9, e9, st9⟩ := getF X8 hx hZ hown (host := "") (Or.inl (hw _ (List.mem_of_getElem? (i := 14) rfl))) Via.refl e8 F_m_nWidth_a1 (g := (mkF m 22 #[.val (.ref a1), .val (.int p2), .val (.ref w6), .val (.int ((p2 &&& (65535 : Int32)) * w7))] [(.ref a1)])) rfl rfl (hb hby d11_22)
  obtain ⟨fs, hr, hrun, hended, hW, hsame⟩ := X9.leave (v := some (.int ((((w10 &&& (255 : Int32)) ||| ((w11 &&& (255 : Int32)) <<< ((8 : Int32) &&& 31))) ||| ((w12 &&& (255 : Int32)) <<< ((16 : Int32) &&& 31))) ||| ((w13 &&& (255 : Int32)) <<< ((24 : Int32) &&& 31))))) (fun h => by rw [Bd.returns] at h; cases h)
  refine ⟨_, _, pre0 _ ?_, hrun, hended, _, _, rfl, ?_, ⟨_, rfl⟩, hW, hsame.mono (by decide) (by decide)⟩
  · show Steps p.tables e below (s₁.setTop (mkF m 0 #[.val (.ref a1), .val (.int p2), .unset, .unset] [])) _
    refine XS.aloadN X0.here hx rfl (hb hby d11_0) rfl rfl ?_
    show Steps p.tables e below (s₁.setTop (mkF m 1 #[.val (.ref a1), .val (.int p2), .unset, .unset] [(.ref a1)])) _
    refine st4 _ ?_
    show Steps p.tables e below (T4.setTop (mkF m 4 #[.val (.ref a1), .val (.int p2), .unset, .unset] [(.ref w3)])) _
    refine XS.iloadN X4.here hx rfl (hb hby d11_4) rfl ?_
    show Steps p.tables e below (T4.setTop (mkF m 5 #[.val (.ref a1), .val (.int p2), .unset, .unset] [(.int p2), (.ref w3)])) _
    refine st5 _ ?_
    show Steps p.tables e below (T5.setTop (mkF m 8 #[.val (.ref a1), .val (.int p2), .unset, .unset] [(.int (16 : Int32)), (.int p2), (.ref w3)])) _
    refine XS.iushr X5.here hx rfl (hb hby d11_8) rfl ?_
    show Steps p.tables e below (T5.setTop (mkF m 9 #[.val (.ref a1), .val (.int p2), .unset, .unset] [(.int ((p2.toUInt32 >>> ((16 : Int32) &&& 31).toUInt32).toInt32)), (.ref w3)])) _
    refine X5.aaload hx (j := ((p2.toUInt32 >>> ((16 : Int32) &&& 31).toUInt32).toInt32)) (v := (.ref w6)) (by rw [e5]; exact Ar_w3.1) (State.isArrayOf_alike hZ.alike Ar_w3.2.1) rfl Ar_w3.2.2 hin9 hat9 (g := (mkF m 9 #[.val (.ref a1), .val (.int p2), .unset, .unset] [(.int ((p2.toUInt32 >>> ((16 : Int32) &&& 31).toUInt32).toInt32)), (.ref w3)])) rfl rfl (hb hby d11_9) _ ?_
    show Steps p.tables e below (T5.setTop (mkF m 10 #[.val (.ref a1), .val (.int p2), .unset, .unset] [(.ref w6)])) _
    refine XS.astoreN X5.here hx rfl (hb hby d11_10) rfl rfl (l' := #[.val (.ref a1), .val (.int p2), .val (.ref w6), .unset]) rfl ?_
    show Steps p.tables e below (T5.setTop (mkF m 11 #[.val (.ref a1), .val (.int p2), .val (.ref w6), .unset] [])) _
    refine XS.iloadN X5.here hx rfl (hb hby d11_11) rfl ?_
    show Steps p.tables e below (T5.setTop (mkF m 12 #[.val (.ref a1), .val (.int p2), .val (.ref w6), .unset] [(.int p2)])) _
    refine X5.ldcInt hx hown (mvT hZ (hw _ (List.mem_of_getElem? (i := 44) rfl))) (g := (mkF m 12 #[.val (.ref a1), .val (.int p2), .val (.ref w6), .unset] [(.int p2)])) rfl (hb hby d11_12) _ ?_
    show Steps p.tables e below (T5.setTop (mkF m 14 #[.val (.ref a1), .val (.int p2), .val (.ref w6), .unset] [(.int (65535 : Int32)), (.int p2)])) _
    refine XS.iand X5.here hx rfl (hb hby d11_14) rfl ?_
    show Steps p.tables e below (T5.setTop (mkF m 15 #[.val (.ref a1), .val (.int p2), .val (.ref w6), .unset] [(.int (p2 &&& (65535 : Int32)))])) _
    refine XS.aloadN X5.here hx rfl (hb hby d11_15) rfl rfl ?_
    show Steps p.tables e below (T5.setTop (mkF m 16 #[.val (.ref a1), .val (.int p2), .val (.ref w6), .unset] [(.ref a1), (.int (p2 &&& (65535 : Int32)))])) _
    refine st8 _ ?_
    show Steps p.tables e below (T8.setTop (mkF m 19 #[.val (.ref a1), .val (.int p2), .val (.ref w6), .unset] [(.int w7), (.int (p2 &&& (65535 : Int32)))])) _
    refine XS.imul X8.here hx rfl (hb hby d11_19) rfl ?_
    show Steps p.tables e below (T8.setTop (mkF m 20 #[.val (.ref a1), .val (.int p2), .val (.ref w6), .unset] [(.int ((p2 &&& (65535 : Int32)) * w7))])) _
    refine XS.istoreN X8.here hx rfl (hb hby d11_20) rfl (l' := #[.val (.ref a1), .val (.int p2), .val (.ref w6), .val (.int ((p2 &&& (65535 : Int32)) * w7))]) rfl ?_
    show Steps p.tables e below (T8.setTop (mkF m 21 #[.val (.ref a1), .val (.int p2), .val (.ref w6), .val (.int ((p2 &&& (65535 : Int32)) * w7))] [])) _
    refine XS.aloadN X8.here hx rfl (hb hby d11_21) rfl rfl ?_
    show Steps p.tables e below (T8.setTop (mkF m 22 #[.val (.ref a1), .val (.int p2), .val (.ref w6), .val (.int ((p2 &&& (65535 : Int32)) * w7))] [(.ref a1)])) _
    refine st9 _ ?_
    show Steps p.tables e below (T9.setTop (mkF m 25 #[.val (.ref a1), .val (.int p2), .val (.ref w6), .val (.int ((p2 &&& (65535 : Int32)) * w7))] [(.int w7)])) _
    refine XS.tswOut X9.here hx rfl (pc0 := 25) (pc' := 115) rfl (hb hby d11_25) rfl hs25 (by decide) (by decide) ?_
    show Steps p.tables e below (T9.setTop (mkF m 115 #[.val (.ref a1), .val (.int p2), .val (.ref w6), .val (.int ((p2 &&& (65535 : Int32)) * w7))] [])) _
    refine XS.aloadN X9.here hx rfl (hb hby d11_115) rfl rfl ?_
    show Steps p.tables e below (T9.setTop (mkF m 116 #[.val (.ref a1), .val (.int p2), .val (.ref w6), .val (.int ((p2 &&& (65535 : Int32)) * w7))] [(.ref w6)])) _
    refine XS.iloadN X9.here hx rfl (hb hby d11_116) rfl ?_
    show Steps p.tables e below (T9.setTop (mkF m 117 #[.val (.ref a1), .val (.int p2), .val (.ref w6), .val (.int ((p2 &&& (65535 : Int32)) * w7))] [(.int ((p2 &&& (65535 : Int32)) * w7)), (.ref w6)])) _
    refine X9.baloadBytes hx (j := ((p2 &&& (65535 : Int32)) * w7)) (v := (.int w10)) (by rw [e9]; exact Ar_w6.1) (State.isArrayOf_alike hZ.alike Ar_w6.2.1) Ar_w6.2.2 hin117 hat117 (g := (mkF m 117 #[.val (.ref a1), .val (.int p2), .val (.ref w6), .val (.int ((p2 &&& (65535 : Int32)) * w7))] [(.int ((p2 &&& (65535 : Int32)) * w7)), (.ref w6)])) rfl rfl (hb hby d11_117) _ ?_
    show Steps p.tables e below (T9.setTop (mkF m 118 #[.val (.ref a1), .val (.int p2), .val (.ref w6), .val (.int ((p2 &&& (65535 : Int32)) * w7))] [(.int w10)])) _
    refine XS.sipush X9.here hx rfl (hb hby d11_118) ?_
    show Steps p.tables e below (T9.setTop (mkF m 121 #[.val (.ref a1), .val (.int p2), .val (.ref w6), .val (.int ((p2 &&& (65535 : Int32)) * w7))] [(.int (255 : Int32)), (.int w10)])) _
    refine XS.iand X9.here hx rfl (hb hby d11_121) rfl ?_
    show Steps p.tables e below (T9.setTop (mkF m 122 #[.val (.ref a1), .val (.int p2), .val (.ref w6), .val (.int ((p2 &&& (65535 : Int32)) * w7))] [(.int (w10 &&& (255 : Int32)))])) _
    refine XS.aloadN X9.here hx rfl (hb hby d11_122) rfl rfl ?_
    show Steps p.tables e below (T9.setTop (mkF m 123 #[.val (.ref a1), .val (.int p2), .val (.ref w6), .val (.int ((p2 &&& (65535 : Int32)) * w7))] [(.ref w6), (.int (w10 &&& (255 : Int32)))])) _
    refine XS.iloadN X9.here hx rfl (hb hby d11_123) rfl ?_
    show Steps p.tables e below (T9.setTop (mkF m 124 #[.val (.ref a1), .val (.int p2), .val (.ref w6), .val (.int ((p2 &&& (65535 : Int32)) * w7))] [(.int ((p2 &&& (65535 : Int32)) * w7)), (.ref w6), (.int (w10 &&& (255 : Int32)))])) _
    refine XS.iconst X9.here hx rfl (hb hby d11_124) ?_
    show Steps p.tables e below (T9.setTop (mkF m 125 #[.val (.ref a1), .val (.int p2), .val (.ref w6), .val (.int ((p2 &&& (65535 : Int32)) * w7))] [(.int (1 : Int32)), (.int ((p2 &&& (65535 : Int32)) * w7)), (.ref w6), (.int (w10 &&& (255 : Int32)))])) _
    refine XS.iadd X9.here hx rfl (hb hby d11_125) rfl ?_
    show Steps p.tables e below (T9.setTop (mkF m 126 #[.val (.ref a1), .val (.int p2), .val (.ref w6), .val (.int ((p2 &&& (65535 : Int32)) * w7))] [(.int (((p2 &&& (65535 : Int32)) * w7) + (1 : Int32))), (.ref w6), (.int (w10 &&& (255 : Int32)))])) _
    refine X9.baloadBytes hx (j := (((p2 &&& (65535 : Int32)) * w7) + (1 : Int32))) (v := (.int w11)) (by rw [e9]; exact Ar_w6.1) (State.isArrayOf_alike hZ.alike Ar_w6.2.1) Ar_w6.2.2 hin126 hat126 (g := (mkF m 126 #[.val (.ref a1), .val (.int p2), .val (.ref w6), .val (.int ((p2 &&& (65535 : Int32)) * w7))] [(.int (((p2 &&& (65535 : Int32)) * w7) + (1 : Int32))), (.ref w6), (.int (w10 &&& (255 : Int32)))])) rfl rfl (hb hby d11_126) _ ?_
    show Steps p.tables e below (T9.setTop (mkF m 127 #[.val (.ref a1), .val (.int p2), .val (.ref w6), .val (.int ((p2 &&& (65535 : Int32)) * w7))] [(.int w11), (.int (w10 &&& (255 : Int32)))])) _
    refine XS.sipush X9.here hx rfl (hb hby d11_127) ?_
    show Steps p.tables e below (T9.setTop (mkF m 130 #[.val (.ref a1), .val (.int p2), .val (.ref w6), .val (.int ((p2 &&& (65535 : Int32)) * w7))] [(.int (255 : Int32)), (.int w11), (.int (w10 &&& (255 : Int32)))])) _
    refine XS.iand X9.here hx rfl (hb hby d11_130) rfl ?_
    show Steps p.tables e below (T9.setTop (mkF m 131 #[.val (.ref a1), .val (.int p2), .val (.ref w6), .val (.int ((p2 &&& (65535 : Int32)) * w7))] [(.int (w11 &&& (255 : Int32))), (.int (w10 &&& (255 : Int32)))])) _
    refine XS.bipush X9.here hx rfl (hb hby d11_131) ?_
    show Steps p.tables e below (T9.setTop (mkF m 133 #[.val (.ref a1), .val (.int p2), .val (.ref w6), .val (.int ((p2 &&& (65535 : Int32)) * w7))] [(.int (8 : Int32)), (.int (w11 &&& (255 : Int32))), (.int (w10 &&& (255 : Int32)))])) _
    refine XS.ishl X9.here hx rfl (hb hby d11_133) rfl ?_
    show Steps p.tables e below (T9.setTop (mkF m 134 #[.val (.ref a1), .val (.int p2), .val (.ref w6), .val (.int ((p2 &&& (65535 : Int32)) * w7))] [(.int ((w11 &&& (255 : Int32)) <<< ((8 : Int32) &&& 31))), (.int (w10 &&& (255 : Int32)))])) _
    refine XS.ior X9.here hx rfl (hb hby d11_134) rfl ?_
    show Steps p.tables e below (T9.setTop (mkF m 135 #[.val (.ref a1), .val (.int p2), .val (.ref w6), .val (.int ((p2 &&& (65535 : Int32)) * w7))] [(.int ((w10 &&& (255 : Int32)) ||| ((w11 &&& (255 : Int32)) <<< ((8 : Int32) &&& 31))))])) _
    refine XS.aloadN X9.here hx rfl (hb hby d11_135) rfl rfl ?_
    show Steps p.tables e below (T9.setTop (mkF m 136 #[.val (.ref a1), .val (.int p2), .val (.ref w6), .val (.int ((p2 &&& (65535 : Int32)) * w7))] [(.ref w6), (.int ((w10 &&& (255 : Int32)) ||| ((w11 &&& (255 : Int32)) <<< ((8 : Int32) &&& 31))))])) _
    refine XS.iloadN X9.here hx rfl (hb hby d11_136) rfl ?_
    show Steps p.tables e below (T9.setTop (mkF m 137 #[.val (.ref a1), .val (.int p2), .val (.ref w6), .val (.int ((p2 &&& (65535 : Int32)) * w7))] [(.int ((p2 &&& (65535 : Int32)) * w7)), (.ref w6), (.int ((w10 &&& (255 : Int32)) ||| ((w11 &&& (255 : Int32)) <<< ((8 : Int32) &&& 31))))])) _
    refine XS.iconst X9.here hx rfl (hb hby d11_137) ?_
    show Steps p.tables e below (T9.setTop (mkF m 138 #[.val (.ref a1), .val (.int p2), .val (.ref w6), .val (.int ((p2 &&& (65535 : Int32)) * w7))] [(.int (2 : Int32)), (.int ((p2 &&& (65535 : Int32)) * w7)), (.ref w6), (.int ((w10 &&& (255 : Int32)) ||| ((w11 &&& (255 : Int32)) <<< ((8 : Int32) &&& 31))))])) _
    refine XS.iadd X9.here hx rfl (hb hby d11_138) rfl ?_
    show Steps p.tables e below (T9.setTop (mkF m 139 #[.val (.ref a1), .val (.int p2), .val (.ref w6), .val (.int ((p2 &&& (65535 : Int32)) * w7))] [(.int (((p2 &&& (65535 : Int32)) * w7) + (2 : Int32))), (.ref w6), (.int ((w10 &&& (255 : Int32)) ||| ((w11 &&& (255 : Int32)) <<< ((8 : Int32) &&& 31))))])) _
    refine X9.baloadBytes hx (j := (((p2 &&& (65535 : Int32)) * w7) + (2 : Int32))) (v := (.int w12)) (by rw [e9]; exact Ar_w6.1) (State.isArrayOf_alike hZ.alike Ar_w6.2.1) Ar_w6.2.2 hin139 hat139 (g := (mkF m 139 #[.val (.ref a1), .val (.int p2), .val (.ref w6), .val (.int ((p2 &&& (65535 : Int32)) * w7))] [(.int (((p2 &&& (65535 : Int32)) * w7) + (2 : Int32))), (.ref w6), (.int ((w10 &&& (255 : Int32)) ||| ((w11 &&& (255 : Int32)) <<< ((8 : Int32) &&& 31))))])) rfl rfl (hb hby d11_139) _ ?_
    show Steps p.tables e below (T9.setTop (mkF m 140 #[.val (.ref a1), .val (.int p2), .val (.ref w6), .val (.int ((p2 &&& (65535 : Int32)) * w7))] [(.int w12), (.int ((w10 &&& (255 : Int32)) ||| ((w11 &&& (255 : Int32)) <<< ((8 : Int32) &&& 31))))])) _
    refine XS.sipush X9.here hx rfl (hb hby d11_140) ?_
    show Steps p.tables e below (T9.setTop (mkF m 143 #[.val (.ref a1), .val (.int p2), .val (.ref w6), .val (.int ((p2 &&& (65535 : Int32)) * w7))] [(.int (255 : Int32)), (.int w12), (.int ((w10 &&& (255 : Int32)) ||| ((w11 &&& (255 : Int32)) <<< ((8 : Int32) &&& 31))))])) _
    refine XS.iand X9.here hx rfl (hb hby d11_143) rfl ?_
    show Steps p.tables e below (T9.setTop (mkF m 144 #[.val (.ref a1), .val (.int p2), .val (.ref w6), .val (.int ((p2 &&& (65535 : Int32)) * w7))] [(.int (w12 &&& (255 : Int32))), (.int ((w10 &&& (255 : Int32)) ||| ((w11 &&& (255 : Int32)) <<< ((8 : Int32) &&& 31))))])) _
    refine XS.bipush X9.here hx rfl (hb hby d11_144) ?_
    show Steps p.tables e below (T9.setTop (mkF m 146 #[.val (.ref a1), .val (.int p2), .val (.ref w6), .val (.int ((p2 &&& (65535 : Int32)) * w7))] [(.int (16 : Int32)), (.int (w12 &&& (255 : Int32))), (.int ((w10 &&& (255 : Int32)) ||| ((w11 &&& (255 : Int32)) <<< ((8 : Int32) &&& 31))))])) _
    refine XS.ishl X9.here hx rfl (hb hby d11_146) rfl ?_
    show Steps p.tables e below (T9.setTop (mkF m 147 #[.val (.ref a1), .val (.int p2), .val (.ref w6), .val (.int ((p2 &&& (65535 : Int32)) * w7))] [(.int ((w12 &&& (255 : Int32)) <<< ((16 : Int32) &&& 31))), (.int ((w10 &&& (255 : Int32)) ||| ((w11 &&& (255 : Int32)) <<< ((8 : Int32) &&& 31))))])) _
    refine XS.ior X9.here hx rfl (hb hby d11_147) rfl ?_
    show Steps p.tables e below (T9.setTop (mkF m 148 #[.val (.ref a1), .val (.int p2), .val (.ref w6), .val (.int ((p2 &&& (65535 : Int32)) * w7))] [(.int (((w10 &&& (255 : Int32)) ||| ((w11 &&& (255 : Int32)) <<< ((8 : Int32) &&& 31))) ||| ((w12 &&& (255 : Int32)) <<< ((16 : Int32) &&& 31))))])) _
    refine XS.aloadN X9.here hx rfl (hb hby d11_148) rfl rfl ?_
    show Steps p.tables e below (T9.setTop (mkF m 149 #[.val (.ref a1), .val (.int p2), .val (.ref w6), .val (.int ((p2 &&& (65535 : Int32)) * w7))] [(.ref w6), (.int (((w10 &&& (255 : Int32)) ||| ((w11 &&& (255 : Int32)) <<< ((8 : Int32) &&& 31))) ||| ((w12 &&& (255 : Int32)) <<< ((16 : Int32) &&& 31))))])) _
    refine XS.iloadN X9.here hx rfl (hb hby d11_149) rfl ?_
    show Steps p.tables e below (T9.setTop (mkF m 150 #[.val (.ref a1), .val (.int p2), .val (.ref w6), .val (.int ((p2 &&& (65535 : Int32)) * w7))] [(.int ((p2 &&& (65535 : Int32)) * w7)), (.ref w6), (.int (((w10 &&& (255 : Int32)) ||| ((w11 &&& (255 : Int32)) <<< ((8 : Int32) &&& 31))) ||| ((w12 &&& (255 : Int32)) <<< ((16 : Int32) &&& 31))))])) _
    refine XS.iconst X9.here hx rfl (hb hby d11_150) ?_
    show Steps p.tables e below (T9.setTop (mkF m 151 #[.val (.ref a1), .val (.int p2), .val (.ref w6), .val (.int ((p2 &&& (65535 : Int32)) * w7))] [(.int (3 : Int32)), (.int ((p2 &&& (65535 : Int32)) * w7)), (.ref w6), (.int (((w10 &&& (255 : Int32)) ||| ((w11 &&& (255 : Int32)) <<< ((8 : Int32) &&& 31))) ||| ((w12 &&& (255 : Int32)) <<< ((16 : Int32) &&& 31))))])) _
    refine XS.iadd X9.here hx rfl (hb hby d11_151) rfl ?_
    show Steps p.tables e below (T9.setTop (mkF m 152 #[.val (.ref a1), .val (.int p2), .val (.ref w6), .val (.int ((p2 &&& (65535 : Int32)) * w7))] [(.int (((p2 &&& (65535 : Int32)) * w7) + (3 : Int32))), (.ref w6), (.int (((w10 &&& (255 : Int32)) ||| ((w11 &&& (255 : Int32)) <<< ((8 : Int32) &&& 31))) ||| ((w12 &&& (255 : Int32)) <<< ((16 : Int32) &&& 31))))])) _
    refine X9.baloadBytes hx (j := (((p2 &&& (65535 : Int32)) * w7) + (3 : Int32))) (v := (.int w13)) (by rw [e9]; exact Ar_w6.1) (State.isArrayOf_alike hZ.alike Ar_w6.2.1) Ar_w6.2.2 hin152 hat152 (g := (mkF m 152 #[.val (.ref a1), .val (.int p2), .val (.ref w6), .val (.int ((p2 &&& (65535 : Int32)) * w7))] [(.int (((p2 &&& (65535 : Int32)) * w7) + (3 : Int32))), (.ref w6), (.int (((w10 &&& (255 : Int32)) ||| ((w11 &&& (255 : Int32)) <<< ((8 : Int32) &&& 31))) ||| ((w12 &&& (255 : Int32)) <<< ((16 : Int32) &&& 31))))])) rfl rfl (hb hby d11_152) _ ?_
    show Steps p.tables e below (T9.setTop (mkF m 153 #[.val (.ref a1), .val (.int p2), .val (.ref w6), .val (.int ((p2 &&& (65535 : Int32)) * w7))] [(.int w13), (.int (((w10 &&& (255 : Int32)) ||| ((w11 &&& (255 : Int32)) <<< ((8 : Int32) &&& 31))) ||| ((w12 &&& (255 : Int32)) <<< ((16 : Int32) &&& 31))))])) _
    refine XS.sipush X9.here hx rfl (hb hby d11_153) ?_
    show Steps p.tables e below (T9.setTop (mkF m 156 #[.val (.ref a1), .val (.int p2), .val (.ref w6), .val (.int ((p2 &&& (65535 : Int32)) * w7))] [(.int (255 : Int32)), (.int w13), (.int (((w10 &&& (255 : Int32)) ||| ((w11 &&& (255 : Int32)) <<< ((8 : Int32) &&& 31))) ||| ((w12 &&& (255 : Int32)) <<< ((16 : Int32) &&& 31))))])) _
    refine XS.iand X9.here hx rfl (hb hby d11_156) rfl ?_
    show Steps p.tables e below (T9.setTop (mkF m 157 #[.val (.ref a1), .val (.int p2), .val (.ref w6), .val (.int ((p2 &&& (65535 : Int32)) * w7))] [(.int (w13 &&& (255 : Int32))), (.int (((w10 &&& (255 : Int32)) ||| ((w11 &&& (255 : Int32)) <<< ((8 : Int32) &&& 31))) ||| ((w12 &&& (255 : Int32)) <<< ((16 : Int32) &&& 31))))])) _
    refine XS.bipush X9.here hx rfl (hb hby d11_157) ?_
    show Steps p.tables e below (T9.setTop (mkF m 159 #[.val (.ref a1), .val (.int p2), .val (.ref w6), .val (.int ((p2 &&& (65535 : Int32)) * w7))] [(.int (24 : Int32)), (.int (w13 &&& (255 : Int32))), (.int (((w10 &&& (255 : Int32)) ||| ((w11 &&& (255 : Int32)) <<< ((8 : Int32) &&& 31))) ||| ((w12 &&& (255 : Int32)) <<< ((16 : Int32) &&& 31))))])) _
    refine XS.ishl X9.here hx rfl (hb hby d11_159) rfl ?_
    show Steps p.tables e below (T9.setTop (mkF m 160 #[.val (.ref a1), .val (.int p2), .val (.ref w6), .val (.int ((p2 &&& (65535 : Int32)) * w7))] [(.int ((w13 &&& (255 : Int32)) <<< ((24 : Int32) &&& 31))), (.int (((w10 &&& (255 : Int32)) ||| ((w11 &&& (255 : Int32)) <<< ((8 : Int32) &&& 31))) ||| ((w12 &&& (255 : Int32)) <<< ((16 : Int32) &&& 31))))])) _
    refine XS.ior X9.here hx rfl (hb hby d11_160) rfl ?_
    show Steps p.tables e below (T9.setTop (mkF m 161 #[.val (.ref a1), .val (.int p2), .val (.ref w6), .val (.int ((p2 &&& (65535 : Int32)) * w7))] [(.int ((((w10 &&& (255 : Int32)) ||| ((w11 &&& (255 : Int32)) <<< ((8 : Int32) &&& 31))) ||| ((w12 &&& (255 : Int32)) <<< ((16 : Int32) &&& 31))) ||| ((w13 &&& (255 : Int32)) <<< ((24 : Int32) &&& 31))))])) _
    exact retI X9 hx Bd.returns (hb hby d11_161) hr
  · show Q11 (((((w10 &&& (255 : Int32)) ||| ((w11 &&& (255 : Int32)) <<< ((8 : Int32) &&& 31))) ||| ((w12 &&& (255 : Int32)) <<< ((16 : Int32) &&& 31))) ||| ((w13 &&& (255 : Int32)) <<< ((24 : Int32) &&& 31)))) h0 n0 _ T9.heap _
    rw [e9]
    exact ⟨rfl, N0, rfl⟩
set_option maxHeartbeats 4000000 in
theorem rm11 (l : Launch) (Z : State) (a0 : Array Value) (hw : ∀ d ∈ tables_1, d.before a0 Z = true) (ws : List Jvm.Cond) (a1 : Addr) (p2 : Int32) (pA : Addr) (kA : ClassId) (pg : Addr) (W : Int32) (B : Nat → Int32) (h0 : Heap) (n0 : Nat) (Z0 : n0 ≤ h0.size) (F1 : Fld Z h0 a1 "com/example/agave_bloom/agavebloom/check/CompactInts" "m_aPages" "[[B" (.ref pA)) (SP : Sta Z h0 "com/example/agave_bloom/agavebloom/check/CompactInts" "PAGE_SHIFT" "I" (.int (16 : Int32))) (VA : Arv Z h0 pA kA (.array .byte) (1 : Int32) [(.ref pg)] .null) (FW : Fld Z h0 a1 "com/example/agave_bloom/agavebloom/check/CompactInts" "m_nWidth" "I" (.int W)) (PG : Pg Z h0 pg ((64 : Int32) * W) B) (hW : own_okW W) (hp : own_ok2 p2) :
    MetFree l (⟨"com/example/agave_bloom/agavebloom/check/CompactInts", "get", "(I)I"⟩ : MethodName) (head1 (Jvm.Cond.code (⟨"com/example/agave_bloom/agavebloom/check/CompactInts", "get", "(I)I"⟩ : MethodName) prog_4_method_3_code 4 (some .int) :: ws) ({ frames := 0, cells := 0, slots := 0, locals := 0 } : Room)) (fun a U => a = #[(.ref a1), (.int p2)] ∧ Z.Warmed39 U.vm ∧ U.heap = h0) (fun _ _ _ _ _ => True) (fun _ U o U' => ∃ v L, o = .returned v ∧ Q11 (own_get W (B (own_ix p2 W)) (B (own_ix p2 W + 1)) (B (own_ix p2 W + 2)) (B (own_ix p2 W + 3))) h0 n0 v U'.heap L ∧ FrameEnd U o U' L ({ frames := 0, cells := 0, slots := 0, locals := 0 } : Room).cells ({ frames := 0, cells := 0, slots := 0, locals := 0 } : Room).slots) := by
  obtain ⟨clA, ArA, qA, SA, NA, HA, GA⟩ := VA
  obtain ⟨clP, ArP, SzP, CtP⟩ := PG
  have hW0 := hW
  rcases hW with rfl | rfl | rfl | rfl
  · obtain ⟨i0, i1, i2, i3, u0, u1, u2, u3, h12, hz, hs⟩ := own_idx p2 1 hp hW0
    have eW : (1 : Int32).toNatClampNeg = 1 := rfl
    rw [eW] at h12
    have hinA : ¬ (((p2.toUInt32 >>> ((16 : Int32) &&& 31).toUInt32).toInt32) < 0 ∨ clA.slots.size ≤ (((p2.toUInt32 >>> ((16 : Int32) &&& 31).toUInt32).toInt32)).toNatClampNeg) := by rw [hs]; exact inb_of SA ⟨by decide, by decide⟩
    have hatA : clA.slots[(((p2.toUInt32 >>> ((16 : Int32) &&& 31).toUInt32).toInt32)).toNatClampNeg]? = some (.ref pg) := by rw [hs]; exact HA.at (inb_of SA ⟨by decide, by decide⟩) rfl
    have s0 : ¬ (((p2 &&& (65535 : Int32)) * (1 : Int32)) < 0 ∨ clP.slots.size ≤ (((p2 &&& (65535 : Int32)) * (1 : Int32))).toNatClampNeg) := fun q => q.elim u0 (fun y => by rw [SzP, i0] at y; omega)
    have t0 : clP.slots[(((p2 &&& (65535 : Int32)) * (1 : Int32))).toNatClampNeg]? = some (.int (B (own_ix p2 (1 : Int32) + 0))) := by rw [i0]; exact CtP _ (by omega)
    unfold own_get
    rw [if_pos rfl]
    exact rm11_1 l Z a0 hw ws a1 p2 pA pg clA (1 : Int32) (B (own_ix p2 (1 : Int32) + 0)) clP h0 n0 Z0 F1 SP ArA hinA hatA FW ArP s0 t0 rfl
  · obtain ⟨i0, i1, i2, i3, u0, u1, u2, u3, h12, hz, hs⟩ := own_idx p2 2 hp hW0
    have eW : (2 : Int32).toNatClampNeg = 2 := rfl
    rw [eW] at h12
    have hinA : ¬ (((p2.toUInt32 >>> ((16 : Int32) &&& 31).toUInt32).toInt32) < 0 ∨ clA.slots.size ≤ (((p2.toUInt32 >>> ((16 : Int32) &&& 31).toUInt32).toInt32)).toNatClampNeg) := by rw [hs]; exact inb_of SA ⟨by decide, by decide⟩
    have hatA : clA.slots[(((p2.toUInt32 >>> ((16 : Int32) &&& 31).toUInt32).toInt32)).toNatClampNeg]? = some (.ref pg) := by rw [hs]; exact HA.at (inb_of SA ⟨by decide, by decide⟩) rfl
    have s0 : ¬ (((p2 &&& (65535 : Int32)) * (2 : Int32)) < 0 ∨ clP.slots.size ≤ (((p2 &&& (65535 : Int32)) * (2 : Int32))).toNatClampNeg) := fun q => q.elim u0 (fun y => by rw [SzP, i0] at y; omega)
    have t0 : clP.slots[(((p2 &&& (65535 : Int32)) * (2 : Int32))).toNatClampNeg]? = some (.int (B (own_ix p2 (2 : Int32) + 0))) := by rw [i0]; exact CtP _ (by omega)
    have s1 : ¬ ((((p2 &&& (65535 : Int32)) * (2 : Int32)) + (1 : Int32)) < 0 ∨ clP.slots.size ≤ ((((p2 &&& (65535 : Int32)) * (2 : Int32)) + (1 : Int32))).toNatClampNeg) := fun q => q.elim u1 (fun y => by rw [SzP, i1] at y; omega)
    have t1 : clP.slots[((((p2 &&& (65535 : Int32)) * (2 : Int32)) + (1 : Int32))).toNatClampNeg]? = some (.int (B (own_ix p2 (2 : Int32) + 1))) := by rw [i1]; exact CtP _ (by omega)
    unfold own_get
    rw [if_neg (by decide), if_pos rfl]
    exact rm11_2 l Z a0 hw ws a1 p2 pA pg clA (2 : Int32) (B (own_ix p2 (2 : Int32) + 0)) clP (B (own_ix p2 (2 : Int32) + 1)) h0 n0 Z0 F1 SP ArA hinA hatA FW ArP s0 t0 s1 t1 rfl
  · obtain ⟨i0, i1, i2, i3, u0, u1, u2, u3, h12, hz, hs⟩ := own_idx p2 3 hp hW0
    have eW : (3 : Int32).toNatClampNeg = 3 := rfl
    rw [eW] at h12
    have hinA : ¬ (((p2.toUInt32 >>> ((16 : Int32) &&& 31).toUInt32).toInt32) < 0 ∨ clA.slots.size ≤ (((p2.toUInt32 >>> ((16 : Int32) &&& 31).toUInt32).toInt32)).toNatClampNeg) := by rw [hs]; exact inb_of SA ⟨by decide, by decide⟩
    have hatA : clA.slots[(((p2.toUInt32 >>> ((16 : Int32) &&& 31).toUInt32).toInt32)).toNatClampNeg]? = some (.ref pg) := by rw [hs]; exact HA.at (inb_of SA ⟨by decide, by decide⟩) rfl
    have s0 : ¬ (((p2 &&& (65535 : Int32)) * (3 : Int32)) < 0 ∨ clP.slots.size ≤ (((p2 &&& (65535 : Int32)) * (3 : Int32))).toNatClampNeg) := fun q => q.elim u0 (fun y => by rw [SzP, i0] at y; omega)
    have t0 : clP.slots[(((p2 &&& (65535 : Int32)) * (3 : Int32))).toNatClampNeg]? = some (.int (B (own_ix p2 (3 : Int32) + 0))) := by rw [i0]; exact CtP _ (by omega)
    have s1 : ¬ ((((p2 &&& (65535 : Int32)) * (3 : Int32)) + (1 : Int32)) < 0 ∨ clP.slots.size ≤ ((((p2 &&& (65535 : Int32)) * (3 : Int32)) + (1 : Int32))).toNatClampNeg) := fun q => q.elim u1 (fun y => by rw [SzP, i1] at y; omega)
    have t1 : clP.slots[((((p2 &&& (65535 : Int32)) * (3 : Int32)) + (1 : Int32))).toNatClampNeg]? = some (.int (B (own_ix p2 (3 : Int32) + 1))) := by rw [i1]; exact CtP _ (by omega)
    have s2 : ¬ ((((p2 &&& (65535 : Int32)) * (3 : Int32)) + (2 : Int32)) < 0 ∨ clP.slots.size ≤ ((((p2 &&& (65535 : Int32)) * (3 : Int32)) + (2 : Int32))).toNatClampNeg) := fun q => q.elim u2 (fun y => by rw [SzP, i2] at y; omega)
    have t2 : clP.slots[((((p2 &&& (65535 : Int32)) * (3 : Int32)) + (2 : Int32))).toNatClampNeg]? = some (.int (B (own_ix p2 (3 : Int32) + 2))) := by rw [i2]; exact CtP _ (by omega)
    unfold own_get
    rw [if_neg (by decide), if_neg (by decide), if_pos rfl]
    exact rm11_3 l Z a0 hw ws a1 p2 pA pg clA (3 : Int32) (B (own_ix p2 (3 : Int32) + 0)) clP (B (own_ix p2 (3 : Int32) + 1)) (B (own_ix p2 (3 : Int32) + 2)) h0 n0 Z0 F1 SP ArA hinA hatA FW ArP s0 t0 s1 t1 s2 t2 rfl
  · obtain ⟨i0, i1, i2, i3, u0, u1, u2, u3, h12, hz, hs⟩ := own_idx p2 4 hp hW0
    have eW : (4 : Int32).toNatClampNeg = 4 := rfl
    rw [eW] at h12
    have hinA : ¬ (((p2.toUInt32 >>> ((16 : Int32) &&& 31).toUInt32).toInt32) < 0 ∨ clA.slots.size ≤ (((p2.toUInt32 >>> ((16 : Int32) &&& 31).toUInt32).toInt32)).toNatClampNeg) := by rw [hs]; exact inb_of SA ⟨by decide, by decide⟩
    have hatA : clA.slots[(((p2.toUInt32 >>> ((16 : Int32) &&& 31).toUInt32).toInt32)).toNatClampNeg]? = some (.ref pg) := by rw [hs]; exact HA.at (inb_of SA ⟨by decide, by decide⟩) rfl
    have s0 : ¬ (((p2 &&& (65535 : Int32)) * (4 : Int32)) < 0 ∨ clP.slots.size ≤ (((p2 &&& (65535 : Int32)) * (4 : Int32))).toNatClampNeg) := fun q => q.elim u0 (fun y => by rw [SzP, i0] at y; omega)
    have t0 : clP.slots[(((p2 &&& (65535 : Int32)) * (4 : Int32))).toNatClampNeg]? = some (.int (B (own_ix p2 (4 : Int32) + 0))) := by rw [i0]; exact CtP _ (by omega)
    have s1 : ¬ ((((p2 &&& (65535 : Int32)) * (4 : Int32)) + (1 : Int32)) < 0 ∨ clP.slots.size ≤ ((((p2 &&& (65535 : Int32)) * (4 : Int32)) + (1 : Int32))).toNatClampNeg) := fun q => q.elim u1 (fun y => by rw [SzP, i1] at y; omega)
    have t1 : clP.slots[((((p2 &&& (65535 : Int32)) * (4 : Int32)) + (1 : Int32))).toNatClampNeg]? = some (.int (B (own_ix p2 (4 : Int32) + 1))) := by rw [i1]; exact CtP _ (by omega)
    have s2 : ¬ ((((p2 &&& (65535 : Int32)) * (4 : Int32)) + (2 : Int32)) < 0 ∨ clP.slots.size ≤ ((((p2 &&& (65535 : Int32)) * (4 : Int32)) + (2 : Int32))).toNatClampNeg) := fun q => q.elim u2 (fun y => by rw [SzP, i2] at y; omega)
    have t2 : clP.slots[((((p2 &&& (65535 : Int32)) * (4 : Int32)) + (2 : Int32))).toNatClampNeg]? = some (.int (B (own_ix p2 (4 : Int32) + 2))) := by rw [i2]; exact CtP _ (by omega)
    have s3 : ¬ ((((p2 &&& (65535 : Int32)) * (4 : Int32)) + (3 : Int32)) < 0 ∨ clP.slots.size ≤ ((((p2 &&& (65535 : Int32)) * (4 : Int32)) + (3 : Int32))).toNatClampNeg) := fun q => q.elim u3 (fun y => by rw [SzP, i3] at y; omega)
    have t3 : clP.slots[((((p2 &&& (65535 : Int32)) * (4 : Int32)) + (3 : Int32))).toNatClampNeg]? = some (.int (B (own_ix p2 (4 : Int32) + 3))) := by rw [i3]; exact CtP _ (by omega)
    unfold own_get
    rw [if_neg (by decide), if_neg (by decide), if_neg (by decide)]
    exact rm11_4 l Z a0 hw ws a1 p2 pA pg clA (4 : Int32) (B (own_ix p2 (4 : Int32) + 0)) clP (B (own_ix p2 (4 : Int32) + 1)) (B (own_ix p2 (4 : Int32) + 2)) (B (own_ix p2 (4 : Int32) + 3)) h0 n0 Z0 F1 SP ArA hinA hatA FW ArP s0 t0 s1 t1 s2 t2 s3 t3 (Or.inr (by decide))
def own_CI (Z : State) (h : Heap) (a : Addr) (n0 : Nat) (W n : Int32) (N : Nat) (vals : Nat → Int32) : Prop :=
  ∃ (pA : Addr) (kA : ClassId) (pg : Addr) (B : Nat → Int32), Exa Z h a "com/example/agave_bloom/agavebloom/check/CompactInts" ∧ Fld Z h a "com/example/agave_bloom/agavebloom/check/CompactInts" "m_aPages" "[[B" (.ref pA) ∧ Fld Z h a "com/example/agave_bloom/agavebloom/check/CompactInts" "m_nWidth" "I" (.int W) ∧ Fld Z h a "com/example/agave_bloom/agavebloom/check/CompactInts" "m_nWidest" "I" (.int (own_widest W)) ∧ Fld Z h a "com/example/agave_bloom/agavebloom/check/CompactInts" "m_nSize" "I" (.int n) ∧ Fld Z h a "com/example/agave_bloom/agavebloom/check/CompactInts" "m_nRoom" "I" (.int (64 : Int32)) ∧
    Arv Z h pA kA (.array .byte) (1 : Int32) [(.ref pg)] .null ∧ OvrA Z kA .byte "[B" ∧ Exa Z h pA "[[B" ∧ Pg Z h pg ((64 : Int32) * W) B ∧ Exa Z h pg "[B" ∧ n0 ≤ a ∧ n0 ≤ pA ∧ n0 ≤ pg ∧ Sta Z h "com/example/agave_bloom/agavebloom/check/CompactInts" "PAGE_SHIFT" "I" (.int (16 : Int32)) ∧ own_okW W ∧ own_Enc W B N vals
theorem own_stk1 {Z : State} {h h' : Heap} {C n d : String} {v : Value} {x : Addr} {K : String} (F : Sta Z h C n d v) (Kp : Keep h h' [x]) (E : Exa Z h x K) : Sta Z h' C n d v := by
  obtain ⟨cf, i, k, f, st, cell, h1, h2, h3, h4, h5, h6, r⟩ := F
  refine ⟨cf, i, k, f, st, cell, h1, h2, h3, h4, Kp.2.1 _ _ h5 (fun q => ?_), h6, r⟩
  obtain rfl := List.mem_singleton.mp q
  obtain ⟨c2, k2, e1, e2, e3, e4, -⟩ := E
  cases h5.symm.trans e1
  rw [h6] at e4; cases e4
theorem own_stk {Z : State} {h h' : Heap} {C n d : String} {v : Value} (F : Sta Z h C n d v) (K : Keep h h' []) : Sta Z h' C n d v := by
  obtain ⟨cf, i, k, f, st, cell, h1, h2, h3, h4, h5, r⟩ := F
  exact ⟨cf, i, k, f, st, cell, h1, h2, h3, h4, K.2.1 _ _ h5 List.not_mem_nil, r⟩
def Q9 (Z : State) (a : Addr) (W n : Int32) (N : Nat) (vals : Nat → Int32) (h0 : Heap) (n0 : Nat) (v : Option Value) (h : Heap) (L : List Loc) : Prop := v = none ∧ Fr n0 L ∧ h0.size ≤ h.size ∧ own_CI Z h a n0 W n N vals
theorem d9_0 : decode prog_4_method_5_code 0 = .ok (.aload_n 0, 1) := by decide +kernel
theorem d9_1 : decode prog_4_method_5_code 1 = .ok (.getfield 28, 3) := by decide +kernel
theorem d9_4 : decode prog_4_method_5_code 4 = .ok (.aload_n 0, 1) := by decide +kernel
theorem d9_5 : decode prog_4_method_5_code 5 = .ok (.getfield 35, 3) := by decide +kernel
theorem d9_8 : decode prog_4_method_5_code 8 = .ok (.if_icmp .ge 15, 3) := by decide +kernel
theorem d9_11 : decode prog_4_method_5_code 11 = .ok (.iload_n 1, 1) := by decide +kernel
theorem d9_12 : decode prog_4_method_5_code 12 = .ok (.ifCond .lt 11, 3) := by decide +kernel
theorem d9_15 : decode prog_4_method_5_code 15 = .ok (.iload_n 1, 1) := by decide +kernel
theorem d9_16 : decode prog_4_method_5_code 16 = .ok (.aload_n 0, 1) := by decide +kernel
theorem d9_17 : decode prog_4_method_5_code 17 = .ok (.getfield 25, 3) := by decide +kernel
theorem d9_20 : decode prog_4_method_5_code 20 = .ok (.if_icmp .le 17, 3) := by decide +kernel
theorem d9_37 : decode prog_4_method_5_code 37 = .ok (.aload_n 0, 1) := by decide +kernel
theorem d9_38 : decode prog_4_method_5_code 38 = .ok (.getfield 11, 3) := by decide +kernel
theorem d9_41 : decode prog_4_method_5_code 41 = .ok (.aload_n 0, 1) := by decide +kernel
theorem d9_42 : decode prog_4_method_5_code 42 = .ok (.getfield 28, 3) := by decide +kernel
theorem d9_45 : decode prog_4_method_5_code 45 = .ok (.getstatic 31, 3) := by decide +kernel
theorem d9_48 : decode prog_4_method_5_code 48 = .ok (.iushr, 1) := by decide +kernel
theorem d9_49 : decode prog_4_method_5_code 49 = .ok (.aaload, 1) := by decide +kernel
theorem d9_50 : decode prog_4_method_5_code 50 = .ok (.aload_n 0, 1) := by decide +kernel
theorem d9_51 : decode prog_4_method_5_code 51 = .ok (.getfield 28, 3) := by decide +kernel
theorem d9_54 : decode prog_4_method_5_code 54 = .ok (.ldc 34, 2) := by decide +kernel
theorem d9_56 : decode prog_4_method_5_code 56 = .ok (.iand, 1) := by decide +kernel
theorem d9_57 : decode prog_4_method_5_code 57 = .ok (.aload_n 0, 1) := by decide +kernel
theorem d9_58 : decode prog_4_method_5_code 58 = .ok (.getfield 17, 3) := by decide +kernel
theorem d9_61 : decode prog_4_method_5_code 61 = .ok (.imul, 1) := by decide +kernel
theorem d9_62 : decode prog_4_method_5_code 62 = .ok (.aload_n 0, 1) := by decide +kernel
theorem d9_63 : decode prog_4_method_5_code 63 = .ok (.getfield 17, 3) := by decide +kernel
theorem d9_66 : decode prog_4_method_5_code 66 = .ok (.iload_n 1, 1) := by decide +kernel
theorem d9_67 : decode prog_4_method_5_code 67 = .ok (.invokestatic 82, 3) := by decide +kernel
theorem d9_70 : decode prog_4_method_5_code 70 = .ok (.aload_n 0, 1) := by decide +kernel
theorem d9_71 : decode prog_4_method_5_code 71 = .ok (.dup, 1) := by decide +kernel
theorem d9_72 : decode prog_4_method_5_code 72 = .ok (.getfield 28, 3) := by decide +kernel
theorem d9_75 : decode prog_4_method_5_code 75 = .ok (.iconst 1, 1) := by decide +kernel
theorem d9_76 : decode prog_4_method_5_code 76 = .ok (.iadd, 1) := by decide +kernel
theorem d9_77 : decode prog_4_method_5_code 77 = .ok (.putfield 28, 3) := by decide +kernel
theorem d9_80 : decode prog_4_method_5_code 80 = .ok (.return_, 1) := by decide +kernel
theorem pn_9 : plainName "com/example/agave_bloom/agavebloom/check/CompactInts" = true := by first | (simp [plainName, overriddenIn]; done) | decide +kernel
theorem pd_9_5 : parseMethodDescriptor "([BIII)V" = some ⟨[(.array .byte), .int, .int, .int], none⟩ := by decide +kernel
theorem ef_9 (m : MethodId) (x0 : Addr) (x1 : Int32) : entryFrame m #[(.ref x0), (.int x1)] 2 = mkF m 0 #[.val (.ref x0), .val (.int x1)] [] := by first | (simp [entryFrame, mkF, argsToLocals, Value.category]; done) | rfl
set_option maxRecDepth 65536 in
set_option maxHeartbeats 40000000 in
theorem rm9_r (l : Launch) (Z : State) (a0 : Array Value) (hw : ∀ d ∈ tables_1, d.before a0 Z = true) (ws : List Jvm.Cond) (a1 : Addr) (p2 : Int32) (w6 : Addr) (k_w6 : ClassId) (pg : Addr) (w10 : Addr) (nn W : Int32) (N : Nat) (vals B : Nat → Int32) (h0 : Heap) (n0 : Nat) (Z0 : n0 ≤ h0.size) (EA : Exa Z h0 w6 "[[B") (EG : Exa Z h0 w10 "[B") (g_pg : n0 ≤ w10) (PG : Pg Z h0 w10 ((64 : Int32) * W) B) (hoW : own_okW W) (hp : own_ok2 nn) (hN : nn.toNatClampNeg = N) (hEn : own_Enc W B N vals) (hvl : vals N = p2) (hpq : pg = w10) (F_m_nSize_a1 : Fld Z h0 a1 "com/example/agave_bloom/agavebloom/check/CompactInts" "m_nSize" "I" (.int nn)) (F_m_nRoom_a1 : Fld Z h0 a1 "com/example/agave_bloom/agavebloom/check/CompactInts" "m_nRoom" "I" (.int (64 : Int32))) (F_m_nWidest_a1 : Fld Z h0 a1 "com/example/agave_bloom/agavebloom/check/CompactInts" "m_nWidest" "I" (.int (own_widest W))) (V_w6 : Arv Z h0 w6 k_w6 (.array .byte) (1 : Int32) [(.ref pg)] .null) (O_w6 : OvrA Z k_w6 .byte "[B") (g_w6 : n0 ≤ w6) (F_m_aPages_a1 : Fld Z h0 a1 "com/example/agave_bloom/agavebloom/check/CompactInts" "m_aPages" "[[B" (.ref w6)) (S_PAGE_SHIFT : Sta Z h0 "com/example/agave_bloom/agavebloom/check/CompactInts" "PAGE_SHIFT" "I" (.int (16 : Int32))) (F_m_nWidth_a1 : Fld Z h0 a1 "com/example/agave_bloom/agavebloom/check/CompactInts" "m_nWidth" "I" (.int W)) (E_a1 : Exa Z h0 a1 "com/example/agave_bloom/agavebloom/check/CompactInts") (g_a1 : n0 ≤ a1) (hc8 : nn < (64 : Int32)) (hc12 : ¬ (p2 < (0 : Int32))) (hc20 : ¬ (own_widest W < p2)) (hn49 : ¬ (((nn.toUInt32 >>> ((16 : Int32) &&& 31).toUInt32).toInt32) < 0)) (hl49 : ((nn.toUInt32 >>> ((16 : Int32) &&& 31).toUInt32).toInt32) < (1 : Int32)) (hv49 : ([(.ref pg)] : List Value).getD (((nn.toUInt32 >>> ((16 : Int32) &&& 31).toUInt32).toInt32)).toNatClampNeg .null = (.ref w10)) :
    MetFree l (⟨"com/example/agave_bloom/agavebloom/check/CompactInts", "add", "(I)V"⟩ : MethodName) (head1 (Jvm.Cond.code (⟨"com/example/agave_bloom/agavebloom/check/CompactInts", "add", "(I)V"⟩ : MethodName) prog_4_method_5_code 2 none :: ws) ({ frames := 1, cells := 0, slots := 0, locals := 15 } : Room)) (fun a U => a = #[(.ref a1), (.int p2)] ∧ Z.Warmed39 U.vm ∧ U.heap = h0) (fun _ _ _ _ _ => True) (fun _ U o U' => ∃ v L, o = .returned v ∧ Q9 Z a1 W (nn + (1 : Int32)) (N + 1) vals h0 n0 v U'.heap L ∧ FrameEnd U o U' L ({ frames := 1, cells := 0, slots := 0, locals := 15 } : Room).cells ({ frames := 1, cells := 0, slots := 0, locals := 15 } : Room).slots) := by
  refine MetFree.of_bodySF (plainFor_of_name pn_9) hisR ?_
  intro p e s m args below meth c s₁ Bd hml0 hP hK
  obtain ⟨rfl, hZ, hh⟩ := hP
  have hx := Bd.exec
  have hby := Bd.bytes
  have hml : c.maxLocals = 2 := hml0
  have hown : s.vm.findClass "com/example/agave_bloom/agavebloom/check/CompactInts" = some m.cls := findClass_of_methodNamed Bd.named
  have hnm := (name_of_methodNamed Bd.named Bd.method).1
  have X0 : Stand p l e ({ frames := 1, cells := 0, slots := 0, locals := 15 } : Room) s m #[(.ref a1), (.int p2)] below meth c s₁ [] 0 0 := Stand.of_body Bd
  have e0 : s₁.heap = h0 := by rw [← hh, Bd.state]; rfl
  have N0 := Fr.nil n0
  have VV : Arv Z h0 w6 k_w6 (.array .byte) (1 : Int32) [(.ref w10)] .null := by rw [← hpq]; exact V_w6
  obtain ⟨i0, i1, i2, i3, u0, u1, u2, u3, h12, hz, hs⟩ := own_idx nn W hp hoW
  have pre0 : ∀ t, Steps p.tables e below (s₁.setTop (mkF m 0 #[.val (.ref a1), .val (.int p2)] [])) t → Steps p.tables e below (s₁.setTop (entryFrame m #[(.ref a1), (.int p2)] 2)) t := fun t k => castTop (ef_9 m a1 p2) k
  obtain ⟨T3, X3, e3, st3⟩ := getF X0 hx hZ hown (host := "") (Or.inl (hw _ (List.mem_of_getElem? (i := 26) rfl))) Via.refl e0 F_m_nSize_a1 (g := (mkF m 1 #[.val (.ref a1), .val (.int p2)] [(.ref a1)])) rfl rfl (hb hby d9_1)
  obtain ⟨T4, X4, e4, st4⟩ := getF X3 hx hZ hown (host := "") (Or.inl (hw _ (List.mem_of_getElem? (i := 28) rfl))) Via.refl e3 F_m_nRoom_a1 (g := (mkF m 5 #[.val (.ref a1), .val (.int p2)] [(.ref a1), (.int nn)])) rfl rfl (hb hby d9_5)
  obtain ⟨T5, X5, e5, st5⟩ := getF X4 hx hZ hown (host := "") (Or.inl (hw _ (List.mem_of_getElem? (i := 19) rfl))) Via.refl e4 F_m_nWidest_a1 (g := (mkF m 17 #[.val (.ref a1), .val (.int p2)] [(.ref a1), (.int p2)])) rfl rfl (hb hby d9_17)
  obtain ⟨T7, X7, e7, st7⟩ := getF X5 hx hZ hown (host := "") (Or.inl (hw _ (List.mem_of_getElem? (i := 12) rfl))) Via.refl e5 F_m_aPages_a1 (g := (mkF m 38 #[.val (.ref a1), .val (.int p2)] [(.ref a1)])) rfl rfl (hb hby d9_38)
  obtain ⟨T8, X8, e8, st8⟩ := getF X7 hx hZ hown (host := "") (Or.inl (hw _ (List.mem_of_getElem? (i := 26) rfl))) Via.refl e7 F_m_nSize_a1 (g := (mkF m 42 #[.val (.ref a1), .val (.int p2)] [(.ref a1), (.ref w6)])) rfl rfl (hb hby d9_42)
  obtain ⟨T9, X9, e9, st9⟩ := getS2 X8 hx hZ hown (host := "") (Or.inl (hw _ (List.mem_of_getElem? (i := 42) rfl))) Via.refl e8 S_PAGE_SHIFT (g := (mkF m 45 #[.val (.ref a1), .val (.int p2)] [(.int nn), (.ref w6)])) rfl (hb hby d9_45)
  obtain ⟨cl_w6_49, Ar_w6_49, q_w6_49, S_w6_49, N_w6_49, H_w6_49, G_w6_49⟩ := (id V_w6)
  have hin49 : ¬ (((nn.toUInt32 >>> ((16 : Int32) &&& 31).toUInt32).toInt32) < 0 ∨ cl_w6_49.slots.size ≤ (((nn.toUInt32 >>> ((16 : Int32) &&& 31).toUInt32).toInt32)).toNatClampNeg) := inb_of S_w6_49 ⟨hn49, hl49⟩
  have hat49 : cl_w6_49.slots[(((nn.toUInt32 >>> ((16 : Int32) &&& 31).toUInt32).toInt32)).toNatClampNeg]? = some (.ref w10) := H_w6_49.at hin49 hv49
  obtain ⟨T11, X11, e11, st11⟩ := getF X9 hx hZ hown (host := "") (Or.inl (hw _ (List.mem_of_getElem? (i := 26) rfl))) Via.refl e9 F_m_nSize_a1 (g := (mkF m 51 #[.val (.ref a1), .val (.int p2)] [(.ref a1), (.ref w10)])) rfl rfl (hb hby d9_51)
  obtain ⟨T12, X12, e12, st12⟩ := getF X11 hx hZ hown (host := "") (Or.inl (hw _ (List.mem_of_getElem? (i := 14) rfl))) Via.refl e11 F_m_nWidth_a1 (g := (mkF m 58 #[.val (.ref a1), .val (.int p2)] [(.ref a1), (.int (nn &&& (65535 : Int32))), (.ref w10)])) rfl rfl (hb hby d9_58)
  obtain ⟨T13, X13, e13, st13⟩ := getF X12 hx hZ hown (host := "") (Or.inl (hw _ (List.mem_of_getElem? (i := 14) rfl))) Via.refl e12 F_m_nWidth_a1 (g := (mkF m 63 #[.val (.ref a1), .val (.int p2)] [(.ref a1), (.int ((nn &&& (65535 : Int32)) * W)), (.ref w10)])) rfl rfl (hb hby d9_63)
  obtain ⟨_, _, ⟨T14, L14, k14, n14⟩, -, X14, ⟨Lc14, hQ14, l14, y14, z14⟩, st14⟩ := Jvm.LawKit.callS X13 hx (y := (⟨"com/example/agave_bloom/agavebloom/check/CompactInts", "_put", "([BIII)V"⟩ : MethodName)) hown (mvT hZ (hw _ (List.mem_of_getElem? (i := 57) rfl))) (mvT hZ (hw _ (List.mem_of_getElem? (i := 58) rfl))) (mvT hZ (hw _ (List.mem_of_getElem? (i := 3) rfl))) (mvT hZ (hw _ (List.mem_of_getElem? (i := 59) rfl))) (by decide) (backOf (W := 0) (rm10 l Z a0 hw [] w10 ((nn &&& (65535 : Int32)) * W) W p2 h0 n0 Z0 ((64 : Int32) * W) B (own_ix nn W) PG g_pg i0 u0 i1 u1 i2 u2 i3 u3 hz hoW) hZ (hw _ (List.mem_of_getElem? (i := 59) rfl)) (hw _ (List.mem_of_getElem? (i := 3) rfl)) (by decide) (by decide)) (g := (mkF m 67 #[.val (.ref a1), .val (.int p2)] [(.int p2), (.int W), (.int ((nn &&& (65535 : Int32)) * W)), (.ref w10)])) rfl (by rw [hml]; rfl) (argsL := [(.ref w10), (.int ((nn &&& (65535 : Int32)) * W)), (.int W), (.int p2)]) (rest := []) (lenOf pd_9_5 rfl) rfl (by show 2 * 0 + _ ≤ _; exact Nat.le_of_eq rfl) (hb hby d9_67) (fun _ _ => ⟨rfl, e13, (by decide : 0 + 0 ≤ _), (by decide : 0 + 0 ≤ _)⟩)
  dsimp only [Pt.U, Pt.locs, Pt.cells, Pt.slots] at X14 l14 y14 z14 st14 hQ14
  subst l14 y14 z14
  obtain ⟨rfl, N14q, Kq, PG2⟩ := hQ14
  have na : a1 ∉ [w10] := fun q => ne_exa E_a1 EG (by decide) (List.mem_singleton.mp q)
  have nA : w6 ∉ [w10] := fun q => ne_exa EA EG (by decide) (List.mem_singleton.mp q)
  have N14 := Fr.app N0 N14q
  obtain ⟨T15, X15, e15, st15⟩ := getF X14 hx hZ hown (host := "") (Or.inl (hw _ (List.mem_of_getElem? (i := 26) rfl))) Via.refl rfl (F_m_nSize_a1.keep Kq na) (g := (mkF m 72 #[.val (.ref a1), .val (.int p2)] [(.ref a1), (.ref a1)])) rfl rfl (hb hby d9_72)
  obtain ⟨T16, h16, X16, e16, W16, st16⟩ := putF X15 hx hZ hown (host := "") (Or.inl (hw _ (List.mem_of_getElem? (i := 26) rfl))) Via.refl e15 (F_m_nSize_a1.keep Kq na) (E_a1.keep Kq) (Or.inl (hw _ (List.mem_of_getElem? (i := 27) rfl))) (hw _ (List.mem_of_getElem? (i := 2) rfl)) (ty := .int) (by decide) rfl rfl (g := (mkF m 77 #[.val (.ref a1), .val (.int p2)] [(.int (nn + (1 : Int32))), (.ref a1)])) rfl rfl (hb hby d9_77)
  have Fw16 := (F_m_nSize_a1.keep Kq na).same W16
  have N16 := Fr.snoc X16 N14 g_a1
  obtain ⟨fs, hr, hrun, hended, hW, hsame⟩ := X16.leave (v := none) (fun _ => rfl)
  refine ⟨_, _, pre0 _ ?_, hrun, hended, _, _, rfl, ?_, ⟨_, rfl⟩, hW, hsame.mono (by decide) (by decide)⟩
  · show Steps p.tables e below (s₁.setTop (mkF m 0 #[.val (.ref a1), .val (.int p2)] [])) _
    refine XS.aloadN X0.here hx rfl (hb hby d9_0) rfl rfl ?_
    show Steps p.tables e below (s₁.setTop (mkF m 1 #[.val (.ref a1), .val (.int p2)] [(.ref a1)])) _
    refine st3 _ ?_
    show Steps p.tables e below (T3.setTop (mkF m 4 #[.val (.ref a1), .val (.int p2)] [(.int nn)])) _
    refine XS.aloadN X3.here hx rfl (hb hby d9_4) rfl rfl ?_
    show Steps p.tables e below (T3.setTop (mkF m 5 #[.val (.ref a1), .val (.int p2)] [(.ref a1), (.int nn)])) _
    refine st4 _ ?_
    show Steps p.tables e below (T4.setTop (mkF m 8 #[.val (.ref a1), .val (.int p2)] [(.int (64 : Int32)), (.int nn)])) _
    refine XS.icmpNo X4.here hx rfl (hb hby d9_8) rfl (tlt hc8).2.1 ?_
    show Steps p.tables e below (T4.setTop (mkF m 11 #[.val (.ref a1), .val (.int p2)] [])) _
    refine XS.iloadN X4.here hx rfl (hb hby d9_11) rfl ?_
    show Steps p.tables e below (T4.setTop (mkF m 12 #[.val (.ref a1), .val (.int p2)] [(.int p2)])) _
    refine XS.ifNo X4.here hx rfl (hb hby d9_12) rfl ((if0 _ _).trans (flt hc12).1) ?_
    show Steps p.tables e below (T4.setTop (mkF m 15 #[.val (.ref a1), .val (.int p2)] [])) _
    refine XS.iloadN X4.here hx rfl (hb hby d9_15) rfl ?_
    show Steps p.tables e below (T4.setTop (mkF m 16 #[.val (.ref a1), .val (.int p2)] [(.int p2)])) _
    refine XS.aloadN X4.here hx rfl (hb hby d9_16) rfl rfl ?_
    show Steps p.tables e below (T4.setTop (mkF m 17 #[.val (.ref a1), .val (.int p2)] [(.ref a1), (.int p2)])) _
    refine st5 _ ?_
    show Steps p.tables e below (T5.setTop (mkF m 20 #[.val (.ref a1), .val (.int p2)] [(.int (own_widest W)), (.int p2)])) _
    refine XS.icmpYes X5.here hx rfl (pc0 := 20) (pc' := 37) rfl (hb hby d9_20) rfl (flt hc20).2.2.2 (by decide) (by decide) ?_
    show Steps p.tables e below (T5.setTop (mkF m 37 #[.val (.ref a1), .val (.int p2)] [])) _
    refine XS.aloadN X5.here hx rfl (hb hby d9_37) rfl rfl ?_
    show Steps p.tables e below (T5.setTop (mkF m 38 #[.val (.ref a1), .val (.int p2)] [(.ref a1)])) _
    refine st7 _ ?_
    show Steps p.tables e below (T7.setTop (mkF m 41 #[.val (.ref a1), .val (.int p2)] [(.ref w6)])) _
    refine XS.aloadN X7.here hx rfl (hb hby d9_41) rfl rfl ?_
    show Steps p.tables e below (T7.setTop (mkF m 42 #[.val (.ref a1), .val (.int p2)] [(.ref a1), (.ref w6)])) _
    refine st8 _ ?_
    show Steps p.tables e below (T8.setTop (mkF m 45 #[.val (.ref a1), .val (.int p2)] [(.int nn), (.ref w6)])) _
    refine st9 _ ?_
    show Steps p.tables e below (T9.setTop (mkF m 48 #[.val (.ref a1), .val (.int p2)] [(.int (16 : Int32)), (.int nn), (.ref w6)])) _
    refine XS.iushr X9.here hx rfl (hb hby d9_48) rfl ?_
    show Steps p.tables e below (T9.setTop (mkF m 49 #[.val (.ref a1), .val (.int p2)] [(.int ((nn.toUInt32 >>> ((16 : Int32) &&& 31).toUInt32).toInt32)), (.ref w6)])) _
    refine X9.aaload hx (j := ((nn.toUInt32 >>> ((16 : Int32) &&& 31).toUInt32).toInt32)) (v := (.ref w10)) (by rw [e9]; exact Ar_w6_49.1) (State.isArrayOf_alike hZ.alike Ar_w6_49.2.1) rfl Ar_w6_49.2.2 hin49 hat49 (g := (mkF m 49 #[.val (.ref a1), .val (.int p2)] [(.int ((nn.toUInt32 >>> ((16 : Int32) &&& 31).toUInt32).toInt32)), (.ref w6)])) rfl rfl (hb hby d9_49) _ ?_
    show Steps p.tables e below (T9.setTop (mkF m 50 #[.val (.ref a1), .val (.int p2)] [(.ref w10)])) _
    refine XS.aloadN X9.here hx rfl (hb hby d9_50) rfl rfl ?_
    show Steps p.tables e below (T9.setTop (mkF m 51 #[.val (.ref a1), .val (.int p2)] [(.ref a1), (.ref w10)])) _
    refine st11 _ ?_
    show Steps p.tables e below (T11.setTop (mkF m 54 #[.val (.ref a1), .val (.int p2)] [(.int nn), (.ref w10)])) _
    refine X11.ldcInt hx hown (mvT hZ (hw _ (List.mem_of_getElem? (i := 44) rfl))) (g := (mkF m 54 #[.val (.ref a1), .val (.int p2)] [(.int nn), (.ref w10)])) rfl (hb hby d9_54) _ ?_
    show Steps p.tables e below (T11.setTop (mkF m 56 #[.val (.ref a1), .val (.int p2)] [(.int (65535 : Int32)), (.int nn), (.ref w10)])) _
    refine XS.iand X11.here hx rfl (hb hby d9_56) rfl ?_
    show Steps p.tables e below (T11.setTop (mkF m 57 #[.val (.ref a1), .val (.int p2)] [(.int (nn &&& (65535 : Int32))), (.ref w10)])) _
    refine XS.aloadN X11.here hx rfl (hb hby d9_57) rfl rfl ?_
    show Steps p.tables e below (T11.setTop (mkF m 58 #[.val (.ref a1), .val (.int p2)] [(.ref a1), (.int (nn &&& (65535 : Int32))), (.ref w10)])) _
    refine st12 _ ?_
    show Steps p.tables e below (T12.setTop (mkF m 61 #[.val (.ref a1), .val (.int p2)] [(.int W), (.int (nn &&& (65535 : Int32))), (.ref w10)])) _
    refine XS.imul X12.here hx rfl (hb hby d9_61) rfl ?_
    show Steps p.tables e below (T12.setTop (mkF m 62 #[.val (.ref a1), .val (.int p2)] [(.int ((nn &&& (65535 : Int32)) * W)), (.ref w10)])) _
    refine XS.aloadN X12.here hx rfl (hb hby d9_62) rfl rfl ?_
    show Steps p.tables e below (T12.setTop (mkF m 63 #[.val (.ref a1), .val (.int p2)] [(.ref a1), (.int ((nn &&& (65535 : Int32)) * W)), (.ref w10)])) _
    refine st13 _ ?_
    show Steps p.tables e below (T13.setTop (mkF m 66 #[.val (.ref a1), .val (.int p2)] [(.int W), (.int ((nn &&& (65535 : Int32)) * W)), (.ref w10)])) _
    refine XS.iloadN X13.here hx rfl (hb hby d9_66) rfl ?_
    show Steps p.tables e below (T13.setTop (mkF m 67 #[.val (.ref a1), .val (.int p2)] [(.int p2), (.int W), (.int ((nn &&& (65535 : Int32)) * W)), (.ref w10)])) _
    refine st14 _ ?_
    show Steps p.tables e below (T14.setTop (mkF m 70 #[.val (.ref a1), .val (.int p2)] [])) _
    refine XS.aloadN X14.here hx rfl (hb hby d9_70) rfl rfl ?_
    show Steps p.tables e below (T14.setTop (mkF m 71 #[.val (.ref a1), .val (.int p2)] [(.ref a1)])) _
    refine XS.dup X14.here hx rfl (hb hby d9_71) rfl rfl ?_
    show Steps p.tables e below (T14.setTop (mkF m 72 #[.val (.ref a1), .val (.int p2)] [(.ref a1), (.ref a1)])) _
    refine st15 _ ?_
    show Steps p.tables e below (T15.setTop (mkF m 75 #[.val (.ref a1), .val (.int p2)] [(.int nn), (.ref a1)])) _
    refine XS.iconst X15.here hx rfl (hb hby d9_75) ?_
    show Steps p.tables e below (T15.setTop (mkF m 76 #[.val (.ref a1), .val (.int p2)] [(.int (1 : Int32)), (.int nn), (.ref a1)])) _
    refine XS.iadd X15.here hx rfl (hb hby d9_76) rfl ?_
    show Steps p.tables e below (T15.setTop (mkF m 77 #[.val (.ref a1), .val (.int p2)] [(.int (nn + (1 : Int32))), (.ref a1)])) _
    refine st16 _ ?_
    show Steps p.tables e below (T16.setTop (mkF m 80 #[.val (.ref a1), .val (.int p2)] [])) _
    exact X16.returnOut hx Bd.returns (hb hby d9_80) hr
  · show Q9 Z a1 W (nn + (1 : Int32)) (N + 1) vals h0 n0 _ T16.heap _
    rw [e16]
    refine ⟨rfl, N16, (by rw [W16.size]; exact Kq.1), w6, k_w6, w10, own_putB W B (own_ix nn W) p2, (E_a1.keep Kq).wr W16, ((F_m_aPages_a1.keep Kq na).other W16 (Or.inr (slot_ne (Or.inl (hw _ (List.mem_of_getElem? (i := 13) rfl))) (Or.inl (hw _ (List.mem_of_getElem? (i := 27) rfl))) (by decide) (t := (.array (.array .byte))) (t' := .int) (by decide) (by decide)))), ((F_m_nWidth_a1.keep Kq na).other W16 (Or.inr (slot_ne (Or.inl (hw _ (List.mem_of_getElem? (i := 15) rfl))) (Or.inl (hw _ (List.mem_of_getElem? (i := 27) rfl))) (by decide) (t := .int) (t' := .int) (by decide) (by decide)))), ((F_m_nWidest_a1.keep Kq na).other W16 (Or.inr (slot_ne (Or.inl (hw _ (List.mem_of_getElem? (i := 20) rfl))) (Or.inl (hw _ (List.mem_of_getElem? (i := 27) rfl))) (by decide) (t := .int) (t' := .int) (by decide) (by decide)))), Fw16, ((F_m_nRoom_a1.keep Kq na).other W16 (Or.inr (slot_ne (Or.inl (hw _ (List.mem_of_getElem? (i := 29) rfl))) (Or.inl (hw _ (List.mem_of_getElem? (i := 27) rfl))) (by decide) (t := .int) (t' := .int) (by decide) (by decide)))), ((VV.keep Kq nA).other W16 (ne_exa EA E_a1 (by decide))), O_w6, (EA.keep Kq).wr W16, PG2.other W16 (ne_exa EG E_a1 (by decide)), (EG.keep Kq).wr W16, g_a1, g_w6, g_pg, (own_stk1 S_PAGE_SHIFT Kq EG).wr W16, hoW, ?_⟩
    have := own_encPut hoW hEn
    rw [hvl] at this
    unfold own_ix
    rw [hN]
    exact this
theorem rm9 (l : Launch) (Z : State) (a0 : Array Value) (hw : ∀ d ∈ tables_1, d.before a0 Z = true) (ws : List Jvm.Cond) (a1 : Addr) (p2 nn W : Int32) (N : Nat) (vals : Nat → Int32) (h0 : Heap) (n0 : Nat) (Z0 : n0 ≤ h0.size) (H : own_CI Z h0 a1 n0 W nn N vals) (hp : own_ok2 nn) (hN : nn.toNatClampNeg = N) (hvl : vals N = p2) (hv0 : 0 ≤ p2.toInt) (hv1 : p2.toInt ≤ (own_widest W).toInt) :
    MetFree l (⟨"com/example/agave_bloom/agavebloom/check/CompactInts", "add", "(I)V"⟩ : MethodName) (head1 (Jvm.Cond.code (⟨"com/example/agave_bloom/agavebloom/check/CompactInts", "add", "(I)V"⟩ : MethodName) prog_4_method_5_code 2 none :: ws) ({ frames := 1, cells := 0, slots := 0, locals := 15 } : Room)) (fun a U => a = #[(.ref a1), (.int p2)] ∧ Z.Warmed39 U.vm ∧ U.heap = h0) (fun _ _ _ _ _ => True) (fun _ U o U' => ∃ v L, o = .returned v ∧ Q9 Z a1 W (nn + (1 : Int32)) (N + 1) vals h0 n0 v U'.heap L ∧ FrameEnd U o U' L ({ frames := 1, cells := 0, slots := 0, locals := 15 } : Room).cells ({ frames := 1, cells := 0, slots := 0, locals := 15 } : Room).slots) := by
  obtain ⟨pA, kA, pg, B, e0, f1, f2, f3, f4, f5, v6, o7, e8, p8, eg, g9, g10, g11, s12, hW, hE⟩ := H
  obtain ⟨-, -, -, -, -, -, -, -, -, -, hs⟩ := own_idx nn W hp hW
  have z0 : (0 : Int32).toInt = 0 := rfl
  have c12 : ¬ (p2 < (0 : Int32)) := by rw [Int32.lt_iff_toInt_lt]; omega
  have c20 : ¬ (own_widest W < p2) := by rw [Int32.lt_iff_toInt_lt]; omega
  exact rm9_r l Z a0 hw ws a1 p2 pA kA pg pg nn W N vals B h0 n0 Z0 e8 eg g11 p8 hW hp hN hE hvl rfl f4 f5 f3 v6 o7 g10 f1 s12 f2 e0 g9 (by rcases hp with rfl | rfl | rfl <;> decide) c12 c20 (by rw [hs]; decide) (by rw [hs]; decide) (by rw [hs]; rfl)
theorem rm11v (l : Launch) (Z : State) (a0 : Array Value) (hw : ∀ d ∈ tables_1, d.before a0 Z = true) (ws : List Jvm.Cond) (a1 : Addr) (p2 : Int32) (pA : Addr) (kA : ClassId) (pg : Addr) (W : Int32) (B : Nat → Int32) (h0 : Heap) (n0 : Nat) (Z0 : n0 ≤ h0.size) (F1 : Fld Z h0 a1 "com/example/agave_bloom/agavebloom/check/CompactInts" "m_aPages" "[[B" (.ref pA)) (SP : Sta Z h0 "com/example/agave_bloom/agavebloom/check/CompactInts" "PAGE_SHIFT" "I" (.int (16 : Int32))) (VA : Arv Z h0 pA kA (.array .byte) (1 : Int32) [(.ref pg)] .null) (FW : Fld Z h0 a1 "com/example/agave_bloom/agavebloom/check/CompactInts" "m_nWidth" "I" (.int W)) (PG : Pg Z h0 pg ((64 : Int32) * W) B) (hW : own_okW W) (hp : own_ok2 p2) (N : Nat) (vals : Nat → Int32) (i : Nat) (hi : p2.toNatClampNeg = i) (hE : own_Enc W B N vals) (hiN : i < N) (hv0 : 0 ≤ (vals i).toInt) (hv1 : (vals i).toInt ≤ (own_widest W).toInt) :
    MetFree l (⟨"com/example/agave_bloom/agavebloom/check/CompactInts", "get", "(I)I"⟩ : MethodName) (head1 (Jvm.Cond.code (⟨"com/example/agave_bloom/agavebloom/check/CompactInts", "get", "(I)I"⟩ : MethodName) prog_4_method_3_code 4 (some .int) :: ws) ({ frames := 0, cells := 0, slots := 0, locals := 0 } : Room)) (fun a U => a = #[(.ref a1), (.int p2)] ∧ Z.Warmed39 U.vm ∧ U.heap = h0) (fun _ _ _ _ _ => True) (fun _ U o U' => ∃ v L, o = .returned v ∧ Q11 (vals i) h0 n0 v U'.heap L ∧ FrameEnd U o U' L ({ frames := 0, cells := 0, slots := 0, locals := 0 } : Room).cells ({ frames := 0, cells := 0, slots := 0, locals := 0 } : Room).slots) := by
  have this := rm11 l Z a0 hw ws a1 p2 pA kA pg W B h0 n0 Z0 F1 SP VA FW PG hW hp
  rw [show own_get W (B (own_ix p2 W)) (B (own_ix p2 W + 1)) (B (own_ix p2 W + 2)) (B (own_ix p2 W + 3)) = vals i from by unfold own_ix; rw [hi]; exact own_getEnc hW hE i hiN hv0 hv1] at this
  exact this
def Q12 (Z : State) (w : Int32) (N : Nat) (vals : Nat → Int32) (h0 : Heap) (n0 : Nat) (v : Option Value) (h : Heap) (L : List Loc) : Prop := ∃ (b : Addr) (kb : ClassId) (pg : Addr) (B : Nat → Int32), v = some (.ref b) ∧ Fr n0 L ∧ Keep h0 h [] ∧ Arv Z h b kb (.array .byte) (1 : Int32) [(.ref pg)] .null ∧ OvrA Z kb .byte "[B" ∧ Exa Z h b "[[B" ∧ Pg Z h pg ((64 : Int32) * w) B ∧ Exa Z h pg "[B" ∧ h0.size ≤ b ∧ h0.size ≤ pg ∧ own_Enc w B N vals
def Q12n (Z : State) (h0 : Heap) (n0 : Nat) (v : Option Value) (h : Heap) (L : List Loc) : Prop := ∃ (b : Addr) (kb : ClassId), v = some (.ref b) ∧ Fr n0 L ∧ Keep h0 h [] ∧ Arv Z h b kb (.array .byte) (1 : Int32) [.null] .null ∧ OvrA Z kb .byte "[B" ∧ Exa Z h b "[[B" ∧ h0.size ≤ b
theorem d12_0 : decode prog_4_method_9_code 0 = .ok (.aload_n 0, 1) := by decide +kernel
theorem d12_1 : decode prog_4_method_9_code 1 = .ok (.getfield 11, 3) := by decide +kernel
theorem d12_4 : decode prog_4_method_9_code 4 = .ok (.arraylength, 1) := by decide +kernel
theorem d12_5 : decode prog_4_method_9_code 5 = .ok (.anewarray 9, 3) := by decide +kernel
theorem d12_8 : decode prog_4_method_9_code 8 = .ok (.astore_n 2, 1) := by decide +kernel
theorem d12_9 : decode prog_4_method_9_code 9 = .ok (.iconst 0, 1) := by decide +kernel
theorem d12_10 : decode prog_4_method_9_code 10 = .ok (.istore_n 3, 1) := by decide +kernel
theorem d12_11 : decode prog_4_method_9_code 11 = .ok (.iload_n 3, 1) := by decide +kernel
theorem d12_12 : decode prog_4_method_9_code 12 = .ok (.aload_n 2, 1) := by decide +kernel
theorem d12_13 : decode prog_4_method_9_code 13 = .ok (.arraylength, 1) := by decide +kernel
theorem d12_14 : decode prog_4_method_9_code 14 = .ok (.if_icmp .ge 37, 3) := by decide +kernel
theorem d12_17 : decode prog_4_method_9_code 17 = .ok (.aload_n 0, 1) := by decide +kernel
theorem d12_18 : decode prog_4_method_9_code 18 = .ok (.getfield 11, 3) := by decide +kernel
theorem d12_21 : decode prog_4_method_9_code 21 = .ok (.iload_n 3, 1) := by decide +kernel
theorem d12_22 : decode prog_4_method_9_code 22 = .ok (.aaload, 1) := by decide +kernel
theorem d12_23 : decode prog_4_method_9_code 23 = .ok (.ifnull 28, 3) := by decide +kernel
theorem d12_51 : decode prog_4_method_9_code 51 = .ok (.iconst 0, 1) := by decide +kernel
theorem d12_52 : decode prog_4_method_9_code 52 = .ok (.istore_n 3, 1) := by decide +kernel
theorem d12_53 : decode prog_4_method_9_code 53 = .ok (.iload_n 3, 1) := by decide +kernel
theorem d12_54 : decode prog_4_method_9_code 54 = .ok (.aload_n 0, 1) := by decide +kernel
theorem d12_55 : decode prog_4_method_9_code 55 = .ok (.getfield 28, 3) := by decide +kernel
theorem d12_58 : decode prog_4_method_9_code 58 = .ok (.if_icmp .ge 31, 3) := by decide +kernel
theorem d12_89 : decode prog_4_method_9_code 89 = .ok (.aload_n 2, 1) := by decide +kernel
theorem d12_90 : decode prog_4_method_9_code 90 = .ok (.areturn, 1) := by decide +kernel
theorem pn_12 : plainName "com/example/agave_bloom/agavebloom/check/CompactInts" = true := by first | (simp [plainName, overriddenIn]; done) | decide +kernel
theorem ef_12 (m : MethodId) (x0 : Addr) (x1 : Int32) : entryFrame m #[(.ref x0), (.int x1)] 4 = mkF m 0 #[.val (.ref x0), .val (.int x1), .unset, .unset] [] := by first | (simp [entryFrame, mkF, argsToLocals, Value.category]; done) | rfl
set_option maxRecDepth 65536 in
set_option maxHeartbeats 40000000 in
theorem rm12_null (l : Launch) (Z : State) (a0 : Array Value) (hw : ∀ d ∈ tables_1, d.before a0 Z = true) (ws : List Jvm.Cond) (a1 : Addr) (p2 : Int32) (w3 : Addr) (k_w3 : ClassId) (h0 : Heap) (n0 : Nat) (Z0 : n0 ≤ h0.size) (V_w3 : Arv Z h0 w3 k_w3 (.array .byte) (1 : Int32) [.null] .null) (O_w3 : OvrA Z k_w3 .byte "[B") (g_w3 : n0 ≤ w3) (F_m_aPages_a1 : Fld Z h0 a1 "com/example/agave_bloom/agavebloom/check/CompactInts" "m_aPages" "[[B" (.ref w3)) (F_m_nSize_a1 : Fld Z h0 a1 "com/example/agave_bloom/agavebloom/check/CompactInts" "m_nSize" "I" (.int (0 : Int32))) :
    MetFree l (⟨"com/example/agave_bloom/agavebloom/check/CompactInts", "_widened", "(I)[[B"⟩ : MethodName) (head1 (Jvm.Cond.code (⟨"com/example/agave_bloom/agavebloom/check/CompactInts", "_widened", "(I)[[B"⟩ : MethodName) prog_4_method_9_code 4 (some (.array (.array .byte))) :: ws) ({ frames := 0, cells := 1, slots := 1, locals := 0 } : Room)) (fun a U => a = #[(.ref a1), (.int p2)] ∧ Z.Warmed39 U.vm ∧ U.heap = h0) (fun _ _ _ _ _ => True) (fun _ U o U' => ∃ v L, o = .returned v ∧ Q12n Z h0 n0 v U'.heap L ∧ FrameEnd U o U' L ({ frames := 0, cells := 1, slots := 1, locals := 0 } : Room).cells ({ frames := 0, cells := 1, slots := 1, locals := 0 } : Room).slots) := by
  refine MetFree.of_bodySF (plainFor_of_name pn_12) hisR ?_
  intro p e s m args below meth c s₁ Bd hml0 hP hK
  obtain ⟨rfl, hZ, hh⟩ := hP
  have hx := Bd.exec
  have hby := Bd.bytes
  have hml : c.maxLocals = 4 := hml0
  have hown : s.vm.findClass "com/example/agave_bloom/agavebloom/check/CompactInts" = some m.cls := findClass_of_methodNamed Bd.named
  have hnm := (name_of_methodNamed Bd.named Bd.method).1
  have X0 : Stand p l e ({ frames := 0, cells := 1, slots := 1, locals := 0 } : Room) s m #[(.ref a1), (.int p2)] below meth c s₁ [] 0 0 := Stand.of_body Bd
  have e0 : s₁.heap = h0 := by rw [← hh, Bd.state]; rfl
  have N0 := Fr.nil n0
  have pre0 : ∀ t, Steps p.tables e below (s₁.setTop (mkF m 0 #[.val (.ref a1), .val (.int p2), .unset, .unset] [])) t → Steps p.tables e below (s₁.setTop (entryFrame m #[(.ref a1), (.int p2)] 4)) t := fun t k => castTop (ef_12 m a1 p2) k
  obtain ⟨T4, X4, e4, st4⟩ := getF X0 hx hZ hown (host := "") (Or.inl (hw _ (List.mem_of_getElem? (i := 12) rfl))) Via.refl e0 F_m_aPages_a1 (g := (mkF m 1 #[.val (.ref a1), .val (.int p2), .unset, .unset] [(.ref a1)])) rfl rfl (hb hby d12_1)
  obtain ⟨cl_w3_4, Ar_w3_4, q_w3_4, S_w3_4, N_w3_4, H_w3_4, G_w3_4⟩ := (id V_w3)
  obtain ⟨T5, h5, k5, X5, e5, E5, A5, C5, O5, st5⟩ := newRA X4 hx hZ hown (C := "[B") (ty := .byte) (by decide) (hw _ (List.mem_of_getElem? (i := 10) rfl)) (hw _ (List.mem_of_getElem? (i := 11) rfl)) e4 (g := (mkF m 5 #[.val (.ref a1), .val (.int p2), .unset, .unset] [(.int (1 : Int32))])) rfl (hb hby d12_5) rfl (by decide) (cap := 1) (by decide) (by decide) (by decide) (by decide) (ad := "[[B") (by decide)
  obtain ⟨b5, g5⟩ : ∃ z, z = h0.size := ⟨_, rfl⟩
  rw [← g5] at A5 C5 st5
  have V_b5 : Arv Z h5 b5 k5 (.array .byte) (1 : Int32) [.null] .null := (Arv.new A5 (by decide)).pad (pad_rep [] .null 1)
  have g_b5 : n0 ≤ b5 := Nat.le_trans Z0 (Nat.le_of_eq g5.symm)
  have sz_b5 : h0.size ≤ b5 := (Nat.le_trans (Keep.refl h0 []).1 (Nat.le_of_eq g5.symm))
  have K5 : Keep h0 h5 [] := (Keep.refl h0 []).ext E5
  obtain ⟨cl_b5_13, Ar_b5_13, q_b5_13, S_b5_13, N_b5_13, H_b5_13, G_b5_13⟩ := (id V_b5)
  obtain ⟨T6, X6, e6, st6⟩ := getF X5 hx hZ hown (host := "") (Or.inl (hw _ (List.mem_of_getElem? (i := 12) rfl))) Via.refl e5 (F_m_aPages_a1.ext E5) (g := (mkF m 18 #[.val (.ref a1), .val (.int p2), .val (.ref b5), .val (.int (0 : Int32))] [(.ref a1)])) rfl rfl (hb hby d12_18)
  obtain ⟨cl_w3_22, Ar_w3_22, q_w3_22, S_w3_22, N_w3_22, H_w3_22, G_w3_22⟩ := (V_w3.ext E5)
  have hin22 : ¬ ((0 : Int32) < 0 ∨ cl_w3_22.slots.size ≤ ((0 : Int32)).toNatClampNeg) := inb_of S_w3_22 ⟨by decide, by decide⟩
  have hat22 : cl_w3_22.slots[((0 : Int32)).toNatClampNeg]? = some .null := H_w3_22.at hin22 rfl
  obtain ⟨T7, X7, e7, st7⟩ := getF X6 hx hZ hown (host := "") (Or.inl (hw _ (List.mem_of_getElem? (i := 26) rfl))) Via.refl e6 (F_m_nSize_a1.ext E5) (g := (mkF m 55 #[.val (.ref a1), .val (.int p2), .val (.ref b5), .val (.int (0 : Int32))] [(.ref a1), (.int (0 : Int32))])) rfl rfl (hb hby d12_55)
  obtain ⟨fs, hr, hrun, hended, hW, hsame⟩ := X7.leave (v := some (.ref b5)) (fun h => by rw [Bd.returns] at h; cases h)
  refine ⟨_, _, pre0 _ ?_, hrun, hended, _, _, rfl, ?_, ⟨_, rfl⟩, hW, hsame.mono (by decide) (by decide)⟩
  · show Steps p.tables e below (s₁.setTop (mkF m 0 #[.val (.ref a1), .val (.int p2), .unset, .unset] [])) _
    refine XS.aloadN X0.here hx rfl (hb hby d12_0) rfl rfl ?_
    show Steps p.tables e below (s₁.setTop (mkF m 1 #[.val (.ref a1), .val (.int p2), .unset, .unset] [(.ref a1)])) _
    refine st4 _ ?_
    show Steps p.tables e below (T4.setTop (mkF m 4 #[.val (.ref a1), .val (.int p2), .unset, .unset] [(.ref w3)])) _
    refine X4.arraylength hx (by rw [e4]; exact Ar_w3_4.1) (State.isArrayOf_alike hZ.alike Ar_w3_4.2.1) (g := (mkF m 4 #[.val (.ref a1), .val (.int p2), .unset, .unset] [(.ref w3)])) rfl rfl (hb hby d12_4) _ ?_
    rw [len_of S_w3_4 N_w3_4]
    show Steps p.tables e below (T4.setTop (mkF m 5 #[.val (.ref a1), .val (.int p2), .unset, .unset] [(.int (1 : Int32))])) _
    refine st5 _ ?_
    show Steps p.tables e below (T5.setTop (mkF m 8 #[.val (.ref a1), .val (.int p2), .unset, .unset] [(.ref b5)])) _
    refine XS.astoreN X5.here hx rfl (hb hby d12_8) rfl rfl (l' := #[.val (.ref a1), .val (.int p2), .val (.ref b5), .unset]) rfl ?_
    show Steps p.tables e below (T5.setTop (mkF m 9 #[.val (.ref a1), .val (.int p2), .val (.ref b5), .unset] [])) _
    refine XS.iconst X5.here hx rfl (hb hby d12_9) ?_
    show Steps p.tables e below (T5.setTop (mkF m 10 #[.val (.ref a1), .val (.int p2), .val (.ref b5), .unset] [(.int (0 : Int32))])) _
    refine XS.istoreN X5.here hx rfl (hb hby d12_10) rfl (l' := #[.val (.ref a1), .val (.int p2), .val (.ref b5), .val (.int (0 : Int32))]) rfl ?_
    show Steps p.tables e below (T5.setTop (mkF m 11 #[.val (.ref a1), .val (.int p2), .val (.ref b5), .val (.int (0 : Int32))] [])) _
    refine XS.iloadN X5.here hx rfl (hb hby d12_11) rfl ?_
    show Steps p.tables e below (T5.setTop (mkF m 12 #[.val (.ref a1), .val (.int p2), .val (.ref b5), .val (.int (0 : Int32))] [(.int (0 : Int32))])) _
    refine XS.aloadN X5.here hx rfl (hb hby d12_12) rfl rfl ?_
    show Steps p.tables e below (T5.setTop (mkF m 13 #[.val (.ref a1), .val (.int p2), .val (.ref b5), .val (.int (0 : Int32))] [(.ref b5), (.int (0 : Int32))])) _
    refine X5.arraylength hx (by rw [e5]; exact Ar_b5_13.1) (State.isArrayOf_alike hZ.alike Ar_b5_13.2.1) (g := (mkF m 13 #[.val (.ref a1), .val (.int p2), .val (.ref b5), .val (.int (0 : Int32))] [(.ref b5), (.int (0 : Int32))])) rfl rfl (hb hby d12_13) _ ?_
    rw [len_of S_b5_13 N_b5_13]
    show Steps p.tables e below (T5.setTop (mkF m 14 #[.val (.ref a1), .val (.int p2), .val (.ref b5), .val (.int (0 : Int32))] [(.int (1 : Int32)), (.int (0 : Int32))])) _
    refine XS.icmpNo X5.here hx rfl (hb hby d12_14) rfl (tlt (by decide : (0 : Int32) < (1 : Int32))).2.1 ?_
    show Steps p.tables e below (T5.setTop (mkF m 17 #[.val (.ref a1), .val (.int p2), .val (.ref b5), .val (.int (0 : Int32))] [])) _
    refine XS.aloadN X5.here hx rfl (hb hby d12_17) rfl rfl ?_
    show Steps p.tables e below (T5.setTop (mkF m 18 #[.val (.ref a1), .val (.int p2), .val (.ref b5), .val (.int (0 : Int32))] [(.ref a1)])) _
    refine st6 _ ?_
    show Steps p.tables e below (T6.setTop (mkF m 21 #[.val (.ref a1), .val (.int p2), .val (.ref b5), .val (.int (0 : Int32))] [(.ref w3)])) _
    refine XS.iloadN X6.here hx rfl (hb hby d12_21) rfl ?_
    show Steps p.tables e below (T6.setTop (mkF m 22 #[.val (.ref a1), .val (.int p2), .val (.ref b5), .val (.int (0 : Int32))] [(.int (0 : Int32)), (.ref w3)])) _
    refine X6.aaload hx (j := (0 : Int32)) (v := .null) (by rw [e6]; exact Ar_w3_22.1) (State.isArrayOf_alike hZ.alike Ar_w3_22.2.1) rfl Ar_w3_22.2.2 hin22 hat22 (g := (mkF m 22 #[.val (.ref a1), .val (.int p2), .val (.ref b5), .val (.int (0 : Int32))] [(.int (0 : Int32)), (.ref w3)])) rfl rfl (hb hby d12_22) _ ?_
    show Steps p.tables e below (T6.setTop (mkF m 23 #[.val (.ref a1), .val (.int p2), .val (.ref b5), .val (.int (0 : Int32))] [.null])) _
    refine XS.ifnullYes X6.here hx rfl (pc0 := 23) (pc' := 51) rfl (hb hby d12_23) rfl (by decide) (by decide) ?_
    show Steps p.tables e below (T6.setTop (mkF m 51 #[.val (.ref a1), .val (.int p2), .val (.ref b5), .val (.int (0 : Int32))] [])) _
    refine XS.iconst X6.here hx rfl (hb hby d12_51) ?_
    show Steps p.tables e below (T6.setTop (mkF m 52 #[.val (.ref a1), .val (.int p2), .val (.ref b5), .val (.int (0 : Int32))] [(.int (0 : Int32))])) _
    refine XS.istoreN X6.here hx rfl (hb hby d12_52) rfl (l' := #[.val (.ref a1), .val (.int p2), .val (.ref b5), .val (.int (0 : Int32))]) rfl ?_
    show Steps p.tables e below (T6.setTop (mkF m 53 #[.val (.ref a1), .val (.int p2), .val (.ref b5), .val (.int (0 : Int32))] [])) _
    refine XS.iloadN X6.here hx rfl (hb hby d12_53) rfl ?_
    show Steps p.tables e below (T6.setTop (mkF m 54 #[.val (.ref a1), .val (.int p2), .val (.ref b5), .val (.int (0 : Int32))] [(.int (0 : Int32))])) _
    refine XS.aloadN X6.here hx rfl (hb hby d12_54) rfl rfl ?_
    show Steps p.tables e below (T6.setTop (mkF m 55 #[.val (.ref a1), .val (.int p2), .val (.ref b5), .val (.int (0 : Int32))] [(.ref a1), (.int (0 : Int32))])) _
    refine st7 _ ?_
    show Steps p.tables e below (T7.setTop (mkF m 58 #[.val (.ref a1), .val (.int p2), .val (.ref b5), .val (.int (0 : Int32))] [(.int (0 : Int32)), (.int (0 : Int32))])) _
    refine XS.icmpYes X7.here hx rfl (pc0 := 58) (pc' := 89) rfl (hb hby d12_58) rfl (flt (by decide : ¬ ((0 : Int32) < (0 : Int32)))).2.1 (by decide) (by decide) ?_
    show Steps p.tables e below (T7.setTop (mkF m 89 #[.val (.ref a1), .val (.int p2), .val (.ref b5), .val (.int (0 : Int32))] [])) _
    refine XS.aloadN X7.here hx rfl (hb hby d12_89) rfl rfl ?_
    show Steps p.tables e below (T7.setTop (mkF m 90 #[.val (.ref a1), .val (.int p2), .val (.ref b5), .val (.int (0 : Int32))] [(.ref b5)])) _
    jvm_step X7.here [X7.here.top, hx, (hb hby d12_90), X7.method', Bd.returns, Value.isRef, FieldType.isReference]
    first | (intro acts; rw [hr _ acts rfl rfl rfl]) | rw [hr _ _ rfl rfl rfl]
    exact Steps.refl _
  · show Q12n Z h0 n0 _ T7.heap _
    rw [e7]
    exact ⟨b5, k5, rfl, N0, K5, V_b5, O5, C5, sz_b5⟩
theorem d12_26 : decode prog_4_method_9_code 26 = .ok (.aload_n 2, 1) := by decide +kernel
theorem d12_27 : decode prog_4_method_9_code 27 = .ok (.iload_n 3, 1) := by decide +kernel
theorem d12_28 : decode prog_4_method_9_code 28 = .ok (.aload_n 0, 1) := by decide +kernel
theorem d12_29 : decode prog_4_method_9_code 29 = .ok (.getfield 11, 3) := by decide +kernel
theorem d12_32 : decode prog_4_method_9_code 32 = .ok (.iload_n 3, 1) := by decide +kernel
theorem d12_33 : decode prog_4_method_9_code 33 = .ok (.aaload, 1) := by decide +kernel
theorem d12_34 : decode prog_4_method_9_code 34 = .ok (.arraylength, 1) := by decide +kernel
theorem d12_35 : decode prog_4_method_9_code 35 = .ok (.aload_n 0, 1) := by decide +kernel
theorem d12_36 : decode prog_4_method_9_code 36 = .ok (.getfield 17, 3) := by decide +kernel
theorem d12_39 : decode prog_4_method_9_code 39 = .ok (.idiv, 1) := by decide +kernel
theorem d12_40 : decode prog_4_method_9_code 40 = .ok (.iload_n 1, 1) := by decide +kernel
theorem d12_41 : decode prog_4_method_9_code 41 = .ok (.imul, 1) := by decide +kernel
theorem d12_42 : decode prog_4_method_9_code 42 = .ok (.newarray .byte, 2) := by decide +kernel
theorem d12_44 : decode prog_4_method_9_code 44 = .ok (.aastore, 1) := by decide +kernel
theorem d12_45 : decode prog_4_method_9_code 45 = .ok (.iinc 3 1, 3) := by decide +kernel
theorem d12_48 : decode prog_4_method_9_code 48 = .ok (.goto (-37), 3) := by decide +kernel
theorem d12_61 : decode prog_4_method_9_code 61 = .ok (.aload_n 2, 1) := by decide +kernel
theorem d12_62 : decode prog_4_method_9_code 62 = .ok (.iload_n 3, 1) := by decide +kernel
theorem d12_63 : decode prog_4_method_9_code 63 = .ok (.getstatic 31, 3) := by decide +kernel
theorem d12_66 : decode prog_4_method_9_code 66 = .ok (.iushr, 1) := by decide +kernel
theorem d12_67 : decode prog_4_method_9_code 67 = .ok (.aaload, 1) := by decide +kernel
theorem d12_68 : decode prog_4_method_9_code 68 = .ok (.iload_n 3, 1) := by decide +kernel
theorem d12_69 : decode prog_4_method_9_code 69 = .ok (.ldc 34, 2) := by decide +kernel
theorem d12_71 : decode prog_4_method_9_code 71 = .ok (.iand, 1) := by decide +kernel
theorem d12_72 : decode prog_4_method_9_code 72 = .ok (.iload_n 1, 1) := by decide +kernel
theorem d12_73 : decode prog_4_method_9_code 73 = .ok (.imul, 1) := by decide +kernel
theorem d12_74 : decode prog_4_method_9_code 74 = .ok (.iload_n 1, 1) := by decide +kernel
theorem d12_75 : decode prog_4_method_9_code 75 = .ok (.aload_n 0, 1) := by decide +kernel
theorem d12_76 : decode prog_4_method_9_code 76 = .ok (.iload_n 3, 1) := by decide +kernel
theorem d12_77 : decode prog_4_method_9_code 77 = .ok (.invokevirtual 93, 3) := by decide +kernel
theorem d12_80 : decode prog_4_method_9_code 80 = .ok (.invokestatic 82, 3) := by decide +kernel
theorem d12_83 : decode prog_4_method_9_code 83 = .ok (.iinc 3 1, 3) := by decide +kernel
theorem d12_86 : decode prog_4_method_9_code 86 = .ok (.goto (-33), 3) := by decide +kernel
theorem pd_12_1 : parseMethodDescriptor "(I)I" = some ⟨[.int], some .int⟩ := by decide +kernel
theorem pd_12_5 : parseMethodDescriptor "([BIII)V" = some ⟨[(.array .byte), .int, .int, .int], none⟩ := by decide +kernel
set_option maxRecDepth 65536 in
set_option maxHeartbeats 40000000 in
theorem rm12_1 (l : Launch) (Z : State) (a0 : Array Value) (hw : ∀ d ∈ tables_1, d.before a0 Z = true) (ws : List Jvm.Cond) (a1 : Addr) (p2 : Int32) (w3 : Addr) (k_w3 : ClassId) (pg : Addr) (cl_pg : Cell) (z_pg : Int32) (W : Int32) (vals B : Nat → Int32) (h0 : Heap) (n0 : Nat) (Z0 : n0 ≤ h0.size) (EA : Exa Z h0 w3 "[[B") (EG : Exa Z h0 pg "[B") (PG : Pg Z h0 pg ((64 : Int32) * W) B) (hoW : own_okW W) (hw2 : own_okW p2) (hzz : ((z_pg / W) * p2) = (64 : Int32) * p2) (hEn : own_Enc W B 1 vals) (hvs : ∀ i, i < 1 → 0 ≤ (vals i).toInt ∧ (vals i).toInt ≤ (own_widest W).toInt) (V_w3 : Arv Z h0 w3 k_w3 (.array .byte) (1 : Int32) [(.ref pg)] .null) (O_w3 : OvrA Z k_w3 .byte "[B") (g_w3 : n0 ≤ w3) (F_m_aPages_a1 : Fld Z h0 a1 "com/example/agave_bloom/agavebloom/check/CompactInts" "m_aPages" "[[B" (.ref w3)) (Ar_pg : Arr Z h0 pg cl_pg .byte) (S_pg : cl_pg.slots.size = z_pg.toNatClampNeg) (N_pg : ¬ z_pg < 0) (F_m_nWidth_a1 : Fld Z h0 a1 "com/example/agave_bloom/agavebloom/check/CompactInts" "m_nWidth" "I" (.int W)) (F_m_nSize_a1 : Fld Z h0 a1 "com/example/agave_bloom/agavebloom/check/CompactInts" "m_nSize" "I" (.int (1 : Int32))) (S_PAGE_SHIFT : Sta Z h0 "com/example/agave_bloom/agavebloom/check/CompactInts" "PAGE_SHIFT" "I" (.int (16 : Int32))) (E_a1 : Exa Z h0 a1 "com/example/agave_bloom/agavebloom/check/CompactInts") (hnz39 : ¬ (W = (0 : Int32))) :
    MetFree l (⟨"com/example/agave_bloom/agavebloom/check/CompactInts", "_widened", "(I)[[B"⟩ : MethodName) (head1 (Jvm.Cond.code (⟨"com/example/agave_bloom/agavebloom/check/CompactInts", "_widened", "(I)[[B"⟩ : MethodName) prog_4_method_9_code 4 (some (.array (.array .byte))) :: ws) ({ frames := 1, cells := 2, slots := 257, locals := 18 } : Room)) (fun a U => a = #[(.ref a1), (.int p2)] ∧ Z.Warmed39 U.vm ∧ U.heap = h0) (fun _ _ _ _ _ => True) (fun _ U o U' => ∃ v L, o = .returned v ∧ Q12 Z p2 1 vals h0 n0 v U'.heap L ∧ FrameEnd U o U' L ({ frames := 1, cells := 2, slots := 257, locals := 18 } : Room).cells ({ frames := 1, cells := 2, slots := 257, locals := 18 } : Room).slots) := by
  refine MetFree.of_bodySF (plainFor_of_name pn_12) hisR ?_
  intro p e s m args below meth c s₁ Bd hml0 hP hK
  obtain ⟨rfl, hZ, hh⟩ := hP
  have hx := Bd.exec
  have hby := Bd.bytes
  have hml : c.maxLocals = 4 := hml0
  have hown : s.vm.findClass "com/example/agave_bloom/agavebloom/check/CompactInts" = some m.cls := findClass_of_methodNamed Bd.named
  have hnm := (name_of_methodNamed Bd.named Bd.method).1
  have X0 : Stand p l e ({ frames := 1, cells := 2, slots := 257, locals := 18 } : Room) s m #[(.ref a1), (.int p2)] below meth c s₁ [] 0 0 := Stand.of_body Bd
  have e0 : s₁.heap = h0 := by rw [← hh, Bd.state]; rfl
  have N0 := Fr.nil n0
  obtain ⟨hneg, hcap, h12, -, -⟩ := own_64 p2 hw2
  rw [← hzz] at hneg hcap h12
  have pre0 : ∀ t, Steps p.tables e below (s₁.setTop (mkF m 0 #[.val (.ref a1), .val (.int p2), .unset, .unset] [])) t → Steps p.tables e below (s₁.setTop (entryFrame m #[(.ref a1), (.int p2)] 4)) t := fun t k => castTop (ef_12 m a1 p2) k
  obtain ⟨T4, X4, e4, st4⟩ := getF X0 hx hZ hown (host := "") (Or.inl (hw _ (List.mem_of_getElem? (i := 12) rfl))) Via.refl e0 F_m_aPages_a1 (g := (mkF m 1 #[.val (.ref a1), .val (.int p2), .unset, .unset] [(.ref a1)])) rfl rfl (hb hby d12_1)
  obtain ⟨cl_w3_4, Ar_w3_4, q_w3_4, S_w3_4, N_w3_4, H_w3_4, G_w3_4⟩ := (id V_w3)
  obtain ⟨T5, h5, k5, X5, e5, E5, A5, C5, O5, st5⟩ := newRA X4 hx hZ hown (C := "[B") (ty := .byte) (by decide) (hw _ (List.mem_of_getElem? (i := 10) rfl)) (hw _ (List.mem_of_getElem? (i := 11) rfl)) e4 (g := (mkF m 5 #[.val (.ref a1), .val (.int p2), .unset, .unset] [(.int (1 : Int32))])) rfl (hb hby d12_5) rfl (by decide) (cap := 1) (by decide) (by decide) (by decide) (by decide) (ad := "[[B") (by decide)
  obtain ⟨b5, g5⟩ : ∃ z, z = h0.size := ⟨_, rfl⟩
  rw [← g5] at A5 C5 st5
  have V_b5 : Arv Z h5 b5 k5 (.array .byte) (1 : Int32) [.null] .null := (Arv.new A5 (by decide)).pad (pad_rep [] .null 1)
  have g_b5 : n0 ≤ b5 := Nat.le_trans Z0 (Nat.le_of_eq g5.symm)
  have sz_b5 : h0.size ≤ b5 := (Nat.le_trans (Keep.refl h0 []).1 (Nat.le_of_eq g5.symm))
  have K5 : Keep h0 h5 [] := (Keep.refl h0 []).ext E5
  obtain ⟨cl_b5_13, Ar_b5_13, q_b5_13, S_b5_13, N_b5_13, H_b5_13, G_b5_13⟩ := (id V_b5)
  obtain ⟨T6, X6, e6, st6⟩ := getF X5 hx hZ hown (host := "") (Or.inl (hw _ (List.mem_of_getElem? (i := 12) rfl))) Via.refl e5 (F_m_aPages_a1.ext E5) (g := (mkF m 18 #[.val (.ref a1), .val (.int p2), .val (.ref b5), .val (.int (0 : Int32))] [(.ref a1)])) rfl rfl (hb hby d12_18)
  obtain ⟨cl_w3_22, Ar_w3_22, q_w3_22, S_w3_22, N_w3_22, H_w3_22, G_w3_22⟩ := (V_w3.ext E5)
  have hin22 : ¬ ((0 : Int32) < 0 ∨ cl_w3_22.slots.size ≤ ((0 : Int32)).toNatClampNeg) := inb_of S_w3_22 ⟨by decide, by decide⟩
  have hat22 : cl_w3_22.slots[((0 : Int32)).toNatClampNeg]? = some (.ref pg) := H_w3_22.at hin22 rfl
  obtain ⟨T7, X7, e7, st7⟩ := getF X6 hx hZ hown (host := "") (Or.inl (hw _ (List.mem_of_getElem? (i := 12) rfl))) Via.refl e6 (F_m_aPages_a1.ext E5) (g := (mkF m 29 #[.val (.ref a1), .val (.int p2), .val (.ref b5), .val (.int (0 : Int32))] [(.ref a1), (.int (0 : Int32)), (.ref b5)])) rfl rfl (hb hby d12_29)
  have hin33 : ¬ ((0 : Int32) < 0 ∨ cl_w3_22.slots.size ≤ ((0 : Int32)).toNatClampNeg) := inb_of S_w3_22 ⟨by decide, by decide⟩
  have hat33 : cl_w3_22.slots[((0 : Int32)).toNatClampNeg]? = some (.ref pg) := H_w3_22.at hin33 rfl
  obtain ⟨T8, X8, e8, st8⟩ := getF X7 hx hZ hown (host := "") (Or.inl (hw _ (List.mem_of_getElem? (i := 14) rfl))) Via.refl e7 (F_m_nWidth_a1.ext E5) (g := (mkF m 36 #[.val (.ref a1), .val (.int p2), .val (.ref b5), .val (.int (0 : Int32))] [(.ref a1), (.int z_pg), (.int (0 : Int32)), (.ref b5)])) rfl rfl (hb hby d12_36)
  obtain ⟨T9, h9, k9, X9, e9, E9, A9, C9, st9⟩ := newPE X8 hx hZ (hw _ (List.mem_of_getElem? (i := 45) rfl)) e8 (g := (mkF m 42 #[.val (.ref a1), .val (.int p2), .val (.ref b5), .val (.int (0 : Int32))] [(.int ((z_pg / W) * p2)), (.int (0 : Int32)), (.ref b5)])) rfl (hb hby d12_42) rfl hneg (cap := 256) hcap (by decide) (by decide) (by decide) (ad := "[B") (by decide)
  obtain ⟨b9, g9⟩ : ∃ z, z = h5.size := ⟨_, rfl⟩
  rw [← g9] at A9 C9 st9
  have PGn : Pg Z h9 b9 ((z_pg / W) * p2) (fun _ => 0) := Pg.new A9 hneg h12
  have g_b9 : n0 ≤ b9 := Nat.le_trans (Nat.le_trans Z0 E5.1) (Nat.le_of_eq g9.symm)
  have sz_b9 : h0.size ≤ b9 := (Nat.le_trans K5.1 (Nat.le_of_eq g9.symm))
  have K9 : Keep h0 h9 [] := K5.ext E9
  obtain ⟨cl_b5_44, Ar_b5_44, q_b5_44, S_b5_44, N_b5_44, H_b5_44, G_b5_44⟩ := (V_b5.ext E9)
  have hin44 : ¬ ((0 : Int32) < 0 ∨ cl_b5_44.slots.size ≤ ((0 : Int32)).toNatClampNeg) := inb_of S_b5_44 ⟨by decide, by decide⟩
  obtain ⟨T10, h10, X10, e10, W10, st10⟩ := stR X9 hx hZ e9 Ar_b5_44 (j := (0 : Int32)) hin44 rfl (Sto.ofVA Ar_b5_44 q_b5_44 O5 (Ins.self C9)) (g := (mkF m 44 #[.val (.ref a1), .val (.int p2), .val (.ref b5), .val (.int (0 : Int32))] [(.ref b9), (.int (0 : Int32)), (.ref b5)])) rfl rfl (hb hby d12_44)
  have V_b5_10 : Arv Z h10 b5 k5 (.array .byte) (1 : Int32) [(.ref b9)] .null := Arv.set Ar_b5_44 q_b5_44 S_b5_44 N_b5_44 H_b5_44 G_b5_44 rfl W10 0 rfl (Nat.le_of_ble_eq_true rfl)
  have N10 := Fr.snoc X10 N0 g_b5
  have K10 : Keep h0 h10 [] := K9.wr W10 (Or.inr sz_b5)
  have nP5 : b9 ≠ b5 := Ne.symm (ne_exa (C5.ext E9) C9 (by decide))
  have na : a1 ∉ [b9] := fun q => ne_exa ((E_a1.ext E5).ext E9) C9 (by decide) (List.mem_singleton.mp q)
  have nb : b5 ∉ [b9] := fun q => nP5 (List.mem_singleton.mp q).symm
  have nw : w3 ∉ [b9] := fun q => ne_exa ((EA.ext E5).ext E9) C9 (by decide) (List.mem_singleton.mp q)
  have ng : pg ∉ [b9] := fun q => Nat.ne_of_lt (Nat.lt_of_lt_of_le EG.lt sz_b9) (List.mem_singleton.mp q)
  have nab : a1 ≠ b5 := Nat.ne_of_lt (Nat.lt_of_lt_of_le E_a1.lt sz_b5)
  have c1 := ((F_m_aPages_a1.ext E5).ext E9).other W10 (Or.inl nab)
  have c2 := ((F_m_nWidth_a1.ext E5).ext E9).other W10 (Or.inl nab)
  have c3 := ((S_PAGE_SHIFT.ext E5).ext E9).wr W10
  have c4 := ((V_w3.ext E5).ext E9).other W10 (Nat.ne_of_lt (Nat.lt_of_lt_of_le EA.lt sz_b5))
  have c5 := ((PG.ext E5).ext E9).other W10 (Nat.ne_of_lt (Nat.lt_of_lt_of_le EG.lt sz_b5))
  have c6 := PGn.other W10 nP5
  have d5 := (C5.ext E9).wr W10
  have d9 := C9.wr W10
  have En0 : own_Enc p2 (fun _ => (0 : Int32)) 0 vals := fun i hi => absurd hi (Nat.not_lt_zero i)
  obtain ⟨i00, i01, i02, i03, u00, u01, u02, u03, -, hz0, -⟩ := own_idx (0 : Int32) p2 (Or.inl rfl) hw2
  rw [show (((0 : Int32) &&& (65535 : Int32)) * p2) = ((0 : Int32) * p2) from rfl] at i00 i01 i02 i03 u00 u01 u02 u03
  rw [← hzz] at hz0
  obtain ⟨cl_b5_13_2, Ar_b5_13_2, q_b5_13_2, S_b5_13_2, N_b5_13_2, H_b5_13_2, G_b5_13_2⟩ := (id V_b5_10)
  obtain ⟨T11, X11, e11, st11⟩ := getF X10 hx hZ hown (host := "") (Or.inl (hw _ (List.mem_of_getElem? (i := 26) rfl))) Via.refl e10 (((F_m_nSize_a1.ext E5).ext E9).other W10 (Or.inl (Nat.ne_of_lt (Nat.lt_of_lt_of_le F_m_aPages_a1.lt (Nat.le_of_eq g5.symm))))) (g := (mkF m 55 #[.val (.ref a1), .val (.int p2), .val (.ref b5), .val (.int (0 : Int32))] [(.ref a1), (.int (0 : Int32))])) rfl rfl (hb hby d12_55)
  obtain ⟨T12, X12, e12, st12⟩ := getS2 X11 hx hZ hown (host := "") (Or.inl (hw _ (List.mem_of_getElem? (i := 42) rfl))) Via.refl e11 (((S_PAGE_SHIFT.ext E5).ext E9).wr W10) (g := (mkF m 63 #[.val (.ref a1), .val (.int p2), .val (.ref b5), .val (.int (0 : Int32))] [(.int (0 : Int32)), (.ref b5)])) rfl (hb hby d12_63)
  have hin67 : ¬ ((0 : Int32) < 0 ∨ cl_b5_13_2.slots.size ≤ ((0 : Int32)).toNatClampNeg) := inb_of S_b5_13_2 ⟨by decide, by decide⟩
  have hat67 : cl_b5_13_2.slots[((0 : Int32)).toNatClampNeg]? = some (.ref b9) := H_b5_13_2.at hin67 rfl
  obtain ⟨cq13, kq13, q13a, q13b, q13c⟩ := isOf hZ e12 (((E_a1.ext E5).ext E9).wr W10)
  obtain ⟨_, _, ⟨T13, L13, k13, n13⟩, -, X13, ⟨Lc13, hQ13, l13, y13, z13⟩, st13⟩ := X12.virtualBack hx (y := (⟨"com/example/agave_bloom/agavebloom/check/CompactInts", "get", "(I)I"⟩ : MethodName)) (z := (⟨"com/example/agave_bloom/agavebloom/check/CompactInts", "get", "(I)I"⟩ : MethodName)) hown (mvT hZ (hw _ (List.mem_of_getElem? (i := 70) rfl))) (mvT hZ (hw _ (List.mem_of_getElem? (i := 61) rfl))) (notFace_of_selects (args := #[]) (mvT hZ (hw _ (List.mem_of_getElem? (i := 63) rfl)))) (mvT hZ (hw _ (List.mem_of_getElem? (i := 63) rfl))) (mvT hZ (hw _ (List.mem_of_getElem? (i := 62) rfl))) (by decide) (backOf (W := 3) (rm11v l Z a0 hw [] a1 (0 : Int32) w3 k_w3 pg W B h10 n0 (Nat.le_trans Z0 K10.1) c1 c3 c4 c2 c5 hoW (Or.inl rfl) 1 vals 0 rfl hEn (by decide) (hvs 0 (by decide)).1 (hvs 0 (by decide)).2) hZ (hw _ (List.mem_of_getElem? (i := 64) rfl)) (hw _ (List.mem_of_getElem? (i := 3) rfl)) (by decide) (by decide)) q13a q13c (g := (mkF m 77 #[.val (.ref a1), .val (.int p2), .val (.ref b5), .val (.int (0 : Int32))] [(.int (0 : Int32)), (.ref a1), (.int p2), (.int ((0 : Int32) * p2)), (.ref b9)])) rfl (by rw [hml]; rfl) (Steps.refl _) (argsL := [(.int (0 : Int32))]) (rest := [(.int p2), (.int ((0 : Int32) * p2)), (.ref b9)]) (lenOf pd_12_1 rfl) rfl (by show 2 * 0 + _ ≤ _; exact Nat.le_of_eq rfl) (hb hby d12_77) (fun _ _ => ⟨rfl, e12, (by decide : 2 + 0 ≤ _), (by decide : 257 + 0 ≤ _)⟩)
  dsimp only [Pt.U, Pt.locs, Pt.cells, Pt.slots] at X13 l13 y13 z13 st13 hQ13
  subst l13 y13 z13
  obtain ⟨rfl, N13q, eq13⟩ := hQ13
  have N13 := Fr.app N10 N13q
  obtain ⟨_, _, ⟨T14, L14, k14, n14⟩, -, X14, ⟨Lc14, hQ14, l14, y14, z14⟩, st14⟩ := Jvm.LawKit.callS X13 hx (y := (⟨"com/example/agave_bloom/agavebloom/check/CompactInts", "_put", "([BIII)V"⟩ : MethodName)) hown (mvT hZ (hw _ (List.mem_of_getElem? (i := 57) rfl))) (mvT hZ (hw _ (List.mem_of_getElem? (i := 58) rfl))) (mvT hZ (hw _ (List.mem_of_getElem? (i := 3) rfl))) (mvT hZ (hw _ (List.mem_of_getElem? (i := 59) rfl))) (by decide) (backOf (W := 0) (rm10 l Z a0 hw [] b9 ((0 : Int32) * p2) p2 (vals 0) h10 n0 (Nat.le_trans Z0 K10.1) ((z_pg / W) * p2) (fun _ => (0 : Int32)) (own_ix (0 : Int32) p2) c6 g_b9 i00 u00 i01 u01 i02 u02 i03 u03 hz0 hw2) hZ (hw _ (List.mem_of_getElem? (i := 59) rfl)) (hw _ (List.mem_of_getElem? (i := 3) rfl)) (by decide) (by decide)) (g := (mkF m 80 #[.val (.ref a1), .val (.int p2), .val (.ref b5), .val (.int (0 : Int32))] [(.int (vals 0)), (.int p2), (.int ((0 : Int32) * p2)), (.ref b9)])) rfl (by rw [hml]; rfl) (argsL := [(.ref b9), (.int ((0 : Int32) * p2)), (.int p2), (.int (vals 0))]) (rest := []) (lenOf pd_12_5 rfl) rfl (by show 2 * 0 + _ ≤ _; exact Nat.le_of_eq rfl) (hb hby d12_80) (fun _ _ => ⟨rfl, eq13, (by decide : 2 + 0 ≤ _), (by decide : 257 + 0 ≤ _)⟩)
  dsimp only [Pt.U, Pt.locs, Pt.cells, Pt.slots] at X14 l14 y14 z14 st14 hQ14
  subst l14 y14 z14
  obtain ⟨rfl, N14q, Kq14, P14⟩ := hQ14
  have K14 : Keep h0 T14.heap [] := K10.trans Kq14 (fun x hx => by cases List.mem_singleton.mp hx; exact Or.inr sz_b9)
  have En1 : own_Enc p2 (own_putB p2 (fun _ => (0 : Int32)) (own_ix (0 : Int32) p2) (vals 0)) 1 vals := own_encPut hw2 En0
  have Sta14 := own_stk1 c3 Kq14 d9
  have c1_14 := c1.keep Kq14 na
  have c2_14 := c2.keep Kq14 na
  have c4_14 := c4.keep Kq14 nw
  have c5_14 := c5.keep Kq14 ng
  have d5_14 := d5.keep Kq14
  have d9_14 := d9.keep Kq14
  have N14 := Fr.app N13 N14q
  obtain ⟨T15, X15, e15, st15⟩ := getF X14 hx hZ hown (host := "") (Or.inl (hw _ (List.mem_of_getElem? (i := 26) rfl))) Via.refl rfl ((((F_m_nSize_a1.ext E5).ext E9).other W10 (Or.inl (Nat.ne_of_lt (Nat.lt_of_lt_of_le E_a1.lt (Nat.le_of_eq g5.symm))))).keep Kq14 na) (g := (mkF m 55 #[.val (.ref a1), .val (.int p2), .val (.ref b5), .val (.int (1 : Int32))] [(.ref a1), (.int (1 : Int32))])) rfl rfl (hb hby d12_55)
  obtain ⟨fs, hr, hrun, hended, hW, hsame⟩ := X15.leave (v := some (.ref b5)) (fun h => by rw [Bd.returns] at h; cases h)
  refine ⟨_, _, pre0 _ ?_, hrun, hended, _, _, rfl, ?_, ⟨_, rfl⟩, hW, hsame.mono (by decide) (by decide)⟩
  · show Steps p.tables e below (s₁.setTop (mkF m 0 #[.val (.ref a1), .val (.int p2), .unset, .unset] [])) _
    refine XS.aloadN X0.here hx rfl (hb hby d12_0) rfl rfl ?_
    show Steps p.tables e below (s₁.setTop (mkF m 1 #[.val (.ref a1), .val (.int p2), .unset, .unset] [(.ref a1)])) _
    refine st4 _ ?_
    show Steps p.tables e below (T4.setTop (mkF m 4 #[.val (.ref a1), .val (.int p2), .unset, .unset] [(.ref w3)])) _
    refine X4.arraylength hx (by rw [e4]; exact Ar_w3_4.1) (State.isArrayOf_alike hZ.alike Ar_w3_4.2.1) (g := (mkF m 4 #[.val (.ref a1), .val (.int p2), .unset, .unset] [(.ref w3)])) rfl rfl (hb hby d12_4) _ ?_
    rw [len_of S_w3_4 N_w3_4]
    show Steps p.tables e below (T4.setTop (mkF m 5 #[.val (.ref a1), .val (.int p2), .unset, .unset] [(.int (1 : Int32))])) _
    refine st5 _ ?_
    show Steps p.tables e below (T5.setTop (mkF m 8 #[.val (.ref a1), .val (.int p2), .unset, .unset] [(.ref b5)])) _
    refine XS.astoreN X5.here hx rfl (hb hby d12_8) rfl rfl (l' := #[.val (.ref a1), .val (.int p2), .val (.ref b5), .unset]) rfl ?_
    show Steps p.tables e below (T5.setTop (mkF m 9 #[.val (.ref a1), .val (.int p2), .val (.ref b5), .unset] [])) _
    refine XS.iconst X5.here hx rfl (hb hby d12_9) ?_
    show Steps p.tables e below (T5.setTop (mkF m 10 #[.val (.ref a1), .val (.int p2), .val (.ref b5), .unset] [(.int (0 : Int32))])) _
    refine XS.istoreN X5.here hx rfl (hb hby d12_10) rfl (l' := #[.val (.ref a1), .val (.int p2), .val (.ref b5), .val (.int (0 : Int32))]) rfl ?_
    show Steps p.tables e below (T5.setTop (mkF m 11 #[.val (.ref a1), .val (.int p2), .val (.ref b5), .val (.int (0 : Int32))] [])) _
    refine XS.iloadN X5.here hx rfl (hb hby d12_11) rfl ?_
    show Steps p.tables e below (T5.setTop (mkF m 12 #[.val (.ref a1), .val (.int p2), .val (.ref b5), .val (.int (0 : Int32))] [(.int (0 : Int32))])) _
    refine XS.aloadN X5.here hx rfl (hb hby d12_12) rfl rfl ?_
    show Steps p.tables e below (T5.setTop (mkF m 13 #[.val (.ref a1), .val (.int p2), .val (.ref b5), .val (.int (0 : Int32))] [(.ref b5), (.int (0 : Int32))])) _
    refine X5.arraylength hx (by rw [e5]; exact Ar_b5_13.1) (State.isArrayOf_alike hZ.alike Ar_b5_13.2.1) (g := (mkF m 13 #[.val (.ref a1), .val (.int p2), .val (.ref b5), .val (.int (0 : Int32))] [(.ref b5), (.int (0 : Int32))])) rfl rfl (hb hby d12_13) _ ?_
    rw [len_of S_b5_13 N_b5_13]
    show Steps p.tables e below (T5.setTop (mkF m 14 #[.val (.ref a1), .val (.int p2), .val (.ref b5), .val (.int (0 : Int32))] [(.int (1 : Int32)), (.int (0 : Int32))])) _
    refine XS.icmpNo X5.here hx rfl (hb hby d12_14) rfl (tlt (by decide : (0 : Int32) < (1 : Int32))).2.1 ?_
    show Steps p.tables e below (T5.setTop (mkF m 17 #[.val (.ref a1), .val (.int p2), .val (.ref b5), .val (.int (0 : Int32))] [])) _
    refine XS.aloadN X5.here hx rfl (hb hby d12_17) rfl rfl ?_
    show Steps p.tables e below (T5.setTop (mkF m 18 #[.val (.ref a1), .val (.int p2), .val (.ref b5), .val (.int (0 : Int32))] [(.ref a1)])) _
    refine st6 _ ?_
    show Steps p.tables e below (T6.setTop (mkF m 21 #[.val (.ref a1), .val (.int p2), .val (.ref b5), .val (.int (0 : Int32))] [(.ref w3)])) _
    refine XS.iloadN X6.here hx rfl (hb hby d12_21) rfl ?_
    show Steps p.tables e below (T6.setTop (mkF m 22 #[.val (.ref a1), .val (.int p2), .val (.ref b5), .val (.int (0 : Int32))] [(.int (0 : Int32)), (.ref w3)])) _
    refine X6.aaload hx (j := (0 : Int32)) (v := (.ref pg)) (by rw [e6]; exact Ar_w3_22.1) (State.isArrayOf_alike hZ.alike Ar_w3_22.2.1) rfl Ar_w3_22.2.2 hin22 hat22 (g := (mkF m 22 #[.val (.ref a1), .val (.int p2), .val (.ref b5), .val (.int (0 : Int32))] [(.int (0 : Int32)), (.ref w3)])) rfl rfl (hb hby d12_22) _ ?_
    show Steps p.tables e below (T6.setTop (mkF m 23 #[.val (.ref a1), .val (.int p2), .val (.ref b5), .val (.int (0 : Int32))] [(.ref pg)])) _
    refine XS.ifnullNo X6.here hx rfl (hb hby d12_23) rfl ?_
    show Steps p.tables e below (T6.setTop (mkF m 26 #[.val (.ref a1), .val (.int p2), .val (.ref b5), .val (.int (0 : Int32))] [])) _
    refine XS.aloadN X6.here hx rfl (hb hby d12_26) rfl rfl ?_
    show Steps p.tables e below (T6.setTop (mkF m 27 #[.val (.ref a1), .val (.int p2), .val (.ref b5), .val (.int (0 : Int32))] [(.ref b5)])) _
    refine XS.iloadN X6.here hx rfl (hb hby d12_27) rfl ?_
    show Steps p.tables e below (T6.setTop (mkF m 28 #[.val (.ref a1), .val (.int p2), .val (.ref b5), .val (.int (0 : Int32))] [(.int (0 : Int32)), (.ref b5)])) _
    refine XS.aloadN X6.here hx rfl (hb hby d12_28) rfl rfl ?_
    show Steps p.tables e below (T6.setTop (mkF m 29 #[.val (.ref a1), .val (.int p2), .val (.ref b5), .val (.int (0 : Int32))] [(.ref a1), (.int (0 : Int32)), (.ref b5)])) _
    refine st7 _ ?_
    show Steps p.tables e below (T7.setTop (mkF m 32 #[.val (.ref a1), .val (.int p2), .val (.ref b5), .val (.int (0 : Int32))] [(.ref w3), (.int (0 : Int32)), (.ref b5)])) _
    refine XS.iloadN X7.here hx rfl (hb hby d12_32) rfl ?_
    show Steps p.tables e below (T7.setTop (mkF m 33 #[.val (.ref a1), .val (.int p2), .val (.ref b5), .val (.int (0 : Int32))] [(.int (0 : Int32)), (.ref w3), (.int (0 : Int32)), (.ref b5)])) _
    refine X7.aaload hx (j := (0 : Int32)) (v := (.ref pg)) (by rw [e7]; exact Ar_w3_22.1) (State.isArrayOf_alike hZ.alike Ar_w3_22.2.1) rfl Ar_w3_22.2.2 hin33 hat33 (g := (mkF m 33 #[.val (.ref a1), .val (.int p2), .val (.ref b5), .val (.int (0 : Int32))] [(.int (0 : Int32)), (.ref w3), (.int (0 : Int32)), (.ref b5)])) rfl rfl (hb hby d12_33) _ ?_
    show Steps p.tables e below (T7.setTop (mkF m 34 #[.val (.ref a1), .val (.int p2), .val (.ref b5), .val (.int (0 : Int32))] [(.ref pg), (.int (0 : Int32)), (.ref b5)])) _
    refine X7.arraylength hx (by rw [e7]; exact (Ar_pg.ext E5).1) (State.isArrayOf_alike hZ.alike Ar_pg.2.1) (g := (mkF m 34 #[.val (.ref a1), .val (.int p2), .val (.ref b5), .val (.int (0 : Int32))] [(.ref pg), (.int (0 : Int32)), (.ref b5)])) rfl rfl (hb hby d12_34) _ ?_
    rw [len_of S_pg N_pg]
    show Steps p.tables e below (T7.setTop (mkF m 35 #[.val (.ref a1), .val (.int p2), .val (.ref b5), .val (.int (0 : Int32))] [(.int z_pg), (.int (0 : Int32)), (.ref b5)])) _
    refine XS.aloadN X7.here hx rfl (hb hby d12_35) rfl rfl ?_
    show Steps p.tables e below (T7.setTop (mkF m 36 #[.val (.ref a1), .val (.int p2), .val (.ref b5), .val (.int (0 : Int32))] [(.ref a1), (.int z_pg), (.int (0 : Int32)), (.ref b5)])) _
    refine st8 _ ?_
    show Steps p.tables e below (T8.setTop (mkF m 39 #[.val (.ref a1), .val (.int p2), .val (.ref b5), .val (.int (0 : Int32))] [(.int W), (.int z_pg), (.int (0 : Int32)), (.ref b5)])) _
    refine XS.idiv X8.here hx rfl (hb hby d12_39) rfl hnz39 ?_
    show Steps p.tables e below (T8.setTop (mkF m 40 #[.val (.ref a1), .val (.int p2), .val (.ref b5), .val (.int (0 : Int32))] [(.int (z_pg / W)), (.int (0 : Int32)), (.ref b5)])) _
    refine XS.iloadN X8.here hx rfl (hb hby d12_40) rfl ?_
    show Steps p.tables e below (T8.setTop (mkF m 41 #[.val (.ref a1), .val (.int p2), .val (.ref b5), .val (.int (0 : Int32))] [(.int p2), (.int (z_pg / W)), (.int (0 : Int32)), (.ref b5)])) _
    refine XS.imul X8.here hx rfl (hb hby d12_41) rfl ?_
    show Steps p.tables e below (T8.setTop (mkF m 42 #[.val (.ref a1), .val (.int p2), .val (.ref b5), .val (.int (0 : Int32))] [(.int ((z_pg / W) * p2)), (.int (0 : Int32)), (.ref b5)])) _
    refine st9 _ ?_
    show Steps p.tables e below (T9.setTop (mkF m 44 #[.val (.ref a1), .val (.int p2), .val (.ref b5), .val (.int (0 : Int32))] [(.ref b9), (.int (0 : Int32)), (.ref b5)])) _
    refine st10 _ ?_
    show Steps p.tables e below (T10.setTop (mkF m 45 #[.val (.ref a1), .val (.int p2), .val (.ref b5), .val (.int (0 : Int32))] [])) _
    refine XS.iinc X10.here hx rfl (hb hby d12_45) rfl (l' := #[.val (.ref a1), .val (.int p2), .val (.ref b5), .val (.int (1 : Int32))]) rfl ?_
    show Steps p.tables e below (T10.setTop (mkF m 48 #[.val (.ref a1), .val (.int p2), .val (.ref b5), .val (.int (1 : Int32))] [])) _
    refine XS.goto X10.here hx rfl (pc0 := 48) (pc' := 11) rfl (hb hby d12_48) (by decide) (by decide) ?_
    show Steps p.tables e below (T10.setTop (mkF m 11 #[.val (.ref a1), .val (.int p2), .val (.ref b5), .val (.int (1 : Int32))] [])) _
    refine XS.iloadN X10.here hx rfl (hb hby d12_11) rfl ?_
    show Steps p.tables e below (T10.setTop (mkF m 12 #[.val (.ref a1), .val (.int p2), .val (.ref b5), .val (.int (1 : Int32))] [(.int (1 : Int32))])) _
    refine XS.aloadN X10.here hx rfl (hb hby d12_12) rfl rfl ?_
    show Steps p.tables e below (T10.setTop (mkF m 13 #[.val (.ref a1), .val (.int p2), .val (.ref b5), .val (.int (1 : Int32))] [(.ref b5), (.int (1 : Int32))])) _
    refine X10.arraylength hx (by rw [e10]; exact Ar_b5_13_2.1) (State.isArrayOf_alike hZ.alike Ar_b5_13_2.2.1) (g := (mkF m 13 #[.val (.ref a1), .val (.int p2), .val (.ref b5), .val (.int (1 : Int32))] [(.ref b5), (.int (1 : Int32))])) rfl rfl (hb hby d12_13) _ ?_
    rw [len_of S_b5_13_2 N_b5_13_2]
    show Steps p.tables e below (T10.setTop (mkF m 14 #[.val (.ref a1), .val (.int p2), .val (.ref b5), .val (.int (1 : Int32))] [(.int (1 : Int32)), (.int (1 : Int32))])) _
    refine XS.icmpYes X10.here hx rfl (pc0 := 14) (pc' := 51) rfl (hb hby d12_14) rfl (flt (by decide : ¬ ((1 : Int32) < (1 : Int32)))).2.1 (by decide) (by decide) ?_
    show Steps p.tables e below (T10.setTop (mkF m 51 #[.val (.ref a1), .val (.int p2), .val (.ref b5), .val (.int (1 : Int32))] [])) _
    refine XS.iconst X10.here hx rfl (hb hby d12_51) ?_
    show Steps p.tables e below (T10.setTop (mkF m 52 #[.val (.ref a1), .val (.int p2), .val (.ref b5), .val (.int (1 : Int32))] [(.int (0 : Int32))])) _
    refine XS.istoreN X10.here hx rfl (hb hby d12_52) rfl (l' := #[.val (.ref a1), .val (.int p2), .val (.ref b5), .val (.int (0 : Int32))]) rfl ?_
    show Steps p.tables e below (T10.setTop (mkF m 53 #[.val (.ref a1), .val (.int p2), .val (.ref b5), .val (.int (0 : Int32))] [])) _
    refine XS.iloadN X10.here hx rfl (hb hby d12_53) rfl ?_
    show Steps p.tables e below (T10.setTop (mkF m 54 #[.val (.ref a1), .val (.int p2), .val (.ref b5), .val (.int (0 : Int32))] [(.int (0 : Int32))])) _
    refine XS.aloadN X10.here hx rfl (hb hby d12_54) rfl rfl ?_
    show Steps p.tables e below (T10.setTop (mkF m 55 #[.val (.ref a1), .val (.int p2), .val (.ref b5), .val (.int (0 : Int32))] [(.ref a1), (.int (0 : Int32))])) _
    refine st11 _ ?_
    show Steps p.tables e below (T11.setTop (mkF m 58 #[.val (.ref a1), .val (.int p2), .val (.ref b5), .val (.int (0 : Int32))] [(.int (1 : Int32)), (.int (0 : Int32))])) _
    refine XS.icmpNo X11.here hx rfl (hb hby d12_58) rfl (tlt (by decide : (0 : Int32) < (1 : Int32))).2.1 ?_
    show Steps p.tables e below (T11.setTop (mkF m 61 #[.val (.ref a1), .val (.int p2), .val (.ref b5), .val (.int (0 : Int32))] [])) _
    refine XS.aloadN X11.here hx rfl (hb hby d12_61) rfl rfl ?_
    show Steps p.tables e below (T11.setTop (mkF m 62 #[.val (.ref a1), .val (.int p2), .val (.ref b5), .val (.int (0 : Int32))] [(.ref b5)])) _
    refine XS.iloadN X11.here hx rfl (hb hby d12_62) rfl ?_
    show Steps p.tables e below (T11.setTop (mkF m 63 #[.val (.ref a1), .val (.int p2), .val (.ref b5), .val (.int (0 : Int32))] [(.int (0 : Int32)), (.ref b5)])) _
    refine st12 _ ?_
    show Steps p.tables e below (T12.setTop (mkF m 66 #[.val (.ref a1), .val (.int p2), .val (.ref b5), .val (.int (0 : Int32))] [(.int (16 : Int32)), (.int (0 : Int32)), (.ref b5)])) _
    refine XS.iushr X12.here hx rfl (hb hby d12_66) rfl ?_
    show Steps p.tables e below (T12.setTop (mkF m 67 #[.val (.ref a1), .val (.int p2), .val (.ref b5), .val (.int (0 : Int32))] [(.int (0 : Int32)), (.ref b5)])) _
    refine X12.aaload hx (j := (0 : Int32)) (v := (.ref b9)) (by rw [e12]; exact Ar_b5_13_2.1) (State.isArrayOf_alike hZ.alike Ar_b5_13_2.2.1) rfl Ar_b5_13_2.2.2 hin67 hat67 (g := (mkF m 67 #[.val (.ref a1), .val (.int p2), .val (.ref b5), .val (.int (0 : Int32))] [(.int (0 : Int32)), (.ref b5)])) rfl rfl (hb hby d12_67) _ ?_
    show Steps p.tables e below (T12.setTop (mkF m 68 #[.val (.ref a1), .val (.int p2), .val (.ref b5), .val (.int (0 : Int32))] [(.ref b9)])) _
    refine XS.iloadN X12.here hx rfl (hb hby d12_68) rfl ?_
    show Steps p.tables e below (T12.setTop (mkF m 69 #[.val (.ref a1), .val (.int p2), .val (.ref b5), .val (.int (0 : Int32))] [(.int (0 : Int32)), (.ref b9)])) _
    refine X12.ldcInt hx hown (mvT hZ (hw _ (List.mem_of_getElem? (i := 44) rfl))) (g := (mkF m 69 #[.val (.ref a1), .val (.int p2), .val (.ref b5), .val (.int (0 : Int32))] [(.int (0 : Int32)), (.ref b9)])) rfl (hb hby d12_69) _ ?_
    show Steps p.tables e below (T12.setTop (mkF m 71 #[.val (.ref a1), .val (.int p2), .val (.ref b5), .val (.int (0 : Int32))] [(.int (65535 : Int32)), (.int (0 : Int32)), (.ref b9)])) _
    refine XS.iand X12.here hx rfl (hb hby d12_71) rfl ?_
    show Steps p.tables e below (T12.setTop (mkF m 72 #[.val (.ref a1), .val (.int p2), .val (.ref b5), .val (.int (0 : Int32))] [(.int (0 : Int32)), (.ref b9)])) _
    refine XS.iloadN X12.here hx rfl (hb hby d12_72) rfl ?_
    show Steps p.tables e below (T12.setTop (mkF m 73 #[.val (.ref a1), .val (.int p2), .val (.ref b5), .val (.int (0 : Int32))] [(.int p2), (.int (0 : Int32)), (.ref b9)])) _
    refine XS.imul X12.here hx rfl (hb hby d12_73) rfl ?_
    show Steps p.tables e below (T12.setTop (mkF m 74 #[.val (.ref a1), .val (.int p2), .val (.ref b5), .val (.int (0 : Int32))] [(.int ((0 : Int32) * p2)), (.ref b9)])) _
    refine XS.iloadN X12.here hx rfl (hb hby d12_74) rfl ?_
    show Steps p.tables e below (T12.setTop (mkF m 75 #[.val (.ref a1), .val (.int p2), .val (.ref b5), .val (.int (0 : Int32))] [(.int p2), (.int ((0 : Int32) * p2)), (.ref b9)])) _
    refine XS.aloadN X12.here hx rfl (hb hby d12_75) rfl rfl ?_
    show Steps p.tables e below (T12.setTop (mkF m 76 #[.val (.ref a1), .val (.int p2), .val (.ref b5), .val (.int (0 : Int32))] [(.ref a1), (.int p2), (.int ((0 : Int32) * p2)), (.ref b9)])) _
    refine XS.iloadN X12.here hx rfl (hb hby d12_76) rfl ?_
    show Steps p.tables e below (T12.setTop (mkF m 77 #[.val (.ref a1), .val (.int p2), .val (.ref b5), .val (.int (0 : Int32))] [(.int (0 : Int32)), (.ref a1), (.int p2), (.int ((0 : Int32) * p2)), (.ref b9)])) _
    refine st13.trans ?_
    show Steps p.tables e below (T13.setTop (mkF m 80 #[.val (.ref a1), .val (.int p2), .val (.ref b5), .val (.int (0 : Int32))] [(.int (vals 0)), (.int p2), (.int ((0 : Int32) * p2)), (.ref b9)])) _
    refine st14 _ ?_
    show Steps p.tables e below (T14.setTop (mkF m 83 #[.val (.ref a1), .val (.int p2), .val (.ref b5), .val (.int (0 : Int32))] [])) _
    refine XS.iinc X14.here hx rfl (hb hby d12_83) rfl (l' := #[.val (.ref a1), .val (.int p2), .val (.ref b5), .val (.int (1 : Int32))]) rfl ?_
    show Steps p.tables e below (T14.setTop (mkF m 86 #[.val (.ref a1), .val (.int p2), .val (.ref b5), .val (.int (1 : Int32))] [])) _
    refine XS.goto X14.here hx rfl (pc0 := 86) (pc' := 53) rfl (hb hby d12_86) (by decide) (by decide) ?_
    show Steps p.tables e below (T14.setTop (mkF m 53 #[.val (.ref a1), .val (.int p2), .val (.ref b5), .val (.int (1 : Int32))] [])) _
    refine XS.iloadN X14.here hx rfl (hb hby d12_53) rfl ?_
    show Steps p.tables e below (T14.setTop (mkF m 54 #[.val (.ref a1), .val (.int p2), .val (.ref b5), .val (.int (1 : Int32))] [(.int (1 : Int32))])) _
    refine XS.aloadN X14.here hx rfl (hb hby d12_54) rfl rfl ?_
    show Steps p.tables e below (T14.setTop (mkF m 55 #[.val (.ref a1), .val (.int p2), .val (.ref b5), .val (.int (1 : Int32))] [(.ref a1), (.int (1 : Int32))])) _
    refine st15 _ ?_
    show Steps p.tables e below (T15.setTop (mkF m 58 #[.val (.ref a1), .val (.int p2), .val (.ref b5), .val (.int (1 : Int32))] [(.int (1 : Int32)), (.int (1 : Int32))])) _
    refine XS.icmpYes X15.here hx rfl (pc0 := 58) (pc' := 89) rfl (hb hby d12_58) rfl (flt (by decide : ¬ ((1 : Int32) < (1 : Int32)))).2.1 (by decide) (by decide) ?_
    show Steps p.tables e below (T15.setTop (mkF m 89 #[.val (.ref a1), .val (.int p2), .val (.ref b5), .val (.int (1 : Int32))] [])) _
    refine XS.aloadN X15.here hx rfl (hb hby d12_89) rfl rfl ?_
    show Steps p.tables e below (T15.setTop (mkF m 90 #[.val (.ref a1), .val (.int p2), .val (.ref b5), .val (.int (1 : Int32))] [(.ref b5)])) _
    jvm_step X15.here [X15.here.top, hx, (hb hby d12_90), X15.method', Bd.returns, Value.isRef, FieldType.isReference]
    first | (intro acts; rw [hr _ acts rfl rfl rfl]) | rw [hr _ _ rfl rfl rfl]
    exact Steps.refl _
  · show Q12 Z p2 1 vals h0 n0 _ T15.heap _
    rw [e15]
    exact ⟨b5, k5, b9, _, rfl, N14, K14, (V_b5_10.keep Kq14 nb), O5, d5_14, hzz ▸ P14, d9_14, sz_b5, sz_b9, En1⟩
set_option maxRecDepth 65536 in
set_option maxHeartbeats 40000000 in
theorem rm12_2 (l : Launch) (Z : State) (a0 : Array Value) (hw : ∀ d ∈ tables_1, d.before a0 Z = true) (ws : List Jvm.Cond) (a1 : Addr) (p2 : Int32) (w3 : Addr) (k_w3 : ClassId) (pg : Addr) (cl_pg : Cell) (z_pg : Int32) (W : Int32) (vals B : Nat → Int32) (h0 : Heap) (n0 : Nat) (Z0 : n0 ≤ h0.size) (EA : Exa Z h0 w3 "[[B") (EG : Exa Z h0 pg "[B") (PG : Pg Z h0 pg ((64 : Int32) * W) B) (hoW : own_okW W) (hw2 : own_okW p2) (hzz : ((z_pg / W) * p2) = (64 : Int32) * p2) (hEn : own_Enc W B 2 vals) (hvs : ∀ i, i < 2 → 0 ≤ (vals i).toInt ∧ (vals i).toInt ≤ (own_widest W).toInt) (V_w3 : Arv Z h0 w3 k_w3 (.array .byte) (1 : Int32) [(.ref pg)] .null) (O_w3 : OvrA Z k_w3 .byte "[B") (g_w3 : n0 ≤ w3) (F_m_aPages_a1 : Fld Z h0 a1 "com/example/agave_bloom/agavebloom/check/CompactInts" "m_aPages" "[[B" (.ref w3)) (Ar_pg : Arr Z h0 pg cl_pg .byte) (S_pg : cl_pg.slots.size = z_pg.toNatClampNeg) (N_pg : ¬ z_pg < 0) (F_m_nWidth_a1 : Fld Z h0 a1 "com/example/agave_bloom/agavebloom/check/CompactInts" "m_nWidth" "I" (.int W)) (F_m_nSize_a1 : Fld Z h0 a1 "com/example/agave_bloom/agavebloom/check/CompactInts" "m_nSize" "I" (.int (2 : Int32))) (S_PAGE_SHIFT : Sta Z h0 "com/example/agave_bloom/agavebloom/check/CompactInts" "PAGE_SHIFT" "I" (.int (16 : Int32))) (E_a1 : Exa Z h0 a1 "com/example/agave_bloom/agavebloom/check/CompactInts") (hnz39 : ¬ (W = (0 : Int32))) :
    MetFree l (⟨"com/example/agave_bloom/agavebloom/check/CompactInts", "_widened", "(I)[[B"⟩ : MethodName) (head1 (Jvm.Cond.code (⟨"com/example/agave_bloom/agavebloom/check/CompactInts", "_widened", "(I)[[B"⟩ : MethodName) prog_4_method_9_code 4 (some (.array (.array .byte))) :: ws) ({ frames := 1, cells := 2, slots := 257, locals := 18 } : Room)) (fun a U => a = #[(.ref a1), (.int p2)] ∧ Z.Warmed39 U.vm ∧ U.heap = h0) (fun _ _ _ _ _ => True) (fun _ U o U' => ∃ v L, o = .returned v ∧ Q12 Z p2 2 vals h0 n0 v U'.heap L ∧ FrameEnd U o U' L ({ frames := 1, cells := 2, slots := 257, locals := 18 } : Room).cells ({ frames := 1, cells := 2, slots := 257, locals := 18 } : Room).slots) := by
  refine MetFree.of_bodySF (plainFor_of_name pn_12) hisR ?_
  intro p e s m args below meth c s₁ Bd hml0 hP hK
  obtain ⟨rfl, hZ, hh⟩ := hP
  have hx := Bd.exec
  have hby := Bd.bytes
  have hml : c.maxLocals = 4 := hml0
  have hown : s.vm.findClass "com/example/agave_bloom/agavebloom/check/CompactInts" = some m.cls := findClass_of_methodNamed Bd.named
  have hnm := (name_of_methodNamed Bd.named Bd.method).1
  have X0 : Stand p l e ({ frames := 1, cells := 2, slots := 257, locals := 18 } : Room) s m #[(.ref a1), (.int p2)] below meth c s₁ [] 0 0 := Stand.of_body Bd
  have e0 : s₁.heap = h0 := by rw [← hh, Bd.state]; rfl
  have N0 := Fr.nil n0
  obtain ⟨hneg, hcap, h12, -, -⟩ := own_64 p2 hw2
  rw [← hzz] at hneg hcap h12
  have pre0 : ∀ t, Steps p.tables e below (s₁.setTop (mkF m 0 #[.val (.ref a1), .val (.int p2), .unset, .unset] [])) t → Steps p.tables e below (s₁.setTop (entryFrame m #[(.ref a1), (.int p2)] 4)) t := fun t k => castTop (ef_12 m a1 p2) k
  obtain ⟨T4, X4, e4, st4⟩ := getF X0 hx hZ hown (host := "") (Or.inl (hw _ (List.mem_of_getElem? (i := 12) rfl))) Via.refl e0 F_m_aPages_a1 (g := (mkF m 1 #[.val (.ref a1), .val (.int p2), .unset, .unset] [(.ref a1)])) rfl rfl (hb hby d12_1)
  obtain ⟨cl_w3_4, Ar_w3_4, q_w3_4, S_w3_4, N_w3_4, H_w3_4, G_w3_4⟩ := (id V_w3)
  obtain ⟨T5, h5, k5, X5, e5, E5, A5, C5, O5, st5⟩ := newRA X4 hx hZ hown (C := "[B") (ty := .byte) (by decide) (hw _ (List.mem_of_getElem? (i := 10) rfl)) (hw _ (List.mem_of_getElem? (i := 11) rfl)) e4 (g := (mkF m 5 #[.val (.ref a1), .val (.int p2), .unset, .unset] [(.int (1 : Int32))])) rfl (hb hby d12_5) rfl (by decide) (cap := 1) (by decide) (by decide) (by decide) (by decide) (ad := "[[B") (by decide)
  obtain ⟨b5, g5⟩ : ∃ z, z = h0.size := ⟨_, rfl⟩
  rw [← g5] at A5 C5 st5
  have V_b5 : Arv Z h5 b5 k5 (.array .byte) (1 : Int32) [.null] .null := (Arv.new A5 (by decide)).pad (pad_rep [] .null 1)
  have g_b5 : n0 ≤ b5 := Nat.le_trans Z0 (Nat.le_of_eq g5.symm)
  have sz_b5 : h0.size ≤ b5 := (Nat.le_trans (Keep.refl h0 []).1 (Nat.le_of_eq g5.symm))
  have K5 : Keep h0 h5 [] := (Keep.refl h0 []).ext E5
  obtain ⟨cl_b5_13, Ar_b5_13, q_b5_13, S_b5_13, N_b5_13, H_b5_13, G_b5_13⟩ := (id V_b5)
  obtain ⟨T6, X6, e6, st6⟩ := getF X5 hx hZ hown (host := "") (Or.inl (hw _ (List.mem_of_getElem? (i := 12) rfl))) Via.refl e5 (F_m_aPages_a1.ext E5) (g := (mkF m 18 #[.val (.ref a1), .val (.int p2), .val (.ref b5), .val (.int (0 : Int32))] [(.ref a1)])) rfl rfl (hb hby d12_18)
  obtain ⟨cl_w3_22, Ar_w3_22, q_w3_22, S_w3_22, N_w3_22, H_w3_22, G_w3_22⟩ := (V_w3.ext E5)
  have hin22 : ¬ ((0 : Int32) < 0 ∨ cl_w3_22.slots.size ≤ ((0 : Int32)).toNatClampNeg) := inb_of S_w3_22 ⟨by decide, by decide⟩
  have hat22 : cl_w3_22.slots[((0 : Int32)).toNatClampNeg]? = some (.ref pg) := H_w3_22.at hin22 rfl
  obtain ⟨T7, X7, e7, st7⟩ := getF X6 hx hZ hown (host := "") (Or.inl (hw _ (List.mem_of_getElem? (i := 12) rfl))) Via.refl e6 (F_m_aPages_a1.ext E5) (g := (mkF m 29 #[.val (.ref a1), .val (.int p2), .val (.ref b5), .val (.int (0 : Int32))] [(.ref a1), (.int (0 : Int32)), (.ref b5)])) rfl rfl (hb hby d12_29)
  have hin33 : ¬ ((0 : Int32) < 0 ∨ cl_w3_22.slots.size ≤ ((0 : Int32)).toNatClampNeg) := inb_of S_w3_22 ⟨by decide, by decide⟩
  have hat33 : cl_w3_22.slots[((0 : Int32)).toNatClampNeg]? = some (.ref pg) := H_w3_22.at hin33 rfl
  obtain ⟨T8, X8, e8, st8⟩ := getF X7 hx hZ hown (host := "") (Or.inl (hw _ (List.mem_of_getElem? (i := 14) rfl))) Via.refl e7 (F_m_nWidth_a1.ext E5) (g := (mkF m 36 #[.val (.ref a1), .val (.int p2), .val (.ref b5), .val (.int (0 : Int32))] [(.ref a1), (.int z_pg), (.int (0 : Int32)), (.ref b5)])) rfl rfl (hb hby d12_36)
  obtain ⟨T9, h9, k9, X9, e9, E9, A9, C9, st9⟩ := newPE X8 hx hZ (hw _ (List.mem_of_getElem? (i := 45) rfl)) e8 (g := (mkF m 42 #[.val (.ref a1), .val (.int p2), .val (.ref b5), .val (.int (0 : Int32))] [(.int ((z_pg / W) * p2)), (.int (0 : Int32)), (.ref b5)])) rfl (hb hby d12_42) rfl hneg (cap := 256) hcap (by decide) (by decide) (by decide) (ad := "[B") (by decide)
  obtain ⟨b9, g9⟩ : ∃ z, z = h5.size := ⟨_, rfl⟩
  rw [← g9] at A9 C9 st9
  have PGn : Pg Z h9 b9 ((z_pg / W) * p2) (fun _ => 0) := Pg.new A9 hneg h12
  have g_b9 : n0 ≤ b9 := Nat.le_trans (Nat.le_trans Z0 E5.1) (Nat.le_of_eq g9.symm)
  have sz_b9 : h0.size ≤ b9 := (Nat.le_trans K5.1 (Nat.le_of_eq g9.symm))
  have K9 : Keep h0 h9 [] := K5.ext E9
  obtain ⟨cl_b5_44, Ar_b5_44, q_b5_44, S_b5_44, N_b5_44, H_b5_44, G_b5_44⟩ := (V_b5.ext E9)
  have hin44 : ¬ ((0 : Int32) < 0 ∨ cl_b5_44.slots.size ≤ ((0 : Int32)).toNatClampNeg) := inb_of S_b5_44 ⟨by decide, by decide⟩
  obtain ⟨T10, h10, X10, e10, W10, st10⟩ := stR X9 hx hZ e9 Ar_b5_44 (j := (0 : Int32)) hin44 rfl (Sto.ofVA Ar_b5_44 q_b5_44 O5 (Ins.self C9)) (g := (mkF m 44 #[.val (.ref a1), .val (.int p2), .val (.ref b5), .val (.int (0 : Int32))] [(.ref b9), (.int (0 : Int32)), (.ref b5)])) rfl rfl (hb hby d12_44)
  have V_b5_10 : Arv Z h10 b5 k5 (.array .byte) (1 : Int32) [(.ref b9)] .null := Arv.set Ar_b5_44 q_b5_44 S_b5_44 N_b5_44 H_b5_44 G_b5_44 rfl W10 0 rfl (Nat.le_of_ble_eq_true rfl)
  have N10 := Fr.snoc X10 N0 g_b5
  have K10 : Keep h0 h10 [] := K9.wr W10 (Or.inr sz_b5)
  have nP5 : b9 ≠ b5 := Ne.symm (ne_exa (C5.ext E9) C9 (by decide))
  have na : a1 ∉ [b9] := fun q => ne_exa ((E_a1.ext E5).ext E9) C9 (by decide) (List.mem_singleton.mp q)
  have nb : b5 ∉ [b9] := fun q => nP5 (List.mem_singleton.mp q).symm
  have nw : w3 ∉ [b9] := fun q => ne_exa ((EA.ext E5).ext E9) C9 (by decide) (List.mem_singleton.mp q)
  have ng : pg ∉ [b9] := fun q => Nat.ne_of_lt (Nat.lt_of_lt_of_le EG.lt sz_b9) (List.mem_singleton.mp q)
  have nab : a1 ≠ b5 := Nat.ne_of_lt (Nat.lt_of_lt_of_le E_a1.lt sz_b5)
  have c1 := ((F_m_aPages_a1.ext E5).ext E9).other W10 (Or.inl nab)
  have c2 := ((F_m_nWidth_a1.ext E5).ext E9).other W10 (Or.inl nab)
  have c3 := ((S_PAGE_SHIFT.ext E5).ext E9).wr W10
  have c4 := ((V_w3.ext E5).ext E9).other W10 (Nat.ne_of_lt (Nat.lt_of_lt_of_le EA.lt sz_b5))
  have c5 := ((PG.ext E5).ext E9).other W10 (Nat.ne_of_lt (Nat.lt_of_lt_of_le EG.lt sz_b5))
  have c6 := PGn.other W10 nP5
  have d5 := (C5.ext E9).wr W10
  have d9 := C9.wr W10
  have En0 : own_Enc p2 (fun _ => (0 : Int32)) 0 vals := fun i hi => absurd hi (Nat.not_lt_zero i)
  obtain ⟨i00, i01, i02, i03, u00, u01, u02, u03, -, hz0, -⟩ := own_idx (0 : Int32) p2 (Or.inl rfl) hw2
  rw [show (((0 : Int32) &&& (65535 : Int32)) * p2) = ((0 : Int32) * p2) from rfl] at i00 i01 i02 i03 u00 u01 u02 u03
  rw [← hzz] at hz0
  obtain ⟨i10, i11, i12, i13, u10, u11, u12, u13, -, hz1, -⟩ := own_idx (1 : Int32) p2 (Or.inr (Or.inl rfl)) hw2
  rw [show (((1 : Int32) &&& (65535 : Int32)) * p2) = ((1 : Int32) * p2) from rfl] at i10 i11 i12 i13 u10 u11 u12 u13
  rw [← hzz] at hz1
  obtain ⟨cl_b5_13_2, Ar_b5_13_2, q_b5_13_2, S_b5_13_2, N_b5_13_2, H_b5_13_2, G_b5_13_2⟩ := (id V_b5_10)
  obtain ⟨T11, X11, e11, st11⟩ := getF X10 hx hZ hown (host := "") (Or.inl (hw _ (List.mem_of_getElem? (i := 26) rfl))) Via.refl e10 (((F_m_nSize_a1.ext E5).ext E9).other W10 (Or.inl (Nat.ne_of_lt (Nat.lt_of_lt_of_le F_m_aPages_a1.lt (Nat.le_of_eq g5.symm))))) (g := (mkF m 55 #[.val (.ref a1), .val (.int p2), .val (.ref b5), .val (.int (0 : Int32))] [(.ref a1), (.int (0 : Int32))])) rfl rfl (hb hby d12_55)
  obtain ⟨T12, X12, e12, st12⟩ := getS2 X11 hx hZ hown (host := "") (Or.inl (hw _ (List.mem_of_getElem? (i := 42) rfl))) Via.refl e11 (((S_PAGE_SHIFT.ext E5).ext E9).wr W10) (g := (mkF m 63 #[.val (.ref a1), .val (.int p2), .val (.ref b5), .val (.int (0 : Int32))] [(.int (0 : Int32)), (.ref b5)])) rfl (hb hby d12_63)
  have hin67 : ¬ ((0 : Int32) < 0 ∨ cl_b5_13_2.slots.size ≤ ((0 : Int32)).toNatClampNeg) := inb_of S_b5_13_2 ⟨by decide, by decide⟩
  have hat67 : cl_b5_13_2.slots[((0 : Int32)).toNatClampNeg]? = some (.ref b9) := H_b5_13_2.at hin67 rfl
  obtain ⟨cq13, kq13, q13a, q13b, q13c⟩ := isOf hZ e12 (((E_a1.ext E5).ext E9).wr W10)
  obtain ⟨_, _, ⟨T13, L13, k13, n13⟩, -, X13, ⟨Lc13, hQ13, l13, y13, z13⟩, st13⟩ := X12.virtualBack hx (y := (⟨"com/example/agave_bloom/agavebloom/check/CompactInts", "get", "(I)I"⟩ : MethodName)) (z := (⟨"com/example/agave_bloom/agavebloom/check/CompactInts", "get", "(I)I"⟩ : MethodName)) hown (mvT hZ (hw _ (List.mem_of_getElem? (i := 70) rfl))) (mvT hZ (hw _ (List.mem_of_getElem? (i := 61) rfl))) (notFace_of_selects (args := #[]) (mvT hZ (hw _ (List.mem_of_getElem? (i := 63) rfl)))) (mvT hZ (hw _ (List.mem_of_getElem? (i := 63) rfl))) (mvT hZ (hw _ (List.mem_of_getElem? (i := 62) rfl))) (by decide) (backOf (W := 3) (rm11v l Z a0 hw [] a1 (0 : Int32) w3 k_w3 pg W B h10 n0 (Nat.le_trans Z0 K10.1) c1 c3 c4 c2 c5 hoW (Or.inl rfl) 2 vals 0 rfl hEn (by decide) (hvs 0 (by decide)).1 (hvs 0 (by decide)).2) hZ (hw _ (List.mem_of_getElem? (i := 64) rfl)) (hw _ (List.mem_of_getElem? (i := 3) rfl)) (by decide) (by decide)) q13a q13c (g := (mkF m 77 #[.val (.ref a1), .val (.int p2), .val (.ref b5), .val (.int (0 : Int32))] [(.int (0 : Int32)), (.ref a1), (.int p2), (.int ((0 : Int32) * p2)), (.ref b9)])) rfl (by rw [hml]; rfl) (Steps.refl _) (argsL := [(.int (0 : Int32))]) (rest := [(.int p2), (.int ((0 : Int32) * p2)), (.ref b9)]) (lenOf pd_12_1 rfl) rfl (by show 2 * 0 + _ ≤ _; exact Nat.le_of_eq rfl) (hb hby d12_77) (fun _ _ => ⟨rfl, e12, (by decide : 2 + 0 ≤ _), (by decide : 257 + 0 ≤ _)⟩)
  dsimp only [Pt.U, Pt.locs, Pt.cells, Pt.slots] at X13 l13 y13 z13 st13 hQ13
  subst l13 y13 z13
  obtain ⟨rfl, N13q, eq13⟩ := hQ13
  have N13 := Fr.app N10 N13q
  obtain ⟨_, _, ⟨T14, L14, k14, n14⟩, -, X14, ⟨Lc14, hQ14, l14, y14, z14⟩, st14⟩ := Jvm.LawKit.callS X13 hx (y := (⟨"com/example/agave_bloom/agavebloom/check/CompactInts", "_put", "([BIII)V"⟩ : MethodName)) hown (mvT hZ (hw _ (List.mem_of_getElem? (i := 57) rfl))) (mvT hZ (hw _ (List.mem_of_getElem? (i := 58) rfl))) (mvT hZ (hw _ (List.mem_of_getElem? (i := 3) rfl))) (mvT hZ (hw _ (List.mem_of_getElem? (i := 59) rfl))) (by decide) (backOf (W := 0) (rm10 l Z a0 hw [] b9 ((0 : Int32) * p2) p2 (vals 0) h10 n0 (Nat.le_trans Z0 K10.1) ((z_pg / W) * p2) (fun _ => (0 : Int32)) (own_ix (0 : Int32) p2) c6 g_b9 i00 u00 i01 u01 i02 u02 i03 u03 hz0 hw2) hZ (hw _ (List.mem_of_getElem? (i := 59) rfl)) (hw _ (List.mem_of_getElem? (i := 3) rfl)) (by decide) (by decide)) (g := (mkF m 80 #[.val (.ref a1), .val (.int p2), .val (.ref b5), .val (.int (0 : Int32))] [(.int (vals 0)), (.int p2), (.int ((0 : Int32) * p2)), (.ref b9)])) rfl (by rw [hml]; rfl) (argsL := [(.ref b9), (.int ((0 : Int32) * p2)), (.int p2), (.int (vals 0))]) (rest := []) (lenOf pd_12_5 rfl) rfl (by show 2 * 0 + _ ≤ _; exact Nat.le_of_eq rfl) (hb hby d12_80) (fun _ _ => ⟨rfl, eq13, (by decide : 2 + 0 ≤ _), (by decide : 257 + 0 ≤ _)⟩)
  dsimp only [Pt.U, Pt.locs, Pt.cells, Pt.slots] at X14 l14 y14 z14 st14 hQ14
  subst l14 y14 z14
  obtain ⟨rfl, N14q, Kq14, P14⟩ := hQ14
  have K14 : Keep h0 T14.heap [] := K10.trans Kq14 (fun x hx => by cases List.mem_singleton.mp hx; exact Or.inr sz_b9)
  have En1 : own_Enc p2 (own_putB p2 (fun _ => (0 : Int32)) (own_ix (0 : Int32) p2) (vals 0)) 1 vals := own_encPut hw2 En0
  have Sta14 := own_stk1 c3 Kq14 d9
  have c1_14 := c1.keep Kq14 na
  have c2_14 := c2.keep Kq14 na
  have c4_14 := c4.keep Kq14 nw
  have c5_14 := c5.keep Kq14 ng
  have d5_14 := d5.keep Kq14
  have d9_14 := d9.keep Kq14
  have N14 := Fr.app N13 N14q
  obtain ⟨T15, X15, e15, st15⟩ := getF X14 hx hZ hown (host := "") (Or.inl (hw _ (List.mem_of_getElem? (i := 26) rfl))) Via.refl rfl ((((F_m_nSize_a1.ext E5).ext E9).other W10 (Or.inl (Nat.ne_of_lt (Nat.lt_of_lt_of_le E_a1.lt (Nat.le_of_eq g5.symm))))).keep Kq14 na) (g := (mkF m 55 #[.val (.ref a1), .val (.int p2), .val (.ref b5), .val (.int (1 : Int32))] [(.ref a1), (.int (1 : Int32))])) rfl rfl (hb hby d12_55)
  obtain ⟨T16, X16, e16, st16⟩ := getS2 X15 hx hZ hown (host := "") (Or.inl (hw _ (List.mem_of_getElem? (i := 42) rfl))) Via.refl e15 Sta14 (g := (mkF m 63 #[.val (.ref a1), .val (.int p2), .val (.ref b5), .val (.int (1 : Int32))] [(.int (1 : Int32)), (.ref b5)])) rfl (hb hby d12_63)
  obtain ⟨cl_b5_67_2, Ar_b5_67_2, q_b5_67_2, S_b5_67_2, N_b5_67_2, H_b5_67_2, G_b5_67_2⟩ := (V_b5_10.keep Kq14 nb)
  have hin67_2 : ¬ ((0 : Int32) < 0 ∨ cl_b5_67_2.slots.size ≤ ((0 : Int32)).toNatClampNeg) := inb_of S_b5_67_2 ⟨by decide, by decide⟩
  have hat67_2 : cl_b5_67_2.slots[((0 : Int32)).toNatClampNeg]? = some (.ref b9) := H_b5_67_2.at hin67_2 rfl
  obtain ⟨cq17, kq17, q17a, q17b, q17c⟩ := isOf hZ e16 ((((E_a1.ext E5).ext E9).wr W10).keep Kq14)
  obtain ⟨_, _, ⟨T17, L17, k17, n17⟩, -, X17, ⟨Lc17, hQ17, l17, y17, z17⟩, st17⟩ := X16.virtualBack hx (y := (⟨"com/example/agave_bloom/agavebloom/check/CompactInts", "get", "(I)I"⟩ : MethodName)) (z := (⟨"com/example/agave_bloom/agavebloom/check/CompactInts", "get", "(I)I"⟩ : MethodName)) hown (mvT hZ (hw _ (List.mem_of_getElem? (i := 70) rfl))) (mvT hZ (hw _ (List.mem_of_getElem? (i := 61) rfl))) (notFace_of_selects (args := #[]) (mvT hZ (hw _ (List.mem_of_getElem? (i := 63) rfl)))) (mvT hZ (hw _ (List.mem_of_getElem? (i := 63) rfl))) (mvT hZ (hw _ (List.mem_of_getElem? (i := 62) rfl))) (by decide) (backOf (W := 3) (rm11v l Z a0 hw [] a1 (1 : Int32) w3 k_w3 pg W B T14.heap n0 (Nat.le_trans Z0 K14.1) c1_14 Sta14 c4_14 c2_14 c5_14 hoW (Or.inr (Or.inl rfl)) 2 vals 1 rfl hEn (by decide) (hvs 1 (by decide)).1 (hvs 1 (by decide)).2) hZ (hw _ (List.mem_of_getElem? (i := 64) rfl)) (hw _ (List.mem_of_getElem? (i := 3) rfl)) (by decide) (by decide)) q17a q17c (g := (mkF m 77 #[.val (.ref a1), .val (.int p2), .val (.ref b5), .val (.int (1 : Int32))] [(.int (1 : Int32)), (.ref a1), (.int p2), (.int ((1 : Int32) * p2)), (.ref b9)])) rfl (by rw [hml]; rfl) (Steps.refl _) (argsL := [(.int (1 : Int32))]) (rest := [(.int p2), (.int ((1 : Int32) * p2)), (.ref b9)]) (lenOf pd_12_1 rfl) rfl (by show 2 * 0 + _ ≤ _; exact Nat.le_of_eq rfl) (hb hby d12_77) (fun _ _ => ⟨rfl, e16, (by decide : 2 + 0 ≤ _), (by decide : 257 + 0 ≤ _)⟩)
  dsimp only [Pt.U, Pt.locs, Pt.cells, Pt.slots] at X17 l17 y17 z17 st17 hQ17
  subst l17 y17 z17
  obtain ⟨rfl, N17q, eq17⟩ := hQ17
  have N17 := Fr.app N14 N17q
  obtain ⟨_, _, ⟨T18, L18, k18, n18⟩, -, X18, ⟨Lc18, hQ18, l18, y18, z18⟩, st18⟩ := Jvm.LawKit.callS X17 hx (y := (⟨"com/example/agave_bloom/agavebloom/check/CompactInts", "_put", "([BIII)V"⟩ : MethodName)) hown (mvT hZ (hw _ (List.mem_of_getElem? (i := 57) rfl))) (mvT hZ (hw _ (List.mem_of_getElem? (i := 58) rfl))) (mvT hZ (hw _ (List.mem_of_getElem? (i := 3) rfl))) (mvT hZ (hw _ (List.mem_of_getElem? (i := 59) rfl))) (by decide) (backOf (W := 0) (rm10 l Z a0 hw [] b9 ((1 : Int32) * p2) p2 (vals 1) T14.heap n0 (Nat.le_trans Z0 K14.1) ((z_pg / W) * p2) (own_putB p2 (fun _ => (0 : Int32)) (own_ix (0 : Int32) p2) (vals 0)) (own_ix (1 : Int32) p2) P14 g_b9 i10 u10 i11 u11 i12 u12 i13 u13 hz1 hw2) hZ (hw _ (List.mem_of_getElem? (i := 59) rfl)) (hw _ (List.mem_of_getElem? (i := 3) rfl)) (by decide) (by decide)) (g := (mkF m 80 #[.val (.ref a1), .val (.int p2), .val (.ref b5), .val (.int (1 : Int32))] [(.int (vals 1)), (.int p2), (.int ((1 : Int32) * p2)), (.ref b9)])) rfl (by rw [hml]; rfl) (argsL := [(.ref b9), (.int ((1 : Int32) * p2)), (.int p2), (.int (vals 1))]) (rest := []) (lenOf pd_12_5 rfl) rfl (by show 2 * 0 + _ ≤ _; exact Nat.le_of_eq rfl) (hb hby d12_80) (fun _ _ => ⟨rfl, eq17, (by decide : 2 + 0 ≤ _), (by decide : 257 + 0 ≤ _)⟩)
  dsimp only [Pt.U, Pt.locs, Pt.cells, Pt.slots] at X18 l18 y18 z18 st18 hQ18
  subst l18 y18 z18
  obtain ⟨rfl, N18q, Kq18, P18⟩ := hQ18
  have K18 : Keep h0 T18.heap [] := K14.trans Kq18 (fun x hx => by cases List.mem_singleton.mp hx; exact Or.inr sz_b9)
  have En2 : own_Enc p2 (own_putB p2 (own_putB p2 (fun _ => (0 : Int32)) (own_ix (0 : Int32) p2) (vals 0)) (own_ix (1 : Int32) p2) (vals 1)) 2 vals := own_encPut hw2 En1
  have Sta18 := own_stk1 Sta14 Kq18 d9_14
  have c1_18 := c1_14.keep Kq18 na
  have c2_18 := c2_14.keep Kq18 na
  have c4_18 := c4_14.keep Kq18 nw
  have c5_18 := c5_14.keep Kq18 ng
  have d5_18 := d5_14.keep Kq18
  have d9_18 := d9_14.keep Kq18
  have N18 := Fr.app N17 N18q
  obtain ⟨T19, X19, e19, st19⟩ := getF X18 hx hZ hown (host := "") (Or.inl (hw _ (List.mem_of_getElem? (i := 26) rfl))) Via.refl rfl (((((F_m_nSize_a1.ext E5).ext E9).other W10 (Or.inl (Nat.ne_of_lt (Nat.lt_of_lt_of_le E_a1.lt (Nat.le_of_eq g5.symm))))).keep Kq14 na).keep Kq18 na) (g := (mkF m 55 #[.val (.ref a1), .val (.int p2), .val (.ref b5), .val (.int (2 : Int32))] [(.ref a1), (.int (2 : Int32))])) rfl rfl (hb hby d12_55)
  obtain ⟨fs, hr, hrun, hended, hW, hsame⟩ := X19.leave (v := some (.ref b5)) (fun h => by rw [Bd.returns] at h; cases h)
  refine ⟨_, _, pre0 _ ?_, hrun, hended, _, _, rfl, ?_, ⟨_, rfl⟩, hW, hsame.mono (by decide) (by decide)⟩
  · show Steps p.tables e below (s₁.setTop (mkF m 0 #[.val (.ref a1), .val (.int p2), .unset, .unset] [])) _
    refine XS.aloadN X0.here hx rfl (hb hby d12_0) rfl rfl ?_
    show Steps p.tables e below (s₁.setTop (mkF m 1 #[.val (.ref a1), .val (.int p2), .unset, .unset] [(.ref a1)])) _
    refine st4 _ ?_
    show Steps p.tables e below (T4.setTop (mkF m 4 #[.val (.ref a1), .val (.int p2), .unset, .unset] [(.ref w3)])) _
    refine X4.arraylength hx (by rw [e4]; exact Ar_w3_4.1) (State.isArrayOf_alike hZ.alike Ar_w3_4.2.1) (g := (mkF m 4 #[.val (.ref a1), .val (.int p2), .unset, .unset] [(.ref w3)])) rfl rfl (hb hby d12_4) _ ?_
    rw [len_of S_w3_4 N_w3_4]
    show Steps p.tables e below (T4.setTop (mkF m 5 #[.val (.ref a1), .val (.int p2), .unset, .unset] [(.int (1 : Int32))])) _
    refine st5 _ ?_
    show Steps p.tables e below (T5.setTop (mkF m 8 #[.val (.ref a1), .val (.int p2), .unset, .unset] [(.ref b5)])) _
    refine XS.astoreN X5.here hx rfl (hb hby d12_8) rfl rfl (l' := #[.val (.ref a1), .val (.int p2), .val (.ref b5), .unset]) rfl ?_
    show Steps p.tables e below (T5.setTop (mkF m 9 #[.val (.ref a1), .val (.int p2), .val (.ref b5), .unset] [])) _
    refine XS.iconst X5.here hx rfl (hb hby d12_9) ?_
    show Steps p.tables e below (T5.setTop (mkF m 10 #[.val (.ref a1), .val (.int p2), .val (.ref b5), .unset] [(.int (0 : Int32))])) _
    refine XS.istoreN X5.here hx rfl (hb hby d12_10) rfl (l' := #[.val (.ref a1), .val (.int p2), .val (.ref b5), .val (.int (0 : Int32))]) rfl ?_
    show Steps p.tables e below (T5.setTop (mkF m 11 #[.val (.ref a1), .val (.int p2), .val (.ref b5), .val (.int (0 : Int32))] [])) _
    refine XS.iloadN X5.here hx rfl (hb hby d12_11) rfl ?_
    show Steps p.tables e below (T5.setTop (mkF m 12 #[.val (.ref a1), .val (.int p2), .val (.ref b5), .val (.int (0 : Int32))] [(.int (0 : Int32))])) _
    refine XS.aloadN X5.here hx rfl (hb hby d12_12) rfl rfl ?_
    show Steps p.tables e below (T5.setTop (mkF m 13 #[.val (.ref a1), .val (.int p2), .val (.ref b5), .val (.int (0 : Int32))] [(.ref b5), (.int (0 : Int32))])) _
    refine X5.arraylength hx (by rw [e5]; exact Ar_b5_13.1) (State.isArrayOf_alike hZ.alike Ar_b5_13.2.1) (g := (mkF m 13 #[.val (.ref a1), .val (.int p2), .val (.ref b5), .val (.int (0 : Int32))] [(.ref b5), (.int (0 : Int32))])) rfl rfl (hb hby d12_13) _ ?_
    rw [len_of S_b5_13 N_b5_13]
    show Steps p.tables e below (T5.setTop (mkF m 14 #[.val (.ref a1), .val (.int p2), .val (.ref b5), .val (.int (0 : Int32))] [(.int (1 : Int32)), (.int (0 : Int32))])) _
    refine XS.icmpNo X5.here hx rfl (hb hby d12_14) rfl (tlt (by decide : (0 : Int32) < (1 : Int32))).2.1 ?_
    show Steps p.tables e below (T5.setTop (mkF m 17 #[.val (.ref a1), .val (.int p2), .val (.ref b5), .val (.int (0 : Int32))] [])) _
    refine XS.aloadN X5.here hx rfl (hb hby d12_17) rfl rfl ?_
    show Steps p.tables e below (T5.setTop (mkF m 18 #[.val (.ref a1), .val (.int p2), .val (.ref b5), .val (.int (0 : Int32))] [(.ref a1)])) _
    refine st6 _ ?_
    show Steps p.tables e below (T6.setTop (mkF m 21 #[.val (.ref a1), .val (.int p2), .val (.ref b5), .val (.int (0 : Int32))] [(.ref w3)])) _
    refine XS.iloadN X6.here hx rfl (hb hby d12_21) rfl ?_
    show Steps p.tables e below (T6.setTop (mkF m 22 #[.val (.ref a1), .val (.int p2), .val (.ref b5), .val (.int (0 : Int32))] [(.int (0 : Int32)), (.ref w3)])) _
    refine X6.aaload hx (j := (0 : Int32)) (v := (.ref pg)) (by rw [e6]; exact Ar_w3_22.1) (State.isArrayOf_alike hZ.alike Ar_w3_22.2.1) rfl Ar_w3_22.2.2 hin22 hat22 (g := (mkF m 22 #[.val (.ref a1), .val (.int p2), .val (.ref b5), .val (.int (0 : Int32))] [(.int (0 : Int32)), (.ref w3)])) rfl rfl (hb hby d12_22) _ ?_
    show Steps p.tables e below (T6.setTop (mkF m 23 #[.val (.ref a1), .val (.int p2), .val (.ref b5), .val (.int (0 : Int32))] [(.ref pg)])) _
    refine XS.ifnullNo X6.here hx rfl (hb hby d12_23) rfl ?_
    show Steps p.tables e below (T6.setTop (mkF m 26 #[.val (.ref a1), .val (.int p2), .val (.ref b5), .val (.int (0 : Int32))] [])) _
    refine XS.aloadN X6.here hx rfl (hb hby d12_26) rfl rfl ?_
    show Steps p.tables e below (T6.setTop (mkF m 27 #[.val (.ref a1), .val (.int p2), .val (.ref b5), .val (.int (0 : Int32))] [(.ref b5)])) _
    refine XS.iloadN X6.here hx rfl (hb hby d12_27) rfl ?_
    show Steps p.tables e below (T6.setTop (mkF m 28 #[.val (.ref a1), .val (.int p2), .val (.ref b5), .val (.int (0 : Int32))] [(.int (0 : Int32)), (.ref b5)])) _
    refine XS.aloadN X6.here hx rfl (hb hby d12_28) rfl rfl ?_
    show Steps p.tables e below (T6.setTop (mkF m 29 #[.val (.ref a1), .val (.int p2), .val (.ref b5), .val (.int (0 : Int32))] [(.ref a1), (.int (0 : Int32)), (.ref b5)])) _
    refine st7 _ ?_
    show Steps p.tables e below (T7.setTop (mkF m 32 #[.val (.ref a1), .val (.int p2), .val (.ref b5), .val (.int (0 : Int32))] [(.ref w3), (.int (0 : Int32)), (.ref b5)])) _
    refine XS.iloadN X7.here hx rfl (hb hby d12_32) rfl ?_
    show Steps p.tables e below (T7.setTop (mkF m 33 #[.val (.ref a1), .val (.int p2), .val (.ref b5), .val (.int (0 : Int32))] [(.int (0 : Int32)), (.ref w3), (.int (0 : Int32)), (.ref b5)])) _
    refine X7.aaload hx (j := (0 : Int32)) (v := (.ref pg)) (by rw [e7]; exact Ar_w3_22.1) (State.isArrayOf_alike hZ.alike Ar_w3_22.2.1) rfl Ar_w3_22.2.2 hin33 hat33 (g := (mkF m 33 #[.val (.ref a1), .val (.int p2), .val (.ref b5), .val (.int (0 : Int32))] [(.int (0 : Int32)), (.ref w3), (.int (0 : Int32)), (.ref b5)])) rfl rfl (hb hby d12_33) _ ?_
    show Steps p.tables e below (T7.setTop (mkF m 34 #[.val (.ref a1), .val (.int p2), .val (.ref b5), .val (.int (0 : Int32))] [(.ref pg), (.int (0 : Int32)), (.ref b5)])) _
    refine X7.arraylength hx (by rw [e7]; exact (Ar_pg.ext E5).1) (State.isArrayOf_alike hZ.alike Ar_pg.2.1) (g := (mkF m 34 #[.val (.ref a1), .val (.int p2), .val (.ref b5), .val (.int (0 : Int32))] [(.ref pg), (.int (0 : Int32)), (.ref b5)])) rfl rfl (hb hby d12_34) _ ?_
    rw [len_of S_pg N_pg]
    show Steps p.tables e below (T7.setTop (mkF m 35 #[.val (.ref a1), .val (.int p2), .val (.ref b5), .val (.int (0 : Int32))] [(.int z_pg), (.int (0 : Int32)), (.ref b5)])) _
    refine XS.aloadN X7.here hx rfl (hb hby d12_35) rfl rfl ?_
    show Steps p.tables e below (T7.setTop (mkF m 36 #[.val (.ref a1), .val (.int p2), .val (.ref b5), .val (.int (0 : Int32))] [(.ref a1), (.int z_pg), (.int (0 : Int32)), (.ref b5)])) _
    refine st8 _ ?_
    show Steps p.tables e below (T8.setTop (mkF m 39 #[.val (.ref a1), .val (.int p2), .val (.ref b5), .val (.int (0 : Int32))] [(.int W), (.int z_pg), (.int (0 : Int32)), (.ref b5)])) _
    refine XS.idiv X8.here hx rfl (hb hby d12_39) rfl hnz39 ?_
    show Steps p.tables e below (T8.setTop (mkF m 40 #[.val (.ref a1), .val (.int p2), .val (.ref b5), .val (.int (0 : Int32))] [(.int (z_pg / W)), (.int (0 : Int32)), (.ref b5)])) _
    refine XS.iloadN X8.here hx rfl (hb hby d12_40) rfl ?_
    show Steps p.tables e below (T8.setTop (mkF m 41 #[.val (.ref a1), .val (.int p2), .val (.ref b5), .val (.int (0 : Int32))] [(.int p2), (.int (z_pg / W)), (.int (0 : Int32)), (.ref b5)])) _
    refine XS.imul X8.here hx rfl (hb hby d12_41) rfl ?_
    show Steps p.tables e below (T8.setTop (mkF m 42 #[.val (.ref a1), .val (.int p2), .val (.ref b5), .val (.int (0 : Int32))] [(.int ((z_pg / W) * p2)), (.int (0 : Int32)), (.ref b5)])) _
    refine st9 _ ?_
    show Steps p.tables e below (T9.setTop (mkF m 44 #[.val (.ref a1), .val (.int p2), .val (.ref b5), .val (.int (0 : Int32))] [(.ref b9), (.int (0 : Int32)), (.ref b5)])) _
    refine st10 _ ?_
    show Steps p.tables e below (T10.setTop (mkF m 45 #[.val (.ref a1), .val (.int p2), .val (.ref b5), .val (.int (0 : Int32))] [])) _
    refine XS.iinc X10.here hx rfl (hb hby d12_45) rfl (l' := #[.val (.ref a1), .val (.int p2), .val (.ref b5), .val (.int (1 : Int32))]) rfl ?_
    show Steps p.tables e below (T10.setTop (mkF m 48 #[.val (.ref a1), .val (.int p2), .val (.ref b5), .val (.int (1 : Int32))] [])) _
    refine XS.goto X10.here hx rfl (pc0 := 48) (pc' := 11) rfl (hb hby d12_48) (by decide) (by decide) ?_
    show Steps p.tables e below (T10.setTop (mkF m 11 #[.val (.ref a1), .val (.int p2), .val (.ref b5), .val (.int (1 : Int32))] [])) _
    refine XS.iloadN X10.here hx rfl (hb hby d12_11) rfl ?_
    show Steps p.tables e below (T10.setTop (mkF m 12 #[.val (.ref a1), .val (.int p2), .val (.ref b5), .val (.int (1 : Int32))] [(.int (1 : Int32))])) _
    refine XS.aloadN X10.here hx rfl (hb hby d12_12) rfl rfl ?_
    show Steps p.tables e below (T10.setTop (mkF m 13 #[.val (.ref a1), .val (.int p2), .val (.ref b5), .val (.int (1 : Int32))] [(.ref b5), (.int (1 : Int32))])) _
    refine X10.arraylength hx (by rw [e10]; exact Ar_b5_13_2.1) (State.isArrayOf_alike hZ.alike Ar_b5_13_2.2.1) (g := (mkF m 13 #[.val (.ref a1), .val (.int p2), .val (.ref b5), .val (.int (1 : Int32))] [(.ref b5), (.int (1 : Int32))])) rfl rfl (hb hby d12_13) _ ?_
    rw [len_of S_b5_13_2 N_b5_13_2]
    show Steps p.tables e below (T10.setTop (mkF m 14 #[.val (.ref a1), .val (.int p2), .val (.ref b5), .val (.int (1 : Int32))] [(.int (1 : Int32)), (.int (1 : Int32))])) _
    refine XS.icmpYes X10.here hx rfl (pc0 := 14) (pc' := 51) rfl (hb hby d12_14) rfl (flt (by decide : ¬ ((1 : Int32) < (1 : Int32)))).2.1 (by decide) (by decide) ?_
    show Steps p.tables e below (T10.setTop (mkF m 51 #[.val (.ref a1), .val (.int p2), .val (.ref b5), .val (.int (1 : Int32))] [])) _
    refine XS.iconst X10.here hx rfl (hb hby d12_51) ?_
    show Steps p.tables e below (T10.setTop (mkF m 52 #[.val (.ref a1), .val (.int p2), .val (.ref b5), .val (.int (1 : Int32))] [(.int (0 : Int32))])) _
    refine XS.istoreN X10.here hx rfl (hb hby d12_52) rfl (l' := #[.val (.ref a1), .val (.int p2), .val (.ref b5), .val (.int (0 : Int32))]) rfl ?_
    show Steps p.tables e below (T10.setTop (mkF m 53 #[.val (.ref a1), .val (.int p2), .val (.ref b5), .val (.int (0 : Int32))] [])) _
    refine XS.iloadN X10.here hx rfl (hb hby d12_53) rfl ?_
    show Steps p.tables e below (T10.setTop (mkF m 54 #[.val (.ref a1), .val (.int p2), .val (.ref b5), .val (.int (0 : Int32))] [(.int (0 : Int32))])) _
    refine XS.aloadN X10.here hx rfl (hb hby d12_54) rfl rfl ?_
    show Steps p.tables e below (T10.setTop (mkF m 55 #[.val (.ref a1), .val (.int p2), .val (.ref b5), .val (.int (0 : Int32))] [(.ref a1), (.int (0 : Int32))])) _
    refine st11 _ ?_
    show Steps p.tables e below (T11.setTop (mkF m 58 #[.val (.ref a1), .val (.int p2), .val (.ref b5), .val (.int (0 : Int32))] [(.int (2 : Int32)), (.int (0 : Int32))])) _
    refine XS.icmpNo X11.here hx rfl (hb hby d12_58) rfl (tlt (by decide : (0 : Int32) < (2 : Int32))).2.1 ?_
    show Steps p.tables e below (T11.setTop (mkF m 61 #[.val (.ref a1), .val (.int p2), .val (.ref b5), .val (.int (0 : Int32))] [])) _
    refine XS.aloadN X11.here hx rfl (hb hby d12_61) rfl rfl ?_
    show Steps p.tables e below (T11.setTop (mkF m 62 #[.val (.ref a1), .val (.int p2), .val (.ref b5), .val (.int (0 : Int32))] [(.ref b5)])) _
    refine XS.iloadN X11.here hx rfl (hb hby d12_62) rfl ?_
    show Steps p.tables e below (T11.setTop (mkF m 63 #[.val (.ref a1), .val (.int p2), .val (.ref b5), .val (.int (0 : Int32))] [(.int (0 : Int32)), (.ref b5)])) _
    refine st12 _ ?_
    show Steps p.tables e below (T12.setTop (mkF m 66 #[.val (.ref a1), .val (.int p2), .val (.ref b5), .val (.int (0 : Int32))] [(.int (16 : Int32)), (.int (0 : Int32)), (.ref b5)])) _
    refine XS.iushr X12.here hx rfl (hb hby d12_66) rfl ?_
    show Steps p.tables e below (T12.setTop (mkF m 67 #[.val (.ref a1), .val (.int p2), .val (.ref b5), .val (.int (0 : Int32))] [(.int (0 : Int32)), (.ref b5)])) _
    refine X12.aaload hx (j := (0 : Int32)) (v := (.ref b9)) (by rw [e12]; exact Ar_b5_13_2.1) (State.isArrayOf_alike hZ.alike Ar_b5_13_2.2.1) rfl Ar_b5_13_2.2.2 hin67 hat67 (g := (mkF m 67 #[.val (.ref a1), .val (.int p2), .val (.ref b5), .val (.int (0 : Int32))] [(.int (0 : Int32)), (.ref b5)])) rfl rfl (hb hby d12_67) _ ?_
    show Steps p.tables e below (T12.setTop (mkF m 68 #[.val (.ref a1), .val (.int p2), .val (.ref b5), .val (.int (0 : Int32))] [(.ref b9)])) _
    refine XS.iloadN X12.here hx rfl (hb hby d12_68) rfl ?_
    show Steps p.tables e below (T12.setTop (mkF m 69 #[.val (.ref a1), .val (.int p2), .val (.ref b5), .val (.int (0 : Int32))] [(.int (0 : Int32)), (.ref b9)])) _
    refine X12.ldcInt hx hown (mvT hZ (hw _ (List.mem_of_getElem? (i := 44) rfl))) (g := (mkF m 69 #[.val (.ref a1), .val (.int p2), .val (.ref b5), .val (.int (0 : Int32))] [(.int (0 : Int32)), (.ref b9)])) rfl (hb hby d12_69) _ ?_
    show Steps p.tables e below (T12.setTop (mkF m 71 #[.val (.ref a1), .val (.int p2), .val (.ref b5), .val (.int (0 : Int32))] [(.int (65535 : Int32)), (.int (0 : Int32)), (.ref b9)])) _
    refine XS.iand X12.here hx rfl (hb hby d12_71) rfl ?_
    show Steps p.tables e below (T12.setTop (mkF m 72 #[.val (.ref a1), .val (.int p2), .val (.ref b5), .val (.int (0 : Int32))] [(.int (0 : Int32)), (.ref b9)])) _
    refine XS.iloadN X12.here hx rfl (hb hby d12_72) rfl ?_
    show Steps p.tables e below (T12.setTop (mkF m 73 #[.val (.ref a1), .val (.int p2), .val (.ref b5), .val (.int (0 : Int32))] [(.int p2), (.int (0 : Int32)), (.ref b9)])) _
    refine XS.imul X12.here hx rfl (hb hby d12_73) rfl ?_
    show Steps p.tables e below (T12.setTop (mkF m 74 #[.val (.ref a1), .val (.int p2), .val (.ref b5), .val (.int (0 : Int32))] [(.int ((0 : Int32) * p2)), (.ref b9)])) _
    refine XS.iloadN X12.here hx rfl (hb hby d12_74) rfl ?_
    show Steps p.tables e below (T12.setTop (mkF m 75 #[.val (.ref a1), .val (.int p2), .val (.ref b5), .val (.int (0 : Int32))] [(.int p2), (.int ((0 : Int32) * p2)), (.ref b9)])) _
    refine XS.aloadN X12.here hx rfl (hb hby d12_75) rfl rfl ?_
    show Steps p.tables e below (T12.setTop (mkF m 76 #[.val (.ref a1), .val (.int p2), .val (.ref b5), .val (.int (0 : Int32))] [(.ref a1), (.int p2), (.int ((0 : Int32) * p2)), (.ref b9)])) _
    refine XS.iloadN X12.here hx rfl (hb hby d12_76) rfl ?_
    show Steps p.tables e below (T12.setTop (mkF m 77 #[.val (.ref a1), .val (.int p2), .val (.ref b5), .val (.int (0 : Int32))] [(.int (0 : Int32)), (.ref a1), (.int p2), (.int ((0 : Int32) * p2)), (.ref b9)])) _
    refine st13.trans ?_
    show Steps p.tables e below (T13.setTop (mkF m 80 #[.val (.ref a1), .val (.int p2), .val (.ref b5), .val (.int (0 : Int32))] [(.int (vals 0)), (.int p2), (.int ((0 : Int32) * p2)), (.ref b9)])) _
    refine st14 _ ?_
    show Steps p.tables e below (T14.setTop (mkF m 83 #[.val (.ref a1), .val (.int p2), .val (.ref b5), .val (.int (0 : Int32))] [])) _
    refine XS.iinc X14.here hx rfl (hb hby d12_83) rfl (l' := #[.val (.ref a1), .val (.int p2), .val (.ref b5), .val (.int (1 : Int32))]) rfl ?_
    show Steps p.tables e below (T14.setTop (mkF m 86 #[.val (.ref a1), .val (.int p2), .val (.ref b5), .val (.int (1 : Int32))] [])) _
    refine XS.goto X14.here hx rfl (pc0 := 86) (pc' := 53) rfl (hb hby d12_86) (by decide) (by decide) ?_
    show Steps p.tables e below (T14.setTop (mkF m 53 #[.val (.ref a1), .val (.int p2), .val (.ref b5), .val (.int (1 : Int32))] [])) _
    refine XS.iloadN X14.here hx rfl (hb hby d12_53) rfl ?_
    show Steps p.tables e below (T14.setTop (mkF m 54 #[.val (.ref a1), .val (.int p2), .val (.ref b5), .val (.int (1 : Int32))] [(.int (1 : Int32))])) _
    refine XS.aloadN X14.here hx rfl (hb hby d12_54) rfl rfl ?_
    show Steps p.tables e below (T14.setTop (mkF m 55 #[.val (.ref a1), .val (.int p2), .val (.ref b5), .val (.int (1 : Int32))] [(.ref a1), (.int (1 : Int32))])) _
    refine st15 _ ?_
    show Steps p.tables e below (T15.setTop (mkF m 58 #[.val (.ref a1), .val (.int p2), .val (.ref b5), .val (.int (1 : Int32))] [(.int (2 : Int32)), (.int (1 : Int32))])) _
    refine XS.icmpNo X15.here hx rfl (hb hby d12_58) rfl (tlt (by decide : (1 : Int32) < (2 : Int32))).2.1 ?_
    show Steps p.tables e below (T15.setTop (mkF m 61 #[.val (.ref a1), .val (.int p2), .val (.ref b5), .val (.int (1 : Int32))] [])) _
    refine XS.aloadN X15.here hx rfl (hb hby d12_61) rfl rfl ?_
    show Steps p.tables e below (T15.setTop (mkF m 62 #[.val (.ref a1), .val (.int p2), .val (.ref b5), .val (.int (1 : Int32))] [(.ref b5)])) _
    refine XS.iloadN X15.here hx rfl (hb hby d12_62) rfl ?_
    show Steps p.tables e below (T15.setTop (mkF m 63 #[.val (.ref a1), .val (.int p2), .val (.ref b5), .val (.int (1 : Int32))] [(.int (1 : Int32)), (.ref b5)])) _
    refine st16 _ ?_
    show Steps p.tables e below (T16.setTop (mkF m 66 #[.val (.ref a1), .val (.int p2), .val (.ref b5), .val (.int (1 : Int32))] [(.int (16 : Int32)), (.int (1 : Int32)), (.ref b5)])) _
    refine XS.iushr X16.here hx rfl (hb hby d12_66) rfl ?_
    show Steps p.tables e below (T16.setTop (mkF m 67 #[.val (.ref a1), .val (.int p2), .val (.ref b5), .val (.int (1 : Int32))] [(.int (0 : Int32)), (.ref b5)])) _
    refine X16.aaload hx (j := (0 : Int32)) (v := (.ref b9)) (by rw [e16]; exact Ar_b5_67_2.1) (State.isArrayOf_alike hZ.alike Ar_b5_67_2.2.1) rfl Ar_b5_67_2.2.2 hin67_2 hat67_2 (g := (mkF m 67 #[.val (.ref a1), .val (.int p2), .val (.ref b5), .val (.int (1 : Int32))] [(.int (0 : Int32)), (.ref b5)])) rfl rfl (hb hby d12_67) _ ?_
    show Steps p.tables e below (T16.setTop (mkF m 68 #[.val (.ref a1), .val (.int p2), .val (.ref b5), .val (.int (1 : Int32))] [(.ref b9)])) _
    refine XS.iloadN X16.here hx rfl (hb hby d12_68) rfl ?_
    show Steps p.tables e below (T16.setTop (mkF m 69 #[.val (.ref a1), .val (.int p2), .val (.ref b5), .val (.int (1 : Int32))] [(.int (1 : Int32)), (.ref b9)])) _
    refine X16.ldcInt hx hown (mvT hZ (hw _ (List.mem_of_getElem? (i := 44) rfl))) (g := (mkF m 69 #[.val (.ref a1), .val (.int p2), .val (.ref b5), .val (.int (1 : Int32))] [(.int (1 : Int32)), (.ref b9)])) rfl (hb hby d12_69) _ ?_
    show Steps p.tables e below (T16.setTop (mkF m 71 #[.val (.ref a1), .val (.int p2), .val (.ref b5), .val (.int (1 : Int32))] [(.int (65535 : Int32)), (.int (1 : Int32)), (.ref b9)])) _
    refine XS.iand X16.here hx rfl (hb hby d12_71) rfl ?_
    show Steps p.tables e below (T16.setTop (mkF m 72 #[.val (.ref a1), .val (.int p2), .val (.ref b5), .val (.int (1 : Int32))] [(.int (1 : Int32)), (.ref b9)])) _
    refine XS.iloadN X16.here hx rfl (hb hby d12_72) rfl ?_
    show Steps p.tables e below (T16.setTop (mkF m 73 #[.val (.ref a1), .val (.int p2), .val (.ref b5), .val (.int (1 : Int32))] [(.int p2), (.int (1 : Int32)), (.ref b9)])) _
    refine XS.imul X16.here hx rfl (hb hby d12_73) rfl ?_
    show Steps p.tables e below (T16.setTop (mkF m 74 #[.val (.ref a1), .val (.int p2), .val (.ref b5), .val (.int (1 : Int32))] [(.int ((1 : Int32) * p2)), (.ref b9)])) _
    refine XS.iloadN X16.here hx rfl (hb hby d12_74) rfl ?_
    show Steps p.tables e below (T16.setTop (mkF m 75 #[.val (.ref a1), .val (.int p2), .val (.ref b5), .val (.int (1 : Int32))] [(.int p2), (.int ((1 : Int32) * p2)), (.ref b9)])) _
    refine XS.aloadN X16.here hx rfl (hb hby d12_75) rfl rfl ?_
    show Steps p.tables e below (T16.setTop (mkF m 76 #[.val (.ref a1), .val (.int p2), .val (.ref b5), .val (.int (1 : Int32))] [(.ref a1), (.int p2), (.int ((1 : Int32) * p2)), (.ref b9)])) _
    refine XS.iloadN X16.here hx rfl (hb hby d12_76) rfl ?_
    show Steps p.tables e below (T16.setTop (mkF m 77 #[.val (.ref a1), .val (.int p2), .val (.ref b5), .val (.int (1 : Int32))] [(.int (1 : Int32)), (.ref a1), (.int p2), (.int ((1 : Int32) * p2)), (.ref b9)])) _
    refine st17.trans ?_
    show Steps p.tables e below (T17.setTop (mkF m 80 #[.val (.ref a1), .val (.int p2), .val (.ref b5), .val (.int (1 : Int32))] [(.int (vals 1)), (.int p2), (.int ((1 : Int32) * p2)), (.ref b9)])) _
    refine st18 _ ?_
    show Steps p.tables e below (T18.setTop (mkF m 83 #[.val (.ref a1), .val (.int p2), .val (.ref b5), .val (.int (1 : Int32))] [])) _
    refine XS.iinc X18.here hx rfl (hb hby d12_83) rfl (l' := #[.val (.ref a1), .val (.int p2), .val (.ref b5), .val (.int (2 : Int32))]) rfl ?_
    show Steps p.tables e below (T18.setTop (mkF m 86 #[.val (.ref a1), .val (.int p2), .val (.ref b5), .val (.int (2 : Int32))] [])) _
    refine XS.goto X18.here hx rfl (pc0 := 86) (pc' := 53) rfl (hb hby d12_86) (by decide) (by decide) ?_
    show Steps p.tables e below (T18.setTop (mkF m 53 #[.val (.ref a1), .val (.int p2), .val (.ref b5), .val (.int (2 : Int32))] [])) _
    refine XS.iloadN X18.here hx rfl (hb hby d12_53) rfl ?_
    show Steps p.tables e below (T18.setTop (mkF m 54 #[.val (.ref a1), .val (.int p2), .val (.ref b5), .val (.int (2 : Int32))] [(.int (2 : Int32))])) _
    refine XS.aloadN X18.here hx rfl (hb hby d12_54) rfl rfl ?_
    show Steps p.tables e below (T18.setTop (mkF m 55 #[.val (.ref a1), .val (.int p2), .val (.ref b5), .val (.int (2 : Int32))] [(.ref a1), (.int (2 : Int32))])) _
    refine st19 _ ?_
    show Steps p.tables e below (T19.setTop (mkF m 58 #[.val (.ref a1), .val (.int p2), .val (.ref b5), .val (.int (2 : Int32))] [(.int (2 : Int32)), (.int (2 : Int32))])) _
    refine XS.icmpYes X19.here hx rfl (pc0 := 58) (pc' := 89) rfl (hb hby d12_58) rfl (flt (by decide : ¬ ((2 : Int32) < (2 : Int32)))).2.1 (by decide) (by decide) ?_
    show Steps p.tables e below (T19.setTop (mkF m 89 #[.val (.ref a1), .val (.int p2), .val (.ref b5), .val (.int (2 : Int32))] [])) _
    refine XS.aloadN X19.here hx rfl (hb hby d12_89) rfl rfl ?_
    show Steps p.tables e below (T19.setTop (mkF m 90 #[.val (.ref a1), .val (.int p2), .val (.ref b5), .val (.int (2 : Int32))] [(.ref b5)])) _
    jvm_step X19.here [X19.here.top, hx, (hb hby d12_90), X19.method', Bd.returns, Value.isRef, FieldType.isReference]
    first | (intro acts; rw [hr _ acts rfl rfl rfl]) | rw [hr _ _ rfl rfl rfl]
    exact Steps.refl _
  · show Q12 Z p2 2 vals h0 n0 _ T19.heap _
    rw [e19]
    exact ⟨b5, k5, b9, _, rfl, N18, K18, ((V_b5_10.keep Kq14 nb).keep Kq18 nb), O5, d5_18, hzz ▸ P18, d9_18, sz_b5, sz_b9, En2⟩
theorem own_kw {h h' : Heap} {ws : List Addr} (K : Keep h h' []) : Keep h h' ws := ⟨K.1, fun x c q _ => K.2.1 x c q List.not_mem_nil, K.2.2⟩
theorem own_sel {a0 : Array Value} {Z : State} (hw : ∀ d ∈ tables_1, d.before a0 Z = true) : (Jvm.Cond.selects "com/example/agave_bloom/agavebloom/check/CompactInts" (⟨"com/example/agave_bloom/agavebloom/check/CompactInts", "_widened", "(I)[[B"⟩ : MethodName) (⟨"com/example/agave_bloom/agavebloom/check/CompactInts", "_widened", "(I)[[B"⟩ : MethodName)).before a0 Z = true := by
  obtain ⟨c, k, hc, hk, -, hniab, -, -⟩ := Cond.instantiable_spec (hw _ (List.mem_of_getElem? (i := 2) rfl))
  have hni : k.isInterface = false := (Bool.or_eq_false_iff.mp hniab).1
  obtain ⟨mk, methM, hnamed, hmethM, -, -⟩ := Cond.instanceMethod_spec (hw _ (List.mem_of_getElem? (i := 67) rfl))
  have hfound : Z.methodFound? "com/example/agave_bloom/agavebloom/check/CompactInts" "_widened" "(I)[[B" = some mk := State.methodFound?_of_named hnamed (by decide)
  have hcls : mk.cls = c := Option.some.inj ((findClass_of_methodNamed hnamed).symm.trans hc)
  have hsel : selectMethod {} Z.vm c mk = .method mk := selectMethod_private hmethM (Cond.privateMethod_at (hw _ (List.mem_of_getElem? (i := 68) rfl)) mk methM hnamed hmethM)
  simp only [Cond.before, Cond.holds, Cond.value, hc, hfound, hnamed, hsel, hcls, hk]
  simp; exact hni
def own_C0 (Z : State) (h : Heap) (a : Addr) (n0 : Nat) : Prop :=
  ∃ (pA : Addr) (kA : ClassId), Exa Z h a "com/example/agave_bloom/agavebloom/check/CompactInts" ∧ Fld Z h a "com/example/agave_bloom/agavebloom/check/CompactInts" "m_aPages" "[[B" (.ref pA) ∧ Fld Z h a "com/example/agave_bloom/agavebloom/check/CompactInts" "m_nWidth" "I" (.int (1 : Int32)) ∧ Fld Z h a "com/example/agave_bloom/agavebloom/check/CompactInts" "m_nWidest" "I" (.int (255 : Int32)) ∧ Fld Z h a "com/example/agave_bloom/agavebloom/check/CompactInts" "m_nSize" "I" (.int (0 : Int32)) ∧ Fld Z h a "com/example/agave_bloom/agavebloom/check/CompactInts" "m_nRoom" "I" (.int (0 : Int32)) ∧
    Arv Z h pA kA (.array .byte) (1 : Int32) [.null] .null ∧ OvrA Z kA .byte "[B" ∧ Exa Z h pA "[[B" ∧ n0 ≤ a ∧ n0 ≤ pA ∧ Sta Z h "com/example/agave_bloom/agavebloom/check/CompactInts" "PAGE_SHIFT" "I" (.int (16 : Int32))
def Q4 (Z : State) (a : Addr) (p Wo n : Int32) (N : Nat) (vals : Nat → Int32) (h0 : Heap) (n0 : Nat) (v : Option Value) (h : Heap) (L : List Loc) : Prop := ∃ W : Int32, v = none ∧ Fr n0 L ∧ h0.size ≤ h.size ∧ own_CI Z h a n0 W n N vals ∧ p.toInt ≤ (own_widest W).toInt ∧ (own_widest Wo).toInt ≤ (own_widest W).toInt
theorem own_mono (W w : Int32) (hW : own_okW W) (hw : own_okW w) (h : W < w) : (own_widest W).toInt ≤ (own_widest w).toInt := by
  rcases hW with rfl | rfl | rfl | rfl <;> rcases hw with rfl | rfl | rfl | rfl <;> first | decide | (exact absurd h (by decide))
theorem d4_0 : decode prog_4_method_4_code 0 = .ok (.iload_n 1, 1) := by decide +kernel
theorem d4_1 : decode prog_4_method_4_code 1 = .ok (.ifCond .lt 23, 3) := by decide +kernel
theorem d4_4 : decode prog_4_method_4_code 4 = .ok (.iload_n 1, 1) := by decide +kernel
theorem d4_5 : decode prog_4_method_4_code 5 = .ok (.aload_n 0, 1) := by decide +kernel
theorem d4_6 : decode prog_4_method_4_code 6 = .ok (.getfield 25, 3) := by decide +kernel
theorem d4_9 : decode prog_4_method_4_code 9 = .ok (.if_icmp .gt 15, 3) := by decide +kernel
theorem d4_12 : decode prog_4_method_4_code 12 = .ok (.aload_n 0, 1) := by decide +kernel
theorem d4_13 : decode prog_4_method_4_code 13 = .ok (.getfield 28, 3) := by decide +kernel
theorem d4_16 : decode prog_4_method_4_code 16 = .ok (.aload_n 0, 1) := by decide +kernel
theorem d4_17 : decode prog_4_method_4_code 17 = .ok (.getfield 35, 3) := by decide +kernel
theorem d4_20 : decode prog_4_method_4_code 20 = .ok (.if_icmp .ge 4, 3) := by decide +kernel
theorem d4_24 : decode prog_4_method_4_code 24 = .ok (.iload_n 1, 1) := by decide +kernel
theorem d4_25 : decode prog_4_method_4_code 25 = .ok (.ifCond .ge 17, 3) := by decide +kernel
theorem d4_42 : decode prog_4_method_4_code 42 = .ok (.aload_n 0, 1) := by decide +kernel
theorem d4_43 : decode prog_4_method_4_code 43 = .ok (.getfield 28, 3) := by decide +kernel
theorem d4_46 : decode prog_4_method_4_code 46 = .ok (.ldc 47, 2) := by decide +kernel
theorem d4_48 : decode prog_4_method_4_code 48 = .ok (.if_icmp .ne 13, 3) := by decide +kernel
theorem d4_61 : decode prog_4_method_4_code 61 = .ok (.iload_n 1, 1) := by decide +kernel
theorem d4_62 : decode prog_4_method_4_code 62 = .ok (.invokestatic 53, 3) := by decide +kernel
theorem d4_65 : decode prog_4_method_4_code 65 = .ok (.istore_n 2, 1) := by decide +kernel
theorem d4_66 : decode prog_4_method_4_code 66 = .ok (.iload_n 2, 1) := by decide +kernel
theorem d4_67 : decode prog_4_method_4_code 67 = .ok (.aload_n 0, 1) := by decide +kernel
theorem d4_68 : decode prog_4_method_4_code 68 = .ok (.getfield 17, 3) := by decide +kernel
theorem d4_71 : decode prog_4_method_4_code 71 = .ok (.if_icmp .le 25, 3) := by decide +kernel
theorem d4_96 : decode prog_4_method_4_code 96 = .ok (.aload_n 0, 1) := by decide +kernel
theorem d4_97 : decode prog_4_method_4_code 97 = .ok (.getfield 28, 3) := by decide +kernel
theorem d4_100 : decode prog_4_method_4_code 100 = .ok (.getstatic 31, 3) := by decide +kernel
theorem d4_103 : decode prog_4_method_4_code 103 = .ok (.iushr, 1) := by decide +kernel
theorem d4_104 : decode prog_4_method_4_code 104 = .ok (.istore_n 3, 1) := by decide +kernel
theorem d4_105 : decode prog_4_method_4_code 105 = .ok (.iload_n 3, 1) := by decide +kernel
theorem d4_106 : decode prog_4_method_4_code 106 = .ok (.aload_n 0, 1) := by decide +kernel
theorem d4_107 : decode prog_4_method_4_code 107 = .ok (.getfield 11, 3) := by decide +kernel
theorem d4_110 : decode prog_4_method_4_code 110 = .ok (.arraylength, 1) := by decide +kernel
theorem d4_111 : decode prog_4_method_4_code 111 = .ok (.if_icmp .ne 24, 3) := by decide +kernel
theorem d4_135 : decode prog_4_method_4_code 135 = .ok (.aload_n 0, 1) := by decide +kernel
theorem d4_136 : decode prog_4_method_4_code 136 = .ok (.getfield 28, 3) := by decide +kernel
theorem d4_139 : decode prog_4_method_4_code 139 = .ok (.ldc 34, 2) := by decide +kernel
theorem d4_141 : decode prog_4_method_4_code 141 = .ok (.iand, 1) := by decide +kernel
theorem d4_142 : decode prog_4_method_4_code 142 = .ok (.aload_n 0, 1) := by decide +kernel
theorem d4_143 : decode prog_4_method_4_code 143 = .ok (.getfield 17, 3) := by decide +kernel
theorem d4_146 : decode prog_4_method_4_code 146 = .ok (.imul, 1) := by decide +kernel
theorem d4_147 : decode prog_4_method_4_code 147 = .ok (.istore 4, 2) := by decide +kernel
theorem d4_149 : decode prog_4_method_4_code 149 = .ok (.aload_n 0, 1) := by decide +kernel
theorem d4_150 : decode prog_4_method_4_code 150 = .ok (.getfield 11, 3) := by decide +kernel
theorem d4_153 : decode prog_4_method_4_code 153 = .ok (.iload_n 3, 1) := by decide +kernel
theorem d4_154 : decode prog_4_method_4_code 154 = .ok (.aaload, 1) := by decide +kernel
theorem d4_155 : decode prog_4_method_4_code 155 = .ok (.ifnonnull 30, 3) := by decide +kernel
theorem d4_158 : decode prog_4_method_4_code 158 = .ok (.aload_n 0, 1) := by decide +kernel
theorem d4_159 : decode prog_4_method_4_code 159 = .ok (.getfield 11, 3) := by decide +kernel
theorem d4_162 : decode prog_4_method_4_code 162 = .ok (.iload_n 3, 1) := by decide +kernel
theorem d4_163 : decode prog_4_method_4_code 163 = .ok (.iload_n 3, 1) := by decide +kernel
theorem d4_164 : decode prog_4_method_4_code 164 = .ok (.ifCond .ne 8, 3) := by decide +kernel
theorem d4_167 : decode prog_4_method_4_code 167 = .ok (.bipush 64, 2) := by decide +kernel
theorem d4_169 : decode prog_4_method_4_code 169 = .ok (.goto 5, 3) := by decide +kernel
theorem d4_174 : decode prog_4_method_4_code 174 = .ok (.aload_n 0, 1) := by decide +kernel
theorem d4_175 : decode prog_4_method_4_code 175 = .ok (.getfield 17, 3) := by decide +kernel
theorem d4_178 : decode prog_4_method_4_code 178 = .ok (.imul, 1) := by decide +kernel
theorem d4_179 : decode prog_4_method_4_code 179 = .ok (.newarray .byte, 2) := by decide +kernel
theorem d4_181 : decode prog_4_method_4_code 181 = .ok (.aastore, 1) := by decide +kernel
theorem d4_182 : decode prog_4_method_4_code 182 = .ok (.goto 39, 3) := by decide +kernel
theorem d4_221 : decode prog_4_method_4_code 221 = .ok (.aload_n 0, 1) := by decide +kernel
theorem d4_222 : decode prog_4_method_4_code 222 = .ok (.ldc2_w 71, 3) := by decide +kernel
theorem d4_225 : decode prog_4_method_4_code 225 = .ok (.iload_n 3, 1) := by decide +kernel
theorem d4_226 : decode prog_4_method_4_code 226 = .ok (.i2l, 1) := by decide +kernel
theorem d4_227 : decode prog_4_method_4_code 227 = .ok (.ldc2_w 73, 3) := by decide +kernel
theorem d4_230 : decode prog_4_method_4_code 230 = .ok (.lmul, 1) := by decide +kernel
theorem d4_231 : decode prog_4_method_4_code 231 = .ok (.aload_n 0, 1) := by decide +kernel
theorem d4_232 : decode prog_4_method_4_code 232 = .ok (.getfield 11, 3) := by decide +kernel
theorem d4_235 : decode prog_4_method_4_code 235 = .ok (.iload_n 3, 1) := by decide +kernel
theorem d4_236 : decode prog_4_method_4_code 236 = .ok (.aaload, 1) := by decide +kernel
theorem d4_237 : decode prog_4_method_4_code 237 = .ok (.arraylength, 1) := by decide +kernel
theorem d4_238 : decode prog_4_method_4_code 238 = .ok (.aload_n 0, 1) := by decide +kernel
theorem d4_239 : decode prog_4_method_4_code 239 = .ok (.getfield 17, 3) := by decide +kernel
theorem d4_242 : decode prog_4_method_4_code 242 = .ok (.idiv, 1) := by decide +kernel
theorem d4_243 : decode prog_4_method_4_code 243 = .ok (.i2l, 1) := by decide +kernel
theorem d4_244 : decode prog_4_method_4_code 244 = .ok (.ladd, 1) := by decide +kernel
theorem d4_245 : decode prog_4_method_4_code 245 = .ok (.invokestatic 75, 3) := by decide +kernel
theorem d4_248 : decode prog_4_method_4_code 248 = .ok (.l2i, 1) := by decide +kernel
theorem d4_249 : decode prog_4_method_4_code 249 = .ok (.putfield 35, 3) := by decide +kernel
theorem d4_252 : decode prog_4_method_4_code 252 = .ok (.return_, 1) := by decide +kernel
theorem pn_4 : plainName "com/example/agave_bloom/agavebloom/check/CompactInts" = true := by first | (simp [plainName, overriddenIn]; done) | decide +kernel
theorem pd_4_1 : parseMethodDescriptor "(I)I" = some ⟨[.int], some .int⟩ := by decide +kernel
theorem pd_4_4 : parseMethodDescriptor "(JJ)J" = some ⟨[.long, .long], some .long⟩ := by decide +kernel
theorem ef_4 (m : MethodId) (x0 : Addr) (x1 : Int32) : entryFrame m #[(.ref x0), (.int x1)] 5 = mkF m 0 #[.val (.ref x0), .val (.int x1), .unset, .unset, .unset] [] := by first | (simp [entryFrame, mkF, argsToLocals, Value.category]; done) | rfl
set_option maxRecDepth 65536 in
set_option maxHeartbeats 40000000 in
theorem rm4_A1 (l : Launch) (Z : State) (a0 : Array Value) (hw : ∀ d ∈ tables_1, d.before a0 Z = true) (ws : List Jvm.Cond) (a1 : Addr) (p2 : Int32) (pA : Addr) (k_pA : ClassId) (vals : Nat → Int32) (h0 : Heap) (n0 : Nat) (Z0 : n0 ≤ h0.size) (E_a1 : Exa Z h0 a1 "com/example/agave_bloom/agavebloom/check/CompactInts") (F_m_aPages_a1 : Fld Z h0 a1 "com/example/agave_bloom/agavebloom/check/CompactInts" "m_aPages" "[[B" (.ref pA)) (F_m_nWidth_a1 : Fld Z h0 a1 "com/example/agave_bloom/agavebloom/check/CompactInts" "m_nWidth" "I" (.int (1 : Int32))) (F_m_nWidest_a1 : Fld Z h0 a1 "com/example/agave_bloom/agavebloom/check/CompactInts" "m_nWidest" "I" (.int (255 : Int32))) (F_m_nSize_a1 : Fld Z h0 a1 "com/example/agave_bloom/agavebloom/check/CompactInts" "m_nSize" "I" (.int (0 : Int32))) (F_m_nRoom_a1 : Fld Z h0 a1 "com/example/agave_bloom/agavebloom/check/CompactInts" "m_nRoom" "I" (.int (0 : Int32))) (V_pA : Arv Z h0 pA k_pA (.array .byte) (1 : Int32) [.null] .null) (O_pA : OvrA Z k_pA .byte "[B") (EA : Exa Z h0 pA "[[B") (g_a1 : n0 ≤ a1) (g_pA : n0 ≤ pA) (S_PAGE_SHIFT : Sta Z h0 "com/example/agave_bloom/agavebloom/check/CompactInts" "PAGE_SHIFT" "I" (.int (16 : Int32))) (hc1 : ¬ (p2 < (0 : Int32))) (hc9 : ¬ ((255 : Int32) < p2)) :
    MetFree l (⟨"com/example/agave_bloom/agavebloom/check/CompactInts", "makeRoom", "(I)V"⟩ : MethodName) (head1 (Jvm.Cond.code (⟨"com/example/agave_bloom/agavebloom/check/CompactInts", "makeRoom", "(I)V"⟩ : MethodName) prog_4_method_4_code 5 none :: ws) ({ frames := 2, cells := 2, slots := 257, locals := 34 } : Room)) (fun a U => a = #[(.ref a1), (.int p2)] ∧ Z.Warmed39 U.vm ∧ U.heap = h0) (fun _ _ _ _ _ => True) (fun _ U o U' => ∃ v L, o = .returned v ∧ Q4 Z a1 p2 (1 : Int32) (0 : Int32) 0 vals h0 n0 v U'.heap L ∧ FrameEnd U o U' L ({ frames := 2, cells := 2, slots := 257, locals := 34 } : Room).cells ({ frames := 2, cells := 2, slots := 257, locals := 34 } : Room).slots) := by
  refine MetFree.of_bodySF (plainFor_of_name pn_4) hisR ?_
  intro p e s m args below meth c s₁ Bd hml0 hP hK
  obtain ⟨rfl, hZ, hh⟩ := hP
  have hx := Bd.exec
  have hby := Bd.bytes
  have hml : c.maxLocals = 5 := hml0
  have hown : s.vm.findClass "com/example/agave_bloom/agavebloom/check/CompactInts" = some m.cls := findClass_of_methodNamed Bd.named
  have hnm := (name_of_methodNamed Bd.named Bd.method).1
  have X0 : Stand p l e ({ frames := 2, cells := 2, slots := 257, locals := 34 } : Room) s m #[(.ref a1), (.int p2)] below meth c s₁ [] 0 0 := Stand.of_body Bd
  have e0 : s₁.heap = h0 := by rw [← hh, Bd.state]; rfl
  have N0 := Fr.nil n0
  have hc25 := hc1
  have z0 : (0 : Int32).toInt = 0 := rfl
  have hv : 0 ≤ p2.toInt := by rw [Int32.lt_iff_toInt_lt] at hc1; omega
  have naA : a1 ≠ pA := Exa.neArv E_a1 V_pA (hw _ (List.mem_of_getElem? (i := 2) rfl))
  have pre0 : ∀ t, Steps p.tables e below (s₁.setTop (mkF m 0 #[.val (.ref a1), .val (.int p2), .unset, .unset, .unset] [])) t → Steps p.tables e below (s₁.setTop (entryFrame m #[(.ref a1), (.int p2)] 5)) t := fun t k => castTop (ef_4 m a1 p2) k
  obtain ⟨T3, X3, e3, st3⟩ := getF X0 hx hZ hown (host := "") (Or.inl (hw _ (List.mem_of_getElem? (i := 19) rfl))) Via.refl e0 F_m_nWidest_a1 (g := (mkF m 6 #[.val (.ref a1), .val (.int p2), .unset, .unset, .unset] [(.ref a1), (.int p2)])) rfl rfl (hb hby d4_6)
  obtain ⟨T4, X4, e4, st4⟩ := getF X3 hx hZ hown (host := "") (Or.inl (hw _ (List.mem_of_getElem? (i := 26) rfl))) Via.refl e3 F_m_nSize_a1 (g := (mkF m 13 #[.val (.ref a1), .val (.int p2), .unset, .unset, .unset] [(.ref a1)])) rfl rfl (hb hby d4_13)
  obtain ⟨T5, X5, e5, st5⟩ := getF X4 hx hZ hown (host := "") (Or.inl (hw _ (List.mem_of_getElem? (i := 28) rfl))) Via.refl e4 F_m_nRoom_a1 (g := (mkF m 17 #[.val (.ref a1), .val (.int p2), .unset, .unset, .unset] [(.ref a1), (.int (0 : Int32))])) rfl rfl (hb hby d4_17)
  obtain ⟨T6, X6, e6, st6⟩ := getF X5 hx hZ hown (host := "") (Or.inl (hw _ (List.mem_of_getElem? (i := 26) rfl))) Via.refl e5 F_m_nSize_a1 (g := (mkF m 43 #[.val (.ref a1), .val (.int p2), .unset, .unset, .unset] [(.ref a1)])) rfl rfl (hb hby d4_43)
  obtain ⟨_, _, ⟨T7, L7, k7, n7⟩, -, X7, ⟨Lc7, hQ7, l7, y7, z7⟩, st7⟩ := Jvm.LawKit.callS X6 hx (y := (⟨"com/example/agave_bloom/agavebloom/check/CompactInts", "_width", "(I)I"⟩ : MethodName)) hown (mvT hZ (hw _ (List.mem_of_getElem? (i := 31) rfl))) (mvT hZ (hw _ (List.mem_of_getElem? (i := 32) rfl))) (mvT hZ (hw _ (List.mem_of_getElem? (i := 3) rfl))) (mvT hZ (hw _ (List.mem_of_getElem? (i := 33) rfl))) (by decide) (backOf (W := 0) (rm5 l Z a0 hw [] p2 h0 n0 Z0 hv) hZ (hw _ (List.mem_of_getElem? (i := 33) rfl)) (hw _ (List.mem_of_getElem? (i := 3) rfl)) (by decide) (by decide)) (g := (mkF m 62 #[.val (.ref a1), .val (.int p2), .unset, .unset, .unset] [(.int p2)])) rfl (by rw [hml]; rfl) (argsL := [(.int p2)]) (rest := []) (lenOf pd_4_1 rfl) rfl (by show 2 * 0 + _ ≤ _; exact Nat.le_of_eq rfl) (hb hby d4_62) (fun _ _ => ⟨rfl, e6, (by decide : 0 + 0 ≤ _), (by decide : 0 + 0 ≤ _)⟩)
  dsimp only [Pt.U, Pt.locs, Pt.cells, Pt.slots] at X7 l7 y7 z7 st7 hQ7
  subst l7 y7 z7
  obtain ⟨w0, rfl, N7q, eq7, hw0⟩ := hQ7
  have hok := own_isW_ok hw0
  have hle := own_isW_le hw0
  have o6 := own_64 w0 hok
  have hnz242 := o6.2.2.2.2
  have hc9' := hc9
  rw [Int32.lt_iff_toInt_lt] at hc9'
  have e255 : (255 : Int32).toInt = 255 := rfl
  have w1 : w0 = 1 := by
    rcases hw0 with ⟨_, h⟩ | ⟨h, _⟩ | ⟨h, _⟩ | ⟨h, _⟩
    · exact h
    · exfalso; omega
    · exfalso; omega
    · exfalso; omega
  have hc71 : ¬ ((1 : Int32) < w0) := by rw [w1]; decide
  have N7 := Fr.app N0 N7q
  obtain ⟨T8, X8, e8, st8⟩ := getF X7 hx hZ hown (host := "") (Or.inl (hw _ (List.mem_of_getElem? (i := 14) rfl))) Via.refl eq7 F_m_nWidth_a1 (g := (mkF m 68 #[.val (.ref a1), .val (.int p2), .val (.int w0), .unset, .unset] [(.ref a1), (.int w0)])) rfl rfl (hb hby d4_68)
  obtain ⟨T9, X9, e9, st9⟩ := getF X8 hx hZ hown (host := "") (Or.inl (hw _ (List.mem_of_getElem? (i := 26) rfl))) Via.refl e8 F_m_nSize_a1 (g := (mkF m 97 #[.val (.ref a1), .val (.int p2), .val (.int w0), .unset, .unset] [(.ref a1)])) rfl rfl (hb hby d4_97)
  obtain ⟨T10, X10, e10, st10⟩ := getS2 X9 hx hZ hown (host := "") (Or.inl (hw _ (List.mem_of_getElem? (i := 42) rfl))) Via.refl e9 S_PAGE_SHIFT (g := (mkF m 100 #[.val (.ref a1), .val (.int p2), .val (.int w0), .unset, .unset] [(.int (0 : Int32))])) rfl (hb hby d4_100)
  obtain ⟨T12, X12, e12, st12⟩ := getF X10 hx hZ hown (host := "") (Or.inl (hw _ (List.mem_of_getElem? (i := 12) rfl))) Via.refl e10 F_m_aPages_a1 (g := (mkF m 107 #[.val (.ref a1), .val (.int p2), .val (.int w0), .val (.int (0 : Int32)), .unset] [(.ref a1), (.int (0 : Int32))])) rfl rfl (hb hby d4_107)
  obtain ⟨cl_pA_110, Ar_pA_110, q_pA_110, S_pA_110, N_pA_110, H_pA_110, G_pA_110⟩ := (id V_pA)
  obtain ⟨T13, X13, e13, st13⟩ := getF X12 hx hZ hown (host := "") (Or.inl (hw _ (List.mem_of_getElem? (i := 26) rfl))) Via.refl e12 F_m_nSize_a1 (g := (mkF m 136 #[.val (.ref a1), .val (.int p2), .val (.int w0), .val (.int (0 : Int32)), .unset] [(.ref a1)])) rfl rfl (hb hby d4_136)
  obtain ⟨T14, X14, e14, st14⟩ := getF X13 hx hZ hown (host := "") (Or.inl (hw _ (List.mem_of_getElem? (i := 14) rfl))) Via.refl e13 F_m_nWidth_a1 (g := (mkF m 143 #[.val (.ref a1), .val (.int p2), .val (.int w0), .val (.int (0 : Int32)), .unset] [(.ref a1), (.int (0 : Int32))])) rfl rfl (hb hby d4_143)
  obtain ⟨T15, X15, e15, st15⟩ := getF X14 hx hZ hown (host := "") (Or.inl (hw _ (List.mem_of_getElem? (i := 12) rfl))) Via.refl e14 F_m_aPages_a1 (g := (mkF m 150 #[.val (.ref a1), .val (.int p2), .val (.int w0), .val (.int (0 : Int32)), .val (.int (0 : Int32))] [(.ref a1)])) rfl rfl (hb hby d4_150)
  have hin154 : ¬ ((0 : Int32) < 0 ∨ cl_pA_110.slots.size ≤ ((0 : Int32)).toNatClampNeg) := inb_of S_pA_110 ⟨by decide, by decide⟩
  have hat154 : cl_pA_110.slots[((0 : Int32)).toNatClampNeg]? = some .null := H_pA_110.at hin154 rfl
  obtain ⟨T16, X16, e16, st16⟩ := getF X15 hx hZ hown (host := "") (Or.inl (hw _ (List.mem_of_getElem? (i := 12) rfl))) Via.refl e15 F_m_aPages_a1 (g := (mkF m 159 #[.val (.ref a1), .val (.int p2), .val (.int w0), .val (.int (0 : Int32)), .val (.int (0 : Int32))] [(.ref a1)])) rfl rfl (hb hby d4_159)
  obtain ⟨T17, X17, e17, st17⟩ := getF X16 hx hZ hown (host := "") (Or.inl (hw _ (List.mem_of_getElem? (i := 14) rfl))) Via.refl e16 F_m_nWidth_a1 (g := (mkF m 175 #[.val (.ref a1), .val (.int p2), .val (.int w0), .val (.int (0 : Int32)), .val (.int (0 : Int32))] [(.ref a1), (.int (64 : Int32)), (.int (0 : Int32)), (.ref pA)])) rfl rfl (hb hby d4_175)
  obtain ⟨T18, h18, k18, X18, e18, E18, A18, C18, st18⟩ := newPE X17 hx hZ (hw _ (List.mem_of_getElem? (i := 45) rfl)) e17 (g := (mkF m 179 #[.val (.ref a1), .val (.int p2), .val (.int w0), .val (.int (0 : Int32)), .val (.int (0 : Int32))] [(.int (64 : Int32)), (.int (0 : Int32)), (.ref pA)])) rfl (hb hby d4_179) rfl (by decide) (cap := 64) (by decide) (by decide) (by decide) (by decide) (ad := "[B") (by decide)
  obtain ⟨b18, g18⟩ : ∃ z, z = h0.size := ⟨_, rfl⟩
  rw [← g18] at A18 C18 st18
  have PGn : Pg Z h18 b18 (64 : Int32) (fun _ => 0) := Pg.new A18 (by decide) (by decide)
  have V_b18 := Arv.new A18 (by decide)
  have nPb : pA ≠ b18 := ne_exa (EA.ext E18) C18 (by decide)
  have nab : a1 ≠ b18 := ne_exa (E_a1.ext E18) C18 (by decide)
  have g_b18 : n0 ≤ b18 := Nat.le_trans Z0 (Nat.le_of_eq g18.symm)
  have sz_b18 : h0.size ≤ b18 := (Nat.le_trans (Keep.refl h0 [pA, a1]).1 (Nat.le_of_eq g18.symm))
  have K18 : Keep h0 h18 [pA, a1] := (Keep.refl h0 [pA, a1]).ext E18
  obtain ⟨cl_pA_181, Ar_pA_181, q_pA_181, S_pA_181, N_pA_181, H_pA_181, G_pA_181⟩ := (V_pA.ext E18)
  have hin181 : ¬ ((0 : Int32) < 0 ∨ cl_pA_181.slots.size ≤ ((0 : Int32)).toNatClampNeg) := inb_of S_pA_181 ⟨by decide, by decide⟩
  obtain ⟨T19, h19, X19, e19, W19, st19⟩ := stR X18 hx hZ e18 Ar_pA_181 (j := (0 : Int32)) hin181 rfl (Sto.ofVA Ar_pA_181 q_pA_181 O_pA (Ins.self C18)) (g := (mkF m 181 #[.val (.ref a1), .val (.int p2), .val (.int w0), .val (.int (0 : Int32)), .val (.int (0 : Int32))] [(.ref b18), (.int (0 : Int32)), (.ref pA)])) rfl rfl (hb hby d4_181)
  have V_pA_19 : Arv Z h19 pA k_pA (.array .byte) (1 : Int32) [(.ref b18)] .null := Arv.set Ar_pA_181 q_pA_181 S_pA_181 N_pA_181 H_pA_181 G_pA_181 rfl W19 0 rfl (Nat.le_of_ble_eq_true rfl)
  have N19 := Fr.snoc X19 N7 g_pA
  have K19 : Keep h0 h19 [pA, a1] := K18.wr W19 (Or.inl (List.mem_of_getElem? (i := 0) rfl))
  obtain ⟨T20, X20, e20, st20⟩ := getF X19 hx hZ hown (host := "") (Or.inl (hw _ (List.mem_of_getElem? (i := 12) rfl))) Via.refl e19 ((F_m_aPages_a1.ext E18).other W19 (Or.inl naA)) (g := (mkF m 232 #[.val (.ref a1), .val (.int p2), .val (.int w0), .val (.int (0 : Int32)), .val (.int (0 : Int32))] [(.ref a1), (.long (((0 : Int32).toInt64) * (65536 : Int64))), (.long (2147483647 : Int64)), (.ref a1)])) rfl rfl (hb hby d4_232)
  obtain ⟨cl_pA_236, Ar_pA_236, q_pA_236, S_pA_236, N_pA_236, H_pA_236, G_pA_236⟩ := (id V_pA_19)
  have hin236 : ¬ ((0 : Int32) < 0 ∨ cl_pA_236.slots.size ≤ ((0 : Int32)).toNatClampNeg) := inb_of S_pA_236 ⟨by decide, by decide⟩
  have hat236 : cl_pA_236.slots[((0 : Int32)).toNatClampNeg]? = some (.ref b18) := H_pA_236.at hin236 rfl
  obtain ⟨cl_b18_237, Ar_b18_237, q_b18_237, S_b18_237, N_b18_237, H_b18_237, G_b18_237⟩ := (V_b18.other W19 (Ne.symm nPb))
  obtain ⟨T21, X21, e21, st21⟩ := getF X20 hx hZ hown (host := "") (Or.inl (hw _ (List.mem_of_getElem? (i := 14) rfl))) Via.refl e20 ((F_m_nWidth_a1.ext E18).other W19 (Or.inl naA)) (g := (mkF m 239 #[.val (.ref a1), .val (.int p2), .val (.int w0), .val (.int (0 : Int32)), .val (.int (0 : Int32))] [(.ref a1), (.int (64 : Int32)), (.long (((0 : Int32).toInt64) * (65536 : Int64))), (.long (2147483647 : Int64)), (.ref a1)])) rfl rfl (hb hby d4_239)
  obtain ⟨_, _, ⟨T22, L22, k22, n22⟩, -, X22, ⟨Lc22, hQ22, l22, y22, z22⟩, st22⟩ := Jvm.LawKit.callS X21 hx (y := (⟨"java/lang/Math", "min", "(JJ)J"⟩ : MethodName)) hown (mvT hZ (hw _ (List.mem_of_getElem? (i := 49) rfl))) (mvT hZ (hw _ (List.mem_of_getElem? (i := 50) rfl))) (mvT hZ (hw _ (List.mem_of_getElem? (i := 40) rfl))) (mvT hZ (hw _ (List.mem_of_getElem? (i := 51) rfl))) (by decide) (backOf (W := 1) (rm8_t l Z a0 hw [] (2147483647 : Int64) ((((0 : Int32).toInt64) * (65536 : Int64)) + (((64 : Int32) / (1 : Int32)).toInt64)) h19 n0 (Nat.le_trans Z0 K19.1) (by decide)) hZ (hw _ (List.mem_of_getElem? (i := 51) rfl)) (hw _ (List.mem_of_getElem? (i := 40) rfl)) (by decide) (by decide)) (g := (mkF m 245 #[.val (.ref a1), .val (.int p2), .val (.int w0), .val (.int (0 : Int32)), .val (.int (0 : Int32))] [(.long ((((0 : Int32).toInt64) * (65536 : Int64)) + (((64 : Int32) / (1 : Int32)).toInt64))), (.long (2147483647 : Int64)), (.ref a1)])) rfl (by rw [hml]; rfl) (argsL := [(.long (2147483647 : Int64)), (.long ((((0 : Int32).toInt64) * (65536 : Int64)) + (((64 : Int32) / (1 : Int32)).toInt64)))]) (rest := [(.ref a1)]) (lenOf pd_4_4 rfl) rfl (by show 2 * 0 + _ ≤ _; exact Nat.le_of_eq rfl) (hb hby d4_245) (fun _ _ => ⟨rfl, e21, (by decide : 1 + 0 ≤ _), (by decide : 64 + 0 ≤ _)⟩)
  dsimp only [Pt.U, Pt.locs, Pt.cells, Pt.slots] at X22 l22 y22 z22 st22 hQ22
  subst l22 y22 z22
  obtain ⟨rfl, N22q, eq22⟩ := hQ22
  have N22 := Fr.app N19 N22q
  obtain ⟨T23, h23, X23, e23, W23, st23⟩ := putF X22 hx hZ hown (host := "") (Or.inl (hw _ (List.mem_of_getElem? (i := 28) rfl))) Via.refl eq22 ((F_m_nRoom_a1.ext E18).other W19 (Or.inl (Exa.neArv E_a1 V_pA (hw _ (List.mem_of_getElem? (i := 2) rfl))))) ((E_a1.ext E18).wr W19) (Or.inl (hw _ (List.mem_of_getElem? (i := 29) rfl))) (hw _ (List.mem_of_getElem? (i := 2) rfl)) (ty := .int) (by decide) rfl rfl (g := (mkF m 249 #[.val (.ref a1), .val (.int p2), .val (.int w0), .val (.int (0 : Int32)), .val (.int (0 : Int32))] [(.int (((((0 : Int32).toInt64) * (65536 : Int64)) + (((64 : Int32) / (1 : Int32)).toInt64)).toInt32)), (.ref a1)])) rfl rfl (hb hby d4_249)
  have Fw23 := ((F_m_nRoom_a1.ext E18).other W19 (Or.inl (Exa.neArv E_a1 V_pA (hw _ (List.mem_of_getElem? (i := 2) rfl))))).same W23
  have K23 : Keep h0 h23 [pA, a1] := K19.wr W23 (Or.inl (List.mem_of_getElem? (i := 1) rfl))
  have hroom : ((((0 : Int32).toInt64) * (65536 : Int64)) + (((64 : Int32) / (1 : Int32)).toInt64)).toInt32 = (64 : Int32) := (by decide)
  rw [hroom] at Fw23
  have N23 := Fr.snoc X23 N22 g_a1
  obtain ⟨fs, hr, hrun, hended, hW, hsame⟩ := X23.leave (v := none) (fun _ => rfl)
  refine ⟨_, _, pre0 _ ?_, hrun, hended, _, _, rfl, ?_, ⟨_, rfl⟩, hW, hsame.mono (by decide) (by decide)⟩
  · show Steps p.tables e below (s₁.setTop (mkF m 0 #[.val (.ref a1), .val (.int p2), .unset, .unset, .unset] [])) _
    refine XS.iloadN X0.here hx rfl (hb hby d4_0) rfl ?_
    show Steps p.tables e below (s₁.setTop (mkF m 1 #[.val (.ref a1), .val (.int p2), .unset, .unset, .unset] [(.int p2)])) _
    refine XS.ifNo X0.here hx rfl (hb hby d4_1) rfl ((if0 _ _).trans (flt hc1).1) ?_
    show Steps p.tables e below (s₁.setTop (mkF m 4 #[.val (.ref a1), .val (.int p2), .unset, .unset, .unset] [])) _
    refine XS.iloadN X0.here hx rfl (hb hby d4_4) rfl ?_
    show Steps p.tables e below (s₁.setTop (mkF m 5 #[.val (.ref a1), .val (.int p2), .unset, .unset, .unset] [(.int p2)])) _
    refine XS.aloadN X0.here hx rfl (hb hby d4_5) rfl rfl ?_
    show Steps p.tables e below (s₁.setTop (mkF m 6 #[.val (.ref a1), .val (.int p2), .unset, .unset, .unset] [(.ref a1), (.int p2)])) _
    refine st3 _ ?_
    show Steps p.tables e below (T3.setTop (mkF m 9 #[.val (.ref a1), .val (.int p2), .unset, .unset, .unset] [(.int (255 : Int32)), (.int p2)])) _
    refine XS.icmpNo X3.here hx rfl (hb hby d4_9) rfl (flt hc9).2.2.1 ?_
    show Steps p.tables e below (T3.setTop (mkF m 12 #[.val (.ref a1), .val (.int p2), .unset, .unset, .unset] [])) _
    refine XS.aloadN X3.here hx rfl (hb hby d4_12) rfl rfl ?_
    show Steps p.tables e below (T3.setTop (mkF m 13 #[.val (.ref a1), .val (.int p2), .unset, .unset, .unset] [(.ref a1)])) _
    refine st4 _ ?_
    show Steps p.tables e below (T4.setTop (mkF m 16 #[.val (.ref a1), .val (.int p2), .unset, .unset, .unset] [(.int (0 : Int32))])) _
    refine XS.aloadN X4.here hx rfl (hb hby d4_16) rfl rfl ?_
    show Steps p.tables e below (T4.setTop (mkF m 17 #[.val (.ref a1), .val (.int p2), .unset, .unset, .unset] [(.ref a1), (.int (0 : Int32))])) _
    refine st5 _ ?_
    show Steps p.tables e below (T5.setTop (mkF m 20 #[.val (.ref a1), .val (.int p2), .unset, .unset, .unset] [(.int (0 : Int32)), (.int (0 : Int32))])) _
    refine XS.icmpYes X5.here hx rfl (pc0 := 20) (pc' := 24) rfl (hb hby d4_20) rfl (flt (by decide : ¬ ((0 : Int32) < (0 : Int32)))).2.1 (by decide) (by decide) ?_
    show Steps p.tables e below (T5.setTop (mkF m 24 #[.val (.ref a1), .val (.int p2), .unset, .unset, .unset] [])) _
    refine XS.iloadN X5.here hx rfl (hb hby d4_24) rfl ?_
    show Steps p.tables e below (T5.setTop (mkF m 25 #[.val (.ref a1), .val (.int p2), .unset, .unset, .unset] [(.int p2)])) _
    refine XS.ifYes X5.here hx rfl (pc0 := 25) (pc' := 42) rfl (hb hby d4_25) rfl ((if0 _ _).trans (flt hc25).2.1) (by decide) (by decide) ?_
    show Steps p.tables e below (T5.setTop (mkF m 42 #[.val (.ref a1), .val (.int p2), .unset, .unset, .unset] [])) _
    refine XS.aloadN X5.here hx rfl (hb hby d4_42) rfl rfl ?_
    show Steps p.tables e below (T5.setTop (mkF m 43 #[.val (.ref a1), .val (.int p2), .unset, .unset, .unset] [(.ref a1)])) _
    refine st6 _ ?_
    show Steps p.tables e below (T6.setTop (mkF m 46 #[.val (.ref a1), .val (.int p2), .unset, .unset, .unset] [(.int (0 : Int32))])) _
    refine X6.ldcInt hx hown (mvT hZ (hw _ (List.mem_of_getElem? (i := 30) rfl))) (g := (mkF m 46 #[.val (.ref a1), .val (.int p2), .unset, .unset, .unset] [(.int (0 : Int32))])) rfl (hb hby d4_46) _ ?_
    show Steps p.tables e below (T6.setTop (mkF m 48 #[.val (.ref a1), .val (.int p2), .unset, .unset, .unset] [(.int (2147483647 : Int32)), (.int (0 : Int32))])) _
    refine XS.icmpYes X6.here hx rfl (pc0 := 48) (pc' := 61) rfl (hb hby d4_48) rfl (feq (by decide : ¬ ((0 : Int32) = (2147483647 : Int32)))).2 (by decide) (by decide) ?_
    show Steps p.tables e below (T6.setTop (mkF m 61 #[.val (.ref a1), .val (.int p2), .unset, .unset, .unset] [])) _
    refine XS.iloadN X6.here hx rfl (hb hby d4_61) rfl ?_
    show Steps p.tables e below (T6.setTop (mkF m 62 #[.val (.ref a1), .val (.int p2), .unset, .unset, .unset] [(.int p2)])) _
    refine st7 _ ?_
    show Steps p.tables e below (T7.setTop (mkF m 65 #[.val (.ref a1), .val (.int p2), .unset, .unset, .unset] [(.int w0)])) _
    refine XS.istoreN X7.here hx rfl (hb hby d4_65) rfl (l' := #[.val (.ref a1), .val (.int p2), .val (.int w0), .unset, .unset]) rfl ?_
    show Steps p.tables e below (T7.setTop (mkF m 66 #[.val (.ref a1), .val (.int p2), .val (.int w0), .unset, .unset] [])) _
    refine XS.iloadN X7.here hx rfl (hb hby d4_66) rfl ?_
    show Steps p.tables e below (T7.setTop (mkF m 67 #[.val (.ref a1), .val (.int p2), .val (.int w0), .unset, .unset] [(.int w0)])) _
    refine XS.aloadN X7.here hx rfl (hb hby d4_67) rfl rfl ?_
    show Steps p.tables e below (T7.setTop (mkF m 68 #[.val (.ref a1), .val (.int p2), .val (.int w0), .unset, .unset] [(.ref a1), (.int w0)])) _
    refine st8 _ ?_
    show Steps p.tables e below (T8.setTop (mkF m 71 #[.val (.ref a1), .val (.int p2), .val (.int w0), .unset, .unset] [(.int (1 : Int32)), (.int w0)])) _
    refine XS.icmpYes X8.here hx rfl (pc0 := 71) (pc' := 96) rfl (hb hby d4_71) rfl (flt hc71).2.2.2 (by decide) (by decide) ?_
    show Steps p.tables e below (T8.setTop (mkF m 96 #[.val (.ref a1), .val (.int p2), .val (.int w0), .unset, .unset] [])) _
    refine XS.aloadN X8.here hx rfl (hb hby d4_96) rfl rfl ?_
    show Steps p.tables e below (T8.setTop (mkF m 97 #[.val (.ref a1), .val (.int p2), .val (.int w0), .unset, .unset] [(.ref a1)])) _
    refine st9 _ ?_
    show Steps p.tables e below (T9.setTop (mkF m 100 #[.val (.ref a1), .val (.int p2), .val (.int w0), .unset, .unset] [(.int (0 : Int32))])) _
    refine st10 _ ?_
    show Steps p.tables e below (T10.setTop (mkF m 103 #[.val (.ref a1), .val (.int p2), .val (.int w0), .unset, .unset] [(.int (16 : Int32)), (.int (0 : Int32))])) _
    refine XS.iushr X10.here hx rfl (hb hby d4_103) rfl ?_
    show Steps p.tables e below (T10.setTop (mkF m 104 #[.val (.ref a1), .val (.int p2), .val (.int w0), .unset, .unset] [(.int (0 : Int32))])) _
    refine XS.istoreN X10.here hx rfl (hb hby d4_104) rfl (l' := #[.val (.ref a1), .val (.int p2), .val (.int w0), .val (.int (0 : Int32)), .unset]) rfl ?_
    show Steps p.tables e below (T10.setTop (mkF m 105 #[.val (.ref a1), .val (.int p2), .val (.int w0), .val (.int (0 : Int32)), .unset] [])) _
    refine XS.iloadN X10.here hx rfl (hb hby d4_105) rfl ?_
    show Steps p.tables e below (T10.setTop (mkF m 106 #[.val (.ref a1), .val (.int p2), .val (.int w0), .val (.int (0 : Int32)), .unset] [(.int (0 : Int32))])) _
    refine XS.aloadN X10.here hx rfl (hb hby d4_106) rfl rfl ?_
    show Steps p.tables e below (T10.setTop (mkF m 107 #[.val (.ref a1), .val (.int p2), .val (.int w0), .val (.int (0 : Int32)), .unset] [(.ref a1), (.int (0 : Int32))])) _
    refine st12 _ ?_
    show Steps p.tables e below (T12.setTop (mkF m 110 #[.val (.ref a1), .val (.int p2), .val (.int w0), .val (.int (0 : Int32)), .unset] [(.ref pA), (.int (0 : Int32))])) _
    refine X12.arraylength hx (by rw [e12]; exact Ar_pA_110.1) (State.isArrayOf_alike hZ.alike Ar_pA_110.2.1) (g := (mkF m 110 #[.val (.ref a1), .val (.int p2), .val (.int w0), .val (.int (0 : Int32)), .unset] [(.ref pA), (.int (0 : Int32))])) rfl rfl (hb hby d4_110) _ ?_
    rw [len_of S_pA_110 N_pA_110]
    show Steps p.tables e below (T12.setTop (mkF m 111 #[.val (.ref a1), .val (.int p2), .val (.int w0), .val (.int (0 : Int32)), .unset] [(.int (1 : Int32)), (.int (0 : Int32))])) _
    refine XS.icmpYes X12.here hx rfl (pc0 := 111) (pc' := 135) rfl (hb hby d4_111) rfl (feq (by decide : ¬ ((0 : Int32) = (1 : Int32)))).2 (by decide) (by decide) ?_
    show Steps p.tables e below (T12.setTop (mkF m 135 #[.val (.ref a1), .val (.int p2), .val (.int w0), .val (.int (0 : Int32)), .unset] [])) _
    refine XS.aloadN X12.here hx rfl (hb hby d4_135) rfl rfl ?_
    show Steps p.tables e below (T12.setTop (mkF m 136 #[.val (.ref a1), .val (.int p2), .val (.int w0), .val (.int (0 : Int32)), .unset] [(.ref a1)])) _
    refine st13 _ ?_
    show Steps p.tables e below (T13.setTop (mkF m 139 #[.val (.ref a1), .val (.int p2), .val (.int w0), .val (.int (0 : Int32)), .unset] [(.int (0 : Int32))])) _
    refine X13.ldcInt hx hown (mvT hZ (hw _ (List.mem_of_getElem? (i := 44) rfl))) (g := (mkF m 139 #[.val (.ref a1), .val (.int p2), .val (.int w0), .val (.int (0 : Int32)), .unset] [(.int (0 : Int32))])) rfl (hb hby d4_139) _ ?_
    show Steps p.tables e below (T13.setTop (mkF m 141 #[.val (.ref a1), .val (.int p2), .val (.int w0), .val (.int (0 : Int32)), .unset] [(.int (65535 : Int32)), (.int (0 : Int32))])) _
    refine XS.iand X13.here hx rfl (hb hby d4_141) rfl ?_
    show Steps p.tables e below (T13.setTop (mkF m 142 #[.val (.ref a1), .val (.int p2), .val (.int w0), .val (.int (0 : Int32)), .unset] [(.int (0 : Int32))])) _
    refine XS.aloadN X13.here hx rfl (hb hby d4_142) rfl rfl ?_
    show Steps p.tables e below (T13.setTop (mkF m 143 #[.val (.ref a1), .val (.int p2), .val (.int w0), .val (.int (0 : Int32)), .unset] [(.ref a1), (.int (0 : Int32))])) _
    refine st14 _ ?_
    show Steps p.tables e below (T14.setTop (mkF m 146 #[.val (.ref a1), .val (.int p2), .val (.int w0), .val (.int (0 : Int32)), .unset] [(.int (1 : Int32)), (.int (0 : Int32))])) _
    refine XS.imul X14.here hx rfl (hb hby d4_146) rfl ?_
    show Steps p.tables e below (T14.setTop (mkF m 147 #[.val (.ref a1), .val (.int p2), .val (.int w0), .val (.int (0 : Int32)), .unset] [(.int (0 : Int32))])) _
    refine XS.istore X14.here hx rfl (hb hby d4_147) rfl (l' := #[.val (.ref a1), .val (.int p2), .val (.int w0), .val (.int (0 : Int32)), .val (.int (0 : Int32))]) rfl ?_
    show Steps p.tables e below (T14.setTop (mkF m 149 #[.val (.ref a1), .val (.int p2), .val (.int w0), .val (.int (0 : Int32)), .val (.int (0 : Int32))] [])) _
    refine XS.aloadN X14.here hx rfl (hb hby d4_149) rfl rfl ?_
    show Steps p.tables e below (T14.setTop (mkF m 150 #[.val (.ref a1), .val (.int p2), .val (.int w0), .val (.int (0 : Int32)), .val (.int (0 : Int32))] [(.ref a1)])) _
    refine st15 _ ?_
    show Steps p.tables e below (T15.setTop (mkF m 153 #[.val (.ref a1), .val (.int p2), .val (.int w0), .val (.int (0 : Int32)), .val (.int (0 : Int32))] [(.ref pA)])) _
    refine XS.iloadN X15.here hx rfl (hb hby d4_153) rfl ?_
    show Steps p.tables e below (T15.setTop (mkF m 154 #[.val (.ref a1), .val (.int p2), .val (.int w0), .val (.int (0 : Int32)), .val (.int (0 : Int32))] [(.int (0 : Int32)), (.ref pA)])) _
    refine X15.aaload hx (j := (0 : Int32)) (v := .null) (by rw [e15]; exact Ar_pA_110.1) (State.isArrayOf_alike hZ.alike Ar_pA_110.2.1) rfl Ar_pA_110.2.2 hin154 hat154 (g := (mkF m 154 #[.val (.ref a1), .val (.int p2), .val (.int w0), .val (.int (0 : Int32)), .val (.int (0 : Int32))] [(.int (0 : Int32)), (.ref pA)])) rfl rfl (hb hby d4_154) _ ?_
    show Steps p.tables e below (T15.setTop (mkF m 155 #[.val (.ref a1), .val (.int p2), .val (.int w0), .val (.int (0 : Int32)), .val (.int (0 : Int32))] [.null])) _
    refine XS.ifnonnullNo X15.here hx rfl (hb hby d4_155) rfl ?_
    show Steps p.tables e below (T15.setTop (mkF m 158 #[.val (.ref a1), .val (.int p2), .val (.int w0), .val (.int (0 : Int32)), .val (.int (0 : Int32))] [])) _
    refine XS.aloadN X15.here hx rfl (hb hby d4_158) rfl rfl ?_
    show Steps p.tables e below (T15.setTop (mkF m 159 #[.val (.ref a1), .val (.int p2), .val (.int w0), .val (.int (0 : Int32)), .val (.int (0 : Int32))] [(.ref a1)])) _
    refine st16 _ ?_
    show Steps p.tables e below (T16.setTop (mkF m 162 #[.val (.ref a1), .val (.int p2), .val (.int w0), .val (.int (0 : Int32)), .val (.int (0 : Int32))] [(.ref pA)])) _
    refine XS.iloadN X16.here hx rfl (hb hby d4_162) rfl ?_
    show Steps p.tables e below (T16.setTop (mkF m 163 #[.val (.ref a1), .val (.int p2), .val (.int w0), .val (.int (0 : Int32)), .val (.int (0 : Int32))] [(.int (0 : Int32)), (.ref pA)])) _
    refine XS.iloadN X16.here hx rfl (hb hby d4_163) rfl ?_
    show Steps p.tables e below (T16.setTop (mkF m 164 #[.val (.ref a1), .val (.int p2), .val (.int w0), .val (.int (0 : Int32)), .val (.int (0 : Int32))] [(.int (0 : Int32)), (.int (0 : Int32)), (.ref pA)])) _
    refine XS.ifNo X16.here hx rfl (hb hby d4_164) rfl ((if0 _ _).trans (teq (rfl : (0 : Int32) = (0 : Int32))).2) ?_
    show Steps p.tables e below (T16.setTop (mkF m 167 #[.val (.ref a1), .val (.int p2), .val (.int w0), .val (.int (0 : Int32)), .val (.int (0 : Int32))] [(.int (0 : Int32)), (.ref pA)])) _
    refine XS.bipush X16.here hx rfl (hb hby d4_167) ?_
    show Steps p.tables e below (T16.setTop (mkF m 169 #[.val (.ref a1), .val (.int p2), .val (.int w0), .val (.int (0 : Int32)), .val (.int (0 : Int32))] [(.int (64 : Int32)), (.int (0 : Int32)), (.ref pA)])) _
    refine XS.goto X16.here hx rfl (pc0 := 169) (pc' := 174) rfl (hb hby d4_169) (by decide) (by decide) ?_
    show Steps p.tables e below (T16.setTop (mkF m 174 #[.val (.ref a1), .val (.int p2), .val (.int w0), .val (.int (0 : Int32)), .val (.int (0 : Int32))] [(.int (64 : Int32)), (.int (0 : Int32)), (.ref pA)])) _
    refine XS.aloadN X16.here hx rfl (hb hby d4_174) rfl rfl ?_
    show Steps p.tables e below (T16.setTop (mkF m 175 #[.val (.ref a1), .val (.int p2), .val (.int w0), .val (.int (0 : Int32)), .val (.int (0 : Int32))] [(.ref a1), (.int (64 : Int32)), (.int (0 : Int32)), (.ref pA)])) _
    refine st17 _ ?_
    show Steps p.tables e below (T17.setTop (mkF m 178 #[.val (.ref a1), .val (.int p2), .val (.int w0), .val (.int (0 : Int32)), .val (.int (0 : Int32))] [(.int (1 : Int32)), (.int (64 : Int32)), (.int (0 : Int32)), (.ref pA)])) _
    refine XS.imul X17.here hx rfl (hb hby d4_178) rfl ?_
    show Steps p.tables e below (T17.setTop (mkF m 179 #[.val (.ref a1), .val (.int p2), .val (.int w0), .val (.int (0 : Int32)), .val (.int (0 : Int32))] [(.int (64 : Int32)), (.int (0 : Int32)), (.ref pA)])) _
    refine st18 _ ?_
    show Steps p.tables e below (T18.setTop (mkF m 181 #[.val (.ref a1), .val (.int p2), .val (.int w0), .val (.int (0 : Int32)), .val (.int (0 : Int32))] [(.ref b18), (.int (0 : Int32)), (.ref pA)])) _
    refine st19 _ ?_
    show Steps p.tables e below (T19.setTop (mkF m 182 #[.val (.ref a1), .val (.int p2), .val (.int w0), .val (.int (0 : Int32)), .val (.int (0 : Int32))] [])) _
    refine XS.goto X19.here hx rfl (pc0 := 182) (pc' := 221) rfl (hb hby d4_182) (by decide) (by decide) ?_
    show Steps p.tables e below (T19.setTop (mkF m 221 #[.val (.ref a1), .val (.int p2), .val (.int w0), .val (.int (0 : Int32)), .val (.int (0 : Int32))] [])) _
    refine XS.aloadN X19.here hx rfl (hb hby d4_221) rfl rfl ?_
    show Steps p.tables e below (T19.setTop (mkF m 222 #[.val (.ref a1), .val (.int p2), .val (.int w0), .val (.int (0 : Int32)), .val (.int (0 : Int32))] [(.ref a1)])) _
    refine X19.ldc2Long hx hown (mvT hZ (hw _ (List.mem_of_getElem? (i := 47) rfl))) (g := (mkF m 222 #[.val (.ref a1), .val (.int p2), .val (.int w0), .val (.int (0 : Int32)), .val (.int (0 : Int32))] [(.ref a1)])) rfl (hb hby d4_222) _ ?_
    show Steps p.tables e below (T19.setTop (mkF m 225 #[.val (.ref a1), .val (.int p2), .val (.int w0), .val (.int (0 : Int32)), .val (.int (0 : Int32))] [(.long (2147483647 : Int64)), (.ref a1)])) _
    refine XS.iloadN X19.here hx rfl (hb hby d4_225) rfl ?_
    show Steps p.tables e below (T19.setTop (mkF m 226 #[.val (.ref a1), .val (.int p2), .val (.int w0), .val (.int (0 : Int32)), .val (.int (0 : Int32))] [(.int (0 : Int32)), (.long (2147483647 : Int64)), (.ref a1)])) _
    refine XS.i2l X19.here hx rfl (hb hby d4_226) rfl ?_
    show Steps p.tables e below (T19.setTop (mkF m 227 #[.val (.ref a1), .val (.int p2), .val (.int w0), .val (.int (0 : Int32)), .val (.int (0 : Int32))] [(.long ((0 : Int32).toInt64)), (.long (2147483647 : Int64)), (.ref a1)])) _
    refine X19.ldc2Long hx hown (mvT hZ (hw _ (List.mem_of_getElem? (i := 48) rfl))) (g := (mkF m 227 #[.val (.ref a1), .val (.int p2), .val (.int w0), .val (.int (0 : Int32)), .val (.int (0 : Int32))] [(.long ((0 : Int32).toInt64)), (.long (2147483647 : Int64)), (.ref a1)])) rfl (hb hby d4_227) _ ?_
    show Steps p.tables e below (T19.setTop (mkF m 230 #[.val (.ref a1), .val (.int p2), .val (.int w0), .val (.int (0 : Int32)), .val (.int (0 : Int32))] [(.long (65536 : Int64)), (.long ((0 : Int32).toInt64)), (.long (2147483647 : Int64)), (.ref a1)])) _
    refine XS.lmul X19.here hx rfl (hb hby d4_230) rfl ?_
    show Steps p.tables e below (T19.setTop (mkF m 231 #[.val (.ref a1), .val (.int p2), .val (.int w0), .val (.int (0 : Int32)), .val (.int (0 : Int32))] [(.long (((0 : Int32).toInt64) * (65536 : Int64))), (.long (2147483647 : Int64)), (.ref a1)])) _
    refine XS.aloadN X19.here hx rfl (hb hby d4_231) rfl rfl ?_
    show Steps p.tables e below (T19.setTop (mkF m 232 #[.val (.ref a1), .val (.int p2), .val (.int w0), .val (.int (0 : Int32)), .val (.int (0 : Int32))] [(.ref a1), (.long (((0 : Int32).toInt64) * (65536 : Int64))), (.long (2147483647 : Int64)), (.ref a1)])) _
    refine st20 _ ?_
    show Steps p.tables e below (T20.setTop (mkF m 235 #[.val (.ref a1), .val (.int p2), .val (.int w0), .val (.int (0 : Int32)), .val (.int (0 : Int32))] [(.ref pA), (.long (((0 : Int32).toInt64) * (65536 : Int64))), (.long (2147483647 : Int64)), (.ref a1)])) _
    refine XS.iloadN X20.here hx rfl (hb hby d4_235) rfl ?_
    show Steps p.tables e below (T20.setTop (mkF m 236 #[.val (.ref a1), .val (.int p2), .val (.int w0), .val (.int (0 : Int32)), .val (.int (0 : Int32))] [(.int (0 : Int32)), (.ref pA), (.long (((0 : Int32).toInt64) * (65536 : Int64))), (.long (2147483647 : Int64)), (.ref a1)])) _
    refine X20.aaload hx (j := (0 : Int32)) (v := (.ref b18)) (by rw [e20]; exact Ar_pA_236.1) (State.isArrayOf_alike hZ.alike Ar_pA_236.2.1) rfl Ar_pA_236.2.2 hin236 hat236 (g := (mkF m 236 #[.val (.ref a1), .val (.int p2), .val (.int w0), .val (.int (0 : Int32)), .val (.int (0 : Int32))] [(.int (0 : Int32)), (.ref pA), (.long (((0 : Int32).toInt64) * (65536 : Int64))), (.long (2147483647 : Int64)), (.ref a1)])) rfl rfl (hb hby d4_236) _ ?_
    show Steps p.tables e below (T20.setTop (mkF m 237 #[.val (.ref a1), .val (.int p2), .val (.int w0), .val (.int (0 : Int32)), .val (.int (0 : Int32))] [(.ref b18), (.long (((0 : Int32).toInt64) * (65536 : Int64))), (.long (2147483647 : Int64)), (.ref a1)])) _
    refine X20.arraylength hx (by rw [e20]; exact Ar_b18_237.1) (State.isArrayOf_alike hZ.alike Ar_b18_237.2.1) (g := (mkF m 237 #[.val (.ref a1), .val (.int p2), .val (.int w0), .val (.int (0 : Int32)), .val (.int (0 : Int32))] [(.ref b18), (.long (((0 : Int32).toInt64) * (65536 : Int64))), (.long (2147483647 : Int64)), (.ref a1)])) rfl rfl (hb hby d4_237) _ ?_
    rw [len_of S_b18_237 N_b18_237]
    show Steps p.tables e below (T20.setTop (mkF m 238 #[.val (.ref a1), .val (.int p2), .val (.int w0), .val (.int (0 : Int32)), .val (.int (0 : Int32))] [(.int (64 : Int32)), (.long (((0 : Int32).toInt64) * (65536 : Int64))), (.long (2147483647 : Int64)), (.ref a1)])) _
    refine XS.aloadN X20.here hx rfl (hb hby d4_238) rfl rfl ?_
    show Steps p.tables e below (T20.setTop (mkF m 239 #[.val (.ref a1), .val (.int p2), .val (.int w0), .val (.int (0 : Int32)), .val (.int (0 : Int32))] [(.ref a1), (.int (64 : Int32)), (.long (((0 : Int32).toInt64) * (65536 : Int64))), (.long (2147483647 : Int64)), (.ref a1)])) _
    refine st21 _ ?_
    show Steps p.tables e below (T21.setTop (mkF m 242 #[.val (.ref a1), .val (.int p2), .val (.int w0), .val (.int (0 : Int32)), .val (.int (0 : Int32))] [(.int (1 : Int32)), (.int (64 : Int32)), (.long (((0 : Int32).toInt64) * (65536 : Int64))), (.long (2147483647 : Int64)), (.ref a1)])) _
    refine XS.idiv X21.here hx rfl (hb hby d4_242) rfl (by decide) ?_
    show Steps p.tables e below (T21.setTop (mkF m 243 #[.val (.ref a1), .val (.int p2), .val (.int w0), .val (.int (0 : Int32)), .val (.int (0 : Int32))] [(.int ((64 : Int32) / (1 : Int32))), (.long (((0 : Int32).toInt64) * (65536 : Int64))), (.long (2147483647 : Int64)), (.ref a1)])) _
    refine XS.i2l X21.here hx rfl (hb hby d4_243) rfl ?_
    show Steps p.tables e below (T21.setTop (mkF m 244 #[.val (.ref a1), .val (.int p2), .val (.int w0), .val (.int (0 : Int32)), .val (.int (0 : Int32))] [(.long (((64 : Int32) / (1 : Int32)).toInt64)), (.long (((0 : Int32).toInt64) * (65536 : Int64))), (.long (2147483647 : Int64)), (.ref a1)])) _
    refine XS.ladd X21.here hx rfl (hb hby d4_244) rfl ?_
    show Steps p.tables e below (T21.setTop (mkF m 245 #[.val (.ref a1), .val (.int p2), .val (.int w0), .val (.int (0 : Int32)), .val (.int (0 : Int32))] [(.long ((((0 : Int32).toInt64) * (65536 : Int64)) + (((64 : Int32) / (1 : Int32)).toInt64))), (.long (2147483647 : Int64)), (.ref a1)])) _
    refine st22 _ ?_
    show Steps p.tables e below (T22.setTop (mkF m 248 #[.val (.ref a1), .val (.int p2), .val (.int w0), .val (.int (0 : Int32)), .val (.int (0 : Int32))] [(.long ((((0 : Int32).toInt64) * (65536 : Int64)) + (((64 : Int32) / (1 : Int32)).toInt64))), (.ref a1)])) _
    refine XS.l2i X22.here hx rfl (hb hby d4_248) rfl ?_
    show Steps p.tables e below (T22.setTop (mkF m 249 #[.val (.ref a1), .val (.int p2), .val (.int w0), .val (.int (0 : Int32)), .val (.int (0 : Int32))] [(.int (((((0 : Int32).toInt64) * (65536 : Int64)) + (((64 : Int32) / (1 : Int32)).toInt64)).toInt32)), (.ref a1)])) _
    refine st23 _ ?_
    show Steps p.tables e below (T23.setTop (mkF m 252 #[.val (.ref a1), .val (.int p2), .val (.int w0), .val (.int (0 : Int32)), .val (.int (0 : Int32))] [])) _
    exact X23.returnOut hx Bd.returns (hb hby d4_252) hr
  · show Q4 Z a1 p2 (1 : Int32) (0 : Int32) 0 vals h0 n0 _ T23.heap _
    rw [e23]
    exact ⟨(1 : Int32), rfl, N23, K23.1, ⟨pA, k_pA, b18, (fun _ => 0), (((E_a1.ext E18).wr W19).wr W23), (((F_m_aPages_a1.ext E18).other W19 (Or.inl naA)).other W23 (Or.inr (slot_ne (Or.inl (hw _ (List.mem_of_getElem? (i := 13) rfl))) (Or.inl (hw _ (List.mem_of_getElem? (i := 29) rfl))) (by decide) (t := (.array (.array .byte))) (t' := .int) (by decide) (by decide)))), (((F_m_nWidth_a1.ext E18).other W19 (Or.inl naA)).other W23 (Or.inr (slot_ne (Or.inl (hw _ (List.mem_of_getElem? (i := 15) rfl))) (Or.inl (hw _ (List.mem_of_getElem? (i := 29) rfl))) (by decide) (t := .int) (t' := .int) (by decide) (by decide)))), (((F_m_nWidest_a1.ext E18).other W19 (Or.inl naA)).other W23 (Or.inr (slot_ne (Or.inl (hw _ (List.mem_of_getElem? (i := 20) rfl))) (Or.inl (hw _ (List.mem_of_getElem? (i := 29) rfl))) (by decide) (t := .int) (t' := .int) (by decide) (by decide)))), (((F_m_nSize_a1.ext E18).other W19 (Or.inl naA)).other W23 (Or.inr (slot_ne (Or.inl (hw _ (List.mem_of_getElem? (i := 27) rfl))) (Or.inl (hw _ (List.mem_of_getElem? (i := 29) rfl))) (by decide) (t := .int) (t' := .int) (by decide) (by decide)))), Fw23, (V_pA_19.other W23 naA.symm), O_pA, (((EA.ext E18).wr W19).wr W23), ((PGn.other W19 nPb.symm).other W23 nab.symm), ((C18.wr W19).wr W23), g_a1, g_pA, g_b18, (((S_PAGE_SHIFT.ext E18).wr W19).wr W23), (Or.inl rfl), (fun i hi => absurd hi (Nat.not_lt_zero i))⟩, (show p2.toInt ≤ 255 by omega), Int.le_refl _⟩
theorem d4_74 : decode prog_4_method_4_code 74 = .ok (.aload_n 0, 1) := by decide +kernel
theorem d4_75 : decode prog_4_method_4_code 75 = .ok (.aload_n 0, 1) := by decide +kernel
theorem d4_76 : decode prog_4_method_4_code 76 = .ok (.iload_n 2, 1) := by decide +kernel
theorem d4_77 : decode prog_4_method_4_code 77 = .ok (.invokevirtual 56, 3) := by decide +kernel
theorem d4_80 : decode prog_4_method_4_code 80 = .ok (.putfield 11, 3) := by decide +kernel
theorem d4_83 : decode prog_4_method_4_code 83 = .ok (.aload_n 0, 1) := by decide +kernel
theorem d4_84 : decode prog_4_method_4_code 84 = .ok (.iload_n 2, 1) := by decide +kernel
theorem d4_85 : decode prog_4_method_4_code 85 = .ok (.putfield 17, 3) := by decide +kernel
theorem d4_88 : decode prog_4_method_4_code 88 = .ok (.aload_n 0, 1) := by decide +kernel
theorem d4_89 : decode prog_4_method_4_code 89 = .ok (.iload_n 2, 1) := by decide +kernel
theorem d4_90 : decode prog_4_method_4_code 90 = .ok (.invokestatic 21, 3) := by decide +kernel
theorem d4_93 : decode prog_4_method_4_code 93 = .ok (.putfield 25, 3) := by decide +kernel
theorem pd_4_6 : parseMethodDescriptor "(I)[[B" = some ⟨[.int], some (.array (.array .byte))⟩ := by decide +kernel
set_option maxRecDepth 65536 in
set_option maxHeartbeats 40000000 in
theorem rm4_A2 (l : Launch) (Z : State) (a0 : Array Value) (hw : ∀ d ∈ tables_1, d.before a0 Z = true) (ws : List Jvm.Cond) (a1 : Addr) (p2 : Int32) (pA : Addr) (k_pA : ClassId) (vals : Nat → Int32) (h0 : Heap) (n0 : Nat) (Z0 : n0 ≤ h0.size) (E_a1 : Exa Z h0 a1 "com/example/agave_bloom/agavebloom/check/CompactInts") (F_m_aPages_a1 : Fld Z h0 a1 "com/example/agave_bloom/agavebloom/check/CompactInts" "m_aPages" "[[B" (.ref pA)) (F_m_nWidth_a1 : Fld Z h0 a1 "com/example/agave_bloom/agavebloom/check/CompactInts" "m_nWidth" "I" (.int (1 : Int32))) (F_m_nWidest_a1 : Fld Z h0 a1 "com/example/agave_bloom/agavebloom/check/CompactInts" "m_nWidest" "I" (.int (255 : Int32))) (F_m_nSize_a1 : Fld Z h0 a1 "com/example/agave_bloom/agavebloom/check/CompactInts" "m_nSize" "I" (.int (0 : Int32))) (F_m_nRoom_a1 : Fld Z h0 a1 "com/example/agave_bloom/agavebloom/check/CompactInts" "m_nRoom" "I" (.int (0 : Int32))) (V_pA : Arv Z h0 pA k_pA (.array .byte) (1 : Int32) [.null] .null) (O_pA : OvrA Z k_pA .byte "[B") (EA : Exa Z h0 pA "[[B") (g_a1 : n0 ≤ a1) (g_pA : n0 ≤ pA) (S_PAGE_SHIFT : Sta Z h0 "com/example/agave_bloom/agavebloom/check/CompactInts" "PAGE_SHIFT" "I" (.int (16 : Int32))) (hc1 : ¬ (p2 < (0 : Int32))) (hc9 : (255 : Int32) < p2) :
    MetFree l (⟨"com/example/agave_bloom/agavebloom/check/CompactInts", "makeRoom", "(I)V"⟩ : MethodName) (head1 (Jvm.Cond.code (⟨"com/example/agave_bloom/agavebloom/check/CompactInts", "makeRoom", "(I)V"⟩ : MethodName) prog_4_method_4_code 5 none :: ws) ({ frames := 2, cells := 2, slots := 257, locals := 34 } : Room)) (fun a U => a = #[(.ref a1), (.int p2)] ∧ Z.Warmed39 U.vm ∧ U.heap = h0) (fun _ _ _ _ _ => True) (fun _ U o U' => ∃ v L, o = .returned v ∧ Q4 Z a1 p2 (1 : Int32) (0 : Int32) 0 vals h0 n0 v U'.heap L ∧ FrameEnd U o U' L ({ frames := 2, cells := 2, slots := 257, locals := 34 } : Room).cells ({ frames := 2, cells := 2, slots := 257, locals := 34 } : Room).slots) := by
  refine MetFree.of_bodySF (plainFor_of_name pn_4) hisR ?_
  intro p e s m args below meth c s₁ Bd hml0 hP hK
  obtain ⟨rfl, hZ, hh⟩ := hP
  have hx := Bd.exec
  have hby := Bd.bytes
  have hml : c.maxLocals = 5 := hml0
  have hown : s.vm.findClass "com/example/agave_bloom/agavebloom/check/CompactInts" = some m.cls := findClass_of_methodNamed Bd.named
  have hnm := (name_of_methodNamed Bd.named Bd.method).1
  have X0 : Stand p l e ({ frames := 2, cells := 2, slots := 257, locals := 34 } : Room) s m #[(.ref a1), (.int p2)] below meth c s₁ [] 0 0 := Stand.of_body Bd
  have e0 : s₁.heap = h0 := by rw [← hh, Bd.state]; rfl
  have N0 := Fr.nil n0
  have hc25 := hc1
  have z0 : (0 : Int32).toInt = 0 := rfl
  have hv : 0 ≤ p2.toInt := by rw [Int32.lt_iff_toInt_lt] at hc1; omega
  have naA : a1 ≠ pA := Exa.neArv E_a1 V_pA (hw _ (List.mem_of_getElem? (i := 2) rfl))
  have pre0 : ∀ t, Steps p.tables e below (s₁.setTop (mkF m 0 #[.val (.ref a1), .val (.int p2), .unset, .unset, .unset] [])) t → Steps p.tables e below (s₁.setTop (entryFrame m #[(.ref a1), (.int p2)] 5)) t := fun t k => castTop (ef_4 m a1 p2) k
  obtain ⟨T3, X3, e3, st3⟩ := getF X0 hx hZ hown (host := "") (Or.inl (hw _ (List.mem_of_getElem? (i := 19) rfl))) Via.refl e0 F_m_nWidest_a1 (g := (mkF m 6 #[.val (.ref a1), .val (.int p2), .unset, .unset, .unset] [(.ref a1), (.int p2)])) rfl rfl (hb hby d4_6)
  obtain ⟨T4, X4, e4, st4⟩ := getF X3 hx hZ hown (host := "") (Or.inl (hw _ (List.mem_of_getElem? (i := 26) rfl))) Via.refl e3 F_m_nSize_a1 (g := (mkF m 43 #[.val (.ref a1), .val (.int p2), .unset, .unset, .unset] [(.ref a1)])) rfl rfl (hb hby d4_43)
  obtain ⟨_, _, ⟨T5, L5, k5, n5⟩, -, X5, ⟨Lc5, hQ5, l5, y5, z5⟩, st5⟩ := Jvm.LawKit.callS X4 hx (y := (⟨"com/example/agave_bloom/agavebloom/check/CompactInts", "_width", "(I)I"⟩ : MethodName)) hown (mvT hZ (hw _ (List.mem_of_getElem? (i := 31) rfl))) (mvT hZ (hw _ (List.mem_of_getElem? (i := 32) rfl))) (mvT hZ (hw _ (List.mem_of_getElem? (i := 3) rfl))) (mvT hZ (hw _ (List.mem_of_getElem? (i := 33) rfl))) (by decide) (backOf (W := 0) (rm5 l Z a0 hw [] p2 h0 n0 Z0 hv) hZ (hw _ (List.mem_of_getElem? (i := 33) rfl)) (hw _ (List.mem_of_getElem? (i := 3) rfl)) (by decide) (by decide)) (g := (mkF m 62 #[.val (.ref a1), .val (.int p2), .unset, .unset, .unset] [(.int p2)])) rfl (by rw [hml]; rfl) (argsL := [(.int p2)]) (rest := []) (lenOf pd_4_1 rfl) rfl (by show 2 * 0 + _ ≤ _; exact Nat.le_of_eq rfl) (hb hby d4_62) (fun _ _ => ⟨rfl, e4, (by decide : 0 + 0 ≤ _), (by decide : 0 + 0 ≤ _)⟩)
  dsimp only [Pt.U, Pt.locs, Pt.cells, Pt.slots] at X5 l5 y5 z5 st5 hQ5
  subst l5 y5 z5
  obtain ⟨w0, rfl, N5q, eq5, hw0⟩ := hQ5
  have hok := own_isW_ok hw0
  have hle := own_isW_le hw0
  have o6 := own_64 w0 hok
  have hnz242 := o6.2.2.2.2
  have hc9' := hc9
  rw [Int32.lt_iff_toInt_lt] at hc9'
  have e255 : (255 : Int32).toInt = 255 := rfl
  have hc71 : (1 : Int32) < w0 := own_isW_gt hw0 (Or.inl rfl) (show (255 : Int) < p2.toInt by omega)
  have N5 := Fr.app N0 N5q
  obtain ⟨T6, X6, e6, st6⟩ := getF X5 hx hZ hown (host := "") (Or.inl (hw _ (List.mem_of_getElem? (i := 14) rfl))) Via.refl eq5 F_m_nWidth_a1 (g := (mkF m 68 #[.val (.ref a1), .val (.int p2), .val (.int w0), .unset, .unset] [(.ref a1), (.int w0)])) rfl rfl (hb hby d4_68)
  obtain ⟨cq7, q7, q7'⟩ := E_a1.cell
  obtain ⟨_, _, ⟨T7, L7, k7, n7⟩, -, X7, ⟨Lc7, hQ7, l7, y7, z7⟩, st7⟩ := X6.privateBack hx (y := (⟨"com/example/agave_bloom/agavebloom/check/CompactInts", "_widened", "(I)[[B"⟩ : MethodName)) hown (mvT hZ (hw _ (List.mem_of_getElem? (i := 66) rfl))) (mvT hZ (hw _ (List.mem_of_getElem? (i := 67) rfl))) (mvT hZ (own_sel hw)) (Cond.privateMethod_at (mvP hZ (hw _ (List.mem_of_getElem? (i := 68) rfl)) (args := #[]))) (mvT hZ (hw _ (List.mem_of_getElem? (i := 69) rfl))) (by decide) (backOf (W := 1) (rm12_null l Z a0 hw [] a1 w0 pA k_pA h0 n0 Z0 V_pA O_pA g_pA F_m_aPages_a1 F_m_nSize_a1) hZ (hw _ (List.mem_of_getElem? (i := 69) rfl)) (hw _ (List.mem_of_getElem? (i := 3) rfl)) (by decide) (by decide)) (g := (mkF m 77 #[.val (.ref a1), .val (.int p2), .val (.int w0), .unset, .unset] [(.int w0), (.ref a1), (.ref a1)])) rfl (by rw [hml]; rfl) (Steps.refl _) (a := a1) (by rw [e6]; exact q7) q7' (argsL := [(.int w0)]) (rest := [(.ref a1)]) (lenOf pd_4_6 rfl) rfl (by show 2 * 0 + _ ≤ _; exact Nat.le_of_eq rfl) (hb hby d4_77) (fun _ _ => ⟨rfl, e6, (by decide : 0 + 1 ≤ _), (by decide : 0 + 1 ≤ _)⟩)
  dsimp only [Pt.U, Pt.locs, Pt.cells, Pt.slots] at X7 l7 y7 z7 st7 hQ7
  subst l7 y7 z7
  obtain ⟨bW, kA, rfl, N7q, Kq7, V_bW, OA, CW, szW⟩ := hQ7
  have K7 : Keep h0 T7.heap [a1, bW] := own_kw Kq7
  have g_bW : n0 ≤ bW := Nat.le_trans Z0 szW
  have Sta7 := own_stk S_PAGE_SHIFT Kq7
  have naW : a1 ≠ bW := Nat.ne_of_lt (Nat.lt_of_lt_of_le E_a1.lt szW)
  have N7 := Fr.app N5 N7q
  obtain ⟨T8, h8, X8, e8, W8, st8⟩ := putF X7 hx hZ hown (host := "") (Or.inl (hw _ (List.mem_of_getElem? (i := 12) rfl))) Via.refl rfl (F_m_aPages_a1.keep Kq7 List.not_mem_nil) (E_a1.keep Kq7) (Or.inl (hw _ (List.mem_of_getElem? (i := 13) rfl))) (hw _ (List.mem_of_getElem? (i := 2) rfl)) (ty := (.array (.array .byte))) (by decide) rfl rfl (g := (mkF m 80 #[.val (.ref a1), .val (.int p2), .val (.int w0), .unset, .unset] [(.ref bW), (.ref a1)])) rfl rfl (hb hby d4_80)
  have Fw8 := (F_m_aPages_a1.keep Kq7 List.not_mem_nil).same W8
  have K8 : Keep h0 h8 [a1, bW] := K7.wr W8 (Or.inl (List.mem_of_getElem? (i := 0) rfl))
  have N8 := Fr.snoc X8 N7 g_a1
  obtain ⟨T9, h9, X9, e9, W9, st9⟩ := putF X8 hx hZ hown (host := "") (Or.inl (hw _ (List.mem_of_getElem? (i := 14) rfl))) Via.refl e8 ((F_m_nWidth_a1.keep Kq7 List.not_mem_nil).other W8 (Or.inr (slot_ne (Or.inl (hw _ (List.mem_of_getElem? (i := 15) rfl))) (Or.inl (hw _ (List.mem_of_getElem? (i := 13) rfl))) (by decide) (t := .int) (t' := (.array (.array .byte))) (by decide) (by decide)))) ((E_a1.keep Kq7).wr W8) (Or.inl (hw _ (List.mem_of_getElem? (i := 15) rfl))) (hw _ (List.mem_of_getElem? (i := 2) rfl)) (ty := .int) (by decide) rfl rfl (g := (mkF m 85 #[.val (.ref a1), .val (.int p2), .val (.int w0), .unset, .unset] [(.int w0), (.ref a1)])) rfl rfl (hb hby d4_85)
  have Fw9 := ((F_m_nWidth_a1.keep Kq7 List.not_mem_nil).other W8 (Or.inr (slot_ne (Or.inl (hw _ (List.mem_of_getElem? (i := 15) rfl))) (Or.inl (hw _ (List.mem_of_getElem? (i := 13) rfl))) (by decide) (t := .int) (t' := (.array (.array .byte))) (by decide) (by decide)))).same W9
  have K9 : Keep h0 h9 [a1, bW] := K8.wr W9 (Or.inl (List.mem_of_getElem? (i := 0) rfl))
  have N9 := Fr.snoc X9 N8 g_a1
  obtain ⟨_, _, ⟨T10, L10, k10, n10⟩, -, X10, ⟨Lc10, hQ10, l10, y10, z10⟩, st10⟩ := Jvm.LawKit.callS X9 hx (y := (⟨"com/example/agave_bloom/agavebloom/check/CompactInts", "_widest", "(I)I"⟩ : MethodName)) hown (mvT hZ (hw _ (List.mem_of_getElem? (i := 16) rfl))) (mvT hZ (hw _ (List.mem_of_getElem? (i := 17) rfl))) (mvT hZ (hw _ (List.mem_of_getElem? (i := 3) rfl))) (mvT hZ (hw _ (List.mem_of_getElem? (i := 18) rfl))) (by decide) (backOf (W := 1) (rm3 l Z a0 hw [] w0 h9 n0 (Nat.le_trans Z0 K9.1) hok) hZ (hw _ (List.mem_of_getElem? (i := 18) rfl)) (hw _ (List.mem_of_getElem? (i := 3) rfl)) (by decide) (by decide)) (g := (mkF m 90 #[.val (.ref a1), .val (.int p2), .val (.int w0), .unset, .unset] [(.int w0), (.ref a1)])) rfl (by rw [hml]; rfl) (argsL := [(.int w0)]) (rest := [(.ref a1)]) (lenOf pd_4_1 rfl) rfl (by show 2 * 0 + _ ≤ _; exact Nat.le_of_eq rfl) (hb hby d4_90) (fun _ _ => ⟨rfl, e9, (by decide : 1 + 0 ≤ _), (by decide : 1 + 0 ≤ _)⟩)
  dsimp only [Pt.U, Pt.locs, Pt.cells, Pt.slots] at X10 l10 y10 z10 st10 hQ10
  subst l10 y10 z10
  obtain ⟨rfl, N10q, eq10⟩ := hQ10
  have N10 := Fr.app N9 N10q
  obtain ⟨T11, h11, X11, e11, W11, st11⟩ := putF X10 hx hZ hown (host := "") (Or.inl (hw _ (List.mem_of_getElem? (i := 19) rfl))) Via.refl eq10 (((F_m_nWidest_a1.keep Kq7 List.not_mem_nil).other W8 (Or.inr (slot_ne (Or.inl (hw _ (List.mem_of_getElem? (i := 20) rfl))) (Or.inl (hw _ (List.mem_of_getElem? (i := 13) rfl))) (by decide) (t := .int) (t' := (.array (.array .byte))) (by decide) (by decide)))).other W9 (Or.inr (slot_ne (Or.inl (hw _ (List.mem_of_getElem? (i := 20) rfl))) (Or.inl (hw _ (List.mem_of_getElem? (i := 15) rfl))) (by decide) (t := .int) (t' := .int) (by decide) (by decide)))) (((E_a1.keep Kq7).wr W8).wr W9) (Or.inl (hw _ (List.mem_of_getElem? (i := 20) rfl))) (hw _ (List.mem_of_getElem? (i := 2) rfl)) (ty := .int) (by decide) rfl rfl (g := (mkF m 93 #[.val (.ref a1), .val (.int p2), .val (.int w0), .unset, .unset] [(.int (own_widest w0)), (.ref a1)])) rfl rfl (hb hby d4_93)
  have Fw11 := (((F_m_nWidest_a1.keep Kq7 List.not_mem_nil).other W8 (Or.inr (slot_ne (Or.inl (hw _ (List.mem_of_getElem? (i := 20) rfl))) (Or.inl (hw _ (List.mem_of_getElem? (i := 13) rfl))) (by decide) (t := .int) (t' := (.array (.array .byte))) (by decide) (by decide)))).other W9 (Or.inr (slot_ne (Or.inl (hw _ (List.mem_of_getElem? (i := 20) rfl))) (Or.inl (hw _ (List.mem_of_getElem? (i := 15) rfl))) (by decide) (t := .int) (t' := .int) (by decide) (by decide)))).same W11
  have K11 : Keep h0 h11 [a1, bW] := K9.wr W11 (Or.inl (List.mem_of_getElem? (i := 0) rfl))
  have N11 := Fr.snoc X11 N10 g_a1
  obtain ⟨T12, X12, e12, st12⟩ := getF X11 hx hZ hown (host := "") (Or.inl (hw _ (List.mem_of_getElem? (i := 26) rfl))) Via.refl e11 ((((F_m_nSize_a1.keep Kq7 List.not_mem_nil).other W8 (Or.inr (slot_ne (Or.inl (hw _ (List.mem_of_getElem? (i := 27) rfl))) (Or.inl (hw _ (List.mem_of_getElem? (i := 13) rfl))) (by decide) (t := .int) (t' := (.array (.array .byte))) (by decide) (by decide)))).other W9 (Or.inr (slot_ne (Or.inl (hw _ (List.mem_of_getElem? (i := 27) rfl))) (Or.inl (hw _ (List.mem_of_getElem? (i := 15) rfl))) (by decide) (t := .int) (t' := .int) (by decide) (by decide)))).other W11 (Or.inr (slot_ne (Or.inl (hw _ (List.mem_of_getElem? (i := 27) rfl))) (Or.inl (hw _ (List.mem_of_getElem? (i := 20) rfl))) (by decide) (t := .int) (t' := .int) (by decide) (by decide)))) (g := (mkF m 97 #[.val (.ref a1), .val (.int p2), .val (.int w0), .unset, .unset] [(.ref a1)])) rfl rfl (hb hby d4_97)
  obtain ⟨T13, X13, e13, st13⟩ := getS2 X12 hx hZ hown (host := "") (Or.inl (hw _ (List.mem_of_getElem? (i := 42) rfl))) Via.refl e12 (((Sta7.wr W8).wr W9).wr W11) (g := (mkF m 100 #[.val (.ref a1), .val (.int p2), .val (.int w0), .unset, .unset] [(.int (0 : Int32))])) rfl (hb hby d4_100)
  obtain ⟨T14, X14, e14, st14⟩ := getF X13 hx hZ hown (host := "") (Or.inl (hw _ (List.mem_of_getElem? (i := 12) rfl))) Via.refl e13 ((Fw8.other W9 (Or.inr (slot_ne (Or.inl (hw _ (List.mem_of_getElem? (i := 13) rfl))) (Or.inl (hw _ (List.mem_of_getElem? (i := 15) rfl))) (by decide) (t := (.array (.array .byte))) (t' := .int) (by decide) (by decide)))).other W11 (Or.inr (slot_ne (Or.inl (hw _ (List.mem_of_getElem? (i := 13) rfl))) (Or.inl (hw _ (List.mem_of_getElem? (i := 20) rfl))) (by decide) (t := (.array (.array .byte))) (t' := .int) (by decide) (by decide)))) (g := (mkF m 107 #[.val (.ref a1), .val (.int p2), .val (.int w0), .val (.int (0 : Int32)), .unset] [(.ref a1), (.int (0 : Int32))])) rfl rfl (hb hby d4_107)
  obtain ⟨cl_bW_110, Ar_bW_110, q_bW_110, S_bW_110, N_bW_110, H_bW_110, G_bW_110⟩ := (((V_bW.other W8 (Ne.symm naW)).other W9 (Ne.symm naW)).other W11 (Ne.symm naW))
  obtain ⟨T15, X15, e15, st15⟩ := getF X14 hx hZ hown (host := "") (Or.inl (hw _ (List.mem_of_getElem? (i := 26) rfl))) Via.refl e14 ((((F_m_nSize_a1.keep Kq7 List.not_mem_nil).other W8 (Or.inr (slot_ne (Or.inl (hw _ (List.mem_of_getElem? (i := 27) rfl))) (Or.inl (hw _ (List.mem_of_getElem? (i := 13) rfl))) (by decide) (t := .int) (t' := (.array (.array .byte))) (by decide) (by decide)))).other W9 (Or.inr (slot_ne (Or.inl (hw _ (List.mem_of_getElem? (i := 27) rfl))) (Or.inl (hw _ (List.mem_of_getElem? (i := 15) rfl))) (by decide) (t := .int) (t' := .int) (by decide) (by decide)))).other W11 (Or.inr (slot_ne (Or.inl (hw _ (List.mem_of_getElem? (i := 27) rfl))) (Or.inl (hw _ (List.mem_of_getElem? (i := 20) rfl))) (by decide) (t := .int) (t' := .int) (by decide) (by decide)))) (g := (mkF m 136 #[.val (.ref a1), .val (.int p2), .val (.int w0), .val (.int (0 : Int32)), .unset] [(.ref a1)])) rfl rfl (hb hby d4_136)
  obtain ⟨T16, X16, e16, st16⟩ := getF X15 hx hZ hown (host := "") (Or.inl (hw _ (List.mem_of_getElem? (i := 14) rfl))) Via.refl e15 (Fw9.other W11 (Or.inr (slot_ne (Or.inl (hw _ (List.mem_of_getElem? (i := 15) rfl))) (Or.inl (hw _ (List.mem_of_getElem? (i := 20) rfl))) (by decide) (t := .int) (t' := .int) (by decide) (by decide)))) (g := (mkF m 143 #[.val (.ref a1), .val (.int p2), .val (.int w0), .val (.int (0 : Int32)), .unset] [(.ref a1), (.int (0 : Int32))])) rfl rfl (hb hby d4_143)
  obtain ⟨T17, X17, e17, st17⟩ := getF X16 hx hZ hown (host := "") (Or.inl (hw _ (List.mem_of_getElem? (i := 12) rfl))) Via.refl e16 ((Fw8.other W9 (Or.inr (slot_ne (Or.inl (hw _ (List.mem_of_getElem? (i := 13) rfl))) (Or.inl (hw _ (List.mem_of_getElem? (i := 15) rfl))) (by decide) (t := (.array (.array .byte))) (t' := .int) (by decide) (by decide)))).other W11 (Or.inr (slot_ne (Or.inl (hw _ (List.mem_of_getElem? (i := 13) rfl))) (Or.inl (hw _ (List.mem_of_getElem? (i := 20) rfl))) (by decide) (t := (.array (.array .byte))) (t' := .int) (by decide) (by decide)))) (g := (mkF m 150 #[.val (.ref a1), .val (.int p2), .val (.int w0), .val (.int (0 : Int32)), .val (.int ((0 : Int32) * w0))] [(.ref a1)])) rfl rfl (hb hby d4_150)
  have hin154 : ¬ ((0 : Int32) < 0 ∨ cl_bW_110.slots.size ≤ ((0 : Int32)).toNatClampNeg) := inb_of S_bW_110 ⟨by decide, by decide⟩
  have hat154 : cl_bW_110.slots[((0 : Int32)).toNatClampNeg]? = some .null := H_bW_110.at hin154 rfl
  obtain ⟨T18, X18, e18, st18⟩ := getF X17 hx hZ hown (host := "") (Or.inl (hw _ (List.mem_of_getElem? (i := 12) rfl))) Via.refl e17 ((Fw8.other W9 (Or.inr (slot_ne (Or.inl (hw _ (List.mem_of_getElem? (i := 13) rfl))) (Or.inl (hw _ (List.mem_of_getElem? (i := 15) rfl))) (by decide) (t := (.array (.array .byte))) (t' := .int) (by decide) (by decide)))).other W11 (Or.inr (slot_ne (Or.inl (hw _ (List.mem_of_getElem? (i := 13) rfl))) (Or.inl (hw _ (List.mem_of_getElem? (i := 20) rfl))) (by decide) (t := (.array (.array .byte))) (t' := .int) (by decide) (by decide)))) (g := (mkF m 159 #[.val (.ref a1), .val (.int p2), .val (.int w0), .val (.int (0 : Int32)), .val (.int ((0 : Int32) * w0))] [(.ref a1)])) rfl rfl (hb hby d4_159)
  obtain ⟨T19, X19, e19, st19⟩ := getF X18 hx hZ hown (host := "") (Or.inl (hw _ (List.mem_of_getElem? (i := 14) rfl))) Via.refl e18 (Fw9.other W11 (Or.inr (slot_ne (Or.inl (hw _ (List.mem_of_getElem? (i := 15) rfl))) (Or.inl (hw _ (List.mem_of_getElem? (i := 20) rfl))) (by decide) (t := .int) (t' := .int) (by decide) (by decide)))) (g := (mkF m 175 #[.val (.ref a1), .val (.int p2), .val (.int w0), .val (.int (0 : Int32)), .val (.int ((0 : Int32) * w0))] [(.ref a1), (.int (64 : Int32)), (.int (0 : Int32)), (.ref bW)])) rfl rfl (hb hby d4_175)
  obtain ⟨T20, h20, k20, X20, e20, E20, A20, C20, st20⟩ := newPE X19 hx hZ (hw _ (List.mem_of_getElem? (i := 45) rfl)) e19 (g := (mkF m 179 #[.val (.ref a1), .val (.int p2), .val (.int w0), .val (.int (0 : Int32)), .val (.int ((0 : Int32) * w0))] [(.int ((64 : Int32) * w0)), (.int (0 : Int32)), (.ref bW)])) rfl (hb hby d4_179) rfl o6.1 (cap := 256) o6.2.1 (by decide) (by decide) (by decide) (ad := "[B") (by decide)
  obtain ⟨b20, g20⟩ : ∃ z, z = h11.size := ⟨_, rfl⟩
  rw [← g20] at A20 C20 st20
  have PGn : Pg Z h20 b20 ((64 : Int32) * w0) (fun _ => 0) := Pg.new A20 o6.1 o6.2.2.1
  have V_b20 := Arv.new A20 o6.1
  have nPb : bW ≠ b20 := ne_exa ((((CW.wr W8).wr W9).wr W11).ext E20) C20 (by decide)
  have nab : a1 ≠ b20 := ne_exa (((((E_a1.keep Kq7).wr W8).wr W9).wr W11).ext E20) C20 (by decide)
  have g_b20 : n0 ≤ b20 := Nat.le_trans (Nat.le_trans (Nat.le_trans (Nat.le_trans (Nat.le_trans Z0 Kq7.1) (Keep.of_wr W8).1) (Keep.of_wr W9).1) (Keep.of_wr W11).1) (Nat.le_of_eq g20.symm)
  have sz_b20 : h0.size ≤ b20 := (Nat.le_trans K11.1 (Nat.le_of_eq g20.symm))
  have K20 : Keep h0 h20 [a1, bW] := K11.ext E20
  obtain ⟨cl_bW_181, Ar_bW_181, q_bW_181, S_bW_181, N_bW_181, H_bW_181, G_bW_181⟩ := ((((V_bW.other W8 (Ne.symm naW)).other W9 (Ne.symm naW)).other W11 (Ne.symm naW)).ext E20)
  have hin181 : ¬ ((0 : Int32) < 0 ∨ cl_bW_181.slots.size ≤ ((0 : Int32)).toNatClampNeg) := inb_of S_bW_181 ⟨by decide, by decide⟩
  obtain ⟨T21, h21, X21, e21, W21, st21⟩ := stR X20 hx hZ e20 Ar_bW_181 (j := (0 : Int32)) hin181 rfl (Sto.ofVA Ar_bW_181 q_bW_181 OA (Ins.self C20)) (g := (mkF m 181 #[.val (.ref a1), .val (.int p2), .val (.int w0), .val (.int (0 : Int32)), .val (.int ((0 : Int32) * w0))] [(.ref b20), (.int (0 : Int32)), (.ref bW)])) rfl rfl (hb hby d4_181)
  have V_bW_21 : Arv Z h21 bW kA (.array .byte) (1 : Int32) [(.ref b20)] .null := Arv.set Ar_bW_181 q_bW_181 S_bW_181 N_bW_181 H_bW_181 G_bW_181 rfl W21 0 rfl (Nat.le_of_ble_eq_true rfl)
  have N21 := Fr.snoc X21 N11 g_bW
  have K21 : Keep h0 h21 [a1, bW] := K20.wr W21 (Or.inl (List.mem_of_getElem? (i := 1) rfl))
  obtain ⟨T22, X22, e22, st22⟩ := getF X21 hx hZ hown (host := "") (Or.inl (hw _ (List.mem_of_getElem? (i := 12) rfl))) Via.refl e21 ((((Fw8.other W9 (Or.inr (slot_ne (Or.inl (hw _ (List.mem_of_getElem? (i := 13) rfl))) (Or.inl (hw _ (List.mem_of_getElem? (i := 15) rfl))) (by decide) (t := (.array (.array .byte))) (t' := .int) (by decide) (by decide)))).other W11 (Or.inr (slot_ne (Or.inl (hw _ (List.mem_of_getElem? (i := 13) rfl))) (Or.inl (hw _ (List.mem_of_getElem? (i := 20) rfl))) (by decide) (t := (.array (.array .byte))) (t' := .int) (by decide) (by decide)))).ext E20).other W21 (Or.inl naW)) (g := (mkF m 232 #[.val (.ref a1), .val (.int p2), .val (.int w0), .val (.int (0 : Int32)), .val (.int ((0 : Int32) * w0))] [(.ref a1), (.long (((0 : Int32).toInt64) * (65536 : Int64))), (.long (2147483647 : Int64)), (.ref a1)])) rfl rfl (hb hby d4_232)
  obtain ⟨cl_bW_236, Ar_bW_236, q_bW_236, S_bW_236, N_bW_236, H_bW_236, G_bW_236⟩ := (id V_bW_21)
  have hin236 : ¬ ((0 : Int32) < 0 ∨ cl_bW_236.slots.size ≤ ((0 : Int32)).toNatClampNeg) := inb_of S_bW_236 ⟨by decide, by decide⟩
  have hat236 : cl_bW_236.slots[((0 : Int32)).toNatClampNeg]? = some (.ref b20) := H_bW_236.at hin236 rfl
  obtain ⟨cl_b20_237, Ar_b20_237, q_b20_237, S_b20_237, N_b20_237, H_b20_237, G_b20_237⟩ := (V_b20.other W21 (Ne.symm nPb))
  obtain ⟨T23, X23, e23, st23⟩ := getF X22 hx hZ hown (host := "") (Or.inl (hw _ (List.mem_of_getElem? (i := 14) rfl))) Via.refl e22 (((Fw9.other W11 (Or.inr (slot_ne (Or.inl (hw _ (List.mem_of_getElem? (i := 15) rfl))) (Or.inl (hw _ (List.mem_of_getElem? (i := 20) rfl))) (by decide) (t := .int) (t' := .int) (by decide) (by decide)))).ext E20).other W21 (Or.inl naW)) (g := (mkF m 239 #[.val (.ref a1), .val (.int p2), .val (.int w0), .val (.int (0 : Int32)), .val (.int ((0 : Int32) * w0))] [(.ref a1), (.int ((64 : Int32) * w0)), (.long (((0 : Int32).toInt64) * (65536 : Int64))), (.long (2147483647 : Int64)), (.ref a1)])) rfl rfl (hb hby d4_239)
  obtain ⟨_, _, ⟨T24, L24, k24, n24⟩, -, X24, ⟨Lc24, hQ24, l24, y24, z24⟩, st24⟩ := Jvm.LawKit.callS X23 hx (y := (⟨"java/lang/Math", "min", "(JJ)J"⟩ : MethodName)) hown (mvT hZ (hw _ (List.mem_of_getElem? (i := 49) rfl))) (mvT hZ (hw _ (List.mem_of_getElem? (i := 50) rfl))) (mvT hZ (hw _ (List.mem_of_getElem? (i := 40) rfl))) (mvT hZ (hw _ (List.mem_of_getElem? (i := 51) rfl))) (by decide) (backOf (W := 1) (rm8_t l Z a0 hw [] (2147483647 : Int64) ((((0 : Int32).toInt64) * (65536 : Int64)) + ((((64 : Int32) * w0) / w0).toInt64)) h21 n0 (Nat.le_trans Z0 K21.1) (by rcases hok with rfl | rfl | rfl | rfl <;> decide)) hZ (hw _ (List.mem_of_getElem? (i := 51) rfl)) (hw _ (List.mem_of_getElem? (i := 40) rfl)) (by decide) (by decide)) (g := (mkF m 245 #[.val (.ref a1), .val (.int p2), .val (.int w0), .val (.int (0 : Int32)), .val (.int ((0 : Int32) * w0))] [(.long ((((0 : Int32).toInt64) * (65536 : Int64)) + ((((64 : Int32) * w0) / w0).toInt64))), (.long (2147483647 : Int64)), (.ref a1)])) rfl (by rw [hml]; rfl) (argsL := [(.long (2147483647 : Int64)), (.long ((((0 : Int32).toInt64) * (65536 : Int64)) + ((((64 : Int32) * w0) / w0).toInt64)))]) (rest := [(.ref a1)]) (lenOf pd_4_4 rfl) rfl (by show 2 * 0 + _ ≤ _; exact Nat.le_of_eq rfl) (hb hby d4_245) (fun _ _ => ⟨rfl, e23, (by decide : 2 + 0 ≤ _), (by decide : 257 + 0 ≤ _)⟩)
  dsimp only [Pt.U, Pt.locs, Pt.cells, Pt.slots] at X24 l24 y24 z24 st24 hQ24
  subst l24 y24 z24
  obtain ⟨rfl, N24q, eq24⟩ := hQ24
  have N24 := Fr.app N21 N24q
  obtain ⟨T25, h25, X25, e25, W25, st25⟩ := putF X24 hx hZ hown (host := "") (Or.inl (hw _ (List.mem_of_getElem? (i := 28) rfl))) Via.refl eq24 ((((((F_m_nRoom_a1.keep Kq7 List.not_mem_nil).other W8 (Or.inr (slot_ne (Or.inl (hw _ (List.mem_of_getElem? (i := 29) rfl))) (Or.inl (hw _ (List.mem_of_getElem? (i := 13) rfl))) (by decide) (t := .int) (t' := (.array (.array .byte))) (by decide) (by decide)))).other W9 (Or.inr (slot_ne (Or.inl (hw _ (List.mem_of_getElem? (i := 29) rfl))) (Or.inl (hw _ (List.mem_of_getElem? (i := 15) rfl))) (by decide) (t := .int) (t' := .int) (by decide) (by decide)))).other W11 (Or.inr (slot_ne (Or.inl (hw _ (List.mem_of_getElem? (i := 29) rfl))) (Or.inl (hw _ (List.mem_of_getElem? (i := 20) rfl))) (by decide) (t := .int) (t' := .int) (by decide) (by decide)))).ext E20).other W21 (Or.inl naW)) ((((((E_a1.keep Kq7).wr W8).wr W9).wr W11).ext E20).wr W21) (Or.inl (hw _ (List.mem_of_getElem? (i := 29) rfl))) (hw _ (List.mem_of_getElem? (i := 2) rfl)) (ty := .int) (by decide) rfl rfl (g := (mkF m 249 #[.val (.ref a1), .val (.int p2), .val (.int w0), .val (.int (0 : Int32)), .val (.int ((0 : Int32) * w0))] [(.int (((((0 : Int32).toInt64) * (65536 : Int64)) + ((((64 : Int32) * w0) / w0).toInt64)).toInt32)), (.ref a1)])) rfl rfl (hb hby d4_249)
  have Fw25 := ((((((F_m_nRoom_a1.keep Kq7 List.not_mem_nil).other W8 (Or.inr (slot_ne (Or.inl (hw _ (List.mem_of_getElem? (i := 29) rfl))) (Or.inl (hw _ (List.mem_of_getElem? (i := 13) rfl))) (by decide) (t := .int) (t' := (.array (.array .byte))) (by decide) (by decide)))).other W9 (Or.inr (slot_ne (Or.inl (hw _ (List.mem_of_getElem? (i := 29) rfl))) (Or.inl (hw _ (List.mem_of_getElem? (i := 15) rfl))) (by decide) (t := .int) (t' := .int) (by decide) (by decide)))).other W11 (Or.inr (slot_ne (Or.inl (hw _ (List.mem_of_getElem? (i := 29) rfl))) (Or.inl (hw _ (List.mem_of_getElem? (i := 20) rfl))) (by decide) (t := .int) (t' := .int) (by decide) (by decide)))).ext E20).other W21 (Or.inl naW)).same W25
  have K25 : Keep h0 h25 [a1, bW] := K21.wr W25 (Or.inl (List.mem_of_getElem? (i := 0) rfl))
  have hroom : ((((0 : Int32).toInt64) * (65536 : Int64)) + ((((64 : Int32) * w0) / w0).toInt64)).toInt32 = (64 : Int32) := (by rcases hok with rfl | rfl | rfl | rfl <;> decide)
  rw [hroom] at Fw25
  have N25 := Fr.snoc X25 N24 g_a1
  obtain ⟨fs, hr, hrun, hended, hW, hsame⟩ := X25.leave (v := none) (fun _ => rfl)
  refine ⟨_, _, pre0 _ ?_, hrun, hended, _, _, rfl, ?_, ⟨_, rfl⟩, hW, hsame.mono (by decide) (by decide)⟩
  · show Steps p.tables e below (s₁.setTop (mkF m 0 #[.val (.ref a1), .val (.int p2), .unset, .unset, .unset] [])) _
    refine XS.iloadN X0.here hx rfl (hb hby d4_0) rfl ?_
    show Steps p.tables e below (s₁.setTop (mkF m 1 #[.val (.ref a1), .val (.int p2), .unset, .unset, .unset] [(.int p2)])) _
    refine XS.ifNo X0.here hx rfl (hb hby d4_1) rfl ((if0 _ _).trans (flt hc1).1) ?_
    show Steps p.tables e below (s₁.setTop (mkF m 4 #[.val (.ref a1), .val (.int p2), .unset, .unset, .unset] [])) _
    refine XS.iloadN X0.here hx rfl (hb hby d4_4) rfl ?_
    show Steps p.tables e below (s₁.setTop (mkF m 5 #[.val (.ref a1), .val (.int p2), .unset, .unset, .unset] [(.int p2)])) _
    refine XS.aloadN X0.here hx rfl (hb hby d4_5) rfl rfl ?_
    show Steps p.tables e below (s₁.setTop (mkF m 6 #[.val (.ref a1), .val (.int p2), .unset, .unset, .unset] [(.ref a1), (.int p2)])) _
    refine st3 _ ?_
    show Steps p.tables e below (T3.setTop (mkF m 9 #[.val (.ref a1), .val (.int p2), .unset, .unset, .unset] [(.int (255 : Int32)), (.int p2)])) _
    refine XS.icmpYes X3.here hx rfl (pc0 := 9) (pc' := 24) rfl (hb hby d4_9) rfl (tlt hc9).2.2.1 (by decide) (by decide) ?_
    show Steps p.tables e below (T3.setTop (mkF m 24 #[.val (.ref a1), .val (.int p2), .unset, .unset, .unset] [])) _
    refine XS.iloadN X3.here hx rfl (hb hby d4_24) rfl ?_
    show Steps p.tables e below (T3.setTop (mkF m 25 #[.val (.ref a1), .val (.int p2), .unset, .unset, .unset] [(.int p2)])) _
    refine XS.ifYes X3.here hx rfl (pc0 := 25) (pc' := 42) rfl (hb hby d4_25) rfl ((if0 _ _).trans (flt hc25).2.1) (by decide) (by decide) ?_
    show Steps p.tables e below (T3.setTop (mkF m 42 #[.val (.ref a1), .val (.int p2), .unset, .unset, .unset] [])) _
    refine XS.aloadN X3.here hx rfl (hb hby d4_42) rfl rfl ?_
    show Steps p.tables e below (T3.setTop (mkF m 43 #[.val (.ref a1), .val (.int p2), .unset, .unset, .unset] [(.ref a1)])) _
    refine st4 _ ?_
    show Steps p.tables e below (T4.setTop (mkF m 46 #[.val (.ref a1), .val (.int p2), .unset, .unset, .unset] [(.int (0 : Int32))])) _
    refine X4.ldcInt hx hown (mvT hZ (hw _ (List.mem_of_getElem? (i := 30) rfl))) (g := (mkF m 46 #[.val (.ref a1), .val (.int p2), .unset, .unset, .unset] [(.int (0 : Int32))])) rfl (hb hby d4_46) _ ?_
    show Steps p.tables e below (T4.setTop (mkF m 48 #[.val (.ref a1), .val (.int p2), .unset, .unset, .unset] [(.int (2147483647 : Int32)), (.int (0 : Int32))])) _
    refine XS.icmpYes X4.here hx rfl (pc0 := 48) (pc' := 61) rfl (hb hby d4_48) rfl (feq (by decide : ¬ ((0 : Int32) = (2147483647 : Int32)))).2 (by decide) (by decide) ?_
    show Steps p.tables e below (T4.setTop (mkF m 61 #[.val (.ref a1), .val (.int p2), .unset, .unset, .unset] [])) _
    refine XS.iloadN X4.here hx rfl (hb hby d4_61) rfl ?_
    show Steps p.tables e below (T4.setTop (mkF m 62 #[.val (.ref a1), .val (.int p2), .unset, .unset, .unset] [(.int p2)])) _
    refine st5 _ ?_
    show Steps p.tables e below (T5.setTop (mkF m 65 #[.val (.ref a1), .val (.int p2), .unset, .unset, .unset] [(.int w0)])) _
    refine XS.istoreN X5.here hx rfl (hb hby d4_65) rfl (l' := #[.val (.ref a1), .val (.int p2), .val (.int w0), .unset, .unset]) rfl ?_
    show Steps p.tables e below (T5.setTop (mkF m 66 #[.val (.ref a1), .val (.int p2), .val (.int w0), .unset, .unset] [])) _
    refine XS.iloadN X5.here hx rfl (hb hby d4_66) rfl ?_
    show Steps p.tables e below (T5.setTop (mkF m 67 #[.val (.ref a1), .val (.int p2), .val (.int w0), .unset, .unset] [(.int w0)])) _
    refine XS.aloadN X5.here hx rfl (hb hby d4_67) rfl rfl ?_
    show Steps p.tables e below (T5.setTop (mkF m 68 #[.val (.ref a1), .val (.int p2), .val (.int w0), .unset, .unset] [(.ref a1), (.int w0)])) _
    refine st6 _ ?_
    show Steps p.tables e below (T6.setTop (mkF m 71 #[.val (.ref a1), .val (.int p2), .val (.int w0), .unset, .unset] [(.int (1 : Int32)), (.int w0)])) _
    refine XS.icmpNo X6.here hx rfl (hb hby d4_71) rfl (tlt hc71).2.2.2 ?_
    show Steps p.tables e below (T6.setTop (mkF m 74 #[.val (.ref a1), .val (.int p2), .val (.int w0), .unset, .unset] [])) _
    refine XS.aloadN X6.here hx rfl (hb hby d4_74) rfl rfl ?_
    show Steps p.tables e below (T6.setTop (mkF m 75 #[.val (.ref a1), .val (.int p2), .val (.int w0), .unset, .unset] [(.ref a1)])) _
    refine XS.aloadN X6.here hx rfl (hb hby d4_75) rfl rfl ?_
    show Steps p.tables e below (T6.setTop (mkF m 76 #[.val (.ref a1), .val (.int p2), .val (.int w0), .unset, .unset] [(.ref a1), (.ref a1)])) _
    refine XS.iloadN X6.here hx rfl (hb hby d4_76) rfl ?_
    show Steps p.tables e below (T6.setTop (mkF m 77 #[.val (.ref a1), .val (.int p2), .val (.int w0), .unset, .unset] [(.int w0), (.ref a1), (.ref a1)])) _
    refine st7.trans ?_
    show Steps p.tables e below (T7.setTop (mkF m 80 #[.val (.ref a1), .val (.int p2), .val (.int w0), .unset, .unset] [(.ref bW), (.ref a1)])) _
    refine st8 _ ?_
    show Steps p.tables e below (T8.setTop (mkF m 83 #[.val (.ref a1), .val (.int p2), .val (.int w0), .unset, .unset] [])) _
    refine XS.aloadN X8.here hx rfl (hb hby d4_83) rfl rfl ?_
    show Steps p.tables e below (T8.setTop (mkF m 84 #[.val (.ref a1), .val (.int p2), .val (.int w0), .unset, .unset] [(.ref a1)])) _
    refine XS.iloadN X8.here hx rfl (hb hby d4_84) rfl ?_
    show Steps p.tables e below (T8.setTop (mkF m 85 #[.val (.ref a1), .val (.int p2), .val (.int w0), .unset, .unset] [(.int w0), (.ref a1)])) _
    refine st9 _ ?_
    show Steps p.tables e below (T9.setTop (mkF m 88 #[.val (.ref a1), .val (.int p2), .val (.int w0), .unset, .unset] [])) _
    refine XS.aloadN X9.here hx rfl (hb hby d4_88) rfl rfl ?_
    show Steps p.tables e below (T9.setTop (mkF m 89 #[.val (.ref a1), .val (.int p2), .val (.int w0), .unset, .unset] [(.ref a1)])) _
    refine XS.iloadN X9.here hx rfl (hb hby d4_89) rfl ?_
    show Steps p.tables e below (T9.setTop (mkF m 90 #[.val (.ref a1), .val (.int p2), .val (.int w0), .unset, .unset] [(.int w0), (.ref a1)])) _
    refine st10 _ ?_
    show Steps p.tables e below (T10.setTop (mkF m 93 #[.val (.ref a1), .val (.int p2), .val (.int w0), .unset, .unset] [(.int (own_widest w0)), (.ref a1)])) _
    refine st11 _ ?_
    show Steps p.tables e below (T11.setTop (mkF m 96 #[.val (.ref a1), .val (.int p2), .val (.int w0), .unset, .unset] [])) _
    refine XS.aloadN X11.here hx rfl (hb hby d4_96) rfl rfl ?_
    show Steps p.tables e below (T11.setTop (mkF m 97 #[.val (.ref a1), .val (.int p2), .val (.int w0), .unset, .unset] [(.ref a1)])) _
    refine st12 _ ?_
    show Steps p.tables e below (T12.setTop (mkF m 100 #[.val (.ref a1), .val (.int p2), .val (.int w0), .unset, .unset] [(.int (0 : Int32))])) _
    refine st13 _ ?_
    show Steps p.tables e below (T13.setTop (mkF m 103 #[.val (.ref a1), .val (.int p2), .val (.int w0), .unset, .unset] [(.int (16 : Int32)), (.int (0 : Int32))])) _
    refine XS.iushr X13.here hx rfl (hb hby d4_103) rfl ?_
    show Steps p.tables e below (T13.setTop (mkF m 104 #[.val (.ref a1), .val (.int p2), .val (.int w0), .unset, .unset] [(.int (0 : Int32))])) _
    refine XS.istoreN X13.here hx rfl (hb hby d4_104) rfl (l' := #[.val (.ref a1), .val (.int p2), .val (.int w0), .val (.int (0 : Int32)), .unset]) rfl ?_
    show Steps p.tables e below (T13.setTop (mkF m 105 #[.val (.ref a1), .val (.int p2), .val (.int w0), .val (.int (0 : Int32)), .unset] [])) _
    refine XS.iloadN X13.here hx rfl (hb hby d4_105) rfl ?_
    show Steps p.tables e below (T13.setTop (mkF m 106 #[.val (.ref a1), .val (.int p2), .val (.int w0), .val (.int (0 : Int32)), .unset] [(.int (0 : Int32))])) _
    refine XS.aloadN X13.here hx rfl (hb hby d4_106) rfl rfl ?_
    show Steps p.tables e below (T13.setTop (mkF m 107 #[.val (.ref a1), .val (.int p2), .val (.int w0), .val (.int (0 : Int32)), .unset] [(.ref a1), (.int (0 : Int32))])) _
    refine st14 _ ?_
    show Steps p.tables e below (T14.setTop (mkF m 110 #[.val (.ref a1), .val (.int p2), .val (.int w0), .val (.int (0 : Int32)), .unset] [(.ref bW), (.int (0 : Int32))])) _
    refine X14.arraylength hx (by rw [e14]; exact Ar_bW_110.1) (State.isArrayOf_alike hZ.alike Ar_bW_110.2.1) (g := (mkF m 110 #[.val (.ref a1), .val (.int p2), .val (.int w0), .val (.int (0 : Int32)), .unset] [(.ref bW), (.int (0 : Int32))])) rfl rfl (hb hby d4_110) _ ?_
    rw [len_of S_bW_110 N_bW_110]
    show Steps p.tables e below (T14.setTop (mkF m 111 #[.val (.ref a1), .val (.int p2), .val (.int w0), .val (.int (0 : Int32)), .unset] [(.int (1 : Int32)), (.int (0 : Int32))])) _
    refine XS.icmpYes X14.here hx rfl (pc0 := 111) (pc' := 135) rfl (hb hby d4_111) rfl (feq (by decide : ¬ ((0 : Int32) = (1 : Int32)))).2 (by decide) (by decide) ?_
    show Steps p.tables e below (T14.setTop (mkF m 135 #[.val (.ref a1), .val (.int p2), .val (.int w0), .val (.int (0 : Int32)), .unset] [])) _
    refine XS.aloadN X14.here hx rfl (hb hby d4_135) rfl rfl ?_
    show Steps p.tables e below (T14.setTop (mkF m 136 #[.val (.ref a1), .val (.int p2), .val (.int w0), .val (.int (0 : Int32)), .unset] [(.ref a1)])) _
    refine st15 _ ?_
    show Steps p.tables e below (T15.setTop (mkF m 139 #[.val (.ref a1), .val (.int p2), .val (.int w0), .val (.int (0 : Int32)), .unset] [(.int (0 : Int32))])) _
    refine X15.ldcInt hx hown (mvT hZ (hw _ (List.mem_of_getElem? (i := 44) rfl))) (g := (mkF m 139 #[.val (.ref a1), .val (.int p2), .val (.int w0), .val (.int (0 : Int32)), .unset] [(.int (0 : Int32))])) rfl (hb hby d4_139) _ ?_
    show Steps p.tables e below (T15.setTop (mkF m 141 #[.val (.ref a1), .val (.int p2), .val (.int w0), .val (.int (0 : Int32)), .unset] [(.int (65535 : Int32)), (.int (0 : Int32))])) _
    refine XS.iand X15.here hx rfl (hb hby d4_141) rfl ?_
    show Steps p.tables e below (T15.setTop (mkF m 142 #[.val (.ref a1), .val (.int p2), .val (.int w0), .val (.int (0 : Int32)), .unset] [(.int (0 : Int32))])) _
    refine XS.aloadN X15.here hx rfl (hb hby d4_142) rfl rfl ?_
    show Steps p.tables e below (T15.setTop (mkF m 143 #[.val (.ref a1), .val (.int p2), .val (.int w0), .val (.int (0 : Int32)), .unset] [(.ref a1), (.int (0 : Int32))])) _
    refine st16 _ ?_
    show Steps p.tables e below (T16.setTop (mkF m 146 #[.val (.ref a1), .val (.int p2), .val (.int w0), .val (.int (0 : Int32)), .unset] [(.int w0), (.int (0 : Int32))])) _
    refine XS.imul X16.here hx rfl (hb hby d4_146) rfl ?_
    show Steps p.tables e below (T16.setTop (mkF m 147 #[.val (.ref a1), .val (.int p2), .val (.int w0), .val (.int (0 : Int32)), .unset] [(.int ((0 : Int32) * w0))])) _
    refine XS.istore X16.here hx rfl (hb hby d4_147) rfl (l' := #[.val (.ref a1), .val (.int p2), .val (.int w0), .val (.int (0 : Int32)), .val (.int ((0 : Int32) * w0))]) rfl ?_
    show Steps p.tables e below (T16.setTop (mkF m 149 #[.val (.ref a1), .val (.int p2), .val (.int w0), .val (.int (0 : Int32)), .val (.int ((0 : Int32) * w0))] [])) _
    refine XS.aloadN X16.here hx rfl (hb hby d4_149) rfl rfl ?_
    show Steps p.tables e below (T16.setTop (mkF m 150 #[.val (.ref a1), .val (.int p2), .val (.int w0), .val (.int (0 : Int32)), .val (.int ((0 : Int32) * w0))] [(.ref a1)])) _
    refine st17 _ ?_
    show Steps p.tables e below (T17.setTop (mkF m 153 #[.val (.ref a1), .val (.int p2), .val (.int w0), .val (.int (0 : Int32)), .val (.int ((0 : Int32) * w0))] [(.ref bW)])) _
    refine XS.iloadN X17.here hx rfl (hb hby d4_153) rfl ?_
    show Steps p.tables e below (T17.setTop (mkF m 154 #[.val (.ref a1), .val (.int p2), .val (.int w0), .val (.int (0 : Int32)), .val (.int ((0 : Int32) * w0))] [(.int (0 : Int32)), (.ref bW)])) _
    refine X17.aaload hx (j := (0 : Int32)) (v := .null) (by rw [e17]; exact Ar_bW_110.1) (State.isArrayOf_alike hZ.alike Ar_bW_110.2.1) rfl Ar_bW_110.2.2 hin154 hat154 (g := (mkF m 154 #[.val (.ref a1), .val (.int p2), .val (.int w0), .val (.int (0 : Int32)), .val (.int ((0 : Int32) * w0))] [(.int (0 : Int32)), (.ref bW)])) rfl rfl (hb hby d4_154) _ ?_
    show Steps p.tables e below (T17.setTop (mkF m 155 #[.val (.ref a1), .val (.int p2), .val (.int w0), .val (.int (0 : Int32)), .val (.int ((0 : Int32) * w0))] [.null])) _
    refine XS.ifnonnullNo X17.here hx rfl (hb hby d4_155) rfl ?_
    show Steps p.tables e below (T17.setTop (mkF m 158 #[.val (.ref a1), .val (.int p2), .val (.int w0), .val (.int (0 : Int32)), .val (.int ((0 : Int32) * w0))] [])) _
    refine XS.aloadN X17.here hx rfl (hb hby d4_158) rfl rfl ?_
    show Steps p.tables e below (T17.setTop (mkF m 159 #[.val (.ref a1), .val (.int p2), .val (.int w0), .val (.int (0 : Int32)), .val (.int ((0 : Int32) * w0))] [(.ref a1)])) _
    refine st18 _ ?_
    show Steps p.tables e below (T18.setTop (mkF m 162 #[.val (.ref a1), .val (.int p2), .val (.int w0), .val (.int (0 : Int32)), .val (.int ((0 : Int32) * w0))] [(.ref bW)])) _
    refine XS.iloadN X18.here hx rfl (hb hby d4_162) rfl ?_
    show Steps p.tables e below (T18.setTop (mkF m 163 #[.val (.ref a1), .val (.int p2), .val (.int w0), .val (.int (0 : Int32)), .val (.int ((0 : Int32) * w0))] [(.int (0 : Int32)), (.ref bW)])) _
    refine XS.iloadN X18.here hx rfl (hb hby d4_163) rfl ?_
    show Steps p.tables e below (T18.setTop (mkF m 164 #[.val (.ref a1), .val (.int p2), .val (.int w0), .val (.int (0 : Int32)), .val (.int ((0 : Int32) * w0))] [(.int (0 : Int32)), (.int (0 : Int32)), (.ref bW)])) _
    refine XS.ifNo X18.here hx rfl (hb hby d4_164) rfl ((if0 _ _).trans (teq (rfl : (0 : Int32) = (0 : Int32))).2) ?_
    show Steps p.tables e below (T18.setTop (mkF m 167 #[.val (.ref a1), .val (.int p2), .val (.int w0), .val (.int (0 : Int32)), .val (.int ((0 : Int32) * w0))] [(.int (0 : Int32)), (.ref bW)])) _
    refine XS.bipush X18.here hx rfl (hb hby d4_167) ?_
    show Steps p.tables e below (T18.setTop (mkF m 169 #[.val (.ref a1), .val (.int p2), .val (.int w0), .val (.int (0 : Int32)), .val (.int ((0 : Int32) * w0))] [(.int (64 : Int32)), (.int (0 : Int32)), (.ref bW)])) _
    refine XS.goto X18.here hx rfl (pc0 := 169) (pc' := 174) rfl (hb hby d4_169) (by decide) (by decide) ?_
    show Steps p.tables e below (T18.setTop (mkF m 174 #[.val (.ref a1), .val (.int p2), .val (.int w0), .val (.int (0 : Int32)), .val (.int ((0 : Int32) * w0))] [(.int (64 : Int32)), (.int (0 : Int32)), (.ref bW)])) _
    refine XS.aloadN X18.here hx rfl (hb hby d4_174) rfl rfl ?_
    show Steps p.tables e below (T18.setTop (mkF m 175 #[.val (.ref a1), .val (.int p2), .val (.int w0), .val (.int (0 : Int32)), .val (.int ((0 : Int32) * w0))] [(.ref a1), (.int (64 : Int32)), (.int (0 : Int32)), (.ref bW)])) _
    refine st19 _ ?_
    show Steps p.tables e below (T19.setTop (mkF m 178 #[.val (.ref a1), .val (.int p2), .val (.int w0), .val (.int (0 : Int32)), .val (.int ((0 : Int32) * w0))] [(.int w0), (.int (64 : Int32)), (.int (0 : Int32)), (.ref bW)])) _
    refine XS.imul X19.here hx rfl (hb hby d4_178) rfl ?_
    show Steps p.tables e below (T19.setTop (mkF m 179 #[.val (.ref a1), .val (.int p2), .val (.int w0), .val (.int (0 : Int32)), .val (.int ((0 : Int32) * w0))] [(.int ((64 : Int32) * w0)), (.int (0 : Int32)), (.ref bW)])) _
    refine st20 _ ?_
    show Steps p.tables e below (T20.setTop (mkF m 181 #[.val (.ref a1), .val (.int p2), .val (.int w0), .val (.int (0 : Int32)), .val (.int ((0 : Int32) * w0))] [(.ref b20), (.int (0 : Int32)), (.ref bW)])) _
    refine st21 _ ?_
    show Steps p.tables e below (T21.setTop (mkF m 182 #[.val (.ref a1), .val (.int p2), .val (.int w0), .val (.int (0 : Int32)), .val (.int ((0 : Int32) * w0))] [])) _
    refine XS.goto X21.here hx rfl (pc0 := 182) (pc' := 221) rfl (hb hby d4_182) (by decide) (by decide) ?_
    show Steps p.tables e below (T21.setTop (mkF m 221 #[.val (.ref a1), .val (.int p2), .val (.int w0), .val (.int (0 : Int32)), .val (.int ((0 : Int32) * w0))] [])) _
    refine XS.aloadN X21.here hx rfl (hb hby d4_221) rfl rfl ?_
    show Steps p.tables e below (T21.setTop (mkF m 222 #[.val (.ref a1), .val (.int p2), .val (.int w0), .val (.int (0 : Int32)), .val (.int ((0 : Int32) * w0))] [(.ref a1)])) _
    refine X21.ldc2Long hx hown (mvT hZ (hw _ (List.mem_of_getElem? (i := 47) rfl))) (g := (mkF m 222 #[.val (.ref a1), .val (.int p2), .val (.int w0), .val (.int (0 : Int32)), .val (.int ((0 : Int32) * w0))] [(.ref a1)])) rfl (hb hby d4_222) _ ?_
    show Steps p.tables e below (T21.setTop (mkF m 225 #[.val (.ref a1), .val (.int p2), .val (.int w0), .val (.int (0 : Int32)), .val (.int ((0 : Int32) * w0))] [(.long (2147483647 : Int64)), (.ref a1)])) _
    refine XS.iloadN X21.here hx rfl (hb hby d4_225) rfl ?_
    show Steps p.tables e below (T21.setTop (mkF m 226 #[.val (.ref a1), .val (.int p2), .val (.int w0), .val (.int (0 : Int32)), .val (.int ((0 : Int32) * w0))] [(.int (0 : Int32)), (.long (2147483647 : Int64)), (.ref a1)])) _
    refine XS.i2l X21.here hx rfl (hb hby d4_226) rfl ?_
    show Steps p.tables e below (T21.setTop (mkF m 227 #[.val (.ref a1), .val (.int p2), .val (.int w0), .val (.int (0 : Int32)), .val (.int ((0 : Int32) * w0))] [(.long ((0 : Int32).toInt64)), (.long (2147483647 : Int64)), (.ref a1)])) _
    refine X21.ldc2Long hx hown (mvT hZ (hw _ (List.mem_of_getElem? (i := 48) rfl))) (g := (mkF m 227 #[.val (.ref a1), .val (.int p2), .val (.int w0), .val (.int (0 : Int32)), .val (.int ((0 : Int32) * w0))] [(.long ((0 : Int32).toInt64)), (.long (2147483647 : Int64)), (.ref a1)])) rfl (hb hby d4_227) _ ?_
    show Steps p.tables e below (T21.setTop (mkF m 230 #[.val (.ref a1), .val (.int p2), .val (.int w0), .val (.int (0 : Int32)), .val (.int ((0 : Int32) * w0))] [(.long (65536 : Int64)), (.long ((0 : Int32).toInt64)), (.long (2147483647 : Int64)), (.ref a1)])) _
    refine XS.lmul X21.here hx rfl (hb hby d4_230) rfl ?_
    show Steps p.tables e below (T21.setTop (mkF m 231 #[.val (.ref a1), .val (.int p2), .val (.int w0), .val (.int (0 : Int32)), .val (.int ((0 : Int32) * w0))] [(.long (((0 : Int32).toInt64) * (65536 : Int64))), (.long (2147483647 : Int64)), (.ref a1)])) _
    refine XS.aloadN X21.here hx rfl (hb hby d4_231) rfl rfl ?_
    show Steps p.tables e below (T21.setTop (mkF m 232 #[.val (.ref a1), .val (.int p2), .val (.int w0), .val (.int (0 : Int32)), .val (.int ((0 : Int32) * w0))] [(.ref a1), (.long (((0 : Int32).toInt64) * (65536 : Int64))), (.long (2147483647 : Int64)), (.ref a1)])) _
    refine st22 _ ?_
    show Steps p.tables e below (T22.setTop (mkF m 235 #[.val (.ref a1), .val (.int p2), .val (.int w0), .val (.int (0 : Int32)), .val (.int ((0 : Int32) * w0))] [(.ref bW), (.long (((0 : Int32).toInt64) * (65536 : Int64))), (.long (2147483647 : Int64)), (.ref a1)])) _
    refine XS.iloadN X22.here hx rfl (hb hby d4_235) rfl ?_
    show Steps p.tables e below (T22.setTop (mkF m 236 #[.val (.ref a1), .val (.int p2), .val (.int w0), .val (.int (0 : Int32)), .val (.int ((0 : Int32) * w0))] [(.int (0 : Int32)), (.ref bW), (.long (((0 : Int32).toInt64) * (65536 : Int64))), (.long (2147483647 : Int64)), (.ref a1)])) _
    refine X22.aaload hx (j := (0 : Int32)) (v := (.ref b20)) (by rw [e22]; exact Ar_bW_236.1) (State.isArrayOf_alike hZ.alike Ar_bW_236.2.1) rfl Ar_bW_236.2.2 hin236 hat236 (g := (mkF m 236 #[.val (.ref a1), .val (.int p2), .val (.int w0), .val (.int (0 : Int32)), .val (.int ((0 : Int32) * w0))] [(.int (0 : Int32)), (.ref bW), (.long (((0 : Int32).toInt64) * (65536 : Int64))), (.long (2147483647 : Int64)), (.ref a1)])) rfl rfl (hb hby d4_236) _ ?_
    show Steps p.tables e below (T22.setTop (mkF m 237 #[.val (.ref a1), .val (.int p2), .val (.int w0), .val (.int (0 : Int32)), .val (.int ((0 : Int32) * w0))] [(.ref b20), (.long (((0 : Int32).toInt64) * (65536 : Int64))), (.long (2147483647 : Int64)), (.ref a1)])) _
    refine X22.arraylength hx (by rw [e22]; exact Ar_b20_237.1) (State.isArrayOf_alike hZ.alike Ar_b20_237.2.1) (g := (mkF m 237 #[.val (.ref a1), .val (.int p2), .val (.int w0), .val (.int (0 : Int32)), .val (.int ((0 : Int32) * w0))] [(.ref b20), (.long (((0 : Int32).toInt64) * (65536 : Int64))), (.long (2147483647 : Int64)), (.ref a1)])) rfl rfl (hb hby d4_237) _ ?_
    rw [len_of S_b20_237 N_b20_237]
    show Steps p.tables e below (T22.setTop (mkF m 238 #[.val (.ref a1), .val (.int p2), .val (.int w0), .val (.int (0 : Int32)), .val (.int ((0 : Int32) * w0))] [(.int ((64 : Int32) * w0)), (.long (((0 : Int32).toInt64) * (65536 : Int64))), (.long (2147483647 : Int64)), (.ref a1)])) _
    refine XS.aloadN X22.here hx rfl (hb hby d4_238) rfl rfl ?_
    show Steps p.tables e below (T22.setTop (mkF m 239 #[.val (.ref a1), .val (.int p2), .val (.int w0), .val (.int (0 : Int32)), .val (.int ((0 : Int32) * w0))] [(.ref a1), (.int ((64 : Int32) * w0)), (.long (((0 : Int32).toInt64) * (65536 : Int64))), (.long (2147483647 : Int64)), (.ref a1)])) _
    refine st23 _ ?_
    show Steps p.tables e below (T23.setTop (mkF m 242 #[.val (.ref a1), .val (.int p2), .val (.int w0), .val (.int (0 : Int32)), .val (.int ((0 : Int32) * w0))] [(.int w0), (.int ((64 : Int32) * w0)), (.long (((0 : Int32).toInt64) * (65536 : Int64))), (.long (2147483647 : Int64)), (.ref a1)])) _
    refine XS.idiv X23.here hx rfl (hb hby d4_242) rfl hnz242 ?_
    show Steps p.tables e below (T23.setTop (mkF m 243 #[.val (.ref a1), .val (.int p2), .val (.int w0), .val (.int (0 : Int32)), .val (.int ((0 : Int32) * w0))] [(.int (((64 : Int32) * w0) / w0)), (.long (((0 : Int32).toInt64) * (65536 : Int64))), (.long (2147483647 : Int64)), (.ref a1)])) _
    refine XS.i2l X23.here hx rfl (hb hby d4_243) rfl ?_
    show Steps p.tables e below (T23.setTop (mkF m 244 #[.val (.ref a1), .val (.int p2), .val (.int w0), .val (.int (0 : Int32)), .val (.int ((0 : Int32) * w0))] [(.long ((((64 : Int32) * w0) / w0).toInt64)), (.long (((0 : Int32).toInt64) * (65536 : Int64))), (.long (2147483647 : Int64)), (.ref a1)])) _
    refine XS.ladd X23.here hx rfl (hb hby d4_244) rfl ?_
    show Steps p.tables e below (T23.setTop (mkF m 245 #[.val (.ref a1), .val (.int p2), .val (.int w0), .val (.int (0 : Int32)), .val (.int ((0 : Int32) * w0))] [(.long ((((0 : Int32).toInt64) * (65536 : Int64)) + ((((64 : Int32) * w0) / w0).toInt64))), (.long (2147483647 : Int64)), (.ref a1)])) _
    refine st24 _ ?_
    show Steps p.tables e below (T24.setTop (mkF m 248 #[.val (.ref a1), .val (.int p2), .val (.int w0), .val (.int (0 : Int32)), .val (.int ((0 : Int32) * w0))] [(.long ((((0 : Int32).toInt64) * (65536 : Int64)) + ((((64 : Int32) * w0) / w0).toInt64))), (.ref a1)])) _
    refine XS.l2i X24.here hx rfl (hb hby d4_248) rfl ?_
    show Steps p.tables e below (T24.setTop (mkF m 249 #[.val (.ref a1), .val (.int p2), .val (.int w0), .val (.int (0 : Int32)), .val (.int ((0 : Int32) * w0))] [(.int (((((0 : Int32).toInt64) * (65536 : Int64)) + ((((64 : Int32) * w0) / w0).toInt64)).toInt32)), (.ref a1)])) _
    refine st25 _ ?_
    show Steps p.tables e below (T25.setTop (mkF m 252 #[.val (.ref a1), .val (.int p2), .val (.int w0), .val (.int (0 : Int32)), .val (.int ((0 : Int32) * w0))] [])) _
    exact X25.returnOut hx Bd.returns (hb hby d4_252) hr
  · show Q4 Z a1 p2 (1 : Int32) (0 : Int32) 0 vals h0 n0 _ T25.heap _
    rw [e25]
    exact ⟨w0, rfl, N25, K25.1, ⟨bW, kA, b20, (fun _ => 0), (((((((E_a1.keep Kq7).wr W8).wr W9).wr W11).ext E20).wr W21).wr W25), (((((Fw8.other W9 (Or.inr (slot_ne (Or.inl (hw _ (List.mem_of_getElem? (i := 13) rfl))) (Or.inl (hw _ (List.mem_of_getElem? (i := 15) rfl))) (by decide) (t := (.array (.array .byte))) (t' := .int) (by decide) (by decide)))).other W11 (Or.inr (slot_ne (Or.inl (hw _ (List.mem_of_getElem? (i := 13) rfl))) (Or.inl (hw _ (List.mem_of_getElem? (i := 20) rfl))) (by decide) (t := (.array (.array .byte))) (t' := .int) (by decide) (by decide)))).ext E20).other W21 (Or.inl naW)).other W25 (Or.inr (slot_ne (Or.inl (hw _ (List.mem_of_getElem? (i := 13) rfl))) (Or.inl (hw _ (List.mem_of_getElem? (i := 29) rfl))) (by decide) (t := (.array (.array .byte))) (t' := .int) (by decide) (by decide)))), ((((Fw9.other W11 (Or.inr (slot_ne (Or.inl (hw _ (List.mem_of_getElem? (i := 15) rfl))) (Or.inl (hw _ (List.mem_of_getElem? (i := 20) rfl))) (by decide) (t := .int) (t' := .int) (by decide) (by decide)))).ext E20).other W21 (Or.inl naW)).other W25 (Or.inr (slot_ne (Or.inl (hw _ (List.mem_of_getElem? (i := 15) rfl))) (Or.inl (hw _ (List.mem_of_getElem? (i := 29) rfl))) (by decide) (t := .int) (t' := .int) (by decide) (by decide)))), (((Fw11.ext E20).other W21 (Or.inl naW)).other W25 (Or.inr (slot_ne (Or.inl (hw _ (List.mem_of_getElem? (i := 20) rfl))) (Or.inl (hw _ (List.mem_of_getElem? (i := 29) rfl))) (by decide) (t := .int) (t' := .int) (by decide) (by decide)))), (((((((F_m_nSize_a1.keep Kq7 List.not_mem_nil).other W8 (Or.inr (slot_ne (Or.inl (hw _ (List.mem_of_getElem? (i := 27) rfl))) (Or.inl (hw _ (List.mem_of_getElem? (i := 13) rfl))) (by decide) (t := .int) (t' := (.array (.array .byte))) (by decide) (by decide)))).other W9 (Or.inr (slot_ne (Or.inl (hw _ (List.mem_of_getElem? (i := 27) rfl))) (Or.inl (hw _ (List.mem_of_getElem? (i := 15) rfl))) (by decide) (t := .int) (t' := .int) (by decide) (by decide)))).other W11 (Or.inr (slot_ne (Or.inl (hw _ (List.mem_of_getElem? (i := 27) rfl))) (Or.inl (hw _ (List.mem_of_getElem? (i := 20) rfl))) (by decide) (t := .int) (t' := .int) (by decide) (by decide)))).ext E20).other W21 (Or.inl naW)).other W25 (Or.inr (slot_ne (Or.inl (hw _ (List.mem_of_getElem? (i := 27) rfl))) (Or.inl (hw _ (List.mem_of_getElem? (i := 29) rfl))) (by decide) (t := .int) (t' := .int) (by decide) (by decide)))), Fw25, (V_bW_21.other W25 naW.symm), OA, ((((((CW.wr W8).wr W9).wr W11).ext E20).wr W21).wr W25), ((PGn.other W21 nPb.symm).other W25 nab.symm), ((C20.wr W21).wr W25), g_a1, g_bW, g_b20, (((((((own_stk S_PAGE_SHIFT Kq7).wr W8).wr W9).wr W11).ext E20).wr W21).wr W25), hok, (fun i hi => absurd hi (Nat.not_lt_zero i))⟩, hle, own_mono 1 w0 (Or.inl rfl) hok hc71⟩
theorem d4_185 : decode prog_4_method_4_code 185 = .ok (.iload 4, 2) := by decide +kernel
theorem d4_187 : decode prog_4_method_4_code 187 = .ok (.aload_n 0, 1) := by decide +kernel
theorem d4_188 : decode prog_4_method_4_code 188 = .ok (.getfield 11, 3) := by decide +kernel
theorem d4_191 : decode prog_4_method_4_code 191 = .ok (.iload_n 3, 1) := by decide +kernel
theorem d4_192 : decode prog_4_method_4_code 192 = .ok (.aaload, 1) := by decide +kernel
theorem d4_193 : decode prog_4_method_4_code 193 = .ok (.arraylength, 1) := by decide +kernel
theorem d4_194 : decode prog_4_method_4_code 194 = .ok (.if_icmp .ne 27, 3) := by decide +kernel
set_option maxRecDepth 65536 in
set_option maxHeartbeats 40000000 in
theorem rm4_C1 (l : Launch) (Z : State) (a0 : Array Value) (hw : ∀ d ∈ tables_1, d.before a0 Z = true) (ws : List Jvm.Cond) (a1 : Addr) (p2 : Int32) (pA : Addr) (k_pA : ClassId) (pg : Addr) (W : Int32) (B : Nat → Int32) (vals : Nat → Int32) (h0 : Heap) (n0 : Nat) (Z0 : n0 ≤ h0.size) (E_a1 : Exa Z h0 a1 "com/example/agave_bloom/agavebloom/check/CompactInts") (F_m_aPages_a1 : Fld Z h0 a1 "com/example/agave_bloom/agavebloom/check/CompactInts" "m_aPages" "[[B" (.ref pA)) (F_m_nWidth_a1 : Fld Z h0 a1 "com/example/agave_bloom/agavebloom/check/CompactInts" "m_nWidth" "I" (.int W)) (F_m_nWidest_a1 : Fld Z h0 a1 "com/example/agave_bloom/agavebloom/check/CompactInts" "m_nWidest" "I" (.int (own_widest W))) (F_m_nSize_a1 : Fld Z h0 a1 "com/example/agave_bloom/agavebloom/check/CompactInts" "m_nSize" "I" (.int (1 : Int32))) (F_m_nRoom_a1 : Fld Z h0 a1 "com/example/agave_bloom/agavebloom/check/CompactInts" "m_nRoom" "I" (.int (64 : Int32))) (V_pA : Arv Z h0 pA k_pA (.array .byte) (1 : Int32) [(.ref pg)] .null) (O_pA : OvrA Z k_pA .byte "[B") (EA : Exa Z h0 pA "[[B") (g_a1 : n0 ≤ a1) (g_pA : n0 ≤ pA) (S_PAGE_SHIFT : Sta Z h0 "com/example/agave_bloom/agavebloom/check/CompactInts" "PAGE_SHIFT" "I" (.int (16 : Int32))) (PG : Pg Z h0 pg ((64 : Int32) * W) B) (EG : Exa Z h0 pg "[B") (g_pg : n0 ≤ pg) (hoW : own_okW W) (hEn : own_Enc W B 1 vals) (hvs : ∀ i, i < 1 → 0 ≤ (vals i).toInt ∧ (vals i).toInt ≤ (own_widest W).toInt) (hc1 : ¬ (p2 < (0 : Int32))) (hc9 : (own_widest W) < p2) :
    MetFree l (⟨"com/example/agave_bloom/agavebloom/check/CompactInts", "makeRoom", "(I)V"⟩ : MethodName) (head1 (Jvm.Cond.code (⟨"com/example/agave_bloom/agavebloom/check/CompactInts", "makeRoom", "(I)V"⟩ : MethodName) prog_4_method_4_code 5 none :: ws) ({ frames := 2, cells := 2, slots := 257, locals := 34 } : Room)) (fun a U => a = #[(.ref a1), (.int p2)] ∧ Z.Warmed39 U.vm ∧ U.heap = h0) (fun _ _ _ _ _ => True) (fun _ U o U' => ∃ v L, o = .returned v ∧ Q4 Z a1 p2 W (1 : Int32) 1 vals h0 n0 v U'.heap L ∧ FrameEnd U o U' L ({ frames := 2, cells := 2, slots := 257, locals := 34 } : Room).cells ({ frames := 2, cells := 2, slots := 257, locals := 34 } : Room).slots) := by
  refine MetFree.of_bodySF (plainFor_of_name pn_4) hisR ?_
  intro p e s m args below meth c s₁ Bd hml0 hP hK
  obtain ⟨rfl, hZ, hh⟩ := hP
  have hx := Bd.exec
  have hby := Bd.bytes
  have hml : c.maxLocals = 5 := hml0
  have hown : s.vm.findClass "com/example/agave_bloom/agavebloom/check/CompactInts" = some m.cls := findClass_of_methodNamed Bd.named
  have hnm := (name_of_methodNamed Bd.named Bd.method).1
  have X0 : Stand p l e ({ frames := 2, cells := 2, slots := 257, locals := 34 } : Room) s m #[(.ref a1), (.int p2)] below meth c s₁ [] 0 0 := Stand.of_body Bd
  have e0 : s₁.heap = h0 := by rw [← hh, Bd.state]; rfl
  have N0 := Fr.nil n0
  have hc25 := hc1
  have z0 : (0 : Int32).toInt = 0 := rfl
  have hv : 0 ≤ p2.toInt := by rw [Int32.lt_iff_toInt_lt] at hc1; omega
  have naA : a1 ≠ pA := Exa.neArv E_a1 V_pA (hw _ (List.mem_of_getElem? (i := 2) rfl))
  obtain ⟨cl_pg, Ar_pg, S_pg, -⟩ := id PG
  have oW := own_64 W hoW
  have pre0 : ∀ t, Steps p.tables e below (s₁.setTop (mkF m 0 #[.val (.ref a1), .val (.int p2), .unset, .unset, .unset] [])) t → Steps p.tables e below (s₁.setTop (entryFrame m #[(.ref a1), (.int p2)] 5)) t := fun t k => castTop (ef_4 m a1 p2) k
  obtain ⟨T3, X3, e3, st3⟩ := getF X0 hx hZ hown (host := "") (Or.inl (hw _ (List.mem_of_getElem? (i := 19) rfl))) Via.refl e0 F_m_nWidest_a1 (g := (mkF m 6 #[.val (.ref a1), .val (.int p2), .unset, .unset, .unset] [(.ref a1), (.int p2)])) rfl rfl (hb hby d4_6)
  obtain ⟨T4, X4, e4, st4⟩ := getF X3 hx hZ hown (host := "") (Or.inl (hw _ (List.mem_of_getElem? (i := 26) rfl))) Via.refl e3 F_m_nSize_a1 (g := (mkF m 43 #[.val (.ref a1), .val (.int p2), .unset, .unset, .unset] [(.ref a1)])) rfl rfl (hb hby d4_43)
  obtain ⟨_, _, ⟨T5, L5, k5, n5⟩, -, X5, ⟨Lc5, hQ5, l5, y5, z5⟩, st5⟩ := Jvm.LawKit.callS X4 hx (y := (⟨"com/example/agave_bloom/agavebloom/check/CompactInts", "_width", "(I)I"⟩ : MethodName)) hown (mvT hZ (hw _ (List.mem_of_getElem? (i := 31) rfl))) (mvT hZ (hw _ (List.mem_of_getElem? (i := 32) rfl))) (mvT hZ (hw _ (List.mem_of_getElem? (i := 3) rfl))) (mvT hZ (hw _ (List.mem_of_getElem? (i := 33) rfl))) (by decide) (backOf (W := 0) (rm5 l Z a0 hw [] p2 h0 n0 Z0 hv) hZ (hw _ (List.mem_of_getElem? (i := 33) rfl)) (hw _ (List.mem_of_getElem? (i := 3) rfl)) (by decide) (by decide)) (g := (mkF m 62 #[.val (.ref a1), .val (.int p2), .unset, .unset, .unset] [(.int p2)])) rfl (by rw [hml]; rfl) (argsL := [(.int p2)]) (rest := []) (lenOf pd_4_1 rfl) rfl (by show 2 * 0 + _ ≤ _; exact Nat.le_of_eq rfl) (hb hby d4_62) (fun _ _ => ⟨rfl, e4, (by decide : 0 + 0 ≤ _), (by decide : 0 + 0 ≤ _)⟩)
  dsimp only [Pt.U, Pt.locs, Pt.cells, Pt.slots] at X5 l5 y5 z5 st5 hQ5
  subst l5 y5 z5
  obtain ⟨w0, rfl, N5q, eq5, hw0⟩ := hQ5
  have hok := own_isW_ok hw0
  have hle := own_isW_le hw0
  have o6 := own_64 w0 hok
  have hnz242 := o6.2.2.2.2
  have hc9' := hc9
  rw [Int32.lt_iff_toInt_lt] at hc9'
  have e255 : (255 : Int32).toInt = 255 := rfl
  have hc71 : W < w0 := own_isW_gt hw0 hoW hc9'
  have N5 := Fr.app N0 N5q
  obtain ⟨T6, X6, e6, st6⟩ := getF X5 hx hZ hown (host := "") (Or.inl (hw _ (List.mem_of_getElem? (i := 14) rfl))) Via.refl eq5 F_m_nWidth_a1 (g := (mkF m 68 #[.val (.ref a1), .val (.int p2), .val (.int w0), .unset, .unset] [(.ref a1), (.int w0)])) rfl rfl (hb hby d4_68)
  obtain ⟨cq7, q7, q7'⟩ := E_a1.cell
  obtain ⟨_, _, ⟨T7, L7, k7, n7⟩, -, X7, ⟨Lc7, hQ7, l7, y7, z7⟩, st7⟩ := X6.privateBack hx (y := (⟨"com/example/agave_bloom/agavebloom/check/CompactInts", "_widened", "(I)[[B"⟩ : MethodName)) hown (mvT hZ (hw _ (List.mem_of_getElem? (i := 66) rfl))) (mvT hZ (hw _ (List.mem_of_getElem? (i := 67) rfl))) (mvT hZ (own_sel hw)) (Cond.privateMethod_at (mvP hZ (hw _ (List.mem_of_getElem? (i := 68) rfl)) (args := #[]))) (mvT hZ (hw _ (List.mem_of_getElem? (i := 69) rfl))) (by decide) (backOf (W := 1) (rm12_1 l Z a0 hw [] a1 w0 pA k_pA pg cl_pg ((64 : Int32) * W) W vals B h0 n0 Z0 EA EG PG hoW hok (by rw [oW.2.2.2.1]) hEn hvs V_pA O_pA g_pA F_m_aPages_a1 Ar_pg S_pg oW.1 F_m_nWidth_a1 F_m_nSize_a1 S_PAGE_SHIFT E_a1 oW.2.2.2.2) hZ (hw _ (List.mem_of_getElem? (i := 69) rfl)) (hw _ (List.mem_of_getElem? (i := 3) rfl)) (by decide) (by decide)) (g := (mkF m 77 #[.val (.ref a1), .val (.int p2), .val (.int w0), .unset, .unset] [(.int w0), (.ref a1), (.ref a1)])) rfl (by rw [hml]; rfl) (Steps.refl _) (a := a1) (by rw [e6]; exact q7) q7' (argsL := [(.int w0)]) (rest := [(.ref a1)]) (lenOf pd_4_6 rfl) rfl (by show 2 * 0 + _ ≤ _; exact Nat.le_of_eq rfl) (hb hby d4_77) (fun _ _ => ⟨rfl, e6, (by decide : 0 + 2 ≤ _), (by decide : 0 + 257 ≤ _)⟩)
  dsimp only [Pt.U, Pt.locs, Pt.cells, Pt.slots] at X7 l7 y7 z7 st7 hQ7
  subst l7 y7 z7
  obtain ⟨bW, kA, pgN, BN, rfl, N7q, Kq7, V_bW, OA, CW, PGN, CP, szW, szP, EnN⟩ := hQ7
  obtain ⟨cl_pgN, Ar_pgN0, S_pgN, -⟩ := id PGN
  have N_pgN := o6.1
  have K7 : Keep h0 T7.heap [a1] := own_kw Kq7
  have g_bW : n0 ≤ bW := Nat.le_trans Z0 szW
  have Sta7 := own_stk S_PAGE_SHIFT Kq7
  have naW : a1 ≠ bW := Nat.ne_of_lt (Nat.lt_of_lt_of_le E_a1.lt szW)
  have naP : a1 ≠ pgN := Nat.ne_of_lt (Nat.lt_of_lt_of_le E_a1.lt szP)
  have hc194 : ¬ (((1 : Int32) * w0) = ((64 : Int32) * w0)) := (by rcases hok with rfl | rfl | rfl | rfl <;> decide)
  have N7 := Fr.app N5 N7q
  obtain ⟨T8, h8, X8, e8, W8, st8⟩ := putF X7 hx hZ hown (host := "") (Or.inl (hw _ (List.mem_of_getElem? (i := 12) rfl))) Via.refl rfl (F_m_aPages_a1.keep Kq7 List.not_mem_nil) (E_a1.keep Kq7) (Or.inl (hw _ (List.mem_of_getElem? (i := 13) rfl))) (hw _ (List.mem_of_getElem? (i := 2) rfl)) (ty := (.array (.array .byte))) (by decide) rfl rfl (g := (mkF m 80 #[.val (.ref a1), .val (.int p2), .val (.int w0), .unset, .unset] [(.ref bW), (.ref a1)])) rfl rfl (hb hby d4_80)
  have Fw8 := (F_m_aPages_a1.keep Kq7 List.not_mem_nil).same W8
  have K8 : Keep h0 h8 [a1] := K7.wr W8 (Or.inl (List.mem_of_getElem? (i := 0) rfl))
  have N8 := Fr.snoc X8 N7 g_a1
  obtain ⟨T9, h9, X9, e9, W9, st9⟩ := putF X8 hx hZ hown (host := "") (Or.inl (hw _ (List.mem_of_getElem? (i := 14) rfl))) Via.refl e8 ((F_m_nWidth_a1.keep Kq7 List.not_mem_nil).other W8 (Or.inr (slot_ne (Or.inl (hw _ (List.mem_of_getElem? (i := 15) rfl))) (Or.inl (hw _ (List.mem_of_getElem? (i := 13) rfl))) (by decide) (t := .int) (t' := (.array (.array .byte))) (by decide) (by decide)))) ((E_a1.keep Kq7).wr W8) (Or.inl (hw _ (List.mem_of_getElem? (i := 15) rfl))) (hw _ (List.mem_of_getElem? (i := 2) rfl)) (ty := .int) (by decide) rfl rfl (g := (mkF m 85 #[.val (.ref a1), .val (.int p2), .val (.int w0), .unset, .unset] [(.int w0), (.ref a1)])) rfl rfl (hb hby d4_85)
  have Fw9 := ((F_m_nWidth_a1.keep Kq7 List.not_mem_nil).other W8 (Or.inr (slot_ne (Or.inl (hw _ (List.mem_of_getElem? (i := 15) rfl))) (Or.inl (hw _ (List.mem_of_getElem? (i := 13) rfl))) (by decide) (t := .int) (t' := (.array (.array .byte))) (by decide) (by decide)))).same W9
  have K9 : Keep h0 h9 [a1] := K8.wr W9 (Or.inl (List.mem_of_getElem? (i := 0) rfl))
  have N9 := Fr.snoc X9 N8 g_a1
  obtain ⟨_, _, ⟨T10, L10, k10, n10⟩, -, X10, ⟨Lc10, hQ10, l10, y10, z10⟩, st10⟩ := Jvm.LawKit.callS X9 hx (y := (⟨"com/example/agave_bloom/agavebloom/check/CompactInts", "_widest", "(I)I"⟩ : MethodName)) hown (mvT hZ (hw _ (List.mem_of_getElem? (i := 16) rfl))) (mvT hZ (hw _ (List.mem_of_getElem? (i := 17) rfl))) (mvT hZ (hw _ (List.mem_of_getElem? (i := 3) rfl))) (mvT hZ (hw _ (List.mem_of_getElem? (i := 18) rfl))) (by decide) (backOf (W := 1) (rm3 l Z a0 hw [] w0 h9 n0 (Nat.le_trans Z0 K9.1) hok) hZ (hw _ (List.mem_of_getElem? (i := 18) rfl)) (hw _ (List.mem_of_getElem? (i := 3) rfl)) (by decide) (by decide)) (g := (mkF m 90 #[.val (.ref a1), .val (.int p2), .val (.int w0), .unset, .unset] [(.int w0), (.ref a1)])) rfl (by rw [hml]; rfl) (argsL := [(.int w0)]) (rest := [(.ref a1)]) (lenOf pd_4_1 rfl) rfl (by show 2 * 0 + _ ≤ _; exact Nat.le_of_eq rfl) (hb hby d4_90) (fun _ _ => ⟨rfl, e9, (by decide : 2 + 0 ≤ _), (by decide : 257 + 0 ≤ _)⟩)
  dsimp only [Pt.U, Pt.locs, Pt.cells, Pt.slots] at X10 l10 y10 z10 st10 hQ10
  subst l10 y10 z10
  obtain ⟨rfl, N10q, eq10⟩ := hQ10
  have N10 := Fr.app N9 N10q
  obtain ⟨T11, h11, X11, e11, W11, st11⟩ := putF X10 hx hZ hown (host := "") (Or.inl (hw _ (List.mem_of_getElem? (i := 19) rfl))) Via.refl eq10 (((F_m_nWidest_a1.keep Kq7 List.not_mem_nil).other W8 (Or.inr (slot_ne (Or.inl (hw _ (List.mem_of_getElem? (i := 20) rfl))) (Or.inl (hw _ (List.mem_of_getElem? (i := 13) rfl))) (by decide) (t := .int) (t' := (.array (.array .byte))) (by decide) (by decide)))).other W9 (Or.inr (slot_ne (Or.inl (hw _ (List.mem_of_getElem? (i := 20) rfl))) (Or.inl (hw _ (List.mem_of_getElem? (i := 15) rfl))) (by decide) (t := .int) (t' := .int) (by decide) (by decide)))) (((E_a1.keep Kq7).wr W8).wr W9) (Or.inl (hw _ (List.mem_of_getElem? (i := 20) rfl))) (hw _ (List.mem_of_getElem? (i := 2) rfl)) (ty := .int) (by decide) rfl rfl (g := (mkF m 93 #[.val (.ref a1), .val (.int p2), .val (.int w0), .unset, .unset] [(.int (own_widest w0)), (.ref a1)])) rfl rfl (hb hby d4_93)
  have Fw11 := (((F_m_nWidest_a1.keep Kq7 List.not_mem_nil).other W8 (Or.inr (slot_ne (Or.inl (hw _ (List.mem_of_getElem? (i := 20) rfl))) (Or.inl (hw _ (List.mem_of_getElem? (i := 13) rfl))) (by decide) (t := .int) (t' := (.array (.array .byte))) (by decide) (by decide)))).other W9 (Or.inr (slot_ne (Or.inl (hw _ (List.mem_of_getElem? (i := 20) rfl))) (Or.inl (hw _ (List.mem_of_getElem? (i := 15) rfl))) (by decide) (t := .int) (t' := .int) (by decide) (by decide)))).same W11
  have K11 : Keep h0 h11 [a1] := K9.wr W11 (Or.inl (List.mem_of_getElem? (i := 0) rfl))
  have Ar_pgN := (Arr.other W11 (Arr.other W9 (Arr.other W8 Ar_pgN0 naP.symm) naP.symm) naP.symm)
  have N11 := Fr.snoc X11 N10 g_a1
  obtain ⟨T12, X12, e12, st12⟩ := getF X11 hx hZ hown (host := "") (Or.inl (hw _ (List.mem_of_getElem? (i := 26) rfl))) Via.refl e11 ((((F_m_nSize_a1.keep Kq7 List.not_mem_nil).other W8 (Or.inr (slot_ne (Or.inl (hw _ (List.mem_of_getElem? (i := 27) rfl))) (Or.inl (hw _ (List.mem_of_getElem? (i := 13) rfl))) (by decide) (t := .int) (t' := (.array (.array .byte))) (by decide) (by decide)))).other W9 (Or.inr (slot_ne (Or.inl (hw _ (List.mem_of_getElem? (i := 27) rfl))) (Or.inl (hw _ (List.mem_of_getElem? (i := 15) rfl))) (by decide) (t := .int) (t' := .int) (by decide) (by decide)))).other W11 (Or.inr (slot_ne (Or.inl (hw _ (List.mem_of_getElem? (i := 27) rfl))) (Or.inl (hw _ (List.mem_of_getElem? (i := 20) rfl))) (by decide) (t := .int) (t' := .int) (by decide) (by decide)))) (g := (mkF m 97 #[.val (.ref a1), .val (.int p2), .val (.int w0), .unset, .unset] [(.ref a1)])) rfl rfl (hb hby d4_97)
  obtain ⟨T13, X13, e13, st13⟩ := getS2 X12 hx hZ hown (host := "") (Or.inl (hw _ (List.mem_of_getElem? (i := 42) rfl))) Via.refl e12 (((Sta7.wr W8).wr W9).wr W11) (g := (mkF m 100 #[.val (.ref a1), .val (.int p2), .val (.int w0), .unset, .unset] [(.int (1 : Int32))])) rfl (hb hby d4_100)
  obtain ⟨T14, X14, e14, st14⟩ := getF X13 hx hZ hown (host := "") (Or.inl (hw _ (List.mem_of_getElem? (i := 12) rfl))) Via.refl e13 ((Fw8.other W9 (Or.inr (slot_ne (Or.inl (hw _ (List.mem_of_getElem? (i := 13) rfl))) (Or.inl (hw _ (List.mem_of_getElem? (i := 15) rfl))) (by decide) (t := (.array (.array .byte))) (t' := .int) (by decide) (by decide)))).other W11 (Or.inr (slot_ne (Or.inl (hw _ (List.mem_of_getElem? (i := 13) rfl))) (Or.inl (hw _ (List.mem_of_getElem? (i := 20) rfl))) (by decide) (t := (.array (.array .byte))) (t' := .int) (by decide) (by decide)))) (g := (mkF m 107 #[.val (.ref a1), .val (.int p2), .val (.int w0), .val (.int (0 : Int32)), .unset] [(.ref a1), (.int (0 : Int32))])) rfl rfl (hb hby d4_107)
  obtain ⟨cl_bW_110, Ar_bW_110, q_bW_110, S_bW_110, N_bW_110, H_bW_110, G_bW_110⟩ := (((V_bW.other W8 (Ne.symm naW)).other W9 (Ne.symm naW)).other W11 (Ne.symm naW))
  obtain ⟨T15, X15, e15, st15⟩ := getF X14 hx hZ hown (host := "") (Or.inl (hw _ (List.mem_of_getElem? (i := 26) rfl))) Via.refl e14 ((((F_m_nSize_a1.keep Kq7 List.not_mem_nil).other W8 (Or.inr (slot_ne (Or.inl (hw _ (List.mem_of_getElem? (i := 27) rfl))) (Or.inl (hw _ (List.mem_of_getElem? (i := 13) rfl))) (by decide) (t := .int) (t' := (.array (.array .byte))) (by decide) (by decide)))).other W9 (Or.inr (slot_ne (Or.inl (hw _ (List.mem_of_getElem? (i := 27) rfl))) (Or.inl (hw _ (List.mem_of_getElem? (i := 15) rfl))) (by decide) (t := .int) (t' := .int) (by decide) (by decide)))).other W11 (Or.inr (slot_ne (Or.inl (hw _ (List.mem_of_getElem? (i := 27) rfl))) (Or.inl (hw _ (List.mem_of_getElem? (i := 20) rfl))) (by decide) (t := .int) (t' := .int) (by decide) (by decide)))) (g := (mkF m 136 #[.val (.ref a1), .val (.int p2), .val (.int w0), .val (.int (0 : Int32)), .unset] [(.ref a1)])) rfl rfl (hb hby d4_136)
  obtain ⟨T16, X16, e16, st16⟩ := getF X15 hx hZ hown (host := "") (Or.inl (hw _ (List.mem_of_getElem? (i := 14) rfl))) Via.refl e15 (Fw9.other W11 (Or.inr (slot_ne (Or.inl (hw _ (List.mem_of_getElem? (i := 15) rfl))) (Or.inl (hw _ (List.mem_of_getElem? (i := 20) rfl))) (by decide) (t := .int) (t' := .int) (by decide) (by decide)))) (g := (mkF m 143 #[.val (.ref a1), .val (.int p2), .val (.int w0), .val (.int (0 : Int32)), .unset] [(.ref a1), (.int (1 : Int32))])) rfl rfl (hb hby d4_143)
  obtain ⟨T17, X17, e17, st17⟩ := getF X16 hx hZ hown (host := "") (Or.inl (hw _ (List.mem_of_getElem? (i := 12) rfl))) Via.refl e16 ((Fw8.other W9 (Or.inr (slot_ne (Or.inl (hw _ (List.mem_of_getElem? (i := 13) rfl))) (Or.inl (hw _ (List.mem_of_getElem? (i := 15) rfl))) (by decide) (t := (.array (.array .byte))) (t' := .int) (by decide) (by decide)))).other W11 (Or.inr (slot_ne (Or.inl (hw _ (List.mem_of_getElem? (i := 13) rfl))) (Or.inl (hw _ (List.mem_of_getElem? (i := 20) rfl))) (by decide) (t := (.array (.array .byte))) (t' := .int) (by decide) (by decide)))) (g := (mkF m 150 #[.val (.ref a1), .val (.int p2), .val (.int w0), .val (.int (0 : Int32)), .val (.int ((1 : Int32) * w0))] [(.ref a1)])) rfl rfl (hb hby d4_150)
  have hin154 : ¬ ((0 : Int32) < 0 ∨ cl_bW_110.slots.size ≤ ((0 : Int32)).toNatClampNeg) := inb_of S_bW_110 ⟨by decide, by decide⟩
  have hat154 : cl_bW_110.slots[((0 : Int32)).toNatClampNeg]? = some (.ref pgN) := H_bW_110.at hin154 rfl
  obtain ⟨T18, X18, e18, st18⟩ := getF X17 hx hZ hown (host := "") (Or.inl (hw _ (List.mem_of_getElem? (i := 12) rfl))) Via.refl e17 ((Fw8.other W9 (Or.inr (slot_ne (Or.inl (hw _ (List.mem_of_getElem? (i := 13) rfl))) (Or.inl (hw _ (List.mem_of_getElem? (i := 15) rfl))) (by decide) (t := (.array (.array .byte))) (t' := .int) (by decide) (by decide)))).other W11 (Or.inr (slot_ne (Or.inl (hw _ (List.mem_of_getElem? (i := 13) rfl))) (Or.inl (hw _ (List.mem_of_getElem? (i := 20) rfl))) (by decide) (t := (.array (.array .byte))) (t' := .int) (by decide) (by decide)))) (g := (mkF m 188 #[.val (.ref a1), .val (.int p2), .val (.int w0), .val (.int (0 : Int32)), .val (.int ((1 : Int32) * w0))] [(.ref a1), (.int ((1 : Int32) * w0))])) rfl rfl (hb hby d4_188)
  have hin192 : ¬ ((0 : Int32) < 0 ∨ cl_bW_110.slots.size ≤ ((0 : Int32)).toNatClampNeg) := inb_of S_bW_110 ⟨by decide, by decide⟩
  have hat192 : cl_bW_110.slots[((0 : Int32)).toNatClampNeg]? = some (.ref pgN) := H_bW_110.at hin192 rfl
  obtain ⟨T19, X19, e19, st19⟩ := getF X18 hx hZ hown (host := "") (Or.inl (hw _ (List.mem_of_getElem? (i := 12) rfl))) Via.refl e18 ((Fw8.other W9 (Or.inr (slot_ne (Or.inl (hw _ (List.mem_of_getElem? (i := 13) rfl))) (Or.inl (hw _ (List.mem_of_getElem? (i := 15) rfl))) (by decide) (t := (.array (.array .byte))) (t' := .int) (by decide) (by decide)))).other W11 (Or.inr (slot_ne (Or.inl (hw _ (List.mem_of_getElem? (i := 13) rfl))) (Or.inl (hw _ (List.mem_of_getElem? (i := 20) rfl))) (by decide) (t := (.array (.array .byte))) (t' := .int) (by decide) (by decide)))) (g := (mkF m 232 #[.val (.ref a1), .val (.int p2), .val (.int w0), .val (.int (0 : Int32)), .val (.int ((1 : Int32) * w0))] [(.ref a1), (.long (((0 : Int32).toInt64) * (65536 : Int64))), (.long (2147483647 : Int64)), (.ref a1)])) rfl rfl (hb hby d4_232)
  have hin236 : ¬ ((0 : Int32) < 0 ∨ cl_bW_110.slots.size ≤ ((0 : Int32)).toNatClampNeg) := inb_of S_bW_110 ⟨by decide, by decide⟩
  have hat236 : cl_bW_110.slots[((0 : Int32)).toNatClampNeg]? = some (.ref pgN) := H_bW_110.at hin236 rfl
  obtain ⟨T20, X20, e20, st20⟩ := getF X19 hx hZ hown (host := "") (Or.inl (hw _ (List.mem_of_getElem? (i := 14) rfl))) Via.refl e19 (Fw9.other W11 (Or.inr (slot_ne (Or.inl (hw _ (List.mem_of_getElem? (i := 15) rfl))) (Or.inl (hw _ (List.mem_of_getElem? (i := 20) rfl))) (by decide) (t := .int) (t' := .int) (by decide) (by decide)))) (g := (mkF m 239 #[.val (.ref a1), .val (.int p2), .val (.int w0), .val (.int (0 : Int32)), .val (.int ((1 : Int32) * w0))] [(.ref a1), (.int ((64 : Int32) * w0)), (.long (((0 : Int32).toInt64) * (65536 : Int64))), (.long (2147483647 : Int64)), (.ref a1)])) rfl rfl (hb hby d4_239)
  obtain ⟨_, _, ⟨T21, L21, k21, n21⟩, -, X21, ⟨Lc21, hQ21, l21, y21, z21⟩, st21⟩ := Jvm.LawKit.callS X20 hx (y := (⟨"java/lang/Math", "min", "(JJ)J"⟩ : MethodName)) hown (mvT hZ (hw _ (List.mem_of_getElem? (i := 49) rfl))) (mvT hZ (hw _ (List.mem_of_getElem? (i := 50) rfl))) (mvT hZ (hw _ (List.mem_of_getElem? (i := 40) rfl))) (mvT hZ (hw _ (List.mem_of_getElem? (i := 51) rfl))) (by decide) (backOf (W := 1) (rm8_t l Z a0 hw [] (2147483647 : Int64) ((((0 : Int32).toInt64) * (65536 : Int64)) + ((((64 : Int32) * w0) / w0).toInt64)) h11 n0 (Nat.le_trans Z0 K11.1) (by rcases hok with rfl | rfl | rfl | rfl <;> decide)) hZ (hw _ (List.mem_of_getElem? (i := 51) rfl)) (hw _ (List.mem_of_getElem? (i := 40) rfl)) (by decide) (by decide)) (g := (mkF m 245 #[.val (.ref a1), .val (.int p2), .val (.int w0), .val (.int (0 : Int32)), .val (.int ((1 : Int32) * w0))] [(.long ((((0 : Int32).toInt64) * (65536 : Int64)) + ((((64 : Int32) * w0) / w0).toInt64))), (.long (2147483647 : Int64)), (.ref a1)])) rfl (by rw [hml]; rfl) (argsL := [(.long (2147483647 : Int64)), (.long ((((0 : Int32).toInt64) * (65536 : Int64)) + ((((64 : Int32) * w0) / w0).toInt64)))]) (rest := [(.ref a1)]) (lenOf pd_4_4 rfl) rfl (by show 2 * 0 + _ ≤ _; exact Nat.le_of_eq rfl) (hb hby d4_245) (fun _ _ => ⟨rfl, e20, (by decide : 2 + 0 ≤ _), (by decide : 257 + 0 ≤ _)⟩)
  dsimp only [Pt.U, Pt.locs, Pt.cells, Pt.slots] at X21 l21 y21 z21 st21 hQ21
  subst l21 y21 z21
  obtain ⟨rfl, N21q, eq21⟩ := hQ21
  have N21 := Fr.app N11 N21q
  obtain ⟨T22, h22, X22, e22, W22, st22⟩ := putF X21 hx hZ hown (host := "") (Or.inl (hw _ (List.mem_of_getElem? (i := 28) rfl))) Via.refl eq21 ((((F_m_nRoom_a1.keep Kq7 List.not_mem_nil).other W8 (Or.inr (slot_ne (Or.inl (hw _ (List.mem_of_getElem? (i := 29) rfl))) (Or.inl (hw _ (List.mem_of_getElem? (i := 13) rfl))) (by decide) (t := .int) (t' := (.array (.array .byte))) (by decide) (by decide)))).other W9 (Or.inr (slot_ne (Or.inl (hw _ (List.mem_of_getElem? (i := 29) rfl))) (Or.inl (hw _ (List.mem_of_getElem? (i := 15) rfl))) (by decide) (t := .int) (t' := .int) (by decide) (by decide)))).other W11 (Or.inr (slot_ne (Or.inl (hw _ (List.mem_of_getElem? (i := 29) rfl))) (Or.inl (hw _ (List.mem_of_getElem? (i := 20) rfl))) (by decide) (t := .int) (t' := .int) (by decide) (by decide)))) ((((E_a1.keep Kq7).wr W8).wr W9).wr W11) (Or.inl (hw _ (List.mem_of_getElem? (i := 29) rfl))) (hw _ (List.mem_of_getElem? (i := 2) rfl)) (ty := .int) (by decide) rfl rfl (g := (mkF m 249 #[.val (.ref a1), .val (.int p2), .val (.int w0), .val (.int (0 : Int32)), .val (.int ((1 : Int32) * w0))] [(.int (((((0 : Int32).toInt64) * (65536 : Int64)) + ((((64 : Int32) * w0) / w0).toInt64)).toInt32)), (.ref a1)])) rfl rfl (hb hby d4_249)
  have Fw22 := ((((F_m_nRoom_a1.keep Kq7 List.not_mem_nil).other W8 (Or.inr (slot_ne (Or.inl (hw _ (List.mem_of_getElem? (i := 29) rfl))) (Or.inl (hw _ (List.mem_of_getElem? (i := 13) rfl))) (by decide) (t := .int) (t' := (.array (.array .byte))) (by decide) (by decide)))).other W9 (Or.inr (slot_ne (Or.inl (hw _ (List.mem_of_getElem? (i := 29) rfl))) (Or.inl (hw _ (List.mem_of_getElem? (i := 15) rfl))) (by decide) (t := .int) (t' := .int) (by decide) (by decide)))).other W11 (Or.inr (slot_ne (Or.inl (hw _ (List.mem_of_getElem? (i := 29) rfl))) (Or.inl (hw _ (List.mem_of_getElem? (i := 20) rfl))) (by decide) (t := .int) (t' := .int) (by decide) (by decide)))).same W22
  have K22 : Keep h0 h22 [a1] := K11.wr W22 (Or.inl (List.mem_of_getElem? (i := 0) rfl))
  have hroom : ((((0 : Int32).toInt64) * (65536 : Int64)) + ((((64 : Int32) * w0) / w0).toInt64)).toInt32 = (64 : Int32) := (by rcases hok with rfl | rfl | rfl | rfl <;> decide)
  rw [hroom] at Fw22
  have N22 := Fr.snoc X22 N21 g_a1
  obtain ⟨fs, hr, hrun, hended, hW, hsame⟩ := X22.leave (v := none) (fun _ => rfl)
  refine ⟨_, _, pre0 _ ?_, hrun, hended, _, _, rfl, ?_, ⟨_, rfl⟩, hW, hsame.mono (by decide) (by decide)⟩
  · show Steps p.tables e below (s₁.setTop (mkF m 0 #[.val (.ref a1), .val (.int p2), .unset, .unset, .unset] [])) _
    refine XS.iloadN X0.here hx rfl (hb hby d4_0) rfl ?_
    show Steps p.tables e below (s₁.setTop (mkF m 1 #[.val (.ref a1), .val (.int p2), .unset, .unset, .unset] [(.int p2)])) _
    refine XS.ifNo X0.here hx rfl (hb hby d4_1) rfl ((if0 _ _).trans (flt hc1).1) ?_
    show Steps p.tables e below (s₁.setTop (mkF m 4 #[.val (.ref a1), .val (.int p2), .unset, .unset, .unset] [])) _
    refine XS.iloadN X0.here hx rfl (hb hby d4_4) rfl ?_
    show Steps p.tables e below (s₁.setTop (mkF m 5 #[.val (.ref a1), .val (.int p2), .unset, .unset, .unset] [(.int p2)])) _
    refine XS.aloadN X0.here hx rfl (hb hby d4_5) rfl rfl ?_
    show Steps p.tables e below (s₁.setTop (mkF m 6 #[.val (.ref a1), .val (.int p2), .unset, .unset, .unset] [(.ref a1), (.int p2)])) _
    refine st3 _ ?_
    show Steps p.tables e below (T3.setTop (mkF m 9 #[.val (.ref a1), .val (.int p2), .unset, .unset, .unset] [(.int (own_widest W)), (.int p2)])) _
    refine XS.icmpYes X3.here hx rfl (pc0 := 9) (pc' := 24) rfl (hb hby d4_9) rfl (tlt hc9).2.2.1 (by decide) (by decide) ?_
    show Steps p.tables e below (T3.setTop (mkF m 24 #[.val (.ref a1), .val (.int p2), .unset, .unset, .unset] [])) _
    refine XS.iloadN X3.here hx rfl (hb hby d4_24) rfl ?_
    show Steps p.tables e below (T3.setTop (mkF m 25 #[.val (.ref a1), .val (.int p2), .unset, .unset, .unset] [(.int p2)])) _
    refine XS.ifYes X3.here hx rfl (pc0 := 25) (pc' := 42) rfl (hb hby d4_25) rfl ((if0 _ _).trans (flt hc25).2.1) (by decide) (by decide) ?_
    show Steps p.tables e below (T3.setTop (mkF m 42 #[.val (.ref a1), .val (.int p2), .unset, .unset, .unset] [])) _
    refine XS.aloadN X3.here hx rfl (hb hby d4_42) rfl rfl ?_
    show Steps p.tables e below (T3.setTop (mkF m 43 #[.val (.ref a1), .val (.int p2), .unset, .unset, .unset] [(.ref a1)])) _
    refine st4 _ ?_
    show Steps p.tables e below (T4.setTop (mkF m 46 #[.val (.ref a1), .val (.int p2), .unset, .unset, .unset] [(.int (1 : Int32))])) _
    refine X4.ldcInt hx hown (mvT hZ (hw _ (List.mem_of_getElem? (i := 30) rfl))) (g := (mkF m 46 #[.val (.ref a1), .val (.int p2), .unset, .unset, .unset] [(.int (1 : Int32))])) rfl (hb hby d4_46) _ ?_
    show Steps p.tables e below (T4.setTop (mkF m 48 #[.val (.ref a1), .val (.int p2), .unset, .unset, .unset] [(.int (2147483647 : Int32)), (.int (1 : Int32))])) _
    refine XS.icmpYes X4.here hx rfl (pc0 := 48) (pc' := 61) rfl (hb hby d4_48) rfl (feq (by decide : ¬ ((1 : Int32) = (2147483647 : Int32)))).2 (by decide) (by decide) ?_
    show Steps p.tables e below (T4.setTop (mkF m 61 #[.val (.ref a1), .val (.int p2), .unset, .unset, .unset] [])) _
    refine XS.iloadN X4.here hx rfl (hb hby d4_61) rfl ?_
    show Steps p.tables e below (T4.setTop (mkF m 62 #[.val (.ref a1), .val (.int p2), .unset, .unset, .unset] [(.int p2)])) _
    refine st5 _ ?_
    show Steps p.tables e below (T5.setTop (mkF m 65 #[.val (.ref a1), .val (.int p2), .unset, .unset, .unset] [(.int w0)])) _
    refine XS.istoreN X5.here hx rfl (hb hby d4_65) rfl (l' := #[.val (.ref a1), .val (.int p2), .val (.int w0), .unset, .unset]) rfl ?_
    show Steps p.tables e below (T5.setTop (mkF m 66 #[.val (.ref a1), .val (.int p2), .val (.int w0), .unset, .unset] [])) _
    refine XS.iloadN X5.here hx rfl (hb hby d4_66) rfl ?_
    show Steps p.tables e below (T5.setTop (mkF m 67 #[.val (.ref a1), .val (.int p2), .val (.int w0), .unset, .unset] [(.int w0)])) _
    refine XS.aloadN X5.here hx rfl (hb hby d4_67) rfl rfl ?_
    show Steps p.tables e below (T5.setTop (mkF m 68 #[.val (.ref a1), .val (.int p2), .val (.int w0), .unset, .unset] [(.ref a1), (.int w0)])) _
    refine st6 _ ?_
    show Steps p.tables e below (T6.setTop (mkF m 71 #[.val (.ref a1), .val (.int p2), .val (.int w0), .unset, .unset] [(.int W), (.int w0)])) _
    refine XS.icmpNo X6.here hx rfl (hb hby d4_71) rfl (tlt hc71).2.2.2 ?_
    show Steps p.tables e below (T6.setTop (mkF m 74 #[.val (.ref a1), .val (.int p2), .val (.int w0), .unset, .unset] [])) _
    refine XS.aloadN X6.here hx rfl (hb hby d4_74) rfl rfl ?_
    show Steps p.tables e below (T6.setTop (mkF m 75 #[.val (.ref a1), .val (.int p2), .val (.int w0), .unset, .unset] [(.ref a1)])) _
    refine XS.aloadN X6.here hx rfl (hb hby d4_75) rfl rfl ?_
    show Steps p.tables e below (T6.setTop (mkF m 76 #[.val (.ref a1), .val (.int p2), .val (.int w0), .unset, .unset] [(.ref a1), (.ref a1)])) _
    refine XS.iloadN X6.here hx rfl (hb hby d4_76) rfl ?_
    show Steps p.tables e below (T6.setTop (mkF m 77 #[.val (.ref a1), .val (.int p2), .val (.int w0), .unset, .unset] [(.int w0), (.ref a1), (.ref a1)])) _
    refine st7.trans ?_
    show Steps p.tables e below (T7.setTop (mkF m 80 #[.val (.ref a1), .val (.int p2), .val (.int w0), .unset, .unset] [(.ref bW), (.ref a1)])) _
    refine st8 _ ?_
    show Steps p.tables e below (T8.setTop (mkF m 83 #[.val (.ref a1), .val (.int p2), .val (.int w0), .unset, .unset] [])) _
    refine XS.aloadN X8.here hx rfl (hb hby d4_83) rfl rfl ?_
    show Steps p.tables e below (T8.setTop (mkF m 84 #[.val (.ref a1), .val (.int p2), .val (.int w0), .unset, .unset] [(.ref a1)])) _
    refine XS.iloadN X8.here hx rfl (hb hby d4_84) rfl ?_
    show Steps p.tables e below (T8.setTop (mkF m 85 #[.val (.ref a1), .val (.int p2), .val (.int w0), .unset, .unset] [(.int w0), (.ref a1)])) _
    refine st9 _ ?_
    show Steps p.tables e below (T9.setTop (mkF m 88 #[.val (.ref a1), .val (.int p2), .val (.int w0), .unset, .unset] [])) _
    refine XS.aloadN X9.here hx rfl (hb hby d4_88) rfl rfl ?_
    show Steps p.tables e below (T9.setTop (mkF m 89 #[.val (.ref a1), .val (.int p2), .val (.int w0), .unset, .unset] [(.ref a1)])) _
    refine XS.iloadN X9.here hx rfl (hb hby d4_89) rfl ?_
    show Steps p.tables e below (T9.setTop (mkF m 90 #[.val (.ref a1), .val (.int p2), .val (.int w0), .unset, .unset] [(.int w0), (.ref a1)])) _
    refine st10 _ ?_
    show Steps p.tables e below (T10.setTop (mkF m 93 #[.val (.ref a1), .val (.int p2), .val (.int w0), .unset, .unset] [(.int (own_widest w0)), (.ref a1)])) _
    refine st11 _ ?_
    show Steps p.tables e below (T11.setTop (mkF m 96 #[.val (.ref a1), .val (.int p2), .val (.int w0), .unset, .unset] [])) _
    refine XS.aloadN X11.here hx rfl (hb hby d4_96) rfl rfl ?_
    show Steps p.tables e below (T11.setTop (mkF m 97 #[.val (.ref a1), .val (.int p2), .val (.int w0), .unset, .unset] [(.ref a1)])) _
    refine st12 _ ?_
    show Steps p.tables e below (T12.setTop (mkF m 100 #[.val (.ref a1), .val (.int p2), .val (.int w0), .unset, .unset] [(.int (1 : Int32))])) _
    refine st13 _ ?_
    show Steps p.tables e below (T13.setTop (mkF m 103 #[.val (.ref a1), .val (.int p2), .val (.int w0), .unset, .unset] [(.int (16 : Int32)), (.int (1 : Int32))])) _
    refine XS.iushr X13.here hx rfl (hb hby d4_103) rfl ?_
    show Steps p.tables e below (T13.setTop (mkF m 104 #[.val (.ref a1), .val (.int p2), .val (.int w0), .unset, .unset] [(.int (0 : Int32))])) _
    refine XS.istoreN X13.here hx rfl (hb hby d4_104) rfl (l' := #[.val (.ref a1), .val (.int p2), .val (.int w0), .val (.int (0 : Int32)), .unset]) rfl ?_
    show Steps p.tables e below (T13.setTop (mkF m 105 #[.val (.ref a1), .val (.int p2), .val (.int w0), .val (.int (0 : Int32)), .unset] [])) _
    refine XS.iloadN X13.here hx rfl (hb hby d4_105) rfl ?_
    show Steps p.tables e below (T13.setTop (mkF m 106 #[.val (.ref a1), .val (.int p2), .val (.int w0), .val (.int (0 : Int32)), .unset] [(.int (0 : Int32))])) _
    refine XS.aloadN X13.here hx rfl (hb hby d4_106) rfl rfl ?_
    show Steps p.tables e below (T13.setTop (mkF m 107 #[.val (.ref a1), .val (.int p2), .val (.int w0), .val (.int (0 : Int32)), .unset] [(.ref a1), (.int (0 : Int32))])) _
    refine st14 _ ?_
    show Steps p.tables e below (T14.setTop (mkF m 110 #[.val (.ref a1), .val (.int p2), .val (.int w0), .val (.int (0 : Int32)), .unset] [(.ref bW), (.int (0 : Int32))])) _
    refine X14.arraylength hx (by rw [e14]; exact Ar_bW_110.1) (State.isArrayOf_alike hZ.alike Ar_bW_110.2.1) (g := (mkF m 110 #[.val (.ref a1), .val (.int p2), .val (.int w0), .val (.int (0 : Int32)), .unset] [(.ref bW), (.int (0 : Int32))])) rfl rfl (hb hby d4_110) _ ?_
    rw [len_of S_bW_110 N_bW_110]
    show Steps p.tables e below (T14.setTop (mkF m 111 #[.val (.ref a1), .val (.int p2), .val (.int w0), .val (.int (0 : Int32)), .unset] [(.int (1 : Int32)), (.int (0 : Int32))])) _
    refine XS.icmpYes X14.here hx rfl (pc0 := 111) (pc' := 135) rfl (hb hby d4_111) rfl (feq (by decide : ¬ ((0 : Int32) = (1 : Int32)))).2 (by decide) (by decide) ?_
    show Steps p.tables e below (T14.setTop (mkF m 135 #[.val (.ref a1), .val (.int p2), .val (.int w0), .val (.int (0 : Int32)), .unset] [])) _
    refine XS.aloadN X14.here hx rfl (hb hby d4_135) rfl rfl ?_
    show Steps p.tables e below (T14.setTop (mkF m 136 #[.val (.ref a1), .val (.int p2), .val (.int w0), .val (.int (0 : Int32)), .unset] [(.ref a1)])) _
    refine st15 _ ?_
    show Steps p.tables e below (T15.setTop (mkF m 139 #[.val (.ref a1), .val (.int p2), .val (.int w0), .val (.int (0 : Int32)), .unset] [(.int (1 : Int32))])) _
    refine X15.ldcInt hx hown (mvT hZ (hw _ (List.mem_of_getElem? (i := 44) rfl))) (g := (mkF m 139 #[.val (.ref a1), .val (.int p2), .val (.int w0), .val (.int (0 : Int32)), .unset] [(.int (1 : Int32))])) rfl (hb hby d4_139) _ ?_
    show Steps p.tables e below (T15.setTop (mkF m 141 #[.val (.ref a1), .val (.int p2), .val (.int w0), .val (.int (0 : Int32)), .unset] [(.int (65535 : Int32)), (.int (1 : Int32))])) _
    refine XS.iand X15.here hx rfl (hb hby d4_141) rfl ?_
    show Steps p.tables e below (T15.setTop (mkF m 142 #[.val (.ref a1), .val (.int p2), .val (.int w0), .val (.int (0 : Int32)), .unset] [(.int (1 : Int32))])) _
    refine XS.aloadN X15.here hx rfl (hb hby d4_142) rfl rfl ?_
    show Steps p.tables e below (T15.setTop (mkF m 143 #[.val (.ref a1), .val (.int p2), .val (.int w0), .val (.int (0 : Int32)), .unset] [(.ref a1), (.int (1 : Int32))])) _
    refine st16 _ ?_
    show Steps p.tables e below (T16.setTop (mkF m 146 #[.val (.ref a1), .val (.int p2), .val (.int w0), .val (.int (0 : Int32)), .unset] [(.int w0), (.int (1 : Int32))])) _
    refine XS.imul X16.here hx rfl (hb hby d4_146) rfl ?_
    show Steps p.tables e below (T16.setTop (mkF m 147 #[.val (.ref a1), .val (.int p2), .val (.int w0), .val (.int (0 : Int32)), .unset] [(.int ((1 : Int32) * w0))])) _
    refine XS.istore X16.here hx rfl (hb hby d4_147) rfl (l' := #[.val (.ref a1), .val (.int p2), .val (.int w0), .val (.int (0 : Int32)), .val (.int ((1 : Int32) * w0))]) rfl ?_
    show Steps p.tables e below (T16.setTop (mkF m 149 #[.val (.ref a1), .val (.int p2), .val (.int w0), .val (.int (0 : Int32)), .val (.int ((1 : Int32) * w0))] [])) _
    refine XS.aloadN X16.here hx rfl (hb hby d4_149) rfl rfl ?_
    show Steps p.tables e below (T16.setTop (mkF m 150 #[.val (.ref a1), .val (.int p2), .val (.int w0), .val (.int (0 : Int32)), .val (.int ((1 : Int32) * w0))] [(.ref a1)])) _
    refine st17 _ ?_
    show Steps p.tables e below (T17.setTop (mkF m 153 #[.val (.ref a1), .val (.int p2), .val (.int w0), .val (.int (0 : Int32)), .val (.int ((1 : Int32) * w0))] [(.ref bW)])) _
    refine XS.iloadN X17.here hx rfl (hb hby d4_153) rfl ?_
    show Steps p.tables e below (T17.setTop (mkF m 154 #[.val (.ref a1), .val (.int p2), .val (.int w0), .val (.int (0 : Int32)), .val (.int ((1 : Int32) * w0))] [(.int (0 : Int32)), (.ref bW)])) _
    refine X17.aaload hx (j := (0 : Int32)) (v := (.ref pgN)) (by rw [e17]; exact Ar_bW_110.1) (State.isArrayOf_alike hZ.alike Ar_bW_110.2.1) rfl Ar_bW_110.2.2 hin154 hat154 (g := (mkF m 154 #[.val (.ref a1), .val (.int p2), .val (.int w0), .val (.int (0 : Int32)), .val (.int ((1 : Int32) * w0))] [(.int (0 : Int32)), (.ref bW)])) rfl rfl (hb hby d4_154) _ ?_
    show Steps p.tables e below (T17.setTop (mkF m 155 #[.val (.ref a1), .val (.int p2), .val (.int w0), .val (.int (0 : Int32)), .val (.int ((1 : Int32) * w0))] [(.ref pgN)])) _
    refine XS.ifnonnullYes X17.here hx rfl (pc0 := 155) (pc' := 185) rfl (hb hby d4_155) rfl (by decide) (by decide) ?_
    show Steps p.tables e below (T17.setTop (mkF m 185 #[.val (.ref a1), .val (.int p2), .val (.int w0), .val (.int (0 : Int32)), .val (.int ((1 : Int32) * w0))] [])) _
    refine XS.iload X17.here hx rfl (hb hby d4_185) rfl ?_
    show Steps p.tables e below (T17.setTop (mkF m 187 #[.val (.ref a1), .val (.int p2), .val (.int w0), .val (.int (0 : Int32)), .val (.int ((1 : Int32) * w0))] [(.int ((1 : Int32) * w0))])) _
    refine XS.aloadN X17.here hx rfl (hb hby d4_187) rfl rfl ?_
    show Steps p.tables e below (T17.setTop (mkF m 188 #[.val (.ref a1), .val (.int p2), .val (.int w0), .val (.int (0 : Int32)), .val (.int ((1 : Int32) * w0))] [(.ref a1), (.int ((1 : Int32) * w0))])) _
    refine st18 _ ?_
    show Steps p.tables e below (T18.setTop (mkF m 191 #[.val (.ref a1), .val (.int p2), .val (.int w0), .val (.int (0 : Int32)), .val (.int ((1 : Int32) * w0))] [(.ref bW), (.int ((1 : Int32) * w0))])) _
    refine XS.iloadN X18.here hx rfl (hb hby d4_191) rfl ?_
    show Steps p.tables e below (T18.setTop (mkF m 192 #[.val (.ref a1), .val (.int p2), .val (.int w0), .val (.int (0 : Int32)), .val (.int ((1 : Int32) * w0))] [(.int (0 : Int32)), (.ref bW), (.int ((1 : Int32) * w0))])) _
    refine X18.aaload hx (j := (0 : Int32)) (v := (.ref pgN)) (by rw [e18]; exact Ar_bW_110.1) (State.isArrayOf_alike hZ.alike Ar_bW_110.2.1) rfl Ar_bW_110.2.2 hin192 hat192 (g := (mkF m 192 #[.val (.ref a1), .val (.int p2), .val (.int w0), .val (.int (0 : Int32)), .val (.int ((1 : Int32) * w0))] [(.int (0 : Int32)), (.ref bW), (.int ((1 : Int32) * w0))])) rfl rfl (hb hby d4_192) _ ?_
    show Steps p.tables e below (T18.setTop (mkF m 193 #[.val (.ref a1), .val (.int p2), .val (.int w0), .val (.int (0 : Int32)), .val (.int ((1 : Int32) * w0))] [(.ref pgN), (.int ((1 : Int32) * w0))])) _
    refine X18.arraylength hx (by rw [e18]; exact Ar_pgN.1) (State.isArrayOf_alike hZ.alike Ar_pgN.2.1) (g := (mkF m 193 #[.val (.ref a1), .val (.int p2), .val (.int w0), .val (.int (0 : Int32)), .val (.int ((1 : Int32) * w0))] [(.ref pgN), (.int ((1 : Int32) * w0))])) rfl rfl (hb hby d4_193) _ ?_
    rw [len_of S_pgN N_pgN]
    show Steps p.tables e below (T18.setTop (mkF m 194 #[.val (.ref a1), .val (.int p2), .val (.int w0), .val (.int (0 : Int32)), .val (.int ((1 : Int32) * w0))] [(.int ((64 : Int32) * w0)), (.int ((1 : Int32) * w0))])) _
    refine XS.icmpYes X18.here hx rfl (pc0 := 194) (pc' := 221) rfl (hb hby d4_194) rfl (feq hc194).2 (by decide) (by decide) ?_
    show Steps p.tables e below (T18.setTop (mkF m 221 #[.val (.ref a1), .val (.int p2), .val (.int w0), .val (.int (0 : Int32)), .val (.int ((1 : Int32) * w0))] [])) _
    refine XS.aloadN X18.here hx rfl (hb hby d4_221) rfl rfl ?_
    show Steps p.tables e below (T18.setTop (mkF m 222 #[.val (.ref a1), .val (.int p2), .val (.int w0), .val (.int (0 : Int32)), .val (.int ((1 : Int32) * w0))] [(.ref a1)])) _
    refine X18.ldc2Long hx hown (mvT hZ (hw _ (List.mem_of_getElem? (i := 47) rfl))) (g := (mkF m 222 #[.val (.ref a1), .val (.int p2), .val (.int w0), .val (.int (0 : Int32)), .val (.int ((1 : Int32) * w0))] [(.ref a1)])) rfl (hb hby d4_222) _ ?_
    show Steps p.tables e below (T18.setTop (mkF m 225 #[.val (.ref a1), .val (.int p2), .val (.int w0), .val (.int (0 : Int32)), .val (.int ((1 : Int32) * w0))] [(.long (2147483647 : Int64)), (.ref a1)])) _
    refine XS.iloadN X18.here hx rfl (hb hby d4_225) rfl ?_
    show Steps p.tables e below (T18.setTop (mkF m 226 #[.val (.ref a1), .val (.int p2), .val (.int w0), .val (.int (0 : Int32)), .val (.int ((1 : Int32) * w0))] [(.int (0 : Int32)), (.long (2147483647 : Int64)), (.ref a1)])) _
    refine XS.i2l X18.here hx rfl (hb hby d4_226) rfl ?_
    show Steps p.tables e below (T18.setTop (mkF m 227 #[.val (.ref a1), .val (.int p2), .val (.int w0), .val (.int (0 : Int32)), .val (.int ((1 : Int32) * w0))] [(.long ((0 : Int32).toInt64)), (.long (2147483647 : Int64)), (.ref a1)])) _
    refine X18.ldc2Long hx hown (mvT hZ (hw _ (List.mem_of_getElem? (i := 48) rfl))) (g := (mkF m 227 #[.val (.ref a1), .val (.int p2), .val (.int w0), .val (.int (0 : Int32)), .val (.int ((1 : Int32) * w0))] [(.long ((0 : Int32).toInt64)), (.long (2147483647 : Int64)), (.ref a1)])) rfl (hb hby d4_227) _ ?_
    show Steps p.tables e below (T18.setTop (mkF m 230 #[.val (.ref a1), .val (.int p2), .val (.int w0), .val (.int (0 : Int32)), .val (.int ((1 : Int32) * w0))] [(.long (65536 : Int64)), (.long ((0 : Int32).toInt64)), (.long (2147483647 : Int64)), (.ref a1)])) _
    refine XS.lmul X18.here hx rfl (hb hby d4_230) rfl ?_
    show Steps p.tables e below (T18.setTop (mkF m 231 #[.val (.ref a1), .val (.int p2), .val (.int w0), .val (.int (0 : Int32)), .val (.int ((1 : Int32) * w0))] [(.long (((0 : Int32).toInt64) * (65536 : Int64))), (.long (2147483647 : Int64)), (.ref a1)])) _
    refine XS.aloadN X18.here hx rfl (hb hby d4_231) rfl rfl ?_
    show Steps p.tables e below (T18.setTop (mkF m 232 #[.val (.ref a1), .val (.int p2), .val (.int w0), .val (.int (0 : Int32)), .val (.int ((1 : Int32) * w0))] [(.ref a1), (.long (((0 : Int32).toInt64) * (65536 : Int64))), (.long (2147483647 : Int64)), (.ref a1)])) _
    refine st19 _ ?_
    show Steps p.tables e below (T19.setTop (mkF m 235 #[.val (.ref a1), .val (.int p2), .val (.int w0), .val (.int (0 : Int32)), .val (.int ((1 : Int32) * w0))] [(.ref bW), (.long (((0 : Int32).toInt64) * (65536 : Int64))), (.long (2147483647 : Int64)), (.ref a1)])) _
    refine XS.iloadN X19.here hx rfl (hb hby d4_235) rfl ?_
    show Steps p.tables e below (T19.setTop (mkF m 236 #[.val (.ref a1), .val (.int p2), .val (.int w0), .val (.int (0 : Int32)), .val (.int ((1 : Int32) * w0))] [(.int (0 : Int32)), (.ref bW), (.long (((0 : Int32).toInt64) * (65536 : Int64))), (.long (2147483647 : Int64)), (.ref a1)])) _
    refine X19.aaload hx (j := (0 : Int32)) (v := (.ref pgN)) (by rw [e19]; exact Ar_bW_110.1) (State.isArrayOf_alike hZ.alike Ar_bW_110.2.1) rfl Ar_bW_110.2.2 hin236 hat236 (g := (mkF m 236 #[.val (.ref a1), .val (.int p2), .val (.int w0), .val (.int (0 : Int32)), .val (.int ((1 : Int32) * w0))] [(.int (0 : Int32)), (.ref bW), (.long (((0 : Int32).toInt64) * (65536 : Int64))), (.long (2147483647 : Int64)), (.ref a1)])) rfl rfl (hb hby d4_236) _ ?_
    show Steps p.tables e below (T19.setTop (mkF m 237 #[.val (.ref a1), .val (.int p2), .val (.int w0), .val (.int (0 : Int32)), .val (.int ((1 : Int32) * w0))] [(.ref pgN), (.long (((0 : Int32).toInt64) * (65536 : Int64))), (.long (2147483647 : Int64)), (.ref a1)])) _
    refine X19.arraylength hx (by rw [e19]; exact Ar_pgN.1) (State.isArrayOf_alike hZ.alike Ar_pgN.2.1) (g := (mkF m 237 #[.val (.ref a1), .val (.int p2), .val (.int w0), .val (.int (0 : Int32)), .val (.int ((1 : Int32) * w0))] [(.ref pgN), (.long (((0 : Int32).toInt64) * (65536 : Int64))), (.long (2147483647 : Int64)), (.ref a1)])) rfl rfl (hb hby d4_237) _ ?_
    rw [len_of S_pgN N_pgN]
    show Steps p.tables e below (T19.setTop (mkF m 238 #[.val (.ref a1), .val (.int p2), .val (.int w0), .val (.int (0 : Int32)), .val (.int ((1 : Int32) * w0))] [(.int ((64 : Int32) * w0)), (.long (((0 : Int32).toInt64) * (65536 : Int64))), (.long (2147483647 : Int64)), (.ref a1)])) _
    refine XS.aloadN X19.here hx rfl (hb hby d4_238) rfl rfl ?_
    show Steps p.tables e below (T19.setTop (mkF m 239 #[.val (.ref a1), .val (.int p2), .val (.int w0), .val (.int (0 : Int32)), .val (.int ((1 : Int32) * w0))] [(.ref a1), (.int ((64 : Int32) * w0)), (.long (((0 : Int32).toInt64) * (65536 : Int64))), (.long (2147483647 : Int64)), (.ref a1)])) _
    refine st20 _ ?_
    show Steps p.tables e below (T20.setTop (mkF m 242 #[.val (.ref a1), .val (.int p2), .val (.int w0), .val (.int (0 : Int32)), .val (.int ((1 : Int32) * w0))] [(.int w0), (.int ((64 : Int32) * w0)), (.long (((0 : Int32).toInt64) * (65536 : Int64))), (.long (2147483647 : Int64)), (.ref a1)])) _
    refine XS.idiv X20.here hx rfl (hb hby d4_242) rfl hnz242 ?_
    show Steps p.tables e below (T20.setTop (mkF m 243 #[.val (.ref a1), .val (.int p2), .val (.int w0), .val (.int (0 : Int32)), .val (.int ((1 : Int32) * w0))] [(.int (((64 : Int32) * w0) / w0)), (.long (((0 : Int32).toInt64) * (65536 : Int64))), (.long (2147483647 : Int64)), (.ref a1)])) _
    refine XS.i2l X20.here hx rfl (hb hby d4_243) rfl ?_
    show Steps p.tables e below (T20.setTop (mkF m 244 #[.val (.ref a1), .val (.int p2), .val (.int w0), .val (.int (0 : Int32)), .val (.int ((1 : Int32) * w0))] [(.long ((((64 : Int32) * w0) / w0).toInt64)), (.long (((0 : Int32).toInt64) * (65536 : Int64))), (.long (2147483647 : Int64)), (.ref a1)])) _
    refine XS.ladd X20.here hx rfl (hb hby d4_244) rfl ?_
    show Steps p.tables e below (T20.setTop (mkF m 245 #[.val (.ref a1), .val (.int p2), .val (.int w0), .val (.int (0 : Int32)), .val (.int ((1 : Int32) * w0))] [(.long ((((0 : Int32).toInt64) * (65536 : Int64)) + ((((64 : Int32) * w0) / w0).toInt64))), (.long (2147483647 : Int64)), (.ref a1)])) _
    refine st21 _ ?_
    show Steps p.tables e below (T21.setTop (mkF m 248 #[.val (.ref a1), .val (.int p2), .val (.int w0), .val (.int (0 : Int32)), .val (.int ((1 : Int32) * w0))] [(.long ((((0 : Int32).toInt64) * (65536 : Int64)) + ((((64 : Int32) * w0) / w0).toInt64))), (.ref a1)])) _
    refine XS.l2i X21.here hx rfl (hb hby d4_248) rfl ?_
    show Steps p.tables e below (T21.setTop (mkF m 249 #[.val (.ref a1), .val (.int p2), .val (.int w0), .val (.int (0 : Int32)), .val (.int ((1 : Int32) * w0))] [(.int (((((0 : Int32).toInt64) * (65536 : Int64)) + ((((64 : Int32) * w0) / w0).toInt64)).toInt32)), (.ref a1)])) _
    refine st22 _ ?_
    show Steps p.tables e below (T22.setTop (mkF m 252 #[.val (.ref a1), .val (.int p2), .val (.int w0), .val (.int (0 : Int32)), .val (.int ((1 : Int32) * w0))] [])) _
    exact X22.returnOut hx Bd.returns (hb hby d4_252) hr
  · show Q4 Z a1 p2 W (1 : Int32) 1 vals h0 n0 _ T22.heap _
    rw [e22]
    exact ⟨w0, rfl, N22, K22.1, ⟨bW, kA, pgN, BN, (((((E_a1.keep Kq7).wr W8).wr W9).wr W11).wr W22), (((Fw8.other W9 (Or.inr (slot_ne (Or.inl (hw _ (List.mem_of_getElem? (i := 13) rfl))) (Or.inl (hw _ (List.mem_of_getElem? (i := 15) rfl))) (by decide) (t := (.array (.array .byte))) (t' := .int) (by decide) (by decide)))).other W11 (Or.inr (slot_ne (Or.inl (hw _ (List.mem_of_getElem? (i := 13) rfl))) (Or.inl (hw _ (List.mem_of_getElem? (i := 20) rfl))) (by decide) (t := (.array (.array .byte))) (t' := .int) (by decide) (by decide)))).other W22 (Or.inr (slot_ne (Or.inl (hw _ (List.mem_of_getElem? (i := 13) rfl))) (Or.inl (hw _ (List.mem_of_getElem? (i := 29) rfl))) (by decide) (t := (.array (.array .byte))) (t' := .int) (by decide) (by decide)))), ((Fw9.other W11 (Or.inr (slot_ne (Or.inl (hw _ (List.mem_of_getElem? (i := 15) rfl))) (Or.inl (hw _ (List.mem_of_getElem? (i := 20) rfl))) (by decide) (t := .int) (t' := .int) (by decide) (by decide)))).other W22 (Or.inr (slot_ne (Or.inl (hw _ (List.mem_of_getElem? (i := 15) rfl))) (Or.inl (hw _ (List.mem_of_getElem? (i := 29) rfl))) (by decide) (t := .int) (t' := .int) (by decide) (by decide)))), (Fw11.other W22 (Or.inr (slot_ne (Or.inl (hw _ (List.mem_of_getElem? (i := 20) rfl))) (Or.inl (hw _ (List.mem_of_getElem? (i := 29) rfl))) (by decide) (t := .int) (t' := .int) (by decide) (by decide)))), (((((F_m_nSize_a1.keep Kq7 List.not_mem_nil).other W8 (Or.inr (slot_ne (Or.inl (hw _ (List.mem_of_getElem? (i := 27) rfl))) (Or.inl (hw _ (List.mem_of_getElem? (i := 13) rfl))) (by decide) (t := .int) (t' := (.array (.array .byte))) (by decide) (by decide)))).other W9 (Or.inr (slot_ne (Or.inl (hw _ (List.mem_of_getElem? (i := 27) rfl))) (Or.inl (hw _ (List.mem_of_getElem? (i := 15) rfl))) (by decide) (t := .int) (t' := .int) (by decide) (by decide)))).other W11 (Or.inr (slot_ne (Or.inl (hw _ (List.mem_of_getElem? (i := 27) rfl))) (Or.inl (hw _ (List.mem_of_getElem? (i := 20) rfl))) (by decide) (t := .int) (t' := .int) (by decide) (by decide)))).other W22 (Or.inr (slot_ne (Or.inl (hw _ (List.mem_of_getElem? (i := 27) rfl))) (Or.inl (hw _ (List.mem_of_getElem? (i := 29) rfl))) (by decide) (t := .int) (t' := .int) (by decide) (by decide)))), Fw22, ((((V_bW.other W8 naW.symm).other W9 naW.symm).other W11 naW.symm).other W22 naW.symm), OA, ((((CW.wr W8).wr W9).wr W11).wr W22), ((((PGN.other W8 naP.symm).other W9 naP.symm).other W11 naP.symm).other W22 naP.symm), ((((CP.wr W8).wr W9).wr W11).wr W22), g_a1, g_bW, (Nat.le_trans Z0 szP), (((((own_stk S_PAGE_SHIFT Kq7).wr W8).wr W9).wr W11).wr W22), hok, EnN⟩, hle, own_mono W w0 hoW hok hc71⟩
set_option maxRecDepth 65536 in
set_option maxHeartbeats 40000000 in
theorem rm4_C2 (l : Launch) (Z : State) (a0 : Array Value) (hw : ∀ d ∈ tables_1, d.before a0 Z = true) (ws : List Jvm.Cond) (a1 : Addr) (p2 : Int32) (pA : Addr) (k_pA : ClassId) (pg : Addr) (W : Int32) (B : Nat → Int32) (vals : Nat → Int32) (h0 : Heap) (n0 : Nat) (Z0 : n0 ≤ h0.size) (E_a1 : Exa Z h0 a1 "com/example/agave_bloom/agavebloom/check/CompactInts") (F_m_aPages_a1 : Fld Z h0 a1 "com/example/agave_bloom/agavebloom/check/CompactInts" "m_aPages" "[[B" (.ref pA)) (F_m_nWidth_a1 : Fld Z h0 a1 "com/example/agave_bloom/agavebloom/check/CompactInts" "m_nWidth" "I" (.int W)) (F_m_nWidest_a1 : Fld Z h0 a1 "com/example/agave_bloom/agavebloom/check/CompactInts" "m_nWidest" "I" (.int (own_widest W))) (F_m_nSize_a1 : Fld Z h0 a1 "com/example/agave_bloom/agavebloom/check/CompactInts" "m_nSize" "I" (.int (2 : Int32))) (F_m_nRoom_a1 : Fld Z h0 a1 "com/example/agave_bloom/agavebloom/check/CompactInts" "m_nRoom" "I" (.int (64 : Int32))) (V_pA : Arv Z h0 pA k_pA (.array .byte) (1 : Int32) [(.ref pg)] .null) (O_pA : OvrA Z k_pA .byte "[B") (EA : Exa Z h0 pA "[[B") (g_a1 : n0 ≤ a1) (g_pA : n0 ≤ pA) (S_PAGE_SHIFT : Sta Z h0 "com/example/agave_bloom/agavebloom/check/CompactInts" "PAGE_SHIFT" "I" (.int (16 : Int32))) (PG : Pg Z h0 pg ((64 : Int32) * W) B) (EG : Exa Z h0 pg "[B") (g_pg : n0 ≤ pg) (hoW : own_okW W) (hEn : own_Enc W B 2 vals) (hvs : ∀ i, i < 2 → 0 ≤ (vals i).toInt ∧ (vals i).toInt ≤ (own_widest W).toInt) (hc1 : ¬ (p2 < (0 : Int32))) (hc9 : (own_widest W) < p2) :
    MetFree l (⟨"com/example/agave_bloom/agavebloom/check/CompactInts", "makeRoom", "(I)V"⟩ : MethodName) (head1 (Jvm.Cond.code (⟨"com/example/agave_bloom/agavebloom/check/CompactInts", "makeRoom", "(I)V"⟩ : MethodName) prog_4_method_4_code 5 none :: ws) ({ frames := 2, cells := 2, slots := 257, locals := 34 } : Room)) (fun a U => a = #[(.ref a1), (.int p2)] ∧ Z.Warmed39 U.vm ∧ U.heap = h0) (fun _ _ _ _ _ => True) (fun _ U o U' => ∃ v L, o = .returned v ∧ Q4 Z a1 p2 W (2 : Int32) 2 vals h0 n0 v U'.heap L ∧ FrameEnd U o U' L ({ frames := 2, cells := 2, slots := 257, locals := 34 } : Room).cells ({ frames := 2, cells := 2, slots := 257, locals := 34 } : Room).slots) := by
  refine MetFree.of_bodySF (plainFor_of_name pn_4) hisR ?_
  intro p e s m args below meth c s₁ Bd hml0 hP hK
  obtain ⟨rfl, hZ, hh⟩ := hP
  have hx := Bd.exec
  have hby := Bd.bytes
  have hml : c.maxLocals = 5 := hml0
  have hown : s.vm.findClass "com/example/agave_bloom/agavebloom/check/CompactInts" = some m.cls := findClass_of_methodNamed Bd.named
  have hnm := (name_of_methodNamed Bd.named Bd.method).1
  have X0 : Stand p l e ({ frames := 2, cells := 2, slots := 257, locals := 34 } : Room) s m #[(.ref a1), (.int p2)] below meth c s₁ [] 0 0 := Stand.of_body Bd
  have e0 : s₁.heap = h0 := by rw [← hh, Bd.state]; rfl
  have N0 := Fr.nil n0
  have hc25 := hc1
  have z0 : (0 : Int32).toInt = 0 := rfl
  have hv : 0 ≤ p2.toInt := by rw [Int32.lt_iff_toInt_lt] at hc1; omega
  have naA : a1 ≠ pA := Exa.neArv E_a1 V_pA (hw _ (List.mem_of_getElem? (i := 2) rfl))
  obtain ⟨cl_pg, Ar_pg, S_pg, -⟩ := id PG
  have oW := own_64 W hoW
  have pre0 : ∀ t, Steps p.tables e below (s₁.setTop (mkF m 0 #[.val (.ref a1), .val (.int p2), .unset, .unset, .unset] [])) t → Steps p.tables e below (s₁.setTop (entryFrame m #[(.ref a1), (.int p2)] 5)) t := fun t k => castTop (ef_4 m a1 p2) k
  obtain ⟨T3, X3, e3, st3⟩ := getF X0 hx hZ hown (host := "") (Or.inl (hw _ (List.mem_of_getElem? (i := 19) rfl))) Via.refl e0 F_m_nWidest_a1 (g := (mkF m 6 #[.val (.ref a1), .val (.int p2), .unset, .unset, .unset] [(.ref a1), (.int p2)])) rfl rfl (hb hby d4_6)
  obtain ⟨T4, X4, e4, st4⟩ := getF X3 hx hZ hown (host := "") (Or.inl (hw _ (List.mem_of_getElem? (i := 26) rfl))) Via.refl e3 F_m_nSize_a1 (g := (mkF m 43 #[.val (.ref a1), .val (.int p2), .unset, .unset, .unset] [(.ref a1)])) rfl rfl (hb hby d4_43)
  obtain ⟨_, _, ⟨T5, L5, k5, n5⟩, -, X5, ⟨Lc5, hQ5, l5, y5, z5⟩, st5⟩ := Jvm.LawKit.callS X4 hx (y := (⟨"com/example/agave_bloom/agavebloom/check/CompactInts", "_width", "(I)I"⟩ : MethodName)) hown (mvT hZ (hw _ (List.mem_of_getElem? (i := 31) rfl))) (mvT hZ (hw _ (List.mem_of_getElem? (i := 32) rfl))) (mvT hZ (hw _ (List.mem_of_getElem? (i := 3) rfl))) (mvT hZ (hw _ (List.mem_of_getElem? (i := 33) rfl))) (by decide) (backOf (W := 0) (rm5 l Z a0 hw [] p2 h0 n0 Z0 hv) hZ (hw _ (List.mem_of_getElem? (i := 33) rfl)) (hw _ (List.mem_of_getElem? (i := 3) rfl)) (by decide) (by decide)) (g := (mkF m 62 #[.val (.ref a1), .val (.int p2), .unset, .unset, .unset] [(.int p2)])) rfl (by rw [hml]; rfl) (argsL := [(.int p2)]) (rest := []) (lenOf pd_4_1 rfl) rfl (by show 2 * 0 + _ ≤ _; exact Nat.le_of_eq rfl) (hb hby d4_62) (fun _ _ => ⟨rfl, e4, (by decide : 0 + 0 ≤ _), (by decide : 0 + 0 ≤ _)⟩)
  dsimp only [Pt.U, Pt.locs, Pt.cells, Pt.slots] at X5 l5 y5 z5 st5 hQ5
  subst l5 y5 z5
  obtain ⟨w0, rfl, N5q, eq5, hw0⟩ := hQ5
  have hok := own_isW_ok hw0
  have hle := own_isW_le hw0
  have o6 := own_64 w0 hok
  have hnz242 := o6.2.2.2.2
  have hc9' := hc9
  rw [Int32.lt_iff_toInt_lt] at hc9'
  have e255 : (255 : Int32).toInt = 255 := rfl
  have hc71 : W < w0 := own_isW_gt hw0 hoW hc9'
  have N5 := Fr.app N0 N5q
  obtain ⟨T6, X6, e6, st6⟩ := getF X5 hx hZ hown (host := "") (Or.inl (hw _ (List.mem_of_getElem? (i := 14) rfl))) Via.refl eq5 F_m_nWidth_a1 (g := (mkF m 68 #[.val (.ref a1), .val (.int p2), .val (.int w0), .unset, .unset] [(.ref a1), (.int w0)])) rfl rfl (hb hby d4_68)
  obtain ⟨cq7, q7, q7'⟩ := E_a1.cell
  obtain ⟨_, _, ⟨T7, L7, k7, n7⟩, -, X7, ⟨Lc7, hQ7, l7, y7, z7⟩, st7⟩ := X6.privateBack hx (y := (⟨"com/example/agave_bloom/agavebloom/check/CompactInts", "_widened", "(I)[[B"⟩ : MethodName)) hown (mvT hZ (hw _ (List.mem_of_getElem? (i := 66) rfl))) (mvT hZ (hw _ (List.mem_of_getElem? (i := 67) rfl))) (mvT hZ (own_sel hw)) (Cond.privateMethod_at (mvP hZ (hw _ (List.mem_of_getElem? (i := 68) rfl)) (args := #[]))) (mvT hZ (hw _ (List.mem_of_getElem? (i := 69) rfl))) (by decide) (backOf (W := 1) (rm12_2 l Z a0 hw [] a1 w0 pA k_pA pg cl_pg ((64 : Int32) * W) W vals B h0 n0 Z0 EA EG PG hoW hok (by rw [oW.2.2.2.1]) hEn hvs V_pA O_pA g_pA F_m_aPages_a1 Ar_pg S_pg oW.1 F_m_nWidth_a1 F_m_nSize_a1 S_PAGE_SHIFT E_a1 oW.2.2.2.2) hZ (hw _ (List.mem_of_getElem? (i := 69) rfl)) (hw _ (List.mem_of_getElem? (i := 3) rfl)) (by decide) (by decide)) (g := (mkF m 77 #[.val (.ref a1), .val (.int p2), .val (.int w0), .unset, .unset] [(.int w0), (.ref a1), (.ref a1)])) rfl (by rw [hml]; rfl) (Steps.refl _) (a := a1) (by rw [e6]; exact q7) q7' (argsL := [(.int w0)]) (rest := [(.ref a1)]) (lenOf pd_4_6 rfl) rfl (by show 2 * 0 + _ ≤ _; exact Nat.le_of_eq rfl) (hb hby d4_77) (fun _ _ => ⟨rfl, e6, (by decide : 0 + 2 ≤ _), (by decide : 0 + 257 ≤ _)⟩)
  dsimp only [Pt.U, Pt.locs, Pt.cells, Pt.slots] at X7 l7 y7 z7 st7 hQ7
  subst l7 y7 z7
  obtain ⟨bW, kA, pgN, BN, rfl, N7q, Kq7, V_bW, OA, CW, PGN, CP, szW, szP, EnN⟩ := hQ7
  obtain ⟨cl_pgN, Ar_pgN0, S_pgN, -⟩ := id PGN
  have N_pgN := o6.1
  have K7 : Keep h0 T7.heap [a1] := own_kw Kq7
  have g_bW : n0 ≤ bW := Nat.le_trans Z0 szW
  have Sta7 := own_stk S_PAGE_SHIFT Kq7
  have naW : a1 ≠ bW := Nat.ne_of_lt (Nat.lt_of_lt_of_le E_a1.lt szW)
  have naP : a1 ≠ pgN := Nat.ne_of_lt (Nat.lt_of_lt_of_le E_a1.lt szP)
  have hc194 : ¬ (((2 : Int32) * w0) = ((64 : Int32) * w0)) := (by rcases hok with rfl | rfl | rfl | rfl <;> decide)
  have N7 := Fr.app N5 N7q
  obtain ⟨T8, h8, X8, e8, W8, st8⟩ := putF X7 hx hZ hown (host := "") (Or.inl (hw _ (List.mem_of_getElem? (i := 12) rfl))) Via.refl rfl (F_m_aPages_a1.keep Kq7 List.not_mem_nil) (E_a1.keep Kq7) (Or.inl (hw _ (List.mem_of_getElem? (i := 13) rfl))) (hw _ (List.mem_of_getElem? (i := 2) rfl)) (ty := (.array (.array .byte))) (by decide) rfl rfl (g := (mkF m 80 #[.val (.ref a1), .val (.int p2), .val (.int w0), .unset, .unset] [(.ref bW), (.ref a1)])) rfl rfl (hb hby d4_80)
  have Fw8 := (F_m_aPages_a1.keep Kq7 List.not_mem_nil).same W8
  have K8 : Keep h0 h8 [a1] := K7.wr W8 (Or.inl (List.mem_of_getElem? (i := 0) rfl))
  have N8 := Fr.snoc X8 N7 g_a1
  obtain ⟨T9, h9, X9, e9, W9, st9⟩ := putF X8 hx hZ hown (host := "") (Or.inl (hw _ (List.mem_of_getElem? (i := 14) rfl))) Via.refl e8 ((F_m_nWidth_a1.keep Kq7 List.not_mem_nil).other W8 (Or.inr (slot_ne (Or.inl (hw _ (List.mem_of_getElem? (i := 15) rfl))) (Or.inl (hw _ (List.mem_of_getElem? (i := 13) rfl))) (by decide) (t := .int) (t' := (.array (.array .byte))) (by decide) (by decide)))) ((E_a1.keep Kq7).wr W8) (Or.inl (hw _ (List.mem_of_getElem? (i := 15) rfl))) (hw _ (List.mem_of_getElem? (i := 2) rfl)) (ty := .int) (by decide) rfl rfl (g := (mkF m 85 #[.val (.ref a1), .val (.int p2), .val (.int w0), .unset, .unset] [(.int w0), (.ref a1)])) rfl rfl (hb hby d4_85)
  have Fw9 := ((F_m_nWidth_a1.keep Kq7 List.not_mem_nil).other W8 (Or.inr (slot_ne (Or.inl (hw _ (List.mem_of_getElem? (i := 15) rfl))) (Or.inl (hw _ (List.mem_of_getElem? (i := 13) rfl))) (by decide) (t := .int) (t' := (.array (.array .byte))) (by decide) (by decide)))).same W9
  have K9 : Keep h0 h9 [a1] := K8.wr W9 (Or.inl (List.mem_of_getElem? (i := 0) rfl))
  have N9 := Fr.snoc X9 N8 g_a1
  obtain ⟨_, _, ⟨T10, L10, k10, n10⟩, -, X10, ⟨Lc10, hQ10, l10, y10, z10⟩, st10⟩ := Jvm.LawKit.callS X9 hx (y := (⟨"com/example/agave_bloom/agavebloom/check/CompactInts", "_widest", "(I)I"⟩ : MethodName)) hown (mvT hZ (hw _ (List.mem_of_getElem? (i := 16) rfl))) (mvT hZ (hw _ (List.mem_of_getElem? (i := 17) rfl))) (mvT hZ (hw _ (List.mem_of_getElem? (i := 3) rfl))) (mvT hZ (hw _ (List.mem_of_getElem? (i := 18) rfl))) (by decide) (backOf (W := 1) (rm3 l Z a0 hw [] w0 h9 n0 (Nat.le_trans Z0 K9.1) hok) hZ (hw _ (List.mem_of_getElem? (i := 18) rfl)) (hw _ (List.mem_of_getElem? (i := 3) rfl)) (by decide) (by decide)) (g := (mkF m 90 #[.val (.ref a1), .val (.int p2), .val (.int w0), .unset, .unset] [(.int w0), (.ref a1)])) rfl (by rw [hml]; rfl) (argsL := [(.int w0)]) (rest := [(.ref a1)]) (lenOf pd_4_1 rfl) rfl (by show 2 * 0 + _ ≤ _; exact Nat.le_of_eq rfl) (hb hby d4_90) (fun _ _ => ⟨rfl, e9, (by decide : 2 + 0 ≤ _), (by decide : 257 + 0 ≤ _)⟩)
  dsimp only [Pt.U, Pt.locs, Pt.cells, Pt.slots] at X10 l10 y10 z10 st10 hQ10
  subst l10 y10 z10
  obtain ⟨rfl, N10q, eq10⟩ := hQ10
  have N10 := Fr.app N9 N10q
  obtain ⟨T11, h11, X11, e11, W11, st11⟩ := putF X10 hx hZ hown (host := "") (Or.inl (hw _ (List.mem_of_getElem? (i := 19) rfl))) Via.refl eq10 (((F_m_nWidest_a1.keep Kq7 List.not_mem_nil).other W8 (Or.inr (slot_ne (Or.inl (hw _ (List.mem_of_getElem? (i := 20) rfl))) (Or.inl (hw _ (List.mem_of_getElem? (i := 13) rfl))) (by decide) (t := .int) (t' := (.array (.array .byte))) (by decide) (by decide)))).other W9 (Or.inr (slot_ne (Or.inl (hw _ (List.mem_of_getElem? (i := 20) rfl))) (Or.inl (hw _ (List.mem_of_getElem? (i := 15) rfl))) (by decide) (t := .int) (t' := .int) (by decide) (by decide)))) (((E_a1.keep Kq7).wr W8).wr W9) (Or.inl (hw _ (List.mem_of_getElem? (i := 20) rfl))) (hw _ (List.mem_of_getElem? (i := 2) rfl)) (ty := .int) (by decide) rfl rfl (g := (mkF m 93 #[.val (.ref a1), .val (.int p2), .val (.int w0), .unset, .unset] [(.int (own_widest w0)), (.ref a1)])) rfl rfl (hb hby d4_93)
  have Fw11 := (((F_m_nWidest_a1.keep Kq7 List.not_mem_nil).other W8 (Or.inr (slot_ne (Or.inl (hw _ (List.mem_of_getElem? (i := 20) rfl))) (Or.inl (hw _ (List.mem_of_getElem? (i := 13) rfl))) (by decide) (t := .int) (t' := (.array (.array .byte))) (by decide) (by decide)))).other W9 (Or.inr (slot_ne (Or.inl (hw _ (List.mem_of_getElem? (i := 20) rfl))) (Or.inl (hw _ (List.mem_of_getElem? (i := 15) rfl))) (by decide) (t := .int) (t' := .int) (by decide) (by decide)))).same W11
  have K11 : Keep h0 h11 [a1] := K9.wr W11 (Or.inl (List.mem_of_getElem? (i := 0) rfl))
  have Ar_pgN := (Arr.other W11 (Arr.other W9 (Arr.other W8 Ar_pgN0 naP.symm) naP.symm) naP.symm)
  have N11 := Fr.snoc X11 N10 g_a1
  obtain ⟨T12, X12, e12, st12⟩ := getF X11 hx hZ hown (host := "") (Or.inl (hw _ (List.mem_of_getElem? (i := 26) rfl))) Via.refl e11 ((((F_m_nSize_a1.keep Kq7 List.not_mem_nil).other W8 (Or.inr (slot_ne (Or.inl (hw _ (List.mem_of_getElem? (i := 27) rfl))) (Or.inl (hw _ (List.mem_of_getElem? (i := 13) rfl))) (by decide) (t := .int) (t' := (.array (.array .byte))) (by decide) (by decide)))).other W9 (Or.inr (slot_ne (Or.inl (hw _ (List.mem_of_getElem? (i := 27) rfl))) (Or.inl (hw _ (List.mem_of_getElem? (i := 15) rfl))) (by decide) (t := .int) (t' := .int) (by decide) (by decide)))).other W11 (Or.inr (slot_ne (Or.inl (hw _ (List.mem_of_getElem? (i := 27) rfl))) (Or.inl (hw _ (List.mem_of_getElem? (i := 20) rfl))) (by decide) (t := .int) (t' := .int) (by decide) (by decide)))) (g := (mkF m 97 #[.val (.ref a1), .val (.int p2), .val (.int w0), .unset, .unset] [(.ref a1)])) rfl rfl (hb hby d4_97)
  obtain ⟨T13, X13, e13, st13⟩ := getS2 X12 hx hZ hown (host := "") (Or.inl (hw _ (List.mem_of_getElem? (i := 42) rfl))) Via.refl e12 (((Sta7.wr W8).wr W9).wr W11) (g := (mkF m 100 #[.val (.ref a1), .val (.int p2), .val (.int w0), .unset, .unset] [(.int (2 : Int32))])) rfl (hb hby d4_100)
  obtain ⟨T14, X14, e14, st14⟩ := getF X13 hx hZ hown (host := "") (Or.inl (hw _ (List.mem_of_getElem? (i := 12) rfl))) Via.refl e13 ((Fw8.other W9 (Or.inr (slot_ne (Or.inl (hw _ (List.mem_of_getElem? (i := 13) rfl))) (Or.inl (hw _ (List.mem_of_getElem? (i := 15) rfl))) (by decide) (t := (.array (.array .byte))) (t' := .int) (by decide) (by decide)))).other W11 (Or.inr (slot_ne (Or.inl (hw _ (List.mem_of_getElem? (i := 13) rfl))) (Or.inl (hw _ (List.mem_of_getElem? (i := 20) rfl))) (by decide) (t := (.array (.array .byte))) (t' := .int) (by decide) (by decide)))) (g := (mkF m 107 #[.val (.ref a1), .val (.int p2), .val (.int w0), .val (.int (0 : Int32)), .unset] [(.ref a1), (.int (0 : Int32))])) rfl rfl (hb hby d4_107)
  obtain ⟨cl_bW_110, Ar_bW_110, q_bW_110, S_bW_110, N_bW_110, H_bW_110, G_bW_110⟩ := (((V_bW.other W8 (Ne.symm naW)).other W9 (Ne.symm naW)).other W11 (Ne.symm naW))
  obtain ⟨T15, X15, e15, st15⟩ := getF X14 hx hZ hown (host := "") (Or.inl (hw _ (List.mem_of_getElem? (i := 26) rfl))) Via.refl e14 ((((F_m_nSize_a1.keep Kq7 List.not_mem_nil).other W8 (Or.inr (slot_ne (Or.inl (hw _ (List.mem_of_getElem? (i := 27) rfl))) (Or.inl (hw _ (List.mem_of_getElem? (i := 13) rfl))) (by decide) (t := .int) (t' := (.array (.array .byte))) (by decide) (by decide)))).other W9 (Or.inr (slot_ne (Or.inl (hw _ (List.mem_of_getElem? (i := 27) rfl))) (Or.inl (hw _ (List.mem_of_getElem? (i := 15) rfl))) (by decide) (t := .int) (t' := .int) (by decide) (by decide)))).other W11 (Or.inr (slot_ne (Or.inl (hw _ (List.mem_of_getElem? (i := 27) rfl))) (Or.inl (hw _ (List.mem_of_getElem? (i := 20) rfl))) (by decide) (t := .int) (t' := .int) (by decide) (by decide)))) (g := (mkF m 136 #[.val (.ref a1), .val (.int p2), .val (.int w0), .val (.int (0 : Int32)), .unset] [(.ref a1)])) rfl rfl (hb hby d4_136)
  obtain ⟨T16, X16, e16, st16⟩ := getF X15 hx hZ hown (host := "") (Or.inl (hw _ (List.mem_of_getElem? (i := 14) rfl))) Via.refl e15 (Fw9.other W11 (Or.inr (slot_ne (Or.inl (hw _ (List.mem_of_getElem? (i := 15) rfl))) (Or.inl (hw _ (List.mem_of_getElem? (i := 20) rfl))) (by decide) (t := .int) (t' := .int) (by decide) (by decide)))) (g := (mkF m 143 #[.val (.ref a1), .val (.int p2), .val (.int w0), .val (.int (0 : Int32)), .unset] [(.ref a1), (.int (2 : Int32))])) rfl rfl (hb hby d4_143)
  obtain ⟨T17, X17, e17, st17⟩ := getF X16 hx hZ hown (host := "") (Or.inl (hw _ (List.mem_of_getElem? (i := 12) rfl))) Via.refl e16 ((Fw8.other W9 (Or.inr (slot_ne (Or.inl (hw _ (List.mem_of_getElem? (i := 13) rfl))) (Or.inl (hw _ (List.mem_of_getElem? (i := 15) rfl))) (by decide) (t := (.array (.array .byte))) (t' := .int) (by decide) (by decide)))).other W11 (Or.inr (slot_ne (Or.inl (hw _ (List.mem_of_getElem? (i := 13) rfl))) (Or.inl (hw _ (List.mem_of_getElem? (i := 20) rfl))) (by decide) (t := (.array (.array .byte))) (t' := .int) (by decide) (by decide)))) (g := (mkF m 150 #[.val (.ref a1), .val (.int p2), .val (.int w0), .val (.int (0 : Int32)), .val (.int ((2 : Int32) * w0))] [(.ref a1)])) rfl rfl (hb hby d4_150)
  have hin154 : ¬ ((0 : Int32) < 0 ∨ cl_bW_110.slots.size ≤ ((0 : Int32)).toNatClampNeg) := inb_of S_bW_110 ⟨by decide, by decide⟩
  have hat154 : cl_bW_110.slots[((0 : Int32)).toNatClampNeg]? = some (.ref pgN) := H_bW_110.at hin154 rfl
  obtain ⟨T18, X18, e18, st18⟩ := getF X17 hx hZ hown (host := "") (Or.inl (hw _ (List.mem_of_getElem? (i := 12) rfl))) Via.refl e17 ((Fw8.other W9 (Or.inr (slot_ne (Or.inl (hw _ (List.mem_of_getElem? (i := 13) rfl))) (Or.inl (hw _ (List.mem_of_getElem? (i := 15) rfl))) (by decide) (t := (.array (.array .byte))) (t' := .int) (by decide) (by decide)))).other W11 (Or.inr (slot_ne (Or.inl (hw _ (List.mem_of_getElem? (i := 13) rfl))) (Or.inl (hw _ (List.mem_of_getElem? (i := 20) rfl))) (by decide) (t := (.array (.array .byte))) (t' := .int) (by decide) (by decide)))) (g := (mkF m 188 #[.val (.ref a1), .val (.int p2), .val (.int w0), .val (.int (0 : Int32)), .val (.int ((2 : Int32) * w0))] [(.ref a1), (.int ((2 : Int32) * w0))])) rfl rfl (hb hby d4_188)
  have hin192 : ¬ ((0 : Int32) < 0 ∨ cl_bW_110.slots.size ≤ ((0 : Int32)).toNatClampNeg) := inb_of S_bW_110 ⟨by decide, by decide⟩
  have hat192 : cl_bW_110.slots[((0 : Int32)).toNatClampNeg]? = some (.ref pgN) := H_bW_110.at hin192 rfl
  obtain ⟨T19, X19, e19, st19⟩ := getF X18 hx hZ hown (host := "") (Or.inl (hw _ (List.mem_of_getElem? (i := 12) rfl))) Via.refl e18 ((Fw8.other W9 (Or.inr (slot_ne (Or.inl (hw _ (List.mem_of_getElem? (i := 13) rfl))) (Or.inl (hw _ (List.mem_of_getElem? (i := 15) rfl))) (by decide) (t := (.array (.array .byte))) (t' := .int) (by decide) (by decide)))).other W11 (Or.inr (slot_ne (Or.inl (hw _ (List.mem_of_getElem? (i := 13) rfl))) (Or.inl (hw _ (List.mem_of_getElem? (i := 20) rfl))) (by decide) (t := (.array (.array .byte))) (t' := .int) (by decide) (by decide)))) (g := (mkF m 232 #[.val (.ref a1), .val (.int p2), .val (.int w0), .val (.int (0 : Int32)), .val (.int ((2 : Int32) * w0))] [(.ref a1), (.long (((0 : Int32).toInt64) * (65536 : Int64))), (.long (2147483647 : Int64)), (.ref a1)])) rfl rfl (hb hby d4_232)
  have hin236 : ¬ ((0 : Int32) < 0 ∨ cl_bW_110.slots.size ≤ ((0 : Int32)).toNatClampNeg) := inb_of S_bW_110 ⟨by decide, by decide⟩
  have hat236 : cl_bW_110.slots[((0 : Int32)).toNatClampNeg]? = some (.ref pgN) := H_bW_110.at hin236 rfl
  obtain ⟨T20, X20, e20, st20⟩ := getF X19 hx hZ hown (host := "") (Or.inl (hw _ (List.mem_of_getElem? (i := 14) rfl))) Via.refl e19 (Fw9.other W11 (Or.inr (slot_ne (Or.inl (hw _ (List.mem_of_getElem? (i := 15) rfl))) (Or.inl (hw _ (List.mem_of_getElem? (i := 20) rfl))) (by decide) (t := .int) (t' := .int) (by decide) (by decide)))) (g := (mkF m 239 #[.val (.ref a1), .val (.int p2), .val (.int w0), .val (.int (0 : Int32)), .val (.int ((2 : Int32) * w0))] [(.ref a1), (.int ((64 : Int32) * w0)), (.long (((0 : Int32).toInt64) * (65536 : Int64))), (.long (2147483647 : Int64)), (.ref a1)])) rfl rfl (hb hby d4_239)
  obtain ⟨_, _, ⟨T21, L21, k21, n21⟩, -, X21, ⟨Lc21, hQ21, l21, y21, z21⟩, st21⟩ := Jvm.LawKit.callS X20 hx (y := (⟨"java/lang/Math", "min", "(JJ)J"⟩ : MethodName)) hown (mvT hZ (hw _ (List.mem_of_getElem? (i := 49) rfl))) (mvT hZ (hw _ (List.mem_of_getElem? (i := 50) rfl))) (mvT hZ (hw _ (List.mem_of_getElem? (i := 40) rfl))) (mvT hZ (hw _ (List.mem_of_getElem? (i := 51) rfl))) (by decide) (backOf (W := 1) (rm8_t l Z a0 hw [] (2147483647 : Int64) ((((0 : Int32).toInt64) * (65536 : Int64)) + ((((64 : Int32) * w0) / w0).toInt64)) h11 n0 (Nat.le_trans Z0 K11.1) (by rcases hok with rfl | rfl | rfl | rfl <;> decide)) hZ (hw _ (List.mem_of_getElem? (i := 51) rfl)) (hw _ (List.mem_of_getElem? (i := 40) rfl)) (by decide) (by decide)) (g := (mkF m 245 #[.val (.ref a1), .val (.int p2), .val (.int w0), .val (.int (0 : Int32)), .val (.int ((2 : Int32) * w0))] [(.long ((((0 : Int32).toInt64) * (65536 : Int64)) + ((((64 : Int32) * w0) / w0).toInt64))), (.long (2147483647 : Int64)), (.ref a1)])) rfl (by rw [hml]; rfl) (argsL := [(.long (2147483647 : Int64)), (.long ((((0 : Int32).toInt64) * (65536 : Int64)) + ((((64 : Int32) * w0) / w0).toInt64)))]) (rest := [(.ref a1)]) (lenOf pd_4_4 rfl) rfl (by show 2 * 0 + _ ≤ _; exact Nat.le_of_eq rfl) (hb hby d4_245) (fun _ _ => ⟨rfl, e20, (by decide : 2 + 0 ≤ _), (by decide : 257 + 0 ≤ _)⟩)
  dsimp only [Pt.U, Pt.locs, Pt.cells, Pt.slots] at X21 l21 y21 z21 st21 hQ21
  subst l21 y21 z21
  obtain ⟨rfl, N21q, eq21⟩ := hQ21
  have N21 := Fr.app N11 N21q
  obtain ⟨T22, h22, X22, e22, W22, st22⟩ := putF X21 hx hZ hown (host := "") (Or.inl (hw _ (List.mem_of_getElem? (i := 28) rfl))) Via.refl eq21 ((((F_m_nRoom_a1.keep Kq7 List.not_mem_nil).other W8 (Or.inr (slot_ne (Or.inl (hw _ (List.mem_of_getElem? (i := 29) rfl))) (Or.inl (hw _ (List.mem_of_getElem? (i := 13) rfl))) (by decide) (t := .int) (t' := (.array (.array .byte))) (by decide) (by decide)))).other W9 (Or.inr (slot_ne (Or.inl (hw _ (List.mem_of_getElem? (i := 29) rfl))) (Or.inl (hw _ (List.mem_of_getElem? (i := 15) rfl))) (by decide) (t := .int) (t' := .int) (by decide) (by decide)))).other W11 (Or.inr (slot_ne (Or.inl (hw _ (List.mem_of_getElem? (i := 29) rfl))) (Or.inl (hw _ (List.mem_of_getElem? (i := 20) rfl))) (by decide) (t := .int) (t' := .int) (by decide) (by decide)))) ((((E_a1.keep Kq7).wr W8).wr W9).wr W11) (Or.inl (hw _ (List.mem_of_getElem? (i := 29) rfl))) (hw _ (List.mem_of_getElem? (i := 2) rfl)) (ty := .int) (by decide) rfl rfl (g := (mkF m 249 #[.val (.ref a1), .val (.int p2), .val (.int w0), .val (.int (0 : Int32)), .val (.int ((2 : Int32) * w0))] [(.int (((((0 : Int32).toInt64) * (65536 : Int64)) + ((((64 : Int32) * w0) / w0).toInt64)).toInt32)), (.ref a1)])) rfl rfl (hb hby d4_249)
  have Fw22 := ((((F_m_nRoom_a1.keep Kq7 List.not_mem_nil).other W8 (Or.inr (slot_ne (Or.inl (hw _ (List.mem_of_getElem? (i := 29) rfl))) (Or.inl (hw _ (List.mem_of_getElem? (i := 13) rfl))) (by decide) (t := .int) (t' := (.array (.array .byte))) (by decide) (by decide)))).other W9 (Or.inr (slot_ne (Or.inl (hw _ (List.mem_of_getElem? (i := 29) rfl))) (Or.inl (hw _ (List.mem_of_getElem? (i := 15) rfl))) (by decide) (t := .int) (t' := .int) (by decide) (by decide)))).other W11 (Or.inr (slot_ne (Or.inl (hw _ (List.mem_of_getElem? (i := 29) rfl))) (Or.inl (hw _ (List.mem_of_getElem? (i := 20) rfl))) (by decide) (t := .int) (t' := .int) (by decide) (by decide)))).same W22
  have K22 : Keep h0 h22 [a1] := K11.wr W22 (Or.inl (List.mem_of_getElem? (i := 0) rfl))
  have hroom : ((((0 : Int32).toInt64) * (65536 : Int64)) + ((((64 : Int32) * w0) / w0).toInt64)).toInt32 = (64 : Int32) := (by rcases hok with rfl | rfl | rfl | rfl <;> decide)
  rw [hroom] at Fw22
  have N22 := Fr.snoc X22 N21 g_a1
  obtain ⟨fs, hr, hrun, hended, hW, hsame⟩ := X22.leave (v := none) (fun _ => rfl)
  refine ⟨_, _, pre0 _ ?_, hrun, hended, _, _, rfl, ?_, ⟨_, rfl⟩, hW, hsame.mono (by decide) (by decide)⟩
  · show Steps p.tables e below (s₁.setTop (mkF m 0 #[.val (.ref a1), .val (.int p2), .unset, .unset, .unset] [])) _
    refine XS.iloadN X0.here hx rfl (hb hby d4_0) rfl ?_
    show Steps p.tables e below (s₁.setTop (mkF m 1 #[.val (.ref a1), .val (.int p2), .unset, .unset, .unset] [(.int p2)])) _
    refine XS.ifNo X0.here hx rfl (hb hby d4_1) rfl ((if0 _ _).trans (flt hc1).1) ?_
    show Steps p.tables e below (s₁.setTop (mkF m 4 #[.val (.ref a1), .val (.int p2), .unset, .unset, .unset] [])) _
    refine XS.iloadN X0.here hx rfl (hb hby d4_4) rfl ?_
    show Steps p.tables e below (s₁.setTop (mkF m 5 #[.val (.ref a1), .val (.int p2), .unset, .unset, .unset] [(.int p2)])) _
    refine XS.aloadN X0.here hx rfl (hb hby d4_5) rfl rfl ?_
    show Steps p.tables e below (s₁.setTop (mkF m 6 #[.val (.ref a1), .val (.int p2), .unset, .unset, .unset] [(.ref a1), (.int p2)])) _
    refine st3 _ ?_
    show Steps p.tables e below (T3.setTop (mkF m 9 #[.val (.ref a1), .val (.int p2), .unset, .unset, .unset] [(.int (own_widest W)), (.int p2)])) _
    refine XS.icmpYes X3.here hx rfl (pc0 := 9) (pc' := 24) rfl (hb hby d4_9) rfl (tlt hc9).2.2.1 (by decide) (by decide) ?_
    show Steps p.tables e below (T3.setTop (mkF m 24 #[.val (.ref a1), .val (.int p2), .unset, .unset, .unset] [])) _
    refine XS.iloadN X3.here hx rfl (hb hby d4_24) rfl ?_
    show Steps p.tables e below (T3.setTop (mkF m 25 #[.val (.ref a1), .val (.int p2), .unset, .unset, .unset] [(.int p2)])) _
    refine XS.ifYes X3.here hx rfl (pc0 := 25) (pc' := 42) rfl (hb hby d4_25) rfl ((if0 _ _).trans (flt hc25).2.1) (by decide) (by decide) ?_
    show Steps p.tables e below (T3.setTop (mkF m 42 #[.val (.ref a1), .val (.int p2), .unset, .unset, .unset] [])) _
    refine XS.aloadN X3.here hx rfl (hb hby d4_42) rfl rfl ?_
    show Steps p.tables e below (T3.setTop (mkF m 43 #[.val (.ref a1), .val (.int p2), .unset, .unset, .unset] [(.ref a1)])) _
    refine st4 _ ?_
    show Steps p.tables e below (T4.setTop (mkF m 46 #[.val (.ref a1), .val (.int p2), .unset, .unset, .unset] [(.int (2 : Int32))])) _
    refine X4.ldcInt hx hown (mvT hZ (hw _ (List.mem_of_getElem? (i := 30) rfl))) (g := (mkF m 46 #[.val (.ref a1), .val (.int p2), .unset, .unset, .unset] [(.int (2 : Int32))])) rfl (hb hby d4_46) _ ?_
    show Steps p.tables e below (T4.setTop (mkF m 48 #[.val (.ref a1), .val (.int p2), .unset, .unset, .unset] [(.int (2147483647 : Int32)), (.int (2 : Int32))])) _
    refine XS.icmpYes X4.here hx rfl (pc0 := 48) (pc' := 61) rfl (hb hby d4_48) rfl (feq (by decide : ¬ ((2 : Int32) = (2147483647 : Int32)))).2 (by decide) (by decide) ?_
    show Steps p.tables e below (T4.setTop (mkF m 61 #[.val (.ref a1), .val (.int p2), .unset, .unset, .unset] [])) _
    refine XS.iloadN X4.here hx rfl (hb hby d4_61) rfl ?_
    show Steps p.tables e below (T4.setTop (mkF m 62 #[.val (.ref a1), .val (.int p2), .unset, .unset, .unset] [(.int p2)])) _
    refine st5 _ ?_
    show Steps p.tables e below (T5.setTop (mkF m 65 #[.val (.ref a1), .val (.int p2), .unset, .unset, .unset] [(.int w0)])) _
    refine XS.istoreN X5.here hx rfl (hb hby d4_65) rfl (l' := #[.val (.ref a1), .val (.int p2), .val (.int w0), .unset, .unset]) rfl ?_
    show Steps p.tables e below (T5.setTop (mkF m 66 #[.val (.ref a1), .val (.int p2), .val (.int w0), .unset, .unset] [])) _
    refine XS.iloadN X5.here hx rfl (hb hby d4_66) rfl ?_
    show Steps p.tables e below (T5.setTop (mkF m 67 #[.val (.ref a1), .val (.int p2), .val (.int w0), .unset, .unset] [(.int w0)])) _
    refine XS.aloadN X5.here hx rfl (hb hby d4_67) rfl rfl ?_
    show Steps p.tables e below (T5.setTop (mkF m 68 #[.val (.ref a1), .val (.int p2), .val (.int w0), .unset, .unset] [(.ref a1), (.int w0)])) _
    refine st6 _ ?_
    show Steps p.tables e below (T6.setTop (mkF m 71 #[.val (.ref a1), .val (.int p2), .val (.int w0), .unset, .unset] [(.int W), (.int w0)])) _
    refine XS.icmpNo X6.here hx rfl (hb hby d4_71) rfl (tlt hc71).2.2.2 ?_
    show Steps p.tables e below (T6.setTop (mkF m 74 #[.val (.ref a1), .val (.int p2), .val (.int w0), .unset, .unset] [])) _
    refine XS.aloadN X6.here hx rfl (hb hby d4_74) rfl rfl ?_
    show Steps p.tables e below (T6.setTop (mkF m 75 #[.val (.ref a1), .val (.int p2), .val (.int w0), .unset, .unset] [(.ref a1)])) _
    refine XS.aloadN X6.here hx rfl (hb hby d4_75) rfl rfl ?_
    show Steps p.tables e below (T6.setTop (mkF m 76 #[.val (.ref a1), .val (.int p2), .val (.int w0), .unset, .unset] [(.ref a1), (.ref a1)])) _
    refine XS.iloadN X6.here hx rfl (hb hby d4_76) rfl ?_
    show Steps p.tables e below (T6.setTop (mkF m 77 #[.val (.ref a1), .val (.int p2), .val (.int w0), .unset, .unset] [(.int w0), (.ref a1), (.ref a1)])) _
    refine st7.trans ?_
    show Steps p.tables e below (T7.setTop (mkF m 80 #[.val (.ref a1), .val (.int p2), .val (.int w0), .unset, .unset] [(.ref bW), (.ref a1)])) _
    refine st8 _ ?_
    show Steps p.tables e below (T8.setTop (mkF m 83 #[.val (.ref a1), .val (.int p2), .val (.int w0), .unset, .unset] [])) _
    refine XS.aloadN X8.here hx rfl (hb hby d4_83) rfl rfl ?_
    show Steps p.tables e below (T8.setTop (mkF m 84 #[.val (.ref a1), .val (.int p2), .val (.int w0), .unset, .unset] [(.ref a1)])) _
    refine XS.iloadN X8.here hx rfl (hb hby d4_84) rfl ?_
    show Steps p.tables e below (T8.setTop (mkF m 85 #[.val (.ref a1), .val (.int p2), .val (.int w0), .unset, .unset] [(.int w0), (.ref a1)])) _
    refine st9 _ ?_
    show Steps p.tables e below (T9.setTop (mkF m 88 #[.val (.ref a1), .val (.int p2), .val (.int w0), .unset, .unset] [])) _
    refine XS.aloadN X9.here hx rfl (hb hby d4_88) rfl rfl ?_
    show Steps p.tables e below (T9.setTop (mkF m 89 #[.val (.ref a1), .val (.int p2), .val (.int w0), .unset, .unset] [(.ref a1)])) _
    refine XS.iloadN X9.here hx rfl (hb hby d4_89) rfl ?_
    show Steps p.tables e below (T9.setTop (mkF m 90 #[.val (.ref a1), .val (.int p2), .val (.int w0), .unset, .unset] [(.int w0), (.ref a1)])) _
    refine st10 _ ?_
    show Steps p.tables e below (T10.setTop (mkF m 93 #[.val (.ref a1), .val (.int p2), .val (.int w0), .unset, .unset] [(.int (own_widest w0)), (.ref a1)])) _
    refine st11 _ ?_
    show Steps p.tables e below (T11.setTop (mkF m 96 #[.val (.ref a1), .val (.int p2), .val (.int w0), .unset, .unset] [])) _
    refine XS.aloadN X11.here hx rfl (hb hby d4_96) rfl rfl ?_
    show Steps p.tables e below (T11.setTop (mkF m 97 #[.val (.ref a1), .val (.int p2), .val (.int w0), .unset, .unset] [(.ref a1)])) _
    refine st12 _ ?_
    show Steps p.tables e below (T12.setTop (mkF m 100 #[.val (.ref a1), .val (.int p2), .val (.int w0), .unset, .unset] [(.int (2 : Int32))])) _
    refine st13 _ ?_
    show Steps p.tables e below (T13.setTop (mkF m 103 #[.val (.ref a1), .val (.int p2), .val (.int w0), .unset, .unset] [(.int (16 : Int32)), (.int (2 : Int32))])) _
    refine XS.iushr X13.here hx rfl (hb hby d4_103) rfl ?_
    show Steps p.tables e below (T13.setTop (mkF m 104 #[.val (.ref a1), .val (.int p2), .val (.int w0), .unset, .unset] [(.int (0 : Int32))])) _
    refine XS.istoreN X13.here hx rfl (hb hby d4_104) rfl (l' := #[.val (.ref a1), .val (.int p2), .val (.int w0), .val (.int (0 : Int32)), .unset]) rfl ?_
    show Steps p.tables e below (T13.setTop (mkF m 105 #[.val (.ref a1), .val (.int p2), .val (.int w0), .val (.int (0 : Int32)), .unset] [])) _
    refine XS.iloadN X13.here hx rfl (hb hby d4_105) rfl ?_
    show Steps p.tables e below (T13.setTop (mkF m 106 #[.val (.ref a1), .val (.int p2), .val (.int w0), .val (.int (0 : Int32)), .unset] [(.int (0 : Int32))])) _
    refine XS.aloadN X13.here hx rfl (hb hby d4_106) rfl rfl ?_
    show Steps p.tables e below (T13.setTop (mkF m 107 #[.val (.ref a1), .val (.int p2), .val (.int w0), .val (.int (0 : Int32)), .unset] [(.ref a1), (.int (0 : Int32))])) _
    refine st14 _ ?_
    show Steps p.tables e below (T14.setTop (mkF m 110 #[.val (.ref a1), .val (.int p2), .val (.int w0), .val (.int (0 : Int32)), .unset] [(.ref bW), (.int (0 : Int32))])) _
    refine X14.arraylength hx (by rw [e14]; exact Ar_bW_110.1) (State.isArrayOf_alike hZ.alike Ar_bW_110.2.1) (g := (mkF m 110 #[.val (.ref a1), .val (.int p2), .val (.int w0), .val (.int (0 : Int32)), .unset] [(.ref bW), (.int (0 : Int32))])) rfl rfl (hb hby d4_110) _ ?_
    rw [len_of S_bW_110 N_bW_110]
    show Steps p.tables e below (T14.setTop (mkF m 111 #[.val (.ref a1), .val (.int p2), .val (.int w0), .val (.int (0 : Int32)), .unset] [(.int (1 : Int32)), (.int (0 : Int32))])) _
    refine XS.icmpYes X14.here hx rfl (pc0 := 111) (pc' := 135) rfl (hb hby d4_111) rfl (feq (by decide : ¬ ((0 : Int32) = (1 : Int32)))).2 (by decide) (by decide) ?_
    show Steps p.tables e below (T14.setTop (mkF m 135 #[.val (.ref a1), .val (.int p2), .val (.int w0), .val (.int (0 : Int32)), .unset] [])) _
    refine XS.aloadN X14.here hx rfl (hb hby d4_135) rfl rfl ?_
    show Steps p.tables e below (T14.setTop (mkF m 136 #[.val (.ref a1), .val (.int p2), .val (.int w0), .val (.int (0 : Int32)), .unset] [(.ref a1)])) _
    refine st15 _ ?_
    show Steps p.tables e below (T15.setTop (mkF m 139 #[.val (.ref a1), .val (.int p2), .val (.int w0), .val (.int (0 : Int32)), .unset] [(.int (2 : Int32))])) _
    refine X15.ldcInt hx hown (mvT hZ (hw _ (List.mem_of_getElem? (i := 44) rfl))) (g := (mkF m 139 #[.val (.ref a1), .val (.int p2), .val (.int w0), .val (.int (0 : Int32)), .unset] [(.int (2 : Int32))])) rfl (hb hby d4_139) _ ?_
    show Steps p.tables e below (T15.setTop (mkF m 141 #[.val (.ref a1), .val (.int p2), .val (.int w0), .val (.int (0 : Int32)), .unset] [(.int (65535 : Int32)), (.int (2 : Int32))])) _
    refine XS.iand X15.here hx rfl (hb hby d4_141) rfl ?_
    show Steps p.tables e below (T15.setTop (mkF m 142 #[.val (.ref a1), .val (.int p2), .val (.int w0), .val (.int (0 : Int32)), .unset] [(.int (2 : Int32))])) _
    refine XS.aloadN X15.here hx rfl (hb hby d4_142) rfl rfl ?_
    show Steps p.tables e below (T15.setTop (mkF m 143 #[.val (.ref a1), .val (.int p2), .val (.int w0), .val (.int (0 : Int32)), .unset] [(.ref a1), (.int (2 : Int32))])) _
    refine st16 _ ?_
    show Steps p.tables e below (T16.setTop (mkF m 146 #[.val (.ref a1), .val (.int p2), .val (.int w0), .val (.int (0 : Int32)), .unset] [(.int w0), (.int (2 : Int32))])) _
    refine XS.imul X16.here hx rfl (hb hby d4_146) rfl ?_
    show Steps p.tables e below (T16.setTop (mkF m 147 #[.val (.ref a1), .val (.int p2), .val (.int w0), .val (.int (0 : Int32)), .unset] [(.int ((2 : Int32) * w0))])) _
    refine XS.istore X16.here hx rfl (hb hby d4_147) rfl (l' := #[.val (.ref a1), .val (.int p2), .val (.int w0), .val (.int (0 : Int32)), .val (.int ((2 : Int32) * w0))]) rfl ?_
    show Steps p.tables e below (T16.setTop (mkF m 149 #[.val (.ref a1), .val (.int p2), .val (.int w0), .val (.int (0 : Int32)), .val (.int ((2 : Int32) * w0))] [])) _
    refine XS.aloadN X16.here hx rfl (hb hby d4_149) rfl rfl ?_
    show Steps p.tables e below (T16.setTop (mkF m 150 #[.val (.ref a1), .val (.int p2), .val (.int w0), .val (.int (0 : Int32)), .val (.int ((2 : Int32) * w0))] [(.ref a1)])) _
    refine st17 _ ?_
    show Steps p.tables e below (T17.setTop (mkF m 153 #[.val (.ref a1), .val (.int p2), .val (.int w0), .val (.int (0 : Int32)), .val (.int ((2 : Int32) * w0))] [(.ref bW)])) _
    refine XS.iloadN X17.here hx rfl (hb hby d4_153) rfl ?_
    show Steps p.tables e below (T17.setTop (mkF m 154 #[.val (.ref a1), .val (.int p2), .val (.int w0), .val (.int (0 : Int32)), .val (.int ((2 : Int32) * w0))] [(.int (0 : Int32)), (.ref bW)])) _
    refine X17.aaload hx (j := (0 : Int32)) (v := (.ref pgN)) (by rw [e17]; exact Ar_bW_110.1) (State.isArrayOf_alike hZ.alike Ar_bW_110.2.1) rfl Ar_bW_110.2.2 hin154 hat154 (g := (mkF m 154 #[.val (.ref a1), .val (.int p2), .val (.int w0), .val (.int (0 : Int32)), .val (.int ((2 : Int32) * w0))] [(.int (0 : Int32)), (.ref bW)])) rfl rfl (hb hby d4_154) _ ?_
    show Steps p.tables e below (T17.setTop (mkF m 155 #[.val (.ref a1), .val (.int p2), .val (.int w0), .val (.int (0 : Int32)), .val (.int ((2 : Int32) * w0))] [(.ref pgN)])) _
    refine XS.ifnonnullYes X17.here hx rfl (pc0 := 155) (pc' := 185) rfl (hb hby d4_155) rfl (by decide) (by decide) ?_
    show Steps p.tables e below (T17.setTop (mkF m 185 #[.val (.ref a1), .val (.int p2), .val (.int w0), .val (.int (0 : Int32)), .val (.int ((2 : Int32) * w0))] [])) _
    refine XS.iload X17.here hx rfl (hb hby d4_185) rfl ?_
    show Steps p.tables e below (T17.setTop (mkF m 187 #[.val (.ref a1), .val (.int p2), .val (.int w0), .val (.int (0 : Int32)), .val (.int ((2 : Int32) * w0))] [(.int ((2 : Int32) * w0))])) _
    refine XS.aloadN X17.here hx rfl (hb hby d4_187) rfl rfl ?_
    show Steps p.tables e below (T17.setTop (mkF m 188 #[.val (.ref a1), .val (.int p2), .val (.int w0), .val (.int (0 : Int32)), .val (.int ((2 : Int32) * w0))] [(.ref a1), (.int ((2 : Int32) * w0))])) _
    refine st18 _ ?_
    show Steps p.tables e below (T18.setTop (mkF m 191 #[.val (.ref a1), .val (.int p2), .val (.int w0), .val (.int (0 : Int32)), .val (.int ((2 : Int32) * w0))] [(.ref bW), (.int ((2 : Int32) * w0))])) _
    refine XS.iloadN X18.here hx rfl (hb hby d4_191) rfl ?_
    show Steps p.tables e below (T18.setTop (mkF m 192 #[.val (.ref a1), .val (.int p2), .val (.int w0), .val (.int (0 : Int32)), .val (.int ((2 : Int32) * w0))] [(.int (0 : Int32)), (.ref bW), (.int ((2 : Int32) * w0))])) _
    refine X18.aaload hx (j := (0 : Int32)) (v := (.ref pgN)) (by rw [e18]; exact Ar_bW_110.1) (State.isArrayOf_alike hZ.alike Ar_bW_110.2.1) rfl Ar_bW_110.2.2 hin192 hat192 (g := (mkF m 192 #[.val (.ref a1), .val (.int p2), .val (.int w0), .val (.int (0 : Int32)), .val (.int ((2 : Int32) * w0))] [(.int (0 : Int32)), (.ref bW), (.int ((2 : Int32) * w0))])) rfl rfl (hb hby d4_192) _ ?_
    show Steps p.tables e below (T18.setTop (mkF m 193 #[.val (.ref a1), .val (.int p2), .val (.int w0), .val (.int (0 : Int32)), .val (.int ((2 : Int32) * w0))] [(.ref pgN), (.int ((2 : Int32) * w0))])) _
    refine X18.arraylength hx (by rw [e18]; exact Ar_pgN.1) (State.isArrayOf_alike hZ.alike Ar_pgN.2.1) (g := (mkF m 193 #[.val (.ref a1), .val (.int p2), .val (.int w0), .val (.int (0 : Int32)), .val (.int ((2 : Int32) * w0))] [(.ref pgN), (.int ((2 : Int32) * w0))])) rfl rfl (hb hby d4_193) _ ?_
    rw [len_of S_pgN N_pgN]
    show Steps p.tables e below (T18.setTop (mkF m 194 #[.val (.ref a1), .val (.int p2), .val (.int w0), .val (.int (0 : Int32)), .val (.int ((2 : Int32) * w0))] [(.int ((64 : Int32) * w0)), (.int ((2 : Int32) * w0))])) _
    refine XS.icmpYes X18.here hx rfl (pc0 := 194) (pc' := 221) rfl (hb hby d4_194) rfl (feq hc194).2 (by decide) (by decide) ?_
    show Steps p.tables e below (T18.setTop (mkF m 221 #[.val (.ref a1), .val (.int p2), .val (.int w0), .val (.int (0 : Int32)), .val (.int ((2 : Int32) * w0))] [])) _
    refine XS.aloadN X18.here hx rfl (hb hby d4_221) rfl rfl ?_
    show Steps p.tables e below (T18.setTop (mkF m 222 #[.val (.ref a1), .val (.int p2), .val (.int w0), .val (.int (0 : Int32)), .val (.int ((2 : Int32) * w0))] [(.ref a1)])) _
    refine X18.ldc2Long hx hown (mvT hZ (hw _ (List.mem_of_getElem? (i := 47) rfl))) (g := (mkF m 222 #[.val (.ref a1), .val (.int p2), .val (.int w0), .val (.int (0 : Int32)), .val (.int ((2 : Int32) * w0))] [(.ref a1)])) rfl (hb hby d4_222) _ ?_
    show Steps p.tables e below (T18.setTop (mkF m 225 #[.val (.ref a1), .val (.int p2), .val (.int w0), .val (.int (0 : Int32)), .val (.int ((2 : Int32) * w0))] [(.long (2147483647 : Int64)), (.ref a1)])) _
    refine XS.iloadN X18.here hx rfl (hb hby d4_225) rfl ?_
    show Steps p.tables e below (T18.setTop (mkF m 226 #[.val (.ref a1), .val (.int p2), .val (.int w0), .val (.int (0 : Int32)), .val (.int ((2 : Int32) * w0))] [(.int (0 : Int32)), (.long (2147483647 : Int64)), (.ref a1)])) _
    refine XS.i2l X18.here hx rfl (hb hby d4_226) rfl ?_
    show Steps p.tables e below (T18.setTop (mkF m 227 #[.val (.ref a1), .val (.int p2), .val (.int w0), .val (.int (0 : Int32)), .val (.int ((2 : Int32) * w0))] [(.long ((0 : Int32).toInt64)), (.long (2147483647 : Int64)), (.ref a1)])) _
    refine X18.ldc2Long hx hown (mvT hZ (hw _ (List.mem_of_getElem? (i := 48) rfl))) (g := (mkF m 227 #[.val (.ref a1), .val (.int p2), .val (.int w0), .val (.int (0 : Int32)), .val (.int ((2 : Int32) * w0))] [(.long ((0 : Int32).toInt64)), (.long (2147483647 : Int64)), (.ref a1)])) rfl (hb hby d4_227) _ ?_
    show Steps p.tables e below (T18.setTop (mkF m 230 #[.val (.ref a1), .val (.int p2), .val (.int w0), .val (.int (0 : Int32)), .val (.int ((2 : Int32) * w0))] [(.long (65536 : Int64)), (.long ((0 : Int32).toInt64)), (.long (2147483647 : Int64)), (.ref a1)])) _
    refine XS.lmul X18.here hx rfl (hb hby d4_230) rfl ?_
    show Steps p.tables e below (T18.setTop (mkF m 231 #[.val (.ref a1), .val (.int p2), .val (.int w0), .val (.int (0 : Int32)), .val (.int ((2 : Int32) * w0))] [(.long (((0 : Int32).toInt64) * (65536 : Int64))), (.long (2147483647 : Int64)), (.ref a1)])) _
    refine XS.aloadN X18.here hx rfl (hb hby d4_231) rfl rfl ?_
    show Steps p.tables e below (T18.setTop (mkF m 232 #[.val (.ref a1), .val (.int p2), .val (.int w0), .val (.int (0 : Int32)), .val (.int ((2 : Int32) * w0))] [(.ref a1), (.long (((0 : Int32).toInt64) * (65536 : Int64))), (.long (2147483647 : Int64)), (.ref a1)])) _
    refine st19 _ ?_
    show Steps p.tables e below (T19.setTop (mkF m 235 #[.val (.ref a1), .val (.int p2), .val (.int w0), .val (.int (0 : Int32)), .val (.int ((2 : Int32) * w0))] [(.ref bW), (.long (((0 : Int32).toInt64) * (65536 : Int64))), (.long (2147483647 : Int64)), (.ref a1)])) _
    refine XS.iloadN X19.here hx rfl (hb hby d4_235) rfl ?_
    show Steps p.tables e below (T19.setTop (mkF m 236 #[.val (.ref a1), .val (.int p2), .val (.int w0), .val (.int (0 : Int32)), .val (.int ((2 : Int32) * w0))] [(.int (0 : Int32)), (.ref bW), (.long (((0 : Int32).toInt64) * (65536 : Int64))), (.long (2147483647 : Int64)), (.ref a1)])) _
    refine X19.aaload hx (j := (0 : Int32)) (v := (.ref pgN)) (by rw [e19]; exact Ar_bW_110.1) (State.isArrayOf_alike hZ.alike Ar_bW_110.2.1) rfl Ar_bW_110.2.2 hin236 hat236 (g := (mkF m 236 #[.val (.ref a1), .val (.int p2), .val (.int w0), .val (.int (0 : Int32)), .val (.int ((2 : Int32) * w0))] [(.int (0 : Int32)), (.ref bW), (.long (((0 : Int32).toInt64) * (65536 : Int64))), (.long (2147483647 : Int64)), (.ref a1)])) rfl rfl (hb hby d4_236) _ ?_
    show Steps p.tables e below (T19.setTop (mkF m 237 #[.val (.ref a1), .val (.int p2), .val (.int w0), .val (.int (0 : Int32)), .val (.int ((2 : Int32) * w0))] [(.ref pgN), (.long (((0 : Int32).toInt64) * (65536 : Int64))), (.long (2147483647 : Int64)), (.ref a1)])) _
    refine X19.arraylength hx (by rw [e19]; exact Ar_pgN.1) (State.isArrayOf_alike hZ.alike Ar_pgN.2.1) (g := (mkF m 237 #[.val (.ref a1), .val (.int p2), .val (.int w0), .val (.int (0 : Int32)), .val (.int ((2 : Int32) * w0))] [(.ref pgN), (.long (((0 : Int32).toInt64) * (65536 : Int64))), (.long (2147483647 : Int64)), (.ref a1)])) rfl rfl (hb hby d4_237) _ ?_
    rw [len_of S_pgN N_pgN]
    show Steps p.tables e below (T19.setTop (mkF m 238 #[.val (.ref a1), .val (.int p2), .val (.int w0), .val (.int (0 : Int32)), .val (.int ((2 : Int32) * w0))] [(.int ((64 : Int32) * w0)), (.long (((0 : Int32).toInt64) * (65536 : Int64))), (.long (2147483647 : Int64)), (.ref a1)])) _
    refine XS.aloadN X19.here hx rfl (hb hby d4_238) rfl rfl ?_
    show Steps p.tables e below (T19.setTop (mkF m 239 #[.val (.ref a1), .val (.int p2), .val (.int w0), .val (.int (0 : Int32)), .val (.int ((2 : Int32) * w0))] [(.ref a1), (.int ((64 : Int32) * w0)), (.long (((0 : Int32).toInt64) * (65536 : Int64))), (.long (2147483647 : Int64)), (.ref a1)])) _
    refine st20 _ ?_
    show Steps p.tables e below (T20.setTop (mkF m 242 #[.val (.ref a1), .val (.int p2), .val (.int w0), .val (.int (0 : Int32)), .val (.int ((2 : Int32) * w0))] [(.int w0), (.int ((64 : Int32) * w0)), (.long (((0 : Int32).toInt64) * (65536 : Int64))), (.long (2147483647 : Int64)), (.ref a1)])) _
    refine XS.idiv X20.here hx rfl (hb hby d4_242) rfl hnz242 ?_
    show Steps p.tables e below (T20.setTop (mkF m 243 #[.val (.ref a1), .val (.int p2), .val (.int w0), .val (.int (0 : Int32)), .val (.int ((2 : Int32) * w0))] [(.int (((64 : Int32) * w0) / w0)), (.long (((0 : Int32).toInt64) * (65536 : Int64))), (.long (2147483647 : Int64)), (.ref a1)])) _
    refine XS.i2l X20.here hx rfl (hb hby d4_243) rfl ?_
    show Steps p.tables e below (T20.setTop (mkF m 244 #[.val (.ref a1), .val (.int p2), .val (.int w0), .val (.int (0 : Int32)), .val (.int ((2 : Int32) * w0))] [(.long ((((64 : Int32) * w0) / w0).toInt64)), (.long (((0 : Int32).toInt64) * (65536 : Int64))), (.long (2147483647 : Int64)), (.ref a1)])) _
    refine XS.ladd X20.here hx rfl (hb hby d4_244) rfl ?_
    show Steps p.tables e below (T20.setTop (mkF m 245 #[.val (.ref a1), .val (.int p2), .val (.int w0), .val (.int (0 : Int32)), .val (.int ((2 : Int32) * w0))] [(.long ((((0 : Int32).toInt64) * (65536 : Int64)) + ((((64 : Int32) * w0) / w0).toInt64))), (.long (2147483647 : Int64)), (.ref a1)])) _
    refine st21 _ ?_
    show Steps p.tables e below (T21.setTop (mkF m 248 #[.val (.ref a1), .val (.int p2), .val (.int w0), .val (.int (0 : Int32)), .val (.int ((2 : Int32) * w0))] [(.long ((((0 : Int32).toInt64) * (65536 : Int64)) + ((((64 : Int32) * w0) / w0).toInt64))), (.ref a1)])) _
    refine XS.l2i X21.here hx rfl (hb hby d4_248) rfl ?_
    show Steps p.tables e below (T21.setTop (mkF m 249 #[.val (.ref a1), .val (.int p2), .val (.int w0), .val (.int (0 : Int32)), .val (.int ((2 : Int32) * w0))] [(.int (((((0 : Int32).toInt64) * (65536 : Int64)) + ((((64 : Int32) * w0) / w0).toInt64)).toInt32)), (.ref a1)])) _
    refine st22 _ ?_
    show Steps p.tables e below (T22.setTop (mkF m 252 #[.val (.ref a1), .val (.int p2), .val (.int w0), .val (.int (0 : Int32)), .val (.int ((2 : Int32) * w0))] [])) _
    exact X22.returnOut hx Bd.returns (hb hby d4_252) hr
  · show Q4 Z a1 p2 W (2 : Int32) 2 vals h0 n0 _ T22.heap _
    rw [e22]
    exact ⟨w0, rfl, N22, K22.1, ⟨bW, kA, pgN, BN, (((((E_a1.keep Kq7).wr W8).wr W9).wr W11).wr W22), (((Fw8.other W9 (Or.inr (slot_ne (Or.inl (hw _ (List.mem_of_getElem? (i := 13) rfl))) (Or.inl (hw _ (List.mem_of_getElem? (i := 15) rfl))) (by decide) (t := (.array (.array .byte))) (t' := .int) (by decide) (by decide)))).other W11 (Or.inr (slot_ne (Or.inl (hw _ (List.mem_of_getElem? (i := 13) rfl))) (Or.inl (hw _ (List.mem_of_getElem? (i := 20) rfl))) (by decide) (t := (.array (.array .byte))) (t' := .int) (by decide) (by decide)))).other W22 (Or.inr (slot_ne (Or.inl (hw _ (List.mem_of_getElem? (i := 13) rfl))) (Or.inl (hw _ (List.mem_of_getElem? (i := 29) rfl))) (by decide) (t := (.array (.array .byte))) (t' := .int) (by decide) (by decide)))), ((Fw9.other W11 (Or.inr (slot_ne (Or.inl (hw _ (List.mem_of_getElem? (i := 15) rfl))) (Or.inl (hw _ (List.mem_of_getElem? (i := 20) rfl))) (by decide) (t := .int) (t' := .int) (by decide) (by decide)))).other W22 (Or.inr (slot_ne (Or.inl (hw _ (List.mem_of_getElem? (i := 15) rfl))) (Or.inl (hw _ (List.mem_of_getElem? (i := 29) rfl))) (by decide) (t := .int) (t' := .int) (by decide) (by decide)))), (Fw11.other W22 (Or.inr (slot_ne (Or.inl (hw _ (List.mem_of_getElem? (i := 20) rfl))) (Or.inl (hw _ (List.mem_of_getElem? (i := 29) rfl))) (by decide) (t := .int) (t' := .int) (by decide) (by decide)))), (((((F_m_nSize_a1.keep Kq7 List.not_mem_nil).other W8 (Or.inr (slot_ne (Or.inl (hw _ (List.mem_of_getElem? (i := 27) rfl))) (Or.inl (hw _ (List.mem_of_getElem? (i := 13) rfl))) (by decide) (t := .int) (t' := (.array (.array .byte))) (by decide) (by decide)))).other W9 (Or.inr (slot_ne (Or.inl (hw _ (List.mem_of_getElem? (i := 27) rfl))) (Or.inl (hw _ (List.mem_of_getElem? (i := 15) rfl))) (by decide) (t := .int) (t' := .int) (by decide) (by decide)))).other W11 (Or.inr (slot_ne (Or.inl (hw _ (List.mem_of_getElem? (i := 27) rfl))) (Or.inl (hw _ (List.mem_of_getElem? (i := 20) rfl))) (by decide) (t := .int) (t' := .int) (by decide) (by decide)))).other W22 (Or.inr (slot_ne (Or.inl (hw _ (List.mem_of_getElem? (i := 27) rfl))) (Or.inl (hw _ (List.mem_of_getElem? (i := 29) rfl))) (by decide) (t := .int) (t' := .int) (by decide) (by decide)))), Fw22, ((((V_bW.other W8 naW.symm).other W9 naW.symm).other W11 naW.symm).other W22 naW.symm), OA, ((((CW.wr W8).wr W9).wr W11).wr W22), ((((PGN.other W8 naP.symm).other W9 naP.symm).other W11 naP.symm).other W22 naP.symm), ((((CP.wr W8).wr W9).wr W11).wr W22), g_a1, g_bW, (Nat.le_trans Z0 szP), (((((own_stk S_PAGE_SHIFT Kq7).wr W8).wr W9).wr W11).wr W22), hok, EnN⟩, hle, own_mono W w0 hoW hok hc71⟩
theorem d4_23 : decode prog_4_method_4_code 23 = .ok (.return_, 1) := by decide +kernel
set_option maxRecDepth 65536 in
set_option maxHeartbeats 40000000 in
theorem rm4_B (l : Launch) (Z : State) (a0 : Array Value) (hw : ∀ d ∈ tables_1, d.before a0 Z = true) (ws : List Jvm.Cond) (a1 : Addr) (p2 : Int32) (nn wd : Int32) (h0 : Heap) (n0 : Nat) (Z0 : n0 ≤ h0.size) (F_m_nWidest_a1 : Fld Z h0 a1 "com/example/agave_bloom/agavebloom/check/CompactInts" "m_nWidest" "I" (.int wd)) (F_m_nSize_a1 : Fld Z h0 a1 "com/example/agave_bloom/agavebloom/check/CompactInts" "m_nSize" "I" (.int nn)) (F_m_nRoom_a1 : Fld Z h0 a1 "com/example/agave_bloom/agavebloom/check/CompactInts" "m_nRoom" "I" (.int (64 : Int32))) (hc1 : ¬ (p2 < (0 : Int32))) (hc9 : ¬ (wd < p2)) (hc20 : nn < (64 : Int32)) (W : Int32) (N : Nat) (vals : Nat → Int32) (HC : own_CI Z h0 a1 n0 W nn N vals) (hl : p2.toInt ≤ (own_widest W).toInt) :
    MetFree l (⟨"com/example/agave_bloom/agavebloom/check/CompactInts", "makeRoom", "(I)V"⟩ : MethodName) (head1 (Jvm.Cond.code (⟨"com/example/agave_bloom/agavebloom/check/CompactInts", "makeRoom", "(I)V"⟩ : MethodName) prog_4_method_4_code 5 none :: ws) ({ frames := 2, cells := 2, slots := 257, locals := 34 } : Room)) (fun a U => a = #[(.ref a1), (.int p2)] ∧ Z.Warmed39 U.vm ∧ U.heap = h0) (fun _ _ _ _ _ => True) (fun _ U o U' => ∃ v L, o = .returned v ∧ Q4 Z a1 p2 W nn N vals h0 n0 v U'.heap L ∧ FrameEnd U o U' L ({ frames := 2, cells := 2, slots := 257, locals := 34 } : Room).cells ({ frames := 2, cells := 2, slots := 257, locals := 34 } : Room).slots) := by
  refine MetFree.of_bodySF (plainFor_of_name pn_4) hisR ?_
  intro p e s m args below meth c s₁ Bd hml0 hP hK
  obtain ⟨rfl, hZ, hh⟩ := hP
  have hx := Bd.exec
  have hby := Bd.bytes
  have hml : c.maxLocals = 5 := hml0
  have hown : s.vm.findClass "com/example/agave_bloom/agavebloom/check/CompactInts" = some m.cls := findClass_of_methodNamed Bd.named
  have hnm := (name_of_methodNamed Bd.named Bd.method).1
  have X0 : Stand p l e ({ frames := 2, cells := 2, slots := 257, locals := 34 } : Room) s m #[(.ref a1), (.int p2)] below meth c s₁ [] 0 0 := Stand.of_body Bd
  have e0 : s₁.heap = h0 := by rw [← hh, Bd.state]; rfl
  have N0 := Fr.nil n0
  have pre0 : ∀ t, Steps p.tables e below (s₁.setTop (mkF m 0 #[.val (.ref a1), .val (.int p2), .unset, .unset, .unset] [])) t → Steps p.tables e below (s₁.setTop (entryFrame m #[(.ref a1), (.int p2)] 5)) t := fun t k => castTop (ef_4 m a1 p2) k
  obtain ⟨T3, X3, e3, st3⟩ := getF X0 hx hZ hown (host := "") (Or.inl (hw _ (List.mem_of_getElem? (i := 19) rfl))) Via.refl e0 F_m_nWidest_a1 (g := (mkF m 6 #[.val (.ref a1), .val (.int p2), .unset, .unset, .unset] [(.ref a1), (.int p2)])) rfl rfl (hb hby d4_6)
  obtain ⟨T4, X4, e4, st4⟩ := getF X3 hx hZ hown (host := "") (Or.inl (hw _ (List.mem_of_getElem? (i := 26) rfl))) Via.refl e3 F_m_nSize_a1 (g := (mkF m 13 #[.val (.ref a1), .val (.int p2), .unset, .unset, .unset] [(.ref a1)])) rfl rfl (hb hby d4_13)
  obtain ⟨T5, X5, e5, st5⟩ := getF X4 hx hZ hown (host := "") (Or.inl (hw _ (List.mem_of_getElem? (i := 28) rfl))) Via.refl e4 F_m_nRoom_a1 (g := (mkF m 17 #[.val (.ref a1), .val (.int p2), .unset, .unset, .unset] [(.ref a1), (.int nn)])) rfl rfl (hb hby d4_17)
  obtain ⟨fs, hr, hrun, hended, hW, hsame⟩ := X5.leave (v := none) (fun _ => rfl)
  refine ⟨_, _, pre0 _ ?_, hrun, hended, _, _, rfl, ?_, ⟨_, rfl⟩, hW, hsame.mono (by decide) (by decide)⟩
  · show Steps p.tables e below (s₁.setTop (mkF m 0 #[.val (.ref a1), .val (.int p2), .unset, .unset, .unset] [])) _
    refine XS.iloadN X0.here hx rfl (hb hby d4_0) rfl ?_
    show Steps p.tables e below (s₁.setTop (mkF m 1 #[.val (.ref a1), .val (.int p2), .unset, .unset, .unset] [(.int p2)])) _
    refine XS.ifNo X0.here hx rfl (hb hby d4_1) rfl ((if0 _ _).trans (flt hc1).1) ?_
    show Steps p.tables e below (s₁.setTop (mkF m 4 #[.val (.ref a1), .val (.int p2), .unset, .unset, .unset] [])) _
    refine XS.iloadN X0.here hx rfl (hb hby d4_4) rfl ?_
    show Steps p.tables e below (s₁.setTop (mkF m 5 #[.val (.ref a1), .val (.int p2), .unset, .unset, .unset] [(.int p2)])) _
    refine XS.aloadN X0.here hx rfl (hb hby d4_5) rfl rfl ?_
    show Steps p.tables e below (s₁.setTop (mkF m 6 #[.val (.ref a1), .val (.int p2), .unset, .unset, .unset] [(.ref a1), (.int p2)])) _
    refine st3 _ ?_
    show Steps p.tables e below (T3.setTop (mkF m 9 #[.val (.ref a1), .val (.int p2), .unset, .unset, .unset] [(.int wd), (.int p2)])) _
    refine XS.icmpNo X3.here hx rfl (hb hby d4_9) rfl (flt hc9).2.2.1 ?_
    show Steps p.tables e below (T3.setTop (mkF m 12 #[.val (.ref a1), .val (.int p2), .unset, .unset, .unset] [])) _
    refine XS.aloadN X3.here hx rfl (hb hby d4_12) rfl rfl ?_
    show Steps p.tables e below (T3.setTop (mkF m 13 #[.val (.ref a1), .val (.int p2), .unset, .unset, .unset] [(.ref a1)])) _
    refine st4 _ ?_
    show Steps p.tables e below (T4.setTop (mkF m 16 #[.val (.ref a1), .val (.int p2), .unset, .unset, .unset] [(.int nn)])) _
    refine XS.aloadN X4.here hx rfl (hb hby d4_16) rfl rfl ?_
    show Steps p.tables e below (T4.setTop (mkF m 17 #[.val (.ref a1), .val (.int p2), .unset, .unset, .unset] [(.ref a1), (.int nn)])) _
    refine st5 _ ?_
    show Steps p.tables e below (T5.setTop (mkF m 20 #[.val (.ref a1), .val (.int p2), .unset, .unset, .unset] [(.int (64 : Int32)), (.int nn)])) _
    refine XS.icmpNo X5.here hx rfl (hb hby d4_20) rfl (tlt hc20).2.1 ?_
    show Steps p.tables e below (T5.setTop (mkF m 23 #[.val (.ref a1), .val (.int p2), .unset, .unset, .unset] [])) _
    exact X5.returnOut hx Bd.returns (hb hby d4_23) hr
  · show Q4 Z a1 p2 W nn N vals h0 n0 _ T5.heap _
    rw [e5]
    exact ⟨W, rfl, N0, Nat.le_refl _, HC, hl, Int.le_refl _⟩
theorem rm4_0 (l : Launch) (Z : State) (a0 : Array Value) (hw : ∀ d ∈ tables_1, d.before a0 Z = true) (ws : List Jvm.Cond) (a1 : Addr) (p2 : Int32) (vals : Nat → Int32) (h0 : Heap) (n0 : Nat) (Z0 : n0 ≤ h0.size) (H : own_C0 Z h0 a1 n0) (hv0 : 0 ≤ p2.toInt) :
    MetFree l (⟨"com/example/agave_bloom/agavebloom/check/CompactInts", "makeRoom", "(I)V"⟩ : MethodName) (head1 (Jvm.Cond.code (⟨"com/example/agave_bloom/agavebloom/check/CompactInts", "makeRoom", "(I)V"⟩ : MethodName) prog_4_method_4_code 5 none :: ws) ({ frames := 2, cells := 2, slots := 257, locals := 34 } : Room)) (fun a U => a = #[(.ref a1), (.int p2)] ∧ Z.Warmed39 U.vm ∧ U.heap = h0) (fun _ _ _ _ _ => True) (fun _ U o U' => ∃ v L, o = .returned v ∧ Q4 Z a1 p2 (1 : Int32) (0 : Int32) 0 vals h0 n0 v U'.heap L ∧ FrameEnd U o U' L ({ frames := 2, cells := 2, slots := 257, locals := 34 } : Room).cells ({ frames := 2, cells := 2, slots := 257, locals := 34 } : Room).slots) := by
  obtain ⟨pA, kA, e0, f1, f2, f3, f4, f5, v6, o7, e8, g9, g10, s12⟩ := H
  have z0 : (0 : Int32).toInt = 0 := rfl
  have hc1 : ¬ (p2 < (0 : Int32)) := by rw [Int32.lt_iff_toInt_lt]; omega
  by_cases hc : (255 : Int32) < p2
  · exact rm4_A2 l Z a0 hw ws a1 p2 pA kA vals h0 n0 Z0 e0 f1 f2 f3 f4 f5 v6 o7 e8 g9 g10 s12 hc1 hc
  · exact rm4_A1 l Z a0 hw ws a1 p2 pA kA vals h0 n0 Z0 e0 f1 f2 f3 f4 f5 v6 o7 e8 g9 g10 s12 hc1 hc
theorem rm4_1 (l : Launch) (Z : State) (a0 : Array Value) (hw : ∀ d ∈ tables_1, d.before a0 Z = true) (ws : List Jvm.Cond) (a1 : Addr) (p2 W : Int32) (vals : Nat → Int32) (h0 : Heap) (n0 : Nat) (Z0 : n0 ≤ h0.size) (H : own_CI Z h0 a1 n0 W (1 : Int32) 1 vals) (hvs : ∀ i, i < 1 → 0 ≤ (vals i).toInt ∧ (vals i).toInt ≤ (own_widest W).toInt) (hv0 : 0 ≤ p2.toInt) :
    MetFree l (⟨"com/example/agave_bloom/agavebloom/check/CompactInts", "makeRoom", "(I)V"⟩ : MethodName) (head1 (Jvm.Cond.code (⟨"com/example/agave_bloom/agavebloom/check/CompactInts", "makeRoom", "(I)V"⟩ : MethodName) prog_4_method_4_code 5 none :: ws) ({ frames := 2, cells := 2, slots := 257, locals := 34 } : Room)) (fun a U => a = #[(.ref a1), (.int p2)] ∧ Z.Warmed39 U.vm ∧ U.heap = h0) (fun _ _ _ _ _ => True) (fun _ U o U' => ∃ v L, o = .returned v ∧ Q4 Z a1 p2 W (1 : Int32) 1 vals h0 n0 v U'.heap L ∧ FrameEnd U o U' L ({ frames := 2, cells := 2, slots := 257, locals := 34 } : Room).cells ({ frames := 2, cells := 2, slots := 257, locals := 34 } : Room).slots) := by
  have HC := H
  obtain ⟨pA, kA, pg, B, e0, f1, f2, f3, f4, f5, v6, o7, e8, p8, eg, g9, g10, g11, s12, hW, hE⟩ := H
  have z0 : (0 : Int32).toInt = 0 := rfl
  have hc1 : ¬ (p2 < (0 : Int32)) := by rw [Int32.lt_iff_toInt_lt]; omega
  by_cases hc : own_widest W < p2
  · exact rm4_C1 l Z a0 hw ws a1 p2 pA kA pg W B vals h0 n0 Z0 e0 f1 f2 f3 f4 f5 v6 o7 e8 g9 g10 s12 p8 eg g11 hW hE hvs hc1 hc
  · exact rm4_B l Z a0 hw ws a1 p2 (1 : Int32) (own_widest W) h0 n0 Z0 f3 f4 f5 hc1 hc (by decide) W 1 vals HC (by rw [Int32.lt_iff_toInt_lt] at hc; omega)
theorem rm4_2 (l : Launch) (Z : State) (a0 : Array Value) (hw : ∀ d ∈ tables_1, d.before a0 Z = true) (ws : List Jvm.Cond) (a1 : Addr) (p2 W : Int32) (vals : Nat → Int32) (h0 : Heap) (n0 : Nat) (Z0 : n0 ≤ h0.size) (H : own_CI Z h0 a1 n0 W (2 : Int32) 2 vals) (hvs : ∀ i, i < 2 → 0 ≤ (vals i).toInt ∧ (vals i).toInt ≤ (own_widest W).toInt) (hv0 : 0 ≤ p2.toInt) :
    MetFree l (⟨"com/example/agave_bloom/agavebloom/check/CompactInts", "makeRoom", "(I)V"⟩ : MethodName) (head1 (Jvm.Cond.code (⟨"com/example/agave_bloom/agavebloom/check/CompactInts", "makeRoom", "(I)V"⟩ : MethodName) prog_4_method_4_code 5 none :: ws) ({ frames := 2, cells := 2, slots := 257, locals := 34 } : Room)) (fun a U => a = #[(.ref a1), (.int p2)] ∧ Z.Warmed39 U.vm ∧ U.heap = h0) (fun _ _ _ _ _ => True) (fun _ U o U' => ∃ v L, o = .returned v ∧ Q4 Z a1 p2 W (2 : Int32) 2 vals h0 n0 v U'.heap L ∧ FrameEnd U o U' L ({ frames := 2, cells := 2, slots := 257, locals := 34 } : Room).cells ({ frames := 2, cells := 2, slots := 257, locals := 34 } : Room).slots) := by
  have HC := H
  obtain ⟨pA, kA, pg, B, e0, f1, f2, f3, f4, f5, v6, o7, e8, p8, eg, g9, g10, g11, s12, hW, hE⟩ := H
  have z0 : (0 : Int32).toInt = 0 := rfl
  have hc1 : ¬ (p2 < (0 : Int32)) := by rw [Int32.lt_iff_toInt_lt]; omega
  by_cases hc : own_widest W < p2
  · exact rm4_C2 l Z a0 hw ws a1 p2 pA kA pg W B vals h0 n0 Z0 e0 f1 f2 f3 f4 f5 v6 o7 e8 g9 g10 s12 p8 eg g11 hW hE hvs hc1 hc
  · exact rm4_B l Z a0 hw ws a1 p2 (2 : Int32) (own_widest W) h0 n0 Z0 f3 f4 f5 hc1 hc (by decide) W 2 vals HC (by rw [Int32.lt_iff_toInt_lt] at hc; omega)
theorem d1_0 : decode prog_4_method_1_code 0 = .ok (.aload_n 0, 1) := by decide +kernel
theorem d1_1 : decode prog_4_method_1_code 1 = .ok (.invokespecial 3, 3) := by decide +kernel
theorem d1_4 : decode prog_4_method_1_code 4 = .ok (.aload_n 0, 1) := by decide +kernel
theorem d1_5 : decode prog_4_method_1_code 5 = .ok (.iconst 1, 1) := by decide +kernel
theorem d1_6 : decode prog_4_method_1_code 6 = .ok (.anewarray 9, 3) := by decide +kernel
theorem d1_9 : decode prog_4_method_1_code 9 = .ok (.putfield 11, 3) := by decide +kernel
theorem d1_12 : decode prog_4_method_1_code 12 = .ok (.aload_n 0, 1) := by decide +kernel
theorem d1_13 : decode prog_4_method_1_code 13 = .ok (.iconst 1, 1) := by decide +kernel
theorem d1_14 : decode prog_4_method_1_code 14 = .ok (.putfield 17, 3) := by decide +kernel
theorem d1_17 : decode prog_4_method_1_code 17 = .ok (.aload_n 0, 1) := by decide +kernel
theorem d1_18 : decode prog_4_method_1_code 18 = .ok (.iconst 1, 1) := by decide +kernel
theorem d1_19 : decode prog_4_method_1_code 19 = .ok (.invokestatic 21, 3) := by decide +kernel
theorem d1_22 : decode prog_4_method_1_code 22 = .ok (.putfield 25, 3) := by decide +kernel
theorem d1_25 : decode prog_4_method_1_code 25 = .ok (.return_, 1) := by decide +kernel
theorem pn_1 : plainName "com/example/agave_bloom/agavebloom/check/CompactInts" = true := by first | (simp [plainName, overriddenIn]; done) | decide +kernel
theorem pd_1_1 : parseMethodDescriptor "(I)I" = some ⟨[.int], some .int⟩ := by decide +kernel
theorem ef_1 (m : MethodId) (x0 : Addr) : entryFrame m #[(.ref x0)] 1 = mkF m 0 #[.val (.ref x0)] [] := by first | (simp [entryFrame, mkF, argsToLocals, Value.category]; done) | rfl
def Q1 (Z : State) (a : Addr) (h0 : Heap) (n0 : Nat) (v : Option Value) (h : Heap) (L : List Loc) : Prop := v = none ∧ Fr n0 L ∧ h0.size ≤ h.size ∧ own_C0 Z h a n0
set_option maxRecDepth 65536 in
set_option maxHeartbeats 40000000 in
theorem rm1 (l : Launch) (Z : State) (a0 : Array Value) (hw : ∀ d ∈ tables_1, d.before a0 Z = true) (ws : List Jvm.Cond) (a1 : Addr) (h0 : Heap) (n0 : Nat) (Z0 : n0 ≤ h0.size) (E_a1 : Exa Z h0 a1 "com/example/agave_bloom/agavebloom/check/CompactInts") (F_m_aPages_a1 : Fld Z h0 a1 "com/example/agave_bloom/agavebloom/check/CompactInts" "m_aPages" "[[B" .null) (F_m_nWidth_a1 : Fld Z h0 a1 "com/example/agave_bloom/agavebloom/check/CompactInts" "m_nWidth" "I" (.int (0 : Int32))) (F_m_nWidest_a1 : Fld Z h0 a1 "com/example/agave_bloom/agavebloom/check/CompactInts" "m_nWidest" "I" (.int (0 : Int32))) (F_m_nSize_a1 : Fld Z h0 a1 "com/example/agave_bloom/agavebloom/check/CompactInts" "m_nSize" "I" (.int (0 : Int32))) (F_m_nRoom_a1 : Fld Z h0 a1 "com/example/agave_bloom/agavebloom/check/CompactInts" "m_nRoom" "I" (.int (0 : Int32))) (g_a1 : n0 ≤ a1) (S_PAGE_SHIFT : Sta Z h0 "com/example/agave_bloom/agavebloom/check/CompactInts" "PAGE_SHIFT" "I" (.int (16 : Int32))) :
    MetFree l (⟨"com/example/agave_bloom/agavebloom/check/CompactInts", "<init>", "()V"⟩ : MethodName) (head1 (Jvm.Cond.code (⟨"com/example/agave_bloom/agavebloom/check/CompactInts", "<init>", "()V"⟩ : MethodName) prog_4_method_1_code 1 none :: ws) ({ frames := 1, cells := 1, slots := 1, locals := 13 } : Room)) (fun a U => a = #[(.ref a1)] ∧ Z.Warmed39 U.vm ∧ U.heap = h0) (fun _ _ _ _ _ => True) (fun _ U o U' => ∃ v L, o = .returned v ∧ Q1 Z a1 h0 n0 v U'.heap L ∧ FrameEnd U o U' L ({ frames := 1, cells := 1, slots := 1, locals := 13 } : Room).cells ({ frames := 1, cells := 1, slots := 1, locals := 13 } : Room).slots) := by
  refine MetFree.of_bodySF (plainFor_of_name pn_1) hisR ?_
  intro p e s m args below meth c s₁ Bd hml0 hP hK
  obtain ⟨rfl, hZ, hh⟩ := hP
  have hx := Bd.exec
  have hby := Bd.bytes
  have hml : c.maxLocals = 1 := hml0
  have hown : s.vm.findClass "com/example/agave_bloom/agavebloom/check/CompactInts" = some m.cls := findClass_of_methodNamed Bd.named
  have hnm := (name_of_methodNamed Bd.named Bd.method).1
  have X0 : Stand p l e ({ frames := 1, cells := 1, slots := 1, locals := 13 } : Room) s m #[(.ref a1)] below meth c s₁ [] 0 0 := Stand.of_body Bd
  have e0 : s₁.heap = h0 := by rw [← hh, Bd.state]; rfl
  have N0 := Fr.nil n0
  have pre0 : ∀ t, Steps p.tables e below (s₁.setTop (mkF m 0 #[.val (.ref a1)] [])) t → Steps p.tables e below (s₁.setTop (entryFrame m #[(.ref a1)] 1)) t := fun t k => castTop (ef_1 m a1) k
  obtain ⟨T2, X2, e2, st2⟩ := initO X0 hx hZ hown (hw _ (List.mem_of_getElem? (i := 7) rfl)) (hw _ (List.mem_of_getElem? (i := 8) rfl)) (hw _ (List.mem_of_getElem? (i := 9) rfl)) e0 (g := (mkF m 1 #[.val (.ref a1)] [(.ref a1)])) rfl (by rw [hml]; rfl) rfl (hb hby d1_1) (by decide) (W := 0) (by show 2 * 0 + _ ≤ _; exact Nat.le_of_eq rfl) (by decide)
  obtain ⟨T3, h3, k3, X3, e3, E3, A3, C3, O3, st3⟩ := newRA X2 hx hZ hown (C := "[B") (ty := .byte) (by decide) (hw _ (List.mem_of_getElem? (i := 10) rfl)) (hw _ (List.mem_of_getElem? (i := 11) rfl)) e2 (g := (mkF m 6 #[.val (.ref a1)] [(.int (1 : Int32)), (.ref a1)])) rfl (hb hby d1_6) rfl (by decide) (cap := 1) (by decide) (by decide) (by decide) (by decide) (ad := "[[B") (by decide)
  obtain ⟨b3, g3⟩ : ∃ z, z = h0.size := ⟨_, rfl⟩
  rw [← g3] at A3 C3 st3
  have V_b3 : Arv Z h3 b3 k3 (.array .byte) (1 : Int32) [.null] .null := (Arv.new A3 (by decide)).pad (pad_rep [] .null 1)
  have g_b3 : n0 ≤ b3 := Nat.le_trans Z0 (Nat.le_of_eq g3.symm)
  have sz_b3 : h0.size ≤ b3 := (Nat.le_trans (Keep.refl h0 [a1]).1 (Nat.le_of_eq g3.symm))
  have naB : a1 ≠ b3 := ne_exa (E_a1.ext E3) C3 (by decide)
  have K3 : Keep h0 h3 [a1] := (Keep.refl h0 [a1]).ext E3
  obtain ⟨T4, h4, X4, e4, W4, st4⟩ := putF X3 hx hZ hown (host := "") (Or.inl (hw _ (List.mem_of_getElem? (i := 12) rfl))) Via.refl e3 (F_m_aPages_a1.ext E3) (E_a1.ext E3) (Or.inl (hw _ (List.mem_of_getElem? (i := 13) rfl))) (hw _ (List.mem_of_getElem? (i := 2) rfl)) (ty := (.array (.array .byte))) (by decide) rfl rfl (g := (mkF m 9 #[.val (.ref a1)] [(.ref b3), (.ref a1)])) rfl rfl (hb hby d1_9)
  have Fw4 := (F_m_aPages_a1.ext E3).same W4
  have K4 : Keep h0 h4 [a1] := K3.wr W4 (Or.inl (List.mem_of_getElem? (i := 0) rfl))
  have N4 := Fr.snoc X4 N0 g_a1
  obtain ⟨T5, h5, X5, e5, W5, st5⟩ := putF X4 hx hZ hown (host := "") (Or.inl (hw _ (List.mem_of_getElem? (i := 14) rfl))) Via.refl e4 ((F_m_nWidth_a1.ext E3).other W4 (Or.inr (slot_ne (Or.inl (hw _ (List.mem_of_getElem? (i := 15) rfl))) (Or.inl (hw _ (List.mem_of_getElem? (i := 13) rfl))) (by decide) (t := .int) (t' := (.array (.array .byte))) (by decide) (by decide)))) ((E_a1.ext E3).wr W4) (Or.inl (hw _ (List.mem_of_getElem? (i := 15) rfl))) (hw _ (List.mem_of_getElem? (i := 2) rfl)) (ty := .int) (by decide) rfl rfl (g := (mkF m 14 #[.val (.ref a1)] [(.int (1 : Int32)), (.ref a1)])) rfl rfl (hb hby d1_14)
  have Fw5 := ((F_m_nWidth_a1.ext E3).other W4 (Or.inr (slot_ne (Or.inl (hw _ (List.mem_of_getElem? (i := 15) rfl))) (Or.inl (hw _ (List.mem_of_getElem? (i := 13) rfl))) (by decide) (t := .int) (t' := (.array (.array .byte))) (by decide) (by decide)))).same W5
  have K5 : Keep h0 h5 [a1] := K4.wr W5 (Or.inl (List.mem_of_getElem? (i := 0) rfl))
  have N5 := Fr.snoc X5 N4 g_a1
  obtain ⟨_, _, ⟨T6, L6, k6, n6⟩, -, X6, ⟨Lc6, hQ6, l6, y6, z6⟩, st6⟩ := Jvm.LawKit.callS X5 hx (y := (⟨"com/example/agave_bloom/agavebloom/check/CompactInts", "_widest", "(I)I"⟩ : MethodName)) hown (mvT hZ (hw _ (List.mem_of_getElem? (i := 16) rfl))) (mvT hZ (hw _ (List.mem_of_getElem? (i := 17) rfl))) (mvT hZ (hw _ (List.mem_of_getElem? (i := 3) rfl))) (mvT hZ (hw _ (List.mem_of_getElem? (i := 18) rfl))) (by decide) (backOf (W := 1) (rm3 l Z a0 hw [] (1 : Int32) h5 n0 (Nat.le_trans Z0 K5.1) (Or.inl rfl)) hZ (hw _ (List.mem_of_getElem? (i := 18) rfl)) (hw _ (List.mem_of_getElem? (i := 3) rfl)) (by decide) (by decide)) (g := (mkF m 19 #[.val (.ref a1)] [(.int (1 : Int32)), (.ref a1)])) rfl (by rw [hml]; rfl) (argsL := [(.int (1 : Int32))]) (rest := [(.ref a1)]) (lenOf pd_1_1 rfl) rfl (by show 2 * 0 + _ ≤ _; exact Nat.le_of_eq rfl) (hb hby d1_19) (fun _ _ => ⟨rfl, e5, (by decide : 1 + 0 ≤ _), (by decide : 1 + 0 ≤ _)⟩)
  dsimp only [Pt.U, Pt.locs, Pt.cells, Pt.slots] at X6 l6 y6 z6 st6 hQ6
  subst l6 y6 z6
  obtain ⟨rfl, N6q, eq6⟩ := hQ6
  have N6 := Fr.app N5 N6q
  obtain ⟨T7, h7, X7, e7, W7, st7⟩ := putF X6 hx hZ hown (host := "") (Or.inl (hw _ (List.mem_of_getElem? (i := 19) rfl))) Via.refl eq6 (((F_m_nWidest_a1.ext E3).other W4 (Or.inr (slot_ne (Or.inl (hw _ (List.mem_of_getElem? (i := 20) rfl))) (Or.inl (hw _ (List.mem_of_getElem? (i := 13) rfl))) (by decide) (t := .int) (t' := (.array (.array .byte))) (by decide) (by decide)))).other W5 (Or.inr (slot_ne (Or.inl (hw _ (List.mem_of_getElem? (i := 20) rfl))) (Or.inl (hw _ (List.mem_of_getElem? (i := 15) rfl))) (by decide) (t := .int) (t' := .int) (by decide) (by decide)))) (((E_a1.ext E3).wr W4).wr W5) (Or.inl (hw _ (List.mem_of_getElem? (i := 20) rfl))) (hw _ (List.mem_of_getElem? (i := 2) rfl)) (ty := .int) (by decide) rfl rfl (g := (mkF m 22 #[.val (.ref a1)] [(.int (own_widest 1)), (.ref a1)])) rfl rfl (hb hby d1_22)
  have Fw7 := (((F_m_nWidest_a1.ext E3).other W4 (Or.inr (slot_ne (Or.inl (hw _ (List.mem_of_getElem? (i := 20) rfl))) (Or.inl (hw _ (List.mem_of_getElem? (i := 13) rfl))) (by decide) (t := .int) (t' := (.array (.array .byte))) (by decide) (by decide)))).other W5 (Or.inr (slot_ne (Or.inl (hw _ (List.mem_of_getElem? (i := 20) rfl))) (Or.inl (hw _ (List.mem_of_getElem? (i := 15) rfl))) (by decide) (t := .int) (t' := .int) (by decide) (by decide)))).same W7
  have K7 : Keep h0 h7 [a1] := K5.wr W7 (Or.inl (List.mem_of_getElem? (i := 0) rfl))
  have N7 := Fr.snoc X7 N6 g_a1
  obtain ⟨fs, hr, hrun, hended, hW, hsame⟩ := X7.leave (v := none) (fun _ => rfl)
  refine ⟨_, _, pre0 _ ?_, hrun, hended, _, _, rfl, ?_, ⟨_, rfl⟩, hW, hsame.mono (by decide) (by decide)⟩
  · show Steps p.tables e below (s₁.setTop (mkF m 0 #[.val (.ref a1)] [])) _
    refine XS.aloadN X0.here hx rfl (hb hby d1_0) rfl rfl ?_
    show Steps p.tables e below (s₁.setTop (mkF m 1 #[.val (.ref a1)] [(.ref a1)])) _
    refine st2 _ ?_
    show Steps p.tables e below (T2.setTop (mkF m 4 #[.val (.ref a1)] [])) _
    refine XS.aloadN X2.here hx rfl (hb hby d1_4) rfl rfl ?_
    show Steps p.tables e below (T2.setTop (mkF m 5 #[.val (.ref a1)] [(.ref a1)])) _
    refine XS.iconst X2.here hx rfl (hb hby d1_5) ?_
    show Steps p.tables e below (T2.setTop (mkF m 6 #[.val (.ref a1)] [(.int (1 : Int32)), (.ref a1)])) _
    refine st3 _ ?_
    show Steps p.tables e below (T3.setTop (mkF m 9 #[.val (.ref a1)] [(.ref b3), (.ref a1)])) _
    refine st4 _ ?_
    show Steps p.tables e below (T4.setTop (mkF m 12 #[.val (.ref a1)] [])) _
    refine XS.aloadN X4.here hx rfl (hb hby d1_12) rfl rfl ?_
    show Steps p.tables e below (T4.setTop (mkF m 13 #[.val (.ref a1)] [(.ref a1)])) _
    refine XS.iconst X4.here hx rfl (hb hby d1_13) ?_
    show Steps p.tables e below (T4.setTop (mkF m 14 #[.val (.ref a1)] [(.int (1 : Int32)), (.ref a1)])) _
    refine st5 _ ?_
    show Steps p.tables e below (T5.setTop (mkF m 17 #[.val (.ref a1)] [])) _
    refine XS.aloadN X5.here hx rfl (hb hby d1_17) rfl rfl ?_
    show Steps p.tables e below (T5.setTop (mkF m 18 #[.val (.ref a1)] [(.ref a1)])) _
    refine XS.iconst X5.here hx rfl (hb hby d1_18) ?_
    show Steps p.tables e below (T5.setTop (mkF m 19 #[.val (.ref a1)] [(.int (1 : Int32)), (.ref a1)])) _
    refine st6 _ ?_
    show Steps p.tables e below (T6.setTop (mkF m 22 #[.val (.ref a1)] [(.int (own_widest 1)), (.ref a1)])) _
    refine st7 _ ?_
    show Steps p.tables e below (T7.setTop (mkF m 25 #[.val (.ref a1)] [])) _
    exact X7.returnOut hx Bd.returns (hb hby d1_25) hr
  · show Q1 Z a1 h0 n0 _ T7.heap _
    rw [e7]
    exact ⟨rfl, N7, K7.1, b3, k3, ((((E_a1.ext E3).wr W4).wr W5).wr W7), ((Fw4.other W5 (Or.inr (slot_ne (Or.inl (hw _ (List.mem_of_getElem? (i := 13) rfl))) (Or.inl (hw _ (List.mem_of_getElem? (i := 15) rfl))) (by decide) (t := (.array (.array .byte))) (t' := .int) (by decide) (by decide)))).other W7 (Or.inr (slot_ne (Or.inl (hw _ (List.mem_of_getElem? (i := 13) rfl))) (Or.inl (hw _ (List.mem_of_getElem? (i := 20) rfl))) (by decide) (t := (.array (.array .byte))) (t' := .int) (by decide) (by decide)))), (Fw5.other W7 (Or.inr (slot_ne (Or.inl (hw _ (List.mem_of_getElem? (i := 15) rfl))) (Or.inl (hw _ (List.mem_of_getElem? (i := 20) rfl))) (by decide) (t := .int) (t' := .int) (by decide) (by decide)))), Fw7, ((((F_m_nSize_a1.ext E3).other W4 (Or.inr (slot_ne (Or.inl (hw _ (List.mem_of_getElem? (i := 27) rfl))) (Or.inl (hw _ (List.mem_of_getElem? (i := 13) rfl))) (by decide) (t := .int) (t' := (.array (.array .byte))) (by decide) (by decide)))).other W5 (Or.inr (slot_ne (Or.inl (hw _ (List.mem_of_getElem? (i := 27) rfl))) (Or.inl (hw _ (List.mem_of_getElem? (i := 15) rfl))) (by decide) (t := .int) (t' := .int) (by decide) (by decide)))).other W7 (Or.inr (slot_ne (Or.inl (hw _ (List.mem_of_getElem? (i := 27) rfl))) (Or.inl (hw _ (List.mem_of_getElem? (i := 20) rfl))) (by decide) (t := .int) (t' := .int) (by decide) (by decide)))), ((((F_m_nRoom_a1.ext E3).other W4 (Or.inr (slot_ne (Or.inl (hw _ (List.mem_of_getElem? (i := 29) rfl))) (Or.inl (hw _ (List.mem_of_getElem? (i := 13) rfl))) (by decide) (t := .int) (t' := (.array (.array .byte))) (by decide) (by decide)))).other W5 (Or.inr (slot_ne (Or.inl (hw _ (List.mem_of_getElem? (i := 29) rfl))) (Or.inl (hw _ (List.mem_of_getElem? (i := 15) rfl))) (by decide) (t := .int) (t' := .int) (by decide) (by decide)))).other W7 (Or.inr (slot_ne (Or.inl (hw _ (List.mem_of_getElem? (i := 29) rfl))) (Or.inl (hw _ (List.mem_of_getElem? (i := 20) rfl))) (by decide) (t := .int) (t' := .int) (by decide) (by decide)))), (((V_b3.other W4 naB.symm).other W5 naB.symm).other W7 naB.symm), O3, (((C3.wr W4).wr W5).wr W7), g_a1, g_b3, ((((S_PAGE_SHIFT.ext E3).wr W4).wr W5).wr W7)⟩

def own_v3 (x y z : Int32) : Nat → Int32 := fun i => if i = 0 then x else if i = 1 then y else z
theorem own_nnS (x m q : Int32) (hm : m = 2147483647) : 0 ≤ ((((x &&& m).toUInt32 >>> (q &&& 31).toUInt32).toInt32)).toInt := by
  subst hm
  have h := c_mask x 2147483647 31 (by decide) (by decide)
  have h' : (x &&& (2147483647 : Int32)).toInt = x.toInt % 2147483648 := h
  generalize (x &&& (2147483647 : Int32)) = y at *
  have hy : 0 ≤ y.toInt := by omega
  have ny := own_nn y hy
  have ry := rng32 y
  show 0 ≤ (y.toBitVec >>> ((q &&& 31).toBitVec % 32)).toInt
  rw [BitVec.toInt_eq_toNat_cond, BitVec.ushiftRight_eq', BitVec.toNat_ushiftRight]
  have l := Nat.shiftRight_le y.toBitVec.toNat ((q &&& 31).toBitVec % 32).toNat
  rw [if_pos (by omega)]
  exact Int.natCast_nonneg _
theorem own_ciE {Z : State} {h : Heap} {a : Addr} {n0 : Nat} {W n : Int32} {N : Nat} {vals : Nat → Int32} (H : own_CI Z h a n0 W n N vals) : Exa Z h a "com/example/agave_bloom/agavebloom/check/CompactInts" := by
  obtain ⟨pA, kA, pg, B, e0, r⟩ := H; exact e0
theorem own_c0E {Z : State} {h : Heap} {a : Addr} {n0 : Nat} (H : own_C0 Z h a n0) : Exa Z h a "com/example/agave_bloom/agavebloom/check/CompactInts" := by
  obtain ⟨pA, kA, e0, r⟩ := H; exact e0
theorem own_sti {s : State} {args : Array Value} {C n d : String} {k : Int32} (h : (Jvm.Cond.eq (.static C n d) (.int k)).value args s none s [] = some true) : (Term.static C n d).eval args s none [] s = some (.int k) := by
  obtain ⟨x, y, h1, h2, h3, h4⟩ := cmp_v (Or.inl h)
  obtain rfl : y = .int k := (Option.some.inj (h2.symm.trans (Term.int_eval k)))
  obtain ⟨z, rfl⟩ := h4
  rw [h1]
  have q := gotT (Cond.eq_ints h1 h2) h
  rw [q]
theorem pn_0 : plainName "com/example/agave_bloom/agavebloom/check/CompactIntsGetPinLaw" = true := by first | (simp [plainName, overriddenIn]; done) | decide +kernel
theorem pd_0_0 : parseMethodDescriptor "()V" = some ⟨[], none⟩ := by decide +kernel
theorem pd_0_2 : parseMethodDescriptor "(I)V" = some ⟨[.int], none⟩ := by decide +kernel
theorem pd_0_1 : parseMethodDescriptor "(I)I" = some ⟨[.int], some .int⟩ := by decide +kernel
theorem ef_0 (m : MethodId) (x0 : Int32) (x1 : Int32) (x2 : Int32) (x3 : Int32) : entryFrame m #[(.int x0), (.int x1), (.int x2), (.int x3)] maxLocals = mkF m 0 #[.val (.int x0), .val (.int x1), .val (.int x2), .val (.int x3), .unset, .unset, .unset, .unset] [] := by first | (simp [entryFrame, mkF, argsToLocals, Value.category, maxLocals]; done) | rfl
def Q0 (Z : State) (p1 : Int32) (p2 : Int32) (p3 : Int32) (p4 : Int32) (h0 : Heap) (n0 : Nat) (v : Option Value) (h : Heap) (L : List Loc) : Prop := v = some (.int (1 : Int32)) ∧ Fr n0 L
set_option maxRecDepth 65536 in
set_option maxHeartbeats 40000000 in
theorem rm0 (l : Launch) (Z : State) (a0 : Array Value) (hw : ∀ d ∈ tables_1, d.before a0 Z = true) (ws : List Jvm.Cond) (p1 : Int32) (p2 : Int32) (p3 : Int32) (p4 : Int32) (h0 : Heap) (n0 : Nat) (Z0 : n0 ≤ h0.size) (SP : Sta Z h0 "com/example/agave_bloom/agavebloom/check/CompactInts" "PAGE_SHIFT" "I" (.int (16 : Int32))) :
    MetFree l x (head1 (Jvm.Cond.code x code maxLocals ret :: ws) room_1) (fun a U => a = #[(.int p1), (.int p2), (.int p3), (.int p4)] ∧ Z.Warmed39 U.vm ∧ U.heap = h0) (fun _ _ _ _ _ => True) (fun _ U o U' => ∃ v L, o = .returned v ∧ Q0 Z p1 p2 p3 p4 h0 n0 v U'.heap L ∧ FrameEnd U o U' L room_1.cells room_1.slots) := by
  refine MetFree.of_bodySF (plainFor_of_name pn_0) hisR ?_
  intro p e s m args below meth c s₁ Bd hml0 hP hK
  obtain ⟨rfl, hZ, hh⟩ := hP
  have hx := Bd.exec
  have hby := Bd.bytes
  have hml : c.maxLocals = 8 := hml0
  have hown : s.vm.findClass "com/example/agave_bloom/agavebloom/check/CompactIntsGetPinLaw" = some m.cls := findClass_of_methodNamed Bd.named
  have hnm := (name_of_methodNamed Bd.named Bd.method).1
  have X0 : Stand p l e room_1 s m #[(.int p1), (.int p2), (.int p3), (.int p4)] below meth c s₁ [] 0 0 := Stand.of_body Bd
  have e0 : s₁.heap = h0 := by rw [← hh, Bd.state]; rfl
  have N0 := Fr.nil n0
  have nv0 : 0 ≤ ((((p1 &&& (2147483647 : Int32)).toUInt32 >>> ((p4 &&& (31 : Int32)) &&& 31).toUInt32).toInt32)).toInt := own_nnS p1 2147483647 _ rfl
  have nv1 : 0 ≤ ((((p2 &&& (2147483647 : Int32)).toUInt32 >>> ((((p4.toUInt32 >>> ((5 : Int32) &&& 31).toUInt32).toInt32) &&& (31 : Int32)) &&& 31).toUInt32).toInt32)).toInt := own_nnS p2 2147483647 _ rfl
  have nv2 : 0 ≤ ((((p3 &&& (2147483647 : Int32)).toUInt32 >>> ((((p4.toUInt32 >>> ((10 : Int32) &&& 31).toUInt32).toInt32) &&& (31 : Int32)) &&& 31).toUInt32).toInt32)).toInt := own_nnS p3 2147483647 _ rfl
  have hc97 : (((p1 &&& (2147483647 : Int32)).toUInt32 >>> ((p4 &&& (31 : Int32)) &&& 31).toUInt32).toInt32) = (((p1 &&& (2147483647 : Int32)).toUInt32 >>> ((p4 &&& (31 : Int32)) &&& 31).toUInt32).toInt32) := rfl
  have hc108 : (((p2 &&& (2147483647 : Int32)).toUInt32 >>> ((((p4.toUInt32 >>> ((5 : Int32) &&& 31).toUInt32).toInt32) &&& (31 : Int32)) &&& 31).toUInt32).toInt32) = (((p2 &&& (2147483647 : Int32)).toUInt32 >>> ((((p4.toUInt32 >>> ((5 : Int32) &&& 31).toUInt32).toInt32) &&& (31 : Int32)) &&& 31).toUInt32).toInt32) := rfl
  have hc119 : (((p3 &&& (2147483647 : Int32)).toUInt32 >>> ((((p4.toUInt32 >>> ((10 : Int32) &&& 31).toUInt32).toInt32) &&& (31 : Int32)) &&& 31).toUInt32).toInt32) = (((p3 &&& (2147483647 : Int32)).toUInt32 >>> ((((p4.toUInt32 >>> ((10 : Int32) &&& 31).toUInt32).toInt32) &&& (31 : Int32)) &&& 31).toUInt32).toInt32) := rfl
  have pre0 : ∀ t, Steps p.tables e below (s₁.setTop (mkF m 0 #[.val (.int p1), .val (.int p2), .val (.int p3), .val (.int p4), .unset, .unset, .unset, .unset] [])) t → Steps p.tables e below (s₁.setTop (entryFrame m #[(.int p1), (.int p2), (.int p3), (.int p4)] maxLocals)) t := fun t k => castTop (ef_0 m p1 p2 p3 p4) k
  obtain ⟨T5, h5, X5, e5, E5, A5, D5, -, st5⟩ := newO X0 hx hZ hown (hw _ (List.mem_of_getElem? (i := 1) rfl)) (hw _ (List.mem_of_getElem? (i := 2) rfl)) (hw _ (List.mem_of_getElem? (i := 3) rfl)) e0 (g := (mkF m 38 #[.val (.int p1), .val (.int p2), .val (.int p3), .val (.int p4), .val (.int (((p1 &&& (2147483647 : Int32)).toUInt32 >>> ((p4 &&& (31 : Int32)) &&& 31).toUInt32).toInt32)), .val (.int (((p2 &&& (2147483647 : Int32)).toUInt32 >>> ((((p4.toUInt32 >>> ((5 : Int32) &&& 31).toUInt32).toInt32) &&& (31 : Int32)) &&& 31).toUInt32).toInt32)), .val (.int (((p3 &&& (2147483647 : Int32)).toUInt32 >>> ((((p4.toUInt32 >>> ((10 : Int32) &&& 31).toUInt32).toInt32) &&& (31 : Int32)) &&& 31).toUInt32).toInt32)), .unset] [])) rfl (hb hby at_38) (by decide) (by decide)
  obtain ⟨b5, g5⟩ : ∃ z, z = h0.size := ⟨_, rfl⟩
  rw [← g5] at A5 D5 st5
  have F_m_aPages_b5 : Fld Z h5 b5 "com/example/agave_bloom/agavebloom/check/CompactInts" "m_aPages" "[[B" .null := D5 (Or.inl (hw _ (List.mem_of_getElem? (i := 13) rfl))) (ty := (.array (.array .byte))) (by decide)
  have F_m_nWidth_b5 : Fld Z h5 b5 "com/example/agave_bloom/agavebloom/check/CompactInts" "m_nWidth" "I" (.int (0 : Int32)) := D5 (Or.inl (hw _ (List.mem_of_getElem? (i := 15) rfl))) (ty := .int) (by decide)
  have F_m_nWidest_b5 : Fld Z h5 b5 "com/example/agave_bloom/agavebloom/check/CompactInts" "m_nWidest" "I" (.int (0 : Int32)) := D5 (Or.inl (hw _ (List.mem_of_getElem? (i := 20) rfl))) (ty := .int) (by decide)
  have F_m_nSize_b5 : Fld Z h5 b5 "com/example/agave_bloom/agavebloom/check/CompactInts" "m_nSize" "I" (.int (0 : Int32)) := D5 (Or.inl (hw _ (List.mem_of_getElem? (i := 27) rfl))) (ty := .int) (by decide)
  have F_m_nRoom_b5 : Fld Z h5 b5 "com/example/agave_bloom/agavebloom/check/CompactInts" "m_nRoom" "I" (.int (0 : Int32)) := D5 (Or.inl (hw _ (List.mem_of_getElem? (i := 29) rfl))) (ty := .int) (by decide)
  have E_b5 := A5
  have g_b5 : n0 ≤ b5 := Nat.le_trans Z0 (Nat.le_of_eq g5.symm)
  have sz_b5 : h0.size ≤ b5 := (Nat.le_trans (Keep.refl h0 []).1 (Nat.le_of_eq g5.symm))
  have K5 : Keep h0 h5 [] := (Keep.refl h0 []).ext E5
  obtain ⟨_, _, ⟨T6, L6, k6, n6⟩, -, X6, ⟨Lc6, hQ6, l6, y6, z6⟩, st6⟩ := X5.specialBack hx (y := (⟨"com/example/agave_bloom/agavebloom/check/CompactInts", "<init>", "()V"⟩ : MethodName)) rfl hown (mvT hZ (hw _ (List.mem_of_getElem? (i := 4) rfl))) (mvT hZ (hw _ (List.mem_of_getElem? (i := 5) rfl))) (mvT hZ (hw _ (List.mem_of_getElem? (i := 6) rfl))) (by decide) (backOf (W := 1) (rm1 l Z a0 hw [] b5 h5 n0 (Nat.le_trans Z0 E5.1) E_b5 F_m_aPages_b5 F_m_nWidth_b5 F_m_nWidest_b5 F_m_nSize_b5 F_m_nRoom_b5 g_b5 (SP.ext E5)) hZ (hw _ (List.mem_of_getElem? (i := 6) rfl)) (hw _ (List.mem_of_getElem? (i := 3) rfl)) (by decide) (by decide)) (g := (mkF m 42 #[.val (.int p1), .val (.int p2), .val (.int p3), .val (.int p4), .val (.int (((p1 &&& (2147483647 : Int32)).toUInt32 >>> ((p4 &&& (31 : Int32)) &&& 31).toUInt32).toInt32)), .val (.int (((p2 &&& (2147483647 : Int32)).toUInt32 >>> ((((p4.toUInt32 >>> ((5 : Int32) &&& 31).toUInt32).toInt32) &&& (31 : Int32)) &&& 31).toUInt32).toInt32)), .val (.int (((p3 &&& (2147483647 : Int32)).toUInt32 >>> ((((p4.toUInt32 >>> ((10 : Int32) &&& 31).toUInt32).toInt32) &&& (31 : Int32)) &&& 31).toUInt32).toInt32)), .unset] [(.ref b5), (.ref b5)])) rfl (by rw [hml]; rfl) (Steps.refl _) (a := b5) (argsL := []) (rest := [(.ref b5)]) (lenOf pd_0_0 rfl) rfl (by show 2 * 0 + _ ≤ _; exact Nat.le_of_eq rfl) (hb hby at_42) (fun _ _ => ⟨rfl, e5, (by decide : 1 + 1 ≤ _), (by decide : 5 + 1 ≤ _)⟩)
  dsimp only [Pt.U, Pt.locs, Pt.cells, Pt.slots] at X6 l6 y6 z6 st6 hQ6
  subst l6 y6 z6
  obtain ⟨rfl, N6q, hs6, C0⟩ := hQ6
  have Z6 := Nat.le_trans (Nat.le_trans Z0 E5.1) hs6
  have N6 := Fr.app N0 N6q
  obtain ⟨cq7, kq7, q7a, q7b, q7c⟩ := isOf hZ rfl (own_c0E C0)
  obtain ⟨_, _, ⟨T7, L7, k7, n7⟩, -, X7, ⟨Lc7, hQ7, l7, y7, z7⟩, st7⟩ := X6.virtualBack hx (y := (⟨"com/example/agave_bloom/agavebloom/check/CompactInts", "makeRoom", "(I)V"⟩ : MethodName)) (z := (⟨"com/example/agave_bloom/agavebloom/check/CompactInts", "makeRoom", "(I)V"⟩ : MethodName)) hown (mvT hZ (hw _ (List.mem_of_getElem? (i := 21) rfl))) (mvT hZ (hw _ (List.mem_of_getElem? (i := 22) rfl))) (notFace_of_selects (args := #[]) (mvT hZ (hw _ (List.mem_of_getElem? (i := 24) rfl)))) (mvT hZ (hw _ (List.mem_of_getElem? (i := 24) rfl))) (mvT hZ (hw _ (List.mem_of_getElem? (i := 23) rfl))) (by decide) (backOf (W := 0) (rm4_0 l Z a0 hw [] b5 (((p1 &&& (2147483647 : Int32)).toUInt32 >>> ((p4 &&& (31 : Int32)) &&& 31).toUInt32).toInt32) (own_v3 (((p1 &&& (2147483647 : Int32)).toUInt32 >>> ((p4 &&& (31 : Int32)) &&& 31).toUInt32).toInt32) (((p2 &&& (2147483647 : Int32)).toUInt32 >>> ((((p4.toUInt32 >>> ((5 : Int32) &&& 31).toUInt32).toInt32) &&& (31 : Int32)) &&& 31).toUInt32).toInt32) (((p3 &&& (2147483647 : Int32)).toUInt32 >>> ((((p4.toUInt32 >>> ((10 : Int32) &&& 31).toUInt32).toInt32) &&& (31 : Int32)) &&& 31).toUInt32).toInt32)) T6.heap n0 Z6 C0 nv0) hZ (hw _ (List.mem_of_getElem? (i := 25) rfl)) (hw _ (List.mem_of_getElem? (i := 3) rfl)) (by decide) (by decide)) q7a q7c (g := (mkF m 51 #[.val (.int p1), .val (.int p2), .val (.int p3), .val (.int p4), .val (.int (((p1 &&& (2147483647 : Int32)).toUInt32 >>> ((p4 &&& (31 : Int32)) &&& 31).toUInt32).toInt32)), .val (.int (((p2 &&& (2147483647 : Int32)).toUInt32 >>> ((((p4.toUInt32 >>> ((5 : Int32) &&& 31).toUInt32).toInt32) &&& (31 : Int32)) &&& 31).toUInt32).toInt32)), .val (.int (((p3 &&& (2147483647 : Int32)).toUInt32 >>> ((((p4.toUInt32 >>> ((10 : Int32) &&& 31).toUInt32).toInt32) &&& (31 : Int32)) &&& 31).toUInt32).toInt32)), .val (.ref b5)] [(.int (((p1 &&& (2147483647 : Int32)).toUInt32 >>> ((p4 &&& (31 : Int32)) &&& 31).toUInt32).toInt32)), (.ref b5)])) rfl (by rw [hml]; rfl) (Steps.refl _) (argsL := [(.int (((p1 &&& (2147483647 : Int32)).toUInt32 >>> ((p4 &&& (31 : Int32)) &&& 31).toUInt32).toInt32))]) (rest := []) (lenOf pd_0_2 rfl) rfl (by show 2 * 0 + _ ≤ _; exact Nat.le_of_eq rfl) (hb hby at_51) (fun _ _ => ⟨rfl, rfl, (by decide : 2 + 2 ≤ _), (by decide : 6 + 257 ≤ _)⟩)
  dsimp only [Pt.U, Pt.locs, Pt.cells, Pt.slots] at X7 l7 y7 z7 st7 hQ7
  subst l7 y7 z7
  obtain ⟨W7, rfl, N7q, hs7, CI7, le7, mo7⟩ := hQ7
  have Z7 := Nat.le_trans Z6 hs7
  have N7 := Fr.app N6 N7q
  obtain ⟨cq8, kq8, q8a, q8b, q8c⟩ := isOf hZ rfl (own_ciE CI7)
  obtain ⟨_, _, ⟨T8, L8, k8, n8⟩, -, X8, ⟨Lc8, hQ8, l8, y8, z8⟩, st8⟩ := X7.virtualBack hx (y := (⟨"com/example/agave_bloom/agavebloom/check/CompactInts", "add", "(I)V"⟩ : MethodName)) (z := (⟨"com/example/agave_bloom/agavebloom/check/CompactInts", "add", "(I)V"⟩ : MethodName)) hown (mvT hZ (hw _ (List.mem_of_getElem? (i := 52) rfl))) (mvT hZ (hw _ (List.mem_of_getElem? (i := 53) rfl))) (notFace_of_selects (args := #[]) (mvT hZ (hw _ (List.mem_of_getElem? (i := 55) rfl)))) (mvT hZ (hw _ (List.mem_of_getElem? (i := 55) rfl))) (mvT hZ (hw _ (List.mem_of_getElem? (i := 54) rfl))) (by decide) (backOf (W := 0) (rm9 l Z a0 hw [] b5 (((p1 &&& (2147483647 : Int32)).toUInt32 >>> ((p4 &&& (31 : Int32)) &&& 31).toUInt32).toInt32) (0 : Int32) W7 0 (own_v3 (((p1 &&& (2147483647 : Int32)).toUInt32 >>> ((p4 &&& (31 : Int32)) &&& 31).toUInt32).toInt32) (((p2 &&& (2147483647 : Int32)).toUInt32 >>> ((((p4.toUInt32 >>> ((5 : Int32) &&& 31).toUInt32).toInt32) &&& (31 : Int32)) &&& 31).toUInt32).toInt32) (((p3 &&& (2147483647 : Int32)).toUInt32 >>> ((((p4.toUInt32 >>> ((10 : Int32) &&& 31).toUInt32).toInt32) &&& (31 : Int32)) &&& 31).toUInt32).toInt32)) T7.heap n0 Z7 CI7 (Or.inl rfl) rfl rfl nv0 le7) hZ (hw _ (List.mem_of_getElem? (i := 56) rfl)) (hw _ (List.mem_of_getElem? (i := 3) rfl)) (by decide) (by decide)) q8a q8c (g := (mkF m 58 #[.val (.int p1), .val (.int p2), .val (.int p3), .val (.int p4), .val (.int (((p1 &&& (2147483647 : Int32)).toUInt32 >>> ((p4 &&& (31 : Int32)) &&& 31).toUInt32).toInt32)), .val (.int (((p2 &&& (2147483647 : Int32)).toUInt32 >>> ((((p4.toUInt32 >>> ((5 : Int32) &&& 31).toUInt32).toInt32) &&& (31 : Int32)) &&& 31).toUInt32).toInt32)), .val (.int (((p3 &&& (2147483647 : Int32)).toUInt32 >>> ((((p4.toUInt32 >>> ((10 : Int32) &&& 31).toUInt32).toInt32) &&& (31 : Int32)) &&& 31).toUInt32).toInt32)), .val (.ref b5)] [(.int (((p1 &&& (2147483647 : Int32)).toUInt32 >>> ((p4 &&& (31 : Int32)) &&& 31).toUInt32).toInt32)), (.ref b5)])) rfl (by rw [hml]; rfl) (Steps.refl _) (argsL := [(.int (((p1 &&& (2147483647 : Int32)).toUInt32 >>> ((p4 &&& (31 : Int32)) &&& 31).toUInt32).toInt32))]) (rest := []) (lenOf pd_0_2 rfl) rfl (by show 2 * 0 + _ ≤ _; exact Nat.le_of_eq rfl) (hb hby at_58) (fun _ _ => ⟨rfl, rfl, (by decide : 4 + 0 ≤ _), (by decide : 263 + 0 ≤ _)⟩)
  dsimp only [Pt.U, Pt.locs, Pt.cells, Pt.slots] at X8 l8 y8 z8 st8 hQ8
  subst l8 y8 z8
  obtain ⟨rfl, N8q, hs8, CI8x⟩ := hQ8
  have Z8 := Nat.le_trans Z7 hs8
  have CI8 : own_CI Z T8.heap b5 n0 W7 (1 : Int32) 1 (own_v3 (((p1 &&& (2147483647 : Int32)).toUInt32 >>> ((p4 &&& (31 : Int32)) &&& 31).toUInt32).toInt32) (((p2 &&& (2147483647 : Int32)).toUInt32 >>> ((((p4.toUInt32 >>> ((5 : Int32) &&& 31).toUInt32).toInt32) &&& (31 : Int32)) &&& 31).toUInt32).toInt32) (((p3 &&& (2147483647 : Int32)).toUInt32 >>> ((((p4.toUInt32 >>> ((10 : Int32) &&& 31).toUInt32).toInt32) &&& (31 : Int32)) &&& 31).toUInt32).toInt32)) := CI8x
  have hvs1 : ∀ i, i < 1 → 0 ≤ ((own_v3 (((p1 &&& (2147483647 : Int32)).toUInt32 >>> ((p4 &&& (31 : Int32)) &&& 31).toUInt32).toInt32) (((p2 &&& (2147483647 : Int32)).toUInt32 >>> ((((p4.toUInt32 >>> ((5 : Int32) &&& 31).toUInt32).toInt32) &&& (31 : Int32)) &&& 31).toUInt32).toInt32) (((p3 &&& (2147483647 : Int32)).toUInt32 >>> ((((p4.toUInt32 >>> ((10 : Int32) &&& 31).toUInt32).toInt32) &&& (31 : Int32)) &&& 31).toUInt32).toInt32)) i).toInt ∧ ((own_v3 (((p1 &&& (2147483647 : Int32)).toUInt32 >>> ((p4 &&& (31 : Int32)) &&& 31).toUInt32).toInt32) (((p2 &&& (2147483647 : Int32)).toUInt32 >>> ((((p4.toUInt32 >>> ((5 : Int32) &&& 31).toUInt32).toInt32) &&& (31 : Int32)) &&& 31).toUInt32).toInt32) (((p3 &&& (2147483647 : Int32)).toUInt32 >>> ((((p4.toUInt32 >>> ((10 : Int32) &&& 31).toUInt32).toInt32) &&& (31 : Int32)) &&& 31).toUInt32).toInt32)) i).toInt ≤ (own_widest W7).toInt := fun i hi => by
    obtain rfl : i = 0 := by omega
    exact ⟨nv0, le7⟩
  have N8 := Fr.app N7 N8q
  obtain ⟨cq9, kq9, q9a, q9b, q9c⟩ := isOf hZ rfl (own_ciE CI8)
  obtain ⟨_, _, ⟨T9, L9, k9, n9⟩, -, X9, ⟨Lc9, hQ9, l9, y9, z9⟩, st9⟩ := X8.virtualBack hx (y := (⟨"com/example/agave_bloom/agavebloom/check/CompactInts", "makeRoom", "(I)V"⟩ : MethodName)) (z := (⟨"com/example/agave_bloom/agavebloom/check/CompactInts", "makeRoom", "(I)V"⟩ : MethodName)) hown (mvT hZ (hw _ (List.mem_of_getElem? (i := 21) rfl))) (mvT hZ (hw _ (List.mem_of_getElem? (i := 22) rfl))) (notFace_of_selects (args := #[]) (mvT hZ (hw _ (List.mem_of_getElem? (i := 24) rfl)))) (mvT hZ (hw _ (List.mem_of_getElem? (i := 24) rfl))) (mvT hZ (hw _ (List.mem_of_getElem? (i := 23) rfl))) (by decide) (backOf (W := 0) (rm4_1 l Z a0 hw [] b5 (((p2 &&& (2147483647 : Int32)).toUInt32 >>> ((((p4.toUInt32 >>> ((5 : Int32) &&& 31).toUInt32).toInt32) &&& (31 : Int32)) &&& 31).toUInt32).toInt32) W7 (own_v3 (((p1 &&& (2147483647 : Int32)).toUInt32 >>> ((p4 &&& (31 : Int32)) &&& 31).toUInt32).toInt32) (((p2 &&& (2147483647 : Int32)).toUInt32 >>> ((((p4.toUInt32 >>> ((5 : Int32) &&& 31).toUInt32).toInt32) &&& (31 : Int32)) &&& 31).toUInt32).toInt32) (((p3 &&& (2147483647 : Int32)).toUInt32 >>> ((((p4.toUInt32 >>> ((10 : Int32) &&& 31).toUInt32).toInt32) &&& (31 : Int32)) &&& 31).toUInt32).toInt32)) T8.heap n0 Z8 CI8 hvs1 nv1) hZ (hw _ (List.mem_of_getElem? (i := 25) rfl)) (hw _ (List.mem_of_getElem? (i := 3) rfl)) (by decide) (by decide)) q9a q9c (g := (mkF m 65 #[.val (.int p1), .val (.int p2), .val (.int p3), .val (.int p4), .val (.int (((p1 &&& (2147483647 : Int32)).toUInt32 >>> ((p4 &&& (31 : Int32)) &&& 31).toUInt32).toInt32)), .val (.int (((p2 &&& (2147483647 : Int32)).toUInt32 >>> ((((p4.toUInt32 >>> ((5 : Int32) &&& 31).toUInt32).toInt32) &&& (31 : Int32)) &&& 31).toUInt32).toInt32)), .val (.int (((p3 &&& (2147483647 : Int32)).toUInt32 >>> ((((p4.toUInt32 >>> ((10 : Int32) &&& 31).toUInt32).toInt32) &&& (31 : Int32)) &&& 31).toUInt32).toInt32)), .val (.ref b5)] [(.int (((p2 &&& (2147483647 : Int32)).toUInt32 >>> ((((p4.toUInt32 >>> ((5 : Int32) &&& 31).toUInt32).toInt32) &&& (31 : Int32)) &&& 31).toUInt32).toInt32)), (.ref b5)])) rfl (by rw [hml]; rfl) (Steps.refl _) (argsL := [(.int (((p2 &&& (2147483647 : Int32)).toUInt32 >>> ((((p4.toUInt32 >>> ((5 : Int32) &&& 31).toUInt32).toInt32) &&& (31 : Int32)) &&& 31).toUInt32).toInt32))]) (rest := []) (lenOf pd_0_2 rfl) rfl (by show 2 * 0 + _ ≤ _; exact Nat.le_of_eq rfl) (hb hby at_65) (fun _ _ => ⟨rfl, rfl, (by decide : 4 + 2 ≤ _), (by decide : 263 + 257 ≤ _)⟩)
  dsimp only [Pt.U, Pt.locs, Pt.cells, Pt.slots] at X9 l9 y9 z9 st9 hQ9
  subst l9 y9 z9
  obtain ⟨W9, rfl, N9q, hs9, CI9, le9, mo9⟩ := hQ9
  have Z9 := Nat.le_trans Z8 hs9
  have N9 := Fr.app N8 N9q
  obtain ⟨cq10, kq10, q10a, q10b, q10c⟩ := isOf hZ rfl (own_ciE CI9)
  obtain ⟨_, _, ⟨T10, L10, k10, n10⟩, -, X10, ⟨Lc10, hQ10, l10, y10, z10⟩, st10⟩ := X9.virtualBack hx (y := (⟨"com/example/agave_bloom/agavebloom/check/CompactInts", "add", "(I)V"⟩ : MethodName)) (z := (⟨"com/example/agave_bloom/agavebloom/check/CompactInts", "add", "(I)V"⟩ : MethodName)) hown (mvT hZ (hw _ (List.mem_of_getElem? (i := 52) rfl))) (mvT hZ (hw _ (List.mem_of_getElem? (i := 53) rfl))) (notFace_of_selects (args := #[]) (mvT hZ (hw _ (List.mem_of_getElem? (i := 55) rfl)))) (mvT hZ (hw _ (List.mem_of_getElem? (i := 55) rfl))) (mvT hZ (hw _ (List.mem_of_getElem? (i := 54) rfl))) (by decide) (backOf (W := 0) (rm9 l Z a0 hw [] b5 (((p2 &&& (2147483647 : Int32)).toUInt32 >>> ((((p4.toUInt32 >>> ((5 : Int32) &&& 31).toUInt32).toInt32) &&& (31 : Int32)) &&& 31).toUInt32).toInt32) (1 : Int32) W9 1 (own_v3 (((p1 &&& (2147483647 : Int32)).toUInt32 >>> ((p4 &&& (31 : Int32)) &&& 31).toUInt32).toInt32) (((p2 &&& (2147483647 : Int32)).toUInt32 >>> ((((p4.toUInt32 >>> ((5 : Int32) &&& 31).toUInt32).toInt32) &&& (31 : Int32)) &&& 31).toUInt32).toInt32) (((p3 &&& (2147483647 : Int32)).toUInt32 >>> ((((p4.toUInt32 >>> ((10 : Int32) &&& 31).toUInt32).toInt32) &&& (31 : Int32)) &&& 31).toUInt32).toInt32)) T9.heap n0 Z9 CI9 (Or.inr (Or.inl rfl)) rfl rfl nv1 le9) hZ (hw _ (List.mem_of_getElem? (i := 56) rfl)) (hw _ (List.mem_of_getElem? (i := 3) rfl)) (by decide) (by decide)) q10a q10c (g := (mkF m 72 #[.val (.int p1), .val (.int p2), .val (.int p3), .val (.int p4), .val (.int (((p1 &&& (2147483647 : Int32)).toUInt32 >>> ((p4 &&& (31 : Int32)) &&& 31).toUInt32).toInt32)), .val (.int (((p2 &&& (2147483647 : Int32)).toUInt32 >>> ((((p4.toUInt32 >>> ((5 : Int32) &&& 31).toUInt32).toInt32) &&& (31 : Int32)) &&& 31).toUInt32).toInt32)), .val (.int (((p3 &&& (2147483647 : Int32)).toUInt32 >>> ((((p4.toUInt32 >>> ((10 : Int32) &&& 31).toUInt32).toInt32) &&& (31 : Int32)) &&& 31).toUInt32).toInt32)), .val (.ref b5)] [(.int (((p2 &&& (2147483647 : Int32)).toUInt32 >>> ((((p4.toUInt32 >>> ((5 : Int32) &&& 31).toUInt32).toInt32) &&& (31 : Int32)) &&& 31).toUInt32).toInt32)), (.ref b5)])) rfl (by rw [hml]; rfl) (Steps.refl _) (argsL := [(.int (((p2 &&& (2147483647 : Int32)).toUInt32 >>> ((((p4.toUInt32 >>> ((5 : Int32) &&& 31).toUInt32).toInt32) &&& (31 : Int32)) &&& 31).toUInt32).toInt32))]) (rest := []) (lenOf pd_0_2 rfl) rfl (by show 2 * 0 + _ ≤ _; exact Nat.le_of_eq rfl) (hb hby at_72) (fun _ _ => ⟨rfl, rfl, (by decide : 6 + 0 ≤ _), (by decide : 520 + 0 ≤ _)⟩)
  dsimp only [Pt.U, Pt.locs, Pt.cells, Pt.slots] at X10 l10 y10 z10 st10 hQ10
  subst l10 y10 z10
  obtain ⟨rfl, N10q, hs10, CI10x⟩ := hQ10
  have Z10 := Nat.le_trans Z9 hs10
  have CI10 : own_CI Z T10.heap b5 n0 W9 (2 : Int32) 2 (own_v3 (((p1 &&& (2147483647 : Int32)).toUInt32 >>> ((p4 &&& (31 : Int32)) &&& 31).toUInt32).toInt32) (((p2 &&& (2147483647 : Int32)).toUInt32 >>> ((((p4.toUInt32 >>> ((5 : Int32) &&& 31).toUInt32).toInt32) &&& (31 : Int32)) &&& 31).toUInt32).toInt32) (((p3 &&& (2147483647 : Int32)).toUInt32 >>> ((((p4.toUInt32 >>> ((10 : Int32) &&& 31).toUInt32).toInt32) &&& (31 : Int32)) &&& 31).toUInt32).toInt32)) := CI10x
  have hvs2 : ∀ i, i < 2 → 0 ≤ ((own_v3 (((p1 &&& (2147483647 : Int32)).toUInt32 >>> ((p4 &&& (31 : Int32)) &&& 31).toUInt32).toInt32) (((p2 &&& (2147483647 : Int32)).toUInt32 >>> ((((p4.toUInt32 >>> ((5 : Int32) &&& 31).toUInt32).toInt32) &&& (31 : Int32)) &&& 31).toUInt32).toInt32) (((p3 &&& (2147483647 : Int32)).toUInt32 >>> ((((p4.toUInt32 >>> ((10 : Int32) &&& 31).toUInt32).toInt32) &&& (31 : Int32)) &&& 31).toUInt32).toInt32)) i).toInt ∧ ((own_v3 (((p1 &&& (2147483647 : Int32)).toUInt32 >>> ((p4 &&& (31 : Int32)) &&& 31).toUInt32).toInt32) (((p2 &&& (2147483647 : Int32)).toUInt32 >>> ((((p4.toUInt32 >>> ((5 : Int32) &&& 31).toUInt32).toInt32) &&& (31 : Int32)) &&& 31).toUInt32).toInt32) (((p3 &&& (2147483647 : Int32)).toUInt32 >>> ((((p4.toUInt32 >>> ((10 : Int32) &&& 31).toUInt32).toInt32) &&& (31 : Int32)) &&& 31).toUInt32).toInt32)) i).toInt ≤ (own_widest W9).toInt := fun i hi => by
    have : i = 0 ∨ i = 1 := by omega
    rcases this with rfl | rfl
    · exact ⟨nv0, Int.le_trans le7 mo9⟩
    · exact ⟨nv1, le9⟩
  have N10 := Fr.app N9 N10q
  obtain ⟨cq11, kq11, q11a, q11b, q11c⟩ := isOf hZ rfl (own_ciE CI10)
  obtain ⟨_, _, ⟨T11, L11, k11, n11⟩, -, X11, ⟨Lc11, hQ11, l11, y11, z11⟩, st11⟩ := X10.virtualBack hx (y := (⟨"com/example/agave_bloom/agavebloom/check/CompactInts", "makeRoom", "(I)V"⟩ : MethodName)) (z := (⟨"com/example/agave_bloom/agavebloom/check/CompactInts", "makeRoom", "(I)V"⟩ : MethodName)) hown (mvT hZ (hw _ (List.mem_of_getElem? (i := 21) rfl))) (mvT hZ (hw _ (List.mem_of_getElem? (i := 22) rfl))) (notFace_of_selects (args := #[]) (mvT hZ (hw _ (List.mem_of_getElem? (i := 24) rfl)))) (mvT hZ (hw _ (List.mem_of_getElem? (i := 24) rfl))) (mvT hZ (hw _ (List.mem_of_getElem? (i := 23) rfl))) (by decide) (backOf (W := 0) (rm4_2 l Z a0 hw [] b5 (((p3 &&& (2147483647 : Int32)).toUInt32 >>> ((((p4.toUInt32 >>> ((10 : Int32) &&& 31).toUInt32).toInt32) &&& (31 : Int32)) &&& 31).toUInt32).toInt32) W9 (own_v3 (((p1 &&& (2147483647 : Int32)).toUInt32 >>> ((p4 &&& (31 : Int32)) &&& 31).toUInt32).toInt32) (((p2 &&& (2147483647 : Int32)).toUInt32 >>> ((((p4.toUInt32 >>> ((5 : Int32) &&& 31).toUInt32).toInt32) &&& (31 : Int32)) &&& 31).toUInt32).toInt32) (((p3 &&& (2147483647 : Int32)).toUInt32 >>> ((((p4.toUInt32 >>> ((10 : Int32) &&& 31).toUInt32).toInt32) &&& (31 : Int32)) &&& 31).toUInt32).toInt32)) T10.heap n0 Z10 CI10 hvs2 nv2) hZ (hw _ (List.mem_of_getElem? (i := 25) rfl)) (hw _ (List.mem_of_getElem? (i := 3) rfl)) (by decide) (by decide)) q11a q11c (g := (mkF m 79 #[.val (.int p1), .val (.int p2), .val (.int p3), .val (.int p4), .val (.int (((p1 &&& (2147483647 : Int32)).toUInt32 >>> ((p4 &&& (31 : Int32)) &&& 31).toUInt32).toInt32)), .val (.int (((p2 &&& (2147483647 : Int32)).toUInt32 >>> ((((p4.toUInt32 >>> ((5 : Int32) &&& 31).toUInt32).toInt32) &&& (31 : Int32)) &&& 31).toUInt32).toInt32)), .val (.int (((p3 &&& (2147483647 : Int32)).toUInt32 >>> ((((p4.toUInt32 >>> ((10 : Int32) &&& 31).toUInt32).toInt32) &&& (31 : Int32)) &&& 31).toUInt32).toInt32)), .val (.ref b5)] [(.int (((p3 &&& (2147483647 : Int32)).toUInt32 >>> ((((p4.toUInt32 >>> ((10 : Int32) &&& 31).toUInt32).toInt32) &&& (31 : Int32)) &&& 31).toUInt32).toInt32)), (.ref b5)])) rfl (by rw [hml]; rfl) (Steps.refl _) (argsL := [(.int (((p3 &&& (2147483647 : Int32)).toUInt32 >>> ((((p4.toUInt32 >>> ((10 : Int32) &&& 31).toUInt32).toInt32) &&& (31 : Int32)) &&& 31).toUInt32).toInt32))]) (rest := []) (lenOf pd_0_2 rfl) rfl (by show 2 * 0 + _ ≤ _; exact Nat.le_of_eq rfl) (hb hby at_79) (fun _ _ => ⟨rfl, rfl, (by decide : 6 + 2 ≤ _), (by decide : 520 + 257 ≤ _)⟩)
  dsimp only [Pt.U, Pt.locs, Pt.cells, Pt.slots] at X11 l11 y11 z11 st11 hQ11
  subst l11 y11 z11
  obtain ⟨W11, rfl, N11q, hs11, CI11, le11, mo11⟩ := hQ11
  have Z11 := Nat.le_trans Z10 hs11
  have N11 := Fr.app N10 N11q
  obtain ⟨cq12, kq12, q12a, q12b, q12c⟩ := isOf hZ rfl (own_ciE CI11)
  obtain ⟨_, _, ⟨T12, L12, k12, n12⟩, -, X12, ⟨Lc12, hQ12, l12, y12, z12⟩, st12⟩ := X11.virtualBack hx (y := (⟨"com/example/agave_bloom/agavebloom/check/CompactInts", "add", "(I)V"⟩ : MethodName)) (z := (⟨"com/example/agave_bloom/agavebloom/check/CompactInts", "add", "(I)V"⟩ : MethodName)) hown (mvT hZ (hw _ (List.mem_of_getElem? (i := 52) rfl))) (mvT hZ (hw _ (List.mem_of_getElem? (i := 53) rfl))) (notFace_of_selects (args := #[]) (mvT hZ (hw _ (List.mem_of_getElem? (i := 55) rfl)))) (mvT hZ (hw _ (List.mem_of_getElem? (i := 55) rfl))) (mvT hZ (hw _ (List.mem_of_getElem? (i := 54) rfl))) (by decide) (backOf (W := 0) (rm9 l Z a0 hw [] b5 (((p3 &&& (2147483647 : Int32)).toUInt32 >>> ((((p4.toUInt32 >>> ((10 : Int32) &&& 31).toUInt32).toInt32) &&& (31 : Int32)) &&& 31).toUInt32).toInt32) (2 : Int32) W11 2 (own_v3 (((p1 &&& (2147483647 : Int32)).toUInt32 >>> ((p4 &&& (31 : Int32)) &&& 31).toUInt32).toInt32) (((p2 &&& (2147483647 : Int32)).toUInt32 >>> ((((p4.toUInt32 >>> ((5 : Int32) &&& 31).toUInt32).toInt32) &&& (31 : Int32)) &&& 31).toUInt32).toInt32) (((p3 &&& (2147483647 : Int32)).toUInt32 >>> ((((p4.toUInt32 >>> ((10 : Int32) &&& 31).toUInt32).toInt32) &&& (31 : Int32)) &&& 31).toUInt32).toInt32)) T11.heap n0 Z11 CI11 (Or.inr (Or.inr rfl)) rfl rfl nv2 le11) hZ (hw _ (List.mem_of_getElem? (i := 56) rfl)) (hw _ (List.mem_of_getElem? (i := 3) rfl)) (by decide) (by decide)) q12a q12c (g := (mkF m 86 #[.val (.int p1), .val (.int p2), .val (.int p3), .val (.int p4), .val (.int (((p1 &&& (2147483647 : Int32)).toUInt32 >>> ((p4 &&& (31 : Int32)) &&& 31).toUInt32).toInt32)), .val (.int (((p2 &&& (2147483647 : Int32)).toUInt32 >>> ((((p4.toUInt32 >>> ((5 : Int32) &&& 31).toUInt32).toInt32) &&& (31 : Int32)) &&& 31).toUInt32).toInt32)), .val (.int (((p3 &&& (2147483647 : Int32)).toUInt32 >>> ((((p4.toUInt32 >>> ((10 : Int32) &&& 31).toUInt32).toInt32) &&& (31 : Int32)) &&& 31).toUInt32).toInt32)), .val (.ref b5)] [(.int (((p3 &&& (2147483647 : Int32)).toUInt32 >>> ((((p4.toUInt32 >>> ((10 : Int32) &&& 31).toUInt32).toInt32) &&& (31 : Int32)) &&& 31).toUInt32).toInt32)), (.ref b5)])) rfl (by rw [hml]; rfl) (Steps.refl _) (argsL := [(.int (((p3 &&& (2147483647 : Int32)).toUInt32 >>> ((((p4.toUInt32 >>> ((10 : Int32) &&& 31).toUInt32).toInt32) &&& (31 : Int32)) &&& 31).toUInt32).toInt32))]) (rest := []) (lenOf pd_0_2 rfl) rfl (by show 2 * 0 + _ ≤ _; exact Nat.le_of_eq rfl) (hb hby at_86) (fun _ _ => ⟨rfl, rfl, (by decide : 8 + 0 ≤ _), (by decide : 777 + 0 ≤ _)⟩)
  dsimp only [Pt.U, Pt.locs, Pt.cells, Pt.slots] at X12 l12 y12 z12 st12 hQ12
  subst l12 y12 z12
  obtain ⟨rfl, N12q, hs12, CI12x⟩ := hQ12
  have Z12 := Nat.le_trans Z11 hs12
  have CI12 : own_CI Z T12.heap b5 n0 W11 (3 : Int32) 3 (own_v3 (((p1 &&& (2147483647 : Int32)).toUInt32 >>> ((p4 &&& (31 : Int32)) &&& 31).toUInt32).toInt32) (((p2 &&& (2147483647 : Int32)).toUInt32 >>> ((((p4.toUInt32 >>> ((5 : Int32) &&& 31).toUInt32).toInt32) &&& (31 : Int32)) &&& 31).toUInt32).toInt32) (((p3 &&& (2147483647 : Int32)).toUInt32 >>> ((((p4.toUInt32 >>> ((10 : Int32) &&& 31).toUInt32).toInt32) &&& (31 : Int32)) &&& 31).toUInt32).toInt32)) := CI12x
  have CIE := own_ciE CI12
  obtain ⟨pA, kA, pg, B, q0, f1, f2, f3, f4, f5, v6, o7, q8, p8, qg, g9, g10, g11, s12, hoW, hE⟩ := CI12
  have N12 := Fr.app N11 N12q
  obtain ⟨cq13, kq13, q13a, q13b, q13c⟩ := isOf hZ rfl CIE
  obtain ⟨_, _, ⟨T13, L13, k13, n13⟩, -, X13, ⟨Lc13, hQ13, l13, y13, z13⟩, st13⟩ := X12.virtualBack hx (y := (⟨"com/example/agave_bloom/agavebloom/check/CompactInts", "get", "(I)I"⟩ : MethodName)) (z := (⟨"com/example/agave_bloom/agavebloom/check/CompactInts", "get", "(I)I"⟩ : MethodName)) hown (mvT hZ (hw _ (List.mem_of_getElem? (i := 60) rfl))) (mvT hZ (hw _ (List.mem_of_getElem? (i := 61) rfl))) (notFace_of_selects (args := #[]) (mvT hZ (hw _ (List.mem_of_getElem? (i := 63) rfl)))) (mvT hZ (hw _ (List.mem_of_getElem? (i := 63) rfl))) (mvT hZ (hw _ (List.mem_of_getElem? (i := 62) rfl))) (by decide) (backOf (W := 0) (rm11v l Z a0 hw [] b5 (0 : Int32) pA kA pg W11 B T12.heap n0 Z12 f1 s12 v6 f2 p8 hoW (Or.inl rfl) 3 (own_v3 (((p1 &&& (2147483647 : Int32)).toUInt32 >>> ((p4 &&& (31 : Int32)) &&& 31).toUInt32).toInt32) (((p2 &&& (2147483647 : Int32)).toUInt32 >>> ((((p4.toUInt32 >>> ((5 : Int32) &&& 31).toUInt32).toInt32) &&& (31 : Int32)) &&& 31).toUInt32).toInt32) (((p3 &&& (2147483647 : Int32)).toUInt32 >>> ((((p4.toUInt32 >>> ((10 : Int32) &&& 31).toUInt32).toInt32) &&& (31 : Int32)) &&& 31).toUInt32).toInt32)) 0 rfl hE (by decide) nv0 (Int.le_trans le7 (Int.le_trans mo9 mo11))) hZ (hw _ (List.mem_of_getElem? (i := 64) rfl)) (hw _ (List.mem_of_getElem? (i := 3) rfl)) (by decide) (by decide)) q13a q13c (g := (mkF m 92 #[.val (.int p1), .val (.int p2), .val (.int p3), .val (.int p4), .val (.int (((p1 &&& (2147483647 : Int32)).toUInt32 >>> ((p4 &&& (31 : Int32)) &&& 31).toUInt32).toInt32)), .val (.int (((p2 &&& (2147483647 : Int32)).toUInt32 >>> ((((p4.toUInt32 >>> ((5 : Int32) &&& 31).toUInt32).toInt32) &&& (31 : Int32)) &&& 31).toUInt32).toInt32)), .val (.int (((p3 &&& (2147483647 : Int32)).toUInt32 >>> ((((p4.toUInt32 >>> ((10 : Int32) &&& 31).toUInt32).toInt32) &&& (31 : Int32)) &&& 31).toUInt32).toInt32)), .val (.ref b5)] [(.int (0 : Int32)), (.ref b5)])) rfl (by rw [hml]; rfl) (Steps.refl _) (argsL := [(.int (0 : Int32))]) (rest := []) (lenOf pd_0_1 rfl) rfl (by show 2 * 0 + _ ≤ _; exact Nat.le_of_eq rfl) (hb hby at_92) (fun _ _ => ⟨rfl, rfl, (by decide : 8 + 0 ≤ _), (by decide : 777 + 0 ≤ _)⟩)
  dsimp only [Pt.U, Pt.locs, Pt.cells, Pt.slots] at X13 l13 y13 z13 st13 hQ13
  subst l13 y13 z13
  obtain ⟨rfl, N13q, eq13⟩ := hQ13
  have N13 := Fr.app N12 N13q
  obtain ⟨cq14, kq14, q14a, q14b, q14c⟩ := isOf hZ eq13 CIE
  obtain ⟨_, _, ⟨T14, L14, k14, n14⟩, -, X14, ⟨Lc14, hQ14, l14, y14, z14⟩, st14⟩ := X13.virtualBack hx (y := (⟨"com/example/agave_bloom/agavebloom/check/CompactInts", "get", "(I)I"⟩ : MethodName)) (z := (⟨"com/example/agave_bloom/agavebloom/check/CompactInts", "get", "(I)I"⟩ : MethodName)) hown (mvT hZ (hw _ (List.mem_of_getElem? (i := 60) rfl))) (mvT hZ (hw _ (List.mem_of_getElem? (i := 61) rfl))) (notFace_of_selects (args := #[]) (mvT hZ (hw _ (List.mem_of_getElem? (i := 63) rfl)))) (mvT hZ (hw _ (List.mem_of_getElem? (i := 63) rfl))) (mvT hZ (hw _ (List.mem_of_getElem? (i := 62) rfl))) (by decide) (backOf (W := 0) (rm11v l Z a0 hw [] b5 (1 : Int32) pA kA pg W11 B T12.heap n0 Z12 f1 s12 v6 f2 p8 hoW (Or.inr (Or.inl rfl)) 3 (own_v3 (((p1 &&& (2147483647 : Int32)).toUInt32 >>> ((p4 &&& (31 : Int32)) &&& 31).toUInt32).toInt32) (((p2 &&& (2147483647 : Int32)).toUInt32 >>> ((((p4.toUInt32 >>> ((5 : Int32) &&& 31).toUInt32).toInt32) &&& (31 : Int32)) &&& 31).toUInt32).toInt32) (((p3 &&& (2147483647 : Int32)).toUInt32 >>> ((((p4.toUInt32 >>> ((10 : Int32) &&& 31).toUInt32).toInt32) &&& (31 : Int32)) &&& 31).toUInt32).toInt32)) 1 rfl hE (by decide) nv1 (Int.le_trans le9 mo11)) hZ (hw _ (List.mem_of_getElem? (i := 64) rfl)) (hw _ (List.mem_of_getElem? (i := 3) rfl)) (by decide) (by decide)) q14a q14c (g := (mkF m 103 #[.val (.int p1), .val (.int p2), .val (.int p3), .val (.int p4), .val (.int (((p1 &&& (2147483647 : Int32)).toUInt32 >>> ((p4 &&& (31 : Int32)) &&& 31).toUInt32).toInt32)), .val (.int (((p2 &&& (2147483647 : Int32)).toUInt32 >>> ((((p4.toUInt32 >>> ((5 : Int32) &&& 31).toUInt32).toInt32) &&& (31 : Int32)) &&& 31).toUInt32).toInt32)), .val (.int (((p3 &&& (2147483647 : Int32)).toUInt32 >>> ((((p4.toUInt32 >>> ((10 : Int32) &&& 31).toUInt32).toInt32) &&& (31 : Int32)) &&& 31).toUInt32).toInt32)), .val (.ref b5)] [(.int (1 : Int32)), (.ref b5)])) rfl (by rw [hml]; rfl) (Steps.refl _) (argsL := [(.int (1 : Int32))]) (rest := []) (lenOf pd_0_1 rfl) rfl (by show 2 * 0 + _ ≤ _; exact Nat.le_of_eq rfl) (hb hby at_103) (fun _ _ => ⟨rfl, eq13, (by decide : 8 + 0 ≤ _), (by decide : 777 + 0 ≤ _)⟩)
  dsimp only [Pt.U, Pt.locs, Pt.cells, Pt.slots] at X14 l14 y14 z14 st14 hQ14
  subst l14 y14 z14
  obtain ⟨rfl, N14q, eq14⟩ := hQ14
  have N14 := Fr.app N13 N14q
  obtain ⟨cq15, kq15, q15a, q15b, q15c⟩ := isOf hZ eq14 CIE
  obtain ⟨_, _, ⟨T15, L15, k15, n15⟩, -, X15, ⟨Lc15, hQ15, l15, y15, z15⟩, st15⟩ := X14.virtualBack hx (y := (⟨"com/example/agave_bloom/agavebloom/check/CompactInts", "get", "(I)I"⟩ : MethodName)) (z := (⟨"com/example/agave_bloom/agavebloom/check/CompactInts", "get", "(I)I"⟩ : MethodName)) hown (mvT hZ (hw _ (List.mem_of_getElem? (i := 60) rfl))) (mvT hZ (hw _ (List.mem_of_getElem? (i := 61) rfl))) (notFace_of_selects (args := #[]) (mvT hZ (hw _ (List.mem_of_getElem? (i := 63) rfl)))) (mvT hZ (hw _ (List.mem_of_getElem? (i := 63) rfl))) (mvT hZ (hw _ (List.mem_of_getElem? (i := 62) rfl))) (by decide) (backOf (W := 0) (rm11v l Z a0 hw [] b5 (2 : Int32) pA kA pg W11 B T12.heap n0 Z12 f1 s12 v6 f2 p8 hoW (Or.inr (Or.inr rfl)) 3 (own_v3 (((p1 &&& (2147483647 : Int32)).toUInt32 >>> ((p4 &&& (31 : Int32)) &&& 31).toUInt32).toInt32) (((p2 &&& (2147483647 : Int32)).toUInt32 >>> ((((p4.toUInt32 >>> ((5 : Int32) &&& 31).toUInt32).toInt32) &&& (31 : Int32)) &&& 31).toUInt32).toInt32) (((p3 &&& (2147483647 : Int32)).toUInt32 >>> ((((p4.toUInt32 >>> ((10 : Int32) &&& 31).toUInt32).toInt32) &&& (31 : Int32)) &&& 31).toUInt32).toInt32)) 2 rfl hE (by decide) nv2 le11) hZ (hw _ (List.mem_of_getElem? (i := 64) rfl)) (hw _ (List.mem_of_getElem? (i := 3) rfl)) (by decide) (by decide)) q15a q15c (g := (mkF m 114 #[.val (.int p1), .val (.int p2), .val (.int p3), .val (.int p4), .val (.int (((p1 &&& (2147483647 : Int32)).toUInt32 >>> ((p4 &&& (31 : Int32)) &&& 31).toUInt32).toInt32)), .val (.int (((p2 &&& (2147483647 : Int32)).toUInt32 >>> ((((p4.toUInt32 >>> ((5 : Int32) &&& 31).toUInt32).toInt32) &&& (31 : Int32)) &&& 31).toUInt32).toInt32)), .val (.int (((p3 &&& (2147483647 : Int32)).toUInt32 >>> ((((p4.toUInt32 >>> ((10 : Int32) &&& 31).toUInt32).toInt32) &&& (31 : Int32)) &&& 31).toUInt32).toInt32)), .val (.ref b5)] [(.int (2 : Int32)), (.ref b5)])) rfl (by rw [hml]; rfl) (Steps.refl _) (argsL := [(.int (2 : Int32))]) (rest := []) (lenOf pd_0_1 rfl) rfl (by show 2 * 0 + _ ≤ _; exact Nat.le_of_eq rfl) (hb hby at_114) (fun _ _ => ⟨rfl, eq14, (by decide : 8 + 0 ≤ _), (by decide : 777 + 0 ≤ _)⟩)
  dsimp only [Pt.U, Pt.locs, Pt.cells, Pt.slots] at X15 l15 y15 z15 st15 hQ15
  subst l15 y15 z15
  obtain ⟨rfl, N15q, eq15⟩ := hQ15
  have N15 := Fr.app N14 N15q
  obtain ⟨fs, hr, hrun, hended, hW, hsame⟩ := X15.leave (v := some (.int (1 : Int32))) (fun h => by rw [Bd.returns] at h; cases h)
  refine ⟨_, _, pre0 _ ?_, hrun, hended, _, _, rfl, ?_, ⟨_, rfl⟩, hW, hsame.mono (by decide) (by decide)⟩
  · show Steps p.tables e below (s₁.setTop (mkF m 0 #[.val (.int p1), .val (.int p2), .val (.int p3), .val (.int p4), .unset, .unset, .unset, .unset] [])) _
    refine XS.iloadN X0.here hx rfl (hb hby at_0) rfl ?_
    show Steps p.tables e below (s₁.setTop (mkF m 1 #[.val (.int p1), .val (.int p2), .val (.int p3), .val (.int p4), .unset, .unset, .unset, .unset] [(.int p1)])) _
    refine X0.ldcInt hx hown (mvT hZ (hw _ (List.mem_of_getElem? (i := 0) rfl))) (g := (mkF m 1 #[.val (.int p1), .val (.int p2), .val (.int p3), .val (.int p4), .unset, .unset, .unset, .unset] [(.int p1)])) rfl (hb hby at_1) _ ?_
    show Steps p.tables e below (s₁.setTop (mkF m 3 #[.val (.int p1), .val (.int p2), .val (.int p3), .val (.int p4), .unset, .unset, .unset, .unset] [(.int (2147483647 : Int32)), (.int p1)])) _
    refine XS.iand X0.here hx rfl (hb hby at_3) rfl ?_
    show Steps p.tables e below (s₁.setTop (mkF m 4 #[.val (.int p1), .val (.int p2), .val (.int p3), .val (.int p4), .unset, .unset, .unset, .unset] [(.int (p1 &&& (2147483647 : Int32)))])) _
    refine XS.iloadN X0.here hx rfl (hb hby at_4) rfl ?_
    show Steps p.tables e below (s₁.setTop (mkF m 5 #[.val (.int p1), .val (.int p2), .val (.int p3), .val (.int p4), .unset, .unset, .unset, .unset] [(.int p4), (.int (p1 &&& (2147483647 : Int32)))])) _
    refine XS.bipush X0.here hx rfl (hb hby at_5) ?_
    show Steps p.tables e below (s₁.setTop (mkF m 7 #[.val (.int p1), .val (.int p2), .val (.int p3), .val (.int p4), .unset, .unset, .unset, .unset] [(.int (31 : Int32)), (.int p4), (.int (p1 &&& (2147483647 : Int32)))])) _
    refine XS.iand X0.here hx rfl (hb hby at_7) rfl ?_
    show Steps p.tables e below (s₁.setTop (mkF m 8 #[.val (.int p1), .val (.int p2), .val (.int p3), .val (.int p4), .unset, .unset, .unset, .unset] [(.int (p4 &&& (31 : Int32))), (.int (p1 &&& (2147483647 : Int32)))])) _
    refine XS.iushr X0.here hx rfl (hb hby at_8) rfl ?_
    show Steps p.tables e below (s₁.setTop (mkF m 9 #[.val (.int p1), .val (.int p2), .val (.int p3), .val (.int p4), .unset, .unset, .unset, .unset] [(.int (((p1 &&& (2147483647 : Int32)).toUInt32 >>> ((p4 &&& (31 : Int32)) &&& 31).toUInt32).toInt32))])) _
    refine XS.istore X0.here hx rfl (hb hby at_9) rfl (l' := #[.val (.int p1), .val (.int p2), .val (.int p3), .val (.int p4), .val (.int (((p1 &&& (2147483647 : Int32)).toUInt32 >>> ((p4 &&& (31 : Int32)) &&& 31).toUInt32).toInt32)), .unset, .unset, .unset]) rfl ?_
    show Steps p.tables e below (s₁.setTop (mkF m 11 #[.val (.int p1), .val (.int p2), .val (.int p3), .val (.int p4), .val (.int (((p1 &&& (2147483647 : Int32)).toUInt32 >>> ((p4 &&& (31 : Int32)) &&& 31).toUInt32).toInt32)), .unset, .unset, .unset] [])) _
    refine XS.iloadN X0.here hx rfl (hb hby at_11) rfl ?_
    show Steps p.tables e below (s₁.setTop (mkF m 12 #[.val (.int p1), .val (.int p2), .val (.int p3), .val (.int p4), .val (.int (((p1 &&& (2147483647 : Int32)).toUInt32 >>> ((p4 &&& (31 : Int32)) &&& 31).toUInt32).toInt32)), .unset, .unset, .unset] [(.int p2)])) _
    refine X0.ldcInt hx hown (mvT hZ (hw _ (List.mem_of_getElem? (i := 0) rfl))) (g := (mkF m 12 #[.val (.int p1), .val (.int p2), .val (.int p3), .val (.int p4), .val (.int (((p1 &&& (2147483647 : Int32)).toUInt32 >>> ((p4 &&& (31 : Int32)) &&& 31).toUInt32).toInt32)), .unset, .unset, .unset] [(.int p2)])) rfl (hb hby at_12) _ ?_
    show Steps p.tables e below (s₁.setTop (mkF m 14 #[.val (.int p1), .val (.int p2), .val (.int p3), .val (.int p4), .val (.int (((p1 &&& (2147483647 : Int32)).toUInt32 >>> ((p4 &&& (31 : Int32)) &&& 31).toUInt32).toInt32)), .unset, .unset, .unset] [(.int (2147483647 : Int32)), (.int p2)])) _
    refine XS.iand X0.here hx rfl (hb hby at_14) rfl ?_
    show Steps p.tables e below (s₁.setTop (mkF m 15 #[.val (.int p1), .val (.int p2), .val (.int p3), .val (.int p4), .val (.int (((p1 &&& (2147483647 : Int32)).toUInt32 >>> ((p4 &&& (31 : Int32)) &&& 31).toUInt32).toInt32)), .unset, .unset, .unset] [(.int (p2 &&& (2147483647 : Int32)))])) _
    refine XS.iloadN X0.here hx rfl (hb hby at_15) rfl ?_
    show Steps p.tables e below (s₁.setTop (mkF m 16 #[.val (.int p1), .val (.int p2), .val (.int p3), .val (.int p4), .val (.int (((p1 &&& (2147483647 : Int32)).toUInt32 >>> ((p4 &&& (31 : Int32)) &&& 31).toUInt32).toInt32)), .unset, .unset, .unset] [(.int p4), (.int (p2 &&& (2147483647 : Int32)))])) _
    refine XS.iconst X0.here hx rfl (hb hby at_16) ?_
    show Steps p.tables e below (s₁.setTop (mkF m 17 #[.val (.int p1), .val (.int p2), .val (.int p3), .val (.int p4), .val (.int (((p1 &&& (2147483647 : Int32)).toUInt32 >>> ((p4 &&& (31 : Int32)) &&& 31).toUInt32).toInt32)), .unset, .unset, .unset] [(.int (5 : Int32)), (.int p4), (.int (p2 &&& (2147483647 : Int32)))])) _
    refine XS.iushr X0.here hx rfl (hb hby at_17) rfl ?_
    show Steps p.tables e below (s₁.setTop (mkF m 18 #[.val (.int p1), .val (.int p2), .val (.int p3), .val (.int p4), .val (.int (((p1 &&& (2147483647 : Int32)).toUInt32 >>> ((p4 &&& (31 : Int32)) &&& 31).toUInt32).toInt32)), .unset, .unset, .unset] [(.int ((p4.toUInt32 >>> ((5 : Int32) &&& 31).toUInt32).toInt32)), (.int (p2 &&& (2147483647 : Int32)))])) _
    refine XS.bipush X0.here hx rfl (hb hby at_18) ?_
    show Steps p.tables e below (s₁.setTop (mkF m 20 #[.val (.int p1), .val (.int p2), .val (.int p3), .val (.int p4), .val (.int (((p1 &&& (2147483647 : Int32)).toUInt32 >>> ((p4 &&& (31 : Int32)) &&& 31).toUInt32).toInt32)), .unset, .unset, .unset] [(.int (31 : Int32)), (.int ((p4.toUInt32 >>> ((5 : Int32) &&& 31).toUInt32).toInt32)), (.int (p2 &&& (2147483647 : Int32)))])) _
    refine XS.iand X0.here hx rfl (hb hby at_20) rfl ?_
    show Steps p.tables e below (s₁.setTop (mkF m 21 #[.val (.int p1), .val (.int p2), .val (.int p3), .val (.int p4), .val (.int (((p1 &&& (2147483647 : Int32)).toUInt32 >>> ((p4 &&& (31 : Int32)) &&& 31).toUInt32).toInt32)), .unset, .unset, .unset] [(.int (((p4.toUInt32 >>> ((5 : Int32) &&& 31).toUInt32).toInt32) &&& (31 : Int32))), (.int (p2 &&& (2147483647 : Int32)))])) _
    refine XS.iushr X0.here hx rfl (hb hby at_21) rfl ?_
    show Steps p.tables e below (s₁.setTop (mkF m 22 #[.val (.int p1), .val (.int p2), .val (.int p3), .val (.int p4), .val (.int (((p1 &&& (2147483647 : Int32)).toUInt32 >>> ((p4 &&& (31 : Int32)) &&& 31).toUInt32).toInt32)), .unset, .unset, .unset] [(.int (((p2 &&& (2147483647 : Int32)).toUInt32 >>> ((((p4.toUInt32 >>> ((5 : Int32) &&& 31).toUInt32).toInt32) &&& (31 : Int32)) &&& 31).toUInt32).toInt32))])) _
    refine XS.istore X0.here hx rfl (hb hby at_22) rfl (l' := #[.val (.int p1), .val (.int p2), .val (.int p3), .val (.int p4), .val (.int (((p1 &&& (2147483647 : Int32)).toUInt32 >>> ((p4 &&& (31 : Int32)) &&& 31).toUInt32).toInt32)), .val (.int (((p2 &&& (2147483647 : Int32)).toUInt32 >>> ((((p4.toUInt32 >>> ((5 : Int32) &&& 31).toUInt32).toInt32) &&& (31 : Int32)) &&& 31).toUInt32).toInt32)), .unset, .unset]) rfl ?_
    show Steps p.tables e below (s₁.setTop (mkF m 24 #[.val (.int p1), .val (.int p2), .val (.int p3), .val (.int p4), .val (.int (((p1 &&& (2147483647 : Int32)).toUInt32 >>> ((p4 &&& (31 : Int32)) &&& 31).toUInt32).toInt32)), .val (.int (((p2 &&& (2147483647 : Int32)).toUInt32 >>> ((((p4.toUInt32 >>> ((5 : Int32) &&& 31).toUInt32).toInt32) &&& (31 : Int32)) &&& 31).toUInt32).toInt32)), .unset, .unset] [])) _
    refine XS.iloadN X0.here hx rfl (hb hby at_24) rfl ?_
    show Steps p.tables e below (s₁.setTop (mkF m 25 #[.val (.int p1), .val (.int p2), .val (.int p3), .val (.int p4), .val (.int (((p1 &&& (2147483647 : Int32)).toUInt32 >>> ((p4 &&& (31 : Int32)) &&& 31).toUInt32).toInt32)), .val (.int (((p2 &&& (2147483647 : Int32)).toUInt32 >>> ((((p4.toUInt32 >>> ((5 : Int32) &&& 31).toUInt32).toInt32) &&& (31 : Int32)) &&& 31).toUInt32).toInt32)), .unset, .unset] [(.int p3)])) _
    refine X0.ldcInt hx hown (mvT hZ (hw _ (List.mem_of_getElem? (i := 0) rfl))) (g := (mkF m 25 #[.val (.int p1), .val (.int p2), .val (.int p3), .val (.int p4), .val (.int (((p1 &&& (2147483647 : Int32)).toUInt32 >>> ((p4 &&& (31 : Int32)) &&& 31).toUInt32).toInt32)), .val (.int (((p2 &&& (2147483647 : Int32)).toUInt32 >>> ((((p4.toUInt32 >>> ((5 : Int32) &&& 31).toUInt32).toInt32) &&& (31 : Int32)) &&& 31).toUInt32).toInt32)), .unset, .unset] [(.int p3)])) rfl (hb hby at_25) _ ?_
    show Steps p.tables e below (s₁.setTop (mkF m 27 #[.val (.int p1), .val (.int p2), .val (.int p3), .val (.int p4), .val (.int (((p1 &&& (2147483647 : Int32)).toUInt32 >>> ((p4 &&& (31 : Int32)) &&& 31).toUInt32).toInt32)), .val (.int (((p2 &&& (2147483647 : Int32)).toUInt32 >>> ((((p4.toUInt32 >>> ((5 : Int32) &&& 31).toUInt32).toInt32) &&& (31 : Int32)) &&& 31).toUInt32).toInt32)), .unset, .unset] [(.int (2147483647 : Int32)), (.int p3)])) _
    refine XS.iand X0.here hx rfl (hb hby at_27) rfl ?_
    show Steps p.tables e below (s₁.setTop (mkF m 28 #[.val (.int p1), .val (.int p2), .val (.int p3), .val (.int p4), .val (.int (((p1 &&& (2147483647 : Int32)).toUInt32 >>> ((p4 &&& (31 : Int32)) &&& 31).toUInt32).toInt32)), .val (.int (((p2 &&& (2147483647 : Int32)).toUInt32 >>> ((((p4.toUInt32 >>> ((5 : Int32) &&& 31).toUInt32).toInt32) &&& (31 : Int32)) &&& 31).toUInt32).toInt32)), .unset, .unset] [(.int (p3 &&& (2147483647 : Int32)))])) _
    refine XS.iloadN X0.here hx rfl (hb hby at_28) rfl ?_
    show Steps p.tables e below (s₁.setTop (mkF m 29 #[.val (.int p1), .val (.int p2), .val (.int p3), .val (.int p4), .val (.int (((p1 &&& (2147483647 : Int32)).toUInt32 >>> ((p4 &&& (31 : Int32)) &&& 31).toUInt32).toInt32)), .val (.int (((p2 &&& (2147483647 : Int32)).toUInt32 >>> ((((p4.toUInt32 >>> ((5 : Int32) &&& 31).toUInt32).toInt32) &&& (31 : Int32)) &&& 31).toUInt32).toInt32)), .unset, .unset] [(.int p4), (.int (p3 &&& (2147483647 : Int32)))])) _
    refine XS.bipush X0.here hx rfl (hb hby at_29) ?_
    show Steps p.tables e below (s₁.setTop (mkF m 31 #[.val (.int p1), .val (.int p2), .val (.int p3), .val (.int p4), .val (.int (((p1 &&& (2147483647 : Int32)).toUInt32 >>> ((p4 &&& (31 : Int32)) &&& 31).toUInt32).toInt32)), .val (.int (((p2 &&& (2147483647 : Int32)).toUInt32 >>> ((((p4.toUInt32 >>> ((5 : Int32) &&& 31).toUInt32).toInt32) &&& (31 : Int32)) &&& 31).toUInt32).toInt32)), .unset, .unset] [(.int (10 : Int32)), (.int p4), (.int (p3 &&& (2147483647 : Int32)))])) _
    refine XS.iushr X0.here hx rfl (hb hby at_31) rfl ?_
    show Steps p.tables e below (s₁.setTop (mkF m 32 #[.val (.int p1), .val (.int p2), .val (.int p3), .val (.int p4), .val (.int (((p1 &&& (2147483647 : Int32)).toUInt32 >>> ((p4 &&& (31 : Int32)) &&& 31).toUInt32).toInt32)), .val (.int (((p2 &&& (2147483647 : Int32)).toUInt32 >>> ((((p4.toUInt32 >>> ((5 : Int32) &&& 31).toUInt32).toInt32) &&& (31 : Int32)) &&& 31).toUInt32).toInt32)), .unset, .unset] [(.int ((p4.toUInt32 >>> ((10 : Int32) &&& 31).toUInt32).toInt32)), (.int (p3 &&& (2147483647 : Int32)))])) _
    refine XS.bipush X0.here hx rfl (hb hby at_32) ?_
    show Steps p.tables e below (s₁.setTop (mkF m 34 #[.val (.int p1), .val (.int p2), .val (.int p3), .val (.int p4), .val (.int (((p1 &&& (2147483647 : Int32)).toUInt32 >>> ((p4 &&& (31 : Int32)) &&& 31).toUInt32).toInt32)), .val (.int (((p2 &&& (2147483647 : Int32)).toUInt32 >>> ((((p4.toUInt32 >>> ((5 : Int32) &&& 31).toUInt32).toInt32) &&& (31 : Int32)) &&& 31).toUInt32).toInt32)), .unset, .unset] [(.int (31 : Int32)), (.int ((p4.toUInt32 >>> ((10 : Int32) &&& 31).toUInt32).toInt32)), (.int (p3 &&& (2147483647 : Int32)))])) _
    refine XS.iand X0.here hx rfl (hb hby at_34) rfl ?_
    show Steps p.tables e below (s₁.setTop (mkF m 35 #[.val (.int p1), .val (.int p2), .val (.int p3), .val (.int p4), .val (.int (((p1 &&& (2147483647 : Int32)).toUInt32 >>> ((p4 &&& (31 : Int32)) &&& 31).toUInt32).toInt32)), .val (.int (((p2 &&& (2147483647 : Int32)).toUInt32 >>> ((((p4.toUInt32 >>> ((5 : Int32) &&& 31).toUInt32).toInt32) &&& (31 : Int32)) &&& 31).toUInt32).toInt32)), .unset, .unset] [(.int (((p4.toUInt32 >>> ((10 : Int32) &&& 31).toUInt32).toInt32) &&& (31 : Int32))), (.int (p3 &&& (2147483647 : Int32)))])) _
    refine XS.iushr X0.here hx rfl (hb hby at_35) rfl ?_
    show Steps p.tables e below (s₁.setTop (mkF m 36 #[.val (.int p1), .val (.int p2), .val (.int p3), .val (.int p4), .val (.int (((p1 &&& (2147483647 : Int32)).toUInt32 >>> ((p4 &&& (31 : Int32)) &&& 31).toUInt32).toInt32)), .val (.int (((p2 &&& (2147483647 : Int32)).toUInt32 >>> ((((p4.toUInt32 >>> ((5 : Int32) &&& 31).toUInt32).toInt32) &&& (31 : Int32)) &&& 31).toUInt32).toInt32)), .unset, .unset] [(.int (((p3 &&& (2147483647 : Int32)).toUInt32 >>> ((((p4.toUInt32 >>> ((10 : Int32) &&& 31).toUInt32).toInt32) &&& (31 : Int32)) &&& 31).toUInt32).toInt32))])) _
    refine XS.istore X0.here hx rfl (hb hby at_36) rfl (l' := #[.val (.int p1), .val (.int p2), .val (.int p3), .val (.int p4), .val (.int (((p1 &&& (2147483647 : Int32)).toUInt32 >>> ((p4 &&& (31 : Int32)) &&& 31).toUInt32).toInt32)), .val (.int (((p2 &&& (2147483647 : Int32)).toUInt32 >>> ((((p4.toUInt32 >>> ((5 : Int32) &&& 31).toUInt32).toInt32) &&& (31 : Int32)) &&& 31).toUInt32).toInt32)), .val (.int (((p3 &&& (2147483647 : Int32)).toUInt32 >>> ((((p4.toUInt32 >>> ((10 : Int32) &&& 31).toUInt32).toInt32) &&& (31 : Int32)) &&& 31).toUInt32).toInt32)), .unset]) rfl ?_
    show Steps p.tables e below (s₁.setTop (mkF m 38 #[.val (.int p1), .val (.int p2), .val (.int p3), .val (.int p4), .val (.int (((p1 &&& (2147483647 : Int32)).toUInt32 >>> ((p4 &&& (31 : Int32)) &&& 31).toUInt32).toInt32)), .val (.int (((p2 &&& (2147483647 : Int32)).toUInt32 >>> ((((p4.toUInt32 >>> ((5 : Int32) &&& 31).toUInt32).toInt32) &&& (31 : Int32)) &&& 31).toUInt32).toInt32)), .val (.int (((p3 &&& (2147483647 : Int32)).toUInt32 >>> ((((p4.toUInt32 >>> ((10 : Int32) &&& 31).toUInt32).toInt32) &&& (31 : Int32)) &&& 31).toUInt32).toInt32)), .unset] [])) _
    refine st5 _ ?_
    show Steps p.tables e below (T5.setTop (mkF m 41 #[.val (.int p1), .val (.int p2), .val (.int p3), .val (.int p4), .val (.int (((p1 &&& (2147483647 : Int32)).toUInt32 >>> ((p4 &&& (31 : Int32)) &&& 31).toUInt32).toInt32)), .val (.int (((p2 &&& (2147483647 : Int32)).toUInt32 >>> ((((p4.toUInt32 >>> ((5 : Int32) &&& 31).toUInt32).toInt32) &&& (31 : Int32)) &&& 31).toUInt32).toInt32)), .val (.int (((p3 &&& (2147483647 : Int32)).toUInt32 >>> ((((p4.toUInt32 >>> ((10 : Int32) &&& 31).toUInt32).toInt32) &&& (31 : Int32)) &&& 31).toUInt32).toInt32)), .unset] [(.ref b5)])) _
    refine XS.dup X5.here hx rfl (hb hby at_41) rfl rfl ?_
    show Steps p.tables e below (T5.setTop (mkF m 42 #[.val (.int p1), .val (.int p2), .val (.int p3), .val (.int p4), .val (.int (((p1 &&& (2147483647 : Int32)).toUInt32 >>> ((p4 &&& (31 : Int32)) &&& 31).toUInt32).toInt32)), .val (.int (((p2 &&& (2147483647 : Int32)).toUInt32 >>> ((((p4.toUInt32 >>> ((5 : Int32) &&& 31).toUInt32).toInt32) &&& (31 : Int32)) &&& 31).toUInt32).toInt32)), .val (.int (((p3 &&& (2147483647 : Int32)).toUInt32 >>> ((((p4.toUInt32 >>> ((10 : Int32) &&& 31).toUInt32).toInt32) &&& (31 : Int32)) &&& 31).toUInt32).toInt32)), .unset] [(.ref b5), (.ref b5)])) _
    refine st6.trans ?_
    show Steps p.tables e below (T6.setTop (mkF m 45 #[.val (.int p1), .val (.int p2), .val (.int p3), .val (.int p4), .val (.int (((p1 &&& (2147483647 : Int32)).toUInt32 >>> ((p4 &&& (31 : Int32)) &&& 31).toUInt32).toInt32)), .val (.int (((p2 &&& (2147483647 : Int32)).toUInt32 >>> ((((p4.toUInt32 >>> ((5 : Int32) &&& 31).toUInt32).toInt32) &&& (31 : Int32)) &&& 31).toUInt32).toInt32)), .val (.int (((p3 &&& (2147483647 : Int32)).toUInt32 >>> ((((p4.toUInt32 >>> ((10 : Int32) &&& 31).toUInt32).toInt32) &&& (31 : Int32)) &&& 31).toUInt32).toInt32)), .unset] [(.ref b5)])) _
    refine XS.astore X6.here hx rfl (hb hby at_45) rfl rfl (l' := #[.val (.int p1), .val (.int p2), .val (.int p3), .val (.int p4), .val (.int (((p1 &&& (2147483647 : Int32)).toUInt32 >>> ((p4 &&& (31 : Int32)) &&& 31).toUInt32).toInt32)), .val (.int (((p2 &&& (2147483647 : Int32)).toUInt32 >>> ((((p4.toUInt32 >>> ((5 : Int32) &&& 31).toUInt32).toInt32) &&& (31 : Int32)) &&& 31).toUInt32).toInt32)), .val (.int (((p3 &&& (2147483647 : Int32)).toUInt32 >>> ((((p4.toUInt32 >>> ((10 : Int32) &&& 31).toUInt32).toInt32) &&& (31 : Int32)) &&& 31).toUInt32).toInt32)), .val (.ref b5)]) rfl ?_
    show Steps p.tables e below (T6.setTop (mkF m 47 #[.val (.int p1), .val (.int p2), .val (.int p3), .val (.int p4), .val (.int (((p1 &&& (2147483647 : Int32)).toUInt32 >>> ((p4 &&& (31 : Int32)) &&& 31).toUInt32).toInt32)), .val (.int (((p2 &&& (2147483647 : Int32)).toUInt32 >>> ((((p4.toUInt32 >>> ((5 : Int32) &&& 31).toUInt32).toInt32) &&& (31 : Int32)) &&& 31).toUInt32).toInt32)), .val (.int (((p3 &&& (2147483647 : Int32)).toUInt32 >>> ((((p4.toUInt32 >>> ((10 : Int32) &&& 31).toUInt32).toInt32) &&& (31 : Int32)) &&& 31).toUInt32).toInt32)), .val (.ref b5)] [])) _
    refine XS.aload X6.here hx rfl (hb hby at_47) rfl rfl ?_
    show Steps p.tables e below (T6.setTop (mkF m 49 #[.val (.int p1), .val (.int p2), .val (.int p3), .val (.int p4), .val (.int (((p1 &&& (2147483647 : Int32)).toUInt32 >>> ((p4 &&& (31 : Int32)) &&& 31).toUInt32).toInt32)), .val (.int (((p2 &&& (2147483647 : Int32)).toUInt32 >>> ((((p4.toUInt32 >>> ((5 : Int32) &&& 31).toUInt32).toInt32) &&& (31 : Int32)) &&& 31).toUInt32).toInt32)), .val (.int (((p3 &&& (2147483647 : Int32)).toUInt32 >>> ((((p4.toUInt32 >>> ((10 : Int32) &&& 31).toUInt32).toInt32) &&& (31 : Int32)) &&& 31).toUInt32).toInt32)), .val (.ref b5)] [(.ref b5)])) _
    refine XS.iload X6.here hx rfl (hb hby at_49) rfl ?_
    show Steps p.tables e below (T6.setTop (mkF m 51 #[.val (.int p1), .val (.int p2), .val (.int p3), .val (.int p4), .val (.int (((p1 &&& (2147483647 : Int32)).toUInt32 >>> ((p4 &&& (31 : Int32)) &&& 31).toUInt32).toInt32)), .val (.int (((p2 &&& (2147483647 : Int32)).toUInt32 >>> ((((p4.toUInt32 >>> ((5 : Int32) &&& 31).toUInt32).toInt32) &&& (31 : Int32)) &&& 31).toUInt32).toInt32)), .val (.int (((p3 &&& (2147483647 : Int32)).toUInt32 >>> ((((p4.toUInt32 >>> ((10 : Int32) &&& 31).toUInt32).toInt32) &&& (31 : Int32)) &&& 31).toUInt32).toInt32)), .val (.ref b5)] [(.int (((p1 &&& (2147483647 : Int32)).toUInt32 >>> ((p4 &&& (31 : Int32)) &&& 31).toUInt32).toInt32)), (.ref b5)])) _
    refine st7.trans ?_
    show Steps p.tables e below (T7.setTop (mkF m 54 #[.val (.int p1), .val (.int p2), .val (.int p3), .val (.int p4), .val (.int (((p1 &&& (2147483647 : Int32)).toUInt32 >>> ((p4 &&& (31 : Int32)) &&& 31).toUInt32).toInt32)), .val (.int (((p2 &&& (2147483647 : Int32)).toUInt32 >>> ((((p4.toUInt32 >>> ((5 : Int32) &&& 31).toUInt32).toInt32) &&& (31 : Int32)) &&& 31).toUInt32).toInt32)), .val (.int (((p3 &&& (2147483647 : Int32)).toUInt32 >>> ((((p4.toUInt32 >>> ((10 : Int32) &&& 31).toUInt32).toInt32) &&& (31 : Int32)) &&& 31).toUInt32).toInt32)), .val (.ref b5)] [])) _
    refine XS.aload X7.here hx rfl (hb hby at_54) rfl rfl ?_
    show Steps p.tables e below (T7.setTop (mkF m 56 #[.val (.int p1), .val (.int p2), .val (.int p3), .val (.int p4), .val (.int (((p1 &&& (2147483647 : Int32)).toUInt32 >>> ((p4 &&& (31 : Int32)) &&& 31).toUInt32).toInt32)), .val (.int (((p2 &&& (2147483647 : Int32)).toUInt32 >>> ((((p4.toUInt32 >>> ((5 : Int32) &&& 31).toUInt32).toInt32) &&& (31 : Int32)) &&& 31).toUInt32).toInt32)), .val (.int (((p3 &&& (2147483647 : Int32)).toUInt32 >>> ((((p4.toUInt32 >>> ((10 : Int32) &&& 31).toUInt32).toInt32) &&& (31 : Int32)) &&& 31).toUInt32).toInt32)), .val (.ref b5)] [(.ref b5)])) _
    refine XS.iload X7.here hx rfl (hb hby at_56) rfl ?_
    show Steps p.tables e below (T7.setTop (mkF m 58 #[.val (.int p1), .val (.int p2), .val (.int p3), .val (.int p4), .val (.int (((p1 &&& (2147483647 : Int32)).toUInt32 >>> ((p4 &&& (31 : Int32)) &&& 31).toUInt32).toInt32)), .val (.int (((p2 &&& (2147483647 : Int32)).toUInt32 >>> ((((p4.toUInt32 >>> ((5 : Int32) &&& 31).toUInt32).toInt32) &&& (31 : Int32)) &&& 31).toUInt32).toInt32)), .val (.int (((p3 &&& (2147483647 : Int32)).toUInt32 >>> ((((p4.toUInt32 >>> ((10 : Int32) &&& 31).toUInt32).toInt32) &&& (31 : Int32)) &&& 31).toUInt32).toInt32)), .val (.ref b5)] [(.int (((p1 &&& (2147483647 : Int32)).toUInt32 >>> ((p4 &&& (31 : Int32)) &&& 31).toUInt32).toInt32)), (.ref b5)])) _
    refine st8.trans ?_
    show Steps p.tables e below (T8.setTop (mkF m 61 #[.val (.int p1), .val (.int p2), .val (.int p3), .val (.int p4), .val (.int (((p1 &&& (2147483647 : Int32)).toUInt32 >>> ((p4 &&& (31 : Int32)) &&& 31).toUInt32).toInt32)), .val (.int (((p2 &&& (2147483647 : Int32)).toUInt32 >>> ((((p4.toUInt32 >>> ((5 : Int32) &&& 31).toUInt32).toInt32) &&& (31 : Int32)) &&& 31).toUInt32).toInt32)), .val (.int (((p3 &&& (2147483647 : Int32)).toUInt32 >>> ((((p4.toUInt32 >>> ((10 : Int32) &&& 31).toUInt32).toInt32) &&& (31 : Int32)) &&& 31).toUInt32).toInt32)), .val (.ref b5)] [])) _
    refine XS.aload X8.here hx rfl (hb hby at_61) rfl rfl ?_
    show Steps p.tables e below (T8.setTop (mkF m 63 #[.val (.int p1), .val (.int p2), .val (.int p3), .val (.int p4), .val (.int (((p1 &&& (2147483647 : Int32)).toUInt32 >>> ((p4 &&& (31 : Int32)) &&& 31).toUInt32).toInt32)), .val (.int (((p2 &&& (2147483647 : Int32)).toUInt32 >>> ((((p4.toUInt32 >>> ((5 : Int32) &&& 31).toUInt32).toInt32) &&& (31 : Int32)) &&& 31).toUInt32).toInt32)), .val (.int (((p3 &&& (2147483647 : Int32)).toUInt32 >>> ((((p4.toUInt32 >>> ((10 : Int32) &&& 31).toUInt32).toInt32) &&& (31 : Int32)) &&& 31).toUInt32).toInt32)), .val (.ref b5)] [(.ref b5)])) _
    refine XS.iload X8.here hx rfl (hb hby at_63) rfl ?_
    show Steps p.tables e below (T8.setTop (mkF m 65 #[.val (.int p1), .val (.int p2), .val (.int p3), .val (.int p4), .val (.int (((p1 &&& (2147483647 : Int32)).toUInt32 >>> ((p4 &&& (31 : Int32)) &&& 31).toUInt32).toInt32)), .val (.int (((p2 &&& (2147483647 : Int32)).toUInt32 >>> ((((p4.toUInt32 >>> ((5 : Int32) &&& 31).toUInt32).toInt32) &&& (31 : Int32)) &&& 31).toUInt32).toInt32)), .val (.int (((p3 &&& (2147483647 : Int32)).toUInt32 >>> ((((p4.toUInt32 >>> ((10 : Int32) &&& 31).toUInt32).toInt32) &&& (31 : Int32)) &&& 31).toUInt32).toInt32)), .val (.ref b5)] [(.int (((p2 &&& (2147483647 : Int32)).toUInt32 >>> ((((p4.toUInt32 >>> ((5 : Int32) &&& 31).toUInt32).toInt32) &&& (31 : Int32)) &&& 31).toUInt32).toInt32)), (.ref b5)])) _
    refine st9.trans ?_
    show Steps p.tables e below (T9.setTop (mkF m 68 #[.val (.int p1), .val (.int p2), .val (.int p3), .val (.int p4), .val (.int (((p1 &&& (2147483647 : Int32)).toUInt32 >>> ((p4 &&& (31 : Int32)) &&& 31).toUInt32).toInt32)), .val (.int (((p2 &&& (2147483647 : Int32)).toUInt32 >>> ((((p4.toUInt32 >>> ((5 : Int32) &&& 31).toUInt32).toInt32) &&& (31 : Int32)) &&& 31).toUInt32).toInt32)), .val (.int (((p3 &&& (2147483647 : Int32)).toUInt32 >>> ((((p4.toUInt32 >>> ((10 : Int32) &&& 31).toUInt32).toInt32) &&& (31 : Int32)) &&& 31).toUInt32).toInt32)), .val (.ref b5)] [])) _
    refine XS.aload X9.here hx rfl (hb hby at_68) rfl rfl ?_
    show Steps p.tables e below (T9.setTop (mkF m 70 #[.val (.int p1), .val (.int p2), .val (.int p3), .val (.int p4), .val (.int (((p1 &&& (2147483647 : Int32)).toUInt32 >>> ((p4 &&& (31 : Int32)) &&& 31).toUInt32).toInt32)), .val (.int (((p2 &&& (2147483647 : Int32)).toUInt32 >>> ((((p4.toUInt32 >>> ((5 : Int32) &&& 31).toUInt32).toInt32) &&& (31 : Int32)) &&& 31).toUInt32).toInt32)), .val (.int (((p3 &&& (2147483647 : Int32)).toUInt32 >>> ((((p4.toUInt32 >>> ((10 : Int32) &&& 31).toUInt32).toInt32) &&& (31 : Int32)) &&& 31).toUInt32).toInt32)), .val (.ref b5)] [(.ref b5)])) _
    refine XS.iload X9.here hx rfl (hb hby at_70) rfl ?_
    show Steps p.tables e below (T9.setTop (mkF m 72 #[.val (.int p1), .val (.int p2), .val (.int p3), .val (.int p4), .val (.int (((p1 &&& (2147483647 : Int32)).toUInt32 >>> ((p4 &&& (31 : Int32)) &&& 31).toUInt32).toInt32)), .val (.int (((p2 &&& (2147483647 : Int32)).toUInt32 >>> ((((p4.toUInt32 >>> ((5 : Int32) &&& 31).toUInt32).toInt32) &&& (31 : Int32)) &&& 31).toUInt32).toInt32)), .val (.int (((p3 &&& (2147483647 : Int32)).toUInt32 >>> ((((p4.toUInt32 >>> ((10 : Int32) &&& 31).toUInt32).toInt32) &&& (31 : Int32)) &&& 31).toUInt32).toInt32)), .val (.ref b5)] [(.int (((p2 &&& (2147483647 : Int32)).toUInt32 >>> ((((p4.toUInt32 >>> ((5 : Int32) &&& 31).toUInt32).toInt32) &&& (31 : Int32)) &&& 31).toUInt32).toInt32)), (.ref b5)])) _
    refine st10.trans ?_
    show Steps p.tables e below (T10.setTop (mkF m 75 #[.val (.int p1), .val (.int p2), .val (.int p3), .val (.int p4), .val (.int (((p1 &&& (2147483647 : Int32)).toUInt32 >>> ((p4 &&& (31 : Int32)) &&& 31).toUInt32).toInt32)), .val (.int (((p2 &&& (2147483647 : Int32)).toUInt32 >>> ((((p4.toUInt32 >>> ((5 : Int32) &&& 31).toUInt32).toInt32) &&& (31 : Int32)) &&& 31).toUInt32).toInt32)), .val (.int (((p3 &&& (2147483647 : Int32)).toUInt32 >>> ((((p4.toUInt32 >>> ((10 : Int32) &&& 31).toUInt32).toInt32) &&& (31 : Int32)) &&& 31).toUInt32).toInt32)), .val (.ref b5)] [])) _
    refine XS.aload X10.here hx rfl (hb hby at_75) rfl rfl ?_
    show Steps p.tables e below (T10.setTop (mkF m 77 #[.val (.int p1), .val (.int p2), .val (.int p3), .val (.int p4), .val (.int (((p1 &&& (2147483647 : Int32)).toUInt32 >>> ((p4 &&& (31 : Int32)) &&& 31).toUInt32).toInt32)), .val (.int (((p2 &&& (2147483647 : Int32)).toUInt32 >>> ((((p4.toUInt32 >>> ((5 : Int32) &&& 31).toUInt32).toInt32) &&& (31 : Int32)) &&& 31).toUInt32).toInt32)), .val (.int (((p3 &&& (2147483647 : Int32)).toUInt32 >>> ((((p4.toUInt32 >>> ((10 : Int32) &&& 31).toUInt32).toInt32) &&& (31 : Int32)) &&& 31).toUInt32).toInt32)), .val (.ref b5)] [(.ref b5)])) _
    refine XS.iload X10.here hx rfl (hb hby at_77) rfl ?_
    show Steps p.tables e below (T10.setTop (mkF m 79 #[.val (.int p1), .val (.int p2), .val (.int p3), .val (.int p4), .val (.int (((p1 &&& (2147483647 : Int32)).toUInt32 >>> ((p4 &&& (31 : Int32)) &&& 31).toUInt32).toInt32)), .val (.int (((p2 &&& (2147483647 : Int32)).toUInt32 >>> ((((p4.toUInt32 >>> ((5 : Int32) &&& 31).toUInt32).toInt32) &&& (31 : Int32)) &&& 31).toUInt32).toInt32)), .val (.int (((p3 &&& (2147483647 : Int32)).toUInt32 >>> ((((p4.toUInt32 >>> ((10 : Int32) &&& 31).toUInt32).toInt32) &&& (31 : Int32)) &&& 31).toUInt32).toInt32)), .val (.ref b5)] [(.int (((p3 &&& (2147483647 : Int32)).toUInt32 >>> ((((p4.toUInt32 >>> ((10 : Int32) &&& 31).toUInt32).toInt32) &&& (31 : Int32)) &&& 31).toUInt32).toInt32)), (.ref b5)])) _
    refine st11.trans ?_
    show Steps p.tables e below (T11.setTop (mkF m 82 #[.val (.int p1), .val (.int p2), .val (.int p3), .val (.int p4), .val (.int (((p1 &&& (2147483647 : Int32)).toUInt32 >>> ((p4 &&& (31 : Int32)) &&& 31).toUInt32).toInt32)), .val (.int (((p2 &&& (2147483647 : Int32)).toUInt32 >>> ((((p4.toUInt32 >>> ((5 : Int32) &&& 31).toUInt32).toInt32) &&& (31 : Int32)) &&& 31).toUInt32).toInt32)), .val (.int (((p3 &&& (2147483647 : Int32)).toUInt32 >>> ((((p4.toUInt32 >>> ((10 : Int32) &&& 31).toUInt32).toInt32) &&& (31 : Int32)) &&& 31).toUInt32).toInt32)), .val (.ref b5)] [])) _
    refine XS.aload X11.here hx rfl (hb hby at_82) rfl rfl ?_
    show Steps p.tables e below (T11.setTop (mkF m 84 #[.val (.int p1), .val (.int p2), .val (.int p3), .val (.int p4), .val (.int (((p1 &&& (2147483647 : Int32)).toUInt32 >>> ((p4 &&& (31 : Int32)) &&& 31).toUInt32).toInt32)), .val (.int (((p2 &&& (2147483647 : Int32)).toUInt32 >>> ((((p4.toUInt32 >>> ((5 : Int32) &&& 31).toUInt32).toInt32) &&& (31 : Int32)) &&& 31).toUInt32).toInt32)), .val (.int (((p3 &&& (2147483647 : Int32)).toUInt32 >>> ((((p4.toUInt32 >>> ((10 : Int32) &&& 31).toUInt32).toInt32) &&& (31 : Int32)) &&& 31).toUInt32).toInt32)), .val (.ref b5)] [(.ref b5)])) _
    refine XS.iload X11.here hx rfl (hb hby at_84) rfl ?_
    show Steps p.tables e below (T11.setTop (mkF m 86 #[.val (.int p1), .val (.int p2), .val (.int p3), .val (.int p4), .val (.int (((p1 &&& (2147483647 : Int32)).toUInt32 >>> ((p4 &&& (31 : Int32)) &&& 31).toUInt32).toInt32)), .val (.int (((p2 &&& (2147483647 : Int32)).toUInt32 >>> ((((p4.toUInt32 >>> ((5 : Int32) &&& 31).toUInt32).toInt32) &&& (31 : Int32)) &&& 31).toUInt32).toInt32)), .val (.int (((p3 &&& (2147483647 : Int32)).toUInt32 >>> ((((p4.toUInt32 >>> ((10 : Int32) &&& 31).toUInt32).toInt32) &&& (31 : Int32)) &&& 31).toUInt32).toInt32)), .val (.ref b5)] [(.int (((p3 &&& (2147483647 : Int32)).toUInt32 >>> ((((p4.toUInt32 >>> ((10 : Int32) &&& 31).toUInt32).toInt32) &&& (31 : Int32)) &&& 31).toUInt32).toInt32)), (.ref b5)])) _
    refine st12.trans ?_
    show Steps p.tables e below (T12.setTop (mkF m 89 #[.val (.int p1), .val (.int p2), .val (.int p3), .val (.int p4), .val (.int (((p1 &&& (2147483647 : Int32)).toUInt32 >>> ((p4 &&& (31 : Int32)) &&& 31).toUInt32).toInt32)), .val (.int (((p2 &&& (2147483647 : Int32)).toUInt32 >>> ((((p4.toUInt32 >>> ((5 : Int32) &&& 31).toUInt32).toInt32) &&& (31 : Int32)) &&& 31).toUInt32).toInt32)), .val (.int (((p3 &&& (2147483647 : Int32)).toUInt32 >>> ((((p4.toUInt32 >>> ((10 : Int32) &&& 31).toUInt32).toInt32) &&& (31 : Int32)) &&& 31).toUInt32).toInt32)), .val (.ref b5)] [])) _
    refine XS.aload X12.here hx rfl (hb hby at_89) rfl rfl ?_
    show Steps p.tables e below (T12.setTop (mkF m 91 #[.val (.int p1), .val (.int p2), .val (.int p3), .val (.int p4), .val (.int (((p1 &&& (2147483647 : Int32)).toUInt32 >>> ((p4 &&& (31 : Int32)) &&& 31).toUInt32).toInt32)), .val (.int (((p2 &&& (2147483647 : Int32)).toUInt32 >>> ((((p4.toUInt32 >>> ((5 : Int32) &&& 31).toUInt32).toInt32) &&& (31 : Int32)) &&& 31).toUInt32).toInt32)), .val (.int (((p3 &&& (2147483647 : Int32)).toUInt32 >>> ((((p4.toUInt32 >>> ((10 : Int32) &&& 31).toUInt32).toInt32) &&& (31 : Int32)) &&& 31).toUInt32).toInt32)), .val (.ref b5)] [(.ref b5)])) _
    refine XS.iconst X12.here hx rfl (hb hby at_91) ?_
    show Steps p.tables e below (T12.setTop (mkF m 92 #[.val (.int p1), .val (.int p2), .val (.int p3), .val (.int p4), .val (.int (((p1 &&& (2147483647 : Int32)).toUInt32 >>> ((p4 &&& (31 : Int32)) &&& 31).toUInt32).toInt32)), .val (.int (((p2 &&& (2147483647 : Int32)).toUInt32 >>> ((((p4.toUInt32 >>> ((5 : Int32) &&& 31).toUInt32).toInt32) &&& (31 : Int32)) &&& 31).toUInt32).toInt32)), .val (.int (((p3 &&& (2147483647 : Int32)).toUInt32 >>> ((((p4.toUInt32 >>> ((10 : Int32) &&& 31).toUInt32).toInt32) &&& (31 : Int32)) &&& 31).toUInt32).toInt32)), .val (.ref b5)] [(.int (0 : Int32)), (.ref b5)])) _
    refine st13.trans ?_
    show Steps p.tables e below (T13.setTop (mkF m 95 #[.val (.int p1), .val (.int p2), .val (.int p3), .val (.int p4), .val (.int (((p1 &&& (2147483647 : Int32)).toUInt32 >>> ((p4 &&& (31 : Int32)) &&& 31).toUInt32).toInt32)), .val (.int (((p2 &&& (2147483647 : Int32)).toUInt32 >>> ((((p4.toUInt32 >>> ((5 : Int32) &&& 31).toUInt32).toInt32) &&& (31 : Int32)) &&& 31).toUInt32).toInt32)), .val (.int (((p3 &&& (2147483647 : Int32)).toUInt32 >>> ((((p4.toUInt32 >>> ((10 : Int32) &&& 31).toUInt32).toInt32) &&& (31 : Int32)) &&& 31).toUInt32).toInt32)), .val (.ref b5)] [(.int (((p1 &&& (2147483647 : Int32)).toUInt32 >>> ((p4 &&& (31 : Int32)) &&& 31).toUInt32).toInt32))])) _
    refine XS.iload X13.here hx rfl (hb hby at_95) rfl ?_
    show Steps p.tables e below (T13.setTop (mkF m 97 #[.val (.int p1), .val (.int p2), .val (.int p3), .val (.int p4), .val (.int (((p1 &&& (2147483647 : Int32)).toUInt32 >>> ((p4 &&& (31 : Int32)) &&& 31).toUInt32).toInt32)), .val (.int (((p2 &&& (2147483647 : Int32)).toUInt32 >>> ((((p4.toUInt32 >>> ((5 : Int32) &&& 31).toUInt32).toInt32) &&& (31 : Int32)) &&& 31).toUInt32).toInt32)), .val (.int (((p3 &&& (2147483647 : Int32)).toUInt32 >>> ((((p4.toUInt32 >>> ((10 : Int32) &&& 31).toUInt32).toInt32) &&& (31 : Int32)) &&& 31).toUInt32).toInt32)), .val (.ref b5)] [(.int (((p1 &&& (2147483647 : Int32)).toUInt32 >>> ((p4 &&& (31 : Int32)) &&& 31).toUInt32).toInt32)), (.int (((p1 &&& (2147483647 : Int32)).toUInt32 >>> ((p4 &&& (31 : Int32)) &&& 31).toUInt32).toInt32))])) _
    refine XS.icmpNo X13.here hx rfl (hb hby at_97) rfl (teq hc97).2 ?_
    show Steps p.tables e below (T13.setTop (mkF m 100 #[.val (.int p1), .val (.int p2), .val (.int p3), .val (.int p4), .val (.int (((p1 &&& (2147483647 : Int32)).toUInt32 >>> ((p4 &&& (31 : Int32)) &&& 31).toUInt32).toInt32)), .val (.int (((p2 &&& (2147483647 : Int32)).toUInt32 >>> ((((p4.toUInt32 >>> ((5 : Int32) &&& 31).toUInt32).toInt32) &&& (31 : Int32)) &&& 31).toUInt32).toInt32)), .val (.int (((p3 &&& (2147483647 : Int32)).toUInt32 >>> ((((p4.toUInt32 >>> ((10 : Int32) &&& 31).toUInt32).toInt32) &&& (31 : Int32)) &&& 31).toUInt32).toInt32)), .val (.ref b5)] [])) _
    refine XS.aload X13.here hx rfl (hb hby at_100) rfl rfl ?_
    show Steps p.tables e below (T13.setTop (mkF m 102 #[.val (.int p1), .val (.int p2), .val (.int p3), .val (.int p4), .val (.int (((p1 &&& (2147483647 : Int32)).toUInt32 >>> ((p4 &&& (31 : Int32)) &&& 31).toUInt32).toInt32)), .val (.int (((p2 &&& (2147483647 : Int32)).toUInt32 >>> ((((p4.toUInt32 >>> ((5 : Int32) &&& 31).toUInt32).toInt32) &&& (31 : Int32)) &&& 31).toUInt32).toInt32)), .val (.int (((p3 &&& (2147483647 : Int32)).toUInt32 >>> ((((p4.toUInt32 >>> ((10 : Int32) &&& 31).toUInt32).toInt32) &&& (31 : Int32)) &&& 31).toUInt32).toInt32)), .val (.ref b5)] [(.ref b5)])) _
    refine XS.iconst X13.here hx rfl (hb hby at_102) ?_
    show Steps p.tables e below (T13.setTop (mkF m 103 #[.val (.int p1), .val (.int p2), .val (.int p3), .val (.int p4), .val (.int (((p1 &&& (2147483647 : Int32)).toUInt32 >>> ((p4 &&& (31 : Int32)) &&& 31).toUInt32).toInt32)), .val (.int (((p2 &&& (2147483647 : Int32)).toUInt32 >>> ((((p4.toUInt32 >>> ((5 : Int32) &&& 31).toUInt32).toInt32) &&& (31 : Int32)) &&& 31).toUInt32).toInt32)), .val (.int (((p3 &&& (2147483647 : Int32)).toUInt32 >>> ((((p4.toUInt32 >>> ((10 : Int32) &&& 31).toUInt32).toInt32) &&& (31 : Int32)) &&& 31).toUInt32).toInt32)), .val (.ref b5)] [(.int (1 : Int32)), (.ref b5)])) _
    refine st14.trans ?_
    show Steps p.tables e below (T14.setTop (mkF m 106 #[.val (.int p1), .val (.int p2), .val (.int p3), .val (.int p4), .val (.int (((p1 &&& (2147483647 : Int32)).toUInt32 >>> ((p4 &&& (31 : Int32)) &&& 31).toUInt32).toInt32)), .val (.int (((p2 &&& (2147483647 : Int32)).toUInt32 >>> ((((p4.toUInt32 >>> ((5 : Int32) &&& 31).toUInt32).toInt32) &&& (31 : Int32)) &&& 31).toUInt32).toInt32)), .val (.int (((p3 &&& (2147483647 : Int32)).toUInt32 >>> ((((p4.toUInt32 >>> ((10 : Int32) &&& 31).toUInt32).toInt32) &&& (31 : Int32)) &&& 31).toUInt32).toInt32)), .val (.ref b5)] [(.int (((p2 &&& (2147483647 : Int32)).toUInt32 >>> ((((p4.toUInt32 >>> ((5 : Int32) &&& 31).toUInt32).toInt32) &&& (31 : Int32)) &&& 31).toUInt32).toInt32))])) _
    refine XS.iload X14.here hx rfl (hb hby at_106) rfl ?_
    show Steps p.tables e below (T14.setTop (mkF m 108 #[.val (.int p1), .val (.int p2), .val (.int p3), .val (.int p4), .val (.int (((p1 &&& (2147483647 : Int32)).toUInt32 >>> ((p4 &&& (31 : Int32)) &&& 31).toUInt32).toInt32)), .val (.int (((p2 &&& (2147483647 : Int32)).toUInt32 >>> ((((p4.toUInt32 >>> ((5 : Int32) &&& 31).toUInt32).toInt32) &&& (31 : Int32)) &&& 31).toUInt32).toInt32)), .val (.int (((p3 &&& (2147483647 : Int32)).toUInt32 >>> ((((p4.toUInt32 >>> ((10 : Int32) &&& 31).toUInt32).toInt32) &&& (31 : Int32)) &&& 31).toUInt32).toInt32)), .val (.ref b5)] [(.int (((p2 &&& (2147483647 : Int32)).toUInt32 >>> ((((p4.toUInt32 >>> ((5 : Int32) &&& 31).toUInt32).toInt32) &&& (31 : Int32)) &&& 31).toUInt32).toInt32)), (.int (((p2 &&& (2147483647 : Int32)).toUInt32 >>> ((((p4.toUInt32 >>> ((5 : Int32) &&& 31).toUInt32).toInt32) &&& (31 : Int32)) &&& 31).toUInt32).toInt32))])) _
    refine XS.icmpNo X14.here hx rfl (hb hby at_108) rfl (teq hc108).2 ?_
    show Steps p.tables e below (T14.setTop (mkF m 111 #[.val (.int p1), .val (.int p2), .val (.int p3), .val (.int p4), .val (.int (((p1 &&& (2147483647 : Int32)).toUInt32 >>> ((p4 &&& (31 : Int32)) &&& 31).toUInt32).toInt32)), .val (.int (((p2 &&& (2147483647 : Int32)).toUInt32 >>> ((((p4.toUInt32 >>> ((5 : Int32) &&& 31).toUInt32).toInt32) &&& (31 : Int32)) &&& 31).toUInt32).toInt32)), .val (.int (((p3 &&& (2147483647 : Int32)).toUInt32 >>> ((((p4.toUInt32 >>> ((10 : Int32) &&& 31).toUInt32).toInt32) &&& (31 : Int32)) &&& 31).toUInt32).toInt32)), .val (.ref b5)] [])) _
    refine XS.aload X14.here hx rfl (hb hby at_111) rfl rfl ?_
    show Steps p.tables e below (T14.setTop (mkF m 113 #[.val (.int p1), .val (.int p2), .val (.int p3), .val (.int p4), .val (.int (((p1 &&& (2147483647 : Int32)).toUInt32 >>> ((p4 &&& (31 : Int32)) &&& 31).toUInt32).toInt32)), .val (.int (((p2 &&& (2147483647 : Int32)).toUInt32 >>> ((((p4.toUInt32 >>> ((5 : Int32) &&& 31).toUInt32).toInt32) &&& (31 : Int32)) &&& 31).toUInt32).toInt32)), .val (.int (((p3 &&& (2147483647 : Int32)).toUInt32 >>> ((((p4.toUInt32 >>> ((10 : Int32) &&& 31).toUInt32).toInt32) &&& (31 : Int32)) &&& 31).toUInt32).toInt32)), .val (.ref b5)] [(.ref b5)])) _
    refine XS.iconst X14.here hx rfl (hb hby at_113) ?_
    show Steps p.tables e below (T14.setTop (mkF m 114 #[.val (.int p1), .val (.int p2), .val (.int p3), .val (.int p4), .val (.int (((p1 &&& (2147483647 : Int32)).toUInt32 >>> ((p4 &&& (31 : Int32)) &&& 31).toUInt32).toInt32)), .val (.int (((p2 &&& (2147483647 : Int32)).toUInt32 >>> ((((p4.toUInt32 >>> ((5 : Int32) &&& 31).toUInt32).toInt32) &&& (31 : Int32)) &&& 31).toUInt32).toInt32)), .val (.int (((p3 &&& (2147483647 : Int32)).toUInt32 >>> ((((p4.toUInt32 >>> ((10 : Int32) &&& 31).toUInt32).toInt32) &&& (31 : Int32)) &&& 31).toUInt32).toInt32)), .val (.ref b5)] [(.int (2 : Int32)), (.ref b5)])) _
    refine st15.trans ?_
    show Steps p.tables e below (T15.setTop (mkF m 117 #[.val (.int p1), .val (.int p2), .val (.int p3), .val (.int p4), .val (.int (((p1 &&& (2147483647 : Int32)).toUInt32 >>> ((p4 &&& (31 : Int32)) &&& 31).toUInt32).toInt32)), .val (.int (((p2 &&& (2147483647 : Int32)).toUInt32 >>> ((((p4.toUInt32 >>> ((5 : Int32) &&& 31).toUInt32).toInt32) &&& (31 : Int32)) &&& 31).toUInt32).toInt32)), .val (.int (((p3 &&& (2147483647 : Int32)).toUInt32 >>> ((((p4.toUInt32 >>> ((10 : Int32) &&& 31).toUInt32).toInt32) &&& (31 : Int32)) &&& 31).toUInt32).toInt32)), .val (.ref b5)] [(.int (((p3 &&& (2147483647 : Int32)).toUInt32 >>> ((((p4.toUInt32 >>> ((10 : Int32) &&& 31).toUInt32).toInt32) &&& (31 : Int32)) &&& 31).toUInt32).toInt32))])) _
    refine XS.iload X15.here hx rfl (hb hby at_117) rfl ?_
    show Steps p.tables e below (T15.setTop (mkF m 119 #[.val (.int p1), .val (.int p2), .val (.int p3), .val (.int p4), .val (.int (((p1 &&& (2147483647 : Int32)).toUInt32 >>> ((p4 &&& (31 : Int32)) &&& 31).toUInt32).toInt32)), .val (.int (((p2 &&& (2147483647 : Int32)).toUInt32 >>> ((((p4.toUInt32 >>> ((5 : Int32) &&& 31).toUInt32).toInt32) &&& (31 : Int32)) &&& 31).toUInt32).toInt32)), .val (.int (((p3 &&& (2147483647 : Int32)).toUInt32 >>> ((((p4.toUInt32 >>> ((10 : Int32) &&& 31).toUInt32).toInt32) &&& (31 : Int32)) &&& 31).toUInt32).toInt32)), .val (.ref b5)] [(.int (((p3 &&& (2147483647 : Int32)).toUInt32 >>> ((((p4.toUInt32 >>> ((10 : Int32) &&& 31).toUInt32).toInt32) &&& (31 : Int32)) &&& 31).toUInt32).toInt32)), (.int (((p3 &&& (2147483647 : Int32)).toUInt32 >>> ((((p4.toUInt32 >>> ((10 : Int32) &&& 31).toUInt32).toInt32) &&& (31 : Int32)) &&& 31).toUInt32).toInt32))])) _
    refine XS.icmpNo X15.here hx rfl (hb hby at_119) rfl (teq hc119).2 ?_
    show Steps p.tables e below (T15.setTop (mkF m 122 #[.val (.int p1), .val (.int p2), .val (.int p3), .val (.int p4), .val (.int (((p1 &&& (2147483647 : Int32)).toUInt32 >>> ((p4 &&& (31 : Int32)) &&& 31).toUInt32).toInt32)), .val (.int (((p2 &&& (2147483647 : Int32)).toUInt32 >>> ((((p4.toUInt32 >>> ((5 : Int32) &&& 31).toUInt32).toInt32) &&& (31 : Int32)) &&& 31).toUInt32).toInt32)), .val (.int (((p3 &&& (2147483647 : Int32)).toUInt32 >>> ((((p4.toUInt32 >>> ((10 : Int32) &&& 31).toUInt32).toInt32) &&& (31 : Int32)) &&& 31).toUInt32).toInt32)), .val (.ref b5)] [])) _
    refine XS.iconst X15.here hx rfl (hb hby at_122) ?_
    show Steps p.tables e below (T15.setTop (mkF m 123 #[.val (.int p1), .val (.int p2), .val (.int p3), .val (.int p4), .val (.int (((p1 &&& (2147483647 : Int32)).toUInt32 >>> ((p4 &&& (31 : Int32)) &&& 31).toUInt32).toInt32)), .val (.int (((p2 &&& (2147483647 : Int32)).toUInt32 >>> ((((p4.toUInt32 >>> ((5 : Int32) &&& 31).toUInt32).toInt32) &&& (31 : Int32)) &&& 31).toUInt32).toInt32)), .val (.int (((p3 &&& (2147483647 : Int32)).toUInt32 >>> ((((p4.toUInt32 >>> ((10 : Int32) &&& 31).toUInt32).toInt32) &&& (31 : Int32)) &&& 31).toUInt32).toInt32)), .val (.ref b5)] [(.int (1 : Int32))])) _
    refine XS.goto X15.here hx rfl (pc0 := 123) (pc' := 127) rfl (hb hby at_123) (by decide) (by decide) ?_
    show Steps p.tables e below (T15.setTop (mkF m 127 #[.val (.int p1), .val (.int p2), .val (.int p3), .val (.int p4), .val (.int (((p1 &&& (2147483647 : Int32)).toUInt32 >>> ((p4 &&& (31 : Int32)) &&& 31).toUInt32).toInt32)), .val (.int (((p2 &&& (2147483647 : Int32)).toUInt32 >>> ((((p4.toUInt32 >>> ((5 : Int32) &&& 31).toUInt32).toInt32) &&& (31 : Int32)) &&& 31).toUInt32).toInt32)), .val (.int (((p3 &&& (2147483647 : Int32)).toUInt32 >>> ((((p4.toUInt32 >>> ((10 : Int32) &&& 31).toUInt32).toInt32) &&& (31 : Int32)) &&& 31).toUInt32).toInt32)), .val (.ref b5)] [(.int (1 : Int32))])) _
    exact retN X15 hx (t := .boolean) Bd.returns (by simp) (hb hby at_127) hr
  · show Q0 Z p1 p2 p3 p4 h0 n0 _ T15.heap _
    rw [eq15]
    exact ⟨rfl, N15⟩
set_option maxRecDepth 65536 in
set_option maxHeartbeats 40000000 in
theorem comes_1 {Post : Tables → Env → Array Value → State → Outcome → State → Prop} (hpost : ∀ tb e args s v u, (limb_1_1.after args s (.returned v) u = true ∧ limb_1_2.after args s (.returned v) u = true ∧ True) → FrameEnd s (.returned v) u (Jvm.fieldLocs frame_1_writes args s ++ Jvm.arrayLocs frame_1_arrays args s ++ Jvm.staticLocs frame_1_statics s) 24 1152 → Post tb e args s (.returned v) u) :
    ArmFor flags0 classFile x code maxLocals ret World_1 tables_1 room_1 Calls_1 rest_1 Pre_1 Post := by
  intro l hfl _ _ p e ha hc hk s m args below hf hA hF happ hP
  obtain ⟨hcalls, hrest, hpre⟩ := hP
  obtain ⟨-, -, -, hnamed, -, -, -, hat⟩ := (Spec.applies_iff hf).mp happ
  obtain ⟨hg, hn⟩ := and_e (Cond.before_iff.mp (show (Jvm.Cond.and given_1 narrow_1).before args s = true from hpre))
  obtain ⟨g16, g17⟩ := and_e hg
  obtain ⟨g18, g19⟩ := and_e g17
  obtain ⟨g20, g21⟩ := and_e g19
  obtain ⟨g22, g23⟩ := and_e g21
  obtain ⟨w0, w1, w2, w3, rfl⟩ : ∃ w0 w1 w2 w3 : Value, args = #[w0, w1, w2, w3] := by
    have hs : args.size = 4 := by simpa [Cond.value, given_1] using g16
    obtain ⟨L⟩ := args
    match L, hs with
    | [w0, w1, w2, w3], _ => exact ⟨w0, w1, w2, w3, rfl⟩
  have hw := fun d (hd : d ∈ tables_1) => atoms_spec (ws := Jvm.Cond.code x code maxLocals ret :: tables_1) hat d (List.mem_cons_of_mem _ hd)
  have hfit : Fit s := fun {y c} hc i hi => by
    obtain ⟨ha, rfl⟩ := Array.getElem?_eq_some_iff.mp hc
    have q := List.all_eq_true.mp ((Array.all_eq_true_iff_forall_mem.mp hF) _ (Array.getElem_mem ha)) i (List.mem_range.mpr hi)
    simpa [Array.getElem?_eq_getElem hi] using q
  obtain ⟨i0, ei0⟩ := is_v g18
  obtain rfl : w0 = (.int i0) := Option.some.inj ei0
  obtain ⟨i1, ei1⟩ := is_v g20
  obtain rfl : w1 = (.int i1) := Option.some.inj ei1
  obtain ⟨i2, ei2⟩ := is_v g22
  obtain rfl : w2 = (.int i2) := Option.some.inj ei2
  obtain ⟨i3, ei3⟩ := is_v g23
  obtain rfl : w3 = (.int i3) := Option.some.inj ei3
  have SP := Sta.start (own_sti hn) (Or.inr ⟨(hw _ (List.mem_of_getElem? (i := 3) rfl)), (hw _ (List.mem_of_getElem? (i := 43) rfl))⟩)
  obtain ⟨n, o, h1, h2, h3, _, L, rfl, ⟨rfl, N⟩, hq⟩ := rm0 l s _ hw tables_1 i0 i1 i2 i3 s.heap s.heap.size (Nat.le_refl _) SP p e ha hc hk s m _ below hf ((Spec.applies_iff_loose hf).mp happ).1 ⟨rfl, State.Warmed39.refl s, rfl⟩ trivial
  refine ⟨n, _, h1, h2, h3, hpost _ _ _ _ _ _ ⟨Cond.after_iff.mpr rfl, Cond.after_iff.mpr (eq_i res_at (Term.int_eval (1)) rfl), trivial⟩ ⟨hq.1, hq.2.1, (hq.2.2.sift fun y hy => Or.inr (N y hy)).mono (by decide) (by decide)⟩⟩
theorem main_1_1 : Claimed_1_1 := comes_1 fun _ _ _ _ _ _ h hF => ⟨h.1, hF⟩
theorem main_1_2 : Claimed_1_2 := comes_1 fun _ _ _ _ _ _ h hF => ⟨h.2.1, hF⟩
end Jvm.Pilot.@@N@@
namespace Jvm.Pilot.@@N@@
open Jvm Jvm.ClassFile Sem Op Lib Jvm.Free Jvm.Stand Jvm.Pilot.@@N@@.Jvm.D
/-! MADE BY PROGRAM (witnessworld.py) out of the Statement's table words and the real class files: 15 classes; the members and pool entries that the words name. The judged class is class 1, her method 1. -/
namespace start1
open Jvm.ClassFile
def u (s : String) : CpInfo := .utf8 (stringToUtf16 s)
/-- a pool by its gaps: so many unusable entries, then the entry; so many at the end -/
def gap : Nat → List CpInfo → List CpInfo
  | 0, r => r
  | n + 1, r => .unusable :: gap n r
def poolList (es : List (Nat × CpInfo)) (last : Nat) : List CpInfo := es.foldr (fun e r => gap e.1 (e.2 :: r)) (gap last [])
def pool (es : List (Nat × CpInfo)) (last : Nat) : Array CpInfo := ⟨poolList es last⟩
def fileOf (pool : Array CpInfo) (this : Nat) (attrs : Array Attribute := #[]) (ms : Array MethodInfo := #[]) (fl : Nat := 33) (sup : Nat := 0) (ifs : Array Nat := #[]) (fds : Array FieldInfo := #[]) : ClassFile where
  minorVersion := 0
  majorVersion := 65
  constantPool := pool
  accessFlags := fl
  thisClass := this
  superClass := sup
  interfaces := ifs
  fields := fds
  methods := ms
  attributes := attrs
def plain (name : String) (sup : Option ClassId) : Class where
  name := name
  kind := .ordinary
  loader := none
  accessFlags := 33
  super := sup
  interfaces := #[]
  cf := none
  fields := #[]
  methods := #[]
  instanceTypes := #[]
  staticTypes := #[]
  resolved := #[]
  callSites := []
  init := .initialized
  statics := none
  mirror := none

def pool0 : Array CpInfo := pool [(5, u "<init>"), (0, u "()V"), (1, .class_ 10), (1, u "java/lang/Object")] 113

def k0c0 : Code := { maxStack := 0, maxLocals := 1, code := object_method_1_code, exceptionTable := #[], attributes := #[] }
def k0m0 : Method := { name := "<init>", desc := "()V", sig := { parameters := [], returnType := none }, accessFlags := 1, code := some k0c0 }
/-- java/lang/Object -/
def k0 : Class := { plain "java/lang/Object" none with
  accessFlags := 33
  interfaces := #[]
  cf := some (fileOf pool0 8 #[] #[{ accessFlags := 1, nameIndex := 5, descriptorIndex := 6, attributes := #[] }] 33 0 #[] #[])
  fields := #[]
  methods := #[k0m0]
  instanceTypes := #[]
  staticTypes := #[]
  resolved := Array.replicate 124 none
  statics := none }

def pool1 : Array CpInfo := pool [(2, .class_ 4), (0, .nameAndType 5 6), (0, u "java/lang/Object"), (0, u "<init>"), (0, u "()V"), (0, .integer 2147483647), (0, .class_ 9), (0, u "com/example/agave_bloom/agavebloom/check/CompactInts"), (0, .methodref 8 3), (0, .methodref 8 12), (0, .nameAndType 13 14), (0, u "makeRoom"), (0, u "(I)V"), (0, .methodref 8 16), (0, .nameAndType 17 14), (0, u "add"), (0, .methodref 8 19), (0, .nameAndType 20 21), (0, u "get"), (0, u "(I)I"), (0, .class_ 23), (0, u "com/example/agave_bloom/agavebloom/check/CompactIntsGetPinLaw"), (2, u "law"), (0, u "(IIII)Z")] 3

def k1m0 : Method := { name := "<init>", desc := "()V", sig := { parameters := [], returnType := none }, accessFlags := 1, code := none }
def k1c1 : Code := { maxStack := 3, maxLocals := 8, code := code, exceptionTable := #[], attributes := #[] }
def k1m1 : Method := { name := "law", desc := "(IIII)Z", sig := { parameters := [.int, .int, .int, .int], returnType := some .boolean }, accessFlags := 9, code := some k1c1 }
/-- com/example/agave_bloom/agavebloom/check/CompactIntsGetPinLaw -/
def k1 : Class := { plain "com/example/agave_bloom/agavebloom/check/CompactIntsGetPinLaw" (some 0) with
  accessFlags := 49
  interfaces := #[]
  cf := some (fileOf pool1 22 #[] #[{ accessFlags := 1, nameIndex := 5, descriptorIndex := 6, attributes := #[] }, { accessFlags := 9, nameIndex := 26, descriptorIndex := 27, attributes := #[] }] 49 2 #[] #[])
  fields := #[]
  methods := #[k1m0, k1m1]
  instanceTypes := #[]
  staticTypes := #[]
  resolved := Array.replicate 31 none
  statics := none }

def pool2 : Array CpInfo := pool [(1, .class_ 2), (0, u "java/lang/Integer"), (0, .methodref 4 5), (0, .class_ 6), (0, .nameAndType 7 8), (0, u "java/lang/Object"), (0, u "<init>"), (0, u "()V"), (0, .class_ 10), (0, u "[B"), (0, .fieldref 12 13), (0, .class_ 14), (0, .nameAndType 15 16), (0, u "com/example/agave_bloom/agavebloom/check/CompactInts"), (0, u "m_aPages"), (0, u "[[B"), (0, .fieldref 12 18), (0, .nameAndType 19 20), (0, u "m_nWidth"), (0, u "I"), (0, .methodref 12 22), (0, .nameAndType 23 24), (0, u "_widest"), (0, u "(I)I"), (0, .fieldref 12 26), (0, .nameAndType 27 20), (0, u "m_nWidest"), (0, .fieldref 12 29), (0, .nameAndType 30 20), (0, u "m_nSize"), (0, .fieldref 12 32), (0, .nameAndType 33 20), (0, u "PAGE_SHIFT"), (0, .integer 65535), (0, .fieldref 12 36), (0, .nameAndType 37 20), (0, u "m_nRoom"), (9, .integer 2147483647), (5, .methodref 12 54), (0, .nameAndType 55 24), (0, u "_width"), (0, .methodref 12 57), (0, .nameAndType 58 59), (0, u "_widened"), (0, u "(I)[[B"), (7, .integer 65536), (3, .long 2147483647), (1, .long 65536), (1, .methodref 76 77), (0, .class_ 78), (0, .nameAndType 79 80), (0, u "java/lang/Math"), (0, u "min"), (0, u "(JJ)J"), (1, .methodref 12 83), (0, .nameAndType 84 85), (0, u "_put"), (0, u "([BIII)V"), (0, .methodref 1 87), (0, .nameAndType 88 24), (0, u "numberOfLeadingZeros"), (0, .methodref 76 90), (0, .nameAndType 91 92), (0, u "max"), (0, u "(II)I"), (0, .methodref 12 94), (0, .nameAndType 95 24), (0, u "get"), (3, u "MOST"), (1, u "PAGE_VALUES"), (0, u "FIRST_VALUES"), (6, u "makeRoom"), (0, u "(I)V"), (0, u "add")] 20

def k2c0 : Code := { maxStack := 2, maxLocals := 1, code := prog_4_method_1_code, exceptionTable := #[], attributes := #[] }
def k2m0 : Method := { name := "<init>", desc := "()V", sig := { parameters := [], returnType := none }, accessFlags := 0, code := some k2c0 }
def k2c1 : Code := { maxStack := 4, maxLocals := 4, code := prog_4_method_3_code, exceptionTable := #[], attributes := #[] }
def k2m1 : Method := { name := "get", desc := "(I)I", sig := { parameters := [.int], returnType := some .int }, accessFlags := 0, code := some k2c1 }
def k2c2 : Code := { maxStack := 7, maxLocals := 5, code := prog_4_method_4_code, exceptionTable := #[], attributes := #[] }
def k2m2 : Method := { name := "makeRoom", desc := "(I)V", sig := { parameters := [.int], returnType := none }, accessFlags := 0, code := some k2c2 }
def k2c3 : Code := { maxStack := 4, maxLocals := 2, code := prog_4_method_5_code, exceptionTable := #[], attributes := #[] }
def k2m3 : Method := { name := "add", desc := "(I)V", sig := { parameters := [.int], returnType := none }, accessFlags := 0, code := some k2c3 }
def k2c4 : Code := { maxStack := 3, maxLocals := 1, code := prog_4_method_6_code, exceptionTable := #[], attributes := #[] }
def k2m4 : Method := { name := "_width", desc := "(I)I", sig := { parameters := [.int], returnType := some .int }, accessFlags := 10, code := some k2c4 }
def k2c5 : Code := { maxStack := 3, maxLocals := 1, code := prog_4_method_7_code, exceptionTable := #[], attributes := #[] }
def k2m5 : Method := { name := "_widest", desc := "(I)I", sig := { parameters := [.int], returnType := some .int }, accessFlags := 10, code := some k2c5 }
def k2c6 : Code := { maxStack := 4, maxLocals := 4, code := prog_4_method_8_code, exceptionTable := #[], attributes := #[] }
def k2m6 : Method := { name := "_put", desc := "([BIII)V", sig := { parameters := [(.array .byte), .int, .int, .int], returnType := none }, accessFlags := 10, code := some k2c6 }
def k2c7 : Code := { maxStack := 5, maxLocals := 4, code := prog_4_method_9_code, exceptionTable := #[], attributes := #[] }
def k2m7 : Method := { name := "_widened", desc := "(I)[[B", sig := { parameters := [.int], returnType := some (.array (.array .byte)) }, accessFlags := 2, code := some k2c7 }
/-- com/example/agave_bloom/agavebloom/check/CompactInts -/
def k2 : Class := { plain "com/example/agave_bloom/agavebloom/check/CompactInts" (some 0) with
  accessFlags := 48
  interfaces := #[]
  cf := some (fileOf pool2 12 #[] #[{ accessFlags := 0, nameIndex := 7, descriptorIndex := 8, attributes := #[] }, { accessFlags := 0, nameIndex := 95, descriptorIndex := 24, attributes := #[] }, { accessFlags := 0, nameIndex := 109, descriptorIndex := 110, attributes := #[] }, { accessFlags := 0, nameIndex := 111, descriptorIndex := 110, attributes := #[] }, { accessFlags := 10, nameIndex := 55, descriptorIndex := 24, attributes := #[] }, { accessFlags := 10, nameIndex := 23, descriptorIndex := 24, attributes := #[] }, { accessFlags := 10, nameIndex := 84, descriptorIndex := 85, attributes := #[] }, { accessFlags := 2, nameIndex := 58, descriptorIndex := 59, attributes := #[] }] 48 4 #[] #[{ accessFlags := 24, nameIndex := 99, descriptorIndex := 20, attributes := #[] }, { accessFlags := 26, nameIndex := 101, descriptorIndex := 20, attributes := #[] }, { accessFlags := 26, nameIndex := 102, descriptorIndex := 20, attributes := #[] }, { accessFlags := 26, nameIndex := 33, descriptorIndex := 20, attributes := #[] }, { accessFlags := 2, nameIndex := 15, descriptorIndex := 16, attributes := #[] }, { accessFlags := 2, nameIndex := 19, descriptorIndex := 20, attributes := #[] }, { accessFlags := 2, nameIndex := 27, descriptorIndex := 20, attributes := #[] }, { accessFlags := 2, nameIndex := 30, descriptorIndex := 20, attributes := #[] }, { accessFlags := 2, nameIndex := 37, descriptorIndex := 20, attributes := #[] }])
  fields := #[{ name := "MOST", type := .int, accessFlags := 24, slot := 0, constantValue := 0 }, { name := "PAGE_VALUES", type := .int, accessFlags := 26, slot := 1, constantValue := 0 }, { name := "FIRST_VALUES", type := .int, accessFlags := 26, slot := 2, constantValue := 0 }, { name := "PAGE_SHIFT", type := .int, accessFlags := 26, slot := 3, constantValue := 0 }, { name := "m_aPages", type := (.array (.array .byte)), accessFlags := 2, slot := 0, constantValue := 0 }, { name := "m_nWidth", type := .int, accessFlags := 2, slot := 1, constantValue := 0 }, { name := "m_nWidest", type := .int, accessFlags := 2, slot := 2, constantValue := 0 }, { name := "m_nSize", type := .int, accessFlags := 2, slot := 3, constantValue := 0 }, { name := "m_nRoom", type := .int, accessFlags := 2, slot := 4, constantValue := 0 }]
  methods := #[k2m0, k2m1, k2m2, k2m3, k2m4, k2m5, k2m6, k2m7]
  instanceTypes := #[(.array (.array .byte)), .int, .int, .int, .int]
  staticTypes := #[.int, .int, .int, .int]
  resolved := Array.replicate 132 none
  statics := some 0 }

def pool3 : Array CpInfo := pool [(1, .class_ 2), (0, u "java/io/Serializable"), (0, .class_ 4), (0, u "java/lang/Object")] 2

/-- java/io/Serializable -/
def k3 : Class := { plain "java/io/Serializable" (some 0) with
  accessFlags := 1537
  interfaces := #[]
  cf := some (fileOf pool3 1 #[] #[] 1537 3 #[] #[])
  fields := #[]
  methods := #[]
  instanceTypes := #[]
  staticTypes := #[]
  resolved := Array.replicate 7 none
  statics := none }

def pool4 : Array CpInfo := pool [(2, .class_ 4), (1, u "java/lang/Object"), (0, u "<init>"), (0, u "()V"), (1, .class_ 10), (1, u "java/lang/Number"), (2, .class_ 14), (0, u "java/io/Serializable"), (0, u "serialVersionUID"), (0, u "J")] 20

def k4m0 : Method := { name := "<init>", desc := "()V", sig := { parameters := [], returnType := none }, accessFlags := 1, code := none }
/-- java/lang/Number -/
def k4 : Class := { plain "java/lang/Number" (some 0) with
  accessFlags := 1057
  interfaces := #[3]
  cf := some (fileOf pool4 8 #[] #[{ accessFlags := 1, nameIndex := 5, descriptorIndex := 6, attributes := #[] }] 1057 2 #[13] #[{ accessFlags := 26, nameIndex := 15, descriptorIndex := 16, attributes := #[] }])
  fields := #[{ name := "serialVersionUID", type := .long, accessFlags := 26, slot := 0, constantValue := 0 }]
  methods := #[k4m0]
  instanceTypes := #[]
  staticTypes := #[.long]
  resolved := Array.replicate 37 none
  statics := none }

def pool5 : Array CpInfo := pool [(1, .class_ 2), (0, u "java/lang/Comparable"), (0, .class_ 4), (0, u "java/lang/Object")] 7

/-- java/lang/Comparable -/
def k5 : Class := { plain "java/lang/Comparable" (some 0) with
  accessFlags := 1537
  interfaces := #[]
  cf := some (fileOf pool5 1 #[] #[] 1537 3 #[] #[])
  fields := #[]
  methods := #[]
  instanceTypes := #[]
  staticTypes := #[]
  resolved := Array.replicate 12 none
  statics := none }

def pool6 : Array CpInfo := pool [(1, .class_ 2), (0, u "java/lang/constant/Constable"), (0, .class_ 4), (0, u "java/lang/Object")] 6

/-- java/lang/constant/Constable -/
def k6 : Class := { plain "java/lang/constant/Constable" (some 0) with
  accessFlags := 1537
  interfaces := #[]
  cf := some (fileOf pool6 1 #[] #[] 1537 3 #[] #[])
  fields := #[]
  methods := #[]
  instanceTypes := #[]
  staticTypes := #[]
  resolved := Array.replicate 11 none
  statics := none }

def pool7 : Array CpInfo := pool [(1, .class_ 2), (0, u "java/lang/constant/ConstantDesc"), (0, .class_ 4), (0, u "java/lang/Object")] 32

/-- java/lang/constant/ConstantDesc -/
def k7 : Class := { plain "java/lang/constant/ConstantDesc" (some 0) with
  accessFlags := 1537
  interfaces := #[]
  cf := some (fileOf pool7 1 #[] #[] 1537 3 #[] #[])
  fields := #[]
  methods := #[]
  instanceTypes := #[]
  staticTypes := #[]
  resolved := Array.replicate 37 none
  statics := none }

def pool8 : Array CpInfo := pool [(1, .class_ 2), (0, u "java/lang/Integer"), (16, u "digits"), (0, u "[C"), (32, u "numberOfLeadingZeros"), (0, u "(I)I"), (30, u "DigitOnes"), (0, u "[B"), (2, u "DigitTens"), (99, .class_ 190), (0, u "java/lang/Integer$IntegerCache"), (3, u "I"), (8, .class_ 204), (0, u "java/lang/Number"), (2, u "value"), (56, .integer 65536), (37, u "TYPE"), (0, u "Ljava/lang/Class;"), (0, .class_ 305), (0, u "java/lang/Comparable"), (0, .class_ 307), (0, u "java/lang/constant/Constable"), (0, .class_ 309), (0, u "java/lang/constant/ConstantDesc"), (0, u "MIN_VALUE"), (1, u "MAX_VALUE"), (3, u "SIZE"), (1, u "BYTES"), (1, u "serialVersionUID"), (0, u "J")] 131

def k8c0 : Code := { maxStack := 3, maxLocals := 2, code := jdk_33_method_47_code, exceptionTable := #[], attributes := #[] }
def k8m0 : Method := { name := "numberOfLeadingZeros", desc := "(I)I", sig := { parameters := [.int], returnType := some .int }, accessFlags := 9, code := some k8c0 }
/-- java/lang/Integer -/
def k8 : Class := { plain "java/lang/Integer" (some 4) with
  accessFlags := 49
  interfaces := #[5, 6, 7]
  cf := some (fileOf pool8 1 #[.nestMembers #[189]] #[{ accessFlags := 9, nameIndex := 53, descriptorIndex := 54, attributes := #[] }] 49 203 #[304, 306, 308] #[{ accessFlags := 25, nameIndex := 310, descriptorIndex := 194, attributes := #[] }, { accessFlags := 25, nameIndex := 312, descriptorIndex := 194, attributes := #[] }, { accessFlags := 25, nameIndex := 302, descriptorIndex := 303, attributes := #[] }, { accessFlags := 24, nameIndex := 19, descriptorIndex := 20, attributes := #[] }, { accessFlags := 24, nameIndex := 89, descriptorIndex := 86, attributes := #[] }, { accessFlags := 24, nameIndex := 85, descriptorIndex := 86, attributes := #[] }, { accessFlags := 18, nameIndex := 207, descriptorIndex := 194, attributes := #[] }, { accessFlags := 25, nameIndex := 316, descriptorIndex := 194, attributes := #[] }, { accessFlags := 25, nameIndex := 318, descriptorIndex := 194, attributes := #[] }, { accessFlags := 26, nameIndex := 320, descriptorIndex := 321, attributes := #[] }])
  fields := #[{ name := "MIN_VALUE", type := .int, accessFlags := 25, slot := 0, constantValue := 0 }, { name := "MAX_VALUE", type := .int, accessFlags := 25, slot := 1, constantValue := 0 }, { name := "TYPE", type := (.object "java/lang/Class"), accessFlags := 25, slot := 2, constantValue := 0 }, { name := "digits", type := (.array .char), accessFlags := 24, slot := 3, constantValue := 0 }, { name := "DigitTens", type := (.array .byte), accessFlags := 24, slot := 4, constantValue := 0 }, { name := "DigitOnes", type := (.array .byte), accessFlags := 24, slot := 5, constantValue := 0 }, { name := "value", type := .int, accessFlags := 18, slot := 0, constantValue := 0 }, { name := "SIZE", type := .int, accessFlags := 25, slot := 6, constantValue := 0 }, { name := "BYTES", type := .int, accessFlags := 25, slot := 7, constantValue := 0 }, { name := "serialVersionUID", type := .long, accessFlags := 26, slot := 8, constantValue := 0 }]
  methods := #[k8m0]
  instanceTypes := #[.int]
  staticTypes := #[.int, .int, (.object "java/lang/Class"), (.array .char), (.array .byte), (.array .byte), .int, .int, .long]
  resolved := Array.replicate 453 none
  statics := none }

def pool9 : Array CpInfo := pool [(1, .class_ 2), (0, u "java/lang/Math"), (1, .class_ 6), (1, u "java/lang/Object"), (0, u "<init>"), (0, u "()V"), (89, .class_ 100), (1, u "java/lang/Math$RandomNumberGeneratorHolder"), (20, u "(JJ)J"), (50, u "negativeZeroFloatBits"), (0, u "J"), (2, u "negativeZeroDoubleBits"), (21, u "max"), (2, u "min"), (43, u "$assertionsDisabled"), (0, u "Z"), (88, u "(II)I"), (2, u "twoToTheDoubleScaleDown"), (0, u "D"), (4, u "twoToTheDoubleScaleUp"), (9, u "E"), (3, u "PI"), (2, u "TAU"), (2, u "DEGREES_TO_RADIANS"), (0, u "RADIANS_TO_DEGREES")] 94

def k9m0 : Method := { name := "<init>", desc := "()V", sig := { parameters := [], returnType := none }, accessFlags := 2, code := none }
def k9c1 : Code := { maxStack := 2, maxLocals := 2, code := jdk_29_method_65_code, exceptionTable := #[], attributes := #[] }
def k9m1 : Method := { name := "max", desc := "(II)I", sig := { parameters := [.int, .int], returnType := some .int }, accessFlags := 9, code := some k9c1 }
def k9c2 : Code := { maxStack := 4, maxLocals := 4, code := jdk_29_method_70_code, exceptionTable := #[], attributes := #[] }
def k9m2 : Method := { name := "min", desc := "(JJ)J", sig := { parameters := [.long, .long], returnType := some .long }, accessFlags := 9, code := some k9c2 }
/-- java/lang/Math -/
def k9 : Class := { plain "java/lang/Math" (some 0) with
  accessFlags := 49
  interfaces := #[]
  cf := some (fileOf pool9 1 #[.nestMembers #[98]] #[{ accessFlags := 2, nameIndex := 7, descriptorIndex := 8, attributes := #[] }, { accessFlags := 9, nameIndex := 198, descriptorIndex := 335, attributes := #[] }, { accessFlags := 9, nameIndex := 201, descriptorIndex := 121, attributes := #[] }] 49 4 #[] #[{ accessFlags := 25, nameIndex := 354, descriptorIndex := 339, attributes := #[] }, { accessFlags := 25, nameIndex := 358, descriptorIndex := 339, attributes := #[] }, { accessFlags := 25, nameIndex := 361, descriptorIndex := 339, attributes := #[] }, { accessFlags := 26, nameIndex := 364, descriptorIndex := 339, attributes := #[] }, { accessFlags := 26, nameIndex := 365, descriptorIndex := 339, attributes := #[] }, { accessFlags := 26, nameIndex := 172, descriptorIndex := 173, attributes := #[] }, { accessFlags := 26, nameIndex := 176, descriptorIndex := 173, attributes := #[] }, { accessFlags := 8, nameIndex := 344, descriptorIndex := 339, attributes := #[] }, { accessFlags := 8, nameIndex := 338, descriptorIndex := 339, attributes := #[] }, { accessFlags := 4120, nameIndex := 245, descriptorIndex := 246, attributes := #[] }])
  fields := #[{ name := "E", type := .double, accessFlags := 25, slot := 0, constantValue := 0 }, { name := "PI", type := .double, accessFlags := 25, slot := 1, constantValue := 0 }, { name := "TAU", type := .double, accessFlags := 25, slot := 2, constantValue := 0 }, { name := "DEGREES_TO_RADIANS", type := .double, accessFlags := 26, slot := 3, constantValue := 0 }, { name := "RADIANS_TO_DEGREES", type := .double, accessFlags := 26, slot := 4, constantValue := 0 }, { name := "negativeZeroFloatBits", type := .long, accessFlags := 26, slot := 5, constantValue := 0 }, { name := "negativeZeroDoubleBits", type := .long, accessFlags := 26, slot := 6, constantValue := 0 }, { name := "twoToTheDoubleScaleUp", type := .double, accessFlags := 8, slot := 7, constantValue := 0 }, { name := "twoToTheDoubleScaleDown", type := .double, accessFlags := 8, slot := 8, constantValue := 0 }, { name := "$assertionsDisabled", type := .boolean, accessFlags := 4120, slot := 9, constantValue := 0 }]
  methods := #[k9m0, k9m1, k9m2]
  instanceTypes := #[]
  staticTypes := #[.double, .double, .double, .double, .double, .long, .long, .double, .double, .boolean]
  resolved := Array.replicate 460 none
  statics := none }

def pool10 : Array CpInfo := pool [(1, u "java/lang/Cloneable"), (0, .class_ 1), (0, u "java/lang/Object"), (0, .class_ 3)] 3

/-- java/lang/Cloneable -/
def k10 : Class := { plain "java/lang/Cloneable" (some 0) with
  accessFlags := 1537
  interfaces := #[]
  cf := some (fileOf pool10 2 #[] #[] 1537 4 #[] #[])
  fields := #[]
  methods := #[]
  instanceTypes := #[]
  staticTypes := #[]
  resolved := Array.replicate 8 none
  statics := none }

/-- the primitive byte -/
def k11 : Class := { plain "byte" none with kind := .primitive 'B', accessFlags := 0x411 }
/-- [B -/
def k12 : Class := { plain "[B" (some 0) with kind := .array 11 .byte, interfaces := #[10, 3], accessFlags := 1041 }

/-- the primitive int -/
def k13 : Class := { plain "int" none with kind := .primitive 'I', accessFlags := 0x411 }
/-- [I -/
def k14 : Class := { plain "[I" (some 0) with kind := .array 13 .int, interfaces := #[10, 3], accessFlags := 1041 }

/-- [[B -/
def k15 : Class := { plain "[[B" (some 0) with kind := .array 12 (.array .byte), interfaces := #[10, 3], accessFlags := 1041 }
def heap : Heap := #[{ cls := 2, slots := #[.int 0, .int 0, .int 0, .int 16], vm := .statics 2 }]
def classes : Array Class := #[k0, k1, k2, k3, k4, k5, k6, k7, k8, k9, k10, k11, k12, k13, k14, k15]
def interned : List (Array UInt16 × Addr) := []
def slotsUsed : Nat := 4
def theMethod : MethodId := ⟨1, 1⟩
def args0 : Array Value := #[.int 300, .int 7, .int 70000, .int 3]
def aboutOver (below : List Frame) : State where
  vm := { classes := classes, interned := interned.toArray }
  heap := heap
  slotsUsed := slotsUsed
  threads := #[{ frames := .invoking theMethod args0 :: below }]
def below0 : List Frame := [.native { method := ⟨0, 0⟩, args := #[] }]
def about1 : State := aboutOver below0
def p0 : Program := .bare "" "" ""
def e0 : Env := launch0.env 0 0 0
theorem w_frames : about1.frames = Frame.invoking theMethod args0 :: below0 := rfl
set_option maxRecDepth 65536 in
theorem w_args : argsFit about1.vm theMethod args0 = true := by decide +kernel
set_option maxRecDepth 65536 in
theorem w_heap : heapFits about1 = true := by decide +kernel
set_option maxRecDepth 65536 in
theorem w_runnable : about1.curStatus? = some .runnable := by decide +kernel
set_option maxRecDepth 65536 in
theorem w_alone : about1.alone = true := by decide +kernel
set_option maxRecDepth 65536 in
theorem w_named : about1.methodNamed? x = some theMethod := by decide +kernel
set_option maxRecDepth 65536 in
theorem w_hears : about1.hears theMethod below0 = true := by decide +kernel
set_option maxRecDepth 65536 in
theorem w_ripe : about1.ripe theMethod args0 below0 = true := by decide +kernel
theorem w_running : about1.status = .running := rfl
set_option maxRecDepth 65536 in
theorem w_room : about1.hasRoom e0.platform room_1 = true :=
  launch0.hasRoom_least _ room_1 (by decide +kernel) (by decide +kernel) (by decide +kernel) (by decide +kernel) (by decide +kernel) (by decide +kernel)
theorem allAtoms_all (ts : List Jvm.Cond) (a : Array Jvm.Value) (st : Jvm.State) : (allAtoms ts).before a st = ts.all (fun c => c.before a st) := by
  induction ts with
  | nil => rfl
  | cons c t ih =>
    show (Jvm.Cond.and c (allAtoms t)).before a st = _
    rw [Jvm.Cond.before_and, ih, List.all_cons]
def words1 : List Jvm.Cond := Jvm.Cond.code x code maxLocals ret :: tables_1
/-- a 'code' word, met by the world's own term for the bytes: nothing is compared byte by byte -/
theorem code_word {y : MethodName} {bytes : ByteArray} {mx : Nat} {rt : Option FieldType} {a : Array Value} {s : State} {m : MethodId} {meth : Method} {c : Code} (h1 : s.methodNamed? y = some m) (h2 : s.vm.method? m = some meth) (h3 : meth.code = some c) (h4 : c.code = bytes)
    (h5 : (c.maxLocals == mx && c.exceptionTable.isEmpty && decide (c.maxStack ≤ mostOperands) && decide (meth.sig.returnType = rt) && !meth.locks && decide (parseMethodDescriptor y.desc = some meth.sig)) = true) : (Jvm.Cond.code y bytes mx rt).before a s = true := by
  simp only [Bool.and_eq_true, beq_iff_eq, Bool.not_eq_true', decide_eq_true_eq] at h5
  obtain ⟨⟨⟨⟨⟨g1, g2⟩, g3⟩, g4⟩, g5⟩, g6⟩ := h5
  simp [Cond.before, Cond.holds, Cond.value, h1, h2, h3, h4, g1, g2, g3, g4, g5, g6]
def isCode : Jvm.Cond → Bool
  | .code _ _ _ _ => true
  | _ => false
theorem all_split {L : List Jvm.Cond} {P : Jvm.Cond → Bool} (h1 : L.all (fun c => isCode c || P c) = true) (h2 : ∀ c ∈ L.filter isCode, P c = true) : L.all P = true := by
  refine List.all_eq_true.mpr fun c hc => ?_
  have h := List.all_eq_true.mp h1 c hc
  rcases Bool.eq_false_or_eq_true (isCode c) with hi | hi
  · exact h2 c (List.mem_filter.mpr ⟨hc, hi⟩)
  · simpa [hi] using h
set_option maxRecDepth 65536 in
theorem w_c0 : (Jvm.Cond.code x code maxLocals ret).before args0 about1 = true := code_word (m := ⟨1, 1⟩) (meth := k1m1) (c := k1c1) (by decide +kernel) rfl rfl rfl (by decide +kernel)
set_option maxRecDepth 65536 in
theorem w_c1 : (Jvm.Cond.code ({ cls := "com/example/agave_bloom/agavebloom/check/CompactInts", name := "<init>", desc := "()V" } : Jvm.MethodName) prog_4_method_1_code (1 : Nat) (Option.none : Option Jvm.ClassFile.FieldType)).before args0 about1 = true := code_word (m := ⟨2, 0⟩) (meth := k2m0) (c := k2c0) (by decide +kernel) rfl rfl rfl (by decide +kernel)
set_option maxRecDepth 65536 in
theorem w_c2 : (Jvm.Cond.code ({ cls := "java/lang/Object", name := "<init>", desc := "()V" } : Jvm.MethodName) object_method_1_code (1 : Nat) (Option.none : Option Jvm.ClassFile.FieldType)).before args0 about1 = true := code_word (m := ⟨0, 0⟩) (meth := k0m0) (c := k0c0) (by decide +kernel) rfl rfl rfl (by decide +kernel)
set_option maxRecDepth 65536 in
theorem w_c3 : (Jvm.Cond.code ({ cls := "com/example/agave_bloom/agavebloom/check/CompactInts", name := "_widest", desc := "(I)I" } : Jvm.MethodName) prog_4_method_7_code (1 : Nat) (Option.some Jvm.ClassFile.FieldType.int)).before args0 about1 = true := code_word (m := ⟨2, 5⟩) (meth := k2m5) (c := k2c5) (by decide +kernel) rfl rfl rfl (by decide +kernel)
set_option maxRecDepth 65536 in
theorem w_c4 : (Jvm.Cond.code ({ cls := "com/example/agave_bloom/agavebloom/check/CompactInts", name := "makeRoom", desc := "(I)V" } : Jvm.MethodName) prog_4_method_4_code (5 : Nat) (Option.none : Option Jvm.ClassFile.FieldType)).before args0 about1 = true := code_word (m := ⟨2, 2⟩) (meth := k2m2) (c := k2c2) (by decide +kernel) rfl rfl rfl (by decide +kernel)
set_option maxRecDepth 65536 in
theorem w_c5 : (Jvm.Cond.code ({ cls := "com/example/agave_bloom/agavebloom/check/CompactInts", name := "_width", desc := "(I)I" } : Jvm.MethodName) prog_4_method_6_code (1 : Nat) (Option.some Jvm.ClassFile.FieldType.int)).before args0 about1 = true := code_word (m := ⟨2, 4⟩) (meth := k2m4) (c := k2c4) (by decide +kernel) rfl rfl rfl (by decide +kernel)
set_option maxRecDepth 65536 in
theorem w_c6 : (Jvm.Cond.code ({ cls := "java/lang/Integer", name := "numberOfLeadingZeros", desc := "(I)I" } : Jvm.MethodName) jdk_33_method_47_code (2 : Nat) (Option.some Jvm.ClassFile.FieldType.int)).before args0 about1 = true := code_word (m := ⟨8, 0⟩) (meth := k8m0) (c := k8c0) (by decide +kernel) rfl rfl rfl (by decide +kernel)
set_option maxRecDepth 65536 in
theorem w_c7 : (Jvm.Cond.code ({ cls := "java/lang/Math", name := "max", desc := "(II)I" } : Jvm.MethodName) jdk_29_method_65_code (2 : Nat) (Option.some Jvm.ClassFile.FieldType.int)).before args0 about1 = true := code_word (m := ⟨9, 1⟩) (meth := k9m1) (c := k9c1) (by decide +kernel) rfl rfl rfl (by decide +kernel)
set_option maxRecDepth 65536 in
theorem w_c8 : (Jvm.Cond.code ({ cls := "java/lang/Math", name := "min", desc := "(JJ)J" } : Jvm.MethodName) jdk_29_method_70_code (4 : Nat) (Option.some Jvm.ClassFile.FieldType.long)).before args0 about1 = true := code_word (m := ⟨9, 2⟩) (meth := k9m2) (c := k9c2) (by decide +kernel) rfl rfl rfl (by decide +kernel)
set_option maxRecDepth 65536 in
theorem w_c9 : (Jvm.Cond.code ({ cls := "com/example/agave_bloom/agavebloom/check/CompactInts", name := "add", desc := "(I)V" } : Jvm.MethodName) prog_4_method_5_code (2 : Nat) (Option.none : Option Jvm.ClassFile.FieldType)).before args0 about1 = true := code_word (m := ⟨2, 3⟩) (meth := k2m3) (c := k2c3) (by decide +kernel) rfl rfl rfl (by decide +kernel)
set_option maxRecDepth 65536 in
theorem w_c10 : (Jvm.Cond.code ({ cls := "com/example/agave_bloom/agavebloom/check/CompactInts", name := "_put", desc := "([BIII)V" } : Jvm.MethodName) prog_4_method_8_code (4 : Nat) (Option.none : Option Jvm.ClassFile.FieldType)).before args0 about1 = true := code_word (m := ⟨2, 6⟩) (meth := k2m6) (c := k2c6) (by decide +kernel) rfl rfl rfl (by decide +kernel)
set_option maxRecDepth 65536 in
theorem w_c11 : (Jvm.Cond.code ({ cls := "com/example/agave_bloom/agavebloom/check/CompactInts", name := "get", desc := "(I)I" } : Jvm.MethodName) prog_4_method_3_code (4 : Nat) (Option.some Jvm.ClassFile.FieldType.int)).before args0 about1 = true := code_word (m := ⟨2, 1⟩) (meth := k2m1) (c := k2c1) (by decide +kernel) rfl rfl rfl (by decide +kernel)
set_option maxRecDepth 65536 in
theorem w_c12 : (Jvm.Cond.code ({ cls := "com/example/agave_bloom/agavebloom/check/CompactInts", name := "_widened", desc := "(I)[[B" } : Jvm.MethodName) prog_4_method_9_code (4 : Nat) (Option.some (Jvm.ClassFile.FieldType.array (Jvm.ClassFile.FieldType.array Jvm.ClassFile.FieldType.byte)))).before args0 about1 = true := code_word (m := ⟨2, 7⟩) (meth := k2m7) (c := k2c7) (by decide +kernel) rfl rfl rfl (by decide +kernel)
def codes1 : List Jvm.Cond := [Jvm.Cond.code x code maxLocals ret, Jvm.Cond.code ({ cls := "com/example/agave_bloom/agavebloom/check/CompactInts", name := "<init>", desc := "()V" } : Jvm.MethodName) prog_4_method_1_code (1 : Nat) (Option.none : Option Jvm.ClassFile.FieldType), Jvm.Cond.code ({ cls := "java/lang/Object", name := "<init>", desc := "()V" } : Jvm.MethodName) object_method_1_code (1 : Nat) (Option.none : Option Jvm.ClassFile.FieldType), Jvm.Cond.code ({ cls := "com/example/agave_bloom/agavebloom/check/CompactInts", name := "_widest", desc := "(I)I" } : Jvm.MethodName) prog_4_method_7_code (1 : Nat) (Option.some Jvm.ClassFile.FieldType.int), Jvm.Cond.code ({ cls := "com/example/agave_bloom/agavebloom/check/CompactInts", name := "makeRoom", desc := "(I)V" } : Jvm.MethodName) prog_4_method_4_code (5 : Nat) (Option.none : Option Jvm.ClassFile.FieldType), Jvm.Cond.code ({ cls := "com/example/agave_bloom/agavebloom/check/CompactInts", name := "_width", desc := "(I)I" } : Jvm.MethodName) prog_4_method_6_code (1 : Nat) (Option.some Jvm.ClassFile.FieldType.int), Jvm.Cond.code ({ cls := "java/lang/Integer", name := "numberOfLeadingZeros", desc := "(I)I" } : Jvm.MethodName) jdk_33_method_47_code (2 : Nat) (Option.some Jvm.ClassFile.FieldType.int), Jvm.Cond.code ({ cls := "java/lang/Math", name := "max", desc := "(II)I" } : Jvm.MethodName) jdk_29_method_65_code (2 : Nat) (Option.some Jvm.ClassFile.FieldType.int), Jvm.Cond.code ({ cls := "java/lang/Math", name := "min", desc := "(JJ)J" } : Jvm.MethodName) jdk_29_method_70_code (4 : Nat) (Option.some Jvm.ClassFile.FieldType.long), Jvm.Cond.code ({ cls := "com/example/agave_bloom/agavebloom/check/CompactInts", name := "add", desc := "(I)V" } : Jvm.MethodName) prog_4_method_5_code (2 : Nat) (Option.none : Option Jvm.ClassFile.FieldType), Jvm.Cond.code ({ cls := "com/example/agave_bloom/agavebloom/check/CompactInts", name := "_put", desc := "([BIII)V" } : Jvm.MethodName) prog_4_method_8_code (4 : Nat) (Option.none : Option Jvm.ClassFile.FieldType), Jvm.Cond.code ({ cls := "com/example/agave_bloom/agavebloom/check/CompactInts", name := "get", desc := "(I)I" } : Jvm.MethodName) prog_4_method_3_code (4 : Nat) (Option.some Jvm.ClassFile.FieldType.int), Jvm.Cond.code ({ cls := "com/example/agave_bloom/agavebloom/check/CompactInts", name := "_widened", desc := "(I)[[B" } : Jvm.MethodName) prog_4_method_9_code (4 : Nat) (Option.some (Jvm.ClassFile.FieldType.array (Jvm.ClassFile.FieldType.array Jvm.ClassFile.FieldType.byte)))]
set_option maxRecDepth 65536 in
theorem codes_eq : words1.filter isCode = codes1 := rfl
theorem w_codes : ∀ c ∈ words1.filter isCode, c.before args0 about1 = true := by
  rw [codes_eq]
  intro c hc
  simp only [codes1, List.mem_cons, List.not_mem_nil, or_false] at hc
  rcases hc with rfl | rfl | rfl | rfl | rfl | rfl | rfl | rfl | rfl | rfl | rfl | rfl | rfl
  · exact w_c0
  · exact w_c1
  · exact w_c2
  · exact w_c3
  · exact w_c4
  · exact w_c5
  · exact w_c6
  · exact w_c7
  · exact w_c8
  · exact w_c9
  · exact w_c10
  · exact w_c11
  · exact w_c12
set_option maxRecDepth 65536 in
theorem w_t1 : (words1.take 24).all (fun c => isCode c || c.before args0 about1) = true := by decide +kernel
set_option maxRecDepth 65536 in
theorem w_t2 : ((words1.drop 24).take 24).all (fun c => isCode c || c.before args0 about1) = true := by decide +kernel
set_option maxRecDepth 65536 in
theorem w_t3 : (((words1.drop 24).drop 24).take 24).all (fun c => isCode c || c.before args0 about1) = true := by decide +kernel
set_option maxRecDepth 65536 in
theorem w_t4 : (((words1.drop 24).drop 24).drop 24).all (fun c => isCode c || c.before args0 about1) = true := by decide +kernel
theorem w_tables : (allAtoms (Jvm.Cond.code x code maxLocals ret :: tables_1)).before args0 about1 = true := by
  rw [allAtoms_all]
  show words1.all (fun c => c.before args0 about1) = true
  refine all_split ?_ w_codes
  rw [← List.take_append_drop 24 words1, List.all_append, w_t1, ← List.take_append_drop 24 (words1.drop 24), List.all_append, w_t2, ← List.take_append_drop 24 ((words1.drop 24).drop 24), List.all_append, w_t3, w_t4]
  rfl
set_option maxRecDepth 65536 in
theorem w_case : (Jvm.Cond.and given_1 narrow_1).before args0 about1 = true := by decide +kernel
theorem w_applies : (headSpec (Jvm.Cond.code x code maxLocals ret :: tables_1) room_1).applies x e0.platform about1 = true :=
  (Spec.applies_iff w_frames).mpr ⟨w_running, w_runnable, w_alone, w_named, w_hears, w_ripe, w_room, w_tables⟩
theorem atStart : AtStart classFile x code maxLocals ret World_1 tables_1 room_1 Calls_1 rest_1 Pre_1 launch0 p0 e0 about1 theMethod args0 below0 :=
  ⟨lists_1, trivial, launch0.admits_env _ _ _, launch0.least_env, fairChoices_fair.cas, fairChoices_fair.clock, w_frames, w_args, w_heap, w_applies, trivial, trivial, w_case⟩
end start1
theorem witness_1 : WitnessClaimed_1 := ⟨start1.p0, start1.e0, start1.about1, start1.theMethod, start1.args0, start1.below0, start1.atStart⟩
end Jvm.Pilot.@@N@@
