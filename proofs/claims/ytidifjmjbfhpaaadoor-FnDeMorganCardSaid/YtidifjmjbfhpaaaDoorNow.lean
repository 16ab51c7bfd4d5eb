/- impl.Bits, spec.In, spec.Plus, spec.Small, spec.Is: contracts in the world of the call; what stays over a store into a block of a call's own. -/
import Derived.Test.YtidifjmjbfhpaaaDoorFnBitsWalk
import Derived.Test.YtidifjmjbfhpaaaDoorPlus
namespace Go.Proofs.YtidifjmjbfhpaaaDoor
set_option linter.unusedVariables false
set_option maxRecDepth 20000
set_option linter.unusedSimpArgs false
open Go.RowKit

/-- The words of a Number lie here. -/
def NumAt (w : World) (R : Bool × Nat) (a : Option Addr) (c : Nat) : Prop := nlen BW R.2 ≤ c ∧ Reads w .u64 a (nlen BW R.2) (dig BW R.2)
/-- The digits of a Nat lie here. -/
def NatAt (w : World) (V : Nat) (a : Option Addr) (c : Nat) : Prop := nlen 65536 V ≤ c ∧ Reads w .i64 a (nlen 65536 V) (dig 65536 V)
theorem NumAt.below {w w' : World} {R : Bool × Nat} {a : Option Addr} {c : Nat} (h : NumAt w R a c) (hb : Below w.heap.size w w') : NumAt w' R a c := ⟨h.1, h.2.below hb⟩
theorem NatAt.below {w w' : World} {R : Nat} {a : Option Addr} {c : Nat} (h : NatAt w R a c) (hb : Below w.heap.size w w') : NatAt w' R a c := ⟨h.1, h.2.below hb⟩

def NumP (R : Bool × Nat) (w : World) (e : Ending) (w' : World) : Prop := ∃ a c, e = .returned (.agg #[.bool R.1, .slice a (nlen BW R.2) c]) ∧ NumAt w' R a c ∧ Below w.heap.size w w'
def IntP (R : Bool × Nat) (w : World) (e : Ending) (w' : World) : Prop := ∃ a c, e = .returned (.agg #[.bool R.1, .slice a (nlen 65536 R.2) c]) ∧ NatAt w' R.2 a c ∧ Below w.heap.size w w'
def NatP (V : Nat) (w : World) (e : Ending) (w' : World) : Prop := ∃ a c, e = .returned (.slice a (nlen 65536 V) c) ∧ NatAt w' V a c ∧ Below w.heap.size w w'

theorem val_dig_nlen (V : Nat) : val BW (dig BW V) (nlen BW V) = V := by
  rw [val_of_dig (by unfold BW; omega), Nat.mod_eq_of_lt (lt_pow_nlen (by unfold BW; omega) V)]
theorem sgn_id {s : Bool} {V : Nat} (h : s = true → 1 ≤ V) : sgn s V = s := by
  unfold sgn
  cases s
  · rfl
  · have := h rfl
    simp; omega
theorem opR4 (s t t' : Bool) (V U U' : Nat) : opR 4 s V t U = opR 4 s V t' U' := by cases s <;> rfl

theorem bits_raw (k : Nat) (hk : k < 5) (na nb : Bool) (ax ay : Option Addr) (nx cx ny cy : Nat) (fx fy : Nat → Nat) (R : Bool × Nat) (hfx : ∀ i, i < nx → fx i < BW) (hfy : ∀ i, i < ny → fy i < BW) (w : World) (hxc : nx ≤ cx) (hyc : ny ≤ cy) (hxm : nx ≤ 200000000) (hym : ny ≤ 200000000)
    (hrx : Reads w .u64 ax nx fx) (hry : Reads w .u64 ay ny fy) (hone : One w) (hR : R = opR k (sgn na (val BW fx nx)) (val BW fx nx) (sgn nb (val BW fy ny)) (val BW fy ny)) :
    Calls Tryd.prog 23 #[.int .i64 k, .agg #[.bool na, .slice ax nx cx], .agg #[.bool nb, .slice ay ny cy]] w (NumP R w) := by
  subst hR
  refine (implBits_any k hk na nb ax ay nx cx ny cy fx fy hfx hfy w hxc hyc hxm hym hrx hry hone).mono ?_
  rintro e w' ⟨v, rfl, own, bel⟩
  obtain ⟨a, c, rfl, hle, hcm, hrd, hlt⟩ := own.parts
  exact ⟨a, c, rfl, ⟨hle, hrd⟩, bel⟩

theorem bits_num (k : Nat) (hk : k < 5) (A B : Bool × Nat) (aa ab : Option Addr) (ca cb : Nat) (R : Bool × Nat) (w : World) (hA : A.1 = true → 1 ≤ A.2) (hB : B.1 = true → 1 ≤ B.2) (ha : nlen BW A.2 ≤ 200000000) (hb : nlen BW B.2 ≤ 200000000) (hra : NumAt w A aa ca) (hrb : NumAt w B ab cb) (hone : One w) (hR : R = opR k A.1 A.2 B.1 B.2) :
    Calls Tryd.prog 23 #[.int .i64 k, .agg #[.bool A.1, .slice aa (nlen BW A.2) ca], .agg #[.bool B.1, .slice ab (nlen BW B.2) cb]] w (NumP R w) :=
  bits_raw k hk A.1 B.1 aa ab _ ca _ cb _ _ R (fun i _ => dig_lt (by unfold BW; omega) _ i) (fun i _ => dig_lt (by unfold BW; omega) _ i) w hra.1 hrb.1 ha hb hra.2 hrb.2 hone (by rw [val_dig_nlen, val_dig_nlen, sgn_id hA, sgn_id hB, hR])

theorem not_raw (na : Bool) (ax : Option Addr) (nx cx : Nat) (fx : Nat → Nat) (R : Bool × Nat) (hfx : ∀ i, i < nx → fx i < BW) (w : World) (hxc : nx ≤ cx) (hxm : nx ≤ 200000000) (hrx : Reads w .u64 ax nx fx) (hone : One w) (hR : R = opR 4 (sgn na (val BW fx nx)) (val BW fx nx) false 0) :
    Calls Tryd.prog 23 #[.int .i64 4, .agg #[.bool na, .slice ax nx cx], .agg #[.bool false, .slice none 0 0]] w (NumP R w) :=
  bits_raw 4 (by omega) na false ax none nx cx 0 0 fx (fun _ => 0) R hfx (fun i h => absurd h (Nat.not_lt_zero i)) w hxc (Nat.le_refl _) hxm (by omega) hrx (fun i h => absurd h (Nat.not_lt_zero i)) hone (by rw [hR]; exact opR4 _ _ _ _ _ _)

theorem not_num (A : Bool × Nat) (aa : Option Addr) (ca : Nat) (R : Bool × Nat) (w : World) (hA : A.1 = true → 1 ≤ A.2) (ha : nlen BW A.2 ≤ 200000000) (hra : NumAt w A aa ca) (hone : One w) (hR : R = opR 4 A.1 A.2 false 0) :
    Calls Tryd.prog 23 #[.int .i64 4, .agg #[.bool A.1, .slice aa (nlen BW A.2) ca], .agg #[.bool false, .slice none 0 0]] w (NumP R w) :=
  not_raw A.1 aa _ ca _ R (fun i _ => dig_lt (by unfold BW; omega) _ i) w hra.1 ha hra.2 hone (by rw [val_dig_nlen, sgn_id hA, hR])

theorem in_raw (na : Bool) (ax : Option Addr) (nx cx : Nat) (fx : Nat → Nat) (R : Bool × Nat) (hfx : ∀ i, i < nx → fx i < BW) (w : World) (hxc : nx ≤ cx) (hxm : nx ≤ 200000000) (hrx : Reads w .u64 ax nx fx) (hR : R = (sgn na (val BW fx nx), val BW fx nx)) :
    Calls Tryd.prog 11 #[.agg #[.bool na, .slice ax nx cx]] w (IntP R w) := by
  subst hR
  refine (in_any na ax nx cx fx hfx w hxc (by omega) hrx).mono ?_
  rintro e w' ⟨v, rfl, own, bel⟩
  obtain ⟨a, c, rfl, hle, hcm, hrd, hlt⟩ := own.parts
  exact ⟨a, c, rfl, ⟨hle, hrd⟩, bel⟩

theorem in_num (A : Bool × Nat) (aa : Option Addr) (ca : Nat) (w : World) (hA : A.1 = true → 1 ≤ A.2) (ha : nlen BW A.2 ≤ 200000000) (hra : NumAt w A aa ca) :
    Calls Tryd.prog 11 #[.agg #[.bool A.1, .slice aa (nlen BW A.2) ca]] w (IntP A w) :=
  in_raw A.1 aa _ ca _ A (fun i _ => dig_lt (by unfold BW; omega) _ i) w hra.1 ha hra.2 (by rw [val_dig_nlen, sgn_id hA])

theorem small_now (V : Nat) (w : World) (hV : V ≤ 1000000) : Calls Tryd.prog 26 #[.int .i64 V] w (NatP V w) := by
  refine (specSmall_any V w hV).mono ?_
  rintro e w' ⟨v, rfl, own, bel⟩
  obtain ⟨a, c, rfl, hle, hcm, hrd, hlt⟩ := own.parts
  exact ⟨a, c, rfl, ⟨hle, hrd⟩, bel⟩

theorem plus_now (a b : Bool) (V U : Nat) (aa ab : Option Addr) (ca cb : Nat) (R : Bool × Nat) (w : World) (ha : nlen 65536 V ≤ 1000000000000) (hb : nlen 65536 U ≤ 1000000000000) (hra : NatAt w V aa ca) (hrb : NatAt w U ab cb) (hR : R = plusR a V b U) :
    Calls Tryd.prog 24 #[.agg #[.bool a, .slice aa (nlen 65536 V) ca], .agg #[.bool b, .slice ab (nlen 65536 U) cb]] w (IntP R w) := by
  subst hR
  refine (specPlus_any a b aa ab V U ca cb w hra.1 hrb.1 ha hb hra.2 hrb.2).mono ?_
  rintro e w' ⟨v, rfl, own, bel⟩
  obtain ⟨a, c, rfl, hle, hcm, hrd, hlt⟩ := own.parts
  exact ⟨a, c, rfl, ⟨hle, hrd⟩, bel⟩

/-- spec.Is of a Number and the number that it is. -/
theorem is_now (A B : Bool × Nat) (aa ab : Option Addr) (ca cb : Nat) (w : World) (hA : A.1 = true → 1 ≤ A.2) (ha : nlen BW A.2 ≤ 200000000) (hra : NumAt w A aa ca) (hrb : NatAt w B.2 ab cb) (hAB : A = B) :
    Calls Tryd.prog 19 #[.agg #[.bool A.1, .slice aa (nlen BW A.2) ca], .agg #[.bool B.1, .slice ab (nlen 65536 B.2) cb]] w fun e w' => e = .returned (.bool true) ∧ Below w.heap.size w w' := by
  subst hAB
  have h16 : nlen 65536 A.2 ≤ 4 * nlen BW A.2 := (nlen_pow (B := 65536) (by omega) 4 (by omega) A.2 _).1 (Nat.le_refl _)
  exact is_yes A.1 A.1 aa ab _ ca A.2 cb _ w (by omega) hrb.1 (by omega) hra.2 hrb.2 (same_of_eq rfl rfl hA)

theorem cmp_now (V U : Nat) (aa ab : Option Addr) (ca cb : Nat) (w : World) (ha : nlen 65536 V ≤ 1000000000000) (hb : nlen 65536 U ≤ 1000000000000) (hra : NatAt w V aa ca) (hrb : NatAt w U ab cb) (hVU : V = U) :
    Calls Tryd.prog 25 #[.slice aa (nlen 65536 V) ca, .slice ab (nlen 65536 U) cb] w fun e w' => e = .returned (.int .i64 0) ∧ Below w.heap.size w w' := by
  refine (cmp_any aa ab V U ca cb w hra.1 (by omega) hrb.1 (by omega) hra.2 hrb.2).mono ?_
  rintro e w' ⟨r, rfl, hr, _, q, rfl⟩
  rw [hr.2 hVU]
  exact ⟨rfl, rfl, rfl, rfl, Nat.le_refl _, fun _ _ => rfl⟩

/-- A row of integers lies in no struct of a sign and a slice. -/
theorem Reads.not_pair {w : World} {k : IntKind} {a : Option Addr} {n p : Nat} {f : Nat → Nat} {T : TypeId} {x : Bool} {y : Option Addr} {m c : Nat} (h : Reads w k a n f) (hp : Pair w p T (.bool x) (.slice y m c)) (hn : 0 < n) : ∀ b, a = some b → b.block ≠ p := by
  rintro b rfl he
  obtain ⟨b', o, hb, hc⟩ := h 0 hn
  cases hb
  subst he
  unfold Pair at hp
  match o, hc with
  | 0, hc => simp [World.cell?, hp] at hc
  | 1, hc => simp [World.cell?, hp] at hc
  | j + 2, hc => simp [World.cell?, hp] at hc

/-- The struct is stored anew. -/
def put2 (w : World) (p : Nat) (u v : Value) : World := (w.setCell ⟨p, 0, none⟩ u).setCell ⟨p, 1, none⟩ v
theorem grown_put2 (w : World) (p : Nat) (u v : Value) : w.grownBy (put2 w p u v) (some p) := grown_trans (grown_setCell w ⟨p, 0, none⟩ u) (grown_setCell _ ⟨p, 1, none⟩ v)
theorem Pair.put2 {w : World} {p : Nat} {T : TypeId} {a b : Value} (h : Pair w p T a b) (u v : Value) : Pair (put2 w p u v) p T u v := (h.set0 u).set1 v
theorem Pair.put2o {w : World} {p q : Nat} {T : TypeId} {a b : Value} (h : Pair w q T a b) (u v : Value) (hq : q ≠ p) : Pair (Proofs.YtidifjmjbfhpaaaDoor.put2 w p u v) q T a b := (h.setOther (x := ⟨p, 0, none⟩) hq u).setOther (x := ⟨p, 1, none⟩) hq v
theorem below_put2 {B : Nat} {w0 w : World} {p : Nat} (h : Below B w0 w) (hp : B ≤ p) (u v : Value) : Below B w0 (put2 w p u v) := (h.setCell (p := ⟨p, 0, none⟩) hp u).setCell (p := ⟨p, 1, none⟩) hp v
theorem NumAt.put2 {w : World} {R : Bool × Nat} {a : Option Addr} {c p : Nat} {T : TypeId} {x : Bool} {y : Option Addr} {m c' : Nat} (h : NumAt w R a c) (hp : Pair w p T (.bool x) (.slice y m c')) (u v : Value) : NumAt (put2 w p u v) R a c := by
  refine ⟨h.1, ?_⟩
  rcases Nat.eq_zero_or_pos (nlen BW R.2) with h0 | h0
  · rw [h0]; exact fun i hi => absurd hi (Nat.not_lt_zero i)
  · exact h.2.grown (grown_put2 w p u v) (fun b hb he => h.2.not_pair hp h0 b hb (by injection he))
theorem NatAt.put2 {w : World} {R : Nat} {a : Option Addr} {c p : Nat} {T : TypeId} {x : Bool} {y : Option Addr} {m c' : Nat} (h : NatAt w R a c) (hp : Pair w p T (.bool x) (.slice y m c')) (u v : Value) : NatAt (put2 w p u v) R a c := by
  refine ⟨h.1, ?_⟩
  rcases Nat.eq_zero_or_pos (nlen 65536 R) with h0 | h0
  · rw [h0]; exact fun i hi => absurd hi (Nat.not_lt_zero i)
  · exact h.2.grown (grown_put2 w p u v) (fun b hb he => h.2.not_pair hp h0 b hb (by injection he))

/-- What comes of Plus and Not is one number. -/
theorem plus_not (s : Bool) (V : Nat) (hs : s = true → 1 ≤ V) : plusR (!s && decide (V ≠ 0)) V true 1 = opR 4 s V false 0 := by
  cases s
  · rcases Nat.eq_zero_or_pos V with rfl | h
    · rfl
    · have : decide (V ≠ 0) = true := by simp; omega
      rw [this]
      simp [plusR, opR]
  · have := hs rfl
    have h1 : decide (V ≠ 0) = true := by simp; omega
    simp [plusR, opR, h1, this]

theorem not_not (s : Bool) (V : Nat) (hs : s = true → 1 ≤ V) : opR 4 (opR 4 s V false 0).1 (opR 4 s V false 0).2 false 0 = (s, V) := by
  cases s
  · rfl
  · have := hs rfl
    show (true, V - 1 + 1) = (true, V)
    rw [Nat.sub_add_cancel this]

end Go.Proofs.YtidifjmjbfhpaaaDoor
