/- spec.Joined: two numbers joined bit by bit, in two's complement, by a table; its closure. -/
/- spec.Joined: the number that the table gives, bit by bit. -/
import Derived.Test.YtidifjmjbfhpaaaDoorSpecSums
namespace Go.Proofs.YtidifjmjbfhpaaaDoor
set_option linter.unusedVariables false
set_option maxRecDepth 20000
set_option linter.unusedSimpArgs false
open Go.RowKit

/-- What the table gives at bit i of two numbers. -/
def jat (T : Nat → Bool) (na : Bool) (V : Nat) (nb : Bool) (U i : Nat) : Bool := T ((if tb na V i then 2 else 0) + (if tb nb U i then 1 else 0))

/-- Two numbers and a table lie in three blocks. -/
def JArgs (w : World) (pa pb pt : Nat) (T : Nat → Bool) (na : Bool) (aa : Option Addr) (V ca : Nat) (nb : Bool) (ab : Option Addr) (U cb : Nat) : Prop :=
  Pair w pa 29 (.bool na) (.slice aa (nlen 65536 V) ca) ∧ Pair w pb 29 (.bool nb) (.slice ab (nlen 65536 U) cb) ∧
  w.heap[pt]? = some (.cells #[.bool (T 0), .bool (T 1), .bool (T 2), .bool (T 3)] 40 (0, 0)) ∧ Reads w .i64 aa (nlen 65536 V) (dig 65536 V) ∧ Reads w .i64 ab (nlen 65536 U) (dig 65536 U)

theorem JArgs.below {w w' : World} {pa pb pt : Nat} {T : Nat → Bool} {na : Bool} {aa : Option Addr} {V ca : Nat} {nb : Bool} {ab : Option Addr} {U cb : Nat}
    (h : JArgs w pa pb pt T na aa V ca nb ab U cb) (hb : Below w.heap.size w w') : JArgs w' pa pb pt T na aa V ca nb ab U cb :=
  ⟨h.1.below hb h.1.lt, h.2.1.below hb h.2.1.lt, by rw [hb.block pt (lt_of_block h.2.2.1)]; exact h.2.2.1, h.2.2.2.1.below hb, h.2.2.2.2.below hb⟩

theorem four_cell {w : World} {p : Nat} {a b c d : Value} {t : TypeId} (h : w.heap[p]? = some (.cells #[a, b, c, d] t (0, 0))) :
    w.cell? ⟨p, 0, none⟩ = some a ∧ w.cell? ⟨p, 1, none⟩ = some b ∧ w.cell? ⟨p, 2, none⟩ = some c ∧ w.cell? ⟨p, 3, none⟩ = some d := by
  simp [World.cell?, h]

set_option maxHeartbeats 1000000 in
theorem joinedAt_any (pa pb pt : Nat) (T : Nat → Bool) (na : Bool) (aa : Option Addr) (V ca : Nat) (nb : Bool) (ab : Option Addr) (U cb i : Nat) (w : World)
    (h : JArgs w pa pb pt T na aa V ca nb ab U cb) (hV : na = true → 1 ≤ V) (hU : nb = true → 1 ≤ U) (ha : nlen 65536 V ≤ ca) (hb : nlen 65536 U ≤ cb) (hna : nlen 65536 V ≤ 1000000000000) (hnb : nlen 65536 U ≤ 1000000000000) (hi : i ≤ 1000000000000) :
    Calls Tryd.prog 34 #[.int .i64 i, .pointer (some ⟨pa, 0, none⟩), .pointer (some ⟨pb, 0, none⟩), .pointer (some ⟨pt, 0, none⟩)] w fun e w' => e = .returned (.bool (jat T na V nb U i)) ∧ Below w.heap.size w w' := by
  have c0 := h.1.cell0
  have c1 := h.1.cell1
  have KA := Lib.hid (specBit2_any na aa V ca i w hV ha hna hi h.2.2.2.1)
  have KB := Lib.hid (fun w' (hb' : Below w.heap.size w w') => specBit2_any nb ab U cb i w' hU hb hnb hi (h.below hb').2.2.2.2)
  have H := Lib.hid h
  have hj : jat T na V nb U i = T ((if tb na V i then 2 else 0) + (if tb nb U i then 1 else 0)) := rfl
  have HJ := Lib.hid hj
  clear h hj
  go_enter Tryd.func34, Tryd.ntmps34
  go_wp2_with fail
  refine KA.out.mono ?_
  rintro e w1 ⟨rfl, b1⟩
  have d0 := (H.out.below b1).2.1.cell0
  have d1 := (H.out.below b1).2.1.cell1
  have K2 := Lib.hid (KB.out w1 b1)
  have B1 := Lib.hid b1
  clear c0 c1 KA KB b1
  cases ha1 : tb na V i
  all_goals
    go_wp2_with fail
    refine K2.out.mono ?_
    rintro e w2 ⟨rfl, b2⟩
    have b3 := below_trans B1.out b2
    obtain ⟨q0, q1, q2, q3⟩ := four_cell (H.out.below b3).2.2.1
    have B3 := Lib.hid b3
    clear b2 b3 K2 d0 d1
    cases hb1 : tb nb U i
    all_goals
      go_wp2
      go_ret
      exact ⟨by rw [HJ.out, ha1, hb1]; rfl, B3.out⟩

end Go.Proofs.YtidifjmjbfhpaaaDoor
namespace Go.Proofs.YtidifjmjbfhpaaaDoor
set_option linter.unusedVariables false
set_option linter.unusedSimpArgs false
open Go.RowKit

/-- How many bits a join looks at. -/
def jsize (V U : Nat) : Nat := max (nlen 2 V) (nlen 2 U) + 1

theorem jat_high (T : Nat → Bool) (na : Bool) (V : Nat) (nb : Bool) (U i : Nat) (h : jsize V U ≤ i) : jat T na V nb U i = T ((if na then 2 else 0) + (if nb then 1 else 0)) := by
  unfold jsize at h
  unfold jat
  rw [tb_high na V i ((nlen_le_iff (by omega) V i).1 (by omega)), tb_high nb U i ((nlen_le_iff (by omega) U i).1 (by omega))]

/-- What a join comes to. -/
def JPost (T : Nat → Bool) (na : Bool) (V : Nat) (nb : Bool) (U : Nat) (w : World) (e : Ending) (w' : World) : Prop :=
  ∃ (neg : Bool) (v : Value) (R : Nat), e = .returned (.agg #[.bool neg, v]) ∧ Own w' w.heap.size 3 .i64 v (nlen 65536 R) (dig 65536 R) ∧ Below w.heap.size w w' ∧ (neg = true → 1 ≤ R) ∧ (∀ i, tb neg R i = jat T na V nb U i) ∧ R ≤ 2 ^ jsize V U

set_option maxHeartbeats 2000000 in
theorem joined_any (T : Nat → Bool) (na : Bool) (aa : Option Addr) (V ca : Nat) (nb : Bool) (ab : Option Addr) (U cb : Nat) (w : World)
    (hrda : Reads w .i64 aa (nlen 65536 V) (dig 65536 V)) (hrdb : Reads w .i64 ab (nlen 65536 U) (dig 65536 U))
    (hV : na = true → 1 ≤ V) (hU : nb = true → 1 ≤ U) (ha : nlen 65536 V ≤ ca) (hb : nlen 65536 U ≤ cb) (hna : nlen 65536 V ≤ 50000) (hnb : nlen 65536 U ≤ 50000) :
    Calls Tryd.prog 16 #[.agg #[.bool na, .slice aa (nlen 65536 V) ca], .agg #[.bool nb, .slice ab (nlen 65536 U) cb], .agg #[.bool (T 0), .bool (T 1), .bool (T 2), .bool (T 3)]] w (JPost T na V nb U w) := by
  obtain ⟨W1, hW1⟩ : ∃ W, W = w.alloc (.cells #[.bool na, .slice aa (nlen 65536 V) ca] 29) := ⟨_, rfl⟩
  obtain ⟨W2, hW2⟩ : ∃ W, W = W1.alloc (.cells #[.bool nb, .slice ab (nlen 65536 U) cb] 29) := ⟨_, rfl⟩
  obtain ⟨W3, hW3⟩ : ∃ W, W = W2.alloc (.cells #[.bool (T 0), .bool (T 1), .bool (T 2), .bool (T 3)] 40) := ⟨_, rfl⟩
  obtain ⟨W4, hW4⟩ : ∃ W, W = W3.alloc (.cells #[.bool false, .slice none 0 0] 29) := ⟨_, rfl⟩
  have s1 : W1.heap.size = w.heap.size + 1 := by rw [hW1]; simp
  have s2 : W2.heap.size = w.heap.size + 2 := by rw [hW2]; simp [s1]
  have s3 : W3.heap.size = w.heap.size + 3 := by rw [hW3]; simp [s2]
  have s4 : W4.heap.size = w.heap.size + 4 := by rw [hW4]; simp [s3]
  have b1 : Below w.heap.size w W1 := by rw [hW1]; exact (Below.refl _ w).alloc (Nat.le_refl _) _
  have b2 : Below w.heap.size w W2 := by rw [hW2]; exact b1.alloc b1.size _
  have b3 : Below w.heap.size w W3 := by rw [hW3]; exact b2.alloc b2.size _
  have b4 : Below w.heap.size w W4 := by rw [hW4]; exact b3.alloc b3.size _
  have p1 : Pair W4 w.heap.size 29 (.bool na) (.slice aa (nlen 65536 V) ca) := by rw [hW4, hW3, hW2, hW1]; exact (((Pair.new w _ _ _).alloc _).alloc _).alloc _
  have p2 : Pair W4 (w.heap.size + 1) 29 (.bool nb) (.slice ab (nlen 65536 U) cb) := by rw [hW4, hW3, hW2, ← s1]; exact ((Pair.new W1 _ _ _).alloc _).alloc _
  have p3 : W4.heap[w.heap.size + 2]? = some (.cells #[.bool (T 0), .bool (T 1), .bool (T 2), .bool (T 3)] 40 (0, 0)) := by
    rw [hW4, Below.heap_alloc _ _ _ (by omega), hW3, ← s2]; exact heap_alloc_new W2 _
  have p4 : Pair W4 (w.heap.size + 3) 29 (.bool false) (.slice none 0 0) := by rw [hW4, ← s3]; exact Pair.new W3 _ _ _
  have r4a := hrda.below b4
  have r4b := hrdb.below b4
  have J : JArgs W4 w.heap.size (w.heap.size + 1) (w.heap.size + 2) T na aa V ca nb ab U cb := ⟨p1, p2, p3, r4a, r4b⟩
  have KA := Lib.hid (fun x => Calls.quiet_of (w := W4) (n := x) ((len_any aa V ca (W4.drewN x) ha (by omega) r4a).mono fun e w' ⟨h1, h2⟩ => ⟨h1, 0, h2.symm⟩))
  have KB := Lib.hid (fun x => Calls.quiet_of (w := W4) (n := x) ((len_any ab U cb (W4.drewN x) hb (by omega) r4b).mono fun e w' ⟨h1, h2⟩ => ⟨h1, 0, h2.symm⟩))
  have hla : nlen 2 V ≤ 16 * nlen 65536 V := by
    have h := nlen_pow (B := 2) (by omega) 16 (by omega) V (nlen 65536 V)
    rw [show (2 : Nat) ^ 16 = 65536 from rfl] at h
    exact h.1 (Nat.le_refl _)
  have hlb : nlen 2 U ≤ 16 * nlen 65536 U := by
    have h := nlen_pow (B := 2) (by omega) 16 (by omega) U (nlen 65536 U)
    rw [show (2 : Nat) ^ 16 = 65536 from rfl] at h
    exact h.1 (Nat.le_refl _)
  have hs : jsize V U = max (nlen 2 V) (nlen 2 U) + 1 := rfl
  obtain ⟨la, hlae⟩ : ∃ l, l = nlen 2 V := ⟨_, rfl⟩
  obtain ⟨lb, hlbe⟩ : ∃ l, l = nlen 2 U := ⟨_, rfl⟩
  rw [← hlae] at KA hla hs
  rw [← hlbe] at KB hlb hs
  have hsi : (max (la : Int) (lb : Int)) + 1 = ((jsize V U : Nat) : Int) := by rw [hs]; omega
  have hsb : jsize V U ≤ 900000 := by rw [hs]; omega
  have c1 := p1.cell1
  have c2 := p2.cell1
  have W4' := Lib.hid (And.intro hW1 (And.intro hW2 (And.intro hW3 hW4)))
  have F := Lib.hid (And.intro b4 (And.intro J p4))
  clear hW1 hW2 hW3 hW4 b1 b2 b3 b4 p1 p2 p3 p4 J hrda hrdb r4a r4b hlae hlbe s1 s2 s3
  have hmf : ∀ (fn : Fn) (first cap : Array Value) (w : World), (Instr.makeFunc fn first cap).run Tryd.prog w = .ok (.func fn first cap) w := fun _ _ _ _ => rfl
  go_enter Tryd.func16, Tryd.ntmps16
  go_wp2_with fail
  rw [← W4'.out.1, ← W4'.out.2.1, ← W4'.out.2.2.1, ← W4'.out.2.2.2]
  go_quiet ((first | (go_at_call 33; with_reducible exact KA.out _) | (go_at_call 33; with_reducible exact KB.out _)))
  have hsz2 : (if la < lb then (lb : Int) else (la : Int)) + 1 = ((jsize V U : Nat) : Int) := by rw [hs]; split <;> omega
  rw [hsz2]
  generalize (if la < lb then (lb : Int) else (la : Int)) = junk
  obtain ⟨W5, hW5⟩ : ∃ W, W = W4.drewN nq := ⟨_, rfl⟩
  have F5 : Hid (Below w.heap.size w W5 ∧ JArgs W5 w.heap.size (w.heap.size + 1) (w.heap.size + 2) T na aa V ca nb ab U cb ∧ Pair W5 (w.heap.size + 3) 29 (.bool false) (.slice none 0 0)) := Lib.hid (by rw [hW5]; exact ⟨Below.drewN' F.out.1 nq, F.out.2.1, F.out.2.2⟩)
  have s5 : W5.heap.size = w.heap.size + 4 := by rw [hW5]; exact s4
  rw [← hW5]
  have HJ := jat_high T na V nb U (jsize V U) (Nat.le_refl _)
  have HJ2 := fun i h => jat_high T na V nb U i h
  obtain ⟨S, hS⟩ : ∃ S, S = jsize V U := ⟨_, rfl⟩
  rw [← hS] at hsb HJ HJ2
  rw [← hS]
  obtain ⟨ng, hng⟩ : ∃ b, b = T ((if na then 2 else 0) + (if nb then 1 else 0)) := ⟨_, rfl⟩
  rw [← hng] at HJ HJ2
  have KAT := Lib.hid (fun (i : Nat) (hi : i ≤ S) (wr : World) (hw : Below W5.heap.size W5 wr) => joinedAt_any w.heap.size (w.heap.size + 1) (w.heap.size + 2) T na aa V ca nb ab U cb i wr (F5.out.2.1.below hw) hV hU ha hb (by omega) (by omega) (by omega))
  obtain ⟨at', hat⟩ : ∃ f : Nat → Bool, f = jat T na V nb U := ⟨_, rfl⟩
  have hati : ∀ i, jat T na V nb U i = at' i := fun i => by rw [hat]
  simp only [hati] at KAT HJ HJ2
  have HAT := Lib.hid (And.intro hati (And.intro HJ2 hS))
  have KS := Lib.hid (KAT.out S (Nat.le_refl _) W5 (Below.refl _ _))
  rw [HJ] at KS
  clear KA KB F hlb hla hs hsi c1 c2 W4' hsz2 hW5 hati HJ HJ2 hat hng hS s4
  go_wp2_with fail
  refine KS.out.mono ?_
  rintro e w6 ⟨rfl, b6⟩
  obtain ⟨p, hp⟩ : ∃ p : Nat → Bool, p = fun i => at' i != ng := ⟨_, rfl⟩
  have HP := Lib.hid (fun i => congrFun hp i)
  have own0 := Own.empty w6 W5.heap.size 3 .i64 (dig 65536 (bsum p 0)) b6.size
  have b7 : Below W5.heap.size W5 (w6.alloc (.cells #[] 3)) := b6.alloc b6.size _
  have n0 : nlen 65536 (bsum p 0) = 0 := rfl
  have O0 := Lib.hid (show Own (w6.alloc (.cells #[] 3)) W5.heap.size 3 .i64 (.slice (some ⟨w6.heap.size, 0, none⟩) 0 0) (nlen 65536 (bsum p 0)) (dig 65536 (bsum p 0)) ∧ _ from And.intro (by rw [n0]; exact own0) b7)
  clear own0 b7 b6 KS hp n0 hmf
  go_wp2
  go_loopw [10, 26] (fun v ti wr => ∃ i : Nat, i ≤ S ∧ ti = .int .i64 i ∧ Own wr W5.heap.size 3 .i64 v (nlen 65536 (bsum p i)) (dig 65536 (bsum p i)) ∧ Below W5.heap.size W5 wr) (fun _ ti _ => S - (intOf ti).toNat)
  case atStart => exact ⟨0, Nat.zero_le _, rfl, O0.out.1, O0.out.2⟩
  case round =>
    obtain ⟨i, hiS, rfl, own, bel⟩ := hrel
    have hsz := bel.size
    have hbl : nlen 65536 (bsum p i) ≤ i := by
      rw [nlen_le_iff (by omega)]
      exact Nat.lt_of_lt_of_le (bsum_lt p i) (Nat.pow_le_pow_left (by omega) i)
    by_cases h1 : i < S
    · have KA := Lib.hid (KAT.out i hiS wr bel)
      have hpi := HP.out i
      have hbs : bsum p (i + 1) = bsum p i + if p i then 2 ^ i else 0 := rfl
      obtain ⟨x, hx⟩ : ∃ x, x = at' i := ⟨_, rfl⟩
      rw [← hx] at KA hpi
      obtain ⟨b, hb'⟩ : ∃ b, b = bsum p i := ⟨_, rfl⟩
      rw [← hb'] at own hbl hbs
      obtain ⟨av, cv, rfl, hlev, hcmv, hrdv, hltv⟩ := own.parts
      have G := Lib.hid (And.intro own (And.intro bel hrdv))
      clear own bel hrdv hltv O0 hx hb'
      cases hpx : p i with
      | false =>
        have ht : (x == ng) = true := by rw [hpx] at hpi; revert hpi; cases x <;> cases ng <;> simp
        have HB := Lib.hid (show bsum p (i + 1) = b by rw [hbs, hpx]; simp)
        clear hpi hpx hbs
        go_wp2_with fail
        refine KA.out.mono ?_
        rintro e w8 ⟨rfl, b8⟩
        have F8 := Lib.hid (And.intro (G.out.1.below (b8.mono (Nat.le_refl _)) (fun k hk => (G.out.1.lt k hk).2)) (G.out.2.1.trans (b8.mono hsz)))
        clear b8 KA
        go_wp2_with fail
        go_roundw
        case rel =>
          go_light
          exact ⟨i + 1, by omega, by go_num, by rw [HB.out]; exact F8.out.1, F8.out.2⟩
        case measure => simp [intOf]; omega
      | true =>
        have ht : (x == ng) = false := by rw [hpx] at hpi; revert hpi; cases x <;> cases ng <;> simp
        have HB := Lib.hid (show bsum p (i + 1) = b + 2 ^ i by rw [hbs, hpx]; simp)
        clear hpi hpx hbs
        go_wp2_with fail
        refine KA.out.mono ?_
        rintro e w8 ⟨rfl, b8⟩
        have KB1 := Lib.hid (specBit_any i w8 (by omega))
        have F8 := Lib.hid (And.intro (G.out.2.2.below b8) (G.out.2.1.trans (b8.mono hsz)))
        clear b8 KA
        go_wp2_with fail
        refine KB1.out.mono ?_
        rintro e w9 ⟨vb, rfl, ownb, b9⟩
        obtain ⟨abit, cbit, rfl, hleb, hcmb, hrdb, hltb⟩ := ownb.parts
        have hnb2 : nlen 65536 (2 ^ i) ≤ 1000000000000 := by rw [nlen_two_pow]; omega
        have KAD := Lib.hid (specAdd_any av abit b (2 ^ i) cv cbit w9 hlev hleb (by omega) hnb2 (F8.out.1.below b9) hrdb)
        have B9 := Lib.hid (F8.out.2.trans (b9.mono F8.out.2.size))
        clear ownb b9 hrdb hltb KB1
        go_wp2_with fail
        refine KAD.out.mono ?_
        rintro e w10 ⟨vs, rfl, owns, b10⟩
        have F10 := Lib.hid (And.intro (owns.base_le B9.out.size) (B9.out.trans (b10.mono B9.out.size)))
        clear owns b10 KAD
        go_wp2_with fail
        go_roundw
        case rel =>
          go_light
          exact ⟨i + 1, by omega, by go_num, by rw [HB.out]; exact F10.out.1, F10.out.2⟩
        case measure => simp [intOf]; omega
    · obtain rfl : i = S := by omega
      have hb0 := F5.out.1
      have hJB := joined_bits at' ng i HAT.out.2.1
      have hpe : p = fun i => at' i != ng := funext HP.out
      rw [← hpe] at hJB
      have JB := Lib.hid (And.intro hJB.1 (And.intro hJB.2 HAT.out.2.2))
      have hfin : ∀ (R : Nat) (av : Option Addr) (cv : Nat) (wa wz : World), Own wa W5.heap.size 3 .i64 (.slice av (nlen 65536 R) cv) (nlen 65536 R) (dig 65536 R) → Below W5.heap.size W5 wz → Below wa.heap.size wa wz → R = bsum p i + (if ng then 1 else 0) →
          JPost T na V nb U w (.returned (.agg #[.bool ng, .slice av (nlen 65536 R) cv])) ((wz.setCell ⟨w.heap.size + 3, 0, none⟩ (.bool ng)).setCell ⟨w.heap.size + 3, 1, none⟩ (.slice av (nlen 65536 R) cv)) := by
        intro R av cv wa wz ow bz baz hR
        have hsz5 := F5.out.1.size
        have ow2 := ow.below baz (fun k hk => (ow.lt k hk).2)
        refine ⟨ng, _, R, rfl, ((ow2.kept (grown_setCell wz ⟨w.heap.size + 3, 0, none⟩ _) ?_).kept (grown_setCell _ ⟨w.heap.size + 3, 1, none⟩ _) ?_).base_le (by omega), ((F5.out.1.trans (bz.mono (by omega))).setCell (p := ⟨w.heap.size + 3, 0, none⟩) (by simp) _).setCell (p := ⟨w.heap.size + 3, 1, none⟩) (by simp) _, ?_, ?_, ?_⟩
        all_goals try
          rcases hv : (Value.slice av (nlen 65536 R) cv).ownBlock with _ | k
          · exact .inl rfl
          · right; intro e; have := (ow.lt k hv).1; simp at e; omega
        · intro h; rw [hR, h]; simp
        · intro i'; rw [hR, JB.out.1 i', HAT.out.1 i']
        · rw [hR]; have := JB.out.2.1; rw [JB.out.2.2] at this ⊢; exact this
      have HF := Lib.hid hfin
      have hp5 : ∀ wz, Below W5.heap.size W5 wz → Pair wz (w.heap.size + 3) 29 (.bool false) (.slice none 0 0) := fun wz h => F5.out.2.2.below h F5.out.2.2.lt
      have HP5 := Lib.hid hp5
      obtain ⟨b, hb'⟩ : ∃ b, b = bsum p i := ⟨_, rfl⟩
      rw [← hb'] at own hbl HF
      obtain ⟨av, cv, rfl, hlev, hcmv, hrdv, hltv⟩ := own.parts
      have G := Lib.hid (And.intro own (And.intro bel hrdv))
      clear own bel hrdv hltv O0 hb' hfin hp5 hJB hpe hb0 KAT HP
      cases ng with
      | true =>
        go_wp2_with fail
        refine (specSmall_any 1 wr (by omega)).mono ?_
        rintro e w8 ⟨v1, rfl, own1, b8⟩
        obtain ⟨a1, k1, rfl, hle1, hcm1, hrd1, hlt1⟩ := own1.parts
        have hN1 : nlen 65536 1 ≤ 1 := by rw [nlen_le_iff (by omega)]; omega
        have KAD := Lib.hid (specAdd_any av a1 b 1 cv k1 w8 hlev hle1 (by omega) (by omega) (G.out.2.2.below b8) hrd1)
        have B8 := Lib.hid (G.out.2.1.trans (b8.mono hsz))
        clear own1 b8 hrd1 hlt1
        go_wp2_with fail
        refine KAD.out.mono ?_
        rintro e w9 ⟨vs, rfl, owns, b9⟩
        obtain ⟨asg, cs, rfl, hles, hcms, hrds, hlts⟩ := owns.parts
        have B9 := B8.out.trans (b9.mono B8.out.size)
        have hnz : (nlen 65536 (b + 1) = 0) = False := by simp [nlen_eq_zero (B := 65536) (by omega)]
        have KS := Lib.hid (specSign_any true asg (nlen 65536 (b + 1)) cs w9)
        simp only [ne_eq, hnz, not_false_eq_true, decide_true, Bool.and_true] at KS
        have F9 := Lib.hid (And.intro (owns.base_le B8.out.size) B9)
        clear owns b9 KAD hrds hlts B9
        go_wp2_with fail
        refine KS.out.mono ?_
        rintro e w10 ⟨rfl, b10⟩
        have B10 := F9.out.2.trans (b10.mono F9.out.2.size)
        have P := HP5.out w10 B10
        have c10 := P.cell0
        have c11 := P.cell1
        have f10 := P.free 0
        have f11 := P.free 1
        have FIN := Lib.hid (HF.out (b + 1) asg cs w9 w10 F9.out.1 B10 b10 (by simp))
        clear P b10 B10 KS
        go_wp2
        refine bodyPost_ret (v := .agg #[.bool true, .slice asg (nlen 65536 (b + 1)) cs]) (by simp [results, Tryd.results16, go_sem, c10, c11, f10, f11]) rfl ?_
        exact FIN.out
      | false =>
        have KS := Lib.hid (specSign_any false av (nlen 65536 b) cv wr)
        simp only [Bool.false_and] at KS
        go_wp2_with fail
        refine KS.out.mono ?_
        rintro e w10 ⟨rfl, b10⟩
        have B10 := G.out.2.1.trans (b10.mono hsz)
        have P := HP5.out w10 B10
        have c10 := P.cell0
        have c11 := P.cell1
        have f10 := P.free 0
        have f11 := P.free 1
        have FIN := Lib.hid (HF.out b av cv wr w10 G.out.1 B10 b10 (by simp))
        clear P b10 B10 KS
        go_wp2
        refine bodyPost_ret (v := .agg #[.bool false, .slice av (nlen 65536 b) cv]) (by simp [results, Tryd.results16, go_sem, c10, c11, f10, f11]) rfl ?_
        exact FIN.out

end Go.Proofs.YtidifjmjbfhpaaaDoor
