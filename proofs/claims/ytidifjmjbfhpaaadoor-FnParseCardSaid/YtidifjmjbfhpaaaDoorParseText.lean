/- (*strings.Reader).ReadByte, UnreadByte: what they answer and what they leave in the reader. -/
/- scanSign: whether a text begins with a sign. -/
/- spec.figure: the value of a sign in a base, or -1. -/
/- Texts of digits: the value of a text in a base, by groups of digits. -/
/- When a text is a number in a base, and which. -/
import Derived.Test.YtidifjmjbfhpaaaDoorRow
import Derived.Test.YtidifjmjbfhpaaaDoorRows
import Derived.Handy
import Derived.BigQuiet
import Derived.Test.YtidifjmjbfhpaaaDoorBase
import Derived.Test.YtidifjmjbfhpaaaDoorIntNew
namespace Go.Proofs.YtidifjmjbfhpaaaDoor
set_option linter.unusedVariables false
set_option maxRecDepth 20000
set_option linter.unusedSimpArgs false
open Go.RowKit

/-- The byte number i of a text. -/
def chr (s : ByteArray) (i : Nat) : Nat := if h : i < s.size then (s[i]'h).toNat else 0
theorem chr_lt (s : ByteArray) (i : Nat) : chr s i < 256 := by
  unfold chr
  split
  · exact UInt8.toNat_lt _
  · omega

theorem run_index_chr {P : Program} {w : World} (t : TypeId) (s : ByteArray) (k : IntKind) (i : Int) (n : Nat) (h : P.underlying t = some .string) (hi : n < s.size) (hn : i = (n : Int)) :
    (Instr.index t (.string s) (.int k i)).run P w = .ok (.int .u8 (chr s n)) w := by
  subst hn
  rw [run_index_string _ t s k _ h, dif_pos ⟨by omega, by omega⟩]
  unfold chr
  rw [dif_pos hi]
  rfl

/-- A reader over s at i. -/
def Rd (w : World) (p : Nat) (s : ByteArray) (i : Nat) : Prop := ∃ pr : Int, w.heap[p]? = some (.cells #[.string s, .int .i64 i, .int .i64 pr] 109 (0, 0))

section
variable {w w' : World} {p i : Nat} {s : ByteArray}
theorem Rd.lt (h : Rd w p s i) : p < w.heap.size := by obtain ⟨pr, h⟩ := h; exact lt_of_block h
theorem Rd.cells (h : Rd w p s i) : ∃ pr : Int, w.cell? ⟨p, 0, none⟩ = some (.string s) ∧ w.cell? ⟨p, 1, none⟩ = some (.int .i64 i) ∧ w.cell? ⟨p, 2, none⟩ = some (.int .i64 pr) ∧ ∀ j, w.frozen? ⟨p, j, none⟩ = false := by
  obtain ⟨pr, h⟩ := h
  refine ⟨pr, ?_, ?_, ?_, fun j => ?_⟩ <;> simp [World.cell?, World.frozen?, h]
theorem Rd.below {B : Nat} (h : Rd w p s i) (hb : Below B w w') (hp : p < B) : Rd w' p s i := by obtain ⟨pr, h⟩ := h; exact ⟨pr, (hb.block p hp).trans h⟩
theorem Rd.grown {row : Option Nat} (h : Rd w p s i) (hg : w.grownBy w' row) (hp : some p ≠ row) : Rd w' p s i := by obtain ⟨pr, h'⟩ := h; exact ⟨pr, (hg.block p (Rd.lt ⟨pr, h'⟩) hp).trans h'⟩
theorem Rd.set2 (h : Rd w p s i) (v : Int) : Rd (w.setCell ⟨p, 2, none⟩ (.int .i64 v)) p s i := by
  obtain ⟨pr, h⟩ := h
  exact ⟨v, by have := heap_setCell_same w p 2 _ 109 (.int .i64 v) h; simpa using this⟩
theorem Rd.set1 (h : Rd w p s i) (j : Nat) (v : Int) (hv : v = (j : Int)) : Rd (w.setCell ⟨p, 1, none⟩ (.int .i64 v)) p s j := by
  subst hv
  obtain ⟨pr, h⟩ := h
  exact ⟨pr, by have := heap_setCell_same w p 1 _ 109 (.int .i64 (j : Int)) h; simpa using this⟩
theorem Rd.drewN (h : Rd w p s i) (n : Nat) : Rd (w.drewN n) p s i := h
end

theorem readByte_more (p i : Nat) (s : ByteArray) (w : World) (h : Rd w p s i) (hi : i < s.size) (hs : s.size ≤ 1000000000) :
    Calls Tryd.prog 129 #[.pointer (some ⟨p, 0, none⟩)] w fun e w' => e = .returned (.tuple #[.int .u8 (chr s i), .nilIface]) ∧ Rd w' p s (i + 1) ∧ w.grownBy w' (some p) := by
  have hlt := h.lt
  obtain ⟨pr, hb⟩ := h
  obtain ⟨pr', c0, c1, c2, fz⟩ := Rd.cells ⟨pr, hb⟩
  have f0 := fz 0
  have f1 := fz 1
  have f2 := fz 2
  have hix := fun (w : World) => run_index_chr (P := Tryd.prog) (w := w) 9 s .i64 (i : Int) i Tryd.underlying9 hi rfl
  have hge : ((i : Int) ≥ (s.size : Int)) = False := by simp; omega
  have HB := Lib.hid hb
  clear fz hb
  go_enter Tryd.func129, Tryd.ntmps129
  go_wp2
  go_quiet (fail)
  go_wp2
  go_quiet (fail)
  go_wp2
  go_ret2
  refine ⟨rfl, ?_, ?_⟩
  · rename_i n0
    exact (((Rd.set2 ⟨pr, HB.out⟩ _).drewN n0).drewN nq).set1 _ _ (by go_num)
  · rename_i n0
    exact grown_trans (grown_trans (grown_setCell w ⟨p, 2, none⟩ _) (grown_drewN _ (n0 + nq) _)) (grown_setCell _ ⟨p, 1, none⟩ _)

/-- io.EOF lies where it is laid. -/
def Eof (w : World) (v : Value) : Prop := w.cell? ⟨1, 0, none⟩ = some v

theorem readByte_end (p : Nat) (s : ByteArray) (ev : Value) (w : World) (h : Rd w p s s.size) (he : Eof w ev) (hp : 1 < p) (hs : s.size ≤ 1000000000) :
    Calls Tryd.prog 129 #[.pointer (some ⟨p, 0, none⟩)] w fun e w' => e = .returned (.tuple #[.int .u8 0, ev]) ∧ Rd w' p s s.size ∧ w.grownBy w' (some p) := by
  have hlt := h.lt
  obtain ⟨pr, hb⟩ := h
  obtain ⟨pr', c0, c1, c2, fz⟩ := Rd.cells ⟨pr, hb⟩
  have f0 := fz 0
  have f1 := fz 1
  have f2 := fz 2
  have hge : ((s.size : Int) ≥ (s.size : Int)) = True := by simp
  have HB := Lib.hid hb
  have ce : (w.setCell ⟨p, 2, none⟩ (.int .i64 (-1))).cell? ⟨1, 0, none⟩ = some ev := by rw [World.cell?_setCell_other _ _ _ _ (by intro h; simp only [Addr.mk.injEq] at h; omega)]; exact he
  clear fz hb
  go_enter Tryd.func129, Tryd.ntmps129
  go_wp2
  go_quiet (fail)
  go_wp2
  go_quiet (fail)
  go_wp2
  go_ret2
  refine ⟨rfl, ?_, ?_⟩
  · rename_i n0
    exact (((Rd.set2 ⟨pr, HB.out⟩ _).drewN n0).drewN nq)
  · rename_i n0
    exact grown_trans (grown_trans (grown_setCell w ⟨p, 2, none⟩ _) (grown_drewN _ n0 _)) (grown_drewN _ nq _)

theorem unreadByte_any (p i : Nat) (s : ByteArray) (w : World) (h : Rd w p s (i + 1)) (hs : i < 1000000000) :
    Calls Tryd.prog 130 #[.pointer (some ⟨p, 0, none⟩)] w fun e w' => e = .returned .nilIface ∧ Rd w' p s i ∧ w.grownBy w' (some p) := by
  have hlt := h.lt
  obtain ⟨pr, hb⟩ := h
  obtain ⟨pr', c0, c1, c2, fz⟩ := Rd.cells ⟨pr, hb⟩
  have f0 := fz 0
  have f1 := fz 1
  have f2 := fz 2
  have hge : (((i + 1 : Nat) : Int) ≤ 0) = False := by simp only [eq_iff_iff, iff_false]; omega
  have HB := Lib.hid hb
  clear fz hb
  go_enter Tryd.func130, Tryd.ntmps130
  go_wp2
  go_ret
  refine ⟨rfl, ?_, ?_⟩
  · exact (Rd.set2 ⟨pr, HB.out⟩ _).set1 _ _ (by simp)
  · exact grown_trans (grown_setCell w ⟨p, 2, none⟩ _) (grown_setCell _ ⟨p, 1, none⟩ _)

theorem newReader_any (s : ByteArray) (w : World) :
    Calls Tryd.prog 65 #[.string s] w fun e w' => e = .returned (.pointer (some ⟨w.heap.size, 0, none⟩)) ∧ Rd w' w.heap.size s 0 ∧ Below w.heap.size w w' := by
  go_enter Tryd.func65, Tryd.ntmps65
  go_wp2
  go_ret
  exact ⟨rfl, ⟨-1, heap_alloc_new w _⟩, (Below.refl _ w).alloc (Nat.le_refl _) _⟩
end Go.Proofs.YtidifjmjbfhpaaaDoor
namespace Go.Proofs.YtidifjmjbfhpaaaDoor
set_option linter.unusedVariables false
set_option linter.unusedSimpArgs false
open Go.RowKit

/-- A package-level variable holds v. -/
def Glob (w : World) (g : Nat) (v : Value) : Prop := w.cell? ⟨g, 0, none⟩ = some v
theorem Glob.grown {w w' : World} {g p : Nat} {v : Value} (h : Glob w g v) (hg : w.grownBy w' (some p)) (hp : g < p) : Glob w' g v :=
  (World.cell?_of_block (w := w) (hg.block g (World.block_lt_of_cell? _ _ h) (by simp; omega))).trans h
theorem Glob.below {w w' : World} {g B : Nat} {v : Value} (h : Glob w g v) (hb : Below B w w') (hp : g < B) : Glob w' g v :=
  (World.cell?_of_block (w := w) (hb.block g hp)).trans h

/-- Where the text goes on behind a sign. -/
def sgnOff (s : ByteArray) : Nat := if 0 < s.size ∧ (chr s 0 = 45 ∨ chr s 0 = 43) then 1 else 0
def sgnNeg (s : ByteArray) : Bool := decide (0 < s.size) && decide (chr s 0 = 45)

def rdr (p : Nat) : Value := .iface 90 (.pointer (some ⟨p, 0, none⟩))

theorem scanSign_empty (p : Nat) (s : ByteArray) (ev : Value) (w : World) (h : Rd w p s 0) (h0 : s.size = 0) (he : Glob w 1 ev) (hp : 1 < p) (hev : ∃ a, ev = .iface 143 (.pointer (some a))) :
    Calls Tryd.prog 88 #[rdr p] w fun e w' => e = .returned (.tuple #[.bool false, ev]) ∧ w.grownBy w' (some p) := by
  have K := Lib.hid (readByte_end p s ev w (by rw [h0]; exact h) he hp (by omega))
  obtain ⟨a, rfl⟩ := hev
  clear h h0 he
  unfold rdr
  go_enter Tryd.func88, Tryd.ntmps88
  go_wp2_with fail
  refine K.out.mono ?_
  rintro e w1 ⟨rfl, h1, h2⟩
  have G := Lib.hid h2
  clear h1 h2 K
  go_wp2
  go_ret2
  exact ⟨rfl, G.out⟩

theorem scanSign_some (p : Nat) (s : ByteArray) (w : World) (h : Rd w p s 0) (h0 : 0 < s.size) (hs : s.size ≤ 1000000000) :
    Calls Tryd.prog 88 #[rdr p] w fun e w' => e = .returned (.tuple #[.bool (sgnNeg s), .nilIface]) ∧ Rd w' p s (sgnOff s) ∧ w.grownBy w' (some p) := by
  have K := Lib.hid (readByte_more p 0 s w h h0 hs)
  have H0 := Lib.hid h0
  have hcl := chr_lt s 0
  obtain ⟨c, hc⟩ : ∃ c, Hid (c = chr s 0) := ⟨_, Lib.hid rfl⟩
  rw [← hc.out] at K hcl
  obtain ⟨neg, hneg⟩ : ∃ c, Hid (c = sgnNeg s) := ⟨_, Lib.hid rfl⟩
  obtain ⟨off, hoff⟩ : ∃ c, Hid (c = sgnOff s) := ⟨_, Lib.hid rfl⟩
  rw [← hneg.out, ← hoff.out]
  clear h h0
  unfold rdr
  by_cases h45 : c = 45
  · have e1 : neg = true := by rw [hneg.out]; unfold sgnNeg; simp [← hc.out, h45, H0.out]
    have e2 : off = 1 := by rw [hoff.out]; unfold sgnOff; rw [if_pos ⟨H0.out, .inl (by rw [← hc.out, h45])⟩]
    subst e1 e2
    subst h45
    go_enter Tryd.func88, Tryd.ntmps88
    go_wp2_with fail
    refine K.out.mono ?_
    rintro e w1 ⟨rfl, h1, h2⟩
    have G := Lib.hid (And.intro h1 h2)
    clear h1 h2 K
    go_wp2
    go_ret2
    exact ⟨rfl, G.out.1, G.out.2⟩
  have e1 : neg = false := by rw [hneg.out]; unfold sgnNeg; simp [← hc.out, h45]
  by_cases h43 : c = 43
  · have e2 : off = 1 := by rw [hoff.out]; unfold sgnOff; rw [if_pos ⟨H0.out, .inr (by rw [← hc.out, h43])⟩]
    subst e1 e2
    subst h43
    go_enter Tryd.func88, Tryd.ntmps88
    go_wp2_with fail
    refine K.out.mono ?_
    rintro e w1 ⟨rfl, h1, h2⟩
    have G := Lib.hid (And.intro h1 h2)
    clear h1 h2 K
    go_wp2
    go_ret2
    exact ⟨rfl, G.out.1, G.out.2⟩
  · have e2 : off = 0 := by
      rw [hoff.out]; unfold sgnOff; rw [if_neg]
      rintro ⟨_, h | h⟩
      · exact h45 (by rw [hc.out, h])
      · exact h43 (by rw [hc.out, h])
    subst e1 e2
    have t1 : ((c : Int) == 45) = false := by simp; omega
    have t2 : ((c : Int) == 43) = false := by simp; omega
    go_enter Tryd.func88, Tryd.ntmps88
    go_wp2_with fail
    refine K.out.mono ?_
    rintro e w1 ⟨rfl, h1, h2⟩
    have KU := Lib.hid (unreadByte_any p 0 s w1 h1 (by omega))
    have G := Lib.hid h2
    clear h1 h2 K
    go_wp2_with fail
    refine KU.out.mono ?_
    rintro e w2 ⟨rfl, h1, h2⟩
    have G2 := Lib.hid (And.intro h1 (grown_trans G.out h2))
    clear h1 h2 KU
    go_wp2
    go_ret2
    exact ⟨rfl, G2.out.1, G2.out.2⟩

end Go.Proofs.YtidifjmjbfhpaaaDoor
namespace Go.Proofs.YtidifjmjbfhpaaaDoor
set_option linter.unusedVariables false
set_option linter.unusedSimpArgs false
open Go.RowKit

/-- The value of a sign in base b (63 where it has none). -/
def dgt (c b : Nat) : Nat := if 48 ≤ c ∧ c ≤ 57 then c - 48 else if 97 ≤ c ∧ c ≤ 122 then c - 87 else if 65 ≤ c ∧ c ≤ 90 then (if b ≤ 36 then c - 55 else c - 29) else 63
def fig (c b : Nat) : Int := if dgt c b < b then (dgt c b : Int) else -1
theorem dgt_lt (c b : Nat) (h : c < 256) : dgt c b ≤ 63 := by unfold dgt; split <;> (try split) <;> (try split) <;> (try split) <;> omega

/-- The ways in which a sign can lie. -/
theorem dgt_ways (c b : Nat) : (48 ≤ c ∧ c ≤ 57 ∧ dgt c b = c - 48) ∨ (97 ≤ c ∧ c ≤ 122 ∧ dgt c b = c - 87) ∨ (65 ≤ c ∧ c ≤ 90 ∧ b ≤ 36 ∧ dgt c b = c - 55) ∨ (65 ≤ c ∧ c ≤ 90 ∧ 36 < b ∧ dgt c b = c - 29) ∨
    ((c < 48 ∨ (57 < c ∧ c < 65) ∨ (90 < c ∧ c < 97) ∨ 122 < c) ∧ dgt c b = 63) := by
  unfold dgt
  by_cases h1 : 48 ≤ c ∧ c ≤ 57
  · rw [if_pos h1]; omega
  · rw [if_neg h1]
    by_cases h2 : 97 ≤ c ∧ c ≤ 122
    · rw [if_pos h2]; omega
    · rw [if_neg h2]
      by_cases h3 : 65 ≤ c ∧ c ≤ 90
      · rw [if_pos h3]
        by_cases h4 : b ≤ 36
        · rw [if_pos h4]; omega
        · rw [if_neg h4]; omega
      · rw [if_neg h3]; omega

theorem figure_any (c b : Nat) (w : World) (hc : c < 256) (hb : 2 ≤ b) (hb2 : b ≤ 62) :
    Calls Tryd.prog 45 #[.int .u8 c, .int .i64 b] w fun e w' => e = .returned (.int .i64 (fig c b)) ∧ w' = w := by
  have hw := dgt_ways c b
  have HF := Lib.hid (show fig c b = if dgt c b < b then (dgt c b : Int) else -1 from rfl)
  obtain ⟨v, hv⟩ : ∃ v, Hid (v = dgt c b) := ⟨_, Lib.hid rfl⟩
  obtain ⟨r, hr⟩ : ∃ v, Hid (v = fig c b) := ⟨_, Lib.hid rfl⟩
  rw [← hv.out] at hw HF
  rw [← hr.out] at HF ⊢
  rcases hw with ⟨h1, h2, h3⟩ | ⟨h1, h2, h3⟩ | ⟨h1, h2, h4, h3⟩ | ⟨h1, h2, h4, h3⟩ | ⟨h1, h3⟩
  · by_cases hvb : v < b
    · have HR := Lib.hid (show r = (v : Int) by rw [HF.out, if_pos hvb])
      have H3 := Lib.hid h3
      have ev : (c : Int) - 48 = (v : Int) := by omega
      have hlt : (v : Int) < (b : Int) := by omega
      clear hvb h3
      go_enter Tryd.func45, Tryd.ntmps45
      go_wp2
      go_ret
      exact ⟨by rw [HR.out]; rfl, rfl⟩
    · have HR := Lib.hid (show r = -1 by rw [HF.out, if_neg hvb])
      have H3 := Lib.hid h3
      have ev : (c : Int) - 48 = (v : Int) := by omega
      have hlt : (b : Int) ≤ (v : Int) := by omega
      clear hvb h3
      go_enter Tryd.func45, Tryd.ntmps45
      go_wp2
      go_ret
      exact ⟨by rw [HR.out]; rfl, rfl⟩
  · by_cases hvb : v < b
    · have HR := Lib.hid (show r = (v : Int) by rw [HF.out, if_pos hvb])
      have H3 := Lib.hid h3
      have ev : (c : Int) - 97 + 10 = (v : Int) := by omega
      have hlt : (v : Int) < (b : Int) := by omega
      clear hvb h3
      go_enter Tryd.func45, Tryd.ntmps45
      go_wp2
      go_ret
      exact ⟨by rw [HR.out]; rfl, rfl⟩
    · have HR := Lib.hid (show r = -1 by rw [HF.out, if_neg hvb])
      have H3 := Lib.hid h3
      have ev : (c : Int) - 97 + 10 = (v : Int) := by omega
      have hlt : (b : Int) ≤ (v : Int) := by omega
      clear hvb h3
      go_enter Tryd.func45, Tryd.ntmps45
      go_wp2
      go_ret
      exact ⟨by rw [HR.out]; rfl, rfl⟩
  · by_cases hvb : v < b
    · have HR := Lib.hid (show r = (v : Int) by rw [HF.out, if_pos hvb])
      have H3 := Lib.hid h3
      have ev : (c : Int) - 65 + 10 = (v : Int) := by omega
      have hlt : (v : Int) < (b : Int) := by omega
      clear hvb h3
      go_enter Tryd.func45, Tryd.ntmps45
      go_wp2
      go_ret
      exact ⟨by rw [HR.out]; rfl, rfl⟩
    · have HR := Lib.hid (show r = -1 by rw [HF.out, if_neg hvb])
      have H3 := Lib.hid h3
      have ev : (c : Int) - 65 + 10 = (v : Int) := by omega
      have hlt : (b : Int) ≤ (v : Int) := by omega
      clear hvb h3
      go_enter Tryd.func45, Tryd.ntmps45
      go_wp2
      go_ret
      exact ⟨by rw [HR.out]; rfl, rfl⟩
  · by_cases hvb : v < b
    · have HR := Lib.hid (show r = (v : Int) by rw [HF.out, if_pos hvb])
      have H3 := Lib.hid h3
      have ev : (c : Int) - 65 + 36 = (v : Int) := by omega
      have hlt : (v : Int) < (b : Int) := by omega
      clear hvb h3
      go_enter Tryd.func45, Tryd.ntmps45
      go_wp2
      go_ret
      exact ⟨by rw [HR.out]; rfl, rfl⟩
    · have HR := Lib.hid (show r = -1 by rw [HF.out, if_neg hvb])
      have H3 := Lib.hid h3
      have ev : (c : Int) - 65 + 36 = (v : Int) := by omega
      have hlt : (b : Int) ≤ (v : Int) := by omega
      clear hvb h3
      go_enter Tryd.func45, Tryd.ntmps45
      go_wp2
      go_ret
      exact ⟨by rw [HR.out]; rfl, rfl⟩
  · have HR := Lib.hid (show r = -1 by rw [HF.out, if_neg (by omega)])
    clear h3
    rcases h1 with h1 | ⟨h1, h2⟩ | ⟨h1, h2⟩ | h1
    all_goals
      go_enter Tryd.func45, Tryd.ntmps45
      go_wp2
      go_ret
      exact ⟨by rw [HR.out]; rfl, rfl⟩

end Go.Proofs.YtidifjmjbfhpaaaDoor
namespace Go.Proofs.YtidifjmjbfhpaaaDoor
set_option linter.unusedVariables false
set_option linter.unusedSimpArgs false
open Go.RowKit

/-- The value of k digits, the highest first. -/
def pv (d : Nat → Nat) (b : Nat) : Nat → Nat
  | 0 => 0
  | k + 1 => pv d b k * b + d k
/-- The digits of a text from o on. -/
def dgs (s : ByteArray) (o b j : Nat) : Nat := dgt (chr s (o + j)) b

theorem pv_congr {d d' : Nat → Nat} {b : Nat} : ∀ {k : Nat}, (∀ j, j < k → d j = d' j) → pv d b k = pv d' b k
  | 0, _ => rfl
  | k + 1, h => by
    show pv d b k * b + d k = pv d' b k * b + d' k
    rw [pv_congr (fun j hj => h j (by omega)), h k (by omega)]

theorem pv_lt {d : Nat → Nat} {b : Nat} : ∀ {k : Nat}, (∀ j, j < k → d j < b) → pv d b k < b ^ k
  | 0, _ => by simp [pv]
  | k + 1, h => by
    have h1 := pv_lt (k := k) (fun j hj => h j (by omega))
    have h2 := h k (by omega)
    show pv d b k * b + d k < b ^ (k + 1)
    rw [Nat.pow_succ]
    have h3 : (pv d b k + 1) * b ≤ b ^ k * b := Nat.mul_le_mul_right b h1
    rw [Nat.add_mul, Nat.one_mul] at h3
    omega

theorem pv_split (d : Nat → Nat) (b P : Nat) : ∀ i, pv d b (P + i) = pv d b P * b ^ i + pv (fun t => d (P + t)) b i
  | 0 => by simp [pv]
  | i + 1 => by
    show pv d b (P + i) * b + d (P + i) = pv d b P * b ^ (i + 1) + (pv (fun t => d (P + t)) b i * b + d (P + i))
    rw [pv_split d b P i, Nat.add_mul, Nat.pow_succ, Nat.mul_assoc, Nat.add_assoc]

theorem val_rev (B : Nat) (f : Nat → Nat) : ∀ n, val B (fun j => f (n - 1 - j)) n = pv f B n
  | 0 => rfl
  | n + 1 => by
    rw [val_head]
    have h : val B (fun i => f (n + 1 - 1 - (i + 1))) n = val B (fun j => f (n - 1 - j)) n := val_congr fun i hi => by
      show f (n + 1 - 1 - (i + 1)) = f (n - 1 - i)
      rw [show n + 1 - 1 - (i + 1) = n - 1 - i by omega]
    rw [h, val_rev B f n]
    show f (n + 1 - 1 - 0) + B * pv f B n = pv f B n * B + f n
    rw [show n + 1 - 1 - 0 = n by omega, Nat.mul_comm, Nat.add_comm]

theorem pv_nlen {d : Nat → Nat} {b k : Nat} (hb : b ≤ 62) (h : ∀ j, j < k → d j < b) : nlen BW (pv d b k) ≤ k := by
  rw [nlen_le_iff BW_one]
  exact Nat.lt_of_lt_of_le (pv_lt h) (Nat.pow_le_pow_left (by rw [BW_eq]; omega) k)

/-- What a reader that stands at i has read: the sign there, or that it is at its end. -/
def Look (p : Nat) (s : ByteArray) (ev : Value) (i ch : Nat) (er : Value) (w : World) : Prop :=
  (i < s.size ∧ ch = chr s i ∧ er = .nilIface ∧ Rd w p s (i + 1)) ∨ (i = s.size ∧ ch = 0 ∧ er = ev ∧ Rd w p s s.size)

theorem readByte_look (p i : Nat) (s : ByteArray) (ev : Value) (w : World) (h : Rd w p s i) (hi : i ≤ s.size) (he : Glob w 1 ev) (hp : 1 < p) (hs : s.size ≤ 1000000000) :
    Calls Tryd.prog 129 #[.pointer (some ⟨p, 0, none⟩)] w fun e w' => ∃ (ch : Nat) (er : Value), e = .returned (.tuple #[.int .u8 ch, er]) ∧ Look p s ev i ch er w' ∧ w.grownBy w' (some p) := by
  by_cases h1 : i < s.size
  · refine (readByte_more p i s w h h1 hs).mono ?_
    rintro e w' ⟨rfl, h2, h3⟩
    exact ⟨_, _, rfl, .inl ⟨h1, rfl, rfl, h2⟩, h3⟩
  · obtain rfl : i = s.size := by omega
    refine (readByte_end p s ev w h he hp hs).mono ?_
    rintro e w' ⟨rfl, h2, h3⟩
    exact ⟨0, _, rfl, .inr ⟨rfl, rfl, rfl, h2⟩, h3⟩

end Go.Proofs.YtidifjmjbfhpaaaDoor
namespace Go.Proofs.YtidifjmjbfhpaaaDoor
set_option linter.unusedVariables false
set_option linter.unusedSimpArgs false
open Go.RowKit

/-- The text is a number in base b. -/
def GoodText (s : ByteArray) (b : Nat) : Prop := sgnOff s < s.size ∧ ∀ j, j < s.size - sgnOff s → dgs s (sgnOff s) b j < b
def textVal (s : ByteArray) (b : Nat) : Nat := pv (dgs s (sgnOff s) b) b (s.size - sgnOff s)

theorem sgnOff_le (s : ByteArray) : sgnOff s ≤ s.size := by
  unfold sgnOff
  split <;> omega

end Go.Proofs.YtidifjmjbfhpaaaDoor
