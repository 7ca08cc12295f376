import PyProof.Rows.All
import Wide.All
import OpenK.AllK
import Wide.FinOn
import Lean
import PySem.Challenge.RW_lk0009_01
open PySem PySem.W PyProof.Rows
set_option Elab.async false

namespace Mine
set_option maxRecDepth 100000 in
set_option maxHeartbeats 8000000 in
open_top hd for PySem.Challenge.rw_lk0009_01
end Mine

namespace Mine
section
set_option maxRecDepth 100000

/-! words and rounds -/
abbrev Wd := BitVec 32
abbrev St := Nat → Wd
structure Op where
  z : Nat
  x : Nat
  y : Nat
  k : Nat
deriving DecidableEq

def rot (t : Wd) (k : Nat) : Wd := (t <<< k) ||| (t >>> (32 - k))
def upd (V : St) (z : Nat) (v : Wd) : St := fun j => if j = z then v else V j
def stp (V : St) (o : Op) : St := upd V o.z (V o.z ^^^ rot (V o.x + V o.y) o.k)
def run (os : List Op) (V : St) : St := os.foldl stp V

def colA : List Op := [⟨4, 0, 12, 7⟩, ⟨8, 4, 0, 9⟩, ⟨12, 8, 4, 13⟩, ⟨0, 12, 8, 18⟩]
def colB : List Op := [⟨9, 5, 1, 7⟩, ⟨13, 9, 5, 9⟩, ⟨1, 13, 9, 13⟩, ⟨5, 1, 13, 18⟩]
def colC : List Op := [⟨14, 10, 6, 7⟩, ⟨2, 14, 10, 9⟩, ⟨6, 2, 14, 13⟩, ⟨10, 6, 2, 18⟩]
def colD : List Op := [⟨3, 15, 11, 7⟩, ⟨7, 3, 15, 9⟩, ⟨11, 7, 3, 13⟩, ⟨15, 11, 7, 18⟩]
def rowA : List Op := [⟨1, 0, 3, 7⟩, ⟨2, 1, 0, 9⟩, ⟨3, 2, 1, 13⟩, ⟨0, 3, 2, 18⟩]
def rowB : List Op := [⟨6, 5, 4, 7⟩, ⟨7, 6, 5, 9⟩, ⟨4, 7, 6, 13⟩, ⟨5, 4, 7, 18⟩]
def rowC : List Op := [⟨11, 10, 9, 7⟩, ⟨8, 11, 10, 9⟩, ⟨9, 8, 11, 13⟩, ⟨10, 9, 8, 18⟩]
def rowD : List Op := [⟨12, 15, 14, 7⟩, ⟨13, 12, 15, 9⟩, ⟨14, 13, 12, 13⟩, ⟨15, 14, 13, 18⟩]
def dblOps : List Op := colA ++ (colB ++ (colC ++ (colD ++ (rowA ++ (rowB ++ (rowC ++ rowD))))))
def dbl (V : St) : St := run dblOps V
def core (V : St) : St := fun j => V j + dbl (dbl (dbl (dbl V))) j

theorem run_cons (o : Op) (r : List Op) (V : St) : run (o :: r) V = run r (stp V o) := List.foldl_cons ..
theorem run_append (a b : List Op) (V : St) : run (a ++ b) V = run b (run a V) := List.foldl_append ..

/-! all the top bits turned -/
def top : Wd := 0x80000000#32
theorem top_top : top + top = 0#32 := by decide
theorem add_top_eq (a b : Wd) : (a + top) + (b + top) = a + b := by
  rw [show (a + top) + (b + top) = a + b + (top + top) by ac_rfl, top_top, BitVec.add_zero]
theorem add_top_xor (x : Wd) : x + top = x ^^^ top := by
  apply BitVec.eq_of_toNat_eq
  have hx := x.isLt
  have ht : top.toNat = 2 ^ 31 := by decide
  rw [BitVec.toNat_add, BitVec.toNat_xor, ht]
  have small : ∀ y : Nat, y < 2 ^ 31 → y ^^^ 2 ^ 31 = y + 2 ^ 31 := by
    intro y hy
    have h1 := Nat.two_pow_add_eq_or_of_lt hy 1
    rw [Nat.mul_one] at h1
    rw [Nat.add_comm, h1]
    apply Nat.eq_of_testBit_eq
    intro i
    rw [Nat.testBit_xor, Nat.testBit_or, Nat.testBit_two_pow]
    by_cases hi : 31 = i
    · subst hi
      rw [Nat.testBit_lt_two_pow hy]; rfl
    · simp [hi]
  by_cases h : x.toNat < 2 ^ 31
  · rw [small _ h]; exact Nat.mod_eq_of_lt (by omega)
  · have h2 := small (x.toNat - 2 ^ 31) (by omega)
    rw [show x.toNat - 2 ^ 31 + 2 ^ 31 = x.toNat by omega] at h2
    rw [← h2, Nat.xor_assoc, Nat.xor_self, Nat.xor_zero]
    omega
theorem xor_top (x r : Wd) : (x + top) ^^^ r = (x ^^^ r) + top := by
  rw [add_top_xor, add_top_xor]
  ac_rfl
def fl (V : St) : St := fun j => V j + top
theorem stp_fl (V : St) (o : Op) : stp (fl V) o = fl (stp V o) := by
  funext j
  show (if j = o.z then (V o.z + top) ^^^ rot ((V o.x + top) + (V o.y + top)) o.k else V j + top) = (if j = o.z then V o.z ^^^ rot (V o.x + V o.y) o.k else V j) + top
  rw [add_top_eq, xor_top]
  split <;> rfl
theorem run_fl (os : List Op) : ∀ V : St, run os (fl V) = fl (run os V) := by
  induction os with
  | nil => intro V; rfl
  | cons o r ih => intro V; rw [run_cons, run_cons, stp_fl, ih]
theorem core_fl (V : St) : core (fl V) = core V := by
  funext j
  have d : ∀ V : St, dbl (fl V) = fl (dbl V) := fun V => by unfold dbl; exact run_fl dblOps V
  unfold core
  rw [d, d, d, d]
  exact add_top_eq _ _

/-! squares that sum to nought wherever a round looks -/
theorem rot_zero (k : Nat) : rot 0#32 k = 0#32 := by
  unfold rot
  simp
theorem stp_still (V : St) (o : Op) (h : V o.x + V o.y = 0#32) : stp V o = V := by
  funext j
  unfold stp upd
  split
  · rename_i e; subst e; rw [h, rot_zero, BitVec.xor_zero]
  · rfl
theorem run_still (os : List Op) (V : St) (h : ∀ o ∈ os, V o.x + V o.y = 0#32) : run os V = V := by
  induction os with
  | nil => rfl
  | cons o r ih =>
    rw [run_cons, stp_still V o (h o (.head _)), ih fun p hp => h p (.tail _ hp)]
theorem core_still (V : St) (h : ∀ o ∈ dblOps, V o.x + V o.y = 0#32) : core V = fun j => V j + V j := by
  funext j
  unfold core dbl
  rw [run_still _ V h, run_still _ V h, run_still _ V h, run_still _ V h]

/-! places moved -/
def Op.map (p : Nat → Nat) (o : Op) : Op := ⟨p o.z, p o.x, p o.y, o.k⟩
theorem stp_map (p : Nat → Nat) (V V' : St) (o : Op) (S : Nat → Prop) (inj : ∀ i j, S i → S j → p i = p j → i = j) (hz : S o.z) (hx : S o.x) (hy : S o.y)
    (h : ∀ j, S j → V' (p j) = V j) : ∀ j, S j → stp V' (o.map p) (p j) = stp V o j := by
  intro j hj
  unfold stp upd Op.map
  dsimp only
  by_cases e : j = o.z
  · subst e
    rw [if_pos rfl, if_pos rfl, h _ hz, h _ hx, h _ hy]
  · rw [if_neg e, if_neg fun q => e (inj _ _ hj hz q), h _ hj]
theorem run_map (p : Nat → Nat) (S : Nat → Prop) (inj : ∀ i j, S i → S j → p i = p j → i = j) (os : List Op) (ho : ∀ o ∈ os, S o.z ∧ S o.x ∧ S o.y) :
    ∀ V V' : St, (∀ j, S j → V' (p j) = V j) → ∀ j, S j → run (os.map (Op.map p)) V' (p j) = run os V j := by
  induction os with
  | nil => intro V V' h; exact h
  | cons o r ih =>
    intro V V' h
    have ⟨a, b, c⟩ := ho o (.head _)
    exact ih (fun q hq => ho q (.tail _ hq)) _ _ (stp_map p V V' o S inj a b c h)

/-! steps that touch other places may change their order -/
def apart (a b : Op) : Bool := a.z != b.z && a.z != b.x && a.z != b.y && b.z != a.x && b.z != a.y
theorem stp_comm (V : St) (a b : Op) (h : apart a b = true) : stp (stp V a) b = stp (stp V b) a := by
  unfold apart at h
  simp only [Bool.and_eq_true, bne_iff_ne, ne_eq] at h
  obtain ⟨⟨⟨⟨h1, h2⟩, h3⟩, h4⟩, h5⟩ := h
  funext j
  unfold stp upd
  by_cases e1 : j = a.z <;> by_cases e2 : j = b.z
  · exact absurd (e1.symm.trans e2) h1
  · subst e1; simp [e2, Ne.symm h4, Ne.symm h5]
  · subst e2; simp [e1, Ne.symm h2, Ne.symm h3]
  · simp [e1, e2]
theorem run_stp_comm (a : Op) (os : List Op) (h : ∀ b ∈ os, apart a b = true) : ∀ V, run os (stp V a) = stp (run os V) a := by
  induction os with
  | nil => intro V; rfl
  | cons b r ih =>
    intro V
    show run r (stp (stp V a) b) = stp (run r (stp V b)) a
    rw [stp_comm V a b (h b (.head _)), ih fun c hc => h c (.tail _ hc)]
theorem run_comm (as bs : List Op) (h : ∀ a ∈ as, ∀ b ∈ bs, apart a b = true) : ∀ V, run (as ++ bs) V = run (bs ++ as) V := by
  induction as with
  | nil => intro V; rw [List.append_nil]; rfl
  | cons a r ih =>
    intro V
    show run (r ++ bs) (stp V a) = _
    rw [ih (fun c hc => h c (.tail _ hc)), run_append, run_stp_comm a bs (h a (.head _)), run_append]
    rfl

def mv (j : Nat) : Nat := (j / 4 + 1) % 4 * 4 + (j % 4 + 1) % 4
theorem mv_inj : ∀ i j, i < 16 → j < 16 → mv i = mv j → i = j := by
  intro i j hi hj h
  unfold mv at h
  omega
theorem mv_lt (j : Nat) : mv j < 16 := by unfold mv; omega
theorem dbl_ops_in : ∀ o ∈ dblOps, o.z < 16 ∧ o.x < 16 ∧ o.y < 16 := by decide
theorem run_turned (V : St) : run (dblOps.map (Op.map mv)) V = dbl V := by
  have e : dblOps.map (Op.map mv) = colB ++ (colC ++ (colD ++ (colA ++ (rowB ++ (rowC ++ (rowD ++ rowA)))))) := by decide
  have c : ∀ V, run (colB ++ (colC ++ (colD ++ colA))) V = run (colA ++ (colB ++ (colC ++ colD))) V := fun V => by
    have := run_comm colA (colB ++ (colC ++ colD)) (by decide) V
    rw [this]; rfl
  have r : ∀ V, run (rowB ++ (rowC ++ (rowD ++ rowA))) V = run (rowA ++ (rowB ++ (rowC ++ rowD))) V := fun V => by
    have := run_comm rowA (rowB ++ (rowC ++ rowD)) (by decide) V
    rw [this]; rfl
  rw [e]
  have s1 : colB ++ (colC ++ (colD ++ (colA ++ (rowB ++ (rowC ++ (rowD ++ rowA)))))) = (colB ++ (colC ++ (colD ++ colA))) ++ (rowB ++ (rowC ++ (rowD ++ rowA))) := rfl
  have s2 : dblOps = (colA ++ (colB ++ (colC ++ colD))) ++ (rowA ++ (rowB ++ (rowC ++ rowD))) := rfl
  unfold dbl
  rw [s1, s2, run_append _ (rowB ++ (rowC ++ (rowD ++ rowA))), run_append _ (rowA ++ (rowB ++ (rowC ++ rowD))), c, r]
theorem dbl_mv (V V' : St) (h : ∀ j, j < 16 → V' (mv j) = V j) : ∀ j, j < 16 → dbl V' (mv j) = dbl V j := by
  rw [← run_turned V']
  exact run_map mv (· < 16) mv_inj dblOps dbl_ops_in V V' h
theorem core_mv (V V' : St) (h : ∀ j, j < 16 → V' (mv j) = V j) : ∀ j, j < 16 → core V' (mv j) = core V j := by
  intro j hj
  unfold core
  rw [h j hj, dbl_mv _ _ (dbl_mv _ _ (dbl_mv _ _ (dbl_mv _ _ h))) j hj]
end
end Mine

namespace Mine
section
set_option maxRecDepth 100000
theorem nat_xor_add (m n : Nat) : (m ^^^ n) + 2 * (m &&& n) = m + n := by
  induction m using Nat.strongRecOn generalizing n with
  | _ m ih =>
    by_cases h : m = 0
    · subst h; simp
    · have d := ih (m / 2) (by omega) (n / 2)
      have ex := Nat.xor_div_two (a := m) (b := n)
      have ea := Nat.and_div_two (a := m) (b := n)
      have mx : (m ^^^ n) % 2 = (m % 2 + n % 2) % 2 := by
        have := Nat.xor_mod_two_pow (a := m) (b := n) (n := 1)
        rw [Nat.pow_one] at this
        rw [this]
        rcases Nat.mod_two_eq_zero_or_one m with a | a <;> rcases Nat.mod_two_eq_zero_or_one n with b | b <;> rw [a, b] <;> rfl
      have ma : (m &&& n) % 2 = (m % 2) * (n % 2) := by
        have := Nat.and_mod_two_pow (a := m) (b := n) (n := 1)
        rw [Nat.pow_one] at this
        rw [this]
        rcases Nat.mod_two_eq_zero_or_one m with a | a <;> rcases Nat.mod_two_eq_zero_or_one n with b | b <;> rw [a, b] <;> rfl
      rw [← ex, ← ea] at d
      rcases Nat.mod_two_eq_zero_or_one m with a | a <;> rcases Nat.mod_two_eq_zero_or_one n with b | b <;> rw [a, b] at ma <;> omega
theorem and_nat (m n : Nat) : Builtin.bitAnd (m : Int) (n : Int) = ((m &&& n : Nat) : Int) := by
  rw [bitAnd_pp (Int.natCast_nonneg m) (Int.natCast_nonneg n), Int.toNat_natCast, Int.toNat_natCast]
theorem or_nat (m n : Nat) : Builtin.bitOr (m : Int) (n : Int) = ((m ||| n : Nat) : Int) := by
  rw [bitOr_and, and_nat]
  have := nat_or_add_and m n
  omega
theorem xor_nat (m n : Nat) : Builtin.bitXor (m : Int) (n : Int) = ((m ^^^ n : Nat) : Int) := by
  rw [bitXor_and, and_nat]
  have := nat_xor_add m n
  omega

/-- a word as an int -/
def wi (x : Wd) : Int := (x.toNat : Int)
theorem wi_nonneg (x : Wd) : 0 ≤ wi x := Int.natCast_nonneg _
theorem wi_lt (x : Wd) : wi x < 4294967296 := by have := x.isLt; unfold wi; omega
theorem wi_inj {x y : Wd} (h : wi x = wi y) : x = y := BitVec.eq_of_toNat_eq (by unfold wi at h; omega)
theorem wi_add (x y : Wd) : Builtin.bitAnd (wi x + wi y) 4294967295 = wi (x + y) := by
  rw [bitAnd_m32]
  unfold wi
  rw [BitVec.toNat_add]
  omega
theorem wi_mask (t : Wd) (M : Nat) : Builtin.bitAnd (wi t) (M : Int) = ((t.toNat &&& M : Nat) : Int) := and_nat _ _
/-- what one step of a round makes of a word, as the code reckons it -/
theorem wi_rot (z t : Wd) (k : Nat) (hk : k ≤ 32) :
    Builtin.bitXor (wi z) (Builtin.bitOr (Builtin.bitAnd (wi t) ((2 ^ (32 - k) - 1 : Nat) : Int) * 2 ^ k) ((wi t).fdiv (2 ^ (32 - k)))) = wi (z ^^^ rot t k) := by
  have e1 : Builtin.bitAnd (wi t) ((2 ^ (32 - k) - 1 : Nat) : Int) * 2 ^ k = (((t.toNat % 2 ^ (32 - k)) * 2 ^ k : Nat) : Int) := by
    rw [wi_mask, Nat.and_two_pow_sub_one_eq_mod]
    simp
  have e2 : (wi t).fdiv (2 ^ (32 - k)) = ((t.toNat / 2 ^ (32 - k) : Nat) : Int) := by
    unfold wi
    rw [Int.fdiv_eq_ediv_of_nonneg _ (Int.pow_nonneg (by decide))]
    simp
  rw [e1, e2, or_nat]
  unfold wi
  rw [xor_nat, BitVec.toNat_xor]
  congr 2
  unfold rot
  rw [BitVec.toNat_or, BitVec.toNat_shiftLeft, BitVec.toNat_ushiftRight, Nat.shiftLeft_eq, Nat.shiftRight_eq_div_pow]
  congr 1
  have : (2 : Nat) ^ 32 = 2 ^ (32 - k) * 2 ^ k := by rw [← Nat.pow_add]; congr 1; omega
  rw [this, Nat.mul_mod_mul_right]
end
end Mine

namespace Mine
section
set_option maxRecDepth 100000

def slotNames : List String := ["v0", "v1", "v2", "v3", "v4", "v5", "v6", "v7", "v8", "v9", "v10", "v11", "v12", "v13", "v14", "v15",
  "b0", "b1", "b2", "b3", "b4", "b5", "b6", "b7", "b8", "b9", "b10", "b11", "b12", "b13", "b14", "b15", "t", "i"]
def slot (j : Nat) : Str := Str.ofString (slotNames.getD j "")
theorem slot_inj : ∀ i, i < 34 → ∀ j, j < 34 → slot i = slot j → i = j := by decide +kernel
theorem slot_ok : ∀ i, i < 34 → (slot i == ("__debug__" : Str)) = false := by decide +kernel

/-- the frame holds the words at the places below 32, and the turn's number -/
def Holds (m : Str → Option Value) (V : St) (i : Int) : Prop := (∀ j, j < 32 → ∃ t, m (slot j) = some (.int (wi (V j)) t)) ∧ ∃ t, m (slot 33) = some (.int i t)

theorem Holds.put {m : Str → Option Value} {V : St} {i : Int} (H : Holds m V i) {z : Nat} (hz : z < 32) (v : Wd) (t : Tok) :
    Holds (fun y => if y = slot z then some (.int (wi v) t) else m y) (upd V z v) i := by
  refine ⟨fun j hj => ?_, ?_⟩
  · by_cases e : j = z
    · subst e
      exact ⟨t, by simp [upd]⟩
    · obtain ⟨t', h⟩ := H.1 j hj
      have ne : ¬ slot j = slot z := fun q => e (slot_inj j (by omega) z (by omega) q)
      exact ⟨t', by simp only [upd, e, ne, h, if_false]⟩
  · obtain ⟨t', h⟩ := H.2
    exact ⟨t', by simp [show ¬ slot 33 = slot z from fun q => absurd (slot_inj 33 (by omega) z (by omega) q) (by omega), h]⟩
theorem Holds.putT {m : Str → Option Value} {V : St} {i : Int} (H : Holds m V i) (v : Value) :
    Holds (fun y => if y = slot 32 then some v else m y) V i := by
  refine ⟨fun j hj => ?_, ?_⟩
  · obtain ⟨t', h⟩ := H.1 j hj
    exact ⟨t', by simp [show ¬ slot j = slot 32 from fun q => absurd (slot_inj j (by omega) 32 (by omega) q) (by omega), h]⟩
  · obtain ⟨t', h⟩ := H.2
    exact ⟨t', by simp [show ¬ slot 33 = slot 32 from fun q => absurd (slot_inj 33 (by omega) 32 (by omega) q) (by omega), h]⟩
theorem Holds.putI {m : Str → Option Value} {V : St} {i : Int} (H : Holds m V i) (v : Int) (t : Tok) :
    Holds (fun y => if y = slot 33 then some (.int v t) else m y) V v := by
  refine ⟨fun j hj => ?_, ⟨t, by simp⟩⟩
  obtain ⟨t', h⟩ := H.1 j hj
  exact ⟨t', by simp [show ¬ slot j = slot 33 from fun q => absurd (slot_inj j (by omega) 33 (by omega) q) (by omega), h]⟩

section
variable {prog : Program} {w : World} {A : Around} {E : Value → Shared → Prop} {s : Shared} {cn : Str} {cs : Scope} {L a : Addr} {cd : Value} {h₀ : Heap} {m : Str → Option Value} {news : List (Addr × Obj)} {V : St} {i : Int}

def Local (cn : Str) (cs : Scope) (L a : Addr) (cd : Value) : Prop := cs.kind = .function ∧ ∀ j, j < 34 → (envOf cn cs L a cd).kindOf (slot j) = some .local

theorem ld_slot {hh : Heap} (C : Local cn cs L a cd) (F : Fr h₀ L hh m) {x : Str} {j : Nat} (hj : j < 34) (ex : x = slot j) {pos : Pos} {v : Value} {Q : Value → Shared → Prop} (hv : m (slot j) = some v) (h : Q v s) (e : s.heap = hh := by rfl) :
    wpAny (model prog w) A (eval (.Name x pos) (envOf cn cs L a cd)) Q E s := by
  subst ex e
  exact ld F hv h C.1 (C.2 j hj) (slot_ok j hj)
theorem ldn_slot {hh : Heap} (C : Local cn cs L a cd) (F : Fr h₀ L hh m) {x : Str} {j : Nat} (hj : j < 34) (ex : x = slot j) {v : Value} {Q : Value → Shared → Prop} (hv : m (slot j) = some v) (h : Q v s) (e : s.heap = hh := by rfl) :
    wpAny (model prog w) A (loadName (envOf cn cs L a cd) x) Q E s := by
  subst ex e
  exact ldn F hv h C.1 (C.2 j hj)
theorem st_slot {hh : Heap} (C : Local cn cs L a cd) (F : Fr h₀ L hh m) (N : News h₀ L hh news) {x : Str} {j : Nat} (hj : j < 34) (ex : x = slot j) {v : Value} {Q : Unit → Shared → Prop}
    (h : ∀ h', Fr h₀ L h' (fun y => if y = slot j then some v else m y) → News h₀ L h' news → Q () { s with heap := h', toks := s.toks + 1 }) (e : s.heap = hh := by rfl) :
    wpAny (model prog w) A (storeName (envOf cn cs L a cd) x v) Q E s := by
  subst ex e
  exact stN F N h C.1 (C.2 j hj)

theorem ev_sum (C : Local cn cs L a cd) (F : Fr h₀ L s.heap m) {x y : Nat} {nx ny : Str} {p2 p3 p4 p5 p6 : Pos} {c1 : Nat} {X Y : Wd} {tx ty : Tok} {Q : Value → Shared → Prop} (hx : x < 34) (hy : y < 34) (ex : nx = slot x) (ey : ny = slot y)
    (vx : m (slot x) = some (.int (wi X) tx)) (vy : m (slot y) = some (.int (wi Y) ty)) (h : ∀ t tk, Q (.int (wi (X + Y)) t) { s with toks := tk }) :
    wpAny (model prog w) A (eval (.BinOp (.BinOp (.Name nx p2) .Add (.Name ny p3) p4) .BitAnd (.Constant (.int 4294967295) c1 p5) p6) (envOf cn cs L a cd)) Q E s := by
  refine wpAny_BinOp (wpAny_BinOp (ld_slot C F hx ex vx (ld_slot C F hy ey vy (add_int ?_))))
  refine wpAny_Constant_int (and_int ?_)
  rw [wi_add]
  exact h _ _
theorem ev_left (C : Local cn cs L a cd) (F : Fr h₀ L s.heap m) {nt : Str} {q2 q3 q4 q5 q6 : Pos} {c2 c3 : Nat} {T : Wd} {tt : Tok} {k : Nat} {mask kl : Int} {Q : Value → Shared → Prop} (et : nt = slot 32) (hk : k ≤ 32)
    (em : mask = ((2 ^ (32 - k) - 1 : Nat) : Int)) (el : kl = (k : Int)) (vt : m (slot 32) = some (.int (wi T) tt))
    (h : ∀ t tk, Q (.int (Builtin.bitAnd (wi T) ((2 ^ (32 - k) - 1 : Nat) : Int) * 2 ^ k) t) { s with toks := tk }) :
    wpAny (model prog w) A (eval (.BinOp (.BinOp (.Name nt q2) .BitAnd (.Constant (.int mask) c2 q3) q4) .LShift (.Constant (.int kl) c3 q5) q6) (envOf cn cs L a cd)) Q E s := by
  subst em el
  refine wpAny_BinOp (wpAny_BinOp (ld_slot C F (by omega) et vt (wpAny_Constant_int (and_int ?_))))
  refine wpAny_Constant_int (lshift_int_small (by omega) (by omega) ?_ ?_)
  · rw [wi_mask]
    have : T.toNat &&& (2 ^ (32 - k) - 1) ≤ T.toNat := Nat.and_le_left
    have := T.isLt
    omega
  · exact h _ _
theorem ev_right (C : Local cn cs L a cd) (F : Fr h₀ L s.heap m) {nt : Str} {q7 q8 q9 : Pos} {c4 : Nat} {T : Wd} {tt : Tok} {k : Nat} {kr : Int} {Q : Value → Shared → Prop} (et : nt = slot 32)
    (er : kr = ((32 - k : Nat) : Int)) (vt : m (slot 32) = some (.int (wi T) tt))
    (h : ∀ t tk, Q (.int ((wi T).fdiv (2 ^ (32 - k))) t) { s with toks := tk }) :
    wpAny (model prog w) A (eval (.BinOp (.Name nt q7) .RShift (.Constant (.int kr) c4 q8) q9) (envOf cn cs L a cd)) Q E s := by
  subst er
  refine wpAny_BinOp (ld_slot C F (by omega) et vt (wpAny_Constant_int (rshift_int (by omega) ?_)))
  exact h _ _
theorem ev_rot (C : Local cn cs L a cd) (F : Fr h₀ L s.heap m) {nt : Str} {q2 q3 q4 q5 q6 q7 q8 q9 q0 : Pos} {c2 c3 c4 : Nat} {T : Wd} {tt : Tok} {k : Nat} {mask kl kr : Int} {Q : Value → Shared → Prop} (et : nt = slot 32) (hk : k ≤ 32)
    (em : mask = ((2 ^ (32 - k) - 1 : Nat) : Int)) (el : kl = (k : Int)) (er : kr = ((32 - k : Nat) : Int)) (vt : m (slot 32) = some (.int (wi T) tt))
    (h : ∀ t tk, Q (.int (Builtin.bitOr (Builtin.bitAnd (wi T) ((2 ^ (32 - k) - 1 : Nat) : Int) * 2 ^ k) ((wi T).fdiv (2 ^ (32 - k)))) t) { s with toks := tk }) :
    wpAny (model prog w) A (eval (.BinOp (.BinOp (.BinOp (.Name nt q2) .BitAnd (.Constant (.int mask) c2 q3) q4) .LShift (.Constant (.int kl) c3 q5) q6) .BitOr (.BinOp (.Name nt q7) .RShift (.Constant (.int kr) c4 q8) q9) q0) (envOf cn cs L a cd)) Q E s := by
  refine wpAny_BinOp (ev_left C F et hk em el vt fun t tk => ?_)
  refine ev_right C (s := { s with toks := tk }) F et er vt fun t' tk' => ?_
  refine or_int ?_
  exact h _ _

/-- t = x + y & M, then z ^= (t & mask) << k | t >> 32 - k -/
theorem op_step {Q : Flow → Shared → Prop} {hh : Heap} {ge : _} {dr : _} {tk₀ : Nat} {os : _} (C : Local cn cs L a cd) (F : Fr h₀ L hh m) (N : News h₀ L hh news) (H : Holds m V i) (o : Op) {nx ny nz nt : Str} {mask kl kr : Int} {rest : List Stmt}
    {p1 p2 p3 p4 p5 p6 p7 q1 q2 q3 q4 q5 q6 q7 q8 q9 q0 q11 : Pos} {c1 c2 c3 c4 : Nat}
    (hz : o.z < 16) (hx : o.x < 16) (hy : o.y < 16) (hk : o.k ≤ 32) (ez : nz = slot o.z) (ex : nx = slot o.x) (ey : ny = slot o.y) (et : nt = slot 32)
    (em : mask = ((2 ^ (32 - o.k) - 1 : Nat) : Int)) (el : kl = (o.k : Int)) (er : kr = ((32 - o.k : Nat) : Int))
    (h : ∀ m' h' tk, Fr h₀ L h' m' → News h₀ L h' news → Holds m' (stp V o) i → wpAny (model prog w) A (execs rest (envOf cn cs L a cd)) Q E { heap := h', gens := ge, drawn := dr, toks := tk, os := os }) :
    wpAny (model prog w) A (execs (.Assign [.Name nt p1] (.BinOp (.BinOp (.Name nx p2) .Add (.Name ny p3) p4) .BitAnd (.Constant (.int 4294967295) c1 p5) p6) p7 ::
      .AugAssign (.Name nz q1) .BitXor (.BinOp (.BinOp (.BinOp (.Name nt q2) .BitAnd (.Constant (.int mask) c2 q3) q4) .LShift (.Constant (.int kl) c3 q5) q6) .BitOr (.BinOp (.Name nt q7) .RShift (.Constant (.int kr) c4 q8) q9) q0) q11 :: rest) (envOf cn cs L a cd)) Q E { heap := hh, gens := ge, drawn := dr, toks := tk₀, os := os } := by
  obtain ⟨tx, vx⟩ := H.1 o.x (by omega)
  obtain ⟨ty, vy⟩ := H.1 o.y (by omega)
  refine wpAny_execs_cons (wpAny_Assign_Name (ev_sum C F (by omega) (by omega) ex ey vx vy fun t tk => ?_))
  refine st_slot C F N (j := 32) (by omega) et (fun h₁ F₁ N₁ => ?_)
  have H₁ := H.putT (.int (wi (V o.x + V o.y)) t)
  obtain ⟨tz, vz⟩ := H₁.1 o.z (by omega)
  dsimp only
  refine wpAny_execs_cons (wpAny_AugAssign_Name (ldn_slot C F₁ (by omega) ez vz (ev_rot C F₁ et hk em el er (if_pos rfl) fun t' tk' => ?_)))
  refine ixor_int ?_
  rw [wi_rot _ _ _ hk]
  refine st_slot C F₁ N₁ (j := o.z) (by omega) ez (fun h₂ F₂ N₂ => ?_)
  exact h _ _ _ F₂ N₂ (H₁.put (by omega) _ _)
end
end
end Mine

namespace Mine
section
set_option maxRecDepth 100000

def salsaDef : Stmt := (PySem.Challenge.pw_lk0009_01.main.body.getD 1 (.Pass ⟨0, 0, 0, 0⟩))
def salsaBody : List Stmt := match salsaDef with | .FunctionDef _ _ b _ _ _ _ _ _ _ => b | _ => []
def salsaScope : Scope := match salsaDef with | .FunctionDef _ _ _ _ _ _ s _ _ _ => s | _ => { kind := .module, names := [], isGenerator := false, isCoroutine := false, more := [] }
def whileOf : Stmt := salsaBody.getD 3 (.Pass ⟨0, 0, 0, 0⟩)
def turnOf : List Stmt := match whileOf with | .While _ b _ _ => b | _ => []
def testOf : Expr := match whileOf with | .While t _ _ _ => t | _ => .Name "" ⟨0, 0, 0, 0⟩
def posOf : Pos := match whileOf with | .While _ _ _ p => p | _ => ⟨0, 0, 0, 0⟩
theorem while_is : whileOf = .While testOf turnOf [] posOf := rfl
theorem local_salsa (cn : Str) (L a : Addr) (cd : Value) : Local cn salsaScope L a cd := by
  refine ⟨rfl, fun j hj => ?_⟩
  have e : (envOf cn salsaScope L a cd).kindOf (slot j) = salsaScope.names.lookup (slot j) := rfl
  rw [e]
  have all : ∀ j, j < 34 → salsaScope.names.lookup (slot j) = some .local := by decide +kernel
  exact all j hj

section
variable {prog : Program} {w : World} {A : Around} {E : Value → Shared → Prop} {s : Shared} {cn : Str} {cs : Scope} {L a : Addr} {cd : Value} {h₀ : Heap} {m : Str → Option Value} {news : List (Addr × Obj)} {V : St} {i : Int}

theorem turn_walk {Q : Flow → Shared → Prop} {hh : Heap} {ge : _} {dr : _} {tk₀ : Nat} {os : _} (C : Local cn cs L a cd) (F : Fr h₀ L hh m) (N : News h₀ L hh news) (H : Holds m V i)
    (h : ∀ m' h' tk, Fr h₀ L h' m' → News h₀ L h' news → Holds m' (dbl V) (i + 1) → Q .next { heap := h', gens := ge, drawn := dr, toks := tk, os := os }) :
    wpAny (model prog w) A (execs turnOf (envOf cn cs L a cd)) Q E { heap := hh, gens := ge, drawn := dr, toks := tk₀, os := os } := by
  refine op_step C F N H ⟨4, 0, 12, 7⟩ (by decide) (by decide) (by decide) (by decide) rfl rfl rfl rfl rfl rfl rfl (fun m h' tk F N H => ?_)
  refine op_step C F N H ⟨8, 4, 0, 9⟩ (by decide) (by decide) (by decide) (by decide) rfl rfl rfl rfl rfl rfl rfl (fun m h' tk F N H => ?_)
  refine op_step C F N H ⟨12, 8, 4, 13⟩ (by decide) (by decide) (by decide) (by decide) rfl rfl rfl rfl rfl rfl rfl (fun m h' tk F N H => ?_)
  refine op_step C F N H ⟨0, 12, 8, 18⟩ (by decide) (by decide) (by decide) (by decide) rfl rfl rfl rfl rfl rfl rfl (fun m h' tk F N H => ?_)
  refine op_step C F N H ⟨9, 5, 1, 7⟩ (by decide) (by decide) (by decide) (by decide) rfl rfl rfl rfl rfl rfl rfl (fun m h' tk F N H => ?_)
  refine op_step C F N H ⟨13, 9, 5, 9⟩ (by decide) (by decide) (by decide) (by decide) rfl rfl rfl rfl rfl rfl rfl (fun m h' tk F N H => ?_)
  refine op_step C F N H ⟨1, 13, 9, 13⟩ (by decide) (by decide) (by decide) (by decide) rfl rfl rfl rfl rfl rfl rfl (fun m h' tk F N H => ?_)
  refine op_step C F N H ⟨5, 1, 13, 18⟩ (by decide) (by decide) (by decide) (by decide) rfl rfl rfl rfl rfl rfl rfl (fun m h' tk F N H => ?_)
  refine op_step C F N H ⟨14, 10, 6, 7⟩ (by decide) (by decide) (by decide) (by decide) rfl rfl rfl rfl rfl rfl rfl (fun m h' tk F N H => ?_)
  refine op_step C F N H ⟨2, 14, 10, 9⟩ (by decide) (by decide) (by decide) (by decide) rfl rfl rfl rfl rfl rfl rfl (fun m h' tk F N H => ?_)
  refine op_step C F N H ⟨6, 2, 14, 13⟩ (by decide) (by decide) (by decide) (by decide) rfl rfl rfl rfl rfl rfl rfl (fun m h' tk F N H => ?_)
  refine op_step C F N H ⟨10, 6, 2, 18⟩ (by decide) (by decide) (by decide) (by decide) rfl rfl rfl rfl rfl rfl rfl (fun m h' tk F N H => ?_)
  refine op_step C F N H ⟨3, 15, 11, 7⟩ (by decide) (by decide) (by decide) (by decide) rfl rfl rfl rfl rfl rfl rfl (fun m h' tk F N H => ?_)
  refine op_step C F N H ⟨7, 3, 15, 9⟩ (by decide) (by decide) (by decide) (by decide) rfl rfl rfl rfl rfl rfl rfl (fun m h' tk F N H => ?_)
  refine op_step C F N H ⟨11, 7, 3, 13⟩ (by decide) (by decide) (by decide) (by decide) rfl rfl rfl rfl rfl rfl rfl (fun m h' tk F N H => ?_)
  refine op_step C F N H ⟨15, 11, 7, 18⟩ (by decide) (by decide) (by decide) (by decide) rfl rfl rfl rfl rfl rfl rfl (fun m h' tk F N H => ?_)
  refine op_step C F N H ⟨1, 0, 3, 7⟩ (by decide) (by decide) (by decide) (by decide) rfl rfl rfl rfl rfl rfl rfl (fun m h' tk F N H => ?_)
  refine op_step C F N H ⟨2, 1, 0, 9⟩ (by decide) (by decide) (by decide) (by decide) rfl rfl rfl rfl rfl rfl rfl (fun m h' tk F N H => ?_)
  refine op_step C F N H ⟨3, 2, 1, 13⟩ (by decide) (by decide) (by decide) (by decide) rfl rfl rfl rfl rfl rfl rfl (fun m h' tk F N H => ?_)
  refine op_step C F N H ⟨0, 3, 2, 18⟩ (by decide) (by decide) (by decide) (by decide) rfl rfl rfl rfl rfl rfl rfl (fun m h' tk F N H => ?_)
  refine op_step C F N H ⟨6, 5, 4, 7⟩ (by decide) (by decide) (by decide) (by decide) rfl rfl rfl rfl rfl rfl rfl (fun m h' tk F N H => ?_)
  refine op_step C F N H ⟨7, 6, 5, 9⟩ (by decide) (by decide) (by decide) (by decide) rfl rfl rfl rfl rfl rfl rfl (fun m h' tk F N H => ?_)
  refine op_step C F N H ⟨4, 7, 6, 13⟩ (by decide) (by decide) (by decide) (by decide) rfl rfl rfl rfl rfl rfl rfl (fun m h' tk F N H => ?_)
  refine op_step C F N H ⟨5, 4, 7, 18⟩ (by decide) (by decide) (by decide) (by decide) rfl rfl rfl rfl rfl rfl rfl (fun m h' tk F N H => ?_)
  refine op_step C F N H ⟨11, 10, 9, 7⟩ (by decide) (by decide) (by decide) (by decide) rfl rfl rfl rfl rfl rfl rfl (fun m h' tk F N H => ?_)
  refine op_step C F N H ⟨8, 11, 10, 9⟩ (by decide) (by decide) (by decide) (by decide) rfl rfl rfl rfl rfl rfl rfl (fun m h' tk F N H => ?_)
  refine op_step C F N H ⟨9, 8, 11, 13⟩ (by decide) (by decide) (by decide) (by decide) rfl rfl rfl rfl rfl rfl rfl (fun m h' tk F N H => ?_)
  refine op_step C F N H ⟨10, 9, 8, 18⟩ (by decide) (by decide) (by decide) (by decide) rfl rfl rfl rfl rfl rfl rfl (fun m h' tk F N H => ?_)
  refine op_step C F N H ⟨12, 15, 14, 7⟩ (by decide) (by decide) (by decide) (by decide) rfl rfl rfl rfl rfl rfl rfl (fun m h' tk F N H => ?_)
  refine op_step C F N H ⟨13, 12, 15, 9⟩ (by decide) (by decide) (by decide) (by decide) rfl rfl rfl rfl rfl rfl rfl (fun m h' tk F N H => ?_)
  refine op_step C F N H ⟨14, 13, 12, 13⟩ (by decide) (by decide) (by decide) (by decide) rfl rfl rfl rfl rfl rfl rfl (fun m h' tk F N H => ?_)
  refine op_step C F N H ⟨15, 14, 13, 18⟩ (by decide) (by decide) (by decide) (by decide) rfl rfl rfl rfl rfl rfl rfl (fun m h' tk F N H => ?_)
  obtain ⟨t, v⟩ := H.2
  refine wpAny_execs_cons (wpAny_AugAssign_Name (ldn_slot C F (j := 33) (by decide) rfl v (wpAny_Constant_int (iadd_int ?_))))
  refine st_slot C F N (j := 33) (by decide) rfl (fun h₁ F₁ N₁ => ?_)
  exact wpAny_execs_nil (h _ _ _ F₁ N₁ (H.putI _ _))
end
end
end Mine

namespace Mine
section
set_option maxRecDepth 100000
section
variable {prog : Program} {w : World} {A : Around} {E : Value → Shared → Prop} {s : Shared} {cn : Str} {cs : Scope} {L a : Addr} {cd : Value} {h₀ : Heap} {m : Str → Option Value} {news : List (Addr × Obj)} {V : St} {i : Int}

def iter : Nat → St → St
  | 0, V => V
  | n + 1, V => dbl (iter n V)
theorem test_is : ∃ p q p' c, testOf = .Compare (.Name (slot 33) p) [.Lt] [.Constant (.int 4) c q] p' := ⟨_, _, _, _, rfl⟩

theorem while_walk {Q : Flow → Shared → Prop} {hh : Heap} {ge : _} {dr : _} {tk₀ : Nat} {os : _} (C : Local cn cs L a cd) (F : Fr h₀ L hh m) (N : News h₀ L hh news) (H : Holds m V 0)
    (h : ∀ m' h' tk, Fr h₀ L h' m' → News h₀ L h' news → Holds m' (dbl (dbl (dbl (dbl V)))) 4 → Q .next { heap := h', gens := ge, drawn := dr, toks := tk, os := os }) :
    wpAny (model prog w) A (exec whileOf (envOf cn cs L a cd)) Q E { heap := hh, gens := ge, drawn := dr, toks := tk₀, os := os } := by
  rw [while_is]
  refine wpAny_While (codeAny_whileLoop (fun n s => ∃ k m' h' tk, k ≤ 4 ∧ n = 4 - k ∧ Fr h₀ L h' m' ∧ News h₀ L h' news ∧ Holds m' (iter k V) (k : Int) ∧ s = { heap := h', gens := ge, drawn := dr, toks := tk, os := os }) ?_ 4 ⟨0, m, hh, tk₀, by omega, rfl, F, N, H, rfl⟩)
  rintro n s ⟨k, m', h', tk, hk, rfl, F', N', H', rfl⟩
  obtain ⟨p, q, p', c, e⟩ := test_is
  rw [e]
  obtain ⟨t, v⟩ := H'.2
  refine wpAny_isTrue_Compare1 (ld_slot C F' (j := 33) (by decide) rfl v (wpAny_Constant_int (lt_int (wpAny_truthy_bool ?_))))
  by_cases hlt : k < 4
  · have : decide ((k : Int) < 4) = true := by simp; omega
    rw [this]
    simp only [if_true]
    refine turn_walk C F' N' H' fun m₂ h₂ tk₂ F₂ N₂ H₂ => ?_
    exact ⟨4 - (k + 1), by omega, k + 1, m₂, h₂, tk₂, by omega, rfl, F₂, N₂, by rw [Int.natCast_succ]; exact H₂, rfl⟩
  · have : decide ((k : Int) < 4) = false := by simp; omega
    rw [this]
    simp only [Bool.false_eq_true, if_false]
    have e4 : k = 4 := by omega
    subst e4
    exact wpAny_execs_nil (h _ _ _ F' N' H')
end
end
end Mine

namespace Mine
section
set_option maxRecDepth 100000

inductive NamesFrom : Nat → List Expr → Prop
  | nil (z : Nat) : NamesFrom z []
  | cons {z : Nat} {x : Str} {p : Pos} {r : List Expr} : x = slot z → z < 32 → NamesFrom (z + 1) r → NamesFrom z (.Name x p :: r)
inductive ItemsFrom (f : St) : Nat → List Value → Prop
  | nil (z : Nat) : ItemsFrom f z []
  | cons {z : Nat} {t : Tok} {r : List Value} : ItemsFrom f (z + 1) r → ItemsFrom f z (.int (wi (f z)) t :: r)
theorem ItemsFrom.shift {f g : St} {d : Nat} (e : ∀ j, f (j + d) = g j) : ∀ {vs : List Value} {z : Nat}, ItemsFrom f (z + d) vs → ItemsFrom g z vs := by
  intro vs
  induction vs with
  | nil => intro z _; exact .nil z
  | cons v r ih =>
    intro z h
    cases h with
    | cons h =>
      rw [e z]
      refine .cons (ih ?_)
      rw [show z + 1 + d = z + d + 1 by omega]
      exact h
theorem ItemsFrom.to {f g : St} : ∀ {vs : List Value} {z : Nat}, ItemsFrom f z vs → (∀ j, z ≤ j → j < z + vs.length → f j = g j) → ItemsFrom g z vs := by
  intro vs
  induction vs with
  | nil => intro z _ _; exact .nil z
  | cons v r ih =>
    intro z h e
    cases h with
    | cons h =>
      rw [e z (by omega) (by simp)]
      exact .cons (ih h fun j a b => e j (by omega) (by simp; omega))

/-- the frame holds the words at the places that S names -/
def On (S : Nat → Prop) (m : Str → Option Value) (V : St) : Prop := ∀ j, S j → j < 32 → ∃ t, m (slot j) = some (.int (wi (V j)) t)
theorem On.put {S : Nat → Prop} {m : Str → Option Value} {V : St} (H : On S m V) {z : Nat} (hz : z < 32) (t : Tok) :
    On (fun j => S j ∨ j = z) (fun y => if y = slot z then some (.int (wi (V z)) t) else m y) V := by
  intro j hj hl
  by_cases e : j = z
  · subst e
    exact ⟨t, if_pos rfl⟩
  · obtain ⟨t', h⟩ := H j (hj.resolve_right e) hl
    have ne : ¬ slot j = slot z := fun q => e (slot_inj j (by omega) z (by omega) q)
    exact ⟨t', by simp only [ne, h, if_false]⟩
theorem On.to {S S' : Nat → Prop} {m : Str → Option Value} {V : St} (H : On S m V) (h : ∀ j, S' j → S j) : On S' m V := fun j hj => H j (h j hj)

section
variable {prog : Program} {w : World} {A : Around} {E : Value → Shared → Prop} {s : Shared} {cn : Str} {cs : Scope} {L a : Addr} {cd : Value} {h₀ : Heap} {news : List (Addr × Obj)} {V : St} {i : Int}

theorem assign_run {ge : _} {dr : _} {os : _} {Q : Unit → Shared → Prop} (C : Local cn cs L a cd) : ∀ (elts : List Expr) (items : List Value) (z : Nat) (S : Nat → Prop) (m : Str → Option Value) (hh : Heap) (tk₀ : Nat), NamesFrom z elts → ItemsFrom V z items → elts.length = items.length →
    Fr h₀ L hh m → News h₀ L hh news → On S m V →
    (∀ m' h' tk, Fr h₀ L h' m' → News h₀ L h' news → On (fun j => S j ∨ (z ≤ j ∧ j < z + elts.length)) m' V → Q () { heap := h', gens := ge, drawn := dr, toks := tk, os := os }) →
    wpAny (model prog w) A (assignInOrder ((assignEach elts (envOf cn cs L a cd)).map (·.2)) items) Q E { heap := hh, gens := ge, drawn := dr, toks := tk₀, os := os } := by
  intro elts
  induction elts with
  | nil =>
    intro items z S m hh tk₀ _ _ hl F N H h
    exact assignInOrder_nil (h _ _ _ F N (H.to fun j hj => hj.elim id fun q => by simp at q; omega))
  | cons e r ih =>
    intro items z S m hh tk₀ hn hi hl F N H h
    cases hn with
    | @cons _ x p _ ex hz hn =>
      cases hi with
      | nil => simp at hl
      | @cons _ t ri hi =>
        show wpAny _ _ (assignInOrder (assign (.Name x p) (envOf cn cs L a cd) :: (assignEach r (envOf cn cs L a cd)).map (·.2)) _) _ _ _
        refine assignInOrder_cons (assign_Name (st_slot C F N (by omega) ex fun h₁ F₁ N₁ => ?_))
        refine ih ri (z + 1) _ _ _ _ hn hi (by simpa using hl) F₁ N₁ (H.put hz t) fun m' h' tk F' N' H' => h m' h' tk F' N' (H'.to fun j hj => ?_)
        rcases hj with hj | hj
        · exact .inl (.inl hj)
        · simp at hj
          by_cases e : j = z
          · exact .inl (.inr e)
          · exact .inr (by omega)

theorem names_run {hh : Heap} {m : Str → Option Value} {S : Nat → Prop} {pos : Pos} (C : Local cn cs L a cd) (F : Fr h₀ L hh m) (H : On S m V) : ∀ (elts : List Expr) (z : Nat) (Q : List Value → Shared → Prop) (s : Shared), s.heap = hh → NamesFrom z elts → (∀ j, z ≤ j → j < z + elts.length → S j) →
    (∀ vs, ItemsFrom V z vs → vs.length = elts.length → Q vs s) →
    wpAny (model prog w) A (spliced (backTo pos (starEach elts (envOf cn cs L a cd)))) Q E s := by
  intro elts
  induction elts with
  | nil => intro z Q s _ _ _ h; exact spliced_none (h [] (.nil z) rfl)
  | cons e r ih =>
    intro z Q s es hn hS h
    cases hn with
    | @cons _ x p _ ex hz hn =>
      obtain ⟨t, v⟩ := H z (hS z (by omega) (by simp)) hz
      refine spliced_more (ld_slot C F (by omega) ex v ?_ es)
      refine ih (z + 1) _ s es hn (fun j a b => hS j (by omega) (by simp; omega)) fun vs hv hl => h _ (.cons hv) (by simp [hl])

/-- after the loop: n of the sixteen sums are laid -/
def fin (n : Nat) (V : St) : St := fun j => if 16 ≤ j ∧ j < 16 + n then V j + V (j - 16) else V j
theorem fin_next (n : Nat) (hn : n < 16) (V : St) : upd (fin n V) (16 + n) (fin n V (16 + n) + fin n V n) = fin (n + 1) V := by
  funext j
  unfold upd fin
  by_cases e : j = 16 + n
  · subst e
    rw [if_pos rfl, if_neg (by omega), if_neg (by omega), if_pos (by omega), show 16 + n - 16 = n by omega]
  · rw [if_neg e]
    by_cases q : 16 ≤ j ∧ j < 16 + n
    · rw [if_pos q, if_pos (by omega)]
    · rw [if_neg q, if_neg (by omega)]
theorem add_step {Q : Flow → Shared → Prop} {hh : Heap} {ge : _} {dr : _} {tk₀ : Nat} {os : _} {m : Str → Option Value} (C : Local cn cs L a cd) (F : Fr h₀ L hh m) (N : News h₀ L hh news) (n : Nat) (H : Holds m (fin n V) i) {nx ny nz : Str} {rest : List Stmt}
    {p1 p2 p3 p4 p5 p6 p7 : Pos} {c1 : Nat} (hn : n < 16) (ex : nx = slot (16 + n)) (ey : ny = slot n) (ez : nz = slot (16 + n))
    (h : ∀ m' h' tk, Fr h₀ L h' m' → News h₀ L h' news → Holds m' (fin (n + 1) V) i → wpAny (model prog w) A (execs rest (envOf cn cs L a cd)) Q E { heap := h', gens := ge, drawn := dr, toks := tk, os := os }) :
    wpAny (model prog w) A (execs (.Assign [.Name nz p1] (.BinOp (.BinOp (.Name nx p2) .Add (.Name ny p3) p4) .BitAnd (.Constant (.int 4294967295) c1 p5) p6) p7 :: rest) (envOf cn cs L a cd)) Q E { heap := hh, gens := ge, drawn := dr, toks := tk₀, os := os } := by
  obtain ⟨tx, vx⟩ := H.1 (16 + n) (by omega)
  obtain ⟨ty, vy⟩ := H.1 n (by omega)
  refine wpAny_execs_cons (wpAny_Assign_Name (ev_sum C F (by omega) (by omega) ex ey vx vy fun t tk => ?_))
  refine st_slot C F N (j := 16 + n) (by omega) ez (fun h₁ F₁ N₁ => ?_)
  have H₁ := H.put (z := 16 + n) (by omega) (fin n V (16 + n) + fin n V n) t
  rw [fin_next n hn] at H₁
  exact h _ _ _ F₁ N₁ H₁
end
end
end Mine

namespace Mine
section
set_option maxRecDepth 100000
theorem run_other (os : List Op) (j : Nat) (h : ∀ o ∈ os, o.z ≠ j) : ∀ V : St, run os V j = V j := by
  induction os with
  | nil => intro V; rfl
  | cons o r ih =>
    intro V
    rw [run_cons, ih (fun p hp => h p (.tail _ hp))]
    unfold stp upd
    rw [if_neg (Ne.symm (h o (.head _)))]
theorem dbl_high (V : St) (j : Nat) (hj : 16 ≤ j) : dbl V j = V j := run_other dblOps j (fun o ho => by have := (dbl_ops_in o ho).1; omega) V
theorem fin_core (V : St) (hV : ∀ j, V (j + 16) = V j) (j : Nat) (hj : j < 16) : fin 16 (dbl (dbl (dbl (dbl V)))) (j + 16) = core V j := by
  unfold fin core
  rw [if_pos (by omega), dbl_high _ _ (by omega), dbl_high _ _ (by omega), dbl_high _ _ (by omega), dbl_high _ _ (by omega), hV, show j + 16 - 16 = j by omega]

theorem ItemsFrom.up {f g : St} {d : Nat} (e : ∀ j, f j = g (j + d)) : ∀ {vs : List Value} {z : Nat}, ItemsFrom f z vs → ItemsFrom g (z + d) vs := by
  intro vs
  induction vs with
  | nil => intro z _; exact .nil _
  | cons v r ih =>
    intro z h
    cases h with
    | cons h =>
      rw [e z]
      refine .cons ?_
      rw [show z + d + 1 = z + 1 + d by omega]
      exact ih h
abbrev tupOf (its : Array Value) (n : Nat) : Obj := { cls := .type "tuple", data := .seq its n }
section
variable {prog : Program} {w : World} {A : Around} {E : Value → Shared → Prop} {s : Shared} {cn : Str} {L a : Addr} {cd : Value} {h₀ : Heap} {news : List (Addr × Obj)} {V : St} {i : Int}

theorem body_walk {Q : Flow → Shared → Prop} {hh : Heap} {ge : _} {dr : _} {tk₀ : Nat} {os : _} {m : Str → Option Value} {l : Addr} {its : Array Value} {n : Nat} (hV : ∀ j, V (j + 16) = V j) (hA : A.handled = none) (F : Fr h₀ L hh m) (N : News h₀ L hh news)
    (hs : m (Str.ofString "source") = some (.ref l)) (hm : (l, listOf its n) ∈ news) (hi : ItemsFrom V 0 its.toList) (hz : its.size = 16)
    (h : ∀ D tup m' h' tk, Fr h₀ L h' m' → News h₀ L h' ((D, tupOf tup 0) :: news) → (∀ p ∈ news, p.1 < D) → ItemsFrom (core V) 0 tup.toList → tup.size = 16 → Q (.ret (.ref D)) { heap := h', gens := ge, drawn := dr, toks := tk, os := os }) :
    wpAny (model prog w) A (execs salsaBody (envOf cn salsaScope L a cd)) Q E { heap := hh, gens := ge, drawn := dr, toks := tk₀, os := os } := by
  have C : Local cn salsaScope L a cd := local_salsa cn L a cd
  have hi' : ItemsFrom V (0 + 16) its.toList := ItemsFrom.up (fun j => (hV j).symm) hi
  have hz' : 16 = its.toList.length := by rw [Array.length_toList, hz]
  have hl : ∀ {h' : Heap}, News h₀ L h' news → h'.IsList l its := fun N' => ⟨_, (N' _ hm).1, rfl, n, rfl⟩
  refine wpAny_execs_cons (Assign_Tuple (ld F hs ?_))
  refine kun_list F N (hl N) hA ?_ rfl fun h₁ F₁ N₁ => ?_
  · exact hz.symm
  refine assign_run (V := V) C _ its.toList 16 (fun _ => False) m h₁ tk₀ ?_ hi' ?_ F₁ N₁ (fun _ q => q.elim) fun m₂ h₂ tk₂ F₂ N₂ H₂ => ?_
  · repeat' (first | exact .nil _ | refine .cons rfl (by decide) ?_)
  · exact hz'
  try dsimp only
  refine wpAny_execs_cons (Assign_Tuple (Tuple_ ?_))
  refine names_run (V := V) (S := fun j => 16 ≤ j ∧ j < 32) C F₂ (H₂.to fun j hj => .inr hj) _ 16 _ _ rfl ?_ ?_ fun vs hvs hlen => ?_
  · repeat' (first | exact .nil _ | refine .cons rfl (by decide) ?_)
  · exact fun j a b => ⟨a, b⟩
  refine newTuple_N (s := { heap := h₂, gens := ge, drawn := dr, toks := tk₂, os := os }) F₂ N₂ (fun h₃ F₃ N₃ => ?_) ?_
  rotate_left
  · rw [hlen]; decide
  try dsimp only
  have ht : IsTup h₃ h₂.objs.size vs.toArray := ⟨_, (N₃ _ (.head _)).1, rfl, _, rfl⟩
  have hvl : 16 = vs.length := hlen.symm
  refine unpackN_ F₃ N₃ ht hA ?_ rfl fun h₄ F₄ N₄ => ?_
  · rw [List.size_toArray]; exact hvl
  try dsimp only
  refine assign_run (V := V) C _ vs 0 _ _ h₄ tk₂ ?_ (ItemsFrom.shift (d := 16) hV hvs) ?_ F₄ N₄ H₂ fun m₅ h₅ tk₅ F₅ N₅ H₅ => ?_
  · repeat' (first | exact .nil _ | refine .cons rfl (by decide) ?_)
  · exact hvl
  try dsimp only
  refine wpAny_execs_cons (wpAny_Assign_Name (wpAny_Constant_int (st_slot C F₅ N₅ (j := 33) (by decide) rfl fun h₆ F₆ N₆ => ?_)))
  have H₆ : Holds (fun y => if y = slot 33 then some (.int 0 tk₅) else m₅ y) V 0 := by
    refine ⟨fun j hj => ?_, ⟨tk₅, if_pos rfl⟩⟩
    obtain ⟨t', q⟩ := H₅ j (by by_cases q : 16 ≤ j; exact .inl (.inr ⟨q, hj⟩); exact .inr ⟨by omega, by show j < 0 + 16; omega⟩) hj
    have ne : ¬ slot j = slot 33 := fun q => absurd (slot_inj j (by omega) 33 (by omega) q) (by omega)
    exact ⟨t', by simp only [ne, q, if_false]⟩
  try dsimp only
  refine wpAny_execs_cons (while_walk C F₆ N₆ H₆ fun m₆ h₆ tk₆ F₆ N₆ H₆ => ?_)
  try dsimp only
  have H₆ : Holds m₆ (fin 0 (dbl (dbl (dbl (dbl V))))) 4 := by
    have e : fin 0 (dbl (dbl (dbl (dbl V)))) = dbl (dbl (dbl (dbl V))) := by funext j; unfold fin; rw [if_neg (by omega)]
    rw [e]; exact H₆
  refine add_step C F₆ N₆ 0 H₆ (by decide) rfl rfl rfl (fun m₆ h₆ tk₆ F₆ N₆ H₆ => ?_)
  refine add_step C F₆ N₆ 1 H₆ (by decide) rfl rfl rfl (fun m₆ h₆ tk₆ F₆ N₆ H₆ => ?_)
  refine add_step C F₆ N₆ 2 H₆ (by decide) rfl rfl rfl (fun m₆ h₆ tk₆ F₆ N₆ H₆ => ?_)
  refine add_step C F₆ N₆ 3 H₆ (by decide) rfl rfl rfl (fun m₆ h₆ tk₆ F₆ N₆ H₆ => ?_)
  refine add_step C F₆ N₆ 4 H₆ (by decide) rfl rfl rfl (fun m₆ h₆ tk₆ F₆ N₆ H₆ => ?_)
  refine add_step C F₆ N₆ 5 H₆ (by decide) rfl rfl rfl (fun m₆ h₆ tk₆ F₆ N₆ H₆ => ?_)
  refine add_step C F₆ N₆ 6 H₆ (by decide) rfl rfl rfl (fun m₆ h₆ tk₆ F₆ N₆ H₆ => ?_)
  refine add_step C F₆ N₆ 7 H₆ (by decide) rfl rfl rfl (fun m₆ h₆ tk₆ F₆ N₆ H₆ => ?_)
  refine add_step C F₆ N₆ 8 H₆ (by decide) rfl rfl rfl (fun m₆ h₆ tk₆ F₆ N₆ H₆ => ?_)
  refine add_step C F₆ N₆ 9 H₆ (by decide) rfl rfl rfl (fun m₆ h₆ tk₆ F₆ N₆ H₆ => ?_)
  refine add_step C F₆ N₆ 10 H₆ (by decide) rfl rfl rfl (fun m₆ h₆ tk₆ F₆ N₆ H₆ => ?_)
  refine add_step C F₆ N₆ 11 H₆ (by decide) rfl rfl rfl (fun m₆ h₆ tk₆ F₆ N₆ H₆ => ?_)
  refine add_step C F₆ N₆ 12 H₆ (by decide) rfl rfl rfl (fun m₆ h₆ tk₆ F₆ N₆ H₆ => ?_)
  refine add_step C F₆ N₆ 13 H₆ (by decide) rfl rfl rfl (fun m₆ h₆ tk₆ F₆ N₆ H₆ => ?_)
  refine add_step C F₆ N₆ 14 H₆ (by decide) rfl rfl rfl (fun m₆ h₆ tk₆ F₆ N₆ H₆ => ?_)
  refine add_step C F₆ N₆ 15 H₆ (by decide) rfl rfl rfl (fun m₆ h₆ tk₆ F₆ N₆ H₆ => ?_)
  refine wpAny_execs_cons (wpAny_Return_some (Tuple_ ?_))
  refine names_run (S := fun j => j < 32) C F₆ (fun j hj hl => H₆.1 j hl) _ 16 _ _ rfl ?_ ?_ fun us hus hul => ?_
  · repeat' (first | exact .nil _ | refine .cons rfl (by decide) ?_)
  · exact fun j a b => b
  have hul' : us.length = 16 := hul
  refine newTuple_N (s := { heap := h₆, gens := ge, drawn := dr, toks := tk₆, os := os }) F₆ N₆ (fun h₇ F₇ N₇ => ?_) ?_
  · dsimp only
    refine h _ us.toArray _ _ _ F₇ ?_ ?_ ?_ ?_
    · intro p hp
      rcases List.mem_cons.mp hp with rfl | hp
      · exact N₇ _ (.head _)
      · exact N₇ _ (.tail _ (.tail _ hp))
    · intro p hp
      exact Heap.lt_size (N₆ p (.tail _ hp)).1
    · show ItemsFrom (core V) 0 us
      refine ItemsFrom.to (f := fun j => fin 16 (dbl (dbl (dbl (dbl V)))) (j + 16)) (ItemsFrom.shift (d := 16) (fun j => rfl) hus) fun j _ hj => ?_
      exact fin_core V hV j (by omega)
    · rw [List.size_toArray]; exact hul'
  · rw [hul']; decide
end
end
end Mine

namespace Mine
section
open PySem.Spec PySem.Calls
set_option maxRecDepth 100000

section
variable {w : World} {p : Program} {loose : List Str} {mean : ExcName → Option Value} {mg mb : Str → Option Value} {dp un : Nat} {gd : Option (List Code)} {cn : Str} {cs : Scope} {a : Addr} {ccd : Value} {cl : List (Str × Addr)} {outer : List Env} {A₀ : Around} {base h₀ : Heap} {L : Addr} {m : Str → Option Value} {news : List (Addr × Obj)} {s : Shared} {Q E : Value → Shared → Prop}
set_option maxHeartbeats 4000000 in
theorem salsa_call {l : Addr} {its : Array Value} {n : Nat} {V : St} (hV : ∀ j, V (j + 16) = V j)
    (B : Below A₀ base outer h₀) (F : Fr h₀ L s.heap m) (X : (hd.heap_39 w.params).In h₀) (N : News h₀ L s.heap news) (T : Top p loose mean mg mb h₀) (hk : cs.kind = .function)
    (hm : (l, listOf its n) ∈ news) (hi : ItemsFrom V 0 its.toList) (hz : its.size = 16) (hd : dp + 1 < recursionLimit) (hu : un + 8 < cLine)
    (ret : ∀ D tup h' tk', Fr h₀ L h' m → News h₀ L h' ((D, tupOf tup 0) :: news) → AllLt D news → ItemsFrom (core V) 0 tup.toList → tup.size = 16 → Q (.ref D) { s with heap := h', toks := tk' }) :
    wpAny (model PySem.Challenge.rw_lk0009_01.row.prog w) (ktrTop dp un gd cn cs L a ccd cl outer) (call (.ref 21) [.ref l]) Q E s := by
  revert X
  k_fill
  intro X
  refine wpAny_call ?_
  k_dflt ktr_enter
  rename_i F₁ N₁ B₁ X₁ T₁
  refine body_walk (hV := hV) (hA := rfl) (F := F₁) (N := N₁) (hs := rfl) (hm := hm) (hi := hi) (hz := hz) (h := ?_)
  intro D tup m' h' tk F₂ N₂ lt hit hsz
  refine leaveK_ F₂ N₂ fun kF kN => ?_
  exact ret D tup h' tk kF kN (allLt_of lt) hit hsz
end
end
end Mine

namespace Mine
section
open PySem.Spec PySem.Calls
set_option maxRecDepth 100000
/-- all that stands, but what the ledger names, stands in g -/
def AllBut (h g : Heap) (led : List (Addr × Obj)) : Prop := ∀ b o, b ∉ led.map (·.1) → h.get? b = some o → g.get? b = some o
section
variable {prog : Program} {w : World} {A A₀ : Around} {E : Value → Shared → Prop} {s : Shared} {K : Frag} {L : Addr} {h₀ base : Heap} {m mg mb : Str → Option Value} {p : Program} {loose : List Str} {mean : ExcName → Option Value} {news : List (Addr × Obj)}

/-- a call of a def that may turn what the ledger names alone -/
theorem code_led {env : Env} {outer : List Env} {R : Result → Shared → Prop} {name qual : Str} {params : Arguments} {body : List Stmt} {scope : Scope} {dV kV doc pm cdv ct oc : Value} {an od : Option Addr} {osl : Array (Option Value)} {f : Addr} {args : Args} {binds : List (Str × Value)}
    (B : Below A₀ base outer h₀) (F : Fr h₀ L s.heap m) (X₀ : K.In h₀) (N : News h₀ L s.heap news) (T : Top p loose mean mg mb h₀) (hA : A.frames = some (env :: outer)) (hf : env.frame = some L) (hke : env.scope.kind = .function)
    (ho : K.lookup f = some ⟨oc, od, .func (fnOf name qual params body scope dV kV doc pm an cdv ct), osl⟩) (hcd : codeIn K cdv qual = true) (hroom : A.depth < recursionLimit)
    (hbind : BindsTo s (fnOf name qual params body scope dV kV doc pm an cdv ct) args binds) (hloc : ∀ y ∈ binds, scope.names.lookup y.1 = some .local)
    (h : ∀ g L' h₁, AllBut s.heap g news → Fr h₀ L g m → Fr g L' h₁ (fun y => binds.reverse.lookup y) → News g L' h₁ news → Below A base (env :: outer) g → K.In g → Top p loose mean mg mb g →
      wpAny (model prog w) (A.deeper (envOf qual scope L' f cdv)) (execs body (envOf qual scope L' f cdv))
        (fun fl s' => LeaveK h₀ L m g R (match fl with | .ret v => v | _ => .none) s')
        (fun e s' => wpAny (model prog w) (A.deeper (envOf qual scope L' f cdv)) (leaving (envOf qual scope L' f cdv) e) (fun _ s'' => R (.error e) s'') (fun e' s'' => R (.error e') s'') s')
        { s with heap := h₁, toks := s.toks + binds.length })
    (hco : scope.isCoroutine = false) (hgen : scope.isGenerator = false) (hk : scope.kind = .function)
    (hcell : ∀ x ∈ scope.names, x.2 ≠ .cell) : codeAny (model prog w) A (.call (.ref f) args) R s := by
  obtain ⟨FG, BG, st, lv⟩ := groundX (R := R) B F N hA hf hke
  have X : K.In s.heap := X₀.keeps F.keep
  refine codeAny_call_def (fd := fnOf name qual params body scope dV kV doc pm an cdv ct) (body := body) (binds := binds) hroom (X _ _ ho) rfl (T.nolimit.keeps F.keep) (codeRec_of X hcd) rfl hbind hcell hloc (fun h₁ hns hk₁ => ?_) hco hgen hk
  exact wpAny_mono (h _ s.heap.objs.size h₁ (fun b o nb e => hideAll_get _ e nb) FG ⟨hns, fun b o e => hk₁ b o (of_hideAll _ e), Nat.le_of_eq (hideAll_size _ _)⟩
    (fun q hq => ⟨hk₁ _ _ (N q hq).1, Nat.ne_of_lt (Heap.lt_size (N q hq).1), hideAll_none _ (List.mem_map_of_mem hq)⟩) BG (X₀.keeps st) (T.keeps st)) (fun fl s' hl => lv _ _ hl) fun _ _ y => y

/-- the ledger of the caller behind such a call -/
theorem news_behind {L' l D : Addr} {m' : Str → Option Value} {h g h' : Heap} {o od : Obj} {led : List (Addr × Obj)} (N : News h₀ L h news) (hm : (l, o) ∈ news) (hg : AllBut h g [(l, o)]) (F' : Fr g L' h' m') (N' : News h₀ L h' led) (hl : (l, o) ∈ led) (hD : (D, od) ∈ led) :
    News h₀ L h' ((D, od) :: news) := by
  intro q hq
  rcases List.mem_cons.mp hq with rfl | hq
  · exact N' _ hD
  · refine ⟨?_, (N q hq).2⟩
    by_cases e : q.1 = l
    · have e1 := (N q hq).1
      rw [e, (N _ hm).1] at e1
      rw [e, (N' _ hl).1, e1]
    · exact F'.keep _ _ (hg q.1 q.2 (by simpa using e) (N q hq).1)
/-- the same, where the ledger of the call holds a second object of the caller's -/
theorem news_behind2 {L' l q D : Addr} {m' : Str → Option Value} {h g h' : Heap} {o oq od : Obj} {led : List (Addr × Obj)} (N : News h₀ L h news) (hm : (l, o) ∈ news) (hq : (q, oq) ∈ news) (hg : AllBut h g [(l, o), (q, oq)]) (F' : Fr g L' h' m') (N' : News h₀ L h' led) (hl : (l, o) ∈ led) (hql : (q, oq) ∈ led) (hD : (D, od) ∈ led) :
    News h₀ L h' ((D, od) :: news) := by
  intro r hr
  rcases List.mem_cons.mp hr with rfl | hr
  · exact N' _ hD
  · refine ⟨?_, (N r hr).2⟩
    by_cases e : r.1 = l
    · have e1 := (N r hr).1
      rw [e, (N _ hm).1] at e1
      rw [e, (N' _ hl).1, e1]
    · by_cases e2 : r.1 = q
      · have e1 := (N r hr).1
        rw [e2, (N _ hq).1] at e1
        rw [e2, (N' _ hql).1, e1]
      · exact F'.keep _ _ (hg r.1 r.2 (by simpa using ⟨e, e2⟩) (N r hr).1)
/-- the highest object of a ledger -/
theorem highest {l : Addr} {o : Obj} : ∀ {news : List (Addr × Obj)}, (l, o) ∈ news → ∃ q oq, (q, oq) ∈ news ∧ ∀ p ∈ news, p.1 ≤ q
  | [], h => nomatch h
  | [p], _ => ⟨p.1, p.2, .head _, fun r hr => by rw [List.mem_singleton.mp hr]; exact Nat.le_refl _⟩
  | p :: p' :: r, _ => by
    obtain ⟨q, oq, hq, hm⟩ := highest (l := p'.1) (o := p'.2) (news := p' :: r) (.head _)
    by_cases e : q ≤ p.1
    · exact ⟨p.1, p.2, .head _, fun x hx => by
        rcases List.mem_cons.mp hx with rfl | hx
        · exact Nat.le_refl _
        · exact Nat.le_trans (hm x hx) e⟩
    · exact ⟨q, oq, .tail _ hq, fun x hx => by
        rcases List.mem_cons.mp hx with rfl | hx
        · exact Nat.le_of_lt (Nat.lt_of_not_le e)
        · exact hm x hx⟩
theorem allLt_up {q D : Addr} (hm : ∀ p ∈ news, p.1 ≤ q) (h : @LT.lt Nat _ q D) : AllLt D news := allLt_of fun p hp => Nat.lt_of_le_of_lt (hm p hp) h
end
end
end Mine

namespace Mine
section
open PySem.Spec PySem.Calls
set_option maxRecDepth 100000
section
variable {w : World} {p : Program} {loose : List Str} {mean : ExcName → Option Value} {mg mb : Str → Option Value} {dp un : Nat} {gd : Option (List Code)} {cn : Str} {cs : Scope} {a : Addr} {ccd : Value} {cl : List (Str × Addr)} {outer : List Env} {A₀ : Around} {base h₀ : Heap} {L : Addr} {m : Str → Option Value} {news : List (Addr × Obj)} {s : Shared} {Q E : Value → Shared → Prop}
set_option maxHeartbeats 4000000 in
theorem moved_explicit {l q : Addr} {oq : Obj} {n : Nat} {x0 x1 x2 x3 x4 x5 x6 x7 x8 x9 x10 x11 x12 x13 x14 x15 : Int} {t0 t1 t2 t3 t4 t5 t6 t7 t8 t9 t10 t11 t12 t13 t14 t15 : Tok}
    (B : Below A₀ base outer h₀) (F : Fr h₀ L s.heap m) (X : (hd.heap_39 w.params).In h₀) (N : News h₀ L s.heap news) (hm : (l, listOf #[.int x0 t0, .int x1 t1, .int x2 t2, .int x3 t3, .int x4 t4, .int x5 t5, .int x6 t6, .int x7 t7, .int x8 t8, .int x9 t9, .int x10 t10, .int x11 t11, .int x12 t12, .int x13 t13, .int x14 t14, .int x15 t15] n) ∈ news) (hq : (q, oq) ∈ news) (hqm : ∀ p ∈ news, p.1 ≤ q) (T : Top p loose mean mg mb h₀) (hk : cs.kind = .function)
    (hd : dp + 1 < recursionLimit) (hu : un + 8 < cLine)
    (ret : ∀ D n' h' tk' u0 u1 u2 u3 u4 u5 u6 u7 u8 u9 u10 u11 u12 u13 u14 u15, Fr h₀ L h' m → News h₀ L h' ((D, listOf #[.int x15 u0, .int x12 u1, .int x13 u2, .int x14 u3, .int x3 u4, .int x0 u5, .int x1 u6, .int x2 u7, .int x7 u8, .int x4 u9, .int x5 u10, .int x6 u11, .int x11 u12, .int x8 u13, .int x9 u14, .int x10 u15] n') :: news) → AllLt D news → Q (.ref D) { s with heap := h', toks := tk' }) :
    wpAny (model PySem.Challenge.rw_lk0009_01.row.prog w) (ktrTop dp un gd cn cs L a ccd cl outer) (call (.ref 28) [.ref l]) Q E s := by
  revert X
  k_fill
  intro X
  have N₀ : News h₀ L s.heap [(l, listOf #[.int x0 t0, .int x1 t1, .int x2 t2, .int x3 t3, .int x4 t4, .int x5 t5, .int x6 t6, .int x7 t7, .int x8 t8, .int x9 t9, .int x10 t10, .int x11 t11, .int x12 t12, .int x13 t13, .int x14 t14, .int x15 t15] n), (q, oq)] := fun r hr => by rcases List.mem_cons.mp hr with rfl | hr; exact N _ hm; rw [List.mem_singleton.mp hr]; exact N _ hq
  refine wpAny_call ?_
  k_dflt (refine' code_led ?k1 ?k2 ?k3 ?k4 ?k5 ?kA ?kF ?kK ?k6 ?k7 ?k8 ?k9 ?kB ?_ ?c2 ?c3 ?c4 ?c5; (case kA => exact rfl); (case kF => exact rfl); (case kK => assumption); (case k1 => k_asm); (case k2 => k_asm); (case k3 => k_asm); (case k4 => exact N₀); (case k5 => k_asm); (case k6 => k_is); (case k7 => k_is); (case k8 => ktr_room); (case k9 => exact BindsTo.of_eq rfl); (case c5 => decide); (case kB => exact locs rfl); (case c2 => exact rfl); (case c3 => exact rfl); (case c4 => exact rfl); k_whole; intro g' L' h' Hg FG' F' N' B' X' T'; (try dsimp only); (try k_fold))
  k_steps
  rename Fr h₀ L _ _ => kF
  rename News h₀ L _ _ => kN
  rename Fr g' _ _ _ => kG
  refine ret _ _ _ _ _ _ _ _ _ _ _ _ _ _ _ _ _ _ _ _ kF (news_behind2 N hm hq Hg kG kN (by k_mem) (by k_mem) (by k_mem)) (allLt_up hqm ?_)
  (try dsimp only)
  omega

theorem ItemsFrom.head {f : St} {z n : Nat} {vs : List Value} (h : ItemsFrom f z vs) (hl : vs.length = n + 1) : ∃ t r, vs = .int (wi (f z)) t :: r ∧ ItemsFrom f (z + 1) r ∧ r.length = n := by
  cases h with
  | nil => simp at hl
  | cons h => exact ⟨_, _, rfl, h, by simpa using hl⟩
theorem items16 {f : St} {vs : List Value} (h : ItemsFrom f 0 vs) (hl : vs.length = 16) : ∃ t0 t1 t2 t3 t4 t5 t6 t7 t8 t9 t10 t11 t12 t13 t14 t15,
    vs = [.int (wi (f 0)) t0, .int (wi (f 1)) t1, .int (wi (f 2)) t2, .int (wi (f 3)) t3, .int (wi (f 4)) t4, .int (wi (f 5)) t5, .int (wi (f 6)) t6, .int (wi (f 7)) t7, .int (wi (f 8)) t8, .int (wi (f 9)) t9, .int (wi (f 10)) t10, .int (wi (f 11)) t11, .int (wi (f 12)) t12, .int (wi (f 13)) t13, .int (wi (f 14)) t14, .int (wi (f 15)) t15] := by
  obtain ⟨t0, vs, rfl, h, hl⟩ := h.head hl
  obtain ⟨t1, vs, rfl, h, hl⟩ := h.head hl
  obtain ⟨t2, vs, rfl, h, hl⟩ := h.head hl
  obtain ⟨t3, vs, rfl, h, hl⟩ := h.head hl
  obtain ⟨t4, vs, rfl, h, hl⟩ := h.head hl
  obtain ⟨t5, vs, rfl, h, hl⟩ := h.head hl
  obtain ⟨t6, vs, rfl, h, hl⟩ := h.head hl
  obtain ⟨t7, vs, rfl, h, hl⟩ := h.head hl
  obtain ⟨t8, vs, rfl, h, hl⟩ := h.head hl
  obtain ⟨t9, vs, rfl, h, hl⟩ := h.head hl
  obtain ⟨t10, vs, rfl, h, hl⟩ := h.head hl
  obtain ⟨t11, vs, rfl, h, hl⟩ := h.head hl
  obtain ⟨t12, vs, rfl, h, hl⟩ := h.head hl
  obtain ⟨t13, vs, rfl, h, hl⟩ := h.head hl
  obtain ⟨t14, vs, rfl, h, hl⟩ := h.head hl
  obtain ⟨t15, vs, rfl, h, hl⟩ := h.head hl
  obtain rfl := List.eq_nil_of_length_eq_zero hl
  exact ⟨t0, t1, t2, t3, t4, t5, t6, t7, t8, t9, t10, t11, t12, t13, t14, t15, rfl⟩
def mvb (j : Nat) : Nat := (j / 4 + 3) % 4 * 4 + (j % 4 + 3) % 4
def turned (V : St) : St := fun j => V (mvb j)
theorem moved_call {l : Addr} {its : Array Value} {n : Nat} {V : St}
    (B : Below A₀ base outer h₀) (F : Fr h₀ L s.heap m) (X : (hd.heap_39 w.params).In h₀) (N : News h₀ L s.heap news) (T : Top p loose mean mg mb h₀) (hk : cs.kind = .function)
    (hm : (l, listOf its n) ∈ news) (hi : ItemsFrom V 0 its.toList) (hz : its.size = 16) (hd : dp + 1 < recursionLimit) (hu : un + 8 < cLine)
    (ret : ∀ D its' n' h' tk', Fr h₀ L h' m → News h₀ L h' ((D, listOf its' n') :: news) → AllLt D news → ItemsFrom (turned V) 0 its'.toList → its'.size = 16 → Q (.ref D) { s with heap := h', toks := tk' }) :
    wpAny (model PySem.Challenge.rw_lk0009_01.row.prog w) (ktrTop dp un gd cn cs L a ccd cl outer) (call (.ref 28) [.ref l]) Q E s := by
  obtain ⟨vs⟩ := its
  obtain ⟨t0, t1, t2, t3, t4, t5, t6, t7, t8, t9, t10, t11, t12, t13, t14, t15, rfl⟩ := items16 hi hz
  obtain ⟨q, oq, hq, hqm⟩ := highest hm
  refine moved_explicit B F X N hm hq hqm T hk hd hu fun D n' h' tk' u0 u1 u2 u3 u4 u5 u6 u7 u8 u9 u10 u11 u12 u13 u14 u15 kF kN kA => ?_
  refine ret D _ n' h' tk' kF kN kA ?_ rfl
  exact .cons (.cons (.cons (.cons (.cons (.cons (.cons (.cons (.cons (.cons (.cons (.cons (.cons (.cons (.cons (.cons (.nil _))))))))))))))))
end
end
end Mine

namespace Mine
section
open PySem.Spec PySem.Calls
set_option maxRecDepth 100000
theorem newList_keep {M : Model} {A : Around} {E : Value → Shared → Prop} {s : Shared} {h₀ : Heap} {L D : Addr} {m : Str → Option Value} {news : List (Addr × Obj)} {vs : List Value} {ys : Array Value} {Q : Value → Shared → Prop} (F : Fr h₀ L s.heap m) (N : News h₀ L s.heap news) (hl : s.heap.IsList D ys)
    (h : ∀ l h', Fr h₀ L h' m → News h₀ L h' ((l, listOf vs.toArray 0) :: news) → (∀ p ∈ news, p.1 < l) → h'.IsList D ys → Q (.ref l) { s with heap := h' }) (hsz : vs.length ≤ sizeLine) : wpAny M A (newList vs) Q E s :=
  wpAny_newObj_type (h _ _ (F.push _) (N.push F _) (fun p hp => Heap.lt_size (N p hp).1) (hl.push _)) (by show vs.toArray.size ≤ sizeLine; rw [List.size_toArray]; exact hsz)
theorem filter_none : ∀ xs : List Int, (∀ x ∈ xs, 0 ≤ x ∧ x < 4294967296) → List.filter (fun a : Int => if 0 ≤ a then !decide (a < 2 ^ Int.toNat 32) else !false) xs = [] := by
  intro xs h
  rw [List.filter_eq_nil_iff]
  intro a ha
  have ⟨h0, h1⟩ := h a ha
  simp [h0, h1]
local macro_rules | `(tactic| walk_at "newList") => `(tactic| (k_here; k_dflt (refine' newList_keep ?kF ?kN ?kl ?_ ?ks; (case kl => with_reducible assumption); (case kF => k_asm); (case kN => k_asm); (case ks => size_fits)); intro l9 h9 F9 N9 lt9 hl9; (try dsimp only); (try k_fold)))
local macro_rules | `(tactic| walk_at "call ref") => `(tactic| (k_here; (with_reducible show wpAny _ _ (call (Value.ref 21) [Value.ref _]) _ _ _); k_dflt (refine' salsa_call (V := ?V) ?hV ?k1 ?k2 ?k3 ?k4 ?k5 ?kK ?hm ?hi ?hz ?hd ?hu ?_; (case k1 => k_asm); (case k2 => k_asm); (case k3 => k_asm); (case k4 => k_asm); (case k5 => k_asm); (case kK => first | exact rfl | assumption); (case hm => k_mem); (case hi => exact .cons (.cons (.cons (.cons (.cons (.cons (.cons (.cons (.cons (.cons (.cons (.cons (.cons (.cons (.cons (.cons (.nil _))))))))))))))))); (case hz => exact rfl); (case hV => assumption); (case hd => ktr_room); (case hu => ktr_units)); intro D tup h' tk' F' N' AL hi hz; obtain ⟨vs⟩ := tup; obtain ⟨t0, t1, t2, t3, t4, t5, t6, t7, t8, t9, t10, t11, t12, t13, t14, t15, hvs⟩ := items16 hi hz; subst hvs; clear hi hz; (try dsimp only); (try k_fold)))
section
variable {w : World} {p : Program} {loose : List Str} {mean : ExcName → Option Value} {mg mb : Str → Option Value} {dp un : Nat} {gd : Option (List Code)} {cn : Str} {cs : Scope} {a : Addr} {ccd : Value} {cl : List (Str × Addr)} {outer : List Env} {A₀ : Around} {base h₀ : Heap} {L : Addr} {m : Str → Option Value} {news : List (Addr × Obj)} {s : Shared} {Q E : Value → Shared → Prop}
set_option maxHeartbeats 4000000 in
theorem answer_explicit {l q : Addr} {oq : Obj} {n : Nat} {V : St} {t0 t1 t2 t3 t4 t5 t6 t7 t8 t9 t10 t11 t12 t13 t14 t15 : Tok} (hV : ∀ j, V (j + 16) = V j)
    (B : Below A₀ base outer h₀) (F : Fr h₀ L s.heap m) (X : (hd.heap_39 w.params).In h₀) (N₁ : News h₀ L s.heap news) (hm : (l, listOf #[.int (wi (V 0)) t0, .int (wi (V 1)) t1, .int (wi (V 2)) t2, .int (wi (V 3)) t3, .int (wi (V 4)) t4, .int (wi (V 5)) t5, .int (wi (V 6)) t6, .int (wi (V 7)) t7, .int (wi (V 8)) t8, .int (wi (V 9)) t9, .int (wi (V 10)) t10, .int (wi (V 11)) t11, .int (wi (V 12)) t12, .int (wi (V 13)) t13, .int (wi (V 14)) t14, .int (wi (V 15)) t15] n) ∈ news) (hq : (q, oq) ∈ news) (hqm : ∀ p ∈ news, p.1 ≤ q) (T : Top p loose mean mg mb h₀) (hk : cs.kind = .function)
    (hd : dp + 2 < recursionLimit) (hu : un + 256 < cLine)
    (ret : ∀ D its' n' h' tk', Fr h₀ L h' m → News h₀ L h' ((D, listOf its' n') :: news) → AllLt D news → ItemsFrom (core V) 0 its'.toList → its'.size = 16 → Q (.ref D) { s with heap := h', toks := tk' }) :
    wpAny (model PySem.Challenge.rw_lk0009_01.row.prog w) (ktrTop dp un gd cn cs L a ccd cl outer) (call (.ref 33) [.ref l]) Q E s := by
  revert X
  k_fill
  intro X
  have N₀ : News h₀ L s.heap [(l, listOf #[.int (wi (V 0)) t0, .int (wi (V 1)) t1, .int (wi (V 2)) t2, .int (wi (V 3)) t3, .int (wi (V 4)) t4, .int (wi (V 5)) t5, .int (wi (V 6)) t6, .int (wi (V 7)) t7, .int (wi (V 8)) t8, .int (wi (V 9)) t9, .int (wi (V 10)) t10, .int (wi (V 11)) t11, .int (wi (V 12)) t12, .int (wi (V 13)) t13, .int (wi (V 14)) t14, .int (wi (V 15)) t15] n), (q, oq)] := fun r hr => by rcases List.mem_cons.mp hr with rfl | hr; exact N₁ _ hm; rw [List.mem_singleton.mp hr]; exact N₁ _ hq
  refine wpAny_call ?_
  k_dflt (refine' code_led ?k1 ?k2 ?k3 ?k4 ?k5 ?kA ?kF ?kK ?k6 ?k7 ?k8 ?k9 ?kB ?_ ?c2 ?c3 ?c4 ?c5; (case kA => exact rfl); (case kF => exact rfl); (case kK => assumption); (case k1 => k_asm); (case k2 => k_asm); (case k3 => k_asm); (case k4 => exact N₀); (case k5 => k_asm); (case k6 => k_is); (case k7 => k_is); (case k8 => ktr_room); (case k9 => exact BindsTo.of_eq rfl); (case c5 => decide); (case kB => exact locs rfl); (case c2 => exact rfl); (case c3 => exact rfl); (case c4 => exact rfl); k_whole; intro g' L' h' Hg FG' F' N' B' X' T'; (try dsimp only); (try k_fold))
  clear N₀
  k_steps
  · rename Fr h₀ L _ _ => kF
    rename News h₀ L _ _ => kN
    rename Fr g' _ _ _ => kG
    refine ret _ _ _ _ _ kF (news_behind2 N₁ hm hq Hg kG kN (by k_mem) (by k_mem) (by k_mem)) (allLt_up hqm ?_) (.cons (.cons (.cons (.cons (.cons (.cons (.cons (.cons (.cons (.cons (.cons (.cons (.cons (.cons (.cons (.cons (.nil _))))))))))))))))) rfl
    (try dsimp only)
    omega
  · exfalso
    rename decide _ = false => hx
    have e := filter_none [wi (core V 0), wi (core V 1), wi (core V 2), wi (core V 3), wi (core V 4), wi (core V 5), wi (core V 6), wi (core V 7), wi (core V 8), wi (core V 9), wi (core V 10), wi (core V 11), wi (core V 12), wi (core V 13), wi (core V 14), wi (core V 15)] (by simp only [List.forall_mem_cons]; exact ⟨⟨wi_nonneg _, wi_lt _⟩, ⟨wi_nonneg _, wi_lt _⟩, ⟨wi_nonneg _, wi_lt _⟩, ⟨wi_nonneg _, wi_lt _⟩, ⟨wi_nonneg _, wi_lt _⟩, ⟨wi_nonneg _, wi_lt _⟩, ⟨wi_nonneg _, wi_lt _⟩, ⟨wi_nonneg _, wi_lt _⟩, ⟨wi_nonneg _, wi_lt _⟩, ⟨wi_nonneg _, wi_lt _⟩, ⟨wi_nonneg _, wi_lt _⟩, ⟨wi_nonneg _, wi_lt _⟩, ⟨wi_nonneg _, wi_lt _⟩, ⟨wi_nonneg _, wi_lt _⟩, ⟨wi_nonneg _, wi_lt _⟩, ⟨wi_nonneg _, wi_lt _⟩, fun _ h => nomatch h⟩)
    rw [e] at hx
    exact absurd hx (by decide)
theorem answer_call {l : Addr} {its : Array Value} {n : Nat} {V : St} (hV : ∀ j, V (j + 16) = V j)
    (B : Below A₀ base outer h₀) (F : Fr h₀ L s.heap m) (X : (hd.heap_39 w.params).In h₀) (N : News h₀ L s.heap news) (T : Top p loose mean mg mb h₀) (hk : cs.kind = .function)
    (hm : (l, listOf its n) ∈ news) (hi : ItemsFrom V 0 its.toList) (hz : its.size = 16) (hd : dp + 2 < recursionLimit) (hu : un + 256 < cLine)
    (ret : ∀ D its' n' h' tk', Fr h₀ L h' m → News h₀ L h' ((D, listOf its' n') :: news) → AllLt D news → ItemsFrom (core V) 0 its'.toList → its'.size = 16 → Q (.ref D) { s with heap := h', toks := tk' }) :
    wpAny (model PySem.Challenge.rw_lk0009_01.row.prog w) (ktrTop dp un gd cn cs L a ccd cl outer) (call (.ref 33) [.ref l]) Q E s := by
  obtain ⟨vs⟩ := its
  obtain ⟨t0, t1, t2, t3, t4, t5, t6, t7, t8, t9, t10, t11, t12, t13, t14, t15, rfl⟩ := items16 hi hz
  obtain ⟨q, oq, hq, hqm⟩ := highest hm
  exact answer_explicit hV B F X N hm hq hqm T hk hd hu ret
end
end
end Mine

namespace Mine
section
open PySem.Spec PySem.Calls
set_option maxRecDepth 100000
theorem news_behind0 {L' D L : Addr} {m' : Str → Option Value} {h₀ h g h' : Heap} {od : Obj} {led news : List (Addr × Obj)} (N : News h₀ L h news) (hg : AllBut h g []) (F' : Fr g L' h' m') (N' : News h₀ L h' led) (hD : (D, od) ∈ led) :
    News h₀ L h' ((D, od) :: news) := by
  intro r hr
  rcases List.mem_cons.mp hr with rfl | hr
  · exact N' _ hD
  · exact ⟨F'.keep _ _ (hg r.1 r.2 (fun h => nomatch h) (N r hr).1), (N r hr).2⟩
local macro_rules | `(tactic| walk_at "newList") => `(tactic| (k_here; k_dflt (refine' newList_keep ?kF ?kN ?kl ?_ ?ks; (case kl => with_reducible assumption); (case kF => k_asm); (case kN => k_asm); (case ks => size_fits)); intro l9 h9 F9 N9 lt9 hl9; (try dsimp only); (try k_fold)))
local macro_rules | `(tactic| walk_at "call ref") => `(tactic| (k_here; (with_reducible show wpAny _ _ (call (Value.ref 21) [Value.ref _]) _ _ _); k_dflt (refine' salsa_call (V := ?V) ?hV ?k1 ?k2 ?k3 ?k4 ?k5 ?kK ?hm ?hi ?hz ?hd ?hu ?_; (case k1 => k_asm); (case k2 => k_asm); (case k3 => k_asm); (case k4 => k_asm); (case k5 => k_asm); (case kK => first | exact rfl | assumption); (case hm => k_mem); (case hi => exact .cons (.cons (.cons (.cons (.cons (.cons (.cons (.cons (.cons (.cons (.cons (.cons (.cons (.cons (.cons (.cons (.nil _))))))))))))))))); (case hz => exact rfl); (case hV => assumption); (case hd => ktr_room); (case hu => ktr_units)); intro D tup h' tk' F' N' AL hi hz; obtain ⟨vs⟩ := tup; obtain ⟨t0, t1, t2, t3, t4, t5, t6, t7, t8, t9, t10, t11, t12, t13, t14, t15, hvs⟩ := items16 hi hz; subst hvs; clear hi hz; (try dsimp only); (try k_fold)))
section
variable {w : World} {p : Program} {loose : List Str} {mean : ExcName → Option Value} {mg mb : Str → Option Value} {dp un : Nat} {gd : Option (List Code)} {cn : Str} {cs : Scope} {a : Addr} {ccd : Value} {cl : List (Str × Addr)} {outer : List Env} {A₀ : Around} {base h₀ : Heap} {L : Addr} {m : Str → Option Value} {news : List (Addr × Obj)} {s : Shared} {Q E : Value → Shared → Prop}
set_option maxHeartbeats 4000000 in
theorem answer_list {l : Addr} {V : St} {t0 t1 t2 t3 t4 t5 t6 t7 t8 t9 t10 t11 t12 t13 t14 t15 : Tok} (hV : ∀ j, V (j + 16) = V j)
    (B : Below A₀ base outer h₀) (F : Fr h₀ L s.heap m) (X : (hd.heap_39 w.params).In h₀) (N₁ : News h₀ L s.heap news) (hl : s.heap.IsList l #[.int (wi (V 0)) t0, .int (wi (V 1)) t1, .int (wi (V 2)) t2, .int (wi (V 3)) t3, .int (wi (V 4)) t4, .int (wi (V 5)) t5, .int (wi (V 6)) t6, .int (wi (V 7)) t7, .int (wi (V 8)) t8, .int (wi (V 9)) t9, .int (wi (V 10)) t10, .int (wi (V 11)) t11, .int (wi (V 12)) t12, .int (wi (V 13)) t13, .int (wi (V 14)) t14, .int (wi (V 15)) t15]) (T : Top p loose mean mg mb h₀) (hk : cs.kind = .function)
    (hd : dp + 2 < recursionLimit) (hu : un + 256 < cLine)
    (ret : ∀ D its' n' h' tk', Fr h₀ L h' m → News h₀ L h' ((D, listOf its' n') :: news) → ItemsFrom (core V) 0 its'.toList → its'.size = 16 → Q (.ref D) { s with heap := h', toks := tk' }) :
    wpAny (model PySem.Challenge.rw_lk0009_01.row.prog w) (ktrTop dp un gd cn cs L a ccd cl outer) (call (.ref 33) [.ref l]) Q E s := by
  revert X
  k_fill
  intro X
  have N₀ : News h₀ L s.heap [] := News.nil
  refine wpAny_call ?_
  k_dflt (refine' code_led ?k1 ?k2 ?k3 ?k4 ?k5 ?kA ?kF ?kK ?k6 ?k7 ?k8 ?k9 ?kB ?_ ?c2 ?c3 ?c4 ?c5; (case kA => exact rfl); (case kF => exact rfl); (case kK => assumption); (case k1 => k_asm); (case k2 => k_asm); (case k3 => k_asm); (case k4 => exact N₀); (case k5 => k_asm); (case k6 => k_is); (case k7 => k_is); (case k8 => ktr_room); (case k9 => exact BindsTo.of_eq rfl); (case c5 => decide); (case kB => exact locs rfl); (case c2 => exact rfl); (case c3 => exact rfl); (case c4 => exact rfl); k_whole; intro g' L' h' Hg FG' F' N' B' X' T'; (try dsimp only); (try k_fold))
  clear N₀
  have hb : g'.IsList l #[.int (wi (V 0)) t0, .int (wi (V 1)) t1, .int (wi (V 2)) t2, .int (wi (V 3)) t3, .int (wi (V 4)) t4, .int (wi (V 5)) t5, .int (wi (V 6)) t6, .int (wi (V 7)) t7, .int (wi (V 8)) t8, .int (wi (V 9)) t9, .int (wi (V 10)) t10, .int (wi (V 11)) t11, .int (wi (V 12)) t12, .int (wi (V 13)) t13, .int (wi (V 14)) t14, .int (wi (V 15)) t15] := by
    obtain ⟨o, ho, hr⟩ := hl
    exact ⟨o, Hg _ _ (fun h => nomatch h) ho, hr⟩
  clear hl
  k_steps
  · rename Fr h₀ L _ _ => kF
    rename News h₀ L _ _ => kN
    rename Fr g' _ _ _ => kG
    exact ret _ _ _ _ _ kF (news_behind0 N₁ Hg kG kN (by k_mem)) (.cons (.cons (.cons (.cons (.cons (.cons (.cons (.cons (.cons (.cons (.cons (.cons (.cons (.cons (.cons (.cons (.nil _))))))))))))))))) rfl
  · exfalso
    rename decide _ = false => hx
    have e := filter_none [wi (core V 0), wi (core V 1), wi (core V 2), wi (core V 3), wi (core V 4), wi (core V 5), wi (core V 6), wi (core V 7), wi (core V 8), wi (core V 9), wi (core V 10), wi (core V 11), wi (core V 12), wi (core V 13), wi (core V 14), wi (core V 15)] (by simp only [List.forall_mem_cons]; exact ⟨⟨wi_nonneg _, wi_lt _⟩, ⟨wi_nonneg _, wi_lt _⟩, ⟨wi_nonneg _, wi_lt _⟩, ⟨wi_nonneg _, wi_lt _⟩, ⟨wi_nonneg _, wi_lt _⟩, ⟨wi_nonneg _, wi_lt _⟩, ⟨wi_nonneg _, wi_lt _⟩, ⟨wi_nonneg _, wi_lt _⟩, ⟨wi_nonneg _, wi_lt _⟩, ⟨wi_nonneg _, wi_lt _⟩, ⟨wi_nonneg _, wi_lt _⟩, ⟨wi_nonneg _, wi_lt _⟩, ⟨wi_nonneg _, wi_lt _⟩, ⟨wi_nonneg _, wi_lt _⟩, ⟨wi_nonneg _, wi_lt _⟩, ⟨wi_nonneg _, wi_lt _⟩, fun _ h => nomatch h⟩)
    rw [e] at hx
    exact absurd hx (by decide)
end
end
end Mine

namespace Mine
section
open PySem.Spec PySem.Calls
set_option maxRecDepth 100000
structure Stop (P : Prop) : Prop where
  out : P
section
variable {prog : Program} {w : World} {M : Model} {A : Around} {E : Value → Shared → Prop} {s : Shared} {env : Env} {h₀ : Heap} {x : Str} {body : List Stmt} {Q : Flow → Shared → Prop}

/-- a statement that gives one name an int, whatever its ways -/
def Got (h₀ : Heap) (L : Addr) (m : Str → Option Value) (news : List (Addr × Obj)) (x : Str) (s : Shared) (f : Flow) (s' : Shared) : Prop :=
  f = .next ∧ ∃ v t h tk, s' = { s with heap := h, toks := tk } ∧ Fr h₀ L h (fun y => if y = x then some (.int v t) else m y) ∧ News h₀ L h news
theorem one_int {L : Addr} {m : Str → Option Value} {news : List (Addr × Obj)} {st : Stmt} {r : List Stmt} (x : Str) (_F : Fr h₀ L s.heap m) (_N : News h₀ L s.heap news)
    (hst : wpAny M A (exec st env) (Got h₀ L m news x s) E s)
    (rest : ∀ v t h tk, Fr h₀ L h (fun y => if y = x then some (.int v t) else m y) → News h₀ L h news → wpAny M A (execs r env) Q E { s with heap := h, toks := tk }) :
    wpAny M A (execs (st :: r) env) Q E s :=
  wpAny_execs_cons (wpAny_mono hst (fun f s' g => by obtain ⟨rfl, v, t, h, tk, rfl, F, N⟩ := g; exact rest v t h tk F N) fun _ _ e => e)

/-- a loop over a range, by an invariant -/
theorem range_inv {I : Addr} {a : Int} {n : Nat} (J : Nat → (Str → Option Value) → List (Addr × Obj) → Prop)
    (turn : ∀ i m news t h tk, i < n → J i m news → Fr h₀ env.locals h (fun y => if y = x then some (.int (a + (i : Int)) t) else m y) →
      News h₀ env.locals h ((I, itR (a + ((i + 1 : Nat) : Int)) ((n : Int) - ((i + 1 : Nat) : Int))) :: news) →
      wpAny (model prog w) A (execs body env) (UnrPost h₀ env.locals { s with heap := h, toks := tk } I (itR (a + ((i + 1 : Nat) : Int)) ((n : Int) - ((i + 1 : Nat) : Int))) (J (i + 1)) Q) E { s with heap := h, toks := tk })
    (done : ∀ m news, J n m news → ∀ h tk, Fr h₀ env.locals h m → News h₀ env.locals h news → Q .next { s with heap := h, toks := tk }) :
    ∀ k i m news, i + k = n → J i m news → RangeRest prog w A E h₀ env x body Q s I a n k i m news := by
  intro k
  induction k with
  | zero =>
    intro i m news e hJ
    have e' : i = n := e
    subst e'
    exact RangeRest.zero (done m news hJ)
  | succ k ih =>
    intro i m news e hJ
    refine RangeRest.succ fun t h tk F N => ?_
    refine wpAny_mono (turn i m news t h tk (by omega) hJ F N) (fun f s₂ p => ?_) fun _ _ e => e
    have up : UnrEnd h₀ env.locals { s with heap := h, toks := tk } I (itR (a + ((i + 1 : Nat) : Int)) ((n : Int) - ((i + 1 : Nat) : Int))) (J (i + 1)) s₂ →
        UnrEnd h₀ env.locals { s with heap := h, toks := tk } I (itR (a + ((i + 1 : Nat) : Int)) ((n : Int) - ((i + 1 : Nat) : Int))) (RangeRest prog w A E h₀ env x body Q s I a n k (i + 1)) s₂ := by
      rintro ⟨h', tk', m', news', e', F', N', off, r⟩
      exact ⟨h', tk', m', news', e', F', N', off, ih (i + 1) m' news' (by omega) r⟩
    cases f with
    | ret v => exact p
    | brk => exact p
    | next => exact up p
    | cont => exact up p
/-- a turn that appends one item to a list and stores two names at most -/
def Grew (h₀ : Heap) (L : Addr) (I : Addr) (it : Obj) (wa : Addr) (others : List (Addr × Obj)) (vs : List Value) (m₀ : Str → Option Value) (x b : Str) (P : List Value → Prop) (s : Shared) (f : Flow) (s' : Shared) : Prop :=
  f = .next ∧ ∃ h' tk m' v nw, s' = { s with heap := h', toks := tk } ∧ Fr h₀ L h' m' ∧ News h₀ L h' ((I, it) :: (wa, listOf (vs ++ [v]).toArray nw) :: others) ∧ P (vs ++ [v]) ∧ ∀ y, y ≠ x → y ≠ b → m' y = m₀ y
theorem range_list {I : Addr} {a : Int} {n n₀ : Nat} {m₀ : Str → Option Value} {wa : Addr} {others : List (Addr × Obj)} (b : Str) (P : List Value → Prop) (h0 : P []) (off : ∀ p ∈ (wa, listOf #[] n₀) :: others, p.1 ≠ I)
    (turn : ∀ vs (u : Str → Option Value) nw t h tk, vs.length < n → P vs → Fr h₀ env.locals h (fun y => if y = x then some (.int (a + (vs.length : Int)) t) else if y = b then u y else m₀ y) →
      News h₀ env.locals h ((I, itR (a + ((vs.length + 1 : Nat) : Int)) ((n : Int) - ((vs.length + 1 : Nat) : Int))) :: (wa, listOf vs.toArray nw) :: others) →
      wpAny (model prog w) A (execs body env) (Grew h₀ env.locals I (itR (a + ((vs.length + 1 : Nat) : Int)) ((n : Int) - ((vs.length + 1 : Nat) : Int))) wa others vs m₀ x b P { s with heap := h, toks := tk }) E { s with heap := h, toks := tk })
    (done : ∀ vs (u : Str → Option Value) nw h tk, vs.length = n → P vs → Fr h₀ env.locals h (fun y => if y = x then u y else if y = b then u y else m₀ y) → News h₀ env.locals h ((wa, listOf vs.toArray nw) :: others) → Q .next { s with heap := h, toks := tk }) :
    RangeRest prog w A E h₀ env x body Q s I a n n 0 m₀ ((wa, listOf #[] n₀) :: others) := by
  let J : Nat → (Str → Option Value) → List (Addr × Obj) → Prop := fun i m news => ∃ vs nw, vs.length = i ∧ P vs ∧ (∀ y, y ≠ x → y ≠ b → m y = m₀ y) ∧ news = (wa, listOf vs.toArray nw) :: others
  have fit : ∀ m : Str → Option Value, (∀ y, y ≠ x → y ≠ b → m y = m₀ y) → (fun y => if y = x then m y else if y = b then m y else m₀ y) = m := by
    intro m hm
    funext y
    by_cases h1 : y = x
    · rw [if_pos h1]
    · rw [if_neg h1]
      by_cases h2 : y = b
      · rw [if_pos h2]
      · rw [if_neg h2]; exact (hm y h1 h2).symm
  refine range_inv J ?_ ?_ n 0 m₀ _ (by omega) ⟨[], n₀, rfl, h0, fun _ _ _ => rfl, rfl⟩
  · rintro i m news t h tk hi ⟨vs, nw, rfl, hP, hm, rfl⟩ F N
    have e : (fun y => if y = x then some (Value.int (a + (vs.length : Int)) t) else m y) = fun y => if y = x then some (Value.int (a + (vs.length : Int)) t) else if y = b then m y else m₀ y := by
      funext y
      by_cases h1 : y = x
      · rw [if_pos h1, if_pos h1]
      · rw [if_neg h1, if_neg h1]
        by_cases h2 : y = b
        · rw [if_pos h2]
        · rw [if_neg h2]; exact hm y h1 h2
    rw [e] at F
    refine wpAny_mono (turn vs m nw t h tk hi hP F N) (fun f s₂ g => ?_) fun _ _ e => e
    obtain ⟨rfl, h', tk', m', v, nw', rfl, F', N', hP', hm'⟩ := g
    exact ⟨h', tk', m', _, rfl, F', N', fun p hp => (List.mem_cons.mp hp).elim (fun e => by rw [e]; exact off (wa, listOf #[] n₀) (.head _)) fun hp => off p (.tail _ hp), ⟨vs ++ [v], nw', by simp, hP', hm', rfl⟩⟩
  · rintro m news ⟨vs, nw, hl, hP, hm, rfl⟩ h tk F N
    rw [← fit m hm] at F
    exact done vs m nw h tk hl hP F N
end

theorem mod_in {a : Int} {n : Nat} (hn : 0 < n) : ¬ (a.fmod (n : Int) < -(n : Int) ∨ (n : Int) ≤ a.fmod (n : Int)) := by
  rw [Int.fmod_eq_emod_of_nonneg _ (by omega)]
  have h1 := Int.emod_nonneg a (b := (n : Int)) (by omega)
  have h2 := Int.emod_lt_of_pos a (b := (n : Int)) (by omega)
  omega
theorem small_right {a b : Int} (h : b.natAbs < 2 ^ 64) : IntMulOk a b := IntMulOk.of_right (intBits_le_iff.mpr h)
theorem mul_any {prog : Program} {w : World} {A : Around} {E : Value → Shared → Prop} {s : Shared} {a b : Int} {t u : Tok} {Q : Value → Shared → Prop} (hb : b.natAbs < 2 ^ 64) (h : ∀ v t tk, Q (.int v t) { s with toks := tk }) :
    wpAny (model prog w) A (binaryOp .Mult (.int a t) (.int b u)) Q E s := mul_int (h _ _ _) (small_right hb)
/-- ints that are words -/
def Words (vs : List Value) : Prop := ∀ v ∈ vs, ∃ n t, v = .int n t ∧ 0 ≤ n ∧ n < 4294967296
theorem items_of {f : St} : ∀ (vs : List Value) (z : Nat), (∀ k, k < vs.length → ∃ t, vs[k]? = some (.int (wi (f (z + k))) t)) → ItemsFrom f z vs
  | [], z, _ => .nil z
  | v :: r, z, h => by
    obtain ⟨t, e⟩ := h 0 (by simp)
    have e' : v = .int (wi (f z)) t := by simpa using e
    subst e'
    refine .cons (items_of r (z + 1) fun k hk => ?_)
    obtain ⟨t', e⟩ := h (k + 1) (by simpa using hk)
    exact ⟨t', by rw [show z + 1 + k = z + (k + 1) by omega]; simpa using e⟩
def valOf (v : Value) : Int := match v with | .int n _ => n | _ => 0
def asSt (vs : List Value) : St := fun j => BitVec.ofInt 32 (valOf (vs.getD (j % 16) .none))
theorem wi_of {n : Int} (h0 : 0 ≤ n) (h1 : n < 4294967296) : wi (BitVec.ofInt 32 n) = n := by
  unfold wi
  rw [BitVec.toNat_ofInt]
  omega
theorem words_st {vs : List Value} (h : Words vs) (hl : vs.length = 16) : ∃ V : St, (∀ j, V (j + 16) = V j) ∧ ItemsFrom V 0 vs := by
  refine ⟨asSt vs, fun j => by unfold asSt; rw [Nat.add_mod_right], items_of vs 0 fun k hk => ?_⟩
  obtain ⟨n, t, e, h0, h1⟩ := h vs[k] (List.getElem_mem hk)
  refine ⟨t, ?_⟩
  rw [List.getElem?_eq_getElem hk, e]
  unfold asSt
  rw [show (0 + k) % 16 = k by omega, List.getD_eq_getElem?_getD, List.getElem?_eq_getElem hk, e]
  show _ = some (Value.int (wi (BitVec.ofInt 32 n)) t)
  rw [wi_of h0 h1]
theorem Words.snoc {vs : List Value} (h : Words vs) {n : Int} {t : Tok} (h0 : 0 ≤ n) (h1 : n < 4294967296) : Words (vs ++ [.int n t]) := by
  intro v hv
  rcases List.mem_append.mp hv with hv | hv
  · exact h v hv
  · exact ⟨n, t, List.mem_singleton.mp hv, h0, h1⟩
theorem ItemsFrom.snoc {f : St} : ∀ {vs : List Value} {z : Nat} {v : Value}, ItemsFrom f z vs → (∃ t, v = .int (wi (f (z + vs.length))) t) → ItemsFrom f z (vs ++ [v])
  | [], z, v, _, ⟨t, e⟩ => by subst e; exact .cons (.nil _)
  | _ :: r, z, v, h, ⟨t, e⟩ => by
    cases h with
    | cons h => exact .cons (ItemsFrom.snoc h ⟨t, by rw [e]; simp; congr 2; omega⟩)

theorem core_turned (V : St) : ∀ j, j < 16 → core (turned V) j = turned (core V) j := by
  intro j hj
  have h : ∀ j, j < 16 → turned V (mv j) = V j := by
    intro j hj
    unfold turned
    congr 1
    unfold mvb mv
    omega
  have := core_mv V (turned V) h (mvb j) (by unfold mvb; omega)
  rw [show mv (mvb j) = j by unfold mv mvb; omega] at this
  exact this
theorem turned_per (V : St) (j : Nat) : turned V (j + 16) = turned V j := by
  unfold turned
  congr 1
  unfold mvb
  omega

/-- the chess square of a word -/
def chess (S : Wd) : St := fun j => if (j / 4 + j) % 2 = 0 then S else -S
theorem chess_per (S : Wd) (j : Nat) : chess S (j + 16) = chess S j := by
  unfold chess
  rw [show ((j + 16) / 4 + (j + 16)) % 2 = (j / 4 + j) % 2 by omega]
theorem chess_core (S : Wd) : core (chess S) = fun j => chess S j + chess S j := by
  refine core_still _ ?_
  have e : ∀ a b : Nat, (a / 4 + a) % 2 ≠ (b / 4 + b) % 2 → chess S a + chess S b = 0#32 := by
    intro a b h
    unfold chess
    by_cases ha : (a / 4 + a) % 2 = 0
    · rw [if_pos ha, if_neg (by omega)]; exact BitVec.add_right_neg S
    · rw [if_neg ha, if_pos (by omega)]; exact BitVec.add_left_neg S
  have all : ∀ o ∈ dblOps, (o.x / 4 + o.x) % 2 ≠ (o.y / 4 + o.y) % 2 := by decide
  exact fun o ho => e _ _ (all o ho)
theorem wi_neg (S : Wd) : (2 ^ 32 - wi S).fmod (2 ^ 32) = wi (-S) := by
  unfold wi
  rw [BitVec.toNat_neg, Int.fmod_eq_emod_of_nonneg _ (by decide)]
  have := S.isLt
  omega
theorem wi_two (S : Wd) : (2 * wi S).fmod (2 ^ 32) = wi (S + S) := by
  unfold wi
  rw [BitVec.toNat_add, Int.fmod_eq_emod_of_nonneg _ (by decide)]
  omega
theorem wi_fl (S : Wd) : (wi S + 2 ^ 31).fmod (2 ^ 32) = wi (S + top) := by
  unfold wi
  rw [BitVec.toNat_add, Int.fmod_eq_emod_of_nonneg _ (by decide), show top.toNat = 2 ^ 31 by decide]
  omega
theorem wi_mod (n : Int) : n.fmod (2 ^ 32) = wi (BitVec.ofInt 32 n) := by
  unfold wi
  rw [BitVec.toNat_ofInt, Int.fmod_eq_emod_of_nonneg _ (by decide)]
  omega
theorem fmod_word (n : Int) : 0 ≤ n.fmod (2 ^ Int.toNat 32) ∧ n.fmod (2 ^ Int.toNat 32) < 4294967296 := by
  have e : n.fmod (2 ^ Int.toNat 32) = wi (BitVec.ofInt 32 n) := wi_mod n
  rw [e]
  exact ⟨wi_nonneg _, wi_lt _⟩
theorem carried_items {f : St} : ∀ {ys : List Value} {ns : List Int} {z : Nat}, CarriedAll ys (ns.map PyData.int) → (∀ k, k < ns.length → ns.getD k 0 = wi (f (z + k))) → ItemsFrom f z ys
  | [], [], z, _, _ => .nil z
  | _, [], z, .nil, _ => .nil z
  | _, n :: r, z, .cons (.int _ t) c, h => by
    have e : n = wi (f z) := h 0 (by simp)
    subst e
    exact .cons (carried_items c fun k hk => by rw [show z + 1 + k = z + (k + 1) by omega]; exact h (k + 1) (by simpa using hk))
theorem carried_len : ∀ {ys : List Value} {ds : List PyData}, CarriedAll ys ds → ys.length = ds.length
  | _, _, .nil => rfl
  | _, _, .cons _ c => by simp [carried_len c]
theorem fl_per {V : St} (hV : ∀ j, V (j + 16) = V j) (j : Nat) : fl V (j + 16) = fl V j := by unfold fl; rw [hV]
theorem map16 (f : Int → Int) (V : St) : ∀ j, j < 16 → (List.map f [wi (V 0), wi (V 1), wi (V 2), wi (V 3), wi (V 4), wi (V 5), wi (V 6), wi (V 7), wi (V 8), wi (V 9), wi (V 10), wi (V 11), wi (V 12), wi (V 13), wi (V 14), wi (V 15)]).getD j 0 = f (wi (V j)) := by
  intro j hj
  iterate 16 (rcases j with _ | j; rfl)
  omega
theorem fl_of (x : Wd) : (wi x + 2 ^ Int.toNat 31).fmod (2 ^ Int.toNat 32) = wi (x + top) := by
  have e1 : Int.toNat 31 = 31 := rfl
  have e2 : Int.toNat 32 = 32 := rfl
  rw [e1, e2]
  exact wi_fl x
theorem two_of (x : Wd) : (2 * wi x).fmod (2 ^ Int.toNat 32) = wi (x + x) := by
  have e2 : Int.toNat 32 = 32 := rfl
  rw [e2]
  exact wi_two x
theorem neg_of (x : Wd) : (2 ^ Int.toNat 32 - wi x).fmod (2 ^ Int.toNat 32) = wi (-x) := by
  have e2 : Int.toNat 32 = 32 := rfl
  rw [e2]
  exact wi_neg x
theorem mod_of (n : Int) : n.fmod (2 ^ Int.toNat 32) = wi (BitVec.ofInt 32 n) := by
  have e2 : Int.toNat 32 = 32 := rfl
  rw [e2]
  exact wi_mod n
theorem mapped_items {f : Int → Int} {g : Wd → Wd} (h : ∀ x, f (wi x) = wi (g x)) {V : St} {ys : List Value} (c : CarriedAll ys (List.map (fun a : Int => PyData.int (f a)) (List.filter (fun _ => true) [wi (V 0), wi (V 1), wi (V 2), wi (V 3), wi (V 4), wi (V 5), wi (V 6), wi (V 7), wi (V 8), wi (V 9), wi (V 10), wi (V 11), wi (V 12), wi (V 13), wi (V 14), wi (V 15)]))) : ItemsFrom (fun j => g (V j)) 0 ys := by
  refine carried_items (ns := List.map f [wi (V 0), wi (V 1), wi (V 2), wi (V 3), wi (V 4), wi (V 5), wi (V 6), wi (V 7), wi (V 8), wi (V 9), wi (V 10), wi (V 11), wi (V 12), wi (V 13), wi (V 14), wi (V 15)]) c fun k hk => ?_
  have hk' : k < 16 := hk
  rw [map16 f V k hk', h, Nat.zero_add]
theorem flipped_items {V : St} {ys : List Value} (c : CarriedAll ys (List.map (fun a : Int => PyData.int ((a + 2 ^ Int.toNat 31).fmod (2 ^ Int.toNat 32))) (List.filter (fun _ => true) [wi (V 0), wi (V 1), wi (V 2), wi (V 3), wi (V 4), wi (V 5), wi (V 6), wi (V 7), wi (V 8), wi (V 9), wi (V 10), wi (V 11), wi (V 12), wi (V 13), wi (V 14), wi (V 15)]))) : ItemsFrom (fl V) 0 ys :=
  mapped_items (f := fun a : Int => (a + 2 ^ Int.toNat 31).fmod (2 ^ Int.toNat 32)) (g := fun x => x + top) fl_of c
theorem flipped_len {V : St} {ys : List Value} (c : CarriedAll ys (List.map (fun a : Int => PyData.int ((a + 2 ^ Int.toNat 31).fmod (2 ^ Int.toNat 32))) (List.filter (fun _ => true) [wi (V 0), wi (V 1), wi (V 2), wi (V 3), wi (V 4), wi (V 5), wi (V 6), wi (V 7), wi (V 8), wi (V 9), wi (V 10), wi (V 11), wi (V 12), wi (V 13), wi (V 14), wi (V 15)]))) : ys.length = 16 := carried_len c
end
end Mine

namespace Mine
section
open PySem.Spec PySem.Calls
set_option maxRecDepth 100000
section
variable {prog : Program} {w : World} {M : Model} {A : Around} {E : Value → Shared → Prop} {s : Shared} {env : Env} {h₀ : Heap} {x : Str} {body : List Stmt} {Q : Flow → Shared → Prop}

/-- two names that hold two lists of words, and all else as it stood -/
def twoOf (xa xw : Str) (aa wa : Addr) (m₀ : Str → Option Value) : Str → Option Value := fun y => if y = xa then some (.ref aa) else if y = xw then some (.ref wa) else m₀ y
/-- a turn's end: both lists moved -/
def MovedEnd (h₀ : Heap) (L : Addr) (I : Addr) (it : Obj) (xa xw x : Str) (W R : St) (m₀ : Str → Option Value) (s : Shared) (f : Flow) (s' : Shared) : Prop :=
  f = .next ∧ ∃ h' tk m' wa aa nw na ws rs, s' = { s with heap := h', toks := tk } ∧ Fr h₀ L h' m' ∧ News h₀ L h' [(I, it), (aa, listOf rs na), (wa, listOf ws nw)] ∧
    ItemsFrom (turned W) 0 ws.toList ∧ ws.size = 16 ∧ ItemsFrom (turned R) 0 rs.toList ∧ rs.size = 16 ∧ (∀ y, y ≠ x → m' y = twoOf xa xw aa wa m₀ y) ∧ aa ≠ I ∧ wa ≠ I
theorem range_moved {I : Addr} {a : Int} {n : Nat} {m₀ m₁ : Str → Option Value} {news₀ : List (Addr × Obj)} (xa xw : Str) {wa aa : Addr} {nw na : Nat} {ws rs : Array Value} {V : St}
    (hV : ∀ j, V (j + 16) = V j) (hn : news₀ = [(aa, listOf rs na), (wa, listOf ws nw)]) (hws : ItemsFrom V 0 ws.toList) (hwl : ws.size = 16) (hrs : ItemsFrom (core V) 0 rs.toList) (hrl : rs.size = 16) (oa : aa ≠ I) (ow : wa ≠ I)
    (hm : ∀ y, y ≠ x → m₁ y = twoOf xa xw aa wa m₀ y)
    (turn : ∀ i (W R : St) wa aa nw na ws rs t h tk, i < n → aa ≠ I → wa ≠ I → ItemsFrom W 0 ws.toList → ws.size = 16 → ItemsFrom R 0 rs.toList → rs.size = 16 → Fr h₀ env.locals h (fun y => if y = x then some (.int (a + (i : Int)) t) else twoOf xa xw aa wa m₀ y) →
      News h₀ env.locals h [(I, itR (a + ((i + 1 : Nat) : Int)) ((n : Int) - ((i + 1 : Nat) : Int))), (aa, listOf rs na), (wa, listOf ws nw)] →
      wpAny (model prog w) A (execs body env) (MovedEnd h₀ env.locals I (itR (a + ((i + 1 : Nat) : Int)) ((n : Int) - ((i + 1 : Nat) : Int))) xa xw x W R m₀ { s with heap := h, toks := tk }) E { s with heap := h, toks := tk })
    (done : ∀ (W : St) wa aa nw na ws rs (u : Str → Option Value) h tk, (∀ j, W (j + 16) = W j) → ItemsFrom W 0 ws.toList → ws.size = 16 → ItemsFrom (core W) 0 rs.toList → rs.size = 16 → Fr h₀ env.locals h (fun y => if y = x then u y else twoOf xa xw aa wa m₀ y) →
      News h₀ env.locals h [(aa, listOf rs na), (wa, listOf ws nw)] → Q .next { s with heap := h, toks := tk }) :
    RangeRest prog w A E h₀ env x body Q s I a n n 0 m₁ news₀ := by
  let J : Nat → (Str → Option Value) → List (Addr × Obj) → Prop := fun i m news => ∃ (W R : St) (wa aa : Addr) (nw na : Nat) (ws rs : Array Value), (∀ j, W (j + 16) = W j) ∧ (∀ j, j < 16 → R j = core W j) ∧ news = [(aa, listOf rs na), (wa, listOf ws nw)] ∧ ItemsFrom W 0 ws.toList ∧ ws.size = 16 ∧
    ItemsFrom R 0 rs.toList ∧ rs.size = 16 ∧ (∀ y, y ≠ x → m y = twoOf xa xw aa wa m₀ y) ∧ aa ≠ I ∧ wa ≠ I
  refine range_inv J ?_ ?_ n 0 m₁ _ (by omega) ⟨V, core V, wa, aa, nw, na, ws, rs, hV, fun _ _ => rfl, hn, hws, hwl, hrs, hrl, hm, oa, ow⟩
  · rintro i m news t h tk hi ⟨W, R, wa, aa, nw, na, ws, rs, hW, hR, rfl, h1, h2, h3, h4, hm, oa, ow⟩ F N
    have e : (fun y => if y = x then some (Value.int (a + (i : Int)) t) else m y) = fun y => if y = x then some (Value.int (a + (i : Int)) t) else twoOf xa xw aa wa m₀ y := by
      funext y
      by_cases h : y = x
      · rw [if_pos h, if_pos h]
      · rw [if_neg h, if_neg h]; exact hm y h
    rw [e] at F
    refine wpAny_mono (turn i W R wa aa nw na ws rs t h tk hi oa ow h1 h2 h3 h4 F N) (fun f s₂ g => ?_) fun _ _ e => e
    obtain ⟨rfl, h', tk', m', wa', aa', nw', na', ws', rs', rfl, F', N', g1, g2, g3, g4, hm', oa', ow'⟩ := g
    refine ⟨h', tk', m', _, rfl, F', N', ?_, ⟨turned W, turned R, wa', aa', nw', na', ws', rs', turned_per W, ?_, rfl, g1, g2, g3, g4, hm', oa', ow'⟩⟩
    · intro p hp
      rcases List.mem_cons.mp hp with rfl | hp
      · exact oa'
      · rw [List.mem_singleton.mp hp]; exact ow'
    · intro j hj
      rw [core_turned W j hj]
      unfold turned
      exact hR _ (by unfold mvb; omega)
  · rintro m news ⟨W, R, wa, aa, nw, na, ws, rs, hW, hR, rfl, h1, h2, h3, h4, hm, _, _⟩ h tk F N
    have e : m = fun y => if y = x then m y else twoOf xa xw aa wa m₀ y := by
      funext y
      by_cases h : y = x
      · rw [if_pos h]
      · rw [if_neg h]; exact hm y h
    rw [e] at F
    exact done W wa aa nw na ws rs m h tk hW h1 h2 (h3.to fun j _ hj => hR j (by rw [Array.length_toList] at hj; omega)) h4 F N

theorem range_drop {I : Addr} {a : Int} {n k i : Nat} {m : Str → Option Value} {news news' : List (Addr × Obj)} (hs : ∀ p ∈ news', p ∈ news) (h : RangeRest prog w A E h₀ env x body Q s I a n k i m news') : RangeRest prog w A E h₀ env x body Q s I a n k i m news := by
  cases k with
  | zero => exact RangeRest.zero fun hh tk F N => h hh tk F fun p hp => N p (hs p hp)
  | succ k => exact RangeRest.succ fun t hh tk F N => h t hh tk F fun p hp => (List.mem_cons.mp hp).elim (fun e => N p (by rw [e]; exact .head _)) fun hp => N p (.tail _ (hs p hp))
theorem same_two {xa xw x : Str} {aa wa : Addr} {m : Str → Option Value} (ha : m xa = some (.ref aa)) (hw : m xw = some (.ref wa)) : ∀ y, y ≠ x → m y = twoOf xa xw aa wa m y := by
  intro y _
  unfold twoOf
  by_cases h1 : y = xa
  · rw [if_pos h1, h1, ha]
  · rw [if_neg h1]
    by_cases h2 : y = xw
    · rw [if_pos h2, h2, hw]
    · rw [if_neg h2]
theorem pow_32 {s : Shared} {t u : Tok} {Q : Value → Shared → Prop} (h : Q (.int (2 ^ Int.toNat 32) s.toks) { s with toks := s.toks + 1 }) : wpAny (model prog w) A (binaryOp .Pow (.int 2 t) (.int 32 u)) Q E s :=
  pow_int_small (by decide) (by decide) (by decide) h
theorem chess_even {S : Wd} {n : Nat} (h : ((0 + (n : Int)).fdiv 4 + (0 + (n : Int))).fmod 2 = 0) : chess S (0 + n) = S := by
  rw [Int.fmod_eq_emod_of_nonneg _ (by decide), Int.fdiv_eq_ediv_of_nonneg _ (by decide)] at h
  simp only [Int.zero_add] at h
  rw [Nat.zero_add]
  unfold chess
  rw [if_pos (by omega)]
theorem chess_odd {S : Wd} {n : Nat} (h : ((0 + (n : Int)).fdiv 4 + (0 + (n : Int))).fmod 2 ≠ 0) : chess S (0 + n) = -S := by
  rw [Int.fmod_eq_emod_of_nonneg _ (by decide), Int.fdiv_eq_ediv_of_nonneg _ (by decide)] at h
  simp only [Int.zero_add] at h
  rw [Nat.zero_add]
  unfold chess
  rw [if_neg (by omega)]
theorem two_list (V : St) : [wi (V 0 + V 0), wi (V 1 + V 1), wi (V 2 + V 2), wi (V 3 + V 3), wi (V 4 + V 4), wi (V 5 + V 5), wi (V 6 + V 6), wi (V 7 + V 7), wi (V 8 + V 8), wi (V 9 + V 9), wi (V 10 + V 10), wi (V 11 + V 11), wi (V 12 + V 12), wi (V 13 + V 13), wi (V 14 + V 14), wi (V 15 + V 15)] = List.map (fun a : Int => (2 * a).fmod (2 ^ Int.toNat 32)) [wi (V 0), wi (V 1), wi (V 2), wi (V 3), wi (V 4), wi (V 5), wi (V 6), wi (V 7), wi (V 8), wi (V 9), wi (V 10), wi (V 11), wi (V 12), wi (V 13), wi (V 14), wi (V 15)] := by
  simp only [List.map_cons, List.map_nil, two_of]
theorem three_small (f : Int) : Builtin.Range.small 0 (1 + f.fmod 3) 1 = true ∧ Builtin.Range.rangeSize 0 (1 + f.fmod 3) 1 = (((1 + f.fmod 3).toNat : Nat) : Int) := by
  have e : f.fmod 3 = 0 ∨ f.fmod 3 = 1 ∨ f.fmod 3 = 2 := by
    rw [Int.fmod_eq_emod_of_nonneg _ (by decide)]
    omega
  rcases e with e | e | e <;> rw [e] <;> decide
end
end
end Mine

namespace Mine
section
open PySem.Spec PySem.Calls
set_option maxRecDepth 100000
local macro_rules | `(tactic| walk_at "call ref") => `(tactic| (k_here; (first | (with_reducible show wpAny _ _ (call (Value.ref 33) [Value.ref _]) _ _ _) | (with_reducible show wpAny _ _ (call (Value.ref 28) [Value.ref _]) _ _ _)); refine Stop.out ?_))
local macro_rules | `(tactic| walk_at "pyIter ref") => `(tactic| (k_here; (with_reducible show wpAny _ _ (pyIter (Value.ref _)) (fun it s₂ => LoopAtV _ _ _ _ _ _ _ _ _ it s₂) _ _); (rename IsRange _ _ _ _ _ _ _ _ => lR'); (rename Fr _ _ _ _ => lF'); (rename News _ _ _ _ => lN'); (with_unfolding_all refine iter_rangeUnr (by rfl) lR' (three_small _).1 (three_small _).2 lF' lN' ?_); clear lR' lF' lN'; intro i' l1; (try k_lt l1); refine Stop.out ?_))
local macro_rules | `(tactic| walk_at "pyIter ref") => `(tactic| (k_here; (with_reducible show wpAny _ _ (pyIter (Value.ref _)) (fun it s₂ => LoopAtV _ _ _ _ _ _ _ _ _ it s₂) _ _); (rename IsRange _ _ _ _ _ _ _ _ => lR'); (rename Fr _ _ _ _ => lF'); (rename News _ _ _ _ => lN'); (with_unfolding_all refine iter_rangeUnr (n := 16) (by rfl) lR' (by first | decide | rfl) (by first | decide | rfl) lF' lN' ?_); clear lR' lF' lN'; intro i' l1; (try k_lt l1); refine Stop.out ?_))
local macro_rules | `(tactic| walk_at "binaryOp Mult int int") => `(tactic| (k_here; refine mul_any ?kb ?_; (focus omega); intro v9 t9 tk9; (try dsimp only)))
local macro_rules | `(tactic| walk_at "binaryOp Mod int int") => `(tactic| (k_here; refine mod_int (b := 2 ^ Int.toNat 32) (by decide) ?_))
local macro_rules | `(tactic| walk_at "binaryOp Pow int int") => `(tactic| (k_here; refine pow_32 ?_))
local macro_rules | `(tactic| walk_at "compareOp NotEq ref ref") => `(tactic| (k_here; (with_reducible show wpAny _ _ (compareOp CmpOp.NotEq (Value.ref _) (Value.ref _)) _ _ _); (with_unfolding_all refine' ne_intsK ?k1 ?k2 ?k3 ?k4 ?k5 ?_; (case k3 => with_reducible assumption); (case k4 => exact CarriedAll.intsOf (by with_reducible assumption)); (case k1 => is_list); (case k2 => l_intsC); (case k5 => units_room); k_whole); simp only [filter_tt, List.map_cons, List.map_nil, two_of, decide_true, Bool.not_true]))
set_option maxHeartbeats 8000000 in
theorem law_holds : PySem.Challenge.rw_lk0009_01.Holds := hd (by
  k_go0
  all_goals try k_fold
  with_reducible rename Fr _ _ _ _ => F1
  refine one_int (Str.ofString "first") F1 News.nil ?_ ?_
  · k_steps
    all_goals exact ⟨rfl, _, _, _, _, rfl, by assumption, by assumption⟩
  intro first tf h1 tk1 F1 N1
  k_steps
  refine ⟨?_⟩
  refine range_list (Str.ofString "number") Words (fun _ h => nomatch h) ?_ ?_ ?_
  · (try simp only [List.forall_mem_cons]); exact ⟨by k_ne, fun _ h => nomatch h⟩
  · intro vs u nw t h tk hlt hP F2 N2
    (try dsimp only)
    refine one_int (Str.ofString "number") F2 N2 ?_ ?_
    · k_steps
      all_goals first | exact ⟨rfl, _, _, _, _, rfl, by assumption, by assumption⟩ | exact absurd (by with_reducible assumption) (mod_in (by with_reducible assumption))
    · intro nb tb h3 tk3 F3 N3
      (try dsimp only)
      k_steps
      rename Fr _ _ _ _ => kF
      rename News _ _ _ _ => kN
      rw [List.push_toArray] at kN
      exact ⟨rfl, _, _, _, _, _, rfl, kF, kN, hP.snoc (fmod_word _).1 (fmod_word _).2, fun y h1 h2 => by simp only [if_neg h1, if_neg h2]⟩
  · intro vs u nw h tk hlen hP F2 N2
    (try dsimp only)
    obtain ⟨V, hV, hi⟩ := words_st hP hlen
    obtain ⟨t0, t1, t2, t3, t4, t5, t6, t7, t8, t9, t10, t11, t12, t13, t14, t15, rfl⟩ := items16 hi hlen
    k_steps
    refine ⟨?_⟩
    refine' answer_call (V := V) hV ?k1 ?k2 ?k3 ?k4 ?k5 ?kK ?hm ?hi ?hz ?hd ?hu ?_
    case k1 => k_asm
    case k2 => k_asm
    case k3 => k_asm
    case k4 => k_asm
    case k5 => k_asm
    case kK => first | exact rfl | assumption
    case hm => k_mem
    case hi => exact .cons (.cons (.cons (.cons (.cons (.cons (.cons (.cons (.cons (.cons (.cons (.cons (.cons (.cons (.cons (.cons (.nil _))))))))))))))))
    case hz => exact rfl
    case hd => ktr_room
    case hu => ktr_units
    intro aD its na h4 tk4 F4 N4 l4 hi4 hz4
    obtain ⟨vs⟩ := its
    obtain ⟨r0, r1, r2, r3, r4, r5, r6, r7, r8, r9, r10, r11, r12, r13, r14, r15, hvs⟩ := items16 hi4 hz4
    subst hvs
    clear hi4 hz4
    try dsimp only
    try k_fold
    k_steps
    refine ⟨?_⟩
    rename Heap.IsList _ _ _ => lD
    rename CarriedAll _ _ => cD
    obtain ⟨q0, q1, q2, q3, q4, q5, q6, q7, q8, q9, q10, q11, q12, q13, q14, q15, rfl⟩ := items16 (flipped_items cD) (flipped_len cD)
    refine' answer_list (V := fl V) (fl_per hV) ?k1 ?k2 ?k3 ?k4 ?hl ?k5 ?kK ?hd ?hu ?_
    case k1 => k_asm
    case k2 => k_asm
    case k3 => k_asm
    case k4 => k_asm
    case k5 => k_asm
    case kK => first | exact rfl | assumption
    case hl => exact lD
    case hd => ktr_room
    case hu => ktr_units
    clear lD cD
    intro aD' its na' h5 tk5 F5 N5 hi5 hz5
    rw [core_fl] at hi5
    obtain ⟨vs⟩ := its
    obtain ⟨p0, p1, p2, p3, p4, p5, p6, p7, p8, p9, p10, p11, p12, p13, p14, p15, hvs⟩ := items16 hi5 hz5
    subst hvs
    clear hi5 hz5
    try dsimp only
    try k_fold
    k_steps
    refine ⟨?_⟩
    rename_i I9 l9
    refine range_drop (news' := [(aD, _), (_, _)]) ?_ (range_moved (na := na) (nw := nw) (Str.ofString "answer") (Str.ofString "words") hV rfl (ws := #[.int (wi (V 0)) t0, .int (wi (V 1)) t1, .int (wi (V 2)) t2, .int (wi (V 3)) t3, .int (wi (V 4)) t4, .int (wi (V 5)) t5, .int (wi (V 6)) t6, .int (wi (V 7)) t7, .int (wi (V 8)) t8, .int (wi (V 9)) t9, .int (wi (V 10)) t10, .int (wi (V 11)) t11, .int (wi (V 12)) t12, .int (wi (V 13)) t13, .int (wi (V 14)) t14, .int (wi (V 15)) t15]) ?_ rfl (rs := ⟨[.int (wi (core V 0)) r0, .int (wi (core V 1)) r1, .int (wi (core V 2)) r2, .int (wi (core V 3)) r3, .int (wi (core V 4)) r4, .int (wi (core V 5)) r5, .int (wi (core V 6)) r6, .int (wi (core V 7)) r7, .int (wi (core V 8)) r8, .int (wi (core V 9)) r9, .int (wi (core V 10)) r10, .int (wi (core V 11)) r11, .int (wi (core V 12)) r12, .int (wi (core V 13)) r13, .int (wi (core V 14)) r14, .int (wi (core V 15)) r15]⟩) ?_ rfl ?_ ?_ (same_two rfl rfl) ?_ ?_)
    · intro p hp
      rcases List.mem_cons.mp hp with rfl | hp
      · k_mem
      · rw [List.mem_singleton.mp hp]; k_mem
    · exact .cons (.cons (.cons (.cons (.cons (.cons (.cons (.cons (.cons (.cons (.cons (.cons (.cons (.cons (.cons (.cons (.nil _))))))))))))))))
    · exact .cons (.cons (.cons (.cons (.cons (.cons (.cons (.cons (.cons (.cons (.cons (.cons (.cons (.cons (.cons (.cons (.nil _))))))))))))))))
    · k_ne
    · k_ne
    · intro i W R wa aa nw na ws rs t h6 tk6 hi oa ow h1 h2 h3 h4 F6 N6
      try dsimp only [twoOf] at F6
      try dsimp only
      k_steps
      refine ⟨?_⟩
      refine' moved_call ?k1 ?k2 ?k3 ?k4 ?k5 ?kK ?hm h1 h2 ?hd ?hu ?_
      case k1 => k_asm
      case k2 => k_asm
      case k3 => k_asm
      case k4 => k_asm
      case k5 => k_asm
      case kK => first | exact rfl | assumption
      case hm => k_mem
      case hd => ktr_room
      case hu => ktr_units
      intro wD its1 n1 h7 tk7 F7 N7 l7 hi7 hz7
      try dsimp only
      try k_fold
      k_steps
      refine ⟨?_⟩
      refine' moved_call ?k1 ?k2 ?k3 ?k4 ?k5 ?kK ?hm h3 h4 ?hd ?hu ?_
      case k1 => k_asm
      case k2 => k_asm
      case k3 => k_asm
      case k4 => k_asm
      case k5 => k_asm
      case kK => first | exact rfl | assumption
      case hm => k_mem
      case hd => ktr_room
      case hu => ktr_units
      intro rD its2 n2 h8 tk8 F8 N8 l8 hi8 hz8
      try dsimp only
      try k_fold
      k_steps
      rename Fr _ _ _ _ => kF
      rename News _ _ _ _ => kN
      simp only [AllLt] at l7 l8
      refine ⟨rfl, _, _, _, wD, rD, n1, n2, its1, its2, rfl, kF, ?_, hi7, hz7, hi8, hz8, ?_, ?_, ?_⟩
      · intro p hp
        rcases List.mem_cons.mp hp with rfl | hp
        · exact kN _ (by k_mem)
        rcases List.mem_cons.mp hp with rfl | hp
        · exact kN _ (by k_mem)
        rw [List.mem_singleton.mp hp]
        exact kN _ (by k_mem)
      · intro y hy
        dsimp only [twoOf]
        by_cases e1 : y = Str.ofString "answer"
        · simp only [if_pos e1]
        · by_cases e2 : y = Str.ofString "words"
          · simp only [if_neg e1, if_pos e2]
          · simp only [if_neg e1, if_neg e2, if_neg hy]
      · k_ne
      · k_ne
    · intro W wa aa nw na ws rs u h6 tk6 hW h1 h2 h3 h4 F6 N6
      obtain ⟨ws⟩ := ws
      obtain ⟨rs⟩ := rs
      obtain ⟨t0, t1, t2, t3, t4, t5, t6, t7, t8, t9, t10, t11, t12, t13, t14, t15, rfl⟩ := items16 h1 h2
      obtain ⟨r0, r1, r2, r3, r4, r5, r6, r7, r8, r9, r10, r11, r12, r13, r14, r15, rfl⟩ := items16 h3 h4
      clear h1 h2 h3 h4
      try dsimp only [twoOf] at F6
      try dsimp only
      k_steps
      refine ⟨?_⟩
      refine' answer_call (V := W) hW ?k1 ?k2 ?k3 ?k4 ?k5 ?kK ?hm ?hi ?hz ?hd ?hu ?_
      case k1 => k_asm
      case k2 => k_asm
      case k3 => k_asm
      case k4 => k_asm
      case k5 => k_asm
      case kK => first | exact rfl | assumption
      case hm => k_mem
      case hi => exact .cons (.cons (.cons (.cons (.cons (.cons (.cons (.cons (.cons (.cons (.cons (.cons (.cons (.cons (.cons (.cons (.nil _))))))))))))))))
      case hz => exact rfl
      case hd => ktr_room
      case hu => ktr_units
      intro mD its9 n9 h9 tk9 F9 N9 l9 hi9 hz9
      obtain ⟨vs⟩ := its9
      obtain ⟨p0, p1, p2, p3, p4, p5, p6, p7, p8, p9, p10, p11, p12, p13, p14, p15, hvs⟩ := items16 hi9 hz9
      subst hvs
      clear hi9 hz9
      try dsimp only
      try k_fold
      k_steps
      refine ⟨?_⟩
      refine range_list (Str.ofString "place") (ItemsFrom (chess (BitVec.ofInt 32 first)) 0) (.nil 0) ?_ ?_ ?_
      · simp only [List.forall_mem_cons]
        (try simp only [AllLt] at *)
        refine ⟨by k_ne, by k_ne, by k_ne, by k_ne, by k_ne, by k_ne, fun _ h => nomatch h⟩
      · intro vs u nw t h10 tk10 hlt hP F10 N10
        try dsimp only
        k_steps
        · rename Fr _ _ _ _ => kF
          rename News _ _ _ _ => kN
          rw [List.push_toArray] at kN
          exact ⟨rfl, _, _, _, _, _, rfl, kF, kN, hP.snoc ⟨_, by rw [chess_even (by with_reducible assumption), mod_of]⟩, fun y h1 h2 => by simp only [if_neg h1]⟩
        · rename Fr _ _ _ _ => kF
          rename News _ _ _ _ => kN
          rw [List.push_toArray] at kN
          exact ⟨rfl, _, _, _, _, _, rfl, kF, kN, hP.snoc ⟨_, by rw [chess_odd (by with_reducible assumption), mod_of first, neg_of]⟩, fun y h1 h2 => by simp only [if_neg h1]⟩
      · intro vs u nw h10 tk10 hlen hP F10 N10
        obtain ⟨t0, t1, t2, t3, t4, t5, t6, t7, t8, t9, t10, t11, t12, t13, t14, t15, rfl⟩ := items16 hP hlen
        clear hP hlen
        try dsimp only
        k_steps
        refine ⟨?_⟩
        refine' answer_call (V := chess (BitVec.ofInt 32 first)) (chess_per _) ?k1 ?k2 ?k3 ?k4 ?k5 ?kK ?hm ?hi ?hz ?hd ?hu ?_
        case k1 => k_asm
        case k2 => k_asm
        case k3 => k_asm
        case k4 => k_asm
        case k5 => k_asm
        case kK => first | exact rfl | assumption
        case hm => k_mem
        case hi => exact .cons (.cons (.cons (.cons (.cons (.cons (.cons (.cons (.cons (.cons (.cons (.cons (.cons (.cons (.cons (.cons (.nil _))))))))))))))))
        case hz => exact rfl
        case hd => ktr_room
        case hu => ktr_units
        intro cD itsc nc h11 tk11 F11 N11 l11 hi11 hz11
        rw [chess_core] at hi11
        obtain ⟨vs⟩ := itsc
        obtain ⟨p0, p1, p2, p3, p4, p5, p6, p7, p8, p9, p10, p11, p12, p13, p14, p15, hvs⟩ := items16 hi11 hz11
        subst hvs
        clear hi11 hz11
        try dsimp only
        try k_fold
        k_steps
        · refine ⟨?_⟩
          refine range_list (Str.ofString "place") (ItemsFrom (chess (-(BitVec.ofInt 32 first))) 0) (.nil 0) ?_ ?_ ?_
          · simp only [List.forall_mem_cons]
            (try simp only [AllLt] at *)
            refine ⟨by k_ne, by k_ne, by k_ne, by k_ne, by k_ne, by k_ne, by k_ne, by k_ne, fun _ h => nomatch h⟩
          · intro vs u nw t h10 tk10 hlt hP F10 N10
            try dsimp only
            k_steps
            · rename Fr _ _ _ _ => kF
              rename News _ _ _ _ => kN
              rw [List.push_toArray] at kN
              exact ⟨rfl, _, _, _, _, _, rfl, kF, kN, hP.snoc ⟨_, by rw [chess_even (by with_reducible assumption), mod_of first, neg_of]⟩, fun y h1 h2 => by simp only [if_neg h1]⟩
            · rename Fr _ _ _ _ => kF
              rename News _ _ _ _ => kN
              rw [List.push_toArray] at kN
              exact ⟨rfl, _, _, _, _, _, rfl, kF, kN, hP.snoc ⟨_, by rw [chess_odd (by with_reducible assumption), mod_of first, neg_of, neg_of]⟩, fun y h1 h2 => by simp only [if_neg h1]⟩
          · intro vs u nw h10 tk10 hlen hP F10 N10
            obtain ⟨t0, t1, t2, t3, t4, t5, t6, t7, t8, t9, t10, t11, t12, t13, t14, t15, rfl⟩ := items16 hP hlen
            clear hP hlen
            try dsimp only
            k_steps
            refine ⟨?_⟩
            refine' answer_call (V := chess (-(BitVec.ofInt 32 first))) (chess_per _) ?k1 ?k2 ?k3 ?k4 ?k5 ?kK ?hm ?hi ?hz ?hd ?hu ?_
            case k1 => k_asm
            case k2 => k_asm
            case k3 => k_asm
            case k4 => k_asm
            case k5 => k_asm
            case kK => first | exact rfl | assumption
            case hm => k_mem
            case hi => exact .cons (.cons (.cons (.cons (.cons (.cons (.cons (.cons (.cons (.cons (.cons (.cons (.cons (.cons (.cons (.cons (.nil _))))))))))))))))
            case hz => exact rfl
            case hd => ktr_room
            case hu => ktr_units
            intro cD itsc nc h11 tk11 F11 N11 l11 hi11 hz11
            rw [chess_core] at hi11
            obtain ⟨vs⟩ := itsc
            obtain ⟨p0, p1, p2, p3, p4, p5, p6, p7, p8, p9, p10, p11, p12, p13, p14, p15, hvs⟩ := items16 hi11 hz11
            subst hvs
            clear hi11 hz11
            try dsimp only
            try k_fold
            k_steps
            all_goals exact absurd (two_list (chess (-(BitVec.ofInt 32 first)))) (by assumption)
        all_goals exact absurd (two_list (chess (BitVec.ofInt 32 first))) (by assumption))
end
end Mine

theorem PySem.Challenge.cw_lk0009_01_holds : PySem.Challenge.rw_lk0009_01.Holds := by
  exact Mine.law_holds
