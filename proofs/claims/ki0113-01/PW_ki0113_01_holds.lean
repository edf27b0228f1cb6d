import PyProof.Rows.All
import Wide.All
import OpenK.AllK
import Wide.FinOn
import PySem.Challenge.RW_ki0113_01
open PySem PySem.W PyProof.Rows
set_option Elab.async false
set_option linter.all false
set_option maxRecDepth 100000

-- HD01
set_option maxHeartbeats 8000000
namespace Mine
open_top hd for PySem.Challenge.rw_ki0113_01
end Mine

-- MB
namespace Mine
def itn {α : Type} (f : α → α) : Nat → α → α
  | 0, x => x
  | n + 1, x => f (itn f n x)
abbrev V := BitVec 32
def Gb (c : V) : V := if c.getLsbD 0 then (c >>> 1) ^^^ 0xEDB88320#32 else c >>> 1
def Xb (r : V) : V := if r.getLsbD 31 then (r <<< 1) ^^^ 0x04C11DB7#32 else r <<< 1
def Yb (r : V) : V := if r.getLsbD 0 then ((r ^^^ 0x04C11DB7#32) >>> 1) ^^^ 0x80000000#32 else r >>> 1
theorem xor_swap (a b c d : V) : (a ^^^ b) ^^^ (c ^^^ d) = (a ^^^ c) ^^^ (b ^^^ d) := by
  rw [BitVec.xor_assoc, BitVec.xor_assoc, ← BitVec.xor_assoc b c d, BitVec.xor_comm b c, BitVec.xor_assoc c b d]
theorem Gb_xor (a b : V) : Gb (a ^^^ b) = Gb a ^^^ Gb b := by
  unfold Gb
  have h1 : (a ^^^ b) >>> 1 = (a >>> 1) ^^^ (b >>> 1) := BitVec.ushiftRight_xor_distrib ..
  rw [h1, BitVec.getLsbD_xor]
  cases a.getLsbD 0 <;> cases b.getLsbD 0 <;> simp
  · rw [BitVec.xor_assoc]
  · rw [BitVec.xor_assoc, BitVec.xor_assoc, BitVec.xor_comm (b >>> 1)]
  · rw [xor_swap]; simp
theorem Xb_xor (a b : V) : Xb (a ^^^ b) = Xb a ^^^ Xb b := by
  unfold Xb
  have h1 : (a ^^^ b) <<< 1 = (a <<< 1) ^^^ (b <<< 1) := BitVec.shiftLeft_xor_distrib ..
  rw [h1, BitVec.getLsbD_xor]
  cases a.getLsbD 31 <;> cases b.getLsbD 31 <;> simp
  · rw [BitVec.xor_assoc]
  · rw [BitVec.xor_assoc, BitVec.xor_assoc, BitVec.xor_comm (b <<< 1)]
  · rw [xor_swap]; simp
theorem poly_rev : (0xEDB88320#32 : V).reverse = 0x04C11DB7#32 := by decide +kernel
theorem rev_xor (a b : V) : (a ^^^ b).reverse = a.reverse ^^^ b.reverse := by
  apply BitVec.eq_of_getLsbD_eq
  intro i hi
  simp [BitVec.getLsbD_reverse, BitVec.getMsbD_xor]
theorem rev_rev (a : V) : a.reverse.reverse = a := by simp
theorem rev_shr (c : V) : (c >>> 1).reverse = c.reverse <<< 1 := by
  apply BitVec.eq_of_getLsbD_eq
  intro i hi
  rw [BitVec.getLsbD_reverse, BitVec.getLsbD_shiftLeft, BitVec.getLsbD_reverse]
  cases i with
  | zero => simp [BitVec.getMsbD, BitVec.getLsbD_ushiftRight]
  | succ i =>
    have h1 : 1 + (30 - i) = 31 - i := by omega
    have h2 : i < 32 := by omega
    simp [BitVec.getMsbD, BitVec.getLsbD_ushiftRight, h2, hi]
    rw [h1]
theorem Xb_rev (c : V) : Xb c.reverse = (Gb c).reverse := by
  unfold Xb Gb
  have h : c.reverse.getLsbD 31 = c.getLsbD 0 := by
    rw [BitVec.getLsbD_reverse]; simp [BitVec.getMsbD]
  rw [h]
  cases c.getLsbD 0 <;> simp [rev_xor, rev_shr, poly_rev]
theorem shr_shl (z : V) (hz : z.getLsbD 0 = false) : (z >>> 1) <<< 1 = z := by
  apply BitVec.eq_of_getLsbD_eq
  intro i hi
  rw [BitVec.getLsbD_shiftLeft, BitVec.getLsbD_ushiftRight]
  cases i with
  | zero => rw [hz]; simp
  | succ i =>
    have h1 : 1 + i = i + 1 := by omega
    simp [h1, hi]
theorem shl_shr (z : V) (hz : z.getLsbD 31 = false) : (z <<< 1) >>> 1 = z := by
  apply BitVec.eq_of_getLsbD_eq
  intro i hi
  rw [BitVec.getLsbD_ushiftRight, BitVec.getLsbD_shiftLeft]
  by_cases h : i = 31
  · subst h; rw [hz]; simp
  · have h1 : 1 + i < 32 := by omega
    have h2 : 1 + i - 1 = i := by omega
    simp [h1, h2]
theorem Xb_Yb (r : V) : Xb (Yb r) = r := by
  unfold Yb
  cases hr : r.getLsbD 0
  · simp only [Bool.false_eq_true, if_false]
    unfold Xb
    have : (r >>> 1).getLsbD 31 = false := by simp
    rw [this]
    simpa using shr_shl r hr
  · simp only [if_true]
    unfold Xb
    have : (((r ^^^ 0x04C11DB7#32) >>> 1) ^^^ 0x80000000#32).getLsbD 31 = true := by simp
    rw [this]
    simp only [if_true]
    rw [BitVec.shiftLeft_xor_distrib, shr_shl _ (by rw [BitVec.getLsbD_xor, hr]; rfl)]
    rw [show (0x80000000#32 : V) <<< 1 = 0#32 by decide +kernel]
    simp [BitVec.xor_assoc]
theorem Gb_shl (z : V) (hz : z.getLsbD 31 = false) : Gb (z <<< 1) = z := by
  unfold Gb
  have : (z <<< 1).getLsbD 0 = false := by simp
  rw [this]
  simpa using shl_shr z hz

theorem itn_succ {α : Type} (f : α → α) (n : Nat) (x : α) : itn f (n + 1) x = itn f n (f x) := by
  induction n with
  | zero => rfl
  | succ n ih => rw [itn, ih]; rfl
theorem itn_add {α : Type} (f : α → α) (a b : Nat) (x : α) : itn f (a + b) x = itn f a (itn f b x) := by
  induction a with
  | zero => simp [itn]
  | succ a ih => rw [Nat.succ_add]; show f _ = f _; rw [ih]
theorem itn_xor {f : V → V} (hf : ∀ a b, f (a ^^^ b) = f a ^^^ f b) (n : Nat) (a b : V) : itn f n (a ^^^ b) = itn f n a ^^^ itn f n b := by
  induction n with
  | zero => rfl
  | succ n ih => show f _ = f _ ^^^ f _; rw [ih, hf]
theorem itn_inv (n : Nat) (r : V) : itn Xb n (itn Yb n r) = r := by
  induction n generalizing r with
  | zero => rfl
  | succ n ih =>
    rw [itn_succ Xb n]
    show itn Xb n (Xb (Yb (itn Yb n r))) = r
    rw [Xb_Yb, ih]
theorem itn_rev (n : Nat) (c : V) : itn Xb n c.reverse = (itn Gb n c).reverse := by
  induction n with
  | zero => rfl
  | succ n ih => show Xb _ = (Gb _).reverse; rw [ih, Xb_rev]

/-- a bit as a vector -/
def b1 (b : Bool) : V := if b then 1#32 else 0#32
def fb (c : V) (b : Bool) : V := Gb (c ^^^ b1 b)
def ab (r : V) (b : Bool) : V := Xb r ^^^ b1 b
def db (r : V) (b : Bool) : V := Xb (r ^^^ (b1 b).reverse)
def bvOf : List Bool → V
  | [] => 0#32
  | b :: r => b1 b ^^^ (bvOf r <<< 1)
theorem b1_bit (b : Bool) (i : Nat) : (b1 b).getLsbD i = (decide (i = 0) && b) := by
  cases b
  · simp [b1]
  · cases i with
    | zero => decide
    | succ i =>
      simp only [b1, if_true, Nat.add_eq_zero_iff, Nat.succ_ne_self, and_false, decide_false, Bool.false_and]
      rw [BitVec.getLsbD_one]
      simp
theorem bvOf_bit : ∀ (bits : List Bool) (i : Nat), i < 32 → (bvOf bits).getLsbD i = bits.getD i false
  | [], i, _ => by simp [bvOf]
  | b :: r, i, hi => by
    rw [bvOf, BitVec.getLsbD_xor, b1_bit, BitVec.getLsbD_shiftLeft]
    cases i with
    | zero => simp
    | succ i =>
      have ih := bvOf_bit r i (by omega)
      simp [hi, ih]
theorem fold_fb : ∀ (bits : List Bool) (c : V), bits.length ≤ 32 → bits.foldl fb c = itn Gb bits.length (c ^^^ bvOf bits)
  | [], c, _ => by simp [bvOf, itn]
  | b :: r, c, hl => by
    have hl' : r.length ≤ 31 := by simpa using hl
    rw [List.foldl_cons, fold_fb r _ (by omega), List.length_cons, itn_succ]
    have h31 : (bvOf r).getLsbD 31 = false := by
      rw [bvOf_bit r 31 (by decide)]
      simp [List.getD_eq_getElem?_getD, List.getElem?_eq_none hl']
    congr 1
    rw [bvOf, ← BitVec.xor_assoc, Gb_xor, Gb_shl _ h31]
    rfl
theorem rev_b1 (b : Bool) : Xb (b1 b).reverse = itn Xb 32 (b1 b) := by
  cases b <;> decide +kernel
theorem aug_dir : ∀ (bits : List Bool) (r : V), (bits ++ List.replicate 32 false).foldl ab r = bits.foldl db (itn Xb 32 r)
  | [], r => by
    have : ∀ (n : Nat) (r : V), (List.replicate n false).foldl ab r = itn Xb n r := by
      intro n
      induction n with
      | zero => intro r; rfl
      | succ n ih => intro r; rw [List.replicate_succ, List.foldl_cons, ih, itn_succ]; simp [ab, b1]
    rw [List.nil_append, this]; rfl
  | b :: bits, r => by
    rw [List.cons_append, List.foldl_cons, aug_dir bits, List.foldl_cons]
    congr 1
    rw [ab, db, itn_xor Xb_xor, Xb_xor, rev_b1, ← itn_succ Xb 32 r]
    rfl
theorem dir_rev : ∀ (bits : List Bool) (c : V), bits.foldl db c.reverse = (bits.foldl fb c).reverse
  | [], _ => rfl
  | b :: bits, c => by
    rw [List.foldl_cons, List.foldl_cons, ← dir_rev bits, db, fb, ← rev_xor, Xb_rev]
theorem ab_lin : ∀ (bits : List Bool) (r s : V), bits.foldl ab (r ^^^ s) = bits.foldl ab r ^^^ itn Xb bits.length s
  | [], _, _ => rfl
  | b :: bits, r, s => by
    rw [List.foldl_cons, List.foldl_cons, List.length_cons, itn_succ, ← ab_lin bits]
    congr 1
    rw [ab, ab, Xb_xor, BitVec.xor_assoc, BitVec.xor_assoc, BitVec.xor_comm (Xb s)]
theorem ab_not : ∀ (bits : List Bool) (r s : V), (bits.map not).foldl ab (r ^^^ s) = bits.foldl ab r ^^^ (List.replicate bits.length true).foldl ab s
  | [], _, _ => rfl
  | b :: bits, r, s => by
    rw [List.map_cons, List.foldl_cons, List.foldl_cons, List.length_cons, List.replicate_succ, List.foldl_cons, ← ab_not bits]
    congr 1
    have : b1 (!b) = b1 b ^^^ b1 true := by cases b <;> decide
    rw [ab, ab, ab, Xb_xor, this, xor_swap]
abbrev ones : V := 0xFFFFFFFF#32
theorem ones32 : (List.replicate 32 true).foldl ab 0#32 = ones := by decide +kernel
/-- the first 32 bits flipped -/
def flip32 (bits : List Bool) : List Bool := (bits.take 32).map not ++ bits.drop 32
theorem flip_dir (bits : List Bool) (hl : 32 ≤ bits.length) : (flip32 bits ++ List.replicate 32 false).foldl ab 0#32 = (bits.foldl fb ones).reverse := by
  have h1 : (flip32 bits).foldl ab 0#32 = bits.foldl ab (itn Yb 32 ones) := by
    rw [flip32, List.foldl_append]
    have h2 : ((bits.take 32).map not).foldl ab 0#32 = (bits.take 32).foldl ab (itn Yb 32 ones) := by
      have a := ab_not (bits.take 32) 0#32 0#32
      have b := ab_lin (bits.take 32) 0#32 (itn Yb 32 ones)
      have e : (bits.take 32).length = 32 := by rw [List.length_take]; omega
      rw [e, ones32] at a
      rw [e, itn_inv] at b
      simp only [BitVec.xor_zero, BitVec.zero_xor] at a b
      rw [a, b]
    rw [h2, ← List.foldl_append, List.take_append_drop]
  rw [List.foldl_append, h1, ← List.foldl_append, aug_dir, itn_inv, ← dir_rev]
  rfl

/-- bytes -/
def stepV (c b : V) : V := itn Gb 8 (c ^^^ b)
def crcV (c : V) (l : List V) : V := l.foldl stepV c
def bitsB (b : V) : List Bool := (List.range 8).map fun i => b.getLsbD i
def bitsV (l : List V) : List Bool := l.flatMap bitsB
def IsByte (b : V) : Prop := ∀ i, 8 ≤ i → b.getLsbD i = false
theorem bvOf_bitsB (b : V) (h : IsByte b) : bvOf (bitsB b) = b := by
  apply BitVec.eq_of_getLsbD_eq
  intro i hi
  rw [bvOf_bit _ i hi, bitsB]
  by_cases h8 : i < 8
  · simp [List.getD_eq_getElem?_getD, h8]
  · rw [h i (by omega)]
    simp [List.getD_eq_getElem?_getD, List.getElem?_eq_none, h8]
theorem bits_crc : ∀ (l : List V) (c : V), (∀ b ∈ l, IsByte b) → (bitsV l).foldl fb c = crcV c l
  | [], _, _ => rfl
  | b :: r, c, h => by
    rw [bitsV, List.flatMap_cons, List.foldl_append, fold_fb (bitsB b) c (by simp [bitsB]), bvOf_bitsB b (h b List.mem_cons_self)]
    have : (bitsB b).length = 8 := by simp [bitsB]
    rw [this]
    exact bits_crc r _ fun z hz => h z (List.mem_cons_of_mem _ hz)
def byteAt (F : V) (k : Nat) : V := (F >>> (8 * k)) &&& 0xFF#32
theorem byteAt_bit (F : V) (k i : Nat) : (byteAt F k).getLsbD i = (F.getLsbD (8 * k + i) && decide (i < 8)) := by
  rw [byteAt, BitVec.getLsbD_and, BitVec.getLsbD_ushiftRight]
  congr 1
  by_cases h : i < 32
  · revert i; decide
  · have h1 : ¬ i < 8 := by omega
    simp [h1]
    exact BitVec.getLsbD_of_ge _ _ (by omega)
theorem byteAt_byte (F : V) (k : Nat) : IsByte (byteAt F k) := fun i hi => by
  rw [byteAt_bit]
  have : ¬ i < 8 := by omega
  simp [this]
def fourV (F : V) : List V := (List.range 4).map (byteAt F)
theorem bits_four (F : V) : bitsV (fourV F) = (List.range 32).map fun i => F.getLsbD i := by
  simp only [bitsV, fourV, bitsB, List.range, List.range.loop, List.map_cons, List.map_nil, List.flatMap_cons, List.flatMap_nil, List.cons_append, List.nil_append, byteAt_bit]
  simp
theorem bvOf_all (F : V) : bvOf ((List.range 32).map fun i => F.getLsbD i) = F := by
  apply BitVec.eq_of_getLsbD_eq
  intro i hi
  rw [bvOf_bit _ i hi]
  simp [List.getD_eq_getElem?_getD, hi]
theorem crc_four (c F : V) : crcV c (fourV F) = itn Gb 32 (c ^^^ F) := by
  rw [← bits_crc _ _ (by intro b hb; obtain ⟨k, _, rfl⟩ := List.mem_map.mp hb; exact byteAt_byte F k), bits_four, fold_fb _ _ (by simp), bvOf_all]
  simp
theorem crc_lin : ∀ (l : List V) (c d : V), crcV (c ^^^ d) l = crcV c l ^^^ itn Gb (8 * l.length) d
  | [], _, _ => rfl
  | b :: r, c, d => by
    show crcV (stepV (c ^^^ d) b) r = crcV (stepV c b) r ^^^ _
    have e : stepV (c ^^^ d) b = stepV c b ^^^ itn Gb 8 d := by
      rw [stepV, stepV, ← itn_xor Gb_xor]
      congr 1
      rw [BitVec.xor_assoc, BitVec.xor_assoc, BitVec.xor_comm d]
    rw [e, crc_lin r, ← itn_add]
    congr 2
theorem four_zero : fourV 0#32 = [0#32, 0#32, 0#32, 0#32] := by decide +kernel

theorem crc_main (head tail : List V) (W : V) (hh : ∀ b ∈ head, IsByte b) (ht : ∀ b ∈ tail, IsByte b) :
    crcV ones (head ++ fourV (itn Yb (8 * tail.length + 32) ((flip32 (bitsV (head ++ [0#32, 0#32, 0#32, 0#32] ++ tail)) ++ List.replicate 32 false).foldl ab 0#32 ^^^ (W ^^^ ones).reverse)).reverse ++ tail) ^^^ ones = W := by
  have hz : ∀ b ∈ head ++ [0#32, 0#32, 0#32, 0#32] ++ tail, IsByte b := by
    intro b hb
    rcases List.mem_append.mp hb with hb | hb
    · rcases List.mem_append.mp hb with hb | hb
      · exact hh b hb
      · have : b = 0#32 := by simpa using hb
        subst this
        intro i _; simp
    · exact ht b hb
  rw [flip_dir _ (by
    have : ∀ l : List V, (bitsV l).length = 8 * l.length := by
      intro l
      induction l with
      | nil => rfl
      | cons x r ih => rw [bitsV, List.flatMap_cons, List.length_append, ← bitsV, ih]; simp [bitsB]; omega
    rw [this]; simp; omega), bits_crc _ _ hz, ← rev_xor]
  generalize hF : (itn Yb (8 * tail.length + 32) ((crcV ones (head ++ [0#32, 0#32, 0#32, 0#32] ++ tail) ^^^ (W ^^^ ones)).reverse)).reverse = F
  have e1 : itn Gb (8 * tail.length + 32) F = crcV ones (head ++ [0#32, 0#32, 0#32, 0#32] ++ tail) ^^^ (W ^^^ ones) := by
    have := itn_rev (8 * tail.length + 32) F
    rw [← hF, rev_rev, itn_inv] at this
    have := congrArg BitVec.reverse this
    rw [rev_rev, rev_rev] at this
    rw [← hF]; exact this.symm
  have e2 : ∀ z : V, crcV ones (head ++ fourV z ++ tail) = crcV (itn Gb 32 (crcV ones head)) tail ^^^ itn Gb (8 * tail.length + 32) z := by
    intro z
    rw [show crcV ones (head ++ fourV z ++ tail) = crcV (crcV (crcV ones head) (fourV z)) tail by simp [crcV, List.foldl_append], crc_four, itn_xor Gb_xor, crc_lin, ← itn_add]
  have e3 := e2 0#32
  rw [four_zero] at e3
  have e4 : ∀ n, itn Gb n 0#32 = 0#32 := by
    intro n
    induction n with
    | zero => rfl
    | succ n ih => show Gb _ = _; rw [ih]; decide
  rw [e4] at e3
  simp only [BitVec.xor_zero] at e3
  rw [e2 F, e1, e3, ← BitVec.xor_assoc, BitVec.xor_self, BitVec.zero_xor, BitVec.xor_assoc, BitVec.xor_self, BitVec.xor_zero]
end Mine

-- D1
namespace Mine
/-- plain functions that the program's defs reckon -/
def dv : Int := 4374732215
def gstep (c : Int) : Int := if Builtin.bitAnd c 1 != 0 then Builtin.bitXor (c.fdiv (2 ^ 1)) 3988292384 else c.fdiv (2 ^ 1)
def crcStep (c b : Int) : Int := Builtin.bitXor (c.fdiv 256) (itn gstep 8 ((Builtin.bitXor c b).fmod 256))
def crcOf (ns : List Int) : Int := Builtin.bitXor (ns.foldl crcStep (2 ^ 32 - 1)) (2 ^ 32 - 1)
def wishOf (ns : List Int) : Int := ns.foldl (fun a x => (31 * a + x.fdiv 256).fmod (2 ^ 32)) 0
def bitsOf (l : List Int) : List Int := l.flatMap fun b => (rangeKs 0 8).map fun n => (b.fdiv (2 ^ n.toNat)).fmod 2
def f1 (bits : List Int) (r k : Int) : Int := if 2 ^ 32 ≤ 2 * r + (if k < 32 then 1 - bits.getD k.toNat 0 else bits.getD k.toNat 0) then Builtin.bitXor (2 * r + (if k < 32 then 1 - bits.getD k.toNat 0 else bits.getD k.toNat 0)) dv else 2 * r + (if k < 32 then 1 - bits.getD k.toNat 0 else bits.getD k.toNat 0)
def f2 (wi r n : Int) : Int := if (wi.fdiv (2 ^ n.toNat)).fmod 2 = 0 then Builtin.bitXor r (2 ^ (31 - n).toNat) else r
def f3 (r _n : Int) : Int := (if r.fmod 2 = 1 then Builtin.bitXor r dv else r).fdiv 2
def rest3 (head tail : List Int) (wi : Int) : Int :=
  (rangeKs 0 (8 * tail.length + 32)).foldl f3 ((rangeKs 0 32).foldl (f2 wi) ((rangeKs 0 (bitsOf (head ++ [0, 0, 0, 0] ++ tail ++ [0, 0, 0, 0])).length).foldl (f1 (bitsOf (head ++ [0, 0, 0, 0] ++ tail ++ [0, 0, 0, 0]))) 0))
def fourOf (head tail : List Int) (wi : Int) : List Int :=
  (rangeKs 0 4).map fun k => ((rangeKs 0 8).map fun n => ((rest3 head tail wi).fdiv (2 ^ (31 - 8 * k - n).toNat)).fmod 2 * 2 ^ n.toNat).sum
end Mine

-- M1
namespace Mine
theorem nat_xor_and (a b : Nat) : (a ^^^ b) + 2 * (a &&& b) = a + b := by
  induction a using Nat.strongRecOn generalizing b with
  | ind a ih =>
    by_cases ha : a = 0
    · subst ha; simp
    · have h1 := ih (a / 2) (by omega) (b / 2)
      have x1 : (a ^^^ b) / 2 = a / 2 ^^^ b / 2 := Nat.xor_div_two
      have x2 : (a &&& b) / 2 = a / 2 &&& b / 2 := Nat.and_div_two
      have y1 := Nat.xor_mod_two_eq_one (a := a) (b := b)
      have y2 := Nat.and_mod_two_eq_one (a := a) (b := b)
      omega
theorem and_nat (a b : Nat) : Builtin.bitAnd (a : Int) (b : Int) = ((a &&& b : Nat) : Int) := by
  unfold Builtin.bitAnd
  rw [decide_eq_true (Int.natCast_nonneg a), decide_eq_true (Int.natCast_nonneg b)]
  simp
theorem xor_nat (a b : Nat) : Builtin.bitXor (a : Int) (b : Int) = ((a ^^^ b : Nat) : Int) := by
  rw [bitXor_and, and_nat]
  have := nat_xor_and a b
  omega
def val (v : V) : Int := (v.toNat : Int)
theorem val_inj {a b : V} (h : val a = val b) : a = b := BitVec.eq_of_toNat_eq (by unfold val at h; omega)
theorem val_xor (a b : V) : Builtin.bitXor (val a) (val b) = val (a ^^^ b) := by
  unfold val
  rw [xor_nat, BitVec.toNat_xor]
theorem val_shr (v : V) (n : Nat) : (val v).fdiv (2 ^ n) = val (v >>> n) := by
  unfold val
  rw [Int.fdiv_eq_ediv_of_nonneg _ (by have := Int.pow_pos (n := 2) (m := n) (by decide); omega), BitVec.toNat_ushiftRight, Nat.shiftRight_eq_div_pow]
  simp
theorem val_bit0 (v : V) : (v.toNat % 2 = 1) ↔ v.getLsbD 0 = true := by
  rw [← BitVec.testBit_toNat, Nat.testBit_eq_decide_div_mod_eq]
  simp
theorem gstep_val (v : V) : gstep (val v) = val (Gb v) := by
  unfold gstep Gb
  have h1 : Builtin.bitAnd (val v) 1 = ((v.toNat % 2 : Nat) : Int) := by
    show Builtin.bitAnd (v.toNat : Int) ((1 : Nat) : Int) = _
    rw [and_nat, Nat.and_one_is_mod]
  rw [h1, val_shr]
  have h2 := val_bit0 v
  by_cases hb : v.getLsbD 0 = true
  · rw [if_pos hb, if_pos (by have := h2.mpr hb; simp; omega)]
    exact val_xor _ 0xEDB88320#32
  · rw [if_neg hb, if_neg (by
      have : ¬ v.toNat % 2 = 1 := fun q => hb (h2.mp q)
      have : v.toNat % 2 = 0 := by omega
      simp [this])]
theorem itn_val (n : Nat) (v : V) : itn gstep n (val v) = val (itn Gb n v) := by
  induction n with
  | zero => rfl
  | succ n ih => show gstep _ = val (Gb _); rw [ih, gstep_val]

/-- a byte -/
def bv (b : Int) : V := BitVec.ofNat 32 b.toNat
theorem bv_val {b : Int} (h0 : 0 ≤ b) (h1 : b < 2 ^ 32) : val (bv b) = b := by
  unfold val bv
  rw [BitVec.toNat_ofNat, Nat.mod_eq_of_lt (by omega)]
  omega
theorem bv_byte {b : Int} (h0 : 0 ≤ b) (h1 : b < 256) : IsByte (bv b) := by
  intro i hi
  unfold bv
  rw [BitVec.getLsbD_ofNat, Nat.testBit_lt_two_pow]
  · simp
  · have : 2 ^ 8 ≤ 2 ^ i := Nat.pow_le_pow_right (by decide) hi
    omega
theorem Gb8_shl (y : V) (n : Nat) (hn : n ≤ 8) (hy : ∀ i, 24 ≤ i → y.getLsbD i = false) : itn Gb n (y <<< n) = y := by
  induction n with
  | zero => simp [itn]
  | succ n ih =>
    rw [itn_succ, show y <<< (n + 1) = (y <<< n) <<< 1 by rw [← BitVec.shiftLeft_add], Gb_shl, ih (by omega)]
    rw [BitVec.getLsbD_shiftLeft, hy _ (by omega)]
    simp
theorem low_high (z : V) : (z &&& 0xFF#32) ^^^ ((z >>> 8) <<< 8) = z := by
  apply BitVec.eq_of_getLsbD_eq
  intro i hi
  rw [BitVec.getLsbD_xor, BitVec.getLsbD_and, BitVec.getLsbD_shiftLeft, BitVec.getLsbD_ushiftRight]
  have : ∀ i, i < 32 → (0xFF#32 : V).getLsbD i = decide (i < 8) := by decide
  rw [this i hi]
  by_cases h : i < 8
  · simp [h]
  · have h2 : 8 + (i - 8) = i := by omega
    simp [h, hi, h2]
theorem crcStep_val (c : V) {b : Int} (h0 : 0 ≤ b) (h1 : b < 256) : crcStep (val c) b = val (stepV c (bv b)) := by
  unfold crcStep stepV
  have hb : val (bv b) = b := bv_val h0 (by omega)
  have hB := bv_byte h0 h1
  have e1 : Builtin.bitXor (val c) b = val (c ^^^ bv b) := by rw [← val_xor, hb]
  have e2 : (val (c ^^^ bv b)).fmod 256 = val ((c ^^^ bv b) &&& 0xFF#32) := by
    unfold val
    rw [Int.fmod_eq_emod_of_nonneg _ (by decide), BitVec.toNat_and]
    show _ = (((c ^^^ bv b).toNat &&& (2 ^ 8 - 1) : Nat) : Int)
    rw [Nat.and_two_pow_sub_one_eq_mod]
    omega
  have e3 : (val c).fdiv 256 = val (c >>> 8) := val_shr c 8
  rw [e1, e2, e3, itn_val, val_xor]
  congr 1
  have hz := low_high (c ^^^ bv b)
  have hs : (c ^^^ bv b) >>> 8 = c >>> 8 := by
    rw [BitVec.ushiftRight_xor_distrib]
    have : bv b >>> 8 = 0#32 := by
      apply BitVec.eq_of_getLsbD_eq
      intro i hi
      rw [BitVec.getLsbD_ushiftRight, hB _ (by omega)]
      simp
    rw [this, BitVec.xor_zero]
  rw [hs] at hz
  have hg : itn Gb 8 ((c >>> 8) <<< 8) = c >>> 8 := Gb8_shl _ 8 (Nat.le_refl _) (by
    intro i hi
    rw [BitVec.getLsbD_ushiftRight]
    exact BitVec.getLsbD_of_ge _ _ (by omega))
  rw [← hz, itn_xor Gb_xor, hz, hg, BitVec.xor_comm]
theorem crc_val : ∀ (ns : List Int) (c : V), (∀ b ∈ ns, 0 ≤ b ∧ b < 256) → ns.foldl crcStep (val c) = val (crcV c (ns.map bv))
  | [], _, _ => rfl
  | b :: r, c, h => by
    have hb := h b List.mem_cons_self
    rw [List.foldl_cons, crcStep_val c hb.1 hb.2]
    exact crc_val r _ fun z hz => h z (List.mem_cons_of_mem _ hz)
theorem crcOf_val (ns : List Int) (h : ∀ b ∈ ns, 0 ≤ b ∧ b < 256) : crcOf ns = val (crcV ones (ns.map bv) ^^^ ones) := by
  unfold crcOf
  have : (2 ^ 32 - 1 : Int) = val ones := by decide
  rw [this, crc_val ns _ h, val_xor]
end Mine

-- M2
namespace Mine
def i01 (b : Bool) : Int := if b then 1 else 0
theorem bit_val (v : V) (n : Nat) : ((val v).fdiv (2 ^ n)).fmod 2 = i01 (v.getLsbD n) := by
  rw [val_shr]
  unfold val i01
  rw [Int.fmod_eq_emod_of_nonneg _ (by decide)]
  have h : (v >>> n).getLsbD 0 = v.getLsbD n := by rw [BitVec.getLsbD_ushiftRight]; simp
  have h2 := val_bit0 (v >>> n)
  rw [h] at h2
  by_cases hb : v.getLsbD n = true
  · rw [if_pos hb]; have := h2.mpr hb; omega
  · rw [if_neg hb]
    have : ¬ (v >>> n).toNat % 2 = 1 := fun q => hb (h2.mp q)
    omega
theorem rangeKs_zero (n : Nat) : rangeKs 0 n = (List.range n).map fun (i : Nat) => (i : Int) := by
  unfold rangeKs
  simp
theorem bitsOf_val (l : List Int) (h : ∀ b ∈ l, 0 ≤ b ∧ b < 256) : bitsOf l = (bitsV (l.map bv)).map i01 := by
  induction l with
  | nil => rfl
  | cons b r ih =>
    have hb := h b List.mem_cons_self
    have ih' := ih fun z hz => h z (List.mem_cons_of_mem _ hz)
    rw [List.map_cons, bitsV, List.flatMap_cons, List.map_append, ← bitsV, ← ih', bitsOf, List.flatMap_cons, ← bitsOf]
    congr 1
    rw [rangeKs_zero, bitsB, List.map_map, List.map_map]
    apply List.map_congr_left
    intro i _
    show (b.fdiv (2 ^ (i : Int).toNat)).fmod 2 = i01 ((bv b).getLsbD i)
    rw [← bit_val, bv_val hb.1 (by omega), Int.toNat_natCast]

theorem two_bit (v : V) (b : Bool) (i : Nat) : (2 * v.toNat + (if b then 1 else 0)).testBit i = (if i = 0 then b else v.getLsbD (i - 1)) := by
  cases i with
  | zero =>
    rw [Nat.testBit_eq_decide_div_mod_eq]
    cases b
    · simp
    · simp
  | succ i =>
    rw [Nat.testBit_succ]
    have : (2 * v.toNat + (if b then 1 else 0)) / 2 = v.toNat := by cases b <;> simp <;> omega
    rw [this, BitVec.testBit_toNat]
    simp
theorem shl1_bit (v : V) (i : Nat) : (v <<< 1).getLsbD i = (decide (i < 32) && if i = 0 then false else v.getLsbD (i - 1)) := by
  rw [BitVec.getLsbD_shiftLeft]
  cases i with
  | zero => simp
  | succ i => simp
theorem dv_bit : ∀ i, i < 32 → Nat.testBit 4374732215 i = (0x04C11DB7#32 : V).getLsbD i := by decide
theorem dv_high : ∀ i, 32 < i → Nat.testBit 4374732215 i = false := fun i hi => Nat.testBit_lt_two_pow (by
  have : 2 ^ 33 ≤ 2 ^ i := Nat.pow_le_pow_right (by decide) hi
  omega)
theorem top_bit (v : V) : v.getLsbD 31 = decide (2 ^ 31 ≤ v.toNat) := by
  exact BitVec.msb_eq_decide v
theorem ab_val (v : V) (b : Bool) : (if (2 : Int) ^ 32 ≤ 2 * val v + i01 b then Builtin.bitXor (2 * val v + i01 b) dv else 2 * val v + i01 b) = val (ab v b) := by
  have hN : 2 * val v + i01 b = ((2 * v.toNat + (if b then 1 else 0) : Nat) : Int) := by unfold val i01; cases b <;> simp
  have hb01 : (if b then 1 else 0 : Nat) ≤ 1 := by cases b <;> decide
  have hv : v.toNat < 2 ^ 32 := v.isLt
  rw [hN]
  unfold ab Xb
  by_cases ht : v.getLsbD 31 = true
  · have h31 : 2 ^ 31 ≤ v.toNat := by rw [top_bit] at ht; simpa using ht
    rw [if_pos ht, if_pos (by omega)]
    show Builtin.bitXor _ ((4374732215 : Nat) : Int) = _
    rw [xor_nat]
    unfold val
    congr 1
    apply Nat.eq_of_testBit_eq
    intro i
    rw [Nat.testBit_xor, two_bit, BitVec.testBit_toNat, BitVec.getLsbD_xor, BitVec.getLsbD_xor, shl1_bit, b1_bit]
    rcases Nat.lt_trichotomy i 32 with h | h | h
    · rw [dv_bit i h]
      cases i with
      | zero => simp [Bool.xor_comm]
      | succ i => simp [h]
    · subst h
      have : Nat.testBit 4374732215 32 = true := by decide
      simp [this, ht]
    · rw [dv_high i h]
      have h1 : ¬ i = 0 := by omega
      have h2 : ¬ i < 32 := by omega
      have h3 : v.getLsbD (i - 1) = false := BitVec.getLsbD_of_ge _ _ (by omega)
      have h4 : (0x04C11DB7#32 : V).getLsbD i = false := BitVec.getLsbD_of_ge _ _ (by omega)
      simp [h1, h2, h3, h4]
  · have h31 : ¬ 2 ^ 31 ≤ v.toNat := by rw [top_bit] at ht; simpa using ht
    rw [if_neg ht, if_neg (by omega)]
    unfold val
    congr 1
    apply Nat.eq_of_testBit_eq
    intro i
    rw [two_bit, BitVec.testBit_toNat, BitVec.getLsbD_xor, shl1_bit, b1_bit]
    by_cases h : i < 32
    · cases i with
      | zero => simp
      | succ i => simp [h]
    · have h1 : ¬ i = 0 := by omega
      have h3 : v.getLsbD (i - 1) = false := by
        by_cases h5 : i = 32
        · subst h5; simpa using ht
        · exact BitVec.getLsbD_of_ge _ _ (by omega)
      simp [h1, h, h3]
theorem Yb_val (v : V) (n : Int) : f3 (val v) n = val (Yb v) := by
  have h0 := val_bit0 v
  have hm : (val v).fmod 2 = ((v.toNat % 2 : Nat) : Int) := by
    unfold val; rw [Int.fmod_eq_emod_of_nonneg _ (by decide)]; omega
  unfold f3 Yb
  rw [hm]
  by_cases hb : v.getLsbD 0 = true
  · have := h0.mpr hb
    rw [if_pos hb, if_pos (by omega)]
    have e : Builtin.bitXor (val v) dv = ((v.toNat ^^^ 4374732215 : Nat) : Int) := xor_nat v.toNat 4374732215
    rw [e, Int.fdiv_eq_ediv_of_nonneg _ (by decide)]
    show _ = ((_ : Nat) : Int)
    have : ∀ x : Nat, (x : Int) / 2 = ((x / 2 : Nat) : Int) := fun x => by omega
    rw [this]
    congr 1
    apply Nat.eq_of_testBit_eq
    intro i
    rw [← Nat.testBit_succ, Nat.testBit_xor, BitVec.testBit_toNat, BitVec.testBit_toNat, BitVec.getLsbD_xor, BitVec.getLsbD_ushiftRight, BitVec.getLsbD_xor]
    have e2 : 1 + i = i.succ := by omega
    rw [e2]
    rcases Nat.lt_trichotomy i 31 with h | h | h
    · rw [dv_bit _ (by omega)]
      have : ∀ i, i < 31 → (0x80000000#32 : V).getLsbD i = false := by decide
      rw [this i h]
      simp
    · subst h
      have h1 : Nat.testBit 4374732215 (Nat.succ 31) = true := by decide
      have h2 : (0x80000000#32 : V).getLsbD 31 = true := by decide
      have h3 : v.getLsbD (Nat.succ 31) = false := BitVec.getLsbD_of_ge _ _ (by omega)
      have h4 : (0x04C11DB7#32 : V).getLsbD (Nat.succ 31) = false := BitVec.getLsbD_of_ge _ _ (by omega)
      rw [h1, h2, h3, h4]; rfl
    · rw [dv_high _ (by omega)]
      have h3 : v.getLsbD i.succ = false := BitVec.getLsbD_of_ge _ _ (by omega)
      have h4 : (0x04C11DB7#32 : V).getLsbD i.succ = false := BitVec.getLsbD_of_ge _ _ (by omega)
      have h5 : (0x80000000#32 : V).getLsbD i = false := BitVec.getLsbD_of_ge _ _ (by omega)
      rw [h3, h4, h5]; rfl
  · have : ¬ v.toNat % 2 = 1 := fun q => hb (h0.mp q)
    rw [if_neg hb, if_neg (by omega)]
    exact val_shr v 1
theorem f3_fold (l : List Int) (v : V) : l.foldl f3 (val v) = val (itn Yb l.length v) := by
  induction l generalizing v with
  | nil => rfl
  | cons n r ih => rw [List.foldl_cons, Yb_val, ih, List.length_cons, itn_succ]

/-- the division's loop -/
theorem flip32_get (bb : List Bool) (i : Nat) (hi : i < bb.length) : (flip32 bb)[i]? = some (if i < 32 then !(bb.getD i false) else bb.getD i false) := by
  have hd : bb.getD i false = bb[i] := by simp [List.getD_eq_getElem?_getD, hi]
  rw [hd, flip32]
  by_cases h : i < 32
  · rw [List.getElem?_append_left (by simp; omega), if_pos h]
    simp [h, hi]
  · rw [List.getElem?_append_right (by simp; omega), if_neg h]
    simp
    have : 32 + (i - min 32 bb.length) = i := by omega
    rw [this]
    simp [hi]
theorem flip32_length (bb : List Bool) : (flip32 bb).length = bb.length := by simp [flip32]; omega
theorem f1_fold (bb : List Bool) : ∀ i, i ≤ bb.length → ((rangeKs 0 bb.length).take i).foldl (f1 (bb.map i01)) 0 = val (((flip32 bb).take i).foldl ab 0#32) := by
  intro i
  induction i with
  | zero => intro _; rfl
  | succ i ih =>
    intro hi
    have hlt : i < bb.length := hi
    have e1 : (rangeKs 0 bb.length)[i]? = some (i : Int) := by rw [rangeKs_zero]; simp [hlt]
    rw [List.take_add_one, e1, List.take_add_one, flip32_get bb i hlt]
    simp only [Option.toList_some, List.foldl_append, List.foldl_cons, List.foldl_nil]
    rw [ih (by omega), ← ab_val]
    have hget : (bb.map i01).getD (i : Int).toNat 0 = i01 (bb.getD i false) := by
      simp [List.getD_eq_getElem?_getD, hlt]
    have hx : (if (i : Int) < 32 then 1 - (bb.map i01).getD (i : Int).toNat 0 else (bb.map i01).getD (i : Int).toNat 0) = i01 (if i < 32 then !(bb.getD i false) else bb.getD i false) := by
      rw [hget]
      by_cases h : i < 32
      · rw [if_pos (by omega), if_pos h]
        cases bb.getD i false <;> rfl
      · rw [if_neg (by omega), if_neg h]
    unfold f1
    rw [hx]
theorem flip32_app (bb : List Bool) (h : 32 ≤ bb.length) (cc : List Bool) : flip32 (bb ++ cc) = flip32 bb ++ cc := by
  unfold flip32
  rw [List.take_append_of_le_length h, List.drop_append_of_le_length h, List.append_assoc]

/-- the wished sum's loop -/
def wmask (W : V) : Nat → V
  | 0 => 0#32
  | n + 1 => wmask W n ^^^ (if W.getLsbD n then 0#32 else BitVec.twoPow 32 (31 - n))
theorem wmask_bit (W : V) : ∀ n j, n ≤ 32 → j < 32 → (wmask W n).getLsbD j = (decide (31 - j < n) && !W.getLsbD (31 - j)) := by
  intro n
  induction n with
  | zero => intro j _ _; simp [wmask]
  | succ n ih =>
    intro j hn hj
    rw [wmask, BitVec.getLsbD_xor, ih j (by omega) hj]
    by_cases e : 31 - n = j
    · have e2 : 31 - j = n := by omega
      rw [e2]
      cases W.getLsbD n <;> simp [BitVec.getLsbD_twoPow, e, hj]
    · have e1 : ¬ 31 - n = j := e
      have e3 : decide (31 - j < n + 1) = decide (31 - j < n) := by
        apply decide_eq_decide.mpr; omega
      rw [e3]
      cases W.getLsbD n <;> simp [BitVec.getLsbD_twoPow, e1]
theorem wmask_all (W : V) : wmask W 32 = (W ^^^ ones).reverse := by
  apply BitVec.eq_of_getLsbD_eq
  intro j hj
  rw [wmask_bit W 32 j (Nat.le_refl _) hj, BitVec.getLsbD_reverse, BitVec.getMsbD_eq_getLsbD, BitVec.getLsbD_xor]
  have h1 : 31 - j < 32 := by omega
  have h2 : ∀ i, i < 32 → (ones : V).getLsbD i = true := by decide
  have h3 : 32 - 1 - j = 31 - j := by omega
  rw [h3, h2 _ h1]
  simp [h1, hj]
theorem f2_fold (W v : V) : ∀ i, i ≤ 32 → ((rangeKs 0 32).take i).foldl (f2 (val W)) (val v) = val (v ^^^ wmask W i) := by
  intro i
  induction i with
  | zero => intro _; simp [wmask]
  | succ i ih =>
    intro hi
    have e1 : (rangeKs 0 32)[i]? = some (i : Int) := by
      have : i < 32 := by omega
      rw [rangeKs_zero]; simp [this]
    rw [List.take_add_one, e1]
    simp only [Option.toList_some, List.foldl_append, List.foldl_cons, List.foldl_nil]
    rw [ih (by omega), f2, Int.toNat_natCast, bit_val, wmask]
    have e2 : (31 - (i : Int)).toNat = 31 - i := by omega
    have e3 : ((2 : Int) ^ (31 - i)) = val (BitVec.twoPow 32 (31 - i)) := by
      unfold val
      rw [BitVec.toNat_twoPow, Nat.mod_eq_of_lt (Nat.pow_lt_pow_right (by decide) (by omega))]
      simp
    rw [e2, e3]
    cases W.getLsbD i
    · rw [if_pos (show i01 false = 0 from rfl), val_xor, BitVec.xor_assoc]; rfl
    · rw [if_neg (show ¬ i01 true = 0 by decide)]; simp

/-- the four bytes -/
theorem byte_sum (x : Nat) (h : x < 256) : x = x % 2 + x / 2 % 2 * 2 + x / 4 % 2 * 4 + x / 8 % 2 * 8 + x / 16 % 2 * 16 + x / 32 % 2 * 32 + x / 64 % 2 * 64 + x / 128 % 2 * 128 := by omega
theorem i01_nat (F : V) (n : Nat) : i01 (F.getLsbD n) = ((F.toNat / 2 ^ n % 2 : Nat) : Int) := by
  rw [← BitVec.testBit_toNat, Nat.testBit_eq_decide_div_mod_eq]
  unfold i01
  by_cases h : F.toNat / 2 ^ n % 2 = 1
  · simp [h]
  · have h2 : F.toNat / 2 ^ n % 2 = 0 := by omega
    simp [h2]
theorem byte_val (F : V) (k : Nat) : val (byteAt F k) = ((List.range 8).map fun n => i01 (F.getLsbD (8 * k + n)) * 2 ^ n).sum := by
  have hb : (byteAt F k).toNat < 256 := by
    unfold byteAt
    rw [BitVec.toNat_and]
    exact Nat.lt_of_le_of_lt Nat.and_le_right (by decide)
  have hbit : ∀ n, n < 8 → i01 (F.getLsbD (8 * k + n)) = (((byteAt F k).toNat / 2 ^ n % 2 : Nat) : Int) := by
    intro n hn
    rw [← i01_nat, byteAt_bit]
    simp [hn]
  have hs := byte_sum _ hb
  simp only [List.range, List.range.loop, List.map_cons, List.map_nil, List.sum_cons, List.sum_nil]
  rw [hbit 0 (by decide), hbit 1 (by decide), hbit 2 (by decide), hbit 3 (by decide), hbit 4 (by decide), hbit 5 (by decide), hbit 6 (by decide), hbit 7 (by decide)]
  unfold val
  simp only [Nat.pow_zero, Nat.div_one, Int.pow_zero, Int.mul_one, Nat.reducePow, Int.reducePow]
  omega
theorem four_val (R : V) : ((rangeKs 0 4).map fun k => ((rangeKs 0 8).map fun n => ((val R).fdiv (2 ^ (31 - 8 * k - n).toNat)).fmod 2 * 2 ^ n.toNat).sum) = (fourV R.reverse).map val := by
  rw [rangeKs_zero 4, fourV, List.map_map, List.map_map]
  apply List.map_congr_left
  intro k hk
  have hk4 : k < 4 := by simpa using hk
  show ((rangeKs 0 8).map _).sum = val (byteAt R.reverse k)
  rw [byte_val, rangeKs_zero, List.map_map]
  congr 1
  apply List.map_congr_left
  intro n hn
  have hn8 : n < 8 := by simpa using hn
  show ((val R).fdiv (2 ^ (31 - 8 * (k : Int) - (n : Int)).toNat)).fmod 2 * 2 ^ (n : Int).toNat = i01 (R.reverse.getLsbD (8 * k + n)) * 2 ^ n
  rw [bit_val, Int.toNat_natCast, BitVec.getLsbD_reverse, BitVec.getMsbD_eq_getLsbD]
  have e1 : (31 - 8 * (k : Int) - (n : Int)).toNat = 32 - 1 - (8 * k + n) := by omega
  have e2 : 8 * k + n < 32 := by omega
  rw [e1]
  simp [e2]

theorem bits_len (l : List V) : (bitsV l).length = 8 * l.length := by
  induction l with
  | nil => rfl
  | cons x r ih => rw [bitsV, List.flatMap_cons, List.length_append, ← bitsV, ih]; simp [bitsB]; omega
theorem plain_law (head tail : List Int) (wi : Int) (hh : ∀ b ∈ head, 0 ≤ b ∧ b < 256) (ht : ∀ b ∈ tail, 0 ≤ b ∧ b < 256) (h0 : 0 ≤ wi) (h1 : wi < 2 ^ 32) :
    crcOf (head ++ fourOf head tail wi ++ tail) = wi := by
  have hall : ∀ b ∈ head ++ [0, 0, 0, 0] ++ tail ++ [0, 0, 0, 0], 0 ≤ b ∧ b < 256 := by
    intro b hb
    simp only [List.mem_append] at hb
    rcases hb with ((hb | hb) | hb) | hb
    · exact hh b hb
    · have : b = 0 := by simpa using hb
      omega
    · exact ht b hb
    · have : b = 0 := by simpa using hb
      omega
  have hW : val (bv wi) = wi := bv_val h0 (by omega)
  have hz : bv 0 = 0#32 := rfl
  have e1 : bitsOf (head ++ [0, 0, 0, 0] ++ tail ++ [0, 0, 0, 0]) = (bitsV (head.map bv ++ [0#32, 0#32, 0#32, 0#32] ++ tail.map bv) ++ List.replicate 32 false).map i01 := by
    rw [bitsOf_val _ hall]
    congr 1
    simp only [List.map_append, List.map_cons, List.map_nil, hz]
    rw [show bitsV (head.map bv ++ [0#32, 0#32, 0#32, 0#32] ++ tail.map bv ++ [0#32, 0#32, 0#32, 0#32]) = bitsV (head.map bv ++ [0#32, 0#32, 0#32, 0#32] ++ tail.map bv) ++ bitsV [0#32, 0#32, 0#32, 0#32] by simp [bitsV]]
    congr 1
  have hlen : 32 ≤ (bitsV (head.map bv ++ [0#32, 0#32, 0#32, 0#32] ++ tail.map bv)).length := by rw [bits_len]; simp; omega
  generalize hB : bitsV (head.map bv ++ [0#32, 0#32, 0#32, 0#32] ++ tail.map bv) = B at e1 hlen
  have e2 : (rangeKs 0 (bitsOf (head ++ [0, 0, 0, 0] ++ tail ++ [0, 0, 0, 0])).length).foldl (f1 (bitsOf (head ++ [0, 0, 0, 0] ++ tail ++ [0, 0, 0, 0]))) 0 = val ((flip32 B ++ List.replicate 32 false).foldl ab 0#32) := by
    have := f1_fold (B ++ List.replicate 32 false) _ (Nat.le_refl _)
    rw [List.take_of_length_le (by simp [rangeKs_length]), List.take_of_length_le (by rw [flip32_length]; exact Nat.le_refl _), flip32_app B hlen] at this
    rw [e1, List.length_map]
    exact this
  have e3 : rest3 head tail wi = val (itn Yb (8 * tail.length + 32) ((flip32 B ++ List.replicate 32 false).foldl ab 0#32 ^^^ (bv wi ^^^ ones).reverse)) := by
    unfold rest3
    rw [e2]
    have a := f2_fold (bv wi) ((flip32 B ++ List.replicate 32 false).foldl ab 0#32) 32 (Nat.le_refl _)
    rw [List.take_of_length_le (by simp [rangeKs_length]), hW, wmask_all] at a
    rw [a, f3_fold, rangeKs_length]
  have e4 : fourOf head tail wi = (fourV (itn Yb (8 * tail.length + 32) ((flip32 B ++ List.replicate 32 false).foldl ab 0#32 ^^^ (bv wi ^^^ ones).reverse)).reverse).map val := by
    unfold fourOf
    rw [e3, four_val]
  have m := crc_main (head.map bv) (tail.map bv) (bv wi) (by
    intro b hb; obtain ⟨z, hz, rfl⟩ := List.mem_map.mp hb; exact bv_byte (hh z hz).1 (hh z hz).2) (by
    intro b hb; obtain ⟨z, hz, rfl⟩ := List.mem_map.mp hb; exact bv_byte (ht z hz).1 (ht z hz).2)
  rw [hB, List.length_map] at m
  generalize hF : (itn Yb (8 * tail.length + 32) ((flip32 B ++ List.replicate 32 false).foldl ab 0#32 ^^^ (bv wi ^^^ ones).reverse)).reverse = F at m e4
  have hfb : ∀ b ∈ (fourV F).map val, 0 ≤ b ∧ b < 256 := by
    intro b hb
    obtain ⟨z, hz, rfl⟩ := List.mem_map.mp hb
    obtain ⟨k, _, rfl⟩ := List.mem_map.mp hz
    have : (byteAt F k).toNat < 256 := by
      unfold byteAt
      rw [BitVec.toNat_and]
      exact Nat.lt_of_le_of_lt Nat.and_le_right (by decide)
    unfold val
    omega
  have hbv : ((fourV F).map val).map bv = fourV F := by
    rw [List.map_map]
    conv => rhs; rw [← List.map_id (fourV F)]
    apply List.map_congr_left
    intro v _
    show BitVec.ofNat 32 (val v).toNat = v
    unfold val
    simp
  rw [crcOf_val _ (by
    intro b hb
    rw [e4] at hb
    simp only [List.mem_append] at hb
    rcases hb with (hb | hb) | hb
    · exact hh b hb
    · exact hfb b hb
    · exact ht b hb), e4, List.map_append, List.map_append, hbv, m, hW]
end Mine

-- Fw1
namespace Mine

abbrev Kp (h h' : Heap) : Prop := ∀ b o, h.get? b = some o → h'.get? b = some o
theorem Kp.rfl {h : Heap} : Kp h h := fun _ _ e => e
theorem Kp.trans {h h' h'' : Heap} (a : Kp h h') (b : Kp h' h'') : Kp h h'' := fun x o e => b x o (a x o e)
abbrev no : Value → Shared → Prop := fun _ _ => False

theorem keeps_refl (s : Shared) : Keeps s s := ⟨s.heap, s.toks, rfl, fun _ _ e => e⟩
theorem keeps_tok (s : Shared) (t : Nat) : Keeps s { s with toks := t } := ⟨s.heap, t, rfl, fun _ _ e => e⟩
theorem keeps_trans {a b c : Shared} (x : Keeps a b) (y : Keeps b c) : Keeps a c := by
  obtain ⟨h, t, rfl, k⟩ := x
  obtain ⟨h', t', rfl, k'⟩ := y
  exact ⟨h', t', rfl, fun b o e => k' b o (k b o e)⟩
theorem keeps_kp {a b : Shared} (x : Keeps a b) : Kp a.heap b.heap := by
  obtain ⟨h, t, rfl, k⟩ := x
  exact k
theorem keeps_of {s : Shared} {h : Heap} {t : Nat} (k : Kp s.heap h) : Keeps s { s with heap := h, toks := t } := ⟨h, t, rfl, k⟩
theorem keeps_push (s : Shared) (o : Obj) (t : Nat) : Keeps s { s with heap := s.heap.push o, toks := t } := ⟨_, t, rfl, fun _ _ e => Heap.get?_push_of_some _ e⟩

structure Pu {α : Type} (prog : Program) (w : World) (A : Around) (h : Heap) (t : Sem α) (R : α → Heap → Prop) : Prop where
  run : ∀ s : Shared, Kp h s.heap → wpAny (model prog w) A t (fun a s' => R a s'.heap ∧ Keeps s s') no s

section
variable {prog : Program} {w : World} {A : Around} {h h' : Heap} {α : Type}

theorem Pu.use {t : Sem α} {R : α → Heap → Prop} {Q : α → Shared → Prop} {E : Value → Shared → Prop} {s : Shared} (H : Pu prog w A h t R) (hs : Kp h s.heap) (k : ∀ a s', R a s'.heap → Keeps s s' → Q a s') :
    wpAny (model prog w) A t Q E s := wpAny_mono (H.run s hs) (fun a s' x => k a s' x.1 x.2) fun _ _ x => x.elim
theorem Pu.up {t : Sem α} {R : α → Heap → Prop} (H : Pu prog w A h t R) (k : Kp h h') : Pu prog w A h' t R := Pu.mk fun s hs => H.run s (k.trans hs)
theorem Pu.mono {t : Sem α} {R R' : α → Heap → Prop} (H : Pu prog w A h t R) (k : ∀ a g, Kp h g → R a g → R' a g) : Pu prog w A h t R' :=
  Pu.mk fun s hs => H.use hs fun a s' r x => ⟨k a _ (hs.trans (keeps_kp x)) r, x⟩

def MonoR (R : α → Heap → Prop) : Prop := ∀ a g g', R a g → Kp g g' → R a g'

/-- ints -/
abbrev IsI (n : Int) : Value → Heap → Prop := fun v _ => ∃ t, v = .int n t
abbrev EI (prog : Program) (w : World) (A : Around) (env : Env) (h : Heap) (e : Expr) (n : Int) : Prop := Pu prog w A h (eval e env) (IsI n)
abbrev EB (prog : Program) (w : World) (A : Around) (env : Env) (h : Heap) (e : Expr) (b : Bool) : Prop := Pu prog w A h (isTrue e env (eval e env)) (fun r _ => r = b)
abbrev EV (prog : Program) (w : World) (A : Around) (env : Env) (h : Heap) (e : Expr) (v : Value) : Prop := Pu prog w A h (eval e env) (fun r _ => r = v)
/-- lists of ints -/
abbrev IsL (ns : List Int) : Value → Heap → Prop := fun v g => ∃ a vs, v = .ref a ∧ g.IsList a (List.toArray vs) ∧ IntsAre vs ns
abbrev EL (prog : Program) (w : World) (A : Around) (env : Env) (h : Heap) (e : Expr) (ns : List Int) : Prop := Pu prog w A h (eval e env) (IsL ns)
theorem isI_mono (n : Int) : MonoR (IsI n) := fun _ _ _ r _ => r
theorem isL_mono (ns : List Int) : MonoR (IsL ns) := fun _ _ _ ⟨a, vs, e, l, i⟩ k => ⟨a, vs, e, l.at fun o x => k _ _ x, i⟩

inductive LoadsTo (h : Heap) (env : Env) (x : Str) (v : Value) : Prop
  | loc (m : Str → Option Value) : env.scope.kind = .function → env.kindOf x = some .local → h.Ns env.locals m → m x = some v → LoadsTo h env x v
  | cell (c : Addr) : env.scope.kind = .function → env.kindOf x = some .cell → env.cells.lookup x = some c → h.IsCell c (some v) → LoadsTo h env x v
  | glob (m : Str → Option Value) : env.scope.kind = .function → env.kindOf x = some .globalImplicit → h.Ns env.globals m → m x = some v → LoadsTo h env x v
  | built (m mb : Str → Option Value) : env.scope.kind = .function → env.kindOf x = some .globalImplicit → h.Ns env.globals m → m x = none → h.Ns env.builtins mb → mb x = some v → LoadsTo h env x v

theorem LoadsTo.up {env : Env} {x : Str} {v : Value} (l : LoadsTo h env x v) (k : Kp h h') : LoadsTo h' env x v := by
  cases l with
  | loc m a b c d => exact .loc m a b (c.keeps k) d
  | cell c a b d e => exact .cell c a b d (e.keeps k)
  | glob m a b c d => exact .glob m a b (c.keeps k) d
  | built m mb a b c d e f => exact .built m mb a b (c.keeps k) d (e.keeps k) f

variable {env : Env}
theorem ev_name {x : Str} {v : Value} {pos : Pos} (l : LoadsTo h env x v) (hd : (x == ("__debug__" : Str)) = false := by decide) : EV prog w A env h (.Name x pos) v := Pu.mk fun s hs => by
  cases l.up hs with
  | loc m a b c d => exact wpAny_Name (wpAny_loadName_local a b c d ⟨rfl, keeps_refl s⟩) hd
  | cell c a b d e => exact wpAny_Name (wpAny_loadName_cell a b d e ⟨rfl, keeps_refl s⟩) hd
  | glob m a b c d => exact Calls.Name_function_global a b (Calls.loadGlobal_global c d ⟨rfl, keeps_refl s⟩) hd
  | built m mb a b c d e f => exact Calls.Name_function_global a b (Calls.loadGlobal_builtin c d e f ⟨rfl, keeps_refl s⟩) hd
theorem ei_name {x : Str} {n : Int} {t : Tok} {pos : Pos} (l : LoadsTo h env x (.int n t)) (hd : (x == ("__debug__" : Str)) = false := by decide) : EI prog w A env h (.Name x pos) n :=
  (ev_name l hd).mono fun _ _ _ r => ⟨t, r⟩
theorem el_name {x : Str} {a : Addr} {vs : List Value} {ns : List Int} {pos : Pos} (l : LoadsTo h env x (.ref a)) (hl : h.IsList a vs.toArray) (hi : IntsAre vs ns) (hd : (x == ("__debug__" : Str)) = false := by decide) : EL prog w A env h (.Name x pos) ns :=
  (ev_name l hd).mono fun _ g k r => ⟨a, vs, r, hl.at fun o e => k _ _ e, hi⟩
theorem ei_const {n : Int} {k : Nat} {pos : Pos} : EI prog w A env h (.Constant (.int n) k pos) n := Pu.mk fun s _ => wpAny_Constant_int ⟨⟨_, rfl⟩, keeps_tok s _⟩

abbrev Op2 (prog : Program) (w : World) (A : Around) (op : Operator) (x y z : Int) : Prop := ∀ (s : Shared) (t u : Tok), wpAny (model prog w) A (binaryOp op (.int x t) (.int y u)) (fun v s' => (∃ t, v = .int z t) ∧ Keeps s s') no s
theorem ei_bin {op : Operator} {l r : Expr} {pos : Pos} {x y z : Int} (hl : EI prog w A env h l x) (hr : EI prog w A env h r y) (ho : Op2 prog w A op x y z) : EI prog w A env h (.BinOp l op r pos) z := Pu.mk fun s hs => by
  refine wpAny_BinOp (hl.use hs fun a s₁ ha k₁ => hr.use (hs.trans (keeps_kp k₁)) fun b s₂ hb k₂ => ?_)
  obtain ⟨t, rfl⟩ := ha
  obtain ⟨u, rfl⟩ := hb
  exact wpAny_mono (ho s₂ t u) (fun v s₃ q => ⟨q.1, keeps_trans k₁ (keeps_trans k₂ q.2)⟩) fun _ _ e => e
theorem o_add {x y : Int} : Op2 prog w A .Add x y (x + y) := fun s _ _ => PyProof.Rows.add_int ⟨⟨_, rfl⟩, keeps_tok s _⟩
theorem o_sub {x y : Int} : Op2 prog w A .Sub x y (x - y) := fun s _ _ => PyProof.Rows.sub_int ⟨⟨_, rfl⟩, keeps_tok s _⟩
theorem o_mul {x y : Int} (hm : IntMulOk x y) : Op2 prog w A .Mult x y (x * y) := fun s _ _ => PyProof.Rows.mul_int ⟨⟨_, rfl⟩, keeps_tok s _⟩ hm
theorem o_xor {x y : Int} : Op2 prog w A .BitXor x y (Builtin.bitXor x y) := fun s _ _ => PyProof.Rows.xor_int ⟨⟨_, rfl⟩, keeps_tok s _⟩
theorem o_and {x y : Int} : Op2 prog w A .BitAnd x y (Builtin.bitAnd x y) := fun s _ _ => PyProof.Rows.and_int ⟨⟨_, rfl⟩, keeps_tok s _⟩
theorem o_shr {x y : Int} (hy : 0 ≤ y) : Op2 prog w A .RShift x y (x.fdiv (2 ^ y.toNat)) := fun s _ _ => PyProof.Rows.rshift_int hy ⟨⟨_, rfl⟩, keeps_tok s _⟩
theorem o_pow {x y : Int} (hy : 0 ≤ y) (h2 : y ≤ 1000000) (hx : x.natAbs < 2 ^ 64) : Op2 prog w A .Pow x y (x ^ y.toNat) := fun s _ _ => PyProof.Rows.pow_int_small hy h2 hx ⟨⟨_, rfl⟩, keeps_tok s _⟩
theorem o_div {x y : Int} (hy : y ≠ 0) (hb : y.natAbs.log2 < 9000) : Op2 prog w A .FloorDiv x y (x.fdiv y) := fun s _ _ => PyProof.Rows.floordiv_int hy ⟨⟨_, rfl⟩, keeps_tok s _⟩ (Or.inl (PyProof.noPylong_of_log2 hb))
theorem o_mod {x y : Int} (hy : y ≠ 0) : Op2 prog w A .Mod x y (x.fmod y) := fun s _ _ => PyProof.Rows.mod_int' hy ⟨⟨_, rfl⟩, keeps_tok s _⟩

/-- comparisons -/
abbrev Cmp2 (prog : Program) (w : World) (A : Around) (op : CmpOp) (x y : Int) (b : Bool) : Prop := ∀ (s : Shared) (t u : Tok), wpAny (model prog w) A (compareOp op (.int x t) (.int y u)) (fun v s' => v = .bool b ∧ Keeps s s') no s
theorem c_lt {x y : Int} : Cmp2 prog w A .Lt x y (decide (x < y)) := fun s _ _ => PyProof.Rows.lt_int ⟨rfl, keeps_refl s⟩
theorem c_ge {x y : Int} : Cmp2 prog w A .GtE x y (decide (y ≤ x)) := fun s _ _ => PyProof.Rows.ge_int ⟨rfl, keeps_refl s⟩
theorem c_eq {x y : Int} : Cmp2 prog w A .Eq x y (x == y) := fun s _ _ => PyProof.Rows.eq_int ⟨rfl, keeps_refl s⟩
theorem truthy_bool' {b : Bool} {s : Shared} {Q : Bool → Shared → Prop} {E : Value → Shared → Prop} {M : Model} (hq : Q b s) : wpAny M A (truthy (.bool b)) Q E s := fun _ _ _ => hq
theorem eb_cmp {op : CmpOp} {l r : Expr} {pos : Pos} {x y : Int} {b : Bool} (hl : EI prog w A env h l x) (hr : EI prog w A env h r y) (ho : Cmp2 prog w A op x y b) (hm : behindInMarks op r = false := by with_unfolding_all rfl) : EB prog w A env h (.Compare l [op] [r] pos) b := Pu.mk fun s hs => by
  refine wpAny_isTrue_Compare1 (hl.use hs fun a s₁ ha k₁ => hr.use (hs.trans (keeps_kp k₁)) fun c s₂ hb k₂ => ?_) hm
  obtain ⟨t, rfl⟩ := ha
  obtain ⟨u, rfl⟩ := hb
  refine wpAny_mono (ho s₂ t u) (fun v s₃ q => ?_) fun _ _ e => e
  rw [q.1]
  exact truthy_bool' ⟨rfl, keeps_trans k₁ (keeps_trans k₂ q.2)⟩
theorem ev_cmp {op : CmpOp} {l r : Expr} {pos : Pos} {x y : Int} {b : Bool} (hl : EI prog w A env h l x) (hr : EI prog w A env h r y) (ho : Cmp2 prog w A op x y b) (hm : behindInMarks op r = false := by with_unfolding_all rfl) : EV prog w A env h (.Compare l [op] [r] pos) (.bool b) := Pu.mk fun s hs => by
  refine wpAny_Compare1 (hl.use hs fun a s₁ ha k₁ => hr.use (hs.trans (keeps_kp k₁)) fun c s₂ hb k₂ => ?_) hm
  obtain ⟨t, rfl⟩ := ha
  obtain ⟨u, rfl⟩ := hb
  exact wpAny_mono (ho s₂ t u) (fun v s₃ q => ⟨q.1, keeps_trans k₁ (keeps_trans k₂ q.2)⟩) fun _ _ e => e
theorem eb_int {e : Expr} {n : Int} (he : EI prog w A env h e n) (hp : isTrue e env (eval e env) = (do let v ← eval e env; standAt e.pos; holding [v] (truthy v)) := by rfl) : EB prog w A env h e (n != 0) := Pu.mk fun s hs => by
  refine PyProof.Rows.isTrue_plain (he.use hs fun a s₁ ha k₁ => ?_) hp
  obtain ⟨t, rfl⟩ := ha
  exact PyProof.Rows.truthy_int ⟨rfl, k₁⟩
theorem ei_ifexp {c a b : Expr} {pos : Pos} {x y : Int} {q : Bool} (hc : EB prog w A env h c q) (ha : q = true → EI prog w A env h a x) (hb : q = false → EI prog w A env h b y) : EI prog w A env h (.IfExp c a b pos) (if q then x else y) := Pu.mk fun s hs => by
  refine PyProof.Rows.IfExp_ (hc.use hs fun r s₁ hr k₁ => ?_)
  subst hr
  cases r with
  | true => exact (ha rfl).use (hs.trans (keeps_kp k₁)) fun v s₂ hv k₂ => ⟨hv, keeps_trans k₁ k₂⟩
  | false => exact (hb rfl).use (hs.trans (keeps_kp k₁)) fun v s₂ hv k₂ => ⟨hv, keeps_trans k₁ k₂⟩
theorem ei_eq {e : Expr} {n n' : Int} (he : EI prog w A env h e n) (q : n = n') : EI prog w A env h e n' := q ▸ he
end
end Mine

-- Fw2
namespace Mine
section
variable {prog : Program} {w : World} {A : Around} {h h' : Heap} {env : Env}

/-- list display -/
theorem pu_newList {vs : List Value} {R : Value → Heap → Prop} (hR : ∀ a g, Kp h g → h.get? a = none → g.IsList a vs.toArray → R (.ref a) g) (hsz : vs.length ≤ sizeLine) : Pu prog w A h (newList vs) R := Pu.mk fun s hs => by
  refine wpAny_newObj_type ⟨hR _ _ (hs.trans fun _ _ e => Heap.get?_push_of_some _ e) ?_ ⟨_, Heap.get?_push_size _ rfl, rfl, _, rfl⟩, keeps_push s _ _⟩ (by show vs.toArray.size ≤ sizeLine; rw [List.size_toArray]; exact hsz)
  cases e : h.get? s.heap.objs.size with
  | none => rfl
  | some o => exact absurd (Heap.lt_size (hs _ _ e)) (Nat.lt_irrefl _)

/-- arguments -/
abbrev PuA (prog : Program) (w : World) (A : Around) (env : Env) (h : Heap) (pos : Pos) (args : List Expr) (R : List Value → Heap → Prop) : Prop := Pu prog w A h (spliced (backTo pos (starEach args env))) R
theorem pa_nil {pos : Pos} {R : List Value → Heap → Prop} (hR : ∀ g, Kp h g → R [] g) : PuA prog w A env h pos [] R := Pu.mk fun s hs => PyProof.Rows.args_nil ⟨hR _ hs, keeps_refl s⟩
theorem pa_cons {pos : Pos} {e : Expr} {rest : List Expr} {R₁ : Value → Heap → Prop} {R : List Value → Heap → Prop} (he : Pu prog w A h (eval e env) R₁)
    (hr : ∀ v g, Kp h g → R₁ v g → PuA prog w A env g pos rest (fun vs g' => R (v :: vs) g')) (hs : starEach (e :: rest) env = (false, eval e env) :: starEach rest env := by rfl) : PuA prog w A env h pos (e :: rest) R := Pu.mk fun s hk =>
  PyProof.Rows.args_cons (he.use hk fun v s₁ hv k₁ => (hr v _ (hk.trans (keeps_kp k₁)) hv).use Kp.rfl fun vs s₂ h₂ k₂ => ⟨h₂, keeps_trans k₁ k₂⟩) hs
theorem pu_List {elts : List Expr} {pos : Pos} {R : Value → Heap → Prop} (ha : PuA prog w A env h pos elts (fun vs g => Pu prog w A g (newList vs) R)) : Pu prog w A h (eval (.List elts pos) env) R := Pu.mk fun s hs =>
  PyProof.Rows.List_ (ha.use hs fun vs s₁ h₁ k₁ => h₁.use Kp.rfl fun v s₂ h₂ k₂ => ⟨h₂, keeps_trans k₁ k₂⟩)
/-- a display of ints -/
inductive EIs (prog : Program) (w : World) (A : Around) (env : Env) (h : Heap) : List Expr → List Int → Prop
  | nil : EIs prog w A env h [] []
  | cons {e : Expr} {es : List Expr} {n : Int} {ns : List Int} : EI prog w A env h e n → (starEach (e :: es) env = (false, eval e env) :: starEach es env) → EIs prog w A env h es ns → EIs prog w A env h (e :: es) (n :: ns)
theorem EIs.up {es : List Expr} {ns : List Int} (x : EIs prog w A env h es ns) (k : Kp h h') : EIs prog w A env h' es ns := by
  induction x with
  | nil => exact .nil
  | cons a b _ ih => exact .cons (a.up k) b ih
theorem pa_ints {pos : Pos} {es : List Expr} {ns : List Int} (x : EIs prog w A env h es ns) : PuA prog w A env h pos es (fun vs _ => IntsAre vs ns) := by
  induction x with
  | nil => exact pa_nil fun _ _ => .nil
  | cons a b c ih =>
    refine pa_cons a (fun v g k hv => ?_) b
    obtain ⟨t, rfl⟩ := hv
    exact (ih.up k).mono fun vs _ _ hvs => .cons _ t hvs
theorem el_list {es : List Expr} {ns : List Int} {pos : Pos} (x : EIs prog w A env h es ns) (hsz : ns.length ≤ sizeLine) : EL prog w A env h (.List es pos) ns :=
  pu_List ((pa_ints x).mono fun vs g k hv => pu_newList (fun a g' k' _ hl => ⟨a, vs, rfl, hl, hv⟩) (by rw [hv.length]; exact hsz))

/-- list + list -/
theorem pu_bin {op : Operator} {l r : Expr} {pos : Pos} {R₁ R₂ R : Value → Heap → Prop} (hl : Pu prog w A h (eval l env) R₁) (m₁ : MonoR R₁) (hr : Pu prog w A h (eval r env) R₂)
    (ho : ∀ a b g, Kp h g → R₁ a g → R₂ b g → Pu prog w A g (binaryOp op a b) R) : Pu prog w A h (eval (.BinOp l op r pos) env) R := Pu.mk fun s hs =>
  wpAny_BinOp (hl.use hs fun a s₁ ha k₁ => hr.use (hs.trans (keeps_kp k₁)) fun b s₂ hb k₂ =>
    (ho a b s₂.heap (hs.trans ((keeps_kp k₁).trans (keeps_kp k₂))) (m₁ _ _ _ ha (keeps_kp k₂)) hb).use Kp.rfl fun v s₃ hv k₃ => ⟨hv, keeps_trans k₁ (keeps_trans k₂ k₃)⟩)
theorem pu_addL {a b : Addr} {vs ws : List Value} {ns ms : List Int} (hl : h.IsList a vs.toArray) (hi : IntsAre vs ns) (hr : h.IsList b ws.toArray) (hj : IntsAre ws ms) (hsz : ns.length + ms.length ≤ sizeLine) :
    Pu prog w A h (binaryOp .Add (.ref a) (.ref b)) (IsL (ns ++ ms)) := Pu.mk fun s hs => by
  have hl' : s.heap.IsList a vs.toArray := hl.at fun o e => hs _ _ e
  have hr' : s.heap.IsList b ws.toArray := hr.at fun o e => hs _ _ e
  obtain ⟨⟨cls, dd, data, sl⟩, ho, hc, n, hd⟩ := id hl'
  obtain ⟨⟨cls2, dd2, data2, sl2⟩, ho2, hc2, n2, hd2⟩ := id hr'
  simp only at hc hd hc2 hd2
  subst hc hd hc2 hd2
  refine concat_meets ⟨_, ho, rfl⟩ ⟨_, ho2, rfl⟩ noFill_list_add seq_list_add PySem.F.slot_list_add PySem.F.entry_list_add (PySem.F.args_list_add_2 _ _) (list_addW a b vs.toArray ws.toArray n n2 dd dd2 sl sl2 (by simpa [hi.length, hj.length] using hsz)) ⟨ho, ho2, ?_⟩
  have e : vs.toArray ++ ws.toArray = (vs ++ ws).toArray := by simp
  rw [e]
  exact ⟨⟨_, vs ++ ws, rfl, ⟨_, Heap.get?_push_size _ rfl, rfl, _, rfl⟩, hi.append hj⟩, keeps_push s _ _⟩
theorem el_add {l r : Expr} {pos : Pos} {ns ms : List Int} (hl : EL prog w A env h l ns) (hr : EL prog w A env h r ms) (hsz : ns.length + ms.length ≤ sizeLine) : EL prog w A env h (.BinOp l .Add r pos) (ns ++ ms) :=
  pu_bin hl (isL_mono ns) hr fun a b g k ha hb => by
    obtain ⟨a, vs, rfl, la, ia⟩ := ha
    obtain ⟨b, ws, rfl, lb, ib⟩ := hb
    exact pu_addL la ia lb ib hsz

/-- slices -/
theorem el_slice {e : Expr} {lo up : Option Expr} {p pos : Pos} {ns ms : List Int} {x y : Option Int} (he : EL prog w A env h e ns)
    (hlo : Pu prog w A h (evalPart lo env) (fun v _ => IsPart v x)) (hup : Pu prog w A h (evalPart up env) (fun v _ => IsPart v y))
    (hpick : ∀ vs, IntsAre vs ns → IntsAre (slicePick vs.toArray x y none).toList ms) (hsz : ns.length ≤ sizeLine)
    (hs : ∀ l i, subscripted (.Slice lo up none p) false (.ref l) (.ref i) = operate [.ref i, .ref l] (getItem (.ref l) (.ref i)) := by intro _ _; with_unfolding_all rfl)
    (ht : ∀ l r, letTemporaryGo e (.ref l) r = pure () := by intro _ _; with_unfolding_all rfl) :
    EL prog w A env h (.Subscript e (.Slice lo up none p) pos) ms := Pu.mk fun s hk => by
  refine PyProof.Rows.Subscript_ (he.use hk fun a s₁ ha k₁ => ?_)
  obtain ⟨a, vs, rfl, la, ia⟩ := ha
  have K₁ := hk.trans (keeps_kp k₁)
  refine wpAny_Slice (hlo.use K₁ fun l s₂ hl k₂ => hup.use (K₁.trans (keeps_kp k₂)) fun u s₃ hu k₃ => ?_)
  have la₃ : s₃.heap.IsList a vs.toArray := la.at fun o e => (keeps_kp k₃) _ _ ((keeps_kp k₂) _ _ e)
  refine evalPart_none_step ?_
  show wpAny _ _ (subscriptTail _ _ _ _) _ _ _
  refine subscriptTail_ops (Heap.IsList.typeIs (s := { s₃ with heap := s₃.heap.push { cls := .type "slice", data := .fields #[l, u, .none] } }) (la₃.push _)) list_getitem_lookup
    (wpAny_getItem_list_slice (la₃.push _) (Heap.IsSliceOf.new ..) hl hu .none (by simp) ?_ (by rw [List.size_toArray, ia.length]; exact hsz)) (hs _ _) (ht _)
  refine ⟨⟨_, (slicePick vs.toArray x y none).toList, rfl, ⟨_, Heap.get?_push_size _ rfl, rfl, _, rfl⟩, hpick vs ia⟩, keeps_trans k₁ (keeps_trans k₂ (keeps_trans k₃ ?_))⟩
  exact ⟨_, s₃.toks, rfl, fun b o e => Heap.get?_push_of_some _ (Heap.get?_push_of_some _ e)⟩
theorem part_none {x : Unit} : Pu prog w A h (evalPart none env) (fun v _ => IsPart v none) := Pu.mk fun s hs => evalPart_none_step ⟨.none, keeps_refl s⟩
theorem part_some {e : Expr} {n : Int} (he : EI prog w A env h e n) : Pu prog w A h (evalPart (some e) env) (fun v _ => IsPart v (some n)) := Pu.mk fun s hs =>
  evalPart_some_step (he.use hs fun v s' hv k => by obtain ⟨t, rfl⟩ := hv; exact ⟨.int _ _, k⟩)
theorem el_upto {e u : Expr} {p pos : Pos} {ns : List Int} {y : Int} (he : EL prog w A env h e ns) (hu : EI prog w A env h u y) (h0 : 0 ≤ y) (hsz : ns.length ≤ sizeLine)
    (hs : ∀ l i, subscripted (.Slice none (some u) none p) false (.ref l) (.ref i) = operate [.ref i, .ref l] (getItem (.ref l) (.ref i)) := by intro _ _; with_unfolding_all rfl)
    (ht : ∀ l r, letTemporaryGo e (.ref l) r = pure () := by intro _ _; with_unfolding_all rfl) :
    EL prog w A env h (.Subscript e (.Slice none (some u) none p) pos) (ns.take y.toNat) := el_slice he (part_none (x := ())) (part_some hu) (fun vs hi => slice_ints_uptoW hi h0) hsz hs ht
theorem el_from {e u : Expr} {p pos : Pos} {ns : List Int} {y : Int} (he : EL prog w A env h e ns) (hu : EI prog w A env h u y) (h0 : 0 ≤ y) (hsz : ns.length ≤ sizeLine)
    (hs : ∀ l i, subscripted (.Slice (some u) none none p) false (.ref l) (.ref i) = operate [.ref i, .ref l] (getItem (.ref l) (.ref i)) := by intro _ _; with_unfolding_all rfl)
    (ht : ∀ l r, letTemporaryGo e (.ref l) r = pure () := by intro _ _; with_unfolding_all rfl) :
    EL prog w A env h (.Subscript e (.Slice (some u) none none p) pos) (ns.drop y.toNat) := el_slice he (part_some hu) (part_none (x := ())) (fun vs hi => slice_ints_fromW hi h0) hsz hs ht

/-- an item -/
theorem ei_item {e i : Expr} {pos : Pos} {ns : List Int} {k : Int} (he : EL prog w A env h e ns) (hi : EI prog w A env h i k) (h0 : 0 ≤ k) (h1 : k < ns.length) (hsz : ns.length ≤ sizeLine)
    (hs : ∀ l u, subscripted i false (.ref l) (.int k u) = operate [.ref l, .int k u] (getItem (.ref l) (.int k u)) := by intro _ _; with_unfolding_all rfl)
    (ht : ∀ l r, letTemporaryGo e (.ref l) r = pure () := by intro _ _; with_unfolding_all rfl) :
    EI prog w A env h (.Subscript e i pos) (ns.getD k.toNat 0) := Pu.mk fun s hk => by
  refine PyProof.Rows.Subscript_ (he.use hk fun a s₁ ha k₁ => ?_)
  obtain ⟨a, vs, rfl, la, ia⟩ := ha
  refine hi.use (hk.trans (keeps_kp k₁)) fun b s₂ hb k₂ => ?_
  obtain ⟨u, rfl⟩ := hb
  have la₂ : s₂.heap.IsList a vs.toArray := la.at fun o e => (keeps_kp k₂) _ _ e
  exact PyProof.Rows.item_list_ints la₂ ia h0 h1 (by rw [sizeLine_eq] at hsz; omega) (fun t => ⟨⟨t, rfl⟩, keeps_trans k₁ k₂⟩) (hs _ _) (ht _)
theorem ei_item_neg {e i : Expr} {pos : Pos} {ns : List Int} {k : Int} (he : EL prog w A env h e ns) (hi : EI prog w A env h i k) (h0 : k < 0) (h1 : -(ns.length : Int) ≤ k) (hsz : ns.length ≤ sizeLine)
    (hs : ∀ l u, subscripted i false (.ref l) (.int k u) = operate [.ref l, .int k u] (getItem (.ref l) (.int k u)) := by intro _ _; with_unfolding_all rfl)
    (ht : ∀ l r, letTemporaryGo e (.ref l) r = pure () := by intro _ _; with_unfolding_all rfl) :
    EI prog w A env h (.Subscript e i pos) (ns.getD (k + ns.length).toNat 0) := Pu.mk fun s hk => by
  refine PyProof.Rows.Subscript_ (he.use hk fun a s₁ ha k₁ => ?_)
  obtain ⟨a, vs, rfl, la, ia⟩ := ha
  refine hi.use (hk.trans (keeps_kp k₁)) fun b s₂ hb k₂ => ?_
  obtain ⟨u, rfl⟩ := hb
  have la₂ : s₂.heap.IsList a vs.toArray := la.at fun o e => (keeps_kp k₂) _ _ e
  exact PyProof.Rows.item_list_ints_neg la₂ ia h0 h1 (by rw [sizeLine_eq] at hsz; omega) (fun t => ⟨⟨t, rfl⟩, keeps_trans k₁ k₂⟩) (hs _ _) (ht _)

/-- calls by name -/
theorem pu_call {x : Str} {px pos : Pos} {args : List Expr} {f : Value} {R : Value → Heap → Prop} (hf : LoadsTo h env x f)
    (hc : Pu prog w A h (callWith pos f [] (backTo pos (starEach args env)) []) R) (hd : (x == ("__debug__" : Str)) = false := by decide)
    (he : eval (.Call (.Name x px) args [] pos) env = (do callWith pos (← eval (.Name x px) env) [] (backTo pos (starEach args env)) (backToKw pos (keywordEach [] env))) := by rfl) :
    Pu prog w A h (eval (.Call (.Name x px) args [] pos) env) R := Pu.mk fun s hk =>
  PyProof.Rows.Call_ ((ev_name hf hd).use hk fun v s₁ hv k₁ => by subst hv; exact hc.use (hk.trans (keeps_kp k₁)) fun r s₂ hr k₂ => ⟨hr, keeps_trans k₁ k₂⟩) he
/-- one argument or more, of a built-in -/
theorem pu_callB {x : Str} {px pos : Pos} {e : Expr} {rest : List Expr} {id : String} {R : Value → Heap → Prop} (hf : LoadsTo h env x (.builtin id))
    (ha : PuA prog w A env h pos (e :: rest) (fun vs g => Pu prog w A g (call (.builtin id) vs) R)) (hd : (x == ("__debug__" : Str)) = false := by decide)
    (he : starEach (e :: rest) env = (false, eval e env) :: starEach rest env := by rfl) (hp : (backTo pos (starEach rest env)).any (·.1) = false := by rfl)
    (hev : eval (.Call (.Name x px) (e :: rest) [] pos) env = (do callWith pos (← eval (.Name x px) env) [] (backTo pos (starEach (e :: rest) env)) (backToKw pos (keywordEach [] env))) := by rfl) :
    Pu prog w A h (eval (.Call (.Name x px) (e :: rest) [] pos) env) R :=
  pu_call hf (Pu.mk fun s hk => PyProof.Rows.callWith_method1 (ha.use hk fun vs s₁ hv k₁ => hv.use Kp.rfl fun r s₂ hr k₂ => ⟨hr, keeps_trans k₁ k₂⟩) he hp) hd hev
theorem pu_callT {x : Str} {px pos : Pos} {e : Expr} {rest : List Expr} {T : String} {R : Value → Heap → Prop} (hf : LoadsTo h env x (.type T))
    (ha : PuA prog w A env h pos (e :: rest) (fun vs g => Pu prog w A g (call (.type T) vs) R)) (hd : (x == ("__debug__" : Str)) = false := by decide)
    (he : starEach (e :: rest) env = (false, eval e env) :: starEach rest env := by rfl) (hp : (backTo pos (starEach rest env)).any (·.1) = false := by rfl)
    (hev : eval (.Call (.Name x px) (e :: rest) [] pos) env = (do callWith pos (← eval (.Name x px) env) [] (backTo pos (starEach (e :: rest) env)) (backToKw pos (keywordEach [] env))) := by rfl) :
    Pu prog w A h (eval (.Call (.Name x px) (e :: rest) [] pos) env) R :=
  pu_call hf (Pu.mk fun s hk => PyProof.Rows.callWith_type1 (ha.use hk fun vs s₁ hv k₁ => hv.use Kp.rfl fun r s₂ hr k₂ => ⟨hr, keeps_trans k₁ k₂⟩) he hp) hd hev
/-- of a def -/
theorem pu_callF {x : Str} {px pos : Pos} {e : Expr} {rest : List Expr} {a : Addr} {o : Obj} {fd : FuncData} {R : Value → Heap → Prop} (hf : LoadsTo h env x (.ref a)) (ho : h.get? a = some o) (hdat : o.data = .func fd)
    (ha : PuA prog w A env h pos (e :: rest) (fun vs g => Pu prog w A g (call (.ref a) vs) R)) (hd : (x == ("__debug__" : Str)) = false := by decide)
    (he : starEach (e :: rest) env = (false, eval e env) :: starEach rest env := by rfl)
    (hev : eval (.Call (.Name x px) (e :: rest) [] pos) env = (do callWith pos (← eval (.Name x px) env) [] (backTo pos (starEach (e :: rest) env)) (backToKw pos (keywordEach [] env))) := by rfl) :
    Pu prog w A h (eval (.Call (.Name x px) (e :: rest) [] pos) env) R :=
  pu_call hf (Pu.mk fun s hk => PyProof.Rows.callWith_meth (h₀ := s.heap) hdat (hk _ _ ho) (ha.use hk fun vs s₁ hv k₁ => ⟨keeps_kp k₁, hv.use Kp.rfl fun r s₂ hr k₂ => ⟨hr, keeps_trans k₁ k₂⟩⟩) he) hd hev
theorem pu_callF0 {x : Str} {px pos : Pos} {a : Addr} {o : Obj} {fd : FuncData} {R : Value → Heap → Prop} (hf : LoadsTo h env x (.ref a)) (ho : h.get? a = some o) (hdat : o.data = .func fd)
    (ha : Pu prog w A h (call (.ref a) []) R) (hd : (x == ("__debug__" : Str)) = false := by decide)
    (hev : eval (.Call (.Name x px) [] [] pos) env = (do callWith pos (← eval (.Name x px) env) [] (backTo pos (starEach [] env)) (backToKw pos (keywordEach [] env))) := by rfl) :
    Pu prog w A h (eval (.Call (.Name x px) [] [] pos) env) R :=
  pu_call hf (Pu.mk fun s hk => PyProof.Rows.callWith_meth0 hdat (hk _ _ ho) (ha.use hk fun r s₂ hr k₂ => ⟨hr, k₂⟩)) hd hev
/-- len, sum -/
theorem ei_len {x : Str} {px pos : Pos} {e : Expr} {ns : List Int} (hf : LoadsTo h env x (.builtin "len")) (he : EL prog w A env h e ns) (hsz : ns.length ≤ sizeLine) (hd : (x == ("__debug__" : Str)) = false := by decide)
    (hs : starEach [e] env = (false, eval e env) :: starEach [] env := by rfl) (hev : eval (.Call (.Name x px) [e] [] pos) env = (do callWith pos (← eval (.Name x px) env) [] (backTo pos (starEach [e] env)) (backToKw pos (keywordEach [] env))) := by rfl) :
    EI prog w A env h (.Call (.Name x px) [e] [] pos) ns.length :=
  pu_callB hf (pa_cons he (fun v g k hv => pa_nil fun g' k' => by
    obtain ⟨a, vs, rfl, la, ia⟩ := hv
    refine Pu.mk fun s hs => PyProof.Rows.len_list (la.at fun o e => hs _ _ (k' _ _ e)) (by rw [List.size_toArray, ia.length]; rw [sizeLine_eq] at hsz; omega) ⟨⟨s.toks + 1, ?_⟩, keeps_tok s _⟩
    rw [List.size_toArray, ia.length]) hs) hd hs rfl hev
end
end Mine

-- Fw3
namespace Mine
section
variable {prog : Program} {w : World} {A : Around} {h h' : Heap} {env : Env}

/-- what a for, a comprehension or sum goes over -/
abbrev IsR (lo hi : Int) : Value → Heap → Prop := fun v g => ∃ a t u z, v = .ref a ∧ IsRange g a lo hi 1 t u z
abbrev IsIt (ks : List Int) : Value → Heap → Prop := fun v g => IsL ks v g ∨ ∃ lo hi, IsR lo hi v g ∧ Builtin.Range.small lo hi 1 = true ∧ ks = rangeKs lo (hi - lo).toNat
abbrev EIt (prog : Program) (w : World) (A : Around) (env : Env) (h : Heap) (e : Expr) (ks : List Int) : Prop := Pu prog w A h (eval e env) (IsIt ks)
abbrev PI (ks : List Int) : Nat → Value → Prop := fun i v => ∃ k t, ks[i]? = some k ∧ v = .int k t
theorem isIt_mono (ks : List Int) : MonoR (IsIt ks) := fun v g g' r k => by
  rcases r with r | ⟨lo, hi, ⟨a, t, u, z, rfl, hr⟩, r⟩
  · exact .inl (isL_mono ks _ _ _ r k)
  · exact .inr ⟨lo, hi, ⟨a, t, u, z, rfl, k _ _ hr⟩, r⟩
theorem it_list {e : Expr} {ks : List Int} (he : EL prog w A env h e ks) : EIt prog w A env h e ks := he.mono fun _ _ _ r => .inl r
theorem it_range1 {x : Str} {px pos : Pos} {e : Expr} {n : Int} (hf : LoadsTo h env x (.type "range")) (he : EI prog w A env h e n) (h0 : -(2 ^ 62) ≤ n) (h1 : n < 2 ^ 62) (hd : (x == ("__debug__" : Str)) = false := by decide)
    (hs : starEach [e] env = (false, eval e env) :: starEach [] env := by rfl) (hev : eval (.Call (.Name x px) [e] [] pos) env = (do callWith pos (← eval (.Name x px) env) [] (backTo pos (starEach [e] env)) (backToKw pos (keywordEach [] env))) := by rfl) :
    EIt prog w A env h (.Call (.Name x px) [e] [] pos) (rangeKs 0 n.toNat) :=
  pu_callT hf (pa_cons he (fun v g k hv => pa_nil fun g' k' => by
    obtain ⟨t, rfl⟩ := hv
    exact Pu.mk fun s hs => call_range_1 ⟨.inr ⟨0, n, ⟨_, _, _, _, rfl, IsRange.new ..⟩, small_one (by decide) (by decide) h0 h1, by simp⟩, keeps_push s _ _⟩) hs) hd hs rfl hev
theorem it_range2 {x : Str} {px pos : Pos} {e e' : Expr} {n n' : Int} (hf : LoadsTo h env x (.type "range")) (he : EI prog w A env h e n) (he' : EI prog w A env h e' n') (h0 : -(2 ^ 62) ≤ n) (h1 : n < 2 ^ 62) (h0' : -(2 ^ 62) ≤ n') (h1' : n' < 2 ^ 62) (hd : (x == ("__debug__" : Str)) = false := by decide)
    (hs : starEach [e, e'] env = (false, eval e env) :: starEach [e'] env := by rfl) (hs' : starEach [e'] env = (false, eval e' env) :: starEach [] env := by rfl)
    (hev : eval (.Call (.Name x px) [e, e'] [] pos) env = (do callWith pos (← eval (.Name x px) env) [] (backTo pos (starEach [e, e'] env)) (backToKw pos (keywordEach [] env))) := by rfl) :
    EIt prog w A env h (.Call (.Name x px) [e, e'] [] pos) (rangeKs n (n' - n).toNat) :=
  pu_callT hf (pa_cons he (fun v g k hv => pa_cons (he'.up k) (fun v' g' k' hv' => pa_nil fun g'' k'' => by
    obtain ⟨t, rfl⟩ := hv
    obtain ⟨t', rfl⟩ := hv'
    exact Pu.mk fun s hs => call_range_2 ⟨.inr ⟨n, n', ⟨_, _, _, _, rfl, IsRange.new ..⟩, small_one h0 h1 h0' h1', rfl⟩, keeps_push s _ _⟩) hs') hs) hd hs (by rw [hs']; rfl) hev

theorem walks_imp {I : Addr} {fp wr : List Addr} {n n' : Nat} {P P' : Nat → Value → Prop} {St : Nat → Heap → Prop} (W : Walks prog w A I fp wr n P St) (hn : n = n') (hP : ∀ i v, i < n → P i v → P' i v) : Walks prog w A I fp wr n' P' St := by
  subst hn
  exact { sub := W.sub, frame := W.frame, done := W.done, self := W.self, item := fun i s Q E hi st hQ => W.item i s Q E hi st fun v h' tk hp => hQ v h' tk (hP i v hi hp) }

/-- the iterator of such a thing -/
theorem iter_walks {ks : List Int} {v : Value} {s : Shared} {Q : Value → Shared → Prop} {E : Value → Shared → Prop} (hA : A.handled = none) (hv : IsIt ks v s.heap)
    (hQ : ∀ I fp St s₂, Keeps s s₂ → Walks prog w A I fp [I] ks.length (PI ks) St → St 0 s₂.heap → (∀ b ∈ fp, b < s₂.heap.objs.size) → s.heap.get? I = none → (∀ b ∈ fp, b ≠ I → v = .ref b ∧ ∃ its, s.heap.IsList b its) → (∀ i g, St i g → ∀ its, ¬ g.IsList I its) → Q (.ref I) s₂) :
    wpAny (model prog w) A (pyIter v) Q E s := by
  have hnew : s.heap.get? s.heap.objs.size = none := by
    cases e : s.heap.get? s.heap.objs.size with
    | none => rfl
    | some o => exact absurd (Heap.lt_size e) (Nat.lt_irrefl _)
  rcases hv with ⟨a, vs, rfl, hl, hi⟩ | ⟨lo, hi, ⟨a, t, u, z, rfl, hr⟩, hsm, rfl⟩
  · have hlt : a < s.heap.objs.size := by obtain ⟨_, e, _⟩ := hl; exact Heap.lt_size e
    refine wpAny_pyIter_list hl (hQ s.heap.objs.size _ _ _ (keeps_push s _ _) (walks_imp (Walks.list hA s.heap.objs.size a (Nat.ne_of_lt hlt) vs.toArray) (by simp [hi.length]) ?_) ⟨⟨_, Heap.get?_push_size _ rfl, rfl, rfl⟩, hl.push _⟩ ?_ hnew ?_ ?_)
    · intro i v _ hv
      obtain ⟨n, t, e, hn⟩ := IntsAre.at hi i v (by simpa using hv)
      exact ⟨n, t, hn, e⟩
    · intro b hb
      show b < (s.heap.push _).objs.size
      rw [Heap.size_push]
      rcases List.mem_cons.mp hb with rfl | hb
      · exact Nat.lt_succ_self _
      · rw [List.mem_singleton.mp hb]; exact Nat.lt_succ_of_lt hlt
    · intro b hb hne
      rcases List.mem_cons.mp hb with rfl | hb
      · exact absurd rfl hne
      · rw [List.mem_singleton.mp hb]; exact ⟨rfl, _, hl⟩
    · rintro i g ⟨⟨o, e, _, ed⟩, _⟩ its ⟨o', e', _, k, ed'⟩
      rw [e] at e'; cases e'; rw [ed] at ed'; cases ed'
  · refine wpAny_pyIter_range hr hsm (hQ s.heap.objs.size _ _ _ (keeps_push s _ _) (walks_imp (LCg.range_walks hA lo (hi - lo).toNat) (by simp [rangeKs_length]) ?_) ?_ ?_ hnew ?_ ?_)
    · rintro i v hi ⟨t, rfl⟩
      exact ⟨lo + i, t, by simp [rangeKs, hi], rfl⟩
    · show IsRangeIter _ _ _ _ _
      rw [rangeSize_nat]
      simpa using Heap.get?_push_size _ rfl
    · intro b hb
      rw [List.mem_singleton.mp hb]
      show s.heap.objs.size < (s.heap.push _).objs.size
      rw [Heap.size_push]; exact Nat.lt_succ_self _
    · intro b hb hne
      exact absurd (List.mem_singleton.mp hb) hne
    · rintro i g e its ⟨o', e', _, k, ed'⟩
      rw [show g.get? _ = some _ from e] at e'; cases e'; cases ed'

theorem keeps_but {s s₂ : Shared} {I : Addr} {h' : Heap} {tk : Nat} (k : Keeps s s₂) (hI : s.heap.get? I = none) (hk : ∀ b o, b ∉ [I] → s₂.heap.get? b = some o → h'.get? b = some o) : Keeps s { s₂ with heap := h', toks := tk } := by
  obtain ⟨h₂, tk₂, rfl, hk₂⟩ := k
  refine ⟨h', tk, rfl, fun b o e => hk b o (fun hm => ?_) (hk₂ b o e)⟩
  rw [List.mem_singleton.mp hm, hI] at e
  cases e
theorem preSum_sum (ks : List Int) : ∀ n, n ≤ ks.length → preSum (fun i => ks.getD i 0) n = (ks.take n).sum := by
  intro n
  induction n with
  | zero => intro _; simp [preSum]
  | succ n ih =>
    intro hn
    have hlt : n < ks.length := hn
    rw [preSum, ih (by omega), List.take_add_one, List.sum_append]
    simp [List.getElem?_eq_getElem hlt]
/-- sum(..) -/
theorem ei_sum {x : Str} {px pos : Pos} {e : Expr} {ks : List Int} (hA : A.handled = none) (hf : LoadsTo h env x (.builtin "sum")) (he : EL prog w A env h e ks) (hd : (x == ("__debug__" : Str)) = false := by decide)
    (hs : starEach [e] env = (false, eval e env) :: starEach [] env := by rfl) (hev : eval (.Call (.Name x px) [e] [] pos) env = (do callWith pos (← eval (.Name x px) env) [] (backTo pos (starEach [e] env)) (backToKw pos (keywordEach [] env))) := by rfl) :
    EI prog w A env h (.Call (.Name x px) [e] [] pos) ks.sum :=
  pu_callB hf (pa_cons he (fun v g k hv => pa_nil fun g' k' => Pu.mk fun s hs => by
    refine call_sum_walkG (iter_walks (by exact hA) (.inl (isL_mono _ _ _ _ hv (k'.trans hs))) fun I fp St s₂ ks₂ W st hfp hI _ _ => ⟨I, fp, [I], ks.length, _, St, fun i => ks.getD i 0, rfl, W, st, hfp, ?_, ?_⟩)
    · rintro i v ⟨k, t, hk, rfl⟩
      refine ⟨t, ?_⟩
      simp [hk]
    · intro h' tk t' hk
      refine ⟨⟨t', ?_⟩, ?_⟩
      · rw [preSum_sum ks _ (Nat.le_refl _), List.take_length]
      · exact keeps_but ks₂ hI hk) hs) hd hs rfl hev

/-- THE FRAME -/
abbrev Own (env : Env) (b : Addr) : Prop := b = env.locals ∨ ∃ n, env.cells.lookup n = some b
abbrev KpB (O : Addr → Prop) (h h' : Heap) : Prop := ∀ b o, ¬ O b → h.get? b = some o → h'.get? b = some o
abbrev FS (s₀ : Shared) (env : Env) (m cm : Str → Option Value) (s : Shared) : Prop := InCallC s₀ env.locals m env.cells cm s
theorem KpB.trans {O : Addr → Prop} {a b c : Heap} (x : KpB O a b) (y : KpB O b c) : KpB O a c := fun z o hz e => y z o hz (x z o hz e)
theorem KpB.of {O : Addr → Prop} {a b : Heap} (x : Kp a b) : KpB O a b := fun z o _ e => x z o e
theorem KpB.mono {O O' : Addr → Prop} {a b : Heap} (x : KpB O a b) (hO : ∀ z, O z → O' z) : KpB O' a b := fun z o hz e => x z o (fun q => hz (hO z q)) e
variable {s₀ s s' : Shared} {m cm : Str → Option Value}
theorem FS.keeps (X : FS s₀ env m cm s) (k : Keeps s s') : FS s₀ env m cm s' := by
  obtain ⟨h, tk, rfl, hk⟩ := k
  obtain ⟨⟨⟨h₁, t₁, rfl⟩, a2, a3, a4⟩, b, c, d⟩ := X
  exact ⟨⟨⟨h, tk, rfl⟩, a2.keeps hk, fun z o e => hk z o (a3 z o e), a4⟩, fun n x e => (b n x e).keeps hk, c, d⟩
theorem FS.back (X : FS s₀ env m cm s) : Keeps s₀ s := by
  obtain ⟨h, tk, e⟩ := X.toInCall.same
  have := X.toInCall.keep
  subst e
  exact ⟨h, tk, rfl, this⟩
theorem FS.offL (X : FS s₀ env m cm s) {a : Addr} {its : Array Value} (hl : s.heap.IsList a its) : ¬ Own env a := by
  rintro (rfl | ⟨n, e⟩)
  · obtain ⟨o, ho, _, k, hd⟩ := hl
    obtain ⟨o', es, ep, ho', hd', _⟩ := X.toInCall.ns
    rw [ho] at ho'; cases ho'; rw [hd] at hd'; cases hd'
  · obtain ⟨o, ho, _, k, hd⟩ := hl
    obtain ⟨o', ho', hd'⟩ := X.cell n a e
    rw [ho] at ho'; cases ho'; rw [hd] at hd'; cases hd'
theorem FS.lst (X : FS s₀ env m cm s) {a : Addr} {its : Array Value} (hl : s.heap.IsList a its) (k : KpB (Own env) s.heap s'.heap) : s'.heap.IsList a its :=
  hl.at fun o e => k _ _ (X.offL hl) e
theorem FS.isL (X : FS s₀ env m cm s) {v : Value} {ns : List Int} (hl : IsL ns v s.heap) (k : KpB (Own env) s.heap s'.heap) : IsL ns v s'.heap := by
  obtain ⟨a, vs, e, l, i⟩ := hl
  exact ⟨a, vs, e, X.lst l k, i⟩
theorem FS.ld (X : FS s₀ env m cm s) {x : Str} {v : Value} (hk : env.scope.kind = .function) (hl : env.kindOf x = some .local) (hv : m x = some v) : LoadsTo s.heap env x v := .loc m hk hl X.toInCall.ns hv
theorem FS.ldc (X : FS s₀ env m cm s) {x : Str} {v : Value} {c : Addr} (hk : env.scope.kind = .function) (hl : env.kindOf x = some .cell) (hc : env.cells.lookup x = some c) (hv : cm x = some v) : LoadsTo s.heap env x v := .cell c hk hl hc (hv ▸ X.cell x c hc)
abbrev upd (m : Str → Option Value) (x : Str) (v : Value) : Str → Option Value := fun y => if y = x then some v else m y
theorem st_loc {x : Str} {v : Value} {Q : Unit → Shared → Prop} {E : Value → Shared → Prop} (X : FS s₀ env m cm s) (hk : env.scope.kind = .function) (hl : env.kindOf x = some .local)
    (k : ∀ s', FS s₀ env (upd m x v) cm s' → KpB (Own env) s.heap s'.heap → Q () s') : wpAny (model prog w) A (storeName env x v) Q E s := by
  have key : wpAny (model prog w) A (storeName env x v) (fun _ s' => FS s₀ env (upd m x v) cm s' ∧ KpB (Own env) s.heap s'.heap) E s := by
    refine wpAny_storeName_local hl X.toInCall.ns (fun h' hn' hs' => ⟨⟨⟨?_, hn', fun b o e => ?_, X.toInCall.fresh⟩, fun k c hc => ?_, X.apart, X.above⟩, fun b o hb e => ?_⟩) (by rw [hk]; rfl)
    · obtain ⟨h₁, tk, rfl⟩ := X.toInCall.same
      exact ⟨h', _, rfl⟩
    · exact hs'.extBut b o (Nat.ne_of_lt (Nat.lt_of_lt_of_le (Heap.lt_size e) X.toInCall.fresh)) (X.toInCall.keep b o e)
    · exact (X.cell k c hc).sameBut hs' (Nat.ne_of_gt (X.above k c (mem_of_lookup hc)))
    · exact hs'.extBut b o (fun q => hb (.inl q)) e
  exact wpAny_mono key (fun _ s' q => k s' q.1 q.2) fun _ _ e => e
theorem st_cell {x : Str} {v : Value} {c : Addr} {Q : Unit → Shared → Prop} {E : Value → Shared → Prop} (X : FS s₀ env m cm s) (hk : env.scope.kind = .function) (hl : env.kindOf x = some .cell) (hc : env.cells.lookup x = some c)
    (k : ∀ s', FS s₀ env m (upd cm x v) s' → KpB (Own env) s.heap s'.heap → Q () s') : wpAny (model prog w) A (storeName env x v) Q E s := by
  have hLc := X.above x c (mem_of_lookup hc)
  have key : wpAny (model prog w) A (storeName env x v) (fun _ s' => FS s₀ env m (upd cm x v) s' ∧ KpB (Own env) s.heap s'.heap) E s := by
    refine wpAny_storeName_cell hk hl hc (X.cell x c hc) fun h' hc' hs' => ⟨⟨⟨?_, X.toInCall.ns.sameBut hs' (Nat.ne_of_lt hLc), fun b o e => ?_, X.toInCall.fresh⟩, fun k c' hk' => ?_, X.apart, X.above⟩, fun b o hb e => ?_⟩
    · obtain ⟨h₁, tk, rfl⟩ := X.toInCall.same
      exact ⟨h', _, rfl⟩
    · exact hs'.extBut b o (Nat.ne_of_lt (Nat.lt_trans (Nat.lt_of_lt_of_le (Heap.lt_size e) X.toInCall.fresh) hLc)) (X.toInCall.keep b o e)
    · by_cases hkn : k = x
      · subst hkn
        rw [hc] at hk'; cases hk'
        simpa [upd] using hc'
      · rw [upd, if_neg hkn]
        exact (X.cell k c' hk').sameBut hs' fun e => hkn (name_of_addr X.apart (mem_of_lookup hk') (e ▸ mem_of_lookup hc))
    · exact hs'.extBut b o (fun q => hb (.inr ⟨x, q ▸ hc⟩)) e
  exact wpAny_mono key (fun _ s' q => k s' q.1 q.2) fun _ _ e => e

/-- statements -/
theorem s_cons {st : Stmt} {rest : List Stmt} {Q : Flow → Shared → Prop} (hh : wpAny (model prog w) A (exec st env) (fun f s' => f = .next ∧ wpAny (model prog w) A (execs rest env) Q no s') no s) : wpAny (model prog w) A (execs (st :: rest) env) Q no s :=
  wpAny_execs_cons (wpAny_mono hh (fun f s' q => by rw [q.1]; exact q.2) fun _ _ e => e)
theorem s_assign {x : Str} {px pos : Pos} {e : Expr} {rest : List Stmt} {R : Value → Heap → Prop} {Q : Flow → Shared → Prop} (X : FS s₀ env m cm s) (hk : env.scope.kind = .function) (hl : env.kindOf x = some .local)
    (he : Pu prog w A s.heap (eval e env) R) (k : ∀ v s₁ s₂, R v s₁.heap → FS s₀ env m cm s₁ → KpB (Own env) s₁.heap s₂.heap → KpB (Own env) s.heap s₂.heap → FS s₀ env (upd m x v) cm s₂ → wpAny (model prog w) A (execs rest env) Q no s₂)
    (hsw : swapsWith e (some (.Name x px)) pos.line env = pure false := by rfl) : wpAny (model prog w) A (execs (.Assign [.Name x px] e pos :: rest) env) Q no s :=
  s_cons (wpAny_Assign_Name (he.use Kp.rfl fun v s₁ hv k₁ => st_loc (X.keeps k₁) hk hl fun s₂ X₂ k₂ => ⟨rfl, k v s₁ s₂ hv (X.keeps k₁) k₂ ((KpB.of (keeps_kp k₁)).trans k₂) X₂⟩) hsw)
theorem s_assignI {x : Str} {px pos : Pos} {e : Expr} {n : Int} {rest : List Stmt} {Q : Flow → Shared → Prop} (X : FS s₀ env m cm s) (hk : env.scope.kind = .function) (hl : env.kindOf x = some .local)
    (he : EI prog w A env s.heap e n) (k : ∀ t s₂, KpB (Own env) s.heap s₂.heap → FS s₀ env (upd m x (.int n t)) cm s₂ → wpAny (model prog w) A (execs rest env) Q no s₂)
    (hsw : swapsWith e (some (.Name x px)) pos.line env = pure false := by rfl) : wpAny (model prog w) A (execs (.Assign [.Name x px] e pos :: rest) env) Q no s :=
  s_assign X hk hl he (fun v s₁ s₂ hv _ _ k₂ X₂ => by obtain ⟨t, rfl⟩ := hv; exact k t s₂ k₂ X₂) hsw
theorem s_assignL {x : Str} {px pos : Pos} {e : Expr} {ns : List Int} {rest : List Stmt} {Q : Flow → Shared → Prop} (X : FS s₀ env m cm s) (hk : env.scope.kind = .function) (hl : env.kindOf x = some .local)
    (he : EL prog w A env s.heap e ns) (k : ∀ a vs s₂, s₂.heap.IsList a (List.toArray vs) → IntsAre vs ns → KpB (Own env) s.heap s₂.heap → FS s₀ env (upd m x (.ref a)) cm s₂ → wpAny (model prog w) A (execs rest env) Q no s₂)
    (hsw : swapsWith e (some (.Name x px)) pos.line env = pure false := by rfl) : wpAny (model prog w) A (execs (.Assign [.Name x px] e pos :: rest) env) Q no s :=
  s_assign X hk hl he (fun v s₁ s₂ hv X₁ k₁ k₂ X₂ => by obtain ⟨a, vs, rfl, la, ia⟩ := hv; exact k a vs s₂ (X₁.lst la k₁) ia k₂ X₂) hsw
theorem s_assignC {x : Str} {px pos : Pos} {c : Addr} {e : Expr} {n : Int} {rest : List Stmt} {Q : Flow → Shared → Prop} (X : FS s₀ env m cm s) (hk : env.scope.kind = .function) (hl : env.kindOf x = some .cell) (hc : env.cells.lookup x = some c)
    (he : EI prog w A env s.heap e n) (k : ∀ t s₂, KpB (Own env) s.heap s₂.heap → FS s₀ env m (upd cm x (.int n t)) s₂ → wpAny (model prog w) A (execs rest env) Q no s₂)
    (hsw : swapsWith e (some (.Name x px)) pos.line env = pure false := by rfl) : wpAny (model prog w) A (execs (.Assign [.Name x px] e pos :: rest) env) Q no s :=
  s_cons (wpAny_Assign_Name (he.use Kp.rfl fun v s₁ hv k₁ => by
    obtain ⟨t, rfl⟩ := hv
    exact st_cell (X.keeps k₁) hk hl hc fun s₂ X₂ k₂ => ⟨rfl, k t s₂ ((KpB.of (keeps_kp k₁)).trans k₂) X₂⟩) hsw)
theorem s_assignCL {x : Str} {px pos : Pos} {c : Addr} {e : Expr} {ns : List Int} {rest : List Stmt} {Q : Flow → Shared → Prop} (X : FS s₀ env m cm s) (hk : env.scope.kind = .function) (hl : env.kindOf x = some .cell) (hc : env.cells.lookup x = some c)
    (he : EL prog w A env s.heap e ns) (k : ∀ a vs s₂, s₂.heap.IsList a (List.toArray vs) → IntsAre vs ns → KpB (Own env) s.heap s₂.heap → FS s₀ env m (upd cm x (.ref a)) s₂ → wpAny (model prog w) A (execs rest env) Q no s₂)
    (hsw : swapsWith e (some (.Name x px)) pos.line env = pure false := by rfl) : wpAny (model prog w) A (execs (.Assign [.Name x px] e pos :: rest) env) Q no s :=
  s_cons (wpAny_Assign_Name (he.use Kp.rfl fun v s₁ hv k₁ => by
    obtain ⟨a, vs, rfl, la, ia⟩ := hv
    exact st_cell (X.keeps k₁) hk hl hc fun s₂ X₂ k₂ => ⟨rfl, k a vs s₂ ((X.keeps k₁).lst la k₂) ia ((KpB.of (keeps_kp k₁)).trans k₂) X₂⟩) hsw)
theorem s_return {e : Expr} {pos : Pos} {rest : List Stmt} {R : Value → Heap → Prop} {Q : Flow → Shared → Prop} (he : Pu prog w A s.heap (eval e env) R) (k : ∀ v s₁, R v s₁.heap → Keeps s s₁ → Q (.ret v) s₁) : wpAny (model prog w) A (execs (.Return (some e) pos :: rest) env) Q no s :=
  wpAny_execs_cons (wpAny_Return_some (he.use Kp.rfl fun v s₁ hv k₁ => k v s₁ hv k₁))
theorem s_nil {Q : Flow → Shared → Prop} (hq : Q .next s) : wpAny (model prog w) A (execs [] env) Q no s := wpAny_execs_nil hq
/-- an if that ends with its block -/
theorem s_if {c : Expr} {b : Bool} {yes nay rest : List Stmt} {pos : Pos} {Q : Flow → Shared → Prop} (X : FS s₀ env m cm s) (hc : EB prog w A env s.heap c b)
    (k : ∀ s₁, FS s₀ env m cm s₁ → KpB (Own env) s.heap s₁.heap → wpAny (model prog w) A (execs (if b then yes else nay) env) (fun f s₂ => f = .next ∧ wpAny (model prog w) A (execs rest env) Q no s₂) no s₁) :
    wpAny (model prog w) A (execs (.If c yes nay pos :: rest) env) Q no s := by
  refine s_cons (wpAny_If (hc.use Kp.rfl fun r s₁ hr k₁ => ?_))
  subst hr
  have := k s₁ (X.keeps k₁) (KpB.of (keeps_kp k₁))
  cases r <;> simpa using this
end
end Mine

-- Fw4
namespace Mine
section
variable {prog : Program} {w : World} {A : Around} {h h' : Heap} {env : Env} {s₀ s s' : Shared} {m cm : Str → Option Value}

theorem FS.but (X : FS s₀ env m cm s) {It : Addr} {g : Heap} {tk : Nat} (ho : ¬ Own env It) (hn : s₀.heap.get? It = none) (hk : ∀ b o, b ∉ [It] → s.heap.get? b = some o → g.get? b = some o) : FS s₀ env m cm { s with heap := g, toks := tk } := by
  obtain ⟨⟨⟨h₁, t₁, rfl⟩, a2, a3, a4⟩, b, c, d⟩ := X
  refine ⟨⟨⟨g, tk, rfl⟩, a2.at' fun o e => hk _ o (fun q => ho (.inl (List.mem_singleton.mp q).symm)) e, fun z o e => hk z o (fun q => ?_) (a3 z o e), a4⟩, fun n x e => ?_, c, d⟩
  · rw [List.mem_singleton.mp q, hn] at e
    cases e
  · obtain ⟨o, e1, e2⟩ := b n x e
    exact ⟨o, hk x o (fun q => ho (.inr ⟨n, (List.mem_singleton.mp q) ▸ e⟩)) e1, e2⟩

theorem s_forD {x : Str} {px pos : Pos} {iter : Expr} {body rest : List Stmt} {ks : List Int} {Q : Flow → Shared → Prop} (D : Addr → Prop) (J : Nat → (Str → Option Value) → (Str → Option Value) → Heap → Prop) (hA : A.handled = none)
    (X : FS s₀ env m cm s) (hk : env.scope.kind = .function) (hl : env.kindOf x = some .local)
    (hit : Pu prog w A s.heap (eval iter env) (fun v g => IsIt ks v g ∧ ∀ a, v = .ref a → ¬ D a))
    (hD : ∀ b, D b → s.heap.get? b ≠ none ∧ ¬ Own env b)
    (hJ0 : J 0 m cm s.heap) (hJs : ∀ i m cm g g', J i m cm g → (∀ b o, D b → g.get? b = some o → g'.get? b = some o) → J i m cm g')
    (turn : ∀ i k t m₁ cm₁ s₁, ks[i]? = some k → J i m₁ cm₁ s₁.heap → FS s₀ env (upd m₁ x (.int k t)) cm₁ s₁ → KpB (fun b => Own env b ∨ D b) s.heap s₁.heap →
      wpAny (model prog w) A (execs body env) (fun f s₂ => f = .next ∧ ∃ m₂ cm₂, FS s₀ env m₂ cm₂ s₂ ∧ KpB (fun b => Own env b ∨ D b) s₁.heap s₂.heap ∧ J (i + 1) m₂ cm₂ s₂.heap) no s₁)
    (done : ∀ m₁ cm₁ s₁, J ks.length m₁ cm₁ s₁.heap → FS s₀ env m₁ cm₁ s₁ → KpB (fun b => Own env b ∨ D b) s.heap s₁.heap → wpAny (model prog w) A (execs rest env) Q no s₁)
    (hs : ∀ x, foldedSetIterable iter env x = pure x := by intro _; rfl) :
    wpAny (model prog w) A (execs (.For (.Name x px) iter body [] pos :: rest) env) Q no s := by
  refine s_cons (wpAny_For (hit.use Kp.rfl fun v s₁ hv k₁ => iter_walks hA hv.1 fun I fp St s₂ k₂ W st hfp hI hfl _ => ?_) hs)
  have X₁ := X.keeps k₁
  have hIs : s.heap.get? I = none := by
    cases e : s.heap.get? I with
    | none => rfl
    | some o => have := keeps_kp k₁ _ _ e; rw [hI] at this; cases this
  have hI0 : s₀.heap.get? I = none := by
    cases e : s₀.heap.get? I with
    | none => rfl
    | some o => have := X₁.toInCall.keep _ _ e; rw [hI] at this; cases this
  have hIO : ¬ Own env I := by
    rintro (e | ⟨n, e⟩)
    · obtain ⟨o, es, ep, ho, _⟩ := X₁.toInCall.ns
      rw [← e, hI] at ho; cases ho
    · obtain ⟨o, ho, _⟩ := X₁.cell n I e
      rw [hI] at ho; cases ho
  have hID : ¬ D I := fun q => (hD I q).1 hIs
  have hfO : ∀ b ∈ fp, ¬ (Own env b ∨ D b) := by
    intro b hb
    by_cases e : b = I
    · rw [e]; exact fun q => q.elim hIO hID
    · obtain ⟨e1, its, hl1⟩ := hfl b hb e
      exact fun q => q.elim (X₁.offL hl1) (hv.2 b e1)
  refine codeAny_forLoop_any (fun n s' => ∃ i m₁ cm₁, n = ks.length + 1 - i ∧ i ≤ ks.length ∧ FS s₀ env m₁ cm₁ s' ∧ J i m₁ cm₁ s'.heap ∧ KpB (fun b => Own env b ∨ D b) s.heap s'.heap ∧ St i s'.heap) ?_ (ks.length + 1)
    ⟨0, m, cm, rfl, Nat.zero_le _, X₁.keeps k₂, hJs _ _ _ _ _ hJ0 (fun b o _ e => keeps_kp k₂ _ _ (keeps_kp k₁ _ _ e)), KpB.of ((keeps_kp k₁).trans (keeps_kp k₂)), st⟩
  rintro n s' ⟨i, m₁, cm₁, rfl, hi, X', hJ, kb, st'⟩
  by_cases hlt : i < ks.length
  · refine W.item i _ _ _ hlt st' fun v h₁ tk₁ hP st₁ hk₁ => ?_
    obtain ⟨k, t, hk1, rfl⟩ := hP
    have X₂ : FS s₀ env m₁ cm₁ { s' with heap := h₁, toks := tk₁ } := X'.but hIO hI0 hk₁
    refine wpAny_of_eq (show letOwnedTupleGo (.Name x px) (.ref I) (.int k t) = pure () from rfl) ?_
    refine wpAny_assign_Name (st_loc X₂ hk hl fun s₃ X₃ k₃ => ?_)
    have kb₁ : KpB (fun b => Own env b ∨ D b) s.heap h₁ := fun b o hb e => hk₁ b o (fun q => by rw [List.mem_singleton.mp q, hIs] at e; cases e) (kb b o hb e)
    have J₃ : J i m₁ cm₁ s₃.heap := hJs _ _ _ _ _ hJ fun b o hb e => k₃ b o (hD b hb).2 (hk₁ b o (fun q => hID (List.mem_singleton.mp q ▸ hb)) e)
    have st₃ : St (i + 1) s₃.heap := W.frame _ _ _ st₁ fun b hb o e => k₃ b o (fun q => hfO b hb (.inl q)) e
    refine wpAny_mono (turn i k t m₁ cm₁ s₃ hk1 J₃ X₃ (kb₁.trans (k₃.mono fun z q => .inl q))) (fun f s₄ q => ?_) fun _ _ e => e.elim
    obtain ⟨rfl, m₂, cm₂, X₄, k₄, J₄⟩ := q
    exact ⟨ks.length + 1 - (i + 1), by omega, i + 1, m₂, cm₂, rfl, hlt, X₄, J₄, (kb₁.trans (k₃.mono fun z q => .inl q)).trans k₄, W.frame _ _ _ st₃ fun b hb o e => k₄ b o (hfO b hb) e⟩
  · obtain rfl : i = ks.length := Nat.le_antisymm hi (Nat.not_lt.mp hlt)
    refine W.done _ _ _ st' fun h₁ tk₁ hk₁ => wpAny_execs_nil ?_
    refine ⟨rfl, done m₁ cm₁ _ (hJs _ _ _ _ _ hJ fun b o hb e => hk₁ b o (fun q => hID (List.mem_singleton.mp q ▸ hb)) e) (X'.but hIO hI0 hk₁) ?_⟩
    exact fun b o hb e => hk₁ b o (fun q => by rw [List.mem_singleton.mp q, hIs] at e; cases e) (kb b o hb e)

/-- a for that changes no list -/
theorem s_for {x : Str} {px pos : Pos} {iter : Expr} {body rest : List Stmt} {ks : List Int} {Q : Flow → Shared → Prop} (J : Nat → (Str → Option Value) → (Str → Option Value) → Prop) (hA : A.handled = none)
    (X : FS s₀ env m cm s) (hk : env.scope.kind = .function) (hl : env.kindOf x = some .local)
    (hit : EIt prog w A env s.heap iter ks) (hJ0 : J 0 m cm)
    (turn : ∀ i k t m₁ cm₁ s₁, ks[i]? = some k → J i m₁ cm₁ → FS s₀ env (upd m₁ x (.int k t)) cm₁ s₁ → KpB (Own env) s.heap s₁.heap →
      wpAny (model prog w) A (execs body env) (fun f s₂ => f = .next ∧ ∃ m₂ cm₂, FS s₀ env m₂ cm₂ s₂ ∧ KpB (Own env) s₁.heap s₂.heap ∧ J (i + 1) m₂ cm₂) no s₁)
    (done : ∀ m₁ cm₁ s₁, J ks.length m₁ cm₁ → FS s₀ env m₁ cm₁ s₁ → KpB (Own env) s.heap s₁.heap → wpAny (model prog w) A (execs rest env) Q no s₁)
    (hs : ∀ x, foldedSetIterable iter env x = pure x := by intro _; rfl) :
    wpAny (model prog w) A (execs (.For (.Name x px) iter body [] pos :: rest) env) Q no s := by
  have hO : ∀ {a b : Heap}, KpB (fun b => Own env b ∨ False) a b ↔ KpB (Own env) a b := by simp
  refine s_forD (fun _ => False) (fun i m cm _ => J i m cm) hA X hk hl (hit.mono fun v g _ r => ⟨r, fun _ _ q => q⟩) (fun _ q => q.elim) hJ0 (fun _ _ _ _ _ q _ => q) ?_ ?_ hs
  · intro i k t m₁ cm₁ s₁ hk1 hJ X₁ k₁
    refine wpAny_mono (turn i k t m₁ cm₁ s₁ hk1 hJ X₁ (hO.mp k₁)) (fun f s₂ q => ?_) fun _ _ e => e
    obtain ⟨e, m₂, cm₂, a, b, c⟩ := q
    exact ⟨e, m₂, cm₂, a, hO.mpr b, c⟩
  · intro m₁ cm₁ s₁ hJ X₁ k₁
    exact done m₁ cm₁ s₁ hJ X₁ (hO.mp k₁)

/-- the call of a def -/
theorem pu_def {a : Addr} {o : Obj} {fd : FuncData} {body : List Stmt} {vals : List Value} {binds : List (Str × Value)} {R : Value → Heap → Prop}
    (hroom : A.depth < recursionLimit) (ho : h.get? a = some o) (hdata : o.data = .func fd) (hlim : h.NoLimit) (hcd : h.CodeRec fd.code fd.qualname)
    (hbody : fd.body = .stmts body) (hbind : bindArgs fd ⟨vals, []⟩ = pure binds) (hclo : fd.closure = [])
    (hkind : ∀ L, ∀ x ∈ binds, fd.scope.names.lookup x.1 = some .local ∨ (fd.scope.names.lookup x.1 = some .cell ∧ ((cellsFrom (L + 1) fd.scope.names []).lookup x.1).isSome = true))
    (hb : ∀ (s s₁ : Shared), Kp h s.heap → FS s (callEnvC fd s.heap.objs.size a) (bindL (callEnvC fd s.heap.objs.size a).kindOf binds fun _ => none) (bindC (callEnvC fd s.heap.objs.size a).kindOf binds fun _ => none) s₁ →
      wpAny (model prog w) (A.deeper (callEnvC fd s.heap.objs.size a)) (execs body (callEnvC fd s.heap.objs.size a)) (fun f s' => ∃ v, f = .ret v ∧ R v s'.heap ∧ Keeps s s') no s₁)
    (hco : fd.scope.isCoroutine = false := by rfl) (hgen : fd.scope.isGenerator = false := by rfl) (hk : fd.scope.kind = .function := by rfl) :
    Pu prog w A h (call (.ref a) vals) R := Pu.mk fun s hs => by
  refine wpAny_call (codeAny_call_cells hroom (hs _ _ ho) hdata (hlim.keeps hs) ?_ hbody hbind hclo (hkind _) (fun s₁ X => ?_) hco hgen hk)
  · obtain ⟨c, oc, vs, tq, e1, e2, e3⟩ := hcd
    exact ⟨c, oc, vs, tq, e1, hs _ _ e2, e3⟩
  · refine wpAny_mono (hb s s₁ hs X) (fun f s' q => ?_) fun _ _ e => e.elim
    obtain ⟨v, rfl, r, k⟩ := q
    exact ⟨r, k⟩
end
end Mine

-- Fw5
namespace Mine

/-- an element: an int, or a new list of ints -/
inductive Cl where
  | int (n : Int)
  | lst (ns : List Int)
def IsNew (hb : Heap) : Cl → Value → Heap → Prop
  | .int n, y, _ => ∃ t, y = .int n t
  | .lst ns, y, g => ∃ a vs, y = .ref a ∧ hb.get? a = none ∧ g.IsList a (List.toArray vs) ∧ IntsAre vs ns
def IsEl (D : Addr) : Cl → Value → Heap → Prop
  | .int n, y, _ => ∃ t, y = .int n t
  | .lst ns, y, g => ∃ a vs, y = .ref a ∧ a ≠ D ∧ g.IsList a (List.toArray vs) ∧ IntsAre vs ns
theorem IsEl.of {hb g : Heap} {D : Addr} {z : Cl} {y : Value} (x : IsNew hb z y g) (hD : hb.get? D ≠ none) : IsEl D z y g := by
  cases z with
  | int n => exact x
  | lst ns =>
    obtain ⟨a, vs, e, ha, r⟩ := x
    exact ⟨a, vs, e, fun q => hD (q ▸ ha), r⟩
theorem IsEl.stays {g g' : Heap} {D : Addr} {z : Cl} {y : Value} (x : IsEl D z y g) {O : Addr → Prop} (k : KpB O g g') (hO : ∀ b, O b → b = D ∨ ∀ its, ¬ g.IsList b its) : IsEl D z y g' := by
  cases z with
  | int n => exact x
  | lst ns =>
    obtain ⟨a, vs, e, ha, l, i⟩ := x
    refine ⟨a, vs, e, ha, l.at fun o eo => k _ _ (fun q => ?_) eo, i⟩
    rcases hO a q with q | q
    · exact ha q
    · exact q _ l
theorem paired_imp {α β : Type} {F G : α → β → Prop} (hfg : ∀ a b, F a b → G a b) : ∀ {l : List α} {l' : List β}, Paired F l l' → Paired G l l'
  | _, _, .nil => .nil
  | _, _, .cons a r => .cons (hfg _ _ a) (paired_imp hfg r)
abbrev Same (s s' : Shared) : Prop := ∃ h tk, s' = { s with heap := h, toks := tk }
theorem Same.trans {a b c : Shared} (x : Same a b) (y : Same b c) : Same a c := by
  obtain ⟨_, _, rfl⟩ := x
  obtain ⟨h, t, rfl⟩ := y
  exact ⟨h, t, rfl⟩
theorem keeps_same {a b : Shared} (x : Keeps a b) : Same a b := let ⟨h, t, e, _⟩ := x; ⟨h, t, e⟩

abbrev testsOf (ifs : List Expr) (env : Env) : Sem Bool := forIn ifs true fun c r => if r = true then do let ok ← isTrue c env (eval c env); pure (ForInStep.yield ok) else pure (ForInStep.yield r)
abbrev LoopRule (prog : Program) (w : World) (A : Around) (e : Expr) (depth : Nat) (target : Expr) (ifs : List Expr) (elt : Expr) (it acc : Value) (cenv : Env) : Prop :=
  ∀ (R : Result → Shared → Prop) (Iv : Nat → Shared → Prop),
    (∀ n s, Iv n s → wpAny (model prog w) A (pyNext it) (fun r s₁ => match r with
      | none => R (.ok .next) s₁
      | some v => wpAny (model prog w) A (assign target cenv v) (fun _ s₂ => wpAny (model prog w) A (testsOf ifs cenv) (fun ok s₃ =>
          if ok = true then wpAny (model prog w) A (eval elt cenv) (fun x s₄ => wpAny (model prog w) A (call (.builtin "list.append") [acc, x]) (fun _ s₅ => ∃ m, m < n ∧ Iv m s₅) no s₄) no s₃
          else ∃ m, m < n ∧ Iv m s₃) no s₂) no s₁) no s) → ∀ n s, Iv n s → codeAny (model prog w) A (.compLoop e depth it acc cenv) R s

section
variable {prog : Program} {w : World} {A : Around} {env : Env}
theorem loop_one {elt iter : Expr} {x : Str} {px : Pos} {ifs : List Expr} {scope : Scope} {pos : Pos} {it acc : Value} {cenv : Env} : LoopRule prog w A (.ListComp elt [⟨.Name x px, iter, ifs, 0⟩] scope pos) 0 (.Name x px) ifs elt it acc cenv := by
  intro R Iv turn n s hI
  refine codeAny_compLoop_tests Iv (fun n s hI => wpAny_mono (turn n s hI) (fun r s₁ hr => ?_) fun _ _ e => e.elim) n hI
  cases r with
  | none => exact hr
  | some v =>
    refine wpAny_mono hr (fun _ s₂ h₂ => wpAny_mono h₂ (fun ok s₃ h₃ => ?_) fun _ _ e => e.elim) fun _ _ e => e.elim
    cases ok with
    | false => exact h₃
    | true => exact wpAny_mono h₃ (fun y s₄ h₄ => wpAny_mono h₄ (fun _ s₅ h₅ => h₅) fun _ _ e => e.elim) fun _ _ e => e.elim

theorem compTurn_two1 (elt iter iter2 : Expr) (x y : Str) (px py : Pos) (ifs2 : List Expr) (scope : Scope) (pos : Pos) (it acc : Value) (env : Env) :
    compTurn (.ListComp elt [⟨.Name x px, iter, [], 0⟩, ⟨.Name y py, iter2, ifs2, 0⟩] scope pos) 1 it acc env = (do
      standAt iter2.pos
      match ← pyNext it with
      | none => pure (.done .next)
      | some v =>
        letOwnedTupleGo (.Name y py) it v
        assign (.Name y py) env v
        let mut ok := true
        for c in ifs2 do
          if ok then ok ← isTrue c env (eval c env)
        if ok then
          (do let _ ← call (.builtin "list.append") [acc, ← eval elt env])
        again (.compLoop (.ListComp elt [⟨.Name x px, iter, [], 0⟩, ⟨.Name y py, iter2, ifs2, 0⟩] scope pos) 1 it acc env)) := by rfl
theorem compTurn_two0 (elt iter iter2 : Expr) (x y : Str) (px py : Pos) (ifs2 : List Expr) (scope : Scope) (pos : Pos) (it acc : Value) (env : Env) :
    compTurn (.ListComp elt [⟨.Name x px, iter, [], 0⟩, ⟨.Name y py, iter2, ifs2, 0⟩] scope pos) 0 it acc env = (do
      standAt iter.pos
      match ← pyNext it with
      | none => pure (.done .next)
      | some v =>
        letOwnedTupleGo (.Name x px) it v
        assign (.Name x px) env v
        let x1 ← eval iter2 env
        standAt iter2.pos
        let x1 ← foldedSetIterable iter2 env x1
        let _ ← runOwn (.compStart (.ListComp elt [⟨.Name x px, iter, [], 0⟩, ⟨.Name y py, iter2, ifs2, 0⟩] scope pos) 1 (← holding [x1] (pyIter x1)) acc env) env
        again (.compLoop (.ListComp elt [⟨.Name x px, iter, [], 0⟩, ⟨.Name y py, iter2, ifs2, 0⟩] scope pos) 0 it acc env)) := by rfl

theorem loop_two {elt iter iter2 : Expr} {x y : Str} {px py : Pos} {ifs2 : List Expr} {scope : Scope} {pos : Pos} {it acc : Value} {cenv : Env} :
    LoopRule prog w A (.ListComp elt [⟨.Name x px, iter, [], 0⟩, ⟨.Name y py, iter2, ifs2, 0⟩] scope pos) 1 (.Name y py) ifs2 elt it acc cenv := by
  intro R Iv turn n s hI
  refine codeAny_loop rfl Iv (fun n s hI => ?_) n hI
  show wpAny _ A ((compTurn (.ListComp elt [⟨.Name x px, iter, [], 0⟩, ⟨.Name y py, iter2, ifs2, 0⟩] scope pos) 1 it acc cenv).onRaise (fun x => do noteFrame x cenv; theTreesLotGoes x)) _ _ s
  refine wpAny_noted ?_
  rw [compTurn_two1]
  refine wpAny_mono (E := no) ?_ (fun _ _ q => q) fun _ _ e => e.elim
  refine wpAny_bind (wpAny_standAt (wpAny_bind (wpAny_mono (turn n s hI) (fun r s₁ h₁ => ?_) fun _ _ h' => h')))
  cases r with
  | none => exact wpAny_pure h₁
  | some v =>
    refine wpAny_bind (wpAny_of_eq (show letOwnedTupleGo (.Name y py) it v = pure () from rfl) ?_)
    refine wpAny_bind (wpAny_mono h₁ (fun _ s₂ h₂ => wpAny_bind (wpAny_mono h₂ (fun ok s₃ h₃ => ?_) fun _ _ h' => h')) fun _ _ h' => h')
    cases ok with
    | false => exact wpAny_pure ⟨rfl, h₃⟩
    | true =>
      exact wpAny_bind (wpAny_bind (wpAny_mono h₃ (fun x s₄ h₄ => wpAny_bind (wpAny_mono h₄ (fun _ s₅ h₅ => wpAny_pure (wpAny_pure ⟨rfl, h₅⟩)) fun _ _ h' => h')) fun _ _ h' => h'))

theorem emit_loop {e : Expr} {depth : Nat} {target elt : Expr} {ifs : List Expr} {I D : Addr} {cenv : Env} {fp : List Addr} {ks : List Int} {St : Nat → Heap → Prop} {R : Result → Shared → Prop} {s : Shared} {h : Heap}
    (LR : LoopRule prog w A e depth target ifs elt (.ref I) (.ref D) cenv) (W : Walks prog w A I fp [I] ks.length (PI ks) St) (hnl : ∀ i g, St i g → ∀ its, ¬ g.IsList I its)
    (OC : Addr → Prop) (Base : Heap → Prop) (TV : Value → Heap → Prop)
    (hBs : ∀ g g', Base g → (∀ b o, OC b → g.get? b = some o → g'.get? b = some o) → Base g')
    (hTs : ∀ v g g', TV v g → (∀ b o, OC b → g.get? b = some o → g'.get? b = some o) → TV v g')
    (hOL : ∀ g, Base g → ∀ b, OC b → ∀ its, ¬ g.IsList b its)
    (hst : ∀ v s, Base s.heap → wpAny (model prog w) A (assign target cenv v) (fun _ s' => TV v s'.heap ∧ Base s'.heap ∧ KpB OC s.heap s'.heap ∧ Same s s') no s)
    (hDC : ¬ OC D) (hDf : D ∉ fp) (hCf : ∀ b ∈ fp, ¬ OC b) (p : Int → Bool) (f : Int → Cl)
    (hfree : ∀ b, (b = D ∨ b = I ∨ OC b) → h.get? b = none) (hh : Kp h s.heap)
    (tests : ∀ k t g, k ∈ ks → Kp h g → TV (.int k t) g → Pu prog w A g (testsOf ifs cenv) (fun ok _ => ok = p k))
    (els : ∀ k t g, k ∈ ks → p k = true → Kp h g → TV (.int k t) g → Pu prog w A g (eval elt cenv) (IsNew g (f k)))
    (hst0 : St 0 s.heap) (hB0 : Base s.heap) (zs : List Cl) (ys : List Value) (hD : s.heap.PlainList D ys.toArray) (hP : Paired (fun z y => IsEl D z y s.heap) zs ys) (hsz : zs.length + ks.length ≤ sizeLine)
    (done : ∀ h' tk ys', Base h' → Kp h h' → h'.PlainList D (List.toArray ys') → Paired (fun z y => IsEl D z y h') (zs ++ (ks.filter p).map f) ys' → KpB (fun b => b = D ∨ b = I ∨ OC b) s.heap h' → R (.ok .next) { s with heap := h', toks := tk }) :
    codeAny (model prog w) A (.compLoop e depth (.ref I) (.ref D) cenv) R s := by
  have hIf : I ∈ fp := W.sub I (List.mem_singleton.mpr rfl)
  have hDI : D ≠ I := fun q => hDf (q ▸ hIf)
  have hIC : ¬ OC I := hCf I hIf
  refine LR R (fun n s' => ∃ i h₁ tk ys₁, n = ks.length + 1 - i ∧ i ≤ ks.length ∧ s' = { s with heap := h₁, toks := tk } ∧ St i h₁ ∧ Base h₁ ∧ Kp h h₁ ∧ h₁.PlainList D (List.toArray ys₁) ∧
    Paired (fun z y => IsEl D z y h₁) (zs ++ ((ks.take i).filter p).map f) ys₁ ∧ KpB (fun b => b = D ∨ b = I ∨ OC b) s.heap h₁) ?_ (ks.length + 1) s
    ⟨0, s.heap, s.toks, ys, rfl, Nat.zero_le _, rfl, hst0, hB0, hh, hD, by simpa using hP, KpB.of Kp.rfl⟩
  rintro n s' ⟨i, h₁, tk, ys₁, rfl, hi, rfl, st, hB, hk, hD₁, hP₁, kb⟩
  by_cases hlt : i < ks.length
  · refine W.item i _ _ _ hlt st fun v h₂ tk₂ hv st₂ hk₂ => ?_
    obtain ⟨k, t, hki, rfl⟩ := hv
    have hkm : k ∈ ks := List.mem_of_getElem? hki
    have kp₂ : Kp h h₂ := fun b o eo => hk₂ b o (fun q => by rw [List.mem_singleton.mp q, hfree I (.inr (.inl rfl))] at eo; cases eo) (hk b o eo)
    have B₂ : Base h₂ := hBs _ _ hB fun b o hb eo => hk₂ b o (fun q => hIC (List.mem_singleton.mp q ▸ hb)) eo
    have kb₂ : KpB (fun b => b = I) h₁ h₂ := fun b o hb eo => hk₂ b o (fun q => hb (List.mem_singleton.mp q)) eo
    have P₂ : Paired (fun z y => IsEl D z y h₂) (zs ++ ((ks.take i).filter p).map f) ys₁ := paired_imp (fun z y q => q.stays kb₂ fun b hb => .inr (hb ▸ hnl _ _ st)) hP₁
    have D₂ : h₂.PlainList D (List.toArray ys₁) := hD₁.at fun o eo => kb₂ _ _ hDI eo
    refine wpAny_mono (hst (.int k t) _ B₂) (fun _ s₃ q => ?_) fun _ _ e => e
    obtain ⟨T₃, B₃, k₃, h₃, tk₃, rfl⟩ := q
    have kp₃ : Kp h h₃ := fun b o eo => k₃ b o (fun q => by rw [hfree b (.inr (.inr q))] at eo; cases eo) (kp₂ b o eo)
    have st₃ : St (i + 1) h₃ := W.frame _ _ _ st₂ fun b hb o eo => k₃ b o (hCf b hb) eo
    have P₃ : Paired (fun z y => IsEl D z y h₃) (zs ++ ((ks.take i).filter p).map f) ys₁ := paired_imp (fun z y q => q.stays k₃ fun b hb => .inr (hOL _ B₂ b hb)) P₂
    have D₃ : h₃.PlainList D (List.toArray ys₁) := D₂.at fun o eo => k₃ _ _ hDC eo
    have kb₃ : KpB (fun b => b = D ∨ b = I ∨ OC b) s.heap h₃ := kb.trans ((kb₂.mono fun z q => .inr (.inl q)).trans (k₃.mono fun z q => .inr (.inr q)))
    have htake : ((ks.take (i + 1)).filter p) = (ks.take i).filter p ++ (if p k then [k] else []) := take_succ_filter p ks i k hki
    refine (tests k t h₃ hkm kp₃ T₃).use Kp.rfl fun ok s₄ hok k₄ => ?_
    subst hok
    obtain ⟨h₄, tk₄, rfl, kk₄⟩ := k₄
    have T₄ : TV (.int k t) h₄ := hTs _ _ _ T₃ fun b o _ eo => kk₄ b o eo
    have B₄ : Base h₄ := hBs _ _ B₃ fun b o _ eo => kk₄ b o eo
    have P₄ : Paired (fun z y => IsEl D z y h₄) (zs ++ ((ks.take i).filter p).map f) ys₁ := paired_imp (fun z y q => q.stays (O := fun _ => False) (KpB.of kk₄) fun b hb => hb.elim) P₃
    have st₄ : St (i + 1) h₄ := W.frame _ _ _ st₃ fun b _ o eo => kk₄ b o eo
    cases hpk : p k with
    | false =>
      simp only [Bool.false_eq_true, if_false]
      refine ⟨ks.length + 1 - (i + 1), by omega, i + 1, h₄, tk₄, ys₁, rfl, hlt, rfl, st₄, B₄, kp₃.trans kk₄, D₃.at fun o eo => kk₄ _ _ eo, ?_, kb₃.trans (KpB.of kk₄)⟩
      rw [htake, hpk]
      simpa using P₄
    | true =>
      simp only [if_true]
      refine (els k t h₄ hkm hpk (kp₃.trans kk₄) T₄).use Kp.rfl fun y s₅ hy k₅ => ?_
      obtain ⟨h₅, tk₅, rfl, kk₅⟩ := k₅
      have D₅ : h₅.PlainList D (List.toArray ys₁) := D₃.at fun o eo => kk₅ _ _ (kk₄ _ _ eo)
      have hD4 : h₄.get? D ≠ none := by
        obtain ⟨n, eD⟩ := D₃
        rw [kk₄ _ _ eD]; exact Option.some_ne_none _
      have E₅ : IsEl D (f k) y h₅ := IsEl.of hy hD4
      have P₅ : Paired (fun z y => IsEl D z y h₅) (zs ++ ((ks.take i).filter p).map f) ys₁ := paired_imp (fun z y q => q.stays (O := fun _ => False) (KpB.of kk₅) fun b hb => hb.elim) P₄
      have hlen : ys₁.toArray.size ≤ sizeLine := by
        have e1 := P₅.length
        have e2 : ((ks.take i).filter p).length ≤ (ks.take i).length := List.length_filter_le _ _
        have e3 : (ks.take i).length ≤ ks.length := by rw [List.length_take]; omega
        rw [List.length_append, List.length_map] at e1
        rw [List.size_toArray]
        omega
      refine wpAny_list_append_plain (hsz := hlen) D₅ fun h₆ D₆ k₆ => ?_
      have kb₆ : KpB (fun b => b = D) h₅ h₆ := fun b o hb eo => k₆.extBut b o hb eo
      refine ⟨ks.length + 1 - (i + 1), by omega, i + 1, h₆, tk₅, ys₁ ++ [y], rfl, hlt, rfl, W.frame _ _ _ st₄ fun b hb o eo => kb₆ b o (fun q => hDf (q ▸ hb)) (kk₅ _ _ eo), hBs _ _ B₄ fun b o hb eo => kb₆ b o (fun q => hDC (q ▸ hb)) (kk₅ _ _ eo),
        fun b o eo => kb₆ b o (fun q => by rw [q, hfree D (.inl rfl)] at eo; cases eo) (kk₅ _ _ (kk₄ _ _ (kp₃ _ _ eo))), ?_, ?_, kb₃.trans ((KpB.of (Kp.trans kk₄ kk₅)).trans (kb₆.mono fun z q => .inl q))⟩
      · rw [← List.push_toArray]
        exact D₆
      · rw [htake, hpk]
        simp only [if_true, List.map_append, List.map_cons, List.map_nil]
        rw [← List.append_assoc]
        exact Paired.snoc (paired_imp (fun z y q => q.stays kb₆ fun b hb => .inl hb) P₅) (E₅.stays kb₆ fun b hb => .inl hb)
  · obtain rfl : i = ks.length := Nat.le_antisymm hi (Nat.not_lt.mp hlt)
    refine W.done _ _ _ st fun h₂ tk₂ hk₂ => ?_
    have kb₂ : KpB (fun b => b = I) h₁ h₂ := fun b o hb eo => hk₂ b o (fun q => hb (List.mem_singleton.mp q)) eo
    rw [List.take_length] at hP₁
    exact done h₂ tk₂ ys₁ (hBs _ _ hB fun b o hb eo => kb₂ b o (fun q => hIC (q ▸ hb)) eo) (fun b o eo => kb₂ b o (fun q => by rw [q, hfree I (.inr (.inl rfl))] at eo; cases eo) (hk b o eo))
      (hD₁.at fun o eo => kb₂ _ _ hDI eo) (paired_imp (fun z y q => q.stays kb₂ fun b hb => .inr (hb ▸ hnl _ _ st)) hP₁) (kb.trans (kb₂.mono fun z q => .inr (.inl q)))
end
end Mine

-- Fw6
namespace Mine
section
variable {prog : Program} {w : World} {A : Around} {env : Env}

theorem new_env {M : Model} {E : Value → Shared → Prop} {scope : Scope} {cl : List (Str × Addr)} {s : Shared} {Q : Env → Shared → Prop}
    (hQ : Q { scope := scope, locals := s.heap.objs.size, globals := env.globals, cells := cellsFrom (s.heap.objs.size + 1) scope.names cl, qual := env.qual, func := none, code := env.code, frame := env.frame, builtins := env.builtins }
      { s with heap := pushCells (s.heap.push { cls := .type "dict", data := .dict #[] }) scope.names }) :
    wpAny M A (newFunctionEnv scope env.globals cl [] env.qual none .none (some env)) Q E s := by
  simp only [newFunctionEnv, Option.isSome_some, if_true]
  refine wpAny_bind (wpAny_alloc ?_)
  refine wpAny_bind (wpAny_layCells _ (fun name kind cells => by cases hkc : kind == NameKind.cell <;> simp [hkc]) _ _ _ _ ?_)
  rw [show ({ s with heap := s.heap.push { cls := .type "dict", data := .dict #[] } } : Shared).heap.objs.size = s.heap.objs.size + 1 from Heap.size_push ..]
  simp only [List.forIn_nil]
  exact wpAny_bind (wpAny_pure (wpAny_pure hQ))

/-- the heap behind the block's head -/
def blockHeap (g : Heap) (scope : Scope) : Heap := pushCells ((g.push { cls := .type "list", dict := none, data := .seq ([] : List Value).toArray }).push { cls := .type "dict", data := .dict #[] }) scope.names
structure LoopOk (prog : Program) (w : World) (A : Around) (env : Env) (e : Expr) (scope : Scope) (cl : List (Str × Addr)) (h : Heap) (ks : List Int) (zs : List Cl) : Prop where
  run : ∀ (s₂ : Shared) (hb : Heap) (I : Addr) (fp : List Addr) (St : Nat → Heap → Prop) (R : Result → Shared → Prop), Kp h hb → Kp hb s₂.heap → Walks prog w A I fp [I] ks.length (PI ks) St → St 0 s₂.heap → (∀ b ∈ fp, b < s₂.heap.objs.size) → hb.get? I = none →
    (∀ i g, St i g → ∀ its, ¬ g.IsList I its) →
    (∀ h' tk ys m', Kp hb h' → h'.Ns (s₂.heap.objs.size + 1) m' → h'.PlainList s₂.heap.objs.size (List.toArray ys) → Paired (fun z y => IsEl s₂.heap.objs.size z y h') zs ys → R (.ok .next) { s₂ with heap := h', toks := tk }) →
    codeAny (model prog w) A (.compLoop e 0 (.ref I) (.ref s₂.heap.objs.size) (compEnvC scope (cellsFrom (s₂.heap.objs.size + 2) scope.names cl) (s₂.heap.objs.size + 1) env)) R { s₂ with heap := blockHeap s₂.heap scope }

theorem comp_core {elt target iter : Expr} {ifs : List Expr} {rest : List Comprehension} {scope : Scope} {cl : List (Str × Addr)} {ks : List Int} {zs : List Cl} {use : Option (Value → Sem Unit)} {Q : Value → Shared → Prop} {s : Shared} {pos pos' : Pos} (hA : A.handled = none)
    (hclos : closureFor scope env = pure cl) (hkind : scope.kind = .function) (hnames : ∀ x ∈ scope.names, x.2 = .local → scope.names.lookup x.1 = some .local) (hit : EIt prog w A env s.heap iter ks)
    (loop : LoopOk prog w A env (.ListComp elt (⟨target, iter, ifs, 0⟩ :: rest) scope pos') scope cl s.heap ks zs)
    (hQ : ∀ D C h' tk ys m', s.heap.get? D = none → s.heap.get? C = none → C ≠ D → Kp s.heap h' → h'.Ns C m' → h'.PlainList D (List.toArray ys) → Paired (fun z y => IsEl D z y h') zs ys →
      compPost (model prog w) A no use Q (.ref D) C (.ok .next) { s with heap := h', toks := tk })
    (hs : ∀ x, foldedSetIterable iter env x = pure x := by intro _; rfl) :
    wpAny (model prog w) A (comprehension (.ListComp elt (⟨target, iter, ifs, 0⟩ :: rest) scope pos') scope env pos (newList []) false (eval iter env) use) Q no s := by
  refine wpAny_comprehension_free (g := ⟨target, iter, ifs, 0⟩) rfl hs hclos hkind hnames (hit.use Kp.rfl fun v s₁ hv k₁ => iter_walks hA hv fun I fp St s₂ k₂ W st hfp hI hfl hnl => ?_)
  refine wpAny_newObj_type (new_env ?_) (by size_fits)
  have hC : (s₂.heap.push { cls := .type "list", dict := none, data := .seq ([] : List Value).toArray }).objs.size = s₂.heap.objs.size + 1 := Heap.size_push ..
  have hI' := W.self
  show codeAny _ _ (.compStart _ 0 (.ref I) (.ref s₂.heap.objs.size) _) _ _
  have key : ∀ R, (∀ h' tk ys m', Kp s₁.heap h' → h'.Ns (s₂.heap.objs.size + 1) m' → h'.PlainList s₂.heap.objs.size (List.toArray ys) → Paired (fun z y => IsEl s₂.heap.objs.size z y h') zs ys → R (.ok .next) { s₂ with heap := h', toks := tk }) →
      codeAny (model prog w) A (.compLoop (.ListComp elt (⟨target, iter, ifs, 0⟩ :: rest) scope pos') 0 (.ref I) (.ref s₂.heap.objs.size) (compEnvC scope (cellsFrom (s₂.heap.objs.size + 2) scope.names cl) (s₂.heap.objs.size + 1) env)) R { s₂ with heap := blockHeap s₂.heap scope } :=
    fun R hR => loop.run s₂ s₁.heap I fp St R (keeps_kp k₁) (keeps_kp k₂) W st hfp hI hnl hR
  have old : ∀ b o, s₂.heap.get? b = some o → (blockHeap s₂.heap scope).get? b = some o := fun b o e => pushCells_keeps _ _ _ _ (Heap.get?_push_of_some _ (Heap.get?_push_of_some _ e))
  have fin : ∀ h' tk ys m', Kp s₁.heap h' → h'.Ns (s₂.heap.objs.size + 1) m' → h'.PlainList s₂.heap.objs.size (List.toArray ys) → Paired (fun z y => IsEl s₂.heap.objs.size z y h') zs ys →
      compPost (model prog w) A no use Q (.ref s₂.heap.objs.size) (s₂.heap.objs.size + 1) (.ok .next) { s₂ with heap := h', toks := tk } := by
    intro h' tk ys m' kk hn hpl hP
    have gone : ∀ a, s₂.heap.objs.size ≤ a → s.heap.get? a = none := fun a ha => by
      cases e : s.heap.get? a with
      | none => rfl
      | some o => exact absurd (Heap.lt_size (keeps_kp k₂ _ _ (keeps_kp k₁ _ _ e))) (Nat.not_lt.mpr ha)
    have := hQ s₂.heap.objs.size (s₂.heap.objs.size + 1) h' tk ys m' (gone _ (Nat.le_refl _)) (gone _ (Nat.le_succ _)) (Nat.succ_ne_self _) ((keeps_kp k₁).trans kk) hn hpl hP
    obtain ⟨_, _, rfl, _⟩ := k₁
    obtain ⟨_, _, rfl, _⟩ := k₂
    exact this
  rw [hC]
  exact codeAny_compStart_list (key _ fin) (W.self 0 _ _ _ (W.frame _ _ _ st fun b _ o e => old b o e) (key _ fin))

/-- lists of elements -/
abbrev IsCL (zs : List Cl) : Value → Heap → Prop := fun v g => ∃ a vs, v = .ref a ∧ g.PlainList a (List.toArray vs) ∧ Paired (fun z y => IsEl a z y g) zs vs
theorem isCL_ints {ns : List Int} {v : Value} {g : Heap} (x : IsCL (ns.map .int) v g) : IsL ns v g := by
  obtain ⟨a, vs, rfl, hl, hp⟩ := x
  refine ⟨a, vs, rfl, hl.isList, ?_⟩
  clear hl
  induction ns generalizing vs with
  | nil => cases hp; exact .nil
  | cons n r ih =>
    cases hp with
    | cons h1 h2 =>
      obtain ⟨t, rfl⟩ := h1
      exact .cons n t (ih _ h2)
theorem pu_comp {elt target iter : Expr} {ifs : List Expr} {rest : List Comprehension} {scope : Scope} {cl : List (Str × Addr)} {ks : List Int} {zs : List Cl} {pos : Pos} {h : Heap} (hA : A.handled = none)
    (hclos : closureFor scope env = pure cl) (hkind : scope.kind = .function) (hnames : ∀ x ∈ scope.names, x.2 = .local → scope.names.lookup x.1 = some .local) (hit : EIt prog w A env h iter ks)
    (loop : LoopOk prog w A env (.ListComp elt (⟨target, iter, ifs, 0⟩ :: rest) scope pos) scope cl h ks zs) (hs : ∀ x, foldedSetIterable iter env x = pure x := by intro _; rfl) :
    Pu prog w A h (eval (.ListComp elt (⟨target, iter, ifs, 0⟩ :: rest) scope pos) env) (fun v g => IsCL zs v g ∧ ∀ a, v = .ref a → h.get? a = none) := Pu.mk fun s hk => by
  rw [eval_ListComp]
  refine comp_core (use := none) (zs := zs) hA hclos hkind hnames (hit.up hk) ⟨fun s₂ hb I fp St R k => loop.run s₂ hb I fp St R (hk.trans k)⟩ ?_ hs
  intro D C h' tk ys m' hD hC hCD kk hn hpl hP
  refine ⟨m', hn, fun h'' hs'' => ?_⟩
  have kb : KpB (fun b => b = C) h' h'' := fun b o hb e => hs''.extBut b o hb e
  refine ⟨⟨⟨D, ys, rfl, hpl.extBut hs''.extBut (Ne.symm hCD), paired_imp (fun z y q => q.stays kb fun b hb => .inr ?_) hP⟩, ?_⟩, ⟨h'', tk, rfl, fun b o e => kb b o (fun q => by rw [q, hC] at e; cases e) (kk b o e)⟩⟩
  · intro a e
    cases e
    cases q : h.get? D with
    | none => rfl
    | some o => have := hk _ _ q; rw [hD] at this; cases this
  · rintro its ⟨o', e', _, j, ed'⟩
    obtain ⟨o, es, ep, e, ed, _⟩ := hn
    rw [hb, e] at e'; cases e'; rw [ed] at ed'; cases ed'
theorem s_assignComp {x : Str} {px cpos spos : Pos} {elt target iter : Expr} {ifs : List Expr} {rest : List Comprehension} {scope : Scope} {cl : List (Str × Addr)} {ks : List Int} {zs : List Cl} {more : List Stmt} {Q : Flow → Shared → Prop} {s₀ s : Shared} {m cm : Str → Option Value}
    (hA : A.handled = none) (X : FS s₀ env m cm s) (hk : env.scope.kind = .function) (hl : env.kindOf x = some .local)
    (hclos : closureFor scope env = pure cl) (hkind : scope.kind = .function) (hnames : ∀ x ∈ scope.names, x.2 = .local → scope.names.lookup x.1 = some .local) (hit : EIt prog w A env s.heap iter ks)
    (loop : LoopOk prog w A env (.ListComp elt (⟨target, iter, ifs, 0⟩ :: rest) scope cpos) scope cl s.heap ks zs)
    (k : ∀ v s₂, IsCL zs v s₂.heap → (∀ a, v = .ref a → s.heap.get? a = none) → KpB (Own env) s.heap s₂.heap → FS s₀ env (upd m x v) cm s₂ → wpAny (model prog w) A (execs more env) Q no s₂)
    (hsw : swapsWith (.ListComp elt (⟨target, iter, ifs, 0⟩ :: rest) scope cpos) (some (.Name x px)) spos.line env = pure true := by rfl) (hs : ∀ x, foldedSetIterable iter env x = pure x := by intro _; rfl) :
    wpAny (model prog w) A (execs (.Assign [.Name x px] (.ListComp elt (⟨target, iter, ifs, 0⟩ :: rest) scope cpos) spos :: more) env) Q no s := by
  refine s_cons ?_
  rw [exec_Assign_Name_used _ _ _ _ hsw]
  refine wpAny_bind (wpAny_standAt (wpAny_bind ?_))
  show wpAny _ A (do let _ ← comprehension (.ListComp elt (⟨target, iter, ifs, 0⟩ :: rest) scope cpos) scope env _ (newList []) false (eval iter env) (some (assign (.Name x px) env))) _ _ s
  refine wpAny_bind (wpAny_mono (comp_core (use := some (assign (.Name x px) env)) (Q := fun _ s' => (Flow.next = .next ∧ wpAny (model prog w) A (execs more env) Q no s')) (zs := zs) hA hclos hkind hnames hit loop ?_ hs) (fun _ s' hq => wpAny_pure (wpAny_pure hq)) fun _ _ e => e)
  intro D C h' tk ys m' hD hC hCD kk hn hpl hP
  have X' : FS s₀ env m cm { s with heap := h', toks := tk } := X.keeps ⟨h', tk, rfl, kk⟩
  show wpAny _ A (assign (.Name x px) env (.ref D)) _ _ _
  refine wpAny_assign_Name (st_loc X' hk hl fun s₂ X₂ k₂ => ?_)
  have hCO : ¬ Own env C := by
    rintro (e | ⟨n, e⟩)
    · obtain ⟨o, es, ep, ho, _⟩ := X.toInCall.ns
      rw [← e, hC] at ho; cases ho
    · obtain ⟨o, ho, _⟩ := X.cell n C e
      rw [hC] at ho; cases ho
  have hC0 : s₀.heap.get? C = none := by
    cases e : s₀.heap.get? C with
    | none => rfl
    | some o => have := X.toInCall.keep _ _ e; rw [hC] at this; cases this
  have hn₂ : s₂.heap.Ns C m' := hn.at' fun o e => k₂ _ _ hCO e
  refine ⟨m', hn₂, fun h₃ hs₃ => ⟨rfl, ?_⟩⟩
  have kb : KpB (fun b => b = C) s₂.heap h₃ := fun b o hb e => hs₃.extBut b o hb e
  have hpl₂ : s₂.heap.PlainList D (List.toArray ys) := hpl.at fun o e => k₂ _ _ (X'.offL hpl.isList) e
  have notL : ∀ (g : Heap) m'', g.Ns C m'' → ∀ its, ¬ g.IsList C its := by
    rintro g m'' hg its ⟨o', e', _, j, ed'⟩
    obtain ⟨o, es, ep, e, ed, _⟩ := hg
    rw [e] at e'; cases e'; rw [ed] at ed'; cases ed'
  have hOwnL : ∀ b, Own env b → ∀ its, ¬ h'.IsList b its := fun b hb its hl => X'.offL hl hb
  refine k (.ref D) { s₂ with heap := h₃ } ⟨D, ys, rfl, hpl₂.extBut hs₃.extBut (Ne.symm hCD), ?_⟩ (fun a e => by cases e; exact hD) ?_ ?_
  · exact paired_imp (fun z y q => (q.stays k₂ fun b hb => .inr (hOwnL b hb)).stays kb fun b hb => .inr (hb ▸ notL _ _ hn₂)) hP
  · exact fun b o hb e => kb b o (fun q => by rw [q, hC] at e; cases e) (k₂ b o hb (kk b o e))
  · have := X₂.but (It := C) (g := h₃) (tk := s₂.toks) hCO hC0 (fun b o hb e => kb b o (fun q => hb (List.mem_singleton.mpr q)) e)
    exact this
end
end Mine

-- Fw7
namespace Mine
section
variable {prog : Program} {w : World} {A : Around} {env : Env}

theorem cellsFrom_none : ∀ {names : List (Str × NameKind)} (n : Nat) (cl : List (Str × Addr)), (∀ y ∈ names, y.2 ≠ .cell) → cellsFrom n names cl = cl
  | [], _, _, _ => rfl
  | (y, k) :: r, n, cl, hc => by
    have : (k == NameKind.cell) = false := by simpa using hc (y, k) List.mem_cons_self
    unfold cellsFrom
    rw [this]
    exact cellsFrom_none n cl fun z hz => hc z (List.mem_cons_of_mem _ hz)
theorem pushCells_none : ∀ {names : List (Str × NameKind)} (g : Heap), (∀ y ∈ names, y.2 ≠ .cell) → pushCells g names = g
  | [], _, _ => rfl
  | (y, k) :: r, g, hc => by
    have : (k == NameKind.cell) = false := by simpa using hc (y, k) List.mem_cons_self
    unfold pushCells
    rw [this]
    exact pushCells_none g fun z hz => hc z (List.mem_cons_of_mem _ hz)
theorem ns_notList {g : Heap} {C : Addr} {m : Str → Option Value} (hg : g.Ns C m) (its : Array Value) : ¬ g.IsList C its := by
  rintro ⟨o', e', _, j, ed'⟩
  obtain ⟨o, es, ep, e, ed, _⟩ := hg
  rw [e] at e'; cases e'; rw [ed] at ed'; cases ed'
theorem gone_of {g g' : Heap} (k : Kp g g') {a : Addr} (ha : g'.objs.size ≤ a) : g.get? a = none := by
  cases e : g.get? a with
  | none => rfl
  | some o => exact absurd (Heap.lt_size (k _ _ e)) (Nat.not_lt.mpr ha)
theorem asg_local {scope : Scope} {cells : List (Str × Addr)} {C : Addr} {x : Str} {px : Pos} {v : Value} {s : Shared} {m : Str → Option Value} {Q : Unit → Shared → Prop} (hx : scope.names.lookup x = some .local) (hkind : scope.kind = .function) (hn : s.heap.Ns C m)
    (hQ : ∀ h', h'.Ns C (upd m x v) → KpB (fun b => b = C) s.heap h' → Q () { s with heap := h', toks := s.toks + 1 }) : wpAny (model prog w) A (assign (.Name x px) (compEnvC scope cells C env) v) Q no s :=
  wpAny_assign_Name (wpAny_storeName_local (lookup_relabel_local hx) hn (fun h' hn' hs' => hQ h' hn' fun b o hb e => hs'.extBut b o hb e) (by simp [compEnvC, relabel, hkind]))

/-- one clause, a local target -/
theorem lo_one {elt iter : Expr} {x : Str} {px : Pos} {ifs : List Expr} {scope : Scope} {pos : Pos} {cl : List (Str × Addr)} {h : Heap} {ks : List Int} (p : Int → Bool) (f : Int → Cl)
    (hcell : ∀ y ∈ scope.names, y.2 ≠ .cell) (hkind : scope.kind = .function) (hx : scope.names.lookup x = some .local)
    (tests : ∀ k t C g m, k ∈ ks → Kp h g → g.Ns C m → m x = some (.int k t) → Pu prog w A g (testsOf ifs (compEnvC scope cl C env)) (fun ok _ => ok = p k))
    (els : ∀ k t C g m, k ∈ ks → p k = true → Kp h g → g.Ns C m → m x = some (.int k t) → Pu prog w A g (eval elt (compEnvC scope cl C env)) (IsNew g (f k)))
    (hsz : ks.length ≤ sizeLine) : LoopOk prog w A env (.ListComp elt [⟨.Name x px, iter, ifs, 0⟩] scope pos) scope cl h ks ((ks.filter p).map f) := by
  refine ⟨?_⟩
  intro s₂ hb I fp St R k₁ k₂ W st hfp hI hnl hR
  rw [cellsFrom_none _ _ hcell]
  have eB : blockHeap s₂.heap scope = (s₂.heap.push { cls := .type "list", dict := none, data := .seq ([] : List Value).toArray }).push { cls := .type "dict", data := .dict #[] } := pushCells_none _ hcell
  rw [eB]
  have hsz1 : (s₂.heap.push { cls := .type "list", dict := none, data := .seq ([] : List Value).toArray }).objs.size = s₂.heap.objs.size + 1 := Heap.size_push ..
  have nsC := Heap.Ns.new (s₂.heap.push { cls := .type "list", dict := none, data := .seq ([] : List Value).toArray }) (.type "dict")
  rw [hsz1] at nsC
  have old : Kp s₂.heap ((s₂.heap.push { cls := .type "list", dict := none, data := .seq ([] : List Value).toArray }).push { cls := .type "dict", data := .dict #[] }) := fun b o e => Heap.get?_push_of_some _ (Heap.get?_push_of_some _ e)
  refine emit_loop (h := hb) loop_one W hnl (fun b => b = s₂.heap.objs.size + 1) (fun g => ∃ m, g.Ns (s₂.heap.objs.size + 1) m) (fun v g => ∃ m, g.Ns (s₂.heap.objs.size + 1) m ∧ m x = some v)
    (fun g g' ⟨m, hn⟩ hk => ⟨m, hn.at' fun o e => hk _ _ rfl e⟩) (fun v g g' ⟨m, hn, hm⟩ hk => ⟨m, hn.at' fun o e => hk _ _ rfl e, hm⟩) (fun g ⟨m, hn⟩ b hb its => hb ▸ ns_notList hn its)
    (fun v s ⟨m, hn⟩ => asg_local hx hkind hn fun h' hn' kb => ⟨⟨_, hn', by simp [upd]⟩, ⟨_, hn'⟩, kb, ⟨h', _, rfl⟩⟩)
    (fun q => absurd q (Nat.ne_of_lt (Nat.lt_succ_self _))) (fun q => Nat.lt_irrefl _ (hfp _ q)) (fun b hb q => by have := hfp _ hb; subst q; exact absurd (Nat.lt_of_succ_lt this) (Nat.lt_irrefl _)) p f ?_ (k₂.trans old)
    (fun k t g hk kg ⟨m, hn, hm⟩ => tests k t _ g m hk (k₁.trans kg) hn hm) (fun k t g hk hp kg ⟨m, hn, hm⟩ => els k t _ g m hk hp (k₁.trans kg) hn hm)
    (W.frame _ _ _ st fun b _ o e => old b o e) ⟨_, nsC⟩ [] [] ⟨_, Heap.get?_push_of_some _ (Heap.get?_push_size _ rfl)⟩ .nil (by simpa using hsz) ?_
  · rintro b (rfl | rfl | rfl)
    · exact gone_of k₂ (Nat.le_refl _)
    · exact hI
    · exact gone_of k₂ (Nat.le_succ _)
  · rintro h' tk ys' ⟨m', hn'⟩ kk hpl hP _
    exact hR h' tk ys' m' kk hn' hpl (by simpa using hP)

/-- one clause, a target that inner blocks close over -/
theorem lo_cell {elt iter : Expr} {x : Str} {px : Pos} {ifs : List Expr} {scope : Scope} {pos : Pos} {cl : List (Str × Addr)} {h : Heap} {ks : List Int} (p : Int → Bool) (f : Int → Cl)
    (hcl : ∀ n, cellsFrom n scope.names cl = (x, n) :: cl) (hpu : ∀ g, pushCells g scope.names = g.push { cls := .type "cell", data := .cell none }) (hkind : scope.kind = .function)
    (hx : ∀ C, (compEnvC scope ((x, C + 1) :: cl) C env).kindOf x = some .cell)
    (tests : ∀ k t C g, k ∈ ks → Kp h g → g.IsCell (C + 1) (some (.int k t)) → Pu prog w A g (testsOf ifs (compEnvC scope ((x, C + 1) :: cl) C env)) (fun ok _ => ok = p k))
    (els : ∀ k t C g, k ∈ ks → p k = true → Kp h g → g.IsCell (C + 1) (some (.int k t)) → Pu prog w A g (eval elt (compEnvC scope ((x, C + 1) :: cl) C env)) (IsNew g (f k)))
    (hsz : ks.length ≤ sizeLine) : LoopOk prog w A env (.ListComp elt [⟨.Name x px, iter, ifs, 0⟩] scope pos) scope cl h ks ((ks.filter p).map f) := by
  refine ⟨?_⟩
  intro s₂ hb I fp St R k₁ k₂ W st hfp hI hnl hR
  rw [hcl]
  have eB : blockHeap s₂.heap scope = ((s₂.heap.push { cls := .type "list", dict := none, data := .seq ([] : List Value).toArray }).push { cls := .type "dict", data := .dict #[] }).push { cls := .type "cell", data := .cell none } := hpu _
  rw [eB]
  have hsz1 : (s₂.heap.push { cls := .type "list", dict := none, data := .seq ([] : List Value).toArray }).objs.size = s₂.heap.objs.size + 1 := Heap.size_push ..
  have hsz2 : ((s₂.heap.push { cls := .type "list", dict := none, data := .seq ([] : List Value).toArray }).push { cls := .type "dict", data := .dict #[] }).objs.size = s₂.heap.objs.size + 2 := by rw [Heap.size_push, hsz1]
  have nsC := Heap.Ns.new (s₂.heap.push { cls := .type "list", dict := none, data := .seq ([] : List Value).toArray }) (.type "dict")
  rw [hsz1] at nsC
  have ceC : (((s₂.heap.push { cls := .type "list", dict := none, data := .seq ([] : List Value).toArray }).push { cls := .type "dict", data := .dict #[] }).push { cls := .type "cell", data := .cell none }).IsCell (s₂.heap.objs.size + 2) none := ⟨_, hsz2 ▸ Heap.get?_push_size _ rfl, rfl⟩
  have old : Kp s₂.heap (((s₂.heap.push { cls := .type "list", dict := none, data := .seq ([] : List Value).toArray }).push { cls := .type "dict", data := .dict #[] }).push { cls := .type "cell", data := .cell none }) := fun b o e => Heap.get?_push_of_some _ (Heap.get?_push_of_some _ (Heap.get?_push_of_some _ e))
  have cellNL : ∀ (g : Heap) v its, g.IsCell (s₂.heap.objs.size + 2) v → ¬ g.IsList (s₂.heap.objs.size + 2) its := by
    rintro g v its ⟨o, e, ed⟩ ⟨o', e', _, j, ed'⟩
    rw [e] at e'; cases e'; rw [ed] at ed'; cases ed'
  refine emit_loop (h := hb) loop_one W hnl (fun b => b = s₂.heap.objs.size + 1 ∨ b = s₂.heap.objs.size + 2) (fun g => (∃ m, g.Ns (s₂.heap.objs.size + 1) m) ∧ ∃ v, g.IsCell (s₂.heap.objs.size + 2) v) (fun v g => g.IsCell (s₂.heap.objs.size + 2) (some v))
    (fun g g' ⟨⟨m, hn⟩, v, hc⟩ hk => ⟨⟨m, hn.at' fun o e => hk _ _ (.inl rfl) e⟩, v, let ⟨o, e, ed⟩ := hc; ⟨o, hk _ _ (.inr rfl) e, ed⟩⟩) (fun v g g' hc hk => let ⟨o, e, ed⟩ := hc; ⟨o, hk _ _ (.inr rfl) e, ed⟩)
    (fun g ⟨⟨m, hn⟩, v, hc⟩ b hb its => hb.elim (fun q => q ▸ ns_notList hn its) fun q => q ▸ cellNL g v its hc)
    (fun v s ⟨⟨m, hn⟩, v', hc⟩ => wpAny_assign_Name (wpAny_storeName_cell (show (compEnvC scope ((x, s₂.heap.objs.size + 2) :: cl) (s₂.heap.objs.size + 1) env).scope.kind = .function from hkind) (hx (s₂.heap.objs.size + 1)) (by simp [compEnvC]) hc fun h' hc' hs' =>
      ⟨hc', ⟨⟨m, hn.sameBut hs' (Nat.ne_of_lt (Nat.lt_succ_self _))⟩, _, hc'⟩, fun b o hb e => hs'.extBut b o (fun q => hb (.inr q)) e, ⟨h', s.toks, rfl⟩⟩))
    (fun q => q.elim (fun q => absurd q (Nat.ne_of_lt (Nat.lt_succ_self _))) fun q => absurd q (Nat.ne_of_lt (Nat.lt_succ_of_lt (Nat.lt_succ_self _)))) (fun q => Nat.lt_irrefl _ (hfp _ q))
    (fun b hb q => by have := hfp _ hb; have : @LT.lt Nat _ b s₂.heap.objs.size := this; have q' : @Eq Nat b (s₂.heap.objs.size + 1) ∨ @Eq Nat b (s₂.heap.objs.size + 2) := q; omega) p f ?_ (k₂.trans old)
    (fun k t g hk kg hc => tests k t _ g hk (k₁.trans kg) hc) (fun k t g hk hp kg hc => els k t _ g hk hp (k₁.trans kg) hc)
    (W.frame _ _ _ st fun b _ o e => old b o e) ⟨⟨_, nsC.keeps fun b o e => Heap.get?_push_of_some _ e⟩, _, ceC⟩ [] [] ⟨_, Heap.get?_push_of_some _ (Heap.get?_push_of_some _ (Heap.get?_push_size _ rfl))⟩ .nil (by simpa using hsz) ?_
  · rintro b (rfl | rfl | rfl | rfl)
    · exact gone_of k₂ (Nat.le_refl _)
    · exact hI
    · exact gone_of k₂ (Nat.le_succ _)
    · exact gone_of k₂ (Nat.le_succ_of_le (Nat.le_succ _))
  · rintro h' tk ys' ⟨⟨m', hn'⟩, _⟩ kk hpl hP _
    exact hR h' tk ys' m' kk hn' hpl (by simpa using hP)
end
end Mine

-- Fw8
namespace Mine
section
variable {prog : Program} {w : World} {A : Around} {env : Env}

abbrev IsRg (ks : List Int) : Value → Heap → Prop := fun v g => ∃ lo hi, IsR lo hi v g ∧ Builtin.Range.small lo hi 1 = true ∧ ks = rangeKs lo (hi - lo).toNat
theorem rg_1 {h : Heap} {x : Str} {px pos : Pos} {e : Expr} {n : Int} (hf : LoadsTo h env x (.type "range")) (he : EI prog w A env h e n) (h0 : -(2 ^ 62) ≤ n) (h1 : n < 2 ^ 62) (hd : (x == ("__debug__" : Str)) = false := by decide)
    (hs : starEach [e] env = (false, eval e env) :: starEach [] env := by rfl) (hev : eval (.Call (.Name x px) [e] [] pos) env = (do callWith pos (← eval (.Name x px) env) [] (backTo pos (starEach [e] env)) (backToKw pos (keywordEach [] env))) := by rfl) :
    Pu prog w A h (eval (.Call (.Name x px) [e] [] pos) env) (IsRg (rangeKs 0 n.toNat)) :=
  pu_callT hf (pa_cons he (fun v g k hv => pa_nil fun g' k' => by
    obtain ⟨t, rfl⟩ := hv
    exact Pu.mk fun s hs => call_range_1 ⟨⟨0, n, ⟨_, _, _, _, rfl, IsRange.new ..⟩, small_one (by decide) (by decide) h0 h1, by simp⟩, keeps_push s _ _⟩) hs) hd hs rfl hev
theorem rg_2 {h : Heap} {x : Str} {px pos : Pos} {e e' : Expr} {n n' : Int} (hf : LoadsTo h env x (.type "range")) (he : EI prog w A env h e n) (he' : EI prog w A env h e' n') (h0 : -(2 ^ 62) ≤ n) (h1 : n < 2 ^ 62) (h0' : -(2 ^ 62) ≤ n') (h1' : n' < 2 ^ 62) (hd : (x == ("__debug__" : Str)) = false := by decide)
    (hs : starEach [e, e'] env = (false, eval e env) :: starEach [e'] env := by rfl) (hs' : starEach [e'] env = (false, eval e' env) :: starEach [] env := by rfl)
    (hev : eval (.Call (.Name x px) [e, e'] [] pos) env = (do callWith pos (← eval (.Name x px) env) [] (backTo pos (starEach [e, e'] env)) (backToKw pos (keywordEach [] env))) := by rfl) :
    Pu prog w A h (eval (.Call (.Name x px) [e, e'] [] pos) env) (IsRg (rangeKs n (n' - n).toNat)) :=
  pu_callT hf (pa_cons he (fun v g k hv => pa_cons (he'.up k) (fun v' g' k' hv' => pa_nil fun g'' k'' => by
    obtain ⟨t, rfl⟩ := hv
    obtain ⟨t', rfl⟩ := hv'
    exact Pu.mk fun s hs => call_range_2 ⟨⟨n, n', ⟨_, _, _, _, rfl, IsRange.new ..⟩, small_one h0 h1 h0' h1', rfl⟩, keeps_push s _ _⟩) hs') hs) hd hs (by rw [hs']; rfl) hev
theorem it_rg {h : Heap} {e : Expr} {ks : List Int} (he : Pu prog w A h (eval e env) (IsRg ks)) : EIt prog w A env h e ks := he.mono fun _ _ _ r => .inr r

theorem start_two {R : Result → Shared → Prop} {s : Shared} {elt iter iter2 : Expr} {x y : Str} {px py : Pos} {ifs2 : List Expr} {scope : Scope} {pos : Pos} {it acc : Value} {cenv : Env}
    (h0 : codeAny (model prog w) A (.compLoop (.ListComp elt [⟨.Name x px, iter, [], 0⟩, ⟨.Name y py, iter2, ifs2, 0⟩] scope pos) 1 it acc cenv) R s)
    (h : wpAny (model prog w) A (pyIter it) (fun it' s' => codeAny (model prog w) A (.compLoop (.ListComp elt [⟨.Name x px, iter, [], 0⟩, ⟨.Name y py, iter2, ifs2, 0⟩] scope pos) 1 it' acc cenv) R s') no s) :
    codeAny (model prog w) A (.compStart (.ListComp elt [⟨.Name x px, iter, [], 0⟩, ⟨.Name y py, iter2, ifs2, 0⟩] scope pos) 1 it acc cenv) R s := by
  refine codeAny_of_tree ?_
  show wpAny _ _ ((compStart (.ListComp elt [⟨.Name x px, iter, [], 0⟩, ⟨.Name y py, iter2, ifs2, 0⟩] scope pos) 1 it acc cenv).onRaise (fun x => do noteFrame x cenv; standAt theWindowsPlace)) _ _ s
  refine wpAny_notedAt ?_
  refine wpAny_mono (E := no) ?_ (fun _ _ q => q) fun _ _ e => e.elim
  unfold compStart
  show wpAny _ _ (ask >>= _) _ _ s
  refine wpAny_bind (wpAny_askSetting (wpAny_ite ?_))
  split
  · first
      | exact wpAny_bind (wpAny_pure (wpAny_pure (And.intro rfl h0)))
      | exact wpAny_pure (And.intro rfl h0)
  · first
      | exact wpAny_bind (wpAny_rule (wpAny_bind (wpAny_standAt (wpAny_bind (wpAny_mono h (fun it' s' h' => wpAny_pure (And.intro rfl h')) fun _ _ x => x)))))
      | (refine wpAny_bind (wpAny_rule ?_); show wpAny _ _ (standAt iter2.pos >>= _) _ _ s; exact wpAny_bind (wpAny_standAt (wpAny_bind (wpAny_mono h (fun it' s' h' => wpAny_pure (And.intro rfl h')) fun _ _ x => x))))

theorem flat_len {F : Int → List Cl} {B : Nat} : ∀ (l : List Int), (∀ k ∈ l, (F k).length ≤ B) → (l.flatMap F).length ≤ l.length * B
  | [], _ => by simp
  | k :: r, hB => by
    rw [List.flatMap_cons, List.length_append, List.length_cons, Nat.succ_mul]
    have := flat_len r fun z hz => hB z (List.mem_cons_of_mem _ hz)
    have := hB k List.mem_cons_self
    omega

theorem lo_two {elt iter iter2 : Expr} {x y : Str} {px py : Pos} {ifs2 : List Expr} {scope : Scope} {pos : Pos} {cl : List (Str × Addr)} {h : Heap} {ks : List Int} (hA : A.handled = none) (ks2 : Int → List Int) (p : Int → Int → Bool) (f : Int → Int → Cl) (B : Nat)
    (hxy : x ≠ y) (hcell : ∀ y ∈ scope.names, y.2 ≠ .cell) (hkind : scope.kind = .function) (hx : scope.names.lookup x = some .local) (hy : scope.names.lookup y = some .local)
    (hit2 : ∀ k t C g m, k ∈ ks → Kp h g → g.Ns C m → m x = some (.int k t) → Pu prog w A g (eval iter2 (compEnvC scope cl C env)) (IsRg (ks2 k)))
    (hs2 : ∀ C v, foldedSetIterable iter2 (compEnvC scope cl C env) v = pure v)
    (tests : ∀ k t j u C g m, k ∈ ks → j ∈ ks2 k → Kp h g → g.Ns C m → m x = some (.int k t) → m y = some (.int j u) → Pu prog w A g (testsOf ifs2 (compEnvC scope cl C env)) (fun ok _ => ok = p k j))
    (els : ∀ k t j u C g m, k ∈ ks → j ∈ ks2 k → p k j = true → Kp h g → g.Ns C m → m x = some (.int k t) → m y = some (.int j u) → Pu prog w A g (eval elt (compEnvC scope cl C env)) (IsNew g (f k j)))
    (hB : ∀ k ∈ ks, (ks2 k).length ≤ B) (hsz : (ks.length + 1) * B ≤ sizeLine) :
    LoopOk prog w A env (.ListComp elt [⟨.Name x px, iter, [], 0⟩, ⟨.Name y py, iter2, ifs2, 0⟩] scope pos) scope cl h ks (ks.flatMap fun k => ((ks2 k).filter (p k)).map (f k)) := by
  refine ⟨?_⟩
  intro s₂ hb I fp St R k₁ k₂ W st hfp hI hnl hR
  rw [cellsFrom_none _ _ hcell]
  have eB : blockHeap s₂.heap scope = (s₂.heap.push { cls := .type "list", dict := none, data := .seq ([] : List Value).toArray }).push { cls := .type "dict", data := .dict #[] } := pushCells_none _ hcell
  rw [eB]
  have hsz1 : (s₂.heap.push { cls := .type "list", dict := none, data := .seq ([] : List Value).toArray }).objs.size = s₂.heap.objs.size + 1 := Heap.size_push ..
  have nsC := Heap.Ns.new (s₂.heap.push { cls := .type "list", dict := none, data := .seq ([] : List Value).toArray }) (.type "dict")
  rw [hsz1] at nsC
  have old : Kp s₂.heap ((s₂.heap.push { cls := .type "list", dict := none, data := .seq ([] : List Value).toArray }).push { cls := .type "dict", data := .dict #[] }) := fun b o e => Heap.get?_push_of_some _ (Heap.get?_push_of_some _ e)
  have hDn : hb.get? s₂.heap.objs.size = none := gone_of k₂ (Nat.le_refl _)
  have hCn : hb.get? (s₂.heap.objs.size + 1) = none := gone_of k₂ (Nat.le_succ _)
  have hIf : I ∈ fp := W.sub I (List.mem_singleton.mpr rfl)
  have hfD : ∀ b ∈ fp, b ≠ s₂.heap.objs.size ∧ b ≠ s₂.heap.objs.size + 1 := fun b hb => ⟨Nat.ne_of_lt (hfp b hb), Nat.ne_of_lt (Nat.lt_succ_of_lt (hfp b hb))⟩
  have hDC : s₂.heap.objs.size ≠ s₂.heap.objs.size + 1 := Nat.ne_of_lt (Nat.lt_succ_self _)
  refine codeAny_loop rfl (fun n s' => ∃ i h₁ tk ys₁ m₁, n = ks.length + 1 - i ∧ i ≤ ks.length ∧ s' = { s₂ with heap := h₁, toks := tk } ∧ St i h₁ ∧ h₁.Ns (s₂.heap.objs.size + 1) m₁ ∧ Kp hb h₁ ∧ h₁.PlainList s₂.heap.objs.size (List.toArray ys₁) ∧
    Paired (fun z y => IsEl s₂.heap.objs.size z y h₁) ((ks.take i).flatMap fun k => ((ks2 k).filter (p k)).map (f k)) ys₁) ?_ (ks.length + 1)
    ⟨0, _, s₂.toks, [], _, rfl, Nat.zero_le _, rfl, W.frame _ _ _ st fun b _ o e => old b o e, nsC, k₂.trans old, ⟨_, Heap.get?_push_of_some _ (Heap.get?_push_size _ rfl)⟩, by simpa using Paired.nil⟩
  rintro n s' ⟨i, h₁, tk, ys₁, m₁, rfl, hi, rfl, st₁, hn₁, kp₁, D₁, P₁⟩
  show wpAny _ A ((compTurn (.ListComp elt [⟨.Name x px, iter, [], 0⟩, ⟨.Name y py, iter2, ifs2, 0⟩] scope pos) 0 (.ref I) (.ref s₂.heap.objs.size) (compEnvC scope cl (s₂.heap.objs.size + 1) env)).onRaise (fun x => do noteFrame x _; theTreesLotGoes x)) _ _ _
  refine wpAny_noted ?_
  rw [compTurn_two0]
  refine wpAny_mono (E := no) ?_ (fun _ _ q => q) fun _ _ e => e.elim
  refine wpAny_bind (wpAny_standAt (wpAny_bind ?_))
  by_cases hlt : i < ks.length
  · refine W.item i _ _ _ hlt st₁ fun v h₂ tk₂ hv st₂ hk₂ => ?_
    obtain ⟨k, t, hki, rfl⟩ := hv
    have hkm : k ∈ ks := List.mem_of_getElem? hki
    have kb₂ : KpB (fun b => b = I) h₁ h₂ := fun b o hb eo => hk₂ b o (fun q => hb (List.mem_singleton.mp q)) eo
    have kp₂ : Kp hb h₂ := fun b o eo => kb₂ b o (fun q => by rw [q, hI] at eo; cases eo) (kp₁ b o eo)
    have P₂ := paired_imp (fun z y q => IsEl.stays q kb₂ fun b hb => .inr (hb ▸ hnl _ _ st₁)) P₁
    have D₂ : h₂.PlainList s₂.heap.objs.size (List.toArray ys₁) := D₁.at fun o eo => kb₂ _ _ (Ne.symm (hfD I hIf).1) eo
    have hn₂ : h₂.Ns (s₂.heap.objs.size + 1) m₁ := hn₁.at' fun o eo => kb₂ _ _ (Ne.symm (hfD I hIf).2) eo
    refine wpAny_bind (wpAny_of_eq (show letOwnedTupleGo (.Name x px) (.ref I) (.int k t) = pure () from rfl) ?_)
    refine wpAny_bind (asg_local hx hkind (s := { heap := h₂, gens := s₂.gens, drawn := s₂.drawn, toks := tk₂, os := s₂.os }) hn₂ fun h₃ hn₃ kb₃ => ?_)
    have kb₃' : KpB (fun b => b = s₂.heap.objs.size + 1) h₂ h₃ := kb₃
    have kp₃ : Kp hb h₃ := fun b o eo => kb₃' b o (fun q => by rw [q, hCn] at eo; cases eo) (kp₂ b o eo)
    have P₃ := paired_imp (fun z y q => IsEl.stays q kb₃' fun b hb => .inr (hb ▸ ns_notList hn₂)) P₂
    have D₃ : h₃.PlainList s₂.heap.objs.size (List.toArray ys₁) := D₂.at fun o eo => kb₃' _ _ hDC eo
    have st₃ : St (i + 1) h₃ := W.frame _ _ _ st₂ fun b hb o eo => kb₃' b o (hfD b hb).2 eo
    have hx₃ : upd m₁ x (.int k t) x = some (.int k t) := by simp [upd]
    refine wpAny_bind ((hit2 k t _ h₃ _ hkm (k₁.trans kp₃) hn₃ hx₃).use Kp.rfl fun v₄ s₄ hv₄ k₄ => ?_)
    obtain ⟨h₄, tk₄, rfl, kk₄⟩ := k₄
    have kk₄' : Kp h₃ h₄ := kk₄
    refine wpAny_bind (wpAny_standAt (wpAny_bind (wpAny_of_eq (hs2 _ _) (wpAny_bind (wpAny_holding ?_)))))
    refine iter_walks hA (.inr hv₄) fun I₂ fp₂ St₂ s₅ k₅ W₂ st₅ hfp₂ hI₂ hfl₂ hnl₂ => ?_
    obtain ⟨h₅, tk₅, rfl, kk₅⟩ := k₅
    have kk₅' : Kp h₄ h₅ := kk₅
    have hI₂' : h₄.get? I₂ = none := hI₂
    have only : ∀ b ∈ fp₂, b = I₂ := by
      intro b hb
      by_cases q : b = I₂
      · exact q
      · obtain ⟨e1, its, o', e', _, j, ed'⟩ := hfl₂ b hb q
        obtain ⟨lo, hi, ⟨a, t1, t2, t3, ev, hr⟩, _⟩ := hv₄
        rw [e1] at ev; cases ev
        rw [show h₄.get? b = some _ from hr] at e'
        cases e'; cases ed'
    have ne_of : ∀ b o, h₄.get? b = some o → b ≠ I₂ := fun b o e q => by rw [q, hI₂'] at e; cases e
    have D₄ : h₄.PlainList s₂.heap.objs.size (List.toArray ys₁) := D₃.at fun o eo => kk₄' _ _ eo
    have hDI₂ : s₂.heap.objs.size ≠ I₂ := by obtain ⟨_, e⟩ := D₄; exact ne_of _ _ e
    have hn₄ : h₄.Ns (s₂.heap.objs.size + 1) (upd m₁ x (.int k t)) := hn₃.keeps kk₄'
    have hCI₂ : s₂.heap.objs.size + 1 ≠ I₂ := by obtain ⟨o, _, _, e, _⟩ := hn₄; exact ne_of _ _ e
    have htake : ks.take (i + 1) = ks.take i ++ [k] := by rw [List.take_add_one, hki]; rfl
    have hlen : ((ks.take i).flatMap fun k => ((ks2 k).filter (p k)).map (f k)).length + (ks2 k).length ≤ sizeLine := by
      have h1 := flat_len (F := fun k => ((ks2 k).filter (p k)).map (f k)) (B := B) (ks.take i) fun z hz => by
        rw [List.length_map]
        exact Nat.le_trans (List.length_filter_le _ _) (hB z (List.mem_of_mem_take hz))
      have h2 := hB k hkm
      have h3 : (ks.take i).length ≤ ks.length := by rw [List.length_take]; omega
      have h4 : (ks.take i).length * B ≤ ks.length * B := Nat.mul_le_mul_right _ h3
      rw [Nat.succ_mul] at hsz
      omega
    have loop : ∀ R', (∀ h' tk' ys', h'.Ns (s₂.heap.objs.size + 1) (fun z => if z = x then some (.int k t) else none) ∨ True → (∃ m', h'.Ns (s₂.heap.objs.size + 1) m') → Kp hb h' → h'.PlainList s₂.heap.objs.size (List.toArray ys') →
        Paired (fun z y => IsEl s₂.heap.objs.size z y h') ((ks.take (i + 1)).flatMap fun k => ((ks2 k).filter (p k)).map (f k)) ys' → St (i + 1) h' → R' (.ok .next) { s₂ with heap := h', toks := tk' }) →
        codeAny (model prog w) A (.compLoop (.ListComp elt [⟨.Name x px, iter, [], 0⟩, ⟨.Name y py, iter2, ifs2, 0⟩] scope pos) 1 (.ref I₂) (.ref s₂.heap.objs.size) (compEnvC scope cl (s₂.heap.objs.size + 1) env)) R' { s₂ with heap := h₅, toks := tk₅ } := by
      intro R' hR'
      refine emit_loop (h := hb) (s := { s₂ with heap := h₅, toks := tk₅ }) loop_two W₂ hnl₂ (fun b => b = s₂.heap.objs.size + 1) (fun g => ∃ m, g.Ns (s₂.heap.objs.size + 1) m ∧ m x = some (.int k t)) (fun v g => ∃ m, g.Ns (s₂.heap.objs.size + 1) m ∧ m x = some (.int k t) ∧ m y = some v)
        (fun g g' ⟨m, hn, hm⟩ hk => ⟨m, hn.at' fun o e => hk _ _ rfl e, hm⟩) (fun v g g' ⟨m, hn, hm⟩ hk => ⟨m, hn.at' fun o e => hk _ _ rfl e, hm⟩) (fun g ⟨m, hn, _⟩ b hb its => hb ▸ ns_notList hn its)
        (fun v s ⟨m, hn, hm⟩ => asg_local hy hkind hn fun h' hn' kb => ⟨⟨_, hn', by simp [upd, hxy, hm], by simp [upd]⟩, ⟨_, hn', by simp [upd, hxy, hm]⟩, kb, ⟨h', _, rfl⟩⟩)
        hDC (fun q => hDI₂ (only _ q)) (fun b hb q => hCI₂ (q ▸ only b hb)) (p k) (f k) ?_ (kp₃.trans (Kp.trans kk₄' kk₅'))
        (fun j u g hj kg ⟨m, hn, hm, hm'⟩ => tests k t j u _ g m hkm hj (k₁.trans kg) hn hm hm') (fun j u g hj hp kg ⟨m, hn, hm, hm'⟩ => els k t j u _ g m hkm hj hp (k₁.trans kg) hn hm hm')
        st₅ ⟨_, hn₄.keeps kk₅', hx₃⟩ _ ys₁ (D₄.at fun o eo => kk₅' _ _ eo) (paired_imp (fun z y q => IsEl.stays (O := fun _ => False) q (KpB.of (Kp.trans kk₄' kk₅')) fun b hb => hb.elim) P₃) hlen ?_
      · rintro b (rfl | rfl | rfl)
        · exact hDn
        · cases e : hb.get? b with
          | none => rfl
          | some o => exact absurd rfl (ne_of _ _ (kk₄' _ _ (kp₃ _ _ e)))
        · exact hCn
      · rintro h' tk' ys' ⟨m', hn', _⟩ kk hpl hP kb'
        refine hR' h' tk' ys' (.inr trivial) ⟨m', hn'⟩ kk hpl ?_ ?_
        · rw [htake, List.flatMap_append]
          simpa using hP
        · have kb5 : KpB (fun b => b = s₂.heap.objs.size ∨ b = I₂ ∨ b = s₂.heap.objs.size + 1) h₅ h' := kb'
          refine W.frame _ _ _ st₃ fun b hb o eo => kb5 b o ?_ (kk₅' _ _ (kk₄' _ _ eo))
          rintro (q | q | q)
          · exact (hfD b hb).1 q
          · exact ne_of _ _ (kk₄' _ _ eo) q
          · exact (hfD b hb).2 q
    refine wpAny_bind (wpAny_runOwn ?_)
    refine start_two (loop _ ?_) (W₂.self 0 _ _ _ st₅ (loop _ ?_)) <;>
    · intro h' tk' ys' _ hm' kk hpl hP st'
      obtain ⟨m', hn'⟩ := hm'
      exact wpAny_pure ⟨rfl, ks.length + 1 - (i + 1), by omega, i + 1, h', tk', ys', m', rfl, hlt, rfl, st', hn', kk, hpl, hP⟩
  · obtain rfl : i = ks.length := Nat.le_antisymm hi (Nat.not_lt.mp hlt)
    refine W.done _ _ _ st₁ fun h₂ tk₂ hk₂ => wpAny_pure ?_
    have kb₂ : KpB (fun b => b = I) h₁ h₂ := fun b o hb eo => hk₂ b o (fun q => hb (List.mem_singleton.mp q)) eo
    rw [List.take_length] at P₁
    exact hR h₂ tk₂ ys₁ m₁ (fun b o eo => kb₂ b o (fun q => by rw [q, hI] at eo; cases eo) (kp₁ b o eo)) (hn₁.at' fun o eo => kb₂ _ _ (Ne.symm (hfD I hIf).2) eo) (D₁.at fun o eo => kb₂ _ _ (Ne.symm (hfD I hIf).1) eo)
      (paired_imp (fun z y q => IsEl.stays q kb₂ fun b hb => .inr (hb ▸ hnl _ _ st₁)) P₁)
end
end Mine

-- Fw9
namespace Mine

/-- what the program's top leaves, as far as the calls ask it -/
structure Cx (K : Frag) (h : Heap) : Prop where
  kx : K.In h
  nolim : h.NoLimit
  top : ∃ mg mb, h.Ns mainGlobals mg ∧ h.Ns builtinsNs mb ∧ ∀ x : Str, x ≠ "__name__" → mb x = bootBuiltins x
theorem Cx.up {K : Frag} {h h' : Heap} (c : Cx K h) (k : Kp h h') : Cx K h' := by
  obtain ⟨a, b, mg, mb, g1, g2, g3⟩ := c
  exact ⟨a.keeps k, b.keeps k, mg, mb, g1.keeps k, g2.keeps k, g3⟩
theorem Cx.glob {K : Frag} {h : Heap} {env : Env} {x : Str} {v : Value} (c : Cx K h) (hk : env.scope.kind = .function) (hx : env.kindOf x = some .globalImplicit) (hg : env.globals = mainGlobals) (e : nsIn K mainGlobals x = some (some v)) : LoadsTo h env x v := by
  obtain ⟨a, b, mg, mb, g1, g2, g3⟩ := c
  exact .glob mg hk hx (hg ▸ g1) (mg_of a g1 e)
theorem Cx.built {K : Frag} {h : Heap} {env : Env} {x : Str} {v : Value} (c : Cx K h) (hk : env.scope.kind = .function) (hx : env.kindOf x = some .globalImplicit) (hg : env.globals = mainGlobals) (hb : env.builtins = builtinsNs) (e : nsIn K mainGlobals x = some none)
    (hn : x ≠ "__name__") (hv : bootBuiltins x = some v) : LoadsTo h env x v := by
  obtain ⟨a, b, mg, mb, g1, g2, g3⟩ := c
  exact .built mg mb hk hx (hg ▸ g1) (mg_none_of a g1 e) (hb ▸ g2) ((g3 x hn).trans hv)
theorem boot_range : bootBuiltins (Str.ofString "range") = some (.type "range") := by decide +kernel
theorem boot_len : bootBuiltins (Str.ofString "len") = some (.builtin "len") := by decide +kernel
theorem boot_sum' : bootBuiltins (Str.ofString "sum") = some (.builtin "sum") := by decide +kernel

section
variable {prog : Program} {w : World} {A : Around} {env : Env} {s₀ s : Shared} {m cm : Str → Option Value}
theorem s_shr {x : Str} {px pos : Pos} {e : Expr} {a b : Int} {t : Tok} {rest : List Stmt} {Q : Flow → Shared → Prop} (X : FS s₀ env m cm s) (hk : env.scope.kind = .function) (hl : env.kindOf x = some .local) (hv : m x = some (.int a t))
    (he : EI prog w A env s.heap e b) (hb : 0 ≤ b) (k : ∀ t s₂, KpB (Own env) s.heap s₂.heap → FS s₀ env (upd m x (.int (a.fdiv (2 ^ b.toNat)) t)) cm s₂ → wpAny (model prog w) A (execs rest env) Q no s₂) :
    wpAny (model prog w) A (execs (.AugAssign (.Name x px) .RShift e pos :: rest) env) Q no s :=
  s_cons (wpAny_AugAssign_Name (wpAny_loadName_local hk hl X.toInCall.ns hv (he.use Kp.rfl fun v s₁ hv₁ k₁ => by
    obtain ⟨u, rfl⟩ := hv₁
    exact irshift_int hb (st_loc (X.keeps (keeps_trans k₁ (keeps_tok s₁ _))) hk hl fun s₂ X₂ k₂ => ⟨rfl, k _ s₂ ((KpB.of (keeps_kp k₁)).trans k₂) X₂⟩))))
end

theorem foldl_take_succ {β : Type} {f : β → Int → β} {a : β} {ks : List Int} {i : Nat} {k : Int} (hk : ks[i]? = some k) : (ks.take (i + 1)).foldl f a = f ((ks.take i).foldl f a) k := by
  rw [List.take_add_one, hk]; simp
section
variable {prog : Program} {w : World} {A : Around} {env : Env} {h : Heap}
theorem tests_nil : Pu prog w A h (testsOf [] env) (fun ok _ => ok = true) := Pu.mk fun s _ => wpAny_tests_nil ⟨rfl, keeps_refl s⟩
theorem tests_one {c : Expr} {b : Bool} (hc : EB prog w A env h c b) : Pu prog w A h (testsOf [c] env) (fun ok _ => ok = b) := Pu.mk fun s hs => wpAny_tests_one (hc.run s hs)
theorem new_int {e : Expr} {n : Int} (he : EI prog w A env h e n) : Pu prog w A h (eval e env) (IsNew h (.int n)) := he.mono fun _ _ _ r => r
theorem el_comp {elt iter : Expr} {x : Str} {px : Pos} {ifs : List Expr} {scope : Scope} {pos : Pos} {cl : List (Str × Addr)} {ks : List Int} (p : Int → Bool) (g : Int → Int) (hA : A.handled = none)
    (hclos : closureFor scope env = pure cl) (hcell : ∀ y ∈ scope.names, y.2 ≠ .cell) (hkind : scope.kind = .function) (hnames : ∀ x ∈ scope.names, x.2 = .local → scope.names.lookup x.1 = some .local) (hx : scope.names.lookup x = some .local) (hit : EIt prog w A env h iter ks)
    (tests : ∀ k t C g m, k ∈ ks → Kp h g → g.Ns C m → m x = some (.int k t) → Pu prog w A g (testsOf ifs (compEnvC scope cl C env)) (fun ok _ => ok = p k))
    (els : ∀ k t C g' m, k ∈ ks → p k = true → Kp h g' → g'.Ns C m → m x = some (.int k t) → EI prog w A (compEnvC scope cl C env) g' elt (g k))
    (hsz : ks.length ≤ sizeLine) (hs : ∀ x, foldedSetIterable iter env x = pure x := by intro _; rfl) : EL prog w A env h (.ListComp elt [⟨.Name x px, iter, ifs, 0⟩] scope pos) ((ks.filter p).map g) :=
  (pu_comp (zs := ((ks.filter p).map g).map .int) hA hclos hkind hnames hit (by
    rw [List.map_map]
    exact lo_one p (Cl.int ∘ g) hcell hkind hx tests (fun k t C g' m a b c d e => new_int (els k t C g' m a b c d e)) hsz) hs).mono fun v g _ r => isCL_ints r.1
theorem el_map {elt iter : Expr} {x : Str} {px : Pos} {scope : Scope} {pos : Pos} {cl : List (Str × Addr)} {ks : List Int} (g : Int → Int) (hA : A.handled = none)
    (hclos : closureFor scope env = pure cl) (hcell : ∀ y ∈ scope.names, y.2 ≠ .cell) (hkind : scope.kind = .function) (hnames : ∀ x ∈ scope.names, x.2 = .local → scope.names.lookup x.1 = some .local) (hx : scope.names.lookup x = some .local) (hit : EIt prog w A env h iter ks)
    (els : ∀ k t C g' m, k ∈ ks → Kp h g' → g'.Ns C m → m x = some (.int k t) → EI prog w A (compEnvC scope cl C env) g' elt (g k))
    (hsz : ks.length ≤ sizeLine) (hs : ∀ x, foldedSetIterable iter env x = pure x := by intro _; rfl) : EL prog w A env h (.ListComp elt [⟨.Name x px, iter, [], 0⟩] scope pos) (ks.map g) := by
  have := el_comp (pos := pos) (px := px) (fun _ => true) g hA hclos hcell hkind hnames hx hit (fun _ _ _ _ _ _ _ _ _ => tests_nil) (fun k t C g' m a _ c d e => els k t C g' m a c d e) hsz hs
  have e : ks.filter (fun _ => true) = ks := List.filter_eq_self.mpr fun _ _ => rfl
  rw [e] at this
  exact this
end
end Mine

-- G1
namespace Mine
noncomputable abbrev Kk (w : World) : Frag := Mine.hd.heap_39 w.params
abbrev pg : Program := PySem.Challenge.pw_ki0113_01
noncomputable def fdAt (P : Params) (a : Addr) : FuncData := match (Mine.hd.heap_39 P).lookup a with
  | some ⟨_, _, .func fd, _⟩ => fd
  | _ => default
section
variable {w : World} {A : Around} {h : Heap}
theorem gen_crc (c : Cx (Kk w) h) (hA : A.handled = none) (hd : A.depth + 1 < recursionLimit) (n : Int) (t : Tok) : Pu pg w A h (call (.ref 21) [.int n t]) (IsI (itn gstep 8 n)) := by
  refine pu_def (a := 21) (fd := fdAt w.params 21) (binds := [(Str.ofString "crc", .int n t)]) (Nat.lt_of_succ_lt hd) (c.kx 21 _ rfl) rfl c.nolim (codeRec_of c.kx rfl) rfl rfl rfl (fun L => kindsX rfl (L + 1)) ?_
  intro s s₁ hs X
  have c₁ : Cx (Kk w) s₁.heap := (c.up hs).up (keeps_kp X.back)
  refine s_for (fun i m cm => ∃ t, m (Str.ofString "crc") = some (.int (itn gstep i n) t)) hA X rfl rfl (it_range1 (n := 8) (c₁.built rfl rfl rfl rfl rfl (by decide) boot_range) ei_const (by decide) (by decide)) ⟨t, rfl⟩ ?_ ?_
  · rintro i k u m₁ cm₁ s₂ _ ⟨t₁, hm⟩ X₂ k₂
    refine s_if X₂ (eb_int (ei_bin (ei_name (X₂.ld rfl rfl hm)) ei_const o_and)) fun s₃ X₃ k₃ => ?_
    cases hb : (Builtin.bitAnd (itn gstep i n) 1 != 0) with
    | true =>
      refine s_assignI X₃ rfl rfl (ei_bin (ei_bin (ei_name (X₃.ld rfl rfl hm)) ei_const (o_shr (by decide))) ei_const o_xor) fun t₄ s₄ k₄ X₄ => s_nil ⟨rfl, s_nil ⟨rfl, _, _, X₄, k₃.trans k₄, t₄, ?_⟩⟩
      show some _ = some _
      simp only [itn, gstep, hb, if_true]
      rfl
    | false =>
      refine s_shr X₃ rfl rfl hm ei_const (by decide) fun t₄ s₄ k₄ X₄ => s_nil ⟨rfl, s_nil ⟨rfl, _, _, X₄, k₃.trans k₄, t₄, ?_⟩⟩
      show some _ = some _
      simp only [itn, gstep, hb]
      rfl
  · rintro m₁ cm₁ s₂ ⟨t₁, hm⟩ X₂ k₂
    refine s_return (ev_name (X₂.ld rfl rfl hm)) fun v s₃ hv k₃ => ⟨v, rfl, ⟨t₁, hv⟩, keeps_trans X₂.back k₃⟩

theorem law_divisor (c : Cx (Kk w) h) (hA : A.handled = none) (hd : A.depth + 1 < recursionLimit) : Pu pg w A h (call (.ref 26) []) (IsI dv) := by
  refine pu_def (a := 26) (fd := fdAt w.params 26) (binds := []) (Nat.lt_of_succ_lt hd) (c.kx 26 _ rfl) rfl c.nolim (codeRec_of c.kx rfl) rfl rfl rfl (fun L => kindsX rfl (L + 1)) ?_
  intro s s₁ hs X
  have c₁ : Cx (Kk w) s₁.heap := (c.up hs).up (keeps_kp X.back)
  refine s_return (R := IsI dv) ?_ fun v s₃ hv k₃ => ⟨v, rfl, hv, keeps_trans X.back k₃⟩
  refine ei_eq (n := ([32, 26, 23, 22, 16, 12, 11, 10, 8, 7, 5, 4, 2, 1, 0].map fun k : Int => (2 : Int) ^ k.toNat).sum) ?_ (by decide)
  refine ei_sum hA (c₁.built rfl rfl rfl rfl rfl (by decide) boot_sum') ?_
  refine el_map (fun k => 2 ^ k.toNat) hA rfl (by decide) rfl (by decide) rfl ?_ ?_ (by decide)
  · refine it_list (el_list ?_ (by decide))
    repeat (first | exact EIs.nil | refine EIs.cons ei_const rfl ?_)
  · intro k t C g m hk kg hn hm
    have hb : ∀ k ∈ ([32, 26, 23, 22, 16, 12, 11, 10, 8, 7, 5, 4, 2, 1, 0] : List Int), 0 ≤ k ∧ k ≤ 1000000 := by decide
    exact ei_bin ei_const (ei_name (.loc m rfl rfl hn hm)) (o_pow (hb k hk).1 (hb k hk).2 (by decide))

theorem law_wished (c : Cx (Kk w) h) (hA : A.handled = none) (hd : A.depth + 1 < recursionLimit) {a : Addr} {vs : List Value} {ns : List Int} (hl : h.IsList a vs.toArray) (hi : IntsAre vs ns) : Pu pg w A h (call (.ref 33) [.ref a]) (IsI (wishOf ns)) := by
  refine pu_def (a := 33) (fd := fdAt w.params 33) (binds := [(Str.ofString "script", .ref a)]) (Nat.lt_of_succ_lt hd) (c.kx 33 _ rfl) rfl c.nolim (codeRec_of c.kx rfl) rfl rfl rfl (fun L => kindsX rfl (L + 1)) ?_
  intro s s₁ hs X
  have c₁ : Cx (Kk w) s₁.heap := (c.up hs).up (keeps_kp X.back)
  have l₁ : s₁.heap.IsList a vs.toArray := hl.at fun o e => keeps_kp X.back _ _ (hs _ _ e)
  refine s_assignI X rfl rfl ei_const fun t₂ s₂ k₂ X₂ => ?_
  refine s_for (fun i m cm => ∃ t, m (Str.ofString "wished") = some (.int ((ns.take i).foldl (fun a x => (31 * a + x.fdiv 256).fmod (2 ^ 32)) 0) t)) hA X₂ rfl rfl (it_list (el_name (X₂.ld rfl rfl rfl) (X.lst l₁ k₂) hi)) ⟨t₂, rfl⟩ ?_ ?_
  · rintro i k u m₁ cm₁ s₃ hk ⟨t₁, hm⟩ X₃ k₃
    refine s_assignI X₃ rfl rfl (ei_bin (ei_bin (ei_bin ei_const (ei_name (X₃.ld rfl rfl hm)) (o_mul (IntMulOk.of_left (by decide)))) (ei_bin (ei_name (X₃.ld rfl rfl rfl)) ei_const (o_div (by decide) (by decide +kernel))) o_add)
      (ei_bin ei_const ei_const (o_pow (by decide) (by decide) (by decide))) (o_mod (by decide))) fun t₄ s₄ k₄ X₄ => s_nil ⟨rfl, _, _, X₄, k₄, t₄, ?_⟩
    rw [foldl_take_succ hk]
    rfl
  · rintro m₁ cm₁ s₃ ⟨t₁, hm⟩ X₃ k₃
    rw [List.take_length] at hm
    exact s_return (ev_name (X₃.ld rfl rfl hm)) fun v s₄ hv k₄ => ⟨v, rfl, ⟨t₁, hv⟩, keeps_trans X₃.back k₄⟩

theorem law_crc (c : Cx (Kk w) h) (hA : A.handled = none) (hd : A.depth + 2 < recursionLimit) {a : Addr} {vs : List Value} {ns : List Int} (hl : h.IsList a vs.toArray) (hi : IntsAre vs ns) : Pu pg w A h (call (.ref 45) [.ref a]) (IsI (crcOf ns)) := by
  refine pu_def (a := 45) (fd := fdAt w.params 45) (binds := [(Str.ofString "row", .ref a)]) (Nat.lt_of_succ_lt (Nat.lt_of_succ_lt hd)) (c.kx 45 _ rfl) rfl c.nolim (codeRec_of c.kx rfl) rfl rfl rfl (fun L => kindsX rfl (L + 1)) ?_
  intro s s₁ hs X
  have c₁ : Cx (Kk w) s₁.heap := (c.up hs).up (keeps_kp X.back)
  have l₁ : s₁.heap.IsList a vs.toArray := hl.at fun o e => keeps_kp X.back _ _ (hs _ _ e)
  refine s_assignI X rfl rfl (ei_bin (ei_bin ei_const ei_const (o_pow (by decide) (by decide) (by decide))) ei_const o_sub) fun t₂ s₂ k₂ X₂ => ?_
  refine s_for (fun i m cm => ∃ t, m (Str.ofString "crc") = some (.int ((ns.take i).foldl crcStep (2 ^ 32 - 1)) t)) hA X₂ rfl rfl (it_list (el_name (X₂.ld rfl rfl rfl) (X.lst l₁ k₂) hi)) ⟨t₂, rfl⟩ ?_ ?_
  · rintro i k u m₁ cm₁ s₃ hk ⟨t₁, hm⟩ X₃ k₃
    have c₃ : Cx (Kk w) s₃.heap := (c.up hs).up (keeps_kp X₃.back)
    refine s_assignI (n := crcStep ((ns.take i).foldl crcStep (2 ^ 32 - 1)) k) X₃ rfl rfl (ei_bin (ei_bin (ei_name (X₃.ld rfl rfl hm)) ei_const (o_div (by decide) (by decide +kernel)))
      (pu_callF (c₃.glob rfl rfl rfl rfl) (c₃.kx 21 _ rfl) rfl (pa_cons (ei_bin (ei_bin (ei_name (X₃.ld rfl rfl hm)) (ei_name (X₃.ld rfl rfl rfl)) o_xor) ei_const (o_mod (by decide))) fun v g kg hv => ?_)) o_xor) fun t₄ s₄ k₄ X₄ => s_nil ⟨rfl, _, _, X₄, k₄, t₄, ?_⟩
    · obtain ⟨t₅, rfl⟩ := hv
      exact pa_nil fun g' kg' => gen_crc (A := A.deeper _) (c₃.up (kg.trans kg')) hA hd _ t₅
    · rw [foldl_take_succ hk]
      rfl
  · rintro m₁ cm₁ s₃ ⟨t₁, hm⟩ X₃ k₃
    rw [List.take_length] at hm
    exact s_return (R := IsI (crcOf ns)) (ei_bin (ei_name (X₃.ld rfl rfl hm)) (ei_bin (ei_bin ei_const ei_const (o_pow (by decide) (by decide) (by decide))) ei_const o_sub) o_xor) fun v s₄ hv k₄ => ⟨v, rfl, hv, keeps_trans X₃.back k₄⟩
end
end Mine

-- G1b
namespace Mine
theorem rk_get {n i : Nat} {k : Int} (h : (rangeKs 0 n)[i]? = some k) : 0 ≤ k ∧ k < n := by
  have := mem_rangeKs (List.mem_of_getElem? h)
  omega
theorem rk_mem {n : Nat} {k : Int} (h : k ∈ rangeKs 0 n) : 0 ≤ k ∧ k < n := by
  have := mem_rangeKs h
  omega
theorem bits_mod2 (x : Int) : Builtin.Int.intBits (x.fmod 2) ≤ 64 := by
  have h1 : 0 ≤ x.fmod 2 := Int.fmod_nonneg_of_pos _ (by decide)
  have h2 : x.fmod 2 < 2 := Int.fmod_lt_of_pos _ (by decide)
  have : x.fmod 2 = 0 ∨ x.fmod 2 = 1 := by omega
  rcases this with e | e <;> rw [e] <;> decide
theorem pw_log {n : Nat} (h : n < 9000) : ((2 : Int) ^ n).natAbs.log2 < 9000 := by
  rw [Int.natAbs_pow]
  show ((2 : Nat) ^ n).log2 < 9000
  rw [Nat.log2_two_pow]; exact h
theorem pw_ne (n : Nat) : (2 : Int) ^ n ≠ 0 := by
  have := Int.pow_pos (n := 2) (m := n) (by decide); omega
theorem flat_int (R : List Int) (g : Int → Int → Int) : ∀ l : List Int, (l.flatMap fun k => R.map (g k)).map Cl.int = l.flatMap fun k => (R.filter fun _ => true).map fun j => Cl.int (g k j)
  | [] => rfl
  | k :: r => by
    have e : R.filter (fun _ => true) = R := List.filter_eq_self.mpr fun _ _ => rfl
    rw [List.flatMap_cons, List.flatMap_cons, List.map_append, flat_int R g r, List.map_map, e]
    rfl
section
variable {w : World} {A : Around} {h : Heap}
set_option maxHeartbeats 1000000
theorem law_four (c : Cx (Kk w) h) (hA : A.handled = none) (hd : A.depth + 2 < recursionLimit) {a b : Addr} {vs us : List Value} {hs ts : List Int} {wi : Int} {tw : Tok} (hl : h.IsList a vs.toArray) (hi : IntsAre vs hs) (hl' : h.IsList b us.toArray) (hi' : IntsAre us ts)
    (hsz : hs.length + ts.length ≤ 100) : Pu pg w A h (call (.ref 38) [.ref a, .ref b, .int wi tw]) (IsL (fourOf hs ts wi)) := by
  have sz := sizeLine_eq
  refine pu_def (a := 38) (fd := fdAt w.params 38) (binds := [(Str.ofString "head", .ref a), (Str.ofString "tail", .ref b), (Str.ofString "wished", .int wi tw)]) (Nat.lt_of_succ_lt (Nat.lt_of_succ_lt hd)) (c.kx 38 _ rfl) rfl c.nolim (codeRec_of c.kx rfl) rfl rfl rfl (fun L => kindsX rfl (L + 1)) ?_
  intro s s₁ hss X
  have c₁ : Cx (Kk w) s₁.heap := (c.up hss).up (keeps_kp X.back)
  have l₁ : s₁.heap.IsList a vs.toArray := hl.at fun o e => keeps_kp X.back _ _ (hss _ _ e)
  have l₁' : s₁.heap.IsList b us.toArray := hl'.at fun o e => keeps_kp X.back _ _ (hss _ _ e)
  -- divisor
  refine s_assignI (n := dv) X rfl rfl (pu_callF0 (c₁.glob rfl rfl rfl rfl) (c₁.kx 26 _ rfl) rfl (law_divisor (A := A.deeper _) c₁ hA hd)) fun t₂ s₂ k₂ X₂ => ?_
  have c₂ : Cx (Kk w) s₂.heap := (c.up hss).up (keeps_kp X₂.back)
  have l₂ := X.lst l₁ k₂
  have l₂' := X.lst l₁' k₂
  -- bits
  refine s_assignComp (zs := (bitsOf (hs ++ [0, 0, 0, 0] ++ ts ++ [0, 0, 0, 0])).map .int) (ks := hs ++ [0, 0, 0, 0] ++ ts ++ [0, 0, 0, 0]) hA X₂ rfl rfl rfl rfl (by decide)
    (it_list (el_add (el_add (el_add (el_name (X₂.ld rfl rfl rfl) l₂ hi) (el_list (by repeat (first | exact EIs.nil | refine EIs.cons ei_const rfl ?_)) (by decide)) (by simp; omega)) (el_name (X₂.ld rfl rfl rfl) l₂' hi') (by simp; omega)) (el_list (by repeat (first | exact EIs.nil | refine EIs.cons ei_const rfl ?_)) (by decide)) (by simp; omega))) ?_ ?_
  · rw [show (bitsOf (hs ++ [0, 0, 0, 0] ++ ts ++ [0, 0, 0, 0])).map Cl.int = _ from flat_int (rangeKs 0 8) (fun b n => (b.fdiv (2 ^ n.toNat)).fmod 2) _]
    refine lo_two (A := A.deeper _) hA (fun _ => rangeKs 0 8) (fun _ _ => true) (fun k j => .int ((k.fdiv (2 ^ j.toNat)).fmod 2)) 8 (by decide) (by decide) rfl rfl rfl ?_ (by intros; rfl) (fun _ _ _ _ _ _ _ _ _ _ _ _ _ => tests_nil) ?_ (by intro k _; simp [rangeKs]) (by simp; omega)
    · intro k t C g m hk kg hn hm
      exact rg_1 (n := 8) ((c₂.up kg).built rfl rfl rfl rfl rfl (by decide) boot_range) ei_const (by decide) (by decide)
    · intro k t j u C g m hk hj _ kg hn hm hm'
      have hj' := rk_mem hj
      exact new_int (ei_bin (ei_bin (ei_name (.loc m rfl rfl hn hm)) (ei_bin ei_const (ei_name (.loc m rfl rfl hn hm')) (o_pow hj'.1 (by omega) (by decide))) (o_div (pw_ne _) (pw_log (by omega)))) ei_const (o_mod (by decide)))
  · intro v s₃ hv hv' k₃ X₃
    obtain ⟨a₃, vs₃, rfl, l₃, i₃⟩ := isCL_ints hv
    have c₃ : Cx (Kk w) s₃.heap := (c.up hss).up (keeps_kp X₃.back)
    have l₃' := X₂.lst l₂' k₃
    have hlen : (bitsOf (hs ++ [0, 0, 0, 0] ++ ts ++ [0, 0, 0, 0])).length = 8 * (hs.length + ts.length + 8) := by
      have : ∀ l : List Int, (bitsOf l).length = 8 * l.length := by
        intro l
        induction l with
        | nil => rfl
        | cons x r ih =>
          rw [bitsOf, List.flatMap_cons, List.length_append, List.length_map, rangeKs_length, List.length_cons]
          have ih' : (r.flatMap fun b => (rangeKs 0 8).map fun n => (b.fdiv (2 ^ n.toNat)).fmod 2).length = 8 * r.length := ih
          omega
      rw [this]
      simp
      omega
    generalize hbits : bitsOf (hs ++ [0, 0, 0, 0] ++ ts ++ [0, 0, 0, 0]) = bits at *
    -- rest = 0
    refine s_assignC X₃ rfl rfl rfl ei_const fun t₄ s₄ k₄ X₄ => ?_
    have c₄ : Cx (Kk w) s₄.heap := (c.up hss).up (keeps_kp X₄.back)
    have l₄ := X₃.lst l₃ k₄
    have l₄' := X₃.lst l₃' k₄
    -- the division
    refine s_for (fun i m cm => (m (Str.ofString "divisor") = some (.int dv t₂) ∧ m (Str.ofString "wished") = some (.int wi tw) ∧ m (Str.ofString "tail") = some (.ref b) ∧ m (Str.ofString "bits") = some (.ref a₃)) ∧ ∃ t, cm (Str.ofString "rest") = some (.int (((rangeKs 0 bits.length).take i).foldl (f1 bits) 0) t)) hA X₄ rfl rfl
      (it_range1 (n := bits.length) (c₄.built rfl rfl rfl rfl rfl (by decide) boot_range) (ei_len (c₄.built rfl rfl rfl rfl rfl (by decide) boot_len) (el_name (X₄.ld rfl rfl rfl) l₄ i₃) (by omega)) (by omega) (by omega)) ⟨⟨rfl, rfl, rfl, rfl⟩, t₄, rfl⟩ ?_ ?_
    · rintro i k u m₁ cm₁ s₅ hk ⟨hm, t₅, hr⟩ X₅ k₅
      have hk' := rk_get hk
      have l₅ := X₄.lst l₄ k₅
      have hkl : k < (bits.length : Int) := by simpa using hk'.2
      generalize hR : ((rangeKs 0 bits.length).take i).foldl (f1 bits) 0 = r at hr
      refine s_assignC X₅ rfl rfl rfl (ei_bin (ei_bin ei_const (ei_name (X₅.ldc rfl rfl rfl hr)) (o_mul (IntMulOk.of_left (by decide))))
        (ei_ifexp (eb_cmp (ei_name (X₅.ld rfl rfl rfl)) ei_const c_lt) (fun _ => ei_bin ei_const (ei_item (el_name (X₅.ld rfl rfl hm.2.2.2) l₅ i₃) (ei_name (X₅.ld rfl rfl rfl)) hk'.1 hkl (by omega)) o_sub)
          (fun _ => ei_item (el_name (X₅.ld rfl rfl hm.2.2.2) l₅ i₃) (ei_name (X₅.ld rfl rfl rfl)) hk'.1 hkl (by omega))) o_add) fun t₆ s₆ k₆ X₆ => ?_
      refine s_if X₆ (eb_cmp (ei_name (X₆.ldc rfl rfl rfl rfl)) (ei_bin ei_const ei_const (o_pow (by decide) (by decide) (by decide))) c_ge) fun s₇ X₇ k₇ => ?_
      have hf1 : ((rangeKs 0 bits.length).take (i + 1)).foldl (f1 bits) 0 = f1 bits r k := by rw [foldl_take_succ (by simpa using hk), hR]
      rw [hf1]
      have hdec : (if (decide (k < 32)) = true then 1 - bits.getD k.toNat 0 else bits.getD k.toNat 0) = (if k < 32 then 1 - bits.getD k.toNat 0 else bits.getD k.toNat 0) := by simp
      by_cases hge : (2 : Int) ^ 32 ≤ 2 * r + (if k < 32 then 1 - bits.getD k.toNat 0 else bits.getD k.toNat 0)
      · rw [if_pos (by rw [hdec]; exact decide_eq_true hge)]
        refine s_assignC X₇ rfl rfl rfl (ei_bin (ei_name (X₇.ldc rfl rfl rfl rfl)) (ei_name (X₇.ld rfl rfl hm.1)) o_xor) fun t₈ s₈ k₈ X₈ => s_nil ⟨rfl, s_nil ⟨rfl, _, _, X₈, (k₆.trans k₇).trans k₈, hm, t₈, ?_⟩⟩
        show some _ = some _
        rw [f1, if_pos hge, hdec]
      · rw [if_neg (by rw [hdec]; simpa using hge)]
        refine s_nil ⟨rfl, s_nil ⟨rfl, _, _, X₇, k₆.trans k₇, hm, t₆, ?_⟩⟩
        show some _ = some _
        rw [f1, if_neg hge, hdec]
    · rintro m₁ cm₁ s₅ ⟨hm, t₅, hr⟩ X₅ k₅
      rw [rangeKs_length, Int.toNat_natCast, List.take_of_length_le (by simp [rangeKs_length])] at hr
      have c₅ : Cx (Kk w) s₅.heap := (c.up hss).up (keeps_kp X₅.back)
      have l₅' := X₄.lst l₄' k₅
      -- the wished sum
      refine s_for (fun i m cm => (m (Str.ofString "divisor") = some (.int dv t₂) ∧ m (Str.ofString "wished") = some (.int wi tw) ∧ m (Str.ofString "tail") = some (.ref b)) ∧ ∃ t, cm (Str.ofString "rest") = some (.int (((rangeKs 0 32).take i).foldl (f2 wi) ((rangeKs 0 bits.length).foldl (f1 bits) 0)) t)) hA X₅ rfl rfl
        (it_range1 (n := 32) (c₅.built rfl rfl rfl rfl rfl (by decide) boot_range) ei_const (by decide) (by decide)) ⟨⟨hm.1, hm.2.1, hm.2.2.1⟩, t₅, hr⟩ ?_ ?_
      · rintro i k u m₂ cm₂ s₆ hk ⟨hm', t₆, hr'⟩ X₆ k₆
        have hk' := rk_get hk
        have hk32 : k < 32 := by simpa using hk'.2
        generalize hR : ((rangeKs 0 32).take i).foldl (f2 wi) ((rangeKs 0 bits.length).foldl (f1 bits) 0) = r at hr'
        refine s_if X₆ (eb_cmp (ei_bin (ei_bin (ei_name (X₆.ld rfl rfl hm'.2.1)) (ei_bin ei_const (ei_name (X₆.ld rfl rfl rfl)) (o_pow hk'.1 (by omega) (by decide))) (o_div (pw_ne _) (pw_log (by omega)))) ei_const (o_mod (by decide))) ei_const c_eq) fun s₇ X₇ k₇ => ?_
        have hf : ((rangeKs 0 32).take (i + 1)).foldl (f2 wi) ((rangeKs 0 bits.length).foldl (f1 bits) 0) = f2 wi r k := by rw [foldl_take_succ (by simpa using hk), hR]
        rw [hf]
        by_cases hge : (wi.fdiv (2 ^ k.toNat)).fmod 2 = 0
        · rw [if_pos (by simpa using hge)]
          refine s_assignC X₇ rfl rfl rfl (ei_bin (ei_name (X₇.ldc rfl rfl rfl hr')) (ei_bin ei_const (ei_bin ei_const (ei_name (X₇.ld rfl rfl rfl)) o_sub) (o_pow (by omega) (by omega) (by decide))) o_xor) fun t₈ s₈ k₈ X₈ => s_nil ⟨rfl, s_nil ⟨rfl, _, _, X₈, k₇.trans k₈, hm', t₈, ?_⟩⟩
          show some _ = some _
          rw [f2, if_pos hge]
        · rw [if_neg (by simpa using hge)]
          refine s_nil ⟨rfl, s_nil ⟨rfl, _, _, X₇, k₇, hm', t₆, ?_⟩⟩
          rw [f2, if_neg hge]
          exact hr'
      · rintro m₂ cm₂ s₆ ⟨hm', t₆, hr'⟩ X₆ k₆
        rw [rangeKs_length, List.take_of_length_le (by simp [rangeKs_length])] at hr'
        have c₆ : Cx (Kk w) s₆.heap := (c.up hss).up (keeps_kp X₆.back)
        have l₆' := X₅.lst l₅' k₆
        -- division by x
        refine s_for (fun i m cm => (m (Str.ofString "divisor") = some (.int dv t₂)) ∧ ∃ t, cm (Str.ofString "rest") = some (.int (((rangeKs 0 (8 * ts.length + 32)).take i).foldl f3 ((rangeKs 0 32).foldl (f2 wi) ((rangeKs 0 bits.length).foldl (f1 bits) 0))) t)) hA X₆ rfl rfl
          (it_range1 (n := 8 * (ts.length : Int) + 32) (c₆.built rfl rfl rfl rfl rfl (by decide) boot_range) (ei_bin (ei_bin ei_const (ei_len (c₆.built rfl rfl rfl rfl rfl (by decide) boot_len) (el_name (X₆.ld rfl rfl hm'.2.2) l₆' hi') (by omega)) (o_mul (IntMulOk.of_left (by decide)))) ei_const o_add) (by omega) (by omega)) ⟨hm'.1, t₆, hr'⟩ ?_ ?_
        · rintro i k u m₃ cm₃ s₇ hk ⟨hm'', t₇, hr''⟩ X₇ k₇
          generalize hR : ((rangeKs 0 (8 * ts.length + 32)).take i).foldl f3 ((rangeKs 0 32).foldl (f2 wi) ((rangeKs 0 bits.length).foldl (f1 bits) 0)) = r at hr''
          have eN : (8 * (ts.length : Int) + 32).toNat = 8 * ts.length + 32 := by omega
          rw [eN] at hk
          have hf : ((rangeKs 0 (8 * ts.length + 32)).take (i + 1)).foldl f3 ((rangeKs 0 32).foldl (f2 wi) ((rangeKs 0 bits.length).foldl (f1 bits) 0)) = f3 r k := by rw [foldl_take_succ hk, hR]
          rw [hf]
          refine s_if X₇ (eb_cmp (ei_bin (ei_name (X₇.ldc rfl rfl rfl hr'')) ei_const (o_mod (by decide))) ei_const c_eq) fun s₈ X₈ k₈ => ?_
          by_cases hge : r.fmod 2 = 1
          · rw [if_pos (by simpa using hge)]
            refine s_assignC X₈ rfl rfl rfl (ei_bin (ei_name (X₈.ldc rfl rfl rfl hr'')) (ei_name (X₈.ld rfl rfl hm'')) o_xor) fun t₉ s₉ k₉ X₉ => s_nil ⟨rfl, ?_⟩
            refine s_assignC X₉ rfl rfl rfl (ei_bin (ei_name (X₉.ldc rfl rfl rfl rfl)) ei_const (o_div (by decide) (by decide +kernel))) fun t₁₀ s₁₀ k₁₀ X₁₀ => s_nil ⟨rfl, _, _, X₁₀, (k₈.trans k₉).trans k₁₀, hm'', t₁₀, ?_⟩
            show some _ = some _
            rw [f3, if_pos hge]
          · rw [if_neg (by simpa using hge)]
            refine s_nil ⟨rfl, ?_⟩
            refine s_assignC X₈ rfl rfl rfl (ei_bin (ei_name (X₈.ldc rfl rfl rfl hr'')) ei_const (o_div (by decide) (by decide +kernel))) fun t₁₀ s₁₀ k₁₀ X₁₀ => s_nil ⟨rfl, _, _, X₁₀, k₈.trans k₁₀, hm'', t₁₀, ?_⟩
            show some _ = some _
            rw [f3, if_neg hge]
        · rintro m₃ cm₃ s₇ ⟨hm'', t₇, hr''⟩ X₇ k₇
          have eN : (8 * (ts.length : Int) + 32).toNat = 8 * ts.length + 32 := by omega
          rw [rangeKs_length, eN, List.take_of_length_le (by simp [rangeKs_length])] at hr''
          have c₇ : Cx (Kk w) s₇.heap := (c.up hss).up (keeps_kp X₇.back)
          have hr3 : (rangeKs 0 (8 * ts.length + 32)).foldl f3 ((rangeKs 0 32).foldl (f2 wi) ((rangeKs 0 bits.length).foldl (f1 bits) 0)) = rest3 hs ts wi := by rw [rest3, hbits]
          rw [hr3] at hr''
          refine s_return (R := IsL (fourOf hs ts wi)) ?_ fun v s₈ hv k₈ => ⟨v, rfl, hv, keeps_trans X₇.back k₈⟩
          refine (pu_comp (A := A.deeper _) (ks := rangeKs 0 4) hA rfl rfl (by decide) (it_range1 (n := 4) (c₇.built rfl rfl rfl rfl rfl (by decide) boot_range) ei_const (by decide) (by decide))
            (lo_cell (fun _ => true) (fun k => Cl.int (((rangeKs 0 8).map fun n => ((rest3 hs ts wi).fdiv (2 ^ (31 - 8 * k - n).toNat)).fmod 2 * 2 ^ n.toNat).sum)) (fun n => rfl) (fun g => rfl) rfl (fun C => rfl) (fun _ _ _ _ _ _ _ => tests_nil) ?_ (by simp [rangeKs]; omega))).mono ?_
          · intro k t C g hk _ kg hc
            have hk' := rk_mem hk
            have cg := c₇.up kg
            refine new_int (ei_sum (A := A.deeper _) hA (cg.built rfl rfl rfl rfl rfl (by decide) boot_sum') ?_)
            refine el_map (A := A.deeper _) _ hA rfl (by decide) rfl (by decide) rfl (it_range1 (n := 8) (cg.built rfl rfl rfl rfl rfl (by decide) boot_range) ei_const (by decide) (by decide)) ?_ (by simp [rangeKs]; omega)
            intro n u C' g' m' hn kg' hns hm'
            have hn' := rk_mem hn
            have hrc : g'.IsCell _ (some (.int (rest3 hs ts wi) t₇)) := ((hr'' ▸ X₇.cell (Str.ofString "rest") _ rfl).keeps kg).keeps kg'
            have hkc : g'.IsCell _ (some (.int k t)) := hc.keeps kg'
            have hn8 : n < 8 := by simpa using hn'.2
            have hk4 : k < 4 := by simpa using hk'.2
            exact ei_bin (ei_bin (ei_bin (ei_name (.cell _ rfl rfl rfl hrc)) (ei_bin ei_const (ei_bin (ei_bin ei_const (ei_bin ei_const (ei_name (.cell _ rfl rfl rfl hkc)) (o_mul (IntMulOk.of_left (by decide)))) o_sub) (ei_name (.loc m' rfl rfl hns hm')) o_sub) (o_pow (by omega) (by omega) (by decide))) (o_div (pw_ne _) (pw_log (by omega)))) ei_const (o_mod (by decide)))
              (ei_bin ei_const (ei_name (.loc m' rfl rfl hns hm')) (o_pow (by omega) (by omega) (by decide))) (o_mul (IntMulOk.of_left (bits_mod2 _)))
          · intro v g _ hv
            have e : ((rangeKs 0 4).filter fun _ => true) = rangeKs 0 4 := List.filter_eq_self.mpr fun _ _ => rfl
            have hv1 := hv.1
            rw [e] at hv1
            refine isCL_ints (ns := fourOf hs ts wi) ?_
            rw [fourOf, List.map_map]
            exact hv1
end
end Mine

-- G1c
namespace Mine
def rowOf (ns : List Int) : List Int := (ns.take 16).map fun x => x.fmod 256
def placeOf (ns : List Int) : Int := (wishOf (ns.take 16)).fmod ((rowOf ns).length + 1)
def lawOf (ns : List Int) : Bool :=
  crcOf ((rowOf ns).take (placeOf ns).toNat ++ fourOf ((rowOf ns).take (placeOf ns).toNat) ((rowOf ns).drop (placeOf ns).toNat) (wishOf (ns.take 16)) ++ (rowOf ns).drop (placeOf ns).toNat) == wishOf (ns.take 16)
section
variable {w : World} {A : Around} {h : Heap}
set_option maxHeartbeats 1000000
theorem fourOf_length (a b : List Int) (x : Int) : (fourOf a b x).length = 4 := by simp [fourOf, rangeKs]
theorem law_law (c : Cx (Kk w) h) (hA : A.handled = none) (hd : A.depth + 3 < recursionLimit) {a : Addr} {vs : List Value} {ns : List Int} (hl : h.IsList a vs.toArray) (hi : IntsAre vs ns) (hn : ns.length ≤ 63) :
    Pu pg w A h (call (.ref 50) [.ref a]) (fun v _ => v = .bool (lawOf ns)) := by
  have sz := sizeLine_eq
  refine pu_def (a := 50) (fd := fdAt w.params 50) (binds := [(Str.ofString "script", .ref a)]) (by omega) (c.kx 50 _ rfl) rfl c.nolim (codeRec_of c.kx rfl) rfl rfl rfl (fun L => kindsX rfl (L + 1)) ?_
  intro s s₁ hss X
  have c₁ : Cx (Kk w) s₁.heap := (c.up hss).up (keeps_kp X.back)
  have l₁ : s₁.heap.IsList a vs.toArray := hl.at fun o e => keeps_kp X.back _ _ (hss _ _ e)
  have hrl : (rowOf ns).length ≤ 16 := by simp [rowOf]; omega
  -- row
  refine s_assignComp (zs := (rowOf ns).map .int) (ks := ns.take 16) hA X rfl rfl rfl rfl (by decide) (it_list (el_upto (y := 16) (el_name (X.ld rfl rfl rfl) l₁ hi) ei_const (by decide) (by omega))) ?_ ?_
  · have e : (rowOf ns).map Cl.int = ((ns.take 16).filter fun _ => true).map fun x => Cl.int (x.fmod 256) := by
      rw [List.filter_eq_self.mpr fun _ _ => rfl, rowOf, List.map_map]; rfl
    rw [e]
    exact lo_one (A := A.deeper _) (fun _ => true) (fun x => Cl.int (x.fmod 256)) (by decide) rfl rfl (fun _ _ _ _ _ _ _ _ _ => tests_nil) (fun k t C g m hk _ kg hn hm => new_int (ei_bin (ei_name (.loc m rfl rfl hn hm)) ei_const (o_mod (by decide)))) (by simp; omega)
  intro v s₂ hv _ k₂ X₂
  obtain ⟨a₂, vs₂, rfl, l₂, i₂⟩ := isCL_ints hv
  have c₂ : Cx (Kk w) s₂.heap := (c.up hss).up (keeps_kp X₂.back)
  have l₂' := X.lst l₁ k₂
  -- wished
  refine s_assignI (n := wishOf (ns.take 16)) X₂ rfl rfl (pu_callF (c₂.glob rfl rfl rfl rfl) (c₂.kx 33 _ rfl) rfl (pa_cons (el_upto (y := 16) (el_name (X₂.ld rfl rfl rfl) l₂' hi) ei_const (by decide) (by omega)) fun v g kg hv => ?_)) ?_
  · obtain ⟨a', vs', rfl, l', i'⟩ := hv
    exact pa_nil fun g' kg' => law_wished (A := A.deeper _) (c₂.up (kg.trans kg')) hA (by show A.depth + 1 + 1 < recursionLimit; omega) (l'.at fun o e => kg' _ _ e) i'
  intro t₃ s₃ k₃ X₃
  have c₃ : Cx (Kk w) s₃.heap := (c.up hss).up (keeps_kp X₃.back)
  have l₃ := X₂.lst l₂ k₃
  -- place
  refine s_assignI (n := placeOf ns) X₃ rfl rfl (ei_bin (ei_name (X₃.ld rfl rfl rfl)) (ei_bin (ei_len (c₃.built rfl rfl rfl rfl rfl (by decide) boot_len) (el_name (X₃.ld rfl rfl rfl) l₃ i₂) (by omega)) ei_const o_add) (o_mod (by omega))) fun t₄ s₄ k₄ X₄ => ?_
  have c₄ : Cx (Kk w) s₄.heap := (c.up hss).up (keeps_kp X₄.back)
  have l₄ := X₃.lst l₃ k₄
  have hp0 : 0 ≤ placeOf ns := Int.fmod_nonneg_of_pos _ (by omega)
  -- four
  refine s_assignL (ns := fourOf ((rowOf ns).take (placeOf ns).toNat) ((rowOf ns).drop (placeOf ns).toNat) (wishOf (ns.take 16))) X₄ rfl rfl (pu_callF (c₄.glob rfl rfl rfl rfl) (c₄.kx 38 _ rfl) rfl
    (pa_cons (el_upto (el_name (X₄.ld rfl rfl rfl) l₄ i₂) (ei_name (X₄.ld rfl rfl rfl)) hp0 (by omega)) fun v g kg hv => pa_cons ((el_from (el_name (X₄.ld rfl rfl rfl) l₄ i₂) (ei_name (X₄.ld rfl rfl rfl)) hp0 (by omega)).up kg) fun v' g' kg' hv' => pa_cons ((ei_name (X₄.ld rfl rfl rfl)).up (kg.trans kg')) fun v'' g'' kg'' hv'' => ?_)) ?_
  · obtain ⟨a', vs', rfl, l', i'⟩ := hv
    obtain ⟨b', us', rfl, m', j'⟩ := hv'
    obtain ⟨t', rfl⟩ := hv''
    refine pa_nil fun g₃ kg₃ => law_four (A := A.deeper _) (c₄.up (kg.trans (kg'.trans (kg''.trans kg₃)))) hA (by show A.depth + 1 + 2 < recursionLimit; omega) (l'.at fun o e => kg₃ _ _ (kg'' _ _ (kg' _ _ e))) i' (m'.at fun o e => kg₃ _ _ (kg'' _ _ e)) j' ?_
    simp
    omega
  intro a₅ vs₅ s₅ l₅ i₅ k₅ X₅
  have c₅ : Cx (Kk w) s₅.heap := (c.up hss).up (keeps_kp X₅.back)
  have l₅' := X₄.lst l₄ k₅
  -- the end
  refine s_return (R := fun v _ => v = .bool (lawOf ns)) (ev_cmp (x := crcOf ((rowOf ns).take (placeOf ns).toNat ++ fourOf ((rowOf ns).take (placeOf ns).toNat) ((rowOf ns).drop (placeOf ns).toNat) (wishOf (ns.take 16)) ++ (rowOf ns).drop (placeOf ns).toNat))
    (pu_callF (c₅.glob rfl rfl rfl rfl) (c₅.kx 45 _ rfl) rfl (pa_cons (el_add (el_add (el_upto (el_name (X₅.ld rfl rfl rfl) l₅' i₂) (ei_name (X₅.ld rfl rfl rfl)) hp0 (by omega)) (el_name (X₅.ld rfl rfl rfl) l₅ i₅) ?_) (el_from (el_name (X₅.ld rfl rfl rfl) l₅' i₂) (ei_name (X₅.ld rfl rfl rfl)) hp0 (by omega)) ?_) fun v g kg hv => ?_)) (ei_name (X₅.ld rfl rfl rfl)) c_eq) fun v s₆ hv k₆ => ⟨v, rfl, hv, keeps_trans X₅.back k₆⟩
  · rw [fourOf_length, List.length_take]; omega
  · rw [List.length_append, fourOf_length, List.length_take, List.length_drop]; omega
  · obtain ⟨a', vs', rfl, l', i'⟩ := hv
    exact pa_nil fun g₃ kg₃ => law_crc (A := A.deeper _) (c₅.up (kg.trans kg₃)) hA (by show A.depth + 1 + 2 < recursionLimit; omega) (l'.at fun o e => kg₃ _ _ e) i'
end
end Mine

-- E1
namespace Mine
theorem wish_range (ns : List Int) : 0 ≤ wishOf ns ∧ wishOf ns < 2 ^ 32 := by
  have : ∀ (l : List Int) (a : Int), (0 ≤ a ∧ a < 2 ^ 32) → 0 ≤ l.foldl (fun a x => (31 * a + x.fdiv 256).fmod (2 ^ 32)) a ∧ l.foldl (fun a x => (31 * a + x.fdiv 256).fmod (2 ^ 32)) a < 2 ^ 32 := by
    intro l
    induction l with
    | nil => intro a h; exact h
    | cons x r ih => intro a _; exact ih _ ⟨Int.fmod_nonneg_of_pos _ (by decide), Int.fmod_lt_of_pos _ (by decide)⟩
  exact this ns 0 (by decide)
theorem row_range (ns : List Int) : ∀ b ∈ rowOf ns, 0 ≤ b ∧ b < 256 := by
  intro b hb
  obtain ⟨x, _, rfl⟩ := List.mem_map.mp hb
  exact ⟨Int.fmod_nonneg_of_pos _ (by decide), Int.fmod_lt_of_pos _ (by decide)⟩
theorem lawOf_true (ns : List Int) : lawOf ns = true := by
  unfold lawOf
  rw [plain_law _ _ _ (fun b hb => row_range ns b (List.mem_of_mem_take hb)) (fun b hb => row_range ns b (List.mem_of_mem_drop hb)) (wish_range _).1 (wish_range _).2]
  simp
end Mine
set_option maxHeartbeats 4000000 in
theorem PySem.Challenge.cw_ki0113_01_holds : PySem.Challenge.rw_ki0113_01.Holds := by
  refine Mine.hd ?_
  w_on
  intro w s₀ s₁ mg mb G Y fa o pm cd doc dV kV ho hd hcd hD hmg hg args vals as hpre hlay hrd hwl hlo
  have KX := kIn_of Y
  clear hd hcd hD ho
  refine Ground.open G ?_
  intro T B D TE TW
  wrow_args hpre hlay hrd hwl hlo
  rename_i ns _ _ _ _ _ _ _ l vs _ hl _ _ _ hi _ hc _
  have e1 : mg (Str.ofString "law") = some (.ref 50) := mg_of KX T.g rfl
  have e2 : mg (Str.ofString "law") = some (.ref fa) := hmg
  have e3 : fa = 50 := by rw [e1] at e2; cases e2; rfl
  subst e3
  refine (Mine.law_law (A := callerA) ⟨KX, T.nolimit, mg, mb, T.g, T.b, T.builtins⟩ rfl (by decide) hl hi (by omega)).use Mine.Kp.rfl fun v s' hv k => ?_
  rw [Mine.lawOf_true] at hv
  subst hv
  obtain ⟨h', tk, rfl, kk⟩ := k
  exact GoodW.toG ⟨.inl ⟨.bool true, .bool true, [], rfl, fun _ => rfl, .bool true, postW_of rfl (w_eq_bool (w_res rfl) w_lit) rfl, unshared_nil⟩, kk, rfl, hg⟩

