import PyProof.Rows.All
import Wide.All
import OpenK.AllK
import Wide.FinOn
import PySem.Challenge.RW_ci0002_01
open PySem PySem.W PyProof.Rows
set_option Elab.async false
set_option maxRecDepth 100000
set_option maxHeartbeats 8000000
namespace Mine
open_top hd for PySem.Challenge.rw_ci0002_01
end Mine
set_option maxHeartbeats 8000000
namespace Mine
noncomputable abbrev Pg : Program := PySem.Challenge.rw_ci0002_01.row.prog
noncomputable abbrev Kg (w : World) : Frag := hd.heap_39 w.params
noncomputable abbrev Lo : List Str := looseW hd.view_39 [Str.ofString "Sha256", Str.ofString "hashlib"]
noncomputable abbrev Tp (mean : ExcName → Option Value) (mg mb : Str → Option Value) (h : Heap) : Prop := Top hd.view_39 Lo mean mg mb h

/-- the number that bytes spell, big end first -/
@[irreducible] def valB (b : Array UInt8) : Nat := b.toList.foldl (fun (acc : Nat) (c : UInt8) => acc * 256 + c.toNat) 0
theorem valB_lt (b : Array UInt8) : valB b < 256 ^ b.size := by
  unfold valB
  have h := KFB.fold_lt b.toList 0
  rw [Nat.zero_add, Nat.one_mul, Array.length_toList] at h
  exact h
theorem valB_bound {b : Array UInt8} {n : Nat} (h : b.size ≤ n) : valB b < 2 ^ (8 * n) := by
  have h1 := valB_lt b
  have h2 : 256 ^ b.size ≤ 256 ^ n := Nat.pow_le_pow_right (by decide) h
  have e : (2 : Nat) ^ (8 * n) = 256 ^ n := by rw [Nat.pow_mul]
  omega

section
variable {prog : Program} {w : World} {M : Model} {A : Around} {E : Value → Shared → Prop} {s : Shared}
theorem grownB {n : Nat} {Q : Value → Shared → Prop} (hn : n < 2 ^ 4096) (h : Q (.int (n : Int) s.toks) { s with toks := s.toks + 1 }) : wpAny M A (mkIntGrown (n : Int)) Q E s := by
  unfold mkIntGrown
  have hl : ¬ ((n : Int).natAbs.log2 ≥ bitsLine) := by
    rw [Int.natAbs_natCast, bitsLine_eq]
    by_cases hz : n = 0
    · subst hz
      decide
    · have h1 := (Nat.log2_lt hz).mpr hn
      omega
  rw [if_neg hl]
  exact wpAny_mkInt h
theorem from_tree {b : Array UInt8} {t u : Tok} {P : Fin → Shared → Prop} (hl : b.size ≤ 512) (h : P (.done (.ret (.int (valB b : Int) s.toks))) { s with toks := s.toks + 1 }) :
    wpAny M A (Builtin.«int.from_bytes» ⟨[.type "int", .bytes b t, .str (PySem.Str.ofString "big") u], []⟩) P E s := by
  have hn : valB b < 2 ^ 4096 := valB_bound hl
  unfold valB at hn h
  unfold Builtin.«int.from_bytes»
  refine wpAny_bind (wpAny_of_eq (a := true) KFB.type_int ?_)
  refine KFB.if_not rfl ?_
  refine wpAny_bind (wpAny_of_eq (a := true) F.conv_sub_int ?_)
  refine KFB.if_not rfl ?_
  refine wpAny_bind (wpAny_of_eq (a := [some (.bytes b t), some (.str (PySem.Str.ofString "big") u), none]) (by kernel_rfl) ?_)
  refine wpAny_bind (wpAny_of_eq (a := PySem.Str.ofString "big") (by kernel_rfl) ?_)
  refine wpAny_bind (wpAny_of_eq (a := false) rfl ?_)
  refine wpAny_bind (wpAny_of_eq (a := false) (by kernel_rfl) ?_)
  refine wpAny_bind (wpAny_of_eq (a := b) rfl ?_)
  show wpAny _ _ (mkIntGrown (b.toList.foldl (fun (acc : Int) (b : UInt8) => acc * 256 + (b.toNat : Int)) ((0 : Nat) : Int)) >>= fun v => _) _ _ _
  rw [KFB.foldI_eq]
  refine wpAny_bind (grownB hn ?_)
  refine KFB.if_so (by decide +kernel) ?_
  exact wpAny_bind (wpAny_pure (wpAny_pure h))
theorem from_bytes {h₀ : Heap} {L : Addr} {news : List (Addr × Obj)} {x : Addr} {b : Array UInt8} {t u : Tok} {Q : Value → Shared → Prop} (N : News h₀ L s.heap news) (hm : (x, KFB.bound) ∈ news) (hl : b.size ≤ 512)
    (h : ∀ t' k, Q (.int (valB b : Int) t') { s with toks := k }) : wpAny (model prog w) A (call (.ref x) [.bytes b t, .str (PySem.Str.ofString "big") u]) Q E s :=
  KFB.call_of (KFB.at_of N hm) (fun z => from_tree hl z) (h _ _)

theorem mulOk {a b : Int} (ha : a.natAbs < 2 ^ 8192) (hb : b.natAbs < 2 ^ 8192) : IntMulOk a b := by
  have h1 := intBits_le_iff.mpr ha
  have h2 := intBits_le_iff.mpr hb
  unfold IntMulOk
  intro h
  have h3 : Builtin.Int.intTooBig (Builtin.Int.intBits a + Builtin.Int.intBits b) = false := by
    show decide (((Builtin.Int.intBits a + Builtin.Int.intBits b : Nat) : Int) > (bitsLine : Int)) = false
    rw [bitsLine_eq, decide_eq_false_iff_not]
    omega
  have e : ((Builtin.Int.intBits a : Int) + (Builtin.Int.intBits b : Int)) = ((Builtin.Int.intBits a + Builtin.Int.intBits b : Nat) : Int) := by push_cast; rfl
  first
    | (rw [h3] at h; simp at h)
    | (rw [e, h3] at h; simp at h)

theorem bInts_inj {b c : Array UInt8} (h : KBw.bInts b = KBw.bInts c) : b = c := by
  have : ∀ (l r : List UInt8), (l.map fun c => ((c.toNat : Nat) : Int)) = (r.map fun c => ((c.toNat : Nat) : Int)) → l = r := by
    intro l
    induction l with
    | nil => intro r h; cases r with
      | nil => rfl
      | cons _ _ => simp at h
    | cons a l ih => intro r h; cases r with
      | nil => simp at h
      | cons a' r =>
        simp only [List.map_cons, List.cons.injEq, Int.natCast_inj] at h
        rw [UInt8.toNat_inj.mp h.1, ih r h.2]
  exact Array.toList_inj.mp (this _ _ h)

/-- a number in k bytes, big end first -/
def toB (k n : Nat) : Array UInt8 := ((List.range k).reverse.map fun i => (n / 256 ^ i % 256).toUInt8).toArray
theorem toB_size (k n : Nat) : (toB k n).size = k := by simp [toB]
theorem toB_low {k n : Nat} (h : n < 256 ^ k) : (KTBy.low (n : Int) k).reverse.toArray = toB k n := by
  refine bInts_inj ?_
  have h1 : (n : Int) < 256 ^ k := by rw [KTBy.p256]; exact Int.ofNat_lt.mpr h
  show (KTBy.low (n : Int) k).reverse.map (fun c => ((c.toNat : Nat) : Int)) = ((List.range k).reverse.map fun i => (n / 256 ^ i % 256).toUInt8).map fun c => ((c.toNat : Nat) : Int)
  rw [List.map_reverse, KTBy.low_ints (by omega) h1, List.map_map, ← List.map_reverse]
  refine List.map_congr_left fun i _ => ?_
  rw [KTBy.p256]
  have e : (((n / 256 ^ i % 256).toUInt8).toNat) = n / 256 ^ i % 256 := by
    show (UInt8.ofNat (n / 256 ^ i % 256)).toNat = _
    rw [UInt8.toNat_ofNat']
    omega
  show (n : Int) / ((256 ^ i : Nat) : Int) % 256 = (((n / 256 ^ i % 256).toUInt8.toNat : Nat) : Int)
  rw [e]
  push_cast
  rfl

theorem to_bytes {n k : Nat} {t u v : Tok} {Q : Value → Shared → Prop} (hk : k ≤ 512) (h1 : n < 256 ^ k) (h : ∀ t' k', Q (.bytes (toB k n) t') { s with toks := k' }) :
    wpAny (model prog w) A (call (.builtin "int.to_bytes") [.int (n : Int) t, .int (k : Int) u, .str (PySem.Str.ofString "big") v]) Q E s := by
  refine wpAny_call_entry KTBy.slot (typeIs_int s (n : Int) t) KTBy.entry ?_ (KTBy.args _ _ _)
  have hb : Builtin.Int.intBits (n : Int) ≤ 8 * k := by
    refine intBits_le_iff.mpr ?_
    rw [Int.natAbs_natCast, Nat.pow_mul]
    exact h1
  show wpAny _ _ (Builtin.Int.intOfSelf (.int (n : Int) t) >>= fun y => _) _ _ s
  refine wpAny_bind (wpAny_of_eq (a := (n : Int)) rfl ?_)
  show wpAny _ _ (Builtin.Int.intBindNamed "to_bytes" ["length", "byteorder", "signed"] 0 2 [.int (k : Int) u, .str (PySem.Str.ofString "big") v] [] >>= fun l => _) _ _ s
  refine wpAny_bind (wpAny_of_eq (a := [some (.int (k : Int) u), some (.str (PySem.Str.ofString "big") v), none]) (by kernel_rfl) ?_)
  show wpAny _ _ (Builtin.Int.intIndex "int.to_bytes" (.int (k : Int) u) >>= fun n => _) _ _ s
  refine wpAny_bind (wpAny_of_eq (a := (k : Int)) rfl ?_)
  refine KTBy.if_not (by show (decide ((k : Int) < -(2 ^ 63 : Int)) || decide ((k : Int) ≥ 2 ^ 63)) = false; rw [decide_eq_false (show ¬ ((k : Int) < -(2 ^ 63 : Int)) by omega), decide_eq_false (show ¬ ((k : Int) ≥ 2 ^ 63) by omega)]; rfl) ?_
  refine wpAny_bind (wpAny_of_eq (a := PySem.Str.ofString "big") (by kernel_rfl) ?_)
  refine wpAny_bind (wpAny_of_eq (a := false) rfl ?_)
  refine wpAny_bind (wpAny_of_eq (a := false) (by kernel_rfl) ?_)
  refine wpAny_ite_false (decide_eq_false (show ¬ ((k : Int) < 0) by omega)) ?_
  refine wpAny_ite_false (decide_eq_false (show ¬ ((k : Int) > 2 ^ 63 - 1 - 33) by omega)) ?_
  refine wpAny_ite_false (decide_eq_false (show ¬ ((k : Int) > (sizeLine : Int)) by rw [sizeLine_eq]; omega)) ?_
  refine KTBy.if_not (by show (decide ((n : Int) < 0) && !false) = false; rw [decide_eq_false (show ¬ (n : Int) < 0 by omega)]; rfl) ?_
  refine KTBy.if_not (by show (_ && decide ((Builtin.Int.intBits (n : Int) : Int) > 8 * (k : Int))) = false; rw [decide_eq_false (show ¬ ((Builtin.Int.intBits (n : Int) : Int) > 8 * (k : Int)) by omega), Bool.and_false]) ?_
  refine wpAny_bind (wpAny_mkBytes (wpAny_pure ⟨_, rfl, ?_⟩) (by show (List.reverse (KTBy.low (n : Int) (Int.toNat (k : Int)))).length ≤ sizeLine; rw [List.length_reverse, KTBy.low_length, Int.toNat_natCast, sizeLine_eq]; omega))
  have e : (List.reverse (KTBy.low (n : Int) (Int.toNat (k : Int)))).toArray = toB k n := by rw [Int.toNat_natCast]; exact toB_low h1
  have h2 := h s.toks (s.toks + 1)
  rw [← e] at h2
  exact h2
end
end Mine
set_option maxHeartbeats 1000000
namespace Mine
def hashK : Nat := 48181483302151357469556550866566148933
def hashP : Nat := 2 ^ 255 - 19
def hashN (n : Nat) : Nat := n * n * hashK % hashP
/-- the stand-in's digest -/
@[irreducible] def sha (b : Array UInt8) : Array UInt8 := toB 32 (hashN (valB (#[1] ++ b)))
@[irreducible] def dsha (b : Array UInt8) : Array UInt8 := sha (sha b)
theorem sha_size (b : Array UInt8) : (sha b).size = 32 := by unfold sha; exact toB_size _ _
theorem hashN_lt (n : Nat) : hashN n < 256 ^ 32 := by
  have h : hashN n < hashP := Nat.mod_lt _ (by decide)
  have : hashP < 256 ^ 32 := by decide
  omega
theorem valB1 {b : Array UInt8} (h : b.size ≤ 256) : valB (#[1] ++ b) < 2 ^ 2056 := valB_bound (n := 257) (by simp; omega)
theorem sq_ok {b : Array UInt8} (h : b.size ≤ 256) : IntMulOk (valB (#[1] ++ b) : Int) (valB (#[1] ++ b) : Int) := by
  have h1 := valB1 h
  have h2 : (2 : Nat) ^ 2056 ≤ 2 ^ 8192 := Nat.pow_le_pow_right (by decide) (by decide)
  exact mulOk (by rw [Int.natAbs_natCast]; omega) (by rw [Int.natAbs_natCast]; omega)
theorem sqk_ok {b : Array UInt8} (h : b.size ≤ 256) : IntMulOk ((valB (#[1] ++ b) : Int) * (valB (#[1] ++ b) : Int)) 48181483302151357469556550866566148933 := by
  have h1 := valB1 h
  have h2 : (2 : Nat) ^ 2056 * 2 ^ 2056 ≤ 2 ^ 8192 := by rw [← Nat.pow_add]; exact Nat.pow_le_pow_right (by decide) (by decide)
  have h3 : valB (#[1] ++ b) * valB (#[1] ++ b) < 2 ^ 2056 * 2 ^ 2056 := Nat.mul_lt_mul'' h1 h1
  refine mulOk ?_ ?_
  · rw [Int.natAbs_mul, Int.natAbs_natCast]; omega
  · have : (48181483302151357469556550866566148933 : Int).natAbs < 2 ^ 8192 := Nat.lt_of_lt_of_le (show (48181483302151357469556550866566148933 : Int).natAbs < 2 ^ 128 by decide) (Nat.pow_le_pow_right (by decide) (by decide))
    exact this
local macro_rules | `(tactic| k_room) => `(tactic| ktr_room)
local macro_rules | `(tactic| k_mem) => `(tactic| first | with_reducible exact List.mem_cons_self .. | ((with_reducible refine List.mem_cons_of_mem _ ?_); k_mem))
local macro_rules | `(tactic| walk_at "call ref") => `(tactic| (k_here; (with_reducible show wpAny _ _ (call (Value.ref _) [Value.bytes _ _, Value.str _ _]) _ _ _); (refine' from_bytes ?k1 ?k2 ?k3 ?_); (case k1 => k_asm); (case k2 => k_mem); (case k3 => ((try simp only [Array.size_append, sha_size, List.size_toArray, List.length_cons, List.length_nil]); omega)); intro _ _))
local macro_rules | `(tactic| walk_at "binaryOp Add bytes bytes") => `(tactic| (k_here; (refine KBy.add_bytes (by ((try simp only [Array.size_append, sha_size, List.size_toArray, List.length_cons, List.length_nil]); omega)) ?_); intro _ _))
local macro_rules | `(tactic| walk_at "binaryOp Mult int int") => `(tactic| (k_here; first | (refine P.mul_int ?_ (sq_ok (by first | assumption | (rw [sha_size]; decide)))) | (refine P.mul_int ?_ (sqk_ok (by first | assumption | (rw [sha_size]; decide))))))

theorem to32 {prog : Program} {w : World} {A : Around} {E : Value → Shared → Prop} {s : Shared} {b : Array UInt8} {t u v : Tok} {Q : Value → Shared → Prop} (h : ∀ t' k', Q (.bytes (sha b) t') { s with toks := k' }) :
    wpAny (model prog w) A (call (.builtin "int.to_bytes") [.int (((valB (#[1] ++ b) : Int) * (valB (#[1] ++ b) : Int) * 48181483302151357469556550866566148933).fmod (2 ^ Int.toNat 255 - 19)) t, .int 32 u, .str (PySem.Str.ofString "big") v]) Q E s := by
  have e : ((valB (#[1] ++ b) : Int) * (valB (#[1] ++ b) : Int) * 48181483302151357469556550866566148933).fmod (2 ^ Int.toNat 255 - 19) = ((hashN (valB (#[1] ++ b)) : Nat) : Int) := by
    have eP : ((2 : Int) ^ Int.toNat 255 - 19) = ((hashP : Nat) : Int) := by decide +kernel
    have eK : (48181483302151357469556550866566148933 : Int) = ((hashK : Nat) : Int) := by decide +kernel
    rw [eP, eK]
    unfold hashN
    generalize hashK = k
    generalize hashP = p
    rw [Int.fmod_eq_emod_of_nonneg _ (Int.natCast_nonneg _), Int.natCast_emod, Int.natCast_mul, Int.natCast_mul]
  rw [e]
  refine to_bytes (k := 32) (by decide) (hashN_lt _) fun t' k' => ?_
  have h2 := h t' k'
  unfold sha at h2
  exact h2
local macro_rules | `(tactic| walk_at "call builtin:int.to_bytes") => `(tactic| (k_here; (with_reducible refine to32 ?_); intro _ _))

theorem dsha_ok {w : World} {mean : ExcName → Option Value} {mg mb : Str → Option Value} (b : Array UInt8) (tb : Tok) (hb : b.size ≤ 256)
    {dp un : Nat} {gd : Option (List Code)} {cn : Str} {cs : Scope} {a : Addr} {ccd : Value} {cl : List (Str × Addr)} {outer : List Env} {A₀ : Around} {base h₀ : Heap} {L : Addr} {m : Str → Option Value} {news : List (Addr × Obj)} {s : Shared} {Q E : Value → Shared → Prop}
    (B : Below A₀ base outer h₀) (F : Fr h₀ L s.heap m) (X : (Kg w).In h₀) (N : News h₀ L s.heap news) (T : Tp mean mg mb h₀) (hk : cs.kind = .function) (hd : dp + 4 < recursionLimit)
    (hret : ∀ t h' tk', Fr h₀ L h' m → News h₀ L h' news → Q (.bytes (dsha b) t) { s with heap := h', toks := tk' }) :
    wpAny (model Pg w) (ktrTop dp un gd cn cs L a ccd cl outer) (call (.ref 99) [.bytes b tb]) Q E s := by
  dsimp only [Pg, Kg, Lo, Tp] at *
  revert X
  k_fill
  intro X
  refine wpAny_call ?_
  k_dflt cell_enter
  w_top off
  k_steps
  all_goals unfold dsha at hret
  all_goals exact hret _ _ _ (by k_asm) (cb_drop (by k_asm) (by kcj_all))
end Mine
set_option maxHeartbeats 1000000
namespace Mine
/-- the digits of a number, the last one first -/
noncomputable def digs (B n : Nat) : List Nat := if _h : n = 0 ∨ B < 2 then [] else (n % B) :: digs B (n / B)
termination_by n
decreasing_by exact Nat.div_lt_self (by omega) (by omega)
theorem digs_zero (B : Nat) : digs B 0 = [] := by unfold digs; simp
theorem digs_pos {B n : Nat} (h : 0 < n) (hB : 2 ≤ B) : digs B n = (n % B) :: digs B (n / B) := by
  rw [digs]
  rw [dif_neg (by omega)]
def alpha : List Nat := [49, 50, 51, 52, 53, 54, 55, 56, 57, 65, 66, 67, 68, 69, 70, 71, 72, 74, 75, 76, 77, 78, 80, 81, 82, 83, 84, 85, 86, 87, 88, 89, 90, 97, 98, 99, 100, 101, 102, 103, 104, 105, 106, 107, 109, 110, 111, 112, 113, 114, 115, 116, 117, 118, 119, 120, 121, 122]
/-- the sign's code for a digit -/
def cd (d : Nat) : Nat := alpha.getD d 0
/-- the sign for a digit, a text of one sign -/
def sgn (d : Nat) : PySem.Str := ⟨#[cd d]⟩
theorem alpha_eq : (PySem.Str.ofString "123456789ABCDEFGHJKLMNPQRSTUVWXYZabcdefghijkmnopqrstuvwxyz").cps = alpha.toArray := by decide +kernel
theorem digs_length {B : Nat} (hB : 2 ≤ B) : ∀ (k n : Nat), n < 2 ^ k → (digs B n).length ≤ k
  | 0, n, h => by
    have : n = 0 := by simpa using h
    subst this
    rw [digs_zero]
    exact Nat.le_refl _
  | k + 1, n, h => by
    rcases Nat.eq_zero_or_pos n with h0 | h0
    · subst h0
      rw [digs_zero]
      exact Nat.zero_le _
    · rw [digs_pos h0 hB, List.length_cons]
      refine Nat.succ_le_succ (digs_length hB k (n / B) ?_)
      have h1 : n / B ≤ n / 2 := Nat.div_le_div_left hB (by decide)
      rw [Nat.pow_succ] at h
      omega
theorem enc_start (N : Nat) : 0 ≤ (N : Int) ∧ (N : Int) ≤ (N : Int) ∧ ([] : List PySem.Str) ++ (digs 58 (N : Int).toNat).map sgn = (digs 58 N).map sgn :=
  ⟨Int.natCast_nonneg _, Int.le_refl _, by rw [Int.toNat_natCast]; rfl⟩
theorem enc_turn {N : Nat} {n : Int} {chars : List PySem.Str} {x : PySem.Str} (h0 : 0 < n) (h1 : n ≤ (N : Int)) (h2 : chars ++ (digs 58 n.toNat).map sgn = (digs 58 N).map sgn) (hx : x = sgn (n.toNat % 58)) :
    0 ≤ n.fdiv 58 ∧ n.fdiv 58 ≤ (N : Int) ∧ (chars ++ [x]) ++ (digs 58 (n.fdiv 58).toNat).map sgn = (digs 58 N).map sgn := by
  obtain ⟨k, rfl⟩ := Int.eq_ofNat_of_zero_le (Int.le_of_lt h0)
  have e : ((k : Int).fdiv 58) = ((k / 58 : Nat) : Int) := by
    rw [Int.fdiv_eq_ediv_of_nonneg _ (by decide)]; rfl
  have hk : 0 < k := by omega
  rw [e]
  refine ⟨Int.natCast_nonneg _, by omega, ?_⟩
  rw [Int.toNat_natCast] at h2 hx ⊢
  rw [digs_pos hk (by decide), List.map_cons] at h2
  rw [← h2, hx, List.append_assoc]
  rfl
end Mine
set_option maxHeartbeats 1000000
namespace Mine
/-- how many items ahead are z -/
noncomputable def lead (z : Nat) : List Nat → Nat
  | [] => 0
  | k :: r => if k = z then lead z r + 1 else 0
theorem lead_le (z : Nat) : ∀ l : List Nat, lead z l ≤ l.length
  | [] => Nat.le_refl _
  | k :: r => by
    unfold lead
    split
    · have := lead_le z r
      simp only [List.length_cons]; omega
    · exact Nat.zero_le _
theorem lead_all {z : Nat} : ∀ {l r : List Nat}, (∀ k ∈ l, k = z) → lead z (l ++ r) = l.length + lead z r
  | [], r, _ => by simp
  | k :: l, r, h => by
    rw [List.cons_append, lead, if_pos (h k (.head _)), lead_all fun j hj => h j (.tail _ hj), List.length_cons]
    omega
/-- a text by its codes -/
def txt (l : List Nat) : PySem.Str := ⟨l.toArray⟩
/-- bytes by their numbers -/
def nb (b : Array UInt8) : List Nat := b.toList.map UInt8.toNat
theorem nb_length (b : Array UInt8) : (nb b).length = b.size := by simp [nb]
theorem bInts_nb (b : Array UInt8) : KBw.bInts b = (nb b).map fun (k : Nat) => (k : Int) := by
  unfold KBw.bInts nb
  rw [List.map_map]
  rfl
theorem item_sgn {i : Int} (h0 : 0 ≤ i) (h1 : i < 58) : Txt.item (PySem.Str.ofString "123456789ABCDEFGHJKLMNPQRSTUVWXYZabcdefghijkmnopqrstuvwxyz") i = sgn i.toNat := by
  obtain ⟨k, rfl⟩ := Int.eq_ofNat_of_zero_le h0
  have hk : k < 58 := by omega
  clear h0 h1
  have : ∀ j : Fin 58, Txt.item (PySem.Str.ofString "123456789ABCDEFGHJKLMNPQRSTUVWXYZabcdefghijkmnopqrstuvwxyz") ((j.val : Nat) : Int) = sgn ((j.val : Nat) : Int).toNat := by decide +kernel
  exact this ⟨k, hk⟩
theorem item_mod {n : Int} (h : 0 < n) : Txt.item (PySem.Str.ofString "123456789ABCDEFGHJKLMNPQRSTUVWXYZabcdefghijkmnopqrstuvwxyz") (n.fmod 58) = sgn (n.toNat % 58) := by
  obtain ⟨k, rfl⟩ := Int.eq_ofNat_of_zero_le (Int.le_of_lt h)
  have e : ((k : Int).fmod 58) = ((k % 58 : Nat) : Int) := by
    rw [Int.fmod_eq_emod_of_nonneg _ (by decide)]; rfl
  rw [e, item_sgn (Int.natCast_nonneg _) (by have := Nat.mod_lt k (show 0 < 58 by decide); omega), Int.toNat_natCast, Int.toNat_natCast]
theorem join_go : ∀ (l : List Nat) (acc : Array Nat), ((l.map sgn).foldl (fun (acc : Array Nat) (p : PySem.Str) => acc ++ (PySem.Str.ofString "").cps ++ p.cps) acc) = acc ++ (l.map cd).toArray
  | [], acc => by simp
  | d :: l, acc => by
    rw [List.map_cons, List.foldl_cons, join_go l]
    have e : (PySem.Str.ofString "").cps = #[] := by decide +kernel
    rw [e]
    apply Array.toList_inj.mp
    simp [sgn]
theorem join_sgn (l : List Nat) : Txt.join (PySem.Str.ofString "") (l.map sgn) = txt (l.map cd) := by
  cases l with
  | nil => rfl
  | cons d l =>
    show PySem.Str.mk (((l.map sgn)).foldl _ (sgn d).cps) = _
    rw [join_go]
    unfold txt
    congr 1
    apply Array.toList_inj.mp
    simp [sgn]
theorem strs_reverse : ∀ {vs : List Value} {ss : List PySem.Str}, PyProof.Rows.StrsAre vs ss → PyProof.Rows.StrsAre vs.reverse ss.reverse
  | _, _, .nil => .nil
  | _, _, .cons x t h => by
    rw [List.reverse_cons, List.reverse_cons]
    exact (strs_reverse h).append' (.cons _ _ .nil)
end Mine
set_option maxHeartbeats 1000000
namespace Mine
section
variable {prog : Program} {w : World} {A : Around} {E : Value → Shared → Prop} {Q : Flow → Shared → Prop} {s : Shared} {env : Env} {h₀ : Heap} {L : Addr}
abbrev EncS := Int × Tok × List Value × List PySem.Str × Nat
abbrev EncP (N0 : Nat) (c : EncS) : Prop := 0 ≤ c.1 ∧ c.1 ≤ (N0 : Int) ∧ c.2.2.2.1 ++ (digs 58 c.1.toNat).map sgn = (digs 58 N0).map sgn
theorem enc_while {test : Expr} {body : List Stmt} {pos : Pos} {m₀ : PySem.Str → Option Value} {N0 : Nat} {t0 : Tok} {l : Addr} {cnt : Nat} {rest : List (Addr × Obj)}
    (F : Fr h₀ L s.heap m₀) (N : News h₀ L s.heap ((l, W.listOf #[] cnt) :: rest)) (hn : m₀ (PySem.Str.ofString "n") = some (.int (N0 : Int) t0)) (hc : m₀ (PySem.Str.ofString "chars") = some (.ref l)) (hN : N0 < 2 ^ 2048)
    (turn : ∀ (c : EncS) (u : PySem.Str → Option Value) h tk, PyProof.Rows.StrsAre c.2.2.1 c.2.2.2.1 → EncP N0 c → Fr h₀ L h (kstB (fun z => if [PySem.Str.ofString "n", PySem.Str.ofString "r"].contains z then u z else m₀ z) [(PySem.Str.ofString "n", .int c.1 c.2.1), (PySem.Str.ofString "chars", .ref l)]) → News h₀ L h ((l, W.listOf c.2.2.1.toArray c.2.2.2.2) :: rest) → @LT.lt Nat _ l h.objs.size → c.2.2.1.length ≤ 2048 →
      wpAny (model prog w) A (isTrue test env (eval test env)) (fun b s₂ =>
        if b = true then wpAny (model prog w) A (execs body env) (KswPost h₀ L s (fun c : EncS => (l, W.listOf c.2.2.1.toArray c.2.2.2.2) :: rest) (fun c => [(PySem.Str.ofString "n", .int c.1 c.2.1), (PySem.Str.ofString "chars", .ref l)]) (fun c => PyProof.Rows.StrsAre c.2.2.1 c.2.2.2.1) [PySem.Str.ofString "n", PySem.Str.ofString "r"] m₀ (EncP N0) (fun c => c.1.toNat) Q c) E s₂ else Q .next s₂) E { s with heap := h, toks := tk })
    (hE : PassesOwn (model prog w) A env E := by passes_own) :
    wpAny (model prog w) A (exec (.While test body [] pos) env) Q E s :=
  ksw_while (σ := EncS) (fun c => (l, W.listOf c.2.2.1.toArray c.2.2.2.2) :: rest) (fun c => [(PySem.Str.ofString "n", .int c.1 c.2.1), (PySem.Str.ofString "chars", .ref l)]) _ _ _ _ ((N0 : Int), t0, [], [], cnt) F N PyProof.Rows.StrsAre.nil (List.forall_mem_cons.mpr ⟨hn, List.forall_mem_cons.mpr ⟨hc, List.forall_mem_nil _⟩⟩) (enc_start _) (fun c u h tk f p F N => turn c u h tk f p F N (Heap.lt_size (N _ (.head _)).1) (by
    have h1 := congrArg List.length p.2.2
    rw [List.length_append, List.length_map, List.length_map] at h1
    have h2 := digs_length (B := 58) (by decide) 2048 N0 hN
    have h3 := f.length
    omega)) hE
theorem enc_end {m₀ m' : PySem.Str → Option Value} {N0 : Nat} {n : Int} {t t' tx : Tok} {l : Addr} {vs : List Value} {chars : List PySem.Str} {cnt tk : Nat} {rest : List (Addr × Obj)} {p : Addr × Obj} {h' : Heap} {x : PySem.Str}
    (F : Fr h₀ L h' m') (N : News h₀ L h' (p :: (l, W.listOf (vs.toArray.push (.str x tx)) (cnt + 1)) :: rest)) (hf : PyProof.Rows.StrsAre vs chars) (h0 : 0 < n) (hp : EncP N0 (n, t, vs, chars, cnt)) (hx : x = sgn (n.toNat % 58))
    (hn : m' (PySem.Str.ofString "n") = some (.int (n.fdiv 58) t')) (hc : m' (PySem.Str.ofString "chars") = some (.ref l))
    (hr : ∀ z, z ≠ PySem.Str.ofString "n" → z ≠ PySem.Str.ofString "chars" → z ≠ PySem.Str.ofString "r" → m' z = m₀ z) :
    KswEnd h₀ L s (fun c : EncS => (l, W.listOf c.2.2.1.toArray c.2.2.2.2) :: rest) (fun c => [(PySem.Str.ofString "n", .int c.1 c.2.1), (PySem.Str.ofString "chars", .ref l)]) (fun c => PyProof.Rows.StrsAre c.2.2.1 c.2.2.2.1) [PySem.Str.ofString "n", PySem.Str.ofString "r"] m₀ (EncP N0) (fun c => c.1.toNat) (n, t, vs, chars, cnt) { s with heap := h', toks := tk } := by
  refine ksw_end (σ := EncS) (n.fdiv 58, t', vs ++ [.str x tx], chars ++ [x], cnt + 1) F N ?_ (hf.append' (.cons _ _ .nil)) (List.forall_mem_cons.mpr ⟨hn, List.forall_mem_cons.mpr ⟨hc, List.forall_mem_nil _⟩⟩) ?_ (enc_turn h0 hp.2.1 hp.2.2 hx) ?_
  · intro q hq
    refine List.mem_cons_of_mem _ ?_
    rw [List.push_toArray]
    exact hq
  · intro z h1 h2
    rw [List.forall_mem_cons, List.forall_mem_cons] at h1
    rw [List.contains_cons, List.contains_cons] at h2
    simp only [Bool.or_eq_false_iff, beq_eq_false_iff_ne] at h2
    exact hr z h1.1 h1.2.1 h2.2.1
  · show (n.fdiv 58).toNat < n.toNat
    rw [Int.fdiv_eq_ediv_of_nonneg _ (by decide)]
    omega

theorem slice_chars {l : Addr} {m : PySem.Str → Option Value} {news : List (Addr × Obj)} {value slice : PySem.Expr} {vs : List Value} {chars : List PySem.Str} {vk : Value} {ops : List Value} {n : Int} {N0 : Nat} {t : Tok} {cnt : Nat} {Q : Value → Shared → Prop}
    (F : Fr h₀ L s.heap m) (N : News h₀ L s.heap news) (hl : (l, W.listOf vs.toArray cnt) ∈ news) (pk : IsPart vk (some (-1))) (hf : PyProof.Rows.StrsAre vs chars) (h0 : ¬ 0 < n) (hp : EncP N0 (n, t, vs, chars, cnt)) (hz : vs.length ≤ 2048)
    (h : ∀ D ws h', Fr h₀ L h' m → News h₀ L h' ((D, W.listOf (List.toArray ws) 0) :: news) → (∀ p ∈ news, p.1 < D) → PyProof.Rows.StrsAre ws ((digs 58 N0).reverse.map sgn) → (digs 58 N0).length ≤ 2048 → Q (.ref D) { s with heap := h' })
    (hs : subscripted slice false (.ref l) (.ref s.heap.objs.size) = operate ops (getItem (.ref l) (.ref s.heap.objs.size))) (ht : ∀ r, letTemporaryGo value (.ref l) r = pure ()) :
    wpAny (model prog w) A (subscriptTail value slice (.ref l) (.ref s.heap.objs.size)) Q E { s with heap := s.heap.push { cls := .type "slice", data := .fields #[.none, .none, vk] } } := by
  have hn : n = 0 := by have := hp.1; dsimp only at this; omega
  subst hn
  have he : chars = (digs 58 N0).map sgn := by
    have := hp.2.2
    dsimp only at this
    rw [show (0 : Int).toNat = 0 from rfl, digs_zero, List.map_nil, List.append_nil] at this
    exact this
  subst he
  refine krv_lit (its := vs.toArray) (zs := vs.reverse) F N (News.isList N hl) pk rfl (fun D h' F' N' l1 => h D vs.reverse h' F' N' l1 ?_ ?_) hs ht (by rw [List.size_toArray, sizeLine_eq]; omega)
  · rw [List.map_reverse]
    exact strs_reverse hf
  · have := hf.length
    rw [List.length_map] at this
    omega
theorem join_chars {t : Tok} {D : Addr} {news : List (Addr × Obj)} {ws : List Value} {l : List Nat} {cnt : Nat} {Q : Value → Shared → Prop} (N : News h₀ L s.heap news) (hl : (D, W.listOf ws.toArray cnt) ∈ news) (hw : PyProof.Rows.StrsAre ws (l.map sgn)) (hz : l.length ≤ 2048)
    (h : ∀ t' k, (txt (l.map cd)).length = l.length → Q (.str (txt (l.map cd)) t') { s with toks := k }) : wpAny (model prog w) A (call (.builtin "str.join") [.str (PySem.Str.ofString "") t, .ref D]) Q E s := by
  refine join_list (News.isList N hl) (items := ws.toArray) (by simpa using hw) ?_ fun t' k => ?_
  · have e : ((l.map sgn).map (·.length)).sum = l.length := by
      clear hw hz h
      induction l with
      | nil => rfl
      | cons d l ih =>
        rw [List.map_cons, List.map_cons, List.sum_cons, ih, List.length_cons]
        show 1 + l.length = _
        omega
    rw [e, List.length_map]
    have : (PySem.Str.ofString "").length = 0 := by decide +kernel
    rw [this]
    omega
  · rw [join_sgn]
    exact h t' k (by show ((l.map cd).toArray).size = _; simp)

/-- the end of a turn of the loop that counts what is z ahead -/
def PadEnd (h₀ : Heap) (L : Addr) (x : PySem.Str) (m₀ : PySem.Str → Option Value) (need : List (Addr × Obj)) (pad : Int) (s₁ s₂ : Shared) : Prop :=
  InvEnd h₀ L (fun m' => (∃ t', m' (PySem.Str.ofString "pad") = some (.int pad t')) ∧ ∀ z, z ≠ x → z ≠ PySem.Str.ofString "pad" → m' z = m₀ z) need s₁ s₂
/-- a turn of the loop that counts what is z ahead -/
def PadPost (h₀ : Heap) (L : Addr) (x : PySem.Str) (m₀ : PySem.Str → Option Value) (need : List (Addr × Obj)) (eq : Prop) (pad : Int) (s₁ : Shared) (f : Flow) (s₂ : Shared) : Prop :=
  match f with
  | .ret _ => False
  | .brk => ¬ eq ∧ PadEnd h₀ L x m₀ need pad s₁ s₂
  | .next => eq ∧ PadEnd h₀ L x m₀ need (pad + 1) s₁ s₂
  | .cont => eq ∧ PadEnd h₀ L x m₀ need (pad + 1) s₁ s₂
theorem pad_end {x : PySem.Str} {m₀ m' : PySem.Str → Option Value} {need news' : List (Addr × Obj)} {pad : Int} {t' : Tok} {h' : Heap} {tk : Nat} (F : Fr h₀ L h' m') (N : News h₀ L h' news') (hn : ∀ p ∈ need, p ∈ news') (hp : m' (PySem.Str.ofString "pad") = some (.int pad t'))
    (hr : ∀ z, z ≠ x → z ≠ PySem.Str.ofString "pad" → m' z = m₀ z) : PadEnd h₀ L x m₀ need pad s { s with heap := h', toks := tk } := InvEnd.intro F N hn ⟨⟨t', hp⟩, hr⟩

theorem iter_strN {x : PySem.Str} {tx : Tok} {v : PySem.Str} {body : List Stmt} {m₀ : PySem.Str → Option Value} {news : List (Addr × Obj)} (J : Nat → (PySem.Str → Option Value) → List (Addr × Obj) → Prop)
    (hh : A.handled = none) (F : Fr h₀ env.locals s.heap m₀) (N : News h₀ env.locals s.heap news) (hj : J 0 m₀ news)
    (turn : ∀ i c t m₁ news₁ h tk own, x.cps[i]? = some c → OwnOff own (news.map (·.1)) → J i m₁ news₁ → Fr h₀ env.locals h (fun y => if y = v then some (.str ⟨#[c]⟩ t) else m₁ y) → News h₀ env.locals h (news₁ ++ own) →
      wpAny (model prog w) A (execs body env) (InvPostN h₀ env.locals (J (i + 1)) own (news.map (·.1)) { s with heap := h, toks := tk } Q) E { s with heap := h, toks := tk })
    (done : ∀ m₁ news₁ h tk, J x.cps.size m₁ news₁ → Fr h₀ env.locals h m₁ → News h₀ env.locals h news₁ → Q .next { s with heap := h, toks := tk }) :
    wpAny (model prog w) A (pyIter (.str x tx)) (fun it s₂ => LoopAtV prog w A h₀ env v body Q E it s₂) E s := by
  refine wpAny_pyIter_str fun o St hW hst => ?_
  refine loop_invN J (hW A hh) ?_ ?_ ?_ ?_ hst (F.push _) (fun p hp => ⟨Heap.get?_push_of_some _ (N p hp).1, (N p hp).2⟩) hj ?_ done
  · intro hm
    exact absurd F.ns.lt ((List.mem_singleton.mp hm) ▸ Nat.lt_irrefl _)
  · intro b' hb
    rw [List.mem_singleton.mp hb]
    exact next_is_new F
  · intro p hp hI
    exact absurd (Heap.lt_size (N p hp).1) ((List.mem_singleton.mp hI) ▸ Nat.lt_irrefl _)
  · intro p hp hI
    exact absurd (Heap.lt_size (N p hp).1) ((List.mem_singleton.mp hI) ▸ Nat.lt_irrefl _)
  · rintro i u m₁ news₁ h tk own _ ⟨c, t, hc, rfl⟩ _ hoff hJ F₁ N₁
    exact turn i c t m₁ news₁ h tk own hc hoff hJ F₁ N₁

theorem lead_at {z : Nat} : ∀ {l : List Nat} {i k : Nat}, l[i]? = some k → (∀ j, j < i → l[j]? = some z) → k ≠ z → lead z l = i
  | [], i, k, h, _, _ => by simp at h
  | a :: r, 0, k, h, _, hk => by
    have : a = k := by simpa using h
    rw [lead, this, if_neg hk]
  | a :: r, i + 1, k, h, hz, hk => by
    have ha : a = z := by simpa using hz 0 (by omega)
    rw [lead, if_pos ha, lead_at (l := r) (i := i) (by simpa using h) (fun j hj => by simpa using hz (j + 1) (by omega)) hk]
theorem lead_end {z : Nat} : ∀ {l : List Nat}, (∀ j, j < l.length → l[j]? = some z) → lead z l = l.length
  | [], _ => rfl
  | a :: r, hz => by
    have ha : a = z := by simpa using hz 0 (by simp)
    rw [lead, if_pos ha, lead_end (l := r) (fun j hj => by simpa using hz (j + 1) (by simpa using hj)), List.length_cons]
abbrev PadJ (x : PySem.Str) (m₀ : PySem.Str → Option Value) (news : List (Addr × Obj)) (l : List Nat) (z : Nat) (i : Nat) (m : PySem.Str → Option Value) (nx : List (Addr × Obj)) : Prop :=
  nx = news ∧ (∀ j, j < i → l[j]? = some z) ∧ (∃ t, m (PySem.Str.ofString "pad") = some (.int (i : Int) t)) ∧ ∀ y, y ≠ x → y ≠ PySem.Str.ofString "pad" → m y = m₀ y
theorem pad_map {x : PySem.Str} {m₀ m₁ : PySem.Str → Option Value} {v u : Value} (ha : m₁ (PySem.Str.ofString "pad") = some u) (hm : ∀ z, z ≠ x → z ≠ PySem.Str.ofString "pad" → m₁ z = m₀ z) :
    (fun z => if z = x then some v else m₁ z) = fun z => if z = x then some v else if z = PySem.Str.ofString "pad" then some u else m₀ z := by
  funext z
  by_cases h1 : z = x
  · simp [h1]
  · simp only [if_neg h1]
    by_cases h2 : z = PySem.Str.ofString "pad"
    · subst h2; simp [ha]
    · simp only [if_neg h2]; exact hm z h1 h2
theorem pad_mapU {x : PySem.Str} {m₀ m₁ : PySem.Str → Option Value} {u : Value} (ha : m₁ (PySem.Str.ofString "pad") = some u) (hm : ∀ z, z ≠ x → z ≠ PySem.Str.ofString "pad" → m₁ z = m₀ z) :
    m₁ = fun z => if z = x then m₁ z else if z = PySem.Str.ofString "pad" then some u else m₀ z := by
  funext z
  by_cases h1 : z = x
  · simp [h1]
  · simp only [if_neg h1]
    by_cases h2 : z = PySem.Str.ofString "pad"
    · subst h2; simp [ha]
    · simp only [if_neg h2]; exact hm z h1 h2
theorem pad_step {x : PySem.Str} {m₀ : PySem.Str → Option Value} {news own : List (Addr × Obj)} {l : List Nat} {z i k : Nat} {eq : Prop} {s₁ : Shared} {f : Flow} {s₂ : Shared} (hk : l[i]? = some k) (heq : eq ↔ k = z) (hj : ∀ j, j < i → l[j]? = some z)
    (done : ∀ (u : PySem.Str → Option Value) t h tk, Fr h₀ L h (fun y => if y = x then u y else if y = PySem.Str.ofString "pad" then some (.int (lead z l : Int) t) else m₀ y) → News h₀ L h news → Q .next { s with heap := h, toks := tk })
    (hs : ∃ h tk, s₁ = { s with heap := h, toks := tk })
    (p : PadPost h₀ L x m₀ (news ++ own) eq (i : Int) s₁ f s₂) : InvPostN h₀ L (PadJ x m₀ news l z (i + 1)) own (news.map (·.1)) s₁ Q f s₂ := by
  obtain ⟨h, tk, rfl⟩ := hs
  have fin : (eq ∧ PadEnd h₀ L x m₀ (news ++ own) ((i : Int) + 1) { s with heap := h, toks := tk } s₂) → InvEndN h₀ L (PadJ x m₀ news l z (i + 1)) own (news.map (·.1)) { s with heap := h, toks := tk } s₂ := by
    rintro ⟨he, h', tk', m', news', e, F', N', hn, ⟨t', hp⟩, hr⟩
    refine ⟨h', tk', m', news', news, e, F', N', fun p hp => hn p (List.mem_append_left _ hp), fun p hp => hn p (List.mem_append_right _ hp), rfl, rfl, fun j hj' => ?_, ⟨t', by rw [hp]; push_cast; rfl⟩, hr⟩
    by_cases hji : j = i
    · subst hji; rw [hk, heq.mp he]
    · exact hj j (by omega)
  cases f with
  | ret v => exact p.elim
  | brk =>
    obtain ⟨he, h', tk', m', news', e, F', N', hn, ⟨t', hp⟩, hr⟩ := p
    subst e
    have hl : lead z l = i := lead_at hk hj fun e => he (heq.mpr e)
    refine done m' t' h' tk' ?_ fun p hp => N' p (hn p (List.mem_append_left _ hp))
    rw [hl, ← pad_mapU hp hr]
    exact F'
  | next => exact fin p
  | cont => exact fin p
theorem pad_bytes {x : PySem.Str} {body : List Stmt} {b : Array UInt8} {tb t0 : Tok} {m₀ : PySem.Str → Option Value} {news : List (Addr × Obj)}
    (hh : A.handled = none) (F : Fr h₀ env.locals s.heap m₀) (N : News h₀ env.locals s.heap news) (hp : m₀ (PySem.Str.ofString "pad") = some (.int 0 t0))
    (turn : ∀ (k pad : Nat) t tp h tk own, pad < b.size → OwnOff own (news.map (·.1)) → Fr h₀ env.locals h (fun y => if y = x then some (.int (k : Int) t) else if y = PySem.Str.ofString "pad" then some (.int (pad : Int) tp) else m₀ y) → News h₀ env.locals h (news ++ own) →
      wpAny (model prog w) A (execs body env) (PadPost h₀ env.locals x m₀ (news ++ own) ((k : Int) = 0) (pad : Int) { s with heap := h, toks := tk }) E { s with heap := h, toks := tk })
    (done : ∀ (u : PySem.Str → Option Value) t h tk, Fr h₀ env.locals h (fun y => if y = x then u y else if y = PySem.Str.ofString "pad" then some (.int (lead 0 (nb b) : Int) t) else m₀ y) → News h₀ env.locals h news → Q .next { s with heap := h, toks := tk }) :
    wpAny (model prog w) A (pyIter (.bytes b tb)) (fun it s₂ => LoopAtV prog w A h₀ env x body Q E it s₂) E s := by
  refine KBmo.iter_bytesN (PadJ x m₀ news (nb b) 0) rfl hh F N ⟨rfl, fun _ h => absurd h (Nat.not_lt_zero _), ⟨t0, hp⟩, fun _ _ _ => rfl⟩ ?_ ?_
  · rintro i k t m₁ nx h tk own hk h0 _ hoff ⟨rfl, hj, ⟨tp, hpd⟩, hr⟩ F₁ N₁
    rw [bInts_nb, List.getElem?_map] at hk
    obtain ⟨c, hc, rfl⟩ := Option.map_eq_some_iff.mp hk
    rw [pad_map hpd hr] at F₁
    have hi : i < b.size := by
      have := (List.getElem?_eq_some_iff.mp hc).1
      rw [nb_length] at this
      exact this
    exact wpAny_mono (turn c i t tp h tk own hi hoff F₁ N₁) (fun f s₂ p => pad_step hc (by omega) hj done ⟨h, tk, rfl⟩ p) fun _ _ e => e
  · rintro m₁ nx h tk ⟨rfl, hj, ⟨tp, hpd⟩, hr⟩ F₁ N₁
    have e : (KBw.bInts b).length = (nb b).length := by rw [bInts_nb, List.length_map]
    rw [e] at hj hpd
    refine done m₁ tp h tk ?_ N₁
    rw [lead_end hj, ← pad_mapU hpd hr]
    exact F₁
theorem pad_str {x : PySem.Str} {body : List Stmt} {y : PySem.Str} {tb t0 : Tok} {m₀ : PySem.Str → Option Value} {news : List (Addr × Obj)} {z : Nat}
    (hh : A.handled = none) (F : Fr h₀ env.locals s.heap m₀) (N : News h₀ env.locals s.heap news) (hp : m₀ (PySem.Str.ofString "pad") = some (.int 0 t0))
    (turn : ∀ (k pad : Nat) t tp h tk own, pad < y.cps.size → OwnOff own (news.map (·.1)) → Fr h₀ env.locals h (fun y => if y = x then some (.str ⟨#[k]⟩ t) else if y = PySem.Str.ofString "pad" then some (.int (pad : Int) tp) else m₀ y) → News h₀ env.locals h (news ++ own) →
      wpAny (model prog w) A (execs body env) (PadPost h₀ env.locals x m₀ (news ++ own) (k = z) (pad : Int) { s with heap := h, toks := tk }) E { s with heap := h, toks := tk })
    (done : ∀ (u : PySem.Str → Option Value) t h tk, Fr h₀ env.locals h (fun z' => if z' = x then u z' else if z' = PySem.Str.ofString "pad" then some (.int (lead z y.cps.toList : Int) t) else m₀ z') → News h₀ env.locals h news → Q .next { s with heap := h, toks := tk }) :
    wpAny (model prog w) A (pyIter (.str y tb)) (fun it s₂ => LoopAtV prog w A h₀ env x body Q E it s₂) E s := by
  refine iter_strN (PadJ x m₀ news y.cps.toList z) hh F N ⟨rfl, fun _ h => absurd h (Nat.not_lt_zero _), ⟨t0, hp⟩, fun _ _ _ => rfl⟩ ?_ ?_
  · rintro i k t m₁ nx h tk own hk hoff ⟨rfl, hj, ⟨tp, hpd⟩, hr⟩ F₁ N₁
    rw [pad_map hpd hr] at F₁
    have hi : i < y.cps.size := (Array.getElem?_eq_some_iff.mp hk).1
    have hc : y.cps.toList[i]? = some k := by simpa using hk
    exact wpAny_mono (turn k i t tp h tk own hi hoff F₁ N₁) (fun f s₂ p => pad_step hc Iff.rfl hj done ⟨h, tk, rfl⟩ p) fun _ _ e => e
  · rintro m₁ nx h tk ⟨rfl, hj, ⟨tp, hpd⟩, hr⟩ F₁ N₁
    have e : y.cps.size = y.cps.toList.length := by simp
    rw [e] at hj hpd
    refine done m₁ tp h tk ?_ N₁
    rw [lead_end hj, ← pad_mapU hpd hr]
    exact F₁
end
end Mine
set_option maxHeartbeats 1000000
namespace Mine
theorem txt_length (l : List Nat) : (txt l).length = l.length := by show l.toArray.size = _; simp
theorem txt_append (a b : List Nat) : txt a ++ txt b = txt (a ++ b) := by
  refine PySem.Str.ext' ?_
  rw [PySem.Str.cps_append]
  exact Array.toList_inj.mp (by simp [txt])
theorem mul_go (c : Nat) : ∀ (k : Nat) (acc : Array Nat), (List.replicate k #[c]).foldl (· ++ ·) acc = acc ++ (List.replicate k c).toArray
  | 0, acc => by simp
  | k + 1, acc => by
    rw [List.replicate_succ, List.foldl_cons, mul_go c k, List.replicate_succ]
    apply Array.toList_inj.mp
    simp
theorem mul_one (c k : Nat) : Txt.mul ⟨#[c]⟩ (k : Int) = txt (List.replicate k c) := by
  unfold Txt.mul
  by_cases h0 : k = 0
  · subst h0
    rfl
  · rw [if_neg (by omega)]
    by_cases h1 : k = 1
    · subst h1
      rfl
    · have hb : ((k : Int) == 1 || (PySem.Str.mk #[c]).length == 0) = false := by
        have : ((k : Int) == 1) = false := by rw [beq_eq_false_iff_ne]; omega
        rw [this]
        rfl
      rw [hb]
      show PySem.Str.mk ((List.replicate (k : Int).toNat #[c]).foldl (· ++ ·) #[]) = _
      rw [Int.toNat_natCast, mul_go]
      unfold txt
      congr 1
      apply Array.toList_inj.mp
      simp
section
variable {prog : Program} {w : World} {A : Around} {E : Value → Shared → Prop} {s : Shared}
theorem mul_sign {c k : Nat} {t u : Tok} {Q : Value → Shared → Prop} (hk : k ≤ 65536) (h : ∀ t' k', Q (.str (txt (List.replicate k c)) t') { s with toks := k' }) : wpAny (model prog w) A (binaryOp .Mult (.str ⟨#[c]⟩ t) (.int (k : Int) u)) Q E s := by
  refine SB.mul (mulOk_of 1 65536 (Nat.le_refl 1) (by omega) (by omega) (by decide) (by decide)) fun t' k' => ?_
  rw [mul_one]
  exact h t' k'
theorem mul_first {k : Nat} {t u : Tok} {Q : Value → Shared → Prop} (hk : k ≤ 65536) (h : ∀ t' k', Q (.str (txt (List.replicate k 49)) t') { s with toks := k' }) : wpAny (model prog w) A (binaryOp .Mult (.str (Txt.item (PySem.Str.ofString "123456789ABCDEFGHJKLMNPQRSTUVWXYZabcdefghijkmnopqrstuvwxyz") 0) t) (.int (k : Int) u)) Q E s := by
  rw [item_sgn (by decide) (by decide)]
  exact mul_sign hk h
theorem add_txt {a b : List Nat} {t u : Tok} {Q : Value → Shared → Prop} (hz : a.length + b.length ≤ 16777216) (h : ∀ t' k', Q (.str (txt (a ++ b)) t') { s with toks := k' }) : wpAny (model prog w) A (binaryOp .Add (.str (txt a) t) (.str (txt b) u)) Q E s := by
  refine SB.add (fun t' k' => ?_) (by rw [txt_length, txt_length, sizeLine_eq]; exact hz)
  rw [txt_append]
  exact h t' k'
end
/-- what bytes are told as, by their numbers: the signs' codes -/
noncomputable def enc (l : List Nat) (n : Nat) : List Nat := List.replicate (lead 0 l) 49 ++ (digs 58 n).reverse.map cd
/-- the text that bytes are told as -/
@[irreducible] noncomputable def encB (b : Array UInt8) : PySem.Str := txt (enc (nb b) (valB b))
theorem add_enc {prog : Program} {w : World} {A : Around} {E : Value → Shared → Prop} {s : Shared} {b : Array UInt8} {t u : Tok} {Q : Value → Shared → Prop} (hb : b.size ≤ 256) (hz : (digs 58 (valB b)).length ≤ 2048) (h : ∀ t' k', Q (.str (encB b) t') { s with toks := k' }) :
    wpAny (model prog w) A (binaryOp .Add (.str (txt (List.replicate (lead 0 (nb b)) 49)) t) (.str (txt ((digs 58 (valB b)).reverse.map cd)) u)) Q E s := by
  unfold encB at h
  refine add_txt ?_ h
  have hle := lead_le 0 (nb b)
  rw [nb_length] at hle
  rw [List.length_replicate, List.length_map, List.length_reverse]
  omega
end Mine
set_option maxHeartbeats 1000000
namespace Mine
local macro_rules | `(tactic| k_room) => `(tactic| ktr_room)
local macro_rules | `(tactic| k_mem) => `(tactic| first | with_reducible exact List.mem_cons_self .. | ((with_reducible refine List.mem_cons_of_mem _ ?_); k_mem))
local macro_rules | `(tactic| walk_at "call ref") => `(tactic| (k_here; (with_reducible show wpAny _ _ (call (Value.ref _) [Value.bytes _ _, Value.str _ _]) _ _ _); (refine' from_bytes ?k1 ?k2 ?k3 ?_); (case k1 => k_asm); (case k2 => k_mem); (case k3 => ((try simp only [Array.size_append, List.size_toArray, List.length_cons, List.length_nil]); omega)); intro _ _))
local macro_rules | `(tactic| walk_at "exec While Compare cons nil") => `(tactic| (k_here; (rename Fr _ _ _ _ => lF); (rename News _ _ _ _ => lN); (refine' enc_while lF lN ?hn ?hc ?hN ?_); (case hn => exact rfl); (case hc => exact rfl); (case hN => exact valB_bound (n := 256) (by assumption)); clear lF lN; rintro ⟨n1, t1, vs1, chars1, cnt1⟩ u1 h1 tk1 hf1 hp1 F1 N1 hl1 hz1; dsimp only [kstB] at hf1 F1 N1 hl1 hz1 ⊢; (try k_fold)))
local macro_rules | `(tactic| walk_at "KswEnd") => `(tactic| (k_here; (rename Fr _ _ _ _ => lF); (rename News _ _ _ _ => lN); (refine' enc_end lF lN ?hf ?h0 ?hp ?hx ?hn ?hc ?hr); (case hf => assumption); (case h0 => assumption); (case hp => assumption); (case hx => exact item_mod (by assumption)); (case hn => exact rfl); (case hc => exact rfl); (case hr => intro z h1 h2 h3; simp [h1, h2, h3])))
local macro_rules | `(tactic| walk_at "subscriptTail Name Slice ref ref") => `(tactic| (k_here; k_dflt (refine' slice_chars ?F ?N ?l ?k ?hf ?h0 ?hp ?hz ?_ ?s ?t; (case F => k_asm); (case N => k_asm); (case l => k_mem); (case k => exact IsPart.int _ _); (case hf => assumption); (case h0 => assumption); (case hp => assumption); (case hz => assumption); (case s => with_unfolding_all rfl); (case t => kmk_pure)); intro D' ws' h' F' N' l1 hf' hz'; (try k_lt l1)))
local macro_rules | `(tactic| walk_at "call builtin:str.join") => `(tactic| (k_here; (refine' join_chars ?N ?l ?hw ?hz ?_); (case N => k_asm); (case l => k_mem); (case hw => assumption); (case hz => ((rw [List.length_reverse]); assumption)); intro _ _ hj'))
local macro_rules | `(tactic| walk_at "pyIter bytes") => `(tactic| (k_here; (with_reducible show wpAny _ _ (pyIter (Value.bytes _ _)) (fun it s₂ => LoopAtV _ _ _ _ _ _ _ _ _ it s₂) _ _); (rename Fr _ _ _ _ => lF); (rename News _ _ _ _ => lN); (refine' pad_bytes (by rfl) lF lN ?hp ?_ ?_); (case hp => exact rfl); (all_goals clear lF lN); (rotate_left; rotate_left); (intro k1 pad1 t1 tp1 h1 tk1 own1 hl1 ho1 F1 N1; (try k_fold)); (rotate_left); (intro u1 t1 h1 tk1 F1 N1; (try k_fold)); (rotate_left)))
local macro_rules | `(tactic| walk_at "PadPost") => `(tactic| (k_here; (rename Fr _ _ _ _ => lF); (rename News _ _ _ _ => lN); (refine' ⟨?e, pad_end lF lN ?hn ?hp ?hr⟩); (case e => assumption); (case hn => exact fun _ h => h); (case hp => exact rfl); (case hr => intro z h1 h2; simp [h1, h2])))
local macro_rules | `(tactic| walk_at "binaryOp Mult str int") => `(tactic| (k_here; (refine mul_first ?_ ?_); (· exact Nat.le_trans (lead_le _ _) (by rw [nb_length]; omega)); intro _ _))
local macro_rules | `(tactic| walk_at "binaryOp Add str str") => `(tactic| (k_here; (refine add_enc (by assumption) (by assumption) ?_); intro _ _))
theorem enc_ok {w : World} {mean : ExcName → Option Value} {mg mb : Str → Option Value} (b : Array UInt8) (tb : Tok) (hb : b.size ≤ 256)
    {dp un : Nat} {gd : Option (List Code)} {cn : Str} {cs : Scope} {a : Addr} {ccd : Value} {cl : List (Str × Addr)} {outer : List Env} {A₀ : Around} {base h₀ : Heap} {L : Addr} {m : Str → Option Value} {news : List (Addr × Obj)} {s : Shared} {Q E : Value → Shared → Prop}
    (B : Below A₀ base outer h₀) (F : Fr h₀ L s.heap m) (X : (Kg w).In h₀) (N : News h₀ L s.heap news) (T : Tp mean mg mb h₀) (hk : cs.kind = .function) (hd : dp + 4 < recursionLimit)
    (hret : ∀ t h' tk', Fr h₀ L h' m → News h₀ L h' news → Q (.str (encB b) t) { s with heap := h', toks := tk' }) :
    wpAny (model Pg w) (ktrTop dp un gd cn cs L a ccd cl outer) (call (.ref 106) [.bytes b tb]) Q E s := by
  dsimp only [Pg, Kg, Lo, Tp] at *
  revert X
  k_fill
  intro X
  refine wpAny_call ?_
  k_dflt cell_enter
  w_top off
  k_steps
  all_goals first | exact hret _ _ _ (by k_asm) (cb_drop (by k_asm) (by kcj_all))
end Mine
set_option maxHeartbeats 1000000
namespace Mine
/-- the place of a sign's code in the alphabet -/
def ix (c : Nat) : Nat := alpha.idxOf c
/-- the number that signs tell, by their codes -/
def val58 (l : List Nat) : Nat := l.foldl (fun a c => a * 58 + ix c) 0
/-- signs of the alphabet alone -/
abbrev good (l : List Nat) : Prop := ∀ c ∈ l, c ∈ alpha
theorem val58_snoc (l : List Nat) (c : Nat) : val58 (l ++ [c]) = val58 l * 58 + ix c := by
  unfold val58
  rw [List.foldl_append]
  rfl
theorem alpha_length : alpha.length = 58 := by decide
theorem ix_lt {c : Nat} (h : c ∈ alpha) : ix c < 58 := by
  have := List.idxOf_lt_length_of_mem h
  rw [alpha_length] at this
  exact this
theorem val58_lt : ∀ (l : List Nat), good l → val58 l < 58 ^ l.length := by
  have go : ∀ (l : List Nat) (a k : Nat), good l → a < 58 ^ k → l.foldl (fun a c => a * 58 + ix c) a < 58 ^ (k + l.length) := by
    intro l
    induction l with
    | nil => intro a k _ h; simpa using h
    | cons c l ih =>
      intro a k hg ha
      rw [List.foldl_cons, List.length_cons]
      have h1 := ix_lt (hg c (.head _))
      have h2 : a * 58 + ix c < 58 ^ (k + 1) := by
        rw [Nat.pow_succ]
        have : (a + 1) * 58 ≤ 58 ^ k * 58 := Nat.mul_le_mul_right _ ha
        omega
      have := ih (a * 58 + ix c) (k + 1) (fun d hd => hg d (.tail _ hd)) h2
      rw [show k + (l.length + 1) = k + 1 + l.length by omega]
      exact this
  intro l hg
  have := go l 0 0 hg (by decide)
  simpa [val58] using this
section
variable {prog : Program} {w : World} {A : Around} {E : Value → Shared → Prop} {Q : Flow → Shared → Prop} {s : Shared} {env : Env} {h₀ : Heap} {L : Addr}
def DecPost (h₀ : Heap) (L : Addr) (x : PySem.Str) (m₀ : PySem.Str → Option Value) (need : List (Addr × Obj)) (k : Nat) (n : Nat) (s₁ : Shared) (f : Flow) (s₂ : Shared) : Prop :=
  match f with
  | .ret _ => False
  | .brk => False
  | _ => k ∈ alpha ∧ InvEnd h₀ L (fun m' => (∃ t', m' (PySem.Str.ofString "n") = some (.int ((n * 58 + ix k : Nat) : Int) t')) ∧ ∀ z, z ≠ x → z ≠ PySem.Str.ofString "n" → z ≠ PySem.Str.ofString "digit" → m' z = m₀ z) need s₁ s₂
abbrev DecJ (x : PySem.Str) (m₀ : PySem.Str → Option Value) (news : List (Addr × Obj)) (l : List Nat) (i : Nat) (m : PySem.Str → Option Value) (nx : List (Addr × Obj)) : Prop :=
  nx = news ∧ good (l.take i) ∧ (∃ t, m (PySem.Str.ofString "n") = some (.int (val58 (l.take i) : Int) t)) ∧ ∀ y, y ≠ x → y ≠ PySem.Str.ofString "n" → y ≠ PySem.Str.ofString "digit" → m y = m₀ y
theorem dec_map {x : PySem.Str} {m₀ m₁ : PySem.Str → Option Value} {v u : Value} (ha : m₁ (PySem.Str.ofString "n") = some u) (hm : ∀ z, z ≠ x → z ≠ PySem.Str.ofString "n" → z ≠ PySem.Str.ofString "digit" → m₁ z = m₀ z) :
    (fun z => if z = x then some v else m₁ z) = fun z => if z = x then some v else if z = PySem.Str.ofString "n" then some u else if z = PySem.Str.ofString "digit" then m₁ z else m₀ z := by
  funext z
  by_cases h1 : z = x
  · simp [h1]
  · simp only [if_neg h1]
    by_cases h2 : z = PySem.Str.ofString "n"
    · subst h2; simp [ha]
    · simp only [if_neg h2]
      by_cases h3 : z = PySem.Str.ofString "digit"
      · simp [h3]
      · simp only [if_neg h3]; exact hm z h1 h2 h3
theorem dec_mapU {x : PySem.Str} {m₀ m₁ : PySem.Str → Option Value} {u : Value} (ha : m₁ (PySem.Str.ofString "n") = some u) (hm : ∀ z, z ≠ x → z ≠ PySem.Str.ofString "n" → z ≠ PySem.Str.ofString "digit" → m₁ z = m₀ z) :
    m₁ = fun z => if z = x then m₁ z else if z = PySem.Str.ofString "n" then some u else if z = PySem.Str.ofString "digit" then m₁ z else m₀ z := by
  funext z
  by_cases h1 : z = x
  · simp [h1]
  · simp only [if_neg h1]
    by_cases h2 : z = PySem.Str.ofString "n"
    · subst h2; simp [ha]
    · simp only [if_neg h2]
      by_cases h3 : z = PySem.Str.ofString "digit"
      · simp [h3]
      · simp only [if_neg h3]; exact hm z h1 h2 h3
theorem take_succ_get {α : Type} {l : List α} {i : Nat} {c : α} (h : l[i]? = some c) : l.take (i + 1) = l.take i ++ [c] := by simp [List.take_add_one, h]
theorem dec_str {x : PySem.Str} {body : List Stmt} {y : PySem.Str} {tb t0 : Tok} {m₀ : PySem.Str → Option Value} {news : List (Addr × Obj)}
    (hh : A.handled = none) (F : Fr h₀ env.locals s.heap m₀) (N : News h₀ env.locals s.heap news) (hp : m₀ (PySem.Str.ofString "n") = some (.int 0 t0))
    (turn : ∀ (k n : Nat) (u : PySem.Str → Option Value) t tp h tk own, k ∈ y.cps.toList → OwnOff own (news.map (·.1)) → Fr h₀ env.locals h (fun y => if y = x then some (.str ⟨#[k]⟩ t) else if y = PySem.Str.ofString "n" then some (.int (n : Int) tp) else if y = PySem.Str.ofString "digit" then u y else m₀ y) → News h₀ env.locals h (news ++ own) →
      wpAny (model prog w) A (execs body env) (DecPost h₀ env.locals x m₀ (news ++ own) k n { s with heap := h, toks := tk }) E { s with heap := h, toks := tk })
    (done : ∀ (u : PySem.Str → Option Value) t h tk, good y.cps.toList → Fr h₀ env.locals h (fun z => if z = x then u z else if z = PySem.Str.ofString "n" then some (.int (val58 y.cps.toList : Int) t) else if z = PySem.Str.ofString "digit" then u z else m₀ z) → News h₀ env.locals h news → Q .next { s with heap := h, toks := tk }) :
    wpAny (model prog w) A (pyIter (.str y tb)) (fun it s₂ => LoopAtV prog w A h₀ env x body Q E it s₂) E s := by
  refine iter_strN (DecJ x m₀ news y.cps.toList) hh F N ⟨rfl, (fun c hc => by simp at hc), ⟨t0, hp⟩, fun _ _ _ _ => rfl⟩ ?_ ?_
  · rintro i k t m₁ nx h tk own hk hoff ⟨rfl, hg, ⟨tp, hn⟩, hr⟩ F₁ N₁
    rw [dec_map hn hr] at F₁
    have hc : y.cps.toList[i]? = some k := by simpa using hk
    refine wpAny_mono (turn k _ m₁ t tp h tk own (List.mem_of_getElem? hc) hoff F₁ N₁) (fun f s₂ p => ?_) fun _ _ e => e
    have fin : (k ∈ alpha ∧ InvEnd h₀ env.locals (fun m' => (∃ t', m' (PySem.Str.ofString "n") = some (.int ((val58 (y.cps.toList.take i) * 58 + ix k : Nat) : Int) t')) ∧ ∀ z, z ≠ x → z ≠ PySem.Str.ofString "n" → z ≠ PySem.Str.ofString "digit" → m' z = m₀ z) (nx ++ own) { s with heap := h, toks := tk } s₂) →
        InvEndN h₀ env.locals (DecJ x m₀ nx y.cps.toList (i + 1)) own (nx.map (·.1)) { s with heap := h, toks := tk } s₂ := by
      rintro ⟨hka, h', tk', m', news', e, F', N', hn', ⟨t', hp'⟩, hr'⟩
      refine ⟨h', tk', m', news', nx, e, F', N', fun p hp => hn' p (List.mem_append_left _ hp), fun p hp => hn' p (List.mem_append_right _ hp), rfl, rfl, ?_, ⟨t', ?_⟩, hr'⟩
      · rw [take_succ_get hc]
        intro c hc'
        rcases List.mem_append.mp hc' with h1 | h1
        · exact hg c h1
        · rw [List.mem_singleton.mp h1]; exact hka
      · rw [hp', take_succ_get hc, val58_snoc]
    cases f with
    | ret v => exact p.elim
    | brk => exact p.elim
    | next => exact fin p
    | cont => exact fin p
  · rintro m₁ nx h tk ⟨rfl, hg, ⟨tp, hn⟩, hr⟩ F₁ N₁
    have e : y.cps.toList.take y.cps.size = y.cps.toList := List.take_of_length_le (by simp)
    rw [e] at hg hn
    refine done m₁ tp h tk hg ?_ N₁
    rw [← dec_mapU hn hr]
    exact F₁
end
end Mine
set_option maxHeartbeats 1000000
namespace Mine
theorem contains_alpha (k : Nat) : Txt.contains (PySem.Str.ofString "123456789ABCDEFGHJKLMNPQRSTUVWXYZabcdefghijkmnopqrstuvwxyz") ⟨#[k]⟩ = decide (k ∈ alpha) := by
  unfold Txt.contains
  rw [StrLaws.found_one, alpha_eq]
theorem find_alpha {k : Nat} (h : k ∈ alpha) : Txt.find (PySem.Str.ofString "123456789ABCDEFGHJKLMNPQRSTUVWXYZabcdefghijkmnopqrstuvwxyz") ⟨#[k]⟩ = (ix k : Int) := by
  have : ∀ k ∈ alpha, Txt.find (PySem.Str.ofString "123456789ABCDEFGHJKLMNPQRSTUVWXYZabcdefghijkmnopqrstuvwxyz") ⟨#[k]⟩ = (ix k : Int) := by decide +kernel
  exact this k h
section
variable {prog : Program} {w : World} {A : Around} {E : Value → Shared → Prop} {s : Shared}
theorem truthy_txt {x : PySem.Str} {t : Tok} {Q : Bool → Shared → Prop} (hx : x.cps.size ≤ 65536) (h0 : x.cps.toList = [] → ∀ k, Q false { s with toks := k }) (h1 : x.cps.toList ≠ [] → ∀ k, Q true { s with toks := k }) : wpAny (model prog w) A (truthy (.str x t)) Q E s := by
  have hl : x.length = x.cps.toList.length := by simp [PySem.Str.length]
  refine SBL.truthy (by show (x.cps.size : Int) < _; omega) ?_
  by_cases he : x.cps.toList = []
  · have : ((x.length : Int) != 0) = false := by rw [hl, he]; rfl
    rw [this]
    exact h0 he _
  · have : ((x.length : Int) != 0) = true := by
      have h2 : x.cps.toList.length ≠ 0 := fun e => he (List.length_eq_zero_iff.mp e)
      rw [bne_iff_ne]
      omega
    rw [this]
    exact h1 he _
theorem notIn_alpha {k : Nat} {t u : Tok} {Q : Value → Shared → Prop} (h0 : k ∈ alpha → Q (.bool false) s) (h1 : k ∉ alpha → Q (.bool true) s) :
    wpAny (model prog w) A (compareOp .NotIn (.str ⟨#[k]⟩ u) (.str (PySem.Str.ofString "123456789ABCDEFGHJKLMNPQRSTUVWXYZabcdefghijkmnopqrstuvwxyz") t)) Q E s := by
  refine SB.notContains ?_
  rw [contains_alpha]
  by_cases h : k ∈ alpha
  · rw [decide_eq_true h]; exact h0 h
  · rw [decide_eq_false h]; exact h1 h
theorem index_alpha {k : Nat} {t u : Tok} {Q : Value → Shared → Prop} (hA : A.handled = none) (hk : k ∈ alpha) (h : Q (.int (ix k : Int) s.toks) { s with toks := s.toks + 1 }) :
    wpAny (model prog w) A (call (.builtin "str.index") [.str (PySem.Str.ofString "123456789ABCDEFGHJKLMNPQRSTUVWXYZabcdefghijkmnopqrstuvwxyz") t, .str ⟨#[k]⟩ u]) Q E s := by
  refine index_or hA (fun e => ?_) fun _ _ => ?_
  · rw [find_alpha hk] at e
    omega
  · rw [find_alpha hk]
    exact h
theorem dec_next {h₀ : Heap} {L : Addr} {x : PySem.Str} {m₀ m' : PySem.Str → Option Value} {need news' : List (Addr × Obj)} {k n : Nat} {t' : Tok} {h' : Heap} {tk : Nat} (hk : k ∈ alpha) (F : Fr h₀ L h' m') (N : News h₀ L h' news') (hn : ∀ p ∈ need, p ∈ news')
    (hp : m' (PySem.Str.ofString "n") = some (.int ((n : Int) * 58 + (ix k : Int)) t')) (hr : ∀ z, z ≠ x → z ≠ PySem.Str.ofString "n" → z ≠ PySem.Str.ofString "digit" → m' z = m₀ z) : DecPost h₀ L x m₀ need k n s .next { s with heap := h', toks := tk } :=
  ⟨hk, InvEnd.intro F N hn ⟨⟨t', by rw [hp]; push_cast; rfl⟩, hr⟩⟩
/-- how many bytes a number is told in -/
def bk (n : Nat) : Nat := if (Builtin.Int.intBits (n : Int) + 7) / 8 = 0 then 1 else (Builtin.Int.intBits (n : Int) + 7) / 8
theorem bk_lt (n : Nat) : n < 256 ^ bk n := by
  have h1 : Builtin.Int.intBits (n : Int) ≤ 8 * bk n := by
    unfold bk
    split <;> omega
  have h2 := intBits_le_iff.mp h1
  rw [Int.natAbs_natCast, Nat.pow_mul] at h2
  exact h2
theorem bk_le {n m : Nat} (h : n < 2 ^ (8 * m)) (hm : 1 ≤ m) : bk n ≤ m := by
  have h1 := intBits_le_iff.mpr (show ((n : Int)).natAbs < 2 ^ (8 * m) by rw [Int.natAbs_natCast]; exact h)
  unfold bk
  split <;> omega
/-- the bytes that signs are read as -/
def resB (l : List Nat) : Array UInt8 := toB (bk (val58 l)) (val58 l)
theorem val58_bound {l : List Nat} (hg : good l) (hl : l.length ≤ 85) : val58 l < 2 ^ 512 := by
  have h1 := val58_lt l hg
  have h2 : (58 : Nat) ^ l.length ≤ 64 ^ 85 := Nat.le_trans (Nat.pow_le_pow_left (by decide) _) (Nat.pow_le_pow_right (by decide) hl)
  have h3 : (64 : Nat) ^ 85 ≤ 2 ^ 512 := by rw [show (64 : Nat) = 2 ^ 6 by rfl, ← Nat.pow_mul]; exact Nat.pow_le_pow_right (by decide) (by decide)
  omega
theorem to_res1 {l : List Nat} {t u v : Tok} {Q : Value → Shared → Prop} (hg : good l) (hl : l.length ≤ 85) (hb : ((Builtin.Int.intBits (val58 l : Int) : Int) + 7).fdiv 8 ≠ 0) (h : ∀ t' k', (resB l).size ≤ 64 → Q (.bytes (resB l) t') { s with toks := k' }) :
    wpAny (model prog w) A (call (.builtin "int.to_bytes") [.int (val58 l : Int) t, .int (((Builtin.Int.intBits (val58 l : Int) : Int) + 7).fdiv 8) u, .str (PySem.Str.ofString "big") v]) Q E s := by
  have e : ((Builtin.Int.intBits (val58 l : Int) : Int) + 7).fdiv 8 = (bk (val58 l) : Int) := by
    rw [Int.fdiv_eq_ediv_of_nonneg _ (by decide)] at hb ⊢
    unfold bk
    rw [if_neg (by omega)]
    omega
  have hz : bk (val58 l) ≤ 64 := bk_le (val58_bound hg hl) (by decide)
  rw [e]
  exact to_bytes (Nat.le_trans hz (by decide)) (bk_lt _) fun t' k' => h t' k' (by unfold resB; rw [toB_size]; exact hz)
theorem to_res0 {l : List Nat} {t u v : Tok} {Q : Value → Shared → Prop} (hg : good l) (hl : l.length ≤ 85) (hb : ((Builtin.Int.intBits (val58 l : Int) : Int) + 7).fdiv 8 = 0) (h : ∀ t' k', (resB l).size ≤ 64 → Q (.bytes (resB l) t') { s with toks := k' }) :
    wpAny (model prog w) A (call (.builtin "int.to_bytes") [.int (val58 l : Int) t, .int 1 u, .str (PySem.Str.ofString "big") v]) Q E s := by
  have e : (1 : Int) = (bk (val58 l) : Int) := by
    rw [Int.fdiv_eq_ediv_of_nonneg _ (by decide)] at hb
    unfold bk
    rw [if_pos (by omega)]
    rfl
  have hz : bk (val58 l) ≤ 64 := bk_le (val58_bound hg hl) (by decide)
  rw [e]
  exact to_bytes (Nat.le_trans hz (by decide)) (bk_lt _) fun t' k' => h t' k' (by unfold resB; rw [toB_size]; exact hz)
end
end Mine
set_option maxHeartbeats 1000000
namespace Mine
section
open Builtin Builtin.Str
variable {prog : Program} {w : World} {A : Around} {E : Value → Shared → Prop} {s : Shared}
theorem repr_leaf {T id : String} {B : Builtin} {v : Value} {x : PySem.Str} {n : Nat} {Q : Value → Shared → Prop} (hT : s.TypeIs v T) (slot : Slot T "__repr__" id)
    (entry : entryFor table id = some B) (args : argsOk id ⟨[v], []⟩) (g : Gives (B ⟨[v], []⟩) (.str x)) (h : Q (.str x s.toks) { s with toks := s.toks + 1 })
    (htw : reprUnder? (.builtin id) = none) (hv : [v].any Value.onHeap = false) (hx : x.length ≤ sizeLine) :
    wpAny (model prog w) A (pyReprObjUnder n v) Q E s := by
  unfold pyReprObjUnder pyReprObjBy
  simp only [cRoomFor, hv, Bool.false_eq_true, if_false, pure_bind]
  refine wpAny_bind (wpAny_specialOf (name := PySem.Str.ofString "__repr__") hT slot.lookup ?_)
  refine wpAny_bind (wpAny_callSpecialIfBoundBy?_slotG (name := PySem.Str.ofString "__repr__") hT slot.toG ?_)
  simp only [htw]
  refine call_gives slot hT entry args g ⟨hx, ?_⟩
  exact wpAny_bind (wpAny_isInstance (T := "str") (b := true) rfl isSubtype_str_str (wpAny_pure h))
theorem repr_str {x : PySem.Str} {t : Tok} {n : Nat} {Q : Value → Shared → Prop} (hx : (reprText x).length ≤ 1000000) (h : Q (.str (reprText x) s.toks) { s with toks := s.toks + 1 }) :
    wpAny (model prog w) A (pyReprObjUnder n (.str x t)) Q E s :=
  repr_leaf (typeIs_str s x t) F.slot_str_repr F.entry_str_repr (F.args_str_repr_1 _) (gives_str_repr x t) h rfl rfl (by rw [sizeLine_eq]; omega)
theorem repr_one {k : Nat} (hk : k < 16 ^ 8) : (reprText ⟨#[k]⟩).length ≤ 12 := by
  have := StrLaws.reprText_len ⟨#[k]⟩ (by intro c hc; have e : c = k := (by simpa using hc); rw [e]; exact hk)
  have e : (PySem.Str.mk #[k]).length = 1 := rfl
  omega
theorem mod_r_meets {k : Nat} {t u : Tok} (hk : k < 16 ^ 8) : Meets («str.__mod__» ⟨[.str ⟨#[67, 104, 97, 114, 97, 99, 116, 101, 114, 32, 37, 114, 32, 105, 115, 32, 110, 111, 116, 32, 97, 32, 118, 97, 108, 105, 100, 32, 98, 97, 115, 101, 53, 56, 32, 99, 104, 97, 114, 97, 99, 116, 101, 114]⟩ t, .str ⟨#[k]⟩ u], []⟩) (fun _ R s => ∀ t' k', R (.ok (.ret (.str (PySem.Str.ofString "Character " ++ reprText ⟨#[k]⟩ ++ PySem.Str.ofString " is not a valid base58 character") t'))) { s with toks := k' }) := by
  have hr := repr_one hk
  apply KPc.meets_of
  intro _ _ _ _ _ _ _
  rw [KPc.entry_is_s]
  unfold Builtin.Str.percentFormat
  refine wpAny_bind (wpAny_isInstance (typeIs_str _ _ _) F.sub_str_tuple ?_)
  refine wpAny_bind (wpAny_of_eq (a := some _) rfl ?_)
  refine wpAny_bind (KPc.wp_fills_str ?_)
  intro _
  kpc_if
  refine wpAny_bind (wpAny_pure ?_)
  refine wpAny_bind ?_
  rw [KPc.range_list]
  refine KPc.start ?_
  intro _ _
  refine KPc.turn ?_; kpc_check; (repeat kpc_if)
  refine wpAny_pure ?_; kpc_piece
  refine KPc.turn ?_; kpc_check; (repeat kpc_if)
  refine wpAny_bind ?_; refine wpAny_holding ?_; (repeat kpc_if)
  refine wpAny_bind (repr_str (by omega) ?_)
  refine wpAny_bind (wpAny_of_eq (a := some _) rfl ?_)
  refine wpAny_pure ?_; refine wpAny_pure ?_
  refine KPc.after_str (by kpc_g) hr (by kpc_obj) ?_; intro _ _
  kpc_turns
theorem mod_r {k : Nat} {t u : Tok} {Q : Value → Shared → Prop} (hk : k < 16 ^ 8) (h : ∀ y t' k', Q (.str y t') { s with toks := k' }) :
    wpAny (model prog w) A (binaryOp .Mod (.str (PySem.Str.ofString "Character %r is not a valid base58 character") t) (.str ⟨#[k]⟩ u)) Q E s := by
  rw [show PySem.Str.ofString "Character %r is not a valid base58 character" = ⟨#[67, 104, 97, 114, 97, 99, 116, 101, 114, 32, 37, 114, 32, 105, 115, 32, 110, 111, 116, 32, 97, 32, 118, 97, 108, 105, 100, 32, 98, 97, 115, 101, 53, 56, 32, 99, 104, 97, 114, 97, 99, 116, 101, 114]⟩ by decide +kernel]
  exact binaryOp_meets (T := "str") (op := .Mod) (typeIs_str s _ t) (typeIs_str s _ u) F.fills_str_mod F.slot_str_mod F.entry_str_mod (F.args_str_mod_2 _ _) (mod_r_meets hk) (fun t' k => ⟨(fun e => nomatch e), h _ t' k⟩)
end
end Mine
set_option maxHeartbeats 1000000
namespace Mine
theorem cpsL_length (x : PySem.Str) : x.cps.toList.length = x.length := by simp [PySem.Str.length]
theorem slice_take (x : PySem.Str) {j : Nat} (h : j ≤ x.length) : (Txt.slice x none (some (j : Int))).cps.toList = x.cps.toList.take j := by
  have e : Txt.slice x none (some (j : Int)) = StrLaws.sliceText x none (some (j : Int)) := rfl
  rw [e, StrLaws.sliceText_to ⟨Int.natCast_nonneg _, by rw [cpsL_length]; omega⟩]
  show ((x.cps.toList.drop 0).take ((j : Int) - 0).toNat) = _
  rw [List.drop_zero, Int.sub_zero, Int.toNat_natCast]
theorem slice_drop (x : PySem.Str) {i : Nat} (h : i ≤ x.length) : (Txt.slice x (some (i : Int)) none).cps.toList = x.cps.toList.drop i := by
  have e : Txt.slice x (some (i : Int)) none = StrLaws.sliceText x (some (i : Int)) none := rfl
  rw [e, StrLaws.sliceText_from ⟨Int.natCast_nonneg _, by rw [cpsL_length]; omega⟩]
  show ((x.cps.toList.drop (i : Int).toNat).take ((x.cps.toList.length : Int) - (i : Int)).toNat) = _
  rw [Int.toNat_natCast]
  refine List.take_of_length_le ?_
  rw [List.length_drop]
  omega
theorem slice_last (x : PySem.Str) : (Txt.slice x none (some (-1))).cps.toList = x.cps.toList.dropLast := by
  rw [slice_to_neg (by decide)]
  have hl := cpsL_length x
  have e : max 0 ((x.length : Int) + -1) = ((x.length - 1 : Nat) : Int) := by omega
  rw [e, slice_take x (by omega), List.dropLast_eq_take, hl]
section
variable {prog : Program} {w : World} {A : Around} {E : Value → Shared → Prop} {s : Shared}
theorem eq_first {k : Nat} {t u : Tok} {Q : Value → Shared → Prop} (h1 : k = 49 → Q (.bool true) s) (h0 : ¬ k = 49 → Q (.bool false) s) :
    wpAny (model prog w) A (compareOp .Eq (.str ⟨#[k]⟩ t) (.str (Txt.item (PySem.Str.ofString "123456789ABCDEFGHJKLMNPQRSTUVWXYZabcdefghijkmnopqrstuvwxyz") 0) u)) Q E s := by
  rw [item_sgn (by decide) (by decide)]
  refine P.eq_str ?_
  show Q (.bool ([k] == [49])) s
  by_cases h : k = 49
  · subst h
    exact h1 rfl
  · have e : ([k] == [49]) = false := by
      rw [beq_eq_false_iff_ne]
      intro e
      exact h (by simpa using e)
    rw [e]
    exact h0 h
theorem zeros_eq (k : Nat) : ((List.replicate ((k : Int)).toNat [(0 : UInt8)]).flatten).toArray = (List.replicate k (0 : UInt8)).toArray := by
  rw [Int.toNat_natCast]
  congr 1
  induction k with
  | zero => rfl
  | succ k ih => rw [List.replicate_succ, List.flatten_cons, ih, List.replicate_succ]; rfl
theorem mul_zero {k : Nat} {t u : Tok} {Q : Value → Shared → Prop} (hk : k ≤ 65536) (h : ∀ t' k', Q (.bytes (List.replicate k (0 : UInt8)).toArray t') { s with toks := k' }) :
    wpAny (model prog w) A (binaryOp .Mult (.bytes #[0] t) (.int (k : Int) u)) Q E s := by
  refine bytes_mul_any (b := [0]) (by decide) (by omega) (by omega) (by decide) fun t' k' => ?_
  rw [zeros_eq]
  exact h t' k'
end
/-- the bytes that a text is read as -/
noncomputable def dec (l : List Nat) : Array UInt8 := if l = [] then #[] else (List.replicate (lead 49 l.dropLast) (0 : UInt8)).toArray ++ resB l
@[irreducible] noncomputable def decB (x : PySem.Str) : Array UInt8 := dec x.cps.toList
theorem decB_nil {x : PySem.Str} (h : x.cps.toList = []) : decB x = #[] := by unfold decB dec; rw [if_pos h]
theorem decB_size {x : PySem.Str} (hx : x.cps.toList.length ≤ 85) (hg : good x.cps.toList) : (decB x).size ≤ 148 := by
  unfold decB dec
  split
  · exact Nat.zero_le _
  · have hz : bk (val58 x.cps.toList) ≤ 64 := bk_le (val58_bound hg hx) (by decide)
    have := lead_le 49 x.cps.toList.dropLast
    rw [List.length_dropLast] at this
    unfold resB
    simp only [Array.size_append, List.size_toArray, List.length_replicate, toB_size]
    omega
theorem add_dec {prog : Program} {w : World} {A : Around} {E : Value → Shared → Prop} {s : Shared} {x : PySem.Str} {t u : Tok} {Q : Value → Shared → Prop} (hx : x.cps.toList.length ≤ 85) (h0 : x.cps.toList ≠ []) (hz : (resB x.cps.toList).size ≤ 64) (h : ∀ t' k', Q (.bytes (decB x) t') { s with toks := k' }) :
    wpAny (model prog w) A (binaryOp .Add (.bytes (List.replicate (lead 49 (Txt.slice x none (some (-1))).cps.toList) (0 : UInt8)).toArray t) (.bytes (resB x.cps.toList) u)) Q E s := by
  rw [slice_last]
  refine KBy.add_bytes ?_ fun t' k' => ?_
  · have := lead_le 49 x.cps.toList.dropLast
    rw [List.length_dropLast] at this
    simp only [List.size_toArray, List.length_replicate]
    omega
  · have h' := h t' k'
    unfold decB dec at h'
    rw [if_neg h0] at h'
    exact h'
theorem raisedS_drop {base G : Heap} {l : List Env} {e : Addr} {cls : Value} {t : Addr} {vs : List Value} {news news' : List (Addr × Obj)} {h : Heap} (R : RaisedS base G l e cls t vs news' h) (hs : ∀ p ∈ news, p ∈ news') : RaisedS base G l e cls t vs news h := by
  obtain ⟨⟨B, h1, h0, h2, h3⟩, h4⟩ := R
  exact ⟨⟨B, h1, h0, fun q hq => h2 q (hs q hq), h3⟩, h4⟩
theorem not_good {l : List Nat} {k : Nat} (hk : k ∈ l) (h : ¬ k ∈ alpha) : ¬ good l := fun g => h (g k hk)
/-- what a def that holds a try must show at its return -/
def LeaveT (h₀ : Heap) (L : Addr) (m : PySem.Str → Option Value) (news : List (Addr × Obj)) (g : Heap) (R : Result → Shared → Prop) (v : Value) (s' : Shared) : Prop :=
  ∃ g' L' m' news', KtsTurn [L] g g' ∧ Fr g' L' s'.heap m' ∧ News g' L' s'.heap news' ∧ (∀ p ∈ news, p ∈ news') ∧ (Fr h₀ L s'.heap m → News h₀ L s'.heap news → R (.ok (.ret v)) s')
section
open PySem.Calls
variable {prog : Program} {w : World} {A₀ A : Around} {s : Shared} {base h₀ : Heap} {L : Addr} {m : PySem.Str → Option Value} {env : Env} {news : List (Addr × Obj)} {K : Frag} {p : Program} {loose : List PySem.Str} {mean : ExcName → Option Value} {mg mb : PySem.Str → Option Value}
    {R : Result → Shared → Prop} {name qual : PySem.Str} {params : Arguments} {body : List Stmt} {scope : Scope} {dV kV doc pm cdv ct oc : Value} {an od : Option Addr} {osl : Array (Option Value)} {f : Addr} {args : Args} {binds : List (PySem.Str × Value)}
/-- a def that holds a try, called from a frame that no other frame of the call's stands below -/
theorem enter_try (B : Below A₀ base [] h₀) (F : Fr h₀ L s.heap m) (X₀ : K.In h₀) (N : News h₀ L s.heap news) (T : Top p loose mean mg mb h₀) (hA : A.frames = some [env]) (hf : env.frame = some L) (hke : env.scope.kind = .function)
    (ho : K.lookup f = some ⟨oc, od, .func (fnOf name qual params body scope dV kV doc pm an cdv ct), osl⟩) (hcd : codeIn K cdv qual = true) (hroom : A.depth < recursionLimit)
    (hbind : BindsTo s (fnOf name qual params body scope dV kV doc pm an cdv ct) args binds) (hloc : ∀ y ∈ binds, scope.names.lookup y.1 = some .local)
    (h : ∀ g L' h₁, Fr h₀ L g m → Fr g L' h₁ (fun y => binds.reverse.lookup y) → News g L' h₁ news → Below A base [env] g → K.In g → Top p loose mean mg mb g → KtsDicts ([env].filterMap (·.frame)) g → KtsTurn ([env].filterMap (·.frame)) g g →
      wpAny (model prog w) (A.deeper (envOf qual scope L' f cdv)) (execs body (envOf qual scope L' f cdv))
        (fun fl s' => LeaveT h₀ L m news g R (match fl with | .ret v => v | _ => .none) s')
        (fun e s' => wpAny (model prog w) (A.deeper (envOf qual scope L' f cdv)) (leaving (envOf qual scope L' f cdv) e) (fun _ s'' => R (.error e) s'') (fun e' s'' => R (.error e') s'') s')
        { s with heap := h₁, toks := s.toks + binds.length })
    (hco : scope.isCoroutine = false) (hgen : scope.isGenerator = false) (hk : scope.kind = .function)
    (hcell : ∀ x ∈ scope.names, x.2 ≠ .cell) : codeAny (model prog w) A (.call (.ref f) args) R s := by
  obtain ⟨FG, BG, st, _⟩ := groundX (R := R) B F N hA hf hke
  have hfs : [env].filterMap (·.frame) = [L] := by simp [hf]
  obtain ⟨oL, es, ep, hLg, hLd, hLk⟩ := FG.ns
  refine codeAny_call_def (fd := fnOf name qual params body scope dV kV doc pm an cdv ct) (body := body) (binds := binds) hroom ((X₀.keeps F.keep) _ _ ho) rfl (T.nolimit.keeps F.keep) (codeRec_of (X₀.keeps F.keep) hcd) rfl hbind hcell hloc (fun h₁ hns hk₁ => ?_) hco hgen hk
  refine wpAny_mono (h _ s.heap.objs.size h₁ FG ⟨hns, fun b o e => hk₁ b o (of_hideAll _ e), Nat.le_of_eq (hideAll_size _ _)⟩
    (fun p hp => ⟨hk₁ _ _ (N p hp).1, Nat.ne_of_lt (Heap.lt_size (N p hp).1), hideAll_none _ (List.mem_map_of_mem hp)⟩) BG (X₀.keeps st) (T.keeps st) (by
      rw [hfs]
      intro b hb
      rw [List.mem_singleton.mp hb]
      exact ⟨oL, es, ep, hLg, hLd⟩) KtsTurn.refl) (fun fl s' hl => ?_) fun _ _ y => y
  obtain ⟨g', L', m', news', T', F', N', hn, k⟩ := hl
  obtain ⟨sl, hs⟩ := T'.up hLg
  have nL₀ : h₀.get? L = none := kts_self F
  refine k ⟨⟨_, es, ep, F'.keep _ _ hs, hLd, hLk⟩, fun b o e => F'.keep b o (T'.other b o (st b o e) fun q => ?_), F.above⟩ fun p hp => ⟨(N' p (hn p hp)).1, (N p hp).2⟩
  rw [List.mem_singleton.mp q, nL₀] at e
  cases e
end
end Mine
set_option maxHeartbeats 1000000
namespace Mine
local macro_rules | `(tactic| k_room) => `(tactic| ktr_room)
local macro_rules | `(tactic| k_mem) => `(tactic| first | with_reducible exact List.mem_cons_self .. | ((with_reducible refine List.mem_cons_of_mem _ ?_); k_mem))
local macro_rules | `(tactic| walk_at "exec For Name Name cons nil") => `(tactic| (k_here; (rename Fr _ _ _ _ => lF'); (with_unfolding_all refine' For_invVF lF' ?k1 ?k2 ?_; (case k1 => exact rfl); (case k2 => exact rfl); k_whole)))
local macro_rules | `(tactic| walk_at "exec For") => `(tactic| (k_here; (rename Fr _ _ _ _ => lF'); (with_unfolding_all refine' For_invVF lF' ?k1 ?k2 ?_; (case k1 => exact rfl); (case k2 => exact rfl); k_whole)))
local macro_rules | `(tactic| walk_at "pyIter str") => `(tactic| (k_here; (with_reducible show wpAny _ _ (pyIter (Value.str _ _)) (fun it s₂ => LoopAtV _ _ _ _ _ _ _ _ _ it s₂) _ _); (rename Fr _ _ _ _ => lF); (rename News _ _ _ _ => lN); (refine' pad_str (z := 49) (by rfl) lF lN ?hp ?_ ?_); (case hp => exact rfl); (all_goals clear lF lN); (rotate_left; rotate_left); (intro k1 pad1 t1 tp1 h1 tk1 own1 hl1 ho1 F1 N1; (try k_fold)); (rotate_left); (intro u1 t1 h1 tk1 F1 N1; (try k_fold)); (rotate_left)))
local macro_rules | `(tactic| walk_at "pyIter str") => `(tactic| (k_here; (with_reducible show wpAny _ _ (pyIter (Value.str _ _)) (fun it s₂ => LoopAtV _ _ _ _ _ _ _ _ _ it s₂) _ _); (rename Fr _ _ _ _ => lF); (rename News _ _ _ _ => lN); (refine' dec_str (by rfl) lF lN ?hp ?_ ?_); (case hp => exact rfl); (all_goals clear lF lN); (rotate_left; rotate_left); (intro k1 n1 u1 t1 tp1 h1 tk1 own1 hl1 ho1 F1 N1; (try k_fold)); (rotate_left); (intro u1 t1 h1 tk1 hg1 F1 N1; (try k_fold)); (rotate_left)))
local macro_rules | `(tactic| walk_at "truthy str") => `(tactic| (k_here; (refine truthy_txt (by omega) ?_ ?_); (all_goals intro _ _)))
local macro_rules | `(tactic| walk_at "compareOp NotIn str str") => `(tactic| (k_here; (refine notIn_alpha ?_ ?_); (all_goals intro _)))
local macro_rules | `(tactic| walk_at "call builtin:str.index") => `(tactic| (k_here; (refine index_alpha (by rfl) (by assumption) ?_)))
local macro_rules | `(tactic| walk_at "DecPost") => `(tactic| (k_here; (rename Fr _ _ _ _ => lF); (rename News _ _ _ _ => lN); (refine' dec_next ?hk lF lN ?hn ?hp ?hr); (case hk => assumption); (case hn => exact fun _ h => h); (case hp => exact rfl); (case hr => intro z h1 h2 h3; simp [h1, h2, h3])))
local macro_rules | `(tactic| walk_at "binaryOp Mod str str") => `(tactic| (k_here; (refine mod_r ?_ ?_); (· exact (by assumption : ∀ c ∈ _, c < 16 ^ 8) _ (by assumption)); intro _ _ _))
local macro_rules | `(tactic| walk_at "call builtin:int.to_bytes") => `(tactic| (k_here; (first | refine to_res1 (by assumption) (by assumption) (by assumption) ?_ | refine to_res0 (by assumption) (by assumption) (by assumption) ?_); intro _ _ hz1))
local macro_rules | `(tactic| walk_at "PadPost") => `(tactic| (k_here; (rename Fr _ _ _ _ => lF); (rename News _ _ _ _ => lN); (refine' ⟨?e, pad_end lF lN ?hn ?hp ?hr⟩); (case e => assumption); (case hn => exact fun _ h => h); (case hp => exact rfl); (case hr => intro z h1 h2; simp [h1, h2])))
local macro_rules | `(tactic| walk_at "compareOp Eq str str") => `(tactic| (k_here; (refine eq_first ?_ ?_); (all_goals intro _)))
local macro_rules | `(tactic| walk_at "binaryOp Mult bytes int") => `(tactic| (k_here; (refine mul_zero ?_ ?_); (· exact Nat.le_trans (lead_le _ _) (by ((rw [slice_last, List.length_dropLast]); omega))); intro _ _))
local macro_rules | `(tactic| walk_at "binaryOp Add bytes bytes") => `(tactic| (k_here; (refine add_dec (by assumption) (by assumption) (by assumption) ?_); intro _ _))
local macro_rules | `(tactic| walk_at "leaving ref") => `(tactic| (k_here; (refine' leave_raiseS ?k1 (Heap.MadeExc.of (by assumption)) ?k2 ?k3 ?_; (case k1 => assumption); (case k2 => assumption); (case k3 => k_asm); k_whole; intro h' t' R' RK' U'; (try dsimp only at R' U' ⊢))))
theorem dec_ok {w : World} {mean : ExcName → Option Value} {mg mb : Str → Option Value} (x : PySem.Str) (tx : Tok) (hb : x.cps.size ≤ 85) (hcode : ∀ c ∈ x.cps.toList, c < 16 ^ 8) (hlen : x.cps.toList.length ≤ 85)
    {dp un : Nat} {gd : Option (List Code)} {cn : Str} {cs : Scope} {a : Addr} {ccd : Value} {cl : List (Str × Addr)} {outer : List Env} {A₀ : Around} {base h₀ : Heap} {L : Addr} {m : Str → Option Value} {news : List (Addr × Obj)} {s : Shared} {Q E : Value → Shared → Prop}
    (B : Below A₀ base outer h₀) (F : Fr h₀ L s.heap m) (X : (Kg w).In h₀) (N : News h₀ L s.heap news) (T : Tp mean mg mb h₀) (hk : cs.kind = .function) (hd : dp + 4 < recursionLimit)
    (hret : good x.cps.toList → ∀ t h' tk', Fr h₀ L h' m → News h₀ L h' news → Q (.bytes (decB x) t) { s with heap := h', toks := tk' })
    (hraise : ¬ good x.cps.toList → ∀ e t vs g' h' tk', Fr h₀ L g' m → RaisedS base g' (envX cn cs L a ccd cl :: outer) e (.type "ValueError") t vs news h' → g'.UpToSlots h' → E (.ref e) { s with heap := h', toks := tk' }) :
    wpAny (model Pg w) (ktrTop dp un gd cn cs L a ccd cl outer) (call (.ref 113) [.str x tx]) Q E s := by
  dsimp only [Pg, Kg, Lo, Tp] at *
  revert X
  k_fill
  intro X
  refine wpAny_call ?_
  k_dflt cell_enter
  w_top off
  k_steps
  all_goals first | exact hraise (not_good (by assumption) (by assumption)) _ _ _ _ _ _ (by k_asm) (raisedS_drop (by assumption) (by intro p hp; exact List.mem_append_left _ hp)) (by assumption) | exact hret (by assumption) _ _ _ (by k_asm) (cb_drop (by k_asm) (by kcj_all)) | ((rw [← decB_nil (by assumption)]); exact hret (by intro c hc; simp_all) _ _ _ (by k_asm) (cb_drop (by k_asm) (by kcj_all)))
end Mine
set_option maxHeartbeats 1000000
namespace Mine
local macro_rules | `(tactic| k_room) => `(tactic| ktr_room)
local macro_rules | `(tactic| k_mem) => `(tactic| first | with_reducible exact List.mem_cons_self .. | ((with_reducible refine List.mem_cons_of_mem _ ?_); k_mem))
local macro_rules | `(tactic| walk_at "call ref") => `(tactic| (k_here; (with_reducible show wpAny _ _ (call (Value.ref _) [Value.str _ _]) _ _ _); k_dflt (refine' dec_ok _ _ ?b ?c ?l ?k1 ?k2 ?k3 ?k4 ?k5 ?kK ?kd ?r ?e; (case b => assumption); (case c => assumption); (case l => assumption); (case k1 => k_asm); (case k2 => k_asm); (case k3 => k_asm); (case k4 => k_asm); (case k5 => k_asm); (case kK => first | exact rfl | assumption); (case kd => ktr_room)); (rotate_left); (intro hng e t vs g' h' tk' FG' R' U'; (have RK' := RaisedS.toK R'); try dsimp only at R' U' ⊢); (rotate_left); (intro hg t h' tk' F' N')))

local macro_rules | `(tactic| walk_at "LeaveT") => `(tactic| (k_here; (rename Fr _ _ _ _ => lF); (rename News _ _ _ _ => lN); k_dflt (refine' ⟨_, _, _, _, ?hT, lF, lN, ?hn, ?_⟩; (case hT => assumption); (case hn => first | exact fun _ h => h | kcj_all)); intro F' N'))
theorem told_ok {w : World} {mean : ExcName → Option Value} {mg mb : Str → Option Value} (x : PySem.Str) (tx : Tok) (hb : x.cps.size ≤ 85) (hcode : ∀ c ∈ x.cps.toList, c < 16 ^ 8) (hlen : x.cps.toList.length ≤ 85)
    {dp un : Nat} {gd : Option (List Code)} {cn : Str} {cs : Scope} {a : Addr} {ccd : Value} {cl : List (Str × Addr)} {A₀ : Around} {h₀ : Heap} {L : Addr} {m : Str → Option Value} {news : List (Addr × Obj)} {s : Shared} {Q E : Value → Shared → Prop}
    (B : Below A₀ h₀ [] h₀) (F : Fr h₀ L s.heap m) (X : (Kg w).In h₀) (N : News h₀ L s.heap news) (T : Tp mean mg mb h₀) (hk : cs.kind = .function) (hd : dp + 8 < recursionLimit)
    (hret : good x.cps.toList → ∀ t h' tk', Fr h₀ L h' m → News h₀ L h' news → Q (.bytes (decB x) t) { s with heap := h', toks := tk' })
    (hnone : ¬ good x.cps.toList → ∀ h' tk', Fr h₀ L h' m → News h₀ L h' news → Q .none { s with heap := h', toks := tk' }) :
    wpAny (model Pg w) (ktrTop dp un gd cn cs L a ccd cl []) (call (.ref 148) [.str x tx]) Q E s := by
  dsimp only [Pg, Kg, Lo, Tp] at *
  revert X
  k_fill
  intro X
  refine wpAny_call ?_
  k_dflt (refine' enter_try ?k1 ?k2 ?k3 ?k4 ?k5 ?kA ?kF ?kK ?k6 ?k7 ?k8 ?k9 ?kB ?_ ?c2 ?c3 ?c4 ?c5; (case kA => exact rfl); (case kF => exact rfl); (case kK => assumption); (case k1 => k_asm); (case k2 => k_asm); (case k3 => k_asm); (case k4 => k_asm); (case k5 => k_asm); (case k6 => k_is); (case k7 => k_is); (case k8 => ktr_room); (case k9 => exact BindsTo.of_eq rfl); (case c5 => decide); (case kB => exact locs rfl); (case c2 => exact rfl); (case c3 => exact rfl); (case c4 => exact rfl); k_whole; intro g' L' h' FG' F' N' B' X' T' D' T0'; (try dsimp only); (try k_lift B'); (try k_fold))
  w_top off
  k_steps
  all_goals first | exact hnone (by assumption) _ _ (by k_asm) (cb_drop (by k_asm) (by kcj_all)) | exact hret (by assumption) _ _ _ (by k_asm) (cb_drop (by k_asm) (by kcj_all))
end Mine
set_option maxHeartbeats 1000000
namespace Mine
/-- the first four bytes; all but the last four; the last four -/
@[irreducible] def fst4 (b : Array UInt8) : Array UInt8 := (b.toList.take 4).toArray
@[irreducible] def but4 (b : Array UInt8) : Array UInt8 := (b.toList.take (b.size - 4)).toArray
@[irreducible] def lst4 (b : Array UInt8) : Array UInt8 := (b.toList.drop (b.size - 4)).toArray
theorem picked_04 (b : Array UInt8) : KBy.picked b (some 0) (some 4) = fst4 b := by
  rw [KBc.picked_eq]
  unfold fst4
  show ((b.toList.drop (clipAt b.size 0)).take (clipAt b.size 4 - clipAt b.size 0)).toArray = _
  rw [show clipAt b.size 0 = min 0 b.size from clipAt_nat b.size 0, show clipAt b.size 4 = min 4 b.size from clipAt_nat b.size 4, Nat.zero_min, List.drop_zero, Nat.sub_zero]
  congr 1
  have : b.toList.length = b.size := Array.length_toList
  rw [← this, List.take_eq_take_iff]
  omega
theorem picked_n4 (b : Array UInt8) : KBy.picked b none (some 4) = fst4 b := by
  rw [KBc.picked_eq]
  unfold fst4
  show ((b.toList.drop 0).take (clipAt b.size 4 - 0)).toArray = _
  rw [show clipAt b.size 4 = min 4 b.size from clipAt_nat b.size 4, List.drop_zero, Nat.sub_zero]
  congr 1
  have : b.toList.length = b.size := Array.length_toList
  rw [← this, List.take_eq_take_iff]
  omega
theorem picked_nm (b : Array UInt8) : KBy.picked b none (some (-4)) = but4 b := by
  rw [KBc.picked_eq]
  unfold but4
  show ((b.toList.drop 0).take (clipAt b.size (-4) - 0)).toArray = _
  rw [show clipAt b.size (-4) = b.size - 4 from clipAt_neg b.size 4 (by decide), List.drop_zero, Nat.sub_zero]
theorem picked_mn (b : Array UInt8) : KBy.picked b (some (-4)) none = lst4 b := by
  rw [KBc.picked_eq]
  unfold lst4
  show ((b.toList.drop (clipAt b.size (-4))).take (b.size - clipAt b.size (-4))).toArray = _
  rw [show clipAt b.size (-4) = b.size - 4 from clipAt_neg b.size 4 (by decide)]
  congr 1
  refine List.take_of_length_le ?_
  rw [List.length_drop, Array.length_toList]
  omega
theorem fst4_size (b : Array UInt8) : (fst4 b).size ≤ 4 := by unfold fst4; simp only [List.size_toArray, List.length_take]; omega
theorem but4_size (b : Array UInt8) : (but4 b).size ≤ b.size := by unfold but4; simp only [List.size_toArray, List.length_take, Array.length_toList]; omega
theorem lst4_size (b : Array UInt8) : (lst4 b).size ≤ 4 := by unfold lst4; simp only [List.size_toArray, List.length_drop, Array.length_toList]; omega
section
variable {prog : Program} {w : World} {A : Around} {E : Value → Shared → Prop} {s : Shared} {value slice : PySem.Expr} {b : Array UInt8} {t t1 t2 : Tok} {h₀ : Heap} {L : Addr} {m : PySem.Str → Option Value} {news : List (Addr × Obj)} {Q : Value → Shared → Prop}
theorem sl_04 (hF : Fr h₀ L s.heap m) (hN : News h₀ L s.heap news) (hz : b.size ≤ 100000) (h : ∀ h' t' k, Fr h₀ L h' m → News h₀ L h' news → (fst4 b).size ≤ 4 → Q (.bytes (fst4 b) t') { s with heap := h', toks := k })
    (hs : subscripted slice false (.bytes b t) (.ref s.heap.objs.size) = operate [.ref s.heap.objs.size, .bytes b t] (getItem (.bytes b t) (.ref s.heap.objs.size)) := by with_unfolding_all rfl)
    (ht : ∀ r, letTemporaryGo value (.bytes b t) r = pure () := by intro _; with_unfolding_all rfl) :
    wpAny (model prog w) A (subscriptTail value slice (.bytes b t) (.ref s.heap.objs.size)) Q E { s with heap := s.heap.push { cls := .type "slice", data := .fields #[.int 0 t1, .int 4 t2, .none] } } :=
  KBc.slice_K hF hN rfl (.int 0 t1) (.int 4 t2) (by rw [KBw.ints_length]; omega) (fun h' t' k F' N' _ => by rw [picked_04]; exact h h' t' k F' N' (fst4_size b)) hs ht
theorem sl_n4 (hF : Fr h₀ L s.heap m) (hN : News h₀ L s.heap news) (hz : b.size ≤ 100000) (h : ∀ h' t' k, Fr h₀ L h' m → News h₀ L h' news → (fst4 b).size ≤ 4 → Q (.bytes (fst4 b) t') { s with heap := h', toks := k })
    (hs : subscripted slice false (.bytes b t) (.ref s.heap.objs.size) = operate [.ref s.heap.objs.size, .bytes b t] (getItem (.bytes b t) (.ref s.heap.objs.size)) := by with_unfolding_all rfl)
    (ht : ∀ r, letTemporaryGo value (.bytes b t) r = pure () := by intro _; with_unfolding_all rfl) :
    wpAny (model prog w) A (subscriptTail value slice (.bytes b t) (.ref s.heap.objs.size)) Q E { s with heap := s.heap.push { cls := .type "slice", data := .fields #[.none, .int 4 t2, .none] } } :=
  KBc.slice_K hF hN rfl .none (.int 4 t2) (by rw [KBw.ints_length]; omega) (fun h' t' k F' N' _ => by rw [picked_n4]; exact h h' t' k F' N' (fst4_size b)) hs ht
theorem sl_nm (hF : Fr h₀ L s.heap m) (hN : News h₀ L s.heap news) (hz : b.size ≤ 100000) (h : ∀ h' t' k, Fr h₀ L h' m → News h₀ L h' news → (but4 b).size ≤ b.size → Q (.bytes (but4 b) t') { s with heap := h', toks := k })
    (hs : subscripted slice false (.bytes b t) (.ref s.heap.objs.size) = operate [.ref s.heap.objs.size, .bytes b t] (getItem (.bytes b t) (.ref s.heap.objs.size)) := by with_unfolding_all rfl)
    (ht : ∀ r, letTemporaryGo value (.bytes b t) r = pure () := by intro _; with_unfolding_all rfl) :
    wpAny (model prog w) A (subscriptTail value slice (.bytes b t) (.ref s.heap.objs.size)) Q E { s with heap := s.heap.push { cls := .type "slice", data := .fields #[.none, .int (-4) t2, .none] } } :=
  KBc.slice_K hF hN rfl .none (.int (-4) t2) (by rw [KBw.ints_length]; omega) (fun h' t' k F' N' _ => by rw [picked_nm]; exact h h' t' k F' N' (but4_size b)) hs ht
theorem sl_mn (hF : Fr h₀ L s.heap m) (hN : News h₀ L s.heap news) (hz : b.size ≤ 100000) (h : ∀ h' t' k, Fr h₀ L h' m → News h₀ L h' news → (lst4 b).size ≤ 4 → Q (.bytes (lst4 b) t') { s with heap := h', toks := k })
    (hs : subscripted slice false (.bytes b t) (.ref s.heap.objs.size) = operate [.ref s.heap.objs.size, .bytes b t] (getItem (.bytes b t) (.ref s.heap.objs.size)) := by with_unfolding_all rfl)
    (ht : ∀ r, letTemporaryGo value (.bytes b t) r = pure () := by intro _; with_unfolding_all rfl) :
    wpAny (model prog w) A (subscriptTail value slice (.bytes b t) (.ref s.heap.objs.size)) Q E { s with heap := s.heap.push { cls := .type "slice", data := .fields #[.int (-4) t1, .none, .none] } } :=
  KBc.slice_K hF hN rfl (.int (-4) t1) .none (by rw [KBw.ints_length]; omega) (fun h' t' k F' N' _ => by rw [picked_mn]; exact h h' t' k F' N' (lst4_size b)) hs ht
theorem dsha_size (b : Array UInt8) : (dsha b).size = 32 := by unfold dsha; exact sha_size _
end
end Mine
set_option maxHeartbeats 1000000
namespace Mine
local macro_rules | `(tactic| k_room) => `(tactic| ktr_room)
local macro_rules | `(tactic| k_mem) => `(tactic| first | with_reducible exact List.mem_cons_self .. | ((with_reducible refine List.mem_cons_of_mem _ ?_); k_mem))
local macro_rules | `(tactic| size_fits) => `(tactic| ((simp only [Array.size_append, dsha_size]); omega))
local macro_rules | `(tactic| walk_at "call ref") => `(tactic| (k_here; k_dflt (first
  | ((with_reducible show wpAny _ _ (call (Value.ref 99) [Value.bytes _ _]) _ _ _); refine' dsha_ok _ _ ?b ?k1 ?k2 ?k3 ?k4 ?k5 ?kK ?kd ?_; (case b => first | assumption | omega | size_fits))
  | ((with_reducible show wpAny _ _ (call (Value.ref 106) [Value.bytes _ _]) _ _ _); refine' enc_ok _ _ ?b ?k1 ?k2 ?k3 ?k4 ?k5 ?kK ?kd ?_; (case b => first | assumption | omega | size_fits))); (case k1 => k_asm); (case k2 => k_asm); (case k3 => k_asm); (case k4 => k_asm); (case k5 => k_asm); (case kK => first | exact rfl | assumption); (case kd => k_dflt ktr_room); (intro t h' tk' F' N')))
local macro_rules | `(tactic| walk_at "subscriptTail") => `(tactic| (k_here; (with_reducible show wpAny _ _ (subscriptTail _ (Expr.Slice _ _ none _) (Value.bytes _ _) (Value.ref _)) _ _ _); (with_reducible rename Fr _ _ _ _ => F'); (with_reducible rename News _ _ _ _ => N'); k_dflt (first | refine sl_04 (s := ⟨_, _, _, _, _⟩) F' N' (by first | omega | size_fits) ?_ | refine sl_n4 (s := ⟨_, _, _, _, _⟩) F' N' (by first | omega | size_fits) ?_ | refine sl_nm (s := ⟨_, _, _, _, _⟩) F' N' (by first | omega | size_fits) ?_ | refine sl_mn (s := ⟨_, _, _, _, _⟩) F' N' (by first | omega | size_fits) ?_); intro _ _ _ _ _ hsz1))
local macro_rules | `(tactic| walk_at "binaryOp Add bytes bytes") => `(tactic| (k_here; (refine KBy.add_bytes (by omega) ?_); intro _ _))
theorem ench_ok {w : World} {mean : ExcName → Option Value} {mg mb : Str → Option Value} (b : Array UInt8) (tb : Tok) (hb : b.size ≤ 200)
    {dp un : Nat} {gd : Option (List Code)} {cn : Str} {cs : Scope} {a : Addr} {ccd : Value} {cl : List (Str × Addr)} {outer : List Env} {A₀ : Around} {base h₀ : Heap} {L : Addr} {m : Str → Option Value} {news : List (Addr × Obj)} {s : Shared} {Q E : Value → Shared → Prop}
    (B : Below A₀ base outer h₀) (F : Fr h₀ L s.heap m) (X : (Kg w).In h₀) (N : News h₀ L s.heap news) (T : Tp mean mg mb h₀) (hk : cs.kind = .function) (hd : dp + 8 < recursionLimit)
    (hret : ∀ t h' tk', Fr h₀ L h' m → News h₀ L h' news → Q (.str (encB (b ++ fst4 (dsha b))) t) { s with heap := h', toks := tk' }) :
    wpAny (model Pg w) (ktrTop dp un gd cn cs L a ccd cl outer) (call (.ref 120) [.bytes b tb]) Q E s := by
  dsimp only [Pg, Kg, Lo, Tp] at *
  revert X
  k_fill
  intro X
  refine wpAny_call ?_
  k_dflt cell_enter
  w_top off
  k_steps
  all_goals first | exact hret _ _ _ (by k_asm) (cb_drop (by k_asm) (by kcj_all))
end Mine
set_option maxHeartbeats 1000000
namespace Mine
section
open Builtin Builtin.Str
theorem slot_brepr : Slot "bytes" "__repr__" "bytes.__repr__" :=
  .of (owner := "bytes") (n := "__repr__") (by rw [typeLookup_type, builtinLookup_eq_fast]; kernel_rfl) (by decide +kernel) (by decide +kernel) (by decide +kernel)
    (by first | exact .inl (by decide +kernel) | exact .inr (by decide +kernel)) (by rw [isSubtype_type]; kernel_rfl)
theorem entry_brepr : entryFor table "bytes.__repr__" = some Builtin.«bytes.__repr__» := entryFor_of_tree (by kernel_rfl)
theorem args_brepr (a : Value) : argsOk "bytes.__repr__" ⟨[a], []⟩ := by unfold argsOk; kernel_rfl
theorem gives_brepr (b : Array UInt8) (t : Tok) (hb : b.size ≤ 100000) : Gives («bytes.__repr__» ⟨[.bytes b t], []⟩) (.str (Bytes.literal b)) := by
  refine .of_eq ?_
  have h : Bytes.tooLong (4 * b.size + 3 + 0) = false := by
    unfold Bytes.tooLong
    rw [sizeLine_eq, decide_eq_false_iff_not]
    omega
  show (Bytes.literalAsked b >>= fun x => retStr x) = _
  unfold Bytes.literalAsked
  rw [h]
  rfl
theorem foldl_size_le {α : Type} (f : α → Array Nat) (k : Nat) (hf : ∀ a, (f a).size ≤ k) : ∀ (l : List α) (acc : Array Nat), (l.foldl (fun acc c => acc ++ f c) acc).size ≤ acc.size + k * l.length
  | [], acc => by simp
  | a :: l, acc => by
    rw [List.foldl_cons, List.length_cons]
    have h1 := foldl_size_le f k hf l (acc ++ f a)
    have h2 := hf a
    rw [Array.size_append] at h1
    have e : k * (l.length + 1) = k * l.length + k := Nat.mul_succ k l.length
    omega
theorem literal_len (b : Array UInt8) : (Bytes.literal b).length ≤ 4 * b.size + 3 := by
  unfold Bytes.literal
  simp only
  show (Array.push _ _).size ≤ _
  rw [Array.size_push, ← Array.foldl_toList]
  refine Nat.le_trans (Nat.succ_le_succ (foldl_size_le _ 4 (fun a => ?_) b.toList _)) ?_
  · (repeat' split) <;> simp
  · rw [Array.length_toList]
    simp only [List.size_toArray, List.length_cons, List.length_nil]
    omega
variable {prog : Program} {w : World} {A : Around} {E : Value → Shared → Prop} {s : Shared}
theorem repr_bytes {b : Array UInt8} {t : Tok} {n : Nat} {Q : Value → Shared → Prop} (hb : b.size ≤ 1000) (h : Q (.str (Bytes.literal b) s.toks) { s with toks := s.toks + 1 }) :
    wpAny (model prog w) A (pyReprObjUnder n (.bytes b t)) Q E s :=
  repr_leaf (typeIs_bytes s b t) slot_brepr entry_brepr (args_brepr _) (gives_brepr b t (by omega)) h rfl rfl (by rw [sizeLine_eq]; have := literal_len b; omega)
theorem reprObj_bytes {b : Array UInt8} {t : Tok} {Q : Value → Shared → Prop} (hb : b.size ≤ 4) (h : ∀ y t' k', y.length ≤ 19 → Q (.str y t') { s with toks := k' }) :
    wpAny (model prog w) A (pyReprObj (.bytes b t)) Q E s :=
  wpAny_pyReprObj_gives (typeIs_bytes s b t) slot_brepr entry_brepr (args_brepr _) (gives_brepr b t (by omega)) (h _ _ _ (by have := literal_len b; omega)) rfl (by rw [sizeLine_eq]; have := literal_len b; omega)
end
end Mine
set_option maxHeartbeats 1000000
namespace Mine
theorem ne_bytes' {prog : Program} {w : World} {A : Around} {E : Value → Shared → Prop} {s : Shared} {b c : Array UInt8} {t u : Tok} {Q : Value → Shared → Prop} (h1 : b = c → Q (.bool false) s) (h0 : ¬ b = c → Q (.bool true) s) : wpAny (model prog w) A (compareOp .NotEq (.bytes b t) (.bytes c u)) Q E s := by
  refine ne_bytes ?_
  by_cases h : b = c
  · subst h
    have e : (b.toList != b.toList) = false := by rw [bne_self_eq_false]
    rw [e]
    exact h1 rfl
  · have e : (b.toList != c.toList) = true := by rw [bne_iff_ne]; exact fun e => h (Array.toList_inj.mp e)
    rw [e]
    exact h0 h
local macro_rules | `(tactic| k_room) => `(tactic| ktr_room)
local macro_rules | `(tactic| k_mem) => `(tactic| first | with_reducible exact List.mem_cons_self .. | ((with_reducible refine List.mem_cons_of_mem _ ?_); k_mem))
local macro_rules | `(tactic| walk_at "call ref") => `(tactic| (k_here; k_dflt ((with_reducible show wpAny _ _ (call (Value.ref 99) [Value.bytes _ _]) _ _ _); refine' dsha_ok _ _ ?b ?k1 ?k2 ?k3 ?k4 ?k5 ?kK ?kd ?_; (case b => omega)); (case k1 => k_asm); (case k2 => k_asm); (case k3 => k_asm); (case k4 => k_asm); (case k5 => k_asm); (case kK => first | exact rfl | assumption); (case kd => k_dflt ktr_room); (intro t h' tk' F' N')))
local macro_rules | `(tactic| walk_at "call ref") => `(tactic| (k_here; (with_reducible show wpAny _ _ (call (Value.ref 113) [Value.str _ _]) _ _ _); k_dflt (refine' dec_ok _ _ ?b ?c ?l ?k1 ?k2 ?k3 ?k4 ?k5 ?kK ?kd ?_ ?_; (case b => assumption); (case c => assumption); (case l => assumption); (case k1 => k_asm); (case k2 => k_asm); (case k3 => k_asm); (case k4 => k_asm); (case k5 => k_asm); (case kK => first | exact rfl | assumption); (case kd => ktr_room)); (rotate_left); (intro hng e t vs g' h' tk' FG' R' U'; (have RK' := RaisedS.toK R'); try dsimp only at R' U' ⊢); (rotate_left); (intro hg t h' tk' F' N'; (have hbz := decB_size (by assumption) hg))))
local macro_rules | `(tactic| walk_at "subscriptTail") => `(tactic| (k_here; (with_reducible show wpAny _ _ (subscriptTail _ (Expr.Slice _ _ none _) (Value.bytes _ _) (Value.ref _)) _ _ _); (with_reducible rename Fr _ _ _ _ => F'); (with_reducible rename News _ _ _ _ => N'); k_dflt (first | refine sl_04 (s := ⟨_, _, _, _, _⟩) F' N' (by first | omega | (rw [dsha_size]; decide)) ?_ | refine sl_n4 (s := ⟨_, _, _, _, _⟩) F' N' (by first | omega | (rw [dsha_size]; decide)) ?_ | refine sl_nm (s := ⟨_, _, _, _, _⟩) F' N' (by first | omega | (rw [dsha_size]; decide)) ?_ | refine sl_mn (s := ⟨_, _, _, _, _⟩) F' N' (by first | omega | (rw [dsha_size]; decide)) ?_); intro _ _ _ _ _ hsz1))
local macro_rules | `(tactic| walk_at "compareOp NotEq bytes bytes") => `(tactic| (k_here; (refine ne_bytes' ?_ ?_); (all_goals intro _)))
local macro_rules | `(tactic| walk_at "pyReprObj bytes") => `(tactic| (k_here; (refine reprObj_bytes (by omega) ?_); intro _ _ _ hy1))
local macro_rules | `(tactic| walk_at "leaving ref") => `(tactic| (k_here; first
  | (refine' leave_raiseS ?k1 (Heap.MadeExc.of (by assumption)) ?k2 ?k3 ?_; (case k1 => assumption); (case k2 => assumption); (case k3 => k_asm); k_whole; intro h' t' R' RK' U'; (try dsimp only at R' U' ⊢))
  | (refine' leave_onS ?k1 ?k2 ?k3 ?k4 ?_; (case k3 => assumption); (case k1 => assumption); (case k2 => assumption); (case k4 => assumption); k_whole; intro h' R' RK' U'; (try dsimp only at R' U' ⊢))))
/-- the check stands: signs of the alphabet, and the last four bytes are the hash's of the rest -/
abbrev chk (x : PySem.Str) : Prop := good x.cps.toList ∧ lst4 (decB x) = fst4 (dsha (but4 (decB x)))
theorem dech_ok {w : World} {mean : ExcName → Option Value} {mg mb : Str → Option Value} (x : PySem.Str) (tx : Tok) (hb : x.cps.size ≤ 85) (hcode : ∀ c ∈ x.cps.toList, c < 16 ^ 8) (hlen : x.cps.toList.length ≤ 85)
    {dp un : Nat} {gd : Option (List Code)} {cn : Str} {cs : Scope} {a : Addr} {ccd : Value} {cl : List (Str × Addr)} {outer : List Env} {A₀ : Around} {base h₀ : Heap} {L : Addr} {m : Str → Option Value} {news : List (Addr × Obj)} {s : Shared} {Q E : Value → Shared → Prop}
    (B : Below A₀ base outer h₀) (F : Fr h₀ L s.heap m) (X : (Kg w).In h₀) (N : News h₀ L s.heap news) (T : Tp mean mg mb h₀) (hk : cs.kind = .function) (hd : dp + 12 < recursionLimit)
    (hret : chk x → ∀ t h' tk', Fr h₀ L h' m → News h₀ L h' news → Q (.bytes (but4 (decB x)) t) { s with heap := h', toks := tk' })
    (hraise : ¬ chk x → ∀ e t vs g' h' tk', Fr h₀ L g' m → RaisedS base g' (envX cn cs L a ccd cl :: outer) e (.type "ValueError") t vs news h' → g'.UpToSlots h' → E (.ref e) { s with heap := h', toks := tk' }) :
    wpAny (model Pg w) (ktrTop dp un gd cn cs L a ccd cl outer) (call (.ref 127) [.str x tx]) Q E s := by
  dsimp only [Pg, Kg, Lo, Tp] at *
  revert X
  k_fill
  intro X
  refine wpAny_call ?_
  k_dflt cell_enter
  w_top off
  k_steps
  all_goals first | exact hret ⟨by assumption, by assumption⟩ _ _ _ (by k_asm) (cb_drop (by k_asm) (by kcj_all)) | exact hraise (fun q => absurd q.1 (by assumption)) _ _ _ _ _ _ (by k_asm) (raisedS_drop (by assumption) (by first | exact fun _ h => h | kcj_all)) (by assumption) | exact hraise (fun q => absurd q.2 (by assumption)) _ _ _ _ _ _ (by k_asm) (raisedS_drop (by assumption) (by first | exact fun _ h => h | kcj_all)) (by assumption)
end Mine
set_option maxHeartbeats 1000000
namespace Mine
local macro_rules | `(tactic| k_room) => `(tactic| ktr_room)
local macro_rules | `(tactic| k_mem) => `(tactic| first | with_reducible exact List.mem_cons_self .. | ((with_reducible refine List.mem_cons_of_mem _ ?_); k_mem))
local macro_rules | `(tactic| walk_at "call ref") => `(tactic| (k_here; (with_reducible show wpAny _ _ (call (Value.ref 127) [Value.str _ _]) _ _ _); k_dflt (refine' dech_ok _ _ ?b ?c ?l ?k1 ?k2 ?k3 ?k4 ?k5 ?kK ?kd ?_ ?_; (case b => assumption); (case c => assumption); (case l => assumption); (case k1 => k_asm); (case k2 => k_asm); (case k3 => k_asm); (case k4 => k_asm); (case k5 => k_asm); (case kK => first | exact rfl | assumption); (case kd => ktr_room)); (rotate_left); (intro hng e t vs g' h' tk' FG' R' U'; (have RK' := RaisedS.toK R'); try dsimp only at R' U' ⊢); (rotate_left); (intro hg t h' tk' F' N')))

local macro_rules | `(tactic| walk_at "LeaveT") => `(tactic| (k_here; (rename Fr _ _ _ _ => lF); (rename News _ _ _ _ => lN); k_dflt (refine' ⟨_, _, _, _, ?hT, lF, lN, ?hn, ?_⟩; (case hT => assumption); (case hn => first | exact fun _ h => h | kcj_all)); intro F' N'))
theorem checked_ok {w : World} {mean : ExcName → Option Value} {mg mb : Str → Option Value} (x : PySem.Str) (tx : Tok) (hb : x.cps.size ≤ 85) (hcode : ∀ c ∈ x.cps.toList, c < 16 ^ 8) (hlen : x.cps.toList.length ≤ 85)
    {dp un : Nat} {gd : Option (List Code)} {cn : Str} {cs : Scope} {a : Addr} {ccd : Value} {cl : List (Str × Addr)} {A₀ : Around} {h₀ : Heap} {L : Addr} {m : Str → Option Value} {news : List (Addr × Obj)} {s : Shared} {Q E : Value → Shared → Prop}
    (B : Below A₀ h₀ [] h₀) (F : Fr h₀ L s.heap m) (X : (Kg w).In h₀) (N : News h₀ L s.heap news) (T : Tp mean mg mb h₀) (hk : cs.kind = .function) (hd : dp + 16 < recursionLimit)
    (hret : chk x → ∀ t h' tk', Fr h₀ L h' m → News h₀ L h' news → Q (.bytes (but4 (decB x)) t) { s with heap := h', toks := tk' })
    (hnone : ¬ chk x → ∀ h' tk', Fr h₀ L h' m → News h₀ L h' news → Q .none { s with heap := h', toks := tk' }) :
    wpAny (model Pg w) (ktrTop dp un gd cn cs L a ccd cl []) (call (.ref 155) [.str x tx]) Q E s := by
  dsimp only [Pg, Kg, Lo, Tp] at *
  revert X
  k_fill
  intro X
  refine wpAny_call ?_
  k_dflt (refine' enter_try ?k1 ?k2 ?k3 ?k4 ?k5 ?kA ?kF ?kK ?k6 ?k7 ?k8 ?k9 ?kB ?_ ?c2 ?c3 ?c4 ?c5; (case kA => exact rfl); (case kF => exact rfl); (case kK => assumption); (case k1 => k_asm); (case k2 => k_asm); (case k3 => k_asm); (case k4 => k_asm); (case k5 => k_asm); (case k6 => k_is); (case k7 => k_is); (case k8 => ktr_room); (case k9 => exact BindsTo.of_eq rfl); (case c5 => decide); (case kB => exact locs rfl); (case c2 => exact rfl); (case c3 => exact rfl); (case c4 => exact rfl); k_whole; intro g' L' h' FG' F' N' B' X' T' D' T0'; (try dsimp only); (try k_lift B'); (try k_fold))
  w_top off
  k_steps
  all_goals first | exact hnone (by assumption) _ _ (by k_asm) (cb_drop (by k_asm) (by kcj_all)) | exact hret (by assumption) _ _ _ (by k_asm) (cb_drop (by k_asm) (by kcj_all))
end Mine
set_option maxHeartbeats 1000000
namespace Mine
section
variable {prog : Program} {w : World} {A : Around} {E : Value → Shared → Prop} {Q : Flow → Shared → Prop} {s : Shared} {env : Env} {h₀ : Heap} {L : Addr}
/-- the end of a turn, or the way out, of a loop that changes one name -/
def OneEnd (h₀ : Heap) (L : Addr) (x : PySem.Str) (v : Int) (m₀ : PySem.Str → Option Value) (news : List (Addr × Obj)) (s₁ s₂ : Shared) : Prop :=
  ∃ h' tk m' news' t, s₂ = { s₁ with heap := h', toks := tk } ∧ Fr h₀ L h' m' ∧ News h₀ L h' news' ∧ (∀ p ∈ news, p ∈ news') ∧ m' x = some (.int v t) ∧ ∀ y, y ≠ x → m' y = m₀ y
theorem one_end {x : PySem.Str} {v : Int} {m₀ m' : PySem.Str → Option Value} {news news' : List (Addr × Obj)} {t : Tok} {h' : Heap} {tk : Nat} (F : Fr h₀ L h' m') (N : News h₀ L h' news') (hn : ∀ p ∈ news, p ∈ news') (hx : m' x = some (.int v t)) (hr : ∀ y, y ≠ x → m' y = m₀ y) :
    OneEnd h₀ L x v m₀ news s { s with heap := h', toks := tk } := ⟨h', tk, m', news', t, rfl, F, N, hn, hx, hr⟩
theorem one_map {x : PySem.Str} {m₀ m' : PySem.Str → Option Value} {v : Value} (hx : m' x = some v) (hr : ∀ y, y ≠ x → m' y = m₀ y) : m' = fun y => if y = x then some v else m₀ y := by
  funext y
  by_cases h : y = x
  · subst h; simp [hx]
  · rw [if_neg h]; exact hr y h
def AhPost (h₀ : Heap) (L : Addr) (l : List Nat) (z : Nat) (m₀ : PySem.Str → Option Value) (news : List (Addr × Obj)) (a : Nat) (s₁ : Shared) (f : Flow) (s₂ : Shared) : Prop :=
  match f with
  | .ret _ => False
  | .brk => False
  | .next => l[a]? = some z ∧ OneEnd h₀ L (PySem.Str.ofString "ahead") ((a : Int) + 1) m₀ news s₁ s₂
  | .cont => l[a]? = some z ∧ OneEnd h₀ L (PySem.Str.ofString "ahead") ((a : Int) + 1) m₀ news s₁ s₂
def AhOut (h₀ : Heap) (L : Addr) (l : List Nat) (z : Nat) (m₀ : PySem.Str → Option Value) (news : List (Addr × Obj)) (a : Nat) (s₁ s₂ : Shared) : Prop :=
  (a = l.length ∨ ∃ k, l[a]? = some k ∧ k ≠ z) ∧ OneEnd h₀ L (PySem.Str.ofString "ahead") (a : Int) m₀ news s₁ s₂
theorem ahead_while {test : Expr} {body : List Stmt} {pos : Pos} {m₀ : PySem.Str → Option Value} {t0 : Tok} {news : List (Addr × Obj)} {l : List Nat} (z : Nat) {B0 : Nat} (_hlB : l.length ≤ B0)
    (F : Fr h₀ L s.heap m₀) (N : News h₀ L s.heap news) (hp : m₀ (PySem.Str.ofString "ahead") = some (.int 0 t0))
    (turn : ∀ (a : Nat) t h tk, a ≤ l.length → Fr h₀ L h (fun y => if y = PySem.Str.ofString "ahead" then some (.int (a : Int) t) else m₀ y) → News h₀ L h news →
      wpAny (model prog w) A (isTrue test env (eval test env)) (fun b s₂ =>
        if b = true then wpAny (model prog w) A (execs body env) (AhPost h₀ L l z m₀ news a { s with heap := h, toks := tk }) E s₂ else AhOut h₀ L l z m₀ news a { s with heap := h, toks := tk } s₂) E { s with heap := h, toks := tk })
    (done : ∀ t h tk, Fr h₀ L h (fun y => if y = PySem.Str.ofString "ahead" then some (.int (lead z l : Int) t) else m₀ y) → News h₀ L h news → Q .next { s with heap := h, toks := tk })
    (hE : PassesOwn (model prog w) A env E := by passes_own) :
    wpAny (model prog w) A (exec (.While test body [] pos) env) Q E s := by
  refine ksw_while (σ := Nat × Tok) (fun _ => news) (fun c => [(PySem.Str.ofString "ahead", .int (c.1 : Int) c.2)]) (fun _ => True) [PySem.Str.ofString "ahead"] (fun c => c.1 ≤ l.length ∧ ∀ j, j < c.1 → l[j]? = some z) (fun c => l.length - c.1) (0, t0) F N trivial (List.forall_mem_cons.mpr ⟨hp, List.forall_mem_nil _⟩) ⟨Nat.zero_le _, fun _ h => absurd h (Nat.not_lt_zero _)⟩ ?_ hE
  rintro ⟨a, t⟩ u h tk _ ⟨ha, hj⟩ F₁ N₁
  dsimp only at ha hj N₁
  have em : (kstB (fun z => if [PySem.Str.ofString "ahead"].contains z then u z else m₀ z) [(PySem.Str.ofString "ahead", Value.int (a : Int) t)]) = fun y => if y = PySem.Str.ofString "ahead" then some (.int (a : Int) t) else m₀ y := by
    funext y
    show (if y = PySem.Str.ofString "ahead" then some (Value.int (a : Int) t) else (if [PySem.Str.ofString "ahead"].contains y then u y else m₀ y)) = _
    by_cases hy : y = PySem.Str.ofString "ahead"
    · rw [if_pos hy, if_pos hy]
    · rw [if_neg hy, if_neg hy, if_neg (by simp [hy])]
  have F₂ : Fr h₀ L h (fun y => if y = PySem.Str.ofString "ahead" then some (.int (a : Int) t) else m₀ y) := em ▸ F₁
  refine wpAny_mono (turn a t h tk ha F₂ N₁) (fun b s₂ p => ?_) fun _ _ x => x
  cases b with
  | false =>
    simp only [Bool.false_eq_true, if_false] at p ⊢
    obtain ⟨hout, h', tk', m', news', t', rfl, F', N', hn, hx, hr⟩ := p
    have hl : lead z l = a := by
      rcases hout with hout | ⟨k, hk, hkz⟩
      · rw [hout]; exact lead_end fun j hjl => hj j (by omega)
      · exact lead_at hk hj hkz
    refine done t' h' tk' ?_ fun p hp => N' p (hn p hp)
    rw [hl, ← one_map hx hr]
    exact F'
  | true =>
    simp only [if_true] at p ⊢
    refine wpAny_mono p (fun f s₃ q => ?_) fun _ _ x => x
    have fin : (l[a]? = some z ∧ OneEnd h₀ L (PySem.Str.ofString "ahead") ((a : Int) + 1) m₀ news { s with heap := h, toks := tk } s₃) → KswEnd h₀ L s (fun _ : Nat × Tok => news) (fun c => [(PySem.Str.ofString "ahead", .int (c.1 : Int) c.2)]) (fun _ => True) [PySem.Str.ofString "ahead"] m₀ (fun c => c.1 ≤ l.length ∧ ∀ j, j < c.1 → l[j]? = some z) (fun c => l.length - c.1) (a, t) s₃ := by
      rintro ⟨hz, h', tk', m', news', t', rfl, F', N', hn, hx, hr⟩
      have hlt : a < l.length := (List.getElem?_eq_some_iff.mp hz).1
      refine ⟨(a + 1, t'), h', tk', m', news', rfl, F', N', hn, trivial, List.forall_mem_cons.mpr ⟨by rw [hx]; push_cast; rfl, List.forall_mem_nil _⟩, fun y h1 _ => hr y ((List.forall_mem_cons.mp h1).1), ⟨hlt, fun j hj' => ?_⟩, by show l.length - (a + 1) < l.length - a; omega⟩
      by_cases hja : j = a
      · subst hja; exact hz
      · exact hj j (by omega)
    cases f with
    | ret v => exact q.elim
    | brk => exact q.elim
    | next => exact fin q
    | cont => exact fin q

/-- the first loop of the law's own reading -/
def RdPost (h₀ : Heap) (L : Addr) (x : PySem.Str) (m₀ : PySem.Str → Option Value) (need : List (Addr × Obj)) (k : Nat) (n : Nat) (Q : Flow → Shared → Prop) (s₁ : Shared) (f : Flow) (s₂ : Shared) : Prop :=
  match f with
  | .ret v => Q (.ret v) s₂
  | .brk => False
  | _ => k ∈ alpha ∧ InvEnd h₀ L (fun m' => (∃ t', m' (PySem.Str.ofString "number") = some (.int ((n : Int) * 58 + (ix k : Int)) t')) ∧ ∀ z, z ≠ x → z ≠ PySem.Str.ofString "number" → m' z = m₀ z) need s₁ s₂
abbrev RdJ (x : PySem.Str) (m₀ : PySem.Str → Option Value) (news : List (Addr × Obj)) (l : List Nat) (i : Nat) (m : PySem.Str → Option Value) (nx : List (Addr × Obj)) : Prop :=
  nx = news ∧ good (l.take i) ∧ (∃ t, m (PySem.Str.ofString "number") = some (.int (val58 (l.take i) : Int) t)) ∧ ∀ y, y ≠ x → y ≠ PySem.Str.ofString "number" → m y = m₀ y
theorem two_map {x n : PySem.Str} {m₀ m₁ : PySem.Str → Option Value} {v u : Value} (ha : m₁ n = some u) (hm : ∀ z, z ≠ x → z ≠ n → m₁ z = m₀ z) :
    (fun z => if z = x then some v else m₁ z) = fun z => if z = x then some v else if z = n then some u else m₀ z := by
  funext z
  by_cases h1 : z = x
  · simp [h1]
  · simp only [if_neg h1]
    by_cases h2 : z = n
    · subst h2; simp [ha]
    · simp only [if_neg h2]; exact hm z h1 h2
theorem two_mapU {x n : PySem.Str} {m₀ m₁ : PySem.Str → Option Value} {u : Value} (ha : m₁ n = some u) (hm : ∀ z, z ≠ x → z ≠ n → m₁ z = m₀ z) :
    m₁ = fun z => if z = x then m₁ z else if z = n then some u else m₀ z := by
  funext z
  by_cases h1 : z = x
  · simp [h1]
  · simp only [if_neg h1]
    by_cases h2 : z = n
    · subst h2; simp [ha]
    · simp only [if_neg h2]; exact hm z h1 h2
theorem rd_str {x : PySem.Str} {body : List Stmt} {y : PySem.Str} {tb t0 : Tok} {m₀ : PySem.Str → Option Value} {news : List (Addr × Obj)}
    (hh : A.handled = none) (F : Fr h₀ env.locals s.heap m₀) (N : News h₀ env.locals s.heap news) (hp : m₀ (PySem.Str.ofString "number") = some (.int 0 t0))
    (turn : ∀ (k n : Nat) t tp h tk own, k ∈ y.cps.toList → OwnOff own (news.map (·.1)) → Fr h₀ env.locals h (fun y => if y = x then some (.str ⟨#[k]⟩ t) else if y = PySem.Str.ofString "number" then some (.int (n : Int) tp) else m₀ y) → News h₀ env.locals h (news ++ own) →
      wpAny (model prog w) A (execs body env) (RdPost h₀ env.locals x m₀ (news ++ own) k n Q { s with heap := h, toks := tk }) E { s with heap := h, toks := tk })
    (done : ∀ (u : PySem.Str → Option Value) t h tk, good y.cps.toList → Fr h₀ env.locals h (fun z => if z = x then u z else if z = PySem.Str.ofString "number" then some (.int (val58 y.cps.toList : Int) t) else m₀ z) → News h₀ env.locals h news → Q .next { s with heap := h, toks := tk }) :
    wpAny (model prog w) A (pyIter (.str y tb)) (fun it s₂ => LoopAtV prog w A h₀ env x body Q E it s₂) E s := by
  refine iter_strN (RdJ x m₀ news y.cps.toList) hh F N ⟨rfl, (fun c hc => by simp at hc), ⟨t0, hp⟩, fun _ _ _ => rfl⟩ ?_ ?_
  · rintro i k t m₁ nx h tk own hk hoff ⟨rfl, hg, ⟨tp, hn⟩, hr⟩ F₁ N₁
    rw [two_map hn hr] at F₁
    have hc : y.cps.toList[i]? = some k := by simpa using hk
    refine wpAny_mono (turn k _ t tp h tk own (List.mem_of_getElem? hc) hoff F₁ N₁) (fun f s₂ p => ?_) fun _ _ e => e
    have fin : (k ∈ alpha ∧ InvEnd h₀ env.locals (fun m' => (∃ t', m' (PySem.Str.ofString "number") = some (.int ((val58 (y.cps.toList.take i) : Int) * 58 + (ix k : Int)) t')) ∧ ∀ z, z ≠ x → z ≠ PySem.Str.ofString "number" → m' z = m₀ z) (nx ++ own) { s with heap := h, toks := tk } s₂) →
        InvEndN h₀ env.locals (RdJ x m₀ nx y.cps.toList (i + 1)) own (nx.map (·.1)) { s with heap := h, toks := tk } s₂ := by
      rintro ⟨hka, h', tk', m', news', e, F', N', hn', ⟨t', hp'⟩, hr'⟩
      refine ⟨h', tk', m', news', nx, e, F', N', fun p hp => hn' p (List.mem_append_left _ hp), fun p hp => hn' p (List.mem_append_right _ hp), rfl, rfl, ?_, ⟨t', ?_⟩, hr'⟩
      · rw [take_succ_get hc]
        intro c hc'
        rcases List.mem_append.mp hc' with h1 | h1
        · exact hg c h1
        · rw [List.mem_singleton.mp h1]; exact hka
      · rw [hp', take_succ_get hc, val58_snoc]
        push_cast
        rfl
    cases f with
    | ret v => exact p
    | brk => exact p.elim
    | next => exact fin p
    | cont => exact fin p
  · rintro m₁ nx h tk ⟨rfl, hg, ⟨tp, hn⟩, hr⟩ F₁ N₁
    have e : y.cps.toList.take y.cps.size = y.cps.toList := List.take_of_length_le (by simp)
    rw [e] at hg hn
    refine done m₁ tp h tk hg ?_ N₁
    rw [← two_mapU hn hr]
    exact F₁
theorem rd_ret {x : PySem.Str} {m₀ : PySem.Str → Option Value} {need : List (Addr × Obj)} {k n : Nat} {v : Value} {s₁ s₂ : Shared} (h : Q (.ret v) s₂) : RdPost h₀ L x m₀ need k n Q s₁ (.ret v) s₂ := h
theorem rd_next {x : PySem.Str} {m₀ m' : PySem.Str → Option Value} {need news' : List (Addr × Obj)} {k n : Nat} {t' : Tok} {h' : Heap} {tk : Nat} (hk : k ∈ alpha) (F : Fr h₀ L h' m') (N : News h₀ L h' news') (hn : ∀ p ∈ need, p ∈ news')
    (hp : m' (PySem.Str.ofString "number") = some (.int ((n : Int) * 58 + (ix k : Int)) t')) (hr : ∀ z, z ≠ x → z ≠ PySem.Str.ofString "number" → m' z = m₀ z) : RdPost h₀ L x m₀ need k n Q s .next { s with heap := h', toks := tk } :=
  ⟨hk, InvEnd.intro F N hn ⟨⟨t', hp⟩, hr⟩⟩
end
end Mine
set_option maxHeartbeats 1000000
namespace Mine
def nints (l : List Nat) : List Int := l.map fun (k : Nat) => (k : Int)
theorem nints_length (l : List Nat) : (nints l).length = l.length := by simp [nints]
section
variable {prog : Program} {w : World} {A : Around} {E : Value → Shared → Prop} {Q : Flow → Shared → Prop} {s : Shared} {env : Env} {h₀ : Heap} {L : Addr}
abbrev RwM (n : Nat) (t : Tok) (l : Addr) (m₀ : PySem.Str → Option Value) : PySem.Str → Option Value := fun y => if y = PySem.Str.ofString "number" then some (.int (n : Int) t) else if y = PySem.Str.ofString "found" then some (.ref l) else m₀ y
def RwEnd (h₀ : Heap) (L : Addr) (m₀ : PySem.Str → Option Value) (rest : List (Addr × Obj)) (n : Int) (ks : List Int) (s₁ s₂ : Shared) : Prop :=
  ∃ h' tk m' news' t l vs cnt, s₂ = { s₁ with heap := h', toks := tk } ∧ Fr h₀ L h' m' ∧ News h₀ L h' news' ∧ (l, W.listOf (List.toArray vs) cnt) ∈ news' ∧ (∀ p ∈ rest, p ∈ news') ∧ IntsAre vs ks ∧ m' (PySem.Str.ofString "number") = some (.int n t) ∧ m' (PySem.Str.ofString "found") = some (.ref l) ∧ ∀ y, y ≠ PySem.Str.ofString "number" → y ≠ PySem.Str.ofString "found" → m' y = m₀ y
theorem rw_end {m₀ m' : PySem.Str → Option Value} {rest news' : List (Addr × Obj)} {n : Int} {ks : List Int} {h' : Heap} {tk : Nat} {t : Tok} {l : Addr} {vs : List Value} {cnt : Nat} (F : Fr h₀ L h' m') (N : News h₀ L h' news') (hn : m' (PySem.Str.ofString "number") = some (.int n t)) (hf : m' (PySem.Str.ofString "found") = some (.ref l)) (hl : (l, W.listOf (List.toArray vs) cnt) ∈ news') (hr : ∀ p ∈ rest, p ∈ news')
    (hi : IntsAre vs ks) (ho : ∀ y, y ≠ PySem.Str.ofString "number" → y ≠ PySem.Str.ofString "found" → m' y = m₀ y) : RwEnd h₀ L m₀ rest n ks s { s with heap := h', toks := tk } := ⟨h', tk, m', news', t, l, vs, cnt, rfl, F, N, hl, hr, hi, hn, hf, ho⟩
def RwPost (h₀ : Heap) (L : Addr) (m₀ : PySem.Str → Option Value) (rest : List (Addr × Obj)) (n : Nat) (ks : List Nat) (s₁ : Shared) (f : Flow) (s₂ : Shared) : Prop :=
  match f with
  | .ret _ => False
  | .brk => False
  | .next => 0 < n ∧ RwEnd h₀ L m₀ rest ((n : Int).fdiv 256) ((n : Int).fmod 256 :: nints ks) s₁ s₂
  | .cont => 0 < n ∧ RwEnd h₀ L m₀ rest ((n : Int).fdiv 256) ((n : Int).fmod 256 :: nints ks) s₁ s₂
def RwOut (h₀ : Heap) (L : Addr) (m₀ : PySem.Str → Option Value) (rest : List (Addr × Obj)) (n : Nat) (ks : List Nat) (s₁ s₂ : Shared) : Prop :=
  ¬ 0 < n ∧ RwEnd h₀ L m₀ rest (n : Int) (nints ks) s₁ s₂
theorem rw_out {m₀ : PySem.Str → Option Value} {rest : List (Addr × Obj)} {n : Nat} {ks : List Nat} {s₁ s₂ : Shared} (h0 : ¬ 0 < n) (h : RwEnd h₀ L m₀ rest (n : Int) (nints ks) s₁ s₂) : RwOut h₀ L m₀ rest n ks s₁ s₂ := ⟨h0, h⟩
theorem rw_next {m₀ : PySem.Str → Option Value} {rest : List (Addr × Obj)} {n : Nat} {ks : List Nat} {s₁ s₂ : Shared} (h0 : 0 < n) (h : RwEnd h₀ L m₀ rest ((n : Int).fdiv 256) ((n : Int).fmod 256 :: nints ks) s₁ s₂) : RwPost h₀ L m₀ rest n ks s₁ .next s₂ := ⟨h0, h⟩
theorem rw_out1 {m₀ m' : PySem.Str → Option Value} {rest : List (Addr × Obj)} {n : Nat} {ks : List Nat} {h' : Heap} {tk cnt : Nat} {t : Tok} {l : Addr} {vs : List Value} (F : Fr h₀ L h' m') (N : News h₀ L h' ((l, W.listOf vs.toArray cnt) :: rest)) (h0 : ¬ (0 : Int) < (n : Int)) (hi : IntsAre vs (nints ks)) (hn : m' (PySem.Str.ofString "number") = some (.int (n : Int) t)) (hf : m' (PySem.Str.ofString "found") = some (.ref l))
    (ho : ∀ y, y ≠ PySem.Str.ofString "number" → y ≠ PySem.Str.ofString "found" → m' y = m₀ y) : RwOut h₀ L m₀ rest n ks s { s with heap := h', toks := tk } :=
  ⟨by omega, rw_end F N hn hf (.head _) (fun _ hp => .tail _ hp) hi ho⟩
theorem rw_next1 {m₀ m' : PySem.Str → Option Value} {rest : List (Addr × Obj)} {n : Nat} {ks : List Nat} {h' : Heap} {tk cnt : Nat} {t u : Tok} {l D : Addr} {p : Addr × Obj} {vs : List Value} (F : Fr h₀ L h' m') (N : News h₀ L h' ((D, { cls := .type "list", data := .seq (#[Value.int ((n : Int).fmod 256) u].toList ++ vs.toArray.toList).toArray }) :: p :: (l, W.listOf vs.toArray cnt) :: rest)) (h0 : (0 : Int) < (n : Int)) (hi : IntsAre vs (nints ks)) (hn : m' (PySem.Str.ofString "number") = some (.int ((n : Int).fdiv 256) t)) (hf : m' (PySem.Str.ofString "found") = some (.ref D))
    (ho : ∀ y, y ≠ PySem.Str.ofString "number" → y ≠ PySem.Str.ofString "found" → m' y = m₀ y) : RwPost h₀ L m₀ rest n ks s .next { s with heap := h', toks := tk } :=
  ⟨by omega, rw_end (vs := Value.int ((n : Int).fmod 256) u :: vs) F N hn hf (.head _) (fun _ hp => .tail _ (.tail _ (.tail _ hp))) (.cons _ _ hi) ho⟩
abbrev RwS := Nat × Tok × Addr × List Value × List Nat × Nat
theorem rw_map {n : Int} {t : Tok} {l : Addr} {m₀ m' : PySem.Str → Option Value} (hn : m' (PySem.Str.ofString "number") = some (.int n t)) (hf : m' (PySem.Str.ofString "found") = some (.ref l)) (ho : ∀ y, y ≠ PySem.Str.ofString "number" → y ≠ PySem.Str.ofString "found" → m' y = m₀ y) :
    m' = fun y => if y = PySem.Str.ofString "number" then some (.int n t) else if y = PySem.Str.ofString "found" then some (.ref l) else m₀ y := by
  funext y
  by_cases h1 : y = PySem.Str.ofString "number"
  · subst h1; simp [hn]
  · rw [if_neg h1]
    by_cases h2 : y = PySem.Str.ofString "found"
    · subst h2; simp [hf]
    · rw [if_neg h2]; exact ho y h1 h2
theorem rw_while {test : Expr} {body : List Stmt} {pos : Pos} {m₀ : PySem.Str → Option Value} {N0 : Nat} {t0 : Tok} {l0 : Addr} {cnt : Nat} {rest : List (Addr × Obj)}
    (F : Fr h₀ L s.heap m₀) (N : News h₀ L s.heap ((l0, W.listOf #[] cnt) :: rest)) (hn : m₀ (PySem.Str.ofString "number") = some (.int (N0 : Int) t0)) (hc : m₀ (PySem.Str.ofString "found") = some (.ref l0)) (hN : N0 < 2 ^ 512)
    (turn : ∀ (n : Nat) t l vs (ks : List Nat) cnt h tk, IntsAre vs (nints ks) → vs.length ≤ 512 → @LT.lt Nat _ l h.objs.size → Fr h₀ L h (RwM n t l m₀) → News h₀ L h ((l, W.listOf (List.toArray vs) cnt) :: rest) →
      wpAny (model prog w) A (isTrue test env (eval test env)) (fun b s₂ =>
        if b = true then wpAny (model prog w) A (execs body env) (RwPost h₀ L m₀ rest n ks { s with heap := h, toks := tk }) E s₂ else RwOut h₀ L m₀ rest n ks { s with heap := h, toks := tk } s₂) E { s with heap := h, toks := tk })
    (done : ∀ t l vs cnt h tk, IntsAre vs (nints (digs 256 N0).reverse) → (digs 256 N0).length ≤ 512 → Fr h₀ L h (RwM 0 t l m₀) → News h₀ L h ((l, W.listOf (List.toArray vs) cnt) :: rest) → Q .next { s with heap := h, toks := tk })
    (hE : PassesOwn (model prog w) A env E := by passes_own) :
    wpAny (model prog w) A (exec (.While test body [] pos) env) Q E s := by
  have hlen := digs_length (B := 256) (by decide) 512 N0 hN
  refine ksw_while (σ := RwS) (fun c => (c.2.2.1, W.listOf (List.toArray c.2.2.2.1) c.2.2.2.2.2) :: rest) (fun c => [(PySem.Str.ofString "number", .int (c.1 : Int) c.2.1), (PySem.Str.ofString "found", .ref c.2.2.1)]) (fun c => IntsAre c.2.2.2.1 (nints c.2.2.2.2.1)) [PySem.Str.ofString "number", PySem.Str.ofString "found"]
    (fun c => (digs 256 c.1).reverse ++ c.2.2.2.2.1 = (digs 256 N0).reverse) (fun c => c.1) (N0, t0, l0, [], [], cnt) F N (by exact .nil) (List.forall_mem_cons.mpr ⟨hn, List.forall_mem_cons.mpr ⟨hc, List.forall_mem_nil _⟩⟩) (by simp) ?_ hE
  rintro ⟨n, t, l, vs, ks, cnt⟩ u h tk hf hp F₁ N₁
  dsimp only at hf hp N₁
  have em : (kstB (fun z => if [PySem.Str.ofString "number", PySem.Str.ofString "found"].contains z then u z else m₀ z) [(PySem.Str.ofString "number", Value.int (n : Int) t), (PySem.Str.ofString "found", Value.ref l)]) = RwM n t l m₀ := by
    funext y
    show (if y = PySem.Str.ofString "number" then some (Value.int (n : Int) t) else if y = PySem.Str.ofString "found" then some (Value.ref l) else (if [PySem.Str.ofString "number", PySem.Str.ofString "found"].contains y then u y else m₀ y)) = _
    unfold RwM
    by_cases h1 : y = PySem.Str.ofString "number"
    · rw [if_pos h1, if_pos h1]
    · rw [if_neg h1, if_neg h1]
      by_cases h2 : y = PySem.Str.ofString "found"
      · rw [if_pos h2, if_pos h2]
      · rw [if_neg h2, if_neg h2, if_neg (by simp [h1, h2])]
  have F₂ : Fr h₀ L h (RwM n t l m₀) := em ▸ F₁
  have hvl : vs.length ≤ 512 := by
    have h1 := congrArg List.length hp
    rw [List.length_append, List.length_reverse, List.length_reverse] at h1
    have h2 := hf.length
    rw [nints_length] at h2
    omega
  refine wpAny_mono (turn n t l vs ks cnt h tk hf hvl (Heap.lt_size (N₁ _ (.head _)).1) F₂ N₁) (fun b s₂ p => ?_) fun _ _ x => x
  cases b with
  | false =>
    simp only [Bool.false_eq_true, if_false] at p ⊢
    obtain ⟨h0, h', tk', m', news', t', l', vs', cnt', rfl, F', N', hl', hr', hi', hn', hf', ho'⟩ := p
    have hz : n = 0 := by omega
    subst hz
    rw [digs_zero, List.reverse_nil, List.nil_append] at hp
    refine done t' l' vs' cnt' h' tk' (hp ▸ hi') hlen ?_ fun q hq => ?_
    · rw [rw_map hn' hf' ho'] at F'
      exact F'
    · rcases List.mem_cons.mp hq with rfl | hq
      · exact N' _ hl'
      · exact N' q (hr' q hq)
  | true =>
    simp only [if_true] at p ⊢
    refine wpAny_mono p (fun f s₃ q => ?_) fun _ _ x => x
    have fin : (0 < n ∧ RwEnd h₀ L m₀ rest ((n : Int).fdiv 256) ((n : Int).fmod 256 :: nints ks) { s with heap := h, toks := tk } s₃) → KswEnd h₀ L s (fun c : RwS => (c.2.2.1, W.listOf (List.toArray c.2.2.2.1) c.2.2.2.2.2) :: rest) (fun c => [(PySem.Str.ofString "number", .int (c.1 : Int) c.2.1), (PySem.Str.ofString "found", .ref c.2.2.1)]) (fun c => IntsAre c.2.2.2.1 (nints c.2.2.2.2.1)) [PySem.Str.ofString "number", PySem.Str.ofString "found"] m₀ (fun c => (digs 256 c.1).reverse ++ c.2.2.2.2.1 = (digs 256 N0).reverse) (fun c => c.1) (n, t, l, vs, ks, cnt) s₃ := by
      rintro ⟨h0, h', tk', m', news', t', l', vs', cnt', rfl, F', N', hl', hr', hi', hn', hf', ho'⟩
      have e1 : (n : Int).fdiv 256 = ((n / 256 : Nat) : Int) := by rw [Int.fdiv_eq_ediv_of_nonneg _ (by decide)]; rfl
      have e2 : (n : Int).fmod 256 = ((n % 256 : Nat) : Int) := by rw [Int.fmod_eq_emod_of_nonneg _ (by decide)]; rfl
      rw [e1] at hn'
      rw [e2] at hi'
      refine ⟨(n / 256, t', l', vs', (n % 256) :: ks, cnt'), h', tk', m', news', rfl, F', N', fun q hq => ?_, hi', List.forall_mem_cons.mpr ⟨hn', List.forall_mem_cons.mpr ⟨hf', List.forall_mem_nil _⟩⟩, fun y h1 _ => ?_, ?_, Nat.div_lt_self h0 (by decide)⟩
      · rcases List.mem_cons.mp hq with rfl | hq
        · exact hl'
        · exact hr' q hq
      · have h2 := List.forall_mem_cons.mp h1
        exact ho' y h2.1 (List.forall_mem_cons.mp h2.2).1
      · show (digs 256 (n / 256)).reverse ++ (n % 256) :: ks = _
        rw [← hp, digs_pos h0 (by decide), List.reverse_cons, List.append_assoc]
        rfl
    cases f with
    | ret v => exact q.elim
    | brk => exact q.elim
    | next => exact fin q
    | cont => exact fin q
theorem len_txt {x : PySem.Str} {t : Tok} {Q : Value → Shared → Prop} (hx : x.cps.toList.length ≤ 65536) (h : ∀ t' k, Q (.int (x.cps.toList.length : Int) t') { s with toks := k }) : wpAny (model prog w) A (call (.builtin "len") [.str x t]) Q E s := by
  have hl : x.length = x.cps.toList.length := by simp [PySem.Str.length]
  refine SBL.len (by rw [hl]; omega) ?_
  rw [hl]
  exact h _ _
theorem zeros_flat (k : Nat) (v : Value) : List.foldl (fun x1 x2 => x1 ++ x2) #[] (List.replicate (if (#[v] : Array Value).isEmpty = true then 0 else ((k : Int)).toNat) #[v]) = (List.replicate k v).toArray := by
  rw [if_neg (by simp), Int.toNat_natCast]
  have go : ∀ (k : Nat) (acc : Array Value), List.foldl (fun x1 x2 => x1 ++ x2) acc (List.replicate k #[v]) = acc ++ (List.replicate k v).toArray := by
    intro k
    induction k with
    | zero => intro acc; simp
    | succ k ih =>
      intro acc
      rw [List.replicate_succ, List.foldl_cons, ih, List.replicate_succ]
      apply Array.toList_inj.mp
      simp
  rw [go]
  simp
theorem ints_rep (v : Int) (t : Tok) : ∀ k : Nat, IntsAre (List.replicate k (Value.int v t)) (List.replicate k v)
  | 0 => .nil
  | k + 1 => .cons v t (ints_rep v t k)
theorem mul_zeros {l : Addr} {m : PySem.Str → Option Value} {news : List (Addr × Obj)} {k c : Nat} {t u : Tok} {Q : Value → Shared → Prop} (F : Fr h₀ L s.heap m) (N : News h₀ L s.heap news) (hl : (l, W.listOf #[.int 0 t] c) ∈ news) (hk : k ≤ 65536)
    (h : ∀ D h', Fr h₀ L h' m → News h₀ L h' ((D, W.listOf (List.replicate k (Value.int 0 t)).toArray 0) :: news) → (∀ p ∈ news, p.1 < D) → IntsAre (List.replicate k (Value.int 0 t)) (List.replicate k 0) → Q (.ref D) { s with heap := h' }) :
    wpAny (model prog w) A (binaryOp .Mult (.ref l) (.int (k : Int) u)) Q E s := by
  refine mul_list F N (N.get hl) (by omega) (by omega) (by rw [Int.toNat_natCast]; show 1 * k ≤ 2 ^ 24; omega) fun h' F' N' => ?_
  rw [zeros_flat] at N'
  exact h _ h' F' N' (fun p hp => Heap.lt_size (N p hp).1) (ints_rep 0 t k)
theorem item_at {x : PySem.Str} {a : Nat} (h : a < x.length) : ∃ k, x.cps.toList[a]? = some k ∧ Txt.item x (a : Int) = ⟨#[k]⟩ := by
  have h' : a < x.cps.size := h
  refine ⟨x.cps[a], by simp [h'], ?_⟩
  unfold Txt.item Txt.charAt
  rw [StrLaws.at_nonneg (n := x.cps[a]) (Int.natCast_nonneg _) (by rw [Int.toNat_natCast]; simp [h'])]
  rfl
theorem item_is {x : PySem.Str} {a : Nat} (h : (a : Int) < (x.cps.toList.length : Int)) (e : (Txt.item x (a : Int) == PySem.Str.ofString "1") = true) : x.cps.toList[a]? = some 49 := by
  obtain ⟨k, hk, hi⟩ := item_at (show a < x.length by have : x.cps.toList.length = x.length := (by simp [PySem.Str.length]); omega)
  have e1 := eq_of_beq e
  rw [hi] at e1
  have e2 := congrArg (fun y : PySem.Str => y.cps.toList) e1
  have e3 : [k] = [49] := e2
  rw [hk, (List.cons.inj e3).1]
theorem item_not {x : PySem.Str} {a : Nat} (h : (a : Int) < (x.cps.toList.length : Int)) (e : (Txt.item x (a : Int) == PySem.Str.ofString "1") = false) : ∃ k, x.cps.toList[a]? = some k ∧ k ≠ 49 := by
  obtain ⟨k, hk, hi⟩ := item_at (show a < x.length by have : x.cps.toList.length = x.length := (by simp [PySem.Str.length]); omega)
  refine ⟨k, hk, fun e' => ?_⟩
  rw [hi, e'] at e
  exact absurd e (by decide +kernel)
theorem ah_next {l : List Nat} {z : Nat} {m₀ : PySem.Str → Option Value} {news : List (Addr × Obj)} {a : Nat} {s₁ s₂ : Shared} (h0 : l[a]? = some z) (h : OneEnd h₀ L (PySem.Str.ofString "ahead") ((a : Int) + 1) m₀ news s₁ s₂) : AhPost h₀ L l z m₀ news a s₁ .next s₂ := ⟨h0, h⟩
theorem ah_out {l : List Nat} {z : Nat} {m₀ : PySem.Str → Option Value} {news : List (Addr × Obj)} {a : Nat} {s₁ s₂ : Shared} (h0 : a = l.length ∨ ∃ k, l[a]? = some k ∧ k ≠ z) (h : OneEnd h₀ L (PySem.Str.ofString "ahead") (a : Int) m₀ news s₁ s₂) : AhOut h₀ L l z m₀ news a s₁ s₂ := ⟨h0, h⟩
end
end Mine
set_option maxHeartbeats 1000000
namespace Mine
/-- a number's k digits, the last one first -/
noncomputable def lit (B : Nat) : Nat → Nat → List Nat
  | 0, _ => []
  | k + 1, n => n % B :: lit B k (n / B)
theorem lit_eq (B : Nat) : ∀ (k n : Nat), lit B k n = (List.range k).map fun i => n / B ^ i % B
  | 0, _ => rfl
  | k + 1, n => by
    rw [lit, lit_eq B k, List.range_succ_eq_map, List.map_cons, List.map_map]
    congr 1
    · rw [Nat.pow_zero, Nat.div_one]
    · refine List.map_congr_left fun i _ => ?_
      show n / B / B ^ i % B = n / B ^ (i + 1) % B
      rw [Nat.div_div_eq_div_mul, Nat.pow_succ, Nat.mul_comm]
theorem lit_digs {B : Nat} (hB : 2 ≤ B) : ∀ (k n : Nat), n < B ^ k → (k = 0 ∨ B ^ (k - 1) ≤ n) → lit B k n = digs B n
  | 0, n, h, _ => by
    have : n = 0 := by simpa using h
    subst this
    rw [digs_zero]
    rfl
  | k + 1, n, h, h1 => by
    have h2 : B ^ k ≤ n := h1.resolve_left (by omega)
    have hp : 0 < B ^ k := Nat.pow_pos (by omega)
    rw [digs_pos (by omega) hB, lit]
    congr 1
    refine lit_digs hB k (n / B) ?_ ?_
    · rw [Nat.pow_succ] at h
      exact Nat.div_lt_of_lt_mul (by rw [Nat.mul_comm]; exact h)
    · cases k with
      | zero => exact .inl rfl
      | succ k =>
        refine .inr ?_
        rw [Nat.le_div_iff_mul_le (by omega)]
        show B ^ k * B ≤ n
        rw [← Nat.pow_succ]
        exact h2
theorem bk_ge {n : Nat} (h : 0 < n) : bk n = 0 ∨ 256 ^ (bk n - 1) ≤ n := by
  refine .inr ?_
  have hb : Builtin.Int.intBits (n : Int) = n.log2 + 1 := by
    unfold Builtin.Int.intBits
    have : ((n : Int) == 0) = false := by rw [beq_eq_false_iff_ne]; omega
    rw [this, Int.natAbs_natCast]
    rfl
  have h1 := Nat.log2_self_le (Nat.ne_of_gt h)
  have h2 : 8 * (bk n - 1) ≤ n.log2 := by
    unfold bk
    rw [hb]
    split <;> omega
  have h3 : 256 ^ (bk n - 1) = 2 ^ (8 * (bk n - 1)) := by rw [Nat.pow_mul]
  rw [h3]
  exact Nat.le_trans (Nat.pow_le_pow_right (by decide) h2) h1
theorem toB_digs {n : Nat} (h : 0 < n) : toB (bk n) n = ((digs 256 n).reverse.map Nat.toUInt8).toArray := by
  rw [← lit_digs (by decide) (bk n) n (bk_lt n) (bk_ge h), lit_eq]
  unfold toB
  rw [← List.map_reverse, List.map_map]
  rfl
theorem toB_zero : toB (bk 0) 0 = #[0] := by decide +kernel
theorem lead_stop {z : Nat} : ∀ {a b : List Nat}, (∃ k ∈ a, k ≠ z) → lead z (a ++ b) = lead z a
  | [], _, ⟨_, h, _⟩ => nomatch h
  | c :: a, b, ⟨k, hk, hz⟩ => by
    rw [List.cons_append, lead, lead]
    by_cases hc : c = z
    · rw [if_pos hc, if_pos hc, lead_stop ⟨k, ?_, hz⟩]
      rcases List.mem_cons.mp hk with e | e
      · exact absurd (e.trans hc) hz
      · exact e
    · rw [if_neg hc, if_neg hc]
theorem ix_zero {c : Nat} (h : c ∈ alpha) (h0 : ix c = 0) : c = 49 := by
  have : ∀ c ∈ alpha, ix c = 0 → c = 49 := by decide
  exact this c h h0
theorem val58_zero : ∀ (r : List Nat), good r.reverse → val58 r.reverse = 0 → ∀ c ∈ r.reverse, c = 49
  | [], _, _, c, h => by simp at h
  | a :: r, hg, hv, c, h => by
    rw [List.reverse_cons] at hg hv h
    rw [val58_snoc] at hv
    have hga : a ∈ alpha := hg a (by simp)
    rcases List.mem_append.mp h with h1 | h1
    · exact val58_zero r (fun d hd => hg d (List.mem_append_left _ hd)) (by omega) c h1
    · rw [List.mem_singleton.mp h1]; exact ix_zero hga (by omega)
theorem val58_all {l : List Nat} (hg : good l) (hv : val58 l = 0) : ∀ c ∈ l, c = 49 := by
  have := val58_zero l.reverse (by rw [List.reverse_reverse]; exact hg) (by rw [List.reverse_reverse]; exact hv)
  rw [List.reverse_reverse] at this
  exact this
theorem val58_ones : ∀ (r : List Nat), (∀ c ∈ r.reverse, c = 49) → val58 r.reverse = 0
  | [], _ => rfl
  | a :: r, h => by
    rw [List.reverse_cons] at h ⊢
    rw [val58_snoc, val58_ones r fun c hc => h c (List.mem_append_left _ hc), h a (by simp)]
    decide
theorem lead_dropLast {l : List Nat} (hg : good l) (hv : 0 < val58 l) : lead 49 l = lead 49 l.dropLast := by
  have hne : l ≠ [] := by intro e; subst e; exact absurd hv (by decide)
  have e := List.dropLast_concat_getLast hne
  by_cases ha : ∀ c ∈ l.dropLast, c = 49
  · have h1 : val58 l.dropLast = 0 := by
      have := val58_ones l.dropLast.reverse (by rw [List.reverse_reverse]; exact ha)
      rw [List.reverse_reverse] at this
      exact this
    have h2 : l.getLast hne ≠ 49 := by
      intro e49
      rw [← e, val58_snoc, h1, e49] at hv
      exact absurd hv (by decide)
    have h3 : lead 49 l.dropLast = l.dropLast.length := by
      have := lead_all (z := 49) (r := []) ha
      rw [List.append_nil] at this
      rw [this]; rfl
    rw [h3]
    conv => lhs; rw [← e]
    rw [lead_all ha]
    show _ + (if _ then _ else _) = _
    rw [if_neg h2]
    rfl
  · conv => lhs; rw [← e]
    refine lead_stop ?_
    false_or_by_contra
    rename_i hc
    exact ha fun c hcm => by
      false_or_by_contra
      rename_i hn
      exact hc ⟨c, hcm, hn⟩
theorem byteArr_app (a b : List Int) : byteArr (a ++ b) = byteArr a ++ byteArr b := by
  unfold byteArr
  rw [List.map_append]
  simp
theorem byteArr_zeros (k : Nat) : byteArr (List.replicate k (0 : Int)) = (List.replicate k (0 : UInt8)).toArray := by
  unfold byteArr
  rw [List.map_replicate]
  rfl
theorem byteArr_nints (l : List Nat) : byteArr (nints l) = (l.map Nat.toUInt8).toArray := by
  unfold byteArr nints
  rw [List.map_map]
  rfl
/-- the law's own reading and the package's are one -/
theorem read_dec {l : List Nat} (hg : good l) : byteArr (List.replicate (lead 49 l) (0 : Int) ++ nints (digs 256 (val58 l)).reverse) = dec l := by
  rw [byteArr_app, byteArr_zeros, byteArr_nints]
  unfold dec
  by_cases hl : l = []
  · subst hl
    rw [if_pos rfl]
    show _ ++ ((digs 256 0).reverse.map Nat.toUInt8).toArray = _
    rw [digs_zero]
    rfl
  · rw [if_neg hl]
    unfold resB
    rcases Nat.eq_zero_or_pos (val58 l) with hv | hv
    · have ha := val58_all hg hv
      have h1 : lead 49 l = l.length := by
        have := lead_all (z := 49) (r := []) ha
        rw [List.append_nil] at this
        rw [this]; rfl
      have h2 : lead 49 l.dropLast = l.length - 1 := by
        have := lead_all (z := 49) (l := l.dropLast) (r := []) fun c hc => ha c (List.dropLast_subset l hc)
        rw [List.append_nil] at this
        rw [this, List.length_dropLast]; rfl
      have hpos : 0 < l.length := List.length_pos_iff.mpr hl
      rw [hv, toB_zero, digs_zero, h1, h2]
      obtain ⟨k, hk⟩ : ∃ k, l.length = k + 1 := ⟨l.length - 1, by omega⟩
      rw [hk, Nat.add_sub_cancel]
      apply Array.toList_inj.mp
      simp [List.replicate_succ']
    · rw [toB_digs hv, lead_dropLast hg hv]
end Mine
set_option maxHeartbeats 1000000
namespace Mine
section
variable {prog : Program} {w : World} {A : Around} {E : Value → Shared → Prop} {s : Shared} {h₀ : Heap} {L : Addr} {m : PySem.Str → Option Value} {news : List (Addr × Obj)}
theorem add_lists2 {D l : Addr} {us vs : List Value} {ns ms : List Int} {c1 c2 : Nat} {Q : Value → Shared → Prop} (F : Fr h₀ L s.heap m) (N : News h₀ L s.heap news) (hD : (D, W.listOf us.toArray c1) ∈ news) (hl : (l, W.listOf vs.toArray c2) ∈ news) (hi : IntsAre us ns) (hj : IntsAre vs ms) (hz : ns.length + ms.length ≤ 65536)
    (h : ∀ R h', Fr h₀ L h' m → News h₀ L h' ((R, W.listOf (us ++ vs).toArray 0) :: news) → IntsAre (us ++ vs) (ns ++ ms) → Q (.ref R) { s with heap := h' }) :
    wpAny (model prog w) A (binaryOp .Add (.ref D) (.ref l)) Q E s :=
  add_arrays_ints (its := us.toArray) (its2 := vs.toArray) F N (News.isList N hD) (News.isList N hl) hi hj (fun h' F' N' hi' => h _ h' F' N' hi') (by rw [sizeLine_eq]; omega)
theorem bytes_read {R : Addr} {ws : List Value} {x : PySem.Str} {Q : Value → Shared → Prop} (F : Fr h₀ L s.heap m) (N : News h₀ L s.heap news) (hh : A.handled = none) (hR : (R, W.listOf ws.toArray 0) ∈ news) (hg : good x.cps.toList) (hlen : x.cps.toList.length ≤ 85)
    (hi : IntsAre ws (List.replicate (lead 49 x.cps.toList) 0 ++ nints (digs 256 (val58 x.cps.toList)).reverse)) (hz : (digs 256 (val58 x.cps.toList)).length ≤ 512)
    (h : ∀ h' t' k, Fr h₀ L h' m → News h₀ L h' news → Q (.bytes (decB x) t') { s with heap := h', toks := k }) : wpAny (model prog w) A (call (.type "bytes") [.ref R]) Q E s := by
  refine KBa.make_K F N hh (News.isList N hR) hi (fun k hk => ?_) ?_ fun h' t' k F' N' _ => ?_
  · rcases List.mem_append.mp hk with h1 | h1
    · rw [(List.mem_replicate.mp h1).2]
      decide
    · obtain ⟨d, hd, rfl⟩ := List.mem_map.mp h1
      have : ∀ (n : Nat), ∀ d ∈ digs 256 n, d < 256 := by
        intro n
        induction n using Nat.strongRecOn with
        | ind n ih =>
          intro d hd
          rcases Nat.eq_zero_or_pos n with h0 | h0
          · subst h0
            rw [digs_zero] at hd
            cases hd
          · rw [digs_pos h0 (by decide)] at hd
            rcases List.mem_cons.mp hd with e | e
            · rw [e]; exact Nat.mod_lt _ (by decide)
            · exact ih _ (Nat.div_lt_self h0 (by decide)) d e
      have := this _ d (List.mem_reverse.mp hd)
      omega
  · have := lead_le 49 x.cps.toList
    rw [List.length_append, List.length_replicate, nints_length, List.length_reverse]
    omega
  · have h2 := h h' t' k F' N'
    unfold decB at h2
    rw [read_dec hg]
    exact h2
theorem add_read_size {l d : List Nat} (hl : l.length ≤ 85) (hd : d.length ≤ 512) : (List.replicate (lead 49 l) (0 : Int)).length + (nints d.reverse).length ≤ 65536 := by
  have := lead_le 49 l
  rw [List.length_replicate, nints_length, List.length_reverse]
  omega
end
end Mine
set_option maxHeartbeats 1000000
namespace Mine
local macro_rules | `(tactic| k_room) => `(tactic| ktr_room)
local macro_rules | `(tactic| k_mem) => `(tactic| first | with_reducible exact List.mem_cons_self .. | ((with_reducible refine List.mem_cons_of_mem _ ?_); k_mem))
local macro_rules | `(tactic| walk_at "exec For Name Name cons nil") => `(tactic| (k_here; (rename Fr _ _ _ _ => lF'); (with_unfolding_all refine' For_invVF lF' ?u3k1 ?u3k2 ?_; (case u3k1 => exact rfl); (case u3k2 => exact rfl); k_whole)))
local macro_rules | `(tactic| walk_at "pyIter str") => `(tactic| (k_here; (with_reducible show wpAny _ _ (pyIter (Value.str _ _)) (fun it s₂ => LoopAtV _ _ _ _ _ _ _ _ _ it s₂) _ _); (rename Fr _ _ _ _ => lF); (rename News _ _ _ _ => lN); (refine' rd_str (by rfl) lF lN ?u4hp ?_ ?_); (case u4hp => exact rfl); (all_goals clear lF lN); (rotate_left; rotate_left); (intro k1 n1 t1 tp1 h1 tk1 own1 hl1 ho1 F1 N1; (try k_fold)); (rotate_left); (intro u1 t1 h1 tk1 hg1 F1 N1; (try k_fold)); (rotate_left)))
local macro_rules | `(tactic| walk_at "compareOp NotIn str str") => `(tactic| (k_here; (refine notIn_alpha ?_ ?_); (all_goals intro _)))
local macro_rules | `(tactic| walk_at "call builtin:str.index") => `(tactic| (k_here; (refine index_alpha (by rfl) (by assumption) ?_)))
local macro_rules | `(tactic| walk_at "RdPost") => `(tactic| (k_here; first | (with_reducible refine rd_ret ?_) | ((rename Fr _ _ _ _ => lF); (rename News _ _ _ _ => lN); (refine' rd_next ?u7hk lF lN ?u7hn ?u7hp ?u7hr); (case u7hk => assumption); (case u7hn => exact fun _ h => h); (case u7hp => exact rfl); (case u7hr => intro z h1 h2; simp [h1, h2]))))
local macro_rules | `(tactic| walk_at "exec While Compare cons nil") => `(tactic| (k_here; (rename Fr _ _ _ _ => lF); (rename News _ _ _ _ => lN); (refine' rw_while lF lN ?u8hn ?u8hc ?u8hN ?_ ?_); (case u8hn => exact rfl); (case u8hc => exact rfl); (case u8hN => exact val58_bound (by assumption) (by assumption)); (all_goals clear lF lN); (rotate_left; rotate_left); (intro n1 t1 l1 vs1 ks1 cnt1 h1 tk1 hi1 hz1 hl1 F1 N1; (try k_fold)); (rotate_left); (intro t1 l1 vs1 cnt1 h1 tk1 hi1 hz1 F1 N1; (try k_fold)); (rotate_left)))
local macro_rules | `(tactic| walk_at "RwPost") => `(tactic| (k_here; (rename Fr _ _ _ _ => lF); (rename News _ _ _ _ => lN); k_dflt (((refine' rw_next1 (h₀ := _) (L := _) (s := _) (m₀ := _) (m' := _) (rest := _) lF lN ?ro0 ?ro5 ?ro1 ?ro2 ?ro6)); (case ro0 => assumption); (case ro5 => assumption); (case ro1 => exact rfl); (case ro2 => exact rfl); (case ro6 => intro y h1 h2; (try unfold RwM); simp [h1, h2]))))
local macro_rules | `(tactic| walk_at "RwOut") => `(tactic| (k_here; (rename Fr _ _ _ _ => lF); (rename News _ _ _ _ => lN); k_dflt (((refine' rw_out1 (h₀ := _) (L := _) (s := _) (m₀ := _) (m' := _) (rest := _) lF lN ?ro0 ?ro5 ?ro1 ?ro2 ?ro6)); (case ro0 => assumption); (case ro5 => assumption); (case ro1 => exact rfl); (case ro2 => exact rfl); (case ro6 => intro y h1 h2; (try unfold RwM); simp [h1, h2]))))
local macro_rules | `(tactic| walk_at "exec While") => `(tactic| (k_here; (rename Fr _ _ _ _ => lF); (rename News _ _ _ _ => lN); ((refine' ahead_while 49 (B0 := 85) ?u11hlB lF lN ?u11hp ?_ ?_)); (case u11hlB => assumption); (case u11hp => k_dflt exact rfl); (all_goals clear lF lN); (rotate_left; rotate_left); (intro a1 t1 h1 tk1 ha1 F1 N1; (try k_fold)); (rotate_left); (intro t1 h1 tk1 F1 N1; (try k_fold)); (rotate_left)))
local macro_rules | `(tactic| walk_at "call builtin:len") => `(tactic| (k_here; (with_reducible show wpAny _ _ (call (Value.builtin "len") [Value.str _ _]) _ _ _); (refine len_txt (by omega) ?_); intro _ _))
local macro_rules | `(tactic| walk_at "binaryOp Mult ref int") => `(tactic| (k_here; k_dflt (refine' mul_zeros ?mz1 ?mz2 ?mz3 ?mz4 ?_; (case mz1 => k_asm); (case mz2 => k_asm); (case mz3 => k_mem); (case mz4 => exact Nat.le_trans (lead_le _ _) (by omega))); intro D' h' F' N' l1 hi'; (try k_lt l1)))
local macro_rules | `(tactic| walk_at "AhPost") => `(tactic| (k_here; (rename Fr _ _ _ _ => lF); (rename News _ _ _ _ => lN); k_dflt ((refine' ah_next ?ah0 ?_); rotate_left; (refine' one_end (h₀ := _) (L := _) (s := _) (m₀ := _) (m' := _) (news := _) lF lN ?ah1 ?ah2 ?ah3); (case ah0 => exact item_is (by assumption) (by assumption)); (case ah1 => first | exact fun _ h => h | kcj_all); (case ah2 => exact rfl); (case ah3 => intro y h1; simp [h1]))))
local macro_rules | `(tactic| walk_at "AhOut") => `(tactic| (k_here; (rename Fr _ _ _ _ => lF); (rename News _ _ _ _ => lN); k_dflt ((refine' ah_out ?ah0 ?_); rotate_left; (refine' one_end (h₀ := _) (L := _) (s := _) (m₀ := _) (m' := _) (news := _) lF lN ?ah1 ?ah2 ?ah3); (case ah0 => first | exact Or.inr (item_not (by assumption) (by assumption)) | exact Or.inl (by omega)); (case ah1 => first | exact fun _ h => h | kcj_all); (case ah2 => exact rfl); (case ah3 => intro y h1; simp [h1]))))
local macro_rules | `(tactic| walk_at "binaryOp Add ref ref") => `(tactic| (k_here; k_dflt (refine' add_lists2 ?al1 ?al2 ?al3 ?al4 ?al5 ?al6 ?al7 ?_; (case al1 => k_asm); (case al2 => k_asm); (case al3 => k_mem); (case al4 => k_mem); (case al5 => assumption); (case al6 => assumption); (case al7 => exact add_read_size (by assumption) (by assumption))); intro R' h' F' N' hi'))
local macro_rules | `(tactic| walk_at "call type:bytes") => `(tactic| (k_here; k_dflt (refine' bytes_read ?br1 ?br2 ?br3 ?br4 ?br5 ?br6 ?br7 ?br8 ?_; (case br1 => k_asm); (case br2 => k_asm); (case br3 => rfl); (case br4 => k_mem); (case br7 => assumption); (case br5 => assumption); (case br6 => assumption); (case br8 => assumption)); intro h' t' k F' N'))
theorem read_ok {w : World} {mean : ExcName → Option Value} {mg mb : Str → Option Value} (x : PySem.Str) (tx : Tok) (hb : x.cps.size ≤ 85) (hlen : x.cps.toList.length ≤ 85)
    {dp un : Nat} {gd : Option (List Code)} {cn : Str} {cs : Scope} {a : Addr} {ccd : Value} {cl : List (Str × Addr)} {outer : List Env} {A₀ : Around} {base h₀ : Heap} {L : Addr} {m : Str → Option Value} {news : List (Addr × Obj)} {s : Shared} {Q E : Value → Shared → Prop}
    (B : Below A₀ base outer h₀) (F : Fr h₀ L s.heap m) (X : (Kg w).In h₀) (N : News h₀ L s.heap news) (T : Tp mean mg mb h₀) (hk : cs.kind = .function) (hd : dp + 4 < recursionLimit)
    (hret : good x.cps.toList → ∀ t h' tk', Fr h₀ L h' m → News h₀ L h' news → Q (.bytes (decB x) t) { s with heap := h', toks := tk' })
    (hnone : ¬ good x.cps.toList → ∀ h' tk', Fr h₀ L h' m → News h₀ L h' news → Q .none { s with heap := h', toks := tk' }) :
    wpAny (model Pg w) (ktrTop dp un gd cn cs L a ccd cl outer) (call (.ref 141) [.str x tx]) Q E s := by
  dsimp only [Pg, Kg, Lo, Tp] at *
  revert X
  k_fill
  intro X
  have hxl : x.cps.toList.length = x.length := cpsL_length x
  refine wpAny_call ?_
  k_dflt cell_enter
  w_top off
  k_steps
  all_goals first | exact hnone (not_good (by assumption) (by assumption)) _ _ (by k_asm) (cb_drop (by k_asm) (by kcj_all)) | exact hret (by assumption) _ _ _ (by k_asm) (cb_drop (by k_asm) (by kcj_all))
end Mine
set_option maxHeartbeats 1000000
namespace Mine
/-- the number that numbers in base 256 tell -/
def v256 (l : List Nat) : Nat := l.foldl (fun a d => a * 256 + d) 0
theorem v256_go : ∀ (l : List Nat) (a : Nat), l.foldl (fun a d => a * 256 + d) a = a * 256 ^ l.length + v256 l
  | [], a => by simp [v256]
  | d :: l, a => by
    unfold v256
    rw [List.foldl_cons, List.foldl_cons, v256_go l, v256_go l (0 * 256 + d), List.length_cons, Nat.pow_succ]
    have e : (a * 256 + d) * 256 ^ l.length = a * (256 ^ l.length * 256) + d * 256 ^ l.length := by
      rw [Nat.add_mul, Nat.mul_assoc, Nat.mul_comm 256]
    rw [e, Nat.zero_mul, Nat.zero_add]
    omega
theorem v256_cons (d : Nat) (l : List Nat) : v256 (d :: l) = d * 256 ^ l.length + v256 l := by
  show l.foldl _ (0 * 256 + d) = _
  rw [v256_go, Nat.zero_mul, Nat.zero_add]
theorem v256_snoc (l : List Nat) (d : Nat) : v256 (l ++ [d]) = v256 l * 256 + d := by
  unfold v256
  rw [List.foldl_append]
  rfl
theorem v256_zeros : ∀ k : Nat, v256 (List.replicate k 0) = 0
  | 0 => rfl
  | k + 1 => by rw [List.replicate_succ, v256_cons, v256_zeros k, Nat.zero_mul]
theorem v256_zero : ∀ {l : List Nat}, v256 l = 0 → l = List.replicate l.length 0
  | [], _ => rfl
  | d :: l, h => by
    rw [v256_cons] at h
    have hp : 0 < 256 ^ l.length := Nat.pow_pos (by decide)
    have hd : d = 0 := by
      rcases Nat.eq_zero_or_pos d with h0 | h0
      · exact h0
      · have := Nat.mul_pos h0 hp
        omega
    subst hd
    rw [List.length_cons, List.replicate_succ]
    congr 1
    exact v256_zero (by omega)
/-- long division by 58: what is left, and the numbers of the quotient -/
def ld (l : List Nat) : Nat × List Nat := l.foldl (fun p d => ((p.1 * 256 + d) % 58, p.2 ++ [(p.1 * 256 + d) / 58])) (0, [])
theorem ld_snoc (l : List Nat) (d : Nat) : ld (l ++ [d]) = (((ld l).1 * 256 + d) % 58, (ld l).2 ++ [((ld l).1 * 256 + d) / 58]) := by
  unfold ld
  rw [List.foldl_append]
  rfl
theorem ld_spec : ∀ r : List Nat, v256 (ld r.reverse).2 * 58 + (ld r.reverse).1 = v256 r.reverse ∧ (ld r.reverse).1 < 58 ∧ (ld r.reverse).2.length = r.length
  | [] => ⟨rfl, by decide, rfl⟩
  | d :: r => by
    obtain ⟨h1, h2, h3⟩ := ld_spec r
    rw [List.reverse_cons, ld_snoc, v256_snoc, v256_snoc, ← h1]
    refine ⟨?_, Nat.mod_lt _ (by decide), by rw [List.length_append, h3]; rfl⟩
    have := Nat.div_add_mod ((ld r.reverse).1 * 256 + d) 58
    show (v256 (ld r.reverse).2 * 256 + ((ld r.reverse).1 * 256 + d) / 58) * 58 + ((ld r.reverse).1 * 256 + d) % 58 = _
    omega
theorem ld_ok (l : List Nat) : v256 (ld l).2 * 58 + (ld l).1 = v256 l ∧ (ld l).1 < 58 ∧ (ld l).2.length = l.length := by
  have := ld_spec l.reverse
  rw [List.reverse_reverse, List.length_reverse] at this
  exact this
theorem ld_fst (l : List Nat) : (ld l).1 = v256 l % 58 := by have := ld_ok l; omega
theorem ld_snd (l : List Nat) : v256 (ld l).2 = v256 l / 58 := by have := ld_ok l; omega
theorem valB_v256 (b : Array UInt8) : valB b = v256 (nb b) := by
  unfold valB v256 nb
  rw [List.foldl_map]
end Mine
set_option maxHeartbeats 1000000
namespace Mine
section
variable {prog : Program} {w : World} {A : Around} {E : Value → Shared → Prop} {Q : Flow → Shared → Prop} {s : Shared} {env : Env} {h₀ : Heap} {L : Addr}
theorem append_head {D : Addr} {us : List Value} {c : Nat} {v : Value} {tl : List (Addr × Obj)} {m : PySem.Str → Option Value} {Q : Value → Shared → Prop} (F : Fr h₀ L s.heap m) (N : News h₀ L s.heap ((D, W.listOf us.toArray c) :: tl)) (hap : ∀ p ∈ tl, p.1 ≠ D) (hz : us.length ≤ 65536)
    (h : ∀ h', Fr h₀ L h' m → News h₀ L h' ((D, W.listOf (us ++ [v]).toArray (c + 1)) :: tl) → Q .none { s with heap := h' }) : wpAny (model prog w) A (call (.builtin "list.append") [.ref D, v]) Q E s := by
  refine append_K F N (Upd.head hap) (fun h' F' N' => h h' F' ?_) (by rw [List.size_toArray, sizeLine_eq]; omega)
  rw [List.push_toArray] at N'
  exact N'
theorem pop_head {D : Addr} {us : List Value} {c : Nat} {v : Value} {u : Tok} {tl : List (Addr × Obj)} {m : PySem.Str → Option Value} {Q : Value → Shared → Prop} (F : Fr h₀ L s.heap m) (N : News h₀ L s.heap ((D, W.listOf (v :: us).toArray c) :: tl)) (hap : ∀ p ∈ tl, p.1 ≠ D) (hz : us.length ≤ 65536)
    (h : ∀ h', Fr h₀ L h' m → News h₀ L h' ((D, W.listOf us.toArray (c + 1)) :: tl) → Q v { s with heap := h' }) : wpAny (model prog w) A (call (.builtin "list.pop") [.ref D, .int 0 u]) Q E s :=
  kl_popAt (its := (v :: us).toArray) (k := 0) (p := []) (q := us) F N (by decide) (by simp [seqIndex?]) (by rfl) (Upd.head hap) (by simp only [List.length_cons]; rw [sizeLine_eq]; omega) h

def SgPost (h₀ : Heap) (L : Addr) (x : PySem.Str) (m₀ : PySem.Str → Option Value) (D : Addr) (us : List Value) (R : List (Addr × Obj)) (d r : Nat) (s₁ : Shared) (f : Flow) (s₂ : Shared) : Prop :=
  f = .next ∧ ∃ h' tk m' news' c' tq t', s₂ = { s₁ with heap := h', toks := tk } ∧ Fr h₀ L h' m' ∧ News h₀ L h' news' ∧ (D, W.listOf (us ++ [Value.int (((r : Int) * 256 + (d : Int)).fdiv 58) tq]).toArray c') ∈ news' ∧ (∀ p ∈ R, p ∈ news') ∧
    m' (PySem.Str.ofString "rest") = some (.int (((r : Int) * 256 + (d : Int)).fmod 58) t') ∧ ∀ y, y ≠ x → y ≠ PySem.Str.ofString "rest" → m' y = m₀ y
theorem sg_next {x : PySem.Str} {m₀ m' : PySem.Str → Option Value} {D : Addr} {us : List Value} {R : List (Addr × Obj)} {d r : Nat} {h' : Heap} {tk c' : Nat} {tq t' : Tok} (F : Fr h₀ L h' m') (N : News h₀ L h' ((D, W.listOf (us ++ [Value.int (((r : Int) * 256 + (d : Int)).fdiv 58) tq]).toArray c') :: R))
    (hr : m' (PySem.Str.ofString "rest") = some (.int (((r : Int) * 256 + (d : Int)).fmod 58) t')) (ho : ∀ y, y ≠ x → y ≠ PySem.Str.ofString "rest" → m' y = m₀ y) : SgPost h₀ L x m₀ D us R d r s .next { s with heap := h', toks := tk } :=
  ⟨rfl, h', tk, m', _, c', tq, t', rfl, F, N, .head _, fun _ hp => .tail _ hp, hr, ho⟩
theorem sg_for {x : PySem.Str} {body : List Stmt} {l D : Addr} {vs : List Value} {ks : List Nat} {nn c0 : Nat} {R : List (Addr × Obj)} {m₀ : PySem.Str → Option Value} {t0 : Tok}
    (hh : A.handled = none) (hlR : (l, W.listOf vs.toArray nn) ∈ R) (hi : IntsAre vs (nints ks)) (hks : ks.length ≤ 256) (hR : ∀ p ∈ R, p.1 ≠ D)
    (F : Fr h₀ env.locals s.heap m₀) (N : News h₀ env.locals s.heap ((D, W.listOf #[] c0) :: R)) (hr : m₀ (PySem.Str.ofString "rest") = some (.int 0 t0))
    (turn : ∀ (d r : Nat) us c t tr h tk own, us.length ≤ 256 → (∀ p ∈ R ++ own, p.1 ≠ D) → Fr h₀ env.locals h (fun y => if y = x then some (.int (d : Int) t) else if y = PySem.Str.ofString "rest" then some (.int (r : Int) tr) else m₀ y) → News h₀ env.locals h ((D, W.listOf (List.toArray us) c) :: (R ++ own)) →
      wpAny (model prog w) A (execs body env) (SgPost h₀ env.locals x m₀ D us (R ++ own) d r { s with heap := h, toks := tk }) E { s with heap := h, toks := tk })
    (done : ∀ (u : PySem.Str → Option Value) us c t h tk, IntsAre us (nints (ld ks).2) → us.length ≤ 256 → Fr h₀ env.locals h (fun y => if y = x then u y else if y = PySem.Str.ofString "rest" then some (.int ((ld ks).1 : Int) t) else m₀ y) → News h₀ env.locals h ((D, W.listOf (List.toArray us) c) :: R) → Q .next { s with heap := h, toks := tk }) :
    wpAny (model prog w) A (pyIter (.ref l)) (fun it s₂ => LoopAtV prog w A h₀ env x body Q E it s₂) E s := by
  have lens : ∀ (ks' : List Nat) (us : List Value), IntsAre us (nints (ld ks').2) → us.length = ks'.length := fun ks' us hu => by rw [hu.length, nints_length, (ld_ok ks').2.2]
  refine iter_invNL (fun i m nx => ∃ us c, nx = (D, W.listOf (List.toArray us) c) :: R ∧ IntsAre us (nints (ld (ks.take i)).2) ∧ (∃ t, m (PySem.Str.ofString "rest") = some (.int ((ld (ks.take i)).1 : Int) t)) ∧ ∀ y, y ≠ x → y ≠ PySem.Str.ofString "rest" → m y = m₀ y)
    hh (.tail _ hlR) hi F N ⟨[], c0, rfl, by exact .nil, ⟨t0, hr⟩, fun _ _ _ => rfl⟩ ?_ ?_
  · rintro i n t m₁ nx h tk own hn _ hoff hln ⟨us, c, rfl, hu, ⟨tr, hrest⟩, ho⟩ F₁ N₁
    unfold nints at hn
    rw [List.getElem?_map] at hn
    obtain ⟨d, hd, rfl⟩ := Option.map_eq_some_iff.mp hn
    rw [two_map hrest ho] at F₁
    have hul : us.length ≤ 256 := by
      rw [lens _ _ hu, List.length_take]; omega
    have hap : ∀ p ∈ R ++ own, p.1 ≠ D := fun p hp => by
      rcases List.mem_append.mp hp with h1 | h1
      · exact hR p h1
      · exact hoff p h1 D (by simp)
    refine wpAny_mono (turn d _ us c t tr h tk own hul hap F₁ N₁) (fun f s₂ p => ?_) fun _ _ e => e
    obtain ⟨rfl, h', tk', m', news', c', tq, t', e, F', N', hD', hR', hr', ho'⟩ := p
    have e1 : ((((ld (ks.take i)).1 : Nat) : Int) * 256 + (d : Int)).fdiv 58 = ((((ld (ks.take i)).1 * 256 + d) / 58 : Nat) : Int) := by rw [Int.fdiv_eq_ediv_of_nonneg _ (by decide)]; push_cast; rfl
    have e2 : ((((ld (ks.take i)).1 : Nat) : Int) * 256 + (d : Int)).fmod 58 = ((((ld (ks.take i)).1 * 256 + d) % 58 : Nat) : Int) := by rw [Int.fmod_eq_emod_of_nonneg _ (by decide)]; push_cast; rfl
    rw [e1] at hD'
    rw [e2] at hr'
    have hld := ld_snoc (ks.take i) d
    rw [← take_succ_get hd] at hld
    show InvEndN _ _ _ _ _ _ _
    refine ⟨h', tk', m', news', (D, W.listOf (us ++ [Value.int ((((ld (ks.take i)).1 * 256 + d) / 58 : Nat) : Int) tq]).toArray c') :: R, e, F', N', fun p hp => ?_, fun p hp => hR' p (List.mem_append_right _ hp), rfl, .tail _ hlR, _, c', rfl, ?_, ⟨t', ?_⟩, ho'⟩
    · rcases List.mem_cons.mp hp with rfl | hp
      · exact hD'
      · exact hR' p (List.mem_append_left _ hp)
    · rw [hld]
      show IntsAre _ (((ld (ks.take i)).2 ++ [((ld (ks.take i)).1 * 256 + d) / 58]).map _)
      rw [List.map_append]
      exact hu.append (.cons _ _ .nil)
    · rw [hr', hld]
  · rintro m₁ nx h tk _ ⟨us, c, rfl, hu, ⟨tr, hrest⟩, ho⟩ F₁ N₁
    have e : ks.take (nints ks).length = ks := by rw [nints_length, List.take_length]
    rw [e] at hu hrest
    rw [two_mapU hrest ho] at F₁
    exact done _ us c tr h tk hu (by rw [lens _ _ hu]; exact hks) F₁ N₁

def SpOut (h₀ : Heap) (L : Addr) (m₀ : PySem.Str → Option Value) (D : Addr) (us : List Value) (R : List (Addr × Obj)) (s₁ s₂ : Shared) : Prop :=
  ∃ h' tk m' news' c', s₂ = { s₁ with heap := h', toks := tk } ∧ Fr h₀ L h' m' ∧ News h₀ L h' news' ∧ (D, W.listOf (List.toArray us) c') ∈ news' ∧ (∀ p ∈ R, p ∈ news') ∧ ∀ y, m' y = m₀ y
def SpPost (h₀ : Heap) (L : Addr) (m₀ : PySem.Str → Option Value) (D : Addr) (q : Nat) (us : List Value) (R : List (Addr × Obj)) (s₁ : Shared) (f : Flow) (s₂ : Shared) : Prop :=
  f = .next ∧ q = 0 ∧ SpOut h₀ L m₀ D us R s₁ s₂
theorem sp_out {m₀ m' : PySem.Str → Option Value} {D : Addr} {us : List Value} {R : List (Addr × Obj)} {h' : Heap} {tk c' : Nat} (F : Fr h₀ L h' m') (N : News h₀ L h' ((D, W.listOf (List.toArray us) c') :: R)) (ho : ∀ y, m' y = m₀ y) : SpOut h₀ L m₀ D us R s { s with heap := h', toks := tk } :=
  ⟨h', tk, m', _, c', rfl, F, N, .head _, fun _ hp => .tail _ hp, ho⟩
theorem sp_next {m₀ m' : PySem.Str → Option Value} {D : Addr} {q : Nat} {us : List Value} {R : List (Addr × Obj)} {h' : Heap} {tk c' : Nat} (F : Fr h₀ L h' m') (N : News h₀ L h' ((D, W.listOf (List.toArray us) c') :: R)) (h0 : q = 0) (ho : ∀ y, m' y = m₀ y) : SpPost h₀ L m₀ D q us R s .next { s with heap := h', toks := tk } :=
  ⟨rfl, h0, sp_out F N ho⟩
abbrev SpS := List Value × List Nat × Nat
theorem sp_while {test : Expr} {body : List Stmt} {pos : Pos} {m₀ : PySem.Str → Option Value} {D : Addr} {us0 : List Value} {qs0 : List Nat} {c0 : Nat} {R : List (Addr × Obj)}
    (F : Fr h₀ L s.heap m₀) (N : News h₀ L s.heap ((D, W.listOf us0.toArray c0) :: R)) (hi : IntsAre us0 (nints qs0)) (hl : us0.length ≤ 256)
    (turnN : ∀ c h tk, Fr h₀ L h m₀ → News h₀ L h ((D, W.listOf #[] c) :: R) →
      wpAny (model prog w) A (isTrue test env (eval test env)) (fun b s₂ => if b = true then False else SpOut h₀ L m₀ D [] R { s with heap := h, toks := tk } s₂) E { s with heap := h, toks := tk })
    (turnC : ∀ (q : Nat) tq us c h tk, us.length ≤ 256 → Fr h₀ L h m₀ → News h₀ L h ((D, W.listOf (Value.int (q : Int) tq :: us).toArray c) :: R) →
      wpAny (model prog w) A (isTrue test env (eval test env)) (fun b s₂ => if b = true then wpAny (model prog w) A (execs body env) (SpPost h₀ L m₀ D q us R { s with heap := h, toks := tk }) E s₂ else SpOut h₀ L m₀ D (Value.int (q : Int) tq :: us) R { s with heap := h, toks := tk } s₂) E { s with heap := h, toks := tk })
    (done : ∀ us qs c h tk, IntsAre us (nints qs) → v256 qs = v256 qs0 → us.length ≤ 256 → Fr h₀ L h m₀ → News h₀ L h ((D, W.listOf (List.toArray us) c) :: R) → Q .next { s with heap := h, toks := tk })
    (hE : PassesOwn (model prog w) A env E := by passes_own) :
    wpAny (model prog w) A (exec (.While test body [] pos) env) Q E s := by
  refine ksw_while (σ := SpS) (fun c => (D, W.listOf (List.toArray c.1) c.2.2) :: R) (fun _ => []) (fun c => IntsAre c.1 (nints c.2.1)) [] (fun c => v256 c.2.1 = v256 qs0 ∧ c.1.length ≤ 256) (fun c => c.1.length) (us0, qs0, c0) F N hi (List.forall_mem_nil _) ⟨rfl, hl⟩ ?_ hE
  rintro ⟨us, qs, c⟩ u h tk hf ⟨hv, hz⟩ F₁ N₁
  dsimp only at hf hv hz N₁
  have em : (kstB (fun z => if ([] : List PySem.Str).contains z then u z else m₀ z) []) = m₀ := by
    funext y
    show (if ([] : List PySem.Str).contains y = true then u y else m₀ y) = m₀ y
    rw [if_neg (by simp)]
  have F₂ : Fr h₀ L h m₀ := em ▸ F₁
  have out : ∀ s₂, SpOut h₀ L m₀ D us R { s with heap := h, toks := tk } s₂ → Q .next s₂ := by
    rintro s₂ ⟨h', tk', m', news', c', rfl, F', N', hD', hR', ho'⟩
    have e : m' = m₀ := funext ho'
    subst e
    refine done us qs c' h' tk' hf hv hz F' fun p hp => ?_
    rcases List.mem_cons.mp hp with rfl | hp
    · exact N' _ hD'
    · exact N' p (hR' p hp)
  cases qs with
  | nil =>
    have hus : us = [] := by cases hf; rfl
    subst hus
    refine wpAny_mono (turnN c h tk F₂ N₁) (fun b s₂ p => ?_) fun _ _ x => x
    cases b with
    | true => simp at p
    | false =>
      simp only [Bool.false_eq_true, if_false] at p ⊢
      exact out s₂ p
  | cons q qs =>
    obtain ⟨tq, us', rfl, hf'⟩ : ∃ tq us', us = Value.int (q : Int) tq :: us' ∧ IntsAre us' (nints qs) := by
      cases hf with
      | cons n t h => exact ⟨t, _, rfl, h⟩
    refine wpAny_mono (turnC q tq us' c h tk (by simp only [List.length_cons] at hz; omega) F₂ N₁) (fun b s₂ p => ?_) fun _ _ x => x
    cases b with
    | false =>
      simp only [Bool.false_eq_true, if_false] at p ⊢
      exact out s₂ p
    | true =>
      simp only [if_true] at p ⊢
      refine wpAny_mono p (fun f s₃ z => ?_) fun _ _ x => x
      obtain ⟨rfl, hq, h', tk', m', news', c', rfl, F', N', hD', hR', ho'⟩ := z
      subst hq
      refine ⟨(us', qs, c'), h', tk', m', news', rfl, F', N', fun p hp => ?_, hf', List.forall_mem_nil _, fun y _ _ => ho' y, ⟨?_, ?_⟩, ?_⟩
      · rcases List.mem_cons.mp hp with rfl | hp
        · exact hD'
        · exact hR' p hp
      · rw [← hv, v256_cons, Nat.zero_mul, Nat.zero_add]
      · simp only [List.length_cons] at hz; show us'.length ≤ 256; omega
      · show us'.length < (Value.int _ tq :: us').length
        rw [List.length_cons]; omega
end
end Mine
set_option maxHeartbeats 1000000
namespace Mine
theorem lk_bytes_len : typeLookup (.type "bytes") "__len__" = pure (some (.builtin "bytes.__len__")) := by rw [typeLookup_type, builtinLookup_eq_fast]; kernel_rfl
section
variable {prog : Program} {w : World} {A : Around} {E : Value → Shared → Prop} {s : Shared} {h₀ : Heap} {L : Addr} {m : PySem.Str → Option Value} {news : List (Addr × Obj)}
abbrev ByteAt (b : Array UInt8) : Nat → Value → Prop := fun i v => ∃ c u, b[i]? = some c ∧ v = .int (c.toNat : Int) u
theorem extend_bytes {R : Result → Shared → Prop} (hh : A.handled = none) (b : Array UInt8) (t : Tok) (S : Addr) (res : Value) (c₀ : Nat) (hS : s.heap.get? S = some { cls := .type "list", data := .seq #[] c₀ })
    (hR : ∀ h' tk acc' c', (∀ b o, b ≠ S → s.heap.get? b = some o → h'.get? b = some o) → h'.get? S = some { cls := .type "list", dict := none, data := .seq acc' c', slots := #[] } →
      ItemsOf (ByteAt b) acc' b.size → R (.ok (.ret res)) { s with heap := h', toks := tk }) (hn : b.size ≤ sizeLine) :
    wpAny (model prog w) A.in1 (Builtin.List.listExtendWith (.ref S) (.bytes b t) res)
      (fun fin s' => match fin with | .done f => R (.ok f) s' | .again c' => c'.quiet = true ∧ codeAny (model prog w) A c' R s') (fun e s' => R (.error e) s') s := by
  have hSI : S ≠ s.heap.objs.size := Nat.ne_of_lt (Heap.lt_size hS)
  have hSf : S ∉ [s.heap.objs.size] := fun hm => hSI (List.mem_singleton.mp hm)
  unfold Builtin.List.listExtendWith
  refine wpAny_bind (wpAny_typeOf (T := "bytes") (v := .bytes b t) rfl ?_)
  have h1 : Builtin.List.listSameRef (.ref S) (.bytes b t) = false := rfl
  have h2 : (Value.type "bytes" == Value.type "list") = false := by decide
  have h3 : (Value.type "bytes" == Value.type "tuple") = false := by decide
  simp only [h1, h2, h3, Bool.or_false, Bool.false_eq_true, if_false]
  refine wpAny_bind (KBw.pyIter_bytes ?_)
  have W := KBw.walks (prog := prog) (w := w) (A := A.in1) hh s.heap.objs.size b t
  have hst : KBw.IsBytesIter (s.heap.push { cls := .type "bytes_iterator", data := .fields #[.bytes b t, .int 0 0] }) s.heap.objs.size b t 0 := ⟨_, Heap.get?_push_size _ rfl, rfl, rfl⟩
  refine wpAny_bind (wpAny_holding ?_)
  unfold Builtin.List.listLengthHint
  refine wpAny_bind (wpAny_specialOf (T := "bytes") (v := .bytes b t) rfl lk_bytes_len ?_)
  wp_delta
  refine wpAny_bind (wpAny_isInstance (T := "bytes") (v := .bytes b t) (b := true) rfl (by rw [isSubtype_type]; kernel_rfl) ?_)
  show wpAny _ _ (typeOf (Value.bytes b t) >>= _) _ _ _
  refine wpAny_bind (wpAny_typeOf (T := "bytes") (v := .bytes b t) rfl ?_)
  refine wpAny_pure ?_
  rw [if_neg (by decide)]
  refine wpAny_pure ⟨plainId_quiet F.plain_extend_loop _, codeAny_extend_loopS W.toS hn _ hSf _ b.size 0 _ _ _ rfl (Nat.zero_le _) hst (Heap.get?_push_of_some _ hS) (ItemsOf.nil _) fun s' acc' c' hm hS' hacc => ?_⟩
  rw [Moved.eq_with hm]
  refine hR s'.heap s'.toks acc' c' (fun b ob hb e => hm.heap b ob (fun hmem => ?_) (Heap.get?_push_of_some _ e)) hS' hacc
  rcases List.mem_cons.mp hmem with e' | hmem
  · exact hb e'
  · exact absurd (Heap.lt_size e) (by rw [List.mem_singleton.mp hmem]; exact Nat.lt_irrefl _)
theorem init_bytes {R : Result → Shared → Prop} (hh : A.handled = none) (b : Array UInt8) (t : Tok) (S : Addr) (hS : s.heap.get? S = some { cls := .type "list", data := .seq #[] })
    (hR : ∀ h' tk acc' c', (∀ b o, b ≠ S → s.heap.get? b = some o → h'.get? b = some o) → h'.get? S = some { cls := .type "list", dict := none, data := .seq acc' c', slots := #[] } →
      ItemsOf (ByteAt b) acc' b.size → R (.ok (.ret .none)) { s with heap := h', toks := tk }) (hn : b.size ≤ sizeLine) :
    wpAny (model prog w) A.in1 (Builtin.«list.__init__» ⟨[.ref S, .bytes b t], []⟩)
      (fun fin s' => match fin with | .done f => R (.ok f) s' | .again c' => c'.quiet = true ∧ codeAny (model prog w) A c' R s') (fun e s' => R (.error e) s') s := by
  show wpAny _ _ (do let old ← Builtin.List.listItems (.ref S); Builtin.List.listUpdate (.ref S) (fun _ => #[]); letGo old.toList.reverse; Builtin.List.listExtendWith (.ref S) (.bytes b t) .none) _ _ s
  refine wpAny_bind ?_
  unfold Builtin.List.listItems
  refine wpAny_bind (wpAny_seqItems hS rfl (wpAny_pure ?_))
  show wpAny _ _ (updateSeq S (fun _ => #[]) >>= fun _ => letGo (#[] : Array Value).toList.reverse >>= fun _ => Builtin.List.listExtendWith (.ref S) (.bytes b t) .none) _ _ s
  refine wpAny_bind (wpAny_updateSeq hS rfl ?_)
  have hS₂ := Heap.get?_update_self (Obj.mapSeq (fun _ => (#[] : Array Value))) hS rfl
  have oth : ∀ b o, b ≠ S → s.heap.get? b = some o → (s.heap.update S (Obj.mapSeq (fun _ => (#[] : Array Value)))).get? b = some o :=
    fun b o hb e => (Heap.get?_update_other _ _ (Ne.symm hb)).trans e
  refine wpAny_bind (wpAny_letGo ?_)
  refine extend_bytes (hn := hn) hh b t S .none _ hS₂ fun h' tk acc' c' hk hS' hacc => ?_
  exact hR h' tk acc' c' (fun b o hb e => hk b o hb (oth b o hb e)) hS' hacc
theorem ints_at : ∀ (ys : List Value) (ns : List Int), ys.length = ns.length → (∀ (j : Nat) (v : Value), ys[j]? = some v → ∃ n t, ns[j]? = some n ∧ v = Value.int n t) → IntsAre ys ns
  | [], [], _, _ => .nil
  | y :: ys, n :: ns, hl, h => by
    obtain ⟨n', t, hn, rfl⟩ := h 0 y rfl
    have : n = n' := by simpa using hn
    subst this
    exact .cons n t (ints_at ys ns (by simpa using hl) fun j v hv => by simpa using h (j + 1) v (by simpa using hv))
theorem list_bytes {b : Array UInt8} {t : Tok} {Q : Value → Shared → Prop} (hh : A.handled = none) (Fm : Fr h₀ L s.heap m) (N : News h₀ L s.heap news) (hn : b.size ≤ 256)
    (hQ : ∀ D h' tk (ys : List Value) c, Fr h₀ L h' m → News h₀ L h' ((D, W.listOf ys.toArray c) :: news) → IntsAre ys (nints (nb b)) → (nb b).length ≤ 256 → Q (.ref D) { s with heap := h', toks := tk }) :
    wpAny (model prog w) A (call (.type "list") [.bytes b t]) Q E s := by
  refine callType_codes (Q₁ := fun obj s₁ => obj = .ref s.heap.objs.size ∧ s₁ = { s with heap := s.heap.push { cls := .type "list", data := .seq #[] } }) F.called_list (F.typeCall_list_1 _) F.entry_list_init
    (code_list_new _ ⟨rfl, rfl⟩) fun obj s₁ h₁ => ?_
  obtain ⟨rfl, rfl⟩ := h₁
  have hS : (s.heap.push { cls := .type "list", data := .seq #[] }).get? s.heap.objs.size = some { cls := .type "list", data := .seq #[] } := Heap.get?_push_size _ rfl
  refine ⟨⟨_, hS, rfl⟩, F.args_list_init_2 _ _, init_bytes (A := A.in1) hh b t _ hS (fun h' tk acc' c' hk hS' hacc => ?_) (by rw [sizeLine_eq]; omega)⟩
  refine ⟨rfl, ?_⟩
  have hk' : ∀ b o, s.heap.get? b = some o → h'.get? b = some o := fun b o e => hk b o (Nat.ne_of_lt (Heap.lt_size e)) (Heap.get?_push_of_some _ e)
  refine hQ _ h' tk acc'.toList c' (Fm.keeps hk') ?_ ?_ (by rw [nb_length]; exact hn)
  · intro p hp
    rcases List.mem_cons.mp hp with rfl | hp
    · refine ⟨by simpa using hS', ?_⟩
      exact ⟨fun e => absurd Fm.ns.lt (e ▸ Nat.lt_irrefl _), next_is_new Fm⟩
    · exact ⟨hk' _ _ (N p hp).1, (N p hp).2⟩
  · refine ints_at _ _ (by rw [nints_length, nb_length]; simpa using hacc.1) fun j v hv => ?_
    obtain ⟨c, u, hc, rfl⟩ := hacc.2 j v (by simpa using hv)
    refine ⟨_, u, ?_, rfl⟩
    unfold nints nb
    simp [hc]
end
end Mine
set_option maxHeartbeats 1000000
namespace Mine
section
variable {prog : Program} {w : World} {A : Around} {E : Value → Shared → Prop} {Q : Flow → Shared → Prop} {s : Shared} {env : Env} {h₀ : Heap} {L : Addr}
/-- the names that the outer loop of _law_signs changes -/
abbrev SwNames : List PySem.Str := [PySem.Str.ofString "left", PySem.Str.ofString "found", PySem.Str.ofString "rest", PySem.Str.ofString "further", PySem.Str.ofString "one"]
def SwOff (y : PySem.Str) : Prop := y ≠ PySem.Str.ofString "left" ∧ y ≠ PySem.Str.ofString "found" ∧ y ≠ PySem.Str.ofString "rest" ∧ y ≠ PySem.Str.ofString "further" ∧ y ≠ PySem.Str.ofString "one"
def SwM (l : Addr) (fl : List Nat) (t : Tok) (u m : PySem.Str → Option Value) (y : PySem.Str) : Option Value :=
  if y = PySem.Str.ofString "left" then some (.ref l) else if y = PySem.Str.ofString "found" then some (.str (txt fl) t) else if y = PySem.Str.ofString "rest" then u y else if y = PySem.Str.ofString "further" then u y else if y = PySem.Str.ofString "one" then u y else m y
def SwEnd (h₀ : Heap) (L : Addr) (m₀ : PySem.Str → Option Value) (rest : List (Addr × Obj)) (fl : List Nat) (V : Nat) (s₁ s₂ : Shared) : Prop :=
  ∃ h' tk m' news' t l vs cnt qs, s₂ = { s₁ with heap := h', toks := tk } ∧ Fr h₀ L h' m' ∧ News h₀ L h' news' ∧ (l, W.listOf (List.toArray vs) cnt) ∈ news' ∧ (∀ p ∈ rest, p ∈ news') ∧ IntsAre vs (nints qs) ∧ qs.length ≤ 256 ∧ v256 qs = V ∧
    m' (PySem.Str.ofString "left") = some (.ref l) ∧ m' (PySem.Str.ofString "found") = some (.str (txt fl) t) ∧ ∀ y, SwOff y → m' y = m₀ y
def SwPost (h₀ : Heap) (L : Addr) (m₀ : PySem.Str → Option Value) (rest : List (Addr × Obj)) (ks fl : List Nat) (s₁ : Shared) (f : Flow) (s₂ : Shared) : Prop :=
  f = .next ∧ ¬ v256 ks = 0 ∧ SwEnd h₀ L m₀ rest (cd (v256 ks % 58) :: fl) (v256 ks / 58) s₁ s₂
def SwOut (h₀ : Heap) (L : Addr) (m₀ : PySem.Str → Option Value) (rest : List (Addr × Obj)) (ks fl : List Nat) (s₁ s₂ : Shared) : Prop :=
  v256 ks = 0 ∧ SwEnd h₀ L m₀ rest fl (v256 ks) s₁ s₂
theorem sw_end {m₀ m' : PySem.Str → Option Value} {rest news' : List (Addr × Obj)} {fl qs : List Nat} {V : Nat} {h' : Heap} {tk cnt : Nat} {t : Tok} {l : Addr} {vs : List Value} (F : Fr h₀ L h' m') (N : News h₀ L h' news') (hl : (l, W.listOf (List.toArray vs) cnt) ∈ news') (hr : ∀ p ∈ rest, p ∈ news') (hi : IntsAre vs (nints qs)) (hq : vs.length ≤ 256) (hv : v256 qs = V)
    (h1 : m' (PySem.Str.ofString "left") = some (.ref l)) (h2 : m' (PySem.Str.ofString "found") = some (.str (txt fl) t)) (ho : ∀ y, SwOff y → m' y = m₀ y) : SwEnd h₀ L m₀ rest fl V s { s with heap := h', toks := tk } :=
  ⟨h', tk, m', news', t, l, vs, cnt, qs, rfl, F, N, hl, hr, hi, by rw [hi.length, nints_length] at hq; exact hq, hv, h1, h2, ho⟩
theorem sw_map {l : Addr} {fl : List Nat} {t : Tok} {m₀ m' : PySem.Str → Option Value} (h1 : m' (PySem.Str.ofString "left") = some (.ref l)) (h2 : m' (PySem.Str.ofString "found") = some (.str (txt fl) t)) (ho : ∀ y, SwOff y → m' y = m₀ y) : m' = SwM l fl t m' m₀ := by
  funext y
  unfold SwM
  by_cases e1 : y = PySem.Str.ofString "left"
  · subst e1; simp [h1]
  · rw [if_neg e1]
    by_cases e2 : y = PySem.Str.ofString "found"
    · subst e2; simp [h2]
    · rw [if_neg e2]
      by_cases e3 : y = PySem.Str.ofString "rest"
      · rw [if_pos e3]
      · rw [if_neg e3]
        by_cases e4 : y = PySem.Str.ofString "further"
        · rw [if_pos e4]
        · rw [if_neg e4]
          by_cases e5 : y = PySem.Str.ofString "one"
          · rw [if_pos e5]
          · rw [if_neg e5]
            exact ho y ⟨e1, e2, e3, e4, e5⟩
abbrev SwS := Addr × List Value × List Nat × Nat × List Nat × Tok
theorem sg_while {test : Expr} {body : List Stmt} {pos : Pos} {m₀ : PySem.Str → Option Value} {t0 : Tok} {l0 : Addr} {vs0 : List Value} {ks0 : List Nat} {cnt : Nat} {rest : List (Addr × Obj)}
    (F : Fr h₀ L s.heap m₀) (N : News h₀ L s.heap ((l0, W.listOf (List.toArray vs0) cnt) :: rest)) (hl : m₀ (PySem.Str.ofString "left") = some (.ref l0)) (hf : m₀ (PySem.Str.ofString "found") = some (.str (txt []) t0)) (hi : IntsAre vs0 (nints ks0)) (hks : ks0.length ≤ 256) (hV : v256 ks0 < 2 ^ 2048)
    (turn : ∀ (u : PySem.Str → Option Value) (ks fl : List Nat) t l vs cnt h tk, IntsAre vs (nints ks) → ks.length ≤ 256 → fl.length ≤ 2048 → @LT.lt Nat _ l h.objs.size → Fr h₀ L h (SwM l fl t u m₀) → News h₀ L h ((l, W.listOf (List.toArray vs) cnt) :: rest) →
      wpAny (model prog w) A (isTrue test env (eval test env)) (fun b s₂ =>
        if b = true then wpAny (model prog w) A (execs body env) (SwPost h₀ L m₀ rest ks fl { s with heap := h, toks := tk }) E s₂ else SwOut h₀ L m₀ rest ks fl { s with heap := h, toks := tk } s₂) E { s with heap := h, toks := tk })
    (done : ∀ (u : PySem.Str → Option Value) t l vs cnt h tk, ((digs 58 (v256 ks0)).reverse.map cd).length ≤ 2048 → Fr h₀ L h (SwM l ((digs 58 (v256 ks0)).reverse.map cd) t u m₀) → News h₀ L h ((l, W.listOf (List.toArray vs) cnt) :: rest) → Q .next { s with heap := h, toks := tk })
    (hE : PassesOwn (model prog w) A env E := by passes_own) :
    wpAny (model prog w) A (exec (.While test body [] pos) env) Q E s := by
  have hlen := digs_length (B := 58) (by decide) 2048 _ hV
  refine ksw_while (σ := SwS) (fun c => (c.1, W.listOf (List.toArray c.2.1) c.2.2.2.1) :: rest) (fun c => [(PySem.Str.ofString "left", .ref c.1), (PySem.Str.ofString "found", .str (txt c.2.2.2.2.1) c.2.2.2.2.2)]) (fun c => IntsAre c.2.1 (nints c.2.2.1)) SwNames
    (fun c => (digs 58 (v256 c.2.2.1)).reverse.map cd ++ c.2.2.2.2.1 = (digs 58 (v256 ks0)).reverse.map cd ∧ c.2.2.1.length ≤ 256) (fun c => v256 c.2.2.1) (l0, vs0, ks0, cnt, [], t0) F N hi (List.forall_mem_cons.mpr ⟨hl, List.forall_mem_cons.mpr ⟨hf, List.forall_mem_nil _⟩⟩) ⟨by simp, hks⟩ ?_ hE
  rintro ⟨l, vs, ks, cnt, fl, t⟩ u h tk hf ⟨hp, hz⟩ F₁ N₁
  dsimp only at hf hp hz N₁
  have em : (kstB (fun z => if SwNames.contains z then u z else m₀ z) [(PySem.Str.ofString "left", Value.ref l), (PySem.Str.ofString "found", Value.str (txt fl) t)]) = SwM l fl t u m₀ := by
    funext y
    show (if y = PySem.Str.ofString "left" then some (Value.ref l) else if y = PySem.Str.ofString "found" then some (Value.str (txt fl) t) else (if SwNames.contains y then u y else m₀ y)) = _
    unfold SwM
    by_cases e1 : y = PySem.Str.ofString "left"
    · rw [if_pos e1, if_pos e1]
    · rw [if_neg e1, if_neg e1]
      by_cases e2 : y = PySem.Str.ofString "found"
      · rw [if_pos e2, if_pos e2]
      · rw [if_neg e2, if_neg e2]
        by_cases e3 : y = PySem.Str.ofString "rest"
        · rw [if_pos e3, if_pos (by simp [e3])]
        · rw [if_neg e3]
          by_cases e4 : y = PySem.Str.ofString "further"
          · rw [if_pos e4, if_pos (by simp [e4])]
          · rw [if_neg e4]
            by_cases e5 : y = PySem.Str.ofString "one"
            · rw [if_pos e5, if_pos (by simp [e5])]
            · rw [if_neg e5, if_neg (by simp [e1, e2, e3, e4, e5])]
  have F₂ : Fr h₀ L h (SwM l fl t u m₀) := em ▸ F₁
  have hfl : fl.length ≤ 2048 := by
    have h1 := congrArg List.length hp
    rw [List.length_append, List.length_map, List.length_map, List.length_reverse, List.length_reverse] at h1
    omega
  refine wpAny_mono (turn u ks fl t l vs cnt h tk hf hz hfl (Heap.lt_size (N₁ _ (.head _)).1) F₂ N₁) (fun b s₂ p => ?_) fun _ _ x => x
  cases b with
  | false =>
    simp only [Bool.false_eq_true, if_false] at p ⊢
    obtain ⟨h0, h', tk', m', news', t', l', vs', cnt', qs, rfl, F', N', hl', hr', hi', hq', hv', h1', h2', ho'⟩ := p
    rw [h0, digs_zero, List.reverse_nil, List.map_nil, List.nil_append] at hp
    refine done m' t' l' vs' cnt' h' tk' (by rw [List.length_map, List.length_reverse]; exact hlen) ?_ fun q hq => ?_
    · rw [sw_map h1' h2' ho', hp] at F'
      exact F'
    · rcases List.mem_cons.mp hq with rfl | hq
      · exact N' _ hl'
      · exact N' q (hr' q hq)
  | true =>
    simp only [if_true] at p ⊢
    refine wpAny_mono p (fun f s₃ z => ?_) fun _ _ x => x
    obtain ⟨rfl, h0, h', tk', m', news', t', l', vs', cnt', qs, rfl, F', N', hl', hr', hi', hq', hv', h1', h2', ho'⟩ := z
    have hpos : 0 < v256 ks := by omega
    refine ⟨(l', vs', qs, cnt', cd (v256 ks % 58) :: fl, t'), h', tk', m', news', rfl, F', N', fun q hq => ?_, hi', List.forall_mem_cons.mpr ⟨h1', List.forall_mem_cons.mpr ⟨h2', List.forall_mem_nil _⟩⟩, fun y e1 e2 => ?_, ⟨?_, hq'⟩, ?_⟩
    · rcases List.mem_cons.mp hq with rfl | hq
      · exact hl'
      · exact hr' q hq
    · have e3 := List.forall_mem_cons.mp e1
      have e4 := (List.forall_mem_cons.mp e3.2).1
      simp only [List.contains_cons, List.contains_nil, Bool.or_eq_false_iff, beq_eq_false_iff_ne] at e2
      exact ho' y ⟨e3.1, e4, e2.2.2.1, e2.2.2.2.1, e2.2.2.2.2.1⟩
    · show (digs 58 (v256 qs)).reverse.map cd ++ cd (v256 ks % 58) :: fl = _
      rw [← hp, hv', digs_pos hpos (by decide), List.reverse_cons, List.map_append, List.append_assoc]
      rfl
    · show v256 qs < v256 ks
      rw [hv']
      exact Nat.div_lt_self hpos (by decide)
theorem sw_next {m₀ m' : PySem.Str → Option Value} {rest news' : List (Addr × Obj)} {ks fl qs : List Nat} {h' : Heap} {tk cnt : Nat} {t : Tok} {l : Addr} {vs : List Value} (F : Fr h₀ L h' m') (N : News h₀ L h' news') (h0 : ¬ v256 ks = 0) (hi : IntsAre vs (nints qs)) (hv : v256 qs = v256 (ld ks).2) (hq : vs.length ≤ 256) (hl : (l, W.listOf (List.toArray vs) cnt) ∈ news') (hr : ∀ p ∈ rest, p ∈ news')
    (h1 : m' (PySem.Str.ofString "left") = some (.ref l)) (h2 : m' (PySem.Str.ofString "found") = some (.str (txt (cd (v256 ks % 58) :: fl)) t)) (ho : ∀ y, SwOff y → m' y = m₀ y) : SwPost h₀ L m₀ rest ks fl s .next { s with heap := h', toks := tk } :=
  ⟨rfl, h0, sw_end F N hl hr hi hq (by rw [hv, ld_snd]) h1 h2 ho⟩
theorem sw_out {m₀ m' : PySem.Str → Option Value} {rest news' : List (Addr × Obj)} {ks fl : List Nat} {h' : Heap} {tk cnt : Nat} {t : Tok} {l : Addr} {vs : List Value} (F : Fr h₀ L h' m') (N : News h₀ L h' news') (h0 : v256 ks = 0) (hi : IntsAre vs (nints ks)) (hq : ks.length ≤ 256) (hl : (l, W.listOf (List.toArray vs) cnt) ∈ news') (hr : ∀ p ∈ rest, p ∈ news')
    (h1 : m' (PySem.Str.ofString "left") = some (.ref l)) (h2 : m' (PySem.Str.ofString "found") = some (.str (txt fl) t)) (ho : ∀ y, SwOff y → m' y = m₀ y) : SwOut h₀ L m₀ rest ks fl s { s with heap := h', toks := tk } :=
  ⟨h0, sw_end F N hl hr hi (by rw [hi.length, nints_length]; exact hq) rfl h1 h2 ho⟩
theorem sg_for1 {x : PySem.Str} {body : List Stmt} {l D : Addr} {vs : List Value} {ks : List Nat} {nn c0 : Nat} {R : List (Addr × Obj)} {m₀ : PySem.Str → Option Value} {t0 : Tok}
    (hh : A.handled = none) (F : Fr h₀ env.locals s.heap m₀) (N : News h₀ env.locals s.heap ((D, W.listOf #[] c0) :: R)) (hr : m₀ (PySem.Str.ofString "rest") = some (.int 0 t0)) (hi : IntsAre vs (nints ks)) (hlR : (l, W.listOf vs.toArray nn) ∈ R) (hks : ks.length ≤ 256) (hR : ∀ p ∈ R, p.1 ≠ D)
    (turn : ∀ (d r : Nat) us c t tr h tk own, us.length ≤ 256 → (∀ p ∈ R ++ own, p.1 ≠ D) → Fr h₀ env.locals h (fun y => if y = x then some (.int (d : Int) t) else if y = PySem.Str.ofString "rest" then some (.int (r : Int) tr) else m₀ y) → News h₀ env.locals h ((D, W.listOf (List.toArray us) c) :: (R ++ own)) →
      wpAny (model prog w) A (execs body env) (SgPost h₀ env.locals x m₀ D us (R ++ own) d r { s with heap := h, toks := tk }) E { s with heap := h, toks := tk })
    (done : ∀ (u : PySem.Str → Option Value) us c t h tk, (ld ks).1 < 58 → IntsAre us (nints (ld ks).2) → us.length ≤ 256 → Fr h₀ env.locals h (fun y => if y = x then u y else if y = PySem.Str.ofString "rest" then some (.int ((ld ks).1 : Int) t) else m₀ y) → News h₀ env.locals h ((D, W.listOf (List.toArray us) c) :: R) → Q .next { s with heap := h, toks := tk }) :
    wpAny (model prog w) A (pyIter (.ref l)) (fun it s₂ => LoopAtV prog w A h₀ env x body Q E it s₂) E s :=
  sg_for hh hlR hi hks hR F N hr turn fun u us c t h tk => done u us c t h tk (ld_ok ks).2.1
end
section
variable {prog : Program} {w : World} {A : Around} {E : Value → Shared → Prop} {s : Shared} {h₀ : Heap} {L : Addr} {m : PySem.Str → Option Value} {news : List (Addr × Obj)}
theorem nints_inj {a b : List Nat} (h : nints a = nints b) : a = b := by
  unfold nints at h
  exact (List.map_inj_right (fun x y e => by omega)).mp h
theorem nints_zeros (k : Nat) : nints (List.replicate k 0) = List.replicate k (0 : Int) := by
  unfold nints
  rw [List.map_replicate]
  rfl
theorem zero_iff {ks : List Nat} : nints ks = List.replicate ks.length (0 : Int) ↔ v256 ks = 0 := by
  rw [← nints_zeros]
  constructor
  · intro h
    rw [nints_inj h, v256_zeros]
  · intro h
    rw [← v256_zero h]
theorem ne_zeros {l D : Addr} {vs : List Value} {ks : List Nat} {cnt : Nat} {t : Tok} {Q : Value → Shared → Prop} (N : News h₀ L s.heap news) (hl : (l, W.listOf vs.toArray cnt) ∈ news) (hD : (D, W.listOf (List.replicate ks.length (Value.int 0 t)).toArray 0) ∈ news) (hi : IntsAre vs (nints ks)) (hu : A.units + 64 < cLine)
    (h1 : v256 ks = 0 → Q (.bool false) s) (h2 : ¬ v256 ks = 0 → Q (.bool true) s) : wpAny (model prog w) A (compareOp .NotEq (.ref l) (.ref D)) Q E s := by
  refine ke_ne_ints (News.isList N hl) (News.isList N hD) hi (ints_rep 0 t _) hu ?_
  by_cases hz : v256 ks = 0
  · rw [decide_eq_true (zero_iff.mpr hz)]
    exact h1 hz
  · rw [decide_eq_false fun e => hz (zero_iff.mp e)]
    exact h2 hz
theorem len_ints {l : Addr} {vs : List Value} {ks : List Nat} {cnt : Nat} {Q : Value → Shared → Prop} (N : News h₀ L s.heap news) (hl : (l, W.listOf vs.toArray cnt) ∈ news) (hi : IntsAre vs (nints ks)) (hk : ks.length ≤ 256) (h : ∀ t k, Q (.int (ks.length : Int) t) { s with toks := k }) : wpAny (model prog w) A (call (.builtin "len") [.ref l]) Q E s := by
  have e : vs.toArray.size = ks.length := by rw [List.size_toArray, hi.length, nints_length]
  refine len_list (News.isList N hl) (by rw [e]; omega) ?_
  rw [e]
  exact h _ _
theorem truthy_nil {l : Addr} {cnt : Nat} {Q : Bool → Shared → Prop} (N : News h₀ L s.heap news) (hl : (l, W.listOf #[] cnt) ∈ news) (h : ∀ k, Q false { s with toks := k }) : wpAny (model prog w) A (truthy (.ref l)) Q E s :=
  wpAny_truthy_list (News.isList N hl) (by decide) (h _)
theorem truthy_cons {l : Addr} {v : Value} {vs : List Value} {cnt : Nat} {Q : Bool → Shared → Prop} (N : News h₀ L s.heap news) (hl : (l, W.listOf (v :: vs).toArray cnt) ∈ news) (hz : vs.length ≤ 256) (h : ∀ k, Q true { s with toks := k }) : wpAny (model prog w) A (truthy (.ref l)) Q E s := by
  refine wpAny_truthy_list (News.isList N hl) (by rw [List.size_toArray, List.length_cons]; omega) ?_
  have e : (!(v :: vs).toArray.isEmpty) = true := by simp
  rw [e]
  exact h _
theorem item_ld {ks : List Nat} : Txt.item (PySem.Str.ofString "123456789ABCDEFGHJKLMNPQRSTUVWXYZabcdefghijkmnopqrstuvwxyz") ((ld ks).1 : Int) = txt [cd (v256 ks % 58)] := by
  rw [item_sgn (Int.natCast_nonneg _) (by have := (ld_ok ks).2.1; omega), Int.toNat_natCast, ld_fst]
  rfl
theorem add_ld {ks fl : List Nat} {t u : Tok} {Q : Value → Shared → Prop} (hz : fl.length ≤ 2048) (h : ∀ t' k', Q (.str (txt (cd (v256 ks % 58) :: fl)) t') { s with toks := k' }) :
    wpAny (model prog w) A (binaryOp .Add (.str (Txt.item (PySem.Str.ofString "123456789ABCDEFGHJKLMNPQRSTUVWXYZabcdefghijkmnopqrstuvwxyz") ((ld ks).1 : Int)) t) (.str (txt fl) u)) Q E s := by
  rw [item_ld]
  exact add_txt (a := [cd (v256 ks % 58)]) (by simp only [List.length_cons, List.length_nil]; omega) h
theorem mul_one_txt {k : Nat} {t u : Tok} {Q : Value → Shared → Prop} (hk : k ≤ 65536) (h : ∀ t' k', Q (.str (txt (List.replicate k 49)) t') { s with toks := k' }) : wpAny (model prog w) A (binaryOp .Mult (.str (PySem.Str.ofString "1") t) (.int (k : Int) u)) Q E s :=
  mul_sign (c := 49) hk h
theorem add_signs {b : Array UInt8} {t u : Tok} {Q : Value → Shared → Prop} (hb : b.size ≤ 256) (hz : ((digs 58 (v256 (nb b))).reverse.map cd).length ≤ 2048) (h : ∀ t' k', Q (.str (encB b) t') { s with toks := k' }) :
    wpAny (model prog w) A (binaryOp .Add (.str (txt (List.replicate (lead 0 (nb b)) 49)) t) (.str (txt ((digs 58 (v256 (nb b))).reverse.map cd)) u)) Q E s := by
  rw [← valB_v256] at *
  rw [List.length_map, List.length_reverse] at hz
  exact add_enc hb hz h
end
end Mine
set_option maxHeartbeats 2000000
namespace Mine
section
variable {prog : Program} {w : World} {A : Around} {E : Value → Shared → Prop} {s : Shared}
theorem item_nb {value slice : PySem.Expr} {b : Array UInt8} {a : Nat} {t u : Tok} {Q : Value → Shared → Prop} (hb : b.size ≤ 256) (ha : (a : Int) < ((nb b).length : Int)) (h : ∀ k t' tk, (nb b)[a]? = some k → Q (.int (k : Int) t') { s with toks := tk })
    (hs : subscripted slice false (.bytes b t) (.int (a : Int) u) = operate [.bytes b t, .int (a : Int) u] (getItem (.bytes b t) (.int (a : Int) u)) := by with_unfolding_all rfl)
    (ht : ∀ r, letTemporaryGo value (.bytes b t) r = pure () := by intro _; with_unfolding_all rfl) : wpAny (model prog w) A (subscriptTail value slice (.bytes b t) (.int (a : Int) u)) Q E s := by
  have hl : (nb b).length = b.size := nb_length b
  have hlt : a < (nb b).length := by omega
  refine KBw.item_K (bInts_nb b) (by rw [List.length_map]; omega) (Int.natCast_nonneg _) (by rw [List.length_map]; omega) (fun t' k _ _ => ?_) hs ht
  have e : ((nb b).map fun d => ((d : Nat) : Int)).getD (a : Int).toNat 0 = (((nb b)[a] : Nat) : Int) := by
    rw [Int.toNat_natCast]
    simp [List.getD, hlt]
  rw [e]
  exact h _ _ _ (List.getElem?_eq_getElem hlt)
theorem len_nb {b : Array UInt8} {t : Tok} {Q : Value → Shared → Prop} (hb : b.size ≤ 256) (h : ∀ t' k, Q (.int ((nb b).length : Int) t') { s with toks := k }) : wpAny (model prog w) A (call (.builtin "len") [.bytes b t]) Q E s := by
  refine KBw.len_K rfl (by rw [KBw.ints_length]; omega) ?_
  rw [KBw.ints_length, ← nb_length]
  exact h _ _
theorem nb_is {l : List Nat} {a k : Nat} (h : l[a]? = some k) (h0 : (k : Int) = 0) : l[a]? = some 0 := by
  rw [h]; congr 1; omega
theorem nb_not {l : List Nat} {a k : Nat} (h : l[a]? = some k) (h0 : ¬ (k : Int) = 0) : ∃ k, l[a]? = some k ∧ k ≠ 0 := ⟨k, h, by omega⟩
end
theorem allLt_mem {d : Nat} : ∀ {l : List (Addr × Obj)}, AllLt d l → ∀ p ∈ l, @LT.lt Nat _ p.1 d
  | [], _, p, hp => by cases hp
  | q :: l, h, p, hp => by
    rcases List.mem_cons.mp hp with rfl | hp
    · exact h.1
    · exact allLt_mem h.2 p hp
theorem offs3 {D a b c : Addr} {oa ob oc : Obj} {news : List (Addr × Obj)} (h : a < D ∧ b < D ∧ c < D ∧ AllLt D news) : ∀ p ∈ (a, oa) :: (b, ob) :: (c, oc) :: news, p.1 ≠ D := by
  obtain ⟨h1, h2, h3, h4⟩ := h
  intro p hp e
  rcases List.mem_cons.mp hp with rfl | hp
  · exact absurd e (Nat.ne_of_lt h1)
  rcases List.mem_cons.mp hp with rfl | hp
  · exact absurd e (Nat.ne_of_lt h2)
  rcases List.mem_cons.mp hp with rfl | hp
  · exact absurd e (Nat.ne_of_lt h3)
  · exact absurd e (Nat.ne_of_lt (allLt_mem h4 p hp))
theorem un_room {A : Around} {env : Env} {un : Nat} (e : A.units = un) (h : un + 100 < cLine) : (A.deeper env).units + 64 < cLine := by rw [units_deeper, e]; omega
local macro_rules | `(tactic| k_room) => `(tactic| ktr_room)
local macro_rules | `(tactic| k_mem) => `(tactic| first | with_reducible exact List.mem_cons_self .. | ((with_reducible refine List.mem_cons_of_mem _ ?_); k_mem))
local macro_rules | `(tactic| walk_at "call type:list") => `(tactic| (k_here; (rename Fr _ _ _ _ => lF); (rename News _ _ _ _ => lN); (refine' list_bytes (by rfl) lF lN ?lb1 ?_; (case lb1 => assumption); (clear lF lN); intro D1 h1 tk1 ys1 c1 F1 N1 hi1 hz1)))
local macro_rules | `(tactic| walk_at "exec While Compare cons nil") => `(tactic| (k_here; (rename Fr _ _ _ _ => lF); (rename News _ _ _ _ => lN); (refine' sg_while lF lN ?sw1 ?sw2 ?sw3 ?sw4 ?sw5 ?_ ?_); (case sw1 => exact rfl); (case sw2 => exact rfl); (case sw3 => assumption); (case sw4 => assumption); (case sw5 => assumption); (all_goals clear lF lN); (rotate_left; rotate_left); (intro u1 ks1 fl1 t1 l1 vs1 cnt1 h1 tk1 hi1 hz1 hfl1 hl1 F1 N1; (try k_fold)); (rotate_left); (intro u1 t1 l1 vs1 cnt1 h1 tk1 hz1 F1 N1; (try k_fold)); (rotate_left)))
local macro_rules | `(tactic| walk_at "call builtin:len") => `(tactic| (k_here; (with_reducible show wpAny _ _ (call (Value.builtin "len") [Value.ref _]) _ _ _); k_dflt (refine' len_ints ?ln1 ?ln2 ?ln3 ?ln4 ?_; (case ln1 => k_asm); (case ln2 => k_mem); (case ln3 => assumption); (case ln4 => assumption)); intro _ _))
local macro_rules | `(tactic| walk_at "binaryOp Mult ref int") => `(tactic| (k_here; k_dflt (refine' mul_zeros ?mz1 ?mz2 ?mz3 ?mz4 ?_; (case mz1 => k_asm); (case mz2 => k_asm); (case mz3 => k_mem); (case mz4 => omega)); intro D' h' F' N' l1 hi'; (try k_lt l1)))
local macro_rules | `(tactic| walk_at "compareOp NotEq ref ref") => `(tactic| (k_here; k_dflt (refine' ne_zeros ?nz1 ?nz2 ?nz3 ?nz4 ?nz5 ?_ ?_; (case nz1 => k_asm); (case nz2 => k_mem); (case nz3 => k_mem); (case nz4 => assumption); (case nz5 => exact un_room rfl (by assumption))); (all_goals intro _)))
local macro_rules | `(tactic| walk_at "exec For Name Name cons nil") => `(tactic| (k_here; (rename Fr _ _ _ _ => lF'); (with_unfolding_all refine' For_invVF lF' ?u3k1 ?u3k2 ?_; (case u3k1 => exact rfl); (case u3k2 => exact rfl); k_whole)))
local macro_rules | `(tactic| walk_at "exec For") => `(tactic| (k_here; (rename Fr _ _ _ _ => lF'); (with_unfolding_all refine' For_invVF lF' ?u3k1 ?u3k2 ?_; (case u3k1 => exact rfl); (case u3k2 => exact rfl); k_whole)))
local macro_rules | `(tactic| walk_at "pyIter ref") => `(tactic| (k_here; (with_reducible show wpAny _ _ (pyIter (Value.ref _)) (fun it s₂ => LoopAtV _ _ _ _ _ _ _ _ _ it s₂) _ _); (rename Fr _ _ _ _ => lF); (rename News _ _ _ _ => lN); (refine' sg_for1 (by rfl) lF lN ?sf1 ?sf2 ?sf3 ?sf4 ?sf5 ?_ ?_); (case sf1 => exact rfl); (case sf2 => assumption); (case sf3 => k_mem); (case sf4 => assumption); (case sf5 => exact offs3 (by assumption)); (all_goals clear lF lN); (rotate_left; rotate_left); (intro d1 r1 us1 c1 t1 tr1 h1 tk1 own1 hz1 ho1 F1 N1; (try k_fold)); (rotate_left); (intro u1 us1 c1 t1 h1 tk1 hld1 hi1 hz1 F1 N1; (try k_fold)); (rotate_left)))
local macro_rules | `(tactic| walk_at "call builtin:list.append") => `(tactic| (k_here; (rename Fr _ _ _ _ => lF); (rename News _ _ _ _ => lN); (refine' append_head lF lN ?ap1 ?ap2 ?_; (case ap1 => assumption); (case ap2 => omega); (clear lF lN); intro h1 F1 N1)))
local macro_rules | `(tactic| walk_at "SgPost") => `(tactic| (k_here; (rename Fr _ _ _ _ => lF); (rename News _ _ _ _ => lN); k_dflt (refine' sg_next lF lN ?sp1 ?sp2; (case sp1 => exact rfl); (case sp2 => intro y h1 h2; simp [h1, h2]))))
local macro_rules | `(tactic| walk_at "exec While") => `(tactic| (k_here; (rename Fr _ _ _ _ => lF); (rename News _ _ _ _ => lN); ((refine' sp_while lF lN ?st1 ?st2 ?_ ?_ ?_); (case st1 => assumption); (case st2 => assumption); (all_goals clear lF lN); (rotate_left; rotate_left; rotate_left); (intro c1 h1 tk1 F1 N1; (try k_fold)); (rotate_left); (intro q1 tq1 us1 c1 h1 tk1 hz1 F1 N1; (try k_fold)); (rotate_left); (intro us1 qs1 c1 h1 tk1 hi1 hv1 hz1 F1 N1; (try k_fold)); (rotate_left))))
local macro_rules | `(tactic| walk_at "exec While BoolOp") => `(tactic| (k_here; (rename Fr _ _ _ _ => lF); (rename News _ _ _ _ => lN); ((refine' ahead_while 0 (l := nb _) (B0 := 256) ?u11hlB lF lN ?u11hp ?_ ?_); (case u11hlB => assumption); (case u11hp => k_dflt exact rfl); (all_goals clear lF lN); (rotate_left; rotate_left); (intro a1 t1 h1 tk1 ha1 F1 N1; (try k_fold)); (rotate_left); (intro t1 h1 tk1 F1 N1; (try k_fold)); (rotate_left))))
local macro_rules | `(tactic| walk_at "SpPost") => `(tactic| (k_here; (rename Fr _ _ _ _ => lF); (rename News _ _ _ _ => lN); k_dflt (refine' sp_next lF lN ?pp1 ?pp2; (case pp1 => omega); (case pp2 => exact fun _ => rfl))))
local macro_rules | `(tactic| walk_at "SpOut") => `(tactic| (k_here; (rename Fr _ _ _ _ => lF); (rename News _ _ _ _ => lN); k_dflt (refine' sp_out lF lN ?pp2; (case pp2 => exact fun _ => rfl))))
local macro_rules | `(tactic| walk_at "SwPost") => `(tactic| (k_here; (rename Fr _ _ _ _ => lF); (rename News _ _ _ _ => lN); k_dflt (refine' sw_next (h₀ := _) (L := _) (s := _) (m₀ := _) (m' := _) (rest := _) lF lN ?so1 ?so2 ?so3 ?so4 ?so5 ?so6 ?so7 ?so8 ?so9; (case so7 => exact rfl); (case so5 => k_mem); (case so1 => assumption); (case so2 => assumption); (case so3 => assumption); (case so4 => assumption); (case so6 => kcj_all); (case so8 => exact rfl); (case so9 => intro y hy; unfold SwOff at hy; (try unfold SwM); simp [hy.1, hy.2.1, hy.2.2.1, hy.2.2.2.1, hy.2.2.2.2]))))
local macro_rules | `(tactic| walk_at "SwOut") => `(tactic| (k_here; (rename Fr _ _ _ _ => lF); (rename News _ _ _ _ => lN); k_dflt (refine' sw_out (h₀ := _) (L := _) (s := _) (m₀ := _) (m' := _) (rest := _) lF lN ?so1 ?so2 ?so4 ?so5 ?so6 ?so7 ?so8 ?so9; (case so7 => exact rfl); (case so5 => k_mem); (case so1 => assumption); (case so2 => assumption); (case so4 => assumption); (case so6 => kcj_all); (case so8 => exact rfl); (case so9 => intro y hy; unfold SwOff at hy; (try unfold SwM); simp [hy.1, hy.2.1, hy.2.2.1, hy.2.2.2.1, hy.2.2.2.2]))))
local macro_rules | `(tactic| walk_at "truthy ref") => `(tactic| (k_here; first | (k_dflt (refine' truthy_nil ?ty1 ?ty2 ?_; (case ty1 => k_asm); (case ty2 => k_mem)); intro _) | (k_dflt (refine' truthy_cons ?ty1 ?ty2 ?ty3 ?_; (case ty1 => k_asm); (case ty2 => k_mem); (case ty3 => assumption)); intro _)))
local macro_rules | `(tactic| walk_at "call builtin:list.pop") => `(tactic| (k_here; (rename Fr _ _ _ _ => lF); (rename News _ _ _ _ => lN); (refine' pop_head lF lN ?ap1 ?ap2 ?_; (case ap1 => exact offs3 (by assumption)); (case ap2 => omega); (clear lF lN); intro h1 F1 N1)))
local macro_rules | `(tactic| walk_at "binaryOp Add str str") => `(tactic| (k_here; first | ((with_reducible refine add_ld ?_ ?_); (· assumption); intro _ _) | ((with_reducible refine add_signs ?_ ?_ ?_); (· assumption); (· assumption); intro _ _)))
local macro_rules | `(tactic| walk_at "binaryOp Mult str int") => `(tactic| (k_here; (refine mul_one_txt ?_ ?_); (· exact Nat.le_trans (lead_le _ _) (by omega)); intro _ _))
local macro_rules | `(tactic| walk_at "call builtin:len") => `(tactic| (k_here; (with_reducible show wpAny _ _ (call (Value.builtin "len") [Value.bytes _ _]) _ _ _); (refine len_nb (by assumption) ?_); intro _ _))
local macro_rules | `(tactic| walk_at "subscriptTail Name Name bytes int") => `(tactic| (k_here; (with_reducible show wpAny _ _ (subscriptTail _ _ (Value.bytes _ _) (Value.int _ _)) _ _ _); (refine item_nb (by assumption) (by omega) ?_); intro _ _ _ _))
local macro_rules | `(tactic| walk_at "AhPost") => `(tactic| (k_here; (rename Fr _ _ _ _ => lF); (rename News _ _ _ _ => lN); k_dflt ((refine' ah_next ?ah0 ?_); rotate_left; (refine' one_end (h₀ := _) (L := _) (s := _) (m₀ := _) (m' := _) (news := _) lF lN ?ah1 ?ah2 ?ah3); (case ah0 => exact nb_is (by assumption) (by omega)); (case ah1 => first | exact fun _ h => h | kcj_all); (case ah2 => exact rfl); (case ah3 => intro y h1; simp [h1]))))
local macro_rules | `(tactic| walk_at "AhOut") => `(tactic| (k_here; (rename Fr _ _ _ _ => lF); (rename News _ _ _ _ => lN); k_dflt ((refine' ah_out ?ah0 ?_); rotate_left; (refine' one_end (h₀ := _) (L := _) (s := _) (m₀ := _) (m' := _) (news := _) lF lN ?ah1 ?ah2 ?ah3); (case ah0 => first | exact Or.inr (nb_not (by assumption) (by omega)) | exact Or.inl (by omega)); (case ah1 => first | exact fun _ h => h | kcj_all); (case ah2 => exact rfl); (case ah3 => intro y h1; simp [h1]))))
local macro_rules | `(tactic| walk_at "subscriptTail Name Name str int") => `(tactic| (k_here; (with_reducible show wpAny _ _ (subscriptTail _ _ (Value.str _ _) (Value.int _ _)) _ _ _); (refine KXi.item (n := 58) (by decide) (by omega) (by omega) (by decide) ?_); intro kxiE))
theorem signs_ok {w : World} {mean : ExcName → Option Value} {mg mb : Str → Option Value} (b : Array UInt8) (tb : Tok) (hb : b.size ≤ 256)
    {dp un : Nat} {gd : Option (List Code)} {cn : Str} {cs : Scope} {a : Addr} {ccd : Value} {cl : List (Str × Addr)} {outer : List Env} {A₀ : Around} {base h₀ : Heap} {L : Addr} {m : Str → Option Value} {news : List (Addr × Obj)} {s : Shared} {Q E : Value → Shared → Prop}
    (B : Below A₀ base outer h₀) (F : Fr h₀ L s.heap m) (X : (Kg w).In h₀) (N : News h₀ L s.heap news) (T : Tp mean mg mb h₀) (hk : cs.kind = .function) (hd : dp + 4 < recursionLimit) (hu : un + 100 < cLine)
    (hret : ∀ t h' tk', Fr h₀ L h' m → News h₀ L h' news → Q (.str (encB b) t) { s with heap := h', toks := tk' }) :
    wpAny (model Pg w) (ktrTop dp un gd cn cs L a ccd cl outer) (call (.ref 134) [.bytes b tb]) Q E s := by
  dsimp only [Pg, Kg, Lo, Tp] at *
  revert X
  k_fill
  intro X
  have hVb : v256 (nb b) < 2 ^ 2048 := by rw [← valB_v256]; exact valB_bound (n := 256) hb
  refine wpAny_call ?_
  k_dflt cell_enter
  w_top off
  k_steps
  all_goals first | exact hret _ _ _ (by k_asm) (cb_drop (by k_asm) (by kcj_all))
end Mine
set_option maxHeartbeats 1000000
namespace Mine
abbrev okT (n : Nat) (x : PySem.Str) : Prop := x.cps.toList.length ≤ n ∧ ∀ c ∈ x.cps.toList, c < 16 ^ 8
theorem digs_len58 : ∀ (k n : Nat), n < 58 ^ k → (digs 58 n).length ≤ k
  | 0, n, h => by
    have : n = 0 := by simpa using h
    subst this
    rw [digs_zero]; simp
  | k + 1, n, h => by
    rcases Nat.eq_zero_or_pos n with h0 | h0
    · subst h0; rw [digs_zero]; simp
    · rw [digs_pos h0 (by decide), List.length_cons]
      have := digs_len58 k (n / 58) (by rw [Nat.div_lt_iff_lt_mul (by decide), ← Nat.pow_succ]; exact h)
      omega
theorem digs_lt (B : Nat) (hB : 2 ≤ B) : ∀ (n : Nat), ∀ d ∈ digs B n, d < B := by
  intro n
  induction n using Nat.strongRecOn with
  | ind n ih =>
    intro d hd
    rcases Nat.eq_zero_or_pos n with h0 | h0
    · subst h0; rw [digs_zero] at hd; cases hd
    · rw [digs_pos h0 hB] at hd
      rcases List.mem_cons.mp hd with e | e
      · rw [e]; exact Nat.mod_lt _ (by omega)
      · exact ih _ (Nat.div_lt_self h0 (by omega)) d e
theorem txt_list (l : List Nat) : (txt l).cps.toList = l := by show l.toArray.toList = l; simp
theorem encB_list (b : Array UInt8) : (encB b).cps.toList = enc (nb b) (valB b) := by unfold encB; exact txt_list _
theorem encB_short {b : Array UInt8} (hb : b.size ≤ 16) : (encB b).cps.toList.length ≤ 38 := by
  rw [encB_list]
  unfold enc
  rw [List.length_append, List.length_replicate, List.length_map, List.length_reverse]
  have h1 := lead_le 0 (nb b)
  rw [nb_length] at h1
  have h2 := digs_len58 22 (valB b) (Nat.lt_of_lt_of_le (valB_bound (n := 16) hb) (by decide +kernel))
  omega
theorem cd_mem {d : Nat} (h : d < 58) : cd d ∈ alpha := by
  have : ∀ d : Fin 58, cd d.val ∈ alpha := by decide +kernel
  exact this ⟨d, h⟩
theorem ix_cd {d : Nat} (h : d < 58) : ix (cd d) = d := by
  have : ∀ d : Fin 58, ix (cd d.val) = d.val := by decide +kernel
  exact this ⟨d, h⟩
theorem cd_ix {c : Nat} (h : c ∈ alpha) : cd (ix c) = c := by
  have : ∀ c ∈ alpha, cd (ix c) = c := by decide +kernel
  exact this c h
theorem cd_49 {d : Nat} (h : d < 58) : cd d = 49 ↔ d = 0 := by
  have : ∀ d : Fin 58, cd d.val = 49 ↔ d.val = 0 := by decide +kernel
  exact this ⟨d, h⟩
theorem enc_good (l : List Nat) (n : Nat) : good (enc l n) := by
  intro c hc
  unfold enc at hc
  rcases List.mem_append.mp hc with h | h
  · rw [(List.mem_replicate.mp h).2]; decide
  · obtain ⟨d, hd, rfl⟩ := List.mem_map.mp h
    exact cd_mem (digs_lt 58 (by decide) n d (List.mem_reverse.mp hd))
theorem encB_good (b : Array UInt8) : good (encB b).cps.toList := by rw [encB_list]; exact enc_good _ _
theorem good_codes {l : List Nat} (h : good l) : ∀ c ∈ l, c < 16 ^ 8 := by
  have : ∀ c ∈ alpha, c < 16 ^ 8 := by decide +kernel
  exact fun c hc => this c (h c hc)
/-- the numbers of a number, read again -/
theorem val58_digs : ∀ n : Nat, val58 ((digs 58 n).reverse.map cd) = n := by
  intro n
  induction n using Nat.strongRecOn with
  | ind n ih =>
    rcases Nat.eq_zero_or_pos n with h0 | h0
    · subst h0; rw [digs_zero]; rfl
    · rw [digs_pos h0 (by decide), List.reverse_cons, List.map_append]
      show val58 (_ ++ [cd (n % 58)]) = n
      rw [val58_snoc, ih _ (Nat.div_lt_self h0 (by decide)), ix_cd (Nat.mod_lt _ (by decide))]
      have := Nat.div_add_mod n 58
      omega
theorem val58_ahead (k : Nat) (l : List Nat) : val58 (List.replicate k 49 ++ l) = val58 l := by
  induction k with
  | zero => simp
  | succ k ih =>
    rw [List.replicate_succ, List.cons_append]
    show (_ ++ l).foldl _ (0 * 58 + ix 49) = _
    have : (0 * 58 + ix 49) = 0 := by decide
    rw [this]
    exact ih
theorem v256_ahead (k : Nat) (l : List Nat) : v256 (List.replicate k 0 ++ l) = v256 l := by
  induction k with
  | zero => simp
  | succ k ih =>
    rw [List.replicate_succ, List.cons_append, v256_cons, Nat.zero_mul, Nat.zero_add]
    exact ih
theorem v256_digs : ∀ n : Nat, v256 (digs 256 n).reverse = n := by
  intro n
  induction n using Nat.strongRecOn with
  | ind n ih =>
    rcases Nat.eq_zero_or_pos n with h0 | h0
    · subst h0; rw [digs_zero]; rfl
    · rw [digs_pos h0 (by decide), List.reverse_cons, v256_snoc, ih _ (Nat.div_lt_self h0 (by decide))]
      have := Nat.div_add_mod n 256
      omega
/-- the first of a number's numbers is no nought -/
theorem digs_head {B : Nat} (hB : 2 ≤ B) : ∀ n : Nat, 0 < n → ∃ d r, (digs B n).reverse = d :: r ∧ 0 < d := by
  intro n
  induction n using Nat.strongRecOn with
  | ind n ih =>
    intro h0
    rw [digs_pos h0 hB, List.reverse_cons]
    rcases Nat.eq_zero_or_pos (n / B) with hq | hq
    · rw [hq, digs_zero]
      refine ⟨n % B, [], rfl, ?_⟩
      have := Nat.div_add_mod n B
      rw [hq] at this
      omega
    · obtain ⟨d, r, e, hd⟩ := ih _ (Nat.div_lt_self h0 hB) hq
      rw [e]
      exact ⟨d, r ++ [n % B], rfl, hd⟩
/-- what stands past the noughts ahead is told by its number -/
theorem digs_of {B : Nat} (hB : 2 ≤ B) (f : List Nat → Nat) (hf0 : f [] = 0) (hf : ∀ l d, f (l ++ [d]) = f l * B + d) :
    ∀ (r : List Nat), (∀ d ∈ r.reverse, d < B) → (∀ d r', r.reverse = d :: r' → 0 < d) → (digs B (f r.reverse)).reverse = r.reverse
  | [], _, _ => by rw [List.reverse_nil, hf0, digs_zero]; rfl
  | d :: r, hlt, hh => by
    rw [List.reverse_cons] at hlt hh ⊢
    rw [hf]
    have hd : d < B := hlt d (by simp)
    have ih := digs_of hB f hf0 hf r (fun x hx => hlt x (List.mem_append_left _ hx)) (fun x r' e => hh x (r' ++ [d]) (by rw [e]; rfl))
    have hpos : 0 < f r.reverse * B + d := by
      cases hr : r.reverse with
      | nil =>
        have := hh d [] (by rw [hr]; rfl)
        omega
      | cons x r' =>
        have hx := hh x (r' ++ [d]) (by rw [hr]; rfl)
        rw [hr] at ih
        rcases Nat.eq_zero_or_pos (f (x :: r')) with h0 | h0
        · rw [h0, digs_zero] at ih
          simp at ih
        · have := Nat.mul_pos h0 (show 0 < B by omega)
          omega
    rw [digs_pos hpos hB, List.reverse_cons]
    have e1 : (f r.reverse * B + d) / B = f r.reverse := by
      rw [Nat.mul_comm, Nat.mul_add_div (by omega), Nat.div_eq_of_lt hd, Nat.add_zero]
    have e2 : (f r.reverse * B + d) % B = d := by
      rw [Nat.mul_comm, Nat.mul_add_mod, Nat.mod_eq_of_lt hd]
    rw [e1, e2, ih]
/-- noughts ahead, and the rest that does not begin with one -/
theorem split_lead (z : Nat) : ∀ l : List Nat, ∃ r, l = List.replicate (lead z l) z ++ r ∧ ∀ d r', r = d :: r' → d ≠ z
  | [] => ⟨[], rfl, fun _ _ e => by simp at e⟩
  | a :: l => by
    by_cases h : a = z
    · obtain ⟨r, e, hr⟩ := split_lead z l
      refine ⟨r, ?_, hr⟩
      rw [lead, if_pos h, List.replicate_succ, List.cons_append, ← e, h]
    · refine ⟨a :: l, ?_, fun d r' e => ?_⟩
      · rw [lead, if_neg h]; rfl
      · rw [← (List.cons.inj e).1]; exact h
theorem lead_rep (z k : Nat) (r : List Nat) (hr : ∀ d r', r = d :: r' → d ≠ z) : lead z (List.replicate k z ++ r) = k := by
  rw [lead_all (fun c hc => (List.mem_replicate.mp hc).2), List.length_replicate]
  cases r with
  | nil => rfl
  | cons d r =>
    rw [lead, if_neg (hr d r rfl), Nat.add_zero]
theorem nb_lt (b : Array UInt8) : ∀ d ∈ nb b, d < 256 := by
  intro d hd
  obtain ⟨c, _, rfl⟩ := List.mem_map.mp hd
  exact c.toNat_lt
theorem nb_inj {b c : Array UInt8} (h : nb b = nb c) : b = c := by
  refine Array.toList_inj.mp ?_
  have : ∀ (l r : List UInt8), l.map UInt8.toNat = r.map UInt8.toNat → l = r := by
    intro l
    induction l with
    | nil => intro r h; cases r with
      | nil => rfl
      | cons _ _ => simp at h
    | cons a l ih => intro r h; cases r with
      | nil => simp at h
      | cons a' r =>
        simp only [List.map_cons, List.cons.injEq] at h
        rw [UInt8.toNat_inj.mp h.1, ih r h.2]
  exact this _ _ h
theorem nb_toUInt8 {l : List Nat} (h : ∀ d ∈ l, d < 256) : (l.map Nat.toUInt8).map UInt8.toNat = l := by
  rw [List.map_map]
  conv => rhs; rw [← List.map_id l]
  refine List.map_congr_left fun d hd => ?_
  show (UInt8.ofNat d).toNat = d
  rw [UInt8.toNat_ofNat']
  exact Nat.mod_eq_of_lt (h d hd)
/-- the numbers of the bytes that signs of the alphabet are read as -/
theorem nb_dec {l : List Nat} (hg : good l) : nb (dec l) = List.replicate (lead 49 l) 0 ++ (digs 256 (val58 l)).reverse := by
  rw [← read_dec hg, byteArr_app, byteArr_zeros, byteArr_nints]
  unfold nb
  rw [Array.toList_append, List.map_append, List.map_replicate]
  congr 1
  exact nb_toUInt8 fun d hd => digs_lt 256 (by decide) _ d (List.mem_reverse.mp hd)
theorem enc_head {n : Nat} : ∀ d r', (digs 58 n).reverse.map cd = d :: r' → d ≠ 49 := by
  intro d r' e
  rcases Nat.eq_zero_or_pos n with h0 | h0
  · subst h0; rw [digs_zero] at e; simp at e
  · obtain ⟨x, r, ex, hx⟩ := digs_head (B := 58) (by decide) n h0
    have hx58 : x < 58 := digs_lt 58 (by decide) n x (List.mem_reverse.mp (by rw [ex]; exact .head _))
    rw [ex, List.map_cons] at e
    rw [← (List.cons.inj e).1]
    exact fun h => absurd ((cd_49 hx58).mp h) (by omega)
theorem dec_head {n : Nat} : ∀ d r', (digs 256 n).reverse = d :: r' → d ≠ 0 := by
  intro d r' e
  rcases Nat.eq_zero_or_pos n with h0 | h0
  · subst h0; rw [digs_zero] at e; simp at e
  · obtain ⟨x, r, ex, hx⟩ := digs_head (B := 256) (by decide) n h0
    rw [ex] at e
    rw [← (List.cons.inj e).1]
    omega
theorem decB_encB (b : Array UInt8) : decB (encB b) = b := by
  refine nb_inj ?_
  unfold decB
  rw [nb_dec (encB_good b), encB_list]
  have hl : lead 49 (enc (nb b) (valB b)) = lead 0 (nb b) := lead_rep _ _ _ enc_head
  have hv : val58 (enc (nb b) (valB b)) = valB b := by unfold enc; rw [val58_ahead, val58_digs]
  rw [hl, hv, valB_v256]
  obtain ⟨r, e, hr⟩ := split_lead 0 (nb b)
  have hv2 : v256 (nb b) = v256 r := (congrArg v256 e).trans (v256_ahead _ _)
  rw [hv2]
  have hlt : ∀ d ∈ r, d < 256 := fun d hd => nb_lt b d (by rw [e]; exact List.mem_append_right _ hd)
  have := digs_of (B := 256) (by decide) v256 rfl v256_snoc r.reverse (by rw [List.reverse_reverse]; exact hlt) (by rw [List.reverse_reverse]; exact fun d r' e => Nat.pos_of_ne_zero (hr d r' e))
  rw [List.reverse_reverse] at this
  rw [this]
  exact e.symm
theorem ix_49 {c : Nat} (h : c ∈ alpha) : ix c = 0 → c = 49 := by
  intro h0
  have := cd_ix h
  rw [h0] at this
  rw [← this]; decide
def v58 (l : List Nat) : Nat := l.foldl (fun a d => a * 58 + d) 0
theorem v58_snoc (l : List Nat) (d : Nat) : v58 (l ++ [d]) = v58 l * 58 + d := by
  unfold v58
  rw [List.foldl_append]
  rfl
theorem encB_decB {x : PySem.Str} (h : good x.cps.toList) : encB (decB x) = x := by
  refine PySem.Str.ext' (Array.toList_inj.mp ?_)
  rw [encB_list, valB_v256]
  unfold decB
  rw [nb_dec h]
  have hl : lead 0 (List.replicate (lead 49 x.cps.toList) 0 ++ (digs 256 (val58 x.cps.toList)).reverse) = lead 49 x.cps.toList := lead_rep _ _ _ dec_head
  unfold enc
  rw [hl, v256_ahead, v256_digs]
  obtain ⟨r, e, hr⟩ := split_lead 49 x.cps.toList
  have hv2 : val58 x.cps.toList = val58 r := (congrArg val58 e).trans (val58_ahead _ _)
  rw [hv2]
  have hgr : ∀ c ∈ r, c ∈ alpha := fun c hc => h c (by rw [e]; exact List.mem_append_right _ hc)
  have key : (digs 58 (val58 r)).reverse = r.map ix := by
    have hval : val58 r = v58 (r.map ix) := by unfold val58 v58; rw [List.foldl_map]
    rw [hval]
    have := digs_of (B := 58) (by decide) v58 rfl v58_snoc (r.map ix).reverse (by
      rw [List.reverse_reverse]
      intro d hd
      obtain ⟨c, hc, rfl⟩ := List.mem_map.mp hd
      exact ix_lt (hgr c hc)) (by
      rw [List.reverse_reverse]
      intro d r' e'
      cases r with
      | nil => simp at e'
      | cons c r =>
        rw [List.map_cons] at e'
        rw [← (List.cons.inj e').1]
        exact Nat.pos_of_ne_zero fun h0 => hr c r rfl (ix_49 (hgr c (.head _)) h0))
    rw [List.reverse_reverse] at this
    exact this
  rw [key, List.map_map]
  have : r.map (cd ∘ ix) = r := by
    conv => rhs; rw [← List.map_id r]
    exact List.map_congr_left fun c hc => cd_ix (hgr c hc)
  rw [this]
  exact e.symm
theorem fst4_dsha (b : Array UInt8) : (fst4 (dsha b)).size = 4 := by
  have := dsha_size b
  unfold fst4
  simp only [List.size_toArray, List.length_take, Array.length_toList]
  omega
theorem lst4_app {b c : Array UInt8} (h : c.size = 4) : lst4 (b ++ c) = c := by
  unfold lst4
  have e : (b ++ c).size - 4 = b.toList.length := by rw [Array.size_append, h, Array.length_toList]; omega
  rw [e, Array.toList_append, List.drop_left]
theorem but4_app {b c : Array UInt8} (h : c.size = 4) : but4 (b ++ c) = b := by
  unfold but4
  have e : (b ++ c).size - 4 = b.toList.length := by rw [Array.size_append, h, Array.length_toList]; omega
  rw [e, Array.toList_append, List.take_left]
theorem but_enc (b : Array UInt8) : but4 (decB (encB (b ++ fst4 (dsha b)))) = b := by
  rw [decB_encB, but4_app (fst4_dsha b)]
theorem chk_enc (b : Array UInt8) : chk (encB (b ++ fst4 (dsha b))) := by
  refine ⟨encB_good _, ?_⟩
  rw [but_enc, decB_encB, lst4_app (fst4_dsha b)]
theorem chk_four {x : PySem.Str} (h : chk x) : 4 ≤ (decB x).size := by
  have h1 := congrArg Array.size h.2
  rw [fst4_dsha] at h1
  unfold lst4 at h1
  simp only [List.size_toArray, List.length_drop, Array.length_toList] at h1
  omega
theorem encB_pos (b : Array UInt8) : 1 ≤ (encB (b ++ fst4 (dsha b))).cps.toList.length := by
  rcases Nat.eq_zero_or_pos (encB (b ++ fst4 (dsha b))).cps.toList.length with h0 | h0
  · exfalso
    have h1 : (encB (b ++ fst4 (dsha b))).cps.toList = [] := List.length_eq_zero_iff.mp h0
    have h2 := chk_four (chk_enc b)
    rw [decB_nil h1] at h2
    simp at h2
  · exact h0
end Mine
set_option maxHeartbeats 1000000
namespace Mine
theorem rangeKs_len (a : Int) : ∀ n : Nat, (rangeKs a n).length = n := by
  intro n
  simp [rangeKs]
theorem oct_ex {l : List Int} {f : Int → Int} (_h : KBa.In (List.map f (rangeKs 1 ((if ((l.length : Nat) : Int) < 13 then ((l.length : Nat) : Int) else 13) - 1).toNat))) :
    ∃ b, byteArr (List.map f (rangeKs 1 ((if ((l.length : Nat) : Int) < 13 then ((l.length : Nat) : Int) else 13) - 1).toNat)) = b ∧ b.size ≤ 12 := by
  refine ⟨_, rfl, ?_⟩
  rw [byteArr_size, List.length_map, rangeKs_len]
  split <;> omega
section
variable {prog : Program} {w : World} {A : Around} {E : Value → Shared → Prop} {s : Shared}
theorem ne_self_str {x : PySem.Str} {t u : Tok} {Q : Value → Shared → Prop} (h : Q (.bool false) s) : wpAny (model prog w) A (compareOp .NotEq (.str x t) (.str x u)) Q E s := by
  refine PyProof.Rows.ne_str ?_
  rw [bne_self_eq_false]
  exact h
theorem ne_self_bytes {x : Array UInt8} {t u : Tok} {Q : Value → Shared → Prop} (h : Q (.bool false) s) : wpAny (model prog w) A (compareOp .NotEq (.bytes x t) (.bytes x u)) Q E s := by
  refine ne_bytes ?_
  rw [bne_self_eq_false]
  exact h
end
section
variable {w : World} {mean : ExcName → Option Value} {mg mb : Str → Option Value} {dp un : Nat} {gd : Option (List Code)} {cn : Str} {cs : Scope} {a : Addr} {ccd : Value} {cl : List (Str × Addr)} {outer : List Env} {A₀ : Around} {base h₀ : Heap} {L : Addr} {m : Str → Option Value} {news : List (Addr × Obj)} {s : Shared} {Q E : Value → Shared → Prop}
/-- decode of what encode has told -/
theorem dec_enc_ok (b : Array UInt8) (tx : Tok) (hb : b.size ≤ 16)
    (B : Below A₀ base outer h₀) (F : Fr h₀ L s.heap m) (X : (Kg w).In h₀) (N : News h₀ L s.heap news) (T : Tp mean mg mb h₀) (hk : cs.kind = .function) (hd : dp + 4 < recursionLimit)
    (hret : ∀ t h' tk', Fr h₀ L h' m → News h₀ L h' news → Q (.bytes b t) { s with heap := h', toks := tk' }) :
    wpAny (model Pg w) (ktrTop dp un gd cn cs L a ccd cl outer) (call (.ref 113) [.str (encB b) tx]) Q E s := by
  have hz := encB_short hb
  have hs : (encB b).cps.size = (encB b).cps.toList.length := by simp
  refine dec_ok _ _ (by omega) (good_codes (encB_good b)) (by omega) B F X N T hk hd (fun _ => ?_) fun hn => absurd (encB_good b) hn
  rw [decB_encB]
  exact hret
theorem dech_enc_ok (b : Array UInt8) (tx : Tok) (hb : b.size ≤ 12)
    (B : Below A₀ base outer h₀) (F : Fr h₀ L s.heap m) (X : (Kg w).In h₀) (N : News h₀ L s.heap news) (T : Tp mean mg mb h₀) (hk : cs.kind = .function) (hd : dp + 12 < recursionLimit)
    (hret : ∀ t h' tk', Fr h₀ L h' m → News h₀ L h' news → Q (.bytes b t) { s with heap := h', toks := tk' }) :
    wpAny (model Pg w) (ktrTop dp un gd cn cs L a ccd cl outer) (call (.ref 127) [.str (encB (b ++ fst4 (dsha b))) tx]) Q E s := by
  have h4 := fst4_size (dsha b)
  have hz := encB_short (b := b ++ fst4 (dsha b)) (by rw [Array.size_append]; omega)
  have hs : (encB (b ++ fst4 (dsha b))).cps.size = (encB (b ++ fst4 (dsha b))).cps.toList.length := by simp
  refine dech_ok _ _ (by omega) (good_codes (encB_good _)) (by omega) B F X N T hk hd (fun _ => ?_) fun hn => absurd (chk_enc b) hn
  rw [but_enc]
  exact hret
end
section
variable {prog : Program} {w : World} {A : Around} {E : Value → Shared → Prop} {Q : Flow → Shared → Prop} {s : Shared} {env : Env} {h₀ : Heap} {L : Addr}
/-- the end of a turn of a loop over texts -/
def TuPost (h₀ : Heap) (L : Addr) (v a b : PySem.Str) (m₀ : PySem.Str → Option Value) (need : List (Addr × Obj)) (s₁ : Shared) (f : Flow) (s₂ : Shared) : Prop :=
  f = .next ∧ InvEnd h₀ L (fun m' => ∀ z, z ≠ v → z ≠ a → z ≠ b → m' z = m₀ z) need s₁ s₂
theorem tu_next {v a b : PySem.Str} {m₀ m' : PySem.Str → Option Value} {need news' : List (Addr × Obj)} {h' : Heap} {tk : Nat} (F : Fr h₀ L h' m') (N : News h₀ L h' news') (hn : ∀ p ∈ need, p ∈ news') (hr : ∀ z, z ≠ v → z ≠ a → z ≠ b → m' z = m₀ z) : TuPost h₀ L v a b m₀ need s .next { s with heap := h', toks := tk } :=
  ⟨rfl, InvEnd.intro F N hn hr⟩
/-- values that are texts, each of which P holds of -/
def Texts (P : PySem.Str → Prop) (vs : List Value) : Prop := ∀ v ∈ vs, ∃ x t, v = .str x t ∧ P x
theorem Texts.nil {P : PySem.Str → Prop} : Texts P [] := fun _ h => by cases h
theorem Texts.cons {P : PySem.Str → Prop} {x : PySem.Str} {t : Tok} {vs : List Value} (h : P x) (hs : Texts P vs) : Texts P (.str x t :: vs) := fun v hv => by
  rcases List.mem_cons.mp hv with rfl | hv
  · exact ⟨x, t, rfl, h⟩
  · exact hs v hv
theorem Texts.get {P : PySem.Str → Prop} {vs : List Value} (hT : Texts P vs) {i : Nat} {v : Value} (h : vs[i]? = some v) : ∃ x t, v = .str x t ∧ P x :=
  hT v (List.mem_of_getElem? h)
theorem tu_for {P : PySem.Str → Prop} {v : PySem.Str} (a b : PySem.Str) {body : List Stmt} {tp : Addr} {vs : List Value} {c : Nat} {m₀ : PySem.Str → Option Value} {news : List (Addr × Obj)}
    (hh : A.handled = none) (hm : (tp, ({ cls := .type "tuple", data := .seq vs.toArray c } : Obj)) ∈ news) (hT : Texts P vs) (F : Fr h₀ env.locals s.heap m₀) (N : News h₀ env.locals s.heap news)
    (turn : ∀ (u : PySem.Str → Option Value) x t h tk own, P x → Fr h₀ env.locals h (fun y => if y = v then some (.str x t) else if y = a then u y else if y = b then u y else m₀ y) → News h₀ env.locals h (news ++ own) →
      wpAny (model prog w) A (execs body env) (TuPost h₀ env.locals v a b m₀ (news ++ own) { s with heap := h, toks := tk }) E { s with heap := h, toks := tk })
    (done : ∀ (u : PySem.Str → Option Value) h tk, Fr h₀ env.locals h (fun y => if y = v then u y else if y = a then u y else if y = b then u y else m₀ y) → News h₀ env.locals h news → Q .next { s with heap := h, toks := tk }) :
    wpAny (model prog w) A (pyIter (.ref tp)) (fun it s₂ => LoopAtV prog w A h₀ env v body Q E it s₂) E s := by
  have ht : s.heap.IsTuple tp vs.toArray := ⟨_, (N _ hm).1, rfl, c, rfl⟩
  have hne : tp ≠ s.heap.objs.size := Nat.ne_of_lt (Heap.lt_size (N _ hm).1)
  refine wpAny_pyIter_tuple ht ?_
  have W := Walks.tuple (prog := prog) (w := w) hh s.heap.objs.size tp hne vs.toArray
  have hlen : vs.toArray.size = vs.length := by simp
  rw [hlen] at W
  refine ⟨_, _, _, vs.length, _, _, m₀, news, (fun _ m nx => nx = news ∧ ∀ z, z ≠ v → z ≠ a → z ≠ b → m z = m₀ z), rfl, W, ?_, ?_, ?_, ⟨⟨_, Heap.get?_push_size _ rfl, rfl, rfl⟩, ht.at fun o e => Heap.get?_push_of_some _ e⟩, F.push _, (fun p hp => ⟨Heap.get?_push_of_some _ (N p hp).1, (N p hp).2⟩), ⟨rfl, fun _ _ _ _ => rfl⟩, ?_, ?_⟩
  · intro hx
    rcases List.mem_cons.mp hx with e | hx
    · exact absurd F.ns.lt (e ▸ Nat.lt_irrefl _)
    · exact (N _ hm).2.1 ((List.mem_singleton.mp hx).symm)
  · intro b hb
    rw [List.mem_singleton.mp hb]
    exact next_is_new F
  · intro p hp hI
    exact absurd (Heap.lt_size (N p hp).1) ((List.mem_singleton.mp hI) ▸ Nat.lt_irrefl _)
  · rintro i val m₁ nx s₁ own ⟨hh', tk', rfl⟩ hin hP ⟨rfl, hr⟩ hoff hown hget hfp _ F₁ N₁
    obtain ⟨x, t, rfl, hx⟩ := hT.get (show vs[i]? = some val by simpa using hP)
    have hF : (fun y => if y = v then some (Value.str x t) else m₁ y) = fun y => if y = v then some (.str x t) else if y = a then m₁ y else if y = b then m₁ y else m₀ y := by
      funext y
      by_cases h1 : y = v
      · rw [if_pos h1, if_pos h1]
      · rw [if_neg h1, if_neg h1]
        by_cases h2 : y = a
        · rw [if_pos h2]
        · rw [if_neg h2]
          by_cases h3 : y = b
          · rw [if_pos h3]
          · rw [if_neg h3]
            exact hr y h1 h2 h3
    rw [hF] at F₁
    have N₂ : News h₀ env.locals hh' (nx ++ own.filter fun p => decide (p.1 = s.heap.objs.size)) := fun p hp => N₁ p ((List.mem_append.mp hp).elim (fun h => List.mem_append.mpr (.inr h)) fun h => List.mem_append.mpr (.inl (List.mem_filter.mp h).1))
    have hlo := (N₁ _ (List.mem_append.mpr (.inr hm))).1
    refine wpAny_mono (turn m₁ x t hh' tk' _ hx F₁ N₂) (fun f s₂ p => ?_) fun _ _ e => e
    obtain ⟨rfl, h', tk, m', news', e, F', N', hn, hr'⟩ := p
    refine .next ⟨rfl, h', tk, m', nx, e, F', fun p hp => ?_, fun p hp hI => ?_, rfl, hr'⟩
    · rcases List.mem_append.mp hp with h | h
      · by_cases hI : p.1 = s.heap.objs.size
        · exact N' p (hn p (List.mem_append_right _ (List.mem_filter.mpr ⟨h, by simpa using hI⟩)))
        · have h1 : p.1 = tp := by
            rcases List.mem_cons.mp (hown p h) with h2 | h2
            · exact absurd h2 hI
            · exact List.mem_singleton.mp h2
          have h2 : hh'.get? p.1 = some p.2 := hget p h
          rw [h1, hlo] at h2
          have h3 : p = (tp, _) := Prod.ext h1 (Option.some.inj h2).symm
          rw [h3]
          exact N' _ (hn _ (List.mem_append_left _ hm))
      · exact N' p (hn p (List.mem_append_left _ h))
    · exact absurd (Heap.lt_size (N p hp).1) (by rw [List.mem_singleton.mp hI]; exact Nat.lt_irrefl _)
  · rintro h' tk m' nx F' N' _ ⟨rfl, hr⟩
    refine done m' h' tk ?_ N'
    have hF : m' = fun y => if y = v then m' y else if y = a then m' y else if y = b then m' y else m₀ y := by
      funext y
      by_cases h1 : y = v
      · rw [if_pos h1]
      · rw [if_neg h1]
        by_cases h2 : y = a
        · rw [if_pos h2]
        · rw [if_neg h2]
          by_cases h3 : y = b
          · rw [if_pos h3]
          · rw [if_neg h3]
            exact hr y h1 h2 h3
    rw [← hF]
    exact F'
end
end Mine
set_option maxHeartbeats 1000000
namespace Mine
theorem okT_mono {n k : Nat} {x : PySem.Str} (h : okT n x) (hk : n ≤ k) : okT k x := ⟨Nat.le_trans h.1 hk, h.2⟩
theorem okT_lit {n : Nat} {x : PySem.Str} (h : (decide (x.cps.toList.length ≤ n) && x.cps.toList.all fun c => decide (c < 16 ^ 8)) = true) : okT n x := by
  rw [Bool.and_eq_true, decide_eq_true_eq, List.all_eq_true] at h
  exact ⟨h.1, fun c hc => by simpa using h.2 c hc⟩
theorem okT_add {n k : Nat} {x y : PySem.Str} (hx : okT n x) (hy : okT k y) : okT (n + k) (x ++ y) := by
  have e : (x ++ y).cps.toList = x.cps.toList ++ y.cps.toList := by rw [PySem.Str.cps_append]; simp
  unfold okT
  rw [e, List.length_append]
  refine ⟨Nat.add_le_add hx.1 hy.1, fun c hc => ?_⟩
  rcases List.mem_append.mp hc with h | h
  · exact hx.2 c h
  · exact hy.2 c h
theorem picked_mem {x : PySem.Str} {l : List Nat} : ∀ c ∈ (PySem.Str.mk (l.filterMap (x.cps[·]?)).toArray).cps.toList, c ∈ x.cps.toList := by
  intro c hc
  have hc' : c ∈ l.filterMap (x.cps[·]?) := by simpa using hc
  obtain ⟨i, _, hi⟩ := List.mem_filterMap.mp hc'
  exact Array.mem_toList_iff.mpr (Array.mem_of_getElem? hi)
theorem okT_slice {n : Nat} {x : PySem.Str} (h : okT n x) (l u : Option Int) : okT n (Txt.slice x l u) := by
  have hle := PyProof.Txt.length_slice_le x l u
  rw [← cpsL_length, ← cpsL_length] at hle
  refine ⟨Nat.le_trans hle h.1, fun c hc => h.2 c ?_⟩
  unfold Txt.slice at hc
  split at hc
  · exact hc
  · exact picked_mem c hc
theorem okT_by {n : Nat} {x : PySem.Str} (h : okT n x) (l u : Option (Int × Tok)) (st : Int × Tok) (h0 : st.1 ≠ 0) : okT n (Txt.sliceBy x l u st) := by
  have hle := Txt.sliceBy_le x l u st h0
  rw [← cpsL_length, ← cpsL_length] at hle
  refine ⟨Nat.le_trans hle h.1, fun c hc => h.2 c ?_⟩
  unfold Txt.sliceBy at hc
  split at hc
  · exact hc
  · exact picked_mem c hc
theorem okT_enc {b : Array UInt8} (hb : b.size ≤ 16) : okT 38 (encB b) := ⟨encB_short hb, good_codes (encB_good b)⟩
theorem okT_size {n : Nat} {x : PySem.Str} (h : okT n x) : x.cps.size ≤ n := by
  have := h.1
  rwa [Array.length_toList] at this
/-- texts of one small sign each, at most 14 -/
def Sg14 (ys : List Value) : Prop := ∃ l : List Nat, l.length ≤ 14 ∧ StrsAre ys (l.map fun k => (⟨#[k]⟩ : PySem.Str)) ∧ ∀ k ∈ l, k < 128
def TxEl (news : List (Addr × Obj)) (y : Value) (news' : List (Addr × Obj)) : Prop := news' = news ∧ ∃ k t, y = .str ⟨#[k]⟩ t ∧ k < 128
theorem item_small {S : PySem.Str} {n : Nat} (hs : (List.range n).all (fun j => match (Txt.item S (j : Int)).cps with | ⟨[k]⟩ => decide (k < 128) | _ => false) = true) {i : Int} (h0 : 0 ≤ i) (h1 : i < n) : ∃ k, Txt.item S i = ⟨#[k]⟩ ∧ k < 128 := by
  obtain ⟨j, rfl⟩ := Int.eq_ofNat_of_zero_le h0
  have hj : j < n := by omega
  have h2 := List.all_eq_true.mp hs j (List.mem_range.mpr hj)
  rcases hc : Txt.item S ((j : Nat) : Int) with ⟨⟨l⟩⟩
  rw [hc] at h2
  match l, h2 with
  | [k], h2 => exact ⟨k, rfl, by simpa using h2⟩
theorem item63 {i : Int} (h0 : 0 ≤ i) (h1 : i < 63) : ∃ k, Txt.item (PySem.Str.ofString "123456789ABCDEFGHJKLMNPQRSTUVWXYZabcdefghijkmnopqrstuvwxyz0OIl ") i = ⟨#[k]⟩ ∧ k < 128 := item_small (n := 63) (by decide +kernel) h0 h1
theorem item59 {i : Int} (h0 : 0 ≤ i) (h1 : i < 59) : ∃ k, Txt.item (PySem.Str.ofString "123456789ABCDEFGHJKLMNPQRSTUVWXYZabcdefghijkmnopqrstuvwxyz0") i = ⟨#[k]⟩ ∧ k < 128 := item_small (n := 59) (by decide +kernel) h0 h1
theorem fm_lo (a : Int) {c : Int} (h : 0 < c) : 0 ≤ a.fmod c := by rw [Int.fmod_eq_emod_of_nonneg _ (by omega)]; exact Int.emod_nonneg _ (by omega)
theorem fm_hi (a : Int) {c : Int} (h : 0 < c) : a.fmod c < c := by rw [Int.fmod_eq_emod_of_nonneg _ (by omega)]; exact Int.emod_lt_of_pos _ h
theorem tx58 {news : List (Addr × Obj)} {k : Int} {t : Tok} : TxEl news (.str (Txt.item (PySem.Str.ofString "123456789ABCDEFGHJKLMNPQRSTUVWXYZabcdefghijkmnopqrstuvwxyz0OIl ") (k.fmod 58)) t) news := by
  obtain ⟨c, hc, h⟩ := item63 (fm_lo k (c := 58) (by decide)) (by have := fm_hi k (c := 58) (by decide); omega)
  rw [hc]
  exact ⟨rfl, c, t, rfl, h⟩
theorem tx63 {news : List (Addr × Obj)} {k : Int} {t : Tok} : TxEl news (.str (Txt.item (PySem.Str.ofString "123456789ABCDEFGHJKLMNPQRSTUVWXYZabcdefghijkmnopqrstuvwxyz0OIl ") (k.fmod 63)) t) news := by
  obtain ⟨c, hc, h⟩ := item63 (fm_lo k (c := 63) (by decide)) (fm_hi k (c := 63) (by decide))
  rw [hc]
  exact ⟨rfl, c, t, rfl, h⟩
section
variable {prog : Program} {w : World} {A : Around} {h₀ : Heap} {L : Addr} {m : Str → Option Value} {env : Env} {elt : Expr} {x : Str} {scope : Scope} {cl : List (Str × Addr)} {s : Shared} {S : List (Addr × Obj) → Prop} {Fin : List Value → List (Addr × Obj) → Prop} {news : List (Addr × Obj)}
theorem tx_list {vs : List Value} {f : Int → Int} {ws : List Int} (hi : IntsAre vs (List.map f (List.take 14 ws)))
    (turn : ∀ k t I oI C oC D m₂ ys h tk (E' : Value → Shared → Prop), LCg.NsObj oC m₂ → m₂ x = some (.int k t) → Fr h₀ L h m → News h₀ L h ((I, oI) :: (C, oC) :: (D, LCg.lst ys) :: news) → LCg.Off3 I C D news → ((@Ne Nat I C) ∧ (@Ne Nat I D) ∧ (@Ne Nat C D)) → KPfMark →
      wpAny (model prog w) A (eval elt (compEnvC scope cl C env)) (LCg.CompEnd h₀ L m { s with heap := h, toks := tk } I oI C oC D (LCg.lst ys) S (fun y news' => TxEl news y news')) E' { s with heap := h, toks := tk })
    (fin : KPfDone (∀ ys, Sg14 ys → Fin ys news)) : LCg.CompRest prog w A h₀ L m env elt x scope cl s S (fun i v => vs.toArray[i]? = some v) Fin vs.toArray.size 0 [] news := by
  unfold KPfDone at fin
  have hlen : vs.length ≤ 14 := by
    rw [hi.length, List.length_map, List.length_take]
    omega
  have key : ∀ (j i : Nat) (ys : List Value) (l : List Nat), i + j = vs.length → l.length = i → StrsAre ys (l.map fun k => (⟨#[k]⟩ : PySem.Str)) → (∀ k ∈ l, k < 128) → LCg.CompRest prog w A h₀ L m env elt x scope cl s S (fun i v => vs.toArray[i]? = some v) Fin j i ys news := by
    intro j
    induction j with
    | zero =>
      intro i ys l hi' hl hy hk
      exact LCg.CompRest.zero (fin ys ⟨l, by omega, hy, hk⟩)
    | succ j ih =>
      intro i ys l hi' hl hy hk
      refine LCg.CompRest.succ ?_
      intro v I oI C oC D m₂ h tk E' hv hC hx F N off ne
      obtain ⟨k, t, e, _⟩ := IntsAre.at hi i v (by simpa using hv)
      rw [e] at hx
      refine wpAny_mono (turn k t I oI C oC D m₂ ys h tk E' hC hx F N off ne True.intro) (fun y s₂ hq => ?_) fun _ _ e => e
      obtain ⟨h', tk', nw, e, F', N', off', hS, hn, c, t', hy', hc⟩ := hq
      rw [hn] at N' off' hS
      refine ⟨h', tk', news, e, F', N', off', hS, ?_⟩
      rw [hy']
      refine ih (i + 1) _ (l ++ [c]) (by omega) (by rw [List.length_append, hl]; rfl) ?_ fun d hd => ?_
      · rw [List.map_append]
        exact kct_snoc hy
      · rcases List.mem_append.mp hd with h1 | h1
        · exact hk d h1
        · rw [List.mem_singleton.mp h1]; exact hc
  rw [List.size_toArray]
  exact key vs.length 0 [] [] (by omega) rfl (by exact .nil) (fun _ h => by cases h)
end
theorem join_ones_go : ∀ (l : List Nat) (acc : Array Nat), ((l.map fun k => (⟨#[k]⟩ : PySem.Str)).foldl (fun (acc : Array Nat) (p : PySem.Str) => acc ++ (PySem.Str.ofString "").cps ++ p.cps) acc) = acc ++ l.toArray
  | [], acc => by simp
  | d :: l, acc => by
    rw [List.map_cons, List.foldl_cons, join_ones_go l]
    have e : (PySem.Str.ofString "").cps = #[] := by decide +kernel
    rw [e]
    apply Array.toList_inj.mp
    simp
theorem join_ones (l : List Nat) : Txt.join (PySem.Str.ofString "") (l.map fun k => (⟨#[k]⟩ : PySem.Str)) = txt l := by
  cases l with
  | nil => rfl
  | cons d l =>
    show PySem.Str.mk (((l.map fun k => (⟨#[k]⟩ : PySem.Str))).foldl _ (#[d])) = _
    rw [join_ones_go]
    unfold txt
    congr 1
    apply Array.toList_inj.mp
    simp
section
variable {prog : Program} {w : World} {A : Around} {E : Value → Shared → Prop} {s : Shared} {h₀ : Heap} {L : Addr} {m : PySem.Str → Option Value} {news : List (Addr × Obj)}
theorem join_sg {t : Tok} {D : Addr} {ys : List Value} {c : Nat} {Q : Value → Shared → Prop} (N : News h₀ L s.heap news) (hl : (D, ({ cls := .type "list", data := .seq ys.toArray c } : Obj)) ∈ news) (hs : Sg14 ys) (h : ∀ x t' k, okT 14 x → Q (.str x t') { s with toks := k }) :
    wpAny (model prog w) A (call (.builtin "str.join") [.str (PySem.Str.ofString "") t, .ref D]) Q E s := by
  obtain ⟨l, hlen, hy, hk⟩ := hs
  refine join_list (News.isList N hl) (items := ys.toArray) (by simpa using hy) ?_ fun t' k => ?_
  · have e : ((l.map fun k => (⟨#[k]⟩ : PySem.Str)).map (·.length)).sum = l.length := by
      clear hlen hy hk
      induction l with
      | nil => rfl
      | cons d l ih =>
        rw [List.map_cons, List.map_cons, List.sum_cons, ih, List.length_cons]
        show 1 + l.length = _
        omega
    rw [e, List.length_map]
    have : (PySem.Str.ofString "").length = 0 := by decide +kernel
    rw [this]
    omega
  · rw [join_ones]
    refine h _ t' k ⟨?_, fun c hc => ?_⟩
    · show l.toArray.toList.length ≤ 14; simpa using hlen
    · have := hk c (by simpa [txt] using hc)
      have e : (16 : Nat) ^ 8 = 4294967296 := by decide
      omega
theorem mul_ones {i : Int} {t u : Tok} {Q : Value → Shared → Prop} (h0 : 0 ≤ i) (h1 : i ≤ 6) (h : ∀ x t' k, okT 6 x → Q (.str x t') { s with toks := k }) : wpAny (model prog w) A (binaryOp .Mult (.str (PySem.Str.ofString "1") t) (.int i u)) Q E s := by
  obtain ⟨n, rfl⟩ := Int.eq_ofNat_of_zero_le h0
  refine mul_one_txt (by omega) fun t' k => h _ t' k ⟨?_, fun c hc => ?_⟩
  · show (List.replicate n 49).toArray.toList.length ≤ 6
    simp; omega
  · have : c = 49 := by
      have h2 : c ∈ List.replicate n 49 := by simpa [txt] using hc
      exact (List.mem_replicate.mp h2).2
    subst this
    decide
theorem mul_ones_mod {a c : Int} {t u : Tok} {Q : Value → Shared → Prop} (hc : 0 < c) (h1 : c ≤ 7) (h : ∀ x t' k, okT 6 x → Q (.str x t') { s with toks := k }) : wpAny (model prog w) A (binaryOp .Mult (.str (PySem.Str.ofString "1") t) (.int (a.fmod c) u)) Q E s :=
  mul_ones (fm_lo a hc) (by have := fm_hi a hc; omega) h
theorem add_any {n k : Nat} {x y : PySem.Str} {t u : Tok} {Q : Value → Shared → Prop} (hx : okT n x) (hy : okT k y) (hz : n + k ≤ 200) (h : ∀ z t' k', okT (n + k) z → Q (.str z t') { s with toks := k' }) : wpAny (model prog w) A (binaryOp .Add (.str x t) (.str y u)) Q E s := by
  refine SB.add (fun t' k' => h _ t' k' (okT_add hx hy)) ?_
  have h1 := hx.1
  have h2 := hy.1
  rw [cpsL_length] at h1 h2
  rw [sizeLine_eq]; omega
theorem item_any {value slice : PySem.Expr} {i : Int} {t u : Tok} {Q : Value → Shared → Prop} (h0 : 0 ≤ i) (h1 : i < 59) (h : ∀ y t' k, okT 1 y → Q (.str y t') { s with toks := k })
    (hs : subscripted slice false (.str (PySem.Str.ofString "123456789ABCDEFGHJKLMNPQRSTUVWXYZabcdefghijkmnopqrstuvwxyz0") t) (.int i u) = operate [.str (PySem.Str.ofString "123456789ABCDEFGHJKLMNPQRSTUVWXYZabcdefghijkmnopqrstuvwxyz0") t, .int i u] (getItem (.str (PySem.Str.ofString "123456789ABCDEFGHJKLMNPQRSTUVWXYZabcdefghijkmnopqrstuvwxyz0") t) (.int i u)) := by with_unfolding_all rfl)
    (ht : ∀ r, letTemporaryGo value (.str (PySem.Str.ofString "123456789ABCDEFGHJKLMNPQRSTUVWXYZabcdefghijkmnopqrstuvwxyz0") t) r = pure () := by intro _; with_unfolding_all rfl) : wpAny (model prog w) A (subscriptTail value slice (.str (PySem.Str.ofString "123456789ABCDEFGHJKLMNPQRSTUVWXYZabcdefghijkmnopqrstuvwxyz0") t) (.int i u)) Q E s := by
  refine KXi.item (n := 59) (by decide) (by omega) (by omega) (by decide) (fun _ => ?_) hs ht
  obtain ⟨c, hc, hk⟩ := item59 h0 h1
  rw [hc]
  refine h _ _ _ ⟨by simp, fun d hd => ?_⟩
  have : d = c := by simpa using hd
  subst this
  have e : (16 : Nat) ^ 8 = 4294967296 := by decide
  omega
theorem len_any {n : Nat} {x : PySem.Str} {t : Tok} {Q : Value → Shared → Prop} (hx : okT n x) (hn : n ≤ 200) (h1 : 1 ≤ x.cps.toList.length) (h : ∀ (k : Nat) t' tk, 1 ≤ k → k ≤ n → Q (.int (k : Int) t') { s with toks := tk }) : wpAny (model prog w) A (call (.builtin "len") [.str x t]) Q E s :=
  len_txt (by have := hx.1; omega) fun t' k => h _ t' k h1 hx.1
theorem len_by {b : Array UInt8} {t : Tok} {Q : Value → Shared → Prop} (hb : b.size ≤ 148) (h : ∀ t' tk, Q (.int (b.size : Int) t') { s with toks := tk }) : wpAny (model prog w) A (call (.builtin "len") [.bytes b t]) Q E s := by
  refine KBw.len_K rfl (by rw [KBw.ints_length]; omega) ?_
  rw [KBw.ints_length]
  exact h _ _
theorem eq_by {b c : Array UInt8} {t u : Tok} {Q : Value → Shared → Prop} (h1 : b = c → Q (.bool true) s) (h0 : ¬ b = c → Q (.bool false) s) : wpAny (model prog w) A (compareOp .Eq (.bytes b t) (.bytes c u)) Q E s := by
  refine eq_bytes ?_
  by_cases e : b = c
  · subst e
    rw [beq_self_eq_true]
    exact h1 rfl
  · have : (b.toList == c.toList) = false := by
      rw [beq_eq_false_iff_ne]
      exact fun h => e (Array.toList_inj.mp h)
    rw [this]
    exact h0 e
variable {value slice : PySem.Expr}
theorem sl_to {n : Nat} {x : PySem.Str} {j : Int} {t uj : Tok} {Q : Value → Shared → Prop} (hx : okT n x) (hn : n ≤ 200) (hF : Fr h₀ L s.heap m) (hN : News h₀ L s.heap news) (h : ∀ y h' t' k, okT n y → Fr h₀ L h' m → News h₀ L h' news → Q (.str y t') { s with heap := h', toks := k })
    (hs : subscripted slice false (.str x t) (.ref s.heap.objs.size) = operate [.ref s.heap.objs.size, .str x t] (getItem (.str x t) (.ref s.heap.objs.size)) := by with_unfolding_all rfl)
    (ht : ∀ r, letTemporaryGo value (.str x t) r = pure () := by intro _; with_unfolding_all rfl) :
    wpAny (model prog w) A (subscriptTail value slice (.str x t) (.ref s.heap.objs.size)) Q E { s with heap := s.heap.push { cls := .type "slice", data := .fields #[.none, .int j uj, .none] } } :=
  slice_strN_ns hF hN (fun h' t' k F' N' => h _ h' t' k (okT_slice hx _ _) F' N') hs ht (by have := hx.1; rw [cpsL_length] at this; rw [sizeLine_eq]; omega)
theorem sl_from {n : Nat} {x : PySem.Str} {j : Int} {t uj : Tok} {Q : Value → Shared → Prop} (hx : okT n x) (hn : n ≤ 200) (hF : Fr h₀ L s.heap m) (hN : News h₀ L s.heap news) (h : ∀ y h' t' k, okT n y → Fr h₀ L h' m → News h₀ L h' news → Q (.str y t') { s with heap := h', toks := k })
    (hs : subscripted slice false (.str x t) (.ref s.heap.objs.size) = operate [.ref s.heap.objs.size, .str x t] (getItem (.str x t) (.ref s.heap.objs.size)) := by with_unfolding_all rfl)
    (ht : ∀ r, letTemporaryGo value (.str x t) r = pure () := by intro _; with_unfolding_all rfl) :
    wpAny (model prog w) A (subscriptTail value slice (.str x t) (.ref s.heap.objs.size)) Q E { s with heap := s.heap.push { cls := .type "slice", data := .fields #[.int j uj, .none, .none] } } :=
  slice_strN_sn hF hN (fun h' t' k F' N' => h _ h' t' k (okT_slice hx _ _) F' N') hs ht (by have := hx.1; rw [cpsL_length] at this; rw [sizeLine_eq]; omega)
theorem sl_back {n : Nat} {x : PySem.Str} {k : Int} {t uj : Tok} {Q : Value → Shared → Prop} (hk : (k == 0) = false) (hx : okT n x) (hn : n ≤ 200) (hF : Fr h₀ L s.heap m) (hN : News h₀ L s.heap news) (h : ∀ y h' t' k, okT n y → Fr h₀ L h' m → News h₀ L h' news → Q (.str y t') { s with heap := h', toks := k })
    (hs : subscripted slice false (.str x t) (.ref s.heap.objs.size) = operate [.ref s.heap.objs.size, .str x t] (getItem (.str x t) (.ref s.heap.objs.size)) := by with_unfolding_all rfl)
    (ht : ∀ r, letTemporaryGo value (.str x t) r = pure () := by intro _; with_unfolding_all rfl) :
    wpAny (model prog w) A (subscriptTail value slice (.str x t) (.ref s.heap.objs.size)) Q E { s with heap := s.heap.push { cls := .type "slice", data := .fields #[.none, .none, .int k uj] } } :=
  slice_strK_nn hF hN hk (fun h' t' c F' N' => h _ h' t' c (okT_by hx _ _ _ (by simpa using hk)) F' N') hs ht (by have := hx.1; rw [cpsL_length] at this; rw [sizeLine_eq]; omega)
end
end Mine
set_option maxHeartbeats 1000000
namespace Mine
theorem okT_both {n : Nat} {x : PySem.Str} (h : okT n x) (hn : n ≤ 85) : x.cps.size ≤ 85 ∧ x.cps.toList.length ≤ 85 := ⟨Nat.le_trans (okT_size h) hn, Nat.le_trans h.1 hn⟩
section
variable {w : World} {mean : ExcName → Option Value} {mg mb : Str → Option Value} {dp un : Nat} {gd : Option (List Code)} {cn : Str} {cs : Scope} {a : Addr} {ccd : Value} {cl : List (Str × Addr)} {A₀ : Around} {h₀ : Heap} {L : Addr} {m : Str → Option Value} {news : List (Addr × Obj)} {s : Shared} {Q E : Value → Shared → Prop}
/-- the text that decodes to these bytes, told again -/
theorem enc_dec_ok {outer : List Env} {base : Heap} (x : PySem.Str) (tb : Tok) (hg : good x.cps.toList) (hz : (decB x).size ≤ 148)
    (B : Below A₀ base outer h₀) (F : Fr h₀ L s.heap m) (X : (Kg w).In h₀) (N : News h₀ L s.heap news) (T : Tp mean mg mb h₀) (hk : cs.kind = .function) (hd : dp + 4 < recursionLimit)
    (hret : ∀ t h' tk', Fr h₀ L h' m → News h₀ L h' news → Q (.str x t) { s with heap := h', toks := tk' }) :
    wpAny (model Pg w) (ktrTop dp un gd cn cs L a ccd cl outer) (call (.ref 106) [.bytes (decB x) tb]) Q E s := by
  refine enc_ok _ _ (by omega) B F X N T hk hd ?_
  rw [encB_decB hg]
  exact hret
theorem told_any {n : Nat} (x : PySem.Str) (tx : Tok) (hx : okT n x) (hn : n ≤ 85)
    (B : Below A₀ h₀ [] h₀) (F : Fr h₀ L s.heap m) (X : (Kg w).In h₀) (N : News h₀ L s.heap news) (T : Tp mean mg mb h₀) (hk : cs.kind = .function) (hd : dp + 8 < recursionLimit)
    (hret : good x.cps.toList → (decB x).size ≤ 148 → ∀ t h' tk', Fr h₀ L h' m → News h₀ L h' news → Q (.bytes (decB x) t) { s with heap := h', toks := tk' })
    (hnone : ¬ good x.cps.toList → ∀ h' tk', Fr h₀ L h' m → News h₀ L h' news → Q .none { s with heap := h', toks := tk' }) :
    wpAny (model Pg w) (ktrTop dp un gd cn cs L a ccd cl []) (call (.ref 148) [.str x tx]) Q E s :=
  told_ok x tx (okT_both hx hn).1 hx.2 (okT_both hx hn).2 B F X N T hk hd (fun hg => hret hg (decB_size (okT_both hx hn).2 hg)) hnone
theorem told_zero (tx : Tok)
    (B : Below A₀ h₀ [] h₀) (F : Fr h₀ L s.heap m) (X : (Kg w).In h₀) (N : News h₀ L s.heap news) (T : Tp mean mg mb h₀) (hk : cs.kind = .function) (hd : dp + 8 < recursionLimit)
    (hnone : ∀ h' tk', Fr h₀ L h' m → News h₀ L h' news → Q .none { s with heap := h', toks := tk' }) :
    wpAny (model Pg w) (ktrTop dp un gd cn cs L a ccd cl []) (call (.ref 148) [.str (PySem.Str.ofString "0") tx]) Q E s :=
  told_any (n := 1) _ tx (okT_lit (by decide +kernel)) (by decide) B F X N T hk hd (fun hg => absurd hg (by decide +kernel)) fun _ => hnone
theorem read_any {n : Nat} (x : PySem.Str) (tx : Tok) (hx : okT n x) (hn : n ≤ 85) {outer : List Env} {base : Heap}
    (B : Below A₀ base outer h₀) (F : Fr h₀ L s.heap m) (X : (Kg w).In h₀) (N : News h₀ L s.heap news) (T : Tp mean mg mb h₀) (hk : cs.kind = .function) (hd : dp + 4 < recursionLimit)
    (hret : good x.cps.toList → (decB x).size ≤ 148 → ∀ t h' tk', Fr h₀ L h' m → News h₀ L h' news → Q (.bytes (decB x) t) { s with heap := h', toks := tk' })
    (hnone : ¬ good x.cps.toList → ∀ h' tk', Fr h₀ L h' m → News h₀ L h' news → Q .none { s with heap := h', toks := tk' }) :
    wpAny (model Pg w) (ktrTop dp un gd cn cs L a ccd cl outer) (call (.ref 141) [.str x tx]) Q E s :=
  read_ok x tx (okT_both hx hn).1 (okT_both hx hn).2 B F X N T hk hd (fun hg => hret hg (decB_size (okT_both hx hn).2 hg)) hnone
theorem read_yes {n : Nat} (x : PySem.Str) (tx : Tok) (hx : okT n x) (hn : n ≤ 85) (hg : good x.cps.toList) {outer : List Env} {base : Heap}
    (B : Below A₀ base outer h₀) (F : Fr h₀ L s.heap m) (X : (Kg w).In h₀) (N : News h₀ L s.heap news) (T : Tp mean mg mb h₀) (hk : cs.kind = .function) (hd : dp + 4 < recursionLimit)
    (hret : ∀ t h' tk', Fr h₀ L h' m → News h₀ L h' news → Q (.bytes (decB x) t) { s with heap := h', toks := tk' }) :
    wpAny (model Pg w) (ktrTop dp un gd cn cs L a ccd cl outer) (call (.ref 141) [.str x tx]) Q E s :=
  read_any x tx hx hn B F X N T hk hd (fun _ _ => hret) fun h => absurd hg h
theorem read_no {n : Nat} (x : PySem.Str) (tx : Tok) (hx : okT n x) (hn : n ≤ 85) (hg : ¬ good x.cps.toList) {outer : List Env} {base : Heap}
    (B : Below A₀ base outer h₀) (F : Fr h₀ L s.heap m) (X : (Kg w).In h₀) (N : News h₀ L s.heap news) (T : Tp mean mg mb h₀) (hk : cs.kind = .function) (hd : dp + 4 < recursionLimit)
    (hnone : ∀ h' tk', Fr h₀ L h' m → News h₀ L h' news → Q .none { s with heap := h', toks := tk' }) :
    wpAny (model Pg w) (ktrTop dp un gd cn cs L a ccd cl outer) (call (.ref 141) [.str x tx]) Q E s :=
  read_any x tx hx hn B F X N T hk hd (fun h => absurd h hg) fun _ => hnone
theorem chk_yes {n : Nat} (x : PySem.Str) (tx : Tok) (hx : okT n x) (hn : n ≤ 85) (hc : chk x)
    (B : Below A₀ h₀ [] h₀) (F : Fr h₀ L s.heap m) (X : (Kg w).In h₀) (N : News h₀ L s.heap news) (T : Tp mean mg mb h₀) (hk : cs.kind = .function) (hd : dp + 16 < recursionLimit)
    (hret : ∀ t h' tk', Fr h₀ L h' m → News h₀ L h' news → Q (.bytes (but4 (decB x)) t) { s with heap := h', toks := tk' }) :
    wpAny (model Pg w) (ktrTop dp un gd cn cs L a ccd cl []) (call (.ref 155) [.str x tx]) Q E s :=
  checked_ok x tx (okT_both hx hn).1 hx.2 (okT_both hx hn).2 B F X N T hk hd (fun _ => hret) fun h => absurd hc h
theorem chk_no {n : Nat} (x : PySem.Str) (tx : Tok) (hx : okT n x) (hn : n ≤ 85) (hc : ¬ chk x)
    (B : Below A₀ h₀ [] h₀) (F : Fr h₀ L s.heap m) (X : (Kg w).In h₀) (N : News h₀ L s.heap news) (T : Tp mean mg mb h₀) (hk : cs.kind = .function) (hd : dp + 16 < recursionLimit)
    (hnone : ∀ h' tk', Fr h₀ L h' m → News h₀ L h' news → Q .none { s with heap := h', toks := tk' }) :
    wpAny (model Pg w) (ktrTop dp un gd cn cs L a ccd cl []) (call (.ref 155) [.str x tx]) Q E s :=
  checked_ok x tx (okT_both hx hn).1 hx.2 (okT_both hx hn).2 B F X N T hk hd (fun h => absurd h hc) fun _ => hnone
theorem no_bad {x : PySem.Str} (h : ¬ good x.cps.toList) : ¬ chk x := fun c => h c.1
theorem no_short {x : PySem.Str} (h : ¬ (4 : Int) ≤ ((decB x).size : Int)) : ¬ chk x := fun c => h (by have := chk_four c; omega)
theorem no_sum {x : PySem.Str} (h : ¬ fst4 (dsha (but4 (decB x))) = lst4 (decB x)) : ¬ chk x := fun c => h c.2.symm
theorem yes_sum {x : PySem.Str} (hg : good x.cps.toList) (h : fst4 (dsha (but4 (decB x))) = lst4 (decB x)) : chk x := ⟨hg, h.symm⟩
end
end Mine
set_option maxHeartbeats 20000000
namespace Mine
def IntPost (s : Shared) (v : Value) (s' : Shared) : Prop := ∃ k t tk, v = .int k t ∧ s' = { s with toks := tk }
theorem int_post {s : Shared} {k : Int} {t : Tok} {tk : Nat} : IntPost s (.int k t) { s with toks := tk } := ⟨k, t, tk, rfl, rfl⟩
/-- a value that is an int on each way: the ways meet -/
theorem int_cut {M : Model} {A : Around} {e : Expr} {env : Env} {Q E : Value → Shared → Prop} {s : Shared} (h1 : wpAny M A (eval e env) (IntPost s) E s) (h2 : ∀ k t tk, Q (.int k t) { s with toks := tk }) : wpAny M A (eval e env) Q E s :=
  wpAny_mono h1 (fun v s' hq => by obtain ⟨k, t, tk, rfl, rfl⟩ := hq; exact h2 k t tk) fun _ _ e => e
local macro_rules | `(tactic| k_room) => `(tactic| ktr_room)
local macro_rules | `(tactic| k_mem) => `(tactic| first | with_reducible exact List.mem_cons_self .. | ((with_reducible refine List.mem_cons_of_mem _ ?_); k_mem))
local macro_rules | `(tactic| walk_at "call ref") => `(tactic| (k_here; (try ((rename KBa.In _ => kin); (obtain ⟨ob, hob, hsz⟩ := oct_ex kin); (rename Fr _ _ _ _ => lF); (rw [hob] at lF ⊢); (clear kin hob))); first | ((with_reducible show wpAny _ _ (call (Value.ref 106) [Value.bytes (decB _) _]) _ _ _); k_dflt (refine' enc_dec_ok _ _ ?p0 ?p1 ?k1 ?k2 ?k3 ?k4 ?k5 ?kK ?kd ?_; (case p0 => assumption); (case p1 => assumption); (case k1 => k_asm); (case k2 => k_asm); (case k3 => k_asm); (case k4 => k_asm); (case k5 => k_asm); (case kK => first | exact rfl | assumption); (case kd => k_dflt (first | ktr_room | decide | exact Nat.lt_of_sub_pos (by decide)))); intro t h' tk' F' N') | ((with_reducible show wpAny _ _ (call (Value.ref 106) [Value.bytes _ _]) _ _ _); k_dflt (refine' enc_ok _ _ ?p0 ?k1 ?k2 ?k3 ?k4 ?k5 ?kK ?kd ?_; (case p0 => (first | assumption | omega | ((simp only [Array.size_append]); omega))); (case k1 => k_asm); (case k2 => k_asm); (case k3 => k_asm); (case k4 => k_asm); (case k5 => k_asm); (case kK => first | exact rfl | assumption); (case kd => k_dflt (first | ktr_room | decide | exact Nat.lt_of_sub_pos (by decide)))); intro t h' tk' F' N') | ((with_reducible show wpAny _ _ (call (Value.ref 134) [Value.bytes _ _]) _ _ _); k_dflt (refine' signs_ok _ _ ?p0 ?k1 ?k2 ?k3 ?k4 ?k5 ?kK ?kd ?hu ?_; (case p0 => (first | assumption | omega | ((simp only [Array.size_append]); omega))); (case k1 => k_asm); (case k2 => k_asm); (case k3 => k_asm); (case k4 => k_asm); (case k5 => k_asm); (case kK => first | exact rfl | assumption); (case kd => k_dflt (first | ktr_room | decide | exact Nat.lt_of_sub_pos (by decide))); (case hu => k_dflt (first | assumption | decide | exact Nat.lt_of_sub_pos (by decide)))); intro t h' tk' F' N') | ((with_reducible show wpAny _ _ (call (Value.ref 99) [Value.bytes _ _]) _ _ _); k_dflt (refine' dsha_ok _ _ ?p0 ?k1 ?k2 ?k3 ?k4 ?k5 ?kK ?kd ?_; (case p0 => (first | assumption | omega | ((simp only [Array.size_append]); omega))); (case k1 => k_asm); (case k2 => k_asm); (case k3 => k_asm); (case k4 => k_asm); (case k5 => k_asm); (case kK => first | exact rfl | assumption); (case kd => k_dflt (first | ktr_room | decide | exact Nat.lt_of_sub_pos (by decide)))); intro t h' tk' F' N') | ((with_reducible show wpAny _ _ (call (Value.ref 120) [Value.bytes _ _]) _ _ _); k_dflt (refine' ench_ok _ _ ?p0 ?k1 ?k2 ?k3 ?k4 ?k5 ?kK ?kd ?_; (case p0 => (first | assumption | omega | ((simp only [Array.size_append]); omega))); (case k1 => k_asm); (case k2 => k_asm); (case k3 => k_asm); (case k4 => k_asm); (case k5 => k_asm); (case kK => first | exact rfl | assumption); (case kd => k_dflt (first | ktr_room | decide | exact Nat.lt_of_sub_pos (by decide)))); intro t h' tk' F' N') | ((with_reducible show wpAny _ _ (call (Value.ref 113) [Value.str (encB _) _]) _ _ _); k_dflt (refine' dec_enc_ok _ _ ?p0 ?k1 ?k2 ?k3 ?k4 ?k5 ?kK ?kd ?_; (case p0 => (first | assumption | omega | ((simp only [Array.size_append]); omega))); (case k1 => k_asm); (case k2 => k_asm); (case k3 => k_asm); (case k4 => k_asm); (case k5 => k_asm); (case kK => first | exact rfl | assumption); (case kd => k_dflt (first | ktr_room | decide | exact Nat.lt_of_sub_pos (by decide)))); intro t h' tk' F' N') | ((with_reducible show wpAny _ _ (call (Value.ref 127) [Value.str (encB _) _]) _ _ _); k_dflt (refine' dech_enc_ok _ _ ?p0 ?k1 ?k2 ?k3 ?k4 ?k5 ?kK ?kd ?_; (case p0 => (first | assumption | omega | ((simp only [Array.size_append]); omega))); (case k1 => k_asm); (case k2 => k_asm); (case k3 => k_asm); (case k4 => k_asm); (case k5 => k_asm); (case kK => first | exact rfl | assumption); (case kd => k_dflt (first | ktr_room | decide | exact Nat.lt_of_sub_pos (by decide)))); intro t h' tk' F' N') | ((with_reducible show wpAny _ _ (call (Value.ref 148) [Value.str (PySem.Str.ofString _) _]) _ _ _); k_dflt (refine' told_zero _  ?k1 ?k2 ?k3 ?k4 ?k5 ?kK ?kd ?_; (case k1 => k_asm); (case k2 => k_asm); (case k3 => k_asm); (case k4 => k_asm); (case k5 => k_asm); (case kK => first | exact rfl | assumption); (case kd => k_dflt (first | ktr_room | decide | exact Nat.lt_of_sub_pos (by decide)))); intro h' tk' F' N') | ((with_reducible show wpAny _ _ (call (Value.ref 148) [Value.str _ _]) _ _ _); k_dflt (refine' told_any _ _ ?p0 ?p1 ?k1 ?k2 ?k3 ?k4 ?k5 ?kK ?kd ?_ ?_; (case p0 => assumption); (case p1 => decide); (case k1 => k_asm); (case k2 => k_asm); (case k3 => k_asm); (case k4 => k_asm); (case k5 => k_asm); (case kK => first | exact rfl | assumption); (case kd => k_dflt (first | ktr_room | decide | exact Nat.lt_of_sub_pos (by decide)))); rotate_left; (intro hng h' tk' F' N'); rotate_left; (intro hg hbz t h' tk' F' N')) | ((with_reducible show wpAny _ _ (call (Value.ref 141) [Value.str _ _]) _ _ _); k_dflt (refine' read_yes _ _ ?p0 ?p1 ?p2 ?k1 ?k2 ?k3 ?k4 ?k5 ?kK ?kd ?_; (case p0 => assumption); (case p1 => decide); (case p2 => assumption); (case k1 => k_asm); (case k2 => k_asm); (case k3 => k_asm); (case k4 => k_asm); (case k5 => k_asm); (case kK => first | exact rfl | assumption); (case kd => k_dflt (first | ktr_room | decide | exact Nat.lt_of_sub_pos (by decide)))); intro t h' tk' F' N') | ((with_reducible show wpAny _ _ (call (Value.ref 141) [Value.str _ _]) _ _ _); k_dflt (refine' read_no _ _ ?p0 ?p1 ?p2 ?k1 ?k2 ?k3 ?k4 ?k5 ?kK ?kd ?_; (case p0 => assumption); (case p1 => decide); (case p2 => assumption); (case k1 => k_asm); (case k2 => k_asm); (case k3 => k_asm); (case k4 => k_asm); (case k5 => k_asm); (case kK => first | exact rfl | assumption); (case kd => k_dflt (first | ktr_room | decide | exact Nat.lt_of_sub_pos (by decide)))); intro h' tk' F' N') | ((with_reducible show wpAny _ _ (call (Value.ref 141) [Value.str _ _]) _ _ _); k_dflt (refine' read_any _ _ ?p0 ?p1 ?k1 ?k2 ?k3 ?k4 ?k5 ?kK ?kd ?_ ?_; (case p0 => assumption); (case p1 => decide); (case k1 => k_asm); (case k2 => k_asm); (case k3 => k_asm); (case k4 => k_asm); (case k5 => k_asm); (case kK => first | exact rfl | assumption); (case kd => k_dflt (first | ktr_room | decide | exact Nat.lt_of_sub_pos (by decide)))); rotate_left; (intro hng h' tk' F' N'); rotate_left; (intro hg hbz t h' tk' F' N')) | ((with_reducible show wpAny _ _ (call (Value.ref 155) [Value.str _ _]) _ _ _); k_dflt (refine' chk_yes _ _ ?p0 ?p1 ?p2 ?k1 ?k2 ?k3 ?k4 ?k5 ?kK ?kd ?_; (case p0 => assumption); (case p1 => decide); (case p2 => (exact yes_sum (by assumption) (by assumption))); (case k1 => k_asm); (case k2 => k_asm); (case k3 => k_asm); (case k4 => k_asm); (case k5 => k_asm); (case kK => first | exact rfl | assumption); (case kd => k_dflt (first | ktr_room | decide | exact Nat.lt_of_sub_pos (by decide)))); intro t h' tk' F' N') | ((with_reducible show wpAny _ _ (call (Value.ref 155) [Value.str _ _]) _ _ _); k_dflt (refine' chk_no _ _ ?p0 ?p1 ?p2 ?k1 ?k2 ?k3 ?k4 ?k5 ?kK ?kd ?_; (case p0 => assumption); (case p1 => decide); (case p2 => (first | exact no_bad (by assumption) | exact no_sum (by assumption) | exact no_short (by assumption) | exact no_short (by omega))); (case k1 => k_asm); (case k2 => k_asm); (case k3 => k_asm); (case k4 => k_asm); (case k5 => k_asm); (case kK => first | exact rfl | assumption); (case kd => k_dflt (first | ktr_room | decide | exact Nat.lt_of_sub_pos (by decide)))); intro h' tk' F' N')))
local macro_rules | `(tactic| walk_at "compareOp NotEq str str") => `(tactic| (k_here; (with_reducible refine ne_self_str ?_)))
local macro_rules | `(tactic| walk_at "compareOp NotEq bytes bytes") => `(tactic| (k_here; (with_reducible refine ne_self_bytes ?_)))
local macro_rules | `(tactic| walk_at "binaryOp Add bytes bytes") => `(tactic| (k_here; (refine KBy.add_bytes (by omega) ?_); intro _ _))
local macro_rules | `(tactic| walk_at "compareOp Eq bytes bytes") => `(tactic| (k_here; (refine eq_by ?_ ?_); (all_goals intro _)))
local macro_rules | `(tactic| walk_at "CompSrc") => `(tactic| (k_here; (rename (Array.size _ ≤ 12) => hx12); (try k_fmods); k_dflt (refine LCg.CompSrc.ledger (by rfl) (by k_asm) (by k_asm) (by k_mem) (by kcf_size) ?_; intro g'; (refine' tx_list (by assumption) (fun k' t' I' oI' C' oC' D' m' ys' h' tk' E' hC' hx' F' N' off' ne' hMark' => ?_) ?_); (all_goals (try (simp only [LCg.Off3, and_true] at off'))); kcf_last)))
local macro_rules | `(tactic| walk_at "CompEnd") => `(tactic| (goal_has Mine.TxEl; k_dflt ((refine' LCg.CompEnd.intro (by assumption) (by assumption) _ ?sub ?off ?hS ?el); (case el => first | (with_reducible exact tx58) | (with_reducible exact tx63) | exact tx58 | exact tx63); (case sub => kcf_all); (case off => first | assumption | (simp only [LCg.Off3, and_true]; done) | (simp only [LCg.Off3, and_true]; assumption)); (case hS => first | lcg_src | assumption))))
local macro_rules | `(tactic| walk_at "call builtin:str.join") => `(tactic| (k_here; k_dflt (refine' join_sg ?j1 ?j2 ?j3 ?_; (case j1 => k_asm); (case j2 => k_mem); (case j3 => assumption)); intro x' t' k' hx'))
local macro_rules | `(tactic| walk_at "binaryOp Mult str int") => `(tactic| (k_here; first | ((with_reducible refine mul_ones_mod ?_ ?_ ?_); (· decide); (· decide); intro x' t' k' hx') | ((refine mul_ones ?_ ?_ ?_); (· first | decide | omega); (· first | decide | omega); intro x' t' k' hx')))
local macro_rules | `(tactic| walk_at "binaryOp Add str str") => `(tactic| (k_here; (refine add_any (by (first | assumption | exact okT_enc (by first | assumption | omega | ((simp only [Array.size_append]); omega)) | exact okT_lit (n := 1) (by decide +kernel))) (by (first | assumption | exact okT_enc (by first | assumption | omega | ((simp only [Array.size_append]); omega)) | exact okT_lit (n := 1) (by decide +kernel))) (by decide) ?_); intro x' t' k' hx'))
local macro_rules | `(tactic| walk_at "call builtin:len") => `(tactic| (k_here; first | ((with_reducible show wpAny _ _ (call (Value.builtin "len") [Value.bytes _ _]) _ _ _); (refine len_by (by assumption) ?_); intro _ _) | ((with_reducible show wpAny _ _ (call (Value.builtin "len") [Value.str _ _]) _ _ _); (refine len_any (by (first | assumption | exact okT_enc (by first | assumption | omega | ((simp only [Array.size_append]); omega)) | exact okT_lit (n := 1) (by decide +kernel))) (by decide) (by exact encB_pos _) ?_); intro _ _ _ _ _)))
local macro_rules | `(tactic| walk_at "subscriptTail") => `(tactic| (k_here; (with_reducible show wpAny _ _ (subscriptTail _ (Expr.Slice _ _ none _) (Value.bytes _ _) (Value.ref _)) _ _ _); (with_reducible rename Fr _ _ _ _ => F'); (with_reducible rename News _ _ _ _ => N'); k_dflt (first | refine sl_04 (s := ⟨_, _, _, _, _⟩) F' N' (by first | omega | (rw [dsha_size]; decide)) ?_ | refine sl_n4 (s := ⟨_, _, _, _, _⟩) F' N' (by first | omega | (rw [dsha_size]; decide)) ?_ | refine sl_nm (s := ⟨_, _, _, _, _⟩) F' N' (by first | omega | (rw [dsha_size]; decide)) ?_ | refine sl_mn (s := ⟨_, _, _, _, _⟩) F' N' (by first | omega | (rw [dsha_size]; decide)) ?_); intro _ _ _ _ _ hsz1))
local macro_rules | `(tactic| walk_at "subscriptTail") => `(tactic| (k_here; (with_reducible show wpAny _ _ (subscriptTail _ (Expr.Slice _ _ _ _) (Value.str _ _) (Value.ref _)) _ _ _); (with_reducible rename Fr _ _ _ _ => F'); (with_reducible rename News _ _ _ _ => N'); k_dflt (first | refine sl_to (s := ⟨_, _, _, _, _⟩) (by (first | assumption | exact okT_enc (by first | assumption | omega | ((simp only [Array.size_append]); omega)) | exact okT_lit (n := 1) (by decide +kernel))) (by decide) F' N' ?_ | refine sl_from (s := ⟨_, _, _, _, _⟩) (by (first | assumption | exact okT_enc (by first | assumption | omega | ((simp only [Array.size_append]); omega)) | exact okT_lit (n := 1) (by decide +kernel))) (by decide) F' N' ?_ | refine sl_back (s := ⟨_, _, _, _, _⟩) (by decide) (by (first | assumption | exact okT_enc (by first | assumption | omega | ((simp only [Array.size_append]); omega)) | exact okT_lit (n := 1) (by decide +kernel))) (by decide) F' N' ?_); intro y' _ _ _ hy' _ _))
local macro_rules | `(tactic| walk_at "subscriptTail") => `(tactic| (k_here; (with_reducible show wpAny _ _ (subscriptTail _ _ (Value.str _ _) (Value.int _ _)) _ _ _); (with_reducible refine item_any ?_ ?_ ?_); (· first | exact fm_lo _ (by decide) | omega | decide); (· first | exact fm_hi _ (by decide) | omega | decide); intro y' _ _ hy'))
local macro_rules | `(tactic| walk_at "exec For Name Name cons nil") => `(tactic| (k_here; (rename Fr _ _ _ _ => lF'); (with_unfolding_all refine' For_invVF lF' ?u3k1 ?u3k2 ?_; (case u3k1 => exact rfl); (case u3k2 => exact rfl); k_whole)))
local macro_rules | `(tactic| walk_at "exec For") => `(tactic| (k_here; (rename Fr _ _ _ _ => lF'); (with_unfolding_all refine' For_invVF lF' ?u3k1 ?u3k2 ?_; (case u3k1 => exact rfl); (case u3k2 => exact rfl); k_whole)))
local macro_rules | `(tactic| walk_at "exec For Name Tuple cons nil") => `(tactic| (k_here; (rename Fr _ _ _ _ => lF'); (with_unfolding_all refine' For_invVF lF' ?u3k1 ?u3k2 ?_; (case u3k1 => exact rfl); (case u3k2 => exact rfl); k_whole)))
local macro_rules | `(tactic| walk_at "pyIter ref") => `(tactic| (k_here; (with_reducible show wpAny _ _ (pyIter (Value.ref _)) (fun it s₂ => LoopAtV _ _ _ _ _ _ _ _ _ it s₂) _ _); (rename Fr _ _ _ _ => lF); (rename News _ _ _ _ => lN); first | ((with_reducible show wpAny _ _ _ (fun it s₂ => LoopAtV _ _ _ _ _ (PySem.Str.ofString "text") _ _ _ it s₂) _ _); ((refine' tu_for (P := okT 85) (PySem.Str.ofString "found") (PySem.Str.ofString "found") (by rfl) ?tm ?tx lF lN ?_ ?_); (case tm => k_mem); (case tx => (repeat (first | exact Texts.nil | (refine Texts.cons ?_ ?_; (focus first | exact okT_mono (by assumption) (by decide) | exact okT_lit (by decide +kernel)))))); (all_goals clear lF lN); (rotate_left); (intro u1 h1 tk1 F1 N1; (try k_fold)); (rotate_left); (intro u1 x1 t1 h1 tk1 own1 hx1 F1 N1; (try k_fold)))) | ((refine' tu_for (P := okT 85) (PySem.Str.ofString "read") (PySem.Str.ofString "due") (by rfl) ?tm ?tx lF lN ?_ ?_); (case tm => k_mem); (case tx => (repeat (first | exact Texts.nil | (refine Texts.cons ?_ ?_; (focus first | exact okT_mono (by assumption) (by decide) | exact okT_lit (by decide +kernel)))))); (all_goals clear lF lN); (rotate_left); (intro u1 h1 tk1 F1 N1; (try k_fold)); (rotate_left); (intro u1 x1 t1 h1 tk1 own1 hx1 F1 N1; (try k_fold)))))
local macro_rules | `(tactic| walk_at "TuPost") => `(tactic| (k_here; (rename Fr _ _ _ _ => lF); (rename News _ _ _ _ => lN); k_dflt (refine' tu_next (h₀ := _) (L := _) (s := _) (m₀ := _) (m' := _) (need := _) lF lN ?tu1 ?tu2; (case tu1 => first | exact fun _ h => h | kcj_all); (case tu2 => intro z h1 h2 h3; simp [h1, h2, h3]))))
local macro_rules | `(tactic| walk_at "eval IfExp") => `(tactic| (k_here; (with_reducible show wpAny _ _ (eval (Expr.IfExp (Expr.Name (PySem.Str.ofString "numbers") _) _ _ _) _) _ _ _); (fail_if_success (with_reducible show wpAny _ _ _ (IntPost _) _ _)); (refine int_cut ?_ ?_); rotate_left; (intro hd' th' kh'); rotate_left))
local macro_rules | `(tactic| walk_at "IntPost") => `(tactic| (exact int_post))
theorem law_try : PySem.Challenge.rw_ci0002_01.Holds := by
  refine Mine.hd ?_
  k_go0
  (all_goals try k_fold)
  k_steps
end Mine
theorem PySem.Challenge.cw_ci0002_01_holds : PySem.Challenge.rw_ci0002_01.Holds := by
  exact Mine.law_try
