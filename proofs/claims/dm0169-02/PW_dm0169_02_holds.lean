import PyProof.Rows.All
import Wide.All
import OpenK.AllK
import Wide.FinOn
import PySem.Challenge.RW_dm0169_02
open PySem PySem.W PyProof.Rows
set_option Elab.async false
set_option maxRecDepth 100000
set_option maxHeartbeats 8000000
set_option linter.all false
namespace Mine
open_top hd2 for PySem.Challenge.rw_dm0169_02
end Mine
-- part MB
namespace Mine

/-- the word of a number, as the numbers of its letters (f: steps at most) -/
def apF : Nat → Nat → List Int
  | 0, _ => []
  | f + 1, n => if n = 0 then [] else apF f (n / 16) ++ [65 + ((n % 16 : Nat) : Int)]
def apI (n : Nat) : List Int := apF n n
/-- a word's count -/
def vl (l : List Int) : Int := l.foldl (fun a x => 16 * a + (x - 65)) 0
/-- letters A to P alone -/
def Lets (l : List Int) : Prop := ∀ x ∈ l, 65 ≤ x ∧ x ≤ 80
/-- without the A's in front -/
def bare (l : List Int) : List Int := l.dropWhile (· == 65)

theorem apF_eq : ∀ {f g n : Nat}, n ≤ f → n ≤ g → apF f n = apF g n
  | 0, 0, _, _, _ => rfl
  | 0, g + 1, n, h, _ => by
    have : n = 0 := by omega
    subst this; simp [apF]
  | f + 1, 0, n, _, h => by
    have : n = 0 := by omega
    subst this; simp [apF]
  | f + 1, g + 1, n, h1, h2 => by
    by_cases h : n = 0
    · subst h; simp [apF]
    · simp only [apF, if_neg h]
      rw [apF_eq (f := f) (g := g) (by omega) (by omega)]
theorem apI_zero : apI 0 = [] := rfl
theorem apI_pos {n : Nat} (h : n ≠ 0) : apI n = apI (n / 16) ++ [65 + ((n % 16 : Nat) : Int)] := by
  cases n with
  | zero => exact absurd rfl h
  | succ k =>
    show apF (k + 1) (k + 1) = apF ((k + 1) / 16) ((k + 1) / 16) ++ _
    simp only [apF, if_neg h]
    rw [apF_eq (f := k) (g := (k + 1) / 16) (by omega) (by omega)]
theorem vl_nil : vl [] = 0 := rfl
theorem vl_snoc (l : List Int) (x : Int) : vl (l ++ [x]) = 16 * vl l + (x - 65) := by simp [vl, List.foldl_append]
theorem lets_snoc {l : List Int} {x : Int} : Lets (l ++ [x]) ↔ Lets l ∧ 65 ≤ x ∧ x ≤ 80 := by
  constructor
  · intro h
    exact ⟨fun y hy => h y (List.mem_append.2 (.inl hy)), h x (by simp)⟩
  · rintro ⟨h1, h2⟩ y hy
    rcases List.mem_append.1 hy with hy | hy
    · exact h1 y hy
    · rw [List.mem_singleton.1 hy]; exact h2
theorem lets_nil : Lets [] := fun _ h => nomatch h
theorem lets_app {l m : List Int} : Lets (l ++ m) ↔ Lets l ∧ Lets m := by
  constructor
  · intro h
    exact ⟨fun y hy => h y (List.mem_append.2 (.inl hy)), fun y hy => h y (List.mem_append.2 (.inr hy))⟩
  · rintro ⟨h1, h2⟩ y hy
    rcases List.mem_append.1 hy with hy | hy
    · exact h1 y hy
    · exact h2 y hy
theorem lets_rev {l : List Int} : Lets l.reverse ↔ Lets l := by simp [Lets]

theorem snoc_ind {P : List Int → Prop} (h0 : P []) (h1 : ∀ l x, P l → P (l ++ [x])) : ∀ l, P l := by
  intro l
  have : ∀ r : List Int, P r.reverse := by
    intro r
    induction r with
    | nil => exact h0
    | cons x r ih => rw [List.reverse_cons]; exact h1 _ _ ih
  have := this l.reverse
  rwa [List.reverse_reverse] at this
theorem pow_succ16 (k : Nat) : (16 : Int) ^ (k + 1) = 16 * 16 ^ k := by rw [Int.pow_succ, Int.mul_comm]
theorem pow16_pos (k : Nat) : 0 < (16 : Int) ^ k := by
  induction k with
  | zero => decide
  | succ k ih => rw [pow_succ16]; omega
theorem vl_bound {l : List Int} : Lets l → 0 ≤ vl l ∧ vl l < 16 ^ l.length := by
  induction l using snoc_ind with
  | h0 => intro _; simp [vl_nil]
  | h1 l x ih =>
    intro h
    rw [lets_snoc] at h
    have := ih h.1
    rw [vl_snoc, List.length_append, List.length_singleton, pow_succ16]
    omega
theorem vl_app (l m : List Int) : vl (l ++ m) = vl l * 16 ^ m.length + vl m := by
  induction m using snoc_ind with
  | h0 => simp [vl_nil]
  | h1 m x ih =>
    rw [← List.append_assoc, vl_snoc, ih, vl_snoc, List.length_append, List.length_singleton, pow_succ16]
    generalize (16 : Int) ^ m.length = p
    rw [show vl l * (16 * p) = 16 * (vl l * p) by rw [Int.mul_left_comm]]
    omega
theorem apI_vl {l : List Int} : Lets l → apI (vl l).toNat = bare l := by
  induction l using snoc_ind with
  | h0 => intro _; rw [vl_nil]; exact apI_zero
  | h1 l x ih =>
    intro h
    rw [lets_snoc] at h
    have h1 := ih h.1
    have hb := vl_bound h.1
    rw [vl_snoc]
    unfold bare at h1 ⊢
    rw [List.dropWhile_append, ← h1]
    by_cases hz : vl l = 0
    · rw [hz]
      simp only [Int.toNat_zero, apI_zero, List.isEmpty_nil, if_true]
      by_cases hx : x = 65
      · subst hx; simp [apI_zero]
      · rw [apI_pos (by omega)]
        have e1 : (16 * 0 + (x - 65)).toNat / 16 = 0 := by omega
        have e2 : (65 : Int) + (((16 * 0 + (x - 65)).toNat % 16 : Nat) : Int) = x := by omega
        rw [e1, e2, apI_zero]
        simp [hx]
    · have hne : apI (vl l).toNat ≠ [] := by
        rw [apI_pos (by omega)]; simp
      rw [if_neg (by simpa using hne)]
      rw [apI_pos (by omega)]
      have e1 : (16 * vl l + (x - 65)).toNat / 16 = (vl l).toNat := by omega
      have e2 : (65 : Int) + (((16 * vl l + (x - 65)).toNat % 16 : Nat) : Int) = x := by omega
      rw [e1, e2]
theorem apI_lets (n : Nat) : Lets (apI n) := by
  induction n using Nat.strongRecOn with
  | ind n ih =>
    by_cases h : n = 0
    · subst h; rw [apI_zero]; exact lets_nil
    · rw [apI_pos h, lets_snoc]
      exact ⟨ih _ (by omega), by omega, by omega⟩
theorem vl_apI (n : Nat) : vl (apI n) = n := by
  induction n using Nat.strongRecOn with
  | ind n ih =>
    by_cases h : n = 0
    · subst h; rw [apI_zero]; rfl
    · rw [apI_pos h, vl_snoc, ih _ (by omega)]
      omega
theorem bare_apI (n : Nat) : bare (apI n) = apI n := by
  have h := apI_vl (apI_lets n)
  rw [vl_apI] at h
  simpa using h.symm
theorem apI_len {n k : Nat} (h : n < 16 ^ k) : (apI n).length ≤ k := by
  induction k generalizing n with
  | zero => have : n = 0 := by simpa using h
            subst this; rw [apI_zero]; simp
  | succ k ih =>
    by_cases h0 : n = 0
    · subst h0; rw [apI_zero]; simp
    · rw [apI_pos h0, List.length_append, List.length_singleton]
      have := ih (n := n / 16) (by rw [Nat.pow_succ] at h; omega)
      omega
/-- a word whose count is that of its length is the word of its count -/
theorem apI_exact {l : List Int} (hl : Lets l) (h : l = [] ∨ (16 : Int) ^ (l.length - 1) ≤ vl l) : apI (vl l).toNat = l := by
  rw [apI_vl hl]
  rcases h with rfl | h
  · rfl
  · cases l with
    | nil => rfl
    | cons x r =>
      by_cases hx : x = 65
      · subst hx
        exfalso
        have e : vl (65 :: r) = vl r := by
          have := vl_app [65] r
          simpa [vl] using this
        have hr : Lets r := fun y hy => hl y (.tail _ hy)
        have := vl_bound hr
        rw [e] at h
        simp only [List.length_cons, Nat.add_sub_cancel] at h
        omega
      · simp [bare, hx]
theorem apI_ge {n : Nat} (h : n ≠ 0) : (16 : Int) ^ ((apI n).length - 1) ≤ (n : Int) := by
  induction n using Nat.strongRecOn with
  | ind n ih =>
    rw [apI_pos h, List.length_append, List.length_singleton, Nat.add_sub_cancel]
    by_cases h1 : n / 16 = 0
    · rw [h1, apI_zero]; simp; omega
    · have h2 := ih (n / 16) (by omega) h1
      have h3 : (apI (n / 16)).length ≠ 0 := by rw [apI_pos h1]; simp
      have h4 : (apI (n / 16)).length = ((apI (n / 16)).length - 1) + 1 := by omega
      rw [h4, pow_succ16]
      omega
theorem apI_ne {n : Nat} (h : n ≠ 0) : apI n ≠ [] := by rw [apI_pos h]; simp
theorem apI_inj {a b : Nat} (h : apI a = apI b) : a = b := by
  have := congrArg vl h
  rw [vl_apI, vl_apI] at this
  omega

-- bytes
theorem byteArr_bInts (b : Array UInt8) : byteArr (KBw.bInts b) = b := by
  unfold byteArr KBw.bInts
  rw [List.map_map]
  have : (fun c : UInt8 => ((c.toNat : Int).toNat.toUInt8)) = id := by
    funext c
    simp
  show (List.map (fun c : UInt8 => ((c.toNat : Int).toNat.toUInt8)) b.toList).toArray = b
  rw [this]
  simp
theorem lets_in {l : List Int} (h : Lets l) : KBa.In l := fun x hx => by have := h x hx; omega
theorem bInts_make {l : List Int} (h : Lets l) : KBw.bInts (byteArr l) = l := KBa.ints_make (lets_in h)
theorem bInts_ap (n : Nat) : KBw.bInts (byteArr (apI n)) = apI n := bInts_make (apI_lets n)
theorem bytes_eq {b : Array UInt8} {l : List Int} (h : KBw.bInts b = l) : b = byteArr l := by rw [← h, byteArr_bInts]

abbrev apT : Array UInt8 := #[65, 66, 67, 68, 69, 70, 71, 72, 73, 74, 75, 76, 77, 78, 79, 80]
theorem apT_pick {m : Int} (h0 : 0 ≤ m) (h1 : m < 16) : KBy.picked apT (some m) (some (m + 1)) = byteArr [65 + m] := by
  have : m = 0 ∨ m = 1 ∨ m = 2 ∨ m = 3 ∨ m = 4 ∨ m = 5 ∨ m = 6 ∨ m = 7 ∨ m = 8 ∨ m = 9 ∨ m = 10 ∨ m = 11 ∨ m = 12 ∨ m = 13 ∨ m = 14 ∨ m = 15 := by omega
  rcases this with rfl | rfl | rfl | rfl | rfl | rfl | rfl | rfl | rfl | rfl | rfl | rfl | rfl | rfl | rfl | rfl <;> decide +kernel
section
variable {prog : Program} {w : World} {A : Around} {E : Value → Shared → Prop} {s : Shared} {value slice : PySem.Expr} {b : Array UInt8} {t : Tok} {h₀ : Heap} {L : Addr} {m : PySem.Str → Option Value} {news : List (Addr × Obj)} {l u : Value} {lo hi : Option Int} {Q : Value → Shared → Prop}
/-- one letter cut out of the table -/
theorem ap_cut {k : Int} {t1 t2 : Tok} (hF : Fr h₀ L s.heap m) (hN : News h₀ L s.heap news) (h0 : 0 ≤ k) (h1 : k < 16)
    (h : ∀ h' t' tk, Fr h₀ L h' m → News h₀ L h' news → KBw.bInts (byteArr [65 + k]) = [65 + k] → (byteArr [65 + k]).size = 1 → Q (.bytes (byteArr [65 + k]) t') { s with heap := h', toks := tk })
    (hs : subscripted slice false (.bytes apT t) (.ref s.heap.objs.size) = operate [.ref s.heap.objs.size, .bytes apT t] (getItem (.bytes apT t) (.ref s.heap.objs.size)) := by with_unfolding_all rfl)
    (ht : ∀ r, letTemporaryGo value (.bytes apT t) r = pure () := by intro _; with_unfolding_all rfl) :
    wpAny (model prog w) A (subscriptTail value slice (.bytes apT t) (.ref s.heap.objs.size)) Q E { s with heap := s.heap.push { cls := .type "slice", data := .fields #[.int k t1, .int (k + 1) t2, .none] } } := by
  refine KBc.slice_K (ks := KBw.bInts apT) hF hN rfl (by constructor) (by constructor) (by decide) (fun h' t' tk F' N' e => ?_) hs ht
  rw [apT_pick h0 h1]
  refine h h' t' tk F' N' ?_ (by rw [byteArr_size]; rfl)
  exact KBa.ints_make (fun x hx => by rw [List.mem_singleton.1 hx]; omega)
/-- max of two ints, as a letter -/
theorem max_var {a b : Int} {t u : Tok} (hh : A.handled = none) (F : Fr h₀ L s.heap m) (N : News h₀ L s.heap news)
    (h : ∀ (c : Int) (tc : Tok) (h' : Heap) (tk : Nat), a ≤ c → b ≤ c → (c = a ∨ c = b) → Fr h₀ L h' m → News h₀ L h' news → Q (.int c tc) { s with heap := h', toks := tk }) :
    wpAny (model prog w) A (call (.builtin "max") [.int a t, .int b u]) Q E s :=
  max_two_N hh F N fun h' tk F' N' => h _ _ h' tk (by split <;> omega) (by split <;> omega) (by split <;> simp) F' N'
end
end Mine

-- part P2
namespace Mine
theorem vl_cons (x : Int) (r : List Int) : vl (x :: r) = (x - 65) * 16 ^ r.length + vl r := by
  have := vl_app [x] r
  rw [show vl [x] = x - 65 by simp [vl]] at this
  exact this
/-- the letter's worth at place k from the right, 1 the last -/
def dgt (xs : List Int) (k : Int) : Int := if k ≤ (xs.length : Int) then xs.getD ((xs.length : Int) - k).toNat 0 - 65 else 0
theorem dgt_bound {xs : List Int} (h : Lets xs) (k : Int) (hk : 1 ≤ k) : 0 ≤ dgt xs k ∧ dgt xs k ≤ 15 := by
  unfold dgt
  split
  · rename_i hk'
    have hl : ((xs.length : Int) - k).toNat < xs.length := by omega
    have := h _ (List.getElem_mem hl)
    rw [List.getD_eq_getElem?_getD, List.getElem?_eq_getElem hl]
    simp only [Option.getD_some]
    omega
  · omega
/-- the count of the last k letters -/
def low (xs : List Int) (k : Nat) : Int := vl (xs.drop (xs.length - k))
theorem low_zero (xs : List Int) : low xs 0 = 0 := by simp [low, vl]
theorem low_all {xs : List Int} {k : Nat} (h : xs.length ≤ k) : low xs k = vl xs := by
  unfold low
  rw [show xs.length - k = 0 by omega, List.drop_zero]
theorem low_succ (xs : List Int) (k : Nat) : low xs (k + 1) = low xs k + dgt xs (1 + (k : Int)) * 16 ^ k := by
  unfold low dgt
  by_cases h : k + 1 ≤ xs.length
  · rw [if_pos (by omega)]
    have hl : xs.length - (k + 1) < xs.length := by omega
    rw [List.drop_eq_getElem_cons hl, vl_cons]
    have e1 : xs.length - (k + 1) + 1 = xs.length - k := by omega
    have e2 : ((xs.length : Int) - (1 + (k : Int))).toNat = xs.length - (k + 1) := by omega
    rw [e1, e2, List.length_drop, List.getD_eq_getElem?_getD, List.getElem?_eq_getElem hl]
    have e3 : xs.length - (xs.length - k) = k := by omega
    rw [e3]
    simp only [Option.getD_some]
    omega
  · rw [if_neg (by omega)]
    have e1 : xs.length - (k + 1) = 0 := by omega
    have e2 : xs.length - k = 0 := by omega
    rw [e1, e2]; omega
def DgtIs (xs : List Int) (k d : Int) : Prop := (k ≤ (xs.length : Int) ∧ d = xs.getD ((xs.length : Int) - k).toNat 0 - 65) ∨ (¬ k ≤ (xs.length : Int) ∧ d = 0)
theorem dgt_is (xs : List Int) (k : Int) : DgtIs xs k (dgt xs k) := by
  unfold DgtIs dgt
  split
  · rename_i h; exact .inl ⟨h, rfl⟩
  · rename_i h; exact .inr ⟨h, rfl⟩
def AddInv (xs ys : List Int) (k : Nat) (c : Int) (L : List Int) : Prop := vl L.reverse + c * 16 ^ k = low xs k + low ys k
theorem add_start (xs ys : List Int) : AddInv xs ys ([] : List Int).length 0 [] ∧ Lets [] ∧ ([] : List Int).length = ([] : List Int).length ∧ ((0 : Int) = 0 ∨ (0 : Int) = 1) := by
  refine ⟨?_, lets_nil, rfl, .inl rfl⟩
  show vl [] + 0 * 16 ^ 0 = low xs 0 + low ys 0
  rw [low_zero, low_zero]; rfl
theorem add_turn {xs ys B1 B2 pre L : List Int} {c k col c' x : Int} (hb1 : B1 = xs) (hb2 : B2 = ys) (hlx : Lets xs) (hly : Lets ys)
    (h : AddInv B1 B2 pre.length c L) (hL : Lets L) (hlen : L.length = pre.length) (hc : c = 0 ∨ c = 1) (hk : k = 1 + (pre.length : Int))
    (hx : x = 65 + col - 16 * c') (hcol : ∀ dx dy, DgtIs xs k dx → DgtIs ys k dy → col = c + dx + dy) (hc' : (col > 15 ∧ c' = 1) ∨ (col ≤ 15 ∧ c' = 0)) :
    AddInv B1 B2 (pre ++ [k]).length c' (L ++ [x]) ∧ Lets (L ++ [x]) ∧ (L ++ [x]).length = (pre ++ [k]).length ∧ (c' = 0 ∨ c' = 1) := by
  subst hb1 hb2 hk
  have b1 := dgt_bound hlx (1 + (pre.length : Int)) (by omega)
  have b2 := dgt_bound hly (1 + (pre.length : Int)) (by omega)
  have hc2 : c' = 0 ∨ c' = 1 := by omega
  have hcol := hcol _ _ (dgt_is _ _) (dgt_is _ _)
  refine ⟨?_, lets_snoc.2 ⟨hL, ?_, ?_⟩, by simp [hlen], hc2⟩
  · unfold AddInv at h ⊢
    rw [List.length_append, List.length_singleton, low_succ, low_succ, List.reverse_append, List.reverse_singleton, List.singleton_append, vl_cons, List.length_reverse, hlen, pow_succ16, hx, hcol]
    generalize dgt B1 (1 + (pre.length : Int)) = dx at *
    generalize dgt B2 (1 + (pre.length : Int)) = dy at *
    generalize (16 : Int) ^ pre.length = p at *
    have e : (65 + (c + dx + dy) - 16 * c' - 65) * p = c * p + dx * p + dy * p - 16 * (c' * p) := by
      rw [show 65 + (c + dx + dy) - 16 * c' - 65 = (c + dx + dy) - 16 * c' by omega, Int.sub_mul, Int.add_mul, Int.add_mul, Int.mul_assoc]
    rw [e, show c' * (16 * p) = 16 * (c' * p) by rw [Int.mul_left_comm]]
    omega
  · omega
  · omega
/-- what the columns end with is the sum's word -/
theorem add_end {x y n : Nat} {c : Int} {L : List Int} (h1 : (apI x).length ≤ n) (h2 : (apI y).length ≤ n) (h3 : n = (apI x).length ∨ n = (apI y).length)
    (h : AddInv (apI x) (apI y) n c L) (hL : Lets L) (hlen : L.length = n) (hc : c = 0 ∨ c = 1) :
    (if c = 0 then L.reverse else (L ++ [66]).reverse) = apI (x + y) := by
  unfold AddInv at h
  rw [low_all h1, low_all h2, vl_apI, vl_apI] at h
  rcases hc with rfl | rfl
  · rw [if_pos rfl]
    have e : vl L.reverse = ((x + y : Nat) : Int) := by omega
    have hl := apI_exact (l := L.reverse) (lets_rev.2 hL) ?_
    · rw [e, Int.toNat_natCast] at hl; exact hl.symm
    · rw [e, List.length_reverse, hlen]
      by_cases hn : n = 0
      · left; have : L = [] := List.length_eq_zero_iff.1 (by omega)
        rw [this]; rfl
      · right
        rcases h3 with h3 | h3
        · have : x ≠ 0 := by rintro rfl; rw [apI_zero] at h3; simp at h3; omega
          have := apI_ge this
          rw [← h3] at this
          omega
        · have : y ≠ 0 := by rintro rfl; rw [apI_zero] at h3; simp at h3; omega
          have := apI_ge this
          rw [← h3] at this
          omega
  · rw [if_neg (by decide), List.reverse_append, List.reverse_singleton, List.singleton_append]
    have e : vl (66 :: L.reverse) = ((x + y : Nat) : Int) := by
      rw [vl_cons, List.length_reverse, hlen]; omega
    have hl := apI_exact (l := 66 :: L.reverse) (fun z hz => ?_) ?_
    · rw [e, Int.toNat_natCast] at hl; exact hl.symm
    · rcases List.mem_cons.1 hz with rfl | hz
      · omega
      · exact lets_rev.2 hL z hz
    · right
      rw [e, List.length_cons, List.length_reverse, hlen, Nat.add_sub_cancel]
      have := vl_bound (lets_rev.2 hL)
      omega

def TakeInv (xs ys : List Int) (k : Nat) (b : Int) (L : List Int) : Prop := vl L.reverse - b * 16 ^ k = low xs k - low ys k
theorem take_start (xs ys : List Int) : TakeInv xs ys ([] : List Int).length 0 [] ∧ Lets [] ∧ ([] : List Int).length = ([] : List Int).length ∧ ((0 : Int) = 0 ∨ (0 : Int) = 1) := by
  refine ⟨?_, lets_nil, rfl, .inl rfl⟩
  show vl [] - 0 * 16 ^ 0 = low xs 0 - low ys 0
  rw [low_zero, low_zero]; rfl
theorem take_turn {xs ys B1 B2 pre L : List Int} {c k col c' x : Int} (hb1 : B1 = xs) (hb2 : B2 = ys) (hlx : Lets xs) (hly : Lets ys)
    (h : TakeInv B1 B2 pre.length c L) (hL : Lets L) (hlen : L.length = pre.length) (hc : c = 0 ∨ c = 1) (hk : k = 1 + (pre.length : Int))
    (hx : x = 65 + col + 16 * c') (hcol : ∀ dx dy, DgtIs xs k dx → DgtIs ys k dy → col = dx - c - dy) (hc' : (col < 0 ∧ c' = 1) ∨ (0 ≤ col ∧ c' = 0)) :
    TakeInv B1 B2 (pre ++ [k]).length c' (L ++ [x]) ∧ Lets (L ++ [x]) ∧ (L ++ [x]).length = (pre ++ [k]).length ∧ (c' = 0 ∨ c' = 1) := by
  subst hb1 hb2 hk
  have b1 := dgt_bound hlx (1 + (pre.length : Int)) (by omega)
  have b2 := dgt_bound hly (1 + (pre.length : Int)) (by omega)
  have hc2 : c' = 0 ∨ c' = 1 := by omega
  have hcol := hcol _ _ (dgt_is _ _) (dgt_is _ _)
  refine ⟨?_, lets_snoc.2 ⟨hL, ?_, ?_⟩, by simp [hlen], hc2⟩
  · unfold TakeInv at h ⊢
    rw [List.length_append, List.length_singleton, low_succ, low_succ, List.reverse_append, List.reverse_singleton, List.singleton_append, vl_cons, List.length_reverse, hlen, pow_succ16, hx, hcol]
    generalize dgt B1 (1 + (pre.length : Int)) = dx at *
    generalize dgt B2 (1 + (pre.length : Int)) = dy at *
    generalize (16 : Int) ^ pre.length = p at *
    have e : (65 + (dx - c - dy) + 16 * c' - 65) * p = dx * p - c * p - dy * p + 16 * (c' * p) := by
      rw [show 65 + (dx - c - dy) + 16 * c' - 65 = (dx - c - dy) + 16 * c' by omega, Int.add_mul, Int.sub_mul, Int.sub_mul, Int.mul_assoc]
    rw [e, show c' * (16 * p) = 16 * (c' * p) by rw [Int.mul_left_comm]]
    omega
  · omega
  · omega
theorem bare_snoc_rev {L : List Int} {x : Int} (h : x = 65) : bare (L ++ [x]).reverse = bare L.reverse := by
  subst h; simp [bare]
theorem take_end {x y : Nat} {c : Int} {L M : List Int} (hxy : y ≤ x)
    (h : TakeInv (apI x) (apI y) (apI x).length c L) (hL : Lets L) (hlen : L.length = (apI x).length) (hc : c = 0 ∨ c = 1)
    (hM : bare M.reverse = bare L.reverse) (hd : M = [] ∨ ∀ z, M.getLast? = some z → z ≠ 65) : M.reverse = apI (x - y) := by
  have hyl : (apI y).length ≤ (apI x).length := by
    refine apI_len ?_
    have hb := vl_bound (apI_lets x)
    rw [vl_apI] at hb
    have e : ((16 ^ (apI x).length : Nat) : Int) = (16 : Int) ^ (apI x).length := by simp
    omega
  unfold TakeInv at h
  rw [low_all (Nat.le_refl _), low_all hyl, vl_apI, vl_apI] at h
  have hb := vl_bound (lets_rev.2 hL)
  rw [List.length_reverse, hlen] at hb
  have hc0 : c = 0 := by
    rcases hc with rfl | rfl
    · rfl
    · exfalso; omega
  subst hc0
  have e : vl L.reverse = ((x - y : Nat) : Int) := by omega
  have h1 := apI_vl (lets_rev.2 hL)
  rw [e, Int.toNat_natCast] at h1
  rw [h1, ← hM]
  rcases hd with rfl | hd
  · rfl
  · cases hM' : M.reverse with
    | nil => rfl
    | cons z r =>
      have hz : M.getLast? = some z := by
        have : M = (z :: r).reverse := by rw [← hM', List.reverse_reverse]
        rw [this]; simp
      have := hd z hz
      simp [bare, this]
end Mine

-- part C2
namespace Mine
def WInv (n0 num : Int) (val : Array UInt8) : Prop := 0 ≤ num ∧ (apI n0.toNat).length ≤ 1000 ∧ apI num.toNat ++ KBw.bInts val = apI n0.toNat
theorem w_start {n n0 : Int} (h : (apI n.natAbs).length ≤ 1000) (e : n0.toNat = n.natAbs) (h0 : 0 ≤ n0) : WInv n0 n0 #[] ∧ (#[] : Array UInt8).size ≤ 1000 :=
  ⟨⟨h0, by rw [e]; exact h, by simp [KBw.bInts]⟩, by simp⟩
theorem w_turn {n0 num k : Int} {val : Array UInt8} (h : WInv n0 num val) (hne : num ≠ 0) (hk : k = num.fmod 16) : WInv n0 (num.fdiv 16) (byteArr [65 + k] ++ val) ∧ (byteArr [65 + k] ++ val).size ≤ 1000 := by
  subst hk
  obtain ⟨h0, hl, he⟩ := h
  have e1 : (num.fdiv 16).toNat = num.toNat / 16 := by
    rw [Int.fdiv_eq_ediv_of_nonneg _ (by decide)]; omega
  have e2 : (65 : Int) + num.fmod 16 = 65 + ((num.toNat % 16 : Nat) : Int) := by
    rw [Int.fmod_eq_emod_of_nonneg _ (by decide)]; omega
  have hb : KBw.bInts (byteArr [65 + num.fmod 16]) = [65 + num.fmod 16] :=
    KBa.ints_make (fun x hx => by rw [List.mem_singleton.1 hx]; rw [Int.fmod_eq_emod_of_nonneg _ (by decide)]; omega)
  have key : apI (num.fdiv 16).toNat ++ KBw.bInts (byteArr [65 + num.fmod 16] ++ val) = apI n0.toNat := by
    rw [KBw.ints_app hb rfl, e1, e2, ← he, apI_pos (n := num.toNat) (by omega)]
    simp
  refine ⟨⟨by rw [Int.fdiv_eq_ediv_of_nonneg _ (by decide)]; omega, hl, key⟩, ?_⟩
  have := congrArg List.length key
  rw [List.length_append, KBw.ints_length] at this
  omega
theorem w_end {n0 num : Int} {n : Nat} {val : Array UInt8} (h : WInv n0 num val) (e : num = 0) (hn : n0.toNat = n) : val = byteArr (apI n) := by
  subst e
  obtain ⟨_, _, he⟩ := h
  rw [show (0 : Int).toNat = 0 from rfl, apI_zero, List.nil_append] at he
  rw [← hn]
  exact bytes_eq he
theorem w_fall {num : Int} (h : 0 ≤ num) (hne : num ≠ 0) : (num.fdiv 16).toNat < num.toNat := by
  rw [Int.fdiv_eq_ediv_of_nonneg _ (by decide)]; omega
theorem w_nn {n0 num : Int} {val : Array UInt8} (h : WInv n0 num val) : 0 ≤ num := h.1
theorem cb_retBy {h₀ h' : Heap} {L : Addr} {m : Str → Option Value} {news : List (Addr × Obj)} {s : Shared} {Q : Value → Shared → Prop} {t : Tok} {tk' : Nat} {x y : Array UInt8} (hret : ∀ (t : Tok) (h' : Heap) (tk' : Nat), Fr h₀ L h' m → News h₀ L h' news → Q (.bytes x t) { s with heap := h', toks := tk' }) (e : y = x) (F : Fr h₀ L h' m) (N : News h₀ L h' news) : Q (.bytes y t) { s with heap := h', toks := tk' } := by
  subst e
  exact hret t h' tk' F N

local macro_rules | `(tactic| walk_at "subscriptTail") => `(tactic| (k_here; (with_reducible show wpAny _ _ (subscriptTail _ (Expr.Slice _ _ none _) (Value.bytes #[65, 66, 67, 68, 69, 70, 71, 72, 73, 74, 75, 76, 77, 78, 79, 80] _) (Value.ref _)) _ _ _); (with_reducible rename Fr _ _ _ _ => F'); (with_reducible rename News _ _ _ _ => N'); (refine ap_cut (s := ⟨_, _, _, _, _⟩) F' N' (fmod_lo _ (by decide)) (fmod_hi _ (by decide)) ?_); intro _ _ _ _ _ apK apS))

theorem int2ap_c (w : World) (s₀ : Shared) (mg mb : Str → Option Value) (news : List (Addr × Obj)) (n : Int) (t : Tok) :
    CbClaim Challenge.rw_dm0169_02.row.prog w (hd2.heap_39 w.params) hd2.view_39 (looseW hd2.view_39 []) (ExcName.means s₀.heap) mg mb 21 news [] ((apI n.natAbs).length ≤ 1000) [.int n t] (fun u => .bytes (byteArr (apI n.natAbs)) u) := by
  k_fill
  w_top off
  k_with_none
  k_with "exec While Name cons nil" => k_while_given ["num!"] (fun n0 script num val => WInv n0 num val ∧ val.size ≤ 1000) (fun n0 script num val => num.toNat) "num" "val"
  k_with "state" => first | exact w_start (by assumption) (by split <;> omega) (by split <;> omega) | exact w_turn (by assumption) (by assumption) rfl
  k_with "measure" => exact w_fall (w_nn (by assumption)) (by assumption)
  dsimp only [CbClaim, CbLists, CbRet]
  intros
  rename_i hret
  refine wpAny_call ?_
  k_dflt cell_enter
  k_steps
  exact cb_retBy hret (w_end (by assumption) (by assumption) (by split <;> omega)) (by k_asm) (by k_asm)
end Mine

-- part A2
namespace Mine
local macro_rules | `(tactic| walk_at "call builtin:max") => `(tactic| (k_here; (with_reducible show wpAny _ _ (call (Value.builtin _) [Value.int _ _, Value.int _ _]) _ _ _); (with_reducible rename Fr _ _ _ _ => F'); (with_reducible rename News _ _ _ _ => N'); (with_unfolding_all refine max_var (by rfl) F' N' ?_); intro mxC mxT mxH mxK mxA mxB mxO mxF mxN))
local macro_rules | `(tactic| walk_at "subscriptTail Name Slice ref ref") => `(tactic| (k_here; (with_reducible show wpAny _ _ (subscriptTail _ (PySem.Expr.Slice none none (some _) _) (Value.ref _) (Value.ref _)) _ _ _); (rename News _ _ _ _ => nE'); (try simp only [List.push_toArray] at nE'); k_dflt (refine' krv_ints ?F ?N ?l ?k ?i ?_ ?s ?t ?z; (case F => k_asm); (case N => exact nE'); (case l => exact News.isList nE' (by k_mem)); (case k => exact IsPart.int _ _); (case i => first | assumption | exact IntsAre.append (by assumption) (.cons _ _ .nil)); (case s => with_unfolding_all rfl); (case t => kmk_pure); (case z => kmk_size)); intro D' ws' h' F' N' l1 hI' hC'; (try k_lt l1)))
local macro_rules | `(tactic| walk_at "call type:bytes") => `(tactic| (k_here; (with_reducible show wpAny _ _ (call (Value.type "bytes") [Value.ref _]) _ _ _); k_dflt (refine' KBa.make_K ?kbaF ?kbaN ?kbah ?kbal ?kbai ?kbar ?kban ?_; (case kbaF => k_asm); (case kbaN => k_asm); (case kbah => rfl); (case kbal => kba_isList); (case kbai => kba_listInts); (case kbar => first | exact lets_in (lets_rev.2 (by assumption)) | exact lets_in (lets_rev.2 (lets_snoc.2 ⟨by assumption, by decide, by decide⟩))); (case kban => (simp only [List.length_reverse, List.length_append, List.length_cons, List.length_nil, rangeKs_length] at *; omega))); intro _ _ _ F' N' kbaIn))
def AddR (xs ys : List Int) (r : Array UInt8) : Prop := ∀ (n : Nat) (c : Int) (L : List Int), xs.length ≤ n → ys.length ≤ n → (n = xs.length ∨ n = ys.length) → AddInv xs ys n c L → Lets L → L.length = n → (c = 0 ∨ c = 1) → byteArr (if c = 0 then L.reverse else (L ++ [66]).reverse) = r
theorem add_ret1 {xs ys B1 B2 L : List Int} {r : Array UInt8} {n : Nat} {c : Int} (hr : AddR xs ys r) (hb1 : B1 = xs) (hb2 : B2 = ys) (h : AddInv B1 B2 n c L) (hL : Lets L) (hlen : L.length = n) (hc : c = 0 ∨ c = 1) (hc0 : c ≠ 0) (h1 : xs.length ≤ n) (h2 : ys.length ≤ n) (h3 : n = xs.length ∨ n = ys.length) : byteArr (L ++ [66]).reverse = r := by
  subst hb1 hb2
  have := hr n c L h1 h2 h3 h hL hlen hc
  rwa [if_neg hc0] at this
theorem add_ret0 {xs ys B1 B2 L : List Int} {r : Array UInt8} {n : Nat} {c : Int} (hr : AddR xs ys r) (hb1 : B1 = xs) (hb2 : B2 = ys) (h : AddInv B1 B2 n c L) (hL : Lets L) (hlen : L.length = n) (hc : c = 0 ∨ c = 1) (hc0 : c = 0) (h1 : xs.length ≤ n) (h2 : ys.length ≤ n) (h3 : n = xs.length ∨ n = ys.length) : byteArr L.reverse = r := by
  subst hb1 hb2
  have := hr n c L h1 h2 h3 h hL hlen hc
  rwa [if_pos hc0] at this
theorem addR_ap (x y : Nat) : AddR (apI x) (apI y) (byteArr (apI (x + y))) := fun n c L h1 h2 h3 h hL hlen hc => by rw [add_end h1 h2 h3 h hL hlen hc]
theorem add_c (w : World) (s₀ : Shared) (mg mb : Str → Option Value) (news : List (Addr × Obj)) (xs ys : List Int) (b1 b2 r : Array UInt8) (t1 t2 : Tok) :
    CbClaim Challenge.rw_dm0169_02.row.prog w (hd2.heap_39 w.params) hd2.view_39 (looseW hd2.view_39 []) (ExcName.means s₀.heap) mg mb 28 news [] (KBw.bInts b1 = xs ∧ KBw.bInts b2 = ys ∧ xs.length ≤ 900 ∧ ys.length ≤ 900 ∧ Lets xs ∧ Lets ys ∧ AddR xs ys r) [.bytes b1 t1, .bytes b2 t2] (fun u => .bytes r u) := by
  k_fill
  w_top off
  k_with_none
  k_with "pyIter ref" => k_state_given ["one", "other"] (fun one other pre carried letters => AddInv (KBw.bInts one) (KBw.bInts other) pre.length carried letters ∧ Lets letters ∧ letters.length = pre.length ∧ (carried = 0 ∨ carried = 1)) "carried" "letters"
  k_with "state" => first | exact add_start _ _ | exact add_turn (by assumption) (by assumption) (by assumption) (by assumption) (by assumption) (by assumption) (by assumption) (by assumption) (by assumption) rfl (by intro dx dy h1 h2; unfold DgtIs at h1 h2; omega) (by omega)
  dsimp only [CbClaim, CbLists, CbRet]
  intros
  rename_i hpre _ _ hret
  obtain ⟨hb1, hb2, hl1, hl2, hx1, hx2, hr⟩ := hpre
  have hI0 : IntsAre [] [] := .nil
  refine wpAny_call ?_
  k_dflt cell_enter
  k_steps
  · exact cb_retBy hret (add_ret1 hr hb1 hb2 (by assumption) (by assumption) (by assumption) (by assumption) (by assumption) (by rw [rangeKs_length]; omega) (by rw [rangeKs_length]; omega) (by rw [rangeKs_length]; omega)) (by k_asm) (by first | k_asm | (refine' cb_drop ?cbN ?cbS; (case cbN => assumption); (case cbS => kcj_all)))
  · exact cb_retBy hret (add_ret0 hr hb1 hb2 (by assumption) (by assumption) (by assumption) (by assumption) (by assumption) (by rw [rangeKs_length]; omega) (by rw [rangeKs_length]; omega) (by rw [rangeKs_length]; omega)) (by k_asm) (by first | k_asm | (refine' cb_drop ?cbN ?cbS; (case cbN => assumption); (case cbS => kcj_all)))
end Mine

-- part K2
namespace Mine
local macro_rules | `(tactic| walk_at "subscriptTail Name Slice ref ref") => `(tactic| (k_here; (with_reducible show wpAny _ _ (subscriptTail _ (PySem.Expr.Slice none none (some _) _) (Value.ref _) (Value.ref _)) _ _ _); (rename News _ _ _ _ => nE'); (try simp only [List.push_toArray] at nE'); k_dflt (refine' krv_ints ?F ?N ?l ?k ?i ?_ ?s ?t ?z; (case F => k_asm); (case N => exact nE'); (case l => exact News.isList nE' (by k_mem)); (case k => exact IsPart.int _ _); (case i => first | assumption | exact IntsAre.append (by assumption) (.cons _ _ .nil)); (case s => with_unfolding_all rfl); (case t => kmk_pure); (case z => kmk_size)); intro D' ws' h' F' N' l1 hI' hC'; (try k_lt l1)))
local macro_rules | `(tactic| walk_at "call type:bytes") => `(tactic| (k_here; (with_reducible show wpAny _ _ (call (Value.type "bytes") [Value.ref _]) _ _ _); k_dflt (refine' KBa.make_K ?kbaF ?kbaN ?kbah ?kbal ?kbai ?kbar ?kban ?_; (case kbaF => k_asm); (case kbaN => k_asm); (case kbah => rfl); (case kbal => kba_isList); (case kbai => kba_listInts); (case kbar => first | exact lets_in (lets_rev.2 (by assumption)) | exact lets_in (lets_rev.2 (lets_snoc.2 ⟨by assumption, by decide, by decide⟩))); (case kban => (simp only [List.length_reverse, List.length_append, List.length_cons, List.length_nil, rangeKs_length] at *; omega))); intro _ _ _ F' N' kbaIn))
def RInv (l0 L : List Int) : Prop := bare L.reverse = bare l0.reverse
theorem r_start {L : List Int} (h : Lets L) (hl : L.length ≤ 900) : RInv L L ∧ Lets L ∧ L.length ≤ 900 := ⟨rfl, h, hl⟩
theorem last_eq {L : List Int} (hne : 0 < L.length) : L = L.dropLast ++ [L.getD (-1 + (L.length : Int)).toNat 0] := by
  have h : L ≠ [] := by intro e; rw [e] at hne; exact absurd hne (by decide)
  have e := List.dropLast_concat_getLast h
  have e2 : (-1 + (L.length : Int)).toNat = L.length - 1 := by omega
  rw [e2, List.getD_eq_getElem?_getD, List.getElem?_eq_getElem (by omega), Option.getD_some, ← List.getLast_eq_getElem h]
  exact e.symm
theorem r_turn {l0 L : List Int} (h : RInv l0 L) (hl : Lets L) (hle : L.length ≤ 900) (hne : 0 < L.length) (he : L.getD (-1 + (L.length : Int)).toNat 0 = 65) : RInv l0 L.dropLast ∧ Lets L.dropLast ∧ L.dropLast.length ≤ 900 := by
  have e := last_eq hne
  rw [he] at e
  refine ⟨?_, fun x hx => hl x (List.dropLast_subset L hx), by rw [List.length_dropLast]; omega⟩
  unfold RInv at h ⊢
  rw [← h]
  conv => rhs; rw [e]
  rw [bare_snoc_rev rfl]
theorem r_fall {L : List Int} (hne : 0 < L.length) : L.dropLast.length < L.length := by rw [List.length_dropLast]; omega
def TakeR (xs ys : List Int) (r : Array UInt8) : Prop := ∀ (c : Int) (L M : List Int), TakeInv xs ys xs.length c L → Lets L → L.length = xs.length → (c = 0 ∨ c = 1) → bare M.reverse = bare L.reverse → (M = [] ∨ ∀ z, M.getLast? = some z → z ≠ 65) → byteArr M.reverse = r
theorem take_ret {xs ys B1 B2 L M : List Int} {r : Array UInt8} {n : Nat} {c : Int} (hr : TakeR xs ys r) (hb1 : B1 = xs) (hb2 : B2 = ys) (h : TakeInv B1 B2 n c L) (hL : Lets L) (hlen : L.length = n) (hc : c = 0 ∨ c = 1) (hM : RInv L M) (hn : n = xs.length) (hd : M.length = 0 ∨ (0 < M.length ∧ M.getD (-1 + (M.length : Int)).toNat 0 ≠ 65)) : byteArr M.reverse = r := by
  subst hb1 hb2 hn
  refine hr c L M h hL hlen hc hM ?_
  rcases hd with hd | ⟨h1, h2⟩
  · exact .inl (List.length_eq_zero_iff.1 hd)
  · refine .inr fun z hz => ?_
    have e := last_eq h1
    rw [e, List.getLast?_concat] at hz
    rw [← Option.some.inj hz]
    exact h2
theorem takeR_ap {x y : Nat} (h : y ≤ x) : TakeR (apI x) (apI y) (byteArr (apI (x - y))) := fun c L M hi hL hlen hc hM hd => by rw [take_end h hi hL hlen hc hM hd]
theorem take_c (w : World) (s₀ : Shared) (mg mb : Str → Option Value) (news : List (Addr × Obj)) (xs ys : List Int) (b1 b2 r : Array UInt8) (t1 t2 : Tok) :
    CbClaim Challenge.rw_dm0169_02.row.prog w (hd2.heap_39 w.params) hd2.view_39 (looseW hd2.view_39 []) (ExcName.means s₀.heap) mg mb 35 news [] (KBw.bInts b1 = xs ∧ KBw.bInts b2 = ys ∧ xs.length ≤ 900 ∧ ys.length ≤ 900 ∧ Lets xs ∧ Lets ys ∧ TakeR xs ys r) [.bytes b1 t1, .bytes b2 t2] (fun u => .bytes r u) := by
  k_fill
  w_top off
  k_with_none
  k_with "pyIter ref" => k_state_given ["one", "other"] (fun one other pre borrowed letters => TakeInv (KBw.bInts one) (KBw.bInts other) pre.length borrowed letters ∧ Lets letters ∧ letters.length = pre.length ∧ (borrowed = 0 ∨ borrowed = 1)) "borrowed" "letters"
  k_with "state" => first | exact take_start _ _ | exact take_turn (by assumption) (by assumption) (by assumption) (by assumption) (by assumption) (by assumption) (by assumption) (by assumption) (by assumption) rfl (by intro dx dy h1 h2; unfold DgtIs at h1 h2; omega) (by omega)
  k_with "exec While BoolOp cons nil" => k_while_given ["letters!"] (fun l0 script letters => RInv l0 letters ∧ Lets letters ∧ letters.length ≤ 900) (fun l0 script letters => letters.length) "letters"
  k_with "state" => first | exact r_start (by assumption) (by simp only [rangeKs_length] at *; omega) | exact r_turn (by assumption) (by assumption) (by assumption) (by assumption) (by assumption)
  k_with "measure" => exact r_fall (by assumption)
  dsimp only [CbClaim, CbLists, CbRet]
  intros
  rename_i hpre _ _ hret
  obtain ⟨hb1, hb2, hl1, hl2, hx1, hx2, hr⟩ := hpre
  have hI0 : IntsAre [] [] := .nil
  refine wpAny_call ?_
  k_dflt cell_enter
  k_steps
  all_goals exact cb_retBy hret (take_ret hr hb1 hb2 (by assumption) (by assumption) (by assumption) (by assumption) (by assumption) (by rw [rangeKs_length]; omega) (by omega)) (by k_asm) (by first | k_asm | (refine' cb_drop ?cbN ?cbS; (case cbN => assumption); (case cbS => kcj_all)))
end Mine

-- part U2
namespace Mine
open PySem PySem.W PyProof.Rows PySem.Spec PySem.Calls
section
variable {w : World} {s₀ : Shared} {mg mb : Str → Option Value} {news : List (Addr × Obj)} {dp un : Nat} {gd : Option (List Code)} {cn : Str} {cs : Scope} {a : Addr} {ccd : Value} {cl : List (Str × Addr)} {outer : List Env} {A₀ : Around} {base h₀ : Heap} {L : Addr} {m : Str → Option Value} {s : Shared} {Q E : Value → Shared → Prop}
theorem int2ap_use {n : Int} {t : Tok} (B : Below A₀ base outer h₀) (F : Fr h₀ L s.heap m) (X : (hd2.heap_39 w.params).In h₀) (N : News h₀ L s.heap news) (T : Top hd2.view_39 (looseW hd2.view_39 []) (ExcName.means s₀.heap) mg mb h₀) (hk : cs.kind = .function)
    (hp : (apI n.natAbs).length ≤ 900) (hd : dp + 1 < recursionLimit) (hu : un + 8 < cLine)
    (ret : ∀ (b : Array UInt8) (ks : List Int) (t : Tok) (h' : Heap) (tk' : Nat), KBw.bInts b = ks → ks = apI n.natAbs → ks.length ≤ 900 → Fr h₀ L h' m → News h₀ L h' news → Q (.bytes b t) { s with heap := h', toks := tk' }) :
    wpAny (model Challenge.rw_dm0169_02.row.prog w) (ktrTop dp un gd cn cs L a ccd cl outer) (call (.ref 21) [.int n t]) Q E s :=
  int2ap_c w s₀ mg mb news n t dp un gd cn cs a ccd cl outer A₀ base h₀ L m s Q E B F X N T hk (Nat.le_trans hp (by decide)) hd hu fun t h' tk' F' N' => ret _ _ t h' tk' (bInts_ap _) rfl hp F' N'
theorem add_use {b1 b2 : Array UInt8} {xs ys : List Int} {x y : Nat} {t1 t2 : Tok} (B : Below A₀ base outer h₀) (F : Fr h₀ L s.heap m) (X : (hd2.heap_39 w.params).In h₀) (N : News h₀ L s.heap news) (T : Top hd2.view_39 (looseW hd2.view_39 []) (ExcName.means s₀.heap) mg mb h₀) (hk : cs.kind = .function)
    (hb1 : KBw.bInts b1 = xs) (hb2 : KBw.bInts b2 = ys) (hx : xs = apI x) (hy : ys = apI y) (hl1 : xs.length ≤ 900) (hl2 : ys.length ≤ 900) (hd : dp + 1 < recursionLimit) (hu : un + 8 < cLine)
    (ret : ∀ (b : Array UInt8) (ks : List Int) (t : Tok) (h' : Heap) (tk' : Nat), KBw.bInts b = ks → ks = apI (x + y) → Fr h₀ L h' m → News h₀ L h' news → Q (.bytes b t) { s with heap := h', toks := tk' }) :
    wpAny (model Challenge.rw_dm0169_02.row.prog w) (ktrTop dp un gd cn cs L a ccd cl outer) (call (.ref 28) [.bytes b1 t1, .bytes b2 t2]) Q E s :=
  add_c w s₀ mg mb news xs ys b1 b2 _ t1 t2 dp un gd cn cs a ccd cl outer A₀ base h₀ L m s Q E B F X N T hk ⟨hb1, hb2, hl1, hl2, hx ▸ apI_lets x, hy ▸ apI_lets y, hx ▸ hy ▸ addR_ap x y⟩ hd hu fun t h' tk' F' N' => ret _ _ t h' tk' (bInts_ap _) rfl F' N'
theorem take_use {b1 b2 : Array UInt8} {xs ys : List Int} {x y : Nat} {t1 t2 : Tok} (B : Below A₀ base outer h₀) (F : Fr h₀ L s.heap m) (X : (hd2.heap_39 w.params).In h₀) (N : News h₀ L s.heap news) (T : Top hd2.view_39 (looseW hd2.view_39 []) (ExcName.means s₀.heap) mg mb h₀) (hk : cs.kind = .function)
    (hb1 : KBw.bInts b1 = xs) (hb2 : KBw.bInts b2 = ys) (hx : xs = apI x) (hy : ys = apI y) (hl1 : xs.length ≤ 900) (hl2 : ys.length ≤ 900) (hyx : y ≤ x) (hd : dp + 1 < recursionLimit) (hu : un + 8 < cLine)
    (ret : ∀ (b : Array UInt8) (ks : List Int) (t : Tok) (h' : Heap) (tk' : Nat), KBw.bInts b = ks → ks = apI (x - y) → Fr h₀ L h' m → News h₀ L h' news → Q (.bytes b t) { s with heap := h', toks := tk' }) :
    wpAny (model Challenge.rw_dm0169_02.row.prog w) (ktrTop dp un gd cn cs L a ccd cl outer) (call (.ref 35) [.bytes b1 t1, .bytes b2 t2]) Q E s :=
  take_c w s₀ mg mb news xs ys b1 b2 _ t1 t2 dp un gd cn cs a ccd cl outer A₀ base h₀ L m s Q E B F X N T hk ⟨hb1, hb2, hl1, hl2, hx ▸ apI_lets x, hy ▸ apI_lets y, hx ▸ hy ▸ takeR_ap hyx⟩ hd hu fun t h' tk' F' N' => ret _ _ t h' tk' (bInts_ap _) rfl F' N'
end
end Mine

-- part MT
namespace Mine
theorem slot_bytes_lt : Slot "bytes" (cmpInfo .Lt).2.1 "bytes.__lt__" :=
  .of (owner := "bytes") (n := "__lt__") (by rw [typeLookup_type, builtinLookup_eq_fast]; kernel_rfl) (by decide +kernel) (by decide +kernel) (by decide +kernel)
    (by first | exact .inl (by decide +kernel) | exact .inr (by decide +kernel)) (by rw [isSubtype_type]; kernel_rfl)
theorem entry_bytes_lt : entryFor table "bytes.__lt__" = some Builtin.«bytes.__lt__» := entryFor_of_tree (by kernel_rfl)
theorem args_bytes_lt_2 (a b : Value) : argsOk "bytes.__lt__" ⟨[a, b], []⟩ := by
  unfold argsOk; rw [signature?_of (id := "bytes.__lt__") (n := ['_', '_', 't', 'l', '_', '_']) (o := ['s', 'e', 't', 'y', 'b']) (by kernel_rfl) PySem.W.FB.owner_bytes]; kernel_rfl
theorem gives_bytes_lt (b c : Array UInt8) (t u : Tok) : Gives (Builtin.«bytes.__lt__» ⟨[.bytes b t, .bytes c u], []⟩) (.val (.bool (Builtin.Bytes.order b.toList c.toList == .lt))) := by
  refine .of_wp fun M A E s Q hq => ?_
  show wpAny M A (isInstance (.bytes c u) (.type "bytes") >>= fun r => _) _ E s
  refine wpAny_bind (wpAny_isInstance (typeIs_bytes s c u) F.sub_bytes_bytes ?_)
  exact wpAny_pure ⟨_, rfl, hq⟩
section
variable {prog : Program} {w : World} {A : Around} {E : Value → Shared → Prop} {s : Shared}
theorem rlt_bytes {b c : Array UInt8} {t u : Tok} {Q : Value → Shared → Prop} (h : Q (.bool (Builtin.Bytes.order b.toList c.toList == .lt)) s) : wpAny (model prog w) A (richCompare .Lt (.bytes b t) (.bytes c u)) Q E s :=
  compareOp_gives (op := .Lt) (typeIs_bytes s b t) (typeIs_bytes s c u) slot_bytes_lt entry_bytes_lt (args_bytes_lt_2 _ _) (gives_bytes_lt b c t u) (fun e => nomatch e) h
theorem req_bytes {b c : Array UInt8} {t u : Tok} {Q : Value → Shared → Prop} (h : Q (.bool (b.toList == c.toList)) s) : wpAny (model prog w) A (richCompare .Eq (.bytes b t) (.bytes c u)) Q E s :=
  eq_bytes h
theorem rlt_int {a b : Int} {t u : Tok} {Q : Value → Shared → Prop} (h : Q (.bool (decide (a < b))) s) : wpAny (model prog w) A (richCompare .Lt (.int a t) (.int b u)) Q E s :=
  lt_int h
theorem req_int {a b : Int} {t u : Tok} {Q : Value → Shared → Prop} (h : Q (.bool (decide (a = b))) s) : wpAny (model prog w) A (richCompare .Eq (.int a t) (.int b u)) Q E s :=
  eq_int h
theorem eqB_int {a b : Int} {t u : Tok} {Q : Bool → Shared → Prop} (h : Q (decide (a = b)) s) : wpAny (model prog w) A (eqBool (.int a t) (.int b u)) Q E s := by
  unfold eqBool
  refine wpAny_holding ?_
  refine wpAny_ite_split (fun hab => ?_) (fun _ => ?_)
  · have : a = b := by have := eq_of_beq hab; injection this
    refine wpAny_bind (wpAny_rule (wpAny_pure ?_))
    simpa [this] using h
  · exact wpAny_bind (req_int (wpAny_truthy_bool h))
theorem eqB_bytes {b c : Array UInt8} {t u : Tok} {Q : Bool → Shared → Prop} (h : Q (b.toList == c.toList) s) : wpAny (model prog w) A (eqBool (.bytes b t) (.bytes c u)) Q E s := by
  unfold eqBool
  refine wpAny_holding ?_
  refine wpAny_ite_split (fun hab => ?_) (fun _ => ?_)
  · have : b = c := by have := eq_of_beq hab; injection this
    refine wpAny_bind (wpAny_rule (wpAny_pure ?_))
    simpa [this] using h
  · exact wpAny_bind (req_bytes (wpAny_truthy_bool h))
end
section
variable {prog : Program} {w : World} {A : Around} {E : Value → Shared → Prop} {s : Shared}
theorem eqB_int_t {a b : Int} (e : a = b) {t u : Tok} {Q : Bool → Shared → Prop} (h : Q true s) : wpAny (model prog w) A (eqBool (.int a t) (.int b u)) Q E s := eqB_int (by simpa [e] using h)
theorem eqB_int_f {a b : Int} (e : a ≠ b) {t u : Tok} {Q : Bool → Shared → Prop} (h : Q false s) : wpAny (model prog w) A (eqBool (.int a t) (.int b u)) Q E s := eqB_int (by simpa [e] using h)
theorem eqB_bytes_t {b c : Array UInt8} (e : b.toList = c.toList) {t u : Tok} {Q : Bool → Shared → Prop} (h : Q true s) : wpAny (model prog w) A (eqBool (.bytes b t) (.bytes c u)) Q E s := eqB_bytes (by rw [e, beq_self_eq_true]; exact h)
theorem eqB_bytes_f {b c : Array UInt8} (e : b.toList ≠ c.toList) {t u : Tok} {Q : Bool → Shared → Prop} (h : Q false s) : wpAny (model prog w) A (eqBool (.bytes b t) (.bytes c u)) Q E s := eqB_bytes (by rw [show (b.toList == c.toList) = false from beq_eq_false_iff_ne.2 e]; exact h)
end
def pairLt (a b : Int) (x y : Array UInt8) : Bool := if a = b then (if x.toList = y.toList then false else Builtin.Bytes.order x.toList y.toList == .lt) else decide (a < b)
theorem tuple_ltAt (l r : Addr) (a b : Int) (x y : Array UInt8) (ta tb tx ty : Tok) (n n2 : Nat) (dd dd2 : Option Addr) (sl sl2 : Array (Option Value)) :
    Meets (Builtin.«tuple.__lt__» ⟨[.ref l, .ref r], []⟩)
      (fun A R s => s.heap.get? l = some { cls := .type "tuple", dict := dd, data := .seq #[.int a ta, .bytes x tx] n, slots := sl } ∧ s.heap.get? r = some { cls := .type "tuple", dict := dd2, data := .seq #[.int b tb, .bytes y ty] n2, slots := sl2 } ∧
        R (.ok (.ret (.bool (pairLt a b x y)))) s) :=
  .of_wp fun prog w A R s h => by
    obtain ⟨hp, g, d, tk, os⟩ := s; obtain ⟨hl, hb, h⟩ := h
    have f2 := AutoSeq1.sub_tuple_tuple
    unfold pairLt at h
    by_cases hab : a = b
    · rw [if_pos hab] at h
      by_cases hxy : x.toList = y.toList
      · rw [if_pos hxy] at h
        wp_walk using wpAny_loadPart' hl, wpAny_loadPart' hb, eqB_int_t hab, eqB_bytes_t hxy
        exact ⟨_, rfl, h⟩
      · rw [if_neg hxy] at h
        wp_walk using wpAny_loadPart' hl, wpAny_loadPart' hb, eqB_int_t hab, eqB_bytes_f hxy, rlt_bytes
        exact ⟨_, rfl, h⟩
    · rw [if_neg hab] at h
      wp_walk using wpAny_loadPart' hl, wpAny_loadPart' hb, eqB_int_f hab, rlt_int
      exact ⟨_, rfl, h⟩
section
variable {prog : Program} {w : World} {A : Around} {E : Value → Shared → Prop} {s : Shared}
theorem lt_pair {l r : Addr} {a b : Int} {x y : Array UInt8} {ta tb tx ty : Tok} {Q : Value → Shared → Prop} (hl : s.heap.IsTuple l #[.int a ta, .bytes x tx]) (hb : s.heap.IsTuple r #[.int b tb, .bytes y ty]) (hu : A.units < cLine)
    (h : Q (.bool (pairLt a b x y)) s) : wpAny (model prog w) A (compareOp .Lt (.ref l) (.ref r)) Q E s := by
  obtain ⟨⟨cls, dd, data, sl⟩, ho, hc, n, hd⟩ := id hl
  obtain ⟨⟨cls2, dd2, data2, sl2⟩, ho2, hc2, n2, hd2⟩ := id hb
  simp only at hc hd hc2 hd2
  subst hc hd hc2 hd2
  exact richCompare_meets_room (op := .Lt) ⟨_, ho, rfl⟩ ⟨_, ho2, rfl⟩ F.slot_tuple_lt F.entry_tuple_lt (F.args_tuple_lt_2 _ _) (tuple_ltAt l r a b x y ta tb tx ty n n2 dd dd2 sl sl2)
    ⟨ho, ho2, show Value.bool (pairLt a b x y) ≠ Value.notImplemented ∧ Q (.bool (pairLt a b x y)) s from ⟨(fun x => nomatch x), h⟩⟩ hu
theorem type_bytes {b : Array UInt8} {t : Tok} {Q : Value → Shared → Prop} (h : Q (.type "bytes") s) : wpAny (model prog w) A (call (.type "type") [.bytes b t]) Q E s :=
  call_type_of (Tx := "bytes") rfl (by decide +kernel) h
end
end Mine

-- part PO2
namespace Mine
open Builtin.Bytes (order)
def uI (l : List UInt8) : List Int := l.map fun c => (c.toNat : Int)
theorem order_vl : ∀ (X Y : List UInt8), X.length = Y.length → Lets (uI X) → Lets (uI Y) → (order X Y == .lt) = decide (vl (uI X) < vl (uI Y))
  | [], [], _, _, _ => by simp [order, uI, vl]
  | [], _ :: _, h, _, _ => by simp at h
  | _ :: _, [], h, _, _ => by simp at h
  | x :: X, y :: Y, h, hX, hY => by
    have hl : X.length = Y.length := by simpa using h
    have hX' : Lets (uI X) := fun z hz => hX z (.tail _ hz)
    have hY' : Lets (uI Y) := fun z hz => hY z (.tail _ hz)
    have bX := vl_bound hX'
    have bY := vl_bound hY'
    have ih := order_vl X Y hl hX' hY'
    have eX : uI (x :: X) = (x.toNat : Int) :: uI X := rfl
    have eY : uI (y :: Y) = (y.toNat : Int) :: uI Y := rfl
    have lX : (uI X).length = X.length := by simp [uI]
    have lY : (uI Y).length = Y.length := by simp [uI]
    rw [eX, eY, vl_cons, vl_cons, lX, lY, ← hl]
    rw [lX] at bX
    rw [lY, ← hl] at bY
    generalize (16 : Int) ^ X.length = p at *
    unfold order
    by_cases h1 : x < y
    · rw [if_pos h1]
      have h1' : x.toNat < y.toNat := UInt8.lt_iff_toNat_lt.1 h1
      have hm : ((x.toNat : Int) - 65 + 1) * p ≤ ((y.toNat : Int) - 65) * p := Int.mul_le_mul_of_nonneg_right (by omega) (by omega)
      rw [Int.add_mul] at hm
      have : ((x.toNat : Int) - 65) * p + vl (uI X) < ((y.toNat : Int) - 65) * p + vl (uI Y) := by omega
      simp [this]
    · rw [if_neg h1]
      by_cases h2 : x > y
      · rw [if_pos h2]
        have h2' : y.toNat < x.toNat := UInt8.lt_iff_toNat_lt.1 h2
        have hm : ((y.toNat : Int) - 65 + 1) * p ≤ ((x.toNat : Int) - 65) * p := Int.mul_le_mul_of_nonneg_right (by omega) (by omega)
        rw [Int.add_mul] at hm
        have : ¬ ((x.toNat : Int) - 65) * p + vl (uI X) < ((y.toNat : Int) - 65) * p + vl (uI Y) := by omega
        simp [this]
      · rw [if_neg h2]
        have : x = y := UInt8.le_antisymm (UInt8.not_lt.mp h2) (UInt8.not_lt.mp h1)
        subst this
        rw [ih]
        simp
theorem len_lt {a b : Nat} (h : (apI a).length < (apI b).length) : a < b := by
  have ha := vl_bound (apI_lets a)
  rw [vl_apI] at ha
  have hb0 : b ≠ 0 := by rintro rfl; rw [apI_zero] at h; simp at h
  have hb := apI_ge hb0
  have hm : (16 : Int) ^ (apI a).length ≤ 16 ^ ((apI b).length - 1) := by
    have : (16 : Nat) ^ (apI a).length ≤ 16 ^ ((apI b).length - 1) := Nat.pow_le_pow_right (by decide) (by omega)
    have h1 : ((16 ^ (apI a).length : Nat) : Int) = (16 : Int) ^ (apI a).length := by simp
    have h2 : ((16 ^ ((apI b).length - 1) : Nat) : Int) = (16 : Int) ^ ((apI b).length - 1) := by simp
    omega
  omega
theorem pairLt_ap {x y : Array UInt8} {xs ys : List Int} {a b : Nat} (hx : KBw.bInts x = xs) (hy : KBw.bInts y = ys) (ea : xs = apI a) (eb : ys = apI b) : pairLt (xs.length : Int) (ys.length : Int) x y = decide (a < b) := by
  have h1 : uI x.toList = apI a := by rw [← ea, ← hx]; rfl
  have h2 : uI y.toList = apI b := by rw [← eb, ← hy]; rfl
  have lx : x.toList.length = (apI a).length := by rw [← h1]; simp [uI]
  have ly : y.toList.length = (apI b).length := by rw [← h2]; simp [uI]
  unfold pairLt
  rw [ea, eb]
  by_cases hl : (apI a).length = (apI b).length
  · rw [if_pos (by omega)]
    by_cases he : x.toList = y.toList
    · rw [if_pos he]
      have : a = b := apI_inj (by rw [← h1, ← h2, he])
      simp [this]
    · rw [if_neg he, order_vl _ _ (by omega) (by rw [h1]; exact apI_lets a) (by rw [h2]; exact apI_lets b), h1, h2, vl_apI, vl_apI]
      simp
  · rw [if_neg (by omega)]
    by_cases hlt : (apI a).length < (apI b).length
    · have := len_lt hlt
      simp [this]; omega
    · have := len_lt (a := b) (b := a) (by omega)
      have h3 : ¬ a < b := by omega
      simp [h3]; omega
end Mine

-- part M2
namespace Mine
open PySem PySem.W PyProof.Rows PySem.Spec PySem.Calls
def Acc (pre : List Int) (account : Int) : Prop := account.natAbs ≤ pre.length * 79228162514264337593543950336
theorem big24 : (16 : Int) ^ Int.toNat 24 = 79228162514264337593543950336 := by decide
theorem ap_fit {n : Nat} (h : n < 1267650600228229401496703205376) : (apI n).length ≤ 900 :=
  Nat.le_trans (apI_len (k := 25) (by exact h)) (by decide)
theorem rest_pos (k : Int) : 0 ≤ Int.fmod k (16 ^ Int.toNat 24) ∧ Int.fmod k (16 ^ Int.toNat 24) < 79228162514264337593543950336 := by
  rw [big24, Int.fmod_eq_emod_of_nonneg _ (by decide)]
  omega
theorem fitM (k : Int) : (apI (Int.fmod k (16 ^ Int.toNat 24)).natAbs).length ≤ 900 := ap_fit (by have := rest_pos k; omega)
theorem fitN (k : Int) : (apI (-Int.fmod (-k) (16 ^ Int.toNat 24)).natAbs).length ≤ 900 := ap_fit (by have := rest_pos (-k); omega)
theorem acc_len {pre : List Int} {a : Int} (h : Acc pre a) (hl : pre.length < 9) : (apI a.natAbs).length ≤ 900 := by
  refine ap_fit ?_
  unfold Acc at h
  have : pre.length * 79228162514264337593543950336 ≤ 9 * 79228162514264337593543950336 := Nat.mul_le_mul_right _ (by omega)
  omega
theorem acc_step {pre : List Int} {a r : Int} (x : Int) (h : Acc pre a) (hr : -79228162514264337593543950336 < r ∧ r < 79228162514264337593543950336) : Acc (pre ++ [x]) (a + r) := by
  unfold Acc at h ⊢
  rw [List.length_append, List.length_singleton, Nat.add_mul]
  omega
theorem acc_M {pre : List Int} {a : Int} (h : Acc pre a) (k : Int) : Acc (pre ++ [k]) (a + Int.fmod k (16 ^ Int.toNat 24)) := acc_step k h (by have := rest_pos k; omega)
theorem acc_N {pre : List Int} {a : Int} (h : Acc pre a) (k : Int) : Acc (pre ++ [k]) (a + -Int.fmod (-k) (16 ^ Int.toNat 24)) := acc_step k h (by have := rest_pos (-k); omega)
theorem fitAM {pre : List Int} {a : Int} (h : Acc pre a) (hl : pre.length < 8) (k : Int) : (apI (a + Int.fmod k (16 ^ Int.toNat 24)).natAbs).length ≤ 900 := acc_len (acc_M h k) (by simp; omega)
theorem fitAN {pre : List Int} {a : Int} (h : Acc pre a) (hl : pre.length < 8) (k : Int) : (apI (a + -Int.fmod (-k) (16 ^ Int.toNat 24)).natAbs).length ≤ 900 := acc_len (acc_N h k) (by simp; omega)
section
variable {prog : Program} {w : World} {A : Around} {E : Value → Shared → Prop} {s : Shared}
theorem lt_use {l r : Addr} {x y : Array UInt8} {xs ys : List Int} {a b : Nat} {ta tb tx ty : Tok} {Q : Value → Shared → Prop} (hl : s.heap.IsTuple l #[.int (xs.length : Int) ta, .bytes x tx]) (hb : s.heap.IsTuple r #[.int (ys.length : Int) tb, .bytes y ty]) (hu : A.units < cLine)
    (hx : KBw.bInts x = xs) (hy : KBw.bInts y = ys) (ea : xs = apI a) (eb : ys = apI b)
    (h : Q (.bool (decide (a < b))) s) : wpAny (model prog w) A (compareOp .Lt (.ref l) (.ref r)) Q E s :=
  lt_pair hl hb hu (by rw [pairLt_ap hx hy ea eb]; exact h)
theorem ne_same {b c : Array UInt8} {t u : Tok} {Q : Value → Shared → Prop} (e : b = c) (h : Q (.bool false) s) : wpAny (model prog w) A (compareOp .NotEq (.bytes b t) (.bytes c u)) Q E s :=
  ne_bytes (by subst e; simpa using h)
theorem eq_nil {b : Array UInt8} {ks : List Int} {n : Nat} {t u : Tok} {Q : Value → Shared → Prop} (hb : KBw.bInts b = ks) (e : ks = apI n) (h : Q (.bool (decide (n = 0))) s) : wpAny (model prog w) A (compareOp .Eq (.bytes b t) (.bytes #[] u)) Q E s := by
  refine eq_bytes ?_
  have : (b.toList == (#[] : Array UInt8).toList) = decide (n = 0) := by
    by_cases hn : n = 0
    · subst hn
      rw [apI_zero] at e
      have hb' : b.toList.map (fun c => (c.toNat : Int)) = [] := hb.trans e
      rw [List.map_eq_nil_iff] at hb'
      rw [hb']; rfl
    · have : b.toList ≠ [] := by
        intro h0
        apply apI_ne hn
        rw [← e, ← hb]
        show b.toList.map _ = []
        rw [h0]; rfl
      simp [hn, this]
      intro h0; exact this (by rw [h0])
  rw [this]; exact h
theorem same_word {b c : Array UInt8} {ks ls : List Int} {m n : Nat} (hb : KBw.bInts b = ks) (hk : ks = apI m) (hc : KBw.bInts c = ls) (hl : ls = apI n) (e : m = n) : b = c := by
  rw [bytes_eq (hb.trans hk), bytes_eq (hc.trans hl), e]
theorem ne_sameF {b c : Array UInt8} {t u : Tok} {Q : Value → Shared → Prop} (e : b = c) (h : b = c → Q (.bool false) s) : wpAny (model prog w) A (compareOp .NotEq (.bytes b t) (.bytes c u)) Q E s :=
  ne_same e (h e)
theorem nb_sameF {b c : Bool} {Q : Value → Shared → Prop} (e : b = c) (h : b = c → Q (.bool false) s) : wpAny (model prog w) A (compareOp .NotEq (.bool b) (.bool c)) Q E s :=
  ne_bool (by subst e; simpa using h rfl)
end
section
variable {a r : Int} {c : Bool}
theorem sgn (h1 : c = decide (a < 0)) (h2 : (decide (r < 0) == c) = true) : (a < 0 ∧ r < 0) ∨ (0 ≤ a ∧ 0 ≤ r) := by
  subst h1
  by_cases ha : a < 0 <;> by_cases hr : r < 0 <;> simp [ha, hr] at h2 ⊢ <;> omega
theorem sgn' (h1 : c = decide (a < 0)) (h2 : ¬ (decide (r < 0) == c) = true) : (a < 0 ∧ 0 ≤ r) ∨ (0 ≤ a ∧ r < 0) := by
  subst h1
  by_cases ha : a < 0 <;> by_cases hr : r < 0 <;> simp [ha, hr] at h2 ⊢ <;> omega
theorem sg_add (h1 : c = decide (a < 0)) (h2 : (decide (r < 0) == c) = true) : (a + r).natAbs = a.natAbs + r.natAbs := by have := sgn h1 h2; omega
theorem sg_take1 (h1 : c = decide (a < 0)) (h2 : ¬ (decide (r < 0) == c) = true) (h3 : a.natAbs < r.natAbs) : (a + r).natAbs = r.natAbs - a.natAbs := by have := sgn' h1 h2; omega
theorem sg_take2 (h1 : c = decide (a < 0)) (h2 : ¬ (decide (r < 0) == c) = true) (h3 : r.natAbs ≤ a.natAbs) : (a + r).natAbs = a.natAbs - r.natAbs := by have := sgn' h1 h2; omega
theorem bl_add (h1 : c = decide (a < 0)) (h2 : (decide (r < 0) == c) = true) : c = decide (a + r < 0) := by
  have := sgn h1 h2
  rw [h1, decide_eq_decide]; omega
theorem bl_take1 (h1 : c = decide (a < 0)) (h2 : ¬ (decide (r < 0) == c) = true) (h3 : a.natAbs < r.natAbs) : decide (r < 0) = decide (a + r < 0) := by
  have := sgn' h1 h2
  rw [decide_eq_decide]; omega
theorem bl_take2 (h1 : c = decide (a < 0)) (h2 : ¬ (decide (r < 0) == c) = true) (h3 : r.natAbs ≤ a.natAbs) (h4 : ¬ a.natAbs - r.natAbs = 0) : c = decide (a + r < 0) := by
  have := sgn' h1 h2
  rw [h1, decide_eq_decide]; omega
theorem bl_take0 (h1 : c = decide (a < 0)) (h2 : ¬ (decide (r < 0) == c) = true) (h3 : r.natAbs ≤ a.natAbs) (h4 : a.natAbs - r.natAbs = 0) : false = decide (a + r < 0) := by
  have := sgn' h1 h2
  rw [eq_comm, decide_eq_false_iff_not]; omega
theorem st_start : KBw.bInts #[] = apI (0 : Int).natAbs ∧ false = decide ((0 : Int) < 0) ∧ Acc [] 0 ∧ (apI (0 : Int).natAbs).length ≤ 900 := by
  refine ⟨rfl, rfl, ?_, by decide⟩
  unfold Acc; simp
theorem st_turn {b d : Array UInt8} {ks : List Int} {n : Nat} {x y : Bool} {pre : List Int} {acc : Int} (e : b = d) (hb : KBw.bInts b = ks) (hk : ks = apI n) (hl : ks.length ≤ 900) (hB : x = y) (hA : Acc pre acc) : KBw.bInts d = apI n ∧ x = y ∧ Acc pre acc ∧ (apI n).length ≤ 900 := by
  subst e hk hB
  exact ⟨hb, rfl, hA, hl⟩
end
end Mine

-- part L2
open Mine
open PySem PySem.W PyProof.Rows PySem.Spec PySem.Calls
local macro_rules | `(tactic| walk_at "call type:type") => `(tactic| (k_here; (with_reducible show wpAny _ _ (call (Value.type "type") [Value.bytes _ _]) _ _ _); (refine type_bytes ?_)))
local macro_rules | `(tactic| walk_at "call ref") => `(tactic| (k_here; (with_reducible show wpAny _ _ (call (Value.ref 21) [Value.int _ _]) _ _ _); k_dflt (refine' int2ap_use ?k1 ?k2 ?k3 ?k4 ?k5 ?kK ?kp ?kd ?ku ?_; (case kp => first | exact fitM _ | exact fitN _ | exact fitAM (by assumption) (by omega) _ | exact fitAN (by assumption) (by omega) _); (case k1 => k_asm); (case k2 => k_asm); (case k3 => k_asm); (case k4 => k_asm); (case k5 => k_asm); (case kK => first | exact rfl | assumption); (case kd => ktr_room); (case ku => ktr_units)); intro b9 ks9 t9 h9 tk9 hb9 he9 hl9 F9 N9; (try dsimp only); (try k_fold)))
local macro_rules | `(tactic| walk_at "call ref") => `(tactic| (k_here; (with_reducible show wpAny _ _ (call (Value.ref 28) [Value.bytes _ _, Value.bytes _ _]) _ _ _); k_dflt (refine' add_use ?k1 ?k2 ?k3 ?k4 ?k5 ?kK ?ka ?kb ?kx ?ky ?la ?lb ?kd ?ku ?_; (case ka => assumption); (case kb => assumption); (case kx => first | assumption | exact rfl); (case ky => first | assumption | exact rfl); (case la => first | assumption | exact acc_len (by assumption) (by omega)); (case lb => first | assumption | exact acc_len (by assumption) (by omega)); (case k1 => k_asm); (case k2 => k_asm); (case k3 => k_asm); (case k4 => k_asm); (case k5 => k_asm); (case kK => first | exact rfl | assumption); (case kd => ktr_room); (case ku => ktr_units)); intro b9 ks9 t9 h9 tk9 hb9 he9 F9 N9; (try dsimp only); (try k_fold)))
local macro_rules | `(tactic| walk_at "call ref") => `(tactic| (k_here; (with_reducible show wpAny _ _ (call (Value.ref 35) [Value.bytes _ _, Value.bytes _ _]) _ _ _); k_dflt (refine' take_use ?k1 ?k2 ?k3 ?k4 ?k5 ?kK ?ka ?kb ?kx ?ky ?la ?lb ?kl ?kd ?ku ?_; (case ka => assumption); (case kb => assumption); (case kx => first | assumption | exact rfl); (case ky => first | assumption | exact rfl); (case la => first | assumption | exact acc_len (by assumption) (by omega)); (case lb => first | assumption | exact acc_len (by assumption) (by omega)); (case kl => omega); (case k1 => k_asm); (case k2 => k_asm); (case k3 => k_asm); (case k4 => k_asm); (case k5 => k_asm); (case kK => first | exact rfl | assumption); (case kd => ktr_room); (case ku => ktr_units)); intro b9 ks9 t9 h9 tk9 hb9 he9 F9 N9; (try dsimp only); (try k_fold)))
local macro_rules | `(tactic| walk_at "compareOp Lt ref") => `(tactic| (k_here; (with_reducible show wpAny _ _ (compareOp CmpOp.Lt (Value.ref _) (Value.ref _)) _ _ _); k_dflt (refine' lt_use ?ka ?kb ?ku ?kx ?ky ?ea ?eb ?_; (case ka => exact News.isTup (by k_asm) (by k_mem)); (case kb => exact News.isTup (by k_asm) (by k_mem)); (case ku => ke_room); (case kx => assumption); (case ky => assumption); (case ea => first | assumption | exact rfl); (case eb => first | assumption | exact rfl))))
local macro_rules | `(tactic| walk_at "compareOp Eq bytes bytes") => `(tactic| (k_here; (with_reducible show wpAny _ _ (compareOp CmpOp.Eq (Value.bytes _ _) (Value.bytes _ _)) _ _ _); k_dflt (refine' eq_nil ?kx ?ea ?_; (case kx => assumption); (case ea => assumption))))
local macro_rules | `(tactic| walk_at "compareOp NotEq bytes bytes") => `(tactic| (k_here; (with_reducible show wpAny _ _ (compareOp CmpOp.NotEq (Value.bytes _ _) (Value.bytes _ _)) _ _ _); k_dflt (refine' ne_sameF ?ke ?_; (case ke => exact same_word (by assumption) (by assumption) (by assumption) (by assumption) (by first | exact sg_add (by assumption) (by assumption) | exact sg_take1 (by assumption) (by first | assumption | (simp only [Bool.not_eq_true]; assumption)) (by assumption) | exact sg_take2 (by assumption) (by first | assumption | (simp only [Bool.not_eq_true]; assumption)) (by omega)))); intro eqW9))
local macro_rules | `(tactic| walk_at "compareOp NotEq bool bool") => `(tactic| (k_here; (with_reducible show wpAny _ _ (compareOp CmpOp.NotEq (Value.bool _) (Value.bool _)) _ _ _); k_dflt (refine' nb_sameF ?ke ?_; (case ke => first | exact bl_add (by assumption) (by assumption) | exact bl_take1 (by assumption) (by first | assumption | (simp only [Bool.not_eq_true]; assumption)) (by assumption) | exact bl_take2 (by assumption) (by first | assumption | (simp only [Bool.not_eq_true]; assumption)) (by omega) (by assumption) | exact bl_take0 (by assumption) (by first | assumption | (simp only [Bool.not_eq_true]; assumption)) (by omega) (by assumption))); intro eqB9))
set_option maxRecDepth 100000 in
set_option maxHeartbeats 8000000 in
theorem PySem.Challenge.cw_dm0169_02_holds : PySem.Challenge.rw_dm0169_02.Holds := by
  k_with_none
  k_with "pyIter ref" => k_state (fun pre account word below => KBw.bInts word = Mine.apI account.natAbs ∧ below = decide (account < 0) ∧ Mine.Acc pre account ∧ (Mine.apI account.natAbs).length ≤ 900) "account" "word" "below"
  k_with "state" => first | exact Mine.st_start | exact Mine.st_turn (by assumption) (by assumption) (by assumption) (by assumption) (by assumption) (by first | exact Mine.acc_M (by assumption) _ | exact Mine.acc_N (by assumption) _)
  exact Mine.hd2 (by k_go)

