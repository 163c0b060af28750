import PyProof.Rows.All
import Wide.All
import OpenK.AllK
import Wide.FinOn
import PySem.Challenge.RW_dm0169_03
open PySem PySem.W PyProof.Rows
set_option Elab.async false
set_option maxRecDepth 100000
set_option maxHeartbeats 8000000
set_option linter.all false
namespace Mine
open_top hd3 for PySem.Challenge.rw_dm0169_03
end Mine
-- part MB
namespace Mine

/-- the word of a number, as the numbers of its letters (f: steps at most) -/
def apF : Nat → Nat → List Int
  | 0, _ => []
  | f + 1, n => if n = 0 then [] else apF f (n / 16) ++ [65 + ((n % 16 : Nat) : Int)]
def apI (n : Nat) : List Int := apF n n
/-- a word's count -/
def vl (l : List Int) : Int := l.foldl (fun a x => 16 * a + (x - 65)) 0
/-- letters A to P alone -/
def Lets (l : List Int) : Prop := ∀ x ∈ l, 65 ≤ x ∧ x ≤ 80
/-- without the A's in front -/
def bare (l : List Int) : List Int := l.dropWhile (· == 65)

theorem apF_eq : ∀ {f g n : Nat}, n ≤ f → n ≤ g → apF f n = apF g n
  | 0, 0, _, _, _ => rfl
  | 0, g + 1, n, h, _ => by
    have : n = 0 := by omega
    subst this; simp [apF]
  | f + 1, 0, n, _, h => by
    have : n = 0 := by omega
    subst this; simp [apF]
  | f + 1, g + 1, n, h1, h2 => by
    by_cases h : n = 0
    · subst h; simp [apF]
    · simp only [apF, if_neg h]
      rw [apF_eq (f := f) (g := g) (by omega) (by omega)]
theorem apI_zero : apI 0 = [] := rfl
theorem apI_pos {n : Nat} (h : n ≠ 0) : apI n = apI (n / 16) ++ [65 + ((n % 16 : Nat) : Int)] := by
  cases n with
  | zero => exact absurd rfl h
  | succ k =>
    show apF (k + 1) (k + 1) = apF ((k + 1) / 16) ((k + 1) / 16) ++ _
    simp only [apF, if_neg h]
    rw [apF_eq (f := k) (g := (k + 1) / 16) (by omega) (by omega)]
theorem vl_nil : vl [] = 0 := rfl
theorem vl_snoc (l : List Int) (x : Int) : vl (l ++ [x]) = 16 * vl l + (x - 65) := by simp [vl, List.foldl_append]
theorem lets_snoc {l : List Int} {x : Int} : Lets (l ++ [x]) ↔ Lets l ∧ 65 ≤ x ∧ x ≤ 80 := by
  constructor
  · intro h
    exact ⟨fun y hy => h y (List.mem_append.2 (.inl hy)), h x (by simp)⟩
  · rintro ⟨h1, h2⟩ y hy
    rcases List.mem_append.1 hy with hy | hy
    · exact h1 y hy
    · rw [List.mem_singleton.1 hy]; exact h2
theorem lets_nil : Lets [] := fun _ h => nomatch h
theorem lets_app {l m : List Int} : Lets (l ++ m) ↔ Lets l ∧ Lets m := by
  constructor
  · intro h
    exact ⟨fun y hy => h y (List.mem_append.2 (.inl hy)), fun y hy => h y (List.mem_append.2 (.inr hy))⟩
  · rintro ⟨h1, h2⟩ y hy
    rcases List.mem_append.1 hy with hy | hy
    · exact h1 y hy
    · exact h2 y hy
theorem lets_rev {l : List Int} : Lets l.reverse ↔ Lets l := by simp [Lets]

theorem snoc_ind {P : List Int → Prop} (h0 : P []) (h1 : ∀ l x, P l → P (l ++ [x])) : ∀ l, P l := by
  intro l
  have : ∀ r : List Int, P r.reverse := by
    intro r
    induction r with
    | nil => exact h0
    | cons x r ih => rw [List.reverse_cons]; exact h1 _ _ ih
  have := this l.reverse
  rwa [List.reverse_reverse] at this
theorem pow_succ16 (k : Nat) : (16 : Int) ^ (k + 1) = 16 * 16 ^ k := by rw [Int.pow_succ, Int.mul_comm]
theorem pow16_pos (k : Nat) : 0 < (16 : Int) ^ k := by
  induction k with
  | zero => decide
  | succ k ih => rw [pow_succ16]; omega
theorem vl_bound {l : List Int} : Lets l → 0 ≤ vl l ∧ vl l < 16 ^ l.length := by
  induction l using snoc_ind with
  | h0 => intro _; simp [vl_nil]
  | h1 l x ih =>
    intro h
    rw [lets_snoc] at h
    have := ih h.1
    rw [vl_snoc, List.length_append, List.length_singleton, pow_succ16]
    omega
theorem vl_app (l m : List Int) : vl (l ++ m) = vl l * 16 ^ m.length + vl m := by
  induction m using snoc_ind with
  | h0 => simp [vl_nil]
  | h1 m x ih =>
    rw [← List.append_assoc, vl_snoc, ih, vl_snoc, List.length_append, List.length_singleton, pow_succ16]
    generalize (16 : Int) ^ m.length = p
    rw [show vl l * (16 * p) = 16 * (vl l * p) by rw [Int.mul_left_comm]]
    omega
theorem apI_vl {l : List Int} : Lets l → apI (vl l).toNat = bare l := by
  induction l using snoc_ind with
  | h0 => intro _; rw [vl_nil]; exact apI_zero
  | h1 l x ih =>
    intro h
    rw [lets_snoc] at h
    have h1 := ih h.1
    have hb := vl_bound h.1
    rw [vl_snoc]
    unfold bare at h1 ⊢
    rw [List.dropWhile_append, ← h1]
    by_cases hz : vl l = 0
    · rw [hz]
      simp only [Int.toNat_zero, apI_zero, List.isEmpty_nil, if_true]
      by_cases hx : x = 65
      · subst hx; simp [apI_zero]
      · rw [apI_pos (by omega)]
        have e1 : (16 * 0 + (x - 65)).toNat / 16 = 0 := by omega
        have e2 : (65 : Int) + (((16 * 0 + (x - 65)).toNat % 16 : Nat) : Int) = x := by omega
        rw [e1, e2, apI_zero]
        simp [hx]
    · have hne : apI (vl l).toNat ≠ [] := by
        rw [apI_pos (by omega)]; simp
      rw [if_neg (by simpa using hne)]
      rw [apI_pos (by omega)]
      have e1 : (16 * vl l + (x - 65)).toNat / 16 = (vl l).toNat := by omega
      have e2 : (65 : Int) + (((16 * vl l + (x - 65)).toNat % 16 : Nat) : Int) = x := by omega
      rw [e1, e2]
theorem apI_lets (n : Nat) : Lets (apI n) := by
  induction n using Nat.strongRecOn with
  | ind n ih =>
    by_cases h : n = 0
    · subst h; rw [apI_zero]; exact lets_nil
    · rw [apI_pos h, lets_snoc]
      exact ⟨ih _ (by omega), by omega, by omega⟩
theorem vl_apI (n : Nat) : vl (apI n) = n := by
  induction n using Nat.strongRecOn with
  | ind n ih =>
    by_cases h : n = 0
    · subst h; rw [apI_zero]; rfl
    · rw [apI_pos h, vl_snoc, ih _ (by omega)]
      omega
theorem bare_apI (n : Nat) : bare (apI n) = apI n := by
  have h := apI_vl (apI_lets n)
  rw [vl_apI] at h
  simpa using h.symm
theorem apI_len {n k : Nat} (h : n < 16 ^ k) : (apI n).length ≤ k := by
  induction k generalizing n with
  | zero => have : n = 0 := by simpa using h
            subst this; rw [apI_zero]; simp
  | succ k ih =>
    by_cases h0 : n = 0
    · subst h0; rw [apI_zero]; simp
    · rw [apI_pos h0, List.length_append, List.length_singleton]
      have := ih (n := n / 16) (by rw [Nat.pow_succ] at h; omega)
      omega
/-- a word whose count is that of its length is the word of its count -/
theorem apI_exact {l : List Int} (hl : Lets l) (h : l = [] ∨ (16 : Int) ^ (l.length - 1) ≤ vl l) : apI (vl l).toNat = l := by
  rw [apI_vl hl]
  rcases h with rfl | h
  · rfl
  · cases l with
    | nil => rfl
    | cons x r =>
      by_cases hx : x = 65
      · subst hx
        exfalso
        have e : vl (65 :: r) = vl r := by
          have := vl_app [65] r
          simpa [vl] using this
        have hr : Lets r := fun y hy => hl y (.tail _ hy)
        have := vl_bound hr
        rw [e] at h
        simp only [List.length_cons, Nat.add_sub_cancel] at h
        omega
      · simp [bare, hx]
theorem apI_ge {n : Nat} (h : n ≠ 0) : (16 : Int) ^ ((apI n).length - 1) ≤ (n : Int) := by
  induction n using Nat.strongRecOn with
  | ind n ih =>
    rw [apI_pos h, List.length_append, List.length_singleton, Nat.add_sub_cancel]
    by_cases h1 : n / 16 = 0
    · rw [h1, apI_zero]; simp; omega
    · have h2 := ih (n / 16) (by omega) h1
      have h3 : (apI (n / 16)).length ≠ 0 := by rw [apI_pos h1]; simp
      have h4 : (apI (n / 16)).length = ((apI (n / 16)).length - 1) + 1 := by omega
      rw [h4, pow_succ16]
      omega
theorem apI_ne {n : Nat} (h : n ≠ 0) : apI n ≠ [] := by rw [apI_pos h]; simp
theorem apI_inj {a b : Nat} (h : apI a = apI b) : a = b := by
  have := congrArg vl h
  rw [vl_apI, vl_apI] at this
  omega

-- bytes
theorem byteArr_bInts (b : Array UInt8) : byteArr (KBw.bInts b) = b := by
  unfold byteArr KBw.bInts
  rw [List.map_map]
  have : (fun c : UInt8 => ((c.toNat : Int).toNat.toUInt8)) = id := by
    funext c
    simp
  show (List.map (fun c : UInt8 => ((c.toNat : Int).toNat.toUInt8)) b.toList).toArray = b
  rw [this]
  simp
theorem lets_in {l : List Int} (h : Lets l) : KBa.In l := fun x hx => by have := h x hx; omega
theorem bInts_make {l : List Int} (h : Lets l) : KBw.bInts (byteArr l) = l := KBa.ints_make (lets_in h)
theorem bInts_ap (n : Nat) : KBw.bInts (byteArr (apI n)) = apI n := bInts_make (apI_lets n)
theorem bytes_eq {b : Array UInt8} {l : List Int} (h : KBw.bInts b = l) : b = byteArr l := by rw [← h, byteArr_bInts]

abbrev apT : Array UInt8 := #[65, 66, 67, 68, 69, 70, 71, 72, 73, 74, 75, 76, 77, 78, 79, 80]
theorem apT_pick {m : Int} (h0 : 0 ≤ m) (h1 : m < 16) : KBy.picked apT (some m) (some (m + 1)) = byteArr [65 + m] := by
  have : m = 0 ∨ m = 1 ∨ m = 2 ∨ m = 3 ∨ m = 4 ∨ m = 5 ∨ m = 6 ∨ m = 7 ∨ m = 8 ∨ m = 9 ∨ m = 10 ∨ m = 11 ∨ m = 12 ∨ m = 13 ∨ m = 14 ∨ m = 15 := by omega
  rcases this with rfl | rfl | rfl | rfl | rfl | rfl | rfl | rfl | rfl | rfl | rfl | rfl | rfl | rfl | rfl | rfl <;> decide +kernel
section
variable {prog : Program} {w : World} {A : Around} {E : Value → Shared → Prop} {s : Shared} {value slice : PySem.Expr} {b : Array UInt8} {t : Tok} {h₀ : Heap} {L : Addr} {m : PySem.Str → Option Value} {news : List (Addr × Obj)} {l u : Value} {lo hi : Option Int} {Q : Value → Shared → Prop}
/-- one letter cut out of the table -/
theorem ap_cut {k : Int} {t1 t2 : Tok} (hF : Fr h₀ L s.heap m) (hN : News h₀ L s.heap news) (h0 : 0 ≤ k) (h1 : k < 16)
    (h : ∀ h' t' tk, Fr h₀ L h' m → News h₀ L h' news → KBw.bInts (byteArr [65 + k]) = [65 + k] → (byteArr [65 + k]).size = 1 → Q (.bytes (byteArr [65 + k]) t') { s with heap := h', toks := tk })
    (hs : subscripted slice false (.bytes apT t) (.ref s.heap.objs.size) = operate [.ref s.heap.objs.size, .bytes apT t] (getItem (.bytes apT t) (.ref s.heap.objs.size)) := by with_unfolding_all rfl)
    (ht : ∀ r, letTemporaryGo value (.bytes apT t) r = pure () := by intro _; with_unfolding_all rfl) :
    wpAny (model prog w) A (subscriptTail value slice (.bytes apT t) (.ref s.heap.objs.size)) Q E { s with heap := s.heap.push { cls := .type "slice", data := .fields #[.int k t1, .int (k + 1) t2, .none] } } := by
  refine KBc.slice_K (ks := KBw.bInts apT) hF hN rfl (by constructor) (by constructor) (by decide) (fun h' t' tk F' N' e => ?_) hs ht
  rw [apT_pick h0 h1]
  refine h h' t' tk F' N' ?_ (by rw [byteArr_size]; rfl)
  exact KBa.ints_make (fun x hx => by rw [List.mem_singleton.1 hx]; omega)
/-- max of two ints, as a letter -/
theorem max_var {a b : Int} {t u : Tok} (hh : A.handled = none) (F : Fr h₀ L s.heap m) (N : News h₀ L s.heap news)
    (h : ∀ (c : Int) (tc : Tok) (h' : Heap) (tk : Nat), a ≤ c → b ≤ c → (c = a ∨ c = b) → Fr h₀ L h' m → News h₀ L h' news → Q (.int c tc) { s with heap := h', toks := tk }) :
    wpAny (model prog w) A (call (.builtin "max") [.int a t, .int b u]) Q E s :=
  max_two_N hh F N fun h' tk F' N' => h _ _ h' tk (by split <;> omega) (by split <;> omega) (by split <;> simp) F' N'
end
end Mine

-- part P2
namespace Mine
theorem vl_cons (x : Int) (r : List Int) : vl (x :: r) = (x - 65) * 16 ^ r.length + vl r := by
  have := vl_app [x] r
  rw [show vl [x] = x - 65 by simp [vl]] at this
  exact this
/-- the letter's worth at place k from the right, 1 the last -/
def dgt (xs : List Int) (k : Int) : Int := if k ≤ (xs.length : Int) then xs.getD ((xs.length : Int) - k).toNat 0 - 65 else 0
theorem dgt_bound {xs : List Int} (h : Lets xs) (k : Int) (hk : 1 ≤ k) : 0 ≤ dgt xs k ∧ dgt xs k ≤ 15 := by
  unfold dgt
  split
  · rename_i hk'
    have hl : ((xs.length : Int) - k).toNat < xs.length := by omega
    have := h _ (List.getElem_mem hl)
    rw [List.getD_eq_getElem?_getD, List.getElem?_eq_getElem hl]
    simp only [Option.getD_some]
    omega
  · omega
/-- the count of the last k letters -/
def low (xs : List Int) (k : Nat) : Int := vl (xs.drop (xs.length - k))
theorem low_zero (xs : List Int) : low xs 0 = 0 := by simp [low, vl]
theorem low_all {xs : List Int} {k : Nat} (h : xs.length ≤ k) : low xs k = vl xs := by
  unfold low
  rw [show xs.length - k = 0 by omega, List.drop_zero]
theorem low_succ (xs : List Int) (k : Nat) : low xs (k + 1) = low xs k + dgt xs (1 + (k : Int)) * 16 ^ k := by
  unfold low dgt
  by_cases h : k + 1 ≤ xs.length
  · rw [if_pos (by omega)]
    have hl : xs.length - (k + 1) < xs.length := by omega
    rw [List.drop_eq_getElem_cons hl, vl_cons]
    have e1 : xs.length - (k + 1) + 1 = xs.length - k := by omega
    have e2 : ((xs.length : Int) - (1 + (k : Int))).toNat = xs.length - (k + 1) := by omega
    rw [e1, e2, List.length_drop, List.getD_eq_getElem?_getD, List.getElem?_eq_getElem hl]
    have e3 : xs.length - (xs.length - k) = k := by omega
    rw [e3]
    simp only [Option.getD_some]
    omega
  · rw [if_neg (by omega)]
    have e1 : xs.length - (k + 1) = 0 := by omega
    have e2 : xs.length - k = 0 := by omega
    rw [e1, e2]; omega
def DgtIs (xs : List Int) (k d : Int) : Prop := (k ≤ (xs.length : Int) ∧ d = xs.getD ((xs.length : Int) - k).toNat 0 - 65) ∨ (¬ k ≤ (xs.length : Int) ∧ d = 0)
theorem dgt_is (xs : List Int) (k : Int) : DgtIs xs k (dgt xs k) := by
  unfold DgtIs dgt
  split
  · rename_i h; exact .inl ⟨h, rfl⟩
  · rename_i h; exact .inr ⟨h, rfl⟩
def AddInv (xs ys : List Int) (k : Nat) (c : Int) (L : List Int) : Prop := vl L.reverse + c * 16 ^ k = low xs k + low ys k
theorem add_start (xs ys : List Int) : AddInv xs ys ([] : List Int).length 0 [] ∧ Lets [] ∧ ([] : List Int).length = ([] : List Int).length ∧ ((0 : Int) = 0 ∨ (0 : Int) = 1) := by
  refine ⟨?_, lets_nil, rfl, .inl rfl⟩
  show vl [] + 0 * 16 ^ 0 = low xs 0 + low ys 0
  rw [low_zero, low_zero]; rfl
theorem add_turn {xs ys B1 B2 pre L : List Int} {c k col c' x : Int} (hb1 : B1 = xs) (hb2 : B2 = ys) (hlx : Lets xs) (hly : Lets ys)
    (h : AddInv B1 B2 pre.length c L) (hL : Lets L) (hlen : L.length = pre.length) (hc : c = 0 ∨ c = 1) (hk : k = 1 + (pre.length : Int))
    (hx : x = 65 + col - 16 * c') (hcol : ∀ dx dy, DgtIs xs k dx → DgtIs ys k dy → col = c + dx + dy) (hc' : (col > 15 ∧ c' = 1) ∨ (col ≤ 15 ∧ c' = 0)) :
    AddInv B1 B2 (pre ++ [k]).length c' (L ++ [x]) ∧ Lets (L ++ [x]) ∧ (L ++ [x]).length = (pre ++ [k]).length ∧ (c' = 0 ∨ c' = 1) := by
  subst hb1 hb2 hk
  have b1 := dgt_bound hlx (1 + (pre.length : Int)) (by omega)
  have b2 := dgt_bound hly (1 + (pre.length : Int)) (by omega)
  have hc2 : c' = 0 ∨ c' = 1 := by omega
  have hcol := hcol _ _ (dgt_is _ _) (dgt_is _ _)
  refine ⟨?_, lets_snoc.2 ⟨hL, ?_, ?_⟩, by simp [hlen], hc2⟩
  · unfold AddInv at h ⊢
    rw [List.length_append, List.length_singleton, low_succ, low_succ, List.reverse_append, List.reverse_singleton, List.singleton_append, vl_cons, List.length_reverse, hlen, pow_succ16, hx, hcol]
    generalize dgt B1 (1 + (pre.length : Int)) = dx at *
    generalize dgt B2 (1 + (pre.length : Int)) = dy at *
    generalize (16 : Int) ^ pre.length = p at *
    have e : (65 + (c + dx + dy) - 16 * c' - 65) * p = c * p + dx * p + dy * p - 16 * (c' * p) := by
      rw [show 65 + (c + dx + dy) - 16 * c' - 65 = (c + dx + dy) - 16 * c' by omega, Int.sub_mul, Int.add_mul, Int.add_mul, Int.mul_assoc]
    rw [e, show c' * (16 * p) = 16 * (c' * p) by rw [Int.mul_left_comm]]
    omega
  · omega
  · omega
/-- what the columns end with is the sum's word -/
theorem add_end {x y n : Nat} {c : Int} {L : List Int} (h1 : (apI x).length ≤ n) (h2 : (apI y).length ≤ n) (h3 : n = (apI x).length ∨ n = (apI y).length)
    (h : AddInv (apI x) (apI y) n c L) (hL : Lets L) (hlen : L.length = n) (hc : c = 0 ∨ c = 1) :
    (if c = 0 then L.reverse else (L ++ [66]).reverse) = apI (x + y) := by
  unfold AddInv at h
  rw [low_all h1, low_all h2, vl_apI, vl_apI] at h
  rcases hc with rfl | rfl
  · rw [if_pos rfl]
    have e : vl L.reverse = ((x + y : Nat) : Int) := by omega
    have hl := apI_exact (l := L.reverse) (lets_rev.2 hL) ?_
    · rw [e, Int.toNat_natCast] at hl; exact hl.symm
    · rw [e, List.length_reverse, hlen]
      by_cases hn : n = 0
      · left; have : L = [] := List.length_eq_zero_iff.1 (by omega)
        rw [this]; rfl
      · right
        rcases h3 with h3 | h3
        · have : x ≠ 0 := by rintro rfl; rw [apI_zero] at h3; simp at h3; omega
          have := apI_ge this
          rw [← h3] at this
          omega
        · have : y ≠ 0 := by rintro rfl; rw [apI_zero] at h3; simp at h3; omega
          have := apI_ge this
          rw [← h3] at this
          omega
  · rw [if_neg (by decide), List.reverse_append, List.reverse_singleton, List.singleton_append]
    have e : vl (66 :: L.reverse) = ((x + y : Nat) : Int) := by
      rw [vl_cons, List.length_reverse, hlen]; omega
    have hl := apI_exact (l := 66 :: L.reverse) (fun z hz => ?_) ?_
    · rw [e, Int.toNat_natCast] at hl; exact hl.symm
    · rcases List.mem_cons.1 hz with rfl | hz
      · omega
      · exact lets_rev.2 hL z hz
    · right
      rw [e, List.length_cons, List.length_reverse, hlen, Nat.add_sub_cancel]
      have := vl_bound (lets_rev.2 hL)
      omega

def TakeInv (xs ys : List Int) (k : Nat) (b : Int) (L : List Int) : Prop := vl L.reverse - b * 16 ^ k = low xs k - low ys k
theorem take_start (xs ys : List Int) : TakeInv xs ys ([] : List Int).length 0 [] ∧ Lets [] ∧ ([] : List Int).length = ([] : List Int).length ∧ ((0 : Int) = 0 ∨ (0 : Int) = 1) := by
  refine ⟨?_, lets_nil, rfl, .inl rfl⟩
  show vl [] - 0 * 16 ^ 0 = low xs 0 - low ys 0
  rw [low_zero, low_zero]; rfl
theorem take_turn {xs ys B1 B2 pre L : List Int} {c k col c' x : Int} (hb1 : B1 = xs) (hb2 : B2 = ys) (hlx : Lets xs) (hly : Lets ys)
    (h : TakeInv B1 B2 pre.length c L) (hL : Lets L) (hlen : L.length = pre.length) (hc : c = 0 ∨ c = 1) (hk : k = 1 + (pre.length : Int))
    (hx : x = 65 + col + 16 * c') (hcol : ∀ dx dy, DgtIs xs k dx → DgtIs ys k dy → col = dx - c - dy) (hc' : (col < 0 ∧ c' = 1) ∨ (0 ≤ col ∧ c' = 0)) :
    TakeInv B1 B2 (pre ++ [k]).length c' (L ++ [x]) ∧ Lets (L ++ [x]) ∧ (L ++ [x]).length = (pre ++ [k]).length ∧ (c' = 0 ∨ c' = 1) := by
  subst hb1 hb2 hk
  have b1 := dgt_bound hlx (1 + (pre.length : Int)) (by omega)
  have b2 := dgt_bound hly (1 + (pre.length : Int)) (by omega)
  have hc2 : c' = 0 ∨ c' = 1 := by omega
  have hcol := hcol _ _ (dgt_is _ _) (dgt_is _ _)
  refine ⟨?_, lets_snoc.2 ⟨hL, ?_, ?_⟩, by simp [hlen], hc2⟩
  · unfold TakeInv at h ⊢
    rw [List.length_append, List.length_singleton, low_succ, low_succ, List.reverse_append, List.reverse_singleton, List.singleton_append, vl_cons, List.length_reverse, hlen, pow_succ16, hx, hcol]
    generalize dgt B1 (1 + (pre.length : Int)) = dx at *
    generalize dgt B2 (1 + (pre.length : Int)) = dy at *
    generalize (16 : Int) ^ pre.length = p at *
    have e : (65 + (dx - c - dy) + 16 * c' - 65) * p = dx * p - c * p - dy * p + 16 * (c' * p) := by
      rw [show 65 + (dx - c - dy) + 16 * c' - 65 = (dx - c - dy) + 16 * c' by omega, Int.add_mul, Int.sub_mul, Int.sub_mul, Int.mul_assoc]
    rw [e, show c' * (16 * p) = 16 * (c' * p) by rw [Int.mul_left_comm]]
    omega
  · omega
  · omega
theorem bare_snoc_rev {L : List Int} {x : Int} (h : x = 65) : bare (L ++ [x]).reverse = bare L.reverse := by
  subst h; simp [bare]
theorem take_end {x y : Nat} {c : Int} {L M : List Int} (hxy : y ≤ x)
    (h : TakeInv (apI x) (apI y) (apI x).length c L) (hL : Lets L) (hlen : L.length = (apI x).length) (hc : c = 0 ∨ c = 1)
    (hM : bare M.reverse = bare L.reverse) (hd : M = [] ∨ ∀ z, M.getLast? = some z → z ≠ 65) : M.reverse = apI (x - y) := by
  have hyl : (apI y).length ≤ (apI x).length := by
    refine apI_len ?_
    have hb := vl_bound (apI_lets x)
    rw [vl_apI] at hb
    have e : ((16 ^ (apI x).length : Nat) : Int) = (16 : Int) ^ (apI x).length := by simp
    omega
  unfold TakeInv at h
  rw [low_all (Nat.le_refl _), low_all hyl, vl_apI, vl_apI] at h
  have hb := vl_bound (lets_rev.2 hL)
  rw [List.length_reverse, hlen] at hb
  have hc0 : c = 0 := by
    rcases hc with rfl | rfl
    · rfl
    · exfalso; omega
  subst hc0
  have e : vl L.reverse = ((x - y : Nat) : Int) := by omega
  have h1 := apI_vl (lets_rev.2 hL)
  rw [e, Int.toNat_natCast] at h1
  rw [h1, ← hM]
  rcases hd with rfl | hd
  · rfl
  · cases hM' : M.reverse with
    | nil => rfl
    | cons z r =>
      have hz : M.getLast? = some z := by
        have : M = (z :: r).reverse := by rw [← hM', List.reverse_reverse]
        rw [this]; simp
      have := hd z hz
      simp [bare, this]
end Mine

-- part MS
namespace Mine
theorem clip_nn {n : Nat} {i : Int} (h : 0 ≤ i) : clipAt n i = min i.toNat n := by
  have : i = (i.toNat : Int) := by omega
  rw [this, clipAt_nat]; omega
section
variable {prog : Program} {w : World} {A : Around} {E : Value → Shared → Prop} {s : Shared} {value slice : PySem.Expr} {b : Array UInt8} {t : Tok} {h₀ : Heap} {L : Addr} {m : PySem.Str → Option Value} {news : List (Addr × Obj)} {Q : Value → Shared → Prop} {ks : List Int}
/-- b[:k] -/
theorem cut_to {k : Int} {t1 : Tok} (hF : Fr h₀ L s.heap m) (hN : News h₀ L s.heap news) (hb : KBw.bInts b = ks) (h0 : 0 ≤ k) (hz : ks.length ≤ 16777216)
    (h : ∀ (c : Array UInt8) (ls : List Int) h' t' tk, Fr h₀ L h' m → News h₀ L h' news → KBw.bInts c = ls → ls = ks.take k.toNat → ls.length ≤ ks.length → Q (.bytes c t') { s with heap := h', toks := tk })
    (hs : subscripted slice false (.bytes b t) (.ref s.heap.objs.size) = operate [.ref s.heap.objs.size, .bytes b t] (getItem (.bytes b t) (.ref s.heap.objs.size)) := by with_unfolding_all rfl)
    (ht : ∀ r, letTemporaryGo value (.bytes b t) r = pure () := by intro _; with_unfolding_all rfl) :
    wpAny (model prog w) A (subscriptTail value slice (.bytes b t) (.ref s.heap.objs.size)) Q E { s with heap := s.heap.push { cls := .type "slice", data := .fields #[.none, .int k t1, .none] } } := by
  refine KBc.slice_K hF hN hb (by constructor) (by constructor) hz (fun h' t' tk F' N' e => ?_) hs ht
  refine h _ _ h' t' tk F' N' e ?_ ?_
  · simp only [Option.elim, List.drop_zero, Nat.sub_zero, clip_nn h0]
    rw [Nat.min_comm, ← List.take_take, List.take_of_length_le (by rw [List.length_take]; omega)]
  · simp only [Option.elim, List.drop_zero, Nat.sub_zero, List.length_take]; omega
/-- b[k:] -/
theorem cut_from {k : Int} {t1 : Tok} (hF : Fr h₀ L s.heap m) (hN : News h₀ L s.heap news) (hb : KBw.bInts b = ks) (h0 : 0 ≤ k) (hz : ks.length ≤ 16777216)
    (h : ∀ (c : Array UInt8) (ls : List Int) h' t' tk, Fr h₀ L h' m → News h₀ L h' news → KBw.bInts c = ls → ls = ks.drop k.toNat → ls.length ≤ ks.length → Q (.bytes c t') { s with heap := h', toks := tk })
    (hs : subscripted slice false (.bytes b t) (.ref s.heap.objs.size) = operate [.ref s.heap.objs.size, .bytes b t] (getItem (.bytes b t) (.ref s.heap.objs.size)) := by with_unfolding_all rfl)
    (ht : ∀ r, letTemporaryGo value (.bytes b t) r = pure () := by intro _; with_unfolding_all rfl) :
    wpAny (model prog w) A (subscriptTail value slice (.bytes b t) (.ref s.heap.objs.size)) Q E { s with heap := s.heap.push { cls := .type "slice", data := .fields #[.int k t1, .none, .none] } } := by
  refine KBc.slice_K hF hN hb (by constructor) (by constructor) hz (fun h' t' tk F' N' e => ?_) hs ht
  refine h _ _ h' t' tk F' N' e ?_ ?_
  · simp only [Option.elim, clip_nn h0]
    by_cases hk : k.toNat ≤ ks.length
    · rw [Nat.min_eq_left hk, List.take_of_length_le (by rw [List.length_drop]; omega)]
    · rw [Nat.min_eq_right (by omega), List.drop_of_length_le (Nat.le_refl _), List.drop_of_length_le (by omega)]; simp
  · simp only [Option.elim, List.length_take, List.length_drop]; omega
theorem bytes_beq {b c : Array UInt8} {ls ms : List Int} (hb : KBw.bInts b = ls) (hc : KBw.bInts c = ms) : (b.toList == c.toList) = decide (ls = ms) := by
  subst hb hc
  by_cases h : b.toList = c.toList
  · have : KBw.bInts b = KBw.bInts c := by unfold KBw.bInts; rw [h]
    simp [h, this]
  · have : KBw.bInts b ≠ KBw.bInts c := fun e => h (by
      have e2 := congrArg byteArr e
      rw [byteArr_bInts, byteArr_bInts] at e2
      rw [e2])
    rw [beq_eq_false_iff_ne.2 h, decide_eq_false this]
/-- == of two bytes -/
theorem eq_ints {c : Array UInt8} {ls ms : List Int} {u : Tok} (hb : KBw.bInts b = ls) (hc : KBw.bInts c = ms) (h : Q (.bool (decide (ls = ms))) s) : wpAny (model prog w) A (compareOp .Eq (.bytes b t) (.bytes c u)) Q E s :=
  eq_bytes (by rw [bytes_beq hb hc]; exact h)
theorem ne_ints {c : Array UInt8} {ls ms : List Int} {u : Tok} (hb : KBw.bInts b = ls) (hc : KBw.bInts c = ms) (h : Q (.bool (decide (ls ≠ ms))) s) : wpAny (model prog w) A (compareOp .NotEq (.bytes b t) (.bytes c u)) Q E s :=
  ne_bytes (by rw [bne, bytes_beq hb hc, ← decide_not]; exact h)
end
section
variable {prog : Program} {w : World} {A : Around} {E : Value → Shared → Prop} {s : Shared} {h₀ : Heap} {L : Addr} {m : PySem.Str → Option Value} {news : List (Addr × Obj)} {Q : Value → Shared → Prop}
/-- divmod, its tuple's address above all others -/
theorem divmod_lt {a b : Int} {t u : Tok} (F : Fr h₀ L s.heap m) (N : News h₀ L s.heap news) (hb : b ≠ 0)
    (h : ∀ (D : Addr) (t1 t2 : Tok) (h' : Heap) (tk : Nat), Fr h₀ L h' m → News h₀ L h' ((D, { cls := .type "tuple", data := .seq #[.int (a.fdiv b) t1, .int (a.fmod b) t2] }) :: news) → (∀ p ∈ news, p.1 < D) → Q (.ref D) { s with heap := h', toks := tk })
    (hp : Builtin.divisionGoesByPylong a b = false ∨ PySem.PylongRoom (model prog w) A s) :
    wpAny (model prog w) A (call (.builtin "divmod") [.int a t, .int b u]) Q E s :=
  divmod_N F N hb (fun h' F' N' => h _ _ _ h' _ F' N' fun p hp => Heap.lt_size (N p hp).1) hp
end
theorem take_one {ks : List Int} (h : ks.take 1 = [65]) : ∃ r, ks = 65 :: r := by
  cases ks with
  | nil => simp at h
  | cons x r => simp at h; exact ⟨r, by rw [h]⟩
theorem bare_drop {ks : List Int} (h : ks.take 1 = [65]) : bare (ks.drop 1) = bare ks := by
  obtain ⟨r, rfl⟩ := take_one h
  simp [bare]
theorem bare_stop {ks : List Int} (h : ¬ ks.take 1 = [65]) : bare ks = ks := by
  cases ks with
  | nil => rfl
  | cons x r => simp at h; simp [bare, h]
theorem drop_falls {ks : List Int} (h : ks.take 1 = [65]) : (ks.drop 1).length < ks.length := by
  obtain ⟨r, rfl⟩ := take_one h
  simp
end Mine

-- part C3
namespace Mine
def WInv (n0 num : Int) (val : Array UInt8) : Prop := 0 ≤ num ∧ (apI n0.toNat).length ≤ 1000 ∧ apI num.toNat ++ KBw.bInts val = apI n0.toNat
theorem w_start {n n0 : Int} (h : (apI n.natAbs).length ≤ 1000) (e : n0.toNat = n.natAbs) (h0 : 0 ≤ n0) : WInv n0 n0 #[] ∧ (#[] : Array UInt8).size ≤ 1000 :=
  ⟨⟨h0, by rw [e]; exact h, by simp [KBw.bInts]⟩, by simp⟩
theorem w_turn {n0 num k : Int} {val : Array UInt8} (h : WInv n0 num val) (hne : num ≠ 0) (hk : k = num.fmod 16) : WInv n0 (num.fdiv 16) (byteArr [65 + k] ++ val) ∧ (byteArr [65 + k] ++ val).size ≤ 1000 := by
  subst hk
  obtain ⟨h0, hl, he⟩ := h
  have e1 : (num.fdiv 16).toNat = num.toNat / 16 := by
    rw [Int.fdiv_eq_ediv_of_nonneg _ (by decide)]; omega
  have e2 : (65 : Int) + num.fmod 16 = 65 + ((num.toNat % 16 : Nat) : Int) := by
    rw [Int.fmod_eq_emod_of_nonneg _ (by decide)]; omega
  have hb : KBw.bInts (byteArr [65 + num.fmod 16]) = [65 + num.fmod 16] :=
    KBa.ints_make (fun x hx => by rw [List.mem_singleton.1 hx]; rw [Int.fmod_eq_emod_of_nonneg _ (by decide)]; omega)
  have key : apI (num.fdiv 16).toNat ++ KBw.bInts (byteArr [65 + num.fmod 16] ++ val) = apI n0.toNat := by
    rw [KBw.ints_app hb rfl, e1, e2, ← he, apI_pos (n := num.toNat) (by omega)]
    simp
  refine ⟨⟨by rw [Int.fdiv_eq_ediv_of_nonneg _ (by decide)]; omega, hl, key⟩, ?_⟩
  have := congrArg List.length key
  rw [List.length_append, KBw.ints_length] at this
  omega
theorem w_end {n0 num : Int} {n : Nat} {val : Array UInt8} (h : WInv n0 num val) (e : num = 0) (hn : n0.toNat = n) : val = byteArr (apI n) := by
  subst e
  obtain ⟨_, _, he⟩ := h
  rw [show (0 : Int).toNat = 0 from rfl, apI_zero, List.nil_append] at he
  rw [← hn]
  exact bytes_eq he
theorem w_fall {num : Int} (h : 0 ≤ num) (hne : num ≠ 0) : (num.fdiv 16).toNat < num.toNat := by
  rw [Int.fdiv_eq_ediv_of_nonneg _ (by decide)]; omega
theorem w_nn {n0 num : Int} {val : Array UInt8} (h : WInv n0 num val) : 0 ≤ num := h.1
theorem cb_retBy {h₀ h' : Heap} {L : Addr} {m : Str → Option Value} {news : List (Addr × Obj)} {s : Shared} {Q : Value → Shared → Prop} {t : Tok} {tk' : Nat} {x y : Array UInt8} (hret : ∀ (t : Tok) (h' : Heap) (tk' : Nat), Fr h₀ L h' m → News h₀ L h' news → Q (.bytes x t) { s with heap := h', toks := tk' }) (e : y = x) (F : Fr h₀ L h' m) (N : News h₀ L h' news) : Q (.bytes y t) { s with heap := h', toks := tk' } := by
  subst e
  exact hret t h' tk' F N

local macro_rules | `(tactic| walk_at "subscriptTail") => `(tactic| (k_here; (with_reducible show wpAny _ _ (subscriptTail _ (Expr.Slice _ _ none _) (Value.bytes #[65, 66, 67, 68, 69, 70, 71, 72, 73, 74, 75, 76, 77, 78, 79, 80] _) (Value.ref _)) _ _ _); (with_reducible rename Fr _ _ _ _ => F'); (with_reducible rename News _ _ _ _ => N'); (refine ap_cut (s := ⟨_, _, _, _, _⟩) F' N' (fmod_lo _ (by decide)) (fmod_hi _ (by decide)) ?_); intro _ _ _ _ _ apK apS))

theorem int2ap_c (w : World) (s₀ : Shared) (mg mb : Str → Option Value) (news : List (Addr × Obj)) (n : Int) (t : Tok) :
    CbClaim Challenge.rw_dm0169_03.row.prog w (hd3.heap_39 w.params) hd3.view_39 (looseW hd3.view_39 []) (ExcName.means s₀.heap) mg mb 21 news [] ((apI n.natAbs).length ≤ 1000) [.int n t] (fun u => .bytes (byteArr (apI n.natAbs)) u) := by
  k_fill
  w_top off
  k_with_none
  k_with "exec While Name cons nil" => k_while_given ["num!"] (fun n0 script num val => WInv n0 num val ∧ val.size ≤ 1000) (fun n0 script num val => num.toNat) "num" "val"
  k_with "state" => first | exact w_start (by assumption) (by split <;> omega) (by split <;> omega) | exact w_turn (by assumption) (by assumption) rfl
  k_with "measure" => exact w_fall (w_nn (by assumption)) (by assumption)
  dsimp only [CbClaim, CbLists, CbRet]
  intros
  rename_i hret
  refine wpAny_call ?_
  k_dflt cell_enter
  k_steps
  exact cb_retBy hret (w_end (by assumption) (by assumption) (by split <;> omega)) (by k_asm) (by k_asm)
end Mine

-- part B3
namespace Mine
local macro_rules | `(tactic| walk_at "subscriptTail") => `(tactic| (k_here; (with_reducible show wpAny _ _ (subscriptTail _ (Expr.Slice none (some _) none _) (Value.bytes _ _) (Value.ref _)) _ _ _); (with_reducible rename Fr _ _ _ _ => F'); (with_reducible rename News _ _ _ _ => N'); (refine cut_to (s := ⟨_, _, _, _, _⟩) F' N' (by first | assumption | exact rfl) (by first | decide | omega) (by first | omega | (rw [KBw.ints_length]; omega)) ?_); intro ctC ctL _ _ _ _ _ ctB ctE ctZ))
local macro_rules | `(tactic| walk_at "subscriptTail") => `(tactic| (k_here; (with_reducible show wpAny _ _ (subscriptTail _ (Expr.Slice (some _) none none _) (Value.bytes _ _) (Value.ref _)) _ _ _); (with_reducible rename Fr _ _ _ _ => F'); (with_reducible rename News _ _ _ _ => N'); (refine cut_from (s := ⟨_, _, _, _, _⟩) F' N' (by first | assumption | exact rfl) (by first | decide | omega) (by first | omega | (rw [KBw.ints_length]; omega)) ?_); intro ctC ctL _ _ _ _ _ ctB ctE ctZ))
local macro_rules | `(tactic| walk_at "compareOp Eq bytes bytes") => `(tactic| (k_here; (with_reducible show wpAny _ _ (compareOp CmpOp.Eq (Value.bytes _ _) (Value.bytes _ _)) _ _ _); k_dflt (refine' eq_ints (ms := [65]) ?ka ?kb ?_; (case ka => assumption); (case kb => exact rfl))))
def BInv (w0 word : Array UInt8) : Prop := bare (KBw.bInts word) = bare (KBw.bInts w0)
theorem b_start {w0 : Array UInt8} {xs : List Int} (hb : KBw.bInts w0 = xs) (h : xs.length ≤ 900) : BInv w0 w0 ∧ w0.size ≤ 900 := ⟨rfl, by rw [← KBw.ints_length, hb]; exact h⟩
theorem b_turn {w0 word c : Array UInt8} {ls ms : List Int} (h : BInv w0 word) (hz : word.size ≤ 900) (he : ms = (KBw.bInts word).take (1 : Int).toNat) (h65 : ms = [65]) (hc : KBw.bInts c = ls) (e : ls = (KBw.bInts word).drop (1 : Int).toNat) : BInv w0 c ∧ c.size ≤ 900 := by
  have h1 : (KBw.bInts word).take 1 = [65] := by rw [← h65, he]; rfl
  have h2 : KBw.bInts c = (KBw.bInts word).drop 1 := by rw [hc, e]; rfl
  refine ⟨?_, ?_⟩
  · unfold BInv at h ⊢
    rw [h2, bare_drop h1, h]
  · rw [← KBw.ints_length, h2]
    have := drop_falls h1
    rw [KBw.ints_length] at this
    omega
theorem b_fall {word c : Array UInt8} {ls ms : List Int} (he : ms = (KBw.bInts word).take (1 : Int).toNat) (h65 : ms = [65]) (hc : KBw.bInts c = ls) (e : ls = (KBw.bInts word).drop (1 : Int).toNat) : c.size < word.size := by
  have h1 : (KBw.bInts word).take 1 = [65] := by rw [← h65, he]; rfl
  have h2 : KBw.bInts c = (KBw.bInts word).drop 1 := by rw [hc, e]; rfl
  rw [← KBw.ints_length, ← KBw.ints_length, h2]
  exact drop_falls h1
theorem b_end {w0 word : Array UInt8} {xs ms : List Int} (hb : KBw.bInts w0 = xs) (h : BInv w0 word) (he : ms = (KBw.bInts word).take (1 : Int).toNat) (h65 : ¬ ms = [65]) : word = byteArr (bare xs) := by
  refine bytes_eq ?_
  unfold BInv at h
  rw [← hb, ← h, bare_stop]
  intro h1
  apply h65
  rw [he]; exact h1
theorem bare_c (w : World) (s₀ : Shared) (mg mb : Str → Option Value) (news : List (Addr × Obj)) (xs : List Int) (b1 : Array UInt8) (t1 : Tok) :
    CbClaim Challenge.rw_dm0169_03.row.prog w (hd3.heap_39 w.params) hd3.view_39 (looseW hd3.view_39 []) (ExcName.means s₀.heap) mg mb 28 news [] (KBw.bInts b1 = xs ∧ xs.length ≤ 900) [.bytes b1 t1] (fun u => .bytes (byteArr (bare xs)) u) := by
  k_fill
  w_top off
  k_with_none
  k_with "exec While Compare cons nil" => k_while_given ["word!"] (fun w0 script word => BInv w0 word ∧ word.size ≤ 900) (fun w0 script word => word.size) "word"
  k_with "state" => first | exact b_start (by assumption) (by assumption) | exact b_turn (by assumption) (by assumption) (by assumption) (by assumption) (by assumption) (by assumption)
  k_with "measure" => exact b_fall (by assumption) (by assumption) (by assumption) (by assumption)
  dsimp only [CbClaim, CbLists, CbRet]
  intros
  rename_i hpre _ _ hret
  obtain ⟨hb1, hl1⟩ := hpre
  have hI0 : IntsAre [] [] := .nil
  refine wpAny_call ?_
  k_dflt cell_enter
  k_steps
  exact cb_retBy hret (b_end hb1 (by assumption) (by assumption) (by assumption)) (by k_asm) (by k_asm)
end Mine

-- part P3
namespace Mine
/-- the columns' count -/
def cv : List Int → Int
  | [] => 0
  | c :: r => c + 16 * cv r
theorem cv_snoc (l : List Int) (c : Int) : cv (l ++ [c]) = cv l + c * 16 ^ l.length := by
  induction l with
  | nil => simp [cv]
  | cons x r ih =>
    rw [List.cons_append, cv, ih, cv, List.length_cons, pow_succ16]
    rw [show c * (16 * 16 ^ r.length) = 16 * (c * 16 ^ r.length) by rw [Int.mul_left_comm]]
    omega
theorem cv_zeros (n : Nat) : cv (List.replicate n 0) = 0 := by
  induction n with
  | zero => rfl
  | succ n ih => rw [List.replicate_succ, cv, ih]; rfl
theorem cv_set : ∀ (l : List Int) (i : Nat) (d : Int), i < l.length → cv (l.set i (l.getD i 0 + d)) = cv l + d * 16 ^ i
  | [], i, _, h => absurd h (Nat.not_lt_zero _)
  | x :: r, 0, d, _ => by simp [cv]; omega
  | x :: r, i + 1, d, h => by
    have ih := cv_set r i d (Nat.lt_of_succ_lt_succ h)
    show x + 16 * cv (r.set i (r.getD i 0 + d)) = x + 16 * cv r + d * 16 ^ (i + 1)
    rw [ih, pow_succ16, show d * (16 * 16 ^ i) = 16 * (d * 16 ^ i) by rw [Int.mul_left_comm]]
    omega
/-- the count of the first k letters at their places -/
def hi (xs : List Int) (k : Nat) : Int := vl (xs.take k) * 16 ^ (xs.length - k)
theorem hi_zero (xs : List Int) : hi xs 0 = 0 := by simp [hi, vl]
theorem hi_all (xs : List Int) : hi xs xs.length = vl xs := by simp [hi]
theorem hi_succ (xs : List Int) (k : Nat) (h : k < xs.length) : hi xs (k + 1) = hi xs k + (xs.getD k 0 - 65) * 16 ^ (xs.length - 1 - k) := by
  unfold hi
  have e : xs.take (k + 1) = xs.take k ++ [xs.getD k 0] := by
    rw [List.take_add_one, List.getElem?_eq_getElem h, List.getD_eq_getElem?_getD, List.getElem?_eq_getElem h]; rfl
  rw [e, vl_snoc]
  have e1 : xs.length - k = (xs.length - 1 - k) + 1 := by omega
  have e2 : xs.length - (k + 1) = xs.length - 1 - k := by omega
  rw [e1, e2, pow_succ16]
  generalize (16 : Int) ^ (xs.length - 1 - k) = p
  generalize vl (xs.take k) = v
  rw [Int.add_mul, Int.mul_assoc, Int.mul_left_comm]
theorem pow_add16 (a b : Nat) : (16 : Int) ^ (a + b) = 16 ^ a * 16 ^ b := Int.pow_add 16 a b
def ProdO (xs ys : List Int) (k : Nat) (cols : List Int) : Prop := cv cols = hi xs k * vl ys
def ProdI (xs ys : List Int) (i : Nat) (c0 : List Int) (j : Nat) (cols : List Int) : Prop := cv cols = cv c0 + (xs.getD i 0 - 65) * 16 ^ (xs.length - 1 - i) * hi ys j
theorem prod_start (xs ys : List Int) (n : Nat) : ProdO xs ys 0 (List.replicate n 0) := by
  unfold ProdO; rw [cv_zeros, hi_zero]; omega
theorem prodI_start (xs ys : List Int) (i : Nat) (c0 : List Int) : ProdI xs ys i c0 0 c0 := by
  unfold ProdI; rw [hi_zero]; omega
theorem prodI_turn {xs ys c0 cols : List Int} {i j : Nat} {k : Nat} {d : Int} (h : ProdI xs ys i c0 j cols) (hi' : i < xs.length) (hj : j < ys.length) (hk : k = xs.length - 1 - i + (ys.length - 1 - j)) (hl : k < cols.length) (hd : d = (xs.getD i 0 - 65) * (ys.getD j 0 - 65)) :
    ProdI xs ys i c0 (j + 1) (cols.set k (cols.getD k 0 + d)) := by
  unfold ProdI at h ⊢
  rw [cv_set _ _ _ hl, h, hi_succ ys j hj, hk, hd, pow_add16]
  generalize (16 : Int) ^ (xs.length - 1 - i) = p
  generalize (16 : Int) ^ (ys.length - 1 - j) = q
  generalize xs.getD i 0 - 65 = a
  generalize ys.getD j 0 - 65 = b
  rw [Int.mul_add, show a * p * (b * q) = a * b * (p * q) by rw [Int.mul_assoc, Int.mul_left_comm p, ← Int.mul_assoc]]
  omega
theorem prodO_turn {xs ys c0 cols : List Int} {i : Nat} (h0 : ProdO xs ys i c0) (h : ProdI xs ys i c0 ys.length cols) (hi' : i < xs.length) : ProdO xs ys (i + 1) cols := by
  unfold ProdO ProdI at *
  rw [h, h0, hi_succ xs i hi', hi_all, Int.add_mul]
def CarInv (pre : List Int) (c : Int) (L : List Int) : Prop := vl L.reverse + c * 16 ^ pre.length = cv pre
theorem car_start : CarInv [] 0 [] := by unfold CarInv; rfl
theorem car_turn {pre L : List Int} {c col q f : Int} (h : CarInv pre c L) (hlen : L.length = pre.length) (hq : q = (col + c).fdiv 16) (hf : f = (col + c).fmod 16) : CarInv (pre ++ [col]) q (L ++ [65 + f]) := by
  unfold CarInv at h ⊢
  rw [cv_snoc, ← h, List.reverse_append, List.reverse_singleton, List.singleton_append, vl_cons, List.length_reverse, hlen, List.length_append, List.length_singleton, pow_succ16]
  have e : col + c = 16 * q + f := by
    rw [hq, hf, Int.fdiv_eq_ediv_of_nonneg _ (by decide), Int.fmod_eq_emod_of_nonneg _ (by decide)]; omega
  generalize (16 : Int) ^ pre.length = p
  have e2 : (65 + f - 65) * p = col * p + c * p - 16 * (q * p) := by
    rw [show 65 + f - 65 = col + c - 16 * q by omega, Int.sub_mul, Int.add_mul, Int.mul_assoc]
  rw [e2, show q * (16 * p) = 16 * (q * p) by rw [Int.mul_left_comm]]
  omega
theorem car_let {a f : Int} (hf : f = a.fmod 16) : 65 ≤ 65 + f ∧ 65 + f ≤ 80 := by
  rw [hf, Int.fmod_eq_emod_of_nonneg _ (by decide)]; omega
theorem prod_end {x y : Nat} {cols L : List Int} {c : Int} (h : ProdO (apI x) (apI y) (apI x).length cols) (hl : cols.length = (apI x).length + (apI y).length) (hc : CarInv cols c L) (hL : Lets L) (hlen : L.length = cols.length) : bare L.reverse = apI (x * y) := by
  unfold ProdO at h
  unfold CarInv at hc
  rw [h, hi_all, vl_apI, vl_apI, hl, pow_add16] at hc
  have b := vl_bound (lets_rev.2 hL)
  rw [List.length_reverse, hlen, hl, pow_add16] at b
  have bx := vl_bound (apI_lets x)
  have bY := vl_bound (apI_lets y)
  rw [vl_apI] at bx bY
  have hb : (x : Int) * y < 16 ^ (apI x).length * 16 ^ (apI y).length := by
    have h1 : (x : Int) * y ≤ (x : Int) * 16 ^ (apI y).length := Int.mul_le_mul_of_nonneg_left (by omega) (by omega)
    have h2 : (x : Int) * 16 ^ (apI y).length < 16 ^ (apI x).length * 16 ^ (apI y).length := Int.mul_lt_mul_of_pos_right bx.2 (pow16_pos _)
    omega
  have hn : 0 ≤ (x : Int) * y := Int.mul_nonneg (by omega) (by omega)
  generalize (16 : Int) ^ (apI x).length * 16 ^ (apI y).length = P at *
  have hc0 : c = 0 := by
    rcases Int.lt_trichotomy c 0 with h' | h' | h'
    · have : c * P ≤ -1 * P := Int.mul_le_mul_of_nonneg_right (by omega) (by omega)
      omega
    · exact h'
    · have : 1 * P ≤ c * P := Int.mul_le_mul_of_nonneg_right (by omega) (by omega)
      omega
  subst hc0
  rw [← apI_vl (lets_rev.2 hL)]
  congr 1
  have : vl L.reverse = ((x * y : Nat) : Int) := by rw [Int.natCast_mul]; omega
  omega
end Mine

-- part U3
namespace Mine
open PySem.Spec PySem.Calls
theorem lets_bare {l : List Int} (h : Lets l) : Lets (bare l) := fun x hx => h x ((List.dropWhile_sublist _).subset hx)
theorem bare_len (l : List Int) : (bare l).length ≤ l.length := (List.dropWhile_sublist _).length_le
section
variable {w : World} {s₀ : Shared} {mg mb : Str → Option Value} {news : List (Addr × Obj)} {dp un : Nat} {gd : Option (List Code)} {cn : Str} {cs : Scope} {a : Addr} {ccd : Value} {cl : List (Str × Addr)} {outer : List Env} {A₀ : Around} {base h₀ : Heap} {L : Addr} {m : Str → Option Value} {s : Shared} {Q E : Value → Shared → Prop}
theorem int2ap_use {n : Int} {t : Tok} (B : Below A₀ base outer h₀) (F : Fr h₀ L s.heap m) (X : (hd3.heap_39 w.params).In h₀) (N : News h₀ L s.heap news) (T : Top hd3.view_39 (looseW hd3.view_39 []) (ExcName.means s₀.heap) mg mb h₀) (hk : cs.kind = .function)
    (hp : (apI n.natAbs).length ≤ 900) (hd : dp + 1 < recursionLimit) (hu : un + 8 < cLine)
    (ret : ∀ (b : Array UInt8) (ks : List Int) (t : Tok) (h' : Heap) (tk' : Nat), KBw.bInts b = ks → ks = apI n.natAbs → ks.length ≤ 900 → Fr h₀ L h' m → News h₀ L h' news → Q (.bytes b t) { s with heap := h', toks := tk' }) :
    wpAny (model Challenge.rw_dm0169_03.row.prog w) (ktrTop dp un gd cn cs L a ccd cl outer) (call (.ref 21) [.int n t]) Q E s :=
  int2ap_c w s₀ mg mb news n t dp un gd cn cs a ccd cl outer A₀ base h₀ L m s Q E B F X N T hk (Nat.le_trans hp (by decide)) hd hu fun t h' tk' F' N' => ret _ _ t h' tk' (bInts_ap _) rfl hp F' N'
theorem bare_use {b1 : Array UInt8} {xs : List Int} {t1 : Tok} (B : Below A₀ base outer h₀) (F : Fr h₀ L s.heap m) (X : (hd3.heap_39 w.params).In h₀) (N : News h₀ L s.heap news) (T : Top hd3.view_39 (looseW hd3.view_39 []) (ExcName.means s₀.heap) mg mb h₀) (hk : cs.kind = .function)
    (hb1 : KBw.bInts b1 = xs) (hl1 : xs.length ≤ 900) (hx : Lets xs) (hd : dp + 1 < recursionLimit) (hu : un + 8 < cLine)
    (ret : ∀ (b : Array UInt8) (ks : List Int) (t : Tok) (h' : Heap) (tk' : Nat), KBw.bInts b = ks → ks = bare xs → ks.length ≤ 900 → Fr h₀ L h' m → News h₀ L h' news → Q (.bytes b t) { s with heap := h', toks := tk' }) :
    wpAny (model Challenge.rw_dm0169_03.row.prog w) (ktrTop dp un gd cn cs L a ccd cl outer) (call (.ref 28) [.bytes b1 t1]) Q E s :=
  bare_c w s₀ mg mb news xs b1 t1 dp un gd cn cs a ccd cl outer A₀ base h₀ L m s Q E B F X N T hk ⟨hb1, hl1⟩ hd hu fun t h' tk' F' N' => ret _ _ t h' tk' (bInts_make (lets_bare hx)) rfl (Nat.le_trans (bare_len xs) hl1) F' N'
end
end Mine

-- part R3
namespace Mine
open PySem.Spec PySem.Calls
local macro_rules | `(tactic| walk_at "subscriptTail Name Slice ref ref") => `(tactic| (k_here; (with_reducible show wpAny _ _ (subscriptTail _ (PySem.Expr.Slice none none (some _) _) (Value.ref _) (Value.ref _)) _ _ _); (rename News _ _ _ _ => nE'); (try simp only [List.push_toArray] at nE'); k_dflt (refine' krv_ints ?F ?N ?l ?k ?i ?_ ?s ?t ?z; (case F => k_asm); (case N => exact nE'); (case l => exact News.isList nE' (by k_mem)); (case k => exact IsPart.int _ _); (case i => first | assumption | exact IntsAre.append (by assumption) (.cons _ _ .nil)); (case s => with_unfolding_all rfl); (case t => kmk_pure); (case z => kmk_size)); intro D' ws' h' F' N' l1 hI' hC'; (try k_lt l1)))
local macro_rules | `(tactic| walk_at "call type:bytes") => `(tactic| (k_here; (with_reducible show wpAny _ _ (call (Value.type "bytes") [Value.ref _]) _ _ _); k_dflt (refine' KBa.make_K ?kbaF ?kbaN ?kbah ?kbal ?kbai ?kbar ?kban ?_; (case kbaF => k_asm); (case kbaN => k_asm); (case kbah => rfl); (case kbal => kba_isList); (case kbai => kba_listInts); (case kbar => first | exact lets_in (lets_rev.2 (by assumption)) | exact lets_in (lets_rev.2 (lets_snoc.2 ⟨by assumption, by decide, by decide⟩))); (case kban => (simp only [List.length_reverse, List.length_append, List.length_cons, List.length_nil, rangeKs_length] at *; omega))); intro _ _ _ F' N' kbaIn))
local macro_rules | `(tactic| walk_at "InvEndN") => `(tactic| k_dflt kst_close)
local macro_rules | `(tactic| kst_facts) => `(tactic| (with_reducible assumption))
local macro_rules | `(tactic| walk_at "call builtin:divmod") => `(tactic| (k_here; (with_reducible show wpAny _ _ (call (Value.builtin _) [Value.int _ _, Value.int _ _]) _ _ _); k_dflt (refine' divmod_lt ?F ?N ?b ?_ ?p; (case F => k_asm); (case N => k_asm); (case b => decide); (case p => exact Or.inl (PyProof.noPylong_of_log2 (by decide +kernel)))); intro D' dm1 dm2 h' dmk F' N' l1; (try k_lt l1); (try k_sweep)))
local macro_rules | `(tactic| walk_at "call ref") => `(tactic| (k_here; (with_reducible show wpAny _ _ (call (Value.ref 28) [Value.bytes _ _]) _ _ _); k_dflt (refine' bare_use ?k1 ?k2 ?k3 ?k4 ?k5 ?kK ?ka ?la ?lx ?kd ?ku ?_; (case ka => exact bInts_make (lets_rev.2 (by assumption))); (case la => (rw [List.length_reverse]; omega)); (case lx => exact lets_rev.2 (by assumption)); (case k1 => k_asm); (case k2 => k_asm); (case k3 => k_asm); (case k4 => k_asm); (case k5 => k_asm); (case kK => first | exact rfl | assumption); (case kd => ktr_room); (case ku => ktr_units)); intro b9 ks9 t9 h9 tk9 hb9 he9 hl9 F9 N9; (try dsimp only); (try k_fold)))
theorem flat_zeros (n : Nat) : (List.replicate n [(0 : Int)]).flatten = List.replicate n 0 := by
  induction n with
  | zero => rfl
  | succ n ih => rw [List.replicate_succ, List.flatten_cons, ih, List.replicate_succ]; rfl
theorem pO_start {B1 B2 l : List Int} {N : Int} {n1 n2 : Nat} (hl : l = (List.replicate N.toNat [0]).flatten) (hN : N.toNat = n1 + n2) : ProdO B1 B2 ([] : List Int).length l ∧ l.length = n1 + n2 := by
  rw [hl, flat_zeros]
  exact ⟨prod_start _ _ _, by rw [List.length_replicate]; exact hN⟩
theorem pI_start {B1 B2 c0 : List Int} {i n : Nat} (h : c0.length = n) : ProdI B1 B2 i c0 ([] : List Int).length c0 ∧ c0.length = n := ⟨prodI_start _ _ _ _, h⟩
theorem pI_turn {B1 B2 xs ys c0 pre cols : List Int} {left k : Int} {n1 n2 : Nat} (hb1 : B1 = xs) (hb2 : B2 = ys) (h : ProdI B1 B2 left.toNat c0 pre.length cols) (hl : cols.length = n1 + n2) (h1 : 0 ≤ left) (h2 : left < xs.length) (hk : k = pre.length) (hk2 : k < ys.length) (hs1 : n1 = xs.length) (hs2 : n2 = ys.length) :
    ProdI B1 B2 left.toNat c0 (pre ++ [k]).length (cols.set ((xs.length : Int) - 1 - left + ((ys.length : Int) - 1 - k)).toNat (cols.getD ((xs.length : Int) - 1 - left + ((ys.length : Int) - 1 - k)).toNat 0 + (xs.getD left.toNat 0 - 65) * (ys.getD k.toNat 0 - 65))) ∧
    (cols.set ((xs.length : Int) - 1 - left + ((ys.length : Int) - 1 - k)).toNat (cols.getD ((xs.length : Int) - 1 - left + ((ys.length : Int) - 1 - k)).toNat 0 + (xs.getD left.toNat 0 - 65) * (ys.getD k.toNat 0 - 65))).length = n1 + n2 := by
  subst hb1 hb2
  have e : k.toNat = pre.length := by omega
  rw [List.length_set, List.length_append, List.length_singleton]
  refine ⟨?_, hl⟩
  exact prodI_turn h (by omega) (by omega) (by omega) (by omega) (by rw [e])
theorem pO_turn {B1 B2 ys c0 pre cols : List Int} {k : Int} {m n : Nat} (hb2 : B2 = ys) (h0 : ProdO B1 B2 pre.length c0) (h : ProdI B1 B2 k.toNat c0 m cols) (hm : m = ys.length) (hk : k = pre.length) (hlt : pre.length < B1.length) (hl : cols.length = n) : ProdO B1 B2 (pre ++ [k]).length cols ∧ cols.length = n := by
  subst hb2 hm
  have e : k.toNat = pre.length := by omega
  rw [e] at h
  rw [List.length_append, List.length_singleton]
  exact ⟨prodO_turn h0 h hlt, hl⟩
theorem c_start : CarInv [] 0 [] ∧ Lets [] ∧ ([] : List Int).length = ([] : List Int).length := ⟨car_start, lets_nil, rfl⟩
theorem c_turn {pre L : List Int} {c col : Int} (h : CarInv pre c L) (hL : Lets L) (hlen : L.length = pre.length) : CarInv (pre ++ [col]) ((col + c).fdiv 16) (L ++ [65 + (col + c).fmod 16]) ∧ Lets (L ++ [65 + (col + c).fmod 16]) ∧ (L ++ [65 + (col + c).fmod 16]).length = (pre ++ [col]).length :=
  ⟨car_turn h hlen rfl rfl, lets_snoc.2 ⟨hL, car_let rfl⟩, by simp [hlen]⟩
def ProdR (xs ys : List Int) (r : Array UInt8) : Prop := ∀ (cols L : List Int) (c : Int), ProdO xs ys xs.length cols → cols.length = xs.length + ys.length → CarInv cols c L → Lets L → L.length = cols.length → byteArr (bare L.reverse) = r
theorem prodR_ap (x y : Nat) : ProdR (apI x) (apI y) (byteArr (apI (x * y))) := fun _ _ _ h hl hc hL hlen => by rw [prod_end h hl hc hL hlen]
theorem prod_ret {xs ys B1 B2 cols L ks : List Int} {b r : Array UInt8} {c : Int} {n n1 n2 : Nat} (hr : ProdR xs ys r) (hb1 : B1 = xs) (hb2 : B2 = ys) (h : ProdO B1 B2 n cols) (hn : n = xs.length) (hl : cols.length = n1 + n2) (hs1 : n1 = xs.length) (hs2 : n2 = ys.length)
    (hc : CarInv cols c L) (hL : Lets L) (hlen : L.length = cols.length) (hb : KBw.bInts b = ks) (hk : ks = bare L.reverse) : b = r := by
  subst hb1 hb2 hn hs1 hs2
  rw [bytes_eq (hb.trans hk)]
  exact hr _ _ _ h hl hc hL hlen
theorem prod_c (w : World) (s₀ : Shared) (mg mb : Str → Option Value) (news : List (Addr × Obj)) (xs ys : List Int) (b1 b2 r : Array UInt8) (t1 t2 : Tok) :
    ∀ (dp un : Nat) (gd : Option (List Code)) (cn : Str) (cs : Scope) (a : Addr) (ccd : Value) (cl : List (Str × Addr)) (outer : List Env) (A₀ : Around) (base h₀ : Heap) (L : Addr) (m : Str → Option Value) (s : Shared) (Q E : Value → Shared → Prop),
      Below A₀ base outer h₀ → Fr h₀ L s.heap m → (hd3.heap_39 w.params).In h₀ → News h₀ L s.heap news → Top hd3.view_39 (looseW hd3.view_39 []) (ExcName.means s₀.heap) mg mb h₀ → cs.kind = .function →
      (KBw.bInts b1 = xs ∧ KBw.bInts b2 = ys ∧ xs.length ≤ 400 ∧ ys.length ≤ 400 ∧ Lets xs ∧ Lets ys ∧ ProdR xs ys r) → dp + 3 < recursionLimit → un + 24 < cLine →
      (∀ (t : Tok) (h' : Heap) (tk' : Nat), Fr h₀ L h' m → News h₀ L h' news → Q (.bytes r t) { s with heap := h', toks := tk' }) →
      wpAny (model Challenge.rw_dm0169_03.row.prog w) (ktrTop dp un gd cn cs L a ccd cl outer) (call (.ref 35) [.bytes b1 t1, .bytes b2 t2]) Q E s := by
  k_fill
  w_top off
  k_with_none
  k_with "pyIter ref" => (k_of "left" => k_state_given ["one", "other"] (fun one other pre columns => ProdO (KBw.bInts one) (KBw.bInts other) pre.length columns ∧ columns.length = one.size + other.size) "columns")
  k_with "pyIter ref" => (k_of "right" => k_state_given ["one", "other", "left", "columns!"] (fun one other left c0 pre columns => ProdI (KBw.bInts one) (KBw.bInts other) left.toNat c0 pre.length columns ∧ columns.length = one.size + other.size) "columns")
  k_with "pyIter ref" => (k_of "column" => k_state (fun pre carried letters => CarInv pre carried letters ∧ Lets letters ∧ letters.length = pre.length) "carried" "letters")
  k_with "state" => first | exact pO_start rfl (by omega) | exact pI_start (by assumption) | exact pI_turn hb1 hb2 (by assumption) (by assumption) (by omega) (by omega) (by omega) (by omega) hs1 hs2 | exact pO_turn hb2 (by assumption) (by assumption) (by rw [rangeKs_length]; omega) (by omega) (by subst hb1; omega) (by assumption) | exact c_start | exact c_turn (by assumption) (by assumption) (by assumption)
  intros
  rename_i hpre _ _ hret
  obtain ⟨hb1, hb2, hl1, hl2, hx1, hx2, hr⟩ := hpre
  have hs1 : b1.size = xs.length := by rw [← hb1, KBw.ints_length]
  have hs2 : b2.size = ys.length := by rw [← hb2, KBw.ints_length]
  have hI0 : IntsAre [] [] := .nil
  refine wpAny_call ?_
  k_dflt cell_enter
  k_steps
  exact cb_retBy hret (prod_ret hr hb1 hb2 (by assumption) (by rw [rangeKs_length]; omega) (by assumption) hs1 hs2 (by assumption) (by assumption) (by assumption) (by assumption) (by assumption)) (by k_asm) (by first | k_asm | (refine' cb_drop ?cbN ?cbS; (case cbN => assumption); (case cbS => kcj_all)))
end Mine

-- part U3b
namespace Mine
open PySem.Spec PySem.Calls
section
variable {w : World} {s₀ : Shared} {mg mb : Str → Option Value} {news : List (Addr × Obj)} {dp un : Nat} {gd : Option (List Code)} {cn : Str} {cs : Scope} {a : Addr} {ccd : Value} {cl : List (Str × Addr)} {outer : List Env} {A₀ : Around} {base h₀ : Heap} {L : Addr} {m : Str → Option Value} {s : Shared} {Q E : Value → Shared → Prop}
theorem prod_use {b1 b2 : Array UInt8} {xs ys : List Int} {x y : Nat} {t1 t2 : Tok} (B : Below A₀ base outer h₀) (F : Fr h₀ L s.heap m) (X : (hd3.heap_39 w.params).In h₀) (N : News h₀ L s.heap news) (T : Top hd3.view_39 (looseW hd3.view_39 []) (ExcName.means s₀.heap) mg mb h₀) (hk : cs.kind = .function)
    (hb1 : KBw.bInts b1 = xs) (hb2 : KBw.bInts b2 = ys) (hx : xs = apI x) (hy : ys = apI y) (hl1 : xs.length ≤ 400) (hl2 : ys.length ≤ 400) (hd : dp + 3 < recursionLimit) (hu : un + 24 < cLine)
    (ret : ∀ (b : Array UInt8) (ks : List Int) (t : Tok) (h' : Heap) (tk' : Nat), KBw.bInts b = ks → ks = apI (x * y) → Fr h₀ L h' m → News h₀ L h' news → Q (.bytes b t) { s with heap := h', toks := tk' }) :
    wpAny (model Challenge.rw_dm0169_03.row.prog w) (ktrTop dp un gd cn cs L a ccd cl outer) (call (.ref 35) [.bytes b1 t1, .bytes b2 t2]) Q E s :=
  prod_c w s₀ mg mb news xs ys b1 b2 _ t1 t2 dp un gd cn cs a ccd cl outer A₀ base h₀ L m s Q E B F X N T hk ⟨hb1, hb2, hl1, hl2, hx ▸ apI_lets x, hy ▸ apI_lets y, hx ▸ hy ▸ prodR_ap x y⟩ hd hu fun t h' tk' F' N' => ret _ _ t h' tk' (bInts_ap _) rfl F' N'
end
end Mine

-- part M3
namespace Mine
theorem bare_take {l : List Int} (h : bare l = l) (k : Nat) : bare (l.take k) = l.take k := by
  cases l with
  | nil => simp [bare]
  | cons x r =>
    cases k with
    | zero => simp [bare]
    | succ k =>
      by_cases hx : x = 65
      · subst hx
        exfalso
        have h1 : bare (65 :: r) = bare r := by simp [bare]
        rw [h1] at h
        have := (List.dropWhile_sublist (l := r) (· == (65 : Int))).length_le
        have e := congrArg List.length h
        unfold bare at e
        simp at e
        omega
      · simp [bare, hx]
theorem lets_take {l : List Int} (h : Lets l) (k : Nat) : Lets (l.take k) := fun x hx => h x (List.take_subset k l hx)
theorem lets_drop {l : List Int} (h : Lets l) (k : Nat) : Lets (l.drop k) := fun x hx => h x (List.drop_subset k l hx)
theorem cut_parts (n k : Nat) : (vl ((apI n).take ((apI n).length - k))).toNat = n / 16 ^ k ∧ (vl ((apI n).drop ((apI n).length - k))).toNat = n % 16 ^ k := by
  have hl := apI_lets n
  have hv := vl_apI n
  generalize apI n = l at hl hv
  have b1 := vl_bound (lets_take hl (l.length - k))
  have b2 := vl_bound (lets_drop hl (l.length - k))
  have e := vl_app (l.take (l.length - k)) (l.drop (l.length - k))
  rw [List.take_append_drop, hv] at e
  rw [List.length_drop] at e b2
  have pc : ∀ j : Nat, ((16 ^ j : Nat) : Int) = (16 : Int) ^ j := fun j => by simp
  by_cases hk : k ≤ l.length
  · rw [show l.length - (l.length - k) = k by omega, ← pc] at e b2
    generalize hA : vl (l.take (l.length - k)) = A at *
    generalize hB : vl (l.drop (l.length - k)) = B at *
    have hA' : A = (A.toNat : Int) := by omega
    have hB' : B = (B.toNat : Int) := by omega
    have e' : n = 16 ^ k * A.toNat + B.toNat := by
      rw [hA', hB'] at e
      have : (n : Int) = ((A.toNat * 16 ^ k + B.toNat : Nat) : Int) := by rw [Int.natCast_add, Int.natCast_mul]; exact e
      rw [Nat.mul_comm]; omega
    have hlt : B.toNat < 16 ^ k := by omega
    rw [e']
    constructor
    · rw [Nat.mul_add_div (by exact Nat.pow_pos (by decide)), Nat.div_eq_of_lt hlt]; omega
    · rw [Nat.mul_add_mod, Nat.mod_eq_of_lt hlt]
  · have e0 : l.length - k = 0 := by omega
    rw [e0] at *
    simp only [List.take_zero, List.drop_zero, vl_nil]
    have hlt : n < 16 ^ k := by
      have b := vl_bound hl
      rw [hv, ← pc] at b
      have : 16 ^ l.length ≤ 16 ^ k := Nat.pow_le_pow_right (by decide) (by omega)
      omega
    rw [Nat.div_eq_of_lt hlt, Nat.mod_eq_of_lt hlt, hv]
    simp
theorem apI_div (n k : Nat) : apI (n / 16 ^ k) = (apI n).take ((apI n).length - k) := by
  rw [← (cut_parts n k).1, apI_vl (lets_take (apI_lets n) _), bare_take (bare_apI n)]
theorem apI_mod (n k : Nat) : apI (n % 16 ^ k) = bare ((apI n).drop ((apI n).length - k)) := by
  rw [← (cut_parts n k).2, apI_vl (lets_drop (apI_lets n) _)]
end Mine

-- part Q3
namespace Mine
def RB (l : List Int) : Prop := ∀ x ∈ l, -72057594037927936 < x ∧ x < 72057594037927936
theorem ring_start : ([16] : List Int).length = 1 + ([] : List Int).length ∧ RB [16] := ⟨rfl, fun x hx => by rw [List.mem_singleton.1 hx]; decide⟩
theorem big14 : (16 : Int) ^ Int.toNat 14 = 72057594037927936 := by decide
theorem rest14 (k : Int) : 0 ≤ Int.fmod k (16 ^ Int.toNat 14) ∧ Int.fmod k (16 ^ Int.toNat 14) < 72057594037927936 := by
  rw [big14, Int.fmod_eq_emod_of_nonneg _ (by decide)]
  omega
theorem ring_app {ring pre : List Int} {v k : Int} (h : ring.length = 1 + pre.length) (hr : RB ring) (hv : -72057594037927936 < v ∧ v < 72057594037927936) : (ring ++ [v]).length = 1 + (pre ++ [k]).length ∧ RB (ring ++ [v]) := by
  refine ⟨by simp [h]; omega, fun x hx => ?_⟩
  rcases List.mem_append.1 hx with hx | hx
  · exact hr x hx
  · rw [List.mem_singleton.1 hx]; exact hv
theorem ring_M {ring pre : List Int} {k : Int} (h : ring.length = 1 + pre.length) (hr : RB ring) : (ring ++ [Int.fmod k (16 ^ Int.toNat 14)]).length = 1 + (pre ++ [k]).length ∧ RB (ring ++ [Int.fmod k (16 ^ Int.toNat 14)]) :=
  ring_app h hr (by have := rest14 k; omega)
theorem ring_N {ring pre : List Int} {k : Int} (h : ring.length = 1 + pre.length) (hr : RB ring) : (ring ++ [-Int.fmod (-k) (16 ^ Int.toNat 14)]).length = 1 + (pre ++ [k]).length ∧ RB (ring ++ [-Int.fmod (-k) (16 ^ Int.toNat 14)]) :=
  ring_app h hr (by have := rest14 (-k); omega)
section
variable {prog : Program} {w : World} {A : Around} {E : Value → Shared → Prop} {s : Shared} {value slice : PySem.Expr} {h₀ : Heap} {L D : Addr} {news : List (Addr × Obj)} {vs : List Value} {ns : List Int} {n : Nat} {k : Int} {u : Tok} {Q : Value → Shared → Prop}
/-- an item of the ring, at a place that may lie below nought -/
theorem item_ring (N : News h₀ L s.heap news) (hm : (D, listOf vs.toArray n) ∈ news) (hi : IntsAre vs ns) (hr : RB ns) (h0 : -(ns.length : Int) ≤ k) (h1 : k < ns.length) (hz : ns.length ≤ 1000)
    (h : ∀ x t, -72057594037927936 < x → x < 72057594037927936 → Q (.int x t) s)
    (hs : subscripted slice false (.ref D) (.int k u) = operate [.ref D, .int k u] (getItem (.ref D) (.int k u)) := by with_unfolding_all rfl) :
    wpAny (model prog w) A (subscriptTail value slice (.ref D) (.int k u)) Q E s := by
  have key : ∀ j : Nat, j < ns.length → -72057594037927936 < ns.getD j 0 ∧ ns.getD j 0 < 72057594037927936 := by
    intro j hj
    rw [List.getD_eq_getElem?_getD, List.getElem?_eq_getElem hj]
    exact hr _ (List.getElem_mem hj)
  by_cases hk : k < 0
  · refine item_list_ints_negR (PySem.IsL.isList (n := n) (N _ hm).1) hi hk h0 (by omega) (fun t => ?_) hs
    have := key (k + ns.length).toNat (by omega)
    exact h _ t this.1 this.2
  · refine item_anyK (PySem.IsL.isList (n := n) (N _ hm).1) hi (by omega) h1 (by omega) (fun t => ?_) hs
    have := key k.toNat (by omega)
    exact h _ t this.1 this.2
theorem ne_sameF {b c : Array UInt8} {t u : Tok} (e : b = c) (h : b = c → Q (.bool false) s) : wpAny (model prog w) A (compareOp .NotEq (.bytes b t) (.bytes c u)) Q E s :=
  ne_bytes (by subst e; simpa using h rfl)
end
theorem one_word {b : Array UInt8} {ks : List Int} (hb : KBw.bInts b = ks) (hk : ks = apI (1 : Int).natAbs) : b = #[66] := by
  rw [bytes_eq (hb.trans hk)]; decide +kernel
theorem prod_word {b c : Array UInt8} {ks ls : List Int} {x y : Int} (hb : KBw.bInts b = ks) (hk : ks = apI (x * y).natAbs) (hc : KBw.bInts c = ls) (hl : ls = apI (x.natAbs * y.natAbs)) : b = c := by
  rw [bytes_eq (hb.trans hk), bytes_eq (hc.trans hl), Int.natAbs_mul]
theorem ap_fitB {n k : Nat} (h : n < 16 ^ k) (hk : k ≤ 900) : (apI n).length ≤ 900 := Nat.le_trans (apI_len h) hk
theorem fit1 {x : Int} (h0 : -72057594037927936 < x) (h1 : x < 72057594037927936) : (apI x.natAbs).length ≤ 14 := apI_len (by omega)
theorem len14 {ks : List Int} {x : Int} (h : ks = apI x.natAbs) (h0 : -72057594037927936 < x) (h1 : x < 72057594037927936) : ks.length ≤ 400 := by
  rw [h]; exact Nat.le_trans (fit1 h0 h1) (by decide)
theorem fit2 {x y : Int} (h0 : -72057594037927936 < x) (h1 : x < 72057594037927936) (h2 : -72057594037927936 < y) (h3 : y < 72057594037927936) : (apI (x * y).natAbs).length ≤ 28 := by
  refine apI_len ?_
  rw [Int.natAbs_mul]
  have h4 : x.natAbs ≤ 72057594037927935 := by omega
  have h5 : y.natAbs ≤ 72057594037927935 := by omega
  have := Nat.mul_le_mul h4 h5
  omega
end Mine

-- part Q3b
namespace Mine
theorem ints_pick {P : Int → Prop} : ∀ (vs : List Value), (∀ (j : Nat) (v : Value), vs[j]? = some v → ∃ x t, v = .int x t ∧ P x) → ∃ ns, IntsAre vs ns ∧ ∀ x ∈ ns, P x
  | [], _ => ⟨[], .nil, fun _ h => nomatch h⟩
  | v :: r, h => by
    obtain ⟨x, t, rfl, hx⟩ := h 0 v rfl
    obtain ⟨ns, hi, hp⟩ := ints_pick r fun j v hj => h (j + 1) v hj
    refine ⟨x :: ns, .cons x t hi, fun y hy => ?_⟩
    rcases List.mem_cons.1 hy with rfl | hy
    · exact hx
    · exact hp y hy
theorem step_lo {a : Int} (h : 0 ≤ a) : 1 ≤ 1 + a.fdiv 8 := by rw [Int.fdiv_eq_ediv_of_nonneg _ (by decide)]; omega
theorem step_hi {a : Int} (h : 0 ≤ a) (h' : a ≤ 900) : 1 + a.fdiv 8 ≤ 1000 := by rw [Int.fdiv_eq_ediv_of_nonneg _ (by decide)]; omega
def PB (l : List Int) (b : Int) : Prop := ∀ x ∈ l, 0 ≤ x ∧ x < b
section
variable {prog : Program} {w : World} {A : Around} {E : Value → Shared → Prop} {s : Shared} {h₀ : Heap} {L r : Addr} {m : PySem.Str → Option Value} {news : List (Addr × Obj)} {Q : Value → Shared → Prop} {b c : Int} {t u v : Tok}
theorem range_step (F : Fr h₀ L s.heap m) (N : News h₀ L s.heap news) (hc : 1 ≤ c) (hc' : c ≤ 1000)
    (h : ∀ R h' tk t₁ u₁ v₁, IsRange h' R 0 b c t₁ u₁ v₁ → Fr h₀ L h' m → News h₀ L h' news → Q (.ref R) { s with heap := h', toks := tk }) :
    wpAny (model prog w) A (call (.type "range") [.int 0 t, .int b u, .int c v]) Q E s :=
  range3_rows F N (by omega) (fun h' tk t₁ u₁ v₁ hr F' N' _ => h _ h' tk t₁ u₁ v₁ hr F' N') (Or.inl (PyProof.noPylong_small (by omega)))
theorem list_step (hh : A.handled = none) (F : Fr h₀ L s.heap m) (N : News h₀ L s.heap news) (hr : IsRange s.heap r 0 b c t u v) (hc : 1 ≤ c) (hc' : c ≤ 1000) (hb : 0 ≤ b) (hb' : b ≤ 1000)
    (h : ∀ D us ns k h' tk, Fr h₀ L h' m → News h₀ L h' ((D, listOf (List.toArray us) k) :: news) → (∀ p ∈ news, p.1 < D) → IntsAre us ns → PB ns b → ns.length ≤ 1000 → Q (.ref D) { s with heap := h', toks := tk }) :
    wpAny (model prog w) A (call (.type "list") [.ref r]) Q E s := by
  have hs0 : 0 ≤ Builtin.Range.rangeSize 0 b c ∧ Builtin.Range.rangeSize 0 b c ≤ b := by
    unfold Builtin.Range.rangeSize
    rw [if_pos (by omega)]
    split
    · have h1 : 0 ≤ (b - 0 - 1) / c := Int.ediv_nonneg (by omega) (by omega)
      have h2 : (b - 0 - 1) / c ≤ b - 0 - 1 := Int.ediv_le_self _ (by omega)
      omega
    · omega
  have hsmall : Builtin.Range.small 0 b c = true := by
    unfold Builtin.Range.small
    simp only [Builtin.Range.rangeFitsLong, Bool.and_eq_true, Bool.or_eq_true, decide_eq_true_eq, beq_iff_eq]
    refine ⟨by omega, .inr ?_⟩
    rw [if_pos (by omega)]
    simp only [Bool.and_eq_true, decide_eq_true_eq]
    omega
  refine call_list_range (n := (Builtin.Range.rangeSize 0 b c).toNat) hh hr hsmall (by omega) (by omega) fun h' tk acc k hk hD hI => ?_
  have hD' : h'.get? s.heap.objs.size = some (listOf (List.toArray acc.toList) k) := by
    rw [Array.toArray_toList]
    exact hD
  have hlen : acc.toList.length = (Builtin.Range.rangeSize 0 b c).toNat := by rw [Array.length_toList]; exact hI.1
  obtain ⟨ns, hi, hp⟩ := ints_pick (P := fun x => 0 ≤ x ∧ x < b) acc.toList fun j v hj => by
    obtain ⟨t, ht⟩ := hI.2 j v (by rw [← hj, Array.getElem?_toList])
    refine ⟨_, t, ht, ?_⟩
    have hj' : j < acc.toList.length := (List.getElem?_eq_some_iff.1 hj).1
    have hjs : (j : Int) < Builtin.Range.rangeSize 0 b c := by omega
    have h0 : 0 ≤ (j : Int) * c := Int.mul_nonneg (by omega) (by omega)
    have h1 : (j : Int) * c ≤ b - 0 - 1 := by
      unfold Builtin.Range.rangeSize at hjs
      rw [if_pos (by omega)] at hjs
      split at hjs
      · have := Int.mul_le_of_le_ediv (a := (j : Int)) (b := b - 0 - 1) (c := c) (by omega) (by omega)
        exact this
      · omega
    omega
  refine h _ acc.toList ns k h' tk (F.keeps hk) (news_pushed F N hk hD' rfl) (fun p hp => Heap.lt_size (N p hp).1) hi hp ?_
  have := hi.length
  omega
theorem ext_places {D d : Addr} {g : Obj → List (Addr × Obj)} {vs ws : List Value} {ns ms : List Int} {n : Nat} (F : Fr h₀ L s.heap m) (N : News h₀ L s.heap news) (U : UpdF D (listOf vs.toArray n) news g) (hd : (d, LCg.lst ws) ∈ news)
    (hi : IntsAre vs ns) (hj : IntsAre ws ms) (hP : PB ns b) (hQ : PB ms b) (hl : ns.length ≤ 1000) (hl2 : ms.length ≤ 2)
    (h : ∀ h' us ks k, Fr h₀ L h' m → News h₀ L h' (g (listOf (List.toArray us) k)) → IntsAre us ks → PB ks b → ks.length ≤ 1002 → Q .none { s with heap := h' }) :
    wpAny (model prog w) A (call (.builtin "list.extend") [.ref D, .ref d]) Q E s := by
  obtain ⟨pre, post, rfl, hg, a, c⟩ := U.split
  have e1 := hi.length
  have e2 := hj.length
  refine extend_in_ints (n := n) F N a c (N _ hd).1 hi (ms := ms) hj (fun h' k F' N' hI => ?_) ?_
  · refine h h' _ _ k F' ?_ hI ?_ ?_
    · rw [hg]; exact N'
    · intro x hx
      rcases List.mem_append.1 hx with hx | hx
      · exact hP x hx
      · exact hQ x hx
    · rw [List.length_append]; omega
  · rw [List.size_toArray, sizeLine_eq]; omega
end
theorem pb_far (l : List Int) {b : Int} (hb : 0 < b) : PB (l.map fun k' => (if k' < 0 then -k' else k').fmod b) b := by
  intro x hx
  obtain ⟨y, _, rfl⟩ := List.mem_map.1 hx
  rw [Int.fmod_eq_emod_of_nonneg _ (by omega)]
  exact ⟨Int.emod_nonneg _ (by omega), Int.emod_lt_of_pos _ hb⟩
theorem far_two (f : Int → Int) (l : List Int) (k : Nat) : (List.map f (List.take (min 4 k - 2) l)).length ≤ 2 := by
  rw [List.length_map, List.length_take]; omega
end Mine

-- part Q3c
namespace Mine
theorem pow16_cast (k : Nat) : ((16 ^ k : Nat) : Int) = (16 : Int) ^ k := by simp
theorem pow16_gt (k : Nat) : (0 : Int) < 16 ^ k := by rw [← pow16_cast]; have : 0 < 16 ^ k := Nat.pow_pos (by decide); omega
theorem fdiv16 {a : Int} (h : 0 ≤ a) (k : Nat) : (a.fdiv (16 ^ k)).natAbs = a.toNat / 16 ^ k := by
  have hp := pow16_gt k
  rw [Int.fdiv_eq_ediv_of_nonneg _ (by omega), ← pow16_cast]
  have : a = (a.toNat : Int) := by omega
  rw [this]
  rfl
theorem fmod16 {a : Int} (h : 0 ≤ a) (k : Nat) : (a.fmod (16 ^ k)).natAbs = a.toNat % 16 ^ k := by
  have hp := pow16_gt k
  rw [Int.fmod_eq_emod_of_nonneg _ (by omega), ← pow16_cast]
  have : a = (a.toNat : Int) := by omega
  rw [this]
  rfl
theorem abs_nn (x : Int) : 0 ≤ (if x < 0 then -x else x) ∧ (if x < 0 then -x else x).toNat = x.natAbs := by split <;> omega
theorem fitL {ks : List Int} {x : Int} (hk : ks = apI x.natAbs) (hl : ks.length ≤ 900) (k : Nat) : (apI ((if x < 0 then -x else x).fdiv (16 ^ k)).natAbs).length ≤ 900 := by
  rw [fdiv16 (abs_nn x).1, (abs_nn x).2, apI_div, List.length_take, ← hk]; omega
theorem fitR {ks : List Int} {x : Int} (hk : ks = apI x.natAbs) (hl : ks.length ≤ 900) (k : Nat) : (apI ((if x < 0 then -x else x).fmod (16 ^ k)).natAbs).length ≤ 900 := by
  rw [fmod16 (abs_nn x).1, (abs_nn x).2, apI_mod, ← hk]
  refine Nat.le_trans (List.dropWhile_sublist _).length_le ?_
  rw [List.length_drop]
  omega
theorem cut_len {ks : List Int} {l : List Int} {bd cut k : Int} (h0 : 0 ≤ cut) (h1 : (ks.length : Int) - k ≤ cut) (h2 : cut = 0 ∨ cut = (ks.length : Int) - k) (hx : k ∈ l) (hP : PB l bd) : cut.toNat = ks.length - k.toNat := by
  have hk := (hP k hx).1
  omega
theorem left_word {b c : Array UInt8} {ks ls ks9 l : List Int} {x cut k bd : Int} (hb : KBw.bInts b = ks) (hk : ks = apI ((if x < 0 then -x else x).fdiv (16 ^ k.toNat)).natAbs) (hc : KBw.bInts c = ls) (hl : ls = ks9.take cut.toNat) (h9 : ks9 = apI x.natAbs) (h0 : 0 ≤ cut) (h1 : (ks9.length : Int) - k ≤ cut) (h2 : cut = 0 ∨ cut = (ks9.length : Int) - k) (hx : k ∈ l) (hP : PB l bd) : b = c := by
  rw [bytes_eq (hb.trans hk), bytes_eq (hc.trans hl), fdiv16 (abs_nn x).1, (abs_nn x).2, apI_div, cut_len h0 h1 h2 hx hP, h9]
theorem right_word {b c : Array UInt8} {ks ls ks9 ms l : List Int} {x cut k bd : Int} (hb : KBw.bInts b = ks) (hk : ks = apI ((if x < 0 then -x else x).fmod (16 ^ k.toNat)).natAbs) (hc : KBw.bInts c = ls) (hl : ls = bare ms) (hm : ms = ks9.drop cut.toNat) (h9 : ks9 = apI x.natAbs) (h0 : 0 ≤ cut) (h1 : (ks9.length : Int) - k ≤ cut) (h2 : cut = 0 ∨ cut = (ks9.length : Int) - k) (hx : k ∈ l) (hP : PB l bd) : b = c := by
  rw [bytes_eq (hb.trans hk), bytes_eq (hc.trans hl), fmod16 (abs_nn x).1, (abs_nn x).2, apI_mod, hm, cut_len h0 h1 h2 hx hP, h9]
theorem lets_cut {ms ks : List Int} {n k : Nat} (hm : ms = ks.drop k) (hk : ks = apI n) : Lets ms := by rw [hm, hk]; exact lets_drop (apI_lets n) k
theorem cut_short {ms ks : List Int} {k : Nat} (hm : ms = ks.drop k) (hs : ks.length ≤ 900) : ms.length ≤ 900 := by
  rw [hm, List.length_drop]; omega
section
variable {prog : Program} {w : World} {A : Around} {E : Value → Shared → Prop} {s : Shared} {Q : Value → Shared → Prop} {t u : Tok} {x b a : Int} {l : List Int}
theorem pow_place (hP : PB l b) (hx : x ∈ l) (hb : b ≤ 1000) (h : Q (.int (16 ^ x.toNat) s.toks) { s with toks := s.toks + 1 }) : wpAny (model prog w) A (binaryOp .Pow (.int 16 t) (.int x u)) Q E s :=
  pow_int_small (hP x hx).1 (by have := (hP x hx).2; omega) (by decide) h
theorem div_place (hP : PB l b) (hx : x ∈ l) (hb : b ≤ 1000) (h : Q (.int (a.fdiv (16 ^ x.toNat)) s.toks) { s with toks := s.toks + 1 }) : wpAny (model prog w) A (binaryOp .FloorDiv (.int a t) (.int (16 ^ x.toNat) u)) Q E s := by
  refine floordiv_int (by have := pow16_gt x.toNat; omega) h (Or.inl (PyProof.noPylong_of_log2 ?_))
  have e : ((16 : Int) ^ x.toNat).natAbs = 2 ^ (4 * x.toNat) := by rw [← pow16_cast, Int.natAbs_natCast, Nat.pow_mul]
  rw [e]
  refine (Nat.log2_lt (Nat.ne_of_gt (Nat.two_pow_pos _))).mpr ?_
  exact Nat.pow_lt_pow_right (by decide) (by have := hP x hx; omega)
theorem mod_place (h : Q (.int (a.fmod (16 ^ x.toNat)) s.toks) { s with toks := s.toks + 1 }) : wpAny (model prog w) A (binaryOp .Mod (.int a t) (.int (16 ^ x.toNat) u)) Q E s := mod_int' (by have := pow16_gt x.toNat; omega) h
end
end Mine

-- part Q3d
namespace Mine
open PySem PySem.W PyProof.Rows PySem.Spec PySem.Calls
section
variable {prog : Program} {w : World} {A : Around} {E : Value → Shared → Prop} {s : Shared} {env : Env} {h₀ : Heap} {x : Str} {body : List Stmt} {Q : Flow → Shared → Prop}
/-- a loop over a range that keeps all objects but for one cell, which it stores into -/
theorem cell_range {r : Addr} {b₀ : Int} {t₀ u₀ v₀ : Tok} {n : Nat} {m₀ : Str → Option Value} {D l a : Addr} {o1 o2 o0 : Obj} {v0 : Option Value} (stored : List Str)
    (hh : A.handled = none) (hr : IsRange s.heap r 0 b₀ 1 t₀ u₀ v₀) (hsmall : Builtin.Range.small 0 b₀ 1 = true) (hn : Builtin.Range.rangeSize 0 b₀ 1 = (n : Int)) (F : Fr h₀ env.locals s.heap m₀) (N : News h₀ env.locals s.heap [(D, o1), (l, o2), (a, o0)]) (h0 : o0.data = .cell v0)
    (turn : ∀ (o : Obj) (v : Option Value) (pre : List Int) (k : Int) t (u : Str → Option Value) h tk own, k = 0 + (pre.length : Int) → pre.length < n → OwnOff own [D, l, a] → o.data = .cell v → KstMark →
      Fr h₀ env.locals h (fun y => if y = x then some (.int k t) else if stored.contains y then u y else m₀ y) → News h₀ env.locals h ((D, o1) :: (l, o2) :: (a, o) :: own) →
      wpAny (model prog w) A (execs body env) (InvPostN h₀ env.locals (KstS (fun c : Obj × Option Value => [(D, o1), (l, o2), (a, c.1)]) (fun _ => []) (fun c => c.1.data = .cell c.2) x stored m₀ (fun _ _ => True) (pre ++ [k])) own [D, l, a] { s with heap := h, toks := tk } Q) E { s with heap := h, toks := tk })
    (done : ∀ (o : Obj) (v : Option Value) (u : Str → Option Value) h tk, o.data = .cell v → KstMark → Fr h₀ env.locals h (fun y => if y = x then u y else if stored.contains y then u y else m₀ y) → News h₀ env.locals h [(D, o1), (l, o2), (a, o)] → Q .next { s with heap := h, toks := tk }) :
    wpAny (model prog w) A (pyIter (.ref r)) (fun it s₂ => LoopAtV prog w A h₀ env x body Q E it s₂) E s := by
  refine kst_range (fun c : Obj × Option Value => [(D, o1), (l, o2), (a, c.1)]) (fun _ => []) (fun c => c.1.data = .cell c.2) stored (fun _ _ => True) (o0, v0) hh hr hsmall hn F N h0 (List.forall_mem_nil _) trivial ?_ ?_
  · intro c pre k t u h tk own e1 e2 e3 hf _ F' N'
    exact turn c.1 c.2 pre k t u h tk own e1 e2 e3 hf kstMark F' N'
  · intro c u h tk hf _ F' N'
    exact done c.1 c.2 u h tk hf kstMark F' N'
end
end Mine

-- part MT
namespace Mine
theorem slot_bytes_lt : Slot "bytes" (cmpInfo .Lt).2.1 "bytes.__lt__" :=
  .of (owner := "bytes") (n := "__lt__") (by rw [typeLookup_type, builtinLookup_eq_fast]; kernel_rfl) (by decide +kernel) (by decide +kernel) (by decide +kernel)
    (by first | exact .inl (by decide +kernel) | exact .inr (by decide +kernel)) (by rw [isSubtype_type]; kernel_rfl)
theorem entry_bytes_lt : entryFor table "bytes.__lt__" = some Builtin.«bytes.__lt__» := entryFor_of_tree (by kernel_rfl)
theorem args_bytes_lt_2 (a b : Value) : argsOk "bytes.__lt__" ⟨[a, b], []⟩ := by
  unfold argsOk; rw [signature?_of (id := "bytes.__lt__") (n := ['_', '_', 't', 'l', '_', '_']) (o := ['s', 'e', 't', 'y', 'b']) (by kernel_rfl) PySem.W.FB.owner_bytes]; kernel_rfl
theorem gives_bytes_lt (b c : Array UInt8) (t u : Tok) : Gives (Builtin.«bytes.__lt__» ⟨[.bytes b t, .bytes c u], []⟩) (.val (.bool (Builtin.Bytes.order b.toList c.toList == .lt))) := by
  refine .of_wp fun M A E s Q hq => ?_
  show wpAny M A (isInstance (.bytes c u) (.type "bytes") >>= fun r => _) _ E s
  refine wpAny_bind (wpAny_isInstance (typeIs_bytes s c u) F.sub_bytes_bytes ?_)
  exact wpAny_pure ⟨_, rfl, hq⟩
section
variable {prog : Program} {w : World} {A : Around} {E : Value → Shared → Prop} {s : Shared}
theorem rlt_bytes {b c : Array UInt8} {t u : Tok} {Q : Value → Shared → Prop} (h : Q (.bool (Builtin.Bytes.order b.toList c.toList == .lt)) s) : wpAny (model prog w) A (richCompare .Lt (.bytes b t) (.bytes c u)) Q E s :=
  compareOp_gives (op := .Lt) (typeIs_bytes s b t) (typeIs_bytes s c u) slot_bytes_lt entry_bytes_lt (args_bytes_lt_2 _ _) (gives_bytes_lt b c t u) (fun e => nomatch e) h
theorem req_bytes {b c : Array UInt8} {t u : Tok} {Q : Value → Shared → Prop} (h : Q (.bool (b.toList == c.toList)) s) : wpAny (model prog w) A (richCompare .Eq (.bytes b t) (.bytes c u)) Q E s :=
  eq_bytes h
theorem rlt_int {a b : Int} {t u : Tok} {Q : Value → Shared → Prop} (h : Q (.bool (decide (a < b))) s) : wpAny (model prog w) A (richCompare .Lt (.int a t) (.int b u)) Q E s :=
  lt_int h
theorem req_int {a b : Int} {t u : Tok} {Q : Value → Shared → Prop} (h : Q (.bool (decide (a = b))) s) : wpAny (model prog w) A (richCompare .Eq (.int a t) (.int b u)) Q E s :=
  eq_int h
theorem eqB_int {a b : Int} {t u : Tok} {Q : Bool → Shared → Prop} (h : Q (decide (a = b)) s) : wpAny (model prog w) A (eqBool (.int a t) (.int b u)) Q E s := by
  unfold eqBool
  refine wpAny_holding ?_
  refine wpAny_ite_split (fun hab => ?_) (fun _ => ?_)
  · have : a = b := by have := eq_of_beq hab; injection this
    refine wpAny_bind (wpAny_rule (wpAny_pure ?_))
    simpa [this] using h
  · exact wpAny_bind (req_int (wpAny_truthy_bool h))
theorem eqB_bytes {b c : Array UInt8} {t u : Tok} {Q : Bool → Shared → Prop} (h : Q (b.toList == c.toList) s) : wpAny (model prog w) A (eqBool (.bytes b t) (.bytes c u)) Q E s := by
  unfold eqBool
  refine wpAny_holding ?_
  refine wpAny_ite_split (fun hab => ?_) (fun _ => ?_)
  · have : b = c := by have := eq_of_beq hab; injection this
    refine wpAny_bind (wpAny_rule (wpAny_pure ?_))
    simpa [this] using h
  · exact wpAny_bind (req_bytes (wpAny_truthy_bool h))
end
section
variable {prog : Program} {w : World} {A : Around} {E : Value → Shared → Prop} {s : Shared}
theorem eqB_int_t {a b : Int} (e : a = b) {t u : Tok} {Q : Bool → Shared → Prop} (h : Q true s) : wpAny (model prog w) A (eqBool (.int a t) (.int b u)) Q E s := eqB_int (by simpa [e] using h)
theorem eqB_int_f {a b : Int} (e : a ≠ b) {t u : Tok} {Q : Bool → Shared → Prop} (h : Q false s) : wpAny (model prog w) A (eqBool (.int a t) (.int b u)) Q E s := eqB_int (by simpa [e] using h)
theorem eqB_bytes_t {b c : Array UInt8} (e : b.toList = c.toList) {t u : Tok} {Q : Bool → Shared → Prop} (h : Q true s) : wpAny (model prog w) A (eqBool (.bytes b t) (.bytes c u)) Q E s := eqB_bytes (by rw [e, beq_self_eq_true]; exact h)
theorem eqB_bytes_f {b c : Array UInt8} (e : b.toList ≠ c.toList) {t u : Tok} {Q : Bool → Shared → Prop} (h : Q false s) : wpAny (model prog w) A (eqBool (.bytes b t) (.bytes c u)) Q E s := eqB_bytes (by rw [show (b.toList == c.toList) = false from beq_eq_false_iff_ne.2 e]; exact h)
end
def pairLt (a b : Int) (x y : Array UInt8) : Bool := if a = b then (if x.toList = y.toList then false else Builtin.Bytes.order x.toList y.toList == .lt) else decide (a < b)
theorem tuple_ltAt (l r : Addr) (a b : Int) (x y : Array UInt8) (ta tb tx ty : Tok) (n n2 : Nat) (dd dd2 : Option Addr) (sl sl2 : Array (Option Value)) :
    Meets (Builtin.«tuple.__lt__» ⟨[.ref l, .ref r], []⟩)
      (fun A R s => s.heap.get? l = some { cls := .type "tuple", dict := dd, data := .seq #[.int a ta, .bytes x tx] n, slots := sl } ∧ s.heap.get? r = some { cls := .type "tuple", dict := dd2, data := .seq #[.int b tb, .bytes y ty] n2, slots := sl2 } ∧
        R (.ok (.ret (.bool (pairLt a b x y)))) s) :=
  .of_wp fun prog w A R s h => by
    obtain ⟨hp, g, d, tk, os⟩ := s; obtain ⟨hl, hb, h⟩ := h
    have f2 := AutoSeq1.sub_tuple_tuple
    unfold pairLt at h
    by_cases hab : a = b
    · rw [if_pos hab] at h
      by_cases hxy : x.toList = y.toList
      · rw [if_pos hxy] at h
        wp_walk using wpAny_loadPart' hl, wpAny_loadPart' hb, eqB_int_t hab, eqB_bytes_t hxy
        exact ⟨_, rfl, h⟩
      · rw [if_neg hxy] at h
        wp_walk using wpAny_loadPart' hl, wpAny_loadPart' hb, eqB_int_t hab, eqB_bytes_f hxy, rlt_bytes
        exact ⟨_, rfl, h⟩
    · rw [if_neg hab] at h
      wp_walk using wpAny_loadPart' hl, wpAny_loadPart' hb, eqB_int_f hab, rlt_int
      exact ⟨_, rfl, h⟩
section
variable {prog : Program} {w : World} {A : Around} {E : Value → Shared → Prop} {s : Shared}
theorem lt_pair {l r : Addr} {a b : Int} {x y : Array UInt8} {ta tb tx ty : Tok} {Q : Value → Shared → Prop} (hl : s.heap.IsTuple l #[.int a ta, .bytes x tx]) (hb : s.heap.IsTuple r #[.int b tb, .bytes y ty]) (hu : A.units < cLine)
    (h : Q (.bool (pairLt a b x y)) s) : wpAny (model prog w) A (compareOp .Lt (.ref l) (.ref r)) Q E s := by
  obtain ⟨⟨cls, dd, data, sl⟩, ho, hc, n, hd⟩ := id hl
  obtain ⟨⟨cls2, dd2, data2, sl2⟩, ho2, hc2, n2, hd2⟩ := id hb
  simp only at hc hd hc2 hd2
  subst hc hd hc2 hd2
  exact richCompare_meets_room (op := .Lt) ⟨_, ho, rfl⟩ ⟨_, ho2, rfl⟩ F.slot_tuple_lt F.entry_tuple_lt (F.args_tuple_lt_2 _ _) (tuple_ltAt l r a b x y ta tb tx ty n n2 dd dd2 sl sl2)
    ⟨ho, ho2, show Value.bool (pairLt a b x y) ≠ Value.notImplemented ∧ Q (.bool (pairLt a b x y)) s from ⟨(fun x => nomatch x), h⟩⟩ hu
theorem type_bytes {b : Array UInt8} {t : Tok} {Q : Value → Shared → Prop} (h : Q (.type "bytes") s) : wpAny (model prog w) A (call (.type "type") [.bytes b t]) Q E s :=
  call_type_of (Tx := "bytes") rfl (by decide +kernel) h
end
end Mine

-- part L3
open Mine
open PySem PySem.W PyProof.Rows PySem.Spec PySem.Calls
local macro_rules | `(tactic| walk_at "call type:type") => `(tactic| (k_here; (with_reducible show wpAny _ _ (call (Value.type "type") [Value.bytes _ _]) _ _ _); (refine type_bytes ?_)))
local macro_rules | `(tactic| walk_at "InvEndN") => `(tactic| k_dflt kst_close)
local macro_rules | `(tactic| walk_at "InvEndN") => `(tactic| k_dflt ksr_close)
local macro_rules | `(tactic| kst_facts) => `(tactic| (with_reducible assumption))
local macro_rules | `(tactic| walk_at "call ref") => `(tactic| (k_here; (with_reducible show wpAny _ _ (call (Value.ref 21) [Value.int _ _]) _ _ _); k_dflt (refine' int2ap_use ?k1 ?k2 ?k3 ?k4 ?k5 ?kK ?kp ?kd ?ku ?_; (case kp => first | decide | exact Nat.le_trans (fit1 (by assumption) (by assumption)) (by decide) | exact Nat.le_trans (fit2 (by assumption) (by assumption) (by assumption) (by assumption)) (by decide) | exact fitL (by assumption) (by assumption) _ | exact fitR (by assumption) (by assumption) _); (case k1 => k_asm); (case k2 => k_asm); (case k3 => k_asm); (case k4 => k_asm); (case k5 => k_asm); (case kK => first | exact rfl | assumption); (case kd => ktr_room); (case ku => ktr_units)); intro b9 ks9 t9 h9 tk9 hb9 he9 hl9 F9 N9; (try dsimp only); (try k_fold)))
local macro_rules | `(tactic| walk_at "call ref") => `(tactic| (k_here; (with_reducible show wpAny _ _ (call (Value.ref 35) [Value.bytes _ _, Value.bytes _ _]) _ _ _); k_dflt (refine' prod_use ?k1 ?k2 ?k3 ?k4 ?k5 ?kK ?ka ?kb ?kx ?ky ?la ?lb ?kd ?ku ?_; (case ka => assumption); (case kb => assumption); (case kx => first | assumption | exact rfl); (case ky => first | assumption | exact rfl); (case la => exact len14 (by assumption) (by assumption) (by assumption)); (case lb => exact len14 (by assumption) (by assumption) (by assumption)); (case k1 => k_asm); (case k2 => k_asm); (case k3 => k_asm); (case k4 => k_asm); (case k5 => k_asm); (case kK => first | exact rfl | assumption); (case kd => ktr_room); (case ku => ktr_units)); intro b9 ks9 t9 h9 tk9 hb9 he9 F9 N9; (try dsimp only); (try k_fold)))
local macro_rules | `(tactic| walk_at "subscriptTail Name Name ref int") => `(tactic| (k_here; (with_reducible show wpAny _ _ (subscriptTail _ _ (Value.ref _) (Value.int _ _)) _ _ _); k_dflt (refine' item_ring ?k1 ?k2 ?k3 ?k4 ?k5 ?k6 ?k7 ?_ ?k8; (case k1 => k_asm); (case k2 => k_mem); (case k3 => with_reducible assumption); (case k4 => assumption); (case k5 => omega); (case k6 => omega); (case k7 => omega); (case k8 => with_unfolding_all rfl)); intro rgX rgT rgA rgB))
local macro_rules | `(tactic| walk_at "subscriptTail Name BinOp ref int") => `(tactic| (k_here; (with_reducible show wpAny _ _ (subscriptTail _ _ (Value.ref _) (Value.int _ _)) _ _ _); k_dflt (refine' item_ring ?k1 ?k2 ?k3 ?k4 ?k5 ?k6 ?k7 ?_ ?k8; (case k1 => k_asm); (case k2 => k_mem); (case k3 => with_reducible assumption); (case k4 => assumption); (case k5 => omega); (case k6 => omega); (case k7 => omega); (case k8 => with_unfolding_all rfl)); intro rgX rgT rgA rgB))
local macro_rules | `(tactic| walk_at "compareOp NotEq bytes bytes") => `(tactic| (k_here; (with_reducible show wpAny _ _ (compareOp CmpOp.NotEq (Value.bytes _ _) (Value.bytes _ _)) _ _ _); k_dflt (refine' ne_sameF ?ke ?_; (case ke => first | exact one_word (by assumption) (by assumption) | exact prod_word (by assumption) (by assumption) (by assumption) (by assumption) | exact left_word (by assumption) (by assumption) (by assumption) (by assumption) (by assumption) (by assumption) (by assumption) (by assumption) (by assumption) (by assumption) | exact right_word (by assumption) (by assumption) (by assumption) (by assumption) (by assumption) (by assumption) (by assumption) (by assumption) (by assumption) (by assumption) (by assumption))); intro eqW9))
local macro_rules | `(tactic| walk_at "call type:range") => `(tactic| (k_here; (with_reducible show wpAny _ _ (call (Value.type "range") [Value.int _ _, Value.int _ _, Value.int _ _]) _ _ _); k_dflt (refine' range_step ?k1 ?k2 ?k3 ?k4 ?_; (case k1 => k_asm); (case k2 => k_asm); (case k3 => exact step_lo (by omega)); (case k4 => exact step_hi (by omega) (by omega))); intro rsR rsH rsK rsT rsU rsV rgZ rsF rsN))
local macro_rules | `(tactic| walk_at "call type:list") => `(tactic| (k_here; (with_reducible show wpAny _ _ (call (Value.type "list") [Value.ref _]) _ _ _); (rename IsRange _ _ _ _ _ _ _ _ => rgZ'); k_dflt (refine' list_step ?k0 ?k1 ?k2 ?k3 ?k4 ?k5 ?k6 ?k7 ?_; (case k0 => rfl); (case k1 => k_asm); (case k2 => k_asm); (case k3 => exact rgZ'); (case k4 => exact step_lo (by omega)); (case k5 => exact step_hi (by omega) (by omega)); (case k6 => omega); (case k7 => omega)); intro D' plV plN c' h' tk' F' N' l1 plI plB plL; (try k_lt l1); (try k_sweep)))
local macro_rules | `(tactic| walk_at "call builtin:list.extend") => `(tactic| (k_here; (with_reducible show wpAny _ _ (call (Value.builtin _) [Value.ref _, Value.ref _]) _ _ _); k_dflt (refine' ext_places ?k1 ?k2 ?k3 ?k4 ?k5 ?k6 ?k7 ?k8 ?k9 ?ka ?_; (case k1 => k_asm); (case k2 => k_asm); (case k3 => k_updF); (case k4 => k_mem); (case k5 => with_reducible assumption); (case k6 => with_reducible assumption); (case k7 => assumption); (case k8 => exact pb_far _ (by omega)); (case k9 => assumption); (case ka => exact far_two _ _ _)); intro h' exU exK exC F' N' exI exP exL; (try dsimp only at N'); (try k_sweep)))
local macro_rules | `(tactic| walk_at "call builtin:max") => `(tactic| (k_here; (with_reducible show wpAny _ _ (call (Value.builtin _) [Value.int _ _, Value.int _ _]) _ _ _); (with_reducible rename Fr _ _ _ _ => F'); (with_reducible rename News _ _ _ _ => N'); (with_unfolding_all refine max_var (by rfl) F' N' ?_); intro mxC mxT mxH mxK mxA mxB mxO mxF mxN))
local macro_rules | `(tactic| walk_at "binaryOp Pow int int") => `(tactic| (k_here; (with_reducible show wpAny _ _ (binaryOp PySem.Operator.Pow (Value.int 16 _) (Value.int _ _)) _ _ _); k_dflt (refine' pow_place ?k1 ?k2 ?k3 ?_; (case k2 => assumption); (case k1 => assumption); (case k3 => omega))))
local macro_rules | `(tactic| walk_at "binaryOp FloorDiv int int") => `(tactic| (k_here; (with_reducible show wpAny _ _ (binaryOp PySem.Operator.FloorDiv (Value.int _ _) (Value.int (16 ^ _) _)) _ _ _); k_dflt (refine' div_place ?k1 ?k2 ?k3 ?_; (case k2 => assumption); (case k1 => assumption); (case k3 => omega))))
local macro_rules | `(tactic| walk_at "binaryOp Mod int int") => `(tactic| (k_here; (with_reducible show wpAny _ _ (binaryOp PySem.Operator.Mod (Value.int _ _) (Value.int (16 ^ Int.toNat _) _)) _ _ _); k_dflt (refine' mod_place ?_)))
local macro_rules | `(tactic| walk_at "subscriptTail") => `(tactic| (k_here; (with_reducible show wpAny _ _ (subscriptTail _ (Expr.Slice none (some _) none _) (Value.bytes _ _) (Value.ref _)) _ _ _); (with_reducible rename Fr _ _ _ _ => F'); (with_reducible rename News _ _ _ _ => N'); (refine cut_to (s := ⟨_, _, _, _, _⟩) F' N' (by assumption) (by omega) (by omega) ?_); intro ctC ctL _ _ _ _ _ ctB ctE ctZ))
local macro_rules | `(tactic| walk_at "subscriptTail") => `(tactic| (k_here; (with_reducible show wpAny _ _ (subscriptTail _ (Expr.Slice (some _) none none _) (Value.bytes _ _) (Value.ref _)) _ _ _); (with_reducible rename Fr _ _ _ _ => F'); (with_reducible rename News _ _ _ _ => N'); (refine cut_from (s := ⟨_, _, _, _, _⟩) F' N' (by assumption) (by omega) (by omega) ?_); intro ctC ctL _ _ _ _ _ ctB ctE ctZ))
local macro_rules | `(tactic| walk_at "call ref") => `(tactic| (k_here; (with_reducible show wpAny _ _ (call (Value.ref 28) [Value.bytes _ _]) _ _ _); k_dflt (refine' bare_use ?k1 ?k2 ?k3 ?k4 ?k5 ?kK ?ka ?la ?lx ?kd ?ku ?_; (case ka => assumption); (case la => exact cut_short (by assumption) (by assumption)); (case lx => exact lets_cut (by assumption) (by assumption)); (case k1 => k_asm); (case k2 => k_asm); (case k3 => k_asm); (case k4 => k_asm); (case k5 => k_asm); (case kK => first | exact rfl | assumption); (case kd => ktr_room); (case ku => ktr_units)); intro b9 ks9 t9 h9 tk9 hb9 he9 hl9 F9 N9; (try dsimp only); (try k_fold)))
theorem PySem.Challenge.cw_dm0169_03_holds : PySem.Challenge.rw_dm0169_03.Holds := by
  k_with_none
  k_with "pyIter ref" => (k_of "number" => k_state (fun pre ring => ring.length = 1 + pre.length ∧ RB ring) "ring")
  k_with "pyIter ref" => (k_of "index" => ((rename Fr _ _ _ _ => lF'); (rename News _ _ _ _ => lN'); (rename IsRange _ _ _ _ _ _ _ _ => rgX); (with_unfolding_all refine' cell_range [Str.ofString "one", Str.ofString "other", Str.ofString "word", Str.ofString "size", Str.ofString "places", Str.ofString "behind", Str.ofString "cut"] (by rfl) (by first | exact rgX | assumption) (by exact small_one (by omega) (by omega) (by omega) (by omega)) (by first | exact rangeSize_nat _ _ | rfl) lF' lN' (by assumption) ?_ ?_); (all_goals (try clear lF' lN')); rotate_left; (intro cO cV kU kH kTk cD kMark kFr kNews); rotate_left; (intro cO cV kPre kN kT kU kH kTk kOwn kEq kLt kOff cD kMark kFr kNews); (all_goals (try k_fold))))
  k_with "pyIter ref" => (k_of "behind" => k_search (fun _ => True))
  k_with "state" => first | exact ring_start | exact ring_M (by assumption) (by assumption) | exact ring_N (by assumption) (by assumption) | exact ⟨rfl, by assumption⟩ | exact ⟨by assumption, by assumption⟩
  exact Mine.hd3 (by k_go)

