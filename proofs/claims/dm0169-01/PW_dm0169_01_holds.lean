import PyProof.Rows.All
import Wide.All
import OpenK.AllK
import Wide.FinOn
import PySem.Challenge.RW_dm0169_01
open PySem PySem.W PyProof.Rows
set_option Elab.async false
set_option maxRecDepth 100000
set_option maxHeartbeats 8000000
set_option linter.all false
namespace Mine
open_top hd1 for PySem.Challenge.rw_dm0169_01
end Mine
-- part MB
namespace Mine

/-- the word of a number, as the numbers of its letters (f: steps at most) -/
def apF : Nat → Nat → List Int
  | 0, _ => []
  | f + 1, n => if n = 0 then [] else apF f (n / 16) ++ [65 + ((n % 16 : Nat) : Int)]
def apI (n : Nat) : List Int := apF n n
/-- a word's count -/
def vl (l : List Int) : Int := l.foldl (fun a x => 16 * a + (x - 65)) 0
/-- letters A to P alone -/
def Lets (l : List Int) : Prop := ∀ x ∈ l, 65 ≤ x ∧ x ≤ 80
/-- without the A's in front -/
def bare (l : List Int) : List Int := l.dropWhile (· == 65)

theorem apF_eq : ∀ {f g n : Nat}, n ≤ f → n ≤ g → apF f n = apF g n
  | 0, 0, _, _, _ => rfl
  | 0, g + 1, n, h, _ => by
    have : n = 0 := by omega
    subst this; simp [apF]
  | f + 1, 0, n, _, h => by
    have : n = 0 := by omega
    subst this; simp [apF]
  | f + 1, g + 1, n, h1, h2 => by
    by_cases h : n = 0
    · subst h; simp [apF]
    · simp only [apF, if_neg h]
      rw [apF_eq (f := f) (g := g) (by omega) (by omega)]
theorem apI_zero : apI 0 = [] := rfl
theorem apI_pos {n : Nat} (h : n ≠ 0) : apI n = apI (n / 16) ++ [65 + ((n % 16 : Nat) : Int)] := by
  cases n with
  | zero => exact absurd rfl h
  | succ k =>
    show apF (k + 1) (k + 1) = apF ((k + 1) / 16) ((k + 1) / 16) ++ _
    simp only [apF, if_neg h]
    rw [apF_eq (f := k) (g := (k + 1) / 16) (by omega) (by omega)]
theorem vl_nil : vl [] = 0 := rfl
theorem vl_snoc (l : List Int) (x : Int) : vl (l ++ [x]) = 16 * vl l + (x - 65) := by simp [vl, List.foldl_append]
theorem lets_snoc {l : List Int} {x : Int} : Lets (l ++ [x]) ↔ Lets l ∧ 65 ≤ x ∧ x ≤ 80 := by
  constructor
  · intro h
    exact ⟨fun y hy => h y (List.mem_append.2 (.inl hy)), h x (by simp)⟩
  · rintro ⟨h1, h2⟩ y hy
    rcases List.mem_append.1 hy with hy | hy
    · exact h1 y hy
    · rw [List.mem_singleton.1 hy]; exact h2
theorem lets_nil : Lets [] := fun _ h => nomatch h
theorem lets_app {l m : List Int} : Lets (l ++ m) ↔ Lets l ∧ Lets m := by
  constructor
  · intro h
    exact ⟨fun y hy => h y (List.mem_append.2 (.inl hy)), fun y hy => h y (List.mem_append.2 (.inr hy))⟩
  · rintro ⟨h1, h2⟩ y hy
    rcases List.mem_append.1 hy with hy | hy
    · exact h1 y hy
    · exact h2 y hy
theorem lets_rev {l : List Int} : Lets l.reverse ↔ Lets l := by simp [Lets]

theorem snoc_ind {P : List Int → Prop} (h0 : P []) (h1 : ∀ l x, P l → P (l ++ [x])) : ∀ l, P l := by
  intro l
  have : ∀ r : List Int, P r.reverse := by
    intro r
    induction r with
    | nil => exact h0
    | cons x r ih => rw [List.reverse_cons]; exact h1 _ _ ih
  have := this l.reverse
  rwa [List.reverse_reverse] at this
theorem pow_succ16 (k : Nat) : (16 : Int) ^ (k + 1) = 16 * 16 ^ k := by rw [Int.pow_succ, Int.mul_comm]
theorem pow16_pos (k : Nat) : 0 < (16 : Int) ^ k := by
  induction k with
  | zero => decide
  | succ k ih => rw [pow_succ16]; omega
theorem vl_bound {l : List Int} : Lets l → 0 ≤ vl l ∧ vl l < 16 ^ l.length := by
  induction l using snoc_ind with
  | h0 => intro _; simp [vl_nil]
  | h1 l x ih =>
    intro h
    rw [lets_snoc] at h
    have := ih h.1
    rw [vl_snoc, List.length_append, List.length_singleton, pow_succ16]
    omega
theorem vl_app (l m : List Int) : vl (l ++ m) = vl l * 16 ^ m.length + vl m := by
  induction m using snoc_ind with
  | h0 => simp [vl_nil]
  | h1 m x ih =>
    rw [← List.append_assoc, vl_snoc, ih, vl_snoc, List.length_append, List.length_singleton, pow_succ16]
    generalize (16 : Int) ^ m.length = p
    rw [show vl l * (16 * p) = 16 * (vl l * p) by rw [Int.mul_left_comm]]
    omega
theorem apI_vl {l : List Int} : Lets l → apI (vl l).toNat = bare l := by
  induction l using snoc_ind with
  | h0 => intro _; rw [vl_nil]; exact apI_zero
  | h1 l x ih =>
    intro h
    rw [lets_snoc] at h
    have h1 := ih h.1
    have hb := vl_bound h.1
    rw [vl_snoc]
    unfold bare at h1 ⊢
    rw [List.dropWhile_append, ← h1]
    by_cases hz : vl l = 0
    · rw [hz]
      simp only [Int.toNat_zero, apI_zero, List.isEmpty_nil, if_true]
      by_cases hx : x = 65
      · subst hx; simp [apI_zero]
      · rw [apI_pos (by omega)]
        have e1 : (16 * 0 + (x - 65)).toNat / 16 = 0 := by omega
        have e2 : (65 : Int) + (((16 * 0 + (x - 65)).toNat % 16 : Nat) : Int) = x := by omega
        rw [e1, e2, apI_zero]
        simp [hx]
    · have hne : apI (vl l).toNat ≠ [] := by
        rw [apI_pos (by omega)]; simp
      rw [if_neg (by simpa using hne)]
      rw [apI_pos (by omega)]
      have e1 : (16 * vl l + (x - 65)).toNat / 16 = (vl l).toNat := by omega
      have e2 : (65 : Int) + (((16 * vl l + (x - 65)).toNat % 16 : Nat) : Int) = x := by omega
      rw [e1, e2]
theorem apI_lets (n : Nat) : Lets (apI n) := by
  induction n using Nat.strongRecOn with
  | ind n ih =>
    by_cases h : n = 0
    · subst h; rw [apI_zero]; exact lets_nil
    · rw [apI_pos h, lets_snoc]
      exact ⟨ih _ (by omega), by omega, by omega⟩
theorem vl_apI (n : Nat) : vl (apI n) = n := by
  induction n using Nat.strongRecOn with
  | ind n ih =>
    by_cases h : n = 0
    · subst h; rw [apI_zero]; rfl
    · rw [apI_pos h, vl_snoc, ih _ (by omega)]
      omega
theorem bare_apI (n : Nat) : bare (apI n) = apI n := by
  have h := apI_vl (apI_lets n)
  rw [vl_apI] at h
  simpa using h.symm
theorem apI_len {n k : Nat} (h : n < 16 ^ k) : (apI n).length ≤ k := by
  induction k generalizing n with
  | zero => have : n = 0 := by simpa using h
            subst this; rw [apI_zero]; simp
  | succ k ih =>
    by_cases h0 : n = 0
    · subst h0; rw [apI_zero]; simp
    · rw [apI_pos h0, List.length_append, List.length_singleton]
      have := ih (n := n / 16) (by rw [Nat.pow_succ] at h; omega)
      omega
/-- a word whose count is that of its length is the word of its count -/
theorem apI_exact {l : List Int} (hl : Lets l) (h : l = [] ∨ (16 : Int) ^ (l.length - 1) ≤ vl l) : apI (vl l).toNat = l := by
  rw [apI_vl hl]
  rcases h with rfl | h
  · rfl
  · cases l with
    | nil => rfl
    | cons x r =>
      by_cases hx : x = 65
      · subst hx
        exfalso
        have e : vl (65 :: r) = vl r := by
          have := vl_app [65] r
          simpa [vl] using this
        have hr : Lets r := fun y hy => hl y (.tail _ hy)
        have := vl_bound hr
        rw [e] at h
        simp only [List.length_cons, Nat.add_sub_cancel] at h
        omega
      · simp [bare, hx]
theorem apI_ge {n : Nat} (h : n ≠ 0) : (16 : Int) ^ ((apI n).length - 1) ≤ (n : Int) := by
  induction n using Nat.strongRecOn with
  | ind n ih =>
    rw [apI_pos h, List.length_append, List.length_singleton, Nat.add_sub_cancel]
    by_cases h1 : n / 16 = 0
    · rw [h1, apI_zero]; simp; omega
    · have h2 := ih (n / 16) (by omega) h1
      have h3 : (apI (n / 16)).length ≠ 0 := by rw [apI_pos h1]; simp
      have h4 : (apI (n / 16)).length = ((apI (n / 16)).length - 1) + 1 := by omega
      rw [h4, pow_succ16]
      omega
theorem apI_ne {n : Nat} (h : n ≠ 0) : apI n ≠ [] := by rw [apI_pos h]; simp
theorem apI_inj {a b : Nat} (h : apI a = apI b) : a = b := by
  have := congrArg vl h
  rw [vl_apI, vl_apI] at this
  omega

-- bytes
theorem byteArr_bInts (b : Array UInt8) : byteArr (KBw.bInts b) = b := by
  unfold byteArr KBw.bInts
  rw [List.map_map]
  have : (fun c : UInt8 => ((c.toNat : Int).toNat.toUInt8)) = id := by
    funext c
    simp
  show (List.map (fun c : UInt8 => ((c.toNat : Int).toNat.toUInt8)) b.toList).toArray = b
  rw [this]
  simp
theorem lets_in {l : List Int} (h : Lets l) : KBa.In l := fun x hx => by have := h x hx; omega
theorem bInts_make {l : List Int} (h : Lets l) : KBw.bInts (byteArr l) = l := KBa.ints_make (lets_in h)
theorem bInts_ap (n : Nat) : KBw.bInts (byteArr (apI n)) = apI n := bInts_make (apI_lets n)
theorem bytes_eq {b : Array UInt8} {l : List Int} (h : KBw.bInts b = l) : b = byteArr l := by rw [← h, byteArr_bInts]

abbrev apT : Array UInt8 := #[65, 66, 67, 68, 69, 70, 71, 72, 73, 74, 75, 76, 77, 78, 79, 80]
theorem apT_pick {m : Int} (h0 : 0 ≤ m) (h1 : m < 16) : KBy.picked apT (some m) (some (m + 1)) = byteArr [65 + m] := by
  have : m = 0 ∨ m = 1 ∨ m = 2 ∨ m = 3 ∨ m = 4 ∨ m = 5 ∨ m = 6 ∨ m = 7 ∨ m = 8 ∨ m = 9 ∨ m = 10 ∨ m = 11 ∨ m = 12 ∨ m = 13 ∨ m = 14 ∨ m = 15 := by omega
  rcases this with rfl | rfl | rfl | rfl | rfl | rfl | rfl | rfl | rfl | rfl | rfl | rfl | rfl | rfl | rfl | rfl <;> decide +kernel
section
variable {prog : Program} {w : World} {A : Around} {E : Value → Shared → Prop} {s : Shared} {value slice : PySem.Expr} {b : Array UInt8} {t : Tok} {h₀ : Heap} {L : Addr} {m : PySem.Str → Option Value} {news : List (Addr × Obj)} {l u : Value} {lo hi : Option Int} {Q : Value → Shared → Prop}
/-- one letter cut out of the table -/
theorem ap_cut {k : Int} {t1 t2 : Tok} (hF : Fr h₀ L s.heap m) (hN : News h₀ L s.heap news) (h0 : 0 ≤ k) (h1 : k < 16)
    (h : ∀ h' t' tk, Fr h₀ L h' m → News h₀ L h' news → KBw.bInts (byteArr [65 + k]) = [65 + k] → (byteArr [65 + k]).size = 1 → Q (.bytes (byteArr [65 + k]) t') { s with heap := h', toks := tk })
    (hs : subscripted slice false (.bytes apT t) (.ref s.heap.objs.size) = operate [.ref s.heap.objs.size, .bytes apT t] (getItem (.bytes apT t) (.ref s.heap.objs.size)) := by with_unfolding_all rfl)
    (ht : ∀ r, letTemporaryGo value (.bytes apT t) r = pure () := by intro _; with_unfolding_all rfl) :
    wpAny (model prog w) A (subscriptTail value slice (.bytes apT t) (.ref s.heap.objs.size)) Q E { s with heap := s.heap.push { cls := .type "slice", data := .fields #[.int k t1, .int (k + 1) t2, .none] } } := by
  refine KBc.slice_K (ks := KBw.bInts apT) hF hN rfl (by constructor) (by constructor) (by decide) (fun h' t' tk F' N' e => ?_) hs ht
  rw [apT_pick h0 h1]
  refine h h' t' tk F' N' ?_ (by rw [byteArr_size]; rfl)
  exact KBa.ints_make (fun x hx => by rw [List.mem_singleton.1 hx]; omega)
/-- max of two ints, as a letter -/
theorem max_var {a b : Int} {t u : Tok} (hh : A.handled = none) (F : Fr h₀ L s.heap m) (N : News h₀ L s.heap news)
    (h : ∀ (c : Int) (tc : Tok) (h' : Heap) (tk : Nat), a ≤ c → b ≤ c → (c = a ∨ c = b) → Fr h₀ L h' m → News h₀ L h' news → Q (.int c tc) { s with heap := h', toks := tk }) :
    wpAny (model prog w) A (call (.builtin "max") [.int a t, .int b u]) Q E s :=
  max_two_N hh F N fun h' tk F' N' => h _ _ h' tk (by split <;> omega) (by split <;> omega) (by split <;> simp) F' N'
end
end Mine

-- part P2
namespace Mine
theorem vl_cons (x : Int) (r : List Int) : vl (x :: r) = (x - 65) * 16 ^ r.length + vl r := by
  have := vl_app [x] r
  rw [show vl [x] = x - 65 by simp [vl]] at this
  exact this
/-- the letter's worth at place k from the right, 1 the last -/
def dgt (xs : List Int) (k : Int) : Int := if k ≤ (xs.length : Int) then xs.getD ((xs.length : Int) - k).toNat 0 - 65 else 0
theorem dgt_bound {xs : List Int} (h : Lets xs) (k : Int) (hk : 1 ≤ k) : 0 ≤ dgt xs k ∧ dgt xs k ≤ 15 := by
  unfold dgt
  split
  · rename_i hk'
    have hl : ((xs.length : Int) - k).toNat < xs.length := by omega
    have := h _ (List.getElem_mem hl)
    rw [List.getD_eq_getElem?_getD, List.getElem?_eq_getElem hl]
    simp only [Option.getD_some]
    omega
  · omega
/-- the count of the last k letters -/
def low (xs : List Int) (k : Nat) : Int := vl (xs.drop (xs.length - k))
theorem low_zero (xs : List Int) : low xs 0 = 0 := by simp [low, vl]
theorem low_all {xs : List Int} {k : Nat} (h : xs.length ≤ k) : low xs k = vl xs := by
  unfold low
  rw [show xs.length - k = 0 by omega, List.drop_zero]
theorem low_succ (xs : List Int) (k : Nat) : low xs (k + 1) = low xs k + dgt xs (1 + (k : Int)) * 16 ^ k := by
  unfold low dgt
  by_cases h : k + 1 ≤ xs.length
  · rw [if_pos (by omega)]
    have hl : xs.length - (k + 1) < xs.length := by omega
    rw [List.drop_eq_getElem_cons hl, vl_cons]
    have e1 : xs.length - (k + 1) + 1 = xs.length - k := by omega
    have e2 : ((xs.length : Int) - (1 + (k : Int))).toNat = xs.length - (k + 1) := by omega
    rw [e1, e2, List.length_drop, List.getD_eq_getElem?_getD, List.getElem?_eq_getElem hl]
    have e3 : xs.length - (xs.length - k) = k := by omega
    rw [e3]
    simp only [Option.getD_some]
    omega
  · rw [if_neg (by omega)]
    have e1 : xs.length - (k + 1) = 0 := by omega
    have e2 : xs.length - k = 0 := by omega
    rw [e1, e2]; omega
def DgtIs (xs : List Int) (k d : Int) : Prop := (k ≤ (xs.length : Int) ∧ d = xs.getD ((xs.length : Int) - k).toNat 0 - 65) ∨ (¬ k ≤ (xs.length : Int) ∧ d = 0)
theorem dgt_is (xs : List Int) (k : Int) : DgtIs xs k (dgt xs k) := by
  unfold DgtIs dgt
  split
  · rename_i h; exact .inl ⟨h, rfl⟩
  · rename_i h; exact .inr ⟨h, rfl⟩
def AddInv (xs ys : List Int) (k : Nat) (c : Int) (L : List Int) : Prop := vl L.reverse + c * 16 ^ k = low xs k + low ys k
theorem add_start (xs ys : List Int) : AddInv xs ys ([] : List Int).length 0 [] ∧ Lets [] ∧ ([] : List Int).length = ([] : List Int).length ∧ ((0 : Int) = 0 ∨ (0 : Int) = 1) := by
  refine ⟨?_, lets_nil, rfl, .inl rfl⟩
  show vl [] + 0 * 16 ^ 0 = low xs 0 + low ys 0
  rw [low_zero, low_zero]; rfl
theorem add_turn {xs ys B1 B2 pre L : List Int} {c k col c' x : Int} (hb1 : B1 = xs) (hb2 : B2 = ys) (hlx : Lets xs) (hly : Lets ys)
    (h : AddInv B1 B2 pre.length c L) (hL : Lets L) (hlen : L.length = pre.length) (hc : c = 0 ∨ c = 1) (hk : k = 1 + (pre.length : Int))
    (hx : x = 65 + col - 16 * c') (hcol : ∀ dx dy, DgtIs xs k dx → DgtIs ys k dy → col = c + dx + dy) (hc' : (col > 15 ∧ c' = 1) ∨ (col ≤ 15 ∧ c' = 0)) :
    AddInv B1 B2 (pre ++ [k]).length c' (L ++ [x]) ∧ Lets (L ++ [x]) ∧ (L ++ [x]).length = (pre ++ [k]).length ∧ (c' = 0 ∨ c' = 1) := by
  subst hb1 hb2 hk
  have b1 := dgt_bound hlx (1 + (pre.length : Int)) (by omega)
  have b2 := dgt_bound hly (1 + (pre.length : Int)) (by omega)
  have hc2 : c' = 0 ∨ c' = 1 := by omega
  have hcol := hcol _ _ (dgt_is _ _) (dgt_is _ _)
  refine ⟨?_, lets_snoc.2 ⟨hL, ?_, ?_⟩, by simp [hlen], hc2⟩
  · unfold AddInv at h ⊢
    rw [List.length_append, List.length_singleton, low_succ, low_succ, List.reverse_append, List.reverse_singleton, List.singleton_append, vl_cons, List.length_reverse, hlen, pow_succ16, hx, hcol]
    generalize dgt B1 (1 + (pre.length : Int)) = dx at *
    generalize dgt B2 (1 + (pre.length : Int)) = dy at *
    generalize (16 : Int) ^ pre.length = p at *
    have e : (65 + (c + dx + dy) - 16 * c' - 65) * p = c * p + dx * p + dy * p - 16 * (c' * p) := by
      rw [show 65 + (c + dx + dy) - 16 * c' - 65 = (c + dx + dy) - 16 * c' by omega, Int.sub_mul, Int.add_mul, Int.add_mul, Int.mul_assoc]
    rw [e, show c' * (16 * p) = 16 * (c' * p) by rw [Int.mul_left_comm]]
    omega
  · omega
  · omega
/-- what the columns end with is the sum's word -/
theorem add_end {x y n : Nat} {c : Int} {L : List Int} (h1 : (apI x).length ≤ n) (h2 : (apI y).length ≤ n) (h3 : n = (apI x).length ∨ n = (apI y).length)
    (h : AddInv (apI x) (apI y) n c L) (hL : Lets L) (hlen : L.length = n) (hc : c = 0 ∨ c = 1) :
    (if c = 0 then L.reverse else (L ++ [66]).reverse) = apI (x + y) := by
  unfold AddInv at h
  rw [low_all h1, low_all h2, vl_apI, vl_apI] at h
  rcases hc with rfl | rfl
  · rw [if_pos rfl]
    have e : vl L.reverse = ((x + y : Nat) : Int) := by omega
    have hl := apI_exact (l := L.reverse) (lets_rev.2 hL) ?_
    · rw [e, Int.toNat_natCast] at hl; exact hl.symm
    · rw [e, List.length_reverse, hlen]
      by_cases hn : n = 0
      · left; have : L = [] := List.length_eq_zero_iff.1 (by omega)
        rw [this]; rfl
      · right
        rcases h3 with h3 | h3
        · have : x ≠ 0 := by rintro rfl; rw [apI_zero] at h3; simp at h3; omega
          have := apI_ge this
          rw [← h3] at this
          omega
        · have : y ≠ 0 := by rintro rfl; rw [apI_zero] at h3; simp at h3; omega
          have := apI_ge this
          rw [← h3] at this
          omega
  · rw [if_neg (by decide), List.reverse_append, List.reverse_singleton, List.singleton_append]
    have e : vl (66 :: L.reverse) = ((x + y : Nat) : Int) := by
      rw [vl_cons, List.length_reverse, hlen]; omega
    have hl := apI_exact (l := 66 :: L.reverse) (fun z hz => ?_) ?_
    · rw [e, Int.toNat_natCast] at hl; exact hl.symm
    · rcases List.mem_cons.1 hz with rfl | hz
      · omega
      · exact lets_rev.2 hL z hz
    · right
      rw [e, List.length_cons, List.length_reverse, hlen, Nat.add_sub_cancel]
      have := vl_bound (lets_rev.2 hL)
      omega

def TakeInv (xs ys : List Int) (k : Nat) (b : Int) (L : List Int) : Prop := vl L.reverse - b * 16 ^ k = low xs k - low ys k
theorem take_start (xs ys : List Int) : TakeInv xs ys ([] : List Int).length 0 [] ∧ Lets [] ∧ ([] : List Int).length = ([] : List Int).length ∧ ((0 : Int) = 0 ∨ (0 : Int) = 1) := by
  refine ⟨?_, lets_nil, rfl, .inl rfl⟩
  show vl [] - 0 * 16 ^ 0 = low xs 0 - low ys 0
  rw [low_zero, low_zero]; rfl
theorem take_turn {xs ys B1 B2 pre L : List Int} {c k col c' x : Int} (hb1 : B1 = xs) (hb2 : B2 = ys) (hlx : Lets xs) (hly : Lets ys)
    (h : TakeInv B1 B2 pre.length c L) (hL : Lets L) (hlen : L.length = pre.length) (hc : c = 0 ∨ c = 1) (hk : k = 1 + (pre.length : Int))
    (hx : x = 65 + col + 16 * c') (hcol : ∀ dx dy, DgtIs xs k dx → DgtIs ys k dy → col = dx - c - dy) (hc' : (col < 0 ∧ c' = 1) ∨ (0 ≤ col ∧ c' = 0)) :
    TakeInv B1 B2 (pre ++ [k]).length c' (L ++ [x]) ∧ Lets (L ++ [x]) ∧ (L ++ [x]).length = (pre ++ [k]).length ∧ (c' = 0 ∨ c' = 1) := by
  subst hb1 hb2 hk
  have b1 := dgt_bound hlx (1 + (pre.length : Int)) (by omega)
  have b2 := dgt_bound hly (1 + (pre.length : Int)) (by omega)
  have hc2 : c' = 0 ∨ c' = 1 := by omega
  have hcol := hcol _ _ (dgt_is _ _) (dgt_is _ _)
  refine ⟨?_, lets_snoc.2 ⟨hL, ?_, ?_⟩, by simp [hlen], hc2⟩
  · unfold TakeInv at h ⊢
    rw [List.length_append, List.length_singleton, low_succ, low_succ, List.reverse_append, List.reverse_singleton, List.singleton_append, vl_cons, List.length_reverse, hlen, pow_succ16, hx, hcol]
    generalize dgt B1 (1 + (pre.length : Int)) = dx at *
    generalize dgt B2 (1 + (pre.length : Int)) = dy at *
    generalize (16 : Int) ^ pre.length = p at *
    have e : (65 + (dx - c - dy) + 16 * c' - 65) * p = dx * p - c * p - dy * p + 16 * (c' * p) := by
      rw [show 65 + (dx - c - dy) + 16 * c' - 65 = (dx - c - dy) + 16 * c' by omega, Int.add_mul, Int.sub_mul, Int.sub_mul, Int.mul_assoc]
    rw [e, show c' * (16 * p) = 16 * (c' * p) by rw [Int.mul_left_comm]]
    omega
  · omega
  · omega
theorem bare_snoc_rev {L : List Int} {x : Int} (h : x = 65) : bare (L ++ [x]).reverse = bare L.reverse := by
  subst h; simp [bare]
theorem take_end {x y : Nat} {c : Int} {L M : List Int} (hxy : y ≤ x)
    (h : TakeInv (apI x) (apI y) (apI x).length c L) (hL : Lets L) (hlen : L.length = (apI x).length) (hc : c = 0 ∨ c = 1)
    (hM : bare M.reverse = bare L.reverse) (hd : M = [] ∨ ∀ z, M.getLast? = some z → z ≠ 65) : M.reverse = apI (x - y) := by
  have hyl : (apI y).length ≤ (apI x).length := by
    refine apI_len ?_
    have hb := vl_bound (apI_lets x)
    rw [vl_apI] at hb
    have e : ((16 ^ (apI x).length : Nat) : Int) = (16 : Int) ^ (apI x).length := by simp
    omega
  unfold TakeInv at h
  rw [low_all (Nat.le_refl _), low_all hyl, vl_apI, vl_apI] at h
  have hb := vl_bound (lets_rev.2 hL)
  rw [List.length_reverse, hlen] at hb
  have hc0 : c = 0 := by
    rcases hc with rfl | rfl
    · rfl
    · exfalso; omega
  subst hc0
  have e : vl L.reverse = ((x - y : Nat) : Int) := by omega
  have h1 := apI_vl (lets_rev.2 hL)
  rw [e, Int.toNat_natCast] at h1
  rw [h1, ← hM]
  rcases hd with rfl | hd
  · rfl
  · cases hM' : M.reverse with
    | nil => rfl
    | cons z r =>
      have hz : M.getLast? = some z := by
        have : M = (z :: r).reverse := by rw [← hM', List.reverse_reverse]
        rw [this]; simp
      have := hd z hz
      simp [bare, this]
end Mine

-- part MS
namespace Mine
theorem clip_nn {n : Nat} {i : Int} (h : 0 ≤ i) : clipAt n i = min i.toNat n := by
  have : i = (i.toNat : Int) := by omega
  rw [this, clipAt_nat]; omega
section
variable {prog : Program} {w : World} {A : Around} {E : Value → Shared → Prop} {s : Shared} {value slice : PySem.Expr} {b : Array UInt8} {t : Tok} {h₀ : Heap} {L : Addr} {m : PySem.Str → Option Value} {news : List (Addr × Obj)} {Q : Value → Shared → Prop} {ks : List Int}
/-- b[:k] -/
theorem cut_to {k : Int} {t1 : Tok} (hF : Fr h₀ L s.heap m) (hN : News h₀ L s.heap news) (hb : KBw.bInts b = ks) (h0 : 0 ≤ k) (hz : ks.length ≤ 16777216)
    (h : ∀ (c : Array UInt8) (ls : List Int) h' t' tk, Fr h₀ L h' m → News h₀ L h' news → KBw.bInts c = ls → ls = ks.take k.toNat → ls.length ≤ ks.length → Q (.bytes c t') { s with heap := h', toks := tk })
    (hs : subscripted slice false (.bytes b t) (.ref s.heap.objs.size) = operate [.ref s.heap.objs.size, .bytes b t] (getItem (.bytes b t) (.ref s.heap.objs.size)) := by with_unfolding_all rfl)
    (ht : ∀ r, letTemporaryGo value (.bytes b t) r = pure () := by intro _; with_unfolding_all rfl) :
    wpAny (model prog w) A (subscriptTail value slice (.bytes b t) (.ref s.heap.objs.size)) Q E { s with heap := s.heap.push { cls := .type "slice", data := .fields #[.none, .int k t1, .none] } } := by
  refine KBc.slice_K hF hN hb (by constructor) (by constructor) hz (fun h' t' tk F' N' e => ?_) hs ht
  refine h _ _ h' t' tk F' N' e ?_ ?_
  · simp only [Option.elim, List.drop_zero, Nat.sub_zero, clip_nn h0]
    rw [Nat.min_comm, ← List.take_take, List.take_of_length_le (by rw [List.length_take]; omega)]
  · simp only [Option.elim, List.drop_zero, Nat.sub_zero, List.length_take]; omega
/-- b[k:] -/
theorem cut_from {k : Int} {t1 : Tok} (hF : Fr h₀ L s.heap m) (hN : News h₀ L s.heap news) (hb : KBw.bInts b = ks) (h0 : 0 ≤ k) (hz : ks.length ≤ 16777216)
    (h : ∀ (c : Array UInt8) (ls : List Int) h' t' tk, Fr h₀ L h' m → News h₀ L h' news → KBw.bInts c = ls → ls = ks.drop k.toNat → ls.length ≤ ks.length → Q (.bytes c t') { s with heap := h', toks := tk })
    (hs : subscripted slice false (.bytes b t) (.ref s.heap.objs.size) = operate [.ref s.heap.objs.size, .bytes b t] (getItem (.bytes b t) (.ref s.heap.objs.size)) := by with_unfolding_all rfl)
    (ht : ∀ r, letTemporaryGo value (.bytes b t) r = pure () := by intro _; with_unfolding_all rfl) :
    wpAny (model prog w) A (subscriptTail value slice (.bytes b t) (.ref s.heap.objs.size)) Q E { s with heap := s.heap.push { cls := .type "slice", data := .fields #[.int k t1, .none, .none] } } := by
  refine KBc.slice_K hF hN hb (by constructor) (by constructor) hz (fun h' t' tk F' N' e => ?_) hs ht
  refine h _ _ h' t' tk F' N' e ?_ ?_
  · simp only [Option.elim, clip_nn h0]
    by_cases hk : k.toNat ≤ ks.length
    · rw [Nat.min_eq_left hk, List.take_of_length_le (by rw [List.length_drop]; omega)]
    · rw [Nat.min_eq_right (by omega), List.drop_of_length_le (Nat.le_refl _), List.drop_of_length_le (by omega)]; simp
  · simp only [Option.elim, List.length_take, List.length_drop]; omega
theorem bytes_beq {b c : Array UInt8} {ls ms : List Int} (hb : KBw.bInts b = ls) (hc : KBw.bInts c = ms) : (b.toList == c.toList) = decide (ls = ms) := by
  subst hb hc
  by_cases h : b.toList = c.toList
  · have : KBw.bInts b = KBw.bInts c := by unfold KBw.bInts; rw [h]
    simp [h, this]
  · have : KBw.bInts b ≠ KBw.bInts c := fun e => h (by
      have e2 := congrArg byteArr e
      rw [byteArr_bInts, byteArr_bInts] at e2
      rw [e2])
    rw [beq_eq_false_iff_ne.2 h, decide_eq_false this]
/-- == of two bytes -/
theorem eq_ints {c : Array UInt8} {ls ms : List Int} {u : Tok} (hb : KBw.bInts b = ls) (hc : KBw.bInts c = ms) (h : Q (.bool (decide (ls = ms))) s) : wpAny (model prog w) A (compareOp .Eq (.bytes b t) (.bytes c u)) Q E s :=
  eq_bytes (by rw [bytes_beq hb hc]; exact h)
theorem ne_ints {c : Array UInt8} {ls ms : List Int} {u : Tok} (hb : KBw.bInts b = ls) (hc : KBw.bInts c = ms) (h : Q (.bool (decide (ls ≠ ms))) s) : wpAny (model prog w) A (compareOp .NotEq (.bytes b t) (.bytes c u)) Q E s :=
  ne_bytes (by rw [bne, bytes_beq hb hc, ← decide_not]; exact h)
end
section
variable {prog : Program} {w : World} {A : Around} {E : Value → Shared → Prop} {s : Shared} {h₀ : Heap} {L : Addr} {m : PySem.Str → Option Value} {news : List (Addr × Obj)} {Q : Value → Shared → Prop}
/-- divmod, its tuple's address above all others -/
theorem divmod_lt {a b : Int} {t u : Tok} (F : Fr h₀ L s.heap m) (N : News h₀ L s.heap news) (hb : b ≠ 0)
    (h : ∀ (D : Addr) (t1 t2 : Tok) (h' : Heap) (tk : Nat), Fr h₀ L h' m → News h₀ L h' ((D, { cls := .type "tuple", data := .seq #[.int (a.fdiv b) t1, .int (a.fmod b) t2] }) :: news) → (∀ p ∈ news, p.1 < D) → Q (.ref D) { s with heap := h', toks := tk })
    (hp : Builtin.divisionGoesByPylong a b = false ∨ PySem.PylongRoom (model prog w) A s) :
    wpAny (model prog w) A (call (.builtin "divmod") [.int a t, .int b u]) Q E s :=
  divmod_N F N hb (fun h' F' N' => h _ _ _ h' _ F' N' fun p hp => Heap.lt_size (N p hp).1) hp
end
theorem take_one {ks : List Int} (h : ks.take 1 = [65]) : ∃ r, ks = 65 :: r := by
  cases ks with
  | nil => simp at h
  | cons x r => simp at h; exact ⟨r, by rw [h]⟩
theorem bare_drop {ks : List Int} (h : ks.take 1 = [65]) : bare (ks.drop 1) = bare ks := by
  obtain ⟨r, rfl⟩ := take_one h
  simp [bare]
theorem bare_stop {ks : List Int} (h : ¬ ks.take 1 = [65]) : bare ks = ks := by
  cases ks with
  | nil => rfl
  | cons x r => simp at h; simp [bare, h]
theorem drop_falls {ks : List Int} (h : ks.take 1 = [65]) : (ks.drop 1).length < ks.length := by
  obtain ⟨r, rfl⟩ := take_one h
  simp
end Mine

-- part C1
namespace Mine
def WInv (n0 num : Int) (val : Array UInt8) : Prop := 0 ≤ num ∧ (apI n0.toNat).length ≤ 1000 ∧ apI num.toNat ++ KBw.bInts val = apI n0.toNat
theorem w_start {n n0 : Int} (h : (apI n.natAbs).length ≤ 1000) (e : n0.toNat = n.natAbs) (h0 : 0 ≤ n0) : WInv n0 n0 #[] ∧ (#[] : Array UInt8).size ≤ 1000 :=
  ⟨⟨h0, by rw [e]; exact h, by simp [KBw.bInts]⟩, by simp⟩
theorem w_turn {n0 num k : Int} {val : Array UInt8} (h : WInv n0 num val) (hne : num ≠ 0) (hk : k = num.fmod 16) : WInv n0 (num.fdiv 16) (byteArr [65 + k] ++ val) ∧ (byteArr [65 + k] ++ val).size ≤ 1000 := by
  subst hk
  obtain ⟨h0, hl, he⟩ := h
  have e1 : (num.fdiv 16).toNat = num.toNat / 16 := by
    rw [Int.fdiv_eq_ediv_of_nonneg _ (by decide)]; omega
  have e2 : (65 : Int) + num.fmod 16 = 65 + ((num.toNat % 16 : Nat) : Int) := by
    rw [Int.fmod_eq_emod_of_nonneg _ (by decide)]; omega
  have hb : KBw.bInts (byteArr [65 + num.fmod 16]) = [65 + num.fmod 16] :=
    KBa.ints_make (fun x hx => by rw [List.mem_singleton.1 hx]; rw [Int.fmod_eq_emod_of_nonneg _ (by decide)]; omega)
  have key : apI (num.fdiv 16).toNat ++ KBw.bInts (byteArr [65 + num.fmod 16] ++ val) = apI n0.toNat := by
    rw [KBw.ints_app hb rfl, e1, e2, ← he, apI_pos (n := num.toNat) (by omega)]
    simp
  refine ⟨⟨by rw [Int.fdiv_eq_ediv_of_nonneg _ (by decide)]; omega, hl, key⟩, ?_⟩
  have := congrArg List.length key
  rw [List.length_append, KBw.ints_length] at this
  omega
theorem w_end {n0 num : Int} {n : Nat} {val : Array UInt8} (h : WInv n0 num val) (e : num = 0) (hn : n0.toNat = n) : val = byteArr (apI n) := by
  subst e
  obtain ⟨_, _, he⟩ := h
  rw [show (0 : Int).toNat = 0 from rfl, apI_zero, List.nil_append] at he
  rw [← hn]
  exact bytes_eq he
theorem w_fall {num : Int} (h : 0 ≤ num) (hne : num ≠ 0) : (num.fdiv 16).toNat < num.toNat := by
  rw [Int.fdiv_eq_ediv_of_nonneg _ (by decide)]; omega
theorem w_nn {n0 num : Int} {val : Array UInt8} (h : WInv n0 num val) : 0 ≤ num := h.1
theorem cb_retBy {h₀ h' : Heap} {L : Addr} {m : Str → Option Value} {news : List (Addr × Obj)} {s : Shared} {Q : Value → Shared → Prop} {t : Tok} {tk' : Nat} {x y : Array UInt8} (hret : ∀ (t : Tok) (h' : Heap) (tk' : Nat), Fr h₀ L h' m → News h₀ L h' news → Q (.bytes x t) { s with heap := h', toks := tk' }) (e : y = x) (F : Fr h₀ L h' m) (N : News h₀ L h' news) : Q (.bytes y t) { s with heap := h', toks := tk' } := by
  subst e
  exact hret t h' tk' F N

local macro_rules | `(tactic| walk_at "subscriptTail") => `(tactic| (k_here; (with_reducible show wpAny _ _ (subscriptTail _ (Expr.Slice _ _ none _) (Value.bytes #[65, 66, 67, 68, 69, 70, 71, 72, 73, 74, 75, 76, 77, 78, 79, 80] _) (Value.ref _)) _ _ _); (with_reducible rename Fr _ _ _ _ => F'); (with_reducible rename News _ _ _ _ => N'); (refine ap_cut (s := ⟨_, _, _, _, _⟩) F' N' (fmod_lo _ (by decide)) (fmod_hi _ (by decide)) ?_); intro _ _ _ _ _ apK apS))

theorem int2ap_c (w : World) (s₀ : Shared) (mg mb : Str → Option Value) (news : List (Addr × Obj)) (n : Int) (t : Tok) :
    CbClaim Challenge.rw_dm0169_01.row.prog w (hd1.heap_39 w.params) hd1.view_39 (looseW hd1.view_39 []) (ExcName.means s₀.heap) mg mb 21 news [] ((apI n.natAbs).length ≤ 1000) [.int n t] (fun u => .bytes (byteArr (apI n.natAbs)) u) := by
  k_fill
  w_top off
  k_with_none
  k_with "exec While Name cons nil" => k_while_given ["num!"] (fun n0 script num val => WInv n0 num val ∧ val.size ≤ 1000) (fun n0 script num val => num.toNat) "num" "val"
  k_with "state" => first | exact w_start (by assumption) (by split <;> omega) (by split <;> omega) | exact w_turn (by assumption) (by assumption) rfl
  k_with "measure" => exact w_fall (w_nn (by assumption)) (by assumption)
  dsimp only [CbClaim, CbLists, CbRet]
  intros
  rename_i hret
  refine wpAny_call ?_
  k_dflt cell_enter
  k_steps
  exact cb_retBy hret (w_end (by assumption) (by assumption) (by split <;> omega)) (by k_asm) (by k_asm)
end Mine

-- part LB
namespace Mine
section
variable {prog : Program} {w : World} {A : Around} {E : Value → Shared → Prop} {s : Shared} {b : Array UInt8} {t : Tok}
def OctAt (b : Array UInt8) (i : Nat) (v : Value) : Prop := ∃ c u, b[i]? = some c ∧ v = .int (c.toNat : Int) u
theorem lb_extend {R : Result → Shared → Prop} (hh : A.handled = none) (S : Addr) (res : Value) (c₀ : Nat) (hn : b.size ≤ sizeLine) (hS : s.heap.get? S = some { cls := .type "list", data := .seq #[] c₀ })
    (hR : ∀ h' tk acc' c', (∀ b o, b ≠ S → s.heap.get? b = some o → h'.get? b = some o) → h'.get? S = some { cls := .type "list", dict := none, data := .seq acc' c', slots := #[] } →
      ItemsOf (OctAt b) acc' b.size → R (.ok (.ret res)) { s with heap := h', toks := tk }) :
    wpAny (model prog w) A.in1 (Builtin.List.listExtendWith (.ref S) (.bytes b t) res)
      (fun fin s' => match fin with | .done f => R (.ok f) s' | .again c' => c'.quiet = true ∧ codeAny (model prog w) A c' R s') (fun e s' => R (.error e) s') s := by
  have hSI : S ≠ s.heap.objs.size := Nat.ne_of_lt (Heap.lt_size hS)
  have hSf : S ∉ [s.heap.objs.size] := fun hm => hSI (List.mem_singleton.mp hm)
  unfold Builtin.List.listExtendWith
  refine wpAny_bind (wpAny_typeOf (typeIs_bytes s b t) ?_)
  have h1 : Builtin.List.listSameRef (.ref S) (.bytes b t) = false := rfl
  have h2 : (Value.type "bytes" == Value.type "list") = false := by decide
  have h3 : (Value.type "bytes" == Value.type "tuple") = false := by decide
  simp only [h1, h2, h3, Bool.or_false, Bool.false_eq_true, if_false]
  refine wpAny_bind (KBw.pyIter_bytes ?_)
  refine wpAny_bind (wpAny_holding ?_)
  unfold Builtin.List.listLengthHint
  refine wpAny_bind (wpAny_specialOf (typeIs_bytes _ b t) FB.slot_bytes_len.lookup ?_)
  wp_delta
  refine wpAny_bind (wpAny_isInstance (T := "bytes") (b := true) (typeIs_bytes _ b t) (by rw [isSubtype_type]; kernel_rfl) ?_)
  show wpAny _ _ (typeOf (Value.bytes b t) >>= _) _ _ _
  refine wpAny_bind (wpAny_typeOf (typeIs_bytes _ b t) ?_)
  refine wpAny_pure ?_
  rw [if_neg (by decide)]
  refine wpAny_pure ⟨plainId_quiet F.plain_extend_loop _, codeAny_extend_loopS (KBw.walks (A := A.in1) hh s.heap.objs.size b t).toS hn _ hSf _ b.size 0 _ _ _ rfl (Nat.zero_le _) ⟨_, Heap.get?_push_size _ rfl, rfl, rfl⟩ (Heap.get?_push_of_some _ hS) (ItemsOf.nil _) fun s' acc' c' hm hS' hacc => ?_⟩
  rw [Moved.eq_with hm]
  refine hR s'.heap s'.toks acc' c' (fun b ob hb e => hm.heap b ob (fun hmem => ?_) (Heap.get?_push_of_some _ e)) hS' hacc
  rcases List.mem_cons.mp hmem with e' | hmem
  · exact hb e'
  · exact absurd (Heap.lt_size e) (by rw [List.mem_singleton.mp hmem]; exact Nat.lt_irrefl _)
theorem lb_init {R : Result → Shared → Prop} (hh : A.handled = none) (S : Addr) (hn : b.size ≤ sizeLine) (hS : s.heap.get? S = some { cls := .type "list", data := .seq #[] })
    (hR : ∀ h' tk acc' c', (∀ b o, b ≠ S → s.heap.get? b = some o → h'.get? b = some o) → h'.get? S = some { cls := .type "list", dict := none, data := .seq acc' c', slots := #[] } →
      ItemsOf (OctAt b) acc' b.size → R (.ok (.ret .none)) { s with heap := h', toks := tk }) :
    wpAny (model prog w) A.in1 (Builtin.«list.__init__» ⟨[.ref S, .bytes b t], []⟩)
      (fun fin s' => match fin with | .done f => R (.ok f) s' | .again c' => c'.quiet = true ∧ codeAny (model prog w) A c' R s') (fun e s' => R (.error e) s') s := by
  show wpAny _ _ (do let old ← Builtin.List.listItems (.ref S); Builtin.List.listUpdate (.ref S) (fun _ => #[]); letGo old.toList.reverse; Builtin.List.listExtendWith (.ref S) (.bytes b t) .none) _ _ s
  refine wpAny_bind ?_
  unfold Builtin.List.listItems
  refine wpAny_bind (wpAny_seqItems hS rfl (wpAny_pure ?_))
  show wpAny _ _ (updateSeq S (fun _ => #[]) >>= fun _ => letGo (#[] : Array Value).toList.reverse >>= fun _ => Builtin.List.listExtendWith (.ref S) (.bytes b t) .none) _ _ s
  refine wpAny_bind (wpAny_updateSeq hS rfl ?_)
  have hS₂ := Heap.get?_update_self (Obj.mapSeq (fun _ => (#[] : Array Value))) hS rfl
  have oth : ∀ b o, b ≠ S → s.heap.get? b = some o → (s.heap.update S (Obj.mapSeq (fun _ => (#[] : Array Value)))).get? b = some o :=
    fun b o hb e => (Heap.get?_update_other _ _ (Ne.symm hb)).trans e
  refine wpAny_bind (wpAny_letGo ?_)
  refine lb_extend hh S .none _ hn hS₂ fun h' tk acc' c' hk hS' hacc => ?_
  exact hR h' tk acc' c' (fun b o hb e => hk b o hb (oth b o hb e)) hS' hacc
theorem lb_call {Q : Value → Shared → Prop} (hh : A.handled = none) (hn : b.size ≤ sizeLine)
    (hQ : ∀ h' tk acc' c', (∀ b o, s.heap.get? b = some o → h'.get? b = some o) →
      h'.get? s.heap.objs.size = some { cls := .type "list", dict := none, data := .seq acc' c', slots := #[] } → ItemsOf (OctAt b) acc' b.size → Q (.ref s.heap.objs.size) { s with heap := h', toks := tk }) :
    wpAny (model prog w) A (call (.type "list") [.bytes b t]) Q E s := by
  refine callType_codes (Q₁ := fun obj s₁ => obj = .ref s.heap.objs.size ∧ s₁ = { s with heap := s.heap.push { cls := .type "list", data := .seq #[] } }) F.called_list (F.typeCall_list_1 _) F.entry_list_init
    (code_list_new _ ⟨rfl, rfl⟩) fun obj s₁ h₁ => ?_
  obtain ⟨rfl, rfl⟩ := h₁
  have hS : (s.heap.push { cls := .type "list", data := .seq #[] }).get? s.heap.objs.size = some { cls := .type "list", data := .seq #[] } := Heap.get?_push_size _ rfl
  refine ⟨⟨_, hS, rfl⟩, F.args_list_init_2 _ _, lb_init (A := A.in1) hh _ hn hS fun h' tk acc' c' hk hS' hacc => ?_⟩
  exact ⟨rfl, hQ h' tk acc' c' (fun b o e => hk b o (Nat.ne_of_lt (Heap.lt_size e)) (Heap.get?_push_of_some _ e)) hS' hacc⟩
theorem oct_ints : ∀ (l : List UInt8) (vs : List Value), vs.length = l.length → (∀ (j : Nat) (v : Value), vs[j]? = some v → ∃ c u, l[j]? = some c ∧ v = .int (c.toNat : Int) u) → IntsAre vs (l.map fun c => (c.toNat : Int))
  | [], [], _, _ => .nil
  | [], _ :: _, h, _ => by simp at h
  | _ :: _, [], h, _ => by simp at h
  | c :: l, v :: vs, h, hv => by
    obtain ⟨c', u, hc, rfl⟩ := hv 0 v rfl
    have : c = c' := by simpa using hc
    subst this
    exact .cons _ u (oct_ints l vs (by simpa using h) fun j v hj => hv (j + 1) v hj)
/-- list(word) -/
theorem list_bytes {h₀ : Heap} {L : Addr} {m : Str → Option Value} {news : List (Addr × Obj)} {ks : List Int} {Q : Value → Shared → Prop} (hh : A.handled = none) (F : Fr h₀ L s.heap m) (N : News h₀ L s.heap news) (hb : KBw.bInts b = ks) (hl : ks.length ≤ 1000)
    (h : ∀ D us k h' tk, Fr h₀ L h' m → News h₀ L h' ((D, listOf (List.toArray us) k) :: news) → (∀ p ∈ news, p.1 < D) → IntsAre us ks → Q (.ref D) { s with heap := h', toks := tk }) :
    wpAny (model prog w) A (call (.type "list") [.bytes b t]) Q E s := by
  subst hb
  rw [KBw.ints_length] at hl
  refine lb_call hh (by rw [sizeLine_eq]; omega) fun h' tk acc k hk hD hI => ?_
  have hD' : h'.get? s.heap.objs.size = some (listOf (List.toArray acc.toList) k) := by
    rw [Array.toArray_toList]
    exact hD
  refine h _ acc.toList k h' tk (F.keeps hk) (news_pushed F N hk hD' rfl) (fun p hp => Heap.lt_size (N p hp).1) ?_
  refine oct_ints b.toList acc.toList (by rw [Array.length_toList, Array.length_toList]; exact hI.1) fun j v hj => ?_
  obtain ⟨c, u, hc, e⟩ := hI.2 j v (by rw [← hj, Array.getElem?_toList])
  exact ⟨c, u, by rw [Array.getElem?_toList]; exact hc, e⟩
end
end Mine

-- part N1
namespace Mine
theorem ct_start : (0 : Int) = vl ([] : List Int).reverse ∧ (1 : Int) = 16 ^ ([] : List Int).length := ⟨rfl, rfl⟩
theorem ct_turn {pre : List Int} {total worth k : Int} (h : total = vl pre.reverse) (hw : worth = 16 ^ pre.length) : total + (k - 65) * worth = vl (pre ++ [k]).reverse ∧ worth * 16 = 16 ^ (pre ++ [k]).length := by
  subst h hw
  rw [List.reverse_append, List.reverse_singleton, List.singleton_append, vl_cons, List.length_reverse, List.length_append, List.length_singleton, pow_succ16]
  constructor
  · omega
  · omega
theorem ct_end {xs : List Int} {total : Int} (h : total = vl xs.reverse.reverse) : total = vl xs := by
  rw [h, List.reverse_reverse]
section
variable {prog : Program} {w : World} {A : Around} {E : Value → Shared → Prop} {s : Shared} {Q : Value → Shared → Prop} {t u : Tok} {k b : Int} {xs : List Int}
theorem mul_oct (hx : Lets xs) (hk : k ∈ xs.reverse) (h : Q (.int ((k - 65) * b) s.toks) { s with toks := s.toks + 1 }) : wpAny (model prog w) A (binaryOp .Mult (.int (k - 65) t) (.int b u)) Q E s := by
  have := hx k (List.mem_reverse.1 hk)
  exact PyProof.Rows.mul_int h (PySem.IntMulOk.of_left (PySem.intBits_le_64 (by omega) (by omega)))
end
local macro_rules | `(tactic| walk_at "binaryOp Mult int int") => `(tactic| (k_here; (with_reducible show wpAny _ _ (binaryOp PySem.Operator.Mult (Value.int (_ - 65) _) (Value.int _ _)) _ _ _); k_dflt (refine' mul_oct ?k1 ?k2 ?_; (case k1 => assumption); (case k2 => assumption))))
local macro_rules | `(tactic| walk_at "call type:list") => `(tactic| (k_here; (with_reducible show wpAny _ _ (call (Value.type "list") [Value.bytes _ _]) _ _ _); k_dflt (refine' list_bytes ?k0 ?k1 ?k2 ?k3 ?k4 ?_; (case k0 => rfl); (case k1 => k_asm); (case k2 => k_asm); (case k3 => assumption); (case k4 => omega)); intro D' lbU lbK h' tk' F' N' l1 lbI; (try k_lt l1); (try k_sweep)))
local macro_rules | `(tactic| walk_at "subscriptTail") => `(tactic| (k_here; (with_reducible show wpAny _ _ (subscriptTail _ (PySem.Expr.Slice none none (some _) _) (Value.ref _) (Value.ref _)) _ _ _); (rename News _ _ _ _ => nE'); (try simp only [List.push_toArray] at nE'); k_dflt (refine' krv_ints ?F ?N ?l ?k ?i ?_ ?s ?t ?z; (case F => k_asm); (case N => exact nE'); (case l => exact News.isList nE' (by k_mem)); (case k => exact IsPart.int _ _); (case i => first | assumption | exact IntsAre.append (by assumption) (.cons _ _ .nil)); (case s => with_unfolding_all rfl); (case t => kmk_pure); (case z => kmk_size)); intro D' ws' h' F' N' l1 hI' hC'; (try k_lt l1)))
theorem count_c (w : World) (s₀ : Shared) (mg mb : Str → Option Value) (news : List (Addr × Obj)) (xs : List Int) (b1 : Array UInt8) (t1 : Tok) :
    CbClaim Challenge.rw_dm0169_01.row.prog w (hd1.heap_39 w.params) hd1.view_39 (looseW hd1.view_39 []) (ExcName.means s₀.heap) mg mb 42 news [] (KBw.bInts b1 = xs ∧ xs.length ≤ 900 ∧ Lets xs) [.bytes b1 t1] (fun u => .int (vl xs) u) := by
  k_fill
  w_top off
  k_with_none
  k_with "pyIter ref" => k_state (fun pre total worth => total = vl pre.reverse ∧ worth = 16 ^ pre.length) "total" "worth"
  k_with "state" => first | exact ct_start | exact ct_turn (by assumption) (by assumption)
  dsimp only [CbClaim, CbLists, CbRet]
  intros
  rename_i hpre _ _ hret
  obtain ⟨hb1, hl1, hx1⟩ := hpre
  have hI0 : IntsAre [] [] := .nil
  refine wpAny_call ?_
  k_dflt cell_enter
  k_steps
  exact cb_retI hret (ct_end (by assumption)) (by k_asm) (by first | k_asm | (refine' cb_drop ?cbN ?cbS; (case cbN => assumption); (case cbS => kcj_all)))
end Mine

-- part F1
namespace Mine
open PySem.Spec PySem.Calls
def Figs (l : List Int) : Prop := ∀ x ∈ l, 0 ≤ x ∧ x < 16
theorem fg_start : ([] : List Int).length ≤ 10 ∧ Figs [] := ⟨by decide, fun _ h => nomatch h⟩
theorem fg_turn {l : List Int} {a : Int} (h : Figs l) (hl : l.length < 10) : (l ++ [Int.fmod a 16]).length ≤ 10 ∧ Figs (l ++ [Int.fmod a 16]) := by
  refine ⟨by rw [List.length_append, List.length_singleton]; omega, fun x hx => ?_⟩
  rcases List.mem_append.1 hx with hx | hx
  · exact h x hx
  · rw [List.mem_singleton.1 hx, Int.fmod_eq_emod_of_nonneg _ (by decide)]; omega
local macro_rules | `(tactic| walk_at "InvEndN") => `(tactic| k_dflt kst_close)
local macro_rules | `(tactic| walk_at "call builtin:divmod") => `(tactic| (k_here; (with_reducible show wpAny _ _ (call (Value.builtin _) [Value.int _ _, Value.int _ _]) _ _ _); k_dflt (refine' divmod_lt ?F ?N ?b ?_ ?p; (case F => k_asm); (case N => k_asm); (case b => decide); (case p => exact Or.inl (PyProof.noPylong_of_log2 (by decide +kernel)))); intro D' dm1 dm2 h' dmk F' N' l1; (try k_lt l1); (try k_sweep)))
theorem figs_c (w : World) (s₀ : Shared) (mg mb : Str → Option Value) (news : List (Addr × Obj)) (l : Addr) (vs : List Value) (ns : List Int) (t1 t2 : Tok) :
    ∀ (dp un : Nat) (gd : Option (List Code)) (cn : Str) (cs : Scope) (a : Addr) (ccd : Value) (cl : List (Str × Addr)) (outer : List Env) (A₀ : Around) (base h₀ : Heap) (L : Addr) (m : Str → Option Value) (s : Shared) (Q E : Value → Shared → Prop),
      Below A₀ base outer h₀ → Fr h₀ L s.heap m → (hd1.heap_39 w.params).In h₀ → News h₀ L s.heap news → Top hd1.view_39 (looseW hd1.view_39 []) (ExcName.means s₀.heap) mg mb h₀ → cs.kind = .function →
      base.IsList l vs.toArray → IntsAre vs ns → ns.length < 2 ^ 62 → dp + 3 < recursionLimit → un + 24 < cLine →
      (∀ (D : Addr) (us : List Value) (ks : List Int) (k : Nat) (h' : Heap) (tk' : Nat), Fr h₀ L h' m → News h₀ L h' ((D, listOf us.toArray k) :: news) → (∀ p ∈ news, p.1 < D) → IntsAre us ks → ks.length ≤ 10 → Figs ks → Q (.ref D) { s with heap := h', toks := tk' }) →
      wpAny (model Challenge.rw_dm0169_01.row.prog w) (ktrTop dp un gd cn cs L a ccd cl outer) (call (.ref 28) [.ref l, .int 16 t1, .int 10 t2]) Q E s := by
  k_fill
  w_top off
  k_with_none
  k_with "pyIter ref" => k_state (fun pre figures => figures.length ≤ 10 ∧ Figs figures) "figures"
  k_with "exec While Compare cons nil" => k_while (fun script left figures => figures.length ≤ 10 ∧ Figs figures) (fun script left figures => 10 - figures.length) "left" "figures"
  k_with "state" => first | exact fg_start | exact ⟨by assumption, by assumption⟩ | exact fg_turn (by assumption) (by omega)
  k_with "measure" => (rw [List.length_append, List.length_singleton]; omega)
  intros
  rename_i hret
  have hI0 : IntsAre [] [] := .nil
  refine wpAny_call ?_
  k_dflt cell_enter
  k_steps
  exact hret _ _ _ _ _ _ (by k_asm) (by k_asm) (by assumption) (by assumption) (by assumption) (by assumption)
end Mine

-- part U1
namespace Mine
open PySem.Spec PySem.Calls
section
variable {w : World} {s₀ : Shared} {mg mb : Str → Option Value} {news : List (Addr × Obj)} {dp un : Nat} {gd : Option (List Code)} {cn : Str} {cs : Scope} {a : Addr} {ccd : Value} {cl : List (Str × Addr)} {outer : List Env} {A₀ : Around} {base h₀ : Heap} {L : Addr} {m : Str → Option Value} {s : Shared} {Q E : Value → Shared → Prop}
theorem int2ap_use {n : Int} {t : Tok} (B : Below A₀ base outer h₀) (F : Fr h₀ L s.heap m) (X : (hd1.heap_39 w.params).In h₀) (N : News h₀ L s.heap news) (T : Top hd1.view_39 (looseW hd1.view_39 []) (ExcName.means s₀.heap) mg mb h₀) (hk : cs.kind = .function)
    (hp : (apI n.natAbs).length ≤ 900) (hd : dp + 1 < recursionLimit) (hu : un + 8 < cLine)
    (ret : ∀ (b : Array UInt8) (ks : List Int) (t : Tok) (h' : Heap) (tk' : Nat), KBw.bInts b = ks → ks = apI n.natAbs → ks.length ≤ 900 → Fr h₀ L h' m → News h₀ L h' news → Q (.bytes b t) { s with heap := h', toks := tk' }) :
    wpAny (model Challenge.rw_dm0169_01.row.prog w) (ktrTop dp un gd cn cs L a ccd cl outer) (call (.ref 21) [.int n t]) Q E s :=
  int2ap_c w s₀ mg mb news n t dp un gd cn cs a ccd cl outer A₀ base h₀ L m s Q E B F X N T hk (Nat.le_trans hp (by decide)) hd hu fun t h' tk' F' N' => ret _ _ t h' tk' (bInts_ap _) rfl hp F' N'
theorem count_use {b1 : Array UInt8} {xs : List Int} {t1 : Tok} (B : Below A₀ base outer h₀) (F : Fr h₀ L s.heap m) (X : (hd1.heap_39 w.params).In h₀) (N : News h₀ L s.heap news) (T : Top hd1.view_39 (looseW hd1.view_39 []) (ExcName.means s₀.heap) mg mb h₀) (hk : cs.kind = .function)
    (hb1 : KBw.bInts b1 = xs) (hl1 : xs.length ≤ 900) (hx : Lets xs) (hd : dp + 1 < recursionLimit) (hu : un + 8 < cLine)
    (ret : ∀ (v : Int) (t : Tok) (h' : Heap) (tk' : Nat), v = vl xs → Fr h₀ L h' m → News h₀ L h' news → Q (.int v t) { s with heap := h', toks := tk' }) :
    wpAny (model Challenge.rw_dm0169_01.row.prog w) (ktrTop dp un gd cn cs L a ccd cl outer) (call (.ref 42) [.bytes b1 t1]) Q E s :=
  count_c w s₀ mg mb news xs b1 t1 dp un gd cn cs a ccd cl outer A₀ base h₀ L m s Q E B F X N T hk ⟨hb1, hl1, hx⟩ hd hu fun t h' tk' F' N' => ret _ t h' tk' rfl F' N'
end
end Mine

-- part O1
namespace Mine
open PySem.Spec PySem.Calls
section
variable {prog : Program} {w : World} {A : Around} {E : Value → Shared → Prop} {s : Shared} {h₀ : Heap} {L : Addr} {m : Str → Option Value} {news : List (Addr × Obj)} {ks : List Int}
/-- a comprehension over letters whose test takes none of them -/
theorem comp_none {env : Env} {elt : PySem.Expr} {x : Str} {ifs : List PySem.Expr} {scope : Scope} {Q : Value → Shared → Prop} {b : Array UInt8} {t : Tok}
    (hh : A.handled = none) (F : Fr h₀ L s.heap m) (N : News h₀ L s.heap news) (hb : KBw.bInts b = ks) (hl : ks.length ≤ 1000) (hx : Lets ks)
    (g1 : ∀ C k u s₂ m₂ E', 65 ≤ k → k ≤ 80 → s₂.heap.Ns (compEnv scope C env).locals m₂ → m₂ x = some (.int k u) → s.toks ≤ s₂.toks →
        wpAny (model prog w) A (forIn ifs true fun c r => if r = true then do let ok ← isTrue c (compEnv scope C env) (eval c (compEnv scope C env)); pure (ForInStep.yield ok) else pure (ForInStep.yield r))
          (fun ok s₃ => ok = false ∧ Keeps s₂ s₃) E' s₂)
    (g3 : ∀ D h' tk, Fr h₀ L h' m → News h₀ L h' news → h'.IsList D #[] → Q (.ref D) { s with heap := h', toks := tk }) :
    wpAny (model prog w) A (pyIter (.bytes b t)) (CompPost prog w A env scope x ifs elt Q) E s := by
  have hsz : b.size = ks.length := by rw [← hb, KBw.ints_length]
  have oct : ∀ (i : Nat) (v : Value), (∃ c u, b[i]? = some c ∧ v = .int (c.toNat : Int) u) → ∃ k u, v = .int k u ∧ 65 ≤ k ∧ k ≤ 80 := by
    rintro i v ⟨c, u, hc, rfl⟩
    have hm : (c.toNat : Int) ∈ ks := by
      rw [← hb]
      exact List.mem_of_getElem? (KBw.ints_get hc)
    exact ⟨_, u, rfl, hx _ hm⟩
  unfold CompPost
  refine KBw.pyIter_bytes ?_
  refine ⟨fun _ => false, fun _ _ => True, s.heap.objs.size, [s.heap.objs.size], [s.heap.objs.size], b.size, _, _, rfl, KBw.walks hh s.heap.objs.size b t, (by rw [hsz, sizeLine_eq]; omega),
    ⟨_, Heap.get?_push_size _ rfl, rfl, rfl⟩, ?_, ⟨?_, ?_⟩, ?_⟩
  · intro c hc
    rw [List.mem_singleton.mp hc]
    exact Heap.lt_size (Heap.get?_push_size _ rfl)
  · intro C i v s₃ m₃ E' hP hn hm _ htk
    obtain ⟨k, u, rfl, h1, h2⟩ := oct i v hP
    exact g1 C k u s₃ m₃ E' h1 h2 hn hm htk
  · intro C i v s₃ m₃ E' hP hp hn hm _ htk
    cases hp
  · intro D h' tk ys vs hnew hlD hplD hlen hP hF hk
    have up : ∀ b o', s.heap.get? b = some o' → h'.get? b = some o' :=
      fun b o' e => hk b o' (not_iter_of_old e) (Heap.get?_push_of_some _ e)
    have hy : ys = #[] := by
      have e : vs.filter (fun _ => false) = [] := by simp
      rw [e] at hF
      have : ys.toList = [] := by cases h : ys.toList with
        | nil => rfl
        | cons a r => rw [h] at hF; cases hF
      simpa using this
    subst hy
    exact g3 D h' tk (F.keeps up) (N.grown up) hlD
theorem truthy_nil {D : Addr} {Q : Bool → Shared → Prop} (hl : s.heap.IsList D #[]) (h : Q false { s with toks := s.toks + 1 + 1 }) : wpAny (model prog w) A (truthy (.ref D)) Q E s :=
  wpAny_truthy_list hl (by decide) (by simpa using h)
end
end Mine

-- part M1
namespace Mine
open PySem.Spec PySem.Calls
theorem big12 : (16 : Int) ^ Int.toNat 12 = 281474976710656 := by decide
theorem rest12 (k : Int) : 0 ≤ Int.fmod k (16 ^ Int.toNat 12) ∧ Int.fmod k (16 ^ Int.toNat 12) < 281474976710656 := by
  rw [big12, Int.fmod_eq_emod_of_nonneg _ (by decide)]
  omega
theorem fit12 {n : Nat} (h : n < 281474976710656) : (apI n).length ≤ 900 := Nat.le_trans (apI_len (k := 12) (by omega)) (by decide)
theorem fit12M (k : Int) : (apI (Int.fmod k (16 ^ Int.toNat 12)).natAbs).length ≤ 900 := fit12 (by have := rest12 k; omega)
theorem fit12N (k : Int) : (apI (-Int.fmod (-k) (16 ^ Int.toNat 12)).natAbs).length ≤ 900 := fit12 (by have := rest12 (-k); omega)
/-- what the first loop keeps -/
def Bd (behind : Int) : Prop := 0 ≤ behind ∧ behind < 281474976710656
abbrev Tl (behind : Int) (tail : Array UInt8) : Prop := KBw.bInts tail = apI behind.toNat ∧ Bd behind
theorem tl_start {b : Array UInt8} {ks : List Int} (hb : KBw.bInts b = ks) (hk : ks = apI (0 : Int).natAbs) : Tl 0 b := ⟨hb.trans hk, by decide, by decide⟩
theorem tl_abs {b : Array UInt8} {ks : List Int} {x : Int} (hb : KBw.bInts b = ks) (hk : ks = apI x.natAbs) (h0 : -281474976710656 < x) (h1 : x < 281474976710656) : Tl (if x < 0 then -x else x) b := by
  refine ⟨?_, ⟨by split <;> omega, by split <;> omega⟩⟩
  rw [hb, hk]
  congr 1
  split <;> omega
theorem tl_M {b : Array UInt8} {ks : List Int} {k : Int} (hb : KBw.bInts b = ks) (hk : ks = apI (Int.fmod k (16 ^ Int.toNat 12)).natAbs) : Tl (if Int.fmod k (16 ^ Int.toNat 12) < 0 then -Int.fmod k (16 ^ Int.toNat 12) else Int.fmod k (16 ^ Int.toNat 12)) b :=
  tl_abs hb hk (by have := rest12 k; omega) (by have := rest12 k; omega)
theorem tl_N {b : Array UInt8} {ks : List Int} {k : Int} (hb : KBw.bInts b = ks) (hk : ks = apI (-Int.fmod (-k) (16 ^ Int.toNat 12)).natAbs) : Tl (if -Int.fmod (-k) (16 ^ Int.toNat 12) < 0 then - -Int.fmod (-k) (16 ^ Int.toNat 12) else -Int.fmod (-k) (16 ^ Int.toNat 12)) b :=
  tl_abs hb hk (by have := rest12 (-k); omega) (by have := rest12 (-k); omega)
theorem lets_of {ks : List Int} {n : Nat} (h : ks = apI n) : Lets ks := h ▸ apI_lets n
section
variable {prog : Program} {w : World} {A : Around} {E : Value → Shared → Prop} {s : Shared} {Q : Value → Shared → Prop} {b c : Array UInt8} {t u : Tok} {ks ls : List Int} {n : Nat} {v x : Int}
theorem ne_none (hb : KBw.bInts b = ks) (hk : ks = apI (0 : Int).natAbs) (h : Q (.bool false) s) : wpAny (model prog w) A (compareOp .NotEq (.bytes b t) (.bytes #[] u)) Q E s := by
  refine ne_ints (ls := []) (ms := []) (hb.trans hk) rfl ?_
  simpa using h
theorem ne_count (hv : v = vl ks) (hk : ks = apI x.natAbs) (h : Q (.bool false) s) : wpAny (model prog w) A (compareOp .NotEq (.int v t) (.int (if x < 0 then -x else x) u)) Q E s := by
  refine PyProof.Rows.ne_int ?_
  have e : v = if x < 0 then -x else x := by
    rw [hv, hk, vl_apI]; split <;> omega
  rw [← e]
  simpa using h
theorem noA (n : Nat) : (apI n).take (1 : Int).toNat ≠ [65] := by
  intro h
  have h1 := bare_drop (ks := apI n) h
  have h2 := drop_falls (ks := apI n) h
  rw [bare_apI] at h1
  have h3 : (bare ((apI n).drop 1)).length ≤ ((apI n).drop 1).length := (List.dropWhile_sublist _).length_le
  rw [h1] at h3
  omega
theorem eq_noA (hc : KBw.bInts c = ls) (hl : ls = ks.take (1 : Int).toNat) (hk : ks = apI n) (h : Q (.bool false) s) : wpAny (model prog w) A (compareOp .Eq (.bytes c t) (.bytes #[65] u)) Q E s := by
  refine eq_ints (ls := ls) (ms := [65]) hc rfl ?_
  rw [decide_eq_false (by rw [hl, hk]; exact noA n)]
  exact h
end
end Mine

-- part V1
namespace Mine
open PySem.Spec PySem.Calls
def BInv (w0 word : Array UInt8) : Prop := bare (KBw.bInts word) = bare (KBw.bInts w0)
theorem b_start {w0 : Array UInt8} {xs : List Int} (hb : KBw.bInts w0 = xs) (h : xs.length ≤ 11) : BInv w0 w0 ∧ w0.size ≤ 11 := ⟨rfl, by rw [← KBw.ints_length, hb]; exact h⟩
theorem b_turn {w0 word c : Array UInt8} {ls ms : List Int} (h : BInv w0 word) (hz : word.size ≤ 11) (he : ms = (KBw.bInts word).take (1 : Int).toNat) (h65 : ms = [65]) (hc : KBw.bInts c = ls) (e : ls = (KBw.bInts word).drop (1 : Int).toNat) : BInv w0 c ∧ c.size ≤ 11 := by
  have h1 : (KBw.bInts word).take 1 = [65] := by rw [← h65, he]; rfl
  have h2 : KBw.bInts c = (KBw.bInts word).drop 1 := by rw [hc, e]; rfl
  refine ⟨?_, ?_⟩
  · unfold BInv at h ⊢
    rw [h2, bare_drop h1, h]
  · rw [← KBw.ints_length, h2]
    have := drop_falls h1
    rw [KBw.ints_length] at this
    omega
theorem b_fall {word c : Array UInt8} {ls ms : List Int} (he : ms = (KBw.bInts word).take (1 : Int).toNat) (h65 : ms = [65]) (hc : KBw.bInts c = ls) (e : ls = (KBw.bInts word).drop (1 : Int).toNat) : c.size < word.size := by
  have h1 : (KBw.bInts word).take 1 = [65] := by rw [← h65, he]; rfl
  have h2 : KBw.bInts c = (KBw.bInts word).drop 1 := by rw [hc, e]; rfl
  rw [← KBw.ints_length, ← KBw.ints_length, h2]
  exact drop_falls h1
theorem b_end {w0 word : Array UInt8} {xs ms : List Int} (hb : KBw.bInts w0 = xs) (h : BInv w0 word) (he : ms = (KBw.bInts word).take (1 : Int).toNat) (h65 : ¬ ms = [65]) : KBw.bInts word = bare xs := by
  unfold BInv at h
  rw [← hb, ← h, bare_stop]
  intro h1
  apply h65
  rw [he]; exact h1
-- the word out of the figures
theorem lets_figs {fs : List Int} (h : Figs fs) (n : Nat) : Lets (List.take n (List.map (fun k' => 65 + k') fs ++ [66])) := by
  intro x hx
  rcases List.mem_append.1 (List.mem_of_mem_take hx) with hx | hx
  · obtain ⟨y, hy, rfl⟩ := List.mem_map.1 hx
    have := h y hy
    omega
  · rw [List.mem_singleton.1 hx]; decide
theorem len_figs {fs : List Int} (h : fs.length ≤ 10) (n : Nat) : (List.take n (List.map (fun k' => 65 + k') fs ++ [66])).length ≤ 11 := by
  rw [List.length_take, List.length_append, List.length_map, List.length_singleton]; omega
theorem vl_lt {ls : List Int} (h : Lets ls) (hl : ls.length ≤ 11) : 0 ≤ vl ls ∧ vl ls < 17592186044416 := by
  have := vl_bound h
  have e : (16 : Int) ^ ls.length ≤ 16 ^ 11 := by
    rw [show (16 : Int) ^ ls.length = ((16 ^ ls.length : Nat) : Int) by simp, show (16 : Int) ^ 11 = ((16 ^ 11 : Nat) : Int) by simp]
    exact Int.ofNat_le.2 (Nat.pow_le_pow_right (by decide) hl)
  have e2 : (16 : Int) ^ 11 = 17592186044416 := by decide
  omega
theorem num_nn {v bd : Int} {ls : List Int} (hv : v = vl ls) (h : Lets ls) (hl : ls.length ≤ 11) (hd : Bd bd) : 0 ≤ v * 16 ^ Int.toNat 12 + bd ∧ v * 16 ^ Int.toNat 12 + bd < 79228162514264337593543950336 := by
  have := vl_lt h hl
  have := hd.1
  have := hd.2
  rw [big12]
  omega
theorem fitP {v bd : Int} {ls : List Int} (hv : v = vl ls) (h : Lets ls) (hl : ls.length ≤ 11) (hd : Bd bd) : (apI (v * 16 ^ Int.toNat 12 + bd).natAbs).length ≤ 900 := by
  have := num_nn hv h hl hd
  exact Nat.le_trans (apI_len (k := 24) (by omega)) (by decide)
theorem fitQ {v bd : Int} {ls : List Int} (hv : v = vl ls) (h : Lets ls) (hl : ls.length ≤ 11) (hd : Bd bd) : (apI (-(v * 16 ^ Int.toNat 12 + bd)).natAbs).length ≤ 900 := by
  rw [Int.natAbs_neg]; exact fitP hv h hl hd
theorem tail_len {bd : Int} (hd : Bd bd) : (apI bd.toNat).length ≤ 12 := apI_len (by have := hd.1; have := hd.2; omega)
theorem vl_As (n : Nat) : vl (List.replicate n 65) = 0 := by
  induction n with
  | zero => rfl
  | succ n ih => rw [List.replicate_succ, vl_cons, ih]; omega
theorem lets_As (n : Nat) : Lets (List.replicate n 65) := fun x hx => by rw [List.eq_of_mem_replicate hx]; decide
theorem bare_As (n : Nat) (l : List Int) : bare (List.replicate n 65 ++ l) = bare l := by
  induction n with
  | zero => rfl
  | succ n ih => rw [List.replicate_succ, List.cons_append, ← ih]; simp [bare]
theorem bare_app {l m : List Int} : bare (l ++ m) = if bare l = [] then bare m else bare l ++ m := by
  unfold bare
  rw [List.dropWhile_append]
  by_cases h : l.dropWhile (· == 65) = []
  · rw [h]; simp
  · rw [if_neg h, if_neg (by simpa using h)]
/-- the law: the word of (a beginning's count) * 16 ** 12 + behind -/
theorem word_law {v bd : Int} {ls : List Int} (hv : v = vl ls) (hl : Lets ls) (hd : Bd bd) :
    apI (v * 16 ^ Int.toNat 12 + bd).natAbs = if bare ls = [] then apI bd.toNat else bare ls ++ (List.replicate (12 - (apI bd.toNat).length) 65 ++ apI bd.toNat) := by
  have ht := tail_len hd
  have hL : Lets (ls ++ (List.replicate (12 - (apI bd.toNat).length) 65 ++ apI bd.toNat)) := lets_app.2 ⟨hl, lets_app.2 ⟨lets_As _, apI_lets _⟩⟩
  have e : vl (ls ++ (List.replicate (12 - (apI bd.toNat).length) 65 ++ apI bd.toNat)) = v * 16 ^ Int.toNat 12 + bd := by
    rw [vl_app, vl_app, vl_As, vl_apI, hv, List.length_append, List.length_replicate, show 12 - (apI bd.toNat).length + (apI bd.toNat).length = Int.toNat 12 by
      show _ = 12
      omega]
    have := hd.1
    omega
  have k := apI_vl hL
  rw [e] at k
  have hn := (vl_bound hL).1
  rw [e] at hn
  rw [show (v * 16 ^ Int.toNat 12 + bd).natAbs = (v * 16 ^ Int.toNat 12 + bd).toNat by omega, k, bare_app, bare_As, bare_apI]
theorem neg_word {ks : List Int} {n : Int} (h : ks = apI (-n).natAbs) : ks = apI n.natAbs := by rw [h, Int.natAbs_neg]
theorem end_A {v bd k : Int} {w0 word : Array UInt8} {ks ls ms as1 ms1 ms2 ts : List Int} (hk : ks = apI (v * 16 ^ Int.toNat 12 + bd).natAbs) (hv : v = vl ls) (hl : Lets ls) (hd : Bd bd)
    (hw : KBw.bInts w0 = ls) (hB : BInv w0 word) (he : ms = (KBw.bInts word).take (1 : Int).toNat) (h65 : ¬ ms = [65]) (hne : KBw.bInts word ≠ []) (ht : ts = apI bd.toNat) (hkk : k = 12 - (ts.length : Int)) (ha : as1 = List.replicate k.toNat 65)
    (hm1 : ms1 = KBw.bInts word ++ as1) (hm2 : ms2 = ms1 ++ ts) : ks = ms2 := by
  have e := b_end hw hB he h65
  rw [e] at hne hm1
  rw [hk, word_law hv hl hd, if_neg hne, hm2, hm1, ha, hkk, ht, List.append_assoc]
  congr 3
  omega
theorem end_B {v bd : Int} {w0 word : Array UInt8} {ks ls ms ms2 ts : List Int} (hk : ks = apI (v * 16 ^ Int.toNat 12 + bd).natAbs) (hv : v = vl ls) (hl : Lets ls) (hd : Bd bd)
    (hw : KBw.bInts w0 = ls) (hB : BInv w0 word) (he : ms = (KBw.bInts word).take (1 : Int).toNat) (h65 : ¬ ms = [65]) (hne : ¬ KBw.bInts word ≠ []) (ht : ts = apI bd.toNat) (hm2 : ms2 = KBw.bInts word ++ ts) : ks = ms2 := by
  have e := b_end hw hB he h65
  rw [e] at hne hm2
  have hne : bare ls = [] := Classical.not_not.1 hne
  rw [hk, word_law hv hl hd, if_pos hne, hm2, hne, ht]; rfl
section
variable {prog : Program} {w : World} {A : Around} {E : Value → Shared → Prop} {s : Shared} {h₀ : Heap} {L D : Addr} {m : PySem.Str → Option Value} {news : List (Addr × Obj)} {vs : List Value} {ns ks ls : List Int} {b c : Array UInt8} {t u : Tok} {Q : Value → Shared → Prop}
theorem bytes_lets (F : Fr h₀ L s.heap m) (N : News h₀ L s.heap news) (hh : A.handled = none) (hl : s.heap.IsList D vs.toArray) (hi : IntsAre vs ns) (hr : Lets ns) (hn : ns.length ≤ 11)
    (h : ∀ (b : Array UInt8) (ls : List Int) h' t' k, Fr h₀ L h' m → News h₀ L h' news → KBw.bInts b = ls → Lets ls → ls.length ≤ 11 → Q (.bytes b t') { s with heap := h', toks := k }) : wpAny (model prog w) A (call (.type "bytes") [.ref D]) Q E s :=
  KBa.make_K F N hh hl hi (lets_in hr) (by omega) fun h' t' k F' N' _ => h _ _ h' t' k F' N' (bInts_make hr) hr hn
theorem noI_bytes_add : typeLookup (.type "bytes") (dunderI "add") = pure none := by rw [typeLookup_type, builtinLookup_eq_fast]; kernel_rfl
theorem iadd_bytes (hsz : b.size + c.size ≤ 16777216) (h : ∀ t' k, Q (.bytes (b ++ c) t') { s with toks := k }) : wpAny (model prog w) A (inplaceOp .Add (.bytes b t) (.bytes c u)) Q E s := by
  refine iconcat_gives (typeIs_bytes s b t) (typeIs_bytes s c u) noI_bytes_add KBy.noFill_bytes_add KBy.seq_bytes_add FB.slot_bytes_add FB.entry_bytes_add (FB.args_bytes_add_2 _ _) (KBy.gives_bytes_add (KBy.tooLong_not hsz)) ?_
  split
  · rename_i e
    rw [Array.isEmpty_iff] at e
    subst e
    show Q _ _
    simpa using h u s.toks
  split
  · rename_i e
    rw [Array.isEmpty_iff] at e
    subst e
    show Q _ _
    simpa using h t s.toks
  · exact ⟨by rw [Array.size_append, sizeLine_eq]; omega, h _ _⟩
theorem iadd_w (p q : Nat) (hb : KBw.bInts b = ks) (hc : KBw.bInts c = ls) (hk : ks.length ≤ p) (hl : ls.length ≤ q) (hpq : p + q ≤ 1000) (h : ∀ (d : Array UInt8) (ms : List Int) t' k, KBw.bInts d = ms → ms = ks ++ ls → ms.length ≤ p + q → Q (.bytes d t') { s with toks := k }) : wpAny (model prog w) A (inplaceOp .Add (.bytes b t) (.bytes c u)) Q E s :=
  iadd_bytes (by rw [← KBw.ints_length b, ← KBw.ints_length c, hb, hc]; omega) fun t' k => h _ _ t' k (KBw.ints_app hb hc) rfl (by rw [List.length_append]; omega)
theorem mul_A {n : Int} (h0 : 0 ≤ n) (h1 : n ≤ 12) (h : ∀ (d : Array UInt8) (ms : List Int) t' k, KBw.bInts d = ms → ms = List.replicate n.toNat 65 → ms.length ≤ 12 → Q (.bytes d t') { s with toks := k }) : wpAny (model prog w) A (binaryOp .Mult (.bytes #[65] t) (.int n u)) Q E s := by
  refine bytes_mul_any (b := [65]) (by simp) (by omega) (by omega) (by decide) fun t' k => h _ _ t' k ?_ rfl (by rw [List.length_replicate]; omega)
  unfold KBw.bInts
  simp
theorem ne_ints2 (hb : KBw.bInts b = ks) (hc : KBw.bInts c = ls) (e : ks = ls) (h : Q (.bool false) s) : wpAny (model prog w) A (compareOp .NotEq (.bytes b t) (.bytes c u)) Q E s := by
  refine ne_ints hb hc ?_
  simpa [e] using h
theorem ne_empty (h : Q (.bool (decide (KBw.bInts b ≠ []))) s) : wpAny (model prog w) A (compareOp .NotEq (.bytes b t) (.bytes #[] u)) Q E s :=
  ne_ints (ls := KBw.bInts b) (ms := []) rfl rfl h
end
end Mine

-- part W1
namespace Mine
open PySem.Spec PySem.Calls
theorem allLt_ne {d : Addr} : ∀ {l : List (Addr × Obj)}, AllLt d l → ∀ p ∈ l, p.1 ≠ d
  | [], _, _, h => nomatch h
  | _ :: _, h, p, hp => by
    rcases List.mem_cons.1 hp with rfl | hp
    · exact Nat.ne_of_lt h.1
    · exact allLt_ne h.2 p hp
section
variable {prog : Program} {w : World} {A : Around} {E : Value → Shared → Prop} {s : Shared} {env : Env} {h₀ : Heap} {x : Str} {body : List Stmt} {Q : Flow → Shared → Prop}
/-- a loop over a written list of two words, both the word of z; its turns store nothing -/
theorem two_iter {l : Addr} {b1 b2 : Array UInt8} {t1 t2 : Tok} {nn z : Nat} {ks1 ks2 : List Int} {m₀ : Str → Option Value} {news : List (Addr × Obj)}
    (hh : A.handled = none) (hlt : AllLt l news) (F : Fr h₀ env.locals s.heap m₀) (N : News h₀ env.locals s.heap ((l, listOf #[.bytes b1 t1, .bytes b2 t2] nn) :: news))
    (e1 : KBw.bInts b1 = ks1) (k1 : ks1 = apI z) (e2 : KBw.bInts b2 = ks2) (k2 : ks2 = apI z)
    (turn : ∀ (b : Array UInt8) (ks : List Int) (t : Tok) h tk own, KBw.bInts b = ks → ks = apI z → OwnOff own (news.map (·.1)) → KstMark →
      Fr h₀ env.locals h (fun y => if y = x then some (.bytes b t) else m₀ y) → News h₀ env.locals h (news ++ own) →
      wpAny (model prog w) A (execs body env) (InvPostN h₀ env.locals (KstS (fun _ : Unit => news) (fun _ => []) (fun _ => True) x [] m₀ (fun _ _ => True) []) own (news.map (·.1)) { s with heap := h, toks := tk } Q) E { s with heap := h, toks := tk })
    (done : ∀ (u : Str → Option Value) h tk, KstMark → Fr h₀ env.locals h (fun y => if y = x then u y else m₀ y) → News h₀ env.locals h news → Q .next { s with heap := h, toks := tk }) :
    wpAny (model prog w) A (pyIter (.ref l)) (fun it s₂ => LoopAtV prog w A h₀ env x body Q E it s₂) E s := by
  have hol := (N _ (List.mem_cons_self ..)).1
  have hls : s.heap.IsList l #[.bytes b1 t1, .bytes b2 t2] := ⟨_, hol, rfl, nn, rfl⟩
  have hne : l ≠ s.heap.objs.size := Nat.ne_of_lt (Heap.lt_size hol)
  have N' : News h₀ env.locals s.heap news := fun p hp => N p (List.mem_cons_of_mem _ hp)
  refine wpAny_pyIter_list hls ?_
  have W := Walks.list (prog := prog) (w := w) hh s.heap.objs.size l hne #[.bytes b1 t1, .bytes b2 t2]
  refine loop_invN (fun _ m nx => KstS (fun _ : Unit => news) (fun _ => []) (fun _ => True) x [] m₀ (fun _ _ => True) [] m nx) W ?_ ?_ ?_ ?_ ⟨⟨_, Heap.get?_push_size _ rfl, rfl, rfl⟩, hls.at fun o e => Heap.get?_push_of_some _ e⟩ (F.push _) (fun p hp => ⟨Heap.get?_push_of_some _ (N' p hp).1, (N' p hp).2⟩) ⟨(), rfl, trivial, List.forall_mem_nil _, fun _ _ _ _ => rfl, trivial⟩ ?_ ?_
  · intro hm
    rcases List.mem_cons.mp hm with e | hm
    · exact absurd F.ns.lt (e ▸ Nat.lt_irrefl _)
    · exact (N _ (List.mem_cons_self ..)).2.1 ((List.mem_singleton.mp hm).symm)
  · intro b hb
    rw [List.mem_singleton.mp hb]
    exact next_is_new F
  · intro p hp hI
    exact absurd (Heap.lt_size (N' p hp).1) ((List.mem_singleton.mp hI) ▸ Nat.lt_irrefl _)
  · intro p hp hI
    rcases List.mem_cons.mp hI with e | hI
    · exact absurd (Heap.lt_size (N' p hp).1) (e ▸ Nat.lt_irrefl _)
    · exact allLt_ne hlt p hp (List.mem_singleton.mp hI)
  · rintro i v m₁ news₁ h tk own hi hP _ hoff ⟨c, rfl, _, _, hr, _⟩ F₁ N₁
    have hv : ∃ (b : Array UInt8) (t : Tok) (ks : List Int), v = .bytes b t ∧ KBw.bInts b = ks ∧ ks = apI z := by
      have hi2 : i < 2 := hi
      rcases (by omega : i = 0 ∨ i = 1) with rfl | rfl
      · exact ⟨b1, t1, ks1, (Option.some.inj hP).symm, e1, k1⟩
      · exact ⟨b2, t2, ks2, (Option.some.inj hP).symm, e2, k2⟩
    obtain ⟨b, t, ks, rfl, hb, hk⟩ := hv
    have em : (fun y => if y = x then some (Value.bytes b t) else m₁ y) = fun y => if y = x then some (Value.bytes b t) else m₀ y := by
      funext y
      by_cases hy : y = x
      · rw [if_pos hy, if_pos hy]
      · rw [if_neg hy, if_neg hy]
        exact hr y hy (List.forall_mem_nil _) rfl
    rw [em] at F₁
    exact turn b ks t h tk own hb hk hoff kstMark F₁ N₁
  · rintro m₁ news₁ h tk ⟨c, rfl, _, _, hr, _⟩ F₁ N₁
    have em : m₁ = fun y => if y = x then m₁ y else m₀ y := by
      funext y
      by_cases hy : y = x
      · rw [if_pos hy]
      · rw [if_neg hy]
        exact hr y hy (List.forall_mem_nil _) rfl
    rw [em] at F₁
    exact done m₁ h tk kstMark F₁ N₁
end
/-- the end of such a turn -/
theorem two_end {h₀ h' : Heap} {L : Addr} {x : Str} {m₀ m' : Str → Option Value} {news own : List (Addr × Obj)} {s₁ : Shared} {tk : Nat} (F : Fr h₀ L h' m') (N : News h₀ L h' (news ++ own))
    (hr : ∀ z, z ≠ x → (∀ p ∈ ([] : List (Str × Value)), z ≠ p.1) → ([] : List Str).contains z = false → m' z = m₀ z) :
    InvEndN h₀ L (KstS (fun _ : Unit => news) (fun _ => []) (fun _ => True) x [] m₀ (fun _ _ => True) []) own (news.map (·.1)) s₁ { s₁ with heap := h', toks := tk } :=
  kst_end () F N (fun _ hp => List.mem_append_left _ hp) (fun _ hp => List.mem_append_right _ hp) rfl True.intro (List.forall_mem_nil _) hr True.intro
section
variable {prog : Program} {w : World} {A : Around} {E : Value → Shared → Prop} {s : Shared} {Q : Value → Shared → Prop} {b : Array UInt8} {t : Tok} {bd : Int}
theorem len_tail (hb : KBw.bInts b = apI bd.toNat) (hd : Bd bd) (h : Q (.int ((apI bd.toNat).length : Int) (s.toks + 1)) { s with toks := s.toks + 1 + 1 }) : wpAny (model prog w) A (call (.builtin "len") [.bytes b t]) Q E s :=
  KBw.len_K hb (by have := tail_len hd; omega) h
end
end Mine

-- part MT
namespace Mine
theorem slot_bytes_lt : Slot "bytes" (cmpInfo .Lt).2.1 "bytes.__lt__" :=
  .of (owner := "bytes") (n := "__lt__") (by rw [typeLookup_type, builtinLookup_eq_fast]; kernel_rfl) (by decide +kernel) (by decide +kernel) (by decide +kernel)
    (by first | exact .inl (by decide +kernel) | exact .inr (by decide +kernel)) (by rw [isSubtype_type]; kernel_rfl)
theorem entry_bytes_lt : entryFor table "bytes.__lt__" = some Builtin.«bytes.__lt__» := entryFor_of_tree (by kernel_rfl)
theorem args_bytes_lt_2 (a b : Value) : argsOk "bytes.__lt__" ⟨[a, b], []⟩ := by
  unfold argsOk; rw [signature?_of (id := "bytes.__lt__") (n := ['_', '_', 't', 'l', '_', '_']) (o := ['s', 'e', 't', 'y', 'b']) (by kernel_rfl) PySem.W.FB.owner_bytes]; kernel_rfl
theorem gives_bytes_lt (b c : Array UInt8) (t u : Tok) : Gives (Builtin.«bytes.__lt__» ⟨[.bytes b t, .bytes c u], []⟩) (.val (.bool (Builtin.Bytes.order b.toList c.toList == .lt))) := by
  refine .of_wp fun M A E s Q hq => ?_
  show wpAny M A (isInstance (.bytes c u) (.type "bytes") >>= fun r => _) _ E s
  refine wpAny_bind (wpAny_isInstance (typeIs_bytes s c u) F.sub_bytes_bytes ?_)
  exact wpAny_pure ⟨_, rfl, hq⟩
section
variable {prog : Program} {w : World} {A : Around} {E : Value → Shared → Prop} {s : Shared}
theorem rlt_bytes {b c : Array UInt8} {t u : Tok} {Q : Value → Shared → Prop} (h : Q (.bool (Builtin.Bytes.order b.toList c.toList == .lt)) s) : wpAny (model prog w) A (richCompare .Lt (.bytes b t) (.bytes c u)) Q E s :=
  compareOp_gives (op := .Lt) (typeIs_bytes s b t) (typeIs_bytes s c u) slot_bytes_lt entry_bytes_lt (args_bytes_lt_2 _ _) (gives_bytes_lt b c t u) (fun e => nomatch e) h
theorem req_bytes {b c : Array UInt8} {t u : Tok} {Q : Value → Shared → Prop} (h : Q (.bool (b.toList == c.toList)) s) : wpAny (model prog w) A (richCompare .Eq (.bytes b t) (.bytes c u)) Q E s :=
  eq_bytes h
theorem rlt_int {a b : Int} {t u : Tok} {Q : Value → Shared → Prop} (h : Q (.bool (decide (a < b))) s) : wpAny (model prog w) A (richCompare .Lt (.int a t) (.int b u)) Q E s :=
  lt_int h
theorem req_int {a b : Int} {t u : Tok} {Q : Value → Shared → Prop} (h : Q (.bool (decide (a = b))) s) : wpAny (model prog w) A (richCompare .Eq (.int a t) (.int b u)) Q E s :=
  eq_int h
theorem eqB_int {a b : Int} {t u : Tok} {Q : Bool → Shared → Prop} (h : Q (decide (a = b)) s) : wpAny (model prog w) A (eqBool (.int a t) (.int b u)) Q E s := by
  unfold eqBool
  refine wpAny_holding ?_
  refine wpAny_ite_split (fun hab => ?_) (fun _ => ?_)
  · have : a = b := by have := eq_of_beq hab; injection this
    refine wpAny_bind (wpAny_rule (wpAny_pure ?_))
    simpa [this] using h
  · exact wpAny_bind (req_int (wpAny_truthy_bool h))
theorem eqB_bytes {b c : Array UInt8} {t u : Tok} {Q : Bool → Shared → Prop} (h : Q (b.toList == c.toList) s) : wpAny (model prog w) A (eqBool (.bytes b t) (.bytes c u)) Q E s := by
  unfold eqBool
  refine wpAny_holding ?_
  refine wpAny_ite_split (fun hab => ?_) (fun _ => ?_)
  · have : b = c := by have := eq_of_beq hab; injection this
    refine wpAny_bind (wpAny_rule (wpAny_pure ?_))
    simpa [this] using h
  · exact wpAny_bind (req_bytes (wpAny_truthy_bool h))
end
section
variable {prog : Program} {w : World} {A : Around} {E : Value → Shared → Prop} {s : Shared}
theorem eqB_int_t {a b : Int} (e : a = b) {t u : Tok} {Q : Bool → Shared → Prop} (h : Q true s) : wpAny (model prog w) A (eqBool (.int a t) (.int b u)) Q E s := eqB_int (by simpa [e] using h)
theorem eqB_int_f {a b : Int} (e : a ≠ b) {t u : Tok} {Q : Bool → Shared → Prop} (h : Q false s) : wpAny (model prog w) A (eqBool (.int a t) (.int b u)) Q E s := eqB_int (by simpa [e] using h)
theorem eqB_bytes_t {b c : Array UInt8} (e : b.toList = c.toList) {t u : Tok} {Q : Bool → Shared → Prop} (h : Q true s) : wpAny (model prog w) A (eqBool (.bytes b t) (.bytes c u)) Q E s := eqB_bytes (by rw [e, beq_self_eq_true]; exact h)
theorem eqB_bytes_f {b c : Array UInt8} (e : b.toList ≠ c.toList) {t u : Tok} {Q : Bool → Shared → Prop} (h : Q false s) : wpAny (model prog w) A (eqBool (.bytes b t) (.bytes c u)) Q E s := eqB_bytes (by rw [show (b.toList == c.toList) = false from beq_eq_false_iff_ne.2 e]; exact h)
end
def pairLt (a b : Int) (x y : Array UInt8) : Bool := if a = b then (if x.toList = y.toList then false else Builtin.Bytes.order x.toList y.toList == .lt) else decide (a < b)
theorem tuple_ltAt (l r : Addr) (a b : Int) (x y : Array UInt8) (ta tb tx ty : Tok) (n n2 : Nat) (dd dd2 : Option Addr) (sl sl2 : Array (Option Value)) :
    Meets (Builtin.«tuple.__lt__» ⟨[.ref l, .ref r], []⟩)
      (fun A R s => s.heap.get? l = some { cls := .type "tuple", dict := dd, data := .seq #[.int a ta, .bytes x tx] n, slots := sl } ∧ s.heap.get? r = some { cls := .type "tuple", dict := dd2, data := .seq #[.int b tb, .bytes y ty] n2, slots := sl2 } ∧
        R (.ok (.ret (.bool (pairLt a b x y)))) s) :=
  .of_wp fun prog w A R s h => by
    obtain ⟨hp, g, d, tk, os⟩ := s; obtain ⟨hl, hb, h⟩ := h
    have f2 := AutoSeq1.sub_tuple_tuple
    unfold pairLt at h
    by_cases hab : a = b
    · rw [if_pos hab] at h
      by_cases hxy : x.toList = y.toList
      · rw [if_pos hxy] at h
        wp_walk using wpAny_loadPart' hl, wpAny_loadPart' hb, eqB_int_t hab, eqB_bytes_t hxy
        exact ⟨_, rfl, h⟩
      · rw [if_neg hxy] at h
        wp_walk using wpAny_loadPart' hl, wpAny_loadPart' hb, eqB_int_t hab, eqB_bytes_f hxy, rlt_bytes
        exact ⟨_, rfl, h⟩
    · rw [if_neg hab] at h
      wp_walk using wpAny_loadPart' hl, wpAny_loadPart' hb, eqB_int_f hab, rlt_int
      exact ⟨_, rfl, h⟩
section
variable {prog : Program} {w : World} {A : Around} {E : Value → Shared → Prop} {s : Shared}
theorem lt_pair {l r : Addr} {a b : Int} {x y : Array UInt8} {ta tb tx ty : Tok} {Q : Value → Shared → Prop} (hl : s.heap.IsTuple l #[.int a ta, .bytes x tx]) (hb : s.heap.IsTuple r #[.int b tb, .bytes y ty]) (hu : A.units < cLine)
    (h : Q (.bool (pairLt a b x y)) s) : wpAny (model prog w) A (compareOp .Lt (.ref l) (.ref r)) Q E s := by
  obtain ⟨⟨cls, dd, data, sl⟩, ho, hc, n, hd⟩ := id hl
  obtain ⟨⟨cls2, dd2, data2, sl2⟩, ho2, hc2, n2, hd2⟩ := id hb
  simp only at hc hd hc2 hd2
  subst hc hd hc2 hd2
  exact richCompare_meets_room (op := .Lt) ⟨_, ho, rfl⟩ ⟨_, ho2, rfl⟩ F.slot_tuple_lt F.entry_tuple_lt (F.args_tuple_lt_2 _ _) (tuple_ltAt l r a b x y ta tb tx ty n n2 dd dd2 sl sl2)
    ⟨ho, ho2, show Value.bool (pairLt a b x y) ≠ Value.notImplemented ∧ Q (.bool (pairLt a b x y)) s from ⟨(fun x => nomatch x), h⟩⟩ hu
theorem type_bytes {b : Array UInt8} {t : Tok} {Q : Value → Shared → Prop} (h : Q (.type "bytes") s) : wpAny (model prog w) A (call (.type "type") [.bytes b t]) Q E s :=
  call_type_of (Tx := "bytes") rfl (by decide +kernel) h
end
end Mine

-- part L1
open Mine
open PySem PySem.W PyProof.Rows PySem.Spec PySem.Calls
local macro_rules | `(tactic| walk_at "call type:type") => `(tactic| (k_here; (with_reducible show wpAny _ _ (call (Value.type "type") [Value.bytes _ _]) _ _ _); (refine type_bytes ?_)))
local macro_rules | `(tactic| walk_at "InvEndN") => `(tactic| k_dflt kst_close)
local macro_rules | `(tactic| walk_at "InvEndN") => `(tactic| k_dflt ksr_close)
local macro_rules | `(tactic| kst_facts) => `(tactic| (with_reducible assumption))
local macro_rules | `(tactic| walk_at "call ref") => `(tactic| (k_here; (with_reducible show wpAny _ _ (call (Value.ref 21) [Value.int _ _]) _ _ _); k_dflt (refine' int2ap_use ?k1 ?k2 ?k3 ?k4 ?k5 ?kK ?kp ?kd ?ku ?_; (case kp => first | decide | exact fit12M _ | exact fit12N _ | exact fitP (by assumption) (by assumption) (by assumption) (by assumption) | exact fitQ (by assumption) (by assumption) (by assumption) (by assumption)); (case k1 => k_asm); (case k2 => k_asm); (case k3 => k_asm); (case k4 => k_asm); (case k5 => k_asm); (case kK => first | exact rfl | assumption); (case kd => ktr_room); (case ku => ktr_units)); intro b9 ks9 t9 h9 tk9 hb9 he9 hl9 F9 N9; (try dsimp only); (try k_fold)))
local macro_rules | `(tactic| walk_at "call ref") => `(tactic| (k_here; (with_reducible show wpAny _ _ (call (Value.ref 42) [Value.bytes _ _]) _ _ _); k_dflt (refine' count_use ?k1 ?k2 ?k3 ?k4 ?k5 ?kK ?ka ?la ?lx ?kd ?ku ?_; (case ka => assumption); (case la => first | assumption | omega); (case lx => first | assumption | exact lets_of (by assumption)); (case k1 => k_asm); (case k2 => k_asm); (case k3 => k_asm); (case k4 => k_asm); (case k5 => k_asm); (case kK => first | exact rfl | assumption); (case kd => ktr_room); (case ku => ktr_units)); intro v9 t9 h9 tk9 he9 F9 N9; (try dsimp only); (try k_fold)))
local macro_rules | `(tactic| walk_at "call ref") => `(tactic| (k_here; (with_reducible show wpAny _ _ (call (Value.ref 28) [Value.ref _, Value.int 16 _, Value.int 10 _]) _ _ _); k_dflt (refine' figs_c _ _ _ _ _ _ _ _ _ _ _ _ _ _ _ _ _ _ _ _ _ _ _ _ _ _ _ ?k1 ?k2 ?k3 ?k4 ?k5 ?kK ?ka ?kb ?kl ?kd ?ku ?_; (case ka => assumption); (case kb => assumption); (case kl => omega); (case k1 => k_asm); (case k2 => k_asm); (case k3 => k_asm); (case k4 => k_asm); (case k5 => k_asm); (case kK => first | exact rfl | assumption); (case kd => ktr_room); (case ku => ktr_units)); intro D' fgU fgK fgC h' tk' F' N' l1 fgI fgL fgF; (try k_lt l1); (try k_sweep); (try dsimp only); (try k_fold)))
local macro_rules | `(tactic| walk_at "compareOp NotEq int int") => `(tactic| (k_here; (with_reducible show wpAny _ _ (compareOp CmpOp.NotEq (Value.int _ _) (Value.int (ite _ _ _) _)) _ _ _); k_dflt (refine' ne_count ?ka ?kb ?_; (case ka => assumption); (case kb => assumption))))
local macro_rules | `(tactic| walk_at "compareOp NotEq bytes bytes") => `(tactic| (k_here; (with_reducible show wpAny _ _ (compareOp CmpOp.NotEq (Value.bytes _ _) (Value.bytes _ _)) _ _ _); k_dflt (refine' ne_ints2 ?ka ?kb ?kc ?_; (case ka => assumption); (case kb => assumption); (case kc => first | exact end_A (by assumption) (by assumption) (by assumption) (by assumption) (by assumption) (by assumption) (by assumption) (by assumption) (by assumption) rfl rfl (by assumption) (by assumption) (by assumption) | exact end_B (by assumption) (by assumption) (by assumption) (by assumption) (by assumption) (by assumption) (by assumption) (by assumption) (by assumption) rfl (by assumption)))))
local macro_rules | `(tactic| walk_at "compareOp NotEq bytes bytes") => `(tactic| (k_here; (with_reducible show wpAny _ _ (compareOp CmpOp.NotEq (Value.bytes _ _) (Value.bytes #[] _)) _ _ _); k_dflt (refine' ne_empty ?_)))
local macro_rules | `(tactic| walk_at "compareOp NotEq bytes bytes") => `(tactic| (k_here; (with_reducible show wpAny _ _ (compareOp CmpOp.NotEq (Value.bytes _ _) (Value.bytes #[] _)) _ _ _); k_dflt (refine' ne_none ?ka ?kb ?_; (case ka => assumption); (case kb => assumption))))
local macro_rules | `(tactic| walk_at "call type:bytes") => `(tactic| (k_here; (with_reducible show wpAny _ _ (call (Value.type "bytes") [Value.ref _]) _ _ _); k_dflt (refine' bytes_lets ?k1 ?k2 ?k3 ?k4 ?k5 ?k6 ?k7 ?_; (case k1 => k_asm); (case k2 => k_asm); (case k3 => rfl); (case k4 => kba_isList); (case k5 => assumption); (case k6 => exact lets_figs (by assumption) _); (case k7 => exact len_figs (by assumption) _)); intro blB blL h' blT blK F' N' blI blX blZ))
local macro_rules | `(tactic| walk_at "binaryOp Mult bytes int") => `(tactic| (k_here; (with_reducible show wpAny _ _ (binaryOp PySem.Operator.Mult (Value.bytes #[65] _) (Value.int _ _)) _ _ _); k_dflt (refine' mul_A ?k1 ?k2 ?_; (case k1 => (have tlL := tail_len (by assumption); omega)); (case k2 => omega)); intro maB maL maT maK maI maE maZ))
local macro_rules | `(tactic| walk_at "inplaceOp Add bytes bytes") => `(tactic| (k_here; (with_reducible show wpAny _ _ (inplaceOp PySem.Operator.Add (Value.bytes _ _) (Value.bytes _ _)) _ _ _); k_dflt (refine' iadd_w 200 100 ?k1 ?k2 ?k3 ?k4 ?k5 ?_; (case k1 => first | assumption | exact rfl); (case k2 => first | assumption | exact rfl); (case k5 => decide); (case k3 => first | omega | (rw [KBw.ints_length]; omega)); (case k4 => first | omega | (have tlL := tail_len (by assumption); omega))); intro iaB iaL iaT iaK iaI iaE iaZ))
local macro_rules | `(tactic| walk_at "inplaceOp Add bytes bytes") => `(tactic| (k_here; (with_reducible show wpAny _ _ (inplaceOp PySem.Operator.Add (Value.bytes _ _) (Value.bytes _ _)) _ _ _); k_dflt (refine' iadd_w 100 100 ?k1 ?k2 ?k3 ?k4 ?k5 ?_; (case k1 => first | assumption | exact rfl); (case k2 => first | assumption | exact rfl); (case k5 => decide); (case k3 => first | omega | (rw [KBw.ints_length]; omega)); (case k4 => first | omega | (have tlL := tail_len (by assumption); omega))); intro iaB iaL iaT iaK iaI iaE iaZ))
local macro_rules | `(tactic| walk_at "pyIter bytes") => `(tactic| (k_here; (with_reducible show wpAny _ _ (pyIter (Value.bytes _ _)) (CompPost _ _ _ _ _ _ _ _ _) _ _); k_dflt (refine' comp_none ?k0 ?k1 ?k2 ?k3 ?k4 ?k5 ?_ ?_; (case k0 => rfl); (case k1 => k_asm); (case k2 => k_asm); (case k3 => assumption); (case k4 => omega); (case k5 => exact lets_of (by assumption))); (intro _ _ _ _ _ _ _ _ _ _ _; (with_reducible refine wpAny_leafK ?_); (with_reducible refine markB ?_); intro _); rotate_left; (intro cnD cnH cnT cnF cnN cnL; (try dsimp only); (try k_fold))))
local macro_rules | `(tactic| walk_at "truthy ref") => `(tactic| (k_here; (with_reducible show wpAny _ _ (truthy (Value.ref _)) _ _ _); k_dflt (refine' truthy_nil ?ka ?_; (case ka => assumption))))
local macro_rules | `(tactic| walk_at "subscriptTail") => `(tactic| (k_here; (with_reducible show wpAny _ _ (subscriptTail _ (Expr.Slice none (some _) none _) (Value.bytes _ _) (Value.ref _)) _ _ _); (with_reducible rename Fr _ _ _ _ => F'); (with_reducible rename News _ _ _ _ => N'); (refine cut_to (s := ⟨_, _, _, _, _⟩) F' N' (by first | assumption | exact rfl) (by first | decide | omega) (by first | omega | (rw [KBw.ints_length]; omega)) ?_); intro ctC ctL _ _ _ _ _ ctB ctE ctZ))
local macro_rules | `(tactic| walk_at "subscriptTail") => `(tactic| (k_here; (with_reducible show wpAny _ _ (subscriptTail _ (Expr.Slice (some _) none none _) (Value.bytes _ _) (Value.ref _)) _ _ _); (with_reducible rename Fr _ _ _ _ => F'); (with_reducible rename News _ _ _ _ => N'); (refine cut_from (s := ⟨_, _, _, _, _⟩) F' N' (by first | assumption | exact rfl) (by first | decide | omega) (by first | omega | (rw [KBw.ints_length]; omega)) ?_); intro ctC ctL _ _ _ _ _ ctB ctE ctZ))
local macro_rules | `(tactic| walk_at "compareOp Eq bytes bytes") => `(tactic| (k_here; (with_reducible show wpAny _ _ (compareOp CmpOp.Eq (Value.bytes _ _) (Value.bytes _ _)) _ _ _); k_dflt (refine' eq_ints (ms := [65]) ?ka ?kb ?_; (case ka => assumption); (case kb => exact rfl))))
local macro_rules | `(tactic| walk_at "compareOp Eq bytes bytes") => `(tactic| (k_here; (with_reducible show wpAny _ _ (compareOp CmpOp.Eq (Value.bytes _ _) (Value.bytes #[65] _)) _ _ _); k_dflt (refine' eq_noA ?ka ?kb ?kc ?_; (case ka => assumption); (case kb => assumption); (case kc => assumption))))
local macro_rules | `(tactic| walk_at "call builtin:len") => `(tactic| (k_here; (with_reducible show wpAny _ _ (call (Value.builtin "len") [Value.bytes _ _]) _ _ _); k_dflt (refine' len_tail ?ka ?kb ?_; (case ka => assumption); (case kb => assumption))))
local macro_rules | `(tactic| walk_at "SeqLeaf") => `(tactic| (exfalso; omega))
local macro_rules | `(tactic| walk_at "InvEndN") => `(tactic| ((rename News _ _ _ _ => nE'); k_dflt (refine two_end (by assumption) nE' (by kst_same))))
set_option maxRecDepth 100000 in
set_option maxHeartbeats 8000000 in
theorem PySem.Challenge.cw_dm0169_01_holds : PySem.Challenge.rw_dm0169_01.Holds := by
  k_with_none
  k_with "pyIter ref" => (k_of "number" => k_state (fun pre behind tail => KBw.bInts tail = apI behind.toNat ∧ Bd behind) "behind" "tail")
  k_with "pyIter ref" => (k_of "end" => k_search (fun _ => True))
  k_with "pyIter ref" => (k_of "given" => ((rename Fr _ _ _ _ => lF'); (rename News _ _ _ _ => lN'); (with_unfolding_all refine' two_iter (by rfl) (by assumption) lF' lN' (by assumption) (by assumption) (by assumption) (neg_word (by assumption)) ?_ ?_); (all_goals (try clear lF' lN')); rotate_left; (intro kU kH kTk kMark kFr kNews); rotate_left; (intro b9 ks9 kT kH kTk kOwn hb9 he9 kOff kMark kFr kNews); (all_goals (try k_fold))))
  k_with "exec While Compare cons nil" => k_while_given ["word!"] (fun w0 script word => BInv w0 word ∧ word.size ≤ 11) (fun w0 script word => word.size) "word"
  k_with "measure" => exact b_fall (by assumption) (by assumption) (by assumption) (by assumption)
  k_with "state" => first | exact True.intro | exact b_start (by assumption) (by assumption) | exact b_turn (by assumption) (by assumption) (by assumption) (by assumption) (by assumption) (by assumption) | exact tl_start (by assumption) (by assumption) | exact tl_M (by assumption) (by assumption) | exact tl_N (by assumption) (by assumption)
  exact Mine.hd1 (by k_go)

