/- The plain law: type texts as lists of bytes, and how their brackets and commas part them. -/
import Derived.Lib.Space
set_option linter.unusedSimpArgs false
set_option linter.unusedVariables false
namespace Go.Proofs.YtcidlnjpabgioaaGreatDoor
namespace Pu

abbrev Bs := List UInt8
def bNull : Bs := [78, 117, 108, 108, 97, 98, 108, 101]
def bLow : Bs := [76, 111, 119, 67, 97, 114, 100, 105, 110, 97, 108, 105, 116, 121]
def bArr : Bs := [65, 114, 114, 97, 121]
def bMap : Bs := [77, 97, 112]
def bTup : Bs := [84, 117, 112, 108, 101]
def bStr : Bs := [83, 116, 114, 105, 110, 103]
def leaves : List Bs := [[85, 73, 110, 116, 56],
  [73, 110, 116, 49, 54],
  [85, 73, 110, 116, 51, 50],
  [73, 110, 116, 54, 52],
  [85, 73, 110, 116, 54, 52],
  [73, 110, 116, 49, 50, 56],
  [85, 73, 110, 116, 50, 53, 54],
  [73, 80, 118, 52],
  [73, 80, 118, 54],
  [73, 110, 116, 56],
  [85, 73, 110, 116, 49, 54],
  [73, 110, 116, 51, 50],
  [83, 116, 114, 105, 110, 103],
  [70, 105, 120, 101, 100, 83, 116, 114, 105, 110, 103, 40, 53, 41],
  [70, 105, 120, 101, 100, 83, 116, 114, 105, 110, 103, 40, 49, 54, 41]]

/-- The names of the kinds of numbers. -/
def kinds : List Bs := [[],
  [73, 110, 116, 56],
  [73, 110, 116, 49, 54],
  [73, 110, 116, 51, 50],
  [73, 110, 116, 54, 52],
  [73, 110, 116, 49, 50, 56],
  [73, 110, 116, 50, 53, 54],
  [85, 73, 110, 116, 56],
  [85, 73, 110, 116, 49, 54],
  [85, 73, 110, 116, 51, 50],
  [85, 73, 110, 116, 54, 52],
  [85, 73, 110, 116, 49, 50, 56],
  [85, 73, 110, 116, 50, 53, 54],
  [70, 108, 111, 97, 116, 51, 50],
  [70, 108, 111, 97, 116, 54, 52],
  [66, 70, 108, 111, 97, 116, 49, 54],
  [66, 111, 111, 108],
  [73, 80, 118, 52],
  [73, 80, 118, 54],
  [85, 85, 73, 68]]
/-- Texts with a comma and a space between. -/
def joinS : List Bs → Bs
  | [] => []
  | [u] => u
  | u :: v :: us => u ++ 44 :: 32 :: joinS (v :: us)
/-- A name, and texts in brackets behind it. -/
def wrap (name : Bs) (us : List Bs) : Bs := name ++ 40 :: (joinS us ++ [41])

def Base (s : Bs) : Prop := s ∈ leaves ∨ (∃ u, u ∈ leaves ∧ s = wrap bNull [u]) ∨ s = wrap bLow [bStr]
/-- The texts of types at most so deep. -/
def Good : Nat → Bs → Prop
  | 0, s => Base s
  | d + 1, s => Base s ∨ (∃ u, Good d u ∧ s = wrap bArr [u]) ∨ (∃ k v, (k ∈ leaves ∨ k = wrap bLow [bStr]) ∧ Good d v ∧ s = wrap bMap [k, v]) ∨
      (∃ us : List Bs, 0 < us.length ∧ us.length ≤ 3 ∧ (∀ u ∈ us, Good d u) ∧ s = wrap bTup us)

/-- The state of the scan: where the piece begins, how deep, and the pieces. -/
structure St where
  pos : Nat
  depth : Nat
  out : List Bs

def stepc (t : Bs) (k : Nat) (c : UInt8) (s : St) : St :=
  if c = 40 then { s with depth := s.depth + 1 }
  else if c = 41 ∧ 0 < s.depth then { s with depth := s.depth - 1 }
  else if s.depth = 0 ∧ (c = 44 ∨ k + 1 = t.length) then { s with pos := k + 1, out := s.out ++ [Lib.trimSpace ((t.take k).drop s.pos)] }
  else s

def go (t : Bs) : Nat → Bs → St → St
  | _, [], s => s
  | k, c :: r, s => go t (k + 1) r (stepc t k c s)

theorem go_append (t : Bs) (a b : Bs) : ∀ (k : Nat) (s : St), go t k (a ++ b) s = go t (k + a.length) b (go t k a s) := by
  induction a with
  | nil => intro k s; rfl
  | cons c a ih => intro k s; simp only [List.cons_append, go, ih, List.length_cons]; congr 1; omega

/-- A text over which the scan goes as if it weren't there. -/
def Bal (u : Bs) : Prop := ∀ (t : Bs) (k : Nat) (s : St), k + u.length < t.length → go t k u s = s
/-- A text over which the scan goes so inside brackets. -/
def BalIn (u : Bs) : Prop := ∀ (t : Bs) (k : Nat) (s : St), 0 < s.depth → k + u.length < t.length → go t k u s = s

theorem Bal.nil : Bal [] := fun _ _ _ _ => rfl
theorem Bal.append {a b : Bs} (ha : Bal a) (hb : Bal b) : Bal (a ++ b) := fun t k s h => by
  rw [List.length_append] at h
  rw [go_append, ha t k s (by omega), hb t _ s (by omega)]
theorem Bal.inn {a : Bs} (ha : Bal a) : BalIn a := fun t k s _ h => ha t k s h
theorem BalIn.append {a b : Bs} (ha : BalIn a) (hb : BalIn b) : BalIn (a ++ b) := fun t k s h0 h => by
  rw [List.length_append] at h
  rw [go_append, ha t k s h0 (by omega), hb t _ s h0 (by omega)]
/-- A byte that is no bracket and no comma. -/
def plain (c : UInt8) : Bool := c != 40 && c != 41 && c != 44
theorem Bal.one {c : UInt8} (h : plain c = true) : Bal [c] := fun t k s hk => by
  simp only [plain, Bool.and_eq_true, bne_iff_ne, ne_eq] at h
  simp only [List.length_cons, List.length_nil] at hk
  simp only [go, stepc]
  rw [if_neg h.1.1, if_neg (fun e => h.1.2 e.1), if_neg]
  rintro ⟨_, e | e⟩
  · exact h.2 e
  · omega
theorem Bal.all : ∀ {u : Bs}, u.all plain = true → Bal u
  | [], _ => Bal.nil
  | c :: u, h => by
    simp only [List.all_cons, Bool.and_eq_true] at h
    exact Bal.append (a := [c]) (Bal.one h.1) (Bal.all h.2)
theorem BalIn.comma : BalIn [44] := fun t k s h0 hk => by
  simp only [go, stepc]
  rw [if_neg (by decide), if_neg (by rintro ⟨e, _⟩; exact absurd e (by decide)), if_neg (by omega)]
theorem Bal.brackets {u : Bs} (h : BalIn u) : Bal (40 :: (u ++ [41])) := fun t k s hk => by
  simp only [List.length_cons, List.length_append, List.length_nil] at hk
  have e1 : stepc t k 40 s = { s with depth := s.depth + 1 } := by simp [stepc]
  show go t (k + 1) (u ++ [41]) (stepc t k 40 s) = s
  rw [e1, go_append, h t (k + 1) _ (Nat.succ_pos _) (by omega)]
  have e2 : ∀ j, stepc t j 41 { s with depth := s.depth + 1 } = s := fun j => by simp [stepc]
  simp only [go]
  exact e2 _
theorem joinS_cons (u v : Bs) (us : List Bs) : joinS (u :: v :: us) = u ++ ([44] ++ ([32] ++ joinS (v :: us))) := rfl
theorem joinS_snoc : ∀ (us : List Bs) (u : Bs), us ≠ [] → joinS (us ++ [u]) = joinS us ++ 44 :: 32 :: u
  | [], _, h => absurd rfl h
  | [v], u, _ => rfl
  | v :: x :: us, u, _ => by
    have ih := joinS_snoc (x :: us) u (by simp)
    show joinS (v :: x :: (us ++ [u])) = _
    rw [joinS_cons, joinS_cons]
    have e : joinS (x :: (us ++ [u])) = joinS (x :: us) ++ 44 :: 32 :: u := ih
    rw [e]
    simp
theorem joinS_in : ∀ {us : List Bs}, (∀ u ∈ us, Bal u) → BalIn (joinS us)
  | [], _ => Bal.nil.inn
  | [u], h => (h u (by simp)).inn
  | u :: v :: us, h => by
    rw [joinS_cons]
    exact (h u (by simp)).inn.append (BalIn.comma.append ((Bal.one (by decide)).inn.append (joinS_in fun x hx => h x (List.mem_cons_of_mem _ hx))))
theorem wrap_bal {name : Bs} {us : List Bs} (hn : name.all plain = true) (h : ∀ u ∈ us, Bal u) : Bal (wrap name us) :=
  (Bal.all hn).append (Bal.brackets (joinS_in h))

/-- What a type's text keeps: the scan's law, no space at either end, ASCII, and its length. -/
structure Fine (m : Nat) (u : Bs) : Prop where
  bal : Bal u
  first : ∃ c r, u = c :: r ∧ Lib.isSp c = false
  last : ∃ r c, u = r ++ [c] ∧ Lib.isSp c = false
  ascii : ∀ c ∈ u, c.toNat < 128
  len : u.length ≤ m

theorem Fine.mono {m m' : Nat} {u : Bs} (h : Fine m u) (hm : m ≤ m') : Fine m' u := ⟨h.bal, h.first, h.last, h.ascii, Nat.le_trans h.len hm⟩
theorem Fine.trim {m : Nat} {u : Bs} (h : Fine m u) : Lib.trimSpace u = u := by
  obtain ⟨c, r, e, hc⟩ := h.first
  obtain ⟨r', c', e', hc'⟩ := h.last
  have e1 : u.dropWhile Lib.isSp = u := by rw [e, List.dropWhile_cons, if_neg (by simp [hc])]
  have e2 : u.reverse.dropWhile Lib.isSp = u.reverse := by
    rw [e', List.reverse_append]
    show (c' :: r'.reverse).dropWhile Lib.isSp = _
    rw [List.dropWhile_cons, if_neg (by simp [hc'])]
    rfl
  simp only [Lib.trimSpace, e1, e2, List.reverse_reverse]
theorem Fine.trim_sp {m : Nat} {u : Bs} (h : Fine m u) : Lib.trimSpace (32 :: u) = u := by
  have : Lib.trimSpace (32 :: u) = Lib.trimSpace u := by
    simp only [Lib.trimSpace, List.dropWhile_cons]
    rw [if_pos (by decide)]
  rw [this, h.trim]

theorem joinS_ascii : ∀ {us : List Bs}, (∀ u ∈ us, ∀ c ∈ u, c.toNat < 128) → ∀ c ∈ joinS us, c.toNat < 128
  | [], _ => fun c h => by simp [joinS] at h
  | [u], h => fun c hc => h u (by simp) c hc
  | u :: v :: us, h => fun c hc => by
    rw [joinS_cons] at hc
    simp only [List.mem_append, List.mem_singleton] at hc
    rcases hc with hc | hc | hc | hc
    · exact h u (by simp) c hc
    · subst hc; decide
    · subst hc; decide
    · exact joinS_ascii (us := v :: us) (fun x hx => h x (List.mem_cons_of_mem _ hx)) c hc
theorem joinS_len {m : Nat} : ∀ {us : List Bs}, (∀ u ∈ us, u.length ≤ m) → (joinS us).length ≤ us.length * (m + 2)
  | [], _ => by simp [joinS]
  | [u], h => by have := h u (by simp); simp only [joinS, List.length_cons, List.length_nil]; omega
  | u :: v :: us, h => by
    have h1 := h u (by simp)
    have h2 := joinS_len (us := v :: us) (fun x hx => h x (List.mem_cons_of_mem _ hx))
    rw [joinS_cons]
    simp only [List.length_append, List.length_cons, List.length_nil, Nat.add_mul] at h2 ⊢
    omega
theorem wrap_fine {m k : Nat} {name : Bs} {us : List Bs} (hn : name.all (fun c => plain c && decide (c.toNat < 128) && !Lib.isSp c) = true) (hne : name ≠ []) (hk : us.length ≤ k)
    (h : ∀ u ∈ us, Fine m u) : Fine (name.length + 2 + k * (m + 2)) (wrap name us) := by
  have hall : ∀ c ∈ name, plain c = true ∧ c.toNat < 128 ∧ Lib.isSp c = false := fun c hc => by
    have := List.all_eq_true.1 hn c hc
    simp only [Bool.and_eq_true, decide_eq_true_eq, Bool.not_eq_true'] at this
    exact ⟨this.1.1, this.1.2, this.2⟩
  refine ⟨wrap_bal (List.all_eq_true.2 fun c hc => (hall c hc).1) fun u hu => (h u hu).bal, ?_, ⟨name ++ 40 :: joinS us, 41, by simp [wrap], by decide⟩, ?_, ?_⟩
  · match name, hne, hall with
    | c :: r, _, hall => exact ⟨c, r ++ 40 :: (joinS us ++ [41]), rfl, (hall c (by simp)).2.2⟩
  · intro c hc
    simp only [wrap, List.mem_append, List.mem_cons, List.not_mem_nil, or_false] at hc
    rcases hc with hc | hc | hc | hc
    · exact (hall c hc).2.1
    · subst hc; decide
    · exact joinS_ascii (fun u hu => (h u hu).ascii) c hc
    · subst hc; decide
  · have h1 := joinS_len (m := m) fun u hu => (h u hu).len
    have h2 : us.length * (m + 2) ≤ k * (m + 2) := Nat.mul_le_mul_right _ hk
    simp only [wrap, List.length_append, List.length_cons, List.length_nil]
    omega

theorem leaf_plain {name : Bs} (hn : name.all (fun c => plain c && decide (c.toNat < 128) && !Lib.isSp c) = true) (hne : name ≠ []) (hl : name.length ≤ 15) : Fine 15 name := by
  have hall : ∀ c ∈ name, plain c = true ∧ c.toNat < 128 ∧ Lib.isSp c = false := fun c hc => by
    have := List.all_eq_true.1 hn c hc
    simp only [Bool.and_eq_true, decide_eq_true_eq, Bool.not_eq_true'] at this
    exact ⟨this.1.1, this.1.2, this.2⟩
  refine ⟨Bal.all (List.all_eq_true.2 fun c hc => (hall c hc).1), ?_, ⟨name.dropLast, name.getLast hne, (List.dropLast_concat_getLast hne).symm, (hall _ (List.getLast_mem hne)).2.2⟩, fun c hc => (hall c hc).2.1, hl⟩
  match name, hne, hall with
  | c :: r, _, hall => exact ⟨c, r, rfl, (hall c (by simp)).2.2⟩
def bFix : Bs := [70, 105, 120, 101, 100, 83, 116, 114, 105, 110, 103]
theorem leaves_fine : ∀ u ∈ leaves, Fine 15 u := by
  intro u hu
  simp only [leaves, List.mem_cons, List.not_mem_nil, or_false] at hu
  have fx : ∀ d : Bs, d.all (fun c => plain c && decide (c.toNat < 128) && !Lib.isSp c) = true → d ≠ [] → d.length ≤ 2 → Fine 15 (wrap bFix [d]) := fun d h1 h2 h3 => by
    have h := wrap_fine (m := 15) (k := 1) (name := bFix) (us := [d]) (by decide) (by decide) (by simp) (fun u hu => by
      simp only [List.mem_singleton] at hu; subst hu; exact leaf_plain h1 h2 (by omega))
    refine ⟨h.bal, h.first, h.last, h.ascii, ?_⟩
    simp only [wrap, bFix, joinS, List.length_append, List.length_cons, List.length_nil]
    omega
  rcases hu with h | h | h | h | h | h | h | h | h | h | h | h | h | h | h
  all_goals first
    | (subst h; exact leaf_plain (by decide) (by decide) (by decide))
    | (rw [h]; exact fx [53] (by decide) (by decide) (by decide))
    | (rw [h]; exact fx [49, 54] (by decide) (by decide) (by decide))

theorem str_fine : Fine 15 bStr := leaf_plain (by decide) (by decide) (by decide)
theorem base_fine {s : Bs} (h : Base s) : Fine 40 s := by
  rcases h with h | ⟨u, hu, rfl⟩ | rfl
  · exact (leaves_fine s h).mono (by omega)
  · exact (wrap_fine (m := 15) (k := 1) (by decide) (by decide) (by simp) (fun x hx => by simp only [List.mem_singleton] at hx; subst hx; exact leaves_fine _ hu)).mono (by decide)
  · exact (wrap_fine (m := 15) (k := 1) (by decide) (by decide) (by simp) (fun x hx => by simp only [List.mem_singleton] at hx; subst hx; exact str_fine)).mono (by decide)
def most : Nat → Nat
  | 0 => 40
  | d + 1 => 7 + 3 * (most d + 2)
theorem most_le (d : Nat) : 40 ≤ most d := by
  cases d
  · decide
  · rename_i d
    induction d with
    | zero => decide
    | succ d ih => simp only [most] at ih ⊢; omega
theorem Good.fine : ∀ (d : Nat) (s : Bs), Good d s → Fine (most d) s
  | 0, _, h => base_fine h
  | d + 1, s, h => by
    have hm := most_le d
    rcases h with h | ⟨u, hu, rfl⟩ | ⟨k, v, hk, hv, rfl⟩ | ⟨us, _, h3, hg, rfl⟩
    · exact (base_fine h).mono (most_le (d + 1))
    · refine (wrap_fine (m := most d) (k := 1) (by decide) (by decide) (by simp) (fun x hx => ?_)).mono (by simp only [most, bArr, List.length_cons, List.length_nil]; omega)
      simp only [List.mem_singleton] at hx; subst hx; exact Good.fine d x hu
    · refine (wrap_fine (m := most d) (k := 2) (by decide) (by decide) (by simp) (fun x hx => ?_)).mono (by simp only [most, bMap, List.length_cons, List.length_nil]; omega)
      simp only [List.mem_cons, List.not_mem_nil, or_false] at hx
      rcases hx with rfl | rfl
      · rcases hk with hk | rfl
        · exact (leaves_fine _ hk).mono (by omega)
        · exact (base_fine (Or.inr (Or.inr rfl))).mono hm
      · exact Good.fine d _ hv
    · exact (wrap_fine (m := most d) (k := 3) (by decide) (by decide) h3 (fun x hx => Good.fine d x (hg x hx))).mono (by simp only [most, bTup, List.length_cons, List.length_nil]; omega)

theorem go_pieces {m : Nat} : ∀ (us : List Bs), us ≠ [] → (∀ u ∈ us, Fine m u) → ∀ (t pre sp : Bs) (out : List Bs), (sp = [] ∨ sp = [32]) → t = pre ++ (sp ++ (joinS us ++ [41])) →
    (go t (pre.length + sp.length) (joinS us ++ [41]) ⟨pre.length, 0, out⟩).out = out ++ us
  | [], h, _ => absurd rfl h
  | [u], _, hf => fun t pre sp out hsp ht => by
    have hu := hf u (by simp)
    have hl : t.length = pre.length + sp.length + u.length + 1 := by rw [ht]; simp [joinS]; omega
    have hp : Lib.trimSpace ((t.take (pre.length + sp.length + u.length)).drop pre.length) = u := by
      have : (t.take (pre.length + sp.length + u.length)).drop pre.length = sp ++ u := by
        rw [ht, show pre.length + sp.length + u.length = (pre ++ (sp ++ u)).length by simp; omega]
        rw [show pre ++ (sp ++ (joinS [u] ++ [41])) = (pre ++ (sp ++ u)) ++ [41] by simp [joinS], List.take_left', List.drop_left']
        all_goals rfl
      rw [this]
      rcases hsp with rfl | rfl
      · exact hu.trim
      · exact hu.trim_sp
    rw [go_append, show joinS [u] = u from rfl, hu.bal t _ _ (by omega)]
    simp only [go, stepc]
    rw [if_neg (by decide), if_neg (by simp), if_pos ⟨trivial, Or.inr (by omega)⟩]
    simp only [hp]
  | u :: v :: us, _, hf => fun t pre sp out hsp ht => by
    have hu := hf u (by simp)
    have ht' : t = (pre ++ (sp ++ (u ++ [44]))) ++ ([32] ++ (joinS (v :: us) ++ [41])) := by rw [ht, joinS_cons]; simp
    have hl : t.length = pre.length + sp.length + u.length + 1 + (1 + ((joinS (v :: us)).length + 1)) := by rw [ht']; simp; omega
    have hp : Lib.trimSpace ((t.take (pre.length + sp.length + u.length)).drop pre.length) = u := by
      have : (t.take (pre.length + sp.length + u.length)).drop pre.length = sp ++ u := by
        rw [ht', show pre.length + sp.length + u.length = (pre ++ (sp ++ u)).length by simp; omega]
        rw [show (pre ++ (sp ++ (u ++ [44]))) ++ ([32] ++ (joinS (v :: us) ++ [41])) = (pre ++ (sp ++ u)) ++ ([44] ++ ([32] ++ (joinS (v :: us) ++ [41]))) by simp, List.take_left', List.drop_left']
        all_goals rfl
      rw [this]
      rcases hsp with rfl | rfl
      · exact hu.trim
      · exact hu.trim_sp
    rw [joinS_cons, List.append_assoc, go_append, hu.bal t _ _ (by omega)]
    have ih := go_pieces (v :: us) (by simp) (fun x hx => hf x (List.mem_cons_of_mem _ hx)) t (pre ++ (sp ++ (u ++ [44]))) [32] (out ++ [u]) (Or.inr rfl) ht'
    have e1 : stepc t (pre.length + sp.length + u.length) 44 ⟨pre.length, 0, out⟩ = ⟨pre.length + sp.length + u.length + 1, 0, out ++ [u]⟩ := by
      simp only [stepc]
      rw [if_neg (by decide), if_neg (by simp), if_pos ⟨trivial, Or.inl trivial⟩]
      simp only [hp]
    have e2 : ∀ s : St, stepc t (pre.length + sp.length + u.length + 1) 32 s = s := fun s => by
      simp only [stepc]
      rw [if_neg (by decide), if_neg (by rintro ⟨e, _⟩; exact absurd e (by decide)), if_neg (by rintro ⟨_, e | e⟩; exact absurd e (by decide); omega)]
    show (go t (pre.length + sp.length + u.length + 1 + 1) (joinS (v :: us) ++ [41]) (stepc t (pre.length + sp.length + u.length + 1) 32 (stepc t (pre.length + sp.length + u.length) 44 ⟨pre.length, 0, out⟩))).out = _
    rw [e1, e2]
    have en : (pre ++ (sp ++ (u ++ [44]))).length = pre.length + sp.length + u.length + 1 := by simp; omega
    rw [en] at ih
    simpa using ih

/-- THE PLAIN LAW of the parting. -/
theorem parts {m : Nat} (name : Bs) (us : List Bs) (hne : us ≠ []) (hf : ∀ u ∈ us, Fine m u) :
    (go (wrap name us) (name.length + 1) ((wrap name us).drop (name.length + 1)) ⟨name.length + 1, 0, []⟩).out = us := by
  have ht : wrap name us = (name ++ [40]) ++ ([] ++ (joinS us ++ [41])) := by simp [wrap]
  have h := go_pieces us hne hf (wrap name us) (name ++ [40]) [] [] (Or.inl rfl) ht
  have hd : (wrap name us).drop (name.length + 1) = joinS us ++ [41] := by
    rw [ht, show name.length + 1 = (name ++ [40]).length by simp, List.drop_left']
    · rfl
    · rfl
  rw [hd]
  simpa using h
end Pu
end Go.Proofs.YtcidlnjpabgioaaGreatDoor
