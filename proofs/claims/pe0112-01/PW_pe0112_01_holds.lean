import PyProof.Rows.All
import Wide.All
import OpenK.AllK
import Wide.FinOn
import PySem.Challenge.RW_pe0112_01
open PySem PySem.W PyProof.Rows
set_option Elab.async false
namespace Mine
set_option rowWalk.seconds 0
set_option maxRecDepth 100000 in
set_option maxHeartbeats 8000000 in
open_top hd for PySem.Challenge.rw_pe0112_01
abbrev PR : Program := PySem.Challenge.rw_pe0112_01.row.prog
def sym (x : Int) : Int := if Int.fmod x 8 = 1 ∨ Int.fmod x 8 = 2 ∨ Int.fmod x 8 = 3 then 255 + Int.fmod x 8 else 1 + Int.fmod (Int.fdiv x 8) 255
/-! places of the text, by their number: nothing of it is written here -/
def nthS : Nat → List Stmt → Stmt
  | 0, s :: _ => s
  | n + 1, _ :: r => nthS n r
  | _, [] => .Pass ⟨0, 0, 0, 0⟩
def fdBody : Stmt → List Stmt
  | .FunctionDef _ _ b _ _ _ _ _ _ _ => b
  | _ => []
def fdArgs : Stmt → Arguments
  | .FunctionDef _ a _ _ _ _ _ _ _ _ => a
  | _ => { posonlyargs := [], args := [], vararg := none, kwonlyargs := [], kw_defaults := [], kwarg := none, defaults := [] }
def fdScope : Stmt → Scope
  | .FunctionDef _ _ _ _ _ _ s _ _ _ => s
  | _ => { kind := .function, names := [], isGenerator := false, isCoroutine := false }
def topS (i : Nat) : Stmt := nthS i PySem.Challenge.pw_pe0112_01.main.body
/-- the def within _int2digits, the def within _digits2int -/
def inI : Stmt := nthS 1 (fdBody (topS 10))
def inD : Stmt := nthS 0 (fdBody (topS 11))
abbrev tabD (c : Addr) : Obj := tabObj (#[] ++ #[rawInt 56, rawInt 4, .ref c])
abbrev tabI (c : Addr) : Obj := tabObj (#[] ++ #[rawInt 41, rawInt 4, .ref c])
def GD (oc : Obj) : Prop := ∃ fs tq, oc.data = .fields fs ∧ fs[1]? = some (.str (Str.ofString "_digits2int.<locals>.inner") tq)
def GI (oc : Obj) : Prop := ∃ fs tq, oc.data = .fields fs ∧ fs[1]? = some (.str (Str.ofString "_int2digits.<locals>.inner") tq)
/-! addresses apart -/
theorem sub_cons {x : Addr × Obj} {l r : List (Addr × Obj)} (h : x ∈ r) (h' : ∀ p ∈ l, p ∈ r) : ∀ p ∈ x :: l, p ∈ r := fun p hp => by
  rcases List.mem_cons.mp hp with rfl | hp
  · exact h
  · exact h' p hp
theorem sub_tail {x : Addr × Obj} {l r : List (Addr × Obj)} (h : ∀ p ∈ l, p ∈ r) : ∀ p ∈ l, p ∈ x :: r := fun p hp => .tail _ (h p hp)
theorem sub_nil {r : List (Addr × Obj)} : ∀ p ∈ ([] : List (Addr × Obj)), p ∈ r := fun _ h => nomatch h
theorem ne_all_of_lt {l : List (Addr × Obj)} {d : Addr} (h : AllLt d l) : ∀ p ∈ l, p.1 ≠ d := by
  induction l with
  | nil => intro p hp; cases hp
  | cons q r ih => intro p hp; cases hp with
    | head => exact Nat.ne_of_lt h.1
    | tail _ hp => exact ih h.2 p hp
theorem lt_all_of_lt {l : List (Addr × Obj)} {d : Addr} (h : AllLt d l) : ∀ p ∈ l, p.1 < d := by
  induction l with
  | nil => intro p hp; cases hp
  | cons q r ih => intro p hp; cases hp with
    | head => exact h.1
    | tail _ hp => exact ih h.2 p hp
theorem ne_all_1 {l : List (Addr × Obj)} {d : Addr} (h : AllLt d l) : ∀ p ∈ l, p.1 ≠ d + 1 := fun p hp => Nat.ne_of_lt (Nat.lt_succ_of_lt (lt_all_of_lt h p hp))
theorem ne_all_2 {l : List (Addr × Obj)} {d : Addr} (h : AllLt d l) : ∀ p ∈ l, p.1 ≠ d + 1 + 1 := fun p hp => Nat.ne_of_lt (Nat.lt_succ_of_lt (Nat.lt_succ_of_lt (lt_all_of_lt h p hp)))
theorem ne_all_3 {l : List (Addr × Obj)} {d : Addr} (h : AllLt d l) : ∀ p ∈ l, p.1 ≠ d + 1 + 1 + 1 := fun p hp => Nat.ne_of_lt (Nat.lt_succ_of_lt (Nat.lt_succ_of_lt (Nat.lt_succ_of_lt (lt_all_of_lt h p hp))))
theorem ne_all_4 {l : List (Addr × Obj)} {d : Addr} (h : AllLt d l) : ∀ p ∈ l, p.1 ≠ d + 1 + 1 + 1 + 1 := fun p hp => Nat.ne_of_lt (Nat.lt_succ_of_lt (Nat.lt_succ_of_lt (Nat.lt_succ_of_lt (Nat.lt_succ_of_lt (lt_all_of_lt h p hp)))))
theorem shl_fits {x : Int} {n : Int} (hx : Builtin.Int.intBits x ≤ 10000) (hn : n ≤ 10000) : (Builtin.Int.intBits x : Int) + n ≤ 2 ^ 27 := by
  omega
/-- what a frame holds under a name -/
def Has (m : Str → Option Value) (x : Str) (v : Value) : Prop := m x = some v
theorem nameX_H {M : Model} {A : Around} {E : Value → Shared → Prop} {s : Shared} {h₀ : Heap} {L a : Addr} {m m₁ : Str → Option Value} {cn : Str} {cs : Scope} {ccd : Value} {cl : List (Str × Addr)} {x : Str} {pos : Pos} {v : Value} {Q : Value → Shared → Prop}
    (F : Fr h₀ L s.heap m) (hv : Has m₁ x v) (e : m x = m₁ x) (h : Q v s)
    (hk : cs.kind = .function := by rfl) (hx : (envX cn cs L a ccd cl).kindOf x = some .local := by rfl) (hd : (x == ("__debug__" : Str)) = false := by decide) :
    wpAny M A (eval (.Name x pos) (envX cn cs L a ccd cl)) Q E s := nameX_L F (e.trans hv) h hk hx hd
theorem Has.of {m m₁ : Str → Option Value} {x : Str} {v : Value} (hv : Has m₁ x v) (e : m x = m₁ x) : Has m x v := e.trans hv
theorem Has.at {m : Str → Option Value} {x : Str} {v : Value} (e : m x = some v) : Has m x v := e
section
variable {prog : Program} {w : World} {A : Around} {E : Value → Shared → Prop} {s : Shared} {Q : Value → Shared → Prop}
theorem rshift_half {a : Int} {t u : Tok} (h : ∀ q : Int, 2 * q ≤ a → a ≤ 2 * q + 1 → Q (.int q s.toks) { s with toks := s.toks + 1 }) :
    wpAny (model prog w) A (binaryOp .RShift (.int a t) (.int 1 u)) Q E s := by
  refine rshift_int (by decide) (h _ ?_ ?_)
  · rw [Int.fdiv_eq_ediv_of_nonneg _ (by decide)]
    have : (2 : Int) ^ Int.toNat 1 = 2 := by decide
    rw [this]; omega
  · rw [Int.fdiv_eq_ediv_of_nonneg _ (by decide)]
    have : (2 : Int) ^ Int.toNat 1 = 2 := by decide
    rw [this]; omega
end
section
variable {prog : Program} {w : World} {A : Around} {E : Value → Shared → Prop} {s : Shared} {Q : Value → Shared → Prop} {h₀ : Heap} {L : Addr} {m : Str → Option Value} {news : List (Addr × Obj)}
theorem foldl_rep {v : Value} : ∀ (n : Nat) (acc : List Value), List.foldl (fun x1 x2 => x1 ++ x2) acc.toArray (List.replicate n #[v]) = (acc ++ List.replicate n v).toArray
  | 0, acc => by simp
  | n + 1, acc => by
    have e : acc.toArray ++ #[v] = (acc ++ [v]).toArray := by simp
    rw [List.replicate_succ, List.foldl_cons, e, foldl_rep n (acc ++ [v]), List.append_assoc]
    rfl
theorem rep_one {l : Addr} {v : Value} {k : Nat} {x : Int} {u : Tok} (Fm : Fr h₀ L s.heap m) (N : News h₀ L s.heap news) (hm : (l, listOf #[v] k) ∈ news) (hlo : 0 ≤ x) (hhi : x ≤ 1000)
    (h : ∀ l' h', Fr h₀ L h' m → News h₀ L h' ((l', listOf (List.replicate x.toNat v).toArray 0) :: news) → (∀ p ∈ news, p.1 < l') → Q (.ref l') { s with heap := h' }) :
    wpAny (model prog w) A (binaryOp .Mult (.ref l) (.int x u)) Q E s := by
  refine mul_list Fm N (N _ hm).1 (by omega) (by omega) (by simp; omega) fun h' F' N' => ?_
  refine h _ h' F' ?_ fun p hp => Heap.lt_size (N p hp).1
  have e : List.foldl (fun x1 x2 => x1 ++ x2) #[] (List.replicate (if (#[v] : Array Value).isEmpty = true then 0 else x.toNat) #[v]) = (List.replicate x.toNat v).toArray := by
    have := foldl_rep (v := v) x.toNat []
    simpa using this
  rw [e] at N'
  exact N'
theorem ints_rep {i : Int} {t : Tok} : ∀ n : Nat, IntsAre (List.replicate n (.int i t)) (List.replicate n i)
  | 0 => .nil
  | n + 1 => .cons i t (ints_rep n)
theorem rep_int {l : Addr} {i : Int} {t : Tok} {k : Nat} {x : Int} {u : Tok} (Fm : Fr h₀ L s.heap m) (N : News h₀ L s.heap news) (hm : (l, listOf #[.int i t] k) ∈ news) (hlo : 0 ≤ x) (hhi : x ≤ 1000)
    (h : ∀ l' vs h', IntsAre vs (List.replicate x.toNat i) → Fr h₀ L h' m → News h₀ L h' ((l', listOf vs.toArray 0) :: news) → (∀ p ∈ news, p.1 < l') → Q (.ref l') { s with heap := h' }) :
    wpAny (model prog w) A (binaryOp .Mult (.ref l) (.int x u)) Q E s :=
  rep_one Fm N hm hlo hhi fun l' h' F' N' l1 => h l' _ h' (ints_rep _) F' N' l1
theorem xor_low' {x y : Int} {t u : Tok} (e : Builtin.bitXor x y = z) (h : Q (.int z s.toks) { s with toks := s.toks + 1 }) :
    wpAny (model prog w) A (binaryOp .BitXor (.int x t) (.int y u)) Q E s := by
  subst e
  exact xor_int h
theorem len_intsM {l : Addr} {vs : List Value} {ns : List Int} {k : Nat} (N : News h₀ L s.heap news) (hm : (l, listOf vs.toArray k) ∈ news) (hi : IntsAre vs ns) (hn : ns.length ≤ 1000000)
    (h : Q (.int ns.length (s.toks + 1)) { s with toks := s.toks + 1 + 1 }) : wpAny (model prog w) A (call (.builtin "len") [.ref l]) Q E s := by
  have e : vs.toArray.size = ns.length := by rw [List.size_toArray]; exact hi.length
  refine PySem.Calls.call_len_list (News.isList N hm) (by rw [e]; omega) ?_
  rw [e]; exact h
abbrev tupOf (vs : List Value) : Obj := { cls := .type "tuple", data := .seq vs.toArray }
theorem div_own {a b : Int} {t u : Tok} (F : Fr h₀ L s.heap m) (N : News h₀ L s.heap news) (hb : 0 < b) (hz : b < 2 ^ 2000)
    (h : ∀ l' t1 t2 h' tk, Fr h₀ L h' m → News h₀ L h' ((l', tupOf [.int (a / b) t1, .int (a % b) t2]) :: news) → (∀ p ∈ news, p.1 < l') → Q (.ref l') { s with heap := h', toks := tk }) :
    wpAny (model prog w) A (call (.builtin "divmod") [.int a t, .int b u]) Q E s := by
  refine divmod_N F N (by omega) (fun h' F' N' => ?_) (.inl (PyProof.noPylong_of_log2 ?_))
  · rw [Int.fdiv_eq_ediv_of_nonneg _ (by omega), Int.fmod_eq_emod_of_nonneg _ (by omega)] at N'
    exact h _ _ _ h' _ F' N' fun p hp => Heap.lt_size (N p hp).1
  · have h3 : ((2 ^ 2000 : Nat) : Int) = (2 : Int) ^ 2000 := by rw [Int.natCast_pow]; rfl
    rw [← h3] at hz
    have h4 : b.natAbs < 2 ^ 2000 := by generalize (2 ^ 2000 : Nat) = M at *; omega
    exact Nat.lt_of_lt_of_le ((Nat.log2_lt (by omega)).mpr h4) (by decide)
theorem append_own {D : Addr} {vs : List Value} {k : Nat} {v : Value} {news' : List (Addr × Obj)} (F : Fr h₀ L s.heap m) (N : News h₀ L s.heap news) (U : Upd D (listOf vs.toArray k) (listOf (vs ++ [v]).toArray (k + 1)) news news') (hz : vs.length ≤ 1000)
    (h : ∀ h', Fr h₀ L h' m → News h₀ L h' news' → Q .none { s with heap := h' }) : wpAny (model prog w) A (call (.builtin "list.append") [.ref D, v]) Q E s := by
  refine append_K F N (its := vs.toArray) (n := k) (by rw [List.push_toArray]; exact U) h ?_
  rw [List.size_toArray, sizeLine_eq]; omega
theorem reverse_own {D : Addr} {vs : List Value} {k : Nat} {news' : List (Addr × Obj)} (F : Fr h₀ L s.heap m) (N : News h₀ L s.heap news) (U : Upd D (listOf vs.toArray k) (listOf vs.reverse.toArray k) news news') (hz : vs.length ≤ 1000)
    (h : ∀ h', Fr h₀ L h' m → News h₀ L h' news' → Q .none { s with heap := h' }) : wpAny (model prog w) A (call (.builtin "list.reverse") [.ref D]) Q E s := by
  refine kl_reverse F N (its := vs.toArray) (n := k) (l := vs.reverse) (by simp) U ?_ h
  rw [sizeLine_eq]; simp; omega
theorem ints_snoc {vs : List Value} {ns : List Int} {i : Int} {t : Tok} (h : IntsAre vs ns) : IntsAre (vs ++ [.int i t]) (ns ++ [i]) := IntsAre.append h (.cons i t .nil)
theorem ints_rev : ∀ {vs : List Value} {ns : List Int}, IntsAre vs ns → IntsAre vs.reverse ns.reverse
  | _, _, .nil => .nil
  | _, _, .cons i t h => by rw [List.reverse_cons, List.reverse_cons]; exact ints_snoc (ints_rev h)
theorem ints_at : ∀ {vs : List Value} {ns : List Int}, IntsAre vs ns → ∀ {j : Nat} {v : Value}, vs[j]? = some v → ∃ i t, v = .int i t ∧ ns[j]? = some i
  | _, _, .nil, _, _, h => by simp at h
  | _, _, .cons i t h, 0, v, e => ⟨i, t, by simpa using e.symm, by simp⟩
  | _, _, .cons _ _ h, j + 1, v, e => by
    obtain ⟨i, t, e1, e2⟩ := ints_at h (j := j) (v := v) (by simpa using e)
    exact ⟨i, t, e1, by simpa using e2⟩
theorem rshift_x {a n : Int} {t u : Tok} (hn : 0 ≤ n) (h : Q (.int (a / 2 ^ n.toNat) s.toks) { s with toks := s.toks + 1 }) :
    wpAny (model prog w) A (binaryOp .RShift (.int a t) (.int n u)) Q E s := by
  refine rshift_int hn ?_
  rw [Int.fdiv_eq_ediv_of_nonneg _ (Int.le_of_lt (Int.pow_pos (by decide)))]
  exact h
end
theorem mul_small {a b : Int} (h1 : a ≤ 16) (h2 : 0 ≤ b) (h3 : b ≤ 100) : a * b ≤ 10000 :=
  Int.le_trans (Int.mul_le_mul_of_nonneg_right h1 h2) (by omega)
theorem bits_div {x : Int} {k : Nat} (h0 : 0 ≤ x) (h : x < 2 ^ 2000) : Builtin.Int.intBits (x / 2 ^ k) ≤ 10000 := by
  refine PySem.intBits_le_iff.mpr ?_
  have h1 : x / 2 ^ k ≤ x := Int.ediv_le_self _ h0
  have h2 : 0 ≤ x / 2 ^ k := Int.ediv_nonneg h0 (Int.le_of_lt (Int.pow_pos (by decide)))
  have h3 : ((2 ^ 2000 : Nat) : Int) = (2 : Int) ^ 2000 := by rw [Int.natCast_pow]; rfl
  have h4 : (2 ^ 2000 : Nat) ≤ 2 ^ 10000 := Nat.pow_le_pow_right (by decide) (by decide)
  rw [← h3] at h
  generalize (2 ^ 2000 : Nat) = M at *
  generalize (2 ^ 10000 : Nat) = M' at *
  omega
theorem bits_small {x : Int} (h0 : 0 ≤ x) (h : x < 2 ^ 2000) : Builtin.Int.intBits x ≤ 2000 := by
  refine PySem.intBits_le_iff.mpr ?_
  have h3 : ((2 ^ 2000 : Nat) : Int) = (2 : Int) ^ 2000 := by rw [Int.natCast_pow]; rfl
  rw [← h3] at h
  generalize (2 ^ 2000 : Nat) = M at *
  omega
/-! digits -/
def d2i (B : Int) : List Int → Int
  | [] => 0
  | d :: r => d + B * d2i B r
def digs (B : Int) : Nat → Int → List Int
  | 0, _ => []
  | n + 1, x => x % B :: digs B n (x / B)
def putL' (ds : List Int) (lo : Nat) (xs : List Int) : List Int := ds.take lo ++ (xs ++ ds.drop (lo + xs.length))
/-- how many digits of n bits an int has -/
def nd (n x : Int) : Int := (↑(Builtin.Int.intBits x) + n - 1).fdiv n
def seg (ds : List Int) (lo hi : Int) : List Int := (ds.drop lo.toNat).take (hi - lo).toNat
theorem d2i_append (B : Int) : ∀ (a b : List Int), d2i B (a ++ b) = d2i B a + B ^ a.length * d2i B b
  | [], b => by simp [d2i]
  | x :: a, b => by
    rw [List.cons_append, d2i, d2i, d2i_append B a b, List.length_cons, Int.pow_succ, Int.mul_add]
    have : B ^ a.length * B * d2i B b = B * (B ^ a.length * d2i B b) := by
      rw [Int.mul_comm (B ^ a.length) B, Int.mul_assoc]
    rw [this]; omega
theorem seg_one {B : Int} {ds : List Int} {lo hi : Int} (h : lo + 1 = hi) (h0 : 0 ≤ lo) (h1 : hi ≤ ds.length) : ds.getD lo.toNat 0 = d2i B (seg ds lo hi) := by
  have e : (hi - lo).toNat = 1 := by omega
  have hl : lo.toNat < ds.length := by omega
  unfold seg
  rw [e, List.drop_eq_getElem_cons hl, List.take_succ_cons, List.take_zero, d2i, d2i]
  simp [List.getD, hl]
theorem seg_append {ds : List Int} {lo mid hi : Int} (h0 : 0 ≤ lo) (h1 : lo ≤ mid) (h2 : mid ≤ hi) : seg ds lo hi = seg ds lo mid ++ seg ds mid hi := by
  unfold seg
  have e1 : (hi - lo).toNat = (mid - lo).toNat + (hi - mid).toNat := by omega
  have e2 : mid.toNat = lo.toNat + (mid - lo).toNat := by omega
  rw [e1, List.take_add, List.drop_drop, e2]
theorem seg_length {ds : List Int} {lo hi : Int} (h0 : 0 ≤ lo) (h1 : lo ≤ hi) (h2 : hi ≤ ds.length) : (seg ds lo hi).length = (hi - lo).toNat := by
  unfold seg
  rw [List.length_take, List.length_drop]
  omega
theorem seg_split {ds : List Int} {n lo mid hi : Int} (h0 : 0 ≤ lo) (h1 : lo ≤ mid) (h2 : mid ≤ hi) (h3 : hi ≤ ds.length) (hn : 0 < n) :
    d2i (2 ^ n.toNat) (seg ds mid hi) * 2 ^ ((mid - lo) * n).toNat + d2i (2 ^ n.toNat) (seg ds lo mid) = d2i (2 ^ n.toNat) (seg ds lo hi) := by
  rw [seg_append h0 h1 h2, d2i_append, seg_length h0 h1 (by omega), ← Int.pow_mul]
  have e : ((mid - lo) * n).toNat = n.toNat * (mid - lo).toNat := by
    have h4 : (mid - lo) * n = ((n.toNat * (mid - lo).toNat : Nat) : Int) := by
      rw [Int.natCast_mul, Int.toNat_of_nonneg (by omega), Int.toNat_of_nonneg (by omega), Int.mul_comm]
    rw [h4]; rfl
  rw [e, Int.mul_comm]
  omega
/-- each digit within the base: the number within the base's power -/
theorem d2i_bound {B : Int} (hB : 0 < B) : ∀ {ds : List Int}, (∀ d ∈ ds, 0 ≤ d ∧ d < B) → 0 ≤ d2i B ds ∧ d2i B ds < B ^ ds.length
  | [], _ => by simp [d2i]
  | x :: r, h => by
    have ih := d2i_bound hB (ds := r) fun d hd => h d (.tail _ hd)
    have hx := h x (.head _)
    rw [d2i, List.length_cons, Int.pow_succ]
    have h1 : 0 ≤ B * d2i B r := Int.mul_nonneg (by omega) ih.1
    have h2 : B * d2i B r ≤ B * (B ^ r.length - 1) := Int.mul_le_mul_of_nonneg_left (by omega) (by omega)
    rw [Int.mul_sub, Int.mul_one] at h2
    rw [Int.mul_comm (B ^ r.length) B]
    omega
theorem seg_bits {n : Int} {ds : List Int} (hn : 0 < n) (hn1 : n ≤ 100) (hlen : ds.length ≤ 16) (h : ∀ d ∈ ds, 0 ≤ d ∧ d < 2 ^ n.toNat) (lo hi : Int) : Builtin.Int.intBits (d2i (2 ^ n.toNat) (seg ds lo hi)) ≤ 3000 := by
  have hb := d2i_bound (B := 2 ^ n.toNat) (Int.pow_pos (by decide)) (ds := seg ds lo hi) fun d hd => h d (List.mem_of_mem_drop (List.mem_of_mem_take hd))
  have hl : (seg ds lo hi).length ≤ 16 := by unfold seg; rw [List.length_take, List.length_drop]; omega
  refine PySem.intBits_le_iff.mpr ?_
  have h2 : (2 : Int) ^ n.toNat = ((2 ^ n.toNat : Nat) : Int) := by simp
  have h3 : d2i (2 ^ n.toNat) (seg ds lo hi) < ((2 ^ 3000 : Nat) : Int) := by
    refine Int.lt_of_lt_of_le hb.2 ?_
    rw [← Int.pow_mul]
    have : (2 : Int) ^ (n.toNat * (seg ds lo hi).length) = ((2 ^ (n.toNat * (seg ds lo hi).length) : Nat) : Int) := by simp
    rw [this]
    refine Int.ofNat_le.mpr (Nat.pow_le_pow_right (by decide) ?_)
    exact Nat.le_trans (Nat.mul_le_mul (by omega : n.toNat ≤ 100) hl) (by decide)
  have h0 := hb.1
  generalize d2i (2 ^ n.toNat) (seg ds lo hi) = v at *
  generalize (2 ^ 3000 : Nat) = M at *
  omega
theorem seg_all (ds : List Int) : seg ds 0 ds.length = ds := by
  unfold seg; simp
theorem fa {x : Addr × Obj} {l : List (Addr × Obj)} {a : Addr} (h : x.1 ≠ a) (r : ∀ p ∈ l, p.1 ≠ a) : ∀ p ∈ x :: l, p.1 ≠ a := List.forall_mem_cons.mpr ⟨h, r⟩
theorem fz {a : Addr} : ∀ p ∈ ([] : List (Addr × Obj)), p.1 ≠ a := fun _ h => nomatch h
theorem News.sub {h₀ h : Heap} {L : Addr} {l l' : List (Addr × Obj)} (N : News h₀ L h l) (hs : ∀ q ∈ l', q ∈ l) : News h₀ L h l' := fun q hq => N q (hs q hq)
theorem pickD {h₀ h : Heap} {L : Addr} {x1 x2 x3 x4 x5 x6 : Addr × Obj} {rest : List (Addr × Obj)} (N : News h₀ L h (x1 :: x2 :: x3 :: x4 :: x5 :: x6 :: rest)) : News h₀ L h (x6 :: x2 :: rest) := News.sub N (sub_cons (.tail _ (.tail _ (.tail _ (.tail _ (.tail _ (.head _)))))) (sub_cons (.tail _ (.head _)) (sub_tail (sub_tail (sub_tail (sub_tail (sub_tail (sub_tail (fun _ h => h)))))))))
theorem drop1 {h₀ h : Heap} {L : Addr} {x1 : Addr × Obj} {rest : List (Addr × Obj)} (N : News h₀ L h (x1 :: rest)) : News h₀ L h rest := fun q hq => N q (.tail _ hq)
theorem drop4 {h₀ h : Heap} {L : Addr} {x1 x2 x3 x4 : Addr × Obj} {rest : List (Addr × Obj)} (N : News h₀ L h (x1 :: x2 :: x3 :: x4 :: rest)) : News h₀ L h rest := drop1 (drop1 (drop1 (drop1 N)))
theorem nat_and_low (x s : Nat) : x &&& (x / 2 ^ s * 2 ^ s) = x / 2 ^ s * 2 ^ s := by
  rw [← Nat.shiftLeft_eq, ← Nat.shiftRight_eq_div_pow]
  apply Nat.eq_of_testBit_eq
  intro i
  rw [Nat.testBit_and, Nat.testBit_shiftLeft, Nat.testBit_shiftRight]
  by_cases h : s ≤ i
  · have : s + (i - s) = i := by omega
    simp [h, this]
  · simp [h]
theorem bitAnd_low {x : Int} (hx : 0 ≤ x) (s : Nat) : Builtin.bitAnd x (x / 2 ^ s * 2 ^ s) = x / 2 ^ s * 2 ^ s := by
  obtain ⟨n, rfl⟩ := Int.eq_ofNat_of_zero_le hx
  have e : ((n : Int) / 2 ^ s * 2 ^ s) = ((n / 2 ^ s * 2 ^ s : Nat) : Int) := by simp
  rw [e]
  have h2 := nat_and_low n s
  generalize n / 2 ^ s * 2 ^ s = y at *
  rw [bitAnd_pp (by omega) (by omega)]
  show ((n &&& y : Nat) : Int) = _
  rw [h2]
theorem bitXor_low {x : Int} (hx : 0 ≤ x) (s : Nat) : Builtin.bitXor x (x / 2 ^ s * 2 ^ s) = x % 2 ^ s := by
  rw [bitXor_and, bitAnd_low hx]
  have := Int.mul_ediv_add_emod x (2 ^ s)
  rw [Int.mul_comm] at this
  omega
theorem digs_length (B : Int) : ∀ (n : Nat) (x : Int), (digs B n x).length = n
  | 0, _ => rfl
  | n + 1, x => by rw [digs, List.length_cons, digs_length B n]
theorem digs_add {B : Int} (hB : 0 < B) : ∀ (a b : Nat) (x : Int), digs B (a + b) x = digs B a (x % B ^ a) ++ digs B b (x / B ^ a)
  | 0, b, x => by simp [digs]
  | a + 1, b, x => by
    have e1 : x % B ^ (a + 1) % B = x % B := Int.emod_emod_of_dvd x ⟨B ^ a, by rw [Int.pow_succ, Int.mul_comm]⟩
    have e2 : x % B ^ (a + 1) / B = x / B % B ^ a := by
      have hP : 0 < B ^ a := Int.pow_pos hB
      have hQ : 0 < B ^ (a + 1) := Int.pow_pos hB
      have h1 := Int.emod_nonneg x (Int.ne_of_gt hQ)
      have h2 := Int.emod_lt_of_pos x hQ
      have h3 : x = x % B ^ (a + 1) + B * (B ^ a * (x / B ^ (a + 1))) := by
        have := Int.mul_ediv_add_emod x (B ^ (a + 1))
        rw [← Int.mul_assoc, Int.mul_comm B (B ^ a), ← Int.pow_succ]
        show x = x % B ^ (a + 1) + B ^ (a + 1) * (x / B ^ (a + 1))
        omega
      have h4 : x / B = x % B ^ (a + 1) / B + B ^ a * (x / B ^ (a + 1)) := by
        have h5 : (x % B ^ (a + 1) + B * (B ^ a * (x / B ^ (a + 1)))) / B = x % B ^ (a + 1) / B + B ^ a * (x / B ^ (a + 1)) := Int.add_mul_ediv_left _ _ (by omega)
        rw [← h3] at h5; exact h5
      rw [h4, Int.add_mul_emod_self_left]
      exact (Int.emod_eq_of_lt (Int.ediv_nonneg h1 (by omega)) (Int.ediv_lt_of_lt_mul hB (by rw [← Int.pow_succ]; exact h2))).symm
    have e3 : x / B ^ (a + 1) = x / B / B ^ a := by
      rw [Int.ediv_ediv_of_nonneg (by omega), Int.pow_succ, Int.mul_comm]
    rw [show a + 1 + b = (a + b) + 1 by omega, digs, digs, e1, e2, e3, digs_add hB a b (x / B), List.cons_append]
theorem d2i_digs {B : Int} (hB : 0 < B) : ∀ (n : Nat) (x : Int), 0 ≤ x → x < B ^ n → d2i B (digs B n x) = x
  | 0, x, h0, h1 => by simp at h1; simp [digs, d2i]; omega
  | n + 1, x, h0, h1 => by
    have h2 : 0 ≤ x / B := Int.ediv_nonneg h0 (by omega)
    have h3 : x / B < B ^ n := Int.ediv_lt_of_lt_mul hB (by rw [← Int.pow_succ]; exact h1)
    rw [digs, d2i, d2i_digs hB n _ h2 h3]
    have := Int.mul_ediv_add_emod x B
    omega
theorem digs_d2i {B : Int} (hB : 0 < B) : ∀ (ds : List Int), (∀ d ∈ ds, 0 ≤ d ∧ d < B) → digs B ds.length (d2i B ds) = ds
  | [], _ => rfl
  | d :: r, h => by
    have hd := h d (.head _)
    have e1 : (d + B * d2i B r) % B = d := by rw [Int.add_mul_emod_self_left]; exact Int.emod_eq_of_lt hd.1 hd.2
    have e2 : (d + B * d2i B r) / B = d2i B r := by
      rw [Int.add_mul_ediv_left _ _ (by omega), Int.ediv_eq_zero_of_lt hd.1 hd.2]; omega
    rw [List.length_cons, digs, d2i, e1, e2, digs_d2i hB r fun x hx => h x (.tail _ hx)]
theorem digs_mem {B : Int} (hB : 0 < B) : ∀ (n : Nat) (x : Int), ∀ d ∈ digs B n x, 0 ≤ d ∧ d < B
  | 0, _, d, h => by cases h
  | n + 1, x, d, h => by
    rw [digs] at h
    cases h with
    | head => exact ⟨Int.emod_nonneg _ (by omega), Int.emod_lt_of_pos _ hB⟩
    | tail _ h => exact digs_mem hB n _ d h
/-! a list with a stretch put in -/
theorem put_length {ds xs : List Int} {lo : Nat} (h : lo + xs.length ≤ ds.length) : (putL' ds lo xs).length = ds.length := by
  unfold putL'; rw [List.length_append, List.length_append, List.length_take, List.length_drop]; omega
theorem put_put {ds xs ys : List Int} {lo : Nat} (h : lo + xs.length ≤ ds.length) : putL' (putL' ds lo xs) (lo + xs.length) ys = putL' ds lo (xs ++ ys) := by
  have e1 : (ds.take lo).length = lo := by rw [List.length_take]; omega
  unfold putL'
  have e2 : List.take (lo + xs.length) (List.take lo ds ++ (xs ++ List.drop (lo + xs.length) ds)) = List.take lo ds ++ xs := by
    rw [← List.append_assoc]
    exact List.take_left' (by rw [List.length_append, e1])
  have e3 : List.drop (lo + xs.length + ys.length) (List.take lo ds ++ (xs ++ List.drop (lo + xs.length) ds)) = List.drop (lo + (xs ++ ys).length) ds := by
    rw [← List.append_assoc, List.drop_append, List.length_append, e1, List.drop_eq_nil_of_le (by rw [List.length_append, e1]; omega), List.nil_append, List.drop_drop, List.length_append]
    congr 1; omega
  rw [e2, e3, List.append_assoc, List.append_assoc]
theorem put_one {ds : List Int} {lo : Nat} {x : Int} (h : lo < ds.length) : ds.set lo x = putL' ds lo [x] := by
  unfold putL'
  rw [List.set_eq_take_append_cons_drop, if_pos h]
  rfl
theorem put_all {ds xs : List Int} (h : xs.length = ds.length) : putL' ds 0 xs = xs := by
  unfold putL'; simp [h]
theorem pow_split {n a : Int} (hn : 0 < n) (ha : 0 ≤ a) : (2 : Int) ^ (a * n).toNat = (2 ^ n.toNat) ^ a.toNat := by
  have e : (a * n).toNat = n.toNat * a.toNat := by
    have h4 : a * n = ((n.toNat * a.toNat : Nat) : Int) := by
      rw [Int.natCast_mul, Int.toNat_of_nonneg (by omega), Int.toNat_of_nonneg (by omega), Int.mul_comm]
    rw [h4]; rfl
  rw [e, Int.pow_mul]
theorem low_ok {n x lo mid : Int} (hn : 0 < n) (h : lo ≤ mid) : 0 ≤ x % 2 ^ ((mid - lo) * n).toNat ∧ x % 2 ^ ((mid - lo) * n).toNat < (2 ^ n.toNat) ^ (mid - lo).toNat := by
  rw [← pow_split hn (by omega)]
  have h1 : (0 : Int) < 2 ^ ((mid - lo) * n).toNat := Int.pow_pos (by decide)
  exact ⟨Int.emod_nonneg _ (by omega), Int.emod_lt_of_pos _ h1⟩
theorem up_ok {n x lo mid hi : Int} (hn : 0 < n) (h : lo ≤ mid) (h' : mid ≤ hi) (h0 : 0 ≤ x) (hx : x < (2 ^ n.toNat) ^ (hi - lo).toNat) :
    0 ≤ x / 2 ^ ((mid - lo) * n).toNat ∧ x / 2 ^ ((mid - lo) * n).toNat < (2 ^ n.toNat) ^ (hi - mid).toNat := by
  rw [pow_split hn (by omega)]
  have h1 : (0 : Int) < (2 ^ n.toNat) ^ (mid - lo).toNat := Int.pow_pos (Int.pow_pos (by decide))
  refine ⟨Int.ediv_nonneg h0 (by omega), Int.ediv_lt_of_lt_mul h1 ?_⟩
  rw [← Int.pow_add, show (hi - mid).toNat + (mid - lo).toNat = (hi - lo).toNat by omega]
  exact hx
theorem put_digs {n x lo mid hi : Int} {ds : List Int} (hn : 0 < n) (h0 : 0 ≤ lo) (h : lo ≤ mid) (h' : mid ≤ hi) (hl : hi ≤ ds.length) :
    putL' (putL' ds lo.toNat (digs (2 ^ n.toNat) (mid - lo).toNat (x % 2 ^ ((mid - lo) * n).toNat))) mid.toNat (digs (2 ^ n.toNat) (hi - mid).toNat (x / 2 ^ ((mid - lo) * n).toNat)) = putL' ds lo.toNat (digs (2 ^ n.toNat) (hi - lo).toNat x) := by
  have e : mid.toNat = lo.toNat + (digs (2 ^ n.toNat) (mid - lo).toNat (x % 2 ^ ((mid - lo) * n).toNat)).length := by rw [digs_length]; omega
  have e2 : (hi - lo).toNat = (mid - lo).toNat + (hi - mid).toNat := by omega
  rw [e, put_put (by rw [digs_length]; omega), e2, digs_add (Int.pow_pos (by decide)), ← pow_split hn (by omega)]
theorem ints_put {n x lo mid hi : Int} {ds : List Int} {v : List Value} (h : IntsAre v (putL' (putL' ds lo.toNat (digs (2 ^ n.toNat) (mid - lo).toNat (x % 2 ^ ((mid - lo) * n).toNat))) mid.toNat (digs (2 ^ n.toNat) (hi - mid).toNat (x / 2 ^ ((mid - lo) * n).toNat))))
    (hn : 0 < n) (h0 : 0 ≤ lo) (h1 : lo ≤ mid) (h2 : mid ≤ hi) (hl : hi ≤ ds.length) : IntsAre v (putL' ds lo.toNat (digs (2 ^ n.toNat) (hi - lo).toNat x)) := put_digs hn h0 h1 h2 hl ▸ h
theorem put_base {B x lo hi : Int} {ds : List Int} (h : lo + 1 = hi) (h0 : 0 ≤ lo) (hl : hi ≤ ds.length) (hx0 : 0 ≤ x) (hx : x < B ^ (hi - lo).toNat) : ds.set lo.toNat x = putL' ds lo.toNat (digs B (hi - lo).toNat x) := by
  have e : (hi - lo).toNat = 1 := by omega
  rw [e] at hx ⊢
  rw [Int.pow_one] at hx
  rw [put_one (by omega), digs, digs, Int.emod_eq_of_lt hx0 hx]
theorem pow2_le {a b : Nat} (h : a ≤ b) : (2 : Int) ^ a ≤ 2 ^ b := by
  have e : ∀ k : Nat, (2 : Int) ^ k = ((2 ^ k : Nat) : Int) := fun k => by simp
  rw [e, e]
  exact Int.ofNat_le.mpr (Nat.pow_le_pow_right (by decide) h)
theorem small_of {n x lo hi : Int} (hn1 : n ≤ 100) (h : hi - lo ≤ 16) (hx : x < (2 ^ n.toNat) ^ (hi - lo).toNat) : x < 2 ^ 2000 := by
  refine Int.lt_of_lt_of_le hx ?_
  rw [← Int.pow_mul]
  exact pow2_le (Nat.le_trans (Nat.mul_le_mul (by omega : n.toNat ≤ 100) (by omega : (hi - lo).toNat ≤ 16)) (by decide))
theorem pickI {h₀ h : Heap} {L : Addr} {x1 x2 x3 : Addr × Obj} {rest : List (Addr × Obj)} (N : News h₀ L h (x1 :: x2 :: x3 :: rest)) : News h₀ L h (x3 :: x1 :: x2 :: rest) := News.sub N (sub_cons (.tail _ (.tail _ (.head _))) (sub_cons (.head _) (sub_cons (.tail _ (.head _)) (sub_tail (sub_tail (sub_tail (fun _ h => h)))))))
theorem nd_facts {n x : Int} (hx : 0 ≤ x) (hn : 0 < n) (hb : Builtin.Int.intBits x ≤ 16 * n) : 0 ≤ nd n x ∧ nd n x ≤ 16 ∧ x < (2 ^ n.toNat) ^ (nd n x).toNat ∧ (x ≠ 0 → 0 < nd n x) := by
  unfold nd
  rw [Int.fdiv_eq_ediv_of_nonneg _ (by omega)]
  generalize hk : (Builtin.Int.intBits x) = k at *
  have h1 : 0 ≤ ((k : Int) + n - 1) / n := Int.ediv_nonneg (by omega) (by omega)
  have h2 : ((k : Int) + n - 1) / n * n ≥ k := by
    have := Int.mul_ediv_add_emod ((k : Int) + n - 1) n
    have := Int.emod_lt_of_pos ((k : Int) + n - 1) hn
    have e := Int.mul_comm n (((k : Int) + n - 1) / n)
    omega
  refine ⟨h1, ?_, ?_, ?_⟩
  · have : ((k : Int) + n - 1) / n < 17 := Int.ediv_lt_of_lt_mul hn (by omega)
    omega
  · rw [← pow_split hn h1]
    have h3 : x.natAbs < 2 ^ k := PySem.intBits_le_iff.mp (by omega)
    have h4 : x < 2 ^ k := by
      have e : (2 : Int) ^ k = ((2 ^ k : Nat) : Int) := by simp
      rw [e]; omega
    exact Int.lt_of_lt_of_le h4 (pow2_le (by omega))
  · intro hne
    have h5 : 0 < k := by
      rw [← hk]; unfold Builtin.Int.intBits
      rw [if_neg (by simpa using hne)]; omega
    have : 1 ≤ ((k : Int) + n - 1) / n := Int.le_ediv_of_mul_le hn (by omega)
    omega
theorem pickF {h₀ h : Heap} {L : Addr} {x1 x2 x3 x4 x5 x6 x7 x8 : Addr × Obj} {rest : List (Addr × Obj)} (N : News h₀ L h (x1 :: x2 :: x3 :: x4 :: x5 :: x6 :: x7 :: x8 :: rest)) : News h₀ L h (x1 :: x8 :: x3 :: rest) := News.sub N (sub_cons (.head _) (sub_cons (.tail _ (.tail _ (.tail _ (.tail _ (.tail _ (.tail _ (.tail _ (.head _)))))))) (sub_cons (.tail _ (.tail _ (.head _))) (sub_tail (sub_tail (sub_tail (sub_tail (sub_tail (sub_tail (sub_tail (sub_tail (fun _ h => h))))))))))))
theorem pickZ {h₀ h : Heap} {L : Addr} {x1 x2 x3 x4 x5 x6 x7 x8 : Addr × Obj} {rest : List (Addr × Obj)} (N : News h₀ L h (x1 :: x2 :: x3 :: x4 :: x5 :: x6 :: x7 :: x8 :: rest)) : News h₀ L h (x3 :: x8 :: x2 :: rest) := News.sub N (sub_cons (.tail _ (.tail _ (.head _))) (sub_cons (.tail _ (.tail _ (.tail _ (.tail _ (.tail _ (.tail _ (.tail _ (.head _)))))))) (sub_cons (.tail _ (.head _)) (sub_tail (sub_tail (sub_tail (sub_tail (sub_tail (sub_tail (sub_tail (sub_tail (fun _ h => h))))))))))))
theorem pickG {h₀ h : Heap} {L : Addr} {x1 x2 x3 x4 x5 x6 : Addr × Obj} {rest : List (Addr × Obj)} (N : News h₀ L h (x1 :: x2 :: x3 :: x4 :: x5 :: x6 :: rest)) : News h₀ L h (x1 :: rest) := News.sub N (sub_cons (.head _) (sub_tail (sub_tail (sub_tail (sub_tail (sub_tail (sub_tail (fun _ h => h))))))))
theorem pickH {h₀ h : Heap} {L : Addr} {x1 x2 x3 x4 x5 x6 : Addr × Obj} {rest : List (Addr × Obj)} (N : News h₀ L h (x1 :: x2 :: x3 :: x4 :: x5 :: x6 :: rest)) : News h₀ L h (x2 :: rest) := News.sub N (sub_cons (.tail _ (.head _)) (sub_tail (sub_tail (sub_tail (sub_tail (sub_tail (sub_tail (fun _ h => h))))))))
theorem pickJ {h₀ h : Heap} {L : Addr} {x1 x2 : Addr × Obj} {rest : List (Addr × Obj)} (N : News h₀ L h (x1 :: x2 :: rest)) : News h₀ L h (x2 :: x1 :: rest) := News.sub N (sub_cons (.tail _ (.head _)) (sub_cons (.head _) (sub_tail (sub_tail (fun _ h => h)))))
theorem digs_zero (B : Int) : ∀ k : Nat, List.replicate k 0 = digs B k 0
  | 0 => rfl
  | k + 1 => by rw [List.replicate_succ, digs_zero B k, digs]; simp
theorem i2d_end {z x : Int} {B : Int} {v : List Value} (h : IntsAre v (putL' (List.replicate z.toNat 0) (Int.toNat 0) (digs B (↑(List.replicate z.toNat (0 : Int)).length - 0 : Int).toNat x))) : IntsAre v (digs B z.toNat x) := by
  have e : (↑(List.replicate z.toNat (0 : Int)).length - 0 : Int).toNat = z.toNat := by rw [List.length_replicate]; omega
  rw [e] at h
  have h2 : putL' (List.replicate z.toNat 0) (Int.toNat 0) (digs B z.toNat x) = digs B z.toNat x := put_all (by rw [digs_length, List.length_replicate])
  rw [h2] at h
  exact h
theorem bits_pos {b : Int} (hb : 0 < b) : (0 : Int) < (Builtin.Int.intBits b : Int) := by
  unfold Builtin.Int.intBits
  rw [if_neg (by simp; omega)]; omega
structure DivInv (B b : Int) (ds : List Int) (i : Nat) (r : Int) (qs : List Int) : Prop where
  r0 : 0 ≤ r
  r1 : r < b
  len : qs.length = i
  dig : ∀ q ∈ qs, 0 ≤ q ∧ q < B
  eq : d2i B (ds.drop (ds.length - i)) = b * d2i B qs.reverse + r
theorem DivInv.zero {B b : Int} {ds : List Int} (hb : 0 < b) : DivInv B b ds 0 0 [] where
  r0 := by omega
  r1 := hb
  len := rfl
  dig := fun _ h => nomatch h
  eq := by simp [d2i]
theorem DivInv.step {B b d r : Int} {ds qs : List Int} {i : Nat} (h : DivInv B b ds i r qs) (hb : 0 < b) (hB : 0 < B) (hi : i < ds.length) (hd : ds[ds.length - 1 - i]? = some d) (h0 : 0 ≤ d) (h1 : d < B) :
    DivInv B b ds (i + 1) ((r * B + d) % b) (qs ++ [(r * B + d) / b]) where
  r0 := Int.emod_nonneg _ (by omega)
  r1 := Int.emod_lt_of_pos _ hb
  len := by rw [List.length_append, h.len]; rfl
  dig := fun q hq => by
    rcases List.mem_append.mp hq with hq | hq
    · exact h.dig q hq
    · rw [List.mem_singleton.mp hq]
      have h2 : 0 ≤ r * B := Int.mul_nonneg h.r0 (by omega)
      have h3 : r * B ≤ (b - 1) * B := Int.mul_le_mul_of_nonneg_right (by have := h.r1; omega) (by omega)
      rw [Int.sub_mul, Int.one_mul] at h3
      refine ⟨Int.ediv_nonneg (by omega) (by omega), Int.ediv_lt_of_lt_mul hb ?_⟩
      rw [Int.mul_comm B b]; omega
  eq := by
    have e1 : ds.length - (i + 1) = ds.length - 1 - i := by omega
    have e2 : ds.length - 1 - i < ds.length := by omega
    have e3 : ds[ds.length - 1 - i] = d := by
      rw [List.getElem?_eq_getElem e2] at hd; exact Option.some.inj hd
    rw [e1, List.drop_eq_getElem_cons e2, e3, show ds.length - 1 - i + 1 = ds.length - i by omega, d2i, h.eq, List.reverse_append, List.reverse_singleton, List.singleton_append, d2i]
    have e4 := Int.mul_ediv_add_emod (r * B + d) b
    have e5 : B * (b * d2i B qs.reverse + r) = b * (B * d2i B qs.reverse) + r * B := by
      rw [Int.mul_add, ← Int.mul_assoc, ← Int.mul_assoc, Int.mul_comm B b, Int.mul_comm B r]
    rw [e5, Int.mul_add]
    omega
theorem DivInv.done {B b r : Int} {ds qs : List Int} {i : Nat} (h : DivInv B b ds i r qs) (hb : 0 < b) (hi : i = ds.length) : d2i B qs.reverse = d2i B ds / b ∧ r = d2i B ds % b := by
  subst hi
  have e := h.eq
  rw [Nat.sub_self, List.drop_zero] at e
  have h0 := h.r0
  have h1 := h.r1
  rw [e]
  constructor
  · rw [Int.mul_add_ediv_left _ _ (by omega), Int.ediv_eq_zero_of_lt h0 h1]; omega
  · rw [Int.mul_add_emod_self_left, Int.emod_eq_of_lt h0 h1]
theorem bits_lt {b : Int} (hb : 0 < b) : b < 2 ^ ((Builtin.Int.intBits b : Int)).toNat := by
  have h3 : b.natAbs < 2 ^ (Builtin.Int.intBits b) := PySem.intBits_le_iff.mp (Nat.le_refl _)
  have e : (2 : Int) ^ ((Builtin.Int.intBits b : Int)).toNat = ((2 ^ (Builtin.Int.intBits b) : Nat) : Int) := by simp
  rw [e]; omega
theorem lt_2000 {b : Int} (hb : 0 < b) (h : Builtin.Int.intBits b ≤ 100) : b < 2 ^ 2000 := Int.lt_of_lt_of_le (bits_lt hb) (pow2_le (by omega))
theorem bits_rd {r d : Int} {n : Nat} (hn : n ≤ 100) (h0 : 0 ≤ r) (h1 : r < 2 ^ ((n : Int)).toNat) (h2 : 0 ≤ d) (h3 : d < 2 ^ ((n : Int)).toNat) : (Builtin.Int.intBits (r * 2 ^ ((n : Int)).toNat + d) : Int) - (n : Int) ≤ 4000 := by
  have hP : (0 : Int) < 2 ^ ((n : Int)).toNat := Int.pow_pos (by decide)
  have h4 : 0 ≤ r * 2 ^ ((n : Int)).toNat := Int.mul_nonneg h0 (by omega)
  have h5 : r * 2 ^ ((n : Int)).toNat ≤ (2 ^ ((n : Int)).toNat - 1) * 2 ^ ((n : Int)).toNat := Int.mul_le_mul_of_nonneg_right (by omega) (by omega)
  rw [Int.sub_mul, Int.one_mul, ← Int.pow_add] at h5
  have h6 : (2 : Int) ^ (((n : Int)).toNat + ((n : Int)).toNat) ≤ 2 ^ 2000 := pow2_le (by omega)
  have := bits_small (x := r * 2 ^ ((n : Int)).toNat + d) (by omega) (by omega)
  omega
theorem digs_len_le {n x : Int} {vs : List Value} (hx : 0 ≤ x) (hn : 0 < n) (hb : (Builtin.Int.intBits x : Int) ≤ 16 * n) (h : IntsAre vs (digs (2 ^ n.toNat) (nd n x).toNat x)) : vs.length ≤ 16 := by
  have := nd_facts hx hn hb
  rw [h.length, digs_length]; omega
theorem pickT {h₀ h : Heap} {L D : Addr} {x2 x3 : Addr × Obj} {rest : List (Addr × Obj)} {d q r : Int} {t1 t2 : Tok} (e : d = q) (N : News h₀ L h ((D, tupOf [.int d t1, .int r t2]) :: x2 :: x3 :: rest)) : News h₀ L h ((D, tupOf [.int q t1, .int r t2]) :: rest) := by
  subst e
  exact fun q hq => N q (by
    simp only [List.mem_cons] at hq ⊢
    rcases hq with h | h <;> simp only [h, true_or, or_true])
theorem lt_all_trans {l : List (Addr × Obj)} {d c : Addr} (h : AllLt d l) (h' : d < c) : ∀ p ∈ l, p.1 < c := fun p hp => Nat.lt_trans (lt_all_of_lt h p hp) h'
theorem drop2nd {h₀ h : Heap} {L : Addr} {x1 x2 : Addr × Obj} {rest : List (Addr × Obj)} (N : News h₀ L h (x1 :: x2 :: rest)) : News h₀ L h (x1 :: rest) := News.sub N (sub_cons (.head _) (sub_tail (sub_tail (fun _ h => h))))
section
variable {prog : Program} {w : World} {A : Around} {s : Shared} {env : Env} {h₀ : Heap}
/-- a loop over what `it` hands out, its target a name of any kind -/
def LoopN (prog : Program) (w : World) (A : Around) (env : Env) (x : Str) (body : List Stmt) (Q : Flow → Shared → Prop) (E : Value → Shared → Prop) (it : Value) (s₂ : Shared) : Prop :=
  ∃ (n : Nat) (J : Nat → Shared → Prop), J 0 s₂ ∧
    (∀ i s', i < n → J i s' → wpAny (model prog w) A (pyNext it) (fun r s₁ => ∃ v, r = some v ∧ wpAny (model prog w) A (storeName env x v) (fun _ s₂ => wpAny (model prog w) A (execs body env)
      (fun f s₃ => match f with | .ret v => Q (.ret v) s₃ | .brk => Q .next s₃ | _ => J (i + 1) s₃) E s₂) E s₁) E s') ∧
    ∀ s', J n s' → wpAny (model prog w) A (pyNext it) (fun r s₁ => r = none ∧ Q .next s₁) E s'
theorem for_name {E : Value → Shared → Prop} {Q : Flow → Shared → Prop} {x : Str} {px pos : Pos} {iter : Expr} {body : List Stmt}
    (h : wpAny (model prog w) A (eval iter env) (fun xv s₁ => wpAny (model prog w) A (pyIter xv) (fun it s₂ => LoopN prog w A env x body Q E it s₂) E s₁) E s)
    (hs : ∀ x, foldedSetIterable iter env x = pure x := by intro _; rfl)
    (hE : PassesOwn (model prog w) A env E := by passes_own) :
    wpAny (model prog w) A (exec (.For (.Name x px) iter body [] pos) env) Q E s := by
  refine wpAny_For (wpAny_mono h (fun xv s₁ h₁ => wpAny_mono h₁ (fun it s₂ h₂ => ?_) fun _ _ e => e) fun _ _ e => e) hs
  obtain ⟨n, J, h0, turn, done⟩ := h₂
  refine codeAny_forLoop (fun k s' => ∃ i, i ≤ n ∧ k = n - i ∧ J i s') ?_ n ⟨0, Nat.zero_le _, by omega, h0⟩ (by intro _; rfl)
  rintro k s' ⟨i, hi, rfl, hJ⟩
  by_cases hlt : i < n
  · refine wpAny_mono (turn i s' hlt hJ) (fun r s₁ hr => ?_) hE
    obtain ⟨v, rfl, hr⟩ := hr
    refine wpAny_assign_Name (wpAny_mono hr (fun _ s₂ hb => ?_) hE)
    refine wpAny_mono hb (fun f s₃ hf => ?_) hE
    cases f with
    | ret v => exact hf
    | brk => exact hf
    | next => exact ⟨n - (i + 1), by omega, i + 1, hlt, rfl, hf⟩
    | cont => exact ⟨n - (i + 1), by omega, i + 1, hlt, rfl, hf⟩
  · have : i = n := by omega
    subst this
    refine wpAny_mono (done s' hJ) (fun r s₁ hr => ?_) hE
    obtain ⟨rfl, hq⟩ := hr
    exact wpAny_execs_nil hq

theorem loop_gen {E : Value → Shared → Prop} {Q : Flow → Shared → Prop} {x : Str} {body : List Stmt} {I : Addr} {keep : List (Addr × Obj)} {n : Nat} {P : Nat → Value → Prop} {St : Nat → Heap → Prop} {m₀ : Str → Option Value} {news : List (Addr × Obj)} {it₀ : Obj}
    (W : Walks prog w A I (I :: keep.map (·.1)) [I] n P St) (hSt : ∀ i h, St i h → ∃ o, h.get? I = some o) (J : Nat → (Str → Option Value) → List (Addr × Obj) → Prop)
    (hst : St 0 s.heap) (F : Fr h₀ env.locals s.heap m₀) (N : News h₀ env.locals s.heap ((I, it₀) :: news)) (hoff : ∀ p ∈ news, p.1 ≠ I) (hkeep : ∀ p ∈ keep, p ∈ news) (h0 : J 0 m₀ news)
    (turn : ∀ i v m₁ news₁ it h tk, i < n → P i v → J i m₁ news₁ → (∀ p ∈ keep, p ∈ news₁) → (∀ p ∈ news₁, p.1 ≠ I) → St (i + 1) h → Fr h₀ env.locals h m₁ → News h₀ env.locals h ((I, it) :: news₁) →
      wpAny (model prog w) A (storeName env x v) (fun _ s₂ => wpAny (model prog w) A (execs body env) (UnrPost h₀ env.locals s I it (fun m' n' => (∀ p ∈ keep, p ∈ n') ∧ J (i + 1) m' n') Q) E s₂) E { s with heap := h, toks := tk })
    (done : ∀ m₁ news₁ h tk, J n m₁ news₁ → Fr h₀ env.locals h m₁ → News h₀ env.locals h news₁ → Q .next { s with heap := h, toks := tk }) :
    LoopN prog w A env x body Q E (.ref I) s := by
  have hI := N (I, it₀) (.head _)
  refine ⟨n, fun i s' => ∃ h tk m₁ news₁ it, s' = { s with heap := h, toks := tk } ∧ St i h ∧ Fr h₀ env.locals h m₁ ∧ News h₀ env.locals h ((I, it) :: news₁) ∧ (∀ p ∈ news₁, p.1 ≠ I) ∧ (∀ p ∈ keep, p ∈ news₁) ∧ J i m₁ news₁,
    ⟨s.heap, s.toks, m₀, news, it₀, rfl, hst, F, N, hoff, hkeep, h0⟩, ?_, ?_⟩
  · rintro i s' hi ⟨h, tk, m₁, news₁, it, rfl, hst₁, F₁, N₁, off₁, keep₁, hJ⟩
    refine W.item i _ _ _ hi hst₁ fun v h' tk' hP hst' hk => ⟨v, rfl, ?_⟩
    obtain ⟨it', hit'⟩ := hSt _ _ hst'
    have keepH : ∀ b o, h₀.get? b = some o → h'.get? b = some o := fun b o e => hk b o (fun q => by rw [List.mem_singleton.mp q, hI.2.2] at e; cases e) (F₁.keep b o e)
    have F' : Fr h₀ env.locals h' m₁ := ⟨F₁.ns.at' fun o e => hk _ o (fun q => hI.2.1 (List.mem_singleton.mp q).symm) e, keepH, F₁.above⟩
    have N' : News h₀ env.locals h' ((I, it') :: news₁) := fun p hp => by
      rcases List.mem_cons.mp hp with rfl | hp
      · exact ⟨hit', hI.2⟩
      · exact ⟨hk _ _ (fun q => off₁ p hp (List.mem_singleton.mp q)) (N₁ p (.tail _ hp)).1, (N₁ p (.tail _ hp)).2⟩
    refine wpAny_mono (turn i v m₁ news₁ it' h' tk' hi hP hJ keep₁ off₁ hst' F' N') (fun _ s₂ hb => wpAny_mono hb (fun f s₃ hf => ?_) fun _ _ e => e) fun _ _ e => e
    have fin : UnrEnd h₀ env.locals s I it' (fun m' n' => (∀ p ∈ keep, p ∈ n') ∧ J (i + 1) m' n') s₃ → ∃ h tk m₁ news₁ it, s₃ = { s with heap := h, toks := tk } ∧ St (i + 1) h ∧ Fr h₀ env.locals h m₁ ∧ News h₀ env.locals h ((I, it) :: news₁) ∧ (∀ p ∈ news₁, p.1 ≠ I) ∧ (∀ p ∈ keep, p ∈ news₁) ∧ J (i + 1) m₁ news₁ := by
      rintro ⟨h₂, tk₂, m₂, news₂, rfl, F₂, N₂, off₂, keep₂, hJ₂⟩
      refine ⟨h₂, tk₂, m₂, news₂, it', rfl, W.frame _ _ _ hst' (fun b hb o e => ?_), F₂, N₂, off₂, keep₂, hJ₂⟩
      rcases List.mem_cons.mp hb with rfl | hb
      · rw [hit'] at e; cases e; exact (N₂ _ (.head _)).1
      · obtain ⟨p, hp, rfl⟩ := List.mem_map.mp hb
        rw [(N' p (.tail _ (keep₁ p hp))).1] at e; cases e
        exact (N₂ p (.tail _ (keep₂ p hp))).1
    cases f with
    | ret v => exact hf
    | brk => exact hf
    | next => exact fin hf
    | cont => exact fin hf
  · rintro s' ⟨h, tk, m₁, news₁, it, rfl, hst₁, F₁, N₁, off₁, keep₁, hJ⟩
    refine W.done _ _ _ hst₁ fun h' tk' hk => ⟨rfl, ?_⟩
    refine done m₁ news₁ h' tk' hJ ⟨F₁.ns.at' fun o e => hk _ o (fun q => hI.2.1 (List.mem_singleton.mp q).symm) e, fun b o e => hk b o (fun q => by rw [List.mem_singleton.mp q, hI.2.2] at e; cases e) (F₁.keep b o e), F₁.above⟩ fun p hp => ?_
    exact ⟨hk _ _ (fun q => off₁ p hp (List.mem_singleton.mp q)) (N₁ p (.tail _ hp)).1, (N₁ p (.tail _ hp)).2⟩

theorem rev_loop {E : Value → Shared → Prop} {Q : Flow → Shared → Prop} {x : Str} {body : List Stmt} {ax I : Addr} {vs : List Value} {k : Nat} {m₀ : Str → Option Value} {news : List (Addr × Obj)} (J : Nat → (Str → Option Value) → List (Addr × Obj) → Prop)
    (hh : A.handled = none) (F : Fr h₀ env.locals s.heap m₀) (N : News h₀ env.locals s.heap ((I, revObj ax ((vs.length : Int) - 1)) :: news)) (hoff : ∀ p ∈ news, p.1 ≠ I) (hm : (ax, listOf vs.toArray k) ∈ news) (h0 : J 0 m₀ news)
    (turn : ∀ i v m₁ news₁ it h tk, i < vs.length → vs[vs.length - 1 - i]? = some v → J i m₁ news₁ → (∀ p ∈ [(ax, listOf vs.toArray k)], p ∈ news₁) → (∀ p ∈ news₁, p.1 ≠ I) → Fr h₀ env.locals h m₁ → News h₀ env.locals h ((I, it) :: news₁) →
      wpAny (model prog w) A (storeName env x v) (fun _ s₂ => wpAny (model prog w) A (execs body env) (UnrPost h₀ env.locals s I it (fun m' n' => (∀ p ∈ [(ax, listOf vs.toArray k)], p ∈ n') ∧ J (i + 1) m' n') Q) E s₂) E { s with heap := h, toks := tk })
    (done : ∀ m₁ news₁ h tk, J vs.length m₁ news₁ → Fr h₀ env.locals h m₁ → News h₀ env.locals h news₁ → Q .next { s with heap := h, toks := tk }) :
    wpAny (model prog w) A (pyIter (.ref I)) (fun it s₂ => LoopN prog w A env x body Q E it s₂) E s := by
  have hIx := N _ (.head _)
  have hl : s.heap.IsList ax vs.toArray := News.isList N (.tail _ hm)
  have hne : ax ≠ I := hoff _ hm
  have hit : s.heap.IsRevIter I ax ((vs.length : Int) - 1) := ⟨_, hIx.1, rfl, rfl⟩
  refine wpAny_pyIter_revIter hit ?_
  have W := Walks.listRev (prog := prog) (w := w) hh I ax hne vs.toArray
  have hlen : vs.toArray.size = vs.length := by simp
  rw [hlen] at W
  refine loop_gen (keep := [(ax, listOf vs.toArray k)]) (P := fun i v => vs[vs.length - 1 - i]? = some v) ?_ ?_ J (St := fun i h => i ≤ vs.length ∧ h.IsRevIter I ax ((vs.length : Int) - 1 - (i : Int)) ∧ h.IsList ax vs.toArray) ⟨Nat.zero_le _, by simpa using hit, hl⟩ F N hoff (by simpa using hm) h0
    (fun i v m₁ news₁ it h tk hi hP hJ hk ho _ F' N' => turn i v m₁ news₁ it h tk hi hP hJ hk ho F' N') done
  · simpa using W
  · rintro i h ⟨_, ⟨o, ho, _⟩, _⟩
    exact ⟨o, ho⟩
theorem range_loop {E : Value → Shared → Prop} {Q : Flow → Shared → Prop} {x : Str} {body : List Stmt} {r : Addr} {a₀ b₀ : Int} {t₀ u₀ v₀ : Tok} {n : Nat} {m₀ : Str → Option Value} {news : List (Addr × Obj)} (J : Nat → (Str → Option Value) → List (Addr × Obj) → Prop)
    (hh : A.handled = none) (hr : IsRange s.heap r a₀ b₀ 1 t₀ u₀ v₀) (hsmall : Builtin.Range.small a₀ b₀ 1 = true) (hn : Builtin.Range.rangeSize a₀ b₀ 1 = (n : Int)) (F : Fr h₀ env.locals s.heap m₀) (N : News h₀ env.locals s.heap news) (h0 : J 0 m₀ news)
    (turn : ∀ I i t m₁ news₁ it h tk, i < n → (∀ p ∈ news, p.1 < I) → J i m₁ news₁ → (∀ p ∈ news₁, p.1 ≠ I) → Fr h₀ env.locals h m₁ → News h₀ env.locals h ((I, it) :: news₁) →
      wpAny (model prog w) A (storeName env x (.int (a₀ + (i : Int)) t)) (fun _ s₂ => wpAny (model prog w) A (execs body env) (UnrPost h₀ env.locals s I it (fun m' n' => (∀ p ∈ ([] : List (Addr × Obj)), p ∈ n') ∧ J (i + 1) m' n') Q) E s₂) E { s with heap := h, toks := tk })
    (done : ∀ m₁ news₁ h tk, J n m₁ news₁ → Fr h₀ env.locals h m₁ → News h₀ env.locals h news₁ → Q .next { s with heap := h, toks := tk }) :
    wpAny (model prog w) A (pyIter (.ref r)) (fun it s₂ => LoopN prog w A env x body Q E it s₂) E s := by
  refine wpAny_pyIter_range hr hsmall ?_
  have W := Walks.range (prog := prog) (w := w) hh s.heap.objs.size a₀ 1 n
  have lt : ∀ p ∈ news, p.1 < s.heap.objs.size := fun p hp => Heap.lt_size (N p hp).1
  let s' : Shared := { s with heap := s.heap.push { cls := .type "range_iterator", data := .fields #[rawInt a₀, rawInt (Builtin.Range.rangeSize a₀ b₀ 1), rawInt 1] } }
  have F' : Fr h₀ env.locals s'.heap m₀ := F.push _
  have N' : News h₀ env.locals s'.heap ((s.heap.objs.size, { cls := .type "range_iterator", data := .fields #[rawInt a₀, rawInt (Builtin.Range.rangeSize a₀ b₀ 1), rawInt 1] }) :: news) := News.push F N _
  refine loop_gen (s := s') (keep := []) (P := fun i v => ∃ t, v = .int (a₀ + i * 1) t) (St := fun i h => IsRangeIter h s.heap.objs.size (a₀ + (i : Nat) * 1) ((n : Int) - (i : Nat)) 1) W ?_ J ?_ F' N' (fun p hp => Nat.ne_of_lt (lt p hp)) (fun _ h => nomatch h) h0 ?_ done
  · intro i h hs
    exact ⟨_, hs⟩
  · show IsRangeIter (s.heap.push { cls := .type "range_iterator", data := .fields #[rawInt a₀, rawInt (Builtin.Range.rangeSize a₀ b₀ 1), rawInt 1] }) _ _ _ _
    rw [hn]
    simpa using Heap.get?_push_size _ rfl
  · rintro i v m₁ news₁ it h tk hi ⟨t, rfl⟩ hJ _ ho _ F₁ N₁
    have e1 : a₀ + (i : Int) * 1 = a₀ + (i : Int) := by rw [Int.mul_one]
    rw [e1]
    exact turn _ i t m₁ news₁ it h tk hi lt hJ ho F₁ N₁
end
theorem unr_drop {h₀ : Heap} {L I : Addr} {it : Obj} {rest : (Str → Option Value) → List (Addr × Obj) → Prop} {s₁ : Shared} {h' : Heap} {tk : Nat} {m' : Str → Option Value} {all news' : List (Addr × Obj)} (k : Nat) (F : Fr h₀ L h' m') (N : News h₀ L h' all) (e : all.drop k = (I, it) :: news')
    (off : ∀ p ∈ news', p.1 ≠ I) (r : rest m' news') : UnrEnd h₀ L s₁ I it rest { s₁ with heap := h', toks := tk } :=
  UnrEnd.intro F N news' (fun p hp => List.mem_of_mem_drop (e ▸ hp)) off r
theorem fill_top : PySem.Challenge.rw_pe0112_01 = PySem.Challenge.rw_pe0112_01 ∧ hd.heap_39 = hd.heap_39 := by
  k_fill
  exact ⟨rfl, rfl⟩
set_option maxRecDepth 100000
set_option maxHeartbeats 4000000
local macro_rules | `(tactic| k_all) => `(tactic| first | exact List.forall_mem_nil _ | (refine' List.forall_mem_cons.mpr ⟨?a, ?b⟩; (case a => k_ne); (case b => k_all)) | assumption | exact ne_all_of_lt (by assumption) | exact ne_all_1 (by assumption) | exact ne_all_2 (by assumption) | exact ne_all_3 (by assumption) | exact ne_all_4 (by assumption))
local macro_rules | `(tactic| k_lt $h:ident) => `(tactic| (replace $h := allLt_of $h; (try simp only [AllLt, and_true] at $h:ident); repeat (have hk9 := And.left $h; replace $h := And.right $h)))
local macro_rules | `(tactic| k_mem) => `(tactic| first | exact List.Mem.head _ | (refine' List.Mem.tail _ ?_; k_mem) | assumption)
local macro_rules | `(tactic| is_list) => `(tactic| exact News.isList (by assumption) (by k_mem))
local macro_rules | `(tactic| walk_at "binaryOp RShift int int") => `(tactic| (k_here; (with_reducible show wpAny _ _ (binaryOp Operator.RShift (Value.int _ _) (Value.int 1 _)) _ _ _); k_dflt (refine' rshift_half ?_; k_whole); intro mid' hmA' hmB'))
local macro_rules | `(tactic| walk_at "binaryOp LShift int int") => `(tactic| (k_here; k_extra "lshift"))
local macro_rules | `(tactic| walk_at "binaryOp RShift int int") => `(tactic| (k_here; k_extra "rshift"))
local macro_rules | `(tactic| walk_at "binaryOp BitXor int int") => `(tactic| (k_here; k_extra "xor"))
local macro_rules | `(tactic| walk_at "binaryOp Mult ref int") => `(tactic| (k_here; (with_reducible show wpAny _ _ (binaryOp Operator.Mult (Value.ref _) (Value.int _ _)) _ _ _); k_dflt (refine' rep_int ?k1 ?k2 ?k3 ?k4 ?k5 ?_; (case k1 => k_asm); (case k2 => k_asm); (case k3 => k_mem); (case k4 => first | assumption | omega); (case k5 => first | assumption | omega); k_whole); intro l' vs' h' hI' F' N' l1; (try k_lt l1); (try k_sweep)))
local macro_rules | `(tactic| walk_at "call builtin:len") => `(tactic| (k_here; (with_reducible show wpAny _ _ (call (Value.builtin "len") [Value.ref _]) _ _ _); k_dflt (refine' len_intsM ?k1 ?k2 ?k3 ?k4 ?_; (case k1 => k_asm); (case k2 => k_mem); (case k3 => l_ints); (case k4 => first | omega | (simp only [List.length_replicate]; omega)); k_whole)))
local macro_rules | `(tactic| walk_at "call ref") => `(tactic| (k_here; k_extra "callx"))
local macro_rules | `(tactic| walk_at "call builtin:divmod") => `(tactic| (k_here; (with_reducible show wpAny _ _ (call (Value.builtin _) [Value.int _ _, Value.int _ _]) _ _ _); k_dflt (refine' div_own ?k1 ?k2 ?k3 ?k4 ?_; (case k1 => k_asm); (case k2 => k_asm); (case k3 => assumption); (case k4 => assumption); k_whole); intro l' t1' t2' h' tk' F' N' l1; (try k_lt l1); (try k_sweep)))
local macro_rules | `(tactic| walk_at "exec For Name Call cons nil") => `(tactic| (k_here; k_dflt (refine' for_name ?_ ?hs ?hE; (case hs => (intro _; rfl)); (case hE => first | assumption | passes_own); k_whole)))
local macro_rules | `(tactic| ktr_rel) => `(tactic| first | assumption | omega | k_extra "side")
local macro_rules | `(tactic| walk_at "eval Name") => `(tactic| (k_here; k_dflt (refine' nameX_H ?F ?hv ?e ?_ ?a ?b; (case a => rfl); (case b => rfl); (case F => k_asm); (case hv => with_reducible assumption); (case e => rfl); k_whole)))
local macro_rules | `(tactic| walk_at "call builtin:list.append") => `(tactic| (k_here; (with_reducible show wpAny _ _ (call (Value.builtin _) [Value.ref _, _]) _ _ _); k_dflt (refine' append_own ?k1 ?k2 ?k3 ?z ?_; (case k1 => k_asm); (case k2 => k_asm); (case k3 => k_upd); (case z => ktr_rel); k_whole); intro h' F' N'; (try k_sweep)))
local macro_rules | `(tactic| walk_at "call builtin:list.reverse") => `(tactic| (k_here; (with_reducible show wpAny _ _ (call (Value.builtin _) [Value.ref _]) _ _ _); k_dflt (refine' reverse_own ?k1 ?k2 ?k3 ?z ?_; (case k1 => k_asm); (case k2 => k_asm); (case k3 => k_upd); (case z => ktr_rel); k_whole); intro h' F' N'; (try k_sweep)))
local macro_rules | `(tactic| k_subL) => `(tactic| first | exact sub_nil | exact fun _ h => h | (refine' sub_cons ?a ?b; (case a => k_mem); (case b => k_subL)) | (refine' sub_tail ?c; (case c => k_subL)))
section
variable {w : World} {p : Program} {loose : List Str} {mean : ExcName → Option Value} {mg mb : Str → Option Value}
    {dp un : Nat} {gd : Option (List Code)} {cn : Str} {cs : Scope} {a : Addr} {ccd : Value} {cl : List (Str × Addr)} {outer : List Env} {A₀ : Around} {base h₀ : Heap} {L : Addr} {m : Str → Option Value} {news rest : List (Addr × Obj)} {s : Shared} {Q E : Value → Shared → Prop}
theorem rst_D2I : True := by
  w_top off
  trivial
theorem inner_d {f c cI cD cN l : Addr} {oc oI oD oN : Obj} {vs : List Value} {fs : Array Value} {ds : List Int} {k : Nat} {n : Int} {tn tq : Tok} {qual : Str} {doc pm ctv : Value}
    (hoc : oc.data = .fields fs) (hfs : fs[1]? = some (.str qual tq)) (hoI : oI.data = .cell (some (.ref f))) (hoD : oD.data = .cell (some (.ref l))) (hoN : oN.data = .cell (some (.int n tn)))
    (hi : IntsAre vs ds) (hlen : ds.length ≤ 16) (hn0 : 0 < n) (hn1 : n ≤ 100) (hb : ∀ lo hi, Builtin.Int.intBits (d2i (2 ^ n.toNat) (seg ds lo hi)) ≤ 3000) :
    ∀ (z : Nat) (lo hi : Int) (t1 t2 : Tok), hi - lo ≤ z → lo < hi → 0 ≤ lo → hi ≤ ds.length →
    ∀ {dp un : Nat} {gd : Option (List Code)} {cn : Str} {cs : Scope} {a : Addr} {ccd : Value} {cl : List (Str × Addr)} {outer : List Env} {A₀ : Around} {h₀ : Heap} {L : Addr} {m : Str → Option Value} {news : List (Addr × Obj)} {s : Shared} {Q E : Value → Shared → Prop},
    Below A₀ base outer h₀ → Fr h₀ L s.heap m → (Mine.hd.heap_39 w.params).In h₀ → News h₀ L s.heap news → Top p loose mean mg mb h₀ → cs.kind = .function →
    CodeHd base 62 58 →
    (f, fnMade (Str.ofString "inner") qual (fdArgs inD) (fdBody inD) (fdScope inD) [(Str.ofString "n", cN), (Str.ofString "inner", cI), (Str.ofString "digits", cD)] doc pm c ctv) ∈ news → (c, oc) ∈ news → (cI, oI) ∈ news → (cD, oD) ∈ news → (cN, oN) ∈ news → (l, listOf vs.toArray k) ∈ news →
    dp + z + 3 < recursionLimit → un + 8 * (z + 3) < cLine →
    (∀ t' h' tk', Fr h₀ L h' m → News h₀ L h' news → Q (.int (d2i (2 ^ n.toNat) (seg ds lo hi)) t') {s with heap := h', toks := tk'}) →
    wpAny (model PR w) (ktrTop dp un gd cn cs L a ccd cl outer) (call (.ref f) [.int lo t1, .int hi t2]) Q E s := by
  conv in (fdBody inD) => whnf
  conv in (fdArgs inD) => whnf
  conv in (fdScope inD) => whnf
  intro z
  induction z with
  | zero => intros; exfalso; omega
  | succ z ih =>
  intro lo hi t1 t2 hz hlt hlo hhi dp un gd cn cs a ccd cl outer A₀ h₀ L m news s Q E B F X N T hk C hf hc hcI hcD hcN hl hd hu ret
  k_with_none
  k_with "lshift" => (k_dflt (refine' lshift_int ?z1 ?z2 ?_; (case z1 => exact Int.mul_nonneg (by omega) (by omega)); (case z2 => exact shl_fits (Nat.le_trans (hb _ _) (by decide)) (mul_small (by omega) (by omega) (by omega)))))
  k_with "callx" => (k_dflt (refine' ih _ _ _ _ ?z1 ?z2 ?z3 ?z4 ?k1 ?k2 ?k3 ?k4 ?k5 ?kk ?kC ?kf ?kc ?kI ?kD ?kN ?kl ?kd ?ku ?_; (case z1 => omega); (case z2 => omega); (case z3 => omega); (case z4 => omega); (case k1 => k_asm); (case k2 => k_asm); (case k3 => k_asm); (case k4 => k_asm); (case k5 => k_asm); (case kk => first | exact rfl | assumption); (case kC => assumption); (case kf => assumption); (case kc => assumption); (case kI => assumption); (case kD => assumption); (case kN => assumption); (case kl => assumption); (case kd => ktr_room); (case ku => ktr_units)); intro t9 h9 tk9 F9 N9; (try dsimp only); (try k_fold))
  refine wpAny_call ?_
  k_dflt (refine' code_nest ?k1 ?k2 ?k3 ?k4 ?k5 ?kA ?kF ?kK ?k6 ?k7 ?k8 ?k9 ?kB ?_ ?c2 ?c3 ?c4 ?c5; (case kA => exact rfl); (case kF => exact rfl); (case kK => assumption); (case k1 => k_asm); (case k2 => k_asm); (case k3 => k_asm); (case k4 => k_asm); (case k5 => k_asm); (case k6 => k_mem); (case k7 => exact codeRec_news (by k_asm) (by k_mem) (by assumption) (by assumption)); (case k8 => ktr_room); (case k9 => exact BindsTo.of_eq rfl); (case c5 => decide); (case kB => exact locs rfl); (case c2 => exact rfl); (case c3 => exact rfl); (case c4 => exact rfl); k_whole; intro g' L' h' FG' F' N' B' X' T'; (try dsimp only); (try k_lift B'); (try k_fold))
  k_steps
  · rw [seg_one (B := 2 ^ n.toNat) (by assumption) (by assumption) (by assumption)]
    exact ret _ _ _ (by k_asm) (by k_asm)
  · rw [seg_split (by omega) (by omega) (by omega) (by omega) (by omega)]
    exact ret _ _ _ (by k_asm) (by k_asm)
theorem d2i_fresh
    (B : Below A₀ base outer h₀) (F : Fr h₀ L s.heap m) (X : (Mine.hd.heap_39 w.params).In h₀) (N : News h₀ L s.heap ((58, tabObj #[]) :: rest)) (T : Top p loose mean mg mb h₀) (hk : cs.kind = .function)
    (hd : dp + 25 < recursionLimit) (hu : un + 200 < cLine) (C : CodeHd base 62 58) (hP : ∀ p ∈ rest, p.1 ≠ 58)
    {l : Addr} {vs : List Value} {ds : List Int} {k : Nat} {n : Int} {t : Tok} (hl : (l, listOf vs.toArray k) ∈ rest) (hi : IntsAre vs ds) (hlen : ds.length ≤ 16) (hn0 : 0 < n) (hn1 : n ≤ 100) (hds : ∀ d ∈ ds, 0 ≤ d ∧ d < 2 ^ n.toNat)
    (ret : ∀ c oc t' h' tk', GD oc → (∀ q ∈ rest, q.1 < c) → 58 < c → Fr h₀ L h' m → News h₀ L h' ((58, tabD c) :: (c, oc) :: rest) → Q (.int (d2i (2 ^ n.toNat) ds) t') {s with heap := h', toks := tk'}) :
    wpAny (model PR w) (ktrTop dp un gd cn cs L a ccd cl outer) (call (.ref 63) [.ref l, .int n t]) Q E s := by
  k_with_none
  k_with "callx" => (k_dflt (refine' inner_d ?o1 ?o2 ?o3 ?o4 ?o5 ?o6 ?o7 ?o8 ?o9 ?o10 16 _ _ _ _ ?z1 ?z2 ?z3 ?z4 ?k1 ?k2 ?k3 ?k4 ?k5 ?kk ?kC ?kf ?kc ?kI ?kD ?kN ?kl ?kd ?ku ?_; (case k1 => k_asm); (case k2 => k_asm); (case k3 => k_asm); (case k4 => k_asm); (case k5 => k_asm); (case kk => first | exact rfl | assumption); (case kC => assumption); (case kf => k_mem); (case kc => k_mem); (case kI => k_mem); (case kD => k_mem); (case kN => k_mem); (case o1 => assumption); (case o2 => assumption); (case o3 => assumption); (case o4 => assumption); (case o5 => assumption); (case kl => k_mem); (case o6 => assumption); (case o7 => assumption); (case o8 => assumption); (case o9 => assumption); (case o10 => exact seg_bits (by assumption) (by assumption) (by assumption) (by assumption)); (case z1 => omega); (case z2 => omega); (case z3 => omega); (case z4 => omega); (case kd => ktr_room); (case ku => ktr_units)); intro t9 h9 tk9 F9 N9; (try dsimp only); (try k_fold))
  refine wpAny_call ?_
  k_dflt (refine' code_defC ?k1 ?k2 ?k3 ?k4 ?k5 ?kA ?kF ?kK ?k6 ?k7 ?k8 ?k9 ?kB ?kD ?_ ?c2 ?c3 ?c4; (case kA => exact rfl); (case kF => exact rfl); (case kK => assumption); (case k1 => k_asm); (case k2 => k_asm); (case k3 => k_asm); (case k4 => k_asm); (case k5 => k_asm); (case k6 => k_is); (case k7 => k_is); (case k8 => ktr_room); (case k9 => exact BindsTo.of_eq rfl); (case kB => exact rfl); (case kD => decide +kernel); (case c2 => exact rfl); (case c3 => exact rfl); (case c4 => exact rfl); k_whole; intro g' L' h' tk' cells' FG' F' N' Y' B' X' T' l1; (try k_lt l1); k_cells Y'; (try simp only [List.cons_append, List.nil_append] at N'); (try dsimp only); (try k_lift B'); (try k_fold))
  k_steps
  · rw [seg_all]
    refine' ret _ _ _ _ _ ?a ?c ?d ?e ?f
    case f => exact pickD (by k_asm)
    case a => exact ⟨_, _, by assumption, by assumption⟩
    case c => exact lt_all_of_lt (by assumption)
    case d => assumption
    case e => k_asm
  · have e0 : ds = [] := List.length_eq_zero_iff.mp (by omega)
    subst e0
    refine' ret _ _ _ _ _ ?a ?c ?d ?e ?f
    case f => exact pickD (by k_asm)
    case a => exact ⟨_, _, by assumption, by assumption⟩
    case c => exact lt_all_of_lt (by assumption)
    case d => assumption
    case e => k_asm
theorem d2i_grown
    (B : Below A₀ base outer h₀) (F : Fr h₀ L s.heap m) (X : (Mine.hd.heap_39 w.params).In h₀) (N : News h₀ L s.heap news) (T : Top p loose mean mg mb h₀) (hk : cs.kind = .function)
    (hd : dp + 25 < recursionLimit) (hu : un + 200 < cLine) (C : CodeHd base 62 58) {c : Addr} {oc : Obj} (h58 : (58, tabD c) ∈ news) (hc : (c, oc) ∈ news) (hG : GD oc)
    {l : Addr} {vs : List Value} {ds : List Int} {k : Nat} {n : Int} {t : Tok} (hl : (l, listOf vs.toArray k) ∈ news) (hi : IntsAre vs ds) (hlen : ds.length ≤ 16) (hn0 : 0 < n) (hn1 : n ≤ 100) (hds : ∀ d ∈ ds, 0 ≤ d ∧ d < 2 ^ n.toNat)
    (ret : ∀ t' h' tk', Fr h₀ L h' m → News h₀ L h' news → Q (.int (d2i (2 ^ n.toNat) ds) t') {s with heap := h', toks := tk'}) :
    wpAny (model PR w) (ktrTop dp un gd cn cs L a ccd cl outer) (call (.ref 63) [.ref l, .int n t]) Q E s := by
  obtain ⟨fs, tq, hoc, hfs⟩ := hG
  k_with_none
  k_with "callx" => (k_dflt (refine' inner_d ?o1 ?o2 ?o3 ?o4 ?o5 ?o6 ?o7 ?o8 ?o9 ?o10 16 _ _ _ _ ?z1 ?z2 ?z3 ?z4 ?k1 ?k2 ?k3 ?k4 ?k5 ?kk ?kC ?kf ?kc ?kI ?kD ?kN ?kl ?kd ?ku ?_; (case k1 => k_asm); (case k2 => k_asm); (case k3 => k_asm); (case k4 => k_asm); (case k5 => k_asm); (case kk => first | exact rfl | assumption); (case kC => assumption); (case kf => k_mem); (case kc => k_mem); (case kI => k_mem); (case kD => k_mem); (case kN => k_mem); (case o1 => assumption); (case o2 => assumption); (case o3 => assumption); (case o4 => assumption); (case o5 => assumption); (case kl => k_mem); (case o6 => assumption); (case o7 => assumption); (case o8 => assumption); (case o9 => assumption); (case o10 => exact seg_bits (by assumption) (by assumption) (by assumption) (by assumption)); (case z1 => omega); (case z2 => omega); (case z3 => omega); (case z4 => omega); (case kd => ktr_room); (case ku => ktr_units)); intro t9 h9 tk9 F9 N9; (try dsimp only); (try k_fold))
  refine wpAny_call ?_
  k_dflt (refine' code_defC ?k1 ?k2 ?k3 ?k4 ?k5 ?kA ?kF ?kK ?k6 ?k7 ?k8 ?k9 ?kB ?kD ?_ ?c2 ?c3 ?c4; (case kA => exact rfl); (case kF => exact rfl); (case kK => assumption); (case k1 => k_asm); (case k2 => k_asm); (case k3 => k_asm); (case k4 => k_asm); (case k5 => k_asm); (case k6 => k_is); (case k7 => k_is); (case k8 => ktr_room); (case k9 => exact BindsTo.of_eq rfl); (case kB => exact rfl); (case kD => decide +kernel); (case c2 => exact rfl); (case c3 => exact rfl); (case c4 => exact rfl); k_whole; intro g' L' h' tk' cells' FG' F' N' Y' B' X' T' l1; (try k_lt l1); k_cells Y'; (try simp only [List.cons_append, List.nil_append] at N'); (try dsimp only); (try k_lift B'); (try k_fold))
  k_steps
  · rw [seg_all]
    exact ret _ _ _ (by k_asm) (drop4 (by k_asm))
  · have e0 : ds = [] := List.length_eq_zero_iff.mp (by omega)
    subst e0
    exact ret _ _ _ (by k_asm) (drop4 (by k_asm))
theorem rst_I2D : True := by
  w_top off
  trivial
theorem inner_i {f c cI cA cN l : Addr} {oc oI oA oN : Obj} {fs : Array Value} {k : Nat} {n : Int} {tn tq : Tok} {qual : Str} {doc pm ctv : Value}
    (hoc : oc.data = .fields fs) (hfs : fs[1]? = some (.str qual tq)) (hoI : oI.data = .cell (some (.ref f))) (hoA : oA.data = .cell (some (.ref l))) (hoN : oN.data = .cell (some (.int n tn))) (hn0 : 0 < n) (hn1 : n ≤ 100) :
    ∀ (z : Nat) (x lo hi : Int) (tx t1 t2 : Tok) (vs : List Value) (ds : List Int), hi - lo ≤ z → lo < hi → 0 ≤ lo → hi ≤ ds.length → ds.length ≤ 16 → 0 ≤ x → x < (2 ^ n.toNat) ^ (hi - lo).toNat → IntsAre vs ds →
    ∀ {dp un : Nat} {gd : Option (List Code)} {cn : Str} {cs : Scope} {a : Addr} {ccd : Value} {cl : List (Str × Addr)} {outer : List Env} {A₀ : Around} {h₀ : Heap} {L : Addr} {m : Str → Option Value} {rest : List (Addr × Obj)} {s : Shared} {Q E : Value → Shared → Prop},
    Below A₀ base outer h₀ → Fr h₀ L s.heap m → (Mine.hd.heap_39 w.params).In h₀ → News h₀ L s.heap ((l, listOf vs.toArray k) :: rest) → Top p loose mean mg mb h₀ → cs.kind = .function →
    CodeHd base 55 51 →
    (f, fnMade (Str.ofString "inner") qual (fdArgs inI) (fdBody inI) (fdScope inI) [(Str.ofString "n", cN), (Str.ofString "inner", cI), (Str.ofString "a_digits", cA)] doc pm c ctv) ∈ rest → (c, oc) ∈ rest → (cI, oI) ∈ rest → (cA, oA) ∈ rest → (cN, oN) ∈ rest → (∀ p ∈ rest, p.1 ≠ l) →
    dp + z + 3 < recursionLimit → un + 8 * (z + 3) < cLine →
    (∀ vs' h' tk', IntsAre vs' (putL' ds lo.toNat (digs (2 ^ n.toNat) (hi - lo).toNat x)) → Fr h₀ L h' m → News h₀ L h' ((l, listOf vs'.toArray k) :: rest) → Q .none {s with heap := h', toks := tk'}) →
    wpAny (model PR w) (ktrTop dp un gd cn cs L a ccd cl outer) (call (.ref f) [.int x tx, .int lo t1, .int hi t2]) Q E s := by
  conv in (fdBody inI) => whnf
  conv in (fdArgs inI) => whnf
  conv in (fdScope inI) => whnf
  intro z
  induction z with
  | zero => intros; exfalso; omega
  | succ z ih =>
  intro x lo hi tx t1 t2 vs ds hz hlt hlo hhi hlen hx0 hx1 hI dp un gd cn cs a ccd cl outer A₀ h₀ L m rest s Q E B F X N T hk C hf hc hcI hcA hcN hne hd hu ret
  k_with_none
  k_with "rshift" => (k_dflt (refine' rshift_x ?z1 ?_; (case z1 => exact Int.mul_nonneg (by omega) (by omega))))
  k_with "lshift" => (k_dflt (refine' lshift_int ?z1 ?z2 ?_; (case z1 => exact Int.mul_nonneg (by omega) (by omega)); (case z2 => exact shl_fits (bits_div hx0 (small_of hn1 (by omega) hx1)) (mul_small (by omega) (by omega) (by omega)))))
  k_with "xor" => (k_dflt (refine' xor_low' (bitXor_low hx0 _) ?_))
  k_with "callx" => (k_dflt (refine' ih _ _ _ _ _ _ _ _ ?z1 ?z2 ?z3 ?z4 ?z5 ?z6 ?z7 ?z8 ?k1 ?k2 ?k3 ?k4 ?k5 ?kk ?kC ?kf ?kc ?kI ?kA ?kN ?kn ?kd ?ku ?_; (case k1 => k_asm); (case k2 => k_asm); (case k3 => k_asm); (case k4 => k_asm); (case k5 => k_asm); (case kk => first | exact rfl | assumption); (case kC => assumption); (case z8 => assumption); (case z1 => omega); (case z2 => omega); (case z3 => omega); (case z4 => first | omega | (rw [put_length (by rw [digs_length]; omega)]; omega)); (case z5 => first | omega | (rw [put_length (by rw [digs_length]; omega)]; omega)); (case z6 => first | exact (low_ok (by omega) (by omega)).1 | exact (up_ok (by omega) (by omega) (by omega) hx0 hx1).1); (case z7 => first | exact (low_ok (by omega) (by omega)).2 | exact (up_ok (by omega) (by omega) (by omega) hx0 hx1).2); (case kf => assumption); (case kc => assumption); (case kI => assumption); (case kA => assumption); (case kN => assumption); (case kn => assumption); (case kd => ktr_room); (case ku => ktr_units)); intro v9 h9 tk9 i9 F9 N9; (try dsimp only); (try k_fold))
  refine wpAny_call ?_
  k_dflt (refine' code_nest ?k1 ?k2 ?k3 ?k4 ?k5 ?kA ?kF ?kK ?k6 ?k7 ?k8 ?k9 ?kB ?_ ?c2 ?c3 ?c4 ?c5; (case kA => exact rfl); (case kF => exact rfl); (case kK => assumption); (case k1 => k_asm); (case k2 => k_asm); (case k3 => k_asm); (case k4 => k_asm); (case k5 => k_asm); (case k6 => k_mem); (case k7 => exact codeRec_news (by k_asm) (by k_mem) (by assumption) (by assumption)); (case k8 => ktr_room); (case k9 => exact BindsTo.of_eq rfl); (case c5 => decide); (case kB => exact locs rfl); (case c2 => exact rfl); (case c3 => exact rfl); (case c4 => exact rfl); k_whole; intro g' L' h' FG' F' N' B' X' T'; (try dsimp only); (try k_lift B'); (try k_fold))
  k_steps
  · refine ret _ _ _ ?_ (by k_asm) (by k_asm)
    rw [← put_base (by assumption) hlo hhi hx0 hx1]
    assumption
  · refine ret _ _ _ ?_ (by k_asm) (by k_asm)
    refine ints_put (by assumption) hn0 hlo ?_ ?_ hhi <;> omega

theorem i2d_fresh
    (B : Below A₀ base outer h₀) (F : Fr h₀ L s.heap m) (X : (Mine.hd.heap_39 w.params).In h₀) (N : News h₀ L s.heap ((51, tabObj #[]) :: rest)) (T : Top p loose mean mg mb h₀) (hk : cs.kind = .function)
    (hd : dp + 25 < recursionLimit) (hu : un + 200 < cLine) (C : CodeHd base 55 51) (hP : ∀ p ∈ rest, p.1 ≠ 51)
    {x n : Int} {t u : Tok} (hx : 0 ≤ x) (hn0 : 0 < n) (hn1 : n ≤ 100) (hxb : Builtin.Int.intBits x ≤ 16 * n)
    (ret : ∀ c oc l' vs' h' tk', GI oc → (∀ q ∈ rest, q.1 < l') → 51 < l' → l' < c → IntsAre vs' (digs (2 ^ n.toNat) (nd n x).toNat x) → Fr h₀ L h' m → News h₀ L h' ((l', listOf vs'.toArray 0) :: (51, tabI c) :: (c, oc) :: rest) → Q (.ref l') {s with heap := h', toks := tk'}) :
    wpAny (model PR w) (ktrTop dp un gd cn cs L a ccd cl outer) (call (.ref 56) [.int x u, .int n t]) Q E s := by
  obtain ⟨hz0, hz1, hz2, hz3⟩ := nd_facts hx hn0 hxb
  unfold nd at hz0 hz1 hz2 hz3
  have hz4 : (↑(Builtin.Int.intBits x) + n - 1).fdiv n ≤ 1000 := by omega
  k_with_none
  k_with "callx" => (k_dflt (refine' inner_i ?o1 ?o2 ?o3 ?o4 ?o5 ?o6 ?o7 16 _ _ _ _ _ _ _ _ ?z1 ?z2 ?z3 ?z4 ?z5 ?z6 ?z7 ?z8 ?k1 ?k2 ?k3 ?k4 ?k5 ?kk ?kC ?kf ?kc ?kI ?kA ?kN ?kn ?kd ?ku ?_; (case k1 => k_asm); (case k2 => k_asm); (case k3 => k_asm); (case k4 => exact pickI (by k_asm)); (case k5 => k_asm); (case kk => first | exact rfl | assumption); (case kC => assumption); (case kf => k_mem); (case kc => k_mem); (case kI => k_mem); (case kA => k_mem); (case kN => k_mem); (case o1 => assumption); (case o2 => assumption); (case o3 => assumption); (case o4 => assumption); (case o5 => assumption); (case o6 => assumption); (case o7 => assumption); (case z8 => assumption); (case z1 => (simp only [List.length_replicate]; omega)); (case z2 => (simp only [List.length_replicate]; omega)); (case z3 => omega); (case z4 => omega); (case z5 => (simp only [List.length_replicate]; omega)); (case z6 => assumption); (case z7 => (simp only [List.length_replicate]; (first | assumption | (rw [Int.sub_zero, Int.toNat_natCast]; assumption)))); (case kn => k_all); (case kd => ktr_room); (case ku => ktr_units)); intro v9 h9 tk9 i9 F9 N9; (try dsimp only); (try k_fold))
  refine wpAny_call ?_
  k_dflt (refine' code_defC ?k1 ?k2 ?k3 ?k4 ?k5 ?kA ?kF ?kK ?k6 ?k7 ?k8 ?k9 ?kB ?kD ?_ ?c2 ?c3 ?c4; (case kA => exact rfl); (case kF => exact rfl); (case kK => assumption); (case k1 => k_asm); (case k2 => k_asm); (case k3 => k_asm); (case k4 => k_asm); (case k5 => k_asm); (case k6 => k_is); (case k7 => k_is); (case k8 => ktr_room); (case k9 => exact BindsTo.of_eq rfl); (case kB => exact rfl); (case kD => decide +kernel); (case c2 => exact rfl); (case c3 => exact rfl); (case c4 => exact rfl); k_whole; intro g' L' h' tk' cells' FG' F' N' Y' B' X' T' l1; (try k_lt l1); k_cells Y'; (try simp only [List.cons_append, List.nil_append] at N'); (try dsimp only); (try k_lift B'); (try k_fold))
  k_steps
  · refine' ret _ _ _ _ _ _ ?g ?lt ?fl ?lc ?ii ?F ?N
    case N => exact pickF (by k_asm)
    case g => exact ⟨_, _, by assumption, by assumption⟩
    case lt => exact lt_all_of_lt (by assumption)
    case fl => assumption
    case lc => assumption
    case ii => exact i2d_end (by assumption)
    case F => k_asm
  · have hx0 : x = 0 := by assumption
    subst hx0
    refine' ret _ _ _ _ _ _ ?g ?lt ?fl ?lc ?ii ?F ?N
    case N => exact pickZ (by k_asm)
    case g => exact ⟨_, _, by assumption, by assumption⟩
    case lt => exact lt_all_of_lt (by assumption)
    case fl => assumption
    case lc => assumption
    case ii => exact digs_zero _ _ ▸ (by assumption)
    case F => k_asm
theorem i2d_grown
    (B : Below A₀ base outer h₀) (F : Fr h₀ L s.heap m) (X : (Mine.hd.heap_39 w.params).In h₀) (N : News h₀ L s.heap news) (T : Top p loose mean mg mb h₀) (hk : cs.kind = .function)
    (hd : dp + 25 < recursionLimit) (hu : un + 200 < cLine) (C : CodeHd base 55 51) {c : Addr} {oc : Obj} (h51 : (51, tabI c) ∈ news) (hc : (c, oc) ∈ news) (hG : GI oc)
    {x n : Int} {t u : Tok} (hx : 0 ≤ x) (hn0 : 0 < n) (hn1 : n ≤ 100) (hxb : Builtin.Int.intBits x ≤ 16 * n)
    (ret : ∀ l' vs' h' tk', (∀ q ∈ news, q.1 < l') → IntsAre vs' (digs (2 ^ n.toNat) (nd n x).toNat x) → Fr h₀ L h' m → News h₀ L h' ((l', listOf vs'.toArray 0) :: news) → Q (.ref l') {s with heap := h', toks := tk'}) :
    wpAny (model PR w) (ktrTop dp un gd cn cs L a ccd cl outer) (call (.ref 56) [.int x u, .int n t]) Q E s := by
  obtain ⟨hz0, hz1, hz2, hz3⟩ := nd_facts hx hn0 hxb
  unfold nd at hz0 hz1 hz2 hz3
  have hz4 : (↑(Builtin.Int.intBits x) + n - 1).fdiv n ≤ 1000 := by omega
  obtain ⟨fs, tq, hoc, hfs⟩ := hG
  k_with_none
  k_with "callx" => (k_dflt (refine' inner_i ?o1 ?o2 ?o3 ?o4 ?o5 ?o6 ?o7 16 _ _ _ _ _ _ _ _ ?z1 ?z2 ?z3 ?z4 ?z5 ?z6 ?z7 ?z8 ?k1 ?k2 ?k3 ?k4 ?k5 ?kk ?kC ?kf ?kc ?kI ?kA ?kN ?kn ?kd ?ku ?_; (case k1 => k_asm); (case k2 => k_asm); (case k3 => k_asm); (case k4 => exact pickJ (by k_asm)); (case k5 => k_asm); (case kk => first | exact rfl | assumption); (case kC => assumption); (case kf => k_mem); (case kc => k_mem); (case kI => k_mem); (case kA => k_mem); (case kN => k_mem); (case o1 => assumption); (case o2 => assumption); (case o3 => assumption); (case o4 => assumption); (case o5 => assumption); (case o6 => assumption); (case o7 => assumption); (case z8 => assumption); (case z1 => (simp only [List.length_replicate]; omega)); (case z2 => (simp only [List.length_replicate]; omega)); (case z3 => omega); (case z4 => omega); (case z5 => (simp only [List.length_replicate]; omega)); (case z6 => assumption); (case z7 => (simp only [List.length_replicate]; (first | assumption | (rw [Int.sub_zero, Int.toNat_natCast]; assumption)))); (case kn => k_all); (case kd => ktr_room); (case ku => ktr_units)); intro v9 h9 tk9 i9 F9 N9; (try dsimp only); (try k_fold))
  refine wpAny_call ?_
  k_dflt (refine' code_defC ?k1 ?k2 ?k3 ?k4 ?k5 ?kA ?kF ?kK ?k6 ?k7 ?k8 ?k9 ?kB ?kD ?_ ?c2 ?c3 ?c4; (case kA => exact rfl); (case kF => exact rfl); (case kK => assumption); (case k1 => k_asm); (case k2 => k_asm); (case k3 => k_asm); (case k4 => k_asm); (case k5 => k_asm); (case k6 => k_is); (case k7 => k_is); (case k8 => ktr_room); (case k9 => exact BindsTo.of_eq rfl); (case kB => exact rfl); (case kD => decide +kernel); (case c2 => exact rfl); (case c3 => exact rfl); (case c4 => exact rfl); k_whole; intro g' L' h' tk' cells' FG' F' N' Y' B' X' T' l1; (try k_lt l1); k_cells Y'; (try simp only [List.cons_append, List.nil_append] at N'); (try dsimp only); (try k_lift B'); (try k_fold))
  k_steps
  · refine' ret _ _ _ _ ?lt ?ii ?F ?N
    case N => exact pickG (by k_asm)
    case lt => exact lt_all_of_lt (by assumption)
    case ii => exact i2d_end (by assumption)
    case F => k_asm
  · have hx0 : x = 0 := by assumption
    subst hx0
    refine' ret _ _ _ _ ?lt ?ii ?F ?N
    case N => exact pickH (by k_asm)
    case lt => exact lt_all_of_lt (by assumption)
    case ii => exact digs_zero _ _ ▸ (by assumption)
    case F => k_asm
theorem rst_DIV : True := by
  w_top off
  trivial
theorem div1
    (B : Below A₀ base outer h₀) (F : Fr h₀ L s.heap m) (X : (Mine.hd.heap_39 w.params).In h₀) (N : News h₀ L s.heap news) (T : Top p loose mean mg mb h₀) (hk : cs.kind = .function)
    (hd : dp + 5 < recursionLimit) (hu : un + 40 < cLine) {x b n : Int} {t u v : Tok} (hb : 0 < b) (hz : b < 2 ^ 2000) (hn : (Builtin.Int.intBits x : Int) - n ≤ 4000)
    (ret : ∀ l' t1 t2 h' tk', (∀ q ∈ news, q.1 < l') → Fr h₀ L h' m → News h₀ L h' ((l', tupOf [.int (x / b) t1, .int (x % b) t2]) :: news) → Q (.ref l') {s with heap := h', toks := tk'}) :
    wpAny (model PR w) (ktrTop dp un gd cn cs L a ccd cl outer) (call (.ref 42) [.int x t, .int b u, .int n v]) Q E s := by
  k_with_none
  refine wpAny_call ?_
  k_dflt ktr_enter
  k_steps
  all_goals exact ret _ _ _ _ _ (lt_all_of_lt (by assumption)) (by k_asm) (by k_asm)
def DivJ (b x : Int) (news : List (Addr × Obj)) (l2 l1 : Addr) (vs : List Value) (i : Nat) (m₁ : Str → Option Value) (n₁ : List (Addr × Obj)) : Prop :=
  ∃ r tr qs vsq kq tb tn, Has m₁ (Str.ofString "b") (.int b tb) ∧ Has m₁ (Str.ofString "n") (.int (Builtin.Int.intBits b) tn) ∧ Has m₁ (Str.ofString "r") (.int r tr) ∧ Has m₁ (Str.ofString "q_digits") (.ref l2) ∧
    n₁ = (l2, listOf vsq.toArray kq) :: (l1, listOf vs.toArray 0) :: news ∧ IntsAre vsq qs ∧ DivInv (2 ^ (Builtin.Int.intBits b : Int).toNat) b (digs (2 ^ (Builtin.Int.intBits b : Int).toNat) (nd (Builtin.Int.intBits b) x).toNat x) i r qs
theorem divpos_grown
    (B : Below A₀ base outer h₀) (F : Fr h₀ L s.heap m) (X : (Mine.hd.heap_39 w.params).In h₀) (N : News h₀ L s.heap news) (T : Top p loose mean mg mb h₀) (hk : cs.kind = .function)
    (hd : dp + 30 < recursionLimit) (hu : un + 240 < cLine) (C : CodeHd base 62 58) (C' : CodeHd base 55 51)
    {c : Addr} {oc : Obj} (h58 : (58, tabD c) ∈ news) (hc : (c, oc) ∈ news) (hG : GD oc) {c' : Addr} {oc' : Obj} (h51 : (51, tabI c') ∈ news) (hc' : (c', oc') ∈ news) (hG' : GI oc')
    {x b : Int} {t u : Tok} (hx : 0 ≤ x) (hb : 0 < b) (hbn : Builtin.Int.intBits b ≤ 100) (hxb : (Builtin.Int.intBits x : Int) ≤ 16 * (Builtin.Int.intBits b : Int))
    (ret : ∀ l' t1 t2 h' tk', (∀ q ∈ news, q.1 < l') → Fr h₀ L h' m → News h₀ L h' ((l', tupOf [.int (x / b) t1, .int (x % b) t2]) :: news) → Q (.ref l') {s with heap := h', toks := tk'}) :
    wpAny (model PR w) (ktrTop dp un gd cn cs L a ccd cl outer) (call (.ref 70) [.int x t, .int b u]) Q E s := by
  have hn0 : (0 : Int) < (Builtin.Int.intBits b : Int) := bits_pos hb
  have hb2 := lt_2000 hb hbn
  k_with_none
  k_with "callx" => (first | (k_dflt (refine' i2d_grown ?k1 ?k2 ?k3 ?k4 ?k5 ?kk ?kd ?ku ?kC ?z1 ?z2 ?z3 ?z4 ?z5 ?z6 ?z7 ?_; (case k1 => k_asm); (case k2 => k_asm); (case k3 => k_asm); (case k4 => k_asm); (case k5 => k_asm); (case kk => first | exact rfl | assumption); (case kd => ktr_room); (case ku => ktr_units); (case kC => assumption); (case z1 => k_mem); (case z2 => k_mem); (case z3 => assumption); (case z4 => ktr_rel); (case z5 => ktr_rel); (case z6 => ktr_rel); (case z7 => ktr_rel)); intro l' vs' h' tk' l1 hI' F' N'; (try k_lt l1); (try dsimp only); (try k_fold)) | (k_dflt (refine' d2i_grown ?k1 ?k2 ?k3 ?k4 ?k5 ?kk ?kd ?ku ?kC ?z1 ?z2 ?z3 ?z4 ?z5 ?z6 ?z7 ?z8 ?z9 ?_; (case k1 => k_asm); (case k2 => k_asm); (case k3 => k_asm); (case k4 => k_asm); (case k5 => k_asm); (case kk => first | exact rfl | assumption); (case kd => ktr_room); (case ku => ktr_units); (case kC => assumption); (case z1 => k_mem); (case z2 => k_mem); (case z3 => assumption); (case z4 => k_mem); (case z5 => l_ints); (case z6 => ktr_rel); (case z7 => ktr_rel); (case z8 => ktr_rel); (case z9 => ktr_rel)); intro t9 h9 tk9 F9 N9; (try dsimp only); (try k_fold)) | (k_dflt (refine' div1 ?k1 ?k2 ?k3 ?k4 ?k5 ?kk ?kd ?ku ?z1 ?z2 ?z3 ?_; (case k1 => k_asm); (case k2 => k_asm); (case k3 => k_asm); (case k4 => k_asm); (case k5 => k_asm); (case kk => first | exact rfl | assumption); (case kd => ktr_room); (case ku => ktr_units); (case z1 => ktr_rel); (case z2 => ktr_rel); (case z3 => ktr_rel)); intro l' t1' t2' h' tk' l1 F' N'; (try k_lt l1); (try dsimp only); (try k_fold)))
  refine wpAny_call ?_
  k_dflt ktr_enter
  k_steps
  have hlv := digs_len_le hx hn0 hxb (by assumption)
  refine' rev_loop (DivJ b x _ _ _ _) ?hh ?F ?N ?off ?hm ?h0 ?turn ?done
  case hh => rfl
  case F => k_asm
  case N => k_asm
  case off => k_all
  case hm => k_mem
  case h0 =>
    unfold DivJ
    refine' ⟨0, _, [], [], _, _, _, ?a1, ?a2, ?a3, ?a4, ?a5, .nil, DivInv.zero hb⟩
    case a5 => exact rfl
    case a4 => exact rfl
    case a1 => exact rfl
    case a2 => exact rfl
    case a3 => exact rfl
  case turn =>
    intro i v m₁ n₁ it h tk hi hv hJ hkp hoff F₁ N₁
    obtain ⟨r, tr, qs, vsq, kq, tb, tn, hb₁, hn₁, hr₁, hq₁, rfl, hiq, hinv⟩ := hJ
    obtain ⟨d, td, rfl, hd₁⟩ := ints_at (by assumption) hv
    have hr0 := hinv.r0
    have hr1 := hinv.r1
    have hdg := digs_mem (Int.pow_pos (by decide)) _ _ _ (List.mem_of_getElem? hd₁)
    have hbits := bits_rd hbn hr0 (Int.lt_trans hr1 (bits_lt hb)) hdg.1 hdg.2
    have hvl : vsq.length ≤ 1000 := by rw [hiq.length, hinv.len]; have := hlv; omega
    k_with "lshift" => (k_dflt (refine' lshift_int ?z1 ?z2 ?_; (case z1 => omega); (case z2 => exact shl_fits (Nat.le_trans (bits_small hr0 (Int.lt_trans hr1 hb2)) (by decide)) (by omega))))
    k_steps
    refine' unr_drop 1 ?F ?N ?e ?off ⟨?keep, ?_⟩
    case F => k_asm
    case N => k_asm
    case e => exact rfl
    case off => k_all
    case keep => k_subL
    unfold DivJ
    refine' ⟨_, _, qs ++ [_], _, _, _, _, ?a1, ?a2, ?a3, ?a4, ?a5, ?a6, ?a7⟩
    case a5 => exact rfl
    case a6 => exact ints_snoc hiq
    case a3 => exact rfl
    case a7 => exact hinv.step hb (Int.pow_pos (by decide)) (by rw [← IntsAre.length (by assumption)]; exact hi) (by rw [← IntsAre.length (by assumption)]; exact hd₁) hdg.1 hdg.2
    case a1 => exact hb₁
    case a2 => exact hn₁
    case a4 => exact hq₁
  case done =>
    intro m₁ n₁ h tk hJ F₁ N₁
    obtain ⟨r, tr, qs, vsq, kq, tb, tn, hb₁, hn₁, hr₁, hq₁, rfl, hiq, hinv⟩ := hJ
    have hvl : vsq.length ≤ 1000 := by rw [hiq.length, hinv.len]; have := hlv; omega
    have hir := ints_rev hiq
    have hdn := hinv.done hb (by rw [IntsAre.length (by assumption)])
    have hdig := hinv.dig
    rw [d2i_digs (Int.pow_pos (by decide)) _ _ hx (nd_facts hx hn0 hxb).2.2.1] at hdn
    have hlen0 := hinv.len
    clear hinv
    obtain ⟨hdq, hdr⟩ := hdn
    subst hdr
    have hz6 : qs.reverse.length ≤ 16 := by rw [List.length_reverse, hlen0]; exact hlv
    have hz9 : ∀ d ∈ qs.reverse, 0 ≤ d ∧ d < 2 ^ (Builtin.Int.intBits b : Int).toNat := fun d hd => hdig d (List.mem_reverse.mp hd)
    k_steps
    all_goals exact ret _ _ _ _ _ (lt_all_of_lt (by assumption)) (by k_asm) (pickT hdq (by k_asm))
theorem divpos_fresh
    (B : Below A₀ base outer h₀) (F : Fr h₀ L s.heap m) (X : (Mine.hd.heap_39 w.params).In h₀) (N : News h₀ L s.heap ((51, tabObj #[]) :: rest)) (T : Top p loose mean mg mb h₀) (hk : cs.kind = .function)
    (hd : dp + 30 < recursionLimit) (hu : un + 240 < cLine) (C : CodeHd base 62 58) (C' : CodeHd base 55 51)
    {c : Addr} {oc : Obj} (h58 : (58, tabD c) ∈ rest) (hc : (c, oc) ∈ rest) (hG : GD oc) (hP : ∀ p ∈ rest, p.1 ≠ 51)
    {x b : Int} {t u : Tok} (hx : 0 ≤ x) (hb : 0 < b) (hbn : Builtin.Int.intBits b ≤ 100) (hxb : (Builtin.Int.intBits x : Int) ≤ 16 * (Builtin.Int.intBits b : Int))
    (ret : ∀ c oc l' t1 t2 h' tk', GI oc → (∀ q ∈ rest, q.1 < c) → 51 < c → c < l' → Fr h₀ L h' m → News h₀ L h' ((l', tupOf [.int (x / b) t1, .int (x % b) t2]) :: (51, tabI c) :: (c, oc) :: rest) → Q (.ref l') {s with heap := h', toks := tk'}) :
    wpAny (model PR w) (ktrTop dp un gd cn cs L a ccd cl outer) (call (.ref 70) [.int x t, .int b u]) Q E s := by
  have hn0 : (0 : Int) < (Builtin.Int.intBits b : Int) := bits_pos hb
  have hb2 := lt_2000 hb hbn
  k_with_none
  k_with "callx" => (first | (k_dflt (refine' i2d_fresh ?k1 ?k2 ?k3 ?k4 ?k5 ?kk ?kd ?ku ?kC ?z1 ?z4 ?z5 ?z6 ?z7 ?_; (case k1 => k_asm); (case k2 => k_asm); (case k3 => k_asm); (case k4 => k_asm); (case k5 => k_asm); (case kk => first | exact rfl | assumption); (case kd => ktr_room); (case ku => ktr_units); (case kC => assumption); (case z1 => k_all); (case z4 => ktr_rel); (case z5 => ktr_rel); (case z6 => ktr_rel); (case z7 => ktr_rel)); intro c' oc' l' vs' h' tk' hg' l1 l2 l3 hI' F' N'; (have lc' := allLt_of (fun p hp => Nat.lt_trans (l1 p hp) l3)); (have ld' := ltN (Nat.lt_trans l2 l3)); (try k_lt l1); (try dsimp only); (try k_fold)) | (k_dflt (refine' i2d_grown ?k1 ?k2 ?k3 ?k4 ?k5 ?kk ?kd ?ku ?kC ?z1 ?z2 ?z3 ?z4 ?z5 ?z6 ?z7 ?_; (case k1 => k_asm); (case k2 => k_asm); (case k3 => k_asm); (case k4 => k_asm); (case k5 => k_asm); (case kk => first | exact rfl | assumption); (case kd => ktr_room); (case ku => ktr_units); (case kC => assumption); (case z1 => k_mem); (case z2 => k_mem); (case z3 => assumption); (case z4 => ktr_rel); (case z5 => ktr_rel); (case z6 => ktr_rel); (case z7 => ktr_rel)); intro l' vs' h' tk' l1 hI' F' N'; (try k_lt l1); (try dsimp only); (try k_fold)) | (k_dflt (refine' d2i_grown ?k1 ?k2 ?k3 ?k4 ?k5 ?kk ?kd ?ku ?kC ?z1 ?z2 ?z3 ?z4 ?z5 ?z6 ?z7 ?z8 ?z9 ?_; (case k1 => k_asm); (case k2 => k_asm); (case k3 => k_asm); (case k4 => k_asm); (case k5 => k_asm); (case kk => first | exact rfl | assumption); (case kd => ktr_room); (case ku => ktr_units); (case kC => assumption); (case z1 => k_mem); (case z2 => k_mem); (case z3 => assumption); (case z4 => k_mem); (case z5 => l_ints); (case z6 => ktr_rel); (case z7 => ktr_rel); (case z8 => ktr_rel); (case z9 => ktr_rel)); intro t9 h9 tk9 F9 N9; (try dsimp only); (try k_fold)) | (k_dflt (refine' div1 ?k1 ?k2 ?k3 ?k4 ?k5 ?kk ?kd ?ku ?z1 ?z2 ?z3 ?_; (case k1 => k_asm); (case k2 => k_asm); (case k3 => k_asm); (case k4 => k_asm); (case k5 => k_asm); (case kk => first | exact rfl | assumption); (case kd => ktr_room); (case ku => ktr_units); (case z1 => ktr_rel); (case z2 => ktr_rel); (case z3 => ktr_rel)); intro l' t1' t2' h' tk' l1 F' N'; (try k_lt l1); (try dsimp only); (try k_fold)))
  refine wpAny_call ?_
  k_dflt ktr_enter
  k_steps
  have hlv := digs_len_le hx hn0 hxb (by assumption)
  refine' rev_loop (DivJ b x _ _ _ _) ?hh ?F ?N ?off ?hm ?h0 ?turn ?done
  case hh => rfl
  case F => k_asm
  case N => k_asm
  case off => k_all
  case hm => k_mem
  case h0 =>
    unfold DivJ
    refine' ⟨0, _, [], [], _, _, _, ?a1, ?a2, ?a3, ?a4, ?a5, .nil, DivInv.zero hb⟩
    case a5 => exact rfl
    case a4 => exact rfl
    case a1 => exact rfl
    case a2 => exact rfl
    case a3 => exact rfl
  case turn =>
    intro i v m₁ n₁ it h tk hi hv hJ hkp hoff F₁ N₁
    obtain ⟨r, tr, qs, vsq, kq, tb, tn, hb₁, hn₁, hr₁, hq₁, rfl, hiq, hinv⟩ := hJ
    obtain ⟨d, td, rfl, hd₁⟩ := ints_at (by assumption) hv
    have hr0 := hinv.r0
    have hr1 := hinv.r1
    have hdg := digs_mem (Int.pow_pos (by decide)) _ _ _ (List.mem_of_getElem? hd₁)
    have hbits := bits_rd hbn hr0 (Int.lt_trans hr1 (bits_lt hb)) hdg.1 hdg.2
    have hvl : vsq.length ≤ 1000 := by rw [hiq.length, hinv.len]; have := hlv; omega
    k_with "lshift" => (k_dflt (refine' lshift_int ?z1 ?z2 ?_; (case z1 => omega); (case z2 => exact shl_fits (Nat.le_trans (bits_small hr0 (Int.lt_trans hr1 hb2)) (by decide)) (by omega))))
    k_steps
    refine' unr_drop 1 ?F ?N ?e ?off ⟨?keep, ?_⟩
    case F => k_asm
    case N => k_asm
    case e => exact rfl
    case off => k_all
    case keep => k_subL
    unfold DivJ
    refine' ⟨_, _, qs ++ [_], _, _, _, _, ?a1, ?a2, ?a3, ?a4, ?a5, ?a6, ?a7⟩
    case a5 => exact rfl
    case a6 => exact ints_snoc hiq
    case a3 => exact rfl
    case a7 => exact hinv.step hb (Int.pow_pos (by decide)) (by rw [← IntsAre.length (by assumption)]; exact hi) (by rw [← IntsAre.length (by assumption)]; exact hd₁) hdg.1 hdg.2
    case a1 => exact hb₁
    case a2 => exact hn₁
    case a4 => exact hq₁
  case done =>
    intro m₁ n₁ h tk hJ F₁ N₁
    obtain ⟨r, tr, qs, vsq, kq, tb, tn, hb₁, hn₁, hr₁, hq₁, rfl, hiq, hinv⟩ := hJ
    have hvl : vsq.length ≤ 1000 := by rw [hiq.length, hinv.len]; have := hlv; omega
    have hir := ints_rev hiq
    have hdn := hinv.done hb (by rw [IntsAre.length (by assumption)])
    have hdig := hinv.dig
    rw [d2i_digs (Int.pow_pos (by decide)) _ _ hx (nd_facts hx hn0 hxb).2.2.1] at hdn
    have hlen0 := hinv.len
    clear hinv
    obtain ⟨hdq, hdr⟩ := hdn
    subst hdr
    have hz6 : qs.reverse.length ≤ 16 := by rw [List.length_reverse, hlen0]; exact hlv
    have hz9 : ∀ d ∈ qs.reverse, 0 ≤ d ∧ d < 2 ^ (Builtin.Int.intBits b : Int).toNat := fun d hd => hdig d (List.mem_reverse.mp hd)
    k_steps
    all_goals (refine' ret _ _ _ _ _ _ _ ?g ?lt ?fl ?lc ?F (pickT hdq ?N))
    case N => k_asm
    case g => assumption
    case lt => exact lt_all_of_lt (by assumption)
    case fl => assumption
    case lc => assumption
    case F => k_asm
theorem rst_IDIV : True := by
  w_top off
  trivial
theorem idiv_pos_grown
    (B : Below A₀ base outer h₀) (F : Fr h₀ L s.heap m) (X : (Mine.hd.heap_39 w.params).In h₀) (N : News h₀ L s.heap news) (T : Top p loose mean mg mb h₀) (hk : cs.kind = .function)
    (hd : dp + 35 < recursionLimit) (hu : un + 280 < cLine) (C : CodeHd base 62 58) (C' : CodeHd base 55 51)
    {c : Addr} {oc : Obj} (h58 : (58, tabD c) ∈ news) (hc : (c, oc) ∈ news) (hG : GD oc) {c' : Addr} {oc' : Obj} (h51 : (51, tabI c') ∈ news) (hc' : (c', oc') ∈ news) (hG' : GI oc')
    {x b : Int} {t u : Tok} (hx : 0 ≤ x) (hb : 0 < b) (hbn : Builtin.Int.intBits b ≤ 100) (hxb : (Builtin.Int.intBits x : Int) ≤ 16 * (Builtin.Int.intBits b : Int))
    (ret : ∀ l' t1 t2 h' tk', (∀ q ∈ news, q.1 < l') → Fr h₀ L h' m → News h₀ L h' ((l', tupOf [.int (x / b) t1, .int (x % b) t2]) :: news) → Q (.ref l') {s with heap := h', toks := tk'}) :
    wpAny (model PR w) (ktrTop dp un gd cn cs L a ccd cl outer) (call (.ref 77) [.int x t, .int b u]) Q E s := by
  k_with_none
  k_with "callx" => (k_dflt (refine' divpos_grown ?k1 ?k2 ?k3 ?k4 ?k5 ?kk ?kd ?ku ?kC ?kD ?z1 ?z2 ?z3 ?z4 ?z5 ?z6 ?y0 ?y1 ?y2 ?y3 ?_; (case k1 => k_asm); (case k2 => k_asm); (case k3 => k_asm); (case k4 => k_asm); (case k5 => k_asm); (case kk => first | exact rfl | assumption); (case kd => ktr_room); (case ku => ktr_units); (case kC => assumption); (case kD => assumption); (case z1 => k_mem); (case z2 => k_mem); (case z3 => assumption); (case z4 => k_mem); (case z5 => k_mem); (case z6 => assumption); (case y0 => ktr_rel); (case y1 => ktr_rel); (case y2 => ktr_rel); (case y3 => ktr_rel)); intro l' t1' t2' h' tk' l1 F' N'; (try k_lt l1); (try dsimp only); (try k_fold))
  refine wpAny_call ?_
  k_dflt ktr_enter
  k_steps
  · exfalso; omega
  · exact ret _ _ _ _ _ (lt_all_of_lt (by assumption)) (by k_asm) (by k_asm)
theorem idiv_pos_fresh
    (B : Below A₀ base outer h₀) (F : Fr h₀ L s.heap m) (X : (Mine.hd.heap_39 w.params).In h₀) (N : News h₀ L s.heap ((51, tabObj #[]) :: rest)) (T : Top p loose mean mg mb h₀) (hk : cs.kind = .function)
    (hd : dp + 35 < recursionLimit) (hu : un + 280 < cLine) (C : CodeHd base 62 58) (C' : CodeHd base 55 51)
    {c : Addr} {oc : Obj} (h58 : (58, tabD c) ∈ rest) (hc : (c, oc) ∈ rest) (hG : GD oc) (hP : ∀ p ∈ rest, p.1 ≠ 51)
    {x b : Int} {t u : Tok} (hx : 0 ≤ x) (hb : 0 < b) (hbn : Builtin.Int.intBits b ≤ 100) (hxb : (Builtin.Int.intBits x : Int) ≤ 16 * (Builtin.Int.intBits b : Int))
    (ret : ∀ c oc l' t1 t2 h' tk', GI oc → (∀ q ∈ rest, q.1 < c) → 51 < c → c < l' → Fr h₀ L h' m → News h₀ L h' ((l', tupOf [.int (x / b) t1, .int (x % b) t2]) :: (51, tabI c) :: (c, oc) :: rest) → Q (.ref l') {s with heap := h', toks := tk'}) :
    wpAny (model PR w) (ktrTop dp un gd cn cs L a ccd cl outer) (call (.ref 77) [.int x t, .int b u]) Q E s := by
  k_with_none
  k_with "callx" => (k_dflt (refine' divpos_fresh ?k1 ?k2 ?k3 ?k4 ?k5 ?kk ?kd ?ku ?kC ?kD ?z1 ?z2 ?z3 ?z4 ?y0 ?y1 ?y2 ?y3 ?_; (case k1 => k_asm); (case k2 => k_asm); (case k3 => k_asm); (case k4 => k_asm); (case k5 => k_asm); (case kk => first | exact rfl | assumption); (case kd => ktr_room); (case ku => ktr_units); (case kC => assumption); (case kD => assumption); (case z1 => k_mem); (case z2 => k_mem); (case z3 => assumption); (case z4 => k_all); (case y0 => ktr_rel); (case y1 => ktr_rel); (case y2 => ktr_rel); (case y3 => ktr_rel)); intro c' oc' l' t1' t2' h' tk' hg' l1 l2 l3 F' N'; (try k_lt l1); (try dsimp only); (try k_fold))
  refine wpAny_call ?_
  k_dflt ktr_enter
  k_steps
  · exfalso; omega
  refine' ret _ _ _ _ _ _ _ ?g ?lt ?fl ?lc ?F ?N
  case N => k_asm
  case g => assumption
  case lt => exact lt_all_of_lt (by assumption)
  case fl => assumption
  case lc => assumption
  case F => k_asm
theorem idiv_neg_grown
    (B : Below A₀ base outer h₀) (F : Fr h₀ L s.heap m) (X : (Mine.hd.heap_39 w.params).In h₀) (N : News h₀ L s.heap news) (T : Top p loose mean mg mb h₀) (hk : cs.kind = .function)
    (hd : dp + 40 < recursionLimit) (hu : un + 320 < cLine) (C : CodeHd base 62 58) (C' : CodeHd base 55 51)
    {c : Addr} {oc : Obj} (h58 : (58, tabD c) ∈ news) (hc : (c, oc) ∈ news) (hG : GD oc) {c' : Addr} {oc' : Obj} (h51 : (51, tabI c') ∈ news) (hc' : (c', oc') ∈ news) (hG' : GI oc')
    {x b y e : Int} {t u : Tok} (hx : 0 ≤ x) (hb : 0 < b) (hbn : Builtin.Int.intBits b ≤ 100) (hxb : (Builtin.Int.intBits x : Int) ≤ 16 * (Builtin.Int.intBits b : Int)) (hy : y = -x) (he : e = -b)
    (ret : ∀ l' t1 t2 h' tk', (∀ q ∈ news, q.1 < l') → Fr h₀ L h' m → News h₀ L h' ((l', tupOf [.int (x / b) t1, .int (-(x % b)) t2]) :: news) → Q (.ref l') {s with heap := h', toks := tk'}) :
    wpAny (model PR w) (ktrTop dp un gd cn cs L a ccd cl outer) (call (.ref 77) [.int y t, .int e u]) Q E s := by
  have hne : e ≠ 0 := by omega
  have hn' : e < 0 := by omega
  obtain rfl : x = -y := by omega
  obtain rfl : b = -e := by omega
  k_with_none
  k_with "callx" => (k_dflt (refine' idiv_pos_grown ?k1 ?k2 ?k3 ?k4 ?k5 ?kk ?kd ?ku ?kC ?kD ?z1 ?z2 ?z3 ?z4 ?z5 ?z6 ?y0 ?y1 ?y2 ?y3 ?_; (case k1 => k_asm); (case k2 => k_asm); (case k3 => k_asm); (case k4 => k_asm); (case k5 => k_asm); (case kk => first | exact rfl | assumption); (case kd => ktr_room); (case ku => ktr_units); (case kC => assumption); (case kD => assumption); (case z1 => k_mem); (case z2 => k_mem); (case z3 => assumption); (case z4 => k_mem); (case z5 => k_mem); (case z6 => assumption); (case y0 => ktr_rel); (case y1 => ktr_rel); (case y2 => ktr_rel); (case y3 => ktr_rel)); intro l' t1' t2' h' tk' l1 F' N'; (try k_lt l1); (try dsimp only); (try k_fold))
  refine wpAny_call ?_
  k_dflt ktr_enter
  k_steps
  · exfalso; omega
  · exact ret _ _ _ _ _ (lt_all_of_lt (by assumption)) (by k_asm) (drop2nd (by k_asm))
theorem idiv_neg_fresh
    (B : Below A₀ base outer h₀) (F : Fr h₀ L s.heap m) (X : (Mine.hd.heap_39 w.params).In h₀) (N : News h₀ L s.heap ((51, tabObj #[]) :: rest)) (T : Top p loose mean mg mb h₀) (hk : cs.kind = .function)
    (hd : dp + 40 < recursionLimit) (hu : un + 320 < cLine) (C : CodeHd base 62 58) (C' : CodeHd base 55 51)
    {c : Addr} {oc : Obj} (h58 : (58, tabD c) ∈ rest) (hc : (c, oc) ∈ rest) (hG : GD oc) (hP : ∀ p ∈ rest, p.1 ≠ 51)
    {x b y e : Int} {t u : Tok} (hx : 0 ≤ x) (hb : 0 < b) (hbn : Builtin.Int.intBits b ≤ 100) (hxb : (Builtin.Int.intBits x : Int) ≤ 16 * (Builtin.Int.intBits b : Int)) (hy : y = -x) (he : e = -b)
    (ret : ∀ c oc l' t1 t2 h' tk', GI oc → (∀ q ∈ rest, q.1 < c) → 51 < c → c < l' → Fr h₀ L h' m → News h₀ L h' ((l', tupOf [.int (x / b) t1, .int (-(x % b)) t2]) :: (51, tabI c) :: (c, oc) :: rest) → Q (.ref l') {s with heap := h', toks := tk'}) :
    wpAny (model PR w) (ktrTop dp un gd cn cs L a ccd cl outer) (call (.ref 77) [.int y t, .int e u]) Q E s := by
  have hne : e ≠ 0 := by omega
  have hn' : e < 0 := by omega
  obtain rfl : x = -y := by omega
  obtain rfl : b = -e := by omega
  k_with_none
  k_with "callx" => (k_dflt (refine' idiv_pos_fresh ?k1 ?k2 ?k3 ?k4 ?k5 ?kk ?kd ?ku ?kC ?kD ?z1 ?z2 ?z3 ?z4 ?y0 ?y1 ?y2 ?y3 ?_; (case k1 => k_asm); (case k2 => k_asm); (case k3 => k_asm); (case k4 => k_asm); (case k5 => k_asm); (case kk => first | exact rfl | assumption); (case kd => ktr_room); (case ku => ktr_units); (case kC => assumption); (case kD => assumption); (case z1 => k_mem); (case z2 => k_mem); (case z3 => assumption); (case z4 => k_all); (case y0 => ktr_rel); (case y1 => ktr_rel); (case y2 => ktr_rel); (case y3 => ktr_rel)); intro c' oc' l' t1' t2' h' tk' hg' l1 l2 l3 F' N'; (try k_lt l1); (try dsimp only); (try k_fold))
  refine wpAny_call ?_
  k_dflt ktr_enter
  k_steps
  · exfalso; omega
  refine' ret _ _ _ _ _ _ _ ?g ?lt ?fl ?lc ?F ?N
  case N => exact drop2nd (by k_asm)
  case g => assumption
  case lt => exact lt_all_of_lt (by assumption)
  case fl => assumption
  case lc => assumption
  case F => k_asm
theorem idiv_sg_grown
    (B : Below A₀ base outer h₀) (F : Fr h₀ L s.heap m) (X : (Mine.hd.heap_39 w.params).In h₀) (N : News h₀ L s.heap news) (T : Top p loose mean mg mb h₀) (hk : cs.kind = .function)
    (hd : dp + 40 < recursionLimit) (hu : un + 320 < cLine) (C : CodeHd base 62 58) (C' : CodeHd base 55 51)
    {c : Addr} {oc : Obj} (h58 : (58, tabD c) ∈ news) (hc : (c, oc) ∈ news) (hG : GD oc) {c' : Addr} {oc' : Obj} (h51 : (51, tabI c') ∈ news) (hc' : (c', oc') ∈ news) (hG' : GI oc')
    {sg x b y e : Int} {t u : Tok} (hx : 0 ≤ x) (hb : 0 < b) (hbn : Builtin.Int.intBits b ≤ 100) (hxb : (Builtin.Int.intBits x : Int) ≤ 16 * (Builtin.Int.intBits b : Int)) (hs : sg = 1 ∨ sg = -1) (hy : y = sg * x) (he : e = sg * b)
    (ret : ∀ l' t1 t2 h' tk', (∀ q ∈ news, q.1 < l') → Fr h₀ L h' m → News h₀ L h' ((l', tupOf [.int (x / b) t1, .int (sg * (x % b)) t2]) :: news) → Q (.ref l') {s with heap := h', toks := tk'}) :
    wpAny (model PR w) (ktrTop dp un gd cn cs L a ccd cl outer) (call (.ref 77) [.int y t, .int e u]) Q E s := by
  rcases hs with rfl | rfl
  · rw [Int.one_mul] at hy he
    subst hy; subst he
    exact idiv_pos_grown B F X N T hk (by omega) (by omega) C C' h58 hc hG h51 hc' hG' hx hb hbn hxb (by simpa only [Int.one_mul] using ret)
  · exact idiv_neg_grown B F X N T hk (by omega) (by omega) C C' h58 hc hG h51 hc' hG' hx hb hbn hxb (by omega) (by omega) (by simpa only [Int.neg_mul, Int.one_mul] using ret)
theorem idiv_sg_fresh
    (B : Below A₀ base outer h₀) (F : Fr h₀ L s.heap m) (X : (Mine.hd.heap_39 w.params).In h₀) (N : News h₀ L s.heap ((51, tabObj #[]) :: rest)) (T : Top p loose mean mg mb h₀) (hk : cs.kind = .function)
    (hd : dp + 40 < recursionLimit) (hu : un + 320 < cLine) (C : CodeHd base 62 58) (C' : CodeHd base 55 51)
    {c : Addr} {oc : Obj} (h58 : (58, tabD c) ∈ rest) (hc : (c, oc) ∈ rest) (hG : GD oc) (hP : ∀ p ∈ rest, p.1 ≠ 51)
    {sg x b y e : Int} {t u : Tok} (hx : 0 ≤ x) (hb : 0 < b) (hbn : Builtin.Int.intBits b ≤ 100) (hxb : (Builtin.Int.intBits x : Int) ≤ 16 * (Builtin.Int.intBits b : Int)) (hs : sg = 1 ∨ sg = -1) (hy : y = sg * x) (he : e = sg * b)
    (ret : ∀ c oc l' t1 t2 h' tk', GI oc → (∀ q ∈ rest, q.1 < c) → 51 < c → c < l' → Fr h₀ L h' m → News h₀ L h' ((l', tupOf [.int (x / b) t1, .int (sg * (x % b)) t2]) :: (51, tabI c) :: (c, oc) :: rest) → Q (.ref l') {s with heap := h', toks := tk'}) :
    wpAny (model PR w) (ktrTop dp un gd cn cs L a ccd cl outer) (call (.ref 77) [.int y t, .int e u]) Q E s := by
  rcases hs with rfl | rfl
  · rw [Int.one_mul] at hy he
    subst hy; subst he
    exact idiv_pos_fresh B F X N T hk (by omega) (by omega) C C' h58 hc hG hP hx hb hbn hxb (by simpa only [Int.one_mul] using ret)
  · exact idiv_neg_fresh B F X N T hk (by omega) (by omega) C C' h58 hc hG hP hx hb hbn hxb (by omega) (by omega) (by simpa only [Int.neg_mul, Int.one_mul] using ret)
theorem rst_P3 : True := by
  w_top off
  trivial
theorem r_small {a b : Int} (h0 : 0 ≤ a) (h1 : a ≤ 1000) (h2 : 0 ≤ b) (h3 : b ≤ 1000) : Builtin.Range.small a b 1 = true := by
  have hz := rangeSize_nat a b
  unfold Builtin.Range.small Builtin.Range.rangeFitsLong
  rw [hz]
  simp
  omega
theorem r_size {a b : Int} {n : Nat} (h : b - a = n) : Builtin.Range.rangeSize a b 1 = (n : Int) := by rw [rangeSize_nat, h]; rfl
/-! how a row is read as trees -/
def bturn (x : Int) (i : Nat) (st : List Int × Int) : List Int × Int :=
  (if st.2 = 0 then st.1 ++ [(i : Int)] else st.1, (if st.2 = 0 then 1 else st.2) + (if 256 ≤ x then x - 256 else -1))
def stAt (rs : List Int) : Nat → List Int × Int
  | 0 => ([], 0)
  | i + 1 => bturn (rs.getD i 0) i (stAt rs i)
def lb (rs : List Int) : List Int := if (stAt rs rs.length).2 = 0 then (stAt rs rs.length).1 else []
theorem stAt_len (rs : List Int) : ∀ i, (stAt rs i).1.length ≤ i
  | 0 => Nat.le_refl _
  | i + 1 => by
    have := stAt_len rs i
    unfold stAt bturn
    split
    · simp; omega
    · simp; omega
theorem sym_a {x : Int} (h : ([1, 2, 3].any fun y => y == x.fmod 8) = true) : 255 + x.fmod 8 = sym x := by
  unfold sym
  rw [if_pos]
  simp at h
  omega
theorem sym_b {x : Int} (h : ([1, 2, 3].any fun y => y == x.fmod 8) = false) : 1 + (x.fdiv 8).fmod 255 = sym x := by
  unfold sym
  rw [if_neg]
  simp at h
  omega
theorem loadX_H {M : Model} {A : Around} {E : Value → Shared → Prop} {s : Shared} {h₀ : Heap} {L a : Addr} {m m₁ : Str → Option Value} {cn : Str} {cs : Scope} {ccd : Value} {cl : List (Str × Addr)} {x : Str} {v : Value} {Q : Value → Shared → Prop}
    (F : Fr h₀ L s.heap m) (hv : Has m₁ x v) (e : m x = m₁ x) (h : Q v s)
    (hk : cs.kind = .function := by rfl) (hx : (envX cn cs L a ccd cl).kindOf x = some .local := by rfl) :
    wpAny M A (loadName (envX cn cs L a ccd cl) x) Q E s := wpAny_loadName_local hk hx F.ns (e.trans hv) h
theorem Has.int {m : Str → Option Value} {x : Str} {v v' : Int} {t : Tok} (h : Has m x (.int v t)) (e : v = v') : Has m x (.int v' t) := e ▸ h
theorem st_a {rs : List Int} {i : Nat} (h : (stAt rs i).2 = 0) : stAt rs (i + 1) = ((stAt rs i).1 ++ [0 + (i : Int)], 1 + (if 256 ≤ rs.getD (0 + (i : Int)).toNat 0 then rs.getD (0 + (i : Int)).toNat 0 - 256 else -1)) := by
  have e : (0 + (i : Int)).toNat = i := by omega
  have e2 : 0 + (i : Int) = i := by omega
  rw [e, e2, stAt, bturn, if_pos h, if_pos h]
theorem st_b {rs : List Int} {i : Nat} (h : (stAt rs i).2 ≠ 0) : stAt rs (i + 1) = ((stAt rs i).1, (stAt rs i).2 + (if 256 ≤ rs.getD (0 + (i : Int)).toNat 0 then rs.getD (0 + (i : Int)).toNat 0 - 256 else -1)) := by
  have e : (0 + (i : Int)).toNat = i := by omega
  rw [e, stAt, bturn, if_neg h, if_neg h]
theorem lb_a {rs : List Int} (h : (stAt rs rs.length).2 = 0) : (stAt rs rs.length).1 = lb rs := by unfold lb; rw [if_pos h]
theorem lb_b {rs : List Int} (h : (stAt rs rs.length).2 ≠ 0) : lb rs = [] := by unfold lb; rw [if_neg h]
theorem rst_SMALL : True := by
  w_top off
  trivial
theorem ister
    (B : Below A₀ base outer h₀) (F : Fr h₀ L s.heap m) (X : (Mine.hd.heap_39 w.params).In h₀) (N : News h₀ L s.heap news) (T : Top p loose mean mg mb h₀) (hk : cs.kind = .function)
    (hd : dp + 3 < recursionLimit) (hu : un + 24 < cLine) {x : Int} {t : Tok}
    (ret : ∀ h' tk', Fr h₀ L h' m → News h₀ L h' news → Q (.bool (decide (x < 256))) {s with heap := h', toks := tk'}) :
    wpAny (model PR w) (ktrTop dp un gd cn cs L a ccd cl outer) (call (.ref 21) [.int x t]) Q E s := by
  k_with_none
  refine wpAny_call ?_
  k_dflt ktr_enter
  k_steps
  all_goals exact ret _ _ (by k_asm) (by k_asm)
theorem isnon
    (B : Below A₀ base outer h₀) (F : Fr h₀ L s.heap m) (X : (Mine.hd.heap_39 w.params).In h₀) (N : News h₀ L s.heap news) (T : Top p loose mean mg mb h₀) (hk : cs.kind = .function)
    (hd : dp + 3 < recursionLimit) (hu : un + 24 < cLine) {x : Int} {t : Tok}
    (ret : ∀ h' tk', Fr h₀ L h' m → News h₀ L h' news → Q (.bool (decide (256 ≤ x))) {s with heap := h', toks := tk'}) :
    wpAny (model PR w) (ktrTop dp un gd cn cs L a ccd cl outer) (call (.ref 28) [.int x t]) Q E s := by
  k_with_none
  refine wpAny_call ?_
  k_dflt ktr_enter
  k_steps
  all_goals exact ret _ _ (by k_asm) (by k_asm)
theorem iseof
    (B : Below A₀ base outer h₀) (F : Fr h₀ L s.heap m) (X : (Mine.hd.heap_39 w.params).In h₀) (N : News h₀ L s.heap news) (T : Top p loose mean mg mb h₀) (hk : cs.kind = .function)
    (hd : dp + 3 < recursionLimit) (hu : un + 24 < cLine) {x : Int} {t : Tok}
    (ret : ∀ h' tk', Fr h₀ L h' m → News h₀ L h' news → Q (.bool (x == 0)) {s with heap := h', toks := tk'}) :
    wpAny (model PR w) (ktrTop dp un gd cn cs L a ccd cl outer) (call (.ref 35) [.int x t]) Q E s := by
  k_with_none
  refine wpAny_call ?_
  k_dflt ktr_enter
  k_steps
  all_goals exact ret _ _ (by k_asm) (by k_asm)
theorem symbol
    (B : Below A₀ base outer h₀) (F : Fr h₀ L s.heap m) (X : (Mine.hd.heap_39 w.params).In h₀) (N : News h₀ L s.heap news) (T : Top p loose mean mg mb h₀) (hk : cs.kind = .function)
    (hd : dp + 3 < recursionLimit) (hu : un + 24 < cLine) {x : Int} {t : Tok}
    (ret : ∀ t1 h' tk', Fr h₀ L h' m → News h₀ L h' news → Q (.int (sym x) t1) {s with heap := h', toks := tk'}) :
    wpAny (model PR w) (ktrTop dp un gd cn cs L a ccd cl outer) (call (.ref 84) [.int x t]) Q E s := by
  k_with_none
  refine wpAny_call ?_
  k_dflt ktr_enter
  k_steps
  · have e : 255 + x.fmod 8 = sym x := sym_a (by assumption)
    rw [e]
    exact ret _ _ _ (by k_asm) (drop1 (by k_asm))
  · have e : 1 + (x.fdiv 8).fmod 255 = sym x := sym_b (by assumption)
    rw [e]
    exact ret _ _ _ (by k_asm) (drop1 (by k_asm))
local macro_rules | `(tactic| walk_at "loadName") => `(tactic| (k_here; k_dflt (refine' loadX_H ?F ?hv ?e ?_ ?a ?b; (case a => rfl); (case b => rfl); (case F => k_asm); (case hv => with_reducible assumption); (case e => rfl); k_whole)))
theorem rst_BEG : True := by
  w_top off
  trivial
def BegJ (rs : List Int) (news : List (Addr × Obj)) (l lb' : Addr) (i : Nat) (m₁ : Str → Option Value) (n₁ : List (Addr × Obj)) : Prop :=
  ∃ ta vsb kb, Has m₁ (Str.ofString "row") (.ref l) ∧ Has m₁ (Str.ofString "begins") (.ref lb') ∧ Has m₁ (Str.ofString "awaited") (.int (stAt rs i).2 ta) ∧
    n₁ = (lb', listOf vsb.toArray kb) :: news ∧ IntsAre vsb (stAt rs i).1
theorem begins_spec
    (B : Below A₀ base outer h₀) (F : Fr h₀ L s.heap m) (X : (Mine.hd.heap_39 w.params).In h₀) (N : News h₀ L s.heap news) (T : Top p loose mean mg mb h₀) (hk : cs.kind = .function)
    (hd : dp + 10 < recursionLimit) (hu : un + 80 < cLine)
    {l : Addr} {vs : List Value} {rs : List Int} {k : Nat} (hl : (l, listOf vs.toArray k) ∈ news) (hi : IntsAre vs rs) (hlen : rs.length ≤ 16)
    (ret : ∀ l' vs' k' h' tk', (∀ q ∈ news, q.1 < l') → IntsAre vs' (lb rs) → Fr h₀ L h' m → News h₀ L h' ((l', listOf vs'.toArray k') :: news) → Q (.ref l') {s with heap := h', toks := tk'}) :
    wpAny (model PR w) (ktrTop dp un gd cn cs L a ccd cl outer) (call (.ref 91) [.ref l]) Q E s := by
  k_with_none
  k_with "callx" => (first | (k_dflt (refine' ister ?k1 ?k2 ?k3 ?k4 ?k5 ?kk ?kd ?ku ?_; (case k1 => k_asm); (case k2 => k_asm); (case k3 => k_asm); (case k4 => k_asm); (case k5 => k_asm); (case kk => first | exact rfl | assumption); (case kd => ktr_room); (case ku => ktr_units)); intro  h9 tk9 F9 N9; (try dsimp only); (try k_fold)) | (k_dflt (refine' isnon ?k1 ?k2 ?k3 ?k4 ?k5 ?kk ?kd ?ku ?_; (case k1 => k_asm); (case k2 => k_asm); (case k3 => k_asm); (case k4 => k_asm); (case k5 => k_asm); (case kk => first | exact rfl | assumption); (case kd => ktr_room); (case ku => ktr_units)); intro  h9 tk9 F9 N9; (try dsimp only); (try k_fold)) | (k_dflt (refine' iseof ?k1 ?k2 ?k3 ?k4 ?k5 ?kk ?kd ?ku ?_; (case k1 => k_asm); (case k2 => k_asm); (case k3 => k_asm); (case k4 => k_asm); (case k5 => k_asm); (case kk => first | exact rfl | assumption); (case kd => ktr_room); (case ku => ktr_units)); intro  h9 tk9 F9 N9; (try dsimp only); (try k_fold)))
  refine wpAny_call ?_
  k_dflt ktr_enter
  k_steps
  refine' range_loop (n := rs.length) (BegJ rs _ _ _) ?hh ?hr ?hsm ?hn ?F ?N ?h0 ?turn ?done
  case hh => rfl
  case hr => assumption
  case hsm => exact r_small (by omega) (by omega) (by omega) (by omega)
  case hn => exact r_size (by omega)
  case F => k_asm
  case N => k_asm
  case h0 =>
    unfold BegJ
    refine' ⟨_, [], 0, ?a1, ?a2, ?a3, ?a4, .nil⟩
    case a4 => exact rfl
    case a1 => exact rfl
    case a2 => exact rfl
    case a3 => exact rfl
  case turn =>
    intro I i t m₁ n₁ it h tk hin hlt hJ hoff F₁ N₁
    obtain ⟨ta, vsb, kb, hr₁, hb₁, ha₁, rfl, hib⟩ := hJ
    have hsl := stAt_len rs i
    have hvl : vsb.length ≤ 1000 := by rw [hib.length]; omega
    k_lt hlt
    k_steps
    · exfalso
      have hq : (decide (rs.getD (0 + (i : Int)).toNat 0 < 256) == decide (256 ≤ rs.getD (0 + (i : Int)).toNat 0)) = true := by assumption
      generalize rs.getD (0 + (i : Int)).toNat 0 = y at hq
      by_cases hy : y < 256
      · simp [hy] at hq
        omega
      · simp [hy] at hq
        try omega
    · refine' unr_drop 0 ?F ?N ?e ?off ⟨?keep, ?_⟩
      case F => k_asm
      case N => k_asm
      case e => exact rfl
      case off => k_all
      case keep => exact sub_nil
      unfold BegJ
      refine' ⟨_, _, _, hr₁, hb₁, ?a3, ?a4, ?a5⟩
      case a4 => exact rfl
      case a3 => (refine' Has.int ?q1 ?q2; (case q1 => exact rfl); (case q2 => rw [st_a (by assumption), if_pos (by assumption)]))
      case a5 =>
        rw [st_a (by assumption)]
        exact ints_snoc hib
    · refine' unr_drop 0 ?F ?N ?e ?off ⟨?keep, ?_⟩
      case F => k_asm
      case N => k_asm
      case e => exact rfl
      case off => k_all
      case keep => exact sub_nil
      unfold BegJ
      refine' ⟨_, _, _, hr₁, hb₁, ?a3, ?a4, ?a5⟩
      case a4 => exact rfl
      case a3 => (refine' Has.int ?q1 ?q2; (case q1 => exact rfl); (case q2 => rw [st_a (by assumption), if_neg (by assumption)]))
      case a5 =>
        rw [st_a (by assumption)]
        exact ints_snoc hib
    · refine' unr_drop 0 ?F ?N ?e ?off ⟨?keep, ?_⟩
      case F => k_asm
      case N => k_asm
      case e => exact rfl
      case off => k_all
      case keep => exact sub_nil
      unfold BegJ
      refine' ⟨_, _, _, hr₁, hb₁, ?a3, ?a4, ?a5⟩
      case a4 => exact rfl
      case a3 => (refine' Has.int ?q1 ?q2; (case q1 => exact rfl); (case q2 => rw [st_b (by assumption), if_pos (by assumption)]))
      case a5 =>
        rw [st_b (by assumption)]
        exact hib
    · refine' unr_drop 0 ?F ?N ?e ?off ⟨?keep, ?_⟩
      case F => k_asm
      case N => k_asm
      case e => exact rfl
      case off => k_all
      case keep => exact sub_nil
      unfold BegJ
      refine' ⟨_, _, _, hr₁, hb₁, ?a3, ?a4, ?a5⟩
      case a4 => exact rfl
      case a3 => (refine' Has.int ?q1 ?q2; (case q1 => exact rfl); (case q2 => rw [st_b (by assumption), if_neg (by assumption)]))
      case a5 =>
        rw [st_b (by assumption)]
        exact hib
  case done =>
    intro m₁ n₁ h tk hJ F₁ N₁
    obtain ⟨ta, vsb, kb, hr₁, hb₁, ha₁, rfl, hib⟩ := hJ
    k_steps
    · exact ret _ _ _ _ _ (lt_all_of_lt (by assumption)) (lb_a (by assumption) ▸ hib) (by k_asm) (by k_asm)
    · exact ret _ _ _ _ _ (lt_all_of_lt (by assumption)) (by rw [lb_b (by assumption)]; exact .nil) (by k_asm) (drop2nd (by k_asm))
theorem rst_P4 : True := by
  w_top off
  trivial
/-! the table of forests -/
def fval (c row : List Int) (t : Nat) : Int := c.getD 0 0 * row.getD t 0 + c.getD 1 0 * row.getD (t + 1) 0 + c.getD 2 0 * row.getD (t + 2) 0 + c.getD 3 0 * row.getD (t + 3) 0
def fpre (c row : List Int) : Nat → List Int
  | 0 => [0]
  | j + 1 => fpre c row j ++ [fval c row j]
def frow (c : List Int) : Nat → List Int
  | 0 => [1, 0, 0, 0, 0, 0, 0, 0, 0]
  | n + 1 => fpre c (frow c n) 4 ++ [0, 0, 0, 0]
/-- a list of references to lists of ints, as the ledger holds them -/
def KRows (refs : List Value) (R : List (Addr × Obj)) (rows : List (List Int)) : Prop :=
  refs.length = rows.length ∧ ∀ i, i < rows.length → ∃ a vs k, refs[i]? = some (.ref a) ∧ (a, listOf vs.toArray k) ∈ R ∧ IntsAre vs (rows.getD i [])
theorem KRows.mono {refs : List Value} {R R' : List (Addr × Obj)} {rows : List (List Int)} (h : KRows refs R rows) (hs : ∀ p ∈ R, p ∈ R') : KRows refs R' rows :=
  ⟨h.1, fun i hi => let ⟨a, vs, k, e1, e2, e3⟩ := h.2 i hi; ⟨a, vs, k, e1, hs _ e2, e3⟩⟩
theorem KRows.snoc {refs : List Value} {R : List (Addr × Obj)} {rows : List (List Int)} {a : Addr} {vs : List Value} {k : Nat} {row : List Int} (h : KRows refs R rows) (hi : IntsAre vs row) : KRows (refs ++ [.ref a]) ((a, listOf vs.toArray k) :: R) (rows ++ [row]) := by
  refine ⟨by rw [List.length_append, List.length_append, h.1]; rfl, fun i hi' => ?_⟩
  rw [List.length_append] at hi'
  by_cases hlt : i < rows.length
  · obtain ⟨a', vs', k', e1, e2, e3⟩ := h.2 i hlt
    refine ⟨a', vs', k', ?_, .tail _ e2, ?_⟩
    · rw [List.getElem?_append_left (by rw [h.1]; exact hlt)]; exact e1
    · rw [List.getD_eq_getElem?_getD, List.getElem?_append_left hlt, ← List.getD_eq_getElem?_getD]; exact e3
  · have e : i = rows.length := by simp at hi'; omega
    subst e
    refine ⟨a, vs, k, ?_, .head _, ?_⟩
    · rw [← h.1]; simp
    · simpa using hi
theorem pickFor {h₀ h : Heap} {L : Addr} {x1 x2 x3 x4 x5 c1 c2 c3 c4 : Addr × Obj} {rest : List (Addr × Obj)} (N : News h₀ L h (x1 :: x2 :: x3 :: x4 :: x5 :: c4 :: c3 :: c2 :: c1 :: rest)) : News h₀ L h (x1 :: c4 :: c3 :: c2 :: c1 :: x2 :: rest) := News.sub N (sub_cons (.head _) (sub_cons (.tail _ (.tail _ (.tail _ (.tail _ (.tail _ (.head _)))))) (sub_cons (.tail _ (.tail _ (.tail _ (.tail _ (.tail _ (.tail _ (.head _))))))) (sub_cons (.tail _ (.tail _ (.tail _ (.tail _ (.tail _ (.tail _ (.tail _ (.head _)))))))) (sub_cons (.tail _ (.tail _ (.tail _ (.tail _ (.tail _ (.tail _ (.tail _ (.tail _ (.head _))))))))) (sub_cons (.tail _ (.head _)) (sub_tail (sub_tail (sub_tail (sub_tail (sub_tail (sub_tail (sub_tail (sub_tail (sub_tail (fun _ h => h))))))))))))))))
theorem KRows.one {a : Addr} {vs : List Value} {k : Nat} {row : List Int} {rest : List (Addr × Obj)} (h : IntsAre vs row) : KRows [.ref a] ((a, listOf vs.toArray k) :: rest) [row] := by
  refine ⟨rfl, fun i hi => ?_⟩
  have e : i = 0 := by simpa using hi
  subst e
  exact ⟨a, vs, k, rfl, .head _, h⟩
theorem fpre_len (c row : List Int) : ∀ j, (fpre c row j).length = j + 1
  | 0 => rfl
  | j + 1 => by rw [fpre, List.length_append, fpre_len c row j]; rfl
theorem frow_len (c : List Int) : ∀ n, (frow c n).length = 9
  | 0 => rfl
  | n + 1 => by rw [frow, List.length_append, fpre_len]; rfl
theorem frows_get (c : List Int) {i j : Nat} (h : i < j) : ((List.range j).map (frow c)).getD i [] = frow c i := by
  simp [List.getD, h]
theorem fval_sum (c row : List Int) (j : Nat) : ((List.range 4).map (fun q => c.getD q 0 * row.getD (j + q) 0)).sum = fval c row j := by
  simp only [show List.range 4 = [0, 1, 2, 3] from rfl, List.map_cons, List.map_nil, List.sum_cons, List.sum_nil, fval, Nat.add_zero]
  omega
theorem pickEnd {h₀ h : Heap} {L : Addr} {x1 x2 x3 x4 x5 y1 y2 y3 y4 y5 : Addr × Obj} {tl : List (Addr × Obj)} (N : News h₀ L h (x1 :: x2 :: x3 :: x4 :: x5 :: y1 :: y2 :: y3 :: y4 :: y5 :: tl)) : News h₀ L h (x5 :: y1 :: y2 :: y3 :: y4 :: y5 :: x1 :: tl) := News.sub N (sub_cons (.tail _ (.tail _ (.tail _ (.tail _ (.head _))))) (sub_cons (.tail _ (.tail _ (.tail _ (.tail _ (.tail _ (.head _)))))) (sub_cons (.tail _ (.tail _ (.tail _ (.tail _ (.tail _ (.tail _ (.head _))))))) (sub_cons (.tail _ (.tail _ (.tail _ (.tail _ (.tail _ (.tail _ (.tail _ (.head _)))))))) (sub_cons (.tail _ (.tail _ (.tail _ (.tail _ (.tail _ (.tail _ (.tail _ (.tail _ (.head _))))))))) (sub_cons (.tail _ (.tail _ (.tail _ (.tail _ (.tail _ (.tail _ (.tail _ (.tail _ (.tail _ (.head _)))))))))) (sub_cons (.head _) (sub_tail (sub_tail (sub_tail (sub_tail (sub_tail (sub_tail (sub_tail (sub_tail (sub_tail (sub_tail (fun _ h => h))))))))))))))))))
theorem pickKn {h₀ h : Heap} {L : Addr} {x1 y1 y2 y3 y4 : Addr × Obj} {tl : List (Addr × Obj)} (N : News h₀ L h (x1 :: y1 :: y2 :: y3 :: y4 :: tl)) : News h₀ L h (x1 :: tl) := News.sub N (sub_cons (.head _) (sub_tail (sub_tail (sub_tail (sub_tail (sub_tail (fun _ h => h)))))))
theorem rst_COMP : True := by
  w_top off
  trivial
/-- an object that is a namespace of these names -/
def NsO (o : Obj) (m : Str → Option Value) : Prop := ∀ (h : Heap) (a : Addr), h.get? a = some o → h.Ns a m
theorem NsO.of {h : Heap} {a : Addr} {m : Str → Option Value} (x : h.Ns a m) : ∃ o, h.get? a = some o ∧ NsO o m := by
  obtain ⟨o, es, ep, ho, r⟩ := x
  exact ⟨o, ho, fun _ _ e => ⟨o, es, ep, e, r⟩⟩
theorem Fr.ext {h₀ h h' : Heap} {L : Addr} {m : Str → Option Value} (F : Fr h₀ L h m) (hk : ∀ b o, h.get? b = some o → h'.get? b = some o) : Fr h₀ L h' m :=
  ⟨F.ns.at' fun o e => hk _ o e, fun b o e => hk b o (F.keep b o e), F.above⟩
theorem Fr.but {h₀ h h' : Heap} {L a : Addr} {m : Str → Option Value} (F : Fr h₀ L h m) (ha : a ≠ L) (hz : h₀.get? a = none) (hk : ∀ b o, b ≠ a → h.get? b = some o → h'.get? b = some o) : Fr h₀ L h' m :=
  ⟨F.ns.at' fun o e => hk _ o (Ne.symm ha) e, fun b o e => hk b o (fun q => by rw [q, hz] at e; cases e) (F.keep b o e), F.above⟩
theorem News.but {h₀ h h' : Heap} {L a : Addr} {l : List (Addr × Obj)} (N : News h₀ L h l) (ho : ∀ p ∈ l, p.1 ≠ a) (hk : ∀ b o, b ≠ a → h.get? b = some o → h'.get? b = some o) : News h₀ L h' l :=
  fun p hp => ⟨hk _ _ (ho p hp) (N p hp).1, (N p hp).2⟩
theorem leN {a b : Nat} (h : a ≤ b) : a ≤ b := h
section
variable {prog : Program} {env : Env} {A : Around}
/-- a leaf of a comprehension ends where it began, but for what is new -/
def LeafTo (h₀ : Heap) (L : Addr) (m : Str → Option Value) (led : List (Addr × Obj)) (s : Shared) (s' : Shared) : Prop := ∃ h tk, s' = { s with heap := h, toks := tk } ∧ Fr h₀ L h m ∧ News h₀ L h led
def LeafEnd (h₀ : Heap) (L : Addr) (m : Str → Option Value) (led : List (Addr × Obj)) (s : Shared) (P : Prop) (s' : Shared) : Prop := LeafTo h₀ L m led s s' ∧ P
abbrev testsOf (ifs : List Expr) (env : Env) : Sem Bool := forIn ifs true fun c r => if r = true then do let ok ← isTrue c env (eval c env); pure (ForInStep.yield ok) else pure (ForInStep.yield r)
theorem comp_core {L : Addr} {elt iter : Expr} {x : Str} {px : Pos} {ifs : List Expr} {scope : Scope} {cl : List (Str × Addr)} {pos : Pos} {s : Shared} {I : Addr} {keep : List (Addr × Obj)} {n : Nat} {P : Nat → Value → Prop} {St : Nat → Heap → Prop}
    {m₀ : Str → Option Value} {news : List (Addr × Obj)} {it₀ : Obj} {E : Value → Shared → Prop} {RR : Value → Addr → Result → Shared → Prop}
    (W : Walks prog w A I (I :: keep.map (·.1)) [I] n P St) (hSt : ∀ i h, St i h → ∃ o, h.get? I = some o) (hn : n ≤ 1000) (J : Nat → List Value → Prop)
    (hst : St 0 s.heap) (F : Fr h₀ L s.heap m₀) (N : News h₀ L s.heap ((I, it₀) :: news)) (hoff : ∀ p ∈ news, p.1 ≠ I) (hkeep : ∀ p ∈ keep, p ∈ news) (h0 : J 0 []) (hJl : ∀ i acc, J i acc → acc.length ≤ i)
    (hcell : ∀ y ∈ scope.names, y.2 ≠ .cell) (hkind : scope.kind = .function) (hx : scope.names.lookup x = some .local)
    (turn : ∀ i v acc k C D oC mC it h tk, i < n → P i v → J i acc → NsO oC mC → mC x = some v → (∀ p ∈ news, p.1 < D) → D < C → I < D →
      Fr h₀ L h m₀ → News h₀ L h ((C, oC) :: (D, listOf acc.toArray k) :: (I, it) :: news) →
      wpAny (model prog w) A (testsOf ifs (compEnvC scope cl C env)) (fun ok s₃ => LeafTo h₀ L m₀ ((C, oC) :: (D, listOf acc.toArray k) :: (I, it) :: news) s s₃ ∧
        if ok = true then wpAny (model prog w) A (eval elt (compEnvC scope cl C env)) (fun y s₄ => LeafEnd h₀ L m₀ ((C, oC) :: (D, listOf acc.toArray k) :: (I, it) :: news) s (J (i + 1) (acc ++ [y])) s₄) (fun _ _ => False) s₃
        else J (i + 1) acc) (fun _ _ => False) { s with heap := h, toks := tk })
    (done : ∀ D C acc k h tk mC, J n acc → h.Ns C mC → C ≠ L → h₀.get? C = none → (∀ p ∈ (D, listOf acc.toArray k) :: news, p.1 ≠ C) → (∀ p ∈ news, p.1 < D) →
      Fr h₀ L h m₀ → News h₀ L h ((D, listOf acc.toArray k) :: news) → RR (.ref D) C (.ok .next) { s with heap := h, toks := tk }) :
    wpAny (model prog w) A (newList []) (fun acc s₃ => wpAny (model prog w) A (newFunctionEnv scope env.globals cl [] env.qual none .none (some env)) (fun cenv s₄ =>
      codeAny (model prog w) A (.compStart (.ListComp elt [⟨.Name x px, iter, ifs, 0⟩] scope pos) 0 (.ref I) acc { cenv with scope := relabel scope env }) (RR acc cenv.locals) s₄) E s₃) E s := by
  have hI := N (I, it₀) (.head _)
  have hLlt := ltN F.ns.lt
  have hIlt := ltN (Heap.lt_size hI.1)
  have hab := leN F.above
  refine wpAny_newObj_type (wpAny_newFunctionEnv hcell (by intro y hy; simp at hy) (fun h₁ hns₁ hsb₁ => ?_) hkind)
  dsimp only at hns₁ hsb₁ ⊢
  have FD := F.push { cls := .type "list", data := .seq ([] : List Value).toArray }
  have ND := News.push F N { cls := .type "list", data := .seq ([] : List Value).toArray }
  generalize hH2 : s.heap.push { cls := .type "list", dict := none, data := .seq ([] : List Value).toArray } = H2 at hns₁ hsb₁ FD ND ⊢
  have hC : H2.objs.size = s.heap.objs.size + 1 := by rw [← hH2, Heap.size_push]
  generalize hD : s.heap.objs.size = D at *
  generalize hCC : H2.objs.size = C at *
  have hCL : C ≠ L := neN (by omega)
  have hzC : h₀.get? C = none := Heap.get?_none_of_le (leN (by omega))
  have lt : ∀ p ∈ news, @LT.lt Nat _ p.1 D := fun p hp => by rw [← hD]; exact Heap.lt_size (N p (.tail _ hp)).1
  have k₁ : ∀ b o, b ≠ C → H2.get? b = some o → h₁.get? b = some o := fun b o hb e => hsb₁.extBut b o hb (Heap.get?_push_of_some _ e)
  have offC : ∀ {acc : List Value} {k : Nat} {it : Obj}, ∀ p ∈ (D, listOf acc.toArray k) :: (I, it) :: news, p.1 ≠ C := fun p hp => by
    rcases List.mem_cons.mp hp with rfl | hp
    · exact neN (by dsimp only; omega)
    · rcases List.mem_cons.mp hp with rfl | hp
      · exact neN (by dsimp only; omega)
      · exact neN (by have := lt p hp; omega)
  obtain ⟨oC₁, hoC₁, hNs₁⟩ := NsO.of hns₁
  have F₁ : Fr h₀ L h₁ m₀ := Fr.but FD hCL hzC k₁
  have N₁ : News h₀ L h₁ ((C, oC₁) :: (D, listOf ([] : List Value).toArray 0) :: (I, it₀) :: news) := fun p hp => by
    rcases List.mem_cons.mp hp with rfl | hp
    · exact ⟨hoC₁, hCL, hzC⟩
    · exact News.but ND (offC (acc := []) (k := 0) (it := it₀)) k₁ p hp
  have hst₁ : St 0 h₁ := W.frame _ _ _ hst fun b hb o e => by
    refine k₁ b o ?_ (hH2 ▸ Heap.get?_push_of_some _ e)
    have := ltN (Heap.lt_size e)
    exact neN (by omega)
  have loop : ∀ s₃ : Shared, s₃ = { s with heap := h₁, toks := s.toks + ([] : List (Str × Value)).length } →
      codeAny (model prog w) A (.compLoop (.ListComp elt [⟨.Name x px, iter, ifs, 0⟩] scope pos) 0 (.ref I) (.ref D) (compEnvC scope cl C env)) (RR (.ref D) C) s₃ := by
    rintro s₃ rfl
    refine codeAny_compLoop_tests (fun k s' => ∃ i h tk mC oC acc kk it, k = n - i ∧ i ≤ n ∧ s' = { s with heap := h, toks := tk } ∧ St i h ∧ Fr h₀ L h m₀ ∧ News h₀ L h ((C, oC) :: (D, listOf acc.toArray kk) :: (I, it) :: news) ∧ NsO oC mC ∧ J i acc) ?_ n
      ⟨0, h₁, _, _, oC₁, [], 0, it₀, by omega, Nat.zero_le _, rfl, hst₁, F₁, N₁, hNs₁, h0⟩
    rintro k s' ⟨i, h, tk, mC, oC, acc, kk, it, rfl, hi, rfl, hst', F', N', hNs, hJ⟩
    have offI : ∀ p ∈ (C, oC) :: (D, listOf acc.toArray kk) :: news, p.1 ≠ I := fun p hp => by
      rcases List.mem_cons.mp hp with rfl | hp
      · exact neN (by dsimp only; omega)
      · rcases List.mem_cons.mp hp with rfl | hp
        · exact neN (by dsimp only; omega)
        · exact hoff p hp
    by_cases hlt : i < n
    · refine W.item i _ _ _ hlt hst' fun v h' tk' hP hst'' hk => ?_
      have hk' : ∀ b o, b ≠ I → h.get? b = some o → h'.get? b = some o := fun b o hb e => hk b o (fun q => hb (List.mem_singleton.mp q)) e
      obtain ⟨it', hit'⟩ := hSt _ _ hst''
      have F2 : Fr h₀ L h' m₀ := Fr.but F' hI.2.1 hI.2.2 hk'
      have N2 : News h₀ L h' ((C, oC) :: (D, listOf acc.toArray kk) :: (I, it') :: news) := fun p hp => by
        by_cases hpI : p.1 = I
        · have : p = (I, it') := by
            rcases List.mem_cons.mp hp with rfl | hp
            · exact absurd hpI (neN (by omega))
            · rcases List.mem_cons.mp hp with rfl | hp
              · exact absurd hpI (neN (by omega))
              · rcases List.mem_cons.mp hp with rfl | hp
                · rfl
                · exact absurd hpI (hoff p hp)
          subst this
          exact ⟨hit', hI.2⟩
        · have hp' : p ∈ (C, oC) :: (D, listOf acc.toArray kk) :: (I, it) :: news := by
            rcases List.mem_cons.mp hp with rfl | hp
            · exact .head _
            · rcases List.mem_cons.mp hp with rfl | hp
              · exact .tail _ (.head _)
              · rcases List.mem_cons.mp hp with rfl | hp
                · exact absurd rfl hpI
                · exact .tail _ (.tail _ (.tail _ hp))
          exact ⟨hk' _ _ hpI (N' p hp').1, (N' p hp').2⟩
      refine wpAny_assign_Name (wpAny_storeName_local (env := compEnvC scope cl C env) (lookup_relabel_local hx) (hNs _ _ (N2 _ (.head _)).1) (fun h'' hn'' hs'' => ?_) (by simp [compEnvC, relabel, hkind]))
      obtain ⟨oC2, hoC2, hNs2⟩ := NsO.of hn''
      have k2 : ∀ b o, b ≠ C → h'.get? b = some o → h''.get? b = some o := fun b o hb e => hs''.extBut b o hb e
      have F3 : Fr h₀ L h'' m₀ := Fr.but F2 hCL hzC k2
      have N3 : News h₀ L h'' ((C, oC2) :: (D, listOf acc.toArray kk) :: (I, it') :: news) := fun p hp => by
        rcases List.mem_cons.mp hp with rfl | hp
        · exact ⟨hoC2, hCL, hzC⟩
        · exact News.but (fun q hq => N2 q (.tail _ hq)) (offC (acc := acc) (k := kk) (it := it')) k2 p hp
      have hst3 : ∀ h3, News h₀ L h3 ((C, oC2) :: (D, listOf acc.toArray kk) :: (I, it') :: news) → St (i + 1) h3 := fun h3 N3' => W.frame _ _ _ hst'' fun b hb o e => by
        rcases List.mem_cons.mp hb with rfl | hb
        · rw [hit'] at e; cases e
          exact (N3' _ (.tail _ (.tail _ (.head _)))).1
        · obtain ⟨q, hq, rfl⟩ := List.mem_map.mp hb
          have hq2 : q ∈ (C, oC2) :: (D, listOf acc.toArray kk) :: (I, it') :: news := .tail _ (.tail _ (.tail _ (hkeep q hq)))
          have hq3 : q ∈ (C, oC) :: (D, listOf acc.toArray kk) :: (I, it') :: news := .tail _ (.tail _ (.tail _ (hkeep q hq)))
          rw [(N2 q hq3).1] at e; cases e
          exact (N3' q hq2).1
      refine wpAny_noRaise (wpAny_mono (turn i v acc kk C D oC2 _ it' h'' _ hlt hP hJ hNs2 (if_pos rfl) lt (ltN (by omega)) (ltN (by omega)) F3 N3) (fun ok s₃ hs₃ => ?_) fun _ _ z => z)
      obtain ⟨⟨h3, tk3, rfl, F4, N4⟩, hrest⟩ := hs₃
      by_cases hok : ok = true
      · rw [if_pos hok] at hrest ⊢
        refine wpAny_noRaise (wpAny_mono hrest (fun y s₄ hs₄ => ?_) fun _ _ z => z)
        obtain ⟨⟨h4, tk4, rfl, F5, N5⟩, hJ'⟩ := hs₄
        have hal := hJl i acc hJ
        refine append_own (news' := (C, oC2) :: (D, listOf (acc ++ [y]).toArray (kk + 1)) :: (I, it') :: news) F5 N5 (.tail (neN (by omega)) (.head fun p hp => ?_)) (by omega) fun h5 F6 N6 => ?_
        · rcases List.mem_cons.mp hp with rfl | hp
          · exact neN (by dsimp only; omega)
          · exact neN (by have := lt p hp; omega)
        · refine ⟨n - (i + 1), by omega, i + 1, h5, tk4, _, oC2, acc ++ [y], kk + 1, it', rfl, hlt, rfl, ?_, F6, N6, hNs2, hJ'⟩
          refine W.frame _ _ _ (hst3 _ N5) fun b hb o e => ?_
          rcases List.mem_cons.mp hb with rfl | hb
          · rw [(N5 _ (.tail _ (.tail _ (.head _)))).1] at e; cases e
            exact (N6 _ (.tail _ (.tail _ (.head _)))).1
          · obtain ⟨q, hq, rfl⟩ := List.mem_map.mp hb
            rw [(N5 q (.tail _ (.tail _ (.tail _ (hkeep q hq))))).1] at e; cases e
            exact (N6 q (.tail _ (.tail _ (.tail _ (hkeep q hq))))).1
      · rw [if_neg hok] at hrest ⊢
        exact ⟨n - (i + 1), by omega, i + 1, h3, tk3, _, oC2, acc, kk, it', rfl, hlt, rfl, hst3 _ N4, F4, N4, hNs2, hrest⟩
    · have : i = n := by omega
      subst this
      refine W.done _ _ _ hst' fun h' tk' hk => ?_
      have hk' : ∀ b o, b ≠ I → h.get? b = some o → h'.get? b = some o := fun b o hb e => hk b o (fun q => hb (List.mem_singleton.mp q)) e
      have F2 : Fr h₀ L h' m₀ := Fr.but F' hI.2.1 hI.2.2 hk'
      have N2 : News h₀ L h' ((C, oC) :: (D, listOf acc.toArray kk) :: news) := News.but (fun q hq => N' q (by
        rcases List.mem_cons.mp hq with rfl | hq
        · exact .head _
        · rcases List.mem_cons.mp hq with rfl | hq
          · exact .tail _ (.head _)
          · exact .tail _ (.tail _ (.tail _ hq)))) offI hk'
      refine done D C acc kk h' tk' mC hJ (hNs _ _ (N2 _ (.head _)).1) hCL hzC (fun p hp => ?_) lt F2 fun q hq => N2 q (.tail _ hq)
      rcases List.mem_cons.mp hp with rfl | hp
      · exact neN (by dsimp only; omega)
      · exact neN (by have := lt p hp; omega)
  exact codeAny_compStart_list (loop _ rfl) (W.self 0 _ _ _ hst₁ (loop _ rfl))
abbrev CompAt (prog : Program) (w : World) (A : Around) (env : Env) (elt : Expr) (x : Str) (px : Pos) (iter : Expr) (ifs : List Expr) (scope : Scope) (cl : List (Str × Addr)) (pos : Pos) (RR : Value → Addr → Result → Shared → Prop) (E : Value → Shared → Prop) (it : Value) (s₂ : Shared) : Prop :=
  wpAny (model prog w) A (newList []) (fun acc s₃ => wpAny (model prog w) A (newFunctionEnv scope env.globals cl [] env.qual none .none (some env)) (fun cenv s₄ =>
      codeAny (model prog w) A (.compStart (.ListComp elt [⟨.Name x px, iter, ifs, 0⟩] scope pos) 0 it acc { cenv with scope := relabel scope env }) (RR acc cenv.locals) s₄) E s₃) E s₂
def PyIt (prog : Program) (w : World) (A : Around) (xv : Value) (P : Value → Shared → Prop) (E : Value → Shared → Prop) (s : Shared) : Prop := wpAny (model prog w) A (pyIter xv) P E s
theorem comp_eval {elt iter : Expr} {x : Str} {px : Pos} {ifs : List Expr} {scope : Scope} {cl : List (Str × Addr)} {pos : Pos} {s : Shared} {Q E : Value → Shared → Prop}
    (hclos : closureFor scope env = pure cl) (hkind : scope.kind = .function) (hnames : ∀ y ∈ scope.names, y.2 = .local → scope.names.lookup y.1 = some .local)
    (h : wpAny (model prog w) A (eval iter env) (fun xv s₁ => PyIt prog w A xv (fun it s₂ => CompAt prog w A env elt x px iter ifs scope cl pos (fun acc C => compPost (model prog w) A E none Q acc C) E it s₂) E s₁) E s)
    (hs : ∀ x, foldedSetIterable iter env x = pure x := by intro _; rfl) :
    wpAny (model prog w) A (eval (.ListComp elt [⟨.Name x px, iter, ifs, 0⟩] scope pos) env) Q E s := by
  rw [eval_ListComp]
  exact wpAny_comprehension_free (use := none) rfl hs hclos hkind hnames h
theorem comp_assign {elt iter : Expr} {x y : Str} {px py : Pos} {ifs : List Expr} {scope : Scope} {cl : List (Str × Addr)} {pos spos : Pos} {s : Shared} {E : Value → Shared → Prop} {Q : Flow → Shared → Prop}
    (hsw : swapsWith (.ListComp elt [⟨.Name x px, iter, ifs, 0⟩] scope pos) (some (.Name y py)) spos.line env = pure true)
    (hclos : closureFor scope env = pure cl) (hkind : scope.kind = .function) (hnames : ∀ y ∈ scope.names, y.2 = .local → scope.names.lookup y.1 = some .local)
    (h : wpAny (model prog w) A (eval iter env) (fun xv s₁ => PyIt prog w A xv (fun it s₂ => CompAt prog w A env elt x px iter ifs scope cl pos (fun acc C => compPost (model prog w) A E (some (assign (.Name y py) env)) (fun _ s' => Q .next s') acc C) E it s₂) E s₁) E s)
    (hs : ∀ x, foldedSetIterable iter env x = pure x := by intro _; rfl) :
    wpAny (model prog w) A (exec (.Assign [.Name y py] (.ListComp elt [⟨.Name x px, iter, ifs, 0⟩] scope pos) spos) env) Q E s := by
  rw [exec_Assign_Name_used _ _ _ _ hsw]
  refine wpAny_bind (wpAny_standAt (wpAny_bind ?_))
  show wpAny _ _ (do let _ ← comprehension (.ListComp elt [⟨.Name x px, iter, ifs, 0⟩] scope pos) scope env (firstIterPos [⟨.Name x px, iter, ifs, 0⟩] pos) (newList []) false (eval iter env) (some (assign (.Name y py) env))) _ _ _
  refine wpAny_bind (wpAny_mono (wpAny_comprehension_free (use := some (assign (.Name y py) env)) rfl hs hclos hkind hnames h) (fun _ s' hq => ?_) fun _ _ e => e)
  exact wpAny_pure (wpAny_pure hq)
theorem post_none {L : Addr} {s : Shared} {Q E : Value → Shared → Prop} {D C : Addr} {h : Heap} {tk : Nat} {mC m₀ : Str → Option Value} {led : List (Addr × Obj)} (hC : h.Ns C mC) (hCL : C ≠ L) (hz : h₀.get? C = none) (ho : ∀ p ∈ led, p.1 ≠ C)
    (F : Fr h₀ L h m₀) (N : News h₀ L h led) (k : ∀ h', Fr h₀ L h' m₀ → News h₀ L h' led → Q (.ref D) { s with heap := h', toks := tk }) :
    compPost (model prog w) A E none Q (.ref D) C (.ok .next) { s with heap := h, toks := tk } :=
  ⟨mC, hC, fun h' hs => k h' (Fr.but F hCL hz fun b o hb e => hs.extBut b o hb e) (News.but N ho fun b o hb e => hs.extBut b o hb e)⟩
theorem post_use {s : Shared} {Q : Flow → Shared → Prop} {E : Value → Shared → Prop} {D C : Addr} {h : Heap} {tk : Nat} {mC m₀ : Str → Option Value} {led : List (Addr × Obj)} {y : Str} {py : Pos} (hC : h.Ns C mC) (hCL : C ≠ env.locals) (hz : h₀.get? C = none) (ho : ∀ p ∈ led, p.1 ≠ C)
    (F : Fr h₀ env.locals h m₀) (N : News h₀ env.locals h led) (hy : env.kindOf y = some .local) (hp : (env.scope.kind == .class || (env.scope.kind == .module && env.locals != env.globals)) = false)
    (k : ∀ h' tk', Fr h₀ env.locals h' (fun z => if z = y then some (.ref D) else m₀ z) → News h₀ env.locals h' led → Q .next { s with heap := h', toks := tk' }) :
    compPost (model prog w) A E (some (assign (.Name y py) env)) (fun _ s' => Q .next s') (.ref D) C (.ok .next) { s with heap := h, toks := tk } := by
  refine wpAny_assign_Name (wpAny_storeName_local hy F.ns (fun h' hn' hs' => ?_) hp)
  refine ⟨mC, hC.sameBut hs' hCL, fun h'' hs'' => k h'' _ (Fr.but (F.set hn' hs') hCL hz fun b o hb e => hs''.extBut b o hb e) (News.but (N.set hs') ho fun b o hb e => hs''.extBut b o hb e)⟩
theorem comp_list {L : Addr} {elt iter : Expr} {x : Str} {px : Pos} {ifs : List Expr} {scope : Scope} {cl : List (Str × Addr)} {pos : Pos} {s : Shared} {l : Addr} {vs : List Value} {k₀ : Nat} {m₀ : Str → Option Value} {news : List (Addr × Obj)} {E : Value → Shared → Prop} {RR : Value → Addr → Result → Shared → Prop}
    (J : Nat → List Value → Prop) (hh : A.handled = none) (hn : vs.length ≤ 1000) (F : Fr h₀ L s.heap m₀) (N : News h₀ L s.heap news) (hm : (l, listOf vs.toArray k₀) ∈ news) (h0 : J 0 []) (hJl : ∀ i acc, J i acc → acc.length ≤ i)
    (hcell : ∀ y ∈ scope.names, y.2 ≠ .cell) (hkind : scope.kind = .function) (hx : scope.names.lookup x = some .local)
    (turn : ∀ I i v acc k C D oC mC it h tk, i < vs.length → vs[i]? = some v → J i acc → NsO oC mC → mC x = some v → (∀ p ∈ news, p.1 < I) → D < C → I < D →
      Fr h₀ L h m₀ → News h₀ L h ((C, oC) :: (D, listOf acc.toArray k) :: (I, it) :: news) →
      wpAny (model prog w) A (testsOf ifs (compEnvC scope cl C env)) (fun ok s₃ => LeafTo h₀ L m₀ ((C, oC) :: (D, listOf acc.toArray k) :: (I, it) :: news) s s₃ ∧
        if ok = true then wpAny (model prog w) A (eval elt (compEnvC scope cl C env)) (fun y s₄ => LeafEnd h₀ L m₀ ((C, oC) :: (D, listOf acc.toArray k) :: (I, it) :: news) s (J (i + 1) (acc ++ [y])) s₄) (fun _ _ => False) s₃
        else J (i + 1) acc) (fun _ _ => False) { s with heap := h, toks := tk })
    (done : ∀ D C acc k h tk mC, J vs.length acc → h.Ns C mC → C ≠ L → h₀.get? C = none → (∀ p ∈ (D, listOf acc.toArray k) :: news, p.1 ≠ C) → (∀ p ∈ news, p.1 < D) →
      Fr h₀ L h m₀ → News h₀ L h ((D, listOf acc.toArray k) :: news) → RR (.ref D) C (.ok .next) { s with heap := h, toks := tk }) :
    wpAny (model prog w) A (pyIter (.ref l)) (fun it s₂ => CompAt prog w A env elt x px iter ifs scope cl pos RR E it s₂) E s := by
  have hl : s.heap.IsList l vs.toArray := News.isList N hm
  have lt : ∀ p ∈ news, p.1 < s.heap.objs.size := fun p hp => Heap.lt_size (N p hp).1
  refine wpAny_pyIter_list hl ?_
  have W := Walks.list (prog := prog) (w := w) hh s.heap.objs.size l (Nat.ne_of_lt (lt _ hm)) vs.toArray
  have hlen : vs.toArray.size = vs.length := by simp
  rw [hlen] at W
  let s' : Shared := { s with heap := s.heap.push { cls := .type "list_iterator", data := .fields #[.ref l, .int 0 0] } }
  have F' : Fr h₀ L s'.heap m₀ := F.push _
  have N' : News h₀ L s'.heap ((s.heap.objs.size, { cls := .type "list_iterator", data := .fields #[.ref l, .int 0 0] }) :: news) := News.push F N _
  refine comp_core (s := s') (keep := [(l, listOf vs.toArray k₀)]) (P := fun i v => vs[i]? = some v) (St := fun i h => h.IsListIter s.heap.objs.size l i ∧ h.IsList l vs.toArray) ?_ ?_ hn J ?_ F' N' (fun p hp => Nat.ne_of_lt (lt p hp)) (by simpa using hm) h0 hJl hcell hkind hx ?_ ?_
  · simpa using W
  · rintro i h ⟨⟨o, ho, _⟩, _⟩
    exact ⟨o, ho⟩
  · exact ⟨⟨_, Heap.get?_push_size _ rfl, rfl, rfl⟩, hl.push _⟩
  · intro i v acc k C D oC mC it h tk h1 h2 h3 h4 h5 h6 h7 h8 F1 N1
    exact turn _ i v acc k C D oC mC it h tk h1 h2 h3 h4 h5 lt h7 h8 F1 N1
  · intro D C acc k h tk mC h1 h2 h3 h4 h5 h6 F1 N1
    exact done D C acc k h tk mC h1 h2 h3 h4 h5 h6 F1 N1
theorem comp_range {L : Addr} {elt iter : Expr} {x : Str} {px : Pos} {ifs : List Expr} {scope : Scope} {cl : List (Str × Addr)} {pos : Pos} {s : Shared} {r : Addr} {a₀ b₀ : Int} {t₀ u₀ v₀ : Tok} {n : Nat} {m₀ : Str → Option Value} {news : List (Addr × Obj)} {E : Value → Shared → Prop} {RR : Value → Addr → Result → Shared → Prop}
    (J : Nat → List Value → Prop) (hh : A.handled = none) (hr : IsRange s.heap r a₀ b₀ 1 t₀ u₀ v₀) (hsmall : Builtin.Range.small a₀ b₀ 1 = true) (hsz : Builtin.Range.rangeSize a₀ b₀ 1 = (n : Int)) (hn : n ≤ 1000) (F : Fr h₀ L s.heap m₀) (N : News h₀ L s.heap news) (h0 : J 0 []) (hJl : ∀ i acc, J i acc → acc.length ≤ i)
    (hcell : ∀ y ∈ scope.names, y.2 ≠ .cell) (hkind : scope.kind = .function) (hx : scope.names.lookup x = some .local)
    (turn : ∀ I i t acc k C D oC mC it h tk, i < n → J i acc → NsO oC mC → mC x = some (.int (a₀ + (i : Int)) t) → (∀ p ∈ news, p.1 < I) → D < C → I < D →
      Fr h₀ L h m₀ → News h₀ L h ((C, oC) :: (D, listOf acc.toArray k) :: (I, it) :: news) →
      wpAny (model prog w) A (testsOf ifs (compEnvC scope cl C env)) (fun ok s₃ => LeafTo h₀ L m₀ ((C, oC) :: (D, listOf acc.toArray k) :: (I, it) :: news) s s₃ ∧
        if ok = true then wpAny (model prog w) A (eval elt (compEnvC scope cl C env)) (fun y s₄ => LeafEnd h₀ L m₀ ((C, oC) :: (D, listOf acc.toArray k) :: (I, it) :: news) s (J (i + 1) (acc ++ [y])) s₄) (fun _ _ => False) s₃
        else J (i + 1) acc) (fun _ _ => False) { s with heap := h, toks := tk })
    (done : ∀ D C acc k h tk mC, J n acc → h.Ns C mC → C ≠ L → h₀.get? C = none → (∀ p ∈ (D, listOf acc.toArray k) :: news, p.1 ≠ C) → (∀ p ∈ news, p.1 < D) →
      Fr h₀ L h m₀ → News h₀ L h ((D, listOf acc.toArray k) :: news) → RR (.ref D) C (.ok .next) { s with heap := h, toks := tk }) :
    wpAny (model prog w) A (pyIter (.ref r)) (fun it s₂ => CompAt prog w A env elt x px iter ifs scope cl pos RR E it s₂) E s := by
  have lt : ∀ p ∈ news, p.1 < s.heap.objs.size := fun p hp => Heap.lt_size (N p hp).1
  refine wpAny_pyIter_range hr hsmall ?_
  have W := Walks.range (prog := prog) (w := w) hh s.heap.objs.size a₀ 1 n
  let s' : Shared := { s with heap := s.heap.push { cls := .type "range_iterator", data := .fields #[rawInt a₀, rawInt (Builtin.Range.rangeSize a₀ b₀ 1), rawInt 1] } }
  have F' : Fr h₀ L s'.heap m₀ := F.push _
  have N' : News h₀ L s'.heap ((s.heap.objs.size, { cls := .type "range_iterator", data := .fields #[rawInt a₀, rawInt (Builtin.Range.rangeSize a₀ b₀ 1), rawInt 1] }) :: news) := News.push F N _
  refine comp_core (s := s') (keep := []) (P := fun i v => ∃ t, v = .int (a₀ + i * 1) t) (St := fun i h => IsRangeIter h s.heap.objs.size (a₀ + (i : Nat) * 1) ((n : Int) - (i : Nat)) 1) W ?_ hn J ?_ F' N' (fun p hp => Nat.ne_of_lt (lt p hp)) (fun _ h => nomatch h) h0 hJl hcell hkind hx ?_ ?_
  · intro i h hs
    exact ⟨_, hs⟩
  · show IsRangeIter (s.heap.push { cls := .type "range_iterator", data := .fields #[rawInt a₀, rawInt (Builtin.Range.rangeSize a₀ b₀ 1), rawInt 1] }) _ _ _ _
    rw [hsz]
    simpa using Heap.get?_push_size _ rfl
  · rintro i v acc k C D oC mC it h tk h1 ⟨t, rfl⟩ h3 h4 h5 h6 h7 h8 F1 N1
    have e1 : a₀ + (i : Int) * 1 = a₀ + (i : Int) := by rw [Int.mul_one]
    rw [e1] at h5
    exact turn _ i t acc k C D oC mC it h tk h1 h3 h4 h5 lt h7 h8 F1 N1
  · intro D C acc k h tk mC h1 h2 h3 h4 h5 h6 F1 N1
    exact done D C acc k h tk mC h1 h2 h3 h4 h5 h6 F1 N1
end
theorem rst_LEAF : True := by
  w_top off
  trivial
section
variable {M : Model} {A : Around} {K : Frag} {e' : Env} {x : Str} {pos : Pos} {v : Value}
theorem nm_local {C : Addr} {oC : Obj} {mC : Str → Option Value} {scope : Scope} {clo : List (Str × Addr)} (N : News h₀ L s.heap news) (hm : (C, oC) ∈ news) (hNs : NsO oC mC) (hx : mC x = some v) (h : Q v s)
    (hk : scope.kind = .function) (hl : (compEnvC scope clo C e').kindOf x = some .local) (hd : (x == ("__debug__" : Str)) = false := by decide) :
    wpAny M A (eval (.Name x pos) (compEnvC scope clo C e')) Q E s := wpAny_Name (wpAny_loadName_local (env := compEnvC scope clo C e') hk hl (hNs _ _ (N _ hm).1) hx h) hd
theorem nm_cell {c : Addr} {o : Obj} (N : News h₀ L s.heap news) (hc : e'.cells.lookup x = some c) (hm : (c, o) ∈ news) (hd : o.data = .cell (some v)) (h : Q v s)
    (hk : e'.scope.kind = .function) (hx : e'.kindOf x = some .cell) (hb : (x == ("__debug__" : Str)) = false := by decide) :
    wpAny M A (eval (.Name x pos) e') Q E s := wpAny_Name (wpAny_loadName_cell hk hx hc ⟨o, N.get hm, hd⟩ h) hb
theorem nm_free {c : Addr} {o : Obj} (N : News h₀ L s.heap news) (hc : e'.cells.lookup x = some c) (hm : (c, o) ∈ news) (hd : o.data = .cell (some v)) (h : Q v s)
    (hk : e'.scope.kind = .function) (hx : e'.kindOf x = some .free) (hb : (x == ("__debug__" : Str)) = false := by decide) (hn : (x == ("__classdict__" : Str)) = false := by decide) :
    wpAny M A (eval (.Name x pos) e') Q E s := wpAny_Name (wpAny_loadName_free hk hx hc ⟨o, N.get hm, hd⟩ h hn) hb
theorem nm_glob {mg mb : Str → Option Value} {p : Program} {loose : List Str} (F : Fr h₀ L s.heap m) (X : K.In h₀) (T : TopRead p loose mg mb h₀) (e : nsIn K mainGlobals x = some (some v)) (h : Q v s)
    (hg : e'.globals = mainGlobals) (hk : e'.scope.kind = .function) (hx : e'.kindOf x = some .globalImplicit) (hd : (x == ("__debug__" : Str)) = false := by decide) :
    wpAny M A (eval (.Name x pos) e') Q E s := PySem.Calls.Name_function_global hk hx (PySem.Calls.loadGlobal_global (env := e') (hg ▸ T.g.keeps F.keep) (mg_of X T.g e) h) hd
theorem nm_blt {mg mb : Str → Option Value} {p : Program} {loose : List Str} (F : Fr h₀ L s.heap m) (X : K.In h₀) (T : TopRead p loose mg mb h₀) (e : nsIn K mainGlobals x = some none) (hv : bootBuiltins x = some v) (hn : x ≠ "__name__") (h : Q v s)
    (hg : e'.globals = mainGlobals) (hb : e'.builtins = builtinsNs) (hk : e'.scope.kind = .function) (hx : e'.kindOf x = some .globalImplicit) (hd : (x == ("__debug__" : Str)) = false := by decide) :
    wpAny M A (eval (.Name x pos) e') Q E s := PySem.Calls.Name_function_global hk hx (PySem.Calls.loadGlobal_builtin (env := e') (hg ▸ T.g.keeps F.keep) (mg_none_of X T.g e) (hb ▸ T.b.keeps F.keep) ((T.builtins x hn).trans hv) h) hd
theorem no_tests {prog : Program} {P : Bool → Shared → Prop} {E' : Value → Shared → Prop} (h : P true s) : wpAny (model prog w) A (testsOf [] e') P E' s := wpAny_pure h
theorem one_test {prog : Program} {c : Expr} {P : Bool → Shared → Prop} {E' : Value → Shared → Prop} (h : wpAny (model prog w) A (isTrue c e' (eval c e')) P E' s) : wpAny (model prog w) A (testsOf [c] e') P E' s := by
  show wpAny _ _ (forIn [c] true _) _ _ _
  rw [List.forIn_cons]
  refine wpAny_bind ?_
  rw [if_pos rfl]
  exact wpAny_bind (wpAny_mono h (fun ok s' hp => wpAny_pure (wpAny_pure hp)) fun _ _ e => e)
theorem item_own {prog : Program} {value slice : Expr} {l : Addr} {vs : List Value} {n : Nat} {k : Int} {u : Tok} (N : News h₀ L s.heap news) (hm : (l, listOf vs.toArray n) ∈ news) (h0 : 0 ≤ k) (hhi : k < 2 ^ 63) (hx : vs[k.toNat]? = some v) (h : Q v s)
    (hs : subscripted slice false (.ref l) (.int k u) = operate [.ref l, .int k u] (getItem (.ref l) (.int k u)) := by with_unfolding_all rfl) :
    wpAny (model prog w) A (subscriptTail value slice (.ref l) (.int k u)) Q E s :=
  have hl := News.isList N hm
  tail_any hl.typeIs slot_list_getitem.lookup (wpAny_getItem_list hl h0 hhi (by simpa using hx) h) hs
end
local macro_rules | `(tactic| walk_at "eval Name") => `(tactic| (k_here; (with_reducible show wpAny _ _ (eval (PySem.Expr.Name _ _) (compEnvC _ _ _ _)) _ _ _); k_dflt (first | (refine' nm_local ?N ?m ?ns ?v ?_ ?a ?b; (case a => rfl); (case b => rfl); (case N => k_asm); (case m => k_mem); (case ns => assumption); (case v => assumption); k_whole) | (refine' nm_cell ?N ?c ?m ?d ?_ ?a ?b; (case a => rfl); (case b => rfl); (case N => k_asm); (case c => rfl); (case m => k_mem); (case d => assumption); k_whole) | (refine' nm_free ?N ?c ?m ?d ?_ ?a ?b; (case a => rfl); (case b => rfl); (case N => k_asm); (case c => rfl); (case m => k_mem); (case d => assumption); k_whole) | (refine' nm_glob ?F ?X ?T ?e ?_ ?g ?a ?b; (case F => k_asm); (case X => k_asm); (case T => k_asm); (case g => rfl); (case a => rfl); (case b => rfl); (case e => k_is); k_whole) | (refine' nm_blt ?F ?X ?T ?e ?v ?n ?_ ?g ?h ?a ?b; (case F => k_asm); (case X => k_asm); (case T => k_asm); (case g => rfl); (case h => rfl); (case a => rfl); (case b => rfl); (case e => k_is); (case v => boot_fast); (case n => decide); k_whole))))
local macro_rules | `(tactic| walk_at "subscriptTail") => `(tactic| (k_here; (with_reducible show wpAny _ _ (subscriptTail _ _ (Value.ref _) (Value.int _ _)) _ _ _); k_dflt (refine' item_own ?N ?m ?z ?f ?x ?_ ?s; (case N => k_asm); (case m => k_mem); (case z => omega); (case f => omega); (case x => assumption); (case s => with_unfolding_all rfl); k_whole)))
local macro_rules | `(tactic| walk_at "binaryOp Mult int int") => `(tactic| (k_here; k_extra "mul"))
local macro_rules | `(tactic| walk_at "eval ListComp") => `(tactic| (k_here; k_dflt (refine' comp_eval ?cl ?k ?n ?_ ?s; (case cl => exact rfl); (case k => exact rfl); (case n => decide); (case s => (intro _; rfl)); k_whole)))
local macro_rules | `(tactic| walk_at "exec Assign cons ListComp") => `(tactic| (k_here; k_dflt (refine' comp_assign ?sw ?cl ?k ?n ?_ ?s; (case sw => with_unfolding_all rfl); (case cl => exact rfl); (case k => exact rfl); (case n => decide); (case s => (intro _; rfl)); k_whole)))
local macro_rules | `(tactic| walk_at "subscriptTail Name Name ref int") => `(tactic| (k_here; (with_reducible show wpAny _ _ (subscriptTail _ _ (Value.ref _) (Value.int _ _)) _ _ _); k_dflt (refine' item_own ?N ?m ?z ?f ?x ?_ ?s; (case N => k_asm); (case m => k_mem); (case z => omega); (case f => omega); (case x => assumption); (case s => with_unfolding_all rfl); k_whole)))
local macro_rules | `(tactic| walk_at "subscriptTail Subscript Name Name BinOp ref int") => `(tactic| (k_here; (with_reducible show wpAny _ _ (subscriptTail _ _ (Value.ref _) (Value.int _ _)) _ _ _); k_dflt (refine' ksa_sub ?k1 ?k2 ?k3 ?k4 ?k5 ?k6 ?_ ?k7; (case k1 => k_asm); (case k2 => k_mem); (case k3 => with_reducible assumption); (case k4 => omega); (case k5 => omega); (case k6 => omega); (case k7 => with_unfolding_all rfl); k_whole); intro _))
theorem rst_COMPC : True := by
  w_top off
  trivial
section
variable {prog : Program} {env : Env} {A : Around}
theorem newEnv_cell {M : Model} {scope : Scope} {x : Str} {cl : List (Str × Addr)} {globals : Addr} {qual : Str} {Q : Env → Shared → Prop} {E : Value → Shared → Prop}
    (hcells : ∀ b, cellsFrom b scope.names cl = (x, b) :: cl) (hpush : ∀ h, pushCells h scope.names = h.push { cls := .type "cell", data := .cell none })
    (hQ : Q (newEnv scope s.heap.objs.size globals ((x, s.heap.objs.size + 1) :: cl) qual none .none (some env) builtinsNs) { s with heap := (s.heap.push { cls := .type "dict", data := .dict #[] }).push { cls := .type "cell", data := .cell none } }) :
    wpAny M A (newFunctionEnv scope globals cl [] qual none .none (some env)) Q E s := by
  simp only [newFunctionEnv, Option.isSome_some, if_true]
  refine wpAny_bind (wpAny_alloc ?_)
  refine wpAny_bind (wpAny_layCells _ (fun name kind cells => by cases hkc : kind == NameKind.cell <;> simp [hkc]) _ _ _ _ ?_)
  rw [show ({ s with heap := s.heap.push { cls := .type "dict", data := .dict #[] } } : Shared).heap.objs.size = s.heap.objs.size + 1 from Heap.size_push .., hcells, hpush]
  exact wpAny_bind (wpAny_pure (wpAny_pure hQ))
theorem comp_coreC {L : Addr} {elt iter : Expr} {x : Str} {px : Pos} {ifs : List Expr} {scope : Scope} {cl : List (Str × Addr)} {pos : Pos} {s : Shared} {I : Addr} {keep : List (Addr × Obj)} {n : Nat} {P : Nat → Value → Prop} {St : Nat → Heap → Prop}
    {m₀ : Str → Option Value} {news : List (Addr × Obj)} {it₀ : Obj} {E : Value → Shared → Prop} {RR : Value → Addr → Result → Shared → Prop}
    (W : Walks prog w A I (I :: keep.map (·.1)) [I] n P St) (hSt : ∀ i h, St i h → ∃ o, h.get? I = some o) (hn : n ≤ 1000) (J : Nat → List Value → Prop)
    (hst : St 0 s.heap) (F : Fr h₀ L s.heap m₀) (N : News h₀ L s.heap ((I, it₀) :: news)) (hoff : ∀ p ∈ news, p.1 ≠ I) (hkeep : ∀ p ∈ keep, p ∈ news) (h0 : J 0 []) (hJl : ∀ i acc, J i acc → acc.length ≤ i)
    (hcells : ∀ b, cellsFrom b scope.names cl = (x, b) :: cl) (hpush : ∀ h, pushCells h scope.names = h.push { cls := .type "cell", data := .cell none }) (hkind : scope.kind = .function) (hx : (relabel scope env).names.lookup x = some .cell)
    (turn : ∀ i v acc k C D c oC oc mC it h tk, i < n → P i v → J i acc → NsO oC mC → oc.data = .cell (some v) → (∀ p ∈ news, p.1 < D) → D < C → I < D → C < c →
      Fr h₀ L h m₀ → News h₀ L h ((c, oc) :: (C, oC) :: (D, listOf acc.toArray k) :: (I, it) :: news) →
      wpAny (model prog w) A (testsOf ifs (compEnvC scope ((x, c) :: cl) C env)) (fun ok s₃ => LeafTo h₀ L m₀ ((c, oc) :: (C, oC) :: (D, listOf acc.toArray k) :: (I, it) :: news) s s₃ ∧
        if ok = true then wpAny (model prog w) A (eval elt (compEnvC scope ((x, c) :: cl) C env)) (fun y s₄ => LeafEnd h₀ L m₀ ((c, oc) :: (C, oC) :: (D, listOf acc.toArray k) :: (I, it) :: news) s (J (i + 1) (acc ++ [y])) s₄) (fun _ _ => False) s₃
        else J (i + 1) acc) (fun _ _ => False) { s with heap := h, toks := tk })
    (done : ∀ D C acc k h tk mC, J n acc → h.Ns C mC → C ≠ L → h₀.get? C = none → (∀ p ∈ (D, listOf acc.toArray k) :: news, p.1 ≠ C) → (∀ p ∈ news, p.1 < D) →
      Fr h₀ L h m₀ → News h₀ L h ((D, listOf acc.toArray k) :: news) → RR (.ref D) C (.ok .next) { s with heap := h, toks := tk }) :
    wpAny (model prog w) A (newList []) (fun acc s₃ => wpAny (model prog w) A (newFunctionEnv scope env.globals cl [] env.qual none .none (some env)) (fun cenv s₄ =>
      codeAny (model prog w) A (.compStart (.ListComp elt [⟨.Name x px, iter, ifs, 0⟩] scope pos) 0 (.ref I) acc { cenv with scope := relabel scope env }) (RR acc cenv.locals) s₄) E s₃) E s := by
  have hI := N (I, it₀) (.head _)
  have hLlt := ltN F.ns.lt
  have hIlt := ltN (Heap.lt_size hI.1)
  have hab := leN F.above
  refine wpAny_newObj_type (newEnv_cell hcells hpush ?_)
  have FD := F.push { cls := .type "list", data := .seq ([] : List Value).toArray }
  have ND := News.push F N { cls := .type "list", data := .seq ([] : List Value).toArray }
  generalize hH2 : s.heap.push { cls := .type "list", dict := none, data := .seq ([] : List Value).toArray } = H2 at FD ND ⊢
  have hC : H2.objs.size = s.heap.objs.size + 1 := by rw [← hH2, Heap.size_push]
  have FC := FD.push { cls := .type "dict", data := .dict #[] }
  have NC := News.push FD ND { cls := .type "dict", data := .dict #[] }
  have hns := Heap.Ns.new H2 (.type "dict")
  generalize hH3 : H2.push { cls := .type "dict", dict := none, data := .dict #[] } = H3 at FC NC hns ⊢
  have hc3 : H3.objs.size = H2.objs.size + 1 := by rw [← hH3, Heap.size_push]
  have FE := FC.push { cls := .type "cell", data := .cell none }
  have NE := News.push FC NC { cls := .type "cell", data := .cell none }
  have hst₁ : St 0 (H3.push { cls := .type "cell", data := .cell none }) := W.frame _ _ _ hst fun b hb o e => Heap.get?_push_of_some _ (hH3 ▸ Heap.get?_push_of_some _ (hH2 ▸ Heap.get?_push_of_some _ e))
  show codeAny (model prog w) A (.compStart (.ListComp elt [⟨.Name x px, iter, ifs, 0⟩] scope pos) 0 (.ref I) (.ref s.heap.objs.size) (compEnvC scope ((x, H2.objs.size + 1) :: cl) H2.objs.size env)) (RR (.ref s.heap.objs.size) H2.objs.size) { s with heap := H3.push { cls := .type "cell", data := .cell none } }
  generalize hH4 : H3.push { cls := .type "cell", dict := none, data := .cell none } = H4 at FE NE hst₁ ⊢
  rw [← hc3]
  generalize hD : s.heap.objs.size = D at *
  generalize hCC : H2.objs.size = C at *
  generalize hcc : H3.objs.size = c at *
  obtain ⟨oC, hoC₁, hNs⟩ := NsO.of hns
  have hoC : oC = { cls := .type "dict", data := .dict #[] } := by
    have e := (NC _ (.head _)).1
    rw [hoC₁] at e
    exact Option.some.inj e
  rw [← hoC] at NE
  have hCL : C ≠ L := neN (by omega)
  have hcL : c ≠ L := neN (by omega)
  have hzC : h₀.get? C = none := Heap.get?_none_of_le (leN (by omega))
  have hzc : h₀.get? c = none := Heap.get?_none_of_le (leN (by omega))
  have lt : ∀ p ∈ news, @LT.lt Nat _ p.1 D := fun p hp => by rw [← hD]; exact Heap.lt_size (N p (.tail _ hp)).1
  have offc : ∀ {acc : List Value} {k : Nat} {it : Obj}, ∀ p ∈ (C, oC) :: (D, listOf acc.toArray k) :: (I, it) :: news, p.1 ≠ c := fun p hp => by
    rcases List.mem_cons.mp hp with rfl | hp
    · exact neN (by dsimp only; omega)
    · rcases List.mem_cons.mp hp with rfl | hp
      · exact neN (by dsimp only; omega)
      · rcases List.mem_cons.mp hp with rfl | hp
        · exact neN (by dsimp only; omega)
        · exact neN (by have := lt p hp; omega)
  have loop : ∀ s₃ : Shared, s₃ = { s with heap := H4 } →
      codeAny (model prog w) A (.compLoop (.ListComp elt [⟨.Name x px, iter, ifs, 0⟩] scope pos) 0 (.ref I) (.ref D) (compEnvC scope ((x, c) :: cl) C env)) (RR (.ref D) C) s₃ := by
    rintro s₃ rfl
    refine codeAny_compLoop_tests (fun k s' => ∃ i h tk oc v₀ acc kk it, k = n - i ∧ i ≤ n ∧ s' = { s with heap := h, toks := tk } ∧ St i h ∧ Fr h₀ L h m₀ ∧ News h₀ L h ((c, oc) :: (C, oC) :: (D, listOf acc.toArray kk) :: (I, it) :: news) ∧ oc.data = .cell v₀ ∧ J i acc) ?_ n
      ⟨0, H4, _, _, none, [], 0, it₀, by omega, Nat.zero_le _, rfl, hst₁, FE, NE, rfl, h0⟩
    rintro k s' ⟨i, h, tk, oc, v₀, acc, kk, it, rfl, hi, rfl, hst', F', N', hoc, hJ⟩
    have offI : ∀ p ∈ (c, oc) :: (C, oC) :: (D, listOf acc.toArray kk) :: news, p.1 ≠ I := fun p hp => by
      rcases List.mem_cons.mp hp with rfl | hp
      · exact neN (by dsimp only; omega)
      · rcases List.mem_cons.mp hp with rfl | hp
        · exact neN (by dsimp only; omega)
        · rcases List.mem_cons.mp hp with rfl | hp
          · exact neN (by dsimp only; omega)
          · exact hoff p hp
    by_cases hlt : i < n
    · refine W.item i _ _ _ hlt hst' fun v h' tk' hP hst'' hk => ?_
      have hk' : ∀ b o, b ≠ I → h.get? b = some o → h'.get? b = some o := fun b o hb e => hk b o (fun q => hb (List.mem_singleton.mp q)) e
      obtain ⟨it', hit'⟩ := hSt _ _ hst''
      have F2 : Fr h₀ L h' m₀ := Fr.but F' hI.2.1 hI.2.2 hk'
      have N2 : News h₀ L h' ((c, oc) :: (C, oC) :: (D, listOf acc.toArray kk) :: (I, it') :: news) := fun p hp => by
        by_cases hpI : p.1 = I
        · have : p = (I, it') := by
            rcases List.mem_cons.mp hp with rfl | hp
            · exact absurd hpI (neN (by omega))
            · rcases List.mem_cons.mp hp with rfl | hp
              · exact absurd hpI (neN (by omega))
              · rcases List.mem_cons.mp hp with rfl | hp
                · exact absurd hpI (neN (by omega))
                · rcases List.mem_cons.mp hp with rfl | hp
                  · rfl
                  · exact absurd hpI (hoff p hp)
          subst this
          exact ⟨hit', hI.2⟩
        · have hp' : p ∈ (c, oc) :: (C, oC) :: (D, listOf acc.toArray kk) :: (I, it) :: news := by
            rcases List.mem_cons.mp hp with rfl | hp
            · exact .head _
            · rcases List.mem_cons.mp hp with rfl | hp
              · exact .tail _ (.head _)
              · rcases List.mem_cons.mp hp with rfl | hp
                · exact .tail _ (.tail _ (.head _))
                · rcases List.mem_cons.mp hp with rfl | hp
                  · exact absurd rfl hpI
                  · exact .tail _ (.tail _ (.tail _ (.tail _ hp)))
          exact ⟨hk' _ _ hpI (N' p hp').1, (N' p hp').2⟩
      refine wpAny_assign_Name (wpAny_storeName_cell (env := compEnvC scope ((x, c) :: cl) C env) hkind hx (by simp [compEnvC]) ⟨oc, (N2 _ (.head _)).1, hoc⟩ (fun h'' hc'' hs'' => ?_))
      obtain ⟨oc2, hoc2, hocd⟩ := hc''
      have k2 : ∀ b o, b ≠ c → h'.get? b = some o → h''.get? b = some o := fun b o hb e => hs''.extBut b o hb e
      have F3 : Fr h₀ L h'' m₀ := Fr.but F2 hcL hzc k2
      have N3 : News h₀ L h'' ((c, oc2) :: (C, oC) :: (D, listOf acc.toArray kk) :: (I, it') :: news) := fun p hp => by
        rcases List.mem_cons.mp hp with rfl | hp
        · exact ⟨hoc2, hcL, hzc⟩
        · exact News.but (fun q hq => N2 q (.tail _ hq)) (offc (acc := acc) (k := kk) (it := it')) k2 p hp
      have hst3 : ∀ h3, News h₀ L h3 ((c, oc2) :: (C, oC) :: (D, listOf acc.toArray kk) :: (I, it') :: news) → St (i + 1) h3 := fun h3 N3' => W.frame _ _ _ hst'' fun b hb o e => by
        rcases List.mem_cons.mp hb with rfl | hb
        · rw [hit'] at e; cases e
          exact (N3' _ (.tail _ (.tail _ (.tail _ (.head _))))).1
        · obtain ⟨q, hq, rfl⟩ := List.mem_map.mp hb
          have hq2 : q ∈ (c, oc2) :: (C, oC) :: (D, listOf acc.toArray kk) :: (I, it') :: news := .tail _ (.tail _ (.tail _ (.tail _ (hkeep q hq))))
          have hq3 : q ∈ (c, oc) :: (C, oC) :: (D, listOf acc.toArray kk) :: (I, it') :: news := .tail _ (.tail _ (.tail _ (.tail _ (hkeep q hq))))
          rw [(N2 q hq3).1] at e; cases e
          exact (N3' q hq2).1
      refine wpAny_noRaise (wpAny_mono (turn i v acc kk C D c oC oc2 _ it' h'' _ hlt hP hJ hNs hocd lt (ltN (by omega)) (ltN (by omega)) (ltN (by omega)) F3 N3) (fun ok s₃ hs₃ => ?_) fun _ _ z => z)
      obtain ⟨⟨h3, tk3, rfl, F4, N4⟩, hrest⟩ := hs₃
      by_cases hok : ok = true
      · rw [if_pos hok] at hrest ⊢
        refine wpAny_noRaise (wpAny_mono hrest (fun y s₄ hs₄ => ?_) fun _ _ z => z)
        obtain ⟨⟨h4, tk4, rfl, F5, N5⟩, hJ'⟩ := hs₄
        have hal := hJl i acc hJ
        refine append_own (news' := (c, oc2) :: (C, oC) :: (D, listOf (acc ++ [y]).toArray (kk + 1)) :: (I, it') :: news) F5 N5 (.tail (neN (by omega)) (.tail (neN (by omega)) (.head fun p hp => ?_))) (by omega) fun h5 F6 N6 => ?_
        · rcases List.mem_cons.mp hp with rfl | hp
          · exact neN (by dsimp only; omega)
          · exact neN (by have := lt p hp; omega)
        · refine ⟨n - (i + 1), by omega, i + 1, h5, tk4, oc2, some v, acc ++ [y], kk + 1, it', rfl, hlt, rfl, ?_, F6, N6, hocd, hJ'⟩
          refine W.frame _ _ _ (hst3 _ N5) fun b hb o e => ?_
          rcases List.mem_cons.mp hb with rfl | hb
          · rw [(N5 _ (.tail _ (.tail _ (.tail _ (.head _))))).1] at e; cases e
            exact (N6 _ (.tail _ (.tail _ (.tail _ (.head _))))).1
          · obtain ⟨q, hq, rfl⟩ := List.mem_map.mp hb
            rw [(N5 q (.tail _ (.tail _ (.tail _ (.tail _ (hkeep q hq)))))).1] at e; cases e
            exact (N6 q (.tail _ (.tail _ (.tail _ (.tail _ (hkeep q hq)))))).1
      · rw [if_neg hok] at hrest ⊢
        exact ⟨n - (i + 1), by omega, i + 1, h3, tk3, oc2, some v, acc, kk, it', rfl, hlt, rfl, hst3 _ N4, F4, N4, hocd, hrest⟩
    · have : i = n := by omega
      subst this
      refine W.done _ _ _ hst' fun h' tk' hk => ?_
      have hk' : ∀ b o, b ≠ I → h.get? b = some o → h'.get? b = some o := fun b o hb e => hk b o (fun q => hb (List.mem_singleton.mp q)) e
      have F2 : Fr h₀ L h' m₀ := Fr.but F' hI.2.1 hI.2.2 hk'
      have N2 : News h₀ L h' ((c, oc) :: (C, oC) :: (D, listOf acc.toArray kk) :: news) := News.but (fun q hq => N' q (by
        rcases List.mem_cons.mp hq with rfl | hq
        · exact .head _
        · rcases List.mem_cons.mp hq with rfl | hq
          · exact .tail _ (.head _)
          · rcases List.mem_cons.mp hq with rfl | hq
            · exact .tail _ (.tail _ (.head _))
            · exact .tail _ (.tail _ (.tail _ (.tail _ hq))))) offI hk'
      refine done D C acc kk h' tk' _ hJ (hNs _ _ (N2 _ (.tail _ (.head _))).1) hCL hzC (fun p hp => ?_) lt F2 fun q hq => N2 q (.tail _ (.tail _ hq))
      rcases List.mem_cons.mp hp with rfl | hp
      · exact neN (by dsimp only; omega)
      · exact neN (by have := lt p hp; omega)
  exact codeAny_compStart_list (loop _ rfl) (W.self 0 _ _ _ hst₁ (loop _ rfl))
theorem comp_rangeC {L : Addr} {elt iter : Expr} {x : Str} {px : Pos} {ifs : List Expr} {scope : Scope} {cl : List (Str × Addr)} {pos : Pos} {s : Shared} {r : Addr} {a₀ b₀ : Int} {t₀ u₀ v₀ : Tok} {n : Nat} {m₀ : Str → Option Value} {news : List (Addr × Obj)} {E : Value → Shared → Prop} {RR : Value → Addr → Result → Shared → Prop}
    (J : Nat → List Value → Prop) (hh : A.handled = none) (hr : IsRange s.heap r a₀ b₀ 1 t₀ u₀ v₀) (hsmall : Builtin.Range.small a₀ b₀ 1 = true) (hsz : Builtin.Range.rangeSize a₀ b₀ 1 = (n : Int)) (hn : n ≤ 1000) (F : Fr h₀ L s.heap m₀) (N : News h₀ L s.heap news) (h0 : J 0 []) (hJl : ∀ i acc, J i acc → acc.length ≤ i)
    (hcells : ∀ b, cellsFrom b scope.names cl = (x, b) :: cl) (hpush : ∀ h, pushCells h scope.names = h.push { cls := .type "cell", data := .cell none }) (hkind : scope.kind = .function) (hx : (relabel scope env).names.lookup x = some .cell)
    (turn : ∀ I i t acc k C D c oC oc mC it h tk, i < n → J i acc → NsO oC mC → oc.data = .cell (some (.int (a₀ + (i : Int)) t)) → (∀ p ∈ news, p.1 < I) → D < C → I < D → C < c →
      Fr h₀ L h m₀ → News h₀ L h ((c, oc) :: (C, oC) :: (D, listOf acc.toArray k) :: (I, it) :: news) →
      wpAny (model prog w) A (testsOf ifs (compEnvC scope ((x, c) :: cl) C env)) (fun ok s₃ => LeafTo h₀ L m₀ ((c, oc) :: (C, oC) :: (D, listOf acc.toArray k) :: (I, it) :: news) s s₃ ∧
        if ok = true then wpAny (model prog w) A (eval elt (compEnvC scope ((x, c) :: cl) C env)) (fun y s₄ => LeafEnd h₀ L m₀ ((c, oc) :: (C, oC) :: (D, listOf acc.toArray k) :: (I, it) :: news) s (J (i + 1) (acc ++ [y])) s₄) (fun _ _ => False) s₃
        else J (i + 1) acc) (fun _ _ => False) { s with heap := h, toks := tk })
    (done : ∀ D C acc k h tk mC, J n acc → h.Ns C mC → C ≠ L → h₀.get? C = none → (∀ p ∈ (D, listOf acc.toArray k) :: news, p.1 ≠ C) → (∀ p ∈ news, p.1 < D) →
      Fr h₀ L h m₀ → News h₀ L h ((D, listOf acc.toArray k) :: news) → RR (.ref D) C (.ok .next) { s with heap := h, toks := tk }) :
    wpAny (model prog w) A (pyIter (.ref r)) (fun it s₂ => CompAt prog w A env elt x px iter ifs scope cl pos RR E it s₂) E s := by
  have lt : ∀ p ∈ news, p.1 < s.heap.objs.size := fun p hp => Heap.lt_size (N p hp).1
  refine wpAny_pyIter_range hr hsmall ?_
  have W := Walks.range (prog := prog) (w := w) hh s.heap.objs.size a₀ 1 n
  let s' : Shared := { s with heap := s.heap.push { cls := .type "range_iterator", data := .fields #[rawInt a₀, rawInt (Builtin.Range.rangeSize a₀ b₀ 1), rawInt 1] } }
  have F' : Fr h₀ L s'.heap m₀ := F.push _
  have N' : News h₀ L s'.heap ((s.heap.objs.size, { cls := .type "range_iterator", data := .fields #[rawInt a₀, rawInt (Builtin.Range.rangeSize a₀ b₀ 1), rawInt 1] }) :: news) := News.push F N _
  refine comp_coreC (s := s') (keep := []) (P := fun i v => ∃ t, v = .int (a₀ + i * 1) t) (St := fun i h => IsRangeIter h s.heap.objs.size (a₀ + (i : Nat) * 1) ((n : Int) - (i : Nat)) 1) W ?_ hn J ?_ F' N' (fun p hp => Nat.ne_of_lt (lt p hp)) (fun _ h => nomatch h) h0 hJl hcells hpush hkind hx ?_ ?_
  · intro i h hs
    exact ⟨_, hs⟩
  · show IsRangeIter (s.heap.push { cls := .type "range_iterator", data := .fields #[rawInt a₀, rawInt (Builtin.Range.rangeSize a₀ b₀ 1), rawInt 1] }) _ _ _ _
    rw [hsz]
    simpa using Heap.get?_push_size _ rfl
  · rintro i v acc k C D c oC oc mC it h tk h1 ⟨t, rfl⟩ h3 h4 h5 h6 h7 h8 h9 F1 N1
    have e1 : a₀ + (i : Int) * 1 = a₀ + (i : Int) := by rw [Int.mul_one]
    rw [e1] at h5
    exact turn _ i t acc k C D c oC oc mC it h tk h1 h3 h4 h5 lt h7 h8 h9 F1 N1
  · intro D C acc k h tk mC h1 h2 h3 h4 h5 h6 F1 N1
    exact done D C acc k h tk mC h1 h2 h3 h4 h5 h6 F1 N1
end
theorem post_useR {prog : Program} {env : Env} {A : Around} {s : Shared} {R : Shared → Prop} {E : Value → Shared → Prop} {D C : Addr} {h : Heap} {tk : Nat} {mC m₀ : Str → Option Value} {led : List (Addr × Obj)} {y : Str} {py : Pos} (hC : h.Ns C mC) (hCL : C ≠ env.locals) (hz : h₀.get? C = none) (ho : ∀ p ∈ led, p.1 ≠ C)
    (F : Fr h₀ env.locals h m₀) (N : News h₀ env.locals h led) (hy : env.kindOf y = some .local) (hp : (env.scope.kind == .class || (env.scope.kind == .module && env.locals != env.globals)) = false)
    (k : ∀ h' tk', Fr h₀ env.locals h' (fun z => if z = y then some (.ref D) else m₀ z) → News h₀ env.locals h' led → R { s with heap := h', toks := tk' }) :
    compPost (model prog w) A E (some (assign (.Name y py) env)) (fun _ s' => R s') (.ref D) C (.ok .next) { s with heap := h, toks := tk } :=
  post_use (Q := fun _ => R) hC hCL hz ho F N hy hp k
theorem rst_FOR : True := by
  w_top off
  trivial
def ForJ (c : List Int) (news : List (Addr × Obj)) (l lk cT cN cK cC : Addr) (i : Nat) (_ : Str → Option Value) (n₁ : List (Addr × Obj)) : Prop :=
  ∃ refs kk oT oN oK oC vT vN tl, oT.data = .cell vT ∧ oN.data = .cell vN ∧ oK.data = .cell (some (.ref lk)) ∧ oC.data = .cell (some (.ref l)) ∧
    n₁ = (lk, listOf refs.toArray kk) :: (cT, oT) :: (cN, oN) :: (cK, oK) :: (cC, oC) :: tl ∧ KRows refs tl ((List.range (i + 1)).map (frow c)) ∧ (∀ q ∈ news, q ∈ tl) ∧ (∀ p ∈ tl, p.1 ≠ cT) ∧ (∀ p ∈ tl, p.1 ≠ cN) ∧ (∀ p ∈ tl, p.1 ≠ lk)
def InJ (c row : List Int) (lr cT : Addr) (x1 x2 : Addr × Obj) (rest : List (Addr × Obj)) (j : Nat) (m₁ : Str → Option Value) (n₁ : List (Addr × Obj)) : Prop :=
  ∃ vsr kr oT vT, oT.data = .cell vT ∧ Has m₁ (Str.ofString "row") (.ref lr) ∧ n₁ = (lr, listOf vsr.toArray kr) :: x1 :: x2 :: (cT, oT) :: rest ∧ IntsAre vsr (fpre c row j)
theorem forests_spec
    (B : Below A₀ base outer h₀) (F : Fr h₀ L s.heap m) (X : (Mine.hd.heap_39 w.params).In h₀) (N : News h₀ L s.heap news) (T : Top p loose mean mg mb h₀) (hk : cs.kind = .function)
    (hd : dp + 10 < recursionLimit) (hu : un + 80 < cLine)
    {l : Addr} {vs : List Value} {c : List Int} {k : Nat} (hl : (l, listOf vs.toArray k) ∈ news) (hi : IntsAre vs c) (hlen : c.length = 4) (hcb : ∀ i, 0 ≤ c.getD i 0 ∧ c.getD i 0 ≤ 16)
    (ret : ∀ l' refs kk tl h' tk', KRows refs tl ((List.range 5).map (frow c)) → (∀ q ∈ news, q ∈ tl) → Fr h₀ L h' m → News h₀ L h' ((l', listOf refs.toArray kk) :: tl) → Q (.ref l') {s with heap := h', toks := tk'}) :
    wpAny (model PR w) (ktrTop dp un gd cn cs L a ccd cl outer) (call (.ref 96) [.ref l]) Q E s := by
  k_with_none
  refine wpAny_call ?_
  k_dflt (refine' code_defC ?k1 ?k2 ?k3 ?k4 ?k5 ?kA ?kF ?kK ?k6 ?k7 ?k8 ?k9 ?kB ?kD ?_ ?c2 ?c3 ?c4; (case kA => exact rfl); (case kF => exact rfl); (case kK => assumption); (case k1 => k_asm); (case k2 => k_asm); (case k3 => k_asm); (case k4 => k_asm); (case k5 => k_asm); (case k6 => k_is); (case k7 => k_is); (case k8 => ktr_room); (case k9 => exact BindsTo.of_eq rfl); (case kB => exact rfl); (case kD => decide +kernel); (case c2 => exact rfl); (case c3 => exact rfl); (case c4 => exact rfl); k_whole; intro g' L' h' tk' cells' FG' F' N' Y' B' X' T' l1; (try k_lt l1); k_cells Y'; (try simp only [List.cons_append, List.nil_append] at N'); (try dsimp only); (try k_lift B'); (try k_fold))
  k_steps
  refine' range_loop (n := 4) (ForJ c news l _ _ _ _ _) ?hh ?hr ?hsm ?hn ?F ?N ?h0 ?turn ?done
  case hh => rfl
  case hr => assumption
  case hsm => exact r_small (by omega) (by omega) (by omega) (by omega)
  case hn => exact r_size (by omega)
  case F => k_asm
  case N => exact pickFor (by k_asm)
  case h0 =>
    unfold ForJ
    refine' ⟨_, _, _, _, _, _, _, _, _, ?a1, ?a2, ?a3, ?a4, ?a5, ?a6, ?a7, ?a8, ?a9, ?a10⟩
    case a5 => exact rfl
    case a1 => assumption
    case a2 => assumption
    case a3 => assumption
    case a4 => assumption
    case a6 => exact KRows.one (by assumption)
    case a7 => k_subL
    case a8 => k_all
    case a9 => k_all
    case a10 => k_all
  case turn =>
    intro I i t m₁ n₁ it h tk hin hlt hJ hoff F₁ N₁
    obtain ⟨refs, kk, oT, oN, oK, oC, vT, vN, tl, hoT, hoN, hoK, hoC, rfl, hKR, hsub, hne1, hne2, hne3⟩ := hJ
    k_lt hlt
    have hoffT : ∀ p ∈ tl, p.1 ≠ I := fun p hp => hoff p (.tail _ (.tail _ (.tail _ (.tail _ (.tail _ hp)))))
    k_steps
    have hfl := frow_len c i
    have hl' := hsub _ hl
    obtain ⟨ai, vsi, ki, hri, hmi, hii⟩ := hKR.2 i (by simp)
    rw [frows_get c (by omega)] at hii
    have hri' : refs[(0 + (i : Int)).toNat]? = some (.ref ai) := by rw [show (0 + (i : Int)).toNat = i by omega]; exact hri
    refine' range_loop (n := 4) (InJ c (frow c i) _ _ _ _ _) ?hh2 ?hr2 ?hsm2 ?hn2 ?F2 ?N2 ?h02 ?turn2 ?done2
    case hh2 => rfl
    case hr2 => assumption
    case hsm2 => exact r_small (by omega) (by omega) (by omega) (by omega)
    case hn2 => exact r_size (by omega)
    case F2 => k_asm
    case N2 => k_asm
    case h02 =>
      unfold InJ
      refine' ⟨_, _, _, _, ?a1, ?a2, ?a3, ?a4⟩
      case a3 => exact rfl
      case a1 => assumption
      case a2 => exact rfl
      case a4 => exact .cons _ _ .nil
    case turn2 =>
      intro I' j t' m₂ n₂ it' h' tk' hjn hlt' hJ' hoff' F₂ N₂
      obtain ⟨vsr, kr, oT', vT', hoT', hrow, rfl, hir⟩ := hJ'
      k_lt hlt'
      have hfp := fpre_len c (frow c i) j
      have hvl : vsr.length ≤ 1000 := by rw [hir.length]; omega
      k_steps
      refine' comp_range (n := 4) (fun q acc => ∃ ns, IntsAre acc ns ∧ ns = (List.range q).map (fun q => c.getD q 0 * (frow c i).getD (j + q) 0)) ?hh3 ?hr3 ?hsm3 ?hsz3 ?hn3 ?F3 ?N3 ?h03 ?hJl3 ?hc3 ?hk3 ?hx3 ?turn3 ?done3
      case hh3 => rfl
      case hr3 => assumption
      case hsm3 => exact r_small (by omega) (by omega) (by omega) (by omega)
      case hsz3 => exact r_size (by omega)
      case hn3 => decide
      case F3 => k_asm
      case N3 => k_asm
      case h03 => exact ⟨[], .nil, rfl⟩
      case hJl3 =>
        rintro q acc ⟨ns, hns, rfl⟩
        rw [hns.length]; simp
      case hc3 => decide
      case hk3 => rfl
      case hx3 => decide +kernel
      case turn3 =>
        intro I₂ q t₂ acc k₂ C₂ D₂ oC mC it₂ h₂ tk₂ hq hJ₂ hNs hmC hlt₂ hDC hID F₃ N₃
        refine no_tests ⟨⟨_, _, rfl, F₃, N₃⟩, ?_⟩
        rw [if_pos rfl]
        k_with "mul" => (k_dflt (refine' mul_int ?_ (PySem.IntMulOk.of_left (PySem.intBits_le_64 (by have := hcb (0 + (q : Int)).toNat; omega) (by have := hcb (0 + (q : Int)).toNat; omega)))))
        k_steps
        obtain ⟨ns, hns, rfl⟩ := hJ₂
        refine ⟨⟨_, _, rfl, by k_asm, by k_asm⟩, _, ints_snoc hns, ?_⟩
        rw [List.range_succ, List.map_append, show (0 + (q : Int)).toNat = q by omega, show (1 + (j : Int) - 1 + (0 + (q : Int))).toNat = j + q by omega]
        rfl
      case done3 =>
        intro D₂ C₂ acc k₂ h₂ tk₂ mC hJ₂ hNs hCL hzC hoC hlt₂ F₃ N₃
        obtain ⟨ns, hns, hne⟩ := hJ₂
        have hsum : ns.sum = fval c (frow c i) j := by rw [hne]; exact fval_sum c (frow c i) j
        clear hne
        refine post_none hNs hCL hzC hoC F₃ N₃ fun h₃ F₄ N₄ => ?_
        k_lt hlt₂
        k_steps
        refine' unr_drop 1 ?F4 ?N4 ?e4 ?off4 ⟨?keep4, ?_⟩
        case F4 => k_asm
        case N4 => k_asm
        case e4 => exact rfl
        case off4 => k_all
        case keep4 => exact sub_nil
        unfold InJ
        refine' ⟨_, _, _, _, ?a1, hrow, ?a3, ?a4⟩
        case a3 => exact rfl
        case a1 => assumption
        case a4 =>
          rw [fpre, ← hsum]
          exact ints_snoc hir
    case done2 =>
      intro m₂ n₂ h' tk' hJ' F₂ N₂
      obtain ⟨vsr, kr, oT', vT', hoT', hrow, rfl, hir⟩ := hJ'
      have hvl : vsr.length ≤ 1000 := by rw [hir.length, fpre_len]; omega
      have hfp := fpre_len c (frow c i) 4
      have hrl : refs.length ≤ 1000 := by rw [hKR.1]; simp; omega
      k_steps
      refine' unr_drop 0 ?F5 ?N5 ?e5 ?off5 ⟨?keep5, ?_⟩
      case F5 => k_asm
      case N5 => exact pickEnd (by k_asm)
      case e5 => exact rfl
      case off5 => k_all
      case keep5 => exact sub_nil
      unfold ForJ
      refine' ⟨_, _, _, _, _, _, _, _, _, ?a1, ?a2, ?a3, ?a4, ?a5, ?a6, ?a7, ?a8, ?a9, ?a10⟩
      case a5 => exact rfl
      case a1 => assumption
      case a2 => assumption
      case a3 => assumption
      case a4 => assumption
      case a6 =>
        rw [List.range_succ, List.map_append]
        refine KRows.snoc hKR ?_
        rw [frow]
        assumption
      case a7 => exact fun q hq => .tail _ (hsub q hq)
      case a8 => k_all
      case a9 => k_all
      case a10 => k_all
  case done =>
    intro m₁ n₁ h tk hJ F₁ N₁
    obtain ⟨refs, kk, oT, oN, oK, oC, vT, vN, tl, hoT, hoN, hoK, hoC, rfl, hKR, hsub, hne1, hne2, hne3⟩ := hJ
    k_steps
    exact ret _ _ _ _ _ _ hKR hsub (by k_asm) (pickKn (by k_asm))
theorem rst_P5 : True := by
  w_top off
  trivial
/-! the law's own text, by its places -/
def forBody : Stmt → List Stmt
  | .For _ _ b _ _ => b
  | _ => []
def lawS : Stmt := topS 18
def lawLoop : List Stmt := forBody (nthS 7 (fdBody lawS))
def dropS : Nat → List Stmt → List Stmt
  | 0, l => l
  | n + 1, _ :: r => dropS n r
  | _, [] => []
theorem mulok {a b : Int} (ha : Builtin.Int.intBits a ≤ 10000) (hb : Builtin.Int.intBits b ≤ 10000) : IntMulOk a b := by
  unfold IntMulOk
  have : Builtin.Int.intTooBig (Builtin.Int.intBits a + Builtin.Int.intBits b) = false := by
    unfold Builtin.Int.intTooBig
    have e : bitsLine = 134217728 := by decide
    rw [e]
    simp; omega
  rw [this]; simp
theorem bits_of_abs {x : Int} {k : Nat} (h : x.natAbs < 2 ^ k) (hk : k ≤ 10000) : Builtin.Int.intBits x ≤ 10000 := Nat.le_trans (PySem.intBits_le_iff.mpr h) hk
abbrev sgI (i : Nat) : Int := (-1) ^ (0 + (i : Int)).toNat
abbrev nbI (rs : List Int) : Int := d2i (2 ^ Int.toNat 9) rs
abbrev xI (rs : List Int) (i : Nat) : Int := nbI rs * 512 ^ ((rs.length : Int) - (0 + (i : Int))).toNat
abbrev bI (rs : List Int) : Int := 512 ^ ((rs.length : Int)).toNat - 1
/-- a ring's symbols lie from 1 to 258 -/
def RingOk (rs : List Int) : Prop := (∀ d ∈ rs, 1 ≤ d ∧ d ≤ 258) ∧ 3 ≤ rs.length ∧ rs.length ≤ 8
theorem sg_pm (i : Nat) : sgI i = 1 ∨ sgI i = -1 := by
  unfold sgI
  generalize (0 + (i : Int)).toNat = k
  induction k with
  | zero => exact .inl rfl
  | succ k ih => rw [Int.pow_succ]; rcases ih with h | h <;> rw [h] <;> simp
theorem pow512 (k : Nat) : (512 : Int) ^ k = 2 ^ (9 * k) := by rw [Int.pow_mul]; rfl
theorem nb_bound {rs : List Int} (h : RingOk rs) : 0 ≤ nbI rs ∧ nbI rs < 512 ^ rs.length :=
  d2i_bound (B := 512) (by decide) fun d hd => by have := h.1 d hd; omega
theorem bits_lt_pow {x : Int} {k : Nat} (h0 : 0 ≤ x) (h : x < 2 ^ k) : Builtin.Int.intBits x ≤ k := by
  refine PySem.intBits_le_iff.mpr ?_
  have e : (2 : Int) ^ k = ((2 ^ k : Nat) : Int) := by simp
  rw [e] at h; omega
theorem bits_512 (k : Nat) (hk : k ≤ 100) : Builtin.Int.intBits ((512 : Int) ^ k) ≤ 10000 := by
  rw [pow512]
  exact Nat.le_trans (bits_lt_pow (k := 9 * k + 1) (Int.le_of_lt (Int.pow_pos (by decide))) (by rw [Int.pow_succ]; have : (0 : Int) < 2 ^ (9 * k) := Int.pow_pos (by decide); omega)) (by omega)
theorem pow512_pos (k : Nat) : (0 : Int) < 512 ^ k := Int.pow_pos (by decide)
theorem bI_pos {rs : List Int} (h : RingOk rs) : 0 < bI rs := by
  have e : ((rs.length : Int)).toNat = (rs.length - 1) + 1 := by have := h.2.1; omega
  show 0 < 512 ^ ((rs.length : Int)).toNat - 1
  rw [e, Int.pow_succ]
  have := pow512_pos (rs.length - 1)
  omega
theorem bI_bits {rs : List Int} (h : RingOk rs) : Builtin.Int.intBits (bI rs) = 9 * rs.length := by
  have hp := bI_pos h
  have h2 := h.2.2
  have e : ((rs.length : Int)).toNat = rs.length := by omega
  have hlt : bI rs < 2 ^ (9 * rs.length) := by
    show 512 ^ ((rs.length : Int)).toNat - 1 < _
    rw [e, pow512]; omega
  have h1 := bits_lt_pow (by omega) hlt
  have h3 : ¬ Builtin.Int.intBits (bI rs) ≤ 9 * rs.length - 1 := fun hle => by
    have h4 := PySem.intBits_le_iff.mp hle
    have h5 : (2 : Int) ^ (9 * rs.length - 1) ≤ bI rs := by
      show _ ≤ 512 ^ ((rs.length : Int)).toNat - 1
      rw [e, pow512]
      have e2 : 9 * rs.length = (9 * rs.length - 1) + 1 := by have := h.2.1; omega
      have e3 : (2 : Int) ^ (9 * rs.length) = 2 ^ (9 * rs.length - 1) * 2 := by
        conv => lhs; rw [e2]
        exact Int.pow_succ ..
      have : (0 : Int) < 2 ^ (9 * rs.length - 1) := Int.pow_pos (by decide)
      omega
    have e4 : (2 : Int) ^ (9 * rs.length - 1) = ((2 ^ (9 * rs.length - 1) : Nat) : Int) := by simp
    rw [e4] at h5; omega
  omega
theorem xI_ok {rs : List Int} {i : Nat} (h : RingOk rs) (hi : i < rs.length) : 0 ≤ xI rs i ∧ (Builtin.Int.intBits (xI rs i) : Int) ≤ 16 * (Builtin.Int.intBits (bI rs) : Int) := by
  have hn := nb_bound h
  have hp := pow512_pos ((rs.length : Int) - (0 + (i : Int))).toNat
  have h0 : 0 ≤ xI rs i := Int.mul_nonneg hn.1 (by omega)
  refine ⟨h0, ?_⟩
  rw [bI_bits h]
  have hlt : xI rs i < 2 ^ (9 * (rs.length + rs.length)) := by
    have h1 : xI rs i < 512 ^ rs.length * 512 ^ ((rs.length : Int) - (0 + (i : Int))).toNat := Int.mul_lt_mul_of_pos_right hn.2 hp
    have h2 : (512 : Int) ^ rs.length * 512 ^ ((rs.length : Int) - (0 + (i : Int))).toNat ≤ 2 ^ (9 * (rs.length + rs.length)) := by
      rw [← Int.pow_add, pow512]
      exact pow2_le (by omega)
    omega
  have := bits_lt_pow h0 hlt
  omega
def rot (rs : List Int) (i : Nat) : List Int := rs.drop i ++ rs.take i
theorem rot_ok {rs : List Int} {i : Nat} (h : RingOk rs) (hi : i < rs.length) : RingOk (rot rs i) := by
  have e : (rot rs i).length = rs.length := by unfold rot; rw [List.length_append, List.length_drop, List.length_take]; omega
  refine ⟨fun d hd => ?_, by rw [e]; exact h.2.1, by rw [e]; exact h.2.2⟩
  rcases List.mem_append.mp hd with hd | hd
  · exact h.1 d (List.mem_of_mem_drop hd)
  · exact h.1 d (List.mem_of_mem_take hd)
theorem sg_sq (i : Nat) (x : Int) : sgI i * (sgI i * x) = x := by
  rcases sg_pm i with e | e <;> rw [e] <;> omega
theorem last_split : ∀ (rs : List Int), rs ≠ [] → ∃ r d, rs = r ++ [d] := fun rs h => ⟨rs.dropLast, rs.getLast h, (List.dropLast_concat_getLast h).symm⟩
theorem nd_ring {r : List Int} (h : RingOk r) : (nd 9 (nbI r)).toNat = r.length := by
  have hb := nb_bound h
  have hlo : (512 : Int) ^ (r.length - 1) ≤ nbI r := by
    obtain ⟨r', d, rfl⟩ := last_split r (fun e => by have := h.2.1; rw [e] at this; simp at this)
    have hd := h.1 d (by simp)
    have h' := d2i_bound (B := 512) (by decide) (ds := r') fun x hx => by have := h.1 x (by simp [hx]); omega
    show _ ≤ d2i (2 ^ Int.toNat 9) (r' ++ [d])
    rw [show (2 : Int) ^ Int.toNat 9 = 512 from rfl, d2i_append, show d2i 512 [d] = d by simp [d2i], List.length_append]
    have hp := pow512_pos r'.length
    have : (512 : Int) ^ r'.length * 1 ≤ 512 ^ r'.length * d := Int.mul_le_mul_of_nonneg_left hd.1 (by omega)
    simp only [List.length_singleton, Nat.add_sub_cancel]
    omega
  have hle : Builtin.Int.intBits (nbI r) ≤ 9 * r.length := bits_lt_pow hb.1 (pow512 _ ▸ hb.2)
  have hgt : ¬ Builtin.Int.intBits (nbI r) ≤ 9 * (r.length - 1) := fun q => by
    have h4 := PySem.intBits_le_iff.mp q
    rw [pow512] at hlo
    have e4 : (2 : Int) ^ (9 * (r.length - 1)) = ((2 ^ (9 * (r.length - 1)) : Nat) : Int) := by simp
    rw [e4] at hlo
    have := hb.1
    omega
  unfold nd
  rw [Int.fdiv_eq_ediv_of_nonneg _ (by decide)]
  have := h.2.1
  omega
theorem digs_ring {r : List Int} (h : RingOk r) : digs (2 ^ Int.toNat 9) (nd 9 (nbI r)).toNat (nbI r) = r := by
  rw [nd_ring h]
  exact digs_d2i (B := 512) (by decide) r fun d hd => by have := h.1 d hd; omega
theorem nb_ring_bits {r : List Int} (h : RingOk r) : (Builtin.Int.intBits (nbI r) : Int) ≤ 16 * 9 := by
  have hb := nb_bound h
  have := bits_lt_pow hb.1 (pow512 _ ▸ hb.2)
  have := h.2.2
  omega
theorem rot_div {rs : List Int} {i : Nat} (h : RingOk rs) (hi : i < rs.length) : xI rs i / bI rs = nbI (rs.drop i) ∧ xI rs i % bI rs = nbI (rot rs i) := by
  have hlt := (nb_bound (rot_ok h hi)).2
  have h0 := (nb_bound (rot_ok h hi)).1
  have el : (rot rs i).length = rs.length := by unfold rot; rw [List.length_append, List.length_drop, List.length_take]; omega
  rw [el] at hlt
  have hb := bI_pos h
  have e1 : ((rs.length : Int)).toNat = rs.length := by omega
  have e2 : ((rs.length : Int) - (0 + (i : Int))).toNat = rs.length - i := by omega
  -- the ring as a lower and an upper part
  have en : nbI rs = nbI (rs.take i) + 512 ^ i * nbI (rs.drop i) := by
    have := d2i_append 512 (rs.take i) (rs.drop i)
    rw [List.take_append_drop, List.length_take, Nat.min_eq_left (by omega)] at this
    exact this
  have er : nbI (rot rs i) = nbI (rs.drop i) + 512 ^ (rs.length - i) * nbI (rs.take i) := by
    have := d2i_append 512 (rs.drop i) (rs.take i)
    rw [List.length_drop] at this
    exact this
  have ex : xI rs i = bI rs * nbI (rs.drop i) + nbI (rot rs i) := by
    show nbI rs * 512 ^ ((rs.length : Int) - (0 + (i : Int))).toNat = (512 ^ ((rs.length : Int)).toNat - 1) * nbI (rs.drop i) + nbI (rot rs i)
    rw [e1, e2, en, er, Int.sub_mul, Int.one_mul, Int.add_mul]
    have e3 : (512 : Int) ^ rs.length = 512 ^ i * 512 ^ (rs.length - i) := by rw [← Int.pow_add, show i + (rs.length - i) = rs.length by omega]
    rw [e3]
    have e4 : (512 : Int) ^ i * nbI (rs.drop i) * 512 ^ (rs.length - i) = 512 ^ i * 512 ^ (rs.length - i) * nbI (rs.drop i) := by
      rw [Int.mul_assoc, Int.mul_comm (nbI (rs.drop i)), ← Int.mul_assoc]
    rw [e4, Int.mul_comm (nbI (rs.take i))]
    omega
  have hsm : nbI (rot rs i) < bI rs := by
    -- no digit is 511
    have h5 : nbI (rot rs i) + 1 < 512 ^ rs.length := by
      have hr := rot_ok h hi
      have : ∀ (l : List Int), l ≠ [] → (∀ d ∈ l, 1 ≤ d ∧ d ≤ 258) → d2i 512 l + 1 < 512 ^ l.length := by
        intro l hl hd
        cases l with
        | nil => exact absurd rfl hl
        | cons x r =>
          have h6 := d2i_bound (B := 512) (by decide) (ds := r) fun y hy => by have := hd y (.tail _ hy); omega
          have h7 := hd x (.head _)
          rw [d2i, List.length_cons, Int.pow_succ]
          omega
      have h8 := this (rot rs i) (fun e => by have h9 := hr.2.1; rw [e] at h9; simp at h9) hr.1
      rw [el] at h8
      exact h8
    show _ < 512 ^ ((rs.length : Int)).toNat - 1
    rw [e1]; omega
  rw [ex]
  constructor
  · rw [Int.mul_add_ediv_left _ _ (by omega), Int.ediv_eq_zero_of_lt h0 hsm]; omega
  · rw [Int.mul_add_emod_self_left, Int.emod_eq_of_lt h0 hsm]
theorem lb_len (rs : List Int) : (lb rs).length ≤ rs.length := by
  unfold lb
  split
  · exact stAt_len rs rs.length
  · simp
theorem rst_TURN : True := by
  w_top off
  trivial
theorem turn_a_grown {Q : Flow → Shared → Prop} {E : Value → Shared → Prop} {i : Nat} {rs : List Int} {oS : Obj} {tS tN tk : Tok}
    (B : Below callerA base [] h₀) (F : Fr h₀ L s.heap m) (X : (Mine.hd.heap_39 w.params).In h₀) (N : News h₀ L s.heap news) (T : Top p loose mean mg mb h₀)
    (C : CodeHd base 62 58) (C' : CodeHd base 55 51)
    {c : Addr} {oc : Obj} (h58 : (58, tabD c) ∈ news) (hc : (c, oc) ∈ news) (hG : GD oc) {c' : Addr} {oc' : Obj} (h51 : (51, tabI c') ∈ news) (hc' : (c', oc') ∈ news) (hG' : GI oc')
    {oK : Obj} (hcK : (L + 1 + 1 + 1, oK) ∈ news) (hoK : oK.data = .cell (some (.int (0 + (i : Int)) tk))) (hcS : (L + 1 + 1, oS) ∈ news) (hoS : oS.data = .cell (some (.int rs.length tS)))
    (hnb : Has m (Str.ofString "number") (.int (nbI rs) tN)) (hin : i < rs.length) (hR : RingOk rs)
    (ret : ∀ h' tk' t1 t2 t3, Fr h₀ L h' (fun y => if y = Str.ofString "turned" then some (.int (sgI i * (xI rs i % bI rs)) t1) else if y = Str.ofString "over" then some (.int (xI rs i / bI rs) t2) else if y = Str.ofString "sign" then some (.int (sgI i) t3) else m y) → News h₀ L h' news →
      wpAny (model PR w) (callerA.deeper (envOfC (Str.ofString "law") (fdScope lawS) L a ccd)) (execs (dropS 2 lawLoop) (envOfC (Str.ofString "law") (fdScope lawS) L a ccd)) Q E {s with heap := h', toks := tk'}) :
    wpAny (model PR w) (callerA.deeper (envOfC (Str.ofString "law") (fdScope lawS) L a ccd)) (execs lawLoop (envOfC (Str.ofString "law") (fdScope lawS) L a ccd)) Q E s := by
  generalize hSc : fdScope lawS = sc at *
  conv at hSc => lhs; whnf
  subst hSc
  rw [show lawLoop = nthS 0 lawLoop :: nthS 1 lawLoop :: dropS 2 lawLoop from rfl]
  generalize dropS 2 lawLoop = restS at *
  generalize hB1 : nthS 0 lawLoop = b1
  conv at hB1 => lhs; whnf
  subst hB1
  generalize hB2 : nthS 1 lawLoop = b2
  conv at hB2 => lhs; whnf
  subst hB2
  have hrl := hR.2.2
  have hx := xI_ok hR hin
  have hbp := bI_pos hR
  have hbb := bI_bits hR
  have hb1 : Builtin.Int.intBits (sgI i) ≤ 10000 := by rcases sg_pm i with e | e <;> rw [e] <;> decide
  have hb2 : Builtin.Int.intBits (nbI rs) ≤ 10000 := Nat.le_trans (bits_lt_pow (nb_bound hR).1 (pow512 _ ▸ (nb_bound hR).2)) (by omega)
  have hb3 : Builtin.Int.intBits (sgI i * nbI rs) ≤ 10000 := Nat.le_trans (PySem.intBits_mul_le (m := 2) (n := 72) (by rcases sg_pm i with e | e <;> rw [e] <;> decide) (Nat.le_trans (bits_lt_pow (nb_bound hR).1 (pow512 _ ▸ (nb_bound hR).2)) (by omega))) (by decide)
  have hb4 := bits_512 ((rs.length : Int) - (0 + (i : Int))).toNat (by omega)
  have hb5 : Builtin.Int.intBits (bI rs) ≤ 10000 := by omega
  k_with_none
  k_with "mul" => (k_dflt (refine' mul_int ?_ (mulok ?m1 ?m2); (case m1 => assumption); (case m2 => assumption)))
  k_with "callx" => (k_dflt (refine' idiv_sg_grown (sg := sgI i) (x := xI rs i) (b := bI rs) ?k1 ?k2 ?k3 ?k4 ?k5 ?kk ?kd ?ku ?kC ?kD ?z1 ?z2 ?z3 ?z4 ?z5 ?z6 ?y0 ?y1 ?y2 ?y3 ?y4 ?y5 ?y6 ?_; (case k1 => k_asm); (case k2 => k_asm); (case k3 => k_asm); (case k4 => k_asm); (case k5 => k_asm); (case kk => first | exact rfl | assumption); (case kd => ktr_room); (case ku => ktr_units); (case kC => assumption); (case kD => assumption); (case z1 => k_mem); (case z2 => k_mem); (case z3 => assumption); (case z4 => k_mem); (case z5 => k_mem); (case z6 => assumption); (case y0 => exact hx.1); (case y1 => exact hbp); (case y2 => omega); (case y3 => exact hx.2); (case y4 => exact sg_pm i); (case y5 => exact Int.mul_assoc _ _ _); (case y6 => exact rfl)); intro l' t1' t2' h' tk' l1 F' N'; (try k_lt l1); (try dsimp only); (try k_fold))
  k_steps
  exact ret _ _ _ _ _ (by k_asm) (drop1 (by k_asm))
theorem turn_a_fresh {Q : Flow → Shared → Prop} {E : Value → Shared → Prop} {i : Nat} {rs : List Int} {oS : Obj} {tS tN tk : Tok}
    (B : Below callerA base [] h₀) (F : Fr h₀ L s.heap m) (X : (Mine.hd.heap_39 w.params).In h₀) (N : News h₀ L s.heap ((51, tabObj #[]) :: rest)) (T : Top p loose mean mg mb h₀)
    (C : CodeHd base 62 58) (C' : CodeHd base 55 51)
    {c : Addr} {oc : Obj} (h58 : (58, tabD c) ∈ rest) (hc : (c, oc) ∈ rest) (hG : GD oc) (hP : ∀ p ∈ rest, p.1 ≠ 51)
    {oK : Obj} (hcK : (L + 1 + 1 + 1, oK) ∈ rest) (hoK : oK.data = .cell (some (.int (0 + (i : Int)) tk))) (hcS : (L + 1 + 1, oS) ∈ rest) (hoS : oS.data = .cell (some (.int rs.length tS)))
    (hnb : Has m (Str.ofString "number") (.int (nbI rs) tN)) (hin : i < rs.length) (hR : RingOk rs)
    (ret : ∀ c' oc' h' tk' t1 t2 t3, GI oc' → (∀ q ∈ rest, q.1 < c') → 51 < c' → Fr h₀ L h' (fun y => if y = Str.ofString "turned" then some (.int (sgI i * (xI rs i % bI rs)) t1) else if y = Str.ofString "over" then some (.int (xI rs i / bI rs) t2) else if y = Str.ofString "sign" then some (.int (sgI i) t3) else m y) → News h₀ L h' ((51, tabI c') :: (c', oc') :: rest) →
      wpAny (model PR w) (callerA.deeper (envOfC (Str.ofString "law") (fdScope lawS) L a ccd)) (execs (dropS 2 lawLoop) (envOfC (Str.ofString "law") (fdScope lawS) L a ccd)) Q E {s with heap := h', toks := tk'}) :
    wpAny (model PR w) (callerA.deeper (envOfC (Str.ofString "law") (fdScope lawS) L a ccd)) (execs lawLoop (envOfC (Str.ofString "law") (fdScope lawS) L a ccd)) Q E s := by
  generalize hSc : fdScope lawS = sc at *
  conv at hSc => lhs; whnf
  subst hSc
  rw [show lawLoop = nthS 0 lawLoop :: nthS 1 lawLoop :: dropS 2 lawLoop from rfl]
  generalize dropS 2 lawLoop = restS at *
  generalize hB1 : nthS 0 lawLoop = b1
  conv at hB1 => lhs; whnf
  subst hB1
  generalize hB2 : nthS 1 lawLoop = b2
  conv at hB2 => lhs; whnf
  subst hB2
  have hrl := hR.2.2
  have hx := xI_ok hR hin
  have hbp := bI_pos hR
  have hbb := bI_bits hR
  have hb1 : Builtin.Int.intBits (sgI i) ≤ 10000 := by rcases sg_pm i with e | e <;> rw [e] <;> decide
  have hb2 : Builtin.Int.intBits (nbI rs) ≤ 10000 := Nat.le_trans (bits_lt_pow (nb_bound hR).1 (pow512 _ ▸ (nb_bound hR).2)) (by omega)
  have hb3 : Builtin.Int.intBits (sgI i * nbI rs) ≤ 10000 := Nat.le_trans (PySem.intBits_mul_le (m := 2) (n := 72) (by rcases sg_pm i with e | e <;> rw [e] <;> decide) (Nat.le_trans (bits_lt_pow (nb_bound hR).1 (pow512 _ ▸ (nb_bound hR).2)) (by omega))) (by decide)
  have hb4 := bits_512 ((rs.length : Int) - (0 + (i : Int))).toNat (by omega)
  have hb5 : Builtin.Int.intBits (bI rs) ≤ 10000 := by omega
  k_with_none
  k_with "mul" => (k_dflt (refine' mul_int ?_ (mulok ?m1 ?m2); (case m1 => assumption); (case m2 => assumption)))
  k_with "callx" => (k_dflt (refine' idiv_sg_fresh (sg := sgI i) (x := xI rs i) (b := bI rs) ?k1 ?k2 ?k3 ?k4 ?k5 ?kk ?kd ?ku ?kC ?kD ?z1 ?z2 ?z3 ?z4 ?y0 ?y1 ?y2 ?y3 ?y4 ?y5 ?y6 ?_; (case k1 => k_asm); (case k2 => k_asm); (case k3 => k_asm); (case k4 => k_asm); (case k5 => k_asm); (case kk => first | exact rfl | assumption); (case kd => ktr_room); (case ku => ktr_units); (case kC => assumption); (case kD => assumption); (case z1 => k_mem); (case z2 => k_mem); (case z3 => assumption); (case z4 => k_all); (case y0 => exact hx.1); (case y1 => exact hbp); (case y2 => omega); (case y3 => exact hx.2); (case y4 => exact sg_pm i); (case y5 => exact Int.mul_assoc _ _ _); (case y6 => exact rfl)); intro c' oc' l' t1' t2' h' tk' hg' l1 l2 l3 F' N'; (try k_lt l1); (try dsimp only); (try k_fold))
  k_steps
  refine' ret _ _ _ _ _ _ _ ?g ?lt ?fl ?F ?N
  case N => exact drop1 (by k_asm)
  case g => assumption
  case lt => exact lt_all_of_lt (by assumption)
  case fl => assumption
  case F => k_asm
section
theorem rst_TURB : True := by
  w_top off
  trivial
theorem mul_eq {prog : Program} {A : Around} {x y z : Int} {t u : Tok} (e : x * y = z) (hm : IntMulOk x y) (h : Q (.int z s.toks) { s with toks := s.toks + 1 }) : wpAny (model prog w) A (binaryOp .Mult (.int x t) (.int y u)) Q E s := by
  subst e; exact mul_int h hm
theorem i2d_ring
    (B : Below A₀ base outer h₀) (F : Fr h₀ L s.heap m) (X : (Mine.hd.heap_39 w.params).In h₀) (N : News h₀ L s.heap news) (T : Top p loose mean mg mb h₀) (hk : cs.kind = .function)
    (hd : dp + 25 < recursionLimit) (hu : un + 200 < cLine) (C : CodeHd base 55 51) {c : Addr} {oc : Obj} (h51 : (51, tabI c) ∈ news) (hc : (c, oc) ∈ news) (hG : GI oc)
    {r : List Int} {t u : Tok} (hR : RingOk r)
    (ret : ∀ l' vs' h' tk', (∀ q ∈ news, q.1 < l') → IntsAre vs' r → Fr h₀ L h' m → News h₀ L h' ((l', listOf vs'.toArray 0) :: news) → Q (.ref l') {s with heap := h', toks := tk'}) :
    wpAny (model PR w) (ktrTop dp un gd cn cs L a ccd cl outer) (call (.ref 56) [.int (nbI r) u, .int 9 t]) Q E s :=
  i2d_grown B F X N T hk hd hu C h51 hc hG (nb_bound hR).1 (by decide) (by decide) (nb_ring_bits hR) fun l' vs' h' tk' l1 hI F' N' => ret l' vs' h' tk' l1 (digs_ring hR ▸ hI) F' N'
local macro_rules | `(tactic| walk_at "subscriptTail Name Slice ref ref") => `(tactic| (k_here; (with_reducible show wpAny _ _ (subscriptTail _ (PySem.Expr.Slice _ _ none _) (Value.ref _) (Value.ref _)) _ _ _); k_dflt (refine' kmk_slice_ints ?F ?N ?l ?p ?q ?i ?m ?c ?_ ?s ?t ?z; (case F => k_asm); (case N => k_asm); (case l => exact News.isList (by k_asm) (by k_mem)); (case p => kmk_part); (case q => kmk_part); (case i => l_ints); (case m => first | exact kmk_from (by assumption) (by omega) | exact kmk_upto (by assumption) (by omega)); (case c => exact rfl); (case s => with_unfolding_all rfl); (case t => kmk_pure); (case z => exact kmk_sz (by assumption) (by rw [sizeLine_eq]; omega))); intro D' ws' h' F' N' l1 hI' hC' hL'; (try k_lt l1); (try k_sweep)))
theorem pick9 {h : Heap} {a1 a2 a3 a4 a5 a6 a7 a8 a9 x y : Addr × Obj} {tl : List (Addr × Obj)} (N : News h₀ L h (a1 :: a2 :: a3 :: a4 :: a5 :: a6 :: a7 :: a8 :: a9 :: x :: y :: tl)) : News h₀ L h (x :: y :: a1 :: tl) := News.sub N (sub_cons (.tail _ (.tail _ (.tail _ (.tail _ (.tail _ (.tail _ (.tail _ (.tail _ (.tail _ (.head _)))))))))) (sub_cons (.tail _ (.tail _ (.tail _ (.tail _ (.tail _ (.tail _ (.tail _ (.tail _ (.tail _ (.tail _ (.head _))))))))))) (sub_cons (.head _) (sub_tail (sub_tail (sub_tail (sub_tail (sub_tail (sub_tail (sub_tail (sub_tail (sub_tail (sub_tail (sub_tail (fun _ h => h)))))))))))))))
theorem pick7 {h : Heap} {a1 a2 a3 a4 a5 a6 a7 : Addr × Obj} {tl : List (Addr × Obj)} (N : News h₀ L h (a1 :: a2 :: a3 :: a4 :: a5 :: a6 :: a7 :: tl)) : News h₀ L h tl := News.sub N (sub_tail (sub_tail (sub_tail (sub_tail (sub_tail (sub_tail (sub_tail (fun _ h => h))))))))
def KeepM (m m' : Str → Option Value) : Prop := ∀ y, y ≠ Str.ofString "row" → y ≠ Str.ofString "begins" → m' y = m y
def plc (rs : List Int) (i : Nat) : List Int := (lb (rot rs i)).map fun x => (0 + (i : Int) + x).fmod rs.length
theorem turn_b {Q : Flow → Shared → Prop} {E : Value → Shared → Prop} {i : Nat} {rs ss : List Int} {lr ls lp : Addr} {oS : Obj} {tS tN tk t1 t2 t3 : Tok} {vsr vss vsp : List Value} {kr ks kp : Nat} {tl : List (Addr × Obj)}
    (B : Below callerA base [] h₀) (F : Fr h₀ L s.heap m) (X : (Mine.hd.heap_39 w.params).In h₀) (N : News h₀ L s.heap ((ls, listOf vss.toArray ks) :: (lp, listOf vsp.toArray kp) :: tl)) (T : Top p loose mean mg mb h₀)
    (C : CodeHd base 62 58) (C' : CodeHd base 55 51)
    {c : Addr} {oc : Obj} (h58 : (58, tabD c) ∈ tl) (hc : (c, oc) ∈ tl) (hG : GD oc) {c' : Addr} {oc' : Obj} (h51 : (51, tabI c') ∈ tl) (hc' : (c', oc') ∈ tl) (hG' : GI oc')
    {oK : Obj} (hcK : (L + 1 + 1 + 1, oK) ∈ tl) (hoK : oK.data = .cell (some (.int (0 + (i : Int)) tk))) (hcS : (L + 1 + 1, oS) ∈ tl) (hoS : oS.data = .cell (some (.int rs.length tS)))
    (hlr : (lr, listOf vsr.toArray kr) ∈ tl) (hir : IntsAre vsr rs) (his : IntsAre vss ss) (hss : ss.length ≤ 8) (hps : vsp.length ≤ 8)
    (hsg : Has m (Str.ofString "sign") (.int (sgI i) t3)) (htu : Has m (Str.ofString "turned") (.int (sgI i * nbI (rot rs i)) t1)) (hov : Has m (Str.ofString "over") (.int (nbI (rs.drop (0 + (i : Int)).toNat)) t2))
    (hrg : Has m (Str.ofString "ring") (.ref lr)) (hst : Has m (Str.ofString "starts") (.ref ls)) (hpl : Has m (Str.ofString "places") (.ref lp))
    (hin : i < rs.length) (hR : RingOk rs) (ne1 : ∀ p ∈ tl, p.1 ≠ ls) (ne2 : ∀ p ∈ tl, p.1 ≠ lp) (ne3 : @LT.lt Nat _ ls lp)
    (ret0 : ∀ h' tk' m', KeepM m m' → lb (rot rs i) = [] → Fr h₀ L h' m' → News h₀ L h' ((ls, listOf vss.toArray ks) :: (lp, listOf vsp.toArray kp) :: tl) → Q .next {s with heap := h', toks := tk'})
    (ret1 : ∀ h' tk' m' vs' ks' kp' D vsd kd ns, KeepM m m' → lb (rot rs i) ≠ [] → IntsAre vs' (ss ++ [0 + (i : Int)]) → IntsAre vsd ns → ns.Perm (plc rs i) → ns.Pairwise (· ≤ ·) → Fr h₀ L h' m' →
      (∀ p ∈ tl, p.1 < D) → ls < D → lp < D → News h₀ L h' ((ls, listOf vs'.toArray ks') :: (lp, listOf (vsp ++ [Value.ref D]).toArray kp') :: (D, listOf vsd.toArray kd) :: tl) → Q .next {s with heap := h', toks := tk'}) :
    wpAny (model PR w) (callerA.deeper (envOfC (Str.ofString "law") (fdScope lawS) L a ccd)) (execs (dropS 2 lawLoop) (envOfC (Str.ofString "law") (fdScope lawS) L a ccd)) Q E s := by
  generalize hSc : fdScope lawS = sc at *
  conv at hSc => lhs; whnf
  subst hSc
  generalize hB : dropS 2 lawLoop = bd
  conv at hB => lhs; whnf
  subst hB
  have hrl := hR.2.2
  have hRr := rot_ok hR hin
  have hm1 : IntMulOk (sgI i) (sgI i * nbI (rot rs i)) := PySem.IntMulOk.of_left (Nat.le_trans (show Builtin.Int.intBits (sgI i) ≤ 1 by rcases sg_pm i with e | e <;> rw [e] <;> decide) (by decide))
  have hdd : ∀ d ∈ rs.drop (0 + (i : Int)).toNat, 0 ≤ d ∧ d < 2 ^ Int.toNat 9 := fun d hd => by have := hR.1 d (List.mem_of_mem_drop hd); rw [show (2 : Int) ^ Int.toNat 9 = 512 from rfl]; omega
  have hvl1 : vss.length ≤ 1000 := by rw [his.length]; omega
  have hvl2 : vsp.length ≤ 1000 := by omega
  have hlbl := lb_len (rot rs i)
  have hrotl : (rot rs i).length ≤ 16 := by have := hRr.2.2; omega
  k_with_none
  k_with "callx" => (first | (k_dflt (refine' i2d_ring ?k1 ?k2 ?k3 ?k4 ?k5 ?kk ?kd ?ku ?kC ?z1 ?z2 ?z3 ?z4 ?_; (case k1 => k_asm); (case k2 => k_asm); (case k3 => k_asm); (case k4 => k_asm); (case k5 => k_asm); (case kk => first | exact rfl | assumption); (case kd => ktr_room); (case ku => ktr_units); (case kC => assumption); (case z1 => k_mem); (case z2 => k_mem); (case z3 => assumption); (case z4 => assumption)); intro l' vs' h' tk' l1 hI' F' N'; (try k_lt l1); (try dsimp only); (try k_fold)) | (k_dflt (refine' begins_spec ?k1 ?k2 ?k3 ?k4 ?k5 ?kk ?kd ?ku ?z1 ?z2 ?z3 ?_; (case k1 => k_asm); (case k2 => k_asm); (case k3 => k_asm); (case k4 => k_asm); (case k5 => k_asm); (case kk => first | exact rfl | assumption); (case kd => ktr_room); (case ku => ktr_units); (case z1 => k_mem); (case z2 => l_ints); (case z3 => ktr_rel)); intro l' vs' k' h' tk' l1 hI' F' N'; (try k_lt l1); (try dsimp only); (try k_fold)) | (k_dflt (refine' d2i_grown ?k1 ?k2 ?k3 ?k4 ?k5 ?kk ?kd ?ku ?kC ?z1 ?z2 ?z3 ?z4 ?z5 ?z6 ?z7 ?z8 ?z9 ?_; (case k1 => k_asm); (case k2 => k_asm); (case k3 => k_asm); (case k4 => k_asm); (case k5 => k_asm); (case kk => first | exact rfl | assumption); (case kd => ktr_room); (case ku => ktr_units); (case kC => assumption); (case z1 => k_mem); (case z2 => k_mem); (case z3 => assumption); (case z4 => k_mem); (case z5 => l_ints); (case z6 => ktr_rel); (case z7 => ktr_rel); (case z8 => ktr_rel); (case z9 => ktr_rel)); intro t9 h9 tk9 F9 N9; (try dsimp only); (try k_fold)))
  k_with "side" => (simp only [List.length_drop]; omega)
  k_with "mul" => (k_dflt (refine' mul_eq (sg_sq i _) ?m1 ?_; (case m1 => assumption)))
  k_steps
  · exact absurd rfl ‹nbI _ ≠ _›
  · refine ret0 _ _ _ (fun y h1 h2 => (if_neg h2).trans (if_neg h1)) (of_decide_eq_true (by assumption)) (by k_asm) (pick7 (by k_asm))
  · rename_i hdec _ _ _ _
    have hlb : lb (rot rs i) ≠ [] := of_decide_eq_false (by assumption)
    have hz : (rs.length : Int) ≠ 0 := by omega
    refine' comp_list (J := fun q acc => ∃ ns, IntsAre acc ns ∧ ns = ((lb (rot rs i)).take q).map fun x => (0 + (i : Int) + x).fmod rs.length) ?hh3 ?hn3 ?F3 ?N3 ?hm3 ?h03 ?hJl3 ?hc3 ?hk3 ?hx3 ?turn3 ?done3
    case hh3 => rfl
    case F3 => k_asm
    case N3 => k_asm
    case hm3 => k_mem
    case hn3 => rw [IntsAre.length (by assumption : IntsAre _ (lb (rot rs i)))]; omega
    case h03 => exact ⟨[], .nil, rfl⟩
    case hJl3 =>
      rintro q acc ⟨ns, hns, rfl⟩
      rw [hns.length, List.length_map, List.length_take]; omega
    case hc3 => decide
    case hk3 => rfl
    case hx3 => decide +kernel
    case turn3 =>
      intro I₂ q v₂ acc k₂ C₂ D₂ oC mC it₂ h₂ tk₂ hq hv hJ₂ hNs hmC hlt₂ hDC hID F₃ N₃
      obtain ⟨x, tx, rfl, hx⟩ := ints_at (by assumption : IntsAre _ (lb (rot rs i))) hv
      refine no_tests ⟨⟨_, _, rfl, F₃, N₃⟩, ?_⟩
      rw [if_pos rfl]
      k_steps
      obtain ⟨ns, hns, rfl⟩ := hJ₂
      refine ⟨⟨_, _, rfl, by k_asm, by k_asm⟩, _, ints_snoc hns, ?_⟩
      rw [List.take_add_one, List.map_append, hx]
      rfl
    case done3 =>
      intro D₂ C₂ acc k₂ h₂ tk₂ mC hJ₂ hNs hCL hzC hoC hlt₂ F₃ N₃
      obtain ⟨ns, hns, hne⟩ := hJ₂
      rw [List.take_of_length_le (by rw [IntsAre.length (by assumption : IntsAre _ (lb (rot rs i)))]; exact Nat.le_refl _)] at hne
      have hns64 : ns.length < 64 := by rw [hne, List.length_map]; omega
      refine post_none hNs hCL hzC hoC F₃ N₃ fun h₃ F₄ N₄ => ?_
      k_lt hlt₂
      k_steps
      refine' ret1 _ _ _ _ _ _ _ _ _ _ ?b1 hlb ?b2 ?b3 ?b4 ?b5 ?b6 ?b7 ?b8 ?b9 ?b10
      case b10 => exact pick9 (by k_asm)
      case b2 => exact ints_snoc his
      case b3 => assumption
      case b4 => unfold plc; rw [← hne]; assumption
      case b5 => assumption
      case b6 => k_asm
      case b1 => exact fun y h1 h2 => (if_neg h2).trans (if_neg h1)
      case b7 => exact lt_all_of_lt (by assumption)
      case b8 => assumption
      case b9 => assumption
  · exact absurd (show rot rs i = List.drop (0 + (i : Int)).toNat rs ++ List.take (0 + (i : Int)).toNat rs by unfold rot; rw [show (0 + (i : Int)).toNat = i by omega]) (by assumption)
end
theorem rst_LOOPK : True := by
  w_top off
  trivial
def insI (x : Int) : List Int → List Int
  | [] => [x]
  | y :: r => if x ≤ y then x :: y :: r else y :: insI x r
def srt : List Int → List Int
  | [] => []
  | x :: r => insI x (srt r)
theorem insI_perm (x : Int) : ∀ l, (insI x l).Perm (x :: l)
  | [] => .refl _
  | y :: r => by
    unfold insI
    split
    · exact .refl _
    · exact ((insI_perm x r).cons y).trans (.swap x y r)
theorem srt_perm : ∀ l, (srt l).Perm l
  | [] => .refl _
  | x :: r => (insI_perm x _).trans ((srt_perm r).cons x)
theorem insI_sorted (x : Int) : ∀ l : List Int, l.Pairwise (· ≤ ·) → (insI x l).Pairwise (· ≤ ·)
  | [], _ => by simp [insI]
  | y :: r, h => by
    have h1 := List.pairwise_cons.mp h
    unfold insI
    split
    · next hxy =>
      refine List.pairwise_cons.mpr ⟨fun z hz => ?_, h⟩
      rcases List.mem_cons.mp hz with rfl | hz
      · exact hxy
      · exact Int.le_trans hxy (h1.1 z hz)
    · next hxy =>
      refine List.pairwise_cons.mpr ⟨fun z hz => ?_, insI_sorted x r h1.2⟩
      rcases List.mem_cons.mp ((insI_perm x r).mem_iff.mp hz) with rfl | hz
      · omega
      · exact h1.1 z hz
theorem srt_sorted : ∀ l, (srt l).Pairwise (· ≤ ·)
  | [] => .nil
  | x :: r => insI_sorted x _ (srt_sorted r)
theorem srt_uniq {ns l : List Int} (p : ns.Perm l) (o : ns.Pairwise (· ≤ ·)) : ns = srt l :=
  List.Perm.eq_of_pairwise (fun _ _ _ _ h1 h2 => Int.le_antisymm h1 h2) o (srt_sorted l) (p.trans (srt_perm l).symm)
def stl (rs : List Int) (i : Nat) : List Nat := (List.range i).filter fun j => decide (lb (rot rs j) ≠ [])
def stI (rs : List Int) (i : Nat) : List Int := (stl rs i).map fun (j : Nat) => 0 + (j : Int)
def plS (rs : List Int) (i : Nat) : List (List Int) := (stl rs i).map fun j => srt (plc rs j)
theorem stl_nil {rs : List Int} {i : Nat} (h : lb (rot rs i) = []) : stl rs (i + 1) = stl rs i := by
  unfold stl; rw [List.range_succ, List.filter_append]; simp [h]
theorem stl_ne {rs : List Int} {i : Nat} (h : lb (rot rs i) ≠ []) : stl rs (i + 1) = stl rs i ++ [i] := by
  unfold stl; rw [List.range_succ, List.filter_append]; simp [h]
theorem stl_len (rs : List Int) (i : Nat) : (stl rs i).length ≤ i := by
  unfold stl; exact Nat.le_trans (List.length_filter_le ..) (by simp)
theorem stI_len (rs : List Int) (i : Nat) : (stI rs i).length ≤ i := by unfold stI; rw [List.length_map]; exact stl_len rs i
theorem plS_len (rs : List Int) (i : Nat) : (plS rs i).length ≤ i := by unfold plS; rw [List.length_map]; exact stl_len rs i
def KeepL (m m' : Str → Option Value) : Prop := ∀ y, y ≠ Str.ofString "row" → y ≠ Str.ofString "begins" → y ≠ Str.ofString "turned" → y ≠ Str.ofString "over" → y ≠ Str.ofString "sign" → m' y = m y
theorem keepL {m m' : Str → Option Value} {v1 v2 v3 : Option Value} (h : KeepM (fun y => if y = Str.ofString "turned" then v1 else if y = Str.ofString "over" then v2 else if y = Str.ofString "sign" then v3 else m y) m') : KeepL m m' := fun y h1 h2 h3 h4 h5 => by
  have e := h y h1 h2
  simp only [if_neg h3, if_neg h4, if_neg h5] at e
  exact e
theorem turn_grown {Q : Flow → Shared → Prop} {E : Value → Shared → Prop} {i : Nat} {rs ss : List Int} {lr ls lp : Addr} {oS : Obj} {tS tN tk : Tok} {vsr vss vsp : List Value} {kr ks kp : Nat} {tl : List (Addr × Obj)}
    (B : Below callerA base [] h₀) (F : Fr h₀ L s.heap m) (X : (Mine.hd.heap_39 w.params).In h₀) (N : News h₀ L s.heap ((ls, listOf vss.toArray ks) :: (lp, listOf vsp.toArray kp) :: tl)) (T : Top p loose mean mg mb h₀)
    (C : CodeHd base 62 58) (C' : CodeHd base 55 51)
    {c : Addr} {oc : Obj} (h58 : (58, tabD c) ∈ tl) (hc : (c, oc) ∈ tl) (hG : GD oc) {c' : Addr} {oc' : Obj} (h51 : (51, tabI c') ∈ tl) (hc' : (c', oc') ∈ tl) (hG' : GI oc')
    {oK : Obj} (hcK : (L + 1 + 1 + 1, oK) ∈ tl) (hoK : oK.data = .cell (some (.int (0 + (i : Int)) tk))) (hcS : (L + 1 + 1, oS) ∈ tl) (hoS : oS.data = .cell (some (.int rs.length tS)))
    (hlr : (lr, listOf vsr.toArray kr) ∈ tl) (hir : IntsAre vsr rs) (his : IntsAre vss ss) (hss : ss.length ≤ 8) (hps : vsp.length ≤ 8)
    (hnb : Has m (Str.ofString "number") (.int (nbI rs) tN)) (hrg : Has m (Str.ofString "ring") (.ref lr)) (hst : Has m (Str.ofString "starts") (.ref ls)) (hpl : Has m (Str.ofString "places") (.ref lp))
    (hin : i < rs.length) (hR : RingOk rs) (ne1 : ∀ p ∈ tl, p.1 ≠ ls) (ne2 : ∀ p ∈ tl, p.1 ≠ lp) (ne3 : @LT.lt Nat _ ls lp)
    (ret0 : ∀ h' tk' m', KeepL m m' → lb (rot rs i) = [] → Fr h₀ L h' m' → News h₀ L h' ((ls, listOf vss.toArray ks) :: (lp, listOf vsp.toArray kp) :: tl) → Q .next {s with heap := h', toks := tk'})
    (ret1 : ∀ h' tk' m' vs' ks' kp' D vsd kd, KeepL m m' → lb (rot rs i) ≠ [] → IntsAre vs' (ss ++ [0 + (i : Int)]) → IntsAre vsd (srt (plc rs i)) → Fr h₀ L h' m' →
      (∀ p ∈ tl, p.1 < D) → ls < D → lp < D → News h₀ L h' ((ls, listOf vs'.toArray ks') :: (lp, listOf (vsp ++ [Value.ref D]).toArray kp') :: (D, listOf vsd.toArray kd) :: tl) → Q .next {s with heap := h', toks := tk'}) :
    wpAny (model PR w) (callerA.deeper (envOfC (Str.ofString "law") (fdScope lawS) L a ccd)) (execs lawLoop (envOfC (Str.ofString "law") (fdScope lawS) L a ccd)) Q E s := by
  have e := rot_div hR hin
  have e0 : (0 + (i : Int)).toNat = i := by omega
  refine turn_a_grown B F X N T C C' (.tail _ (.tail _ h58)) (.tail _ (.tail _ hc)) hG (.tail _ (.tail _ h51)) (.tail _ (.tail _ hc')) hG' (.tail _ (.tail _ hcK)) hoK (.tail _ (.tail _ hcS)) hoS hnb hin hR fun h' tk' t1 t2 t3 F' N' => ?_
  rw [e.1, e.2] at F'
  refine turn_b (tN := tN) (t3 := t3) (t1 := t1) (t2 := t2) B F' X N' T C C' h58 hc hG h51 hc' hG' hcK hoK hcS hoS hlr hir his hss hps ?_ ?_ ?_ ?_ ?_ ?_ hin hR ne1 ne2 ne3 ?_ ?_
  · exact rfl
  · exact rfl
  · rw [e0]; exact rfl
  · exact hrg
  · exact hst
  · exact hpl
  · intro h₂ tk₂ m₂ hK hl F₂ N₂
    exact ret0 _ _ _ (keepL hK) hl F₂ N₂
  · intro h₂ tk₂ m₂ vs' ks' kp' D vsd kd ns hK hl hi1 hi2 hp ho F₂ l1 l2 l3 N₂
    exact ret1 _ _ _ _ _ _ _ _ _ (keepL hK) hl hi1 (srt_uniq hp ho ▸ hi2) F₂ l1 l2 l3 N₂
theorem turn_fresh {Q : Flow → Shared → Prop} {E : Value → Shared → Prop} {i : Nat} {rs ss : List Int} {lr ls lp : Addr} {oS : Obj} {tS tN tk : Tok} {vsr vss vsp : List Value} {kr ks kp : Nat} {tl : List (Addr × Obj)}
    (B : Below callerA base [] h₀) (F : Fr h₀ L s.heap m) (X : (Mine.hd.heap_39 w.params).In h₀) (N : News h₀ L s.heap ((51, tabObj #[]) :: (ls, listOf vss.toArray ks) :: (lp, listOf vsp.toArray kp) :: tl)) (T : Top p loose mean mg mb h₀)
    (C : CodeHd base 62 58) (C' : CodeHd base 55 51)
    {c : Addr} {oc : Obj} (h58 : (58, tabD c) ∈ tl) (hc : (c, oc) ∈ tl) (hG : GD oc) (hP : ∀ p ∈ tl, p.1 ≠ 51) (hPs : ls ≠ 51) (hPp : lp ≠ 51)
    {oK : Obj} (hcK : (L + 1 + 1 + 1, oK) ∈ tl) (hoK : oK.data = .cell (some (.int (0 + (i : Int)) tk))) (hcS : (L + 1 + 1, oS) ∈ tl) (hoS : oS.data = .cell (some (.int rs.length tS)))
    (hlr : (lr, listOf vsr.toArray kr) ∈ tl) (hir : IntsAre vsr rs) (his : IntsAre vss ss) (hss : ss.length ≤ 8) (hps : vsp.length ≤ 8)
    (hnb : Has m (Str.ofString "number") (.int (nbI rs) tN)) (hrg : Has m (Str.ofString "ring") (.ref lr)) (hst : Has m (Str.ofString "starts") (.ref ls)) (hpl : Has m (Str.ofString "places") (.ref lp))
    (hin : i < rs.length) (hR : RingOk rs) (ne1 : ∀ p ∈ tl, p.1 ≠ ls) (ne2 : ∀ p ∈ tl, p.1 ≠ lp) (ne3 : @LT.lt Nat _ ls lp)
    (ret0 : ∀ h' tk' m' c' oc', GI oc' → (∀ q ∈ tl, q.1 < c') → ls < c' → lp < c' → KeepL m m' → lb (rot rs i) = [] → Fr h₀ L h' m' → News h₀ L h' ((ls, listOf vss.toArray ks) :: (lp, listOf vsp.toArray kp) :: (51, tabI c') :: (c', oc') :: tl) → Q .next {s with heap := h', toks := tk'})
    (ret1 : ∀ h' tk' m' vs' ks' kp' D vsd kd c' oc', GI oc' → (∀ q ∈ tl, q.1 < c') → ls < c' → lp < c' → KeepL m m' → lb (rot rs i) ≠ [] → IntsAre vs' (ss ++ [0 + (i : Int)]) → IntsAre vsd (srt (plc rs i)) → Fr h₀ L h' m' →
      (∀ p ∈ tl, p.1 < D) → ls < D → lp < D → News h₀ L h' ((ls, listOf vs'.toArray ks') :: (lp, listOf (vsp ++ [Value.ref D]).toArray kp') :: (D, listOf vsd.toArray kd) :: (51, tabI c') :: (c', oc') :: tl) → Q .next {s with heap := h', toks := tk'}) :
    wpAny (model PR w) (callerA.deeper (envOfC (Str.ofString "law") (fdScope lawS) L a ccd)) (execs lawLoop (envOfC (Str.ofString "law") (fdScope lawS) L a ccd)) Q E s := by
  have e := rot_div hR hin
  have e0 : (0 + (i : Int)).toNat = i := by omega
  refine turn_a_fresh B F X N T C C' (.tail _ (.tail _ h58)) (.tail _ (.tail _ hc)) hG ?_ (.tail _ (.tail _ hcK)) hoK (.tail _ (.tail _ hcS)) hoS hnb hin hR fun c' oc' h' tk' t1 t2 t3 hG' l1 l2 F' N' => ?_
  · intro p hp
    rcases List.mem_cons.mp hp with rfl | hp
    · exact hPs
    · rcases List.mem_cons.mp hp with rfl | hp
      · exact hPp
      · exact hP p hp
  have ls1 : ls < c' := l1 _ (.head _)
  have lp1 : lp < c' := l1 _ (.tail _ (.head _))
  have lt1 : ∀ q ∈ tl, q.1 < c' := fun q hq => l1 q (.tail _ (.tail _ hq))
  rw [e.1, e.2] at F'
  have N₁ : News h₀ L h' ((ls, listOf vss.toArray ks) :: (lp, listOf vsp.toArray kp) :: (51, tabI c') :: (c', oc') :: tl) := News.sub N' (by k_subL)
  have off : ∀ x : Addr, x ≠ 51 → x < c' → (∀ p ∈ tl, p.1 ≠ x) → ∀ p ∈ (51, tabI c') :: (c', oc') :: tl, p.1 ≠ x := fun x h1 h2 h3 p hp => by
    rcases List.mem_cons.mp hp with rfl | hp
    · exact Ne.symm h1
    · rcases List.mem_cons.mp hp with rfl | hp
      · exact (Nat.ne_of_lt h2).symm
      · exact h3 p hp
  refine turn_b (tN := tN) (t3 := t3) (t1 := t1) (t2 := t2) B F' X N₁ T C C' (.tail _ (.tail _ h58)) (.tail _ (.tail _ hc)) hG (.head _) (.tail _ (.head _)) hG' (.tail _ (.tail _ hcK)) hoK (.tail _ (.tail _ hcS)) hoS (.tail _ (.tail _ hlr)) hir his hss hps ?_ ?_ ?_ ?_ ?_ ?_ hin hR (off ls hPs ls1 ne1) (off lp hPp lp1 ne2) ne3 ?_ ?_
  · exact rfl
  · exact rfl
  · rw [e0]; exact rfl
  · exact hrg
  · exact hst
  · exact hpl
  · intro h₂ tk₂ m₂ hK hl F₂ N₂
    exact ret0 _ _ _ _ _ hG' lt1 ls1 lp1 (keepL hK) hl F₂ N₂
  · intro h₂ tk₂ m₂ vs' ks' kp' D vsd kd ns hK hl hi1 hi2 hp ho F₂ l1 l2 l3 N₂
    exact ret1 _ _ _ _ _ _ _ _ _ _ _ hG' lt1 ls1 lp1 (keepL hK) hl hi1 (srt_uniq hp ho ▸ hi2) F₂ (fun p hp => l1 p (.tail _ (.tail _ hp))) l2 l3 N₂
theorem rst_LOOPL : True := by
  w_top off
  trivial
def forTgt : Stmt → Expr
  | .For t _ _ _ _ => t
  | _ => .Name (Str.ofString "") ⟨0, 0, 0, 0⟩
def forIter : Stmt → Expr
  | .For _ i _ _ _ => i
  | _ => .Name (Str.ofString "") ⟨0, 0, 0, 0⟩
def forPos : Stmt → Pos
  | .For _ _ _ _ p => p
  | _ => ⟨0, 0, 0, 0⟩
def namePos : Expr → Pos
  | .Name _ p => p
  | _ => ⟨0, 0, 0, 0⟩
def KJ (rs : List Int) (L ls lp lr : Addr) (tN : Tok) (ks₀ kp₀ : Nat) (tl₀ : List (Addr × Obj)) (i : Nat) (m₁ : Str → Option Value) (n₁ : List (Addr × Obj)) : Prop :=
  ∃ oK vK rest, oK.data = .cell vK ∧ n₁ = (L + 1 + 1 + 1, oK) :: rest ∧ (∀ p ∈ rest, p.1 ≠ L + 1 + 1 + 1) ∧ Has m₁ (Str.ofString "number") (.int (nbI rs) tN) ∧ Has m₁ (Str.ofString "ring") (.ref lr) ∧ Has m₁ (Str.ofString "starts") (.ref ls) ∧ Has m₁ (Str.ofString "places") (.ref lp) ∧
    ((i = 0 ∧ rest = (51, tabObj #[]) :: (ls, listOf ([] : List Value).toArray ks₀) :: (lp, listOf ([] : List Value).toArray kp₀) :: tl₀) ∨
     (0 < i ∧ ∃ vss ks vsp kp tl c' oc', rest = (ls, listOf vss.toArray ks) :: (lp, listOf vsp.toArray kp) :: tl ∧ IntsAre vss (stI rs i) ∧ KRows vsp tl (plS rs i) ∧ (51, tabI c') ∈ tl ∧ (c', oc') ∈ tl ∧ GI oc' ∧ (∀ q ∈ tl₀, q ∈ tl) ∧ (∀ p ∈ tl, p.1 ≠ ls) ∧ (∀ p ∈ tl, p.1 ≠ lp)))
theorem law_loop {Q : Flow → Shared → Prop} {E : Value → Shared → Prop} {rs : List Int} {lr ls lp : Addr} {oS oK : Obj} {vK : Option Value} {tS tN : Tok} {vsr : List Value} {kr ks₀ kp₀ : Nat} {tl₀ : List (Addr × Obj)}
    (B : Below callerA base [] h₀) (F : Fr h₀ L s.heap m) (X : (Mine.hd.heap_39 w.params).In h₀) (T : Top p loose mean mg mb h₀)
    (N : News h₀ L s.heap ((L + 1 + 1 + 1, oK) :: (51, tabObj #[]) :: (ls, listOf ([] : List Value).toArray ks₀) :: (lp, listOf ([] : List Value).toArray kp₀) :: tl₀)) (hoK : oK.data = .cell vK)
    (C : CodeHd base 62 58) (C' : CodeHd base 55 51)
    {c : Addr} {oc : Obj} (h58 : (58, tabD c) ∈ tl₀) (hc : (c, oc) ∈ tl₀) (hG : GD oc) (hcS : (L + 1 + 1, oS) ∈ tl₀) (hoS : oS.data = .cell (some (.int rs.length tS)))
    (hlr : (lr, listOf vsr.toArray kr) ∈ tl₀) (hir : IntsAre vsr rs)
    (hnb : Has m (Str.ofString "number") (.int (nbI rs) tN)) (hrg : Has m (Str.ofString "ring") (.ref lr)) (hst : Has m (Str.ofString "starts") (.ref ls)) (hpl : Has m (Str.ofString "places") (.ref lp))
    (hR : RingOk rs) (n1 : ∀ p ∈ tl₀, p.1 ≠ ls) (n2 : ∀ p ∈ tl₀, p.1 ≠ lp) (n3 : @LT.lt Nat _ ls lp) (n4 : ∀ p ∈ tl₀, p.1 ≠ 51) (n5 : ls ≠ 51) (n6 : lp ≠ 51) (n7 : ∀ p ∈ tl₀, p.1 ≠ L + 1 + 1 + 1) (n8 : ls ≠ L + 1 + 1 + 1) (n9 : lp ≠ L + 1 + 1 + 1) (n10 : (51 : Nat) ≠ L + 1 + 1 + 1)
    (hE : PassesOwn (model PR w) (callerA.deeper (envOfC (Str.ofString "law") (fdScope lawS) L a ccd)) (envOfC (Str.ofString "law") (fdScope lawS) L a ccd) E)
    (ret : ∀ h' tk' m' news, KJ rs L ls lp lr tN ks₀ kp₀ tl₀ rs.length m' news → Fr h₀ L h' m' → News h₀ L h' news →
      wpAny (model PR w) (callerA.deeper (envOfC (Str.ofString "law") (fdScope lawS) L a ccd)) (execs (dropS 8 (fdBody lawS)) (envOfC (Str.ofString "law") (fdScope lawS) L a ccd)) Q E {s with heap := h', toks := tk'}) :
    wpAny (model PR w) (callerA.deeper (envOfC (Str.ofString "law") (fdScope lawS) L a ccd)) (execs (dropS 7 (fdBody lawS)) (envOfC (Str.ofString "law") (fdScope lawS) L a ccd)) Q E s := by
  have hS : dropS 7 (fdBody lawS) = .For (.Name (Str.ofString "k") (namePos (forTgt (nthS 7 (fdBody lawS))))) (forIter (nthS 7 (fdBody lawS))) lawLoop [] (forPos (nthS 7 (fdBody lawS))) :: dropS 8 (fdBody lawS) := by rfl
  rw [hS]
  generalize hSc : fdScope lawS = sc at *
  conv at hSc => lhs; whnf
  subst hSc
  generalize dropS 8 (fdBody lawS) = restS at *
  generalize hBS : lawLoop = bodyS at *
  generalize hB1 : forIter (nthS 7 (fdBody lawS)) = it₁
  conv at hB1 => lhs; whnf
  subst hB1
  generalize namePos (forTgt (nthS 7 (fdBody lawS))) = px
  generalize forPos (nthS 7 (fdBody lawS)) = pf
  have hrl := hR.2.2
  k_with_none
  k_steps
  refine' for_name ?_ ?hs ?hE
  case hs => intro _; rfl
  case hE => exact hE
  k_steps
  refine' range_loop (n := rs.length) (KJ rs L ls lp lr tN ks₀ kp₀ tl₀) ?hh ?hr ?hsm ?hn ?F ?N ?h0 ?turn ?done
  case hh => rfl
  case hr => assumption
  case hsm => exact r_small (by omega) (by omega) (by omega) (by omega)
  case hn => exact r_size (by omega)
  case F => k_asm
  case N => k_asm
  case h0 =>
    refine ⟨oK, vK, _, hoK, rfl, ?_, hnb, hrg, hst, hpl, .inl ⟨rfl, rfl⟩⟩
    intro p hp
    rcases List.mem_cons.mp hp with rfl | hp
    · exact n10
    · rcases List.mem_cons.mp hp with rfl | hp
      · exact n8
      · rcases List.mem_cons.mp hp with rfl | hp
        · exact n9
        · exact n7 p hp
  case turn =>
    intro I i t m₁ n₁ it h tk hin hlt hJ hoff F₁ N₁
    obtain ⟨oK₁, vK₁, rest, hoK₁, rfl, nK, hnb₁, hrg₁, hst₁, hpl₁, hJ⟩ := hJ
    have nI : ∀ p ∈ rest, p.1 ≠ I := fun p hp => hoff p (.tail _ hp)
    have nKI : I ≠ L + 1 + 1 + 1 := (hoff _ (.head _)).symm
    k_lt hlt
    k_steps
    rename News _ _ _ ((I, it) :: (L + 1 + 1 + 1, _) :: _) => N₂
    rename Obj.data _ = Data.cell (some (Value.int (0 + (i : Int)) t)) => hd₂
    rename Fr h₀ L _ m₁ => F₂
    rename Obj => o₂
    subst hBS
    rcases hJ with ⟨rfl, rfl⟩ | ⟨hi0, vss, ks, vsp, kp, tl, c', oc', rfl, his, hKR, h51, hc', hG', hsub, ne1, ne2⟩
    · have N₃ : News h₀ L _ ((51, tabObj #[]) :: (ls, listOf ([] : List Value).toArray ks₀) :: (lp, listOf ([] : List Value).toArray kp₀) :: (I, it) :: (L + 1 + 1 + 1, o₂) :: tl₀) := News.sub N₂ (by k_subL)
      have e51 : (51 : Addr) ≠ I := nI _ (.head _)
      have els : ls ≠ I := nI _ (.tail _ (.head _))
      have elp : lp ≠ I := nI _ (.tail _ (.tail _ (.head _)))
      have et : ∀ p ∈ tl₀, p.1 ≠ I := fun p hp => nI p (.tail _ (.tail _ (.tail _ hp)))
      have off3 : ∀ x : Addr, x ≠ I → x ≠ L + 1 + 1 + 1 → (∀ p ∈ tl₀, p.1 ≠ x) → ∀ p ∈ (I, it) :: (L + 1 + 1 + 1, o₂) :: tl₀, p.1 ≠ x := fun x h1 h2 h3 p hp => by
        rcases List.mem_cons.mp hp with rfl | hp
        · exact Ne.symm h1
        · rcases List.mem_cons.mp hp with rfl | hp
          · exact Ne.symm h2
          · exact h3 p hp
      refine turn_fresh (i := 0) (ss := []) B F₂ X N₃ T C C' (.tail _ (.tail _ h58)) (.tail _ (.tail _ hc)) hG (off3 51 e51 n10 n4) n5 n6 (.tail _ (.head _)) hd₂ (.tail _ (.tail _ hcS)) hoS (.tail _ (.tail _ hlr)) hir .nil (by simp) (by simp) hnb₁ hrg₁ hst₁ hpl₁ hin hR (off3 ls els n8 n1) (off3 lp elp n9 n2) n3 ?_ ?_
      · intro h₂ tk₂ m₂ c' oc' hG' lt1 lt2 lt3 hK hl F₃ N₄
        have cI : I < c' := lt1 _ (.head _)
        have cK : L + 1 + 1 + 1 < c' := lt1 _ (.tail _ (.head _))
        refine unr_drop (all := (I, it) :: (L + 1 + 1 + 1, o₂) :: (ls, listOf ([] : List Value).toArray ks₀) :: (lp, listOf ([] : List Value).toArray kp₀) :: (51, tabI c') :: (c', oc') :: tl₀) 0 F₃ (News.sub N₄ (by k_subL)) rfl ?_ ⟨sub_nil, ?_⟩
        · exact (fa (nKI.symm) (fa (els) (fa (elp) (fa (e51) (fa ((Nat.ne_of_lt cI).symm) et)))))
        · refine ⟨o₂, _, _, hd₂, rfl, ?_, (Has.of hnb₁ (hK _ (by decide) (by decide) (by decide) (by decide) (by decide))), (Has.of hrg₁ (hK _ (by decide) (by decide) (by decide) (by decide) (by decide))), (Has.of hst₁ (hK _ (by decide) (by decide) (by decide) (by decide) (by decide))), (Has.of hpl₁ (hK _ (by decide) (by decide) (by decide) (by decide) (by decide))), .inr ⟨Nat.succ_pos _, [], ks₀, [], kp₀, _, c', oc', rfl, ?_, ?_, .head _, .tail _ (.head _), hG', fun q hq => .tail _ (.tail _ hq), ?_, ?_⟩⟩
          · exact (fa (n8) (fa (n9) (fa (n10) (fa ((Nat.ne_of_lt cK).symm) n7))))
          · unfold stI; rw [stl_nil hl]; exact .nil
          · unfold plS; rw [stl_nil hl]; exact ⟨rfl, fun i hi => nomatch hi⟩
          · exact (fa (Ne.symm n5) (fa ((Nat.ne_of_lt lt2).symm) n1))
          · exact (fa (Ne.symm n6) (fa ((Nat.ne_of_lt lt3).symm) n2))
      · intro h₂ tk₂ m₂ vs' ks' kp' D vsd kd c' oc' hG' lt1 lt2 lt3 hK hl hi1 hi2 F₃ l1 l2 l3 N₄
        have cI : I < c' := lt1 _ (.head _)
        have cK : L + 1 + 1 + 1 < c' := lt1 _ (.tail _ (.head _))
        have dI : I < D := l1 _ (.head _)
        have dK : L + 1 + 1 + 1 < D := l1 _ (.tail _ (.head _))
        refine unr_drop (all := (I, it) :: (L + 1 + 1 + 1, o₂) :: (ls, listOf vs'.toArray ks') :: (lp, listOf ([] ++ [Value.ref D]).toArray kp') :: (D, listOf vsd.toArray kd) :: (51, tabI c') :: (c', oc') :: tl₀) 0 F₃ (News.sub N₄ (by k_subL)) rfl ?_ ⟨sub_nil, ?_⟩
        · exact (fa (nKI.symm) (fa (els) (fa (elp) (fa ((Nat.ne_of_lt dI).symm) (fa (e51) (fa ((Nat.ne_of_lt cI).symm) et))))))
        · refine ⟨o₂, _, _, hd₂, rfl, ?_, (Has.of hnb₁ (hK _ (by decide) (by decide) (by decide) (by decide) (by decide))), (Has.of hrg₁ (hK _ (by decide) (by decide) (by decide) (by decide) (by decide))), (Has.of hst₁ (hK _ (by decide) (by decide) (by decide) (by decide) (by decide))), (Has.of hpl₁ (hK _ (by decide) (by decide) (by decide) (by decide) (by decide))), .inr ⟨Nat.succ_pos _, vs', ks', _, kp', _, c', oc', rfl, ?_, ?_, .tail _ (.head _), .tail _ (.tail _ (.head _)), hG', fun q hq => .tail _ (.tail _ (.tail _ hq)), ?_, ?_⟩⟩
          · exact (fa (n8) (fa (n9) (fa ((Nat.ne_of_lt dK).symm) (fa (n10) (fa ((Nat.ne_of_lt cK).symm) n7)))))
          · unfold stI; rw [stl_ne hl]; exact hi1
          · unfold plS; rw [stl_ne hl]; exact KRows.snoc (rows := []) ⟨rfl, fun i hi => nomatch hi⟩ hi2
          · exact (fa ((Nat.ne_of_lt l2).symm) (fa (Ne.symm n5) (fa ((Nat.ne_of_lt lt2).symm) n1)))
          · exact (fa ((Nat.ne_of_lt l3).symm) (fa (Ne.symm n6) (fa ((Nat.ne_of_lt lt3).symm) n2)))
    · have N₃ : News h₀ L _ ((ls, listOf vss.toArray ks) :: (lp, listOf vsp.toArray kp) :: (I, it) :: (L + 1 + 1 + 1, o₂) :: tl) := News.sub N₂ (by k_subL)
      have els : ls ≠ I := nI _ (.head _)
      have elp : lp ≠ I := nI _ (.tail _ (.head _))
      have et : ∀ p ∈ tl, p.1 ≠ I := fun p hp => nI p (.tail _ (.tail _ hp))
      have off3 : ∀ x : Addr, x ≠ I → x ≠ L + 1 + 1 + 1 → (∀ p ∈ tl, p.1 ≠ x) → ∀ p ∈ (I, it) :: (L + 1 + 1 + 1, o₂) :: tl, p.1 ≠ x := fun x h1 h2 h3 p hp => by
        rcases List.mem_cons.mp hp with rfl | hp
        · exact Ne.symm h1
        · rcases List.mem_cons.mp hp with rfl | hp
          · exact Ne.symm h2
          · exact h3 p hp
      refine turn_grown B F₂ X N₃ T C C' (.tail _ (.tail _ (hsub _ h58))) (.tail _ (.tail _ (hsub _ hc))) hG (.tail _ (.tail _ h51)) (.tail _ (.tail _ hc')) hG' (.tail _ (.head _)) hd₂ (.tail _ (.tail _ (hsub _ hcS))) hoS (.tail _ (.tail _ (hsub _ hlr))) hir his (by have := stI_len rs i; omega) (by have := plS_len rs i; have := hKR.1; omega) hnb₁ hrg₁ hst₁ hpl₁ hin hR (off3 ls els n8 ne1) (off3 lp elp n9 ne2) n3 ?_ ?_
      · intro h₂ tk₂ m₂ hK hl F₃ N₄
        refine unr_drop (all := (I, it) :: (L + 1 + 1 + 1, o₂) :: (ls, listOf vss.toArray ks) :: (lp, listOf vsp.toArray kp) :: tl) 0 F₃ (News.sub N₄ (by k_subL)) rfl ?_ ⟨sub_nil, ?_⟩
        · exact (fa (nKI.symm) (fa (els) (fa (elp) et)))
        · refine ⟨o₂, _, _, hd₂, rfl, nK, (Has.of hnb₁ (hK _ (by decide) (by decide) (by decide) (by decide) (by decide))), (Has.of hrg₁ (hK _ (by decide) (by decide) (by decide) (by decide) (by decide))), (Has.of hst₁ (hK _ (by decide) (by decide) (by decide) (by decide) (by decide))), (Has.of hpl₁ (hK _ (by decide) (by decide) (by decide) (by decide) (by decide))), .inr ⟨Nat.succ_pos _, vss, ks, vsp, kp, tl, c', oc', rfl, ?_, ?_, h51, hc', hG', hsub, ne1, ne2⟩⟩
          · unfold stI; rw [stl_nil hl]; exact his
          · unfold plS; rw [stl_nil hl]; exact hKR
      · intro h₂ tk₂ m₂ vs' ks' kp' D vsd kd hK hl hi1 hi2 F₃ l1 l2 l3 N₄
        have dI : I < D := l1 _ (.head _)
        have dK : L + 1 + 1 + 1 < D := l1 _ (.tail _ (.head _))
        refine unr_drop (all := (I, it) :: (L + 1 + 1 + 1, o₂) :: (ls, listOf vs'.toArray ks') :: (lp, listOf (vsp ++ [Value.ref D]).toArray kp') :: (D, listOf vsd.toArray kd) :: tl) 0 F₃ (News.sub N₄ (by k_subL)) rfl ?_ ⟨sub_nil, ?_⟩
        · exact (fa (nKI.symm) (fa (els) (fa (elp) (fa ((Nat.ne_of_lt dI).symm) et))))
        · refine ⟨o₂, _, _, hd₂, rfl, ?_, (Has.of hnb₁ (hK _ (by decide) (by decide) (by decide) (by decide) (by decide))), (Has.of hrg₁ (hK _ (by decide) (by decide) (by decide) (by decide) (by decide))), (Has.of hst₁ (hK _ (by decide) (by decide) (by decide) (by decide) (by decide))), (Has.of hpl₁ (hK _ (by decide) (by decide) (by decide) (by decide) (by decide))), .inr ⟨Nat.succ_pos _, vs', ks', _, kp', _, c', oc', rfl, ?_, ?_, .tail _ h51, .tail _ hc', hG', fun q hq => .tail _ (hsub q hq), ?_, ?_⟩⟩
          · exact (fa (n8) (fa (n9) (fa ((Nat.ne_of_lt dK).symm) (fun p hp => nK p (.tail _ (.tail _ hp))))))
          · unfold stI; rw [stl_ne hl, List.map_append]; exact hi1
          · unfold plS; rw [stl_ne hl, List.map_append]; exact KRows.snoc hKR hi2
          · intro p hp
            rcases List.mem_cons.mp hp with rfl | hp
            · exact (Nat.ne_of_lt l2).symm
            · exact ne1 p hp
          · intro p hp
            rcases List.mem_cons.mp hp with rfl | hp
            · exact (Nat.ne_of_lt l3).symm
            · exact ne2 p hp
  case done =>
    intro m₁ n₁ h tk hJ F₁ N₁
    exact ret _ _ _ _ hJ F₁ N₁
/-! the lemma of the ring: a row's reading depends on how many parts each symbol takes, and there are few rows -/
def patI (x : Int) : Int := if 256 ≤ x then x else 1
theorem bturn_pat (x : Int) (i : Nat) (st : List Int × Int) : bturn (patI x) i st = bturn x i st := by
  unfold bturn patI
  by_cases h : (256 : Int) ≤ x <;> simp [h]
theorem stAt_pat (rs : List Int) : ∀ i, i ≤ rs.length → stAt (rs.map patI) i = stAt rs i
  | 0, _ => rfl
  | i + 1, h => by
    unfold stAt
    rw [stAt_pat rs i (by omega), show (rs.map patI).getD i 0 = patI (rs.getD i 0) by
      rw [List.getD_eq_getElem?_getD, List.getD_eq_getElem?_getD, List.getElem?_map, List.getElem?_eq_getElem (by omega)]; rfl, bturn_pat]
theorem lb_pat (rs : List Int) : lb (rs.map patI) = lb rs := by
  unfold lb
  rw [List.length_map, stAt_pat rs rs.length (Nat.le_refl _)]
theorem rot_pat (rs : List Int) (i : Nat) : rot (rs.map patI) i = (rot rs i).map patI := by
  unfold rot; rw [List.map_append, List.map_drop, List.map_take]
theorem stl_pat (rs : List Int) (i : Nat) : stl (rs.map patI) i = stl rs i := by
  unfold stl
  congr 1
  funext j
  rw [rot_pat, lb_pat]
theorem plc_pat (rs : List Int) (i : Nat) : plc (rs.map patI) i = plc rs i := by
  unfold plc
  rw [rot_pat, lb_pat, List.length_map]
theorem stI_pat (rs : List Int) (i : Nat) : stI (rs.map patI) i = stI rs i := by unfold stI; rw [stl_pat]
theorem plS_pat (rs : List Int) (i : Nat) : plS (rs.map patI) i = plS rs i := by
  unfold plS
  rw [stl_pat]
  congr 1
  funext j
  rw [plc_pat]
def prtI (x : Int) : Int := if 256 ≤ x then x - 255 else 0
def chk (rs : List Int) : Bool :=
  decide (((stI rs rs.length).length : Int) = max ((rs.length : Int) - (rs.map prtI).sum) 0) && decide (plS rs rs.length = List.replicate (stI rs rs.length).length (stI rs rs.length))
/-! the same over the numbers of parts, by the recursors alone: small steps for the kernel -/
noncomputable def scanN (r : List Nat) : Nat → Nat → List Nat → List Nat :=
  List.rec (motive := fun _ => Nat → Nat → List Nat → List Nat) (fun aw _ acc => cond (Nat.beq aw 0) acc []) (fun p _ ih aw i acc => cond (Nat.beq aw 0) (ih p (Nat.succ i) (i :: acc)) (ih (Nat.sub (Nat.add aw p) 1) (Nat.succ i) acc)) r
noncomputable def insN (x : Nat) (l : List Nat) : List Nat :=
  List.rec (motive := fun _ => List Nat) [x] (fun y r ih => cond (Nat.ble x y) (x :: y :: r) (y :: ih)) l
noncomputable def srtN (l : List Nat) : List Nat := List.rec (motive := fun _ => List Nat) [] (fun x _ ih => insN x ih) l
noncomputable def eqN (a : List Nat) : List Nat → Bool :=
  List.rec (motive := fun _ => List Nat → Bool) (fun b => List.rec (motive := fun _ => Bool) true (fun _ _ _ => false) b) (fun x _ ih b => List.rec (motive := fun _ => Bool) false (fun y s _ => cond (Nat.beq x y) (ih s) false) b) a
noncomputable def lenN (l : List Nat) : Nat := List.rec (motive := fun _ => Nat) 0 (fun _ _ ih => Nat.succ ih) l
noncomputable def sumN (l : List Nat) : Nat := List.rec (motive := fun _ => Nat) 0 (fun x _ ih => Nat.add x ih) l
noncomputable def appN (a b : List Nat) : List Nat := List.rec (motive := fun _ => List Nat) b (fun x _ ih => x :: ih) a
/-- the turns: what is left, what stands behind, the turn's number; gives the pairs of a start and its beginnings -/
noncomputable def turnsN (r : List Nat) : List Nat → Nat → List (Nat × List Nat) :=
  List.rec (motive := fun _ => List Nat → Nat → List (Nat × List Nat)) (fun _ _ => []) (fun x t ih pre k =>
    List.rec (motive := fun _ => List (Nat × List Nat)) (ih (appN pre [x]) (Nat.succ k)) (fun b bs _ => (k, b :: bs) :: ih (appN pre [x]) (Nat.succ k)) (scanN (appN (x :: t) pre) 0 0 [])) r
noncomputable def fstN (l : List (Nat × List Nat)) : List Nat := List.rec (motive := fun _ => List Nat) [] (fun x _ ih => x.1 :: ih) l
noncomputable def modN (n k : Nat) (l : List Nat) : List Nat := List.rec (motive := fun _ => List Nat) [] (fun x _ ih => Nat.mod (Nat.add k x) n :: ih) l
noncomputable def allN (n : Nat) (st : List Nat) (l : List (Nat × List Nat)) : Bool := List.rec (motive := fun _ => Bool) true (fun x _ ih => cond (eqN (srtN (modN n x.1 x.2)) st) ih false) l
noncomputable def chkN (w : List Nat) : Bool :=
  (fun ts => (fun st => cond (Nat.beq (lenN st) (Nat.sub (lenN w) (sumN w))) (allN (lenN w) st ts) false) (fstN ts)) (turnsN w [] 0)
noncomputable def allW (k : Nat) : List Nat → Bool :=
  Nat.rec (motive := fun _ => List Nat → Bool) (fun w => chkN w) (fun _ ih w => cond (ih (0 :: w)) (cond (ih (1 :: w)) (cond (ih (2 :: w)) (ih (3 :: w)) false) false) false) k
theorem lenN_eq : ∀ l, lenN l = l.length
  | [] => rfl
  | _ :: r => congrArg Nat.succ (lenN_eq r)
theorem sumN_eq : ∀ l, sumN l = l.sum
  | [] => rfl
  | x :: r => by rw [List.sum_cons, ← sumN_eq r]; rfl
theorem appN_eq (b : List Nat) : ∀ a, appN a b = a ++ b
  | [] => rfl
  | x :: r => congrArg (x :: ·) (appN_eq b r)
theorem fstN_eq : ∀ l, fstN l = l.map (·.1)
  | [] => rfl
  | x :: r => congrArg (x.1 :: ·) (fstN_eq r)
theorem modN_eq (n k : Nat) : ∀ l, modN n k l = l.map fun x => (k + x) % n
  | [] => rfl
  | x :: r => congrArg ((k + x) % n :: ·) (modN_eq n k r)
theorem eqN_eq : ∀ a b, eqN a b = true → a = b
  | [], [], _ => rfl
  | [], _ :: _, h => nomatch (show false = true from h)
  | _ :: _, [], h => nomatch (show false = true from h)
  | x :: r, y :: s, h => by
    have h' : cond (Nat.beq x y) (eqN r s) false = true := h
    cases hb : Nat.beq x y with
    | false => rw [hb] at h'; exact nomatch (show false = true from h')
    | true =>
      rw [hb] at h'
      rw [Nat.eq_of_beq_eq_true hb, eqN_eq r s h']
theorem insN_perm (x : Nat) : ∀ l, (insN x l).Perm (x :: l)
  | [] => .refl _
  | y :: r => by
    show (cond (Nat.ble x y) (x :: y :: r) (y :: insN x r)).Perm _
    cases Nat.ble x y with
    | true => exact .refl _
    | false => exact ((insN_perm x r).cons y).trans (.swap x y r)
theorem srtN_perm : ∀ l, (srtN l).Perm l
  | [] => .refl _
  | x :: r => (insN_perm x (srtN r)).trans ((srtN_perm r).cons x)
theorem allN_all (n : Nat) (st : List Nat) : ∀ l, allN n st l = true → ∀ q ∈ l, srtN (modN n q.1 q.2) = st
  | [], _, _, hq => nomatch hq
  | x :: r, h, q, hq => by
    have h' : cond (eqN (srtN (modN n x.1 x.2)) st) (allN n st r) false = true := h
    cases hb : eqN (srtN (modN n x.1 x.2)) st with
    | false => rw [hb] at h'; exact nomatch (show false = true from h')
    | true =>
      rw [hb] at h'
      rcases List.mem_cons.mp hq with rfl | hq
      · exact eqN_eq _ _ hb
      · exact allN_all n st r h' q hq
/-- the symbol that takes so many parts -/
def gP (p : Nat) : Int := if p = 0 then 1 else 255 + (p : Int)
def castL (l : List Nat) : List Int := l.map fun (x : Nat) => (x : Int)
theorem scan_eq {w : List Nat} : ∀ (r a acc : List Nat) (aw : Nat), w = a ++ r → stAt (w.map gP) a.length = (castL acc.reverse, (aw : Int)) →
    castL (scanN r aw a.length acc).reverse = lb (w.map gP)
  | [], a, acc, aw, hw, h => by
    rw [List.append_nil] at hw
    subst hw
    unfold lb
    rw [List.length_map, h]
    show castL (cond (Nat.beq aw 0) acc []).reverse = _
    by_cases h0 : aw = 0
    · subst h0; rfl
    · rw [if_neg (show ¬ ((aw : Int) = 0) by omega)]
      cases hb : Nat.beq aw 0 with
      | true => exact absurd (Nat.eq_of_beq_eq_true hb) h0
      | false => rfl
  | p :: r, a, acc, aw, hw, h => by
    have hg : (w.map gP).getD a.length 0 = gP p := by
      rw [hw, List.getD_eq_getElem?_getD, List.getElem?_map]
      simp
    have hs : stAt (w.map gP) (a.length + 1) = bturn (gP p) a.length (castL acc.reverse, (aw : Int)) := by
      rw [← h, ← hg]; rfl
    have hp : (if (256 : Int) ≤ gP p then gP p - 256 else -1) = (p : Int) - 1 := by
      unfold gP
      by_cases h0 : p = 0
      · subst h0; rfl
      · rw [if_neg h0, if_pos (by omega)]; omega
    have hw' : w = (a ++ [p]) ++ r := by rw [hw]; simp
    have hl : (a ++ [p]).length = a.length + 1 := by simp
    unfold bturn at hs
    rw [hp] at hs
    by_cases h0 : aw = 0
    · subst h0
      have ih := scan_eq r (a ++ [p]) (a.length :: acc) p hw' (by
        rw [hl, hs]
        refine Prod.ext ?_ ?_
        · simp [castL]
        · show (if ((0 : Nat) : Int) = 0 then (1 : Int) else _) + ((p : Int) - 1) = p
          rw [if_pos (show ((0 : Nat) : Int) = 0 from rfl)]; omega)
      rw [hl] at ih
      exact ih
    · have hz : ¬ ((aw : Int) = 0) := by omega
      have ih := scan_eq r (a ++ [p]) acc (aw + p - 1) hw' (by
        rw [hl, hs]
        refine Prod.ext ?_ ?_
        · show (if (aw : Int) = 0 then _ else _) = _
          rw [if_neg hz]
        · show (if (aw : Int) = 0 then (1 : Int) else (aw : Int)) + ((p : Int) - 1) = ((aw + p - 1 : Nat) : Int)
          rw [if_neg hz]; omega)
      rw [hl] at ih
      have hb : Nat.beq aw 0 = false := by
        cases hb : Nat.beq aw 0 with
        | true => exact absurd (Nat.eq_of_beq_eq_true hb) h0
        | false => rfl
      show castL (cond (Nat.beq aw 0) (scanN r p (Nat.succ a.length) (a.length :: acc)) (scanN r (aw + p - 1) (Nat.succ a.length) acc)).reverse = _
      rw [hb]
      exact ih
theorem scan_lb (w : List Nat) : castL (scanN w 0 0 []).reverse = lb (w.map gP) := scan_eq (w := w) w [] [] 0 rfl rfl
theorem castL_nil {l : List Nat} : castL l = [] ↔ l = [] := List.map_eq_nil_iff
theorem turns_eq {w : List Nat} : ∀ (r pre : List Nat), w = pre ++ r →
    (turnsN r pre pre.length).map (·.1) = (List.range' pre.length r.length).filter (fun j => decide (lb (rot (w.map gP) j) ≠ [])) ∧ ∀ q ∈ turnsN r pre pre.length, castL q.2.reverse = lb (rot (w.map gP) q.1)
  | [], pre, _ => ⟨rfl, fun _ h => nomatch h⟩
  | x :: t, pre, hw => by
    have hw' : w = (pre ++ [x]) ++ t := by rw [hw]; simp
    have hl : (pre ++ [x]).length = pre.length + 1 := by simp
    have ih := turns_eq t (pre ++ [x]) hw'
    rw [hl] at ih
    have hr : rot (w.map gP) pre.length = (x :: t ++ pre).map gP := by
      unfold rot
      rw [hw, ← List.map_drop, ← List.map_take, ← List.map_append]
      simp
    have hs := scan_lb (x :: t ++ pre)
    rw [← hr] at hs
    have hu : turnsN (x :: t) pre pre.length = List.rec (motive := fun _ => List (Nat × List Nat)) (turnsN t (pre ++ [x]) (pre.length + 1)) (fun b bs _ => (pre.length, b :: bs) :: turnsN t (pre ++ [x]) (pre.length + 1)) (scanN (x :: t ++ pre) 0 0 []) := by
      rw [← appN_eq [x] pre, ← appN_eq pre (x :: t)]
      rfl
    rw [hu, List.length_cons, List.range'_succ, List.filter_cons]
    cases hc : scanN (x :: t ++ pre) 0 0 [] with
    | nil =>
      rw [hc] at hs
      have hz : lb (rot (w.map gP) pre.length) = [] := hs.symm
      rw [if_neg (by simp [hz])]
      exact ih
    | cons b bs =>
      rw [hc] at hs
      have hz : lb (rot (w.map gP) pre.length) ≠ [] := fun e => by
        rw [e, castL_nil, List.reverse_eq_nil_iff] at hs
        exact nomatch hs
      rw [if_pos (by simp [hz])]
      refine ⟨congrArg (pre.length :: ·) ih.1, fun q hq => ?_⟩
      rcases List.mem_cons.mp hq with rfl | hq
      · exact hs
      · exact ih.2 q hq
theorem prt_gP (p : Nat) : prtI (gP p) = p := by
  unfold prtI gP
  by_cases h0 : p = 0
  · subst h0; rfl
  · rw [if_neg h0, if_pos (by omega)]; omega
theorem sum_gP : ∀ w : List Nat, ((w.map gP).map prtI).sum = (w.sum : Int)
  | [] => rfl
  | p :: r => by rw [List.map_cons, List.map_cons, List.sum_cons, List.sum_cons, sum_gP r, prt_gP]; omega
theorem chk_of {w : List Nat} (h : chkN w = true) : chk (w.map gP) = true := by
  have h' : cond (Nat.beq (lenN (fstN (turnsN w [] 0))) (Nat.sub (lenN w) (sumN w))) (allN (lenN w) (fstN (turnsN w [] 0)) (turnsN w [] 0)) false = true := h
  rw [lenN_eq, lenN_eq, sumN_eq, fstN_eq] at h'
  have ht := turns_eq (w := w) w [] rfl
  rw [show ([] : List Nat).length = 0 from rfl, ← List.range_eq_range'] at ht
  generalize turnsN w [] 0 = ts at *
  have hst : stl (w.map gP) w.length = ts.map (·.1) := ht.1.symm
  cases hb : Nat.beq (ts.map (·.1)).length (Nat.sub w.length w.sum) with
  | false => rw [hb] at h'; exact nomatch (show false = true from h')
  | true =>
    rw [hb] at h'
    have hlen : (ts.map (·.1)).length = w.length - w.sum := Nat.eq_of_beq_eq_true hb
    have hall := allN_all _ _ _ h'
    have hsI : stI (w.map gP) w.length = (ts.map (·.1)).map fun (j : Nat) => 0 + (j : Int) := by unfold stI; rw [hst]
    have hsort : (stI (w.map gP) w.length).Pairwise (· ≤ ·) := by
      unfold stI stl
      rw [List.pairwise_map]
      exact (List.Pairwise.filter _ List.pairwise_lt_range).imp fun hab => by omega
    unfold chk
    rw [List.length_map, Bool.and_eq_true]
    constructor
    · refine decide_eq_true ?_
      rw [sum_gP, hsI, List.length_map, hlen]
      omega
    · refine decide_eq_true ?_
      unfold plS
      rw [hst, List.map_map, hsI, List.length_map, List.length_map, ← hsI]
      rw [show List.replicate ts.length (stI (w.map gP) w.length) = ts.map fun _ => stI (w.map gP) w.length from List.map_const'.symm]
      refine List.map_congr_left fun q hq => ?_
      refine (srt_uniq ?_ hsort).symm
      have e := hall q hq
      rw [modN_eq] at e
      have hp := srtN_perm (q.2.map fun x => (q.1 + x) % w.length)
      rw [e] at hp
      have e2 : plc (w.map gP) q.1 = (q.2.reverse.map fun x => (q.1 + x) % w.length).map fun (j : Nat) => 0 + (j : Int) := by
        unfold plc
        rw [← ht.2 q hq, castL, List.map_map, List.map_map, List.length_map]
        refine List.map_congr_left fun x _ => ?_
        show (0 + (q.1 : Int) + (x : Int)).fmod (w.length : Int) = 0 + (((q.1 + x) % w.length : Nat) : Int)
        rw [Int.fmod_eq_emod_of_nonneg _ (by omega), Int.zero_add, Int.zero_add]
        rfl
      rw [hsI]
      show List.Perm _ (plc (w.map gP) q.1)
      rw [e2]
      refine List.Perm.map _ (hp.trans ?_)
      rw [List.map_reverse]
      exact (List.reverse_perm _).symm
theorem allW_sound : ∀ (k : Nat) (s : List Nat), allW k s = true → ∀ l : List Nat, l.length = k → (∀ p ∈ l, p < 4) → chkN (l.reverse ++ s) = true
  | 0, s, h, l, hl, _ => by
    have e : l = [] := List.length_eq_zero_iff.mp hl
    subst e
    exact h
  | k + 1, s, h, [], hl, _ => nomatch hl
  | k + 1, s, h, p :: l, hl, hp => by
    have h' : cond (allW k (0 :: s)) (cond (allW k (1 :: s)) (cond (allW k (2 :: s)) (allW k (3 :: s)) false) false) false = true := h
    have c : ∀ {a b : Bool}, cond a b false = true → a = true ∧ b = true := fun {a b} q => by cases a with
      | true => exact ⟨rfl, q⟩
      | false => exact nomatch (show false = true from q)
    have c0 := c h'
    have c1 := c c0.2
    have c2 := c c1.2
    rw [List.reverse_cons, List.append_assoc]
    have hs : allW k (p :: s) = true := by
      have := hp p (.head _)
      have : p = 0 ∨ p = 1 ∨ p = 2 ∨ p = 3 := by omega
      rcases this with rfl | rfl | rfl | rfl
      · exact c0.1
      · exact c1.1
      · exact c2.1
      · exact c2.2
    exact allW_sound k (p :: s) hs l (Nat.succ.inj hl) fun q hq => hp q (.tail _ hq)
theorem all0 : allW 0 [2, 0, 0] = true := by decide +kernel
theorem all1 : allW 1 [2, 0, 0] = true := by decide +kernel
theorem all2 : allW 2 [2, 0, 0] = true := by decide +kernel
theorem all3 : allW 3 [2, 0, 0] = true := by decide +kernel
theorem all4 : allW 4 [2, 0, 0] = true := by decide +kernel
theorem all5 : allW 5 [2, 0, 0] = true := by decide +kernel
theorem gP_back {x : Int} (h : x ∈ [1, 256, 257, 258]) : gP (prtI x).toNat = x ∧ (prtI x).toNat < 4 := by
  simp only [List.mem_cons, List.not_mem_nil, or_false] at h
  rcases h with rfl | rfl | rfl | rfl <;> decide
theorem chk_words {l : List Int} (h : ∀ x ∈ l, x ∈ [1, 256, 257, 258]) (hl : l.length ≤ 5) : chk (l ++ [257, 1, 1]) = true := by
  have e : l ++ [257, 1, 1] = ((l.map fun x => (prtI x).toNat) ++ [2, 0, 0]).map gP := by
    rw [List.map_append, List.map_map]
    refine congr (congrArg _ ?_) rfl
    conv => lhs; rw [← List.map_id l]
    refine List.map_congr_left fun x hx => ?_
    exact (gP_back (h x hx)).1.symm
  rw [e]
  have hs : ∀ k, k = l.length → allW k [2, 0, 0] = true → chkN ((l.map fun x => (prtI x).toNat) ++ [2, 0, 0]) = true := fun k hk ha => by
    have := allW_sound k _ ha (l.map fun x => (prtI x).toNat).reverse (by rw [List.length_reverse, List.length_map, hk]) fun p hp => by
      rw [List.mem_reverse] at hp
      obtain ⟨x, hx, rfl⟩ := List.mem_map.mp hp
      exact (gP_back (h x hx)).2
    rwa [List.reverse_reverse] at this
  refine chk_of ?_
  have : l.length = 0 ∨ l.length = 1 ∨ l.length = 2 ∨ l.length = 3 ∨ l.length = 4 ∨ l.length = 5 := by omega
  rcases this with q | q | q | q | q | q
  · exact hs 0 q.symm all0
  · exact hs 1 q.symm all1
  · exact hs 2 q.symm all2
  · exact hs 3 q.symm all3
  · exact hs 4 q.symm all4
  · exact hs 5 q.symm all5
def prt (x : Int) : Int := if x.fmod 8 < 4 then x.fmod 8 else 0
/-! Lagrange, for the few counts that a ring can have: over Nat, by the recursors alone (small steps for the kernel) -/
noncomputable def loopN (k : Nat) (f : Nat → Bool) : Bool := Nat.rec (motive := fun _ => Bool) true (fun i ih => cond (f i) ih false) k
/-- a row of the table goes over into the next one -/
def stepN (a b c d : Nat) (k : Nat → Nat → Nat → Nat → Nat → Bool) (r0 r1 r2 r3 r4 : Nat) : Bool :=
  k 0 (Nat.add (Nat.mul a r0) (Nat.add (Nat.mul b r1) (Nat.add (Nat.mul c r2) (Nat.mul d r3))))
    (Nat.add (Nat.mul a r1) (Nat.add (Nat.mul b r2) (Nat.add (Nat.mul c r3) (Nat.mul d r4))))
    (Nat.add (Nat.mul a r2) (Nat.add (Nat.mul b r3) (Nat.mul c r4)))
    (Nat.add (Nat.mul a r3) (Nat.mul b r4))
def oneN (p n t r : Nat) : Bool := Nat.beq (Nat.mul t (Nat.mod (Nat.div p (Nat.pow 65536 (Nat.sub n t))) 65536)) (Nat.mul n r)
def numN (a b c d : Nat) : Nat := Nat.add a (Nat.mul 65536 (Nat.add b (Nat.mul 65536 (Nat.add c (Nat.mul 65536 d)))))
def lagN (a b c d : Nat) : Bool :=
  stepN a b c d (fun _ r1 r2 r3 r4 => cond (oneN (Nat.pow (numN a b c d) 1) 1 1 r1)
    (stepN a b c d (fun _ r1 r2 r3 r4 => cond (cond (oneN (Nat.pow (numN a b c d) 2) 2 1 r1) (oneN (Nat.pow (numN a b c d) 2) 2 2 r2) false)
      (stepN a b c d (fun _ r1 r2 r3 r4 => cond (cond (oneN (Nat.pow (numN a b c d) 3) 3 1 r1) (cond (oneN (Nat.pow (numN a b c d) 3) 3 2 r2) (oneN (Nat.pow (numN a b c d) 3) 3 3 r3) false) false)
        (stepN a b c d (fun _ r1 r2 r3 r4 => cond (oneN (Nat.pow (numN a b c d) 4) 4 1 r1) (cond (oneN (Nat.pow (numN a b c d) 4) 4 2 r2) (cond (oneN (Nat.pow (numN a b c d) 4) 4 3 r3) (oneN (Nat.pow (numN a b c d) 4) 4 4 r4) false) false) false) 0 r1 r2 r3 r4) false)
        0 r1 r2 r3 r4) false)
      0 r1 r2 r3 r4) false)
    1 0 0 0 0
theorem lag_all : (loopN 9 fun a => loopN (Nat.sub 9 a) fun b => loopN (Nat.sub (Nat.sub 9 a) b) fun c => loopN (Nat.sub (Nat.sub (Nat.sub 9 a) b) c) fun d => lagN a b c d) = true := by decide +kernel
theorem cond_and {a b : Bool} (q : cond a b false = true) : a = true ∧ b = true := by
  cases a with
  | true => exact ⟨rfl, q⟩
  | false => exact nomatch (show false = true from q)
theorem loopN_all {f : Nat → Bool} : ∀ (k : Nat), loopN k f = true → ∀ i, i < k → f i = true
  | 0, _, i, hi => nomatch hi
  | k + 1, h, i, hi => by
    have h' := cond_and (show cond (f k) (loopN k f) false = true from h)
    by_cases e : i = k
    · rw [e]; exact h'.1
    · exact loopN_all k h'.2 i (by omega)
theorem lag_one {a b c d : Nat} (h : a + b + c + d ≤ 8) : lagN a b c d = true :=
  loopN_all _ (loopN_all _ (loopN_all _ (loopN_all _ lag_all a (by omega)) b (show b < 9 - a by omega)) c (show c < 9 - a - b by omega)) d (show d < 9 - a - b - c by omega)
theorem d2i_num (a b c d : Nat) : d2i 65536 [(a : Int), (b : Int), (c : Int), (d : Int)] = ((numN a b c d : Nat) : Int) := by
  show (a : Int) + 65536 * ((b : Int) + 65536 * ((c : Int) + 65536 * ((d : Int) + 65536 * 0))) = ((a + 65536 * (b + 65536 * (c + 65536 * d)) : Nat) : Int)
  omega
abbrev rowN (r0 r1 r2 r3 r4 : Nat) : List Int := [(r0 : Int), (r1 : Int), (r2 : Int), (r3 : Int), (r4 : Int), 0, 0, 0, 0]
theorem row_step (a b c d r0 r1 r2 r3 r4 : Nat) : fpre [(a : Int), (b : Int), (c : Int), (d : Int)] (rowN r0 r1 r2 r3 r4) 4 ++ [0, 0, 0, 0] =
    rowN 0 (a * r0 + (b * r1 + (c * r2 + d * r3))) (a * r1 + (b * r2 + (c * r3 + d * r4))) (a * r2 + (b * r3 + c * r4)) (a * r3 + b * r4) := by
  simp only [fpre, fval, rowN, List.cons_append, List.nil_append, List.getD_cons_zero, List.getD_cons_succ, Int.natCast_add, Int.natCast_mul, Int.mul_zero, Int.add_zero, Int.add_assoc]
  rfl
theorem one_eq {a b c d n t r : Nat} {R : Int} (h : oneN (Nat.pow (numN a b c d) n) n t r = true) (hR : R = (r : Int)) :
    (t : Int) * (d2i 65536 [(a : Int), (b : Int), (c : Int), (d : Int)] ^ n / 65536 ^ (n - t) % 65536) = n * R := by
  have e : t * (numN a b c d ^ n / 65536 ^ (n - t) % 65536) = n * r := Nat.eq_of_beq_eq_true h
  rw [d2i_num, hR]
  have e' := congrArg (fun x : Nat => (x : Int)) e
  simp only [Int.natCast_mul, Int.natCast_emod, Int.natCast_ediv, Int.natCast_pow] at e'
  exact e'
theorem step_gen {a b c d n r0 r1 r2 r3 r4 : Nat} {k : Nat → Nat → Nat → Nat → Nat → Bool} (h : stepN a b c d k r0 r1 r2 r3 r4 = true) (e : frow [(a : Int), (b : Int), (c : Int), (d : Int)] n = rowN r0 r1 r2 r3 r4) :
    ∃ s1 s2 s3 s4, frow [(a : Int), (b : Int), (c : Int), (d : Int)] (n + 1) = rowN 0 s1 s2 s3 s4 ∧ k 0 s1 s2 s3 s4 = true := by
  refine ⟨_, _, _, _, ?_, h⟩
  show fpre _ (frow _ n) 4 ++ [0, 0, 0, 0] = _
  rw [e]
  exact row_step a b c d r0 r1 r2 r3 r4
theorem one_to_four : ∀ {n : Nat}, 1 ≤ n → n ≤ 4 → n = 1 ∨ n = 2 ∨ n = 3 ∨ n = 4
  | 0, h, _ => absurd h (by decide)
  | 1, _, _ => .inl rfl
  | 2, _, _ => .inr (.inl rfl)
  | 3, _, _ => .inr (.inr (.inl rfl))
  | 4, _, _ => .inr (.inr (.inr rfl))
  | n + 5, _, h => absurd (Nat.le_trans (Nat.le_add_left 5 n) h) (by decide)
theorem lagrange {a b c d n t : Nat} (h : a + b + c + d ≤ 8) (h1 : 1 ≤ n) (h2 : n ≤ 4) (h3 : 1 ≤ t) (h4 : t ≤ n) :
    (t : Int) * (d2i 65536 [(a : Int), (b : Int), (c : Int), (d : Int)] ^ n / 65536 ^ (n - t) % 65536) = n * (frow [(a : Int), (b : Int), (c : Int), (d : Int)] n).getD t 0 := by
  obtain ⟨s1, s2, s3, s4, e1, k1⟩ := step_gen (n := 0) (lag_one h) rfl
  have l1 := cond_and k1
  obtain ⟨u1, u2, u3, u4, e2, k2⟩ := step_gen l1.2 e1
  have l2 := cond_and k2
  have m2 := cond_and l2.1
  obtain ⟨v1, v2, v3, v4, e3, k3⟩ := step_gen l2.2 e2
  have l3 := cond_and k3
  have m3 := cond_and l3.1
  have m3' := cond_and m3.2
  obtain ⟨w1, w2, w3, w4, e4, k4⟩ := step_gen l3.2 e3
  have m4 := cond_and k4
  have m4' := cond_and m4.2
  have m4'' := cond_and m4'.2
  rcases one_to_four h1 h2 with rfl | rfl | rfl | rfl
  · rcases one_to_four h3 (Nat.le_trans h4 (by decide)) with rfl | rfl | rfl | rfl
    · exact one_eq l1.1 (by rw [e1]; rfl)
    · exact absurd h4 (by decide)
    · exact absurd h4 (by decide)
    · exact absurd h4 (by decide)
  · rcases one_to_four h3 (Nat.le_trans h4 (by decide)) with rfl | rfl | rfl | rfl
    · exact one_eq m2.1 (by rw [e2]; rfl)
    · exact one_eq m2.2 (by rw [e2]; rfl)
    · exact absurd h4 (by decide)
    · exact absurd h4 (by decide)
  · rcases one_to_four h3 (Nat.le_trans h4 (by decide)) with rfl | rfl | rfl | rfl
    · exact one_eq m3.1 (by rw [e3]; rfl)
    · exact one_eq m3'.1 (by rw [e3]; rfl)
    · exact one_eq m3'.2 (by rw [e3]; rfl)
    · exact absurd h4 (by decide)
  · rcases one_to_four h3 h4 with rfl | rfl | rfl | rfl
    · exact one_eq m4.1 (by rw [e4]; rfl)
    · exact one_eq m4'.1 (by rw [e4]; rfl)
    · exact one_eq m4''.1 (by rw [e4]; rfl)
    · exact one_eq m4''.2 (by rw [e4]; rfl)
theorem digs_getD {B : Int} (hB : 0 < B) : ∀ (k : Nat) (x : Int) (z j : Nat), 0 ≤ x → x < B ^ k → (digs B k x ++ List.replicate z 0).getD j 0 = x / B ^ j % B
  | 0, x, z, j, h0, h => by
    have e : x = 0 := by simp at h; omega
    subst e
    rw [digs, List.nil_append, Int.zero_ediv, Int.zero_emod]
    simp [List.getD_eq_getElem?_getD, List.getElem?_replicate]
    split <;> rfl
  | k + 1, x, z, 0, h0, h => by simp [digs]
  | k + 1, x, z, j + 1, h0, h => by
    have h1 : 0 ≤ x / B := Int.ediv_nonneg h0 (by omega)
    have h2 : x / B < B ^ k := Int.ediv_lt_of_lt_mul hB (by rw [Int.pow_succ] at h; exact h)
    rw [digs, List.cons_append, List.getD_cons_succ, digs_getD hB k (x / B) z j h1 h2, Int.ediv_ediv_of_nonneg (by omega), Int.pow_succ, Int.mul_comm]
theorem rst_TAILX : True := by
  w_top off
  trivial
def rowD (r : List Int) : Dat := .list (r.map Dat.int)
theorem dat_ints {R : List (Addr × Obj)} : ∀ {vs : List Value} {ns : List Int}, IntsAre vs ns → DatAll R vs (ns.map Dat.int)
  | _, _, .nil => .nil
  | _, _, .cons i t r => .cons (.int i t) (dat_ints r)
theorem dat_rows {R : List (Addr × Obj)} : ∀ {rows : List (List Int)} {refs : List Value}, KRows refs R rows → DatAll R refs (rows.map rowD)
  | [], refs, h => by
    have e : refs = [] := List.length_eq_zero_iff.mp h.1
    subst e
    exact .nil
  | row :: rows, refs, h => by
    obtain ⟨a, vs, k, e1, e2, e3⟩ := h.2 0 (by simp)
    cases refs with
    | nil => simp at e1
    | cons v refs =>
      have ev : v = .ref a := by simpa using e1
      subst ev
      refine .cons (.list e2 (dat_ints e3)) (dat_rows ⟨by simpa using h.1, fun i hi => ?_⟩)
      obtain ⟨a', vs', k', f1, f2, f3⟩ := h.2 (i + 1) (by simpa using hi)
      exact ⟨a', vs', k', by simpa using f1, f2, by simpa using f3⟩
theorem dat_rep {R : List (Addr × Obj)} {l : Addr} {vs : List Value} {k : Nat} {ns : List Int} (hm : (l, listOf vs.toArray k) ∈ R) (hi : IntsAre vs ns) : ∀ n : Nat, DatAll R (List.replicate n (.ref l)) ((List.replicate n ns).map rowD)
  | 0 => .nil
  | n + 1 => .cons (.list hm (dat_ints hi)) (dat_rep hm hi n)
theorem ok_row (r : List Int) : kqdOk 8 (rowD r) = true := by
  unfold rowD kqdOk
  rw [List.all_eq_true]
  intro d hd
  obtain ⟨i, _, rfl⟩ := List.mem_map.mp hd
  rfl
theorem ne_rows {prog : Program} {A : Around} {lp D ls : Addr} {vsp vss : List Value} {kp kD ks n : Nat} {rows : List (List Int)} {ss : List Int} {tl : List (Addr × Obj)} (N : News h₀ L s.heap news) (ma : (lp, listOf vsp.toArray kp) ∈ news) (mb : (D, listOf (List.replicate n (Value.ref ls)).toArray kD) ∈ news)
    (hKR : KRows vsp tl rows) (hs : ∀ p ∈ tl, p ∈ news) (hm : (ls, listOf vss.toArray ks) ∈ news) (hi : IntsAre vss ss) (e : rows = List.replicate n ss) (hu : A.units + 64 < cLine) (h : Q (.bool false) s) : wpAny (model prog w) A (compareOp .NotEq (.ref lp) (.ref D)) Q E s := by
  have ok : ∀ (l : List (List Int)), ∀ d ∈ l.map rowD, kqdOk 8 d = true := fun l d hd => by
    obtain ⟨r, _, rfl⟩ := List.mem_map.mp hd
    exact ok_row r
  refine kqd_ne N ma rfl rfl (dat_rows hKR) hs mb rfl rfl (dat_rep hm hi n) (fun _ h => h) (ok _) (ok _) hu ?_
  subst e
  simpa using h
section
local macro_rules | `(tactic| walk_at "zz own pad") => `(tactic| skip)
theorem rst_TAILA : True := by
  w_top off
  trivial
local macro_rules | `(tactic| walk_at "compareOp NotEq ref ref") => `(tactic| (k_here; k_dflt (refine' ne_rows ?N ?a ?b ?k ?s ?m ?i ?e ?u ?_; (case N => k_asm); (case k => assumption); (case a => k_mem); (case b => k_mem); (case m => k_mem); (case i => assumption); (case s => intro p hp; simp only [List.mem_cons]; simp only [hp, or_true]); (case e => assumption); (case u => ktr_units))))
local macro_rules | `(tactic| walk_at "binaryOp Mult ref int") => `(tactic| (k_here; k_dflt (refine' rep_one ?F ?N ?m ?a ?b ?_; (case F => k_asm); (case N => k_asm); (case m => k_mem); (case a => omega); (case b => omega)); intro l' h' F' N' l1; (try k_lt l1); (try k_sweep)))
theorem tail_a {Q : Flow → Shared → Prop} {E : Value → Shared → Prop} {rs ss ps : List Int} {ls lp lq : Addr} {oS oP : Obj} {tS : Tok} {vss vsp vsq : List Value} {ks kp kq : Nat} {rows : List (List Int)} {tl : List (Addr × Obj)}
    (B : Below callerA base [] h₀) (F : Fr h₀ L s.heap m) (X : (Mine.hd.heap_39 w.params).In h₀) (T : Top p loose mean mg mb h₀)
    (N : News h₀ L s.heap ((ls, listOf vss.toArray ks) :: (lp, listOf vsp.toArray kp) :: tl))
    (hcS : (L + 1 + 1, oS) ∈ tl) (hoS : oS.data = .cell (some (.int rs.length tS))) (hcP : (L + 1, oP) ∈ tl) (hoP : oP.data = .cell (some (.ref lq)))
    (hlq : (lq, listOf vsq.toArray kq) ∈ tl) (hiq : IntsAre vsq ps) (hpl8 : ps.length ≤ 8) (hrl : rs.length ≤ 8) (hpb : ∀ x ∈ ps, 0 ≤ x ∧ x ≤ 3)
    (his : IntsAre vss ss) (hKR : KRows vsp tl rows) (hss : ss.length ≤ 8) (hst : Has m (Str.ofString "starts") (.ref ls)) (hpl : Has m (Str.ofString "places") (.ref lp))
    (e1 : (ss.length : Int) = max ((rs.length : Int) - ps.sum) 0) (e2 : rows = List.replicate (ss.length : Int).toNat ss)
    (ret : ∀ h' tk', Fr h₀ L h' m → News h₀ L h' ((ls, listOf vss.toArray ks) :: (lp, listOf vsp.toArray kp) :: tl) →
      wpAny (model PR w) (callerA.deeper (envOfC (Str.ofString "law") (fdScope lawS) L a ccd)) (execs (dropS 9 (fdBody lawS)) (envOfC (Str.ofString "law") (fdScope lawS) L a ccd)) Q E {s with heap := h', toks := tk'}) :
    wpAny (model PR w) (callerA.deeper (envOfC (Str.ofString "law") (fdScope lawS) L a ccd)) (execs (dropS 8 (fdBody lawS)) (envOfC (Str.ofString "law") (fdScope lawS) L a ccd)) Q E s := by
  rw [show dropS 8 (fdBody lawS) = nthS 8 (fdBody lawS) :: dropS 9 (fdBody lawS) from rfl]
  generalize hSc : fdScope lawS = sc at *
  conv at hSc => lhs; whnf
  subst hSc
  generalize dropS 9 (fdBody lawS) = restS at *
  generalize hB1 : nthS 8 (fdBody lawS) = b1
  conv at hB1 => lhs; whnf
  subst hB1
  have hvl1 : vss.length ≤ 1000 := by rw [his.length]; omega
  k_with_none
  k_steps
  · exact absurd (show (ss.length : Int) = if 0 > (rs.length : Int) - ps.sum then 0 else (rs.length : Int) - ps.sum by rw [e1]; split <;> omega) (by assumption)
  · exact ret _ _ (by k_asm) (drop1 (drop1 (by k_asm)))
end
theorem sym_cases (x : Int) : (x.fmod 8 = 1 ∧ sym x = 256) ∨ (x.fmod 8 = 2 ∧ sym x = 257) ∨ (x.fmod 8 = 3 ∧ sym x = 258) ∨ ((x.fmod 8 = 0 ∨ 4 ≤ x.fmod 8) ∧ 1 ≤ sym x ∧ sym x ≤ 255) := by
  have q0 : 1 ≤ 1 + (x.fdiv 8).fmod 255 := Int.le_add_of_nonneg_right (Int.fmod_nonneg_of_pos (x.fdiv 8) (show (0 : Int) < 255 by decide))
  have q1 : 1 + (x.fdiv 8).fmod 255 ≤ 255 := by
    have := Int.fmod_lt_of_pos (x.fdiv 8) (show (0 : Int) < 255 by decide)
    clear q0
    omega
  have h1 := Int.fmod_lt_of_pos x (show (0 : Int) < 8 by decide)
  obtain ⟨k, hk⟩ := Int.eq_ofNat_of_zero_le (Int.fmod_nonneg_of_pos x (show (0 : Int) < 8 by decide))
  unfold sym
  rw [hk] at h1 ⊢
  match k, Int.ofNat_lt.mp h1 with
  | 0, _ => exact .inr (.inr (.inr ⟨.inl rfl, by rw [if_neg (by decide)]; exact ⟨q0, q1⟩⟩))
  | 1, _ => exact .inl ⟨rfl, rfl⟩
  | 2, _ => exact .inr (.inl ⟨rfl, rfl⟩)
  | 3, _ => exact .inr (.inr (.inl ⟨rfl, rfl⟩))
  | 4, _ => exact .inr (.inr (.inr ⟨.inr (by decide), by rw [if_neg (by decide)]; exact ⟨q0, q1⟩⟩))
  | 5, _ => exact .inr (.inr (.inr ⟨.inr (by decide), by rw [if_neg (by decide)]; exact ⟨q0, q1⟩⟩))
  | 6, _ => exact .inr (.inr (.inr ⟨.inr (by decide), by rw [if_neg (by decide)]; exact ⟨q0, q1⟩⟩))
  | 7, _ => exact .inr (.inr (.inr ⟨.inr (by decide), by rw [if_neg (by decide)]; exact ⟨q0, q1⟩⟩))
theorem low_sym {x : Int} (h : sym x ≤ 255) : ¬ (256 : Int) ≤ sym x := fun q => absurd (Int.le_trans q h) (by decide)
theorem prt_sym (x : Int) : prtI (sym x) = prt x := by
  unfold prtI prt
  rcases sym_cases x with ⟨h, e⟩ | ⟨h, e⟩ | ⟨h, e⟩ | ⟨h | h, _, e⟩
  · rw [h, e]; rfl
  · rw [h, e]; rfl
  · rw [h, e]; rfl
  · rw [if_neg (low_sym e), h]; rfl
  · rw [if_neg (low_sym e), if_neg (Int.not_lt.mpr h)]
theorem pat_sym (x : Int) : patI (sym x) ∈ [1, 256, 257, 258] := by
  unfold patI
  rcases sym_cases x with ⟨_, e⟩ | ⟨_, e⟩ | ⟨_, e⟩ | ⟨_, _, e⟩
  · rw [e]; decide
  · rw [e]; decide
  · rw [e]; decide
  · rw [if_neg (low_sym e)]; decide
abbrev ringOf (ws : List Int) : List Int := (ws ++ [2, 2036, 4]).map sym
theorem ring_ok {ws : List Int} (h : ws.length ≤ 5) : RingOk (ringOf ws) := by
  refine ⟨fun d hd => ?_, by simp, by simp; omega⟩
  obtain ⟨x, _, rfl⟩ := List.mem_map.mp hd
  rcases sym_cases x with ⟨_, e⟩ | ⟨_, e⟩ | ⟨_, e⟩ | ⟨_, e0, e⟩
  · rw [e]; decide
  · rw [e]; decide
  · rw [e]; decide
  · exact ⟨e0, Int.le_trans e (by decide)⟩
theorem ring_law {ws : List Int} (h : ws.length ≤ 5) :
    ((stI (ringOf ws) (ringOf ws).length).length : Int) = max (((ringOf ws).length : Int) - ((ws ++ [2, 2036, 4]).map prt).sum) 0 ∧
    plS (ringOf ws) (ringOf ws).length = List.replicate (stI (ringOf ws) (ringOf ws).length).length (stI (ringOf ws) (ringOf ws).length) := by
  have e : (ringOf ws).map patI = (ws.map fun x => patI (sym x)) ++ [257, 1, 1] := by
    simp only [ringOf, List.map_append, List.map_map]
    rfl
  have hc := chk_words (l := ws.map fun x => patI (sym x)) (fun y hy => by
    obtain ⟨x, _, rfl⟩ := List.mem_map.mp hy
    exact pat_sym x) (by simpa using h)
  rw [← e] at hc
  unfold chk at hc
  rw [Bool.and_eq_true, List.length_map, stI_pat, plS_pat] at hc
  have ep : ((ringOf ws).map patI).map prtI = (ws ++ [2, 2036, 4]).map prt := by
    rw [List.map_map, List.map_map]
    refine List.map_congr_left fun x _ => ?_
    show prtI (patI (sym x)) = prt x
    rw [← prt_sym]
    unfold prtI patI
    by_cases hh : (256 : Int) ≤ sym x
    · rw [if_pos hh, if_pos hh]
    · rw [if_neg hh, if_neg hh, if_neg (by decide)]
  rw [ep] at hc
  exact ⟨of_decide_eq_true hc.1, of_decide_eq_true hc.2⟩
theorem rst_HEADR : True := by
  w_top off
  trivial
theorem head_ring {Q : Flow → Shared → Prop} {E : Value → Shared → Prop} {ds : List Int} {ld : Addr} {vsd : List Value} {kd : Nat}
    (B : Below callerA base [] h₀) (F : Fr h₀ L s.heap m) (X : (Mine.hd.heap_39 w.params).In h₀) (T : Top p loose mean mg mb h₀) (N : News h₀ L s.heap news)
    (hld : (ld, listOf vsd.toArray kd) ∈ news) (hid : IntsAre vsd ds) (hdl : ds.length ≤ 8) (hdr : Has m (Str.ofString "drawn") (.ref ld))
    (ret : ∀ h' tk' D vr kr, IntsAre vr (ds.map sym) → (∀ p ∈ news, p.1 < D) → Fr h₀ L h' (fun y => if y = Str.ofString "ring" then some (.ref D) else m y) → News h₀ L h' ((D, listOf vr.toArray kr) :: news) →
      wpAny (model PR w) (callerA.deeper (envOfC (Str.ofString "law") (fdScope lawS) L a ccd)) (execs (dropS 2 (fdBody lawS)) (envOfC (Str.ofString "law") (fdScope lawS) L a ccd)) Q E {s with heap := h', toks := tk'}) :
    wpAny (model PR w) (callerA.deeper (envOfC (Str.ofString "law") (fdScope lawS) L a ccd)) (execs (dropS 1 (fdBody lawS)) (envOfC (Str.ofString "law") (fdScope lawS) L a ccd)) Q E s := by
  rw [show dropS 1 (fdBody lawS) = nthS 1 (fdBody lawS) :: dropS 2 (fdBody lawS) from rfl]
  generalize hSc : fdScope lawS = sc at *
  conv at hSc => lhs; whnf
  subst hSc
  generalize dropS 2 (fdBody lawS) = restS at *
  generalize hB1 : nthS 1 (fdBody lawS) = b1
  conv at hB1 => lhs; whnf
  subst hB1
  have hvl1 : vsd.length ≤ 1000 := by rw [hid.length]; omega
  k_with_none
  k_with "callx" => (k_dflt (refine' symbol ?k1 ?k2 ?k3 ?k4 ?k5 ?kk ?kd ?ku ?_; (case k1 => k_asm); (case k2 => k_asm); (case k3 => k_asm); (case k4 => k_asm); (case k5 => k_asm); (case kk => first | exact rfl | assumption); (case kd => ktr_room); (case ku => ktr_units)); intro t9 h9 tk9 F9 N9; (try dsimp only); (try k_fold))
  k_steps
  refine' comp_list (J := fun q acc => ∃ ns, IntsAre acc ns ∧ ns = (ds.take q).map sym) ?hh3 ?hn3 ?F3 ?N3 ?hm3 ?h03 ?hJl3 ?hc3 ?hk3 ?hx3 ?turn3 ?done3
  case hh3 => rfl
  case F3 => k_asm
  case N3 => k_asm
  case hm3 => exact hld
  case hn3 => omega
  case h03 => exact ⟨[], .nil, rfl⟩
  case hJl3 =>
    rintro q acc ⟨ns, hns, rfl⟩
    rw [hns.length, List.length_map, List.length_take]; omega
  case hc3 => decide
  case hk3 => rfl
  case hx3 => decide +kernel
  case turn3 =>
    intro I₂ q v₂ acc k₂ C₂ D₂ oC mC it₂ h₂ tk₂ hq hv hJ₂ hNs hmC hlt₂ hDC hID F₃ N₃
    obtain ⟨x, tx, rfl, hx⟩ := ints_at hid hv
    refine no_tests ⟨⟨_, _, rfl, F₃, N₃⟩, ?_⟩
    rw [if_pos rfl]
    k_steps
    obtain ⟨ns, hns, rfl⟩ := hJ₂
    refine ⟨⟨_, _, rfl, by k_asm, by k_asm⟩, _, ints_snoc hns, ?_⟩
    rw [List.take_add_one, List.map_append, hx]
    rfl
  case done3 =>
    intro D₂ C₂ acc k₂ h₂ tk₂ mC hJ₂ hNs hCL hzC hoC hlt₂ F₃ N₃
    obtain ⟨ns, hns, hne⟩ := hJ₂
    rw [List.take_of_length_le (by rw [hid.length]; exact Nat.le_refl _)] at hne
    subst hne
    refine' post_useR hNs hCL hzC hoC F₃ N₃ ?hy ?hp ?hq
    case hy => rfl
    case hp => rfl
    case hq =>
      intro h₃ tk₃ F₄ N₄
      exact ret _ _ _ _ _ hns hlt₂ F₄ N₄
theorem rst_HEAD0 : True := by
  w_top off
  trivial
theorem head_drawn {Q : Flow → Shared → Prop} {E : Value → Shared → Prop} {ws : List Int} {lsc : Addr} {vs : List Value}
    (B : Below callerA base [] h₀) (F : Fr h₀ L s.heap m) (X : (Mine.hd.heap_39 w.params).In h₀) (T : Top p loose mean mg mb h₀) (N : News h₀ L s.heap news)
    (hls : h₀.IsList lsc vs.toArray) (hid : IntsAre vs ws) (hdl : ws.length ≤ 63) (hsc : Has m (Str.ofString "script") (.ref lsc))
    (ret : ∀ h' tk' D vr kr, IntsAre vr (ws.take 5 ++ [2, 2036, 4]) → (∀ p ∈ news, p.1 < D) → Fr h₀ L h' (fun y => if y = Str.ofString "drawn" then some (.ref D) else m y) → News h₀ L h' ((D, listOf vr.toArray kr) :: news) →
      wpAny (model PR w) (callerA.deeper (envOfC (Str.ofString "law") (fdScope lawS) L a ccd)) (execs (dropS 1 (fdBody lawS)) (envOfC (Str.ofString "law") (fdScope lawS) L a ccd)) Q E {s with heap := h', toks := tk'}) :
    wpAny (model PR w) (callerA.deeper (envOfC (Str.ofString "law") (fdScope lawS) L a ccd)) (execs (dropS 0 (fdBody lawS)) (envOfC (Str.ofString "law") (fdScope lawS) L a ccd)) Q E s := by
  rw [show dropS 0 (fdBody lawS) = nthS 0 (fdBody lawS) :: dropS 1 (fdBody lawS) from rfl]
  generalize hSc : fdScope lawS = sc at *
  conv at hSc => lhs; whnf
  subst hSc
  generalize dropS 1 (fdBody lawS) = restS at *
  generalize hB1 : nthS 0 (fdBody lawS) = b1
  conv at hB1 => lhs; whnf
  subst hB1
  k_with_none
  k_steps
  refine' ret _ _ _ _ _ ?a ?b ?c ?d
  case d => exact drop2nd (drop2nd (by k_asm))
  case c => k_asm
  case a => assumption
  case b => exact lt_all_of_lt (by assumption)
theorem rst_HEADP : True := by
  w_top off
  trivial
theorem prt_a {x : Int} (h : x.fmod 8 < 4) : x.fmod 8 = prt x := by unfold prt; rw [if_pos h]
theorem prt_b {x : Int} (h : ¬ x.fmod 8 < 4) : 0 = prt x := by unfold prt; rw [if_neg h]
theorem head_parts {Q : Flow → Shared → Prop} {E : Value → Shared → Prop} {ds : List Int} {ld : Addr} {vsd : List Value} {kd : Nat} {oP : Obj} {vP : Option Value}
    (B : Below callerA base [] h₀) (F : Fr h₀ L s.heap m) (X : (Mine.hd.heap_39 w.params).In h₀) (T : Top p loose mean mg mb h₀) (N : News h₀ L s.heap ((L + 1, oP) :: news)) (hoP : oP.data = .cell vP) (nP : ∀ p ∈ news, p.1 ≠ L + 1)
    (hld : (ld, listOf vsd.toArray kd) ∈ news) (hid : IntsAre vsd ds) (hdl : ds.length ≤ 8) (hdr : Has m (Str.ofString "drawn") (.ref ld))
    (ret : ∀ h' tk' D vr kr oP', IntsAre vr (ds.map prt) → (∀ p ∈ (L + 1, oP) :: news, p.1 < D) → oP'.data = .cell (some (.ref D)) → Fr h₀ L h' m → News h₀ L h' ((L + 1, oP') :: (D, listOf vr.toArray kr) :: news) →
      wpAny (model PR w) (callerA.deeper (envOfC (Str.ofString "law") (fdScope lawS) L a ccd)) (execs (dropS 3 (fdBody lawS)) (envOfC (Str.ofString "law") (fdScope lawS) L a ccd)) Q E {s with heap := h', toks := tk'}) :
    wpAny (model PR w) (callerA.deeper (envOfC (Str.ofString "law") (fdScope lawS) L a ccd)) (execs (dropS 2 (fdBody lawS)) (envOfC (Str.ofString "law") (fdScope lawS) L a ccd)) Q E s := by
  rw [show dropS 2 (fdBody lawS) = nthS 2 (fdBody lawS) :: dropS 3 (fdBody lawS) from rfl]
  generalize hSc : fdScope lawS = sc at *
  conv at hSc => lhs; whnf
  subst hSc
  generalize dropS 3 (fdBody lawS) = restS at *
  generalize hB1 : nthS 2 (fdBody lawS) = b1
  conv at hB1 => lhs; whnf
  subst hB1
  have hvl1 : vsd.length ≤ 1000 := by rw [hid.length]; omega
  k_with_none
  k_steps
  refine' comp_list (J := fun q acc => ∃ ns, IntsAre acc ns ∧ ns = (ds.take q).map prt) ?hh3 ?hn3 ?F3 ?N3 ?hm3 ?h03 ?hJl3 ?hc3 ?hk3 ?hx3 ?turn3 ?done3
  case hh3 => rfl
  case F3 => k_asm
  case N3 => k_asm
  case hm3 => exact .tail _ hld
  case hn3 => omega
  case h03 => exact ⟨[], .nil, rfl⟩
  case hJl3 =>
    rintro q acc ⟨ns, hns, rfl⟩
    rw [hns.length, List.length_map, List.length_take]; omega
  case hc3 => decide
  case hk3 => rfl
  case hx3 => decide +kernel
  case turn3 =>
    intro I₂ q v₂ acc k₂ C₂ D₂ oC mC it₂ h₂ tk₂ hq hv hJ₂ hNs hmC hlt₂ hDC hID F₃ N₃
    obtain ⟨x, tx, rfl, hx⟩ := ints_at hid hv
    refine no_tests ⟨⟨_, _, rfl, F₃, N₃⟩, ?_⟩
    rw [if_pos rfl]
    obtain ⟨ns, hns, rfl⟩ := hJ₂
    k_steps
    · refine ⟨⟨_, _, rfl, by k_asm, by k_asm⟩, _, ints_snoc hns, ?_⟩
      rw [List.take_add_one, List.map_append, hx, prt_a (by assumption)]
      rfl
    · refine ⟨⟨_, _, rfl, by k_asm, by k_asm⟩, _, ints_snoc hns, ?_⟩
      rw [List.take_add_one, List.map_append, hx, prt_b (by omega)]
      rfl
  case done3 =>
    intro D₂ C₂ acc k₂ h₂ tk₂ mC hJ₂ hNs hCL hzC hoC hlt₂ F₃ N₃
    obtain ⟨ns, hns, hne⟩ := hJ₂
    rw [List.take_of_length_le (by rw [hid.length]; exact Nat.le_refl _)] at hne
    subst hne
    refine post_none hNs hCL hzC hoC F₃ N₃ fun h₃ F₄ N₄ => ?_
    have hlt₃ := hlt₂
    k_lt hlt₂
    k_steps
    refine' ret _ _ _ _ _ _ hns hlt₃ ?d ?c ?e
    case e => exact pickJ (by k_asm)
    case d => assumption
    case c => k_asm
theorem rst_HEADN : True := by
  w_top off
  trivial
theorem head_number {Q : Flow → Shared → Prop} {E : Value → Shared → Prop} {rs : List Int} {lr : Addr} {vsr : List Value} {kr : Nat} {oS : Obj} {vS : Option Value}
    (B : Below callerA base [] h₀) (F : Fr h₀ L s.heap m) (X : (Mine.hd.heap_39 w.params).In h₀) (T : Top p loose mean mg mb h₀) (N : News h₀ L s.heap ((58, tabObj #[]) :: (L + 1 + 1, oS) :: rest)) (hoS : oS.data = .cell vS) (C : CodeHd base 62 58)
    (nS : ∀ p ∈ rest, p.1 ≠ L + 1 + 1) (n58 : ∀ p ∈ rest, p.1 ≠ 58) (nSc : (58 : Nat) ≠ L + 1 + 1)
    (hlr : (lr, listOf vsr.toArray kr) ∈ rest) (hir : IntsAre vsr rs) (hR : RingOk rs) (hrg : Has m (Str.ofString "ring") (.ref lr))
    (ret : ∀ h' tk' ls lp c oc oS' tS tN, oS'.data = .cell (some (.int rs.length tS)) → GD oc → (∀ q ∈ (L + 1 + 1, oS') :: rest, q.1 < c) → 58 < c → (∀ q ∈ (58, tabD c) :: (c, oc) :: (L + 1 + 1, oS') :: rest, q.1 < ls) → (∀ q ∈ (ls, listOf ([] : List Value).toArray 0) :: (58, tabD c) :: (c, oc) :: (L + 1 + 1, oS') :: rest, q.1 < lp) →
      Fr h₀ L h' (fun y => if y = Str.ofString "places" then some (.ref lp) else if y = Str.ofString "starts" then some (.ref ls) else if y = Str.ofString "number" then some (.int (nbI rs) tN) else m y) → News h₀ L h' ((lp, listOf ([] : List Value).toArray 0) :: (ls, listOf ([] : List Value).toArray 0) :: (58, tabD c) :: (c, oc) :: (L + 1 + 1, oS') :: rest) →
      wpAny (model PR w) (callerA.deeper (envOfC (Str.ofString "law") (fdScope lawS) L a ccd)) (execs (dropS 7 (fdBody lawS)) (envOfC (Str.ofString "law") (fdScope lawS) L a ccd)) Q E {s with heap := h', toks := tk'}) :
    wpAny (model PR w) (callerA.deeper (envOfC (Str.ofString "law") (fdScope lawS) L a ccd)) (execs (dropS 3 (fdBody lawS)) (envOfC (Str.ofString "law") (fdScope lawS) L a ccd)) Q E s := by
  rw [show dropS 3 (fdBody lawS) = nthS 3 (fdBody lawS) :: nthS 4 (fdBody lawS) :: nthS 5 (fdBody lawS) :: nthS 6 (fdBody lawS) :: dropS 7 (fdBody lawS) from rfl]
  generalize hSc : fdScope lawS = sc at *
  conv at hSc => lhs; whnf
  subst hSc
  generalize dropS 7 (fdBody lawS) = restS at *
  generalize hB1 : nthS 3 (fdBody lawS) = b1
  conv at hB1 => lhs; whnf
  subst hB1
  generalize hB2 : nthS 4 (fdBody lawS) = b2
  conv at hB2 => lhs; whnf
  subst hB2
  generalize hB3 : nthS 5 (fdBody lawS) = b3
  conv at hB3 => lhs; whnf
  subst hB3
  generalize hB4 : nthS 6 (fdBody lawS) = b4
  conv at hB4 => lhs; whnf
  subst hB4
  have hrl := hR.2.2
  have hvl1 : vsr.length ≤ 1000 := by rw [hir.length]; omega
  have hds : ∀ d ∈ rs, 0 ≤ d ∧ d < 2 ^ Int.toNat 9 := fun d hd => by
    have := hR.1 d hd
    rw [show (2 : Int) ^ Int.toNat 9 = 512 from rfl]
    omega
  k_with_none
  k_with "callx" => (k_dflt (refine' d2i_fresh (n := 9) (ds := rs) ?k1 ?k2 ?k3 ?k4 ?k5 ?kk ?kd ?ku ?kC ?kP ?z1 ?z2 ?z3 ?z4 ?z5 ?z6 ?_; (case k1 => k_asm); (case k2 => k_asm); (case k3 => k_asm); (case k4 => k_asm); (case k5 => k_asm); (case kk => first | exact rfl | assumption); (case kd => ktr_room); (case ku => ktr_units); (case kC => assumption); (case kP => k_all); (case z1 => k_mem); (case z2 => assumption); (case z3 => omega); (case z4 => decide); (case z5 => decide); (case z6 => exact hds)); intro c' oc' t' h' tk' hg' l1 l2 F' N'; (try k_lt l1); (try dsimp only); (try k_fold))
  k_steps
  refine' ret _ _ _ _ _ _ _ _ _ ?a ?b ?c ?d ?e ?f ?g ?h
  case h => k_asm
  case g => k_asm
  case a => assumption
  case b => assumption
  case d => assumption
  all_goals (repeat' first | exact lt_all_of_lt (by assumption) | (refine' List.forall_mem_cons.mpr ⟨?_, ?_⟩) | assumption)
theorem rst_TAILC : True := by
  w_top off
  trivial
def cnt (ps : List Int) (q : Nat) : Int := ((ps.filter fun x => x == (0 + (q : Int))).length : Int)
theorem cnt_step {ps : List Int} {q i : Nat} {x : Int} (hx : ps[i]? = some x) : (ps.take (i + 1)).filter (fun x => x == (0 + (q : Int))) = (ps.take i).filter (fun x => x == (0 + (q : Int))) ++ (if x = 0 + (q : Int) then [x] else []) := by
  rw [List.take_add_one, List.filter_append, hx]
  congr 1
  by_cases h : x = 0 + (q : Int)
  · rw [if_pos h]; simp [h]
  · rw [if_neg h]; simp; omega
theorem tail_counts {Q : Flow → Shared → Prop} {E : Value → Shared → Prop} {ps : List Int} {lq : Addr} {vsq : List Value} {kq : Nat} {oP : Obj}
    (B : Below callerA base [] h₀) (F : Fr h₀ L s.heap m) (X : (Mine.hd.heap_39 w.params).In h₀) (T : Top p loose mean mg mb h₀) (N : News h₀ L s.heap news)
    (hcP : (L + 1, oP) ∈ news) (hoP : oP.data = .cell (some (.ref lq))) (hlq : (lq, listOf vsq.toArray kq) ∈ news) (hiq : IntsAre vsq ps) (hpl8 : ps.length ≤ 8)
    (ret : ∀ h' tk' D vr kr, IntsAre vr ((List.range 4).map (cnt ps)) → (∀ p ∈ news, p.1 < D) → Fr h₀ L h' (fun y => if y = Str.ofString "counts" then some (.ref D) else m y) → News h₀ L h' ((D, listOf vr.toArray kr) :: news) →
      wpAny (model PR w) (callerA.deeper (envOfC (Str.ofString "law") (fdScope lawS) L a ccd)) (execs (dropS 10 (fdBody lawS)) (envOfC (Str.ofString "law") (fdScope lawS) L a ccd)) Q E {s with heap := h', toks := tk'}) :
    wpAny (model PR w) (callerA.deeper (envOfC (Str.ofString "law") (fdScope lawS) L a ccd)) (execs (dropS 9 (fdBody lawS)) (envOfC (Str.ofString "law") (fdScope lawS) L a ccd)) Q E s := by
  rw [show dropS 9 (fdBody lawS) = nthS 9 (fdBody lawS) :: dropS 10 (fdBody lawS) from rfl]
  generalize hSc : fdScope lawS = sc at *
  conv at hSc => lhs; whnf
  subst hSc
  generalize dropS 10 (fdBody lawS) = restS at *
  generalize hB1 : nthS 9 (fdBody lawS) = b1
  conv at hB1 => lhs; whnf
  subst hB1
  have hvl1 : vsq.length ≤ 1000 := by rw [hiq.length]; omega
  k_with_none
  k_steps
  refine' comp_rangeC (n := 4) (fun q acc => ∃ ns, IntsAre acc ns ∧ ns = (List.range q).map (cnt ps)) ?hh3 ?hr3 ?hsm3 ?hsz3 ?hn3 ?F3 ?N3 ?h03 ?hJl3 ?hc3 ?hp3 ?hk3 ?hx3 ?turn3 ?done3
  case hh3 => rfl
  case hr3 => assumption
  case hsm3 => exact r_small (by omega) (by omega) (by omega) (by omega)
  case hsz3 => exact r_size (by omega)
  case hn3 => decide
  case F3 => k_asm
  case N3 => k_asm
  case h03 => exact ⟨[], .nil, rfl⟩
  case hJl3 =>
    rintro q acc ⟨ns, hns, rfl⟩
    rw [hns.length]; simp
  case hc3 => intro b; rfl
  case hp3 => intro b; rfl
  case hk3 => rfl
  case hx3 => rfl
  case turn3 =>
    intro I₂ q t₂ acc k₂ C₂ D₂ c₂ oC oc mC it₂ h₂ tk₂ hq hJ₂ hNs hoc hlt₂ hDC hID hCc F₃ N₃
    refine no_tests ⟨⟨_, _, rfl, F₃, N₃⟩, ?_⟩
    rw [if_pos rfl]
    k_steps
    obtain ⟨ns, hns, rfl⟩ := hJ₂
    refine' comp_list (J := fun i acc => ∃ ns, IntsAre acc ns ∧ ns = (ps.take i).filter fun x => x == (0 + (q : Int))) ?hh4 ?hn4 ?F4 ?N4 ?hm4 ?h04 ?hJl4 ?hc4 ?hk4 ?hx4 ?turn4 ?done4
    case hh4 => rfl
    case F4 => k_asm
    case N4 => k_asm
    case hm4 => exact .tail _ (.tail _ (.tail _ (.tail _ hlq)))
    case hn4 => omega
    case h04 => exact ⟨[], .nil, rfl⟩
    case hJl4 =>
      rintro i acc ⟨ns, hns, rfl⟩
      rw [hns.length]
      exact Nat.le_trans (List.length_filter_le _ _) (by rw [List.length_take]; omega)
    case hc4 => decide
    case hk4 => rfl
    case hx4 => decide +kernel
    case turn4 =>
      intro I₄ i v₄ acc₄ k₄ C₄ D₄ oC₄ mC₄ it₄ h₄ tk₄ hi hv hJ₄ hNs₄ hmC₄ hlt₄ hDC₄ hID₄ F₄ N₄
      obtain ⟨x, tx, rfl, hx⟩ := ints_at hiq hv
      obtain ⟨ns₄, hns₄, rfl⟩ := hJ₄
      refine one_test ?_
      k_steps
      · exact ⟨_, _, rfl, by k_asm, by k_asm⟩
      · refine ⟨⟨_, _, rfl, by k_asm, by k_asm⟩, _, ints_snoc hns₄, ?_⟩
        rw [cnt_step hx, if_pos (by assumption)]
      · rw [cnt_step hx, if_neg (by assumption), List.append_nil]
        exact hns₄
    case done4 =>
      intro D₄ C₄ acc₄ k₄ h₄ tk₄ mC₄ hJ₄ hNs₄ hCL₄ hzC₄ hoC₄ hlt₄ F₄ N₄
      obtain ⟨ns₄, hns₄, hne₄⟩ := hJ₄
      rw [List.take_of_length_le (by rw [hiq.length]; exact Nat.le_refl _)] at hne₄
      have hcl : ns₄.length ≤ 8 := by rw [hne₄]; exact Nat.le_trans (List.length_filter_le _ _) hpl8
      refine post_none hNs₄ hCL₄ hzC₄ hoC₄ F₄ N₄ fun h₅ F₅ N₅ => ?_
      k_steps
      refine ⟨⟨_, _, rfl, by k_asm, drop1 (by k_asm)⟩, _, ints_snoc hns, ?_⟩
      rw [List.range_succ, List.map_append, hne₄]
      rfl
  case done3 =>
    intro D₂ C₂ acc k₂ h₂ tk₂ mC hJ₂ hNs hCL hzC hoC hlt₂ F₃ N₃
    obtain ⟨ns, hns, rfl⟩ := hJ₂
    refine' post_useR hNs hCL hzC hoC F₃ N₃ ?hy ?hp ?hq
    case hy => rfl
    case hp => rfl
    case hq =>
      intro h₃ tk₃ F₄ N₄
      exact ret _ _ _ _ _ hns hlt₂ F₄ N₄
theorem rst_TAILK : True := by
  w_top off
  trivial
theorem tail_known {Q : Flow → Shared → Prop} {E : Value → Shared → Prop} {c : List Int} {lc : Addr} {vsc : List Value} {kc : Nat}
    (B : Below callerA base [] h₀) (F : Fr h₀ L s.heap m) (X : (Mine.hd.heap_39 w.params).In h₀) (T : Top p loose mean mg mb h₀) (N : News h₀ L s.heap news)
    (hlc : (lc, listOf vsc.toArray kc) ∈ news) (hic : IntsAre vsc c) (hlen : c.length = 4) (hcb : ∀ i, 0 ≤ c.getD i 0 ∧ c.getD i 0 ≤ 16) (hct : Has m (Str.ofString "counts") (.ref lc))
    (ret : ∀ h' tk' l' refs kk tl, KRows refs tl ((List.range 5).map (frow c)) → (∀ q ∈ news, q ∈ tl) → Fr h₀ L h' (fun y => if y = Str.ofString "known" then some (.ref l') else m y) → News h₀ L h' ((l', listOf refs.toArray kk) :: tl) →
      wpAny (model PR w) (callerA.deeper (envOfC (Str.ofString "law") (fdScope lawS) L a ccd)) (execs (dropS 11 (fdBody lawS)) (envOfC (Str.ofString "law") (fdScope lawS) L a ccd)) Q E {s with heap := h', toks := tk'}) :
    wpAny (model PR w) (callerA.deeper (envOfC (Str.ofString "law") (fdScope lawS) L a ccd)) (execs (dropS 10 (fdBody lawS)) (envOfC (Str.ofString "law") (fdScope lawS) L a ccd)) Q E s := by
  rw [show dropS 10 (fdBody lawS) = nthS 10 (fdBody lawS) :: dropS 11 (fdBody lawS) from rfl]
  generalize hSc : fdScope lawS = sc at *
  conv at hSc => lhs; whnf
  subst hSc
  generalize dropS 11 (fdBody lawS) = restS at *
  generalize hB1 : nthS 10 (fdBody lawS) = b1
  conv at hB1 => lhs; whnf
  subst hB1
  k_with_none
  k_with "callx" => (k_dflt (refine' forests_spec ?k1 ?k2 ?k3 ?k4 ?k5 ?kk ?kd ?ku ?z1 ?z2 ?z3 ?z4 ?_; (case k1 => k_asm); (case k2 => k_asm); (case k3 => k_asm); (case k4 => k_asm); (case k5 => k_asm); (case kk => first | exact rfl | assumption); (case kd => ktr_room); (case ku => ktr_units); (case z1 => k_mem); (case z2 => assumption); (case z3 => assumption); (case z4 => assumption)); intro l' refs kk tl h' tk' hKR hsub F' N'; (try dsimp only); (try k_fold))
  k_steps
  exact ret _ _ _ _ _ _ hKR hsub (by k_asm) (by k_asm)
/-! the figures of the power, and what they divide to -/
abbrev vI (cs : List Int) : Int := d2i (2 ^ Int.toNat 16) cs
abbrev pI (cs : List Int) (i : Nat) : Int := vI cs ^ (1 + (i : Int)).toNat
abbrev figs (cs : List Int) (i : Nat) : List Int := digs (2 ^ Int.toNat 16) (nd 16 (pI cs i)).toNat (pI cs i) ++ List.replicate (1 + (i : Int)).toNat 0
abbrev figI (cs : List Int) (i j : Nat) : Int := (figs cs i).getD (1 + (i : Int) - (1 + (j : Int))).toNat 0
def CsOk (cs : List Int) : Prop := ∃ a b c d : Nat, cs = [(a : Int), (b : Int), (c : Int), (d : Int)] ∧ a + b + c + d ≤ 8
theorem CsOk.digit {cs : List Int} (h : CsOk cs) : ∀ x ∈ cs, 0 ≤ x ∧ x < 2 ^ Int.toNat 16 := by
  obtain ⟨a, b, c, d, rfl, h⟩ := h
  intro x hx
  rw [show (2 : Int) ^ Int.toNat 16 = 65536 from rfl]
  simp only [List.mem_cons, List.not_mem_nil, or_false] at hx
  omega
theorem CsOk.len {cs : List Int} (h : CsOk cs) : cs.length = 4 := by
  obtain ⟨a, b, c, d, rfl, h⟩ := h
  rfl
theorem CsOk.entry {cs : List Int} (h : CsOk cs) : ∀ i, 0 ≤ cs.getD i 0 ∧ cs.getD i 0 ≤ 16 := by
  obtain ⟨a, b, c, d, rfl, h⟩ := h
  intro i
  rcases i with _ | _ | _ | _ | i <;> simp <;> omega
theorem CsOk.val {cs : List Int} (h : CsOk cs) : 0 ≤ vI cs ∧ vI cs < 2 ^ 64 := by
  have hb := d2i_bound (B := 2 ^ Int.toNat 16) (by decide) h.digit
  rw [h.len] at hb
  exact ⟨hb.1, Int.lt_of_lt_of_le hb.2 (by decide)⟩
theorem CsOk.bits {cs : List Int} (h : CsOk cs) : Builtin.Int.intBits (vI cs) ≤ 64 := bits_lt_pow h.val.1 h.val.2
theorem CsOk.pow {cs : List Int} (h : CsOk cs) {i : Nat} (hi : i < 4) : 0 ≤ pI cs i ∧ Builtin.Int.intBits (pI cs i) ≤ 16 * 16 := by
  have h0 : 0 ≤ pI cs i := Int.pow_nonneg h.val.1
  refine ⟨h0, bits_lt_pow h0 ?_⟩
  have e : (1 + (i : Int)).toNat = i + 1 := by omega
  show vI cs ^ (1 + (i : Int)).toNat < 2 ^ (16 * 16)
  rw [e]
  have hv := h.val
  have hv0 := hv.1
  have hv1 : vI cs ≤ 2 ^ 64 := Int.le_of_lt hv.2
  have step : ∀ k, vI cs ^ k ≤ 2 ^ (64 * k) := fun k => by
    induction k with
    | zero => simp
    | succ k ih =>
      rw [Int.pow_succ, Nat.mul_succ, Int.pow_add]
      exact Int.mul_le_mul ih hv1 hv0 (Int.pow_nonneg (by decide))
  have lt : vI cs ^ (i + 1) < 2 ^ (64 * (i + 1)) := by
    rw [Int.pow_succ, Nat.mul_succ, Int.pow_add]
    have h1 : vI cs ^ i * vI cs ≤ 2 ^ (64 * i) * vI cs := Int.mul_le_mul_of_nonneg_right (step i) hv0
    have h2 : (2 : Int) ^ (64 * i) * vI cs < 2 ^ (64 * i) * 2 ^ 64 := Int.mul_lt_mul_of_pos_left hv.2 (Int.pow_pos (by decide))
    exact Int.lt_of_le_of_lt h1 h2
  exact Int.lt_of_lt_of_le lt (pow2_le (by omega))
theorem CsOk.pbits {cs : List Int} (h : CsOk cs) {i : Nat} (hi : i < 4) : (Builtin.Int.intBits (vI cs) : Int) * (1 + (i : Int)) ≤ 2 ^ 27 := by
  have h1 := h.bits
  exact Int.le_trans (Int.mul_le_mul (c := 64) (d := 4) (by omega) (by omega) (by omega) (by omega)) (by decide)
theorem CsOk.fig {cs : List Int} (h : CsOk cs) {i j : Nat} (hi : i < 4) (hj : j < i + 1) : figI cs i j = pI cs i / 65536 ^ (i - j) % 65536 := by
  have hp := h.pow hi
  have hn := nd_facts (n := 16) hp.1 (by decide) (by have := hp.2; omega)
  have e : (1 + (i : Int) - (1 + (j : Int))).toNat = i - j := by omega
  show (digs (2 ^ Int.toNat 16) (nd 16 (pI cs i)).toNat (pI cs i) ++ List.replicate (1 + (i : Int)).toNat 0).getD (1 + (i : Int) - (1 + (j : Int))).toNat 0 = _
  rw [e, digs_getD (by decide) _ _ _ _ hp.1 hn.2.2.1]
  rfl
theorem CsOk.fig_lt {cs : List Int} (h : CsOk cs) {i j : Nat} (hi : i < 4) (hj : j < i + 1) : 0 ≤ figI cs i j ∧ figI cs i j < 65536 := by
  rw [h.fig hi hj]
  exact ⟨Int.emod_nonneg _ (by decide), Int.emod_lt_of_pos _ (by decide)⟩
theorem CsOk.law {cs : List Int} (h : CsOk cs) {i j : Nat} (hi : i < 4) (hj : j < i + 1) : (1 + (j : Int)) * figI cs i j = (1 + (i : Int)) * (frow cs (i + 1)).getD (1 + (j : Int)).toNat 0 := by
  rw [h.fig hi hj]
  obtain ⟨a, b, c, d, rfl, h⟩ := h
  have l := lagrange (n := i + 1) (t := j + 1) h (by omega) (by omega) (by omega) (by omega)
  rw [show i + 1 - (j + 1) = i - j by omega] at l
  rw [show (1 + (j : Int)).toNat = j + 1 by omega]
  show (1 + (j : Int)) * (d2i 65536 [(a : Int), (b : Int), (c : Int), (d : Int)] ^ (1 + (i : Int)).toNat / 65536 ^ (i - j) % 65536) = _
  rw [show (1 + (i : Int)).toNat = i + 1 by omega, show (1 + (j : Int)) = ((j + 1 : Nat) : Int) by omega, show (1 + (i : Int)) = ((i + 1 : Nat) : Int) by omega]
  exact l
theorem CsOk.div {cs : List Int} (h : CsOk cs) {i j : Nat} (hi : i < 4) (hj : j < i + 1) :
    (1 + (j : Int)) * figI cs i j / (1 + (i : Int)) = (frow cs (i + 1)).getD (1 + (j : Int)).toNat 0 ∧ (1 + (j : Int)) * figI cs i j % (1 + (i : Int)) = 0 := by
  rw [h.law hi hj]
  exact ⟨Int.mul_ediv_cancel_left _ (by omega), Int.mul_emod_right _ _⟩
theorem CsOk.dbits {cs : List Int} (h : CsOk cs) {i j : Nat} (hi : i < 4) (hj : j < i + 1) : 0 ≤ (1 + (j : Int)) * figI cs i j ∧ (Builtin.Int.intBits ((1 + (j : Int)) * figI cs i j) : Int) ≤ 16 * (Builtin.Int.intBits (1 + (i : Int)) : Int) ∧ Builtin.Int.intBits (1 + (i : Int)) ≤ 100 := by
  have hf := h.fig_lt hi hj
  generalize figI cs i j = f at *
  have h0 : 0 ≤ (1 + (j : Int)) * f := Int.mul_nonneg (by omega) hf.1
  refine ⟨h0, ?_⟩
  have hz : i = 0 ∨ i = 1 ∨ i = 2 ∨ i = 3 := by omega
  rcases hz with rfl | rfl | rfl | rfl
  · have hj0 : j = 0 := by omega
    subst hj0
    have := bits_lt_pow (k := 16) h0 (by simp; omega)
    rw [show Builtin.Int.intBits (1 + ((0 : Nat) : Int)) = 1 by decide]
    omega
  · have : (1 + (j : Int)) * f ≤ 2 * 65535 := Int.mul_le_mul (by omega) (by omega) hf.1 (by decide)
    have := bits_lt_pow (k := 18) h0 (Int.lt_of_le_of_lt this (by decide))
    rw [show Builtin.Int.intBits (1 + ((1 : Nat) : Int)) = 2 by decide]
    omega
  · have : (1 + (j : Int)) * f ≤ 3 * 65535 := Int.mul_le_mul (by omega) (by omega) hf.1 (by decide)
    have := bits_lt_pow (k := 18) h0 (Int.lt_of_le_of_lt this (by decide))
    rw [show Builtin.Int.intBits (1 + ((2 : Nat) : Int)) = 2 by decide]
    omega
  · have : (1 + (j : Int)) * f ≤ 4 * 65535 := Int.mul_le_mul (by omega) (by omega) hf.1 (by decide)
    have := bits_lt_pow (k := 18) h0 (Int.lt_of_le_of_lt this (by decide))
    rw [show Builtin.Int.intBits (1 + ((3 : Nat) : Int)) = 3 by decide]
    omega
theorem CsOk.flen {cs : List Int} (h : CsOk cs) {i : Nat} (hi : i < 4) : (digs (2 ^ Int.toNat 16) (nd 16 (pI cs i)).toNat (pI cs i)).length ≤ 16 ∧ (figs cs i).length ≤ 20 ∧ i + 1 ≤ (figs cs i).length := by
  have hp := h.pow hi
  have hn := nd_facts (n := 16) hp.1 (by decide) (by have := hp.2; omega)
  have h1 : (digs (2 ^ Int.toNat 16) (nd 16 (pI cs i)).toNat (pI cs i)).length ≤ 16 := by rw [digs_length]; omega
  refine ⟨h1, ?_⟩
  show (digs (2 ^ Int.toNat 16) (nd 16 (pI cs i)).toNat (pI cs i) ++ List.replicate (1 + (i : Int)).toNat 0).length ≤ 20 ∧ i + 1 ≤ (digs (2 ^ Int.toNat 16) (nd 16 (pI cs i)).toNat (pI cs i) ++ List.replicate (1 + (i : Int)).toNat 0).length
  rw [List.length_append, List.length_replicate]
  omega
section
local macro_rules | `(tactic| walk_at "zz own pad") => `(tactic| skip)
local macro_rules | `(tactic| walk_at "zz own pad") => `(tactic| skip)
theorem rst_TAILN : True := by
  w_top off
  trivial
local macro_rules | `(tactic| walk_at "binaryOp Pow int int") => `(tactic| (k_here; k_extra "pow"))
local macro_rules | `(tactic| walk_at "subscriptTail Name BinOp Name Name ref int") => `(tactic| (k_here; (with_reducible show wpAny _ _ (subscriptTail _ _ (Value.ref _) (Value.int _ _)) _ _ _); k_dflt (refine' ksa_sub ?k1 ?k2 ?k3 ?k4 ?k5 ?k6 ?_ ?k7; (case k1 => k_asm); (case k2 => k_mem); (case k3 => with_reducible assumption); (case k4 => omega); (case k5 => omega); (case k6 => omega); (case k7 => with_unfolding_all rfl); k_whole); intro _))
def NJ (lc lk : Addr) (news : List (Addr × Obj)) (_ : Nat) (m₁ : Str → Option Value) (n₁ : List (Addr × Obj)) : Prop :=
  n₁ = news ∧ Has m₁ (Str.ofString "counts") (.ref lc) ∧ Has m₁ (Str.ofString "known") (.ref lk)
def TJ (cs : List Int) (lc lk : Addr) (i : Nat) (tn : Tok) (n₀ : List (Addr × Obj)) (_ : Nat) (m₁ : Str → Option Value) (n₁ : List (Addr × Obj)) : Prop :=
  ∃ lf vsf kf, n₁ = (lf, listOf vsf.toArray kf) :: n₀ ∧ IntsAre vsf (figs cs i) ∧ Has m₁ (Str.ofString "counts") (.ref lc) ∧ Has m₁ (Str.ofString "known") (.ref lk) ∧ Has m₁ (Str.ofString "figures") (.ref lf) ∧ Has m₁ (Str.ofString "n") (.int (1 + (i : Int)) tn)
theorem tail_loop {Q : Flow → Shared → Prop} {E : Value → Shared → Prop} {cs : List Int} {lc lk : Addr} {vsc refs : List Value} {kc kk : Nat} {tl : List (Addr × Obj)}
    (B : Below callerA base [] h₀) (F : Fr h₀ L s.heap m) (X : (Mine.hd.heap_39 w.params).In h₀) (T : Top p loose mean mg mb h₀) (N : News h₀ L s.heap news)
    (C : CodeHd base 62 58) (C' : CodeHd base 55 51)
    {c : Addr} {oc : Obj} (h58 : (58, tabD c) ∈ news) (hc : (c, oc) ∈ news) (hG : GD oc) {c' : Addr} {oc' : Obj} (h51 : (51, tabI c') ∈ news) (hc' : (c', oc') ∈ news) (hG' : GI oc')
    (hlc : (lc, listOf vsc.toArray kc) ∈ news) (hic : IntsAre vsc cs) (hcs : CsOk cs) (hlk : (lk, listOf refs.toArray kk) ∈ news) (hKR : KRows refs tl ((List.range 5).map (frow cs))) (hsub : ∀ q ∈ tl, q ∈ news)
    (hct : Has m (Str.ofString "counts") (.ref lc)) (hkn : Has m (Str.ofString "known") (.ref lk))
    (hE : PassesOwn (model PR w) (callerA.deeper (envOfC (Str.ofString "law") (fdScope lawS) L a ccd)) (envOfC (Str.ofString "law") (fdScope lawS) L a ccd) E)
    (ret : ∀ h' tk' m', Fr h₀ L h' m' → News h₀ L h' news →
      wpAny (model PR w) (callerA.deeper (envOfC (Str.ofString "law") (fdScope lawS) L a ccd)) (execs (dropS 12 (fdBody lawS)) (envOfC (Str.ofString "law") (fdScope lawS) L a ccd)) Q E {s with heap := h', toks := tk'}) :
    wpAny (model PR w) (callerA.deeper (envOfC (Str.ofString "law") (fdScope lawS) L a ccd)) (execs (dropS 11 (fdBody lawS)) (envOfC (Str.ofString "law") (fdScope lawS) L a ccd)) Q E s := by
  rw [show dropS 11 (fdBody lawS) = nthS 11 (fdBody lawS) :: dropS 12 (fdBody lawS) from rfl]
  generalize hSc : fdScope lawS = sc at *
  conv at hSc => lhs; whnf
  subst hSc
  generalize dropS 12 (fdBody lawS) = restS at *
  generalize hB1 : nthS 11 (fdBody lawS) = b1
  conv at hB1 => lhs; whnf
  subst hB1
  k_with_none
  k_steps
  refine' range_loop (n := 4) (NJ lc lk news) ?hh ?hr ?hsm ?hn ?F ?N ?h0 ?turn ?done
  case hh => rfl
  case hr => assumption
  case hsm => exact r_small (by omega) (by omega) (by omega) (by omega)
  case hn => exact r_size (by omega)
  case F => k_asm
  case N => k_asm
  case h0 => exact ⟨rfl, hct, hkn⟩
  case turn =>
    intro I i t m₁ n₁ it h tk hin hlt hJ hoff F₁ N₁
    obtain ⟨rfl, hct₁, hkn₁⟩ := hJ
    have hpp := hcs.pow hin
    have hpb := hcs.pbits hin
    have hfl := hcs.flen hin
    k_with "pow" => (k_dflt (refine' pow_int ?p1 ?p2 ?_; (case p1 => omega); (case p2 => exact hpb)))
    k_with "callx" => (first | (k_dflt (refine' d2i_grown (n := 16) (ds := cs) ?k1 ?k2 ?k3 ?k4 ?k5 ?kk ?kd ?ku ?kC ?z1 ?z2 ?z3 ?z4 ?z5 ?z6 ?y0 ?y1 ?y2 ?_; (case k1 => k_asm); (case k2 => k_asm); (case k3 => k_asm); (case k4 => k_asm); (case k5 => k_asm); (case kk => first | exact rfl | assumption); (case kd => ktr_room); (case ku => ktr_units); (case kC => assumption); (case z1 => k_mem); (case z2 => k_mem); (case z3 => assumption); (case z4 => k_mem); (case z5 => assumption); (case z6 => rw [hcs.len]; decide); (case y0 => decide); (case y1 => decide); (case y2 => exact hcs.digit)); intro t' h' tk' F' N'; (try dsimp only); (try k_fold)) | (k_dflt (refine' i2d_grown (n := 16) (x := pI cs i) ?k1 ?k2 ?k3 ?k4 ?k5 ?kk ?kd ?ku ?kC ?z1 ?z2 ?z3 ?y0 ?y1 ?y2 ?y3 ?_; (case k1 => k_asm); (case k2 => k_asm); (case k3 => k_asm); (case k4 => k_asm); (case k5 => k_asm); (case kk => first | exact rfl | assumption); (case kd => ktr_room); (case ku => ktr_units); (case kC => assumption); (case z1 => k_mem); (case z2 => k_mem); (case z3 => assumption); (case y0 => exact hpp.1); (case y1 => decide); (case y2 => decide); (case y3 => have hpp2 := hpp.2; omega)); intro l' vs' h' tk' l1 hI' F' N'; (try k_lt l1); (try dsimp only); (try k_fold)))
    k_steps
    rename IntsAre _ (_ ++ _) => hIf
    refine' range_loop (n := i + 1) (TJ cs lc lk i t ((I, it) :: n₁)) ?hh2 ?hr2 ?hsm2 ?hn2 ?F2 ?N2 ?h02 ?turn2 ?done2
    case hh2 => rfl
    case hr2 => assumption
    case hsm2 => exact r_small (by omega) (by omega) (by omega) (by omega)
    case hn2 => exact r_size (by omega)
    case F2 => k_asm
    case N2 => exact drop2nd (drop2nd (drop2nd (by k_asm)))
    case h02 => exact ⟨_, _, _, rfl, hIf, hct₁, hkn₁, rfl, rfl⟩
    case turn2 =>
      intro I' j t' m₂ n₂ it' h' tk' hjn hlt' hJ' hoff' F₂ N₂
      obtain ⟨lf, vsf, kf, rfl, hIf, hct₂, hkn₂, hfg₂, hn₂⟩ := hJ'
      k_lt hlt'
      obtain ⟨ak, vsk, kk', hrk, hmk, hik⟩ := hKR.2 (i + 1) (by simp; omega)
      rw [frows_get cs (by omega)] at hik
      have hmk' := hsub _ hmk
      have hrk' : refs[(1 + (i : Int)).toNat]? = some (.ref ak) := by rw [show (1 + (i : Int)).toNat = i + 1 by omega]; exact hrk
      have hdb := hcs.dbits hin hjn
      have hdv := hcs.div hin hjn
      have hf := hcs.fig_lt hin hjn
      have hfl2 := frow_len cs (i + 1)
      have hb1 : Builtin.Int.intBits (1 + (j : Int)) ≤ 10000 := Nat.le_trans (bits_lt_pow (k := 64) (by omega) (by omega)) (by decide)
      have hb2 : Builtin.Int.intBits (figI cs i j) ≤ 10000 := Nat.le_trans (bits_lt_pow (k := 64) hf.1 (by omega)) (by decide)
      unfold figs at hIf
      k_with_none
      k_with "mul" => (k_dflt (refine' mul_int ?_ (mulok ?m1 ?m2); (case m1 => assumption); (case m2 => assumption)))
      k_with "callx" => (k_dflt (refine' idiv_pos_grown (x := (1 + (j : Int)) * figI cs i j) (b := 1 + (i : Int)) ?k1 ?k2 ?k3 ?k4 ?k5 ?kk ?kd ?ku ?kC ?kD ?z1 ?z2 ?z3 ?z4 ?z5 ?z6 ?y0 ?y1 ?y2 ?y3 ?_; (case k1 => k_asm); (case k2 => k_asm); (case k3 => k_asm); (case k4 => k_asm); (case k5 => k_asm); (case kk => first | exact rfl | assumption); (case kd => ktr_room); (case ku => ktr_units); (case kC => assumption); (case kD => assumption); (case z1 => k_mem); (case z2 => k_mem); (case z3 => assumption); (case z4 => k_mem); (case z5 => k_mem); (case z6 => assumption); (case y0 => exact hdb.1); (case y1 => omega); (case y2 => exact hdb.2.2); (case y3 => exact hdb.2.1)); intro l' t1' t2' h' tk' l1 F' N'; (try k_lt l1); (try dsimp only); (try k_fold))
      k_steps
      · refine' unr_drop 2 ?F6 ?N6 ?e6 ?off6 ⟨?keep6, ?_⟩
        case F6 => k_asm
        case N6 => k_asm
        case e6 => exact rfl
        case off6 => exact hoff'
        case keep6 => exact sub_nil
        exact ⟨lf, vsf, kf, rfl, hIf, hct₂, hkn₂, hfg₂, hn₂⟩
      · exfalso
        rename (_ && _) = false => ha
        rw [hdv.1, hdv.2] at ha
        simp at ha
    case done2 =>
      intro m₂ n₂ h' tk' hJ' F₂ N₂
      obtain ⟨lf, vsf, kf, rfl, hIf, hct₂, hkn₂, hfg₂, hn₂⟩ := hJ'
      k_steps
      refine' unr_drop 1 ?F5 ?N5 ?e5 ?off5 ⟨?keep5, ?_⟩
      case F5 => k_asm
      case N5 => k_asm
      case e5 => exact rfl
      case off5 => exact hoff
      case keep5 => exact sub_nil
      exact ⟨rfl, hct₂, hkn₂⟩
  case done =>
    intro m₁ n₁ h tk hJ F₁ N₁
    obtain ⟨rfl, hct₁, hkn₁⟩ := hJ
    exact ret _ _ _ F₁ N₁
end
theorem cnt_sum (ps : List Int) : (ps.filter fun x => x == (0 + ((0 : Nat) : Int))).length + (ps.filter fun x => x == (0 + ((1 : Nat) : Int))).length + (ps.filter fun x => x == (0 + ((2 : Nat) : Int))).length + (ps.filter fun x => x == (0 + ((3 : Nat) : Int))).length ≤ ps.length := by
  induction ps with
  | nil => simp
  | cons x r ih =>
    have one : ∀ q : Nat, ((x :: r).filter fun y => y == (0 + (q : Int))).length = (r.filter fun y => y == (0 + (q : Int))).length + (if x = (q : Int) then 1 else 0) := fun q => by
      rw [List.filter_cons]
      by_cases h : x = (q : Int)
      · rw [if_pos (by simp [h]), if_pos h]; rfl
      · rw [if_neg (by simp; omega), if_neg h]; rfl
    rw [one 0, one 1, one 2, one 3, List.length_cons]
    split <;> split <;> split <;> split <;> omega
theorem cnt_ok {ps : List Int} (h : ps.length ≤ 8) : CsOk ((List.range 4).map (cnt ps)) :=
  ⟨_, _, _, _, rfl, Nat.le_trans (cnt_sum ps) h⟩
theorem prt_range (x : Int) : 0 ≤ prt x ∧ prt x ≤ 3 := by
  have h0 := Int.fmod_nonneg_of_pos x (show (0 : Int) < 8 by decide)
  unfold prt
  split <;> omega
theorem law_body {Q : Flow → Shared → Prop} {E : Value → Shared → Prop} {ws : List Int} {lsc : Addr} {vs : List Value} {oK oS oP : Obj} {vK vS vP : Option Value}
    (B : Below callerA base [] h₀) (F : Fr h₀ L s.heap m) (X : (Mine.hd.heap_39 w.params).In h₀) (T : Top p loose mean mg mb h₀)
    (N : News h₀ L s.heap [(L + 1 + 1 + 1, oK), (L + 1 + 1, oS), (L + 1, oP), (58, tabObj #[]), (51, tabObj #[])]) (hoK : oK.data = .cell vK) (hoS : oS.data = .cell vS) (hoP : oP.data = .cell vP)
    (C : CodeHd base 62 58) (C' : CodeHd base 55 51) (g1 : @LT.lt Nat _ 58 L) (g2 : @LT.lt Nat _ 51 L)
    (hls : h₀.IsList lsc vs.toArray) (hid : IntsAre vs ws) (hdl : ws.length ≤ 63) (hsc : Has m (Str.ofString "script") (.ref lsc))
    (hE : PassesOwn (model PR w) (callerA.deeper (envOfC (Str.ofString "law") (fdScope lawS) L a ccd)) (envOfC (Str.ofString "law") (fdScope lawS) L a ccd) E)
    (ret : ∀ h' tk' m' c oc c' oc' rest, GD oc → GI oc' → Fr h₀ L h' m' → News h₀ L h' ((58, tabD c) :: (c, oc) :: (51, tabI c') :: (c', oc') :: rest) →
      wpAny (model PR w) (callerA.deeper (envOfC (Str.ofString "law") (fdScope lawS) L a ccd)) (execs (dropS 12 (fdBody lawS)) (envOfC (Str.ofString "law") (fdScope lawS) L a ccd)) Q E {s with heap := h', toks := tk'}) :
    wpAny (model PR w) (callerA.deeper (envOfC (Str.ofString "law") (fdScope lawS) L a ccd)) (execs (fdBody lawS) (envOfC (Str.ofString "law") (fdScope lawS) L a ccd)) Q E s := by
  have htk : (ws.take 5).length ≤ 5 := by rw [List.length_take]; omega
  have hdn : (ws.take 5 ++ [2, 2036, 4]).length ≤ 8 := by rw [List.length_append]; simp; omega
  have hR : RingOk ((ws.take 5 ++ [2, 2036, 4]).map sym) := ring_ok htk
  have hL := ring_law htk
  unfold ringOf at hL
  refine head_drawn B F X T N hls hid hdl hsc fun h1 tk1 ld vd kd hvd lt1 F1 N1 => ?_
  generalize ws.take 5 ++ [2, 2036, 4] = dn at *
  refine head_ring B F1 X T N1 (.head _) hvd hdn rfl fun h2 tk2 lr vr kr hvr lt2 F2 N2 => ?_
  have f58 : @LT.lt Nat _ 58 (L + 1) := Nat.lt_succ_of_lt g1
  have f51 : @LT.lt Nat _ 51 (L + 1) := Nat.lt_succ_of_lt g2
  have f58b : @LT.lt Nat _ 58 (L + 1 + 1) := Nat.lt_succ_of_lt f58
  have f51b : @LT.lt Nat _ 51 (L + 1 + 1) := Nat.lt_succ_of_lt f51
  have f58c : @LT.lt Nat _ 58 (L + 1 + 1 + 1) := Nat.lt_succ_of_lt f58b
  have f51c : @LT.lt Nat _ 51 (L + 1 + 1 + 1) := Nat.lt_succ_of_lt f51b
  have f12 : @LT.lt Nat _ (L + 1) (L + 1 + 1) := Nat.lt_succ_self _
  have f23 : @LT.lt Nat _ (L + 1 + 1) (L + 1 + 1 + 1) := Nat.lt_succ_self _
  have f13 : @LT.lt Nat _ (L + 1) (L + 1 + 1 + 1) := Nat.lt_trans f12 f23
  have f3d : @LT.lt Nat _ (L + 1 + 1 + 1) ld := lt1 _ (.head _)
  have f2d : @LT.lt Nat _ (L + 1 + 1) ld := lt1 _ (.tail _ (.head _))
  have f1d : @LT.lt Nat _ (L + 1) ld := Nat.lt_trans f12 f2d
  have f3r : @LT.lt Nat _ (L + 1 + 1 + 1) lr := lt2 _ (.tail _ (.head _))
  have f2r : @LT.lt Nat _ (L + 1 + 1) lr := Nat.lt_trans f23 f3r
  have f1r : @LT.lt Nat _ (L + 1) lr := Nat.lt_trans f12 f2r
  have f8d : @LT.lt Nat _ 58 ld := Nat.lt_trans f58 f1d
  have f8r : @LT.lt Nat _ 58 lr := Nat.lt_trans f58 f1r
  have f5d : @LT.lt Nat _ 51 ld := Nat.lt_trans f51 f1d
  have f5r : @LT.lt Nat _ 51 lr := Nat.lt_trans f51 f1r
  refine head_parts (news := [(lr, listOf vr.toArray kr), (ld, listOf vd.toArray kd), (L + 1 + 1 + 1, oK), (L + 1 + 1, oS), (58, tabObj #[]), (51, tabObj #[])]) B F2 X T (News.sub N2 (by k_subL)) hoP ?_ (.tail _ (.head _)) hvd hdn rfl fun h3 tk3 lq vq kq oP' hvq lt3 hoP' F3 N3 => ?_
  · exact fa (Nat.ne_of_gt f1r) (fa (Nat.ne_of_gt f1d) (fa (Nat.ne_of_gt f13) (fa (Nat.ne_of_gt f12) (fa (Nat.ne_of_lt f58) (fa (Nat.ne_of_lt f51) fz)))))
  have frq : @LT.lt Nat _ lr lq := lt3 _ (.tail _ (.head _))
  have f3q : @LT.lt Nat _ (L + 1 + 1 + 1) lq := Nat.lt_trans f3r frq
  have f2q : @LT.lt Nat _ (L + 1 + 1) lq := Nat.lt_trans f2r frq
  have f8q : @LT.lt Nat _ 58 lq := Nat.lt_trans f8r frq
  have f5q : @LT.lt Nat _ 51 lq := Nat.lt_trans f5r frq
  refine head_number (rest := [(L + 1, oP'), (lq, listOf vq.toArray kq), (lr, listOf vr.toArray kr), (ld, listOf vd.toArray kd), (L + 1 + 1 + 1, oK), (51, tabObj #[])]) B F3 X T (News.sub N3 (by k_subL)) hoS C ?_ ?_ (Nat.ne_of_lt f58b) (.tail _ (.tail _ (.head _))) hvr hR rfl fun h4 tk4 ls lp c oc oS' tS tN hoS' hG lt4 g58 lt5 lt6 F4 N4 => ?_
  · exact fa (Nat.ne_of_lt f12) (fa (Nat.ne_of_gt f2q) (fa (Nat.ne_of_gt f2r) (fa (Nat.ne_of_gt f2d) (fa (Nat.ne_of_gt f23) (fa (Nat.ne_of_lt f51b) fz)))))
  · exact fa (Nat.ne_of_gt f58) (fa (Nat.ne_of_gt f8q) (fa (Nat.ne_of_gt f8r) (fa (Nat.ne_of_gt f8d) (fa (Nat.ne_of_gt f58c) (fa (show (51 : Nat) ≠ 58 by decide) fz)))))
  have f3c : @LT.lt Nat _ (L + 1 + 1 + 1) c := lt4 _ (.tail _ (.tail _ (.tail _ (.tail _ (.tail _ (.head _))))))
  have f5c : @LT.lt Nat _ 51 c := Nat.lt_trans f51c f3c
  have fcs : @LT.lt Nat _ c ls := lt5 _ (.tail _ (.head _))
  have fsp : @LT.lt Nat _ ls lp := lt6 _ (.head _)
  have f5s : @LT.lt Nat _ 51 ls := Nat.lt_trans f5c fcs
  have f3s : @LT.lt Nat _ (L + 1 + 1 + 1) ls := Nat.lt_trans f3c fcs
  refine law_loop (rs := dn.map sym) (ks₀ := 0) (kp₀ := 0) (ls := ls) (lp := lp) (tN := tN) (tS := tS) (oK := oK) (tl₀ := [(58, tabD c), (c, oc), (L + 1 + 1, oS'), (L + 1, oP'), (lq, listOf vq.toArray kq), (lr, listOf vr.toArray kr), (ld, listOf vd.toArray kd)]) B F4 X T (News.sub N4 (by k_subL)) hoK C C' (.head _) (.tail _ (.head _)) hG (.tail _ (.tail _ (.head _))) hoS' (.tail _ (.tail _ (.tail _ (.tail _ (.tail _ (.head _)))))) hvr rfl rfl rfl rfl hR ?_ ?_ fsp ?_ (Nat.ne_of_gt f5s) (Nat.ne_of_gt (Nat.lt_trans f5s fsp)) ?_ (Nat.ne_of_gt f3s) (Nat.ne_of_gt (Nat.lt_trans f3s fsp)) (Nat.ne_of_lt f51c) hE fun h5 tk5 m5 news5 hKJ F5 N5 => ?_
  · exact fun p hp => Nat.ne_of_lt (lt5 p (List.mem_append_left [(L + 1 + 1 + 1, oK), (51, tabObj #[])] hp))
  · exact fun p hp => Nat.ne_of_lt (lt6 p (.tail _ (List.mem_append_left [(L + 1 + 1 + 1, oK), (51, tabObj #[])] hp)))
  · exact fa (show (58 : Nat) ≠ 51 by decide) (fa (Nat.ne_of_gt f5c) (fa (Nat.ne_of_gt f51b) (fa (Nat.ne_of_gt f51) (fa (Nat.ne_of_gt f5q) (fa (Nat.ne_of_gt f5r) (fa (Nat.ne_of_gt f5d) fz))))))
  · exact fa (Nat.ne_of_lt f58c) (fa (Nat.ne_of_gt f3c) (fa (Nat.ne_of_lt f23) (fa (Nat.ne_of_lt f13) (fa (Nat.ne_of_gt f3q) (fa (Nat.ne_of_gt f3r) (fa (Nat.ne_of_gt f3d) fz))))))
  obtain ⟨oK₁, vK₁, rest5, hoK₁, rfl, nK, hnb, hrg, hst, hpl, hJ⟩ := hKJ
  rcases hJ with ⟨h0, _⟩ | ⟨_, vss, ks, vsp, kp, tl, c', oc', rfl, his, hKR, h51, hc', hG', hsub, ne1, ne2⟩
  · have := hR.2.1
    omega
  have hcP := hsub _ (.tail _ (.tail _ (.tail _ (.head _))))
  have hlq := hsub _ (.tail _ (.tail _ (.tail _ (.tail _ (.head _)))))
  have hpl8 : (dn.map prt).length ≤ 8 := by rw [List.length_map]; exact hdn
  refine tail_a (rs := dn.map sym) (ps := dn.map prt) B F5 X T (drop1 N5) (hsub _ (.tail _ (.tail _ (.head _)))) hoS' hcP hoP' hlq hvq hpl8 hR.2.2 ?_ his hKR (Nat.le_trans (stI_len _ _) hR.2.2) hst hpl hL.1 (by rw [Int.toNat_natCast]; exact hL.2) fun h6 tk6 F6 N6 => ?_
  · intro x hx
    obtain ⟨y, _, rfl⟩ := List.mem_map.mp hx
    exact prt_range y
  refine tail_counts B F6 X T N6 (.tail _ (.tail _ hcP)) hoP' (.tail _ (.tail _ hlq)) hvq hpl8 fun h7 tk7 lc vc kc hvc lt7 F7 N7 => ?_
  refine tail_known B F7 X T N7 (.head _) hvc (cnt_ok hpl8).len (cnt_ok hpl8).entry rfl fun h8 tk8 lk refs kk tl2 hKR2 hsub2 F8 N8 => ?_
  have m58 : (58, tabD c) ∈ (lk, listOf refs.toArray kk) :: tl2 := .tail _ (hsub2 _ (.tail _ (.tail _ (.tail _ (hsub _ (.head _))))))
  have mc : (c, oc) ∈ (lk, listOf refs.toArray kk) :: tl2 := .tail _ (hsub2 _ (.tail _ (.tail _ (.tail _ (hsub _ (.tail _ (.head _)))))))
  have m51 : (51, tabI c') ∈ (lk, listOf refs.toArray kk) :: tl2 := .tail _ (hsub2 _ (.tail _ (.tail _ (.tail _ h51))))
  have mc' : (c', oc') ∈ (lk, listOf refs.toArray kk) :: tl2 := .tail _ (hsub2 _ (.tail _ (.tail _ (.tail _ hc'))))
  refine tail_loop B F8 X T N8 C C' m58 mc hG m51 mc' hG' (.tail _ (hsub2 _ (.head _))) hvc (cnt_ok hpl8) (.head _) hKR2 (fun q hq => .tail _ hq) rfl rfl hE fun h9 tk9 m9 F9 N9 => ?_
  exact ret _ _ _ _ _ _ _ [] hG hG' F9 (fun p hp => N9 p (by
    simp only [List.mem_cons, List.not_mem_nil, or_false] at hp
    rcases hp with rfl | rfl | rfl | rfl
    · exact m58
    · exact mc
    · exact m51
    · exact mc'))
theorem rst_LAWF : True := by
  w_top off
  trivial
set_option maxHeartbeats 8000000 in
theorem law_all : PySem.Challenge.rw_pe0112_01.Holds := hd (by
  w_strict (
    k_go0
    (all_goals try k_fold)
    k_with_none
    refine' law_body ?B ?F ?X ?T ?N ?o1 ?o2 ?o3 ?C ?D ?g1 ?g2 ?ls ?id ?dl ?sc ?E ?_
    case B => k_asm
    case F => k_asm
    case X => k_asm
    case T => k_asm
    case N => k_asm
    case o1 => assumption
    case o2 => assumption
    case o3 => assumption
    case C => assumption
    case D => assumption
    case g1 => assumption
    case g2 => assumption
    case ls => assumption
    case id => assumption
    case dl => omega
    case sc => exact rfl
    case E => passes_own
    intro h' tk' m' c oc c' oc' rest hG hG' F₉ N₉
    rw [show dropS 12 (fdBody lawS) = nthS 12 (fdBody lawS) :: dropS 13 (fdBody lawS) from rfl]
    generalize hB1 : nthS 12 (fdBody lawS) = b1
    conv at hB1 => lhs; whnf
    subst hB1
    k_steps))
end
end Mine
set_option maxRecDepth 100000 in
set_option maxHeartbeats 8000000 in
theorem PySem.Challenge.cw_pe0112_01_holds : PySem.Challenge.rw_pe0112_01.Holds := by
  exact Mine.law_all
