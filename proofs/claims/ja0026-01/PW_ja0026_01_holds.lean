import PyProof.Rows.All
import Wide.All
import OpenK.AllK
import Wide.FinOn
import PySem.Challenge.RW_ja0026_01
set_option Elab.async false
/- part H1 -/
section
open PySem PySem.W PyProof.Rows
set_option Elab.async false
set_option maxRecDepth 100000
set_option maxHeartbeats 4000000
namespace Mine
/-- the def that stands at a place of the program's body -/
structure DefAt (i : Nat) (name : Str) (args : Arguments) (body : List Stmt) (scope : Scope) : Prop where
  is : ∃ a b c d e f, PySem.Challenge.pw_ja0026_01.main.body[i]? = some (.FunctionDef name args body a b c scope d e f)
def fBody1 : List Stmt := by
  exact (fun (n : Str) (a : Arguments) (b : List Stmt) (s : Scope) (_ : DefAt 1 n a b s) => b) _ _ _ _ ⟨⟨_, _, _, _, _, _, rfl⟩⟩
def fArgs1 : Arguments := by
  exact (fun (n : Str) (a : Arguments) (b : List Stmt) (s : Scope) (_ : DefAt 1 n a b s) => a) _ _ _ _ ⟨⟨_, _, _, _, _, _, rfl⟩⟩
def fScope1 : Scope := by
  exact (fun (n : Str) (a : Arguments) (b : List Stmt) (s : Scope) (_ : DefAt 1 n a b s) => s) _ _ _ _ ⟨⟨_, _, _, _, _, _, rfl⟩⟩
/-- the body of a for -/
def forBody : Stmt → List Stmt
  | .For _ _ b _ _ => b
  | _ => []
def nth (l : List Stmt) (i : Nat) : Stmt := l[i]?.getD (.Pass default)
def outerBody : List Stmt := forBody (nth fBody1 2)
def innerBody : List Stmt := forBody (nth outerBody 1)

def env1 (L : Addr) : Env := newEnv fScope1 L 3 [] ("bytes_to_bits" ++ ".<locals>.") (some 21) (.ref 20) none 0

section
variable {prog : Program} {w : World} {A : Around} {E : Value → Shared → Prop} {s : Shared} {m : Str → Option Value} {B L : Addr}

/-- the digit that a turn writes -/
def digit (n : Int) : Str := Txt.item "01" (Builtin.bitAnd n 1)

theorem inner_turn {n i : Int} {t u : Tok} {items : Array Value} {Q : Flow → Shared → Prop}
    (hn : s.heap.Ns L m) (h1 : m "num" = some (.int n t)) (h2 : m "bits" = some (.ref B)) (h3 : m "i" = some (.int i u))
    (hi0 : 0 ≤ i) (hi8 : i < 8) (hl : s.heap.IsList B items) (hsz : items.size = 8) (hBL : B ≠ L)
    (hd : fitsSsize (Builtin.bitAnd n 1) = true ∧ (Txt.charAt "01" (Builtin.bitAnd n 1)).isSome = true)
    (h : ∀ h', h'.objs.size = s.heap.objs.size → (∀ b, b ≠ L → b ≠ B → h'.get? b = s.heap.get? b) →
      h'.IsList B (items.setIfInBounds i.toNat (.str (digit n) (s.toks + 3))) →
      h'.Ns L (fun x => if x = "num" then some (.int (n.fdiv 2) (s.toks + 5)) else m x) → Q .next { s with heap := h', toks := s.toks + 7 }) :
    wpAny (model prog w) A (execs innerBody (env1 L)) Q E s := by
  have kS : (env1 L).scope.kind = .function := rfl
  have kN : (env1 L).kindOf "num" = some .local := rfl
  have kB : (env1 L).kindOf "bits" = some .local := rfl
  have kI : (env1 L).kindOf "i" = some .local := rfl
  show wpAny (model prog w) A (execs (_ :: _ :: []) (env1 L)) Q E s
  refine wpAny_execs_cons (wpAny_Assign_Subscript ?_ (by rfl))
  refine Subscript_ (wpAny_Constant_str ?_)
  refine wpAny_BinOp (wpAny_Name (wpAny_loadName_local kS kN hn h1 ?_))
  refine wpAny_Constant_int (and_int ?_)
  refine tail_of_ItemOn (SB.item hd.1 hd.2 ?_) (by with_unfolding_all rfl) (by intro _; with_unfolding_all rfl)
  refine wpAny_Name (wpAny_loadName_local kS kB hn h2 ?_)
  refine wpAny_Name (wpAny_loadName_local kS kI hn h3 ?_)
  refine wpAny_setItem_list hl hi0 (by omega) (by rw [hsz]; omega) ?_
  intro h₁ hl₁ hs₁
  have hn₁ : h₁.Ns L m := hn.sameBut hs₁ hBL.symm
  refine wpAny_execs_cons (wpAny_AugAssign_Name ?_)
  refine wpAny_loadName_local kS kN hn₁ h1 ?_
  refine wpAny_Constant_int (irshift_int (by decide) ?_)
  refine wpAny_storeName_local kN hn₁ ?_ (by rfl)
  intro h₂ hn₂ hs₂
  refine wpAny_execs_nil ?_
  exact h h₂ (hs₂.1.trans hs₁.1) (fun b b1 b2 => (hs₂.2 b b1).trans (hs₁.2 b b2)) (Heap.IsList.at hl₁ fun o e => (hs₂.2 B hBL).trans e) hn₂

theorem range_end {it : Addr} {x left step : Int} {Q : Option Value → Shared → Prop} (hh : A.handled = none) (hit : IsRangeIter s.heap it x left step) (hleft : left ≤ 0)
    (hQ : ∀ h', h'.objs.size = s.heap.objs.size + 2 → (∀ b o, s.heap.get? b = some o → h'.get? b = some o) → Q none { s with heap := h' }) : wpAny (model prog w) A (pyNext (.ref it)) Q E s := by
  have hT : s.TypeIs (.ref it) "range_iterator" := ⟨_, hit, rfl⟩
  unfold pyNext
  refine wpAny_bind (wpAny_attempt (wpAny_callSpecial?_slot (name := Str.ofString "__next__") hT F.slot_range_iterator_next
    (wpAny_call_entry F.slot_range_iterator_next hT F.entry_range_iterator_next ?_ (F.args_range_iterator_next_1 _))))
  show wpAny _ _ (field (.ref it) 0 >>= _) _ _ s
  refine wpAny_bind (wpAny_field hit rfl (x := rawInt x) rfl ?_)
  show wpAny _ _ (field (.ref it) 1 >>= _) _ _ s
  refine wpAny_bind (wpAny_field hit rfl (x := rawInt left) rfl ?_)
  show wpAny _ _ (field (.ref it) 2 >>= _) _ _ s
  refine wpAny_bind (wpAny_field hit rfl (x := rawInt step) rfl ?_)
  show wpAny _ _ (if left ≤ 0 then _ else _) _ _ s
  rw [if_pos hleft]
  refine wpAny_bind (wpAny_rule ?_)
  refine wpAny_bind ?_
  show wpAny _ _ (newExc (.type "StopIteration") [] >>= _) _ _ _
  refine wpAny_bind ?_
  simp only [newExc, newTuple]
  refine wpAny_bind (wpAny_newObj_type ?_ (by size_fits))
  refine wpAny_bind (m := firstArgMember _ _) (wpAny_of_eq (a := Value.none) (by first | rfl | (simp only [firstArgMember]; rfl)) ?_)
  refine wpAny_newObj_type ?_ (by size_fits)
  simp only [raiseNew]
  refine wpAny_bind (wpAny_handled ?_)
  rw [show A.in1.handled = none from hh]
  refine wpAny_bind (wpAny_pure (wpAny_throw ?_))
  refine wpAny_bind (wpAny_isInstance (T := "StopIteration") (b := true) ⟨_, Heap.get?_push_size _ rfl, rfl⟩ isSubtype_stop ?_)
  exact wpAny_pure (hQ _ (by simp [Heap.size_push]) fun b o e => Heap.get?_push_of_some _ (Heap.get?_push_of_some _ e))

/-- the digits that stand behind j turns -/
structure Half (N j : Nat) (items : Array Value) : Prop where
  size : items.size = 8
  at_ : ∀ p, 8 - j ≤ p → p < 8 → ∃ tk, items[p]? = some (.str (digit ((N / 2 ^ (7 - p) : Nat) : Int)) tk)

theorem digit_ok (N : Nat) (h : N < 256) : fitsSsize (Builtin.bitAnd (N : Int) 1) = true ∧ (Txt.charAt "01" (Builtin.bitAnd (N : Int) 1)).isSome = true := by
  revert N
  decide +kernel

theorem inner_loop {N : Nat} (hN : N < 256) {J : Addr} {t : Tok} {items : Array Value} {R : Result → Shared → Prop} (hh : A.handled = none)
    (hn : s.heap.Ns L m) (h1 : m "num" = some (.int (N : Int) t)) (h2 : m "bits" = some (.ref B))
    (hl : s.heap.IsList B items) (hsz : items.size = 8) (hit : IsRangeIter s.heap J 7 8 (-1)) (hBL : B ≠ L) (hJL : J ≠ L) (hJB : J ≠ B)
    (h : ∀ h' items' m', h'.objs.size = s.heap.objs.size + 2 → (∀ b o, b ≠ L → b ≠ B → b ≠ J → s.heap.get? b = some o → h'.get? b = some o) →
      h'.IsList B items' → Half N 8 items' → h'.Ns L m' → (∀ x : Str, x ≠ "num" → x ≠ "i" → m' x = m x) → R (.ok .next) { s with heap := h', toks := s.toks + 72 }) {pos : Pos} :
    codeAny (model prog w) A (.forLoop (.Name "i" pos) (.ref J) innerBody [] (env1 L)) R s := by
  have kI : (env1 L).kindOf "i" = some .local := rfl
  refine codeAny_forLoop (fun k s' => ∃ j h' its m' tk, k = 8 - j ∧ j ≤ 8 ∧ s' = { s with heap := h', toks := s.toks + 9 * j } ∧ h'.objs.size = s.heap.objs.size ∧
    (∀ b, b ≠ L → b ≠ B → b ≠ J → h'.get? b = s.heap.get? b) ∧ h'.IsList B its ∧ Half N j its ∧ h'.Ns L m' ∧ (∀ x : Str, x ≠ "num" → x ≠ "i" → m' x = m x) ∧
    m' "num" = some (.int ((N / 2 ^ j : Nat) : Int) tk) ∧ IsRangeIter h' J (7 - (j : Nat)) (8 - (j : Nat)) (-1)) ?_ 8
    ⟨0, s.heap, items, m, t, rfl, by omega, rfl, rfl, fun _ _ _ _ => rfl, hl, ⟨hsz, fun p a b => by omega⟩, hn, fun _ _ _ => rfl, by simpa using h1, by simpa using hit⟩
  rintro k s' ⟨j, h', its, m', tk, rfl, hj, rfl, hsz', hkeep, hl', hH, hn', hm', hnum, hit'⟩
  by_cases hj8 : j = 8
  · subst hj8
    refine range_end hh hit' (by omega) ?_
    intro h₁ hs₁ hk₁
    refine wpAny_execs_nil ?_
    refine h h₁ its m' (by rw [hs₁]; simp only; omega) (fun b o b1 b2 b3 e => hk₁ b o ((hkeep b b1 b2 b3).trans e)) (Heap.IsList.at hl' fun o e => hk₁ _ _ e) hH (hn'.keeps hk₁) hm'
  · have hj7 : j < 8 := by omega
    refine wpAny_pyNext_range_item hit' (by omega) ?_
    intro h₁ hit₁ hs₁
    refine wpAny_assign_Name (wpAny_storeName_local kI (hn'.sameBut hs₁ hJL.symm) ?_ (by rfl))
    intro h₂ hn₂ hs₂
    refine inner_turn (n := ((N / 2 ^ j : Nat) : Int)) (i := 7 - (j : Nat)) (items := its) hn₂ (B := B) ((if_neg (by decide)).trans hnum) ((if_neg (by decide)).trans ((hm' _ (by decide) (by decide)).trans h2)) (if_pos rfl) (by omega) (by omega)
      (Heap.IsList.at hl' fun o e => (hs₂.2 B hBL).trans ((hs₁.2 B hJB.symm).trans e)) hH.size hBL (digit_ok _ (Nat.lt_of_le_of_lt (Nat.div_le_self _ _) hN)) ?_
    intro h₃ hs₃ hk₃ hl₃ hn₃
    refine ⟨8 - (j + 1), by omega, j + 1, h₃, _, _, s.toks + 9 * j + 1 + 1 + 5, rfl, by omega, ?_, ?_, ?_, hl₃, ?_, hn₃, ?_, ?_, ?_⟩
    · simp only [Shared.mk.injEq, true_and, and_true]; omega
    · rw [hs₃]; simp only; rw [hs₂.1, hs₁.1, hsz']
    · intro b b1 b2 b3
      rw [hk₃ b b1 b2]; simp only; rw [hs₂.2 b b1, hs₁.2 b b3]; exact hkeep b b1 b2 b3
    · refine ⟨by rw [Array.size_setIfInBounds]; exact hH.size, fun p p1 p2 => ?_⟩
      by_cases hp : p = 7 - j
      · subst hp
        refine ⟨s.toks + 9 * j + 1 + 1 + 3, ?_⟩
        rw [show (7 - (j : Nat) : Int).toNat = 7 - j by omega, Array.getElem?_setIfInBounds_self, if_pos (by rw [hH.size]; omega)]
        rw [show 7 - (7 - j) = j by omega]
      · obtain ⟨tk', e⟩ := hH.at_ p (by omega) p2
        refine ⟨tk', ?_⟩
        rw [Array.getElem?_setIfInBounds_ne (by omega)]
        exact e
    · intro x x1 x2
      simp only [x1, x2, if_false]
      exact hm' x x1 x2
    · simp only [if_true]
      rw [show ((N / 2 ^ j : Nat) : Int).fdiv 2 = ((N / 2 ^ (j + 1) : Nat) : Int) by
        rw [Nat.pow_succ, ← Nat.div_div_eq_div_mul, Int.fdiv_eq_ediv_of_nonneg _ (by decide)]; rfl]
    · have e := (hk₃ J hJL hJB).trans ((hs₂.2 J hJL).trans hit₁)
      rw [show (7 - (j : Nat) : Int) + -1 = 7 - ((j + 1 : Nat) : Int) by omega, show (8 - (j : Nat) : Int) - 1 = 8 - ((j + 1 : Nat) : Int) by omega] at e
      exact e
end
end Mine
end
/- part H2 -/
section
open PySem PySem.W PyProof.Rows PySem.Builtin PySem.Builtin.Str
set_option Elab.async false
set_option maxRecDepth 100000
set_option maxHeartbeats 4000000
namespace Mine
section
variable {prog : Program} {w : World} {A : Around} {E : Value → Shared → Prop} {s : Shared} {m : Str → Option Value} {B L : Addr}

theorem mul_int_list {l : Addr} {items : Array Value} {k : Nat} {x : Int} {u : Tok} {Q : Value → Shared → Prop}
    (hl : s.heap.get? l = some { cls := .type "list", dict := none, data := .seq items k, slots := #[] })
    (hlo : -(2 ^ 63 : Int) ≤ x) (hhi : x < 2 ^ 63) (hsz : items.size * x.toNat ≤ 2 ^ 24)
    (h : Q (.ref s.heap.objs.size) { s with heap := s.heap.push { cls := .type "list", data := .seq (List.foldl (fun x1 x2 => x1 ++ x2) #[] (List.replicate (if items.isEmpty = true then 0 else x.toNat) items)) } }) :
    wpAny (model prog w) A (binaryOp .Mult (.int x u) (.ref l)) Q E s :=
  lm_binaryOp_repeat_right (T := "list") (U := "int") (by decide) (fun s' => typeIs_int s' x u) ⟨_, hl, rfl⟩ F.fills_int_mul noFill_list_mul F.slot_int_mul lm_noRepeat_int repeat_list F.slot_int_index.lookup
    (call_meets F.slot_int_mul (typeIs_int s x u) F.entry_int_mul (F.args_int_mul_2 _ _) (lm_int_mul_list_any x u l items k none #[])
      ⟨hl, rfl, ⟨_, hl, rfl⟩, call_meets F.slot_list_mul ⟨_, hl, rfl⟩ F.entry_list_mul (F.args_list_mul_2 _ _)
        (AutoListH.list___mul___list_int_3 l items k x u (by simp [Builtin.List.listFitsIndex]; omega) (by omega) (by simp [Builtin.List.listTooLong, sizeLine]; omega))
        ⟨hl, h⟩⟩)

/-- the eight digits of a number below 256, the highest first -/
def digs (N : Nat) : List Str := (List.range 8).map fun p => digit ((N / 2 ^ (7 - p) : Nat) : Int)
def bits8 (N : Nat) : Str := Txt.join "" (digs N)

theorem half_strs {N : Nat} {items : Array Value} (h : Half N 8 items) : ∃ l : List (Str × Tok), items = (strValues l).toArray ∧ l.map (·.1) = digs N := by
  have f : ∀ p : Nat, p < 8 → ∃ tk, items[p]? = some (.str (digit ((N / 2 ^ (7 - p) : Nat) : Int)) tk) := fun p hp => h.at_ p (by omega) hp
  obtain ⟨t0, e0⟩ := f 0 (by decide)
  obtain ⟨t1, e1⟩ := f 1 (by decide)
  obtain ⟨t2, e2⟩ := f 2 (by decide)
  obtain ⟨t3, e3⟩ := f 3 (by decide)
  obtain ⟨t4, e4⟩ := f 4 (by decide)
  obtain ⟨t5, e5⟩ := f 5 (by decide)
  obtain ⟨t6, e6⟩ := f 6 (by decide)
  obtain ⟨t7, e7⟩ := f 7 (by decide)
  refine ⟨(digs N).zip [t0, t1, t2, t3, t4, t5, t6, t7], ?_, rfl⟩
  apply Array.ext'
  apply List.ext_getElem?
  intro i
  have hs := h.size
  rw [← Array.getElem?_toList] at e0 e1 e2 e3 e4 e5 e6 e7
  match i with
  | 0 => rw [e0]; rfl
  | 1 => rw [e1]; rfl
  | 2 => rw [e2]; rfl
  | 3 => rw [e3]; rfl
  | 4 => rw [e4]; rfl
  | 5 => rw [e5]; rfl
  | 6 => rw [e6]; rfl
  | 7 => rw [e7]; rfl
  | i + 8 =>
    rw [List.getElem?_eq_none (by rw [Array.length_toList]; omega)]
    rfl

theorem join_exact {D : Addr} {items : Array Value} {N : Nat} {t : Tok} {Q : Value → Shared → Prop} (hN : N < 256) (hl : s.heap.IsList D items) (hH : Half N 8 items)
    (h : Q (.str (bits8 N) s.toks) { s with toks := s.toks + 1 }) : wpAny (model prog w) A (call (.builtin "str.join") [.str "" t, .ref D]) Q E s := by
  obtain ⟨l, rfl, ht⟩ := half_strs hH
  have hok : tooLong ((l.map (·.1)).toArray.foldl (· + ·.length + ("" : Str).length) 0) = false := by
    rw [ht]
    have a : ∀ N, N < 256 → tooLong ((digs N).toArray.foldl (· + ·.length + ("" : Str).length) 0) = false := by decide +kernel
    exact a N hN
  refine call_meets F.slot_str_join (typeIs_str _ _ _) F.entry_str_join (F.args_str_join_2 _ _) (meets_str_join_list "" t D l hok) ⟨hl, ?_⟩
  unfold bits8 at h
  rw [← ht] at h
  have hlen : l.length = 8 := by
    have := congrArg List.length ht
    simpa [digs] using this
  match l, hlen, hok, h with
  | a :: b :: r, _, hok, h => exact ⟨joinFit_length hok, h⟩

theorem ne_hi {a b : Nat} (h : b < a) : (a : Addr) ≠ b := Nat.ne_of_gt h
theorem ne_lo {a b : Nat} (h : a < b) : (a : Addr) ≠ b := Nat.ne_of_lt h
theorem append_exact {l : Addr} {items : Array Value} {n : Nat} {x : Value} {Q : Value → Shared → Prop} (ho : s.heap.get? l = some { cls := .type "list", data := .seq items n })
    (hQ : ∀ h', h'.get? l = some { cls := .type "list", data := .seq (items.push x) (n + 1) } → Heap.SameBut l s.heap h' → Q .none { s with heap := h' }) (hsz : items.size ≤ sizeLine) :
    wpAny (model prog w) A (call (.builtin "list.append") [.ref l, x]) Q E s := by
  refine wpAny_call_entry slot_list_append ⟨_, ho, rfl⟩ entry_list_append ?_ (args_list_append _ _)
  show wpAny _ _ (updateSeq l (·.push x) >>= fun _ => ret .none) _ _ s
  refine wpAny_bind ?_
  refine wpAny_updateSeq ho rfl (wpAny_pure ⟨.none, rfl, hQ _ ?_ (Heap.SameBut.update ..)⟩)
  rw [Heap.get?_update_self _ ho (by rw [Obj.mapSeq_push_plain]; rfl), Obj.mapSeq_push_plain]

theorem outer_turn {N : Nat} (hN : N < 256) {K Rg : Addr} {t tu tv tw : Tok} {xs : Array Value} {k : Nat} {Q : Flow → Shared → Prop} (hh : A.handled = none)
    (hn : s.heap.Ns L m) (h1 : m "num" = some (.int (N : Int) t)) (h2 : m "lookup" = some (.ref K)) (h3 : m "bits_per_byte" = some (.ref Rg))
    (hk : s.heap.get? K = some { cls := .type "list", data := .seq xs k }) (hxs : xs.size ≤ sizeLine) (hr : IsRange s.heap Rg 7 (-1) (-1) tu tv tw) (hKL : K ≠ L) (hRL : Rg ≠ L)
    (h : ∀ h' m', h'.objs.size = s.heap.objs.size + 5 → (∀ b o, b ≠ L → b ≠ K → s.heap.get? b = some o → h'.get? b = some o) →
      h'.get? K = some { cls := .type "list", data := .seq (xs.push (.str (bits8 N) (s.toks + 75))) (k + 1) } → h'.Ns L m' → (∀ x : Str, x ≠ "num" → x ≠ "i" → x ≠ "bits" → m' x = m x) →
      Q .next { s with heap := h', toks := s.toks + 76 }) :
    wpAny (model prog w) A (execs outerBody (env1 L)) Q E s := by
  have kS : (env1 L).scope.kind = .function := rfl
  have kB : (env1 L).kindOf "bits" = some .local := rfl
  have kR : (env1 L).kindOf "bits_per_byte" = some .local := rfl
  have kK : (env1 L).kindOf "lookup" = some .local := rfl
  have hLs : @LT.lt Nat _ L s.heap.objs.size := hn.lt
  have hKs : @LT.lt Nat _ K s.heap.objs.size := Heap.lt_size hk
  have hRs : @LT.lt Nat _ Rg s.heap.objs.size := Heap.lt_size hr
  show wpAny (model prog w) A (execs (_ :: _ :: _ :: []) (env1 L)) Q E s
  refine wpAny_execs_cons (wpAny_Assign_Name ?_ (by rfl))
  refine wpAny_BinOp (wpAny_Constant_int ?_)
  refine wpAny_List ?_
  refine Calls.spliced_cons ?_
  refine wpAny_Constant_none (k := 0) (pos := default) ?_
  refine Calls.spliced_nil ⟨by decide, ?_⟩
  refine mul_int_list (Heap.get?_push_size _ rfl) (by decide) (by decide) (by decide) ?_
  refine wpAny_storeName_local kB ((hn.push _).push _) ?_ (by rfl)
  intro h₁ hn₁ hs₁
  simp only [Heap.size_push] at hs₁ hn₁
  have kp₁ : ∀ b o, b ≠ L → s.heap.get? b = some o → h₁.get? b = some o := fun b o hb e => (hs₁.2 b hb).trans (Heap.get?_push_of_some _ (Heap.get?_push_of_some _ e))
  have sz₁ : h₁.objs.size = s.heap.objs.size + 2 := by rw [hs₁.1, Heap.size_push, Heap.size_push]
  have hB : h₁.IsList (s.heap.objs.size + 1) #[.none, .none, .none, .none, .none, .none, .none, .none] := by
    have e : s.heap.objs.size + 1 = (s.heap.push { cls := .type "list", data := .seq [Value.none].toArray }).objs.size := (Heap.size_push _ _).symm
    refine ⟨{ cls := .type "list", data := .seq (List.foldl (fun x1 x2 => x1 ++ x2) #[] (List.replicate 8 #[Value.none])) }, (hs₁.2 _ (ne_hi (by show @LT.lt Nat _ L _; omega))).trans ?_, rfl, _, rfl⟩
    rw [e]
    exact Heap.get?_push_size _ rfl
  refine wpAny_execs_cons (wpAny_For ?_ (by intro _; rfl))
  refine wpAny_Name (wpAny_loadName_local kS kR hn₁ ((if_neg (by decide)).trans h3) ?_)
  refine wpAny_pyIter_range (kp₁ _ _ hRL hr) (by decide) ?_
  refine inner_loop hN (m := fun x => if x = "bits" then some (.ref (s.heap.objs.size + 1)) else m x) (B := s.heap.objs.size + 1) (J := h₁.objs.size) hh (hn₁.push _) ((if_neg (by decide)).trans h1) (if_pos rfl)
    (Heap.IsList.at hB fun o e => Heap.get?_push_of_some _ e) rfl ?_ (ne_hi (by show @LT.lt Nat _ L _; omega)) (ne_hi (by show @LT.lt Nat _ L _; omega)) (ne_hi (by omega)) ?_
  · exact Heap.get?_push_size _ rfl
  intro h₂ its m₂ sz₂ kp₂ hl₂ hH₂ hn₂ hm₂
  have kp₂' : ∀ b o, b ≠ L → s.heap.get? b = some o → h₂.get? b = some o := fun b o hb e => by
    have lt : @LT.lt Nat _ b s.heap.objs.size := Heap.lt_size e
    exact kp₂ b o hb (ne_lo (by show @LT.lt Nat _ b _; omega)) (ne_lo (by show @LT.lt Nat _ b _; omega)) (Heap.get?_push_of_some _ (kp₁ b o hb e))
  refine wpAny_execs_cons (wpAny_Expr_any ?_ (by rfl) (by rfl))
  refine wpAny_Call_append (by rfl) (by rfl) (by rfl) (by rfl) ?_
  refine wpAny_Name (wpAny_loadName_local kS kK hn₂ ((hm₂ _ (by decide) (by decide)).trans ((if_neg (by decide)).trans h2)) ?_)
  refine ⟨K, xs, rfl, ?_, ?_⟩
  · exact ⟨_, _, kp₂' _ _ hKL hk, rfl, rfl, rfl⟩
  refine wpAny_Call_method1_late (by rfl) (by rfl) (by rfl) (wpAny_Constant_str ?_)
  refine ⟨"str", "str.join", F.plainAttrs_str, F.slot_str_join, by rfl, typeIs_str _ _ _, fun a e => (nomatch e), ?_⟩
  refine Calls.callWith_builtin rfl (Calls.evalArgs_plain (Calls.spliced_cons ?_))
  refine wpAny_Name (wpAny_loadName_local kS kB hn₂ ((hm₂ _ (by decide) (by decide)).trans (if_pos rfl)) ?_)
  refine Calls.spliced_nil ?_
  refine join_exact hN hl₂ hH₂ ?_
  refine append_exact (kp₂' _ _ hKL hk) ?_ hxs
  intro h₃ hk₃ hs₃
  refine wpAny_execs_nil ?_
  refine h h₃ m₂ ?_ ?_ hk₃ (hn₂.sameBut hs₃ hKL.symm) ?_
  · rw [hs₃.1]; simp only; rw [sz₂]; simp only; rw [Heap.size_push, sz₁]
  · intro b o hb hbK e
    exact (hs₃.2 b hbK).trans (kp₂' b o hb e)
  · intro x x1 x2 x3
    rw [hm₂ x x1 x2, if_neg x3]
end
end Mine
end
/- part H3 -/
section
open PySem PySem.W PyProof.Rows PySem.Builtin PySem.Builtin.Str
set_option Elab.async false
set_option maxRecDepth 100000
set_option maxHeartbeats 4000000
namespace Mine
section
variable {prog : Program} {w : World} {A : Around} {E : Value → Shared → Prop} {s : Shared} {m mg mb : Str → Option Value} {B L : Addr}

/-- the texts that stand in the table behind j turns -/
def rowsTo (j : Nat) : Array Value := ((List.range j).map fun i => Value.str (bits8 i) (287 + 78 * i)).toArray
theorem rows_push (j : Nat) : (rowsTo j).push (.str (bits8 j) (287 + 78 * j)) = rowsTo (j + 1) := by
  unfold rowsTo
  rw [List.range_succ, List.map_append, List.push_toArray]; rfl
theorem rows_size (j : Nat) : (rowsTo j).size = j := by simp [rowsTo]
def tableObj0 (j : Nat) : Obj := { cls := .type "list", data := .seq (rowsTo j) j }

theorem outer_loop {K Rg I : Addr} {tu tv tw : Tok} {R : Result → Shared → Prop} (hh : A.handled = none) (htk : s.toks = 210)
    (hn : s.heap.Ns L m) (h2 : m "lookup" = some (.ref K)) (h3 : m "bits_per_byte" = some (.ref Rg))
    (hk : s.heap.get? K = some (tableObj0 0)) (hr : IsRange s.heap Rg 7 (-1) (-1) tu tv tw) (hit : IsRangeIter s.heap I 0 256 1)
    (hKL : K ≠ L) (hRL : Rg ≠ L) (hRK : Rg ≠ K) (hRI : Rg ≠ I) (hIL : I ≠ L) (hIK : I ≠ K) {pos : Pos}
    (h : ∀ h' m', h'.objs.size = s.heap.objs.size + 1282 → (∀ b o, b ≠ L → b ≠ K → b ≠ I → s.heap.get? b = some o → h'.get? b = some o) →
      h'.get? K = some (tableObj0 256) → h'.Ns L m' → m' "lookup" = some (.ref K) → R (.ok .next) { s with heap := h', toks := 20178 }) :
    codeAny (model prog w) A (.forLoop (.Name "num" pos) (.ref I) outerBody [] (env1 L)) R s := by
  have kN : (env1 L).kindOf "num" = some .local := rfl
  refine codeAny_forLoop (fun k s' => ∃ j h' m', k = 256 - j ∧ j ≤ 256 ∧ s' = { s with heap := h', toks := 210 + 78 * j } ∧ h'.objs.size = s.heap.objs.size + 5 * j ∧
    (∀ b o, b ≠ L → b ≠ K → b ≠ I → s.heap.get? b = some o → h'.get? b = some o) ∧ h'.get? K = some (tableObj0 j) ∧ h'.Ns L m' ∧ m' "lookup" = some (.ref K) ∧ m' "bits_per_byte" = some (.ref Rg) ∧
    IsRangeIter h' I (j : Nat) (256 - (j : Nat)) 1) ?_ 256
    ⟨0, s.heap, m, rfl, by omega, by rw [← (show s.toks = 210 + 78 * 0 from htk)], rfl, fun _ _ _ _ _ e => e, hk, hn, h2, h3, by simpa using hit⟩
  rintro k s' ⟨j, h', m', rfl, hj, rfl, hsz', hkeep, hk', hn', hm2, hm3, hit'⟩
  by_cases hj8 : j = 256
  · subst hj8
    refine range_end hh hit' (by omega) ?_
    intro h₁ hs₁ hk₁
    refine wpAny_execs_nil ?_
    exact h h₁ m' (by rw [hs₁]; simp only; rw [hsz']) (fun b o b1 b2 b3 e => hk₁ b o (hkeep b o b1 b2 b3 e)) (hk₁ _ _ hk') (hn'.keeps hk₁) hm2
  · have hj7 : j < 256 := by omega
    refine wpAny_pyNext_range_item hit' (by omega) ?_
    intro h₁ hit₁ hs₁
    refine wpAny_assign_Name (wpAny_storeName_local kN (hn'.sameBut hs₁ hIL.symm) ?_ (by rfl))
    intro h₂ hn₂ hs₂
    have kp : ∀ b o, b ≠ L → b ≠ I → h'.get? b = some o → h₂.get? b = some o := fun b o b1 b2 e => (hs₂.2 b b1).trans ((hs₁.2 b b2).trans e)
    have hit₂ : h₂.get? I = _ := (hs₂.2 I hIL).trans hit₁
    refine outer_turn (N := j) hj7 (m := fun x => if x = "num" then some (.int (j : Int) (210 + 78 * j)) else m' x) (K := K) (Rg := Rg) (xs := rowsTo j) (k := j) hh hn₂ (if_pos rfl) ((if_neg (by decide)).trans hm2) ((if_neg (by decide)).trans hm3)
      (kp _ _ hKL hIK.symm hk') (by rw [rows_size]; exact Nat.le_trans (Nat.le_of_lt hj7) (by decide)) (kp _ _ hRL hRI (hkeep _ _ hRL hRK hRI hr)) hKL hRL ?_
    intro h₃ m₃ hs₃ hkp₃ hk₃ hn₃ hm₃
    refine ⟨256 - (j + 1), by omega, j + 1, h₃, m₃, rfl, by omega, ?_, ?_, ?_, ?_, hn₃, ?_, ?_, ?_⟩
    · simp only [Shared.mk.injEq, true_and, and_true]; omega
    · rw [hs₃]; simp only; rw [hs₂.1, hs₁.1]; simp only; omega
    · intro b o b1 b2 b3 e
      exact hkp₃ b o b1 b2 (kp b o b1 b3 (hkeep b o b1 b2 b3 e))
    · rw [hk₃]
      unfold tableObj0
      rw [← rows_push]
      have e : 210 + 78 * j + 1 + 1 + 75 = 287 + 78 * j := by omega
      simp only [e]
    · rw [hm₃ _ (by decide) (by decide) (by decide), if_neg (by decide)]; exact hm2
    · rw [hm₃ _ (by decide) (by decide) (by decide), if_neg (by decide)]; exact hm3
    · have e := hkp₃ I _ hIL hIK hit₂
      rw [show ((j : Nat) : Int) + 1 = ((j + 1 : Nat) : Int) by omega, show (256 - (j : Nat) : Int) - 1 = 256 - ((j + 1 : Nat) : Int) by omega] at e
      exact e

theorem call_btb {R : Result → Shared → Prop} {o : Obj} {fd : FuncData} (hh : A.handled = none) (hroom : A.depth < recursionLimit) (hsz : s.heap.objs.size = 22) (htk : s.toks = 200)
    (ho : s.heap.get? 21 = some o) (hd : o.data = .func fd) (f1 : fd.scope = fScope1) (f2 : fd.globals = 3) (f3 : fd.closure = []) (f4 : fd.qualname = "bytes_to_bits") (f5 : fd.code = .ref 20) (f6 : fd.builtins = 0)
    (f7 : fd.body = .stmts fBody1) (f8 : bindArgs fd ⟨[], []⟩ = pure []) (hlim : s.heap.NoLimit) (hcd : s.heap.CodeRec (.ref 20) "bytes_to_bits")
    (hg : s.heap.Ns 3 mg) (hmiss : mg "range" = none) (hb : s.heap.Ns 0 mb) (hv : mb "range" = some (.type "range"))
    (h : ∀ h', h'.objs.size = 1309 → (∀ b o, s.heap.get? b = some o → h'.get? b = some o) → h'.get? 23 = some (tableObj0 256) → R (.ok (.ret (.ref 23))) { s with heap := h', toks := 20178 }) :
    codeAny (model prog w) A (.call (.ref 21) ⟨[], []⟩) R s := by
  refine codeAny_call_function hroom ho hd (by rw [f1]; rfl) (by rw [f1]; rfl) f7 (by rw [f5, f4]; exact hcd) ?_
  rw [f8, f1, f2, f3, f4, f5, f6]
  refine wpAny_pure (wpAny_newFunctionEnv (by decide) (fun _ hx => (nomatch hx)) ?_ (by rfl))
  intro h₁ hn₁ hs₁
  rw [hsz] at hn₁ hs₁
  have k₁ : ∀ b o, s.heap.get? b = some o → h₁.get? b = some o := fun b o e => (hs₁.2 b (ne_lo (by have := Heap.lt_size e; rw [hsz] at this; exact this))).trans (Heap.get?_push_of_some _ e)
  have sz₁ : h₁.objs.size = 23 := by rw [hs₁.1, Heap.size_push, hsz]
  refine ⟨hlim.keeps k₁, codeAny_func ?_⟩
  rw [hsz, htk]
  show wpAny (model prog w) (A.deeper (env1 22)) (execs fBody1 (env1 22)) _ _ _
  have kS : (env1 22).scope.kind = .function := rfl
  have kK : (env1 22).kindOf "lookup" = some .local := rfl
  have kR : (env1 22).kindOf "bits_per_byte" = some .local := rfl
  have kG : (env1 22).kindOf "range" = some .globalImplicit := rfl
  show wpAny (model prog w) (A.deeper (env1 22)) (execs (_ :: _ :: _ :: _ :: []) (env1 22)) _ _ _
  -- lookup = []
  refine wpAny_execs_cons (wpAny_Assign_Name ?_ (by rfl))
  refine wpAny_List (Calls.spliced_nil ⟨by decide, ?_⟩)
  refine wpAny_storeName_local kK (hn₁.push _) ?_ (by rfl)
  intro h₂ hn₂ hs₂
  simp only [sz₁] at hn₂ hs₂
  have k₂ : ∀ b o, s.heap.get? b = some o → h₂.get? b = some o := fun b o e => (hs₂.2 b (ne_lo (by have := Heap.lt_size e; rw [hsz] at this; exact this))).trans (Heap.get?_push_of_some _ (k₁ b o e))
  have sz₂ : h₂.objs.size = 24 := by rw [hs₂.1, Heap.size_push, sz₁]
  have t₂ : h₂.get? 23 = some (tableObj0 0) := (hs₂.2 23 (by decide)).trans (by rw [← sz₁]; exact Heap.get?_push_size _ rfl)
  -- bits_per_byte = range(7, -1, -1)
  refine wpAny_execs_cons (wpAny_Assign_Name ?_ (by rfl))
  refine wpAny_Call_NameR (Calls.Name_function_global kS kG (Calls.loadGlobal_builtin (env := env1 22) (hg.keeps k₂) hmiss (hb.keeps k₂) hv ?_))
  refine PySem.callWith_type rfl (Calls.evalArgs_plain (Calls.spliced_cons ?_))
  refine wpAny_Constant_int (k := 0) (pos := default) ?_
  refine Calls.spliced_cons (wpAny_UnaryOp ?_)
  refine wpAny_Constant_int (k := 0) (pos := default) (neg_int ?_)
  refine Calls.spliced_cons (wpAny_UnaryOp ?_)
  refine wpAny_Constant_int (k := 0) (pos := default) (neg_int ?_)
  refine Calls.spliced_nil ?_
  refine call_range_3 (by decide) ?_ (Or.inl (PyProof.noPylong_of_log2 (by decide +kernel)))
  refine wpAny_storeName_local kR (hn₂.push _) ?_ (by rfl)
  intro h₃ hn₃ hs₃
  simp only [sz₂] at hn₃ hs₃
  have k₃ : ∀ b o, b ≠ 22 → h₂.get? b = some o → h₃.get? b = some o := fun b o hb e => (hs₃.2 b hb).trans (Heap.get?_push_of_some _ e)
  have k₃' : ∀ b o, s.heap.get? b = some o → h₃.get? b = some o := fun b o e => k₃ b o (ne_lo (by have := Heap.lt_size e; rw [hsz] at this; exact this)) (k₂ b o e)
  have sz₃ : h₃.objs.size = 25 := by rw [hs₃.1, Heap.size_push, sz₂]
  have r₃ : IsRange h₃ 24 7 (-1) (-1) _ _ _ := (hs₃.2 24 (by decide)).trans (by rw [← sz₂]; exact Heap.get?_push_size _ rfl)
  -- for num in range(256)
  refine wpAny_execs_cons (wpAny_For ?_ (by intro _; rfl))
  refine wpAny_Call_NameR (Calls.Name_function_global kS kG (Calls.loadGlobal_builtin (env := env1 22) (hg.keeps k₃') hmiss (hb.keeps k₃') hv ?_))
  refine PySem.callWith_type rfl (Calls.evalArgs_plain (Calls.spliced_cons ?_))
  refine wpAny_Constant_int (k := 0) (pos := default) ?_
  refine Calls.spliced_nil ?_
  refine call_range_1 ?_
  refine wpAny_pyIter_range (IsRange.new ..) (by decide) ?_
  simp only [Heap.size_push, sz₃]
  refine outer_loop (A := A.deeper (env1 22)) (K := 23) (Rg := 24) (I := 26) (L := 22) hh rfl ((hn₃.push _).push _) ((if_neg (by decide)).trans (if_pos rfl)) (if_pos rfl) (Heap.get?_push_of_some _ (Heap.get?_push_of_some _ (k₃ _ _ (by decide) t₂)))
    (Heap.get?_push_of_some _ (Heap.get?_push_of_some _ r₃)) ?_ (by decide) (by decide) (by decide) (by decide) (by decide) (by decide) ?_
  · have e : ∀ X : Obj, (h₃.push X).objs.size = 26 := fun X => by rw [Heap.size_push, sz₃]
    have z : ∀ X Y : Obj, Y.isFreed = false → ((h₃.push X).push Y).get? 26 = some Y := fun X Y hY => by rw [← e X]; exact Heap.get?_push_size _ hY
    exact z _ _ rfl
  intro h₄ m₄ sz₄ k₄ t₄ hn₄ hm₄
  refine wpAny_execs_cons (wpAny_Return_some (wpAny_Name (wpAny_loadName_local kS kK hn₄ hm₄ ?_)))
  refine h h₄ (by rw [sz₄]; simp only [Heap.size_push, sz₃]) (fun b o e => ?_) t₄
  have lt : @LT.lt Nat _ b 22 := by have := Heap.lt_size e; rw [hsz] at this; exact this
  exact k₄ b o (ne_lo lt) (ne_lo (by omega)) (ne_lo (by omega)) (Heap.get?_push_of_some _ (Heap.get?_push_of_some _ (k₃' b o e)))
end
end Mine
end
/- part H4 -/
section
open PySem PySem.W PyProof.Rows
set_option Elab.async false
set_option maxRecDepth 100000
set_option maxHeartbeats 4000000
namespace Mine
section
variable {den : Code → Sem Fin} {p : Program} {w : World}

/-- n steps lead from one state to another, every thread on the way is calm -/
def CalmRun (den : Code → Sem Fin) (p : Program) (w : World) (n : Nat) (s : Shared) (t : Thread) (s' : Shared) (t' : Thread) : Prop :=
  runN den p w n s t = .running s' t' ∧ ∀ k, k < n → ∀ s₁ t₁, runN den p w k s t = .running s₁ t₁ → t₁.calm = true
theorem CalmRun.refl (s : Shared) (t : Thread) : CalmRun den p w 0 s t s t := ⟨rfl, fun _ hk => absurd hk (Nat.not_lt_zero _)⟩
theorem CalmRun.cons {n : Nat} {s s₁ s' : Shared} {t t₁ t' : Thread} (hc : t.calm = true) (hs : step den p w s t = .go s₁ t₁) (h : CalmRun den p w n s₁ t₁ s' t') : CalmRun den p w (n + 1) s t s' t' := by
  refine ⟨by simp only [runN, hs]; exact h.1, fun k hk s₂ t₂ e => ?_⟩
  cases k with
  | zero => injection e with _ e; exact e ▸ hc
  | succ k => simp only [runN, hs] at e; exact h.2 k (Nat.lt_of_succ_lt_succ hk) _ _ e
theorem CalmRun.trans : ∀ {n m : Nat} {s s₁ s' : Shared} {t t₁ t' : Thread}, CalmRun den p w n s t s₁ t₁ → CalmRun den p w m s₁ t₁ s' t' → CalmRun den p w (n + m) s t s' t'
  | 0, m, s, s₁, s', t, t₁, t', h, k => by
    obtain ⟨h, _⟩ := h
    injection h with a b
    subst a b
    rw [Nat.zero_add]; exact k
  | n + 1, m, s, s₁, s', t, t₁, t', h, k => by
    have hc := h.2 0 (Nat.succ_pos _) s t rfl
    obtain ⟨h, hall⟩ := h
    simp only [runN] at h
    cases hs : step den p w s t with
    | halt o s₂ => simp only [hs] at h; cases h
    | go s₂ t₂ =>
      simp only [hs] at h
      rw [show n + 1 + m = n + m + 1 by omega]
      exact .cons hc hs (.trans ⟨h, fun j hj s₃ t₃ e => hall (j + 1) (Nat.succ_lt_succ hj) s₃ t₃ (by simp only [runN, hs]; exact e)⟩ k)
theorem stepOk_calm {n₀ : Nat} {ann : Option Value} {t : Thread} (h : stepOk n₀ ann t = true) : t.calm = true := (Bool.and_eq_true_iff.mp h).1
theorem calm_topGo {tb : String → Option Builtin} {n₀ : Nat} {ann : Option Value} : ∀ {n : Nat} {s s' : Shared} {t t' : Thread}, topGo tb p w n₀ ann n s t = some (s', t') → CalmRun (denote tb) p w n s t s' t'
  | 0, s, s', t, t', h => by
    obtain ⟨rfl, rfl⟩ : s = s' ∧ t = t' := by simpa [topGo] using h
    exact .refl _ _
  | n + 1, s, s', t, t', h => by
    unfold topGo at h
    cases ht : through t with
    | true => rw [ht] at h; cases h
    | false =>
      rw [ht] at h
      cases hk : stepOk n₀ ann t with
      | false => rw [hk] at h; cases h
      | true =>
        rw [hk] at h
        cases hs : step (denote tb) p w s t with
        | halt o s₂ => rw [hs] at h; cases h
        | go s₂ t₂ => rw [hs] at h; exact .cons (stepOk_calm hk) hs (calm_topGo h)
theorem calm_segGo {tb : String → Option Builtin} {n₀ b : Nat} {ann : Option Value} : ∀ {n : Nat} {s s' : Shared} {t t' : Thread}, segGo tb p w n₀ ann b n s t = some (s', t') → CalmRun (denote tb) p w n s t s' t'
  | 0, s, s', t, t', h => by
    obtain ⟨rfl, rfl⟩ : s = s' ∧ t = t' := by simpa [segGo] using h
    exact .refl _ _
  | n + 1, s, s', t, t', h => by
    unfold segGo at h
    cases ht : endAt b t with
    | some f => rw [ht] at h; cases h
    | none =>
      rw [ht] at h
      cases hk : stepOk n₀ ann t with
      | false => rw [hk] at h; cases h
      | true =>
        rw [hk] at h
        cases hs : step (denote tb) p w s t with
        | halt o s₂ => rw [hs] at h; cases h
        | go s₂ t₂ => rw [hs] at h; exact .cons (stepOk_calm hk) hs (calm_segGo h)
theorem calm_runNI : ∀ {n : Nat} {s s' : Shared} {t t' : Thread}, runNI den p w n s t = .running s' t' →
    runNK den p w n s t = .running s' t' ∧ ∀ k, k < n → ∀ s₁ t₁, runNK den p w k s t = .running s₁ t₁ → t₁.calm = true
  | 0, s, s', t, t', h => ⟨h, fun _ hk => absurd hk (Nat.not_lt_zero _)⟩
  | n + 1, s, s', t, t', h => by
    simp only [runNI] at h
    cases hl : t.loud with
    | true => simp only [stepI_loud den p w hl] at h; cases h
    | false =>
      simp only [stepI_quiet den p w hl] at h
      have hcalm : t.calm = true := by
        rw [Thread.calm_eq, hl]
        cases hr : t.refused with
        | false => rfl
        | true =>
          obtain ⟨what, e⟩ := stepK_refused den p w (s := s) hr
          simp only [e] at h; cases h
      cases hs : stepK den p w s t with
      | halt o s₂ => simp only [hs] at h; cases h
      | go s₂ t₂ =>
        simp only [hs] at h
        obtain ⟨a, b⟩ := calm_runNI h
        refine ⟨by simp only [runNK, hs]; exact a, fun k hk s₃ t₃ e => ?_⟩
        cases k with
        | zero => injection e with _ e; exact e ▸ hcalm
        | succ k => simp only [runNK, hs] at e; exact b k (Nat.lt_of_succ_lt_succ hk) _ _ e
theorem calm_ofNI {n : Nat} {s s' : Shared} {t t' : Thread} (h : runNI den p w n s t = .running s' t') : ∃ σ θ, CalmRun den p w n s t σ θ ∧ σ.forget = s'.forget ∧ θ.forget = t'.forget := by
  obtain ⟨a, b⟩ := calm_runNI h
  have e := runNK_same den p w n (s₁ := s) (s₂ := s) (t₁ := t) (t₂ := t) rfl rfl
  rw [a] at e
  cases hr : runN den p w n s t with
  | halted o₂ s₂ => rw [hr] at e; cases e
  | running σ θ =>
    rw [hr] at e
    simp only [Run.forget] at e
    injection e with e1 e2
    refine ⟨σ, θ, ⟨hr, fun k hk s₁ t₁ e' => ?_⟩, e1.symm, e2.symm⟩
    have ek := runNK_same den p w k (s₁ := s) (s₂ := s) (t₁ := t) (t₂ := t) rfl rfl
    rw [e'] at ek
    cases hq : runNK den p w k s t with
    | halted o₂ s₂ => rw [hq] at ek; cases ek
    | running s₂ t₂ =>
      rw [hq] at ek
      simp only [Run.forget] at ek
      injection ek with _ e4
      rw [← Thread.calm_forget t₁, ← e4, Thread.calm_forget]; exact b k hk _ _ hq
theorem running_go : ∀ {n k : Nat} {s s' s₁ : Shared} {t t' t₁ : Thread}, runN den p w n s t = .running s' t' → k < n → runN den p w k s t = .running s₁ t₁ → ∃ s₂ t₂, step den p w s₁ t₁ = .go s₂ t₂
  | 0, k, _, _, _, _, _, _, _, hk, _ => absurd hk (Nat.not_lt_zero _)
  | n + 1, k, s, s', s₁, t, t', t₁, h, hk, e => by
    simp only [runN] at h
    cases hs : step den p w s t with
    | halt o s₂ => simp only [hs] at h; cases h
    | go s₂ t₂ =>
      simp only [hs] at h
      cases k with
      | zero => injection e with a b; subst a b; exact ⟨_, _, hs⟩
      | succ k => simp only [runN, hs] at e; exact running_go h (Nat.lt_of_succ_lt_succ hk) e
theorem CalmRun.sched {n : Nat} {s s' : Shared} {t t' : Thread} (h : CalmRun den p w n s t s' t') (hz : s.asleep) : schedN den p w n (.single s t) = .running (.single s' t') := by
  rw [schedN_prefix den p w n s t hz (fun k s₁ t₁ hk e => ⟨h.2 k hk _ _ e, fun hx => by
    obtain ⟨s₂, t₂, e2⟩ := running_go h.1 hk e
    rw [e2] at hx; cases hx⟩), h.1]
  rfl
end
end Mine
end
/- part H5 -/
section
open PySem PySem.W PyProof.Rows
set_option Elab.async false
set_option maxRecDepth 100000
set_option maxHeartbeats 40000
namespace Mine
abbrev callerCode : Code := .builtin "claim.caller" {}
/-- what is around a call that the module's top makes -/
def topA : Around := { handled := none, depth := 400, frames := none, guards := none, units := 200 }

theorem weight_caller : callerCode.weight = 301 := by decide +kernel
theorem units_caller' : callerCode.cUnits = 4 := by decide +kernel
theorem weight_body (b : List Stmt) (env : Env) : (Code.body b env).weight = 1 := by rfl
theorem units_body (b : List Stmt) (env : Env) : (Code.body b env).cUnits = 3 := by rfl
theorem mid_run {p : Program} {w : World} {b : List Stmt} {env : Env} {q pos : Pos} {kept : List Value} {c : Code} {k : Result → Sem Fin} {g : Bool} {l : List Value} {s : Shared} {R : Result → Shared → Prop}
    (h : codeAny (model p w) topA c R s) :
    ∃ r s', R r s' ∧ (s'.NoSusp → ∃ n kept', CalmRun (denote table) p w n s ⟨.call c none g l k, .body b env, pos, [.ret topAfter none false [] callerCode q kept]⟩ s' ⟨k r, .body b env, pos, [.ret topAfter none false [] callerCode q kept']⟩) := by
  have hb : ((Ctx.of (.body b env) [.ret topAfter none false [] callerCode q kept]).enter c none pos).Below topA :=
    ⟨rfl, by
      show frameCount [(Code.body b env, pos), (callerCode, q)] ≤ 400
      rw [frameCount_cons, frameCount_cons, weight_body, weight_caller]
      exact Nat.le_of_ble_eq_true rfl, fun _ e => (by cases e), fun _ e => (by cases e), by
      show unitsOf [(Code.body b env, pos), (callerCode, q)] ≤ 200
      rw [unitsOf_cons, unitsOf_cons, units_body, units_caller']
      exact Nat.le_of_ble_eq_true rfl⟩
  obtain ⟨r, s', hr, hR⟩ := h _ pos rfl hb
  refine ⟨r, s', hR, fun hg => ?_⟩
  have hr' : Runs (model p w) ((Ctx.of (.body b env) [.ret topAfter none false [] callerCode q kept]).enter c none pos) pos ((model p w).den c) [] s (.ret r) s' := hr
  have fits := (Ctx.fits_of (.body b env) [.ret topAfter none false [] callerCode q kept]).enter c k none g l pos []
  obtain ⟨t', c', p', pre', hc, hx⟩ := (runs_reach hr' _ fits).comes
  obtain ⟨rfl, rfl⟩ := hx
  have hall : Comes (model p w) s ⟨.call c none g l k, .body b env, pos, [.ret topAfter none false [] callerCode q kept]⟩ s' ⟨k r, .body b env, pos, [.ret topAfter none false [] callerCode q kept]⟩ :=
    .step (step_call ..) (.trans hc (.step (step_leaf_ret ..) (.refl _ _)))
  obtain ⟨n, hn⟩ := hall
  obtain ⟨σ, θ, hcr, e1, e2⟩ := calm_ofNI hn
  obtain rfl := Shared.eq_of_forget_eq' e1 hg
  obtain ⟨cur, code, ps, st⟩ := θ
  have e3 : cur = k r ∧ code = .body b env ∧ ps = pos ∧ forgetAll st = forgetAll [.ret topAfter none false [] callerCode q kept] := by
    injection e2 with a1 a2 a3 a4
    exact ⟨a1, a2, a3, a4⟩
  obtain ⟨rfl, rfl, rfl, e4⟩ := e3
  cases st with
  | nil => injection e4
  | cons f rest =>
    injection e4 with e5 e6
    cases rest with
    | cons _ _ => injection e6
    | nil =>
      cases f with
      | gen _ _ _ _ _ => injection e5
      | ret k₁ h₁ g₁ l₁ c₁ p₁ kp₁ =>
        injection e5 with b1 b2 b3 b4 b5 b6
        subst b1 b2 b3 b4 b5 b6
        exact ⟨n, kp₁, hcr⟩
end Mine
end
/- part H6 -/
section
open PySem PySem.W PyProof.Rows
set_option Elab.async false
set_option maxRecDepth 100000
set_option maxHeartbeats 400000
namespace Mine
noncomputable section
abbrev thePw : Program := PySem.Challenge.pw_ja0026_01
abbrev ann0 : Option Value := some (.ref 6)
def s0 (w : World) (os : OsState) : Shared := ⟨boot_heap w.params, Array.mk [], boot_drawn, boot_toks, os⟩
def pre (w : World) (os : OsState) : Option (Shared × Thread) := topGo treeTable thePw w 11 ann0 59 (s0 w os) (topStub thePw)
def S22 (w : World) (os : OsState) : Shared := ((pre w os).getD (s0 w os, topStub thePw)).1
def T22 (w : World) (os : OsState) : Thread := ((pre w os).getD (s0 w os, topStub thePw)).2
def contOf (t : Thread) : Result → Sem Fin := match t.cur with
  | .call _ _ _ _ k => k
  | _ => fun _ => .unsupported ""
def keptOf (t : Thread) : List Value := match t.stack with
  | .ret _ _ _ _ _ _ kp :: _ => kp
  | _ => []
def liveOf (t : Thread) : List Value := match t.cur with
  | .call _ _ _ l _ => l
  | _ => []
def topEnv : Env := { scope := thePw.main.scope, locals := mainNs, globals := mainNs, cells := [], code := .ref 13, frame := some 14 }
def topBody : List Stmt := behindTheImports thePw
def pos22 : Pos := ⟨12, 16, 12, 31⟩
def t22 (w : World) (os : OsState) : Thread := ⟨.call (.call (.ref 21) ⟨[], []⟩) none false (liveOf (T22 w os)) (contOf (T22 w os)), .body topBody topEnv, pos22, [.ret topAfter none false [] callerCode ⟨0, 0, 0, 0⟩ (keptOf (T22 w os))]⟩
set_option maxHeartbeats 0 in
theorem pre_ok (w : World) (os : OsState) : pre w os = some (S22 w os, t22 w os) := by kernel_rfl
end
end Mine
end
/- part H7 -/
section
open PySem PySem.W PyProof.Rows
set_option Elab.async false
set_option maxRecDepth 100000
set_option maxHeartbeats 400000
namespace Mine
noncomputable section
def mkBT (f : Nat → Obj) (n : Nat) : Nat → Nat → Nat → BT
  | 0, _, _ => .nil
  | fuel + 1, a, b => match Nat.blt b n with
    | true => .node (f b) (mkBT f n fuel (2 * a) (a + b)) (mkBT f n fuel (2 * a) (2 * a + b))
    | false => .nil
theorem mkBT_get (f : Nat → Obj) (n : Nat) : ∀ (fuel a b i : Nat), a * i + b < n → i + 1 < 2 ^ fuel → (mkBT f n fuel a b).get i = some (f (a * i + b))
  | 0, a, b, i, h, hf => by simp at hf
  | fuel + 1, a, b, i, h, hf => by
    have hb : b < n := Nat.lt_of_le_of_lt (Nat.le_add_left _ _) h
    have e : mkBT f n (fuel + 1) a b = .node (f b) (mkBT f n fuel (2 * a) (a + b)) (mkBT f n fuel (2 * a) (2 * a + b)) := by
      show (match Nat.blt b n with
        | true => BT.node (f b) (mkBT f n fuel (2 * a) (a + b)) (mkBT f n fuel (2 * a) (2 * a + b))
        | false => .nil) = _
      rw [show Nat.blt b n = true from Nat.ble_eq_true_of_le hb]
    rw [e, BT.get_node]
    by_cases h0 : i = 0
    · subst h0; simp
    · rw [if_neg h0]
      rw [Nat.pow_succ] at hf
      by_cases h1 : i % 2 = 1
      · rw [if_pos h1]
        have e2 : a * i + b = 2 * a * (i / 2) + (a + b) := by
          have e3 : i = 2 * (i / 2) + 1 := by omega
          conv => lhs; rw [e3]
          rw [Nat.mul_add, ← Nat.mul_assoc, Nat.mul_comm a 2]; omega
        rw [mkBT_get f n fuel (2 * a) (a + b) (i / 2) (by rw [← e2]; exact h) (by omega), e2]
      · rw [if_neg h1]
        have e2 : a * i + b = 2 * a * (i / 2 - 1) + (2 * a + b) := by
          have e3 : i = 2 * (i / 2 - 1) + 2 := by omega
          conv => lhs; rw [e3]
          rw [Nat.mul_add, ← Nat.mul_assoc, Nat.mul_comm a 2]; omega
        rw [mkBT_get f n fuel (2 * a) (2 * a + b) (i / 2 - 1) (by rw [← e2]; exact h) (by omega), e2]

def oldObj (w : World) (os : OsState) (i : Nat) : Obj := ((S22 w os).heap.objs[i]?).getD default
def leaf23 (w : World) (os : OsState) (g : Nat → Obj) (i : Nat) : Obj := match Nat.blt i 22 with
  | true => oldObj w os i
  | false => match Nat.beq i 23 with
    | true => tableObj0 256
    | false => g i
def ST23 (w : World) (os : OsState) (g : Nat → Obj) : SharedT := ⟨mkBT (leaf23 w os g) 1309 12 1 0, 1309, {}, Array.mk [], boot_drawn, 20178, os⟩
def th23 (w : World) (os : OsState) (kept : List Value) : Thread := ⟨contOf (T22 w os) (.ok (.ret (.ref 23))), .body topBody topEnv, pos22, [.ret topAfter none false [] callerCode ⟨0, 0, 0, 0⟩ kept]⟩
def post (w : World) (os : OsState) (g : Nat → Obj) (kept : List Value) : Option (SharedT × Thread) := segGoT treeTable thePw w 11 ann0 1 370 (ST23 w os g) (th23 w os kept)
def SF (w : World) (os : OsState) (g : Nat → Obj) (kept : List Value) : SharedT := ((post w os g kept).getD (ST23 w os g, th23 w os kept)).1
set_option maxHeartbeats 0 in
theorem post_ok (w : World) (os : OsState) (g : Nat → Obj) (kept : List Value) :
    post w os g kept = some (SF w os g kept, ⟨.pure (.done .next), .body topBody topEnv, ⟨105, 0, 170, 23⟩, [.ret topAfter none false [] callerCode ⟨0, 0, 0, 0⟩ kept]⟩) := by kernel_rfl
end
end Mine
end
/- part H8 -/
section
open PySem PySem.W PyProof.Rows
set_option Elab.async false
set_option maxRecDepth 100000
set_option maxHeartbeats 400000
namespace Mine
noncomputable section
def qView : Program := view thePw [1, 2, 3, 4, 5, 9, 10, 11, 13, 14]
def qLoose : List Str := ["BYTES_TO_BITS", "valid_bits", "bits_to_int", "int_to_bits"]
def qXt (s : Shared) : Bool := xlAt qView [] s && recOk [] s
def F1 (w : World) (os : OsState) (g : Nat → Obj) (kept : List Value) : Shared := (SF w os g kept).abs
set_option maxHeartbeats 0 in
theorem look1 (w : World) (os : OsState) (g : Nat → Obj) (kept : List Value) :
    (staticsOk (importedModules thePw.main.body) (s0 w os).heap (F1 w os g kept).heap && namesBound thePw (F1 w os g kept).heap && gensDone (F1 w os g kept) && laidKept (s0 w os).heap (F1 w os g kept).heap) = true := by kernel_rfl
set_option maxHeartbeats 0 in
theorem look2 (w : World) (os : OsState) (g : Nat → Obj) (kept : List Value) :
    openSeen qView qLoose (importedModules thePw.main.body) qXt true (F1 w os g kept) = openGood qView qLoose := by kernel_rfl
end
end Mine
end
/- part H9 -/
section
open PySem PySem.W PyProof.Rows
set_option Elab.async false
set_option maxRecDepth 100000
set_option maxHeartbeats 400000
namespace Mine
noncomputable section
def fnObj (n : Str) (a : Arguments) (b : List Stmt) (s : Scope) (d pm cd : Value) : Obj :=
  { cls := .type "function", data := .func { name := n, qualname := n, params := a, body := .stmts b, scope := s, globals := 3, closure := [], defaults := d, kwdefaults := .none, pyModule := pm, code := cd } }
def kf21 : Obj := by
  exact (fun (n : Str) (a : Arguments) (b : List Stmt) (s : Scope) (_ : DefAt 1 n a b s) => fnObj n a b s (Value.none) (Value.str (Str.ofString "netaddr.strategy") 187) (Value.ref 20)) _ _ _ _ ⟨⟨_, _, _, _, _, _, rfl⟩⟩
def kf1315 : Obj := by
  exact (fun (n : Str) (a : Arguments) (b : List Stmt) (s : Scope) (_ : DefAt 3 n a b s) => fnObj n a b s (Value.none) (Value.str (Str.ofString "netaddr.strategy") 187) (Value.ref 1314)) _ _ _ _ ⟨⟨_, _, _, _, _, _, rfl⟩⟩
def kf1322 : Obj := by
  exact (fun (n : Str) (a : Arguments) (b : List Stmt) (s : Scope) (_ : DefAt 4 n a b s) => fnObj n a b s (Value.none) (Value.str (Str.ofString "netaddr.strategy") 187) (Value.ref 1321)) _ _ _ _ ⟨⟨_, _, _, _, _, _, rfl⟩⟩
def kf1329 : Obj := by
  exact (fun (n : Str) (a : Arguments) (b : List Stmt) (s : Scope) (_ : DefAt 5 n a b s) => fnObj n a b s (Value.none) (Value.str (Str.ofString "netaddr.strategy") 187) (Value.ref 1328)) _ _ _ _ ⟨⟨_, _, _, _, _, _, rfl⟩⟩
def kf1337 : Obj := by
  exact (fun (n : Str) (a : Arguments) (b : List Stmt) (s : Scope) (_ : DefAt 6 n a b s) => fnObj n a b s (Value.ref 1330) (Value.str (Str.ofString "netaddr.strategy") 187) (Value.ref 1336)) _ _ _ _ ⟨⟨_, _, _, _, _, _, rfl⟩⟩
def kf1345 : Obj := by
  exact (fun (n : Str) (a : Arguments) (b : List Stmt) (s : Scope) (_ : DefAt 7 n a b s) => fnObj n a b s (Value.ref 1338) (Value.str (Str.ofString "netaddr.strategy") 187) (Value.ref 1344)) _ _ _ _ ⟨⟨_, _, _, _, _, _, rfl⟩⟩
def kf1353 : Obj := by
  exact (fun (n : Str) (a : Arguments) (b : List Stmt) (s : Scope) (_ : DefAt 8 n a b s) => fnObj n a b s (Value.ref 1346) (Value.str (Str.ofString "netaddr.strategy") 187) (Value.ref 1352)) _ _ _ _ ⟨⟨_, _, _, _, _, _, rfl⟩⟩
def kf1360 : Obj := by
  exact (fun (n : Str) (a : Arguments) (b : List Stmt) (s : Scope) (_ : DefAt 9 n a b s) => fnObj n a b s (Value.none) (Value.str (Str.ofString "netaddr.strategy") 187) (Value.ref 1359)) _ _ _ _ ⟨⟨_, _, _, _, _, _, rfl⟩⟩
def kf1367 : Obj := by
  exact (fun (n : Str) (a : Arguments) (b : List Stmt) (s : Scope) (_ : DefAt 10 n a b s) => fnObj n a b s (Value.none) (Value.str (Str.ofString "netaddr.strategy") 187) (Value.ref 1366)) _ _ _ _ ⟨⟨_, _, _, _, _, _, rfl⟩⟩
def kf1374 : Obj := by
  exact (fun (n : Str) (a : Arguments) (b : List Stmt) (s : Scope) (_ : DefAt 11 n a b s) => fnObj n a b s (Value.none) (Value.str (Str.ofString "netaddr.strategy") 187) (Value.ref 1373)) _ _ _ _ ⟨⟨_, _, _, _, _, _, rfl⟩⟩
def kf1379 : Obj := by
  exact (fun (n : Str) (a : Arguments) (b : List Stmt) (s : Scope) (_ : DefAt 13 n a b s) => fnObj n a b s (Value.none) (Value.str (Str.ofString "law_ja0026_01") 20279) (Value.ref 1378)) _ _ _ _ ⟨⟨_, _, _, _, _, _, rfl⟩⟩
def kf1384 : Obj := by
  exact (fun (n : Str) (a : Arguments) (b : List Stmt) (s : Scope) (_ : DefAt 14 n a b s) => fnObj n a b s (Value.none) (Value.str (Str.ofString "law_ja0026_01") 20279) (Value.ref 1383)) _ _ _ _ ⟨⟨_, _, _, _, _, _, rfl⟩⟩
def theK : Params → Frag := fun P => [
  (nat_lit 2, ({ cls := Value.none, data := Data.dict #[] } : Obj)),
  (nat_lit 3, ({ cls := Value.type "dict", data := Data.dict #[{ hash := PyData.keyHash P (Str.ofString "__name__"), key := Value.str (Str.ofString "__name__") 165, val := Value.str (Str.ofString "law_ja0026_01") 20279 }, { hash := PyData.keyHash P (Str.ofString "__doc__"), key := Value.str (Str.ofString "__doc__") 166, val := Value.none }, { hash := PyData.keyHash P (Str.ofString "__package__"), key := Value.str (Str.ofString "__package__") 167, val := Value.none }, { hash := PyData.keyHash P (Str.ofString "__loader__"), key := Value.str (Str.ofString "__loader__") 168, val := Value.builtin "__main__.__loader__#opaque" }, { hash := PyData.keyHash P (Str.ofString "__spec__"), key := Value.str (Str.ofString "__spec__") 169, val := Value.none }, { hash := PyData.keyHash P (Str.ofString "__annotations__"), key := Value.str (Str.ofString "__annotations__") 170, val := Value.ref 6 }, { hash := PyData.keyHash P (Str.ofString "__builtins__"), key := Value.str (Str.ofString "__builtins__") 171, val := Value.ref 4 }, { hash := PyData.keyHash P (Str.ofString "__file__"), key := Value.str (Str.ofString "__file__") 173, val := Value.str (Str.ofString "/claim/cut.py") 172 }, { hash := PyData.keyHash P (Str.ofString "__cached__"), key := Value.str (Str.ofString "__cached__") 174, val := Value.none }, { hash := PyData.keyHash P (Str.ofString "bytes_to_bits"), key := Value.str (Str.ofString "bytes_to_bits") 199, val := Value.ref 21 }, { hash := PyData.keyHash P (Str.ofString "BYTES_TO_BITS"), key := Value.str (Str.ofString "BYTES_TO_BITS") 20178, val := Value.ref 23 }, { hash := PyData.keyHash P (Str.ofString "valid_words"), key := Value.str (Str.ofString "valid_words") 20189, val := Value.ref 1315 }, { hash := PyData.keyHash P (Str.ofString "int_to_words"), key := Value.str (Str.ofString "int_to_words") 20203, val := Value.ref 1322 }, { hash := PyData.keyHash P (Str.ofString "words_to_int"), key := Value.str (Str.ofString "words_to_int") 20216, val := Value.ref 1329 }, { hash := PyData.keyHash P (Str.ofString "valid_bits"), key := Value.str (Str.ofString "valid_bits") 20227, val := Value.ref 1337 }, { hash := PyData.keyHash P (Str.ofString "bits_to_int"), key := Value.str (Str.ofString "bits_to_int") 20237, val := Value.ref 1345 }, { hash := PyData.keyHash P (Str.ofString "int_to_bits"), key := Value.str (Str.ofString "int_to_bits") 20252, val := Value.ref 1353 }, { hash := PyData.keyHash P (Str.ofString "valid_bin"), key := Value.str (Str.ofString "valid_bin") 20261, val := Value.ref 1360 }, { hash := PyData.keyHash P (Str.ofString "int_to_bin"), key := Value.str (Str.ofString "int_to_bin") 20270, val := Value.ref 1367 }, { hash := PyData.keyHash P (Str.ofString "bin_to_int"), key := Value.str (Str.ofString "bin_to_int") 20278, val := Value.ref 1374 }, { hash := PyData.keyHash P (Str.ofString "_law_spelled"), key := Value.str (Str.ofString "_law_spelled") 20286, val := Value.ref 1379 }, { hash := PyData.keyHash P (Str.ofString "law"), key := Value.str (Str.ofString "law") 20292, val := Value.ref 1384 }] 22 } : Obj)),
  (nat_lit 20, ({ cls := Value.type "code", data := Data.fields #[Value.str (Str.ofString "bytes_to_bits") 189, Value.str (Str.ofString "bytes_to_bits") 190, Value.str (Str.ofString "/claim/cut.py") 191, Value.int 2 0, Value.int 0 0, Value.int 0 0, Value.int 0 0, Value.int 3 0, Value.ref 15, Value.bool true, Value.int 181 0, Value.ref 16, Value.none, Value.ref 17, Value.ref 18, Value.ref 19, Value.int 197 0, Value.int 2 0, Value.str (Str.ofString "/claim/cut.py") 198] } : Obj)),
  (nat_lit 21, kf21),
  (nat_lit 23, tableObj0 256),
  (nat_lit 1314, ({ cls := Value.type "code", data := Data.fields #[Value.str (Str.ofString "valid_words") 20179, Value.str (Str.ofString "valid_words") 20180, Value.str (Str.ofString "/claim/cut.py") 20181, Value.int 13 0, Value.int 3 0, Value.int 0 0, Value.int 0 0, Value.int 3 0, Value.ref 1309, Value.bool true, Value.int 181 0, Value.ref 1310, Value.none, Value.ref 1311, Value.ref 1312, Value.ref 1313, Value.int 20187 0, Value.int 13 0, Value.str (Str.ofString "/claim/cut.py") 20188] } : Obj)),
  (nat_lit 1315, kf1315),
  (nat_lit 1321, ({ cls := Value.type "code", data := Data.fields #[Value.str (Str.ofString "int_to_words") 20190, Value.str (Str.ofString "int_to_words") 20191, Value.str (Str.ofString "/claim/cut.py") 20192, Value.int 23 0, Value.int 3 0, Value.int 0 0, Value.int 0 0, Value.int 3 0, Value.ref 1316, Value.bool true, Value.int 181 0, Value.ref 1317, Value.none, Value.ref 1318, Value.ref 1319, Value.ref 1320, Value.int 20201 0, Value.int 23 0, Value.str (Str.ofString "/claim/cut.py") 20202] } : Obj)),
  (nat_lit 1322, kf1322),
  (nat_lit 1328, ({ cls := Value.type "code", data := Data.fields #[Value.str (Str.ofString "words_to_int") 20204, Value.str (Str.ofString "words_to_int") 20205, Value.str (Str.ofString "/claim/cut.py") 20206, Value.int 34 0, Value.int 3 0, Value.int 0 0, Value.int 0 0, Value.int 3 0, Value.ref 1323, Value.bool true, Value.int 181 0, Value.ref 1324, Value.none, Value.ref 1325, Value.ref 1326, Value.ref 1327, Value.int 20214 0, Value.int 34 0, Value.str (Str.ofString "/claim/cut.py") 20215] } : Obj)),
  (nat_lit 1329, kf1329),
  (nat_lit 1330, ({ cls := Value.type "tuple", data := Data.seq #[Value.str (Str.ofString "") 20217] } : Obj)),
  (nat_lit 1336, ({ cls := Value.type "code", data := Data.fields #[Value.str (Str.ofString "valid_bits") 20218, Value.str (Str.ofString "valid_bits") 20219, Value.str (Str.ofString "/claim/cut.py") 20220, Value.int 43 0, Value.int 3 0, Value.int 0 0, Value.int 0 0, Value.int 3 0, Value.ref 1331, Value.bool true, Value.int 181 0, Value.ref 1332, Value.none, Value.ref 1333, Value.ref 1334, Value.ref 1335, Value.int 20225 0, Value.int 43 0, Value.str (Str.ofString "/claim/cut.py") 20226] } : Obj)),
  (nat_lit 1337, kf1337),
  (nat_lit 1338, ({ cls := Value.type "tuple", data := Data.seq #[Value.str (Str.ofString "") 20228] } : Obj)),
  (nat_lit 1344, ({ cls := Value.type "code", data := Data.fields #[Value.str (Str.ofString "bits_to_int") 20229, Value.str (Str.ofString "bits_to_int") 20230, Value.str (Str.ofString "/claim/cut.py") 20231, Value.int 57 0, Value.int 3 0, Value.int 0 0, Value.int 0 0, Value.int 3 0, Value.ref 1339, Value.bool true, Value.int 181 0, Value.ref 1340, Value.none, Value.ref 1341, Value.ref 1342, Value.ref 1343, Value.int 20235 0, Value.int 57 0, Value.str (Str.ofString "/claim/cut.py") 20236] } : Obj)),
  (nat_lit 1345, kf1345),
  (nat_lit 1346, ({ cls := Value.type "tuple", data := Data.seq #[Value.str (Str.ofString "") 20238] } : Obj)),
  (nat_lit 1352, ({ cls := Value.type "code", data := Data.fields #[Value.str (Str.ofString "int_to_bits") 20239, Value.str (Str.ofString "int_to_bits") 20240, Value.str (Str.ofString "/claim/cut.py") 20241, Value.int 63 0, Value.int 4 0, Value.int 0 0, Value.int 0 0, Value.int 3 0, Value.ref 1347, Value.bool true, Value.int 181 0, Value.ref 1348, Value.none, Value.ref 1349, Value.ref 1350, Value.ref 1351, Value.int 20250 0, Value.int 63 0, Value.str (Str.ofString "/claim/cut.py") 20251] } : Obj)),
  (nat_lit 1353, kf1353),
  (nat_lit 1359, ({ cls := Value.type "code", data := Data.fields #[Value.str (Str.ofString "valid_bin") 20253, Value.str (Str.ofString "valid_bin") 20254, Value.str (Str.ofString "/claim/cut.py") 20255, Value.int 78 0, Value.int 2 0, Value.int 0 0, Value.int 0 0, Value.int 3 0, Value.ref 1354, Value.bool true, Value.int 181 0, Value.ref 1355, Value.none, Value.ref 1356, Value.ref 1357, Value.ref 1358, Value.int 20259 0, Value.int 78 0, Value.str (Str.ofString "/claim/cut.py") 20260] } : Obj)),
  (nat_lit 1360, kf1360),
  (nat_lit 1366, ({ cls := Value.type "code", data := Data.fields #[Value.str (Str.ofString "int_to_bin") 20262, Value.str (Str.ofString "int_to_bin") 20263, Value.str (Str.ofString "/claim/cut.py") 20264, Value.int 93 0, Value.int 2 0, Value.int 0 0, Value.int 0 0, Value.int 3 0, Value.ref 1361, Value.bool true, Value.int 181 0, Value.ref 1362, Value.none, Value.ref 1363, Value.ref 1364, Value.ref 1365, Value.int 20268 0, Value.int 93 0, Value.str (Str.ofString "/claim/cut.py") 20269] } : Obj)),
  (nat_lit 1367, kf1367),
  (nat_lit 1373, ({ cls := Value.type "code", data := Data.fields #[Value.str (Str.ofString "bin_to_int") 20271, Value.str (Str.ofString "bin_to_int") 20272, Value.str (Str.ofString "/claim/cut.py") 20273, Value.int 98 0, Value.int 2 0, Value.int 0 0, Value.int 0 0, Value.int 3 0, Value.ref 1368, Value.bool true, Value.int 181 0, Value.ref 1369, Value.none, Value.ref 1370, Value.ref 1371, Value.ref 1372, Value.int 20276 0, Value.int 98 0, Value.str (Str.ofString "/claim/cut.py") 20277] } : Obj)),
  (nat_lit 1374, kf1374),
  (nat_lit 1378, ({ cls := Value.type "code", data := Data.fields #[Value.str (Str.ofString "_law_spelled") 20281, Value.str (Str.ofString "_law_spelled") 20282, Value.str (Str.ofString "/claim/cut.py") 20283, Value.int 103 0, Value.int 2 0, Value.int 0 0, Value.int 0 0, Value.int 3 0, Value.ref 1375, Value.bool true, Value.int 181 0, Value.ref 1376, Value.none, Value.none, Value.none, Value.ref 1377, Value.int 20284 0, Value.int 103 0, Value.str (Str.ofString "/claim/cut.py") 20285] } : Obj)),
  (nat_lit 1379, kf1379),
  (nat_lit 1383, ({ cls := Value.type "code", data := Data.fields #[Value.str (Str.ofString "law") 20287, Value.str (Str.ofString "law") 20288, Value.str (Str.ofString "/claim/cut.py") 20289, Value.int 105 0, Value.int 1 0, Value.int 0 0, Value.int 0 0, Value.int 3 0, Value.ref 1380, Value.bool true, Value.int 181 0, Value.ref 1381, Value.none, Value.none, Value.none, Value.ref 1382, Value.int 20290 0, Value.int 105 0, Value.str (Str.ofString "/claim/cut.py") 20291] } : Obj)),
  (nat_lit 1384, kf1384)]
def theAs : List Addr := [nat_lit 2, nat_lit 3, nat_lit 20, nat_lit 21, nat_lit 23, nat_lit 1314, nat_lit 1315, nat_lit 1321, nat_lit 1322, nat_lit 1328, nat_lit 1329, nat_lit 1330, nat_lit 1336, nat_lit 1337, nat_lit 1338, nat_lit 1344, nat_lit 1345, nat_lit 1346, nat_lit 1352, nat_lit 1353, nat_lit 1359, nat_lit 1360, nat_lit 1366, nat_lit 1367, nat_lit 1373, nat_lit 1374, nat_lit 1378, nat_lit 1379, nat_lit 1383, nat_lit 1384]

theorem theAs_is : ∀ P, theAs = (theK P).map (·.1) := fun _ => rfl
def theHook : Hook := kHook theK theAs theAs_is
set_option maxHeartbeats 0 in
theorem look3 (w : World) (os : OsState) (g : Nat → Obj) (kept : List Value) : theAs.map (F1 w os g kept).heap.get? = (theK w.params).map fun p => some p.2 := by kernel_rfl
end
end Mine
end
/- part H10 -/
section
open PySem PySem.W PyProof.Rows
set_option Elab.async false
set_option maxRecDepth 100000
set_option maxHeartbeats 400000
namespace Mine
noncomputable section
/-- the call of bytes_to_bits, met by the state behind the prefix -/
theorem s22_size (w : World) (os : OsState) : (S22 w os).heap.objs.size = 22 := by kernel_rfl
theorem s22_rest (w : World) (os : OsState) : (S22 w os).heap.life = {} ∧ (S22 w os).gens = Array.mk [] ∧ (S22 w os).drawn = boot_drawn ∧ (S22 w os).toks = 200 ∧ (S22 w os).os = os := by
  refine ⟨by kernel_rfl, by kernel_rfl, by kernel_rfl, by kernel_rfl, by kernel_rfl⟩
theorem s22_old (w : World) (os : OsState) : (List.range 22).map (S22 w os).heap.get? = (List.range 22).map fun i => some (oldObj w os i) := by kernel_rfl
theorem s22_fn (w : World) (os : OsState) : (S22 w os).heap.get? 21 = some kf21 := by kernel_rfl
theorem s22_cd (w : World) (os : OsState) : (S22 w os).heap.get? 20 = ((theK w.params).lookup 20) := by kernel_rfl
theorem s22_ns (w : World) (os : OsState) : ((S22 w os).heap.noLimitOk && (S22 w os).heap.isNs 3 && (S22 w os).heap.isNs 0 && ((S22 w os).heap.nsMap 3 "range").isNone) = true := by kernel_rfl
theorem s22_range (w : World) (os : OsState) : (S22 w os).heap.nsMap 0 "range" = some (.type "range") := by kernel_rfl
theorem s22_get (w : World) (os : OsState) {i : Nat} (h : i < 22) : (S22 w os).heap.get? i = some (oldObj w os i) := by
  have e := congrArg (fun l => l[i]?) (s22_old w os)
  simpa [List.getElem?_map, List.getElem?_range h] using e
theorem boot_ends (w : World) (os : OsState) (g : Nat → Obj) (kept : List Value) :
    [0, 1, 4, 5, 7, 8, 9, 10].map (F1 w os g kept).heap.get? = [0, 1, 4, 5, 7, 8, 9, 10].map (s0 w os).heap.get? := by kernel_rfl
theorem s0_size (w : World) (os : OsState) : (s0 w os).heap.objs.size = 11 ∧ (s0 w os).heap.isNs mainGlobals = true ∧ (s0 w os).heap.nsMap mainGlobals "__annotations__" = some (.ref 6) := by
  refine ⟨by kernel_rfl, by kernel_rfl, by kernel_rfl⟩
theorem f1_rest (w : World) (os : OsState) (g : Nat → Obj) (kept : List Value) : (F1 w os g kept).gens = Array.mk [] ∧ (F1 w os g kept).os = os := by
  refine ⟨by kernel_rfl, by kernel_rfl⟩

end
end Mine
end
/- part H11 -/
section
open PySem PySem.W PyProof.Rows
set_option Elab.async false
set_option maxRecDepth 100000
set_option maxHeartbeats 400000
namespace Mine
noncomputable section
theorem s22_eq (w : World) (os : OsState) : S22 w os = { S22 w os with gens := Array.mk [], drawn := boot_drawn, toks := 200, os := os } := by
  obtain ⟨_, e2, e3, e4, e5⟩ := s22_rest w os
  generalize S22 w os = s at *
  obtain ⟨h, g, d, t, o⟩ := s
  subst e2 e3 e4 e5
  rfl

theorem heap_is {w : World} {os : OsState} {h' : Heap} (hs : h'.objs.size = 1309) (hl : h'.life = {}) (hk : ∀ b o, (S22 w os).heap.get? b = some o → h'.get? b = some o) (ht : h'.get? 23 = some (tableObj0 256)) :
    h' = absHeap (mkBT (leaf23 w os fun i => (h'.objs[i]?).getD default) 1309 12 1 0) 1309 {} := by
  have e : h'.objs = (absHeap (mkBT (leaf23 w os fun i => (h'.objs[i]?).getD default) 1309 12 1 0) 1309 {}).objs := by
    apply Array.ext
    · rw [absHeap_size, hs]
    · intro i h1 h2
      have a : (absHeap (mkBT (leaf23 w os fun i => (h'.objs[i]?).getD default) 1309 12 1 0) 1309 {}).objs[i]? = h'.objs[i]? := by
        rw [absHeap_at, if_pos (by rw [hs] at h1; exact h1), mkBT_get _ _ _ _ _ _ (by rw [hs] at h1; omega) (by rw [hs] at h1; omega)]
        simp only [Nat.one_mul, Nat.add_zero, Option.getD_some]
        unfold leaf23
        cases h22 : Nat.blt i 22 with
        | true =>
          have := hk i _ (s22_get w os (Nat.le_of_ble_eq_true h22))
          exact (Heap.get?_some_iff.mp this).1.symm
        | false =>
          dsimp only
          cases h23 : Nat.beq i 23 with
          | true =>
            obtain rfl := Nat.eq_of_beq_eq_true h23
            exact (Heap.get?_some_iff.mp ht).1.symm
          | false =>
            dsimp only
            rw [Array.getElem?_eq_getElem h1]; rfl
      rw [Array.getElem?_eq_getElem h1, Array.getElem?_eq_getElem h2] at a
      exact (Option.some.inj a).symm
  obtain ⟨o, l⟩ := h'
  simp only at hl
  subst hl
  exact congrArg (fun x => Heap.mk x {}) e

theorem mid_ok (w : World) (os : OsState) : ∃ n kept g, CalmRun (denote table) thePw w n (S22 w os) (t22 w os) (ST23 w os g).abs (th23 w os kept) := by
  have hns := s22_ns w os
  simp only [Bool.and_eq_true, Option.isNone_iff_eq_none] at hns
  obtain ⟨⟨⟨n1, n2⟩, n3⟩, n4⟩ := hns
  obtain ⟨oc, vs, tq, hc1, hc2, hc3⟩ : ∃ oc vs tq, (S22 w os).heap.get? 20 = some oc ∧ oc.data = .fields vs ∧ vs[1]? = some (.str "bytes_to_bits" tq) := ⟨_, _, _, s22_cd w os, rfl, rfl⟩
  have hcode := call_btb (prog := thePw) (w := w) (A := topA) (s := S22 w os)
    (R := fun r s' => r = .ok (.ret (.ref 23)) ∧ ∃ h', s' = { S22 w os with heap := h', toks := 20178 } ∧ h'.objs.size = 1309 ∧ (∀ b o, (S22 w os).heap.get? b = some o → h'.get? b = some o) ∧ h'.get? 23 = some (tableObj0 256))
    rfl (by decide) (s22_size w os) (s22_rest w os).2.2.2.1 (s22_fn w os) rfl rfl rfl rfl rfl rfl rfl rfl (by rfl) (.of_ok n1) ⟨20, oc, vs, tq, rfl, hc1, hc2, hc3⟩ (.of_isNs n2) n4 (.of_isNs n3) (s22_range w os)
    (fun h' a b c => ⟨rfl, h', rfl, a, b, c⟩)
  obtain ⟨r, s', ⟨rfl, h', rfl, z1, z2, z3⟩, hrun⟩ := mid_run (b := topBody) (env := topEnv) (q := ⟨0, 0, 0, 0⟩) (pos := pos22) (kept := keptOf (T22 w os)) (k := contOf (T22 w os)) (g := false) (l := liveOf (T22 w os)) hcode
  obtain ⟨n, kept', hcr⟩ := hrun (Shared.noSusp_of_empty (s22_rest w os).2.1)
  have hl : h'.life = {} := (runN_life_running hcr.1).trans (s22_rest w os).1
  refine ⟨n, kept', fun i => (h'.objs[i]?).getD default, ?_⟩
  have e : { S22 w os with heap := h', toks := 20178 } = (ST23 w os fun i => (h'.objs[i]?).getD default).abs := by
    obtain ⟨_, e2, e3, _, e5⟩ := s22_rest w os
    show Shared.mk _ _ _ _ _ = Shared.mk (absHeap (mkBT (leaf23 w os fun i => (h'.objs[i]?).getD default) 1309 12 1 0) 1309 {}) (Array.mk []) boot_drawn 20178 os
    rw [e2, e3, e5, ← heap_is z1 hl z2 z3]
  rw [e] at hcr
  exact hcr

theorem top_run (w : World) (os : OsState) : ∃ n kept g t', CalmRun (denote table) thePw w n (s0 w os) (topStub thePw) (F1 w os g kept) t' ∧ through t' = true := by
  obtain ⟨n, kept, g, hm⟩ := mid_ok w os
  have h1 : CalmRun (denote table) thePw w 59 (s0 w os) (topStub thePw) (S22 w os) (t22 w os) := by
    have := calm_topGo (pre_ok w os)
    rw [← table_eq_tree] at this; exact this
  have h2 : CalmRun (denote table) thePw w 370 (ST23 w os g).abs (th23 w os kept) (F1 w os g kept) ⟨.pure (.done .next), .body topBody topEnv, ⟨105, 0, 170, 23⟩, [.ret topAfter none false [] callerCode ⟨0, 0, 0, 0⟩ kept]⟩ := by
    have := calm_segGo (segGo_of (post_ok w os g kept))
    rw [← table_eq_tree] at this; exact this
  have h3 : CalmRun (denote table) thePw w 1 (F1 w os g kept) ⟨.pure (.done .next), .body topBody topEnv, ⟨105, 0, 170, 23⟩, [.ret topAfter none false [] callerCode ⟨0, 0, 0, 0⟩ kept]⟩ (F1 w os g kept) ⟨topAfter (.ok .next), callerCode, ⟨0, 0, 0, 0⟩, []⟩ :=
    .cons (by rfl) (by cases F1 w os g kept; rfl) (.refl _ _)
  exact ⟨_, kept, g, _, ((h1.trans hm).trans h2).trans h3, by rfl⟩
end
end Mine
end
/- part H12 -/
section
open PySem PySem.W PyProof.Rows
set_option Elab.async false
set_option maxRecDepth 100000
set_option maxHeartbeats 400000
namespace Mine
noncomputable section
abbrev theXP : (Str → Option Value) → Heap → Prop := fun mg h => XL qView [] mg h ∧ RecFacts [] h

theorem theBehind (w : World) : (∃ s, AfterRun (opening thePw) w s) ∧ ∀ s, AfterRun (opening thePw) w s → ∃ s₀, fenceModules? thePw s = some s₀ ∧ s₀.gens = #[] ∧ ∃ s₁, TopRan thePw w s₀ s₁ ∧ s₁.asleep ∧ s₁.gens = #[] ∧
    s₁.heap.isNs mainGlobals = true ∧ Ground qView qLoose [] theXP w s₁ (s₁.heap.nsMap mainGlobals) (s₁.heap.nsMap builtinsNs) s₁.heap ∧ theHook.says w s₁.heap := by
  obtain ⟨s₀, h1, e1⟩ := Option.map_eq_some_iff.mp (boot_open (p := thePw) (N := 600) (by rfl) (by rfl) (fun _ => rfl) w)
  obtain ⟨hp, gs, dr, tk, os⟩ := s₀
  obtain ⟨rfl, rfl, rfl, rfl⟩ : hp = boot_heap w.params ∧ gs = Array.mk [] ∧ dr = boot_drawn ∧ tk = boot_toks := by simpa using e1
  unfold fencedOpening at h1
  obtain ⟨s, h4, h5⟩ := Option.bind_eq_some_iff.mp h1
  rw [← table_eq_tree] at h4
  have A := AfterImport.of_importEnds h4
  refine ⟨⟨s, A⟩, fun s' hs' => ?_⟩
  obtain rfl : s' = s := AfterImport.unique hs' A
  have z : (s0 w os).asleep := Shared.asleep_of_life (fence_lifeW h5) A.life
  obtain ⟨n, kept, g, t', hrun, hthr⟩ := top_run w os
  have hl := runN_life_running hrun.1
  have l1 := look1 w os g kept
  obtain ⟨l1, llk⟩ := Bool.and_eq_true_iff.mp l1
  obtain ⟨l1, lgd⟩ := Bool.and_eq_true_iff.mp l1
  obtain ⟨lst, lnb⟩ := Bool.and_eq_true_iff.mp l1
  obtain ⟨G, g0, g1, g2, g3, g4, g5⟩ := ground_of_open (w := w) (XP := theXP) (fun s e => ⟨xl_of s (Bool.and_eq_true_iff.mp e).1, recFacts_of (Bool.and_eq_true_iff.mp e).2⟩) (by rfl) (look2 w os g kept)
  obtain ⟨zs, zg, za⟩ := s0_size w os
  refine ⟨s0 w os, h5, rfl, F1 w os g kept, ⟨⟨n, t', hrun.sched z, hthr⟩, hl, Shared.rest_eq (f1_rest w os g kept).2, ?_, g2, statics_of_ok lst, g3, g4, g5, gens_of_done lgd, names_of_bound lnb, laid_of_kept llk⟩,
    Shared.asleep_of_life hl z, (f1_rest w os g kept).1, g1, G, InK.of theAs_is w _ (look3 w os g kept)⟩
  intro b o hb hn
  have lt : @LT.lt Nat _ b 11 := by have := Heap.lt_size hb; rw [zs] at this; exact this
  have n3 : b ≠ 3 := fun e => hn (.inl e)
  have n2 : b ≠ 2 := fun e => hn (.inr (.inl e))
  have n6 : b ≠ 6 := fun e => hn (.inr (.inr ((Pin.globalOf_eq zg _).trans (by rw [e]; exact za))))
  have be := boot_ends w os g kept
  simp only [List.map_cons, List.map_nil, List.cons.injEq, and_true] at be
  obtain ⟨b0, b1, b4, b5, b7, b8, b9, b10⟩ := be
  have : b = 0 ∨ b = 1 ∨ b = 4 ∨ b = 5 ∨ b = 7 ∨ b = 8 ∨ b = 9 ∨ b = 10 := by
    have : ∀ b : Nat, b < 11 → b ≠ 3 → b ≠ 2 → b ≠ 6 → b = 0 ∨ b = 1 ∨ b = 4 ∨ b = 5 ∨ b = 7 ∨ b = 8 ∨ b = 9 ∨ b = 10 := by omega
    exact this b lt n3 n2 n6
  rcases this with rfl | rfl | rfl | rfl | rfl | rfl | rfl | rfl
  · exact b0.trans hb
  · exact b1.trans hb
  · exact b4.trans hb
  · exact b5.trans hb
  · exact b7.trans hb
  · exact b8.trans hb
  · exact b9.trans hb
  · exact b10.trans hb
end
end Mine
end
/- part H13 -/
section
open PySem PySem.W PyProof.Rows
set_option Elab.async false
set_option maxRecDepth 100000
set_option maxHeartbeats 400000
namespace Mine
noncomputable section
/-- what is known behind the module's top, in the shape that the call wants -/
abbrev BehindTop (p q : Program) (loose : List Str) (XP : (Str → Option Value) → Heap → Prop) (YP : World → Heap → Prop) : Prop :=
  ∀ w, (∃ s, AfterRun (opening p) w s) ∧ ∀ s, AfterRun (opening p) w s → ∃ s₀, fenceModules? p s = some s₀ ∧ s₀.gens = #[] ∧ ∃ s₁, TopRan p w s₀ s₁ ∧ s₁.asleep ∧ s₁.gens = #[] ∧
    s₁.heap.isNs mainGlobals = true ∧ Ground q loose [] (fun mg h => XP mg h ∧ RecFacts [] h) w s₁ (s₁.heap.nsMap mainGlobals) (s₁.heap.nsMap builtinsNs) s₁.heap ∧ YP w s₁.heap

end
end Mine
end
/- part I1 -/
section
open PySem PySem.W PyProof.Rows
set_option Elab.async false
set_option maxRecDepth 100000
set_option maxHeartbeats 400000
namespace Mine
/-- the addresses of the frames under way -/
def frs (outer : List Env) : List Addr := outer.filterMap (·.frame)

/-- what stood still stands: all but the frames' own objects to the letter, data up to slots -/
structure Kept (fr : List Addr) (h h' : Heap) : Prop where
  stays : ∀ b o, b ∉ fr → h.get? b = some o → h'.get? b = some o
  slots : h.UpToSlots h'
theorem Kept.refl (fr : List Addr) (h : Heap) : Kept fr h h := ⟨fun _ _ _ e => e, .refl h⟩
theorem Kept.trans {fr : List Addr} {h₁ h₂ h₃ : Heap} (x : Kept fr h₁ h₂) (y : Kept fr h₂ h₃) : Kept fr h₁ h₃ :=
  ⟨fun b o n e => y.stays b o n (x.stays b o n e), x.slots.trans y.slots⟩
theorem Kept.of {fr : List Addr} {h h' : Heap} (k : ∀ b o, h.get? b = some o → h'.get? b = some o) : Kept fr h h' := ⟨fun b o _ e => k b o e, .of_keeps k⟩
/-- a new frame comes on top: what it may change is no matter for what stood before it -/
theorem Kept.pop {fr : List Addr} {h h₁ h' : Heap} {L : Addr} (k : Kept fr h h₁) (hL : h.get? L = none) (x : Kept (L :: fr) h₁ h') : Kept fr h h' := by
  refine ⟨fun b o n e => x.stays b o (fun hm => ?_) (k.stays b o n e), k.slots.trans x.slots⟩
  rcases List.mem_cons.mp hm with q | q
  · subst q; rw [hL] at e; cases e
  · exact n q
theorem Kept.isList {fr : List Addr} {h h' : Heap} {l : Addr} {xs : Array Value} (k : Kept fr h h') (x : h.IsList l xs) : h'.IsList l xs := by
  obtain ⟨o, ho, hc, n, hd⟩ := x
  obtain ⟨sl, hs⟩ := k.slots l o ho fun vs q => by rw [hd] at q; cases q
  exact ⟨_, hs, hc, n, hd⟩
theorem Kept.ns {fr : List Addr} {h h' : Heap} {a : Addr} {m : Str → Option Value} (k : Kept fr h h') (x : h.Ns a m) : h'.Ns a m := k.slots.ns x
theorem Kept.isCell {fr : List Addr} {h h' : Heap} {a : Addr} {v : Option Value} (k : Kept fr h h') (x : h.IsCell a v) : h'.IsCell a v := by
  obtain ⟨o, ho, hd⟩ := x
  obtain ⟨sl, hs⟩ := k.slots a o ho fun vs q => by rw [hd] at q; cases q
  exact ⟨_, hs, hd⟩
theorem Kept.lt {fr : List Addr} {h h' : Heap} {a : Addr} {o : Obj} (k : Kept fr h h') (x : h.get? a = some o) (hd : ∀ vs, o.data ≠ .fields vs) : @LT.lt Nat _ a h'.objs.size :=
  let ⟨_, hs⟩ := k.slots a o x hd; Heap.lt_size hs

/-- the names of the module, as the written part tells them -/
def mainEntries (P : Params) : Array DictEntry := match (theK P).lookup 3 with
  | some ⟨_, _, .dict es _, _⟩ => es
  | _ => #[]
def gNames (P : Params) (x : Str) : Option Value := nsFind (mainEntries P) x

/-- what no step of the law changes -/
structure Base (w : World) (h : Heap) : Prop where
  K : (theK w.params).In h
  lim : h.NoLimit
  blt : ∃ mb, h.Ns 0 mb ∧ ∀ x : Str, x ≠ "__name__" → mb x = bootBuiltins x
  low : @LT.lt Nat _ 1384 h.objs.size
theorem K_low (P : Params) : ((theK P).all fun p => Nat.blt p.1 1385) = true := by kernel_rfl
theorem lookup_mem {K : Frag} {a : Addr} {o : Obj} (h : K.lookup a = some o) : (a, o) ∈ K := by
  induction K with
  | nil => cases h
  | cons p r ih =>
    obtain ⟨b, x⟩ := p
    rw [List.lookup_cons] at h
    cases hb : a == b with
    | true => rw [hb] at h; cases h; rw [beq_iff_eq.mp hb]; exact .head _
    | false => rw [hb] at h; exact .tail _ (ih h)
theorem K_lt {P : Params} {a : Addr} {o : Obj} (h : (theK P).lookup a = some o) : @LT.lt Nat _ a 1385 :=
  Nat.le_of_ble_eq_true (List.all_eq_true.mp (K_low P) _ (lookup_mem h))
theorem Base.kept {w : World} {h h' : Heap} {fr : List Addr} (x : Base w h) (hf : ∀ a ∈ fr, @LE.le Nat _ 1385 a) (k : Kept fr h h') : Base w h' := by
  have nf : ∀ a : Nat, a < 1385 → a ∉ fr := fun a ha hm => absurd (hf a hm) (Nat.not_le.mpr ha)
  refine ⟨fun a o e => k.stays a o (nf a (K_lt e)) (x.K a o e), ?_, ?_, ?_⟩
  · obtain ⟨mc, a, b⟩ := x.lim
    exact ⟨mc, k.ns a, b⟩
  · obtain ⟨mb, a, b⟩ := x.blt
    exact ⟨mb, k.ns a, b⟩
  · obtain ⟨o, ho⟩ : ∃ o, (theK w.params).lookup 1384 = some o := ⟨_, rfl⟩
    exact Heap.lt_size (k.stays 1384 o (nf 1384 (by decide)) (x.K _ _ ho))
theorem main_keys (P : Params) : ((mainEntries P).toList.all fun e => match e.key with | .str _ _ => true | _ => false) = true := by kernel_rfl
theorem Base.glob {w : World} {h : Heap} (x : Base w h) : h.Ns 3 (gNames w.params) := by
  obtain ⟨o, ho⟩ : ∃ o, (theK w.params).lookup 3 = some o := ⟨_, rfl⟩
  refine ⟨o, mainEntries w.params, 22, x.K _ _ ho, ?_, ?_, fun _ => rfl⟩
  · obtain rfl := Option.some.inj ho; rfl
  · intro e he
    have := List.all_eq_true.mp (main_keys w.params) e (Array.mem_toList_iff.mpr he)
    revert this
    cases e.key with
    | str n t => exact fun _ => ⟨n, t, rfl⟩
    | _ => intro q; cases q

/-- the frames under way and what the steps may lean on -/
structure Sit (w : World) (d : Nat) (A : Around) (outer : List Env) (h : Heap) : Prop where
  hd : A.handled = none
  st : A.frames = some outer
  fr : ∀ env ∈ outer, env.scope.kind ≠ .module ∧ ∃ L o es n, env.frame = some L ∧ h.get? L = some o ∧ o.data = .dict es n ∧ @LE.le Nat _ 1385 L
  dp : A.depth ≤ 301 + d
  un : A.units ≤ 4 + 10 * d
  ok : Base w h
theorem Sit.hi {w : World} {d : Nat} {A : Around} {outer : List Env} {h : Heap} (S : Sit w d A outer h) : ∀ a ∈ frs outer, @LE.le Nat _ 1385 a := fun a ha => by
  obtain ⟨env, he, hf⟩ := List.mem_filterMap.mp ha
  obtain ⟨_, L, o, es, n, e1, _, _, e4⟩ := S.fr env he
  rw [hf] at e1
  obtain rfl := Option.some.inj e1
  exact e4
theorem Sit.kept {w : World} {d : Nat} {A : Around} {outer : List Env} {h h' : Heap} (S : Sit w d A outer h) (k : Kept (frs outer) h h') : Sit w d A outer h' := by
  refine ⟨S.hd, S.st, fun env he => ?_, S.dp, S.un, S.ok.kept S.hi k⟩
  obtain ⟨a, L, o, es, n, e1, e2, e3, e4⟩ := S.fr env he
  obtain ⟨sl, hs⟩ := k.slots L o e2 fun vs q => by rw [e3] at q; cases q
  exact ⟨a, L, _, es, n, e1, hs, e3, e4⟩
/-- the frames as the library wants them, over a base that hides them -/
theorem Sit.funs {w : World} {d : Nat} {A : Around} {outer : List Env} {h : Heap} (S : Sit w d A outer h) : h.FunFrames (hideAll h (frs outer)) outer := by
  have aux : ∀ (l : List Env), (∀ env ∈ l, env ∈ outer) → h.FunFrames (hideAll h (frs outer)) l := by
    intro l
    induction l with
    | nil => exact fun _ => trivial
    | cons env r ih =>
      intro hl
      obtain ⟨a, L, o, es, n, e1, e2, e3, e4⟩ := S.fr env (hl env (.head _))
      exact ⟨a, ⟨L, o, e1, hideAll_none _ (List.mem_filterMap.mpr ⟨env, hl env (.head _), e1⟩), e2, fun vs q => by rw [e3] at q; cases q⟩, ih fun e he => hl e (.tail _ he)⟩
  exact aux outer fun _ h => h
theorem stays_hide (h : Heap) (fr : List Addr) : (hideAll h fr).StaysIn h := fun _ _ e => of_hideAll _ e
theorem kept_of_hide {h h' : Heap} {fr : List Addr} (k : (hideAll h fr).StaysIn h') (u : h.UpToSlots h') : Kept fr h h' :=
  ⟨fun b o n e => k b o (hideAll_get _ e n), u⟩
end Mine
end
/- part I2 -/
section
open PySem PySem.W PyProof.Rows
set_option Elab.async false
set_option maxRecDepth 100000
set_option maxHeartbeats 400000
namespace Mine
/-- within a frame: h₀ the heap at its call, L its namespace, m its names -/
structure In (w : World) (d : Nat) (A : Around) (outer : List Env) (env : Env) (h₀ : Heap) (L : Addr) (h : Heap) (m : Str → Option Value) : Prop where
  S0 : Sit w d A outer h₀
  S : Sit w (d + 1) (A.deeper env) (env :: outer) h
  kept : Kept (frs outer) h₀ h
  new : h₀.get? L = none
  ns : h.Ns L m
  loc : env.frame = some L
section
variable {w : World} {d : Nat} {A : Around} {outer : List Env} {env : Env} {h₀ h h' : Heap} {L : Addr} {m m' : Str → Option Value}
theorem In.ne (I : In w d A outer env h₀ L h m) {b : Addr} {o : Obj} (e : h₀.get? b = some o) : b ≠ L := fun q => by
  have := I.new; rw [← q, e] at this; cases this
theorem In.store (I : In w d A outer env h₀ L h m) (hn : h'.Ns L m') (hs : Heap.SameBut L h h') : In w d A outer env h₀ L h' m' := by
  have up : ∀ b o, b ≠ L → h.get? b = some o → h'.get? b = some o := fun b o n e => (hs.2 b n).trans e
  have k1 : Kept (frs outer) h₀ h' := ⟨fun b o n e => up b o (I.ne e) (I.kept.stays b o n e), fun b o e nf => by
    obtain ⟨sl, q⟩ := I.kept.slots b o e nf
    exact ⟨sl, up b _ (I.ne e) q⟩⟩
  refine ⟨I.S0, ⟨I.S.hd, I.S.st, fun env' he => ?_, I.S.dp, I.S.un, ?_⟩, k1, I.new, hn, I.loc⟩
  · obtain ⟨a, L', o, es, n, e1, e2, e3, e4⟩ := I.S.fr env' he
    by_cases q : L' = L
    · subst q
      obtain ⟨o', es', ep, x1, x2, _⟩ := hn
      exact ⟨a, L', o', es', ep, e1, x1, x2, e4⟩
    · exact ⟨a, L', o, es, n, e1, up L' o q e2, e3, e4⟩
  · exact I.S0.ok.kept I.S0.hi k1
theorem In.hideStays (I : In w d A outer env h₀ L h m) : (hideAll h₀ (frs outer)).StaysIn (hideAll h (frs (env :: outer))) := fun b o e => by
  have e0 : h₀.get? b = some o := of_hideAll _ e
  have nb : b ∉ frs outer := fun hm => by rw [hideAll_none _ hm] at e; cases e
  refine hideAll_get _ (I.kept.stays b o nb e0) fun hm => ?_
  obtain ⟨env', he, hf⟩ := List.mem_filterMap.mp hm
  rcases List.mem_cons.mp he with q | q
  · subst q
    rw [I.loc] at hf
    exact I.ne e0 (Option.some.inj hf).symm
  · exact nb (List.mem_filterMap.mpr ⟨env', q, hf⟩)
theorem frs_cons (hl : env.frame = some L) : frs (env :: outer) = L :: frs outer := by
  unfold frs; rw [List.filterMap_cons, hl]
theorem In.after (I : In w d A outer env h₀ L h m) (k : Kept (frs (env :: outer)) h h') : In w d A outer env h₀ L h' m := by
  refine ⟨I.S0, I.S.kept k, ?_, I.new, k.ns I.ns, I.loc⟩
  rw [frs_cons I.loc] at k
  exact I.kept.pop I.new k
theorem In.ext (I : In w d A outer env h₀ L h m) (k : ∀ b o, h.get? b = some o → h'.get? b = some o) : In w d A outer env h₀ L h' m := I.after (.of k)
theorem In.map (I : In w d A outer env h₀ L h m) (e : ∀ x, m x = m' x) : In w d A outer env h₀ L h m' := by
  obtain rfl : m = m' := funext e
  exact I
/-- an object that is no namespace is no frame -/
theorem Sit.noFrame {outer : List Env} {A : Around} (S : Sit w d A outer h) {b : Addr} {o : Obj} (e : h.get? b = some o) (hd : ∀ es n, o.data ≠ .dict es n) : b ∉ frs outer := fun hm => by
  obtain ⟨env', he, hf⟩ := List.mem_filterMap.mp hm
  obtain ⟨_, L', o', es, n, e1, e2, e3, _⟩ := S.fr env' he
  rw [hf] at e1
  obtain rfl := Option.some.inj e1
  rw [e] at e2
  obtain rfl := Option.some.inj e2
  exact hd es n e3
theorem Sit.get {outer : List Env} {A : Around} (S : Sit w d A outer h) (k : Kept (frs outer) h h') {b : Addr} {o : Obj} (e : h.get? b = some o) (hd : ∀ es n, o.data ≠ .dict es n) : h'.get? b = some o :=
  k.stays b o (S.noFrame e hd) e
theorem Sit.room {outer : List Env} (S : Sit w d A outer h) (hd : d ≤ 20) : A.depth < recursionLimit := Nat.lt_of_le_of_lt S.dp (by show 301 + d < 1000; omega)
theorem Sit.pylong {outer : List Env} (S : Sit w d A outer h) (hd : d ≤ 20) : A.units < cLine := Nat.lt_of_le_of_lt S.un (by show 4 + 10 * d < 9900; omega)
end

theorem enter {w : World} {d : Nat} {A : Around} {outer : List Env} {s : Shared} {R : Result → Shared → Prop} {f : Addr} {o : Obj} {fd : FuncData} {body : List Stmt} {args : List Value} {binds : List (Str × Value)}
    (S : Sit w d A outer s.heap) (hd : d ≤ 20) (ho : (theK w.params).lookup f = some o) (ho2 : o.data = .func fd) (hco : fd.scope.isCoroutine = false) (hgen : fd.scope.isGenerator = false) (hk : fd.scope.kind = .function)
    (hbody : fd.body = .stmts body) (hcode : ∃ c oc vs tq, fd.code = .ref c ∧ (theK w.params).lookup c = some oc ∧ oc.data = .fields vs ∧ vs[1]? = some (.str fd.qualname tq))
    (hb : BindsTo s fd ⟨args, []⟩ binds) (hloc : ∀ x ∈ binds, fd.scope.names.lookup x.1 = some .local) (hcell : ∀ x ∈ fd.scope.names, x.2 ≠ .cell)
    (h : ∀ h₁ L, In w d A outer (newEnv fd.scope L fd.globals fd.closure (fd.qualname ++ ".<locals>.") (some f) fd.code none fd.builtins) s.heap L h₁ (fun x => binds.reverse.lookup x) →
      wpAny (model thePw w) (A.deeper (newEnv fd.scope L fd.globals fd.closure (fd.qualname ++ ".<locals>.") (some f) fd.code none fd.builtins)) (execs body (newEnv fd.scope L fd.globals fd.closure (fd.qualname ++ ".<locals>.") (some f) fd.code none fd.builtins))
        (fun fl s' => R (.ok (.ret (match fl with | .ret v => v | _ => .none))) s')
        (fun e s' => wpAny (model thePw w) (A.deeper (newEnv fd.scope L fd.globals fd.closure (fd.qualname ++ ".<locals>.") (some f) fd.code none fd.builtins)) (leaving (newEnv fd.scope L fd.globals fd.closure (fd.qualname ++ ".<locals>.") (some f) fd.code none fd.builtins) e)
          (fun _ s'' => R (.error e) s'') (fun e' s'' => R (.error e') s'') s')
        { s with heap := h₁, toks := s.toks + binds.length }) : codeAny (model thePw w) A (.call (.ref f) ⟨args, []⟩) R s := by
  obtain ⟨c, oc, vs, tq, c1, c2, c3, c4⟩ := hcode
  refine codeAny_call_function (S.room hd) (S.ok.K _ _ ho) ho2 hco hgen hbody ⟨c, oc, vs, tq, c1, S.ok.K _ _ c2, c3, c4⟩ ?_
  refine hb _ _ _ _ (wpAny_newFunctionEnv hcell hloc ?_ hk)
  intro h₁ hn₁ hs₁
  have new : s.heap.get? s.heap.objs.size = none := Heap.get?_none_of_le (Nat.le_refl _)
  have k : ∀ b o, s.heap.get? b = some o → h₁.get? b = some o := fun b o e => (hs₁.2 b (fun q => by rw [q, new] at e; cases e)).trans (Heap.get?_push_of_some _ e)
  have S1 := S.kept (.of k : Kept (frs outer) s.heap h₁)
  refine ⟨S1.ok.lim, codeAny_func (h h₁ s.heap.objs.size ⟨S, ⟨S.hd, ?_, ?_, ?_, ?_, S1.ok⟩, .of k, new, hn₁, rfl⟩)⟩
  · exact Around.frames_deeper S.st
  · intro env' he
    rcases List.mem_cons.mp he with q | q
    · subst q
      obtain ⟨o', es, ep, x1, x2, _⟩ := hn₁
      refine ⟨by show fd.scope.kind ≠ .module; rw [hk]; decide, s.heap.objs.size, o', es, ep, rfl, x1, x2, S.ok.low⟩
    · exact S1.fr env' q
  · show A.depth + 1 ≤ 301 + (d + 1)
    have := S.dp; omega
  · show A.units + 3 ≤ 4 + 10 * (d + 1)
    have := S.un; omega
end Mine
end
/- part I3 -/
section
open PySem PySem.W PyProof.Rows
set_option Elab.async false
set_option maxRecDepth 100000
set_option maxHeartbeats 1000000
namespace Mine
def fdOf (o : Obj) : FuncData := match o.data with
  | .func fd => fd
  | _ => { name := "", qualname := "", params := { posonlyargs := [], args := [], vararg := none, kwonlyargs := [], kw_defaults := [], kwarg := none, defaults := [] }, body := .stmts [], scope := fScope1, globals := 0, closure := [], defaults := .none, kwdefaults := .none }
def stmtsOf (o : Obj) : List Stmt := match (fdOf o).body with
  | .stmts b => b
  | _ => []
abbrev envF (o : Obj) (f L : Addr) : Env := newEnv (fdOf o).scope L (fdOf o).globals (fdOf o).closure ((fdOf o).qualname ++ ".<locals>.") (some f) (fdOf o).code none (fdOf o).builtins

section
variable {w : World} {M : Model} {A : Around} {E : Value → Shared → Prop} {s : Shared} {env : Env} {x : Str} {v : Value} {pos : Pos} {Q : Value → Shared → Prop}
theorem ldG (B : Base w s.heap) (hv : gNames w.params x = some v) (h : Q v s) (hk : env.scope.kind = .function := by rfl) (hx : env.kindOf x = some .globalImplicit := by rfl) (hgl : env.globals = 3 := by rfl)
    (hd : (x == ("__debug__" : Str)) = false := by decide) : wpAny M A (eval (.Name x pos) env) Q E s := by
  refine Calls.Name_function_global hk hx ?_ hd
  unfold loadGlobal
  rw [hgl]
  refine wpAny_bind (wpAny_nsGet B.glob ?_)
  rw [hv]; exact wpAny_pure h
theorem ldB (B : Base w s.heap) (hm : gNames w.params x = none) (hb : bootBuiltins x = some v) (h : Q v s) (hn : x ≠ "__name__" := by decide) (hk : env.scope.kind = .function := by rfl) (hx : env.kindOf x = some .globalImplicit := by rfl) (hgl : env.globals = 3 := by rfl) (hbl : env.builtins = 0 := by rfl)
    (hd : (x == ("__debug__" : Str)) = false := by decide) : wpAny M A (eval (.Name x pos) env) Q E s := by
  obtain ⟨mb, b1, b2⟩ := B.blt
  refine Calls.Name_function_global hk hx ?_ hd
  refine Calls.loadGlobal_builtin (hgl ▸ B.glob) hm (hbl ▸ b1) ((b2 x hn).trans hb) h
theorem ldL {L : Addr} {m : Str → Option Value} (hn : s.heap.Ns L m) (hv : m x = some v) (h : Q v s) (hk : env.scope.kind = .function := by rfl) (hx : env.kindOf x = some .local := by rfl) (hL : env.locals = L := by rfl)
    (hd : (x == ("__debug__" : Str)) = false := by decide) : wpAny M A (eval (.Name x pos) env) Q E s :=
  wpAny_Name (wpAny_loadName_local hk hx (hL ▸ hn) hv h) hd
end
section
variable {w : World} {d : Nat} {A : Around} {outer : List Env} {env : Env} {h₀ : Heap} {L : Addr} {m : Str → Option Value} {M : Model} {E : Value → Shared → Prop} {s : Shared}
theorem stL {A' : Around} {x : Str} {v : Value} {Q : Unit → Shared → Prop} (I : In w d A outer env h₀ L s.heap m)
    (h : ∀ h' tk, In w d A outer env h₀ L h' (fun y => if y = x then some v else m y) → Heap.SameBut L s.heap h' → Q () { s with heap := h', toks := tk })
    (hx : env.kindOf x = some .local := by rfl) (hL : env.locals = L := by rfl) (hp : (env.scope.kind == .class || (env.scope.kind == .module && env.locals != env.globals)) = false := by rfl) : wpAny M A' (storeName env x v) Q E s := by
  subst hL
  exact wpAny_storeName_local hx I.ns (fun h' hn hs => h h' _ (I.store hn hs) hs) hp
end
/-- the names that the text's defs ask for -/
theorem g_valid_words (P : Params) : gNames P "valid_words" = some (.ref 1315) := by kernel_rfl
theorem g_int_to_words (P : Params) : gNames P "int_to_words" = some (.ref 1322) := by kernel_rfl
theorem g_words_to_int (P : Params) : gNames P "words_to_int" = some (.ref 1329) := by kernel_rfl
theorem g_valid_bits (P : Params) : gNames P "valid_bits" = some (.ref 1337) := by kernel_rfl
theorem g_bits_to_int (P : Params) : gNames P "bits_to_int" = some (.ref 1345) := by kernel_rfl
theorem g_int_to_bits (P : Params) : gNames P "int_to_bits" = some (.ref 1353) := by kernel_rfl
theorem g_valid_bin (P : Params) : gNames P "valid_bin" = some (.ref 1360) := by kernel_rfl
theorem g_int_to_bin (P : Params) : gNames P "int_to_bin" = some (.ref 1367) := by kernel_rfl
theorem g_bin_to_int (P : Params) : gNames P "bin_to_int" = some (.ref 1374) := by kernel_rfl
theorem g_law_spelled (P : Params) : gNames P "_law_spelled" = some (.ref 1379) := by kernel_rfl
theorem g_table (P : Params) : gNames P "BYTES_TO_BITS" = some (.ref 23) := by kernel_rfl
theorem g_none (P : Params) (x : Str) (h : x ∈ (["range", "list", "tuple", "bytes", "bytearray", "isinstance", "len", "max", "int", "str", "reversed", "enumerate", "bin", "ValueError", "IndexError"] : List Str)) : gNames P x = none := by
  have : ∀ P, ((["range", "list", "tuple", "bytes", "bytearray", "isinstance", "len", "max", "int", "str", "reversed", "enumerate", "bin", "ValueError", "IndexError"] : List Str).all fun x => (gNames P x).isNone) = true := by intro P; kernel_rfl
  exact Option.isNone_iff_eq_none.mp (List.all_eq_true.mp (this P) x h)
theorem b_range : bootBuiltins "range" = some (.type "range") := by kernel_rfl
theorem b_list : bootBuiltins "list" = some (.type "list") := by kernel_rfl
theorem b_tuple : bootBuiltins "tuple" = some (.type "tuple") := by kernel_rfl
theorem b_bytes : bootBuiltins "bytes" = some (.type "bytes") := by kernel_rfl
theorem b_bytearray : bootBuiltins "bytearray" = some (.type "bytearray") := by kernel_rfl
theorem b_isinstance : bootBuiltins "isinstance" = some (.builtin "isinstance") := by kernel_rfl
theorem b_len : bootBuiltins "len" = some (.builtin "len") := by kernel_rfl
theorem b_max : bootBuiltins "max" = some (.builtin "max") := by kernel_rfl
theorem b_int : bootBuiltins "int" = some (.type "int") := by kernel_rfl
theorem b_str : bootBuiltins "str" = some (.type "str") := by kernel_rfl
theorem b_reversed : bootBuiltins "reversed" = some (.type "reversed") := by kernel_rfl
theorem b_enumerate : bootBuiltins "enumerate" = some (.type "enumerate") := by kernel_rfl
theorem b_bin : bootBuiltins "bin" = some (.builtin "bin") := by kernel_rfl
theorem b_ValueError : bootBuiltins "ValueError" = some (.type "ValueError") := by kernel_rfl
theorem b_IndexError : bootBuiltins "IndexError" = some (.type "IndexError") := by kernel_rfl
end Mine
end
/- part I4 -/
section
open PySem PySem.W PyProof.Rows
set_option Elab.async false
set_option maxRecDepth 100000
set_option maxHeartbeats 1000000
namespace Mine
section
variable {w : World} {d : Nat} {A : Around} {outer : List Env} {env : Env} {h₀ h h' : Heap} {L it : Addr} {m : Str → Option Value}
/-- a thing of the frame's own is changed -/
theorem In.touch (I : In w d A outer env h₀ L h m) (hit : h₀.get? it = none) (hL : it ≠ L) (k : Heap.ExtBut it h h') : In w d A outer env h₀ L h' m := by
  have up : ∀ b o, b ≠ it → h.get? b = some o → h'.get? b = some o := fun b o n e => k b o n e
  have ne0 : ∀ b o, h₀.get? b = some o → b ≠ it := fun b o e q => by rw [q, hit] at e; cases e
  have k1 : Kept (frs outer) h₀ h' := ⟨fun b o n e => up b o (ne0 b o e) (I.kept.stays b o n e), fun b o e nf => by
    obtain ⟨sl, q⟩ := I.kept.slots b o e nf
    exact ⟨sl, up b _ (ne0 b o e) q⟩⟩
  refine ⟨I.S0, ⟨I.S.hd, I.S.st, fun env' he => ?_, I.S.dp, I.S.un, I.S0.ok.kept I.S0.hi k1⟩, k1, I.new, I.ns.extBut k hL.symm, I.loc⟩
  obtain ⟨a, L', o, es, n, e1, e2, e3, e4⟩ := I.S.fr env' he
  refine ⟨a, L', o, es, n, e1, up L' o (fun q => ?_) e2, e3, e4⟩
  rcases List.mem_cons.mp he with r | r
  · subst r
    rw [I.loc] at e1
    exact hL (q.symm.trans (Option.some.inj e1).symm)
  · obtain ⟨_, L2, o2, es2, n2, f1, f2, _⟩ := I.S0.fr env' r
    rw [e1] at f1
    obtain rfl := Option.some.inj f1
    exact ne0 _ _ f2 q
theorem In.fresh (I : In w d A outer env h₀ L h m) {b : Addr} (hb : h.get? b = none) : h₀.get? b = none := by
  cases q : h₀.get? b with
  | none => rfl
  | some o =>
    by_cases hn : ∀ vs, o.data ≠ .fields vs
    · obtain ⟨sl, e⟩ := I.kept.slots _ _ q hn
      rw [hb] at e; cases e
    · by_cases hm : b ∈ frs outer
      · obtain ⟨env', he, hf⟩ := List.mem_filterMap.mp hm
        obtain ⟨_, L2, o2, es2, n2, f1, f2, f3, _⟩ := I.S0.fr env' he
        rw [hf] at f1
        obtain rfl := Option.some.inj f1
        rw [q] at f2
        obtain rfl := Option.some.inj f2
        exact absurd (fun vs e => by rw [f3] at e; cases e) hn
      · have := I.kept.stays _ _ hm q
        rw [hb] at this; cases this
theorem In.freshS (I : In w d A outer env h₀ L h m) : h₀.get? h.objs.size = none := I.fresh (Heap.get?_none_of_le (Nat.le_refl _))
theorem In.Lne (I : In w d A outer env h₀ L h m) : h.objs.size ≠ L := Nat.ne_of_gt I.ns.lt
theorem In.push (I : In w d A outer env h₀ L h m) (o : Obj) : In w d A outer env h₀ L (h.push o) m := I.ext fun _ _ e => Heap.get?_push_of_some _ e
end

theorem ints_get : ∀ {vs : List Value} {ns : List Int}, IntsAre vs ns → ∀ (i : Nat) (v : Value), vs[i]? = some v → ∃ (n : Int) (t : Tok), ns[i]? = some n ∧ v = Value.int n t
  | _, _, .nil, i, v, h => by simp at h
  | _, _, .cons n t r, 0, v, h => ⟨n, t, rfl, by simpa using h.symm⟩
  | _, _, .cons n t r, i + 1, v, h => by simpa using ints_get r i v (by simpa using h)
theorem ints_len : ∀ {vs : List Value} {ns : List Int}, IntsAre vs ns → vs.length = ns.length
  | _, _, .nil => rfl
  | _, _, .cons _ _ r => congrArg (· + 1) (ints_len r)

/-- an exception of a class that came out of a call -/
def Thrown (outer : List Env) (h₀ : Heap) (cls : String) (e : Value) (h' : Heap) : Prop :=
  ∃ a a0, e = .ref a ∧ Heap.FlyingW (hideAll h₀ (frs outer)) outer a (.type cls) a0 h' ∧ h₀.UpToSlots h'

section
variable {w : World} {d : Nat} {A : Around} {outer : List Env} {s : Shared} {Q : Value → Shared → Prop} {E : Value → Shared → Prop}
/-- how a frame is left by an exception -/
abbrev leaveE (w : World) (A : Around) (env : Env) (E : Value → Shared → Prop) : Value → Shared → Prop :=
  fun e s' => wpAny (model thePw w) (A.deeper env) (leaving env e) (fun _ s'' => E e s'') (fun e' s'' => E e' s'') s'
theorem callF {f : Addr} {o : Obj} {args : List Value} (binds : List (Str × Value))
    (S : Sit w d A outer s.heap) (hd : d ≤ 20) (ho : (theK w.params).lookup f = some o) (ho2 : o.data = .func (fdOf o)) (hco : (fdOf o).scope.isCoroutine = false) (hgen : (fdOf o).scope.isGenerator = false) (hk : (fdOf o).scope.kind = .function)
    (hbody : (fdOf o).body = .stmts (stmtsOf o)) (hcode : ∃ c oc vs tq, (fdOf o).code = .ref c ∧ (theK w.params).lookup c = some oc ∧ oc.data = .fields vs ∧ vs[1]? = some (.str (fdOf o).qualname tq))
    (hb : BindsTo s (fdOf o) ⟨args, []⟩ binds) (hloc : ∀ x ∈ binds, (fdOf o).scope.names.lookup x.1 = some .local) (hcell : ∀ x ∈ (fdOf o).scope.names, x.2 ≠ .cell)
    (h : ∀ h₁ L tk, In w d A outer (envF o f L) s.heap L h₁ (fun x => binds.reverse.lookup x) →
      wpAny (model thePw w) (A.deeper (envF o f L)) (execs (stmtsOf o) (envF o f L)) (fun fl s' => Q (match fl with | .ret v => v | _ => .none) s') (leaveE w A (envF o f L) E) { s with heap := h₁, toks := tk }) :
    wpAny (model thePw w) A (call (.ref f) args) Q E s :=
  wpAny_call (enter S hd ho ho2 hco hgen hk hbody hcode hb hloc hcell fun h₁ L I => h h₁ L _ I)
/-- an exception made here leaves the frame -/
theorem leave_made {env : Env} {h₀ : Heap} {L : Addr} {m : Str → Option Value} {h : Heap} {e : Addr} {cls : String} {vs : List Value} (I : In w d A outer env h₀ L h m) (hx : Heap.MadeExc h s.heap e cls vs)
    (hQ : ∀ h', Thrown outer h₀ cls (.ref e) h' → E (.ref e) { s with heap := h' }) : leaveE w A env E (.ref e) s := by
  refine wpAny_leaves_madeW (Around.frames_deeper I.S0.st) I.loc (stays_hide h _) I.S.funs hx.of fun h' t x1 x2 x3 x4 => hQ h' ⟨e, .ref t, rfl, flyingW_base I.hideStays x1, (I.kept.slots.trans (.of_keeps hx.keeps)).trans x4⟩
/-- an exception of a callee leaves the frame -/
theorem leave_thrown {env : Env} {h₀ : Heap} {L : Addr} {m : Str → Option Value} {h : Heap} {e : Value} {cls : String} (I : In w d A outer env h₀ L h m) (hx : Thrown (env :: outer) h cls e s.heap)
    (hQ : ∀ h', Thrown outer h₀ cls e h' → E e { s with heap := h' }) : leaveE w A env E e s := by
  obtain ⟨a, a0, rfl, f1, f2⟩ := hx
  refine wpAny_leaves_onW (Around.frames_deeper I.S0.st) I.loc f1 fun h' x1 x2 => hQ h' ⟨a, a0, rfl, flyingW_base I.hideStays x1, (I.kept.slots.trans f2).trans x2⟩
end
end Mine
end
/- part I5 -/
section
open PySem PySem.W PyProof.Rows
set_option Elab.async false
set_option maxRecDepth 100000
set_option maxHeartbeats 1000000
namespace Mine
section
variable {w : World} {d : Nat} {A : Around} {outer : List Env} {env : Env} {h₀ h h' : Heap} {L it : Addr} {m : Str → Option Value}
theorem In.touchs (I : In w d A outer env h₀ L h m) {T : List Addr} (hT : ∀ b ∈ T, h₀.get? b = none ∧ b ≠ L) (k : ∀ b o, b ∉ T → h.get? b = some o → h'.get? b = some o) : In w d A outer env h₀ L h' m := by
  have ne0 : ∀ b o, h₀.get? b = some o → b ∉ T := fun b o e q => by rw [(hT b q).1] at e; cases e
  have k1 : Kept (frs outer) h₀ h' := ⟨fun b o n e => k b o (ne0 b o e) (I.kept.stays b o n e), fun b o e nf => by
    obtain ⟨sl, q⟩ := I.kept.slots b o e nf
    exact ⟨sl, k b _ (ne0 b o e) q⟩⟩
  have hL : L ∉ T := fun q => (hT L q).2 rfl
  refine ⟨I.S0, ⟨I.S.hd, I.S.st, fun env' he => ?_, I.S.dp, I.S.un, I.S0.ok.kept I.S0.hi k1⟩, k1, I.new, ?_, I.loc⟩
  · obtain ⟨a, L', o, es, n, e1, e2, e3, e4⟩ := I.S.fr env' he
    refine ⟨a, L', o, es, n, e1, k L' o ?_ e2, e3, e4⟩
    rcases List.mem_cons.mp he with r | r
    · subst r
      rw [I.loc] at e1
      obtain rfl := Option.some.inj e1
      exact hL
    · obtain ⟨_, L2, o2, es2, n2, f1, f2, _⟩ := I.S0.fr env' r
      rw [e1] at f1
      obtain rfl := Option.some.inj f1
      exact ne0 _ _ f2
  · obtain ⟨o, es, ep, x1, x2⟩ := I.ns
    exact ⟨o, es, ep, k L o hL x1, x2⟩
end
section
variable {w : World} {d : Nat} {A : Around} {outer : List Env} {env : Env} {h₀ : Heap} {L : Addr} {m : Str → Option Value} {s : Shared} {R : Result → Shared → Prop}
/-- a for loop within a frame, over whatever walks -/
theorem for_walk {x : Str} {px : Pos} {body : List Stmt} {it : Addr} {fp wr : List Addr} {n : Nat} {P : Nat → Value → Prop} {St : Nat → Heap → Prop} (J : Nat → (Str → Option Value) → Heap → Prop)
    (I : In w d A outer env h₀ L s.heap m) (W : Walks thePw w (A.deeper env) it fp wr n P St) (st : St 0 s.heap) (hwr : ∀ b ∈ wr, h₀.get? b = none ∧ b ≠ L) (hfp : L ∉ fp) (h0 : J 0 m s.heap)
    (hJ : ∀ i m h h', J i m h → (∀ b o, b ∉ wr → b ≠ L → h.get? b = some o → h'.get? b = some o) → J i m h')
    (step : ∀ i v h' m' tk, i < n → P i v → J i m' h' → In w d A outer env h₀ L h' (fun y => if y = x then some v else m' y) →
      wpAny (model thePw w) (A.deeper env) (execs body env) (fun f s₃ => match f with
        | .next | .cont => ∃ h'' m'' tk'', s₃ = { s with heap := h'', toks := tk'' } ∧ In w d A outer env h₀ L h'' m'' ∧ J (i + 1) m'' h'' ∧ ∀ b ∈ fp, ∀ o, h'.get? b = some o → h''.get? b = some o
        | .brk => R (.ok .next) s₃
        | .ret v => R (.ok (.ret v)) s₃) (notedBy (model thePw w) (A.deeper env) env fun e s' => R (.error e) s') { s with heap := h', toks := tk })
    (fin : ∀ h' m' tk, J n m' h' → In w d A outer env h₀ L h' m' → R (.ok .next) { s with heap := h', toks := tk })
    (hx : env.kindOf x = some .local := by rfl) (hL : env.locals = L := by rfl) (hp : (env.scope.kind == .class || (env.scope.kind == .module && env.locals != env.globals)) = false := by rfl) :
    codeAny (model thePw w) (A.deeper env) (.forLoop (.Name x px) (.ref it) body [] env) R s := by
  refine codeAny_forLoop (fun k s' => ∃ i h' m' tk, k = n - i ∧ i ≤ n ∧ s' = { s with heap := h', toks := tk } ∧ St i h' ∧ In w d A outer env h₀ L h' m' ∧ J i m' h') ?_ n
    ⟨0, s.heap, m, s.toks, by omega, Nat.zero_le _, rfl, st, I, h0⟩
  rintro k s' ⟨i, h', m', tk, rfl, hi, rfl, st', I', j'⟩
  by_cases hin : i = n
  · subst hin
    refine W.done _ _ _ st' fun h₂ tk₂ hk => ?_
    refine wpAny_execs_nil (fin h₂ m' tk₂ (hJ _ _ _ _ j' fun b o n1 _ e => hk b o n1 e) (I'.touchs hwr hk))
  · refine W.item i _ _ _ (by omega) st' fun v h₂ tk₂ pv st₂ hk => ?_
    have I₂ := I'.touchs hwr hk
    have j₂ := hJ _ _ _ _ j' fun b o n1 _ e => hk b o n1 e
    refine wpAny_assign_Name (stL I₂ (fun h₃ tk₃ I₃ hs₃ => ?_) hx hL hp)
    have st₃ : St (i + 1) h₃ := W.frame _ _ _ st₂ fun b hb o e => (hs₃.2 b (fun q => hfp (q ▸ hb))).trans e
    have j₃ := hJ _ _ _ _ j₂ fun b o _ n2 e => (hs₃.2 b n2).trans e
    refine wpAny_mono (step i v h₃ m' tk₃ (by omega) pv j₃ I₃) (fun f s₃ hf => ?_) fun _ _ e => e
    have key : (∃ h'' m'' tk'', s₃ = { s with heap := h'', toks := tk'' } ∧ In w d A outer env h₀ L h'' m'' ∧ J (i + 1) m'' h'' ∧ ∀ b ∈ fp, ∀ o, h₃.get? b = some o → h''.get? b = some o) → ∃ k', k' < n - i ∧ ∃ i h' m' tk, k' = n - i ∧ i ≤ n ∧ s₃ = { s with heap := h', toks := tk } ∧ St i h' ∧ In w d A outer env h₀ L h' m' ∧ J i m' h' := by
      rintro ⟨h₄, m₄, tk₄, rfl, I₄, j₄, hk₄⟩
      exact ⟨n - (i + 1), by omega, i + 1, h₄, m₄, tk₄, rfl, by omega, rfl, W.frame _ _ _ st₃ hk₄, I₄, j₄⟩
    cases f with
    | next => exact key hf
    | cont => exact key hf
    | brk => exact hf
    | ret v => exact hf
end
/-- the same but for the heap and the drawn names -/
structure Same (s s' : Shared) : Prop where
  gens : s'.gens = s.gens
  drawn : s'.drawn = s.drawn
  os : s'.os = s.os
theorem Same.refl (s : Shared) : Same s s := ⟨rfl, rfl, rfl⟩
theorem Same.trans {a b c : Shared} (x : Same a b) (y : Same b c) : Same a c := ⟨y.gens.trans x.gens, y.drawn.trans x.drawn, y.os.trans x.os⟩
theorem Same.eq {s s' : Shared} (x : Same s s') : s' = { s with heap := s'.heap, toks := s'.toks } := by
  obtain ⟨a, b, c, d, e⟩ := s'
  obtain ⟨rfl, rfl, rfl⟩ := x
  rfl
theorem for_walkS {w : World} {d : Nat} {A : Around} {outer : List Env} {env : Env} {h₀ : Heap} {L : Addr} {m : Str → Option Value} {s : Shared} {R : Result → Shared → Prop} {x : Str} {px : Pos} {body : List Stmt} {it : Addr} {fp wr : List Addr} {n : Nat} {P : Nat → Value → Prop} {St : Nat → Heap → Prop} (J : Nat → (Str → Option Value) → Heap → Prop)
    (I : In w d A outer env h₀ L s.heap m) (W : Walks thePw w (A.deeper env) it fp wr n P St) (st : St 0 s.heap) (hwr : ∀ b ∈ wr, h₀.get? b = none ∧ b ≠ L) (hfp : L ∉ fp) (h0 : J 0 m s.heap)
    (hJ : ∀ i m h h', J i m h → (∀ b o, b ∉ wr → b ≠ L → h.get? b = some o → h'.get? b = some o) → J i m h')
    (step : ∀ i v s' m', Same s s' → i < n → P i v → J i m' s'.heap → In w d A outer env h₀ L s'.heap (fun y => if y = x then some v else m' y) →
      wpAny (model thePw w) (A.deeper env) (execs body env) (fun f s₃ => match f with
        | .next | .cont => ∃ m'', Same s s₃ ∧ In w d A outer env h₀ L s₃.heap m'' ∧ J (i + 1) m'' s₃.heap ∧ ∀ b ∈ fp, ∀ o, s'.heap.get? b = some o → s₃.heap.get? b = some o
        | .brk => R (.ok .next) s₃
        | .ret v => R (.ok (.ret v)) s₃) (notedBy (model thePw w) (A.deeper env) env fun e s' => R (.error e) s') s')
    (fin : ∀ s' m', Same s s' → J n m' s'.heap → In w d A outer env h₀ L s'.heap m' → R (.ok .next) s')
    (hx : env.kindOf x = some .local := by rfl) (hL : env.locals = L := by rfl) (hp : (env.scope.kind == .class || (env.scope.kind == .module && env.locals != env.globals)) = false := by rfl) :
    codeAny (model thePw w) (A.deeper env) (.forLoop (.Name x px) (.ref it) body [] env) R s := by
  refine for_walk J I W st hwr hfp h0 hJ (fun i v h' m' tk hi pv j' I' => ?_) (fun h' m' tk j' I' => fin _ m' ⟨rfl, rfl, rfl⟩ j' I') hx hL hp
  refine wpAny_mono (step i v { s with heap := h', toks := tk } m' ⟨rfl, rfl, rfl⟩ hi pv j' I') (fun f s₃ hf => ?_) fun _ _ e => e
  have key : (∃ m'', Same s s₃ ∧ In w d A outer env h₀ L s₃.heap m'' ∧ J (i + 1) m'' s₃.heap ∧ ∀ b ∈ fp, ∀ o, h'.get? b = some o → s₃.heap.get? b = some o) → ∃ h'' m'' tk'', s₃ = { s with heap := h'', toks := tk'' } ∧ In w d A outer env h₀ L h'' m'' ∧ J (i + 1) m'' h'' ∧ ∀ b ∈ fp, ∀ o, h'.get? b = some o → h''.get? b = some o := by
    rintro ⟨m₄, sm, I₄, j₄, hk₄⟩
    exact ⟨s₃.heap, m₄, s₃.toks, sm.eq, I₄, j₄, hk₄⟩
  cases f with
  | next => exact key hf
  | cont => exact key hf
  | brk => exact hf
  | ret v => exact hf
theorem stS {w : World} {d : Nat} {A : Around} {outer : List Env} {env : Env} {h₀ : Heap} {L : Addr} {m : Str → Option Value} {M : Model} {E : Value → Shared → Prop} {s : Shared} {A' : Around} {x : Str} {v : Value} {Q : Unit → Shared → Prop} (I : In w d A outer env h₀ L s.heap m)
    (h : ∀ s', Same s s' → In w d A outer env h₀ L s'.heap (fun y => if y = x then some v else m y) → Heap.SameBut L s.heap s'.heap → Q () s')
    (hx : env.kindOf x = some .local := by rfl) (hL : env.locals = L := by rfl) (hp : (env.scope.kind == .class || (env.scope.kind == .module && env.locals != env.globals)) = false := by rfl) : wpAny M A' (storeName env x v) Q E s :=
  stL I (fun h' tk I' hs => h { s with heap := h', toks := tk } ⟨rfl, rfl, rfl⟩ I' hs) hx hL hp
theorem tb {M : Model} {A : Around} {E : Value → Shared → Prop} {s : Shared} {Q : Bool → Shared → Prop} {b : Bool} (b' : Bool) (e : b = b') (h : Q b' s) : wpAny M A (truthy (.bool b)) Q E s := by
  subst e; exact wpAny_truthy_bool h
theorem isList_lt {h : Heap} {l : Addr} {xs : Array Value} (x : h.IsList l xs) : @LT.lt Nat _ l h.objs.size := by
  obtain ⟨o, ho, _⟩ := x
  exact Heap.lt_size ho
theorem In.listNe {w : World} {d : Nat} {A : Around} {outer : List Env} {env : Env} {h₀ h : Heap} {L : Addr} {m : Str → Option Value} (I : In w d A outer env h₀ L h m) {l : Addr} {xs : Array Value} (x : h₀.IsList l xs) : l ≠ L := by
  obtain ⟨o, ho, _⟩ := x
  exact I.ne ho
end Mine
end
/- part I6 -/
section
open PySem PySem.W PyProof.Rows
set_option Elab.async false
set_option maxRecDepth 100000
set_option maxHeartbeats 1000000
namespace Mine
def wordsOk (ns : List Int) (one many : Int) : Bool := decide ((ns.length : Int) = many) && ns.all fun n => decide (0 ≤ n) && decide (n ≤ 2 ^ one.toNat - 1)

section
variable {w : World} {d : Nat} {A : Around} {outer : List Env} {E : Value → Shared → Prop} {s : Shared}
theorem c_valid_words {l : Addr} {items : Array Value} {ns : List Int} {one many : Int} {t1 t2 : Tok} {Q : Value → Shared → Prop}
    (S : Sit w d A outer s.heap) (hd : d ≤ 19) (hl : s.heap.IsList l items) (hi : IntsAre items.toList ns) (hlen : ns.length ≤ 2 ^ 20) (h1 : 0 ≤ one) (h2 : one ≤ 1000)
    (h : ∀ h' tk, Kept (frs outer) s.heap h' → Q (.bool (wordsOk ns one many)) { s with heap := h', toks := tk }) :
    wpAny (model thePw w) A (call (.ref 1315) [.ref l, .int one t1, .int many t2]) Q E s := by
  refine callF [("words", .ref l), ("word_size", .int one t1), ("num_words", .int many t2)] S (by omega) (o := kf1315) rfl rfl rfl rfl rfl rfl ⟨1314, _, _, _, rfl, rfl, rfl, rfl⟩ (.of_eq (by rfl)) (locs (by rfl)) (by decide) ?_
  intro h₁ L tk I
  have hsz : items.size = ns.length := by rw [← ints_len hi, Array.length_toList]
  show wpAny (model thePw w) (A.deeper (envF kf1315 1315 L)) (execs (_ :: _ :: _ :: _ :: _ :: []) (envF kf1315 1315 L)) _ _ _
  -- isinstance
  refine wpAny_execs_cons (wpAny_If (wpAny_isTrue_Not (wpAny_isTrue_value ?_ (by rfl))))
  refine wpAny_Call_NameR (ldB I.S.ok (g_none _ _ (by decide)) b_isinstance ?_)
  refine Calls.callWith_builtin rfl (Calls.evalArgs_plain (Calls.spliced_cons (ldL I.ns rfl ?_)))
  refine Calls.spliced_cons ?_
  refine wpAny_Tuple_spliced (x1 := 0) ?_
  refine Calls.spliced_cons (ldB I.S.ok (g_none _ _ (by decide)) b_list ?_)
  refine Calls.spliced_cons (ldB I.S.ok (g_none _ _ (by decide)) b_tuple ?_)
  refine Calls.spliced_cons (ldB I.S.ok (g_none _ _ (by decide)) b_bytes ?_)
  refine Calls.spliced_cons (ldB I.S.ok (g_none _ _ (by decide)) b_bytearray ?_)
  refine Calls.spliced_nil ⟨by decide, Calls.spliced_nil ?_⟩
  have hl₁ : h₁.IsList l items := I.kept.isList hl
  refine IsiPair.tupleOf (Tx := "list") (vs := [true, false, false, false]) ?ans (Heap.IsList.typeIs (hl₁.push _)) (Heap.get?_push_size _ rfl) ?_
  case ans => pv_isi_answers
  intro tk1
  have I1 := I.push { cls := .type "tuple", data := .seq [Value.type "list", .type "tuple", .type "bytes", .type "bytearray"].toArray }
  have hl₂ := I1.kept.isList hl
  revert I1 hl₂
  generalize Heap.push h₁ _ = h₂
  intro I1 hl₂
  refine wpAny_truthy_bool ?_
  show wpAny (model thePw w) (A.deeper (envF kf1315 1315 L)) (execs [] (envF kf1315 1315 L)) _ _ _
  refine wpAny_execs_nil ?_
  -- len
  refine wpAny_execs_cons (wpAny_If (wpAny_isTrue_Compare1 ?_))
  refine wpAny_Call_NameR (ldB I1.S.ok (g_none _ _ (by decide)) b_len ?_)
  refine Calls.callWith_builtin rfl (Calls.evalArgs_plain (Calls.spliced_cons (ldL I1.ns rfl ?_)))
  refine Calls.spliced_nil (len_list hl₂ (by omega) ?_)
  refine ldL I1.ns rfl ?_
  refine P.ne_int ?_
  refine wpAny_truthy_bool ?_
  by_cases hm : (ns.length : Int) = many
  case neg =>
    have e1 : ((items.size : Int) != many) = true := by rw [hsz]; simpa using hm
    rw [e1]
    show wpAny (model thePw w) (A.deeper (envF kf1315 1315 L)) (execs (_ :: []) (envF kf1315 1315 L)) _ _ _
    refine wpAny_execs_cons (wpAny_Return_some (wpAny_Constant_bool ?_))
    have e2 : wordsOk ns one many = false := by simp [wordsOk, hm]
    rw [e2] at h
    exact h _ _ I1.kept
  have e1 : ((items.size : Int) != many) = false := by rw [hsz]; simpa using hm
  rw [e1]
  show wpAny (model thePw w) (A.deeper (envF kf1315 1315 L)) (execs [] (envF kf1315 1315 L)) _ _ _
  refine wpAny_execs_nil ?_
  -- max_word
  refine wpAny_execs_cons (wpAny_Assign_Name ?_ (by rfl))
  refine wpAny_BinOp (wpAny_BinOp (wpAny_Constant_int (ldL I1.ns rfl ?_)))
  refine pow_int_small h1 (by omega) (by decide) ?_
  refine wpAny_Constant_int (P.sub_int ?_)
  refine stL I1 ?_
  intro h₃ tk3 I3 hs3
  have hl₃ := I3.kept.isList hl
  -- for
  refine wpAny_execs_cons (wpAny_For ?_)
  refine ldL I3.ns rfl ?_
  refine wpAny_pyIter_list hl₃ ?_
  have I4 := I3.push { cls := .type "list_iterator", data := .fields #[.ref l, .int 0 0] }
  have hne : l ≠ h₃.objs.size := Nat.ne_of_lt (isList_lt hl₃)
  have hlL : l ≠ L := I3.listNe hl
  refine for_walk (fun i m _ => m "max_word" = some (.int (2 ^ one.toNat - 1) _) ∧ ∀ j n, j < i → ns[j]? = some n → 0 ≤ n ∧ n ≤ 2 ^ one.toNat - 1) I4 (Walks.list I4.S.hd _ _ hne items) ⟨⟨_, Heap.get?_push_size _ rfl, rfl, rfl⟩, hl₃.push _⟩ ?_ ?_ ⟨rfl, fun j n hj => by omega⟩ ?_ ?_ ?_
  · intro b hb
    obtain rfl := List.mem_singleton.mp hb
    exact ⟨I3.freshS, I3.Lne⟩
  · intro q
    rcases List.mem_cons.mp q with q | q
    · exact I3.Lne q.symm
    · exact hlL (List.mem_singleton.mp q).symm
  · intro _ _ _ _ j _
    exact j
  · rintro i v h₅ m₅ tk5 hi5 pv ⟨j1, j2⟩ I5
    obtain ⟨n, t, hn, rfl⟩ := ints_get hi i v (by simpa using pv)
    show wpAny (model thePw w) (A.deeper (envF kf1315 1315 L)) (execs (_ :: []) (envF kf1315 1315 L)) _ _ _
    refine wpAny_execs_cons (wpAny_If (wpAny_isTrue_Not ?_))
    refine isTrue_chain (wpAny_Constant_int ?_)
    refine test_link (ldL I5.ns (if_pos rfl) (P.le_int ?_))
    have notIn : ¬ (0 ≤ n ∧ n ≤ 2 ^ one.toNat - 1) → wordsOk ns one many = false := fun hc => by
      have : (ns.all fun n => decide (0 ≤ n) && decide (n ≤ 2 ^ one.toNat - 1)) = false := by
        rw [List.all_eq_false]
        refine ⟨n, List.mem_of_getElem? hn, ?_⟩
        rw [Bool.and_eq_true, decide_eq_true_eq, decide_eq_true_eq]
        exact hc
      rw [wordsOk, this, Bool.and_false]
    by_cases c1 : 0 ≤ n
    case neg =>
      refine tb false (decide_eq_false c1) ?_
      show wpAny (model thePw w) (A.deeper (envF kf1315 1315 L)) (execs (_ :: []) (envF kf1315 1315 L)) _ _ _
      refine wpAny_execs_cons (wpAny_Return_some (wpAny_Constant_bool ?_))
      rw [notIn fun q => c1 q.1] at h
      exact h _ _ I5.kept
    refine tb true (decide_eq_true c1) ?_
    refine test_last (ldL I5.ns ((if_neg (by decide)).trans j1) (P.le_int ?_))
    by_cases c2 : n ≤ 2 ^ one.toNat - 1
    case neg =>
      refine tb false (decide_eq_false c2) ?_
      show wpAny (model thePw w) (A.deeper (envF kf1315 1315 L)) (execs (_ :: []) (envF kf1315 1315 L)) _ _ _
      refine wpAny_execs_cons (wpAny_Return_some (wpAny_Constant_bool ?_))
      rw [notIn fun q => c2 q.2] at h
      exact h _ _ I5.kept
    refine tb true (decide_eq_true c2) ?_
    show wpAny (model thePw w) (A.deeper (envF kf1315 1315 L)) (execs [] (envF kf1315 1315 L)) _ _ _
    refine wpAny_execs_nil ?_
    refine wpAny_execs_nil ⟨_, _, _, rfl, I5, ⟨(if_neg (by decide)).trans j1, fun j n' hj e => ?_⟩, fun _ _ _ e => e⟩
    rcases Nat.lt_succ_iff_lt_or_eq.mp hj with q | q
    · exact j2 j n' q e
    · subst q
      rw [hn] at e
      obtain rfl := Option.some.inj e
      exact ⟨c1, c2⟩
  · rintro h₅ m₅ tk5 ⟨j1, j2⟩ I5
    show wpAny (model thePw w) (A.deeper (envF kf1315 1315 L)) (execs (_ :: []) (envF kf1315 1315 L)) _ _ _
    refine wpAny_execs_cons (wpAny_Return_some (wpAny_Constant_bool ?_))
    have e2 : wordsOk ns one many = true := by
      simp only [wordsOk, hm, decide_true, Bool.true_and, List.all_eq_true, Bool.and_eq_true, decide_eq_true_eq]
      intro n hn
      obtain ⟨j, hj, e⟩ := List.getElem_of_mem hn
      exact j2 j n (by rw [hsz]; exact hj) (by rw [List.getElem?_eq_getElem hj, e])
    rw [e2] at h
    exact h _ _ I5.kept
end
end Mine
end
/- part I7 -/
section
open PySem PySem.W PyProof.Rows
open Sem (wp)
open AutoSeq1 (wpAny_loadPart')
set_option Elab.async false
set_option maxRecDepth 100000
set_option maxHeartbeats 1000000
namespace Mine
theorem nolen_lr : typeLookup (.type "list_reverseiterator") "__len__" = pure none := by rw [typeLookup_type, builtinLookup_eq_fast]; kernel_rfl
theorem hint_lr : typeLookup (.type "list_reverseiterator") "__length_hint__" = pure (some (.builtin "list_reverseiterator.__length_hint__")) := by rw [typeLookup_type, builtinLookup_eq_fast]; kernel_rfl
section
variable {prog : Program} {w : World} {A : Around} {E : Value → Shared → Prop} {s : Shared} {I : Addr} {fp wr : List Addr} {G : Array GenState → Array GenState → Prop} {n : Nat} {P : Nat → Value → Prop} {St : Nat → Shared → Prop}
/-- what a list walked backwards gives, collected -/
theorem collect_rev {Q : List Value → Shared → Prop}
    (W : WalksS prog w A.in1 I fp wr G n P St) (hT : ∀ i s, St i s → s.TypeIs (.ref I) "list_reverseiterator") (hst : St 0 s) (hfp : ∀ b ∈ fp, b < s.heap.objs.size) (hI : I ∈ fp)
    (hQ : ∀ s' acc, Moved wr G s s' → ItemsOf P acc n → Q acc.toList s') (hn : n ≤ sizeLine) : wpAny (model prog w) A (collect (.ref I)) Q E s := by
  have hSf : s.heap.objs.size ∉ fp := fun hm => Nat.lt_irrefl _ (hfp _ hm)
  have hSI : s.heap.objs.size ≠ I := fun e => hSf (e ▸ hI)
  unfold collect
  refine wpAny_bind (wpAny_runValue (codeAny_builtin F.entry_proto_collect ?_))
  rw [Around.under_plainId F.plain_proto_collect _]
  show wpAny _ A.in1 (newList [] >>= fun l => again (.builtin "list.__iadd__" ⟨[l, .ref I], []⟩)) _ _ s
  refine wpAny_bind (wpAny_newObj_type ?_)
  refine wpAny_pure ⟨plainId_quiet F.plain_list_iadd _, codeAny_builtin F.entry_list_iadd ?_⟩
  rw [Around.under_plainId F.plain_list_iadd _]
  have hst₁ := W.frame 0 s (s.heap.push { cls := .type "list", data := .seq ([] : List Value).toArray }) s.toks hst (Nat.le_refl _) fun b _ o e => Heap.get?_push_of_some _ e
  have hS₁ : (s.heap.push { cls := .type "list", data := .seq ([] : List Value).toArray }).get? s.heap.objs.size = some { cls := .type "list", data := .seq ([] : List Value).toArray } := Heap.get?_push_size _ rfl
  have h1 : Builtin.List.listSameRef (.ref s.heap.objs.size) (.ref I) = false := by simp [Builtin.List.listSameRef, hSI]
  show wpAny _ A.in1 (Builtin.List.listExtendWith (.ref s.heap.objs.size) (.ref I) (.ref s.heap.objs.size)) _ _ _
  unfold Builtin.List.listExtendWith
  refine wpAny_bind (wpAny_typeOf (hT 0 _ hst₁) ?_)
  rw [if_neg (by rw [h1]; decide)]
  refine wpAny_bind (W.self 0 _ _ _ hst₁ ?_)
  refine wpAny_bind (wpAny_holding ?_)
  unfold Builtin.List.listLengthHint
  refine wpAny_bind (wpAny_specialOf (hT 0 _ hst₁) nolen_lr ?_)
  show wpAny _ A.in1 (specialOf (Value.ref I) (Str.ofString "__length_hint__") >>= _) _ _ _
  refine wpAny_bind (wpAny_specialOf (hT 0 _ hst₁) hint_lr ?_)
  (generalize hid : ("list_reverseiterator.__length_hint__" : String) = id0; (fail_if_success (clear hid id0)); wp_delta; rw [show splitId id0 = some ("list_reverseiterator", "__length_hint__") from by subst hid; decide +kernel]; subst hid)
  refine wpAny_bind (wpAny_isInstance (b := true) (hT 0 _ hst₁) (by rw [isSubtype_type]; kernel_rfl) ?_)
  refine wpAny_pure ?_
  rw [if_neg (by decide)]
  refine wpAny_pure ⟨plainId_quiet F.plain_extend_loop _, codeAny_extend_loopS W hn _ hSf _ n 0 _ _ _ rfl (Nat.zero_le _) hst₁ hS₁ (ItemsOf.nil P) fun s' acc' c' hm hS' hacc => ?_⟩
  show wpAny _ A (load s.heap.objs.size >>= _) _ _ s'
  refine wpAny_bind (wpAny_load hS' ?_)
  exact wpAny_pure (hQ s' acc' (Moved.drop_new (o := { cls := .type "list", data := .seq ([] : List Value).toArray }) (tk := s.toks) hm (Nat.le_refl _)) hacc)

theorem tuple_new_rev {Q₁ : Value → Shared → Prop} (W : WalksS prog w A.in1.in1 I fp wr G n P St) (hT : ∀ i s, St i s → s.TypeIs (.ref I) "list_reverseiterator") (hst : St 0 s) (hfp : ∀ b ∈ fp, b < s.heap.objs.size) (hI : I ∈ fp)
    (h : ∀ s' acc, Moved wr G s s' → ItemsOf P acc n → Q₁ (.ref s'.heap.objs.size) { s' with heap := s'.heap.push { cls := .type "tuple", data := .seq acc } }) (hsz : n ≤ sizeLine) :
    codeAny (model prog w) A (.call (.builtin "tuple.__new__") ⟨[.type "tuple", .ref I], []⟩) (wants Q₁ E) s := by
  refine codeAny_of_tree ?_
  show wpAny _ A.in1 (do checkBuiltinCall "tuple.__new__" ⟨[.type "tuple", .ref I], []⟩; again (.builtin "tuple.__new__" ⟨[.type "tuple", .ref I], []⟩)) _ _ s
  refine wpAny_bind (wpAny_of_eq (F.newCall_tuple_1 _) (wpAny_pure ⟨plainId_quiet F.plain_tuple_new _, codeAny_builtin F.entry_tuple_new ?_⟩))
  rw [Around.under_plainId F.plain_tuple_new _]
  have hsub := sub_tuple_self
  have hinit := init_tuple_lookup
  have hmh := madeHere_tuple
  have hTI := hT 0 s hst
  wp_walk using wpAny_typeOf hTI, collect_rev (hn := hsz) W hT hst hfp hI
  intro s' acc hm hacc
  show wpAny _ _ (Builtin.Tuple.tupleExact acc.toList.toArray >>= fun v => ret v) _ _ _
  unfold Builtin.Tuple.tupleExact
  refine wpAny_bind (wpAny_newObj_type ?_ (by show acc.toList.toArray.size ≤ sizeLine; simp only [Array.toArray_toList]; rw [hacc.1]; exact hsz))
  refine wpAny_pure ?_
  have e : acc.toList.toArray = acc := by simp
  rw [e]
  exact h s' acc hm hacc
end
section
variable {prog : Program} {w : World} {A : Around} {E : Value → Shared → Prop} {s : Shared}
/-- tuple(reversed(l)), the second half -/
theorem call_tuple_rev {I l : Addr} {items : Array Value} {Q : Value → Shared → Prop} (hh : A.handled = none) (hit : s.heap.IsRevIter I l ((items.size : Int) - 1)) (hl : s.heap.IsList l items)
    (hQ : ∀ (h' : Heap) tk (acc : Array Value), (∀ b o, b ≠ I → s.heap.get? b = some o → h'.get? b = some o) → acc.toList = items.toList.reverse → Q (.ref h'.objs.size) { s with heap := h'.push { cls := .type "tuple", data := .seq acc }, toks := tk })
    (hsz : items.size ≤ sizeLine) :
    wpAny (model prog w) A (call (.type "tuple") [.ref I]) Q E s := by
  have hne : l ≠ I := fun q => by
    obtain ⟨o, ho, hc, _⟩ := hl
    obtain ⟨o', ho', hc', _⟩ := hit
    rw [q, ho'] at ho
    obtain rfl := Option.some.inj ho
    rw [hc] at hc'; exact absurd hc' (by decide)
  have hlt : ∀ b ∈ [I, l], @LT.lt Nat _ b s.heap.objs.size := fun b hb => by
    rcases List.mem_cons.mp hb with q | q
    · subst q; obtain ⟨o, ho, _⟩ := hit; exact Heap.lt_size ho
    · obtain rfl := List.mem_singleton.mp q; exact isList_lt hl
  have W := (Walks.listRev (prog := prog) (w := w) (A := A.in1.in1.in1) hh I l hne items).toS
  refine callType_codes (Q₁ := fun obj s₁ => s₁.TypeIs obj "tuple" ∧ Q obj s₁) F.called_tuple (F.typeCall_tuple_1 _) F.entry_object_init
    (tuple_new_rev (hsz := hsz) W (fun i s st => st.2.1.typeIs) ⟨Nat.zero_le _, by simpa using hit, hl⟩ hlt (.head _) fun s' acc hm hacc => ⟨⟨_, Heap.get?_push_size _ rfl, rfl⟩, ?_⟩) fun obj s₁ h₁ => ?_
  · obtain ⟨h', g', d', tk', os'⟩ := s'
    have e1 : g' = s.gens := hm.gens
    have e2 : d' = s.drawn := hm.drawn
    have e3 : os' = s.os := hm.os
    subst e1 e2 e3
    refine hQ h' tk' acc (fun b o hb e => hm.heap b o (fun q => hb (List.mem_singleton.mp q)) e) ?_
    apply List.ext_getElem?
    intro j
    have hs : acc.toList.length = items.size := by rw [Array.length_toList]; exact hacc.1
    by_cases hj : j < items.size
    · rw [List.getElem?_reverse (by rw [Array.length_toList]; exact hj), Array.length_toList]
      have e := hacc.2 j _ (Array.getElem?_eq_getElem (by rw [hacc.1]; exact hj))
      rw [Array.getElem?_toList, Array.getElem?_toList, e]
      exact Array.getElem?_eq_getElem (by rw [hacc.1]; exact hj)
    · rw [List.getElem?_eq_none (by omega), List.getElem?_eq_none (by rw [List.length_reverse, Array.length_toList]; omega)]
  · exact ⟨h₁.1, F.args_object_init_2 obj _, object_init_meets F.called_tuple.init.lookup F.called_tuple.made (by decide) prog w A.in1 _ s₁ ⟨h₁.1, rfl, h₁.2⟩⟩
end
end Mine
end
/- part I8 -/
section
open PySem PySem.W PyProof.Rows
set_option Elab.async false
set_option maxRecDepth 100000
set_option maxHeartbeats 1000000
namespace Mine
/-- the words of a number, the lowest first -/
def lowWords (v : Int) (one k : Nat) : List Int := (List.range k).map fun i => v / 2 ^ (one * i) % 2 ^ one
theorem lowWords_succ (v : Int) (one k : Nat) : lowWords v one (k + 1) = lowWords v one k ++ [v / 2 ^ (one * k) % 2 ^ one] := by
  simp [lowWords, List.range_succ]
theorem bitAnd_mask (a : Int) (one : Nat) (ha : 0 ≤ a) : Builtin.bitAnd a (2 ^ one - 1) = a % 2 ^ one := by
  obtain ⟨n, rfl⟩ := Int.eq_ofNat_of_zero_le ha
  have e : ((2 : Int) ^ one - 1) = ((2 ^ one - 1 : Nat) : Int) := by
    have := Nat.one_le_two_pow (n := one)
    push_cast [this]; rfl
  rw [e]
  have p : (0 : Int) ≤ ((2 ^ one - 1 : Nat) : Int) := Int.natCast_nonneg _
  rw [bitAnd_pp (Int.natCast_nonneg _) p, Int.toNat_natCast, Int.toNat_natCast, Nat.and_two_pow_sub_one_eq_mod]
  push_cast; rfl
def OwnL (h : Heap) (D : Addr) (xs : Array Value) : Prop := ∃ n, h.get? D = some { cls := .type "list", data := .seq xs n }
theorem OwnL.isList {h : Heap} {D : Addr} {xs : Array Value} (x : OwnL h D xs) : h.IsList D xs := let ⟨n, e⟩ := x; ⟨_, e, rfl, n, rfl⟩
theorem OwnL.plain {h : Heap} {D : Addr} {xs : Array Value} (x : OwnL h D xs) : PlainL h D xs := let ⟨n, e⟩ := x; ⟨_, n, e, rfl, rfl, rfl⟩
theorem OwnL.at {h h' : Heap} {D : Addr} {xs : Array Value} (x : OwnL h D xs) (k : ∀ o, h.get? D = some o → h'.get? D = some o) : OwnL h' D xs := let ⟨n, e⟩ := x; ⟨n, k _ e⟩
theorem OwnL.push {h : Heap} {D : Addr} {xs : Array Value} (x : OwnL h D xs) (o : Obj) : OwnL (h.push o) D xs := x.at fun _ e => Heap.get?_push_of_some _ e
theorem OwnL.lt {h : Heap} {D : Addr} {xs : Array Value} (x : OwnL h D xs) : @LT.lt Nat _ D h.objs.size := let ⟨_, e⟩ := x; Heap.lt_size e
theorem ints_push {xs : Array Value} {ns : List Int} (h : IntsAre xs.toList ns) (n : Int) (t : Tok) : IntsAre (xs.push (.int n t)).toList (ns ++ [n]) := by
  rw [Array.toList_push]
  generalize xs.toList = l at h
  induction h with
  | nil => exact .cons n t .nil
  | cons k u _ ih => exact .cons k u ih
theorem ints_snoc_rev {l : List Value} {ns : List Int} (h : IntsAre l ns) (n : Int) (t : Tok) : IntsAre (l ++ [.int n t]) (ns ++ [n]) := by
  induction h with
  | nil => exact .cons n t .nil
  | cons k u _ ih => exact .cons k u ih
theorem ints_rev {l : List Value} {ns : List Int} (h : IntsAre l ns) : IntsAre l.reverse ns.reverse := by
  induction h with
  | nil => exact .nil
  | cons k u _ ih => rw [List.reverse_cons, List.reverse_cons]; exact ints_snoc_rev ih k u
theorem range_size (n : Nat) : Builtin.Range.rangeSize 0 (n : Int) 1 = (n : Int) := by
  unfold Builtin.Range.rangeSize
  rw [if_pos (by decide)]
  split
  · rw [Int.ediv_one]; omega
  · omega
theorem range_small (n : Nat) (h : n ≤ 2 ^ 30) : Builtin.Range.small 0 (n : Int) 1 = true := by
  unfold Builtin.Range.small
  rw [range_size]
  simp [Builtin.Range.rangeFitsLong]
  omega
section
variable {w : World} {d : Nat} {A : Around} {outer : List Env} {env : Env} {h₀ : Heap} {L D : Addr} {m : Str → Option Value} {M : Model} {A' : Around} {E : Value → Shared → Prop} {s : Shared} {xs : Array Value} {x : Value} {Q : Value → Shared → Prop}
theorem app_own {prog : Program} {w' : World} (I : In w d A outer env h₀ L s.heap m) (hD : OwnL s.heap D xs) (hD0 : h₀.get? D = none) (hDL : D ≠ L)
    (k : ∀ h', OwnL h' D (xs.push x) → In w d A outer env h₀ L h' m → (∀ b o, b ≠ D → s.heap.get? b = some o → h'.get? b = some o) → Q .none { s with heap := h' }) (hsz : xs.size ≤ sizeLine) :
    wpAny (model prog w') A' (call (.builtin "list.append") [.ref D, x]) Q E s := by
  obtain ⟨n, hn⟩ := hD
  refine append_exact hn (fun h' k' hs => ?_) hsz
  exact k h' ⟨_, k'⟩ (I.touch hD0 hDL hs.extBut) hs.extBut
end
section
variable {w : World} {d : Nat} {A : Around} {outer : List Env} {E : Value → Shared → Prop} {s : Shared}
theorem ev_nil {w : World} {d : Nat} {A A' : Around} {outer : List Env} {env env' : Env} {h₀ : Heap} {L : Addr} {m : Str → Option Value} {M : Model} {E : Value → Shared → Prop} {s : Shared} {pos : Pos} {Q : Value → Shared → Prop} (I : In w d A outer env h₀ L s.heap m)
    (k : ∀ s' D, Same s s' → OwnL s'.heap D #[] → In w d A outer env h₀ L s'.heap m → h₀.get? D = none → D ≠ L → s.heap.get? D = none → (∀ b o, s.heap.get? b = some o → s'.heap.get? b = some o) → Q (.ref D) s') : wpAny M A' (eval (.List [] pos) env') Q E s :=
  wpAny_List (Calls.spliced_nil ⟨by decide, k _ s.heap.objs.size ⟨rfl, rfl, rfl⟩ ⟨0, Heap.get?_push_size _ rfl⟩ (I.push _) I.freshS I.Lne (Heap.get?_none_of_le (Nat.le_refl _)) fun _ _ e => Heap.get?_push_of_some _ e⟩)
theorem range_it {w : World} {d : Nat} {A A' : Around} {outer : List Env} {env : Env} {h₀ : Heap} {L : Addr} {m : Str → Option Value} {E : Value → Shared → Prop} {s : Shared} {n : Nat} {t : Tok} {Q : Value → Shared → Prop} (I : In w d A outer env h₀ L s.heap m) (hn : n ≤ 2 ^ 30)
    (k : ∀ s' it, Same s s' → In w d A outer env h₀ L s'.heap m → IsRangeIter s'.heap it 0 (n : Int) 1 → h₀.get? it = none → it ≠ L → s.heap.get? it = none → (∀ b o, s.heap.get? b = some o → s'.heap.get? b = some o) → Q (.ref it) s') :
    wpAny (model thePw w) A' (call (.type "range") [.int (n : Int) t]) (fun r s₁ => wpAny (model thePw w) A' (pyIter r) Q E s₁) E s := by
  refine call_range_1 ?_
  refine wpAny_pyIter_range (Heap.get?_push_size _ rfl) (range_small _ hn) ?_
  rw [range_size]
  have I1 := I.push { cls := .type "range", data := .fields #[.int 0 s.toks, .int (n : Int) t, .int 1 (s.toks + 1)] }
  have up : ∀ b o, s.heap.get? b = some o → ((s.heap.push { cls := .type "range", data := .fields #[.int 0 s.toks, .int (n : Int) t, .int 1 (s.toks + 1)] }).push { cls := .type "range_iterator", data := .fields #[rawInt 0, rawInt (n : Int), rawInt 1] }).get? b = some o :=
    fun _ _ e => Heap.get?_push_of_some _ (Heap.get?_push_of_some _ e)
  refine k _ _ ⟨rfl, rfl, rfl⟩ (I1.push _) (Heap.get?_push_size _ rfl) I1.freshS I1.Lne ?_ up
  refine Heap.get?_none_of_le ?_
  show s.heap.objs.size ≤ (s.heap.push _).objs.size
  rw [Heap.size_push]; exact Nat.le_succ _
/-- raise X('text') -/
theorem raise_text {w : World} {d : Nat} {A : Around} {outer : List Env} {env : Env} {h₀ : Heap} {L : Addr} {m : Str → Option Value} {E : Value → Shared → Prop} {s : Shared} {cls newId initId : String} (FC : ExcCallFacts cls newId initId) (FR : ExcRaiseFacts cls) {x : Str} {np cpos pos p1 : Pos} {k1 : Nat} {tx : Str} {rest : List Stmt} {Q : Flow → Shared → Prop}
    (I : In w d A outer env h₀ L s.heap m) (hx : bootBuiltins x = some (.type cls)) (hm : gNames w.params x = none)
    (hE : ∀ e s', Same s s' → Thrown outer h₀ cls e s'.heap → E e s')
    (hn : x ≠ "__name__" := by decide) (hk : env.scope.kind = .function := by rfl) (hkx : env.kindOf x = some .globalImplicit := by rfl) (hgl : env.globals = 3 := by rfl) (hbl : env.builtins = 0 := by rfl)
    (hd : (x == ("__debug__" : Str)) = false := by decide) :
    wpAny (model thePw w) (A.deeper env) (execs (.Raise (some (.Call (.Name x np) [.Constant (.str tx) k1 p1] [] cpos)) none pos :: rest) env) Q (leaveE w A env E) s := by
  refine wpAny_execs_cons ?_
  refine Raise_madeB FC FR I.S.hd ?_
  refine ldB I.S.ok hm hx ⟨rfl, ?_⟩ hn hk hkx hgl hbl hd
  refine Calls.spliced_cons (wpAny_Constant_str (k := k1) (pos := p1) (Calls.spliced_nil ⟨(by decide : 1 ≤ sizeLine), ?_⟩))
  intro h' e hx
  exact leave_made I hx fun h' ht => hE _ _ ⟨rfl, rfl, rfl⟩ ht
theorem c_int_to_words {v : Int} {one many : Nat} {t0 t1 t2 : Tok} {Q : Value → Shared → Prop}
    (S : Sit w d A outer s.heap) (hd : d ≤ 19) (h1 : 1 ≤ one ∧ one ≤ 16) (h2 : 1 ≤ many ∧ many ≤ 8)
    (hok : 0 ≤ v → v < 2 ^ (one * many) → ∀ s' t xs, Same s s' → Kept (frs outer) s.heap s'.heap → s.heap.get? t = none → s'.heap.IsTuple t xs → IntsAre xs.toList (lowWords v one many).reverse → Q (.ref t) s')
    (hbad : ¬ (0 ≤ v ∧ v < 2 ^ (one * many)) → ∀ e s', Same s s' → Thrown outer s.heap "IndexError" e s'.heap → E e s') :
    wpAny (model thePw w) A (call (.ref 1322) [.int v t0, .int (one : Int) t1, .int (many : Int) t2]) Q E s := by
  refine callF [("int_val", .int v t0), ("word_size", .int one t1), ("num_words", .int many t2)] S (by omega) (o := kf1322) rfl rfl rfl rfl rfl rfl ⟨1321, _, _, _, rfl, rfl, rfl, rfl⟩ (.of_eq (by rfl)) (locs (by rfl)) (by decide) ?_
  intro h₁ L tk I
  show wpAny (model thePw w) (A.deeper (envF kf1322 1322 L)) (execs (_ :: _ :: _ :: _ :: _ :: _ :: []) (envF kf1322 1322 L)) _ _ _
  -- max_int
  refine wpAny_execs_cons (wpAny_Assign_Name ?_ (by rfl))
  refine wpAny_BinOp (wpAny_BinOp (wpAny_Constant_int (wpAny_BinOp (ldL I.ns rfl (ldL I.ns rfl ?_)))))
  have hmul : (many : Int) * (one : Int) = ((one * many : Nat) : Int) := by rw [Int.mul_comm]; push_cast; rfl
  have hb : one * many ≤ 128 := Nat.mul_le_mul h1.2 h2.2
  refine P.mul_int ?_ (IntMulOk.of_left (intBits_le_64 (by omega) (by omega)))
  rw [hmul]
  refine pow_int_small (Int.natCast_nonneg _) (by omega) (by decide) ?_
  rw [Int.toNat_natCast]
  refine wpAny_Constant_int (P.sub_int ?_)
  refine stS I ?_
  intro s₂ sm2 I2 _
  replace sm2 : Same s s₂ := ⟨sm2.gens, sm2.drawn, sm2.os⟩
  -- bounds
  refine wpAny_execs_cons (wpAny_If (wpAny_isTrue_Not ?_))
  refine isTrue_chain (wpAny_Constant_int ?_)
  refine test_link (ldL I2.ns rfl (P.le_int ?_))
  by_cases c1 : 0 ≤ v
  case neg =>
    refine tb false (decide_eq_false c1) ?_
    show wpAny (model thePw w) (A.deeper (envF kf1322 1322 L)) (execs (_ :: []) (envF kf1322 1322 L)) _ _ _
    refine raise_text F.excCall_IndexError F.excRaise_IndexError I2 b_IndexError (g_none _ _ (by decide)) fun e s' x2 x3 => hbad (fun q => c1 q.1) _ _ (sm2.trans ⟨x2.gens, x2.drawn, x2.os⟩) x3
  refine tb true (decide_eq_true c1) ?_
  refine test_last (ldL I2.ns rfl (P.le_int ?_))
  by_cases c2 : v ≤ 2 ^ (one * many) - 1
  case neg =>
    refine tb false (decide_eq_false c2) ?_
    show wpAny (model thePw w) (A.deeper (envF kf1322 1322 L)) (execs (_ :: []) (envF kf1322 1322 L)) _ _ _
    refine raise_text F.excCall_IndexError F.excRaise_IndexError I2 b_IndexError (g_none _ _ (by decide)) fun e s' x2 x3 => hbad (fun q => c2 (Int.le_sub_one_of_lt q.2)) _ _ (sm2.trans ⟨x2.gens, x2.drawn, x2.os⟩) x3
  refine tb true (decide_eq_true c2) ?_
  show wpAny (model thePw w) (A.deeper (envF kf1322 1322 L)) (execs [] (envF kf1322 1322 L)) _ _ _
  refine wpAny_execs_nil ?_
  -- max_word
  refine wpAny_execs_cons (wpAny_Assign_Name ?_ (by rfl))
  refine wpAny_BinOp (wpAny_BinOp (wpAny_Constant_int (ldL I2.ns rfl ?_)))
  refine pow_int_small (Int.natCast_nonneg _) (by omega) (by decide) ?_
  rw [Int.toNat_natCast]
  refine wpAny_Constant_int (P.sub_int ?_)
  refine stS I2 ?_
  intro s₃ sm3 I3 _
  replace sm3 : Same s s₃ := ⟨sm3.gens.trans sm2.gens, sm3.drawn.trans sm2.drawn, sm3.os.trans sm2.os⟩
  -- words = []
  refine wpAny_execs_cons (wpAny_Assign_Name ?_ (by rfl))
  refine ev_nil I3 ?_
  intro s₄ D sm4 hD I4 hD0 hDL _ _
  refine stS I4 ?_
  intro s₅ sm5 I5 hs5
  replace sm5 : Same s s₅ := (sm3.trans sm4).trans sm5
  have hD5 : OwnL s₅.heap D #[] := hD.at fun o e => (hs5.2 D hDL).trans e
  -- for
  refine wpAny_execs_cons (wpAny_For ?_)
  refine wpAny_Call_NameR (ldB I5.S.ok (g_none _ _ (by decide)) b_range ?_)
  refine PySem.callWith_type rfl (Calls.evalArgs_plain (Calls.spliced_cons (ldL I5.ns rfl ?_)))
  refine Calls.spliced_nil (range_it I5 (by omega) ?_)
  intro s₆ it sm6 I6 hit hit0 hitL hits up6
  have hD6 : OwnL s₆.heap D #[] := hD5.at fun o e => up6 D o e
  have sm := (sm5.trans sm6)
  have hne : D ≠ it := fun q => by obtain ⟨_, e⟩ := hD5; rw [q, hits] at e; cases e
  refine for_walkS (fun i m h => (∃ t, m "int_val" = some (.int (v / 2 ^ (one * i)) t)) ∧ (∃ t, m "max_word" = some (.int (2 ^ one - 1) t)) ∧ m "words" = some (.ref D) ∧ m "word_size" = some (.int (one : Int) t1) ∧
    ∃ xs, OwnL h D xs ∧ xs.size = i ∧ IntsAre xs.toList (lowWords v one i)) I6 (Walks.range I5.S.hd it 0 1 many) ?_ ?_ ?_ ?_ ?_ ?_ ?_
  · simpa using hit
  · intro b hb
    obtain rfl := List.mem_singleton.mp hb
    exact ⟨hit0, hitL⟩
  · intro q
    exact hitL (List.mem_singleton.mp q).symm
  · refine ⟨⟨t0, ?_⟩, ⟨_, rfl⟩, rfl, rfl, #[], hD6, rfl, .nil⟩
    rw [Nat.mul_zero, Int.pow_zero, Int.ediv_one]
    rfl
  · rintro i m h h' ⟨j1, j2, j3, j4, xs, j5, j5', j6⟩ hk
    exact ⟨j1, j2, j3, j4, xs, j5.at fun o e => hk D o (fun q => hne (List.mem_singleton.mp q)) hDL e, j5', j6⟩
  · rintro i u s₆ m₆ sm6 hi pv ⟨⟨ta, j1⟩, ⟨tb', j2⟩, j3, j4, xs, j5, j5', j6⟩ I7
    show wpAny (model thePw w) (A.deeper (envF kf1322 1322 L)) (execs (_ :: _ :: _ :: []) (envF kf1322 1322 L)) _ _ _
    refine wpAny_execs_cons (wpAny_Assign_Name ?_ (by rfl))
    refine wpAny_BinOp (ldL I7.ns ((if_neg (by decide)).trans j1) (ldL I7.ns ((if_neg (by decide)).trans j2) ?_))
    refine and_int ?_
    refine stS I7 ?_
    intro s₇ sm7 I8 hs7
    refine wpAny_execs_cons (wpAny_Expr_any ?_ (by rfl) (by rfl))
    refine wpAny_Call_append (by rfl) (by rfl) (by rfl) (by rfl) ?_
    refine ldL I8.ns ((if_neg (by decide)).trans ((if_neg (by decide)).trans j3)) ?_
    have hD7 : OwnL s₇.heap D xs := j5.at fun o e => (hs7.2 D hDL).trans e
    refine ⟨D, xs, rfl, hD7.plain, ?_⟩
    refine wpAny_Call_NameR (ldB I8.S.ok (g_none _ _ (by decide)) b_int ?_)
    refine PySem.callWith_type rfl (Calls.evalArgs_plain (Calls.spliced_cons (ldL I8.ns (if_pos rfl) ?_)))
    refine Calls.spliced_nil (call_int_int ?_)
    have hs8 : xs.size ≤ sizeLine := Nat.le_trans (by omega : xs.size ≤ 8) (by decide)
    refine app_own I8 hD7 hD0 hDL ?_ hs8
    intro h₈ hD8 I9 up8
    refine wpAny_execs_cons (wpAny_AugAssign_Name ?_)
    refine wpAny_loadName_local (by rfl) (by rfl) I9.ns ((if_neg (by decide)).trans ((if_neg (by decide)).trans j1)) ?_
    refine ldL I9.ns ((if_neg (by decide)).trans ((if_neg (by decide)).trans j4)) ?_
    have e1 : (v / 2 ^ (one * i)).fdiv (2 ^ ((one : Nat) : Int).toNat) = v / 2 ^ (one * (i + 1)) := by
      rw [Int.toNat_natCast, Int.fdiv_eq_ediv_of_nonneg _ (Int.le_of_lt (Int.pow_pos (by decide))), Int.ediv_ediv_of_nonneg (Int.le_of_lt (Int.pow_pos (by decide))), ← Int.pow_add, Nat.mul_succ]
    refine irshift_int (Int.natCast_nonneg _) ?_
    refine stS I9 ?_
    intro s₉ sm9 I10 hs9
    refine wpAny_execs_nil ⟨_, (sm6.trans ⟨sm7.gens, sm7.drawn, sm7.os⟩).trans ⟨sm9.gens, sm9.drawn, sm9.os⟩, I10, ⟨⟨_, (if_pos rfl).trans (congrArg (fun z => some (Value.int z _)) e1)⟩, ⟨_, (if_neg (by decide)).trans ((if_neg (by decide)).trans ((if_neg (by decide)).trans j2))⟩,
      (if_neg (by decide)).trans ((if_neg (by decide)).trans ((if_neg (by decide)).trans j3)), (if_neg (by decide)).trans ((if_neg (by decide)).trans ((if_neg (by decide)).trans j4)), _, hD8.at fun o e => (hs9.2 D hDL).trans e, ?_, ?_⟩, ?_⟩
    · rw [Array.size_push, j5']
    · rw [lowWords_succ, bitAnd_mask _ _ (Int.ediv_nonneg c1 (Int.le_of_lt (Int.pow_pos (by decide))))]
      exact ints_push j6 _ _
    · intro b hb o e
      obtain rfl := List.mem_singleton.mp hb
      exact (hs9.2 _ hitL).trans (up8 _ _ hne.symm ((hs7.2 _ hitL).trans e))
  · rintro s₆ m₆ sm6 ⟨⟨ta, j1⟩, ⟨tb', j2⟩, j3, j4, xs, j5, j5', j6⟩ I7
    show wpAny (model thePw w) (A.deeper (envF kf1322 1322 L)) (execs (_ :: []) (envF kf1322 1322 L)) _ _ _
    refine wpAny_execs_cons (wpAny_Return_some ?_)
    refine wpAny_Call_NameR (ldB I7.S.ok (g_none _ _ (by decide)) b_tuple ?_)
    refine PySem.callWith_type rfl (Calls.evalArgs_plain (Calls.spliced_cons ?_))
    refine wpAny_Call_NameR (ldB I7.S.ok (g_none _ _ (by decide)) b_reversed ?_)
    refine PySem.callWith_type rfl (Calls.evalArgs_plain (Calls.spliced_cons (ldL I7.ns j3 ?_)))
    refine Calls.spliced_nil (call_reversed_list j5.isList ?_)
    have hs8 : xs.size ≤ sizeLine := Nat.le_trans (by omega : xs.size ≤ 8) (by decide)
    have I8 := I7.push (revObj D ((xs.size : Int) - 1))
    refine Calls.spliced_nil (call_tuple_rev I7.S.hd ⟨_, Heap.get?_push_size _ rfl, rfl, rfl⟩ (j5.isList.push _) ?_ hs8)
    intro h' tk' acc hk hacc
    have I9 : In w d A outer (envF kf1322 1322 L) s.heap L h' m₆ := I8.touch I7.freshS I7.Lne fun b o hb e => hk b o hb e
    have I10 := I9.push { cls := .type "tuple", data := .seq acc }
    have hrev : IntsAre acc.toList (lowWords v one many).reverse := by
      rw [hacc]; exact ints_rev j6
    have hc2 : v < 2 ^ (one * many) := Int.lt_of_le_sub_one c2
    exact hok c1 hc2 _ h'.objs.size acc ⟨sm6.gens.trans (sm.gens), sm6.drawn.trans sm.drawn, sm6.os.trans sm.os⟩ I10.kept I9.freshS ⟨_, Heap.get?_push_size _ rfl, rfl, _, rfl⟩ hrev
end
end Mine
end
/- part I9 -/
section
open PySem PySem.W PyProof.Rows
open Sem (wp)
open AutoSeq1 (wpAny_loadPart')
set_option Elab.async false
set_option maxRecDepth 100000
set_option maxHeartbeats 1000000
namespace Mine
section
variable {prog : Program} {w : World} {A : Around} {E : Value → Shared → Prop} {s : Shared}
theorem nextOf_rev_item {it l : Addr} {i : Nat} {items : Array Value} {x : Value} {Q : Value → Shared → Prop} (hit : s.heap.IsRevIter it l (i : Int)) (hl : s.heap.IsList l items) (hx : items[i]? = some x)
    (hQ : ∀ h', h'.IsRevIter it l ((i : Int) - 1) → Heap.SameBut it s.heap h' → Q x { s with heap := h' }) : wpAny (model prog w) A (Builtin.SmallTypes.nextOf (.ref it)) Q E s := by
  obtain ⟨o, ho, hc, hd⟩ := id hit
  obtain ⟨ol, hol, _, nl, hdl⟩ := hl
  unfold Builtin.SmallTypes.nextOf
  refine wpAny_bind (wpAny_callSpecial?_slot (name := Str.ofString "__next__") hit.typeIs F.slot_lri_next
    (wpAny_call_entry F.slot_lri_next hit.typeIs F.entry_lri_next ?_ (F.args_lri_next_1 _)))
  unfold Builtin.«list_reverseiterator.__next__»
  refine wpAny_bind (wpAny_of_eq (a := (Value.ref it, [])) rfl ?_)
  try dsimp only
  refine wpAny_bind (wpAny_field ho hd (x := rawInt (i : Int)) rfl ?_)
  show wpAny _ _ (if (i : Int) < 0 then _ else _) _ _ s
  rw [if_neg (by omega)]
  show wpAny _ _ (field (.ref it) 0 >>= _) _ _ s
  refine wpAny_bind (wpAny_field ho hd (x := .ref l) rfl ?_)
  show wpAny _ _ (seqItems? (.ref l) >>= _) _ _ s
  refine wpAny_bind (wpAny_seqItems hol hdl ?_)
  simp only [Int.toNat_natCast, hx]
  refine wpAny_bind (wpAny_setField ho hd (by simp) ?_)
  first
  | refine wpAny_pure ⟨x, rfl, wpAny_pure (hQ _ ?_ (Heap.SameBut.update ..))⟩
  | refine wpAny_bind (wpAny_pure (wpAny_pure ⟨x, rfl, wpAny_pure (hQ _ ?_ (Heap.SameBut.update ..))⟩))
  exact ⟨_, Heap.get?_update_self _ ho (Obj.isFreed_of_fields (Obj.data_mapFields hd _)), (Obj.cls_mapFields ..).trans hc, by
    rw [Obj.data_mapFields hd]; simp⟩
theorem nextOf_rev_end {it l : Addr} {Q : Value → Shared → Prop} (hh : A.handled = none) (hit : s.heap.IsRevIter it l (-1))
    (hE : ∀ h' e, Heap.ExtBut it s.heap h' → (∃ o, h'.get? e = some o ∧ o.cls = .type "StopIteration") → E (.ref e) { s with heap := h' }) :
    wpAny (model prog w) A (Builtin.SmallTypes.nextOf (.ref it)) Q E s := by
  obtain ⟨o, ho, hc, hd⟩ := id hit
  unfold Builtin.SmallTypes.nextOf
  refine wpAny_bind (wpAny_callSpecial?_slot (name := Str.ofString "__next__") hit.typeIs F.slot_lri_next
    (wpAny_call_entry F.slot_lri_next hit.typeIs F.entry_lri_next ?_ (F.args_lri_next_1 _)))
  unfold Builtin.«list_reverseiterator.__next__»
  refine wpAny_bind (wpAny_of_eq (a := (Value.ref it, [])) rfl ?_)
  try dsimp only
  refine wpAny_bind (wpAny_field ho hd (x := rawInt (-1)) rfl ?_)
  show wpAny _ _ (if (-1 : Int) < 0 then _ else _) _ _ s
  rw [if_pos (by decide)]
  refine wpAny_bind (wpAny_rule ?_)
  first
  | show wpAny _ _ (newExc (.type "StopIteration") [] >>= _) _ _ _
  | (refine wpAny_bind ?_; show wpAny _ _ (newExc (.type "StopIteration") [] >>= _) _ _ _)
  refine wpAny_bind ?_
  simp only [newExc, newTuple]
  refine wpAny_bind (wpAny_newObj_type ?_ (by size_fits))
  refine wpAny_bind (m := firstArgMember _ _) (wpAny_of_eq (a := Value.none) (by first | rfl | (simp only [firstArgMember]; rfl)) ?_)
  refine wpAny_newObj_type ?_ (by size_fits)
  simp only [raiseNew]
  refine wpAny_bind (wpAny_handled ?_)
  first | rw [show A.in1.handled = none from hh] | rw [hh]
  refine wpAny_bind (wpAny_pure (wpAny_throw ?_))
  exact hE _ _ (((Heap.ExtBut.refl _ _).push _).push _) ⟨_, Heap.get?_push_size _ rfl, rfl⟩
end
theorem drawsRev {prog : Program} {w : World} {A : Around} (hh : A.handled = none) (I l : Addr) (hne : l ≠ I) (items : Array Value) :
    Draws prog w A I [I, l] items.size (fun i v => items[items.size - 1 - i]? = some v) (fun i h => i ≤ items.size ∧ h.IsRevIter I l ((items.size : Int) - 1 - (i : Int)) ∧ h.IsList l items) where
  live := fun _ _ st => let ⟨o, ho, _⟩ := st.2.1; ⟨o, ho⟩
  frame := fun _ _ _ x hk => ⟨x.1, x.2.1.at fun o e => hk I (by simp) o e, x.2.2.at fun o e => hk l (by simp) o e⟩
  item := fun i s Q E hi x hQ => by
    have e : (items.size : Int) - 1 - (i : Int) = ((items.size - 1 - i : Nat) : Int) := by omega
    have hit := x.2.1
    rw [e] at hit
    have hx : items[items.size - 1 - i]? = some (items[items.size - 1 - i]'(by omega)) := Array.getElem?_eq_getElem (by omega)
    refine nextOf_rev_item hit x.2.2 hx fun h' hit' hs' => ?_
    have e2 : ((items.size - 1 - i : Nat) : Int) - 1 = (items.size : Int) - 1 - ((i + 1 : Nat) : Int) := by omega
    rw [e2] at hit'
    exact hQ _ h' s.toks hx ⟨hi, hit', x.2.2.at fun o eo => (hs'.2 l hne).trans eo⟩ hs'
  done := fun s Q E x hQ => by
    have e : (items.size : Int) - 1 - (items.size : Int) = -1 := by omega
    have hit := x.2.1
    rw [e] at hit
    exact nextOf_rev_end hh hit hQ
theorem enumerate_new_rev (it l : Addr) (i : Int) :
    Meets (Builtin.«enumerate.__new__» ⟨[.type "enumerate", .ref it], []⟩) (fun _ R s => s.heap.get? it = some (revObj l i) ∧
      R (.ok (.ret (.ref s.heap.objs.size))) { s with heap := s.heap.push { cls := .type "enumerate", data := .fields #[.none, .bool false, .ref it, rawInt 0, .none, .none] } }) :=
  .of_wp fun prog w A R s h => by
    obtain ⟨hp, g, d, tk, os⟩ := s; obtain ⟨hl, h⟩ := h
    have hsub := sub_enumerate
    have hL : Heap.IsRevIter (Shared.heap ⟨hp, g, d, tk, os⟩) it l i := ⟨_, hl, rfl, rfl⟩
    wp_walk using wpAny_loadPart' hl
    refine wpAny_stack_any fun st => wpAny_pure ?_
    split
    · rename_i c _ _ _ _ _
      cases (c == Value.type "enumerate")
      · wp_walk using wpAny_loadPart' hl, wpAny_pyIter_revIter hL
        exact ⟨_, rfl, h⟩
      · wp_walk using wpAny_loadPart' hl, wpAny_pyIter_revIter hL
        exact ⟨_, rfl, h⟩
    · wp_walk using wpAny_loadPart' hl, wpAny_pyIter_revIter hL
      exact ⟨_, rfl, h⟩
end Mine
end
/- part I10 -/
section
open PySem PySem.W PyProof.Rows
open Sem (wp)
set_option Elab.async false
set_option maxRecDepth 100000
set_option maxHeartbeats 1000000
namespace Mine
section
variable {prog : Program} {w : World} {A : Around} {E : Value → Shared → Prop} {s : Shared}
theorem call_enumerate_rev {it l : Addr} {i : Int} {Q : Value → Shared → Prop} (hit : s.heap.get? it = some (revObj l i))
    (h : Q (.ref s.heap.objs.size) { s with heap := s.heap.push { cls := .type "enumerate", data := .fields #[.none, .bool false, .ref it, rawInt 0, .none, .none] } }) :
    wpAny (model prog w) A (call (.type "enumerate") [.ref it]) Q E s :=
  callType_new F.called_enumerate (by decide) (F.typeCall_enumerate_1 _) (F.newCall_enumerate_1 _) (fun obj => F.args_object_init_2 obj _) F.entry_enumerate_new
    (enumerate_new_rev it l i) ⟨hit, ⟨_, Heap.get?_push_size _ rfl, rfl⟩, h⟩
end
theorem for_enum {w : World} {d : Nat} {A : Around} {outer : List Env} {env : Env} {h₀ : Heap} {L : Addr} {m : Str → Option Value} {s : Shared} {R : Result → Shared → Prop} {xi xv : Str} {pi pv pt : Pos} {x1 : Nat} {body : List Stmt} {it : Addr} {fp wr : List Addr} {n : Nat} {P : Nat → Value → Prop} {St : Nat → Heap → Prop} {Mid : Nat → Addr → Heap → Prop} (J : Nat → (Str → Option Value) → Heap → Prop)
    (I : In w d A outer env h₀ L s.heap m) (W : WalksT thePw w (A.deeper env) it fp wr n (fun i vals => ∃ t x, P i x ∧ vals = #[.int i t, x]) St Mid) (st : St 0 s.heap) (hwr : ∀ b ∈ wr, h₀.get? b = none ∧ b ≠ L) (hfp : L ∉ fp) (hlt : ∀ i h, St i h → ∀ b ∈ fp, @LT.lt Nat _ b h.objs.size) (h0 : J 0 m s.heap)
    (hJ : ∀ i m h h', J i m h → (∀ b o, b ∉ wr → b ≠ L → h.get? b = some o → h'.get? b = some o) → J i m h')
    (step : ∀ i v t s' m', Same s s' → i < n → P i v → J i m' s'.heap → In w d A outer env h₀ L s'.heap (fun y => if y = xv then some v else if y = xi then some (.int (i : Int) t) else m' y) →
      wpAny (model thePw w) (A.deeper env) (execs body env) (fun f s₃ => match f with
        | .next | .cont => ∃ m'', Same s s₃ ∧ In w d A outer env h₀ L s₃.heap m'' ∧ J (i + 1) m'' s₃.heap ∧ ∀ b ∈ fp, ∀ o, s'.heap.get? b = some o → s₃.heap.get? b = some o
        | .brk => R (.ok .next) s₃
        | .ret v => R (.ok (.ret v)) s₃) (notedBy (model thePw w) (A.deeper env) env fun e s' => R (.error e) s') s')
    (fin : ∀ s' m', Same s s' → J n m' s'.heap → In w d A outer env h₀ L s'.heap m' → R (.ok .next) s')
    (hxi : env.kindOf xi = some .local := by rfl) (hxv : env.kindOf xv = some .local := by rfl) (hL : env.locals = L := by rfl) (hp : (env.scope.kind == .class || (env.scope.kind == .module && env.locals != env.globals)) = false := by rfl) :
    codeAny (model thePw w) (A.deeper env) (.forLoop (.Tuple [.Name xi pi, .Name xv pv] x1 pt) (.ref it) body [] env) R s := by
  refine codeAny_forLoop_any (fun k s' => ∃ i m', k = n - i ∧ i ≤ n ∧ Same s s' ∧ St i s'.heap ∧ In w d A outer env h₀ L s'.heap m' ∧ J i m' s'.heap) ?_ n
    ⟨0, m, by omega, Nat.zero_le _, .refl s, st, I, h0⟩
  rintro k s' ⟨i, m', rfl, hi, sm, st', I', j'⟩
  by_cases hin : i = n
  · subst hin
    refine W.done _ _ _ st' fun h₂ tk₂ hk => ?_
    refine wpAny_execs_nil (fin _ m' ⟨sm.gens, sm.drawn, sm.os⟩ (hJ _ _ _ _ j' fun b o n1 _ e => hk b o n1 e) (I'.touchs hwr hk))
  · refine W.item i _ _ _ (by omega) st' fun T vals h₂ tk₂ pv hT ht mid hk => ?_
    obtain ⟨t, v, hv, rfl⟩ := pv
    have hTfp : T ∉ fp := fun q => absurd (hlt i _ st' T q) (Nat.not_lt.mpr hT)
    refine W.go _ _ _ i T _ _ _ mid fun h₃ st₃ hk₃ => ?_
    have I₂ := (I'.touchs hwr hk).touchs hwr hk₃
    have j₂ := hJ _ _ _ _ (hJ _ _ _ _ j' fun b o n1 _ e => hk b o n1 e) fun b o n1 _ e => hk₃ b o n1 e
    have ht₃ : h₃.IsTuple T #[.int (i : Int) t, v] := by
      obtain ⟨o, ho, r⟩ := ht
      exact ⟨o, hk₃ T o (W.apart _ _ _ mid) ho, r⟩
    refine wpAny_assign_Tuple I'.S.hd ht₃ rfl rfl fun h₄ hx₄ => ?_
    have up₄ : ∀ b o, h₃.get? b = some o → h₄.get? b = some o := fun b o e => hx₄ b o (Nat.ne_of_lt (Heap.lt_size e)) e
    have I₄ := I₂.ext up₄
    have j₄ := hJ _ _ _ _ j₂ fun b o _ _ e => up₄ b o e
    have st₄ : St (i + 1) h₄ := W.frame _ _ _ st₃ fun b _ o e => up₄ b o e
    show wpAny _ (A.deeper env) (do holding [v] (assign (.Name xi pi) env (.int (i : Int) t)); do holding [] (assign (.Name xv pv) env v); pure ()) _ _ _
    refine wpAny_bind (wpAny_holding (wpAny_assign_Name (stL I₄ (fun h₅ tk₅ I₅ hs₅ => ?_) hxi hL hp)))
    refine wpAny_bind (wpAny_holding (wpAny_assign_Name (stL I₅ (fun h₆ tk₆ I₆ hs₆ => wpAny_pure ?_) hxv hL hp)))
    have upL : ∀ b o, b ≠ L → h₄.get? b = some o → h₆.get? b = some o := fun b o n2 e => (hs₆.2 b n2).trans ((hs₅.2 b n2).trans e)
    have st₆ : St (i + 1) h₆ := W.frame _ _ _ st₄ fun b hb o e => upL b o (fun q => hfp (q ▸ hb)) e
    have j₆ := hJ _ _ _ _ j₄ fun b o _ n2 e => upL b o n2 e
    refine wpAny_mono (step i v t _ m' ⟨sm.gens, sm.drawn, sm.os⟩ (by omega) hv j₆ I₆) (fun f s₃ hf => ?_) fun _ _ e => e
    have key : (∃ m'', Same s s₃ ∧ In w d A outer env h₀ L s₃.heap m'' ∧ J (i + 1) m'' s₃.heap ∧ ∀ b ∈ fp, ∀ o, h₆.get? b = some o → s₃.heap.get? b = some o) → ∃ k', k' < n - i ∧ ∃ i m', k' = n - i ∧ i ≤ n ∧ Same s s₃ ∧ St i s₃.heap ∧ In w d A outer env h₀ L s₃.heap m' ∧ J i m' s₃.heap := by
      rintro ⟨m₄, sm₄, I₄', j₄', hk₄⟩
      exact ⟨n - (i + 1), by omega, i + 1, m₄, rfl, by omega, sm₄, W.frame _ _ _ st₆ hk₄, I₄', j₄'⟩
    cases f with
    | next => exact key hf
    | cont => exact key hf
    | brk => exact hf
    | ret v => exact hf
end Mine
end
/- part I11 -/
section
open PySem PySem.W PyProof.Rows
set_option Elab.async false
set_option maxRecDepth 100000
set_option maxHeartbeats 1000000
namespace Mine
/-- the number that a row of words tells (the lowest word first) -/
def tellLow (one : Nat) : List Int → Int
  | [] => 0
  | x :: r => x + 2 ^ one * tellLow one r
theorem tellLow_snoc (one : Nat) (r : List Int) (x : Int) : tellLow one (r ++ [x]) = tellLow one r + 2 ^ (one * r.length) * x := by
  induction r with
  | nil => simp [tellLow]
  | cons y r ih =>
    rw [List.cons_append, tellLow, ih, tellLow, List.length_cons, Nat.mul_succ, Int.pow_add, Int.mul_add, Int.add_assoc, Int.mul_comm (2 ^ (one * r.length)) (2 ^ one), Int.mul_assoc]
theorem tellLow_nonneg (one : Nat) : ∀ (r : List Int), (∀ x ∈ r, 0 ≤ x) → 0 ≤ tellLow one r
  | [], _ => Int.le_refl 0
  | x :: r, h => Int.add_nonneg (h x (.head _)) (Int.mul_nonneg (Int.le_of_lt (Int.pow_pos (by decide))) (tellLow_nonneg one r fun y hy => h y (.tail _ hy)))
theorem tellLow_lt (one : Nat) : ∀ (r : List Int), (∀ x ∈ r, x < 2 ^ one) → tellLow one r < 2 ^ (one * r.length)
  | [], _ => by simp [tellLow]
  | x :: r, h => by
    have h1 := h x (.head _)
    have h2 := tellLow_lt one r fun y hy => h y (.tail _ hy)
    have p : (0 : Int) < 2 ^ one := Int.pow_pos (by decide)
    rw [tellLow, List.length_cons, Nat.mul_succ, Int.pow_add]
    have h3 : 2 ^ one * (tellLow one r + 1) ≤ 2 ^ one * 2 ^ (one * r.length) := Int.mul_le_mul_of_nonneg_left h2 (Int.le_of_lt p)
    rw [Int.mul_add, Int.mul_one] at h3
    rw [Int.mul_comm (2 ^ (one * r.length))]
    omega
theorem bitOr_shift (a x : Int) (k : Nat) (ha : 0 ≤ a) (hk : a < 2 ^ k) (hx : 0 ≤ x) : Builtin.bitOr a (x * 2 ^ k) = a + 2 ^ k * x := by
  obtain ⟨n, rfl⟩ := Int.eq_ofNat_of_zero_le ha
  obtain ⟨y, rfl⟩ := Int.eq_ofNat_of_zero_le hx
  have hn : n < 2 ^ k := by exact_mod_cast hk
  have e : ((y : Int) * 2 ^ k) = ((y * 2 ^ k : Nat) : Int) := by push_cast; rfl
  rw [bitOr_and, e, bitAnd_pp (Int.natCast_nonneg _) (Int.natCast_nonneg _), Int.toNat_natCast, Int.toNat_natCast]
  have h0 : n &&& (y * 2 ^ k) = 0 := by
    apply Nat.eq_of_testBit_eq
    intro i
    rw [Nat.testBit_and, Nat.testBit_mul_two_pow, Nat.zero_testBit]
    by_cases hi : k ≤ i
    · rw [Nat.testBit_lt_two_pow (Nat.lt_of_lt_of_le hn (Nat.pow_le_pow_right (by decide) hi)), Bool.false_and]
    · simp [hi]
  rw [h0]
  push_cast
  rw [Int.mul_comm (y : Int)]
  omega
end Mine
end
/- part I12 -/
section
open PySem PySem.W PyProof.Rows
set_option Elab.async false
set_option maxRecDepth 100000
set_option maxHeartbeats 1000000
namespace Mine
section
variable {w : World} {d : Nat} {A : Around} {outer : List Env} {E : Value → Shared → Prop} {s : Shared}
theorem c_words_to_int {l : Addr} {items : Array Value} {ns : List Int} {one many : Nat} {t1 t2 : Tok} {Q : Value → Shared → Prop}
    (S : Sit w d A outer s.heap) (hd : d ≤ 18) (hl : s.heap.IsList l items) (hi : IntsAre items.toList ns) (hlen : ns.length ≤ 63) (h1 : 1 ≤ one ∧ one ≤ 16)
    (hok : wordsOk ns one many = true → ∀ s' t, Same s s' → Kept (frs outer) s.heap s'.heap → Q (.int (tellLow one ns.reverse) t) s')
    (hbad : wordsOk ns one many = false → ∀ e s', Same s s' → Thrown outer s.heap "ValueError" e s'.heap → E e s') :
    wpAny (model thePw w) A (call (.ref 1329) [.ref l, .int (one : Int) t1, .int (many : Int) t2]) Q E s := by
  refine callF [("words", .ref l), ("word_size", .int (one : Int) t1), ("num_words", .int (many : Int) t2)] S (by omega) (o := kf1329) rfl rfl rfl rfl rfl rfl ⟨1328, _, _, _, rfl, rfl, rfl, rfl⟩ (.of_eq (by rfl)) (locs (by rfl)) (by decide) ?_
  intro h₁ L tk I
  have hsz : items.size = ns.length := by rw [← ints_len hi, Array.length_toList]
  show wpAny (model thePw w) (A.deeper (envF kf1329 1329 L)) (execs (_ :: _ :: _ :: _ :: []) (envF kf1329 1329 L)) _ _ _
  refine wpAny_execs_cons (wpAny_If (wpAny_isTrue_Not (wpAny_isTrue_value ?_ (by rfl))))
  refine wpAny_Call_NameR (ldG I.S.ok (g_valid_words _) ?_)
  refine Calls.callWith_function (o := kf1315) (fd := fdOf kf1315) (Calls.evalArgs_plain (Calls.spliced_cons (ldL I.ns rfl ?_)))
  refine Calls.spliced_cons (ldL I.ns rfl ?_)
  refine Calls.spliced_cons (ldL I.ns rfl ?_)
  refine Calls.spliced_nil ⟨⟨I.S.ok.K _ _ rfl, rfl⟩, ?_⟩
  have hl₁ : h₁.IsList l items := I.kept.isList hl
  refine c_valid_words (s := { s with heap := h₁, toks := tk }) I.S (by omega) hl₁ hi (Nat.le_trans hlen (by decide)) (Int.natCast_nonneg _) (by omega) ?_
  intro h₂ tk₂ k₂
  have I2 := I.after k₂
  cases hv : wordsOk ns one many with
  | false =>
    refine tb false rfl ?_
    show wpAny (model thePw w) (A.deeper (envF kf1329 1329 L)) (execs (_ :: []) (envF kf1329 1329 L)) _ _ _
    exact raise_text F.excCall_ValueError F.excRaise_ValueError I2 b_ValueError (g_none _ _ (by decide)) fun e s' x2 x3 => hbad hv _ _ ⟨x2.gens, x2.drawn, x2.os⟩ x3
  | true =>
  refine tb true rfl ?_
  show wpAny (model thePw w) (A.deeper (envF kf1329 1329 L)) (execs [] (envF kf1329 1329 L)) _ _ _
  refine wpAny_execs_nil ?_
  have hall : ∀ x ∈ ns, 0 ≤ x ∧ x < 2 ^ one := fun x hx => by
    have := (Bool.and_eq_true_iff.mp hv).2
    have := List.all_eq_true.mp this x hx
    rw [Bool.and_eq_true, decide_eq_true_eq, decide_eq_true_eq, Int.toNat_natCast] at this
    exact ⟨this.1, Int.lt_of_le_sub_one this.2⟩
  -- int_val = 0
  refine wpAny_execs_cons (wpAny_Assign_Name (wpAny_Constant_int ?_) (by rfl))
  refine stS I2 ?_
  intro s₃ sm3 I3 hs3
  replace sm3 : Same s s₃ := ⟨sm3.gens, sm3.drawn, sm3.os⟩
  have hl₃ := I3.kept.isList hl
  refine wpAny_execs_cons (wpAny_For ?_)
  refine wpAny_Call_NameR (ldB I3.S.ok (g_none _ _ (by decide)) b_enumerate ?_)
  refine PySem.callWith_type rfl (Calls.evalArgs_plain (Calls.spliced_cons ?_))
  refine wpAny_Call_NameR (ldB I3.S.ok (g_none _ _ (by decide)) b_reversed ?_)
  refine PySem.callWith_type rfl (Calls.evalArgs_plain (Calls.spliced_cons (ldL I3.ns rfl ?_)))
  refine Calls.spliced_nil (call_reversed_list hl₃ ?_)
  have I4 := I3.push (revObj l ((items.size : Int) - 1))
  refine Calls.spliced_nil (call_enumerate_rev (Heap.get?_push_size _ rfl) ?_)
  have I5 := I4.push { cls := .type "enumerate", data := .fields #[.none, .bool false, .ref s₃.heap.objs.size, rawInt 0, .none, .none] }
  have hl₅ := (hl₃.push (revObj l ((items.size : Int) - 1))).push { cls := .type "enumerate", data := .fields #[.none, .bool false, .ref s₃.heap.objs.size, rawInt 0, .none, .none] }
  refine wpAny_pyIter_enum (it := s₃.heap.objs.size) (i := 0) (old := .none) (Heap.get?_push_size _ rfl) ?_
  have n1 : s₃.heap.objs.size < (s₃.heap.push (revObj l ((items.size : Int) - 1))).objs.size := by rw [Heap.size_push]; exact Nat.lt_succ_self _
  have nl : l < s₃.heap.objs.size := isList_lt hl₃
  have hlL : l ≠ L := I3.listNe hl
  have L1 := I3.Lne
  have L2 := I4.Lne
  have hrl : ns.reverse.length = ns.length := List.length_reverse
  have hli : l ≠ s₃.heap.objs.size := Nat.ne_of_lt nl
  have hei : (s₃.heap.push (revObj l ((items.size : Int) - 1))).objs.size ≠ s₃.heap.objs.size := Nat.ne_of_gt n1
  have hle : l ≠ (s₃.heap.push (revObj l ((items.size : Int) - 1))).objs.size := Nat.ne_of_lt (Nat.lt_trans nl n1)
  have hf1 := I3.freshS
  have hf2 := I4.freshS
  have hit5 : ((s₃.heap.push (revObj l ((items.size : Int) - 1))).push { cls := .type "enumerate", data := .fields #[.none, .bool false, .ref s₃.heap.objs.size, rawInt 0, .none, .none] }).get? s₃.heap.objs.size = some (revObj l ((items.size : Int) - 1)) :=
    Heap.get?_push_of_some _ (Heap.get?_push_size _ rfl)
  have he5 : IsEnum ((s₃.heap.push (revObj l ((items.size : Int) - 1))).push { cls := .type "enumerate", data := .fields #[.none, .bool false, .ref s₃.heap.objs.size, rawInt 0, .none, .none] }) (s₃.heap.push (revObj l ((items.size : Int) - 1))).objs.size s₃.heap.objs.size 0 .none := Heap.get?_push_size _ rfl
  revert I5 hl₅ he5 hit5 hf1 hf2 hle hei hli L1 L2
  generalize (s₃.heap.push (revObj l ((items.size : Int) - 1))).objs.size = e
  generalize s₃.heap.objs.size = it
  intro I5 hl₅ L1 L2 hli hei hle hf1 hf2 hit5 he5
  have W := WalksT.enumerateD (drawsRev (prog := thePw) (w := w) (A := (A.deeper (envF kf1329 1329 L)).in1) I3.S.hd it l hli items) e hei
    (fun q => (List.mem_cons.mp q).elim hei fun q => hle (List.mem_singleton.mp q).symm) (.head _)
  refine for_enum (fun i m h => (∃ t, m "int_val" = some (.int (tellLow one (ns.reverse.take i)) t)) ∧ m "word_size" = some (.int (one : Int) t1)) I5 W ⟨⟨_, he5⟩, Nat.zero_le _, ⟨_, hit5, rfl, by simp [revObj]⟩, hl₅⟩ ?_ ?_ ?_ ⟨⟨_, rfl⟩, rfl⟩ ?_ ?_ ?_
  · intro b hb
    rcases List.mem_cons.mp hb with q | q
    · subst q; exact ⟨hf2, L2⟩
    · obtain rfl := List.mem_singleton.mp q; exact ⟨hf1, L1⟩
  · intro q
    rcases List.mem_cons.mp q with q | q
    · exact L2 q.symm
    · rcases List.mem_cons.mp q with q | q
      · exact L1 q.symm
      · exact hlL (List.mem_singleton.mp q).symm
  · rintro i h ⟨⟨old, q1⟩, q2, ⟨o, q3, _⟩, q4⟩ b hb
    rcases List.mem_cons.mp hb with q | q
    · subst q; exact Heap.lt_size q1
    · rcases List.mem_cons.mp q with q | q
      · subst q; exact Heap.lt_size q3
      · obtain rfl := List.mem_singleton.mp q; exact isList_lt q4
  · intro _ _ _ _ j _
    exact j
  · rintro i v t s₆ m₆ sm6 hin pv ⟨⟨ta, j1⟩, j2⟩ I6
    obtain ⟨n, tn, hn, rfl⟩ := ints_get hi (items.size - 1 - i) v (by simpa using pv)
    have hn' : ns.reverse[i]? = some n := by rw [List.getElem?_reverse (by omega), ← hsz]; exact hn
    have hnm : n ∈ ns := List.mem_of_getElem? hn
    show wpAny (model thePw w) (A.deeper (envF kf1329 1329 L)) (execs (_ :: _ :: _ :: []) (envF kf1329 1329 L)) _ _ _
    refine wpAny_execs_cons (wpAny_Assign_Name (ldL I6.ns (if_pos rfl) ?_) (by rfl))
    refine stS I6 ?_
    intro s₇ sm7 I7 hs7
    refine wpAny_execs_cons (wpAny_Assign_Name ?_ (by rfl))
    refine wpAny_BinOp (ldL I7.ns (if_pos rfl) ?_)
    refine wpAny_BinOp (ldL I7.ns ((if_neg (by decide)).trans ((if_neg (by decide)).trans ((if_neg (by decide)).trans j2))) (ldL I7.ns ((if_neg (by decide)).trans ((if_neg (by decide)).trans (if_pos rfl))) ?_))
    refine P.mul_int ?_ (IntMulOk.of_left (intBits_le_64 (by omega) (by omega)))
    have hmul : (one : Int) * (i : Int) = ((one * i : Nat) : Int) := by push_cast; rfl
    have hb : one * i ≤ 16 * 63 := Nat.mul_le_mul h1.2 (by omega)
    have hp16 : (2 : Int) ^ one ≤ 2 ^ 16 := by
      have := Nat.pow_le_pow_right (n := 2) (by decide) h1.2
      exact_mod_cast this
    have hna := hall n hnm
    refine lshift_int_small (by rw [hmul]; exact Int.natCast_nonneg _) (by rw [hmul]; omega) (by omega) ?_
    refine stS I7 ?_
    intro s₈ sm8 I8 hs8
    refine wpAny_execs_cons (wpAny_Assign_Name ?_ (by rfl))
    refine wpAny_BinOp (ldL I8.ns ((if_neg (by decide)).trans ((if_neg (by decide)).trans ((if_neg (by decide)).trans ((if_neg (by decide)).trans j1)))) (ldL I8.ns (if_pos rfl) ?_))
    refine or_int ?_
    refine stS I8 ?_
    intro s₉ sm9 I9 hs9
    have hsub : ∀ x ∈ ns.reverse.take i, 0 ≤ x ∧ x < 2 ^ one := fun x hx => hall x (List.mem_reverse.mp (List.mem_of_mem_take hx))
    have htl : (ns.reverse.take i).length = i := by rw [List.length_take]; omega
    have hval : Builtin.bitOr (tellLow one (ns.reverse.take i)) (n * 2 ^ ((one : Int) * (i : Int)).toNat) = tellLow one (ns.reverse.take (i + 1)) := by
      rw [hmul, Int.toNat_natCast, List.take_add_one, hn']
      show _ = tellLow one (ns.reverse.take i ++ [n])
      rw [tellLow_snoc, htl]
      refine bitOr_shift _ _ _ (tellLow_nonneg _ _ fun x hx => (hsub x hx).1) ?_ hna.1
      have := tellLow_lt one _ fun x hx => (hsub x hx).2
      rw [htl] at this
      exact this
    refine wpAny_execs_nil ⟨_, ((sm6.trans ⟨sm7.gens, sm7.drawn, sm7.os⟩).trans ⟨sm8.gens, sm8.drawn, sm8.os⟩).trans ⟨sm9.gens, sm9.drawn, sm9.os⟩, I9, ⟨⟨_, (if_pos rfl).trans (congrArg (fun z => some (Value.int z _)) hval)⟩,
      (if_neg (by decide)).trans ((if_neg (by decide)).trans ((if_neg (by decide)).trans ((if_neg (by decide)).trans ((if_neg (by decide)).trans j2))))⟩, ?_⟩
    intro b hb o eo
    have hbL : b ≠ L := by
      rcases List.mem_cons.mp hb with q | q
      · exact q ▸ L2
      · rcases List.mem_cons.mp q with q | q
        · exact q ▸ L1
        · exact (List.mem_singleton.mp q) ▸ hlL
    exact (hs9.2 b hbL).trans ((hs8.2 b hbL).trans ((hs7.2 b hbL).trans eo))
  · rintro s₆ m₆ sm6 ⟨⟨ta, j1⟩, j2⟩ I6
    show wpAny (model thePw w) (A.deeper (envF kf1329 1329 L)) (execs (_ :: []) (envF kf1329 1329 L)) _ _ _
    refine wpAny_execs_cons (wpAny_Return_some (ldL I6.ns j1 ?_))
    have e1 : ns.reverse.take items.size = ns.reverse := List.take_of_length_le (by omega)
    rw [e1]
    exact hok hv _ _ (sm3.trans ⟨sm6.gens, sm6.drawn, sm6.os⟩) I6.kept
end
end Mine
end
/- part I14 -/
section
open PySem PySem.W PyProof.Rows
set_option Elab.async false
set_option maxRecDepth 100000
set_option maxHeartbeats 1000000
namespace Mine
section
variable {w : World} {d : Nat} {A : Around} {outer : List Env} {E : Value → Shared → Prop} {s : Shared}
theorem c_int_to_bin {v : Int} {x y : Str} {width : Nat} {t0 t1 : Tok} {Q : Value → Shared → Prop}
    (S : Sit w d A outer s.heap) (hd : d ≤ 19) (hx : baseText "0b" 2 v = x) (hy : Txt.slice x (some 2) none = y) (hlen : x.length ≤ 1100000)
    (hok : y.length ≤ width → ∀ s' t, Same s s' → Kept (frs outer) s.heap s'.heap → Q (.str (x) t) s')
    (hbad : width < y.length → ∀ e s', Same s s' → Thrown outer s.heap "IndexError" e s'.heap → E e s') :
    wpAny (model thePw w) A (call (.ref 1367) [.int v t0, .int (width : Int) t1]) Q E s := by
  refine callF [("int_val", .int v t0), ("width", .int (width : Int) t1)] S (by omega) (o := kf1367) rfl rfl rfl rfl rfl rfl ⟨1366, _, _, _, rfl, rfl, rfl, rfl⟩ (.of_eq (by rfl)) (locs (by rfl)) (by decide) ?_
  intro h₁ L tk I
  have hfit : (x).length ≤ sizeLine := Nat.le_trans hlen (by decide)
  show wpAny (model thePw w) (A.deeper (envF kf1367 1367 L)) (execs (_ :: _ :: _ :: []) (envF kf1367 1367 L)) _ _ _
  refine wpAny_execs_cons (wpAny_Assign_Name ?_ (by rfl))
  refine wpAny_Call_NameR (ldB I.S.ok (g_none _ _ (by decide)) b_bin ?_)
  refine Calls.callWith_builtin rfl (Calls.evalArgs_plain (Calls.spliced_cons (ldL I.ns rfl ?_)))
  refine Calls.spliced_nil (P.bin_of_int ?_ (hx ▸ hfit))
  rw [hx]
  refine stS I ?_
  intro s₂ sm2 I2 _
  replace sm2 : Same s s₂ := ⟨sm2.gens, sm2.drawn, sm2.os⟩
  refine wpAny_execs_cons (wpAny_If (wpAny_isTrue_Compare1 ?_))
  refine wpAny_Call_NameR (ldB I2.S.ok (g_none _ _ (by decide)) b_len ?_)
  refine Calls.callWith_builtin rfl (Calls.evalArgs_plain (Calls.spliced_cons ?_))
  refine Subscript_ (ldL I2.ns rfl ?_)
  refine wpAny_Slice ?_
  refine evalPart_some_step (wpAny_Constant_int ?_)
  refine evalPart_none_step ?_
  refine evalPart_none_step ?_
  refine tail_of_ItemOn (SBH.sliceItem_sn (P := fun h' => ∀ b o, s₂.heap.get? b = some o → h'.get? b = some o) (fun h ob p b o e => Heap.get?_push_of_some _ (p b o e)) (fun _ _ e => e) ?_ hfit) (by with_unfolding_all rfl) (by intro _; with_unfolding_all rfl)
  intro h₃ t3 k3 up3
  rw [hy]
  have I3 := I2.ext up3
  have hsl : y.length ≤ 1100000 := hy ▸ Nat.le_trans (Txt.slice_le _ _ _) hlen
  refine Calls.spliced_nil (SBL.len (by omega) ?_)
  refine ldL I3.ns rfl ?_
  refine P.gt_int ?_
  by_cases hc : width < y.length
  case neg =>
    refine tb false (decide_eq_false (by omega)) ?_
    show wpAny (model thePw w) (A.deeper (envF kf1367 1367 L)) (execs [] (envF kf1367 1367 L)) _ _ _
    refine wpAny_execs_nil ?_
    refine wpAny_execs_cons (wpAny_Return_some (ldL I3.ns rfl ?_))
    exact hok (by omega) _ _ ⟨sm2.gens, sm2.drawn, sm2.os⟩ I3.kept
  refine tb true (decide_eq_true (by omega)) ?_
  show wpAny (model thePw w) (A.deeper (envF kf1367 1367 L)) (execs (_ :: []) (envF kf1367 1367 L)) _ _ _
  refine wpAny_execs_cons ?_
  refine Raise_madeB F.excCall_IndexError F.excRaise_IndexError I3.S.hd ?_
  refine ldB I3.S.ok (g_none _ _ (by decide)) b_IndexError ⟨rfl, ?_⟩
  have e1 : (Str.empty ++ Str.ofString "binary string out of bounds: ").length ≤ 40 := by decide +kernel
  have e2 : (Str.ofString "!").length ≤ 1 := by decide +kernel
  have z : (2000000 : Nat) ≤ sizeLine := by decide
  refine Calls.spliced_cons ?_
  refine wpAny_JoinedStr (pos := default) ?_
  refine Joins_cons (wpAny_Constant_str ⟨_, _, rfl, Nat.le_trans e1 (by decide), ?_⟩)
  refine Joins_cons (wpAny_FormattedValue_s (ldL I3.ns rfl (SB.convS_str (fun t' k => SB.field_str (fun t'' k' => ⟨_, _, rfl, ?_, ?_⟩) hfit) hfit)))
  · rw [strLen_append]; omega
  refine Joins_cons (wpAny_Constant_str ⟨_, _, rfl, ?_, ?_⟩)
  · rw [strLen_append, strLen_append]; omega
  refine Joins_nil ⟨?_, ?_⟩
  · rw [strLen_append, strLen_append]; omega
  refine Calls.spliced_nil ⟨(by decide : 1 ≤ sizeLine), ?_⟩
  intro h' e hx'
  exact leave_made I3 hx' fun h' ht => hbad hc _ _ ⟨sm2.gens, sm2.drawn, sm2.os⟩ ht
end
end Mine
end
/- part C1 -/
section
open PySem PySem.W PyProof.Rows
open Sem (wp)
set_option Elab.async false
set_option maxRecDepth 100000
set_option maxHeartbeats 1000000
namespace Mine
/-- the one who calls the claim lies on the stack -/
def Called (Γ : Ctx) : Prop := ((Γ.code, default) :: Γ.below).any (fun c => c.1.isCaller) = true
theorem Called.enter {Γ : Ctx} (h : Called Γ) (c : Code) (hd : Option Value) (p : Pos) : Called (Γ.enter c hd p) := by
  unfold Called at h ⊢
  show ((c, default) :: (Γ.code, p) :: Γ.below).any (fun c => c.1.isCaller) = true
  rw [List.any_cons, List.any_cons] 
  rw [List.any_cons] at h
  rw [h, Bool.or_true]
/-- a tree within a context that has the claim's caller below -/
def wpC {α : Type} (M : Model) (A : Around) (t : Sem α) (Q : α → Shared → Prop) (E : Value → Shared → Prop) (s : Shared) : Prop :=
  ∀ Γ p, Γ.In A → Called Γ → wp M Γ t (fun a _ s' => Q a s') (fun e _ s' => E e s') p s
/-- a code whose contexts have the claim's caller strictly below -/
def codeC (M : Model) (A : Around) (c : Code) (R : Result → Shared → Prop) (s : Shared) : Prop :=
  ∀ Γ p, Γ.code = c → Γ.Below A → (Γ.below.any fun c => c.1.isCaller) = true → wpCode M Γ R p s
section
variable {α β : Type} {M : Model} {A : Around} {E : Value → Shared → Prop} {s : Shared}
theorem wpC_any {t : Sem α} {Q : α → Shared → Prop} (h : wpAny M A t Q E s) : wpC M A t Q E s := fun Γ p hΓ _ => h Γ p hΓ
theorem codeC_any {c : Code} {R : Result → Shared → Prop} (h : codeAny M A c R s) : codeC M A c R s := fun Γ p hc hΓ _ => h Γ p hc hΓ
theorem wpC_pure {a : α} {Q : α → Shared → Prop} (h : Q a s) : wpC M A (pure a) Q E s := fun _ _ _ _ => h
theorem wpC_throw {e : Value} {Q : α → Shared → Prop} (h : E e s) : wpC M A (throw e : Sem α) Q E s := fun _ _ _ _ => h
theorem wpC_mono {t : Sem α} {Q Q' : α → Shared → Prop} {E' : Value → Shared → Prop} (h : wpC M A t Q E s) (hQ : ∀ a s, Q a s → Q' a s) (hE : ∀ e s, E e s → E' e s) : wpC M A t Q' E' s :=
  fun Γ p hΓ hC => Sem.wp_mono M Γ t (fun a _ s => hQ a s) (fun e _ s => hE e s) p s (h Γ p hΓ hC)
theorem wpC_bind {m : Sem α} {f : α → Sem β} {Q : β → Shared → Prop} (h : wpC M A m (fun a s' => wpC M A (f a) Q E s') E s) : wpC M A (m >>= f) Q E s := fun Γ p hΓ hC => by
  rw [Sem.wp_bind']
  exact Sem.wp_mono M Γ m (fun a p' s' h' => h' Γ p' hΓ hC) (fun _ _ _ h' => h') p s (h Γ p hΓ hC)
/-- a first half that runs in any context -/
theorem wpC_bindA {m : Sem α} {f : α → Sem β} {Q : β → Shared → Prop} (h : wpAny M A m (fun a s' => wpC M A (f a) Q E s') E s) : wpC M A (m >>= f) Q E s := wpC_bind (wpC_any h)
theorem wpC_onRaise {m : Sem α} {k : Value → Sem Unit} {Q : α → Shared → Prop} (h : wpC M A m Q (fun e s' => wpC M A (k e) (fun _ s'' => E e s'') E s') s) : wpC M A (m.onRaise k) Q E s := fun Γ p hΓ hC => by
  rw [Sem.wp_onRaise]
  exact Sem.wp_mono M Γ m (fun _ _ _ h' => h') (fun e p' s' h' => h' Γ p' hΓ hC) p s (h Γ p hΓ hC)
theorem wpC_tryCatch {m : Sem α} {k : Value → Sem α} {Q : α → Shared → Prop} (h : wpC M A m Q (fun e s' => wpC M A (k e) Q E s') s) : wpC M A (tryCatch m k) Q E s := fun Γ p hΓ hC => by
  rw [Sem.wp_tryCatch']
  exact Sem.wp_mono M Γ m (fun _ _ _ h' => h') (fun e p' s' h' => h' Γ p' hΓ hC) p s (h Γ p hΓ hC)
theorem wpC_holding {vs : List Value} {m : Sem α} {Q : α → Shared → Prop} (h : wpC M A m Q E s) : wpC M A (holding vs m) Q E s := fun Γ p hΓ hC => by rw [Sem.wp_holding]; exact h Γ p hΓ hC
theorem wpC_keep {vs : List Value} {m : Sem α} {Q : α → Shared → Prop} (h : wpC M A m Q E s) : wpC M A (m.keep vs) Q E s := fun Γ p hΓ hC => by rw [Sem.wp_keep]; exact h Γ p hΓ hC
theorem wpC_operate {vs : List Value} {m : Sem Value} {Q : Value → Shared → Prop} (h : wpC M A m Q E s) : wpC M A (operate vs m) Q E s := fun Γ p hΓ hC => by rw [Sem.wp_operate]; exact h Γ p hΓ hC
theorem wpC_standAt {pos : Pos} {Q : Unit → Shared → Prop} (h : Q () s) : wpC M A (standAt pos) Q E s := fun _ _ _ _ => h
theorem wpC_rule {tag : String} {Q : Unit → Shared → Prop} (h : Q () s) : wpC M A (rule tag) Q E s := fun _ _ _ _ => h
theorem wpC_of_eq {t : Sem α} {a : α} {Q : α → Shared → Prop} (e : t = pure a) (h : Q a s) : wpC M A t Q E s := by rw [e]; exact wpC_pure h
/-- the stack, seen: the claim's caller is on it -/
theorem wpC_stack {Q : List (Code × Pos) → Shared → Prop} (h : ∀ st : List (Code × Pos), (st.any fun c => c.1.isCaller) = true → Q st s) : wpC M A stack Q E s := fun Γ p hΓ hC => by
  show Q ((Γ.code, p) :: Γ.below) s
  exact h _ (by rw [List.any_cons]; exact hC)
theorem wpC_runValue {c : Code} {Q : Value → Shared → Prop} (hc : codeC M A c (fun r s' => match r with | .ok (.ret v) => Q v s' | .ok _ => False | .error e => E e s') s) :
    wpC M A (runValue c) Q E s := fun Γ p hΓ hC => by
  rw [Sem.wp_runValue]
  exact hc _ p rfl (hΓ.enter c none p (by intro x; cases x)) (by show ((Γ.code, p) :: Γ.below).any _ = true; rw [List.any_cons]; exact hC)
theorem wpC_run {c : Code} {h : Option Value} {Q : Flow → Shared → Prop} (hc : codeC M (A.mark h) c (fun r s' => match r with | .ok f => Q f s' | .error e => E e s') s) (hnb : h ≠ some byPass := by intro x; cases x) :
    wpC M A (run c h) Q E s := fun Γ p hΓ hC => by
  rw [Sem.wp_run]
  exact hc _ p rfl (hΓ.enter c h p hnb) (by show ((Γ.code, p) :: Γ.below).any _ = true; rw [List.any_cons]; exact hC)
theorem wpC_call {f : Value} {pos : List Value} {kw : List (Str × Value)} {Q : Value → Shared → Prop} (hc : codeC M A (.call f ⟨pos, kw⟩) (fun r s' => match r with | .ok (.ret v) => Q v s' | .ok _ => False | .error e => E e s') s) :
    wpC M A (call f pos kw) Q E s := wpC_runValue hc
theorem codeC_mono {c : Code} {R R' : Result → Shared → Prop} (h : codeC M A c R s) (hR : ∀ r s, R r s → R' r s) : codeC M A c R' s := fun Γ p hc hΓ hC => wpCode_mono hR (h Γ p hc hΓ hC)
theorem codeC_of_tree {c : Code} {R : Result → Shared → Prop}
    (h : wpC M (A.under c) (M.den c) (fun fin s' => match fin with | .done f => R (.ok f) s' | .again c' => c'.quiet = true ∧ codeC M A c' R s') (fun e s' => R (.error e) s') s) : codeC M A c R s := fun Γ p hc hΓ hC => by
  rw [wpCode_iff_wp, hc]
  refine Sem.wp_mono M Γ _ (fun fin p' s' h' => ?_) (fun _ _ _ h' => h') p s (h Γ p (hc ▸ hΓ.in) (by unfold Called; rw [List.any_cons, hC, Bool.or_true]))
  cases fin with
  | done f => exact h'
  | again c' => exact ⟨h'.1, h'.2 (Γ.goto c') p' rfl (hΓ.goto c') hC⟩
theorem codeC_loop {c : Code} {R : Result → Shared → Prop} (hq : c.quiet = true) (I : Nat → Shared → Prop)
    (turn : ∀ n s, I n s → wpC M (A.under c) (M.den c) (fun fin s' => match fin with | .done f => R (.ok f) s' | .again c' => (c' = c ∧ ∃ m, m < n ∧ I m s') ∨ (c'.quiet = true ∧ codeC M A c' R s')) (fun e s' => R (.error e) s') s)
    (n : Nat) (h : I n s) : codeC M A c R s := by
  induction n using Nat.strongRecOn generalizing s with
  | ind n ih =>
    refine codeC_of_tree (wpC_mono (turn n s h) (fun fin s' hf => ?_) fun _ _ h' => h')
    cases fin with
    | done f => exact hf
    | again c' =>
      rcases hf with ⟨rfl, m, hm, hI⟩ | hf
      · exact ⟨hq, ih m hm hI⟩
      · exact hf
end
end Mine
end
/- part C2 -/
section
open PySem PySem.W PyProof.Rows
open Sem (wp)
set_option Elab.async false
set_option maxRecDepth 100000
set_option maxHeartbeats 1000000
namespace Mine
section
variable {M : Model} {A : Around} {E : Value → Shared → Prop} {s : Shared} {env : Env}
theorem execsC_cons {st : Stmt} {rest : List Stmt} {Q : Flow → Shared → Prop}
    (h : wpC M A (exec st env) (fun f s' => match f with | .next => wpC M A (execs rest env) Q E s' | f => Q f s') E s) : wpC M A (execs (st :: rest) env) Q E s := by
  rw [execs_cons]
  refine wpC_bind (wpC_mono h (fun f s' h' => ?_) fun _ _ x => x)
  cases f <;> first | exact h' | exact wpC_pure h'
theorem execsC_nil {Q : Flow → Shared → Prop} (h : Q .next s) : wpC M A (execs [] env) Q E s := wpC_any (wpAny_execs_nil h)
theorem C_If {test body orelse pos} {Q : Flow → Shared → Prop} (h : wpC M A (isTrue test env (eval test env)) (fun b s₂ => if b then wpC M A (execs body env) Q E s₂ else wpC M A (execs orelse env) Q E s₂) E s) :
    wpC M A (exec (.If test body orelse pos) env) Q E s := by
  rw [exec_If]
  refine wpC_bind (wpC_standAt (wpC_bind (wpC_mono h (fun b s₂ h₂ => ?_) fun _ _ x => x)))
  cases b <;> exact h₂
theorem C_isTrue_Not {x : Expr} {pos : Pos} {whole : Sem Value} {Q : Bool → Shared → Prop} (h : wpC M A (isTrue x env (eval x env)) (fun b s₁ => Q (!b) s₁) E s) : wpC M A (isTrue (.UnaryOp .Not x pos) env whole) Q E s := by
  rw [arm_isTrue_UnaryOp]
  exact wpC_bind (wpC_mono h (fun b s₁ h₁ => wpC_pure h₁) fun _ _ x => x)
theorem C_isTrue_value {e : Expr} {whole : Sem Value} {Q : Bool → Shared → Prop} (h : wpC M A whole (fun v s₁ => wpAny M A (truthy v) Q E s₁) E s)
    (he : isTrue e env whole = (do let v ← whole; standAt e.pos; holding [v] (truthy v)) := by rfl) : wpC M A (isTrue e env whole) Q E s := by
  rw [he]
  exact wpC_bind (wpC_mono h (fun v s₁ h₁ => wpC_bind (wpC_standAt (wpC_holding (wpC_any h₁)))) fun _ _ x => x)
theorem C_isTrue_chain {l op₁ op₂ ops r₁ r₂ rs pos whole} {Q : Bool → Shared → Prop}
    (h : wpAny M A (eval l env) (fun a s₁ => wpC M A (testChain pos a (op₁ :: op₂ :: ops) (eval r₁ env :: eval r₂ env :: evalEach rs env)) Q E s₁) E s)
    (hm : lastMarks (op₁ :: op₂ :: ops) (r₁ :: r₂ :: rs) = false := by with_unfolding_all rfl) : wpC M A (isTrue (.Compare l (op₁ :: op₂ :: ops) (r₁ :: r₂ :: rs) pos) env whole) Q E s := by
  show wpC M A (do testChain pos (← eval l env) (op₁ :: op₂ :: ops) (markedEach (op₁ :: op₂ :: ops) (r₁ :: r₂ :: rs) (evalEach (r₁ :: r₂ :: rs) env))) Q E s
  rw [markedEach_of_false _ _ _ hm]
  exact wpC_bindA h
theorem C_test_link {pos : Pos} {a : Value} {op op' : CmpOp} {ops : List CmpOp} {r r' : Sem Value} {rs : List (Sem Value)} {Q : Bool → Shared → Prop}
    (h : wpC M A r (fun b s₁ => wpAny M A (compareOp op a b) (fun c s₂ => wpAny M A (truthy c)
      (fun t s₃ => if t then wpAny M A (testChain pos b (op' :: ops) (r' :: rs)) Q E s₃ else Q false s₃) E s₂) E s₁) E s) : wpC M A (testChain pos a (op :: op' :: ops) (r :: r' :: rs)) Q E s := by
  show wpC M A (do
    let rv ← holding [a] r
    standAt pos
    let c ← holding [a, rv] (compareOp op a rv)
    release [a, rv] [c]
    if ← holding [c, rv] (truthy c) then testChain pos rv (op' :: ops) (r' :: rs) else pure false) Q E s
  refine wpC_bind (wpC_holding (wpC_mono h (fun b s₁ h₁ => wpC_any (wpAny_bind (wpAny_standAt (wpAny_bind (wpAny_holding (wpAny_mono h₁ (fun c s₂ h₂ =>
    wpAny_bind (wpAny_release' (wpAny_bind (wpAny_holding (wpAny_mono h₂ (fun t s₃ h₃ => ?_) fun _ _ x => x))))) fun _ _ x => x)))))) fun _ _ x => x))
  cases t with
  | false => exact wpAny_pure h₃
  | true => exact h₃
theorem C_Call_NameR {id : Str} {p pos : Pos} {args : List Expr} {Q : Value → Shared → Prop}
    (h : wpAny M A (eval (.Name id p) env) (fun f s₁ => wpC M A (callWith pos f [] (backTo pos (starEach args env)) []) Q E s₁) E s) : wpC M A (eval (.Call (.Name id p) args [] pos) env) Q E s := by
  show wpC M A (do callWith pos (← eval (.Name id p) env) [] (backTo pos (starEach args env)) (backToKw pos (keywordEach [] env))) Q E s
  exact wpC_bindA h
theorem C_tail {t : Sem Value} {Q : Value → Shared → Prop} (h : wpC M A t Q E s) : wpC M A (t >>= fun r => holding [r] point >>= fun _ => pure r) Q E s :=
  wpC_bind (wpC_mono h (fun _ _ hr => wpC_any (wpAny_bind (wpAny_holding (wpAny_point (wpAny_pure hr))))) fun _ _ x => x)
theorem C_callWith_type {pos : Pos} {T : String} {first : List Value} {args : List (Bool × Sem Value)} {Q : Value → Shared → Prop} (hplain : args.any (·.1) = false)
    (h : wpAny M A (evalArgs (.type T) true args []) (fun a s₁ => wpC M A (call (.type T) (first ++ a.pos) a.kw) Q E s₁) E s) : wpC M A (callWith pos (.type T) first args []) Q E s := by
  unfold callWith
  refine wpC_bindA (wpAny_holding (wpAny_mono h (fun a s₁ h₁ => wpC_bind (wpC_standAt ?_)) fun _ _ x => x))
  simp only [hplain, List.any_nil, Bool.or_false]
  refine wpC_bind (wpC_pure ?_)
  exact C_tail h₁
theorem C_callWith_function {pos : Pos} {a : Addr} {o : Obj} {fd : FuncData} {first : List Value} {args : List (Bool × Sem Value)} {Q : Value → Shared → Prop}
    (h : wpAny M A (evalArgs (.ref a) true args []) (fun x s₁ => (s₁.heap.get? a = some o ∧ o.data = .func fd) ∧ wpC M A (call (.ref a) (first ++ x.pos) x.kw) Q E s₁) E s) : wpC M A (callWith pos (.ref a) first args []) Q E s := by
  unfold callWith
  refine wpC_bindA (wpAny_holding (wpAny_mono h (fun x s₁ h₁ => wpC_bind (wpC_standAt ?_)) fun _ _ x => x))
  cases hs : args.any (·.1) <;> simp only [List.any_nil, Bool.or_false] <;>
    refine wpC_bindA (m := keeperOf (.ref a)) ?_ <;> unfold keeperOf <;>
    refine wpAny_bind (wpAny_load h₁.1.1 ?_) <;> rw [h₁.1.2] <;> refine wpAny_pure ?_
  · dsimp only
    split
    · exact C_tail h₁.2
    · exact C_tail (t := callMarked plainCall (.ref a) (first ++ x.pos) x.kw) (by unfold callMarked; exact wpC_keep h₁.2)
  · dsimp only
    exact C_tail (t := callMarked starredCall (.ref a) (first ++ x.pos) x.kw) (by unfold callMarked; exact wpC_keep h₁.2)
theorem C_runOwn {c : Code} {hd : Option Value} {Q : Flow → Shared → Prop} (hc : codeC M (A.mark hd) c (fun r s' => match r with | .ok f => Q f s' | .error e => cameBackBy M A env E e s') s) (hnb : hd ≠ some byPass := by intro x; cases x) :
    wpC M A (runOwn c env hd) Q E s := by
  unfold runOwn
  exact wpC_onRaise (wpC_mono (wpC_run hc hnb) (fun _ _ x => x) fun e s' x => by
    revert x; intro x; exact wpC_any x)
end
section
variable {prog : Program} {w : World} {A : Around} {E : Value → Shared → Prop} {R : Result → Shared → Prop} {s : Shared} {env : Env}
theorem C_Expr {e pos} {Q : Flow → Shared → Prop} (h : wpC (model prog w) A (eval e env) (fun _ => Q .next) E s) (hi : interactive env = false := by rfl) (hs : swapsWith e none pos.line env = pure false := by rfl) :
    wpC (model prog w) A (exec (.Expr e pos) env) Q E s := by
  rw [exec_Expr env e pos hi hs]
  exact wpC_bind (wpC_standAt (wpC_bind (wpC_mono h (fun v s' h' => wpC_any (wpAny_dropValue h')) fun _ _ x => x)))
theorem C_func {body : List Stmt} (h : wpC (model prog w) (A.deeper env) (execs body env) (fun f s' => R (.ok (.ret (match f with | .ret v => v | _ => .none))) s')
      (fun e s' => wpAny (model prog w) (A.deeper env) (leaving env e) (fun _ s'' => R (.error e) s'') (fun e' s'' => R (.error e') s'') s') s) : codeC (model prog w) A (.func body env) R s := by
  refine codeC_of_tree ?_
  show wpC _ (A.deeper env) (do point; match ← (execs body env).onRaise (leaving env) with | .ret v => ret v | _ => ret .none) _ _ s
  refine wpC_bindA (wpAny_point (wpC_bind (wpC_onRaise (wpC_mono h (fun f s' h' => ?_) fun _ _ h' => wpC_any h'))))
  cases f <;> exact wpC_pure h'
end
end Mine
end
/- part C3 -/
section
open PySem PySem.W PyProof.Rows
open Sem (wp)
set_option Elab.async false
set_option maxRecDepth 100000
set_option maxHeartbeats 1000000
namespace Mine
section
variable {α : Type} {M : Model} {A : Around} {E : Value → Shared → Prop} {s : Shared} {env : Env}
theorem wpC_attempt {m : Sem α} {Q : Except Value α → Shared → Prop} (h : wpC M A m (fun a => Q (.ok a)) (fun e => Q (.error e)) s) : wpC M A m.attempt Q E s := fun Γ p hΓ hC => by
  rw [Sem.wp_attempt]; exact h Γ p hΓ hC
theorem C_Try {body orelse : List Stmt} {h₀ : ExceptHandler} {hs : List ExceptHandler} {pos : Pos} {Q : Flow → Shared → Prop}
    (h : wpC M A (execs body env) (fun f s₁ => match f with | .next => wpC M A (execs orelse env) Q E s₁ | f => Q f s₁)
      (fun e s₁ => wpAny M A (noteFrame e env) (fun _ s₂ => wpAny M A (setFlight e none) (fun _ s₃ => wpAny M A (handleBy e env (h₀ :: hs)) Q E s₃) E s₂) E s₁) s) :
    wpC M A (exec (.Try body (h₀ :: hs) orelse [] pos) env) Q E s := by
  rw [arm_exec_Try]
  refine wpC_bind (wpC_standAt ?_)
  unfold tryStmt
  simp only [List.isEmpty_nil, if_true, List.isEmpty_cons, Bool.false_and, Bool.false_eq_true, if_false]
  refine wpC_bind (wpC_attempt (wpC_mono h (fun f s₁ h₁ => ?_) fun e s₁ h₁ => ?_))
  · cases f <;> first | exact h₁ | exact wpC_pure h₁
  · exact wpC_any (wpAny_bind (wpAny_mono h₁ (fun _ _ h₂ => wpAny_bind h₂) fun _ _ x => x))
theorem C_For {target iter body orelse pos} {Q : Flow → Shared → Prop}
    (h : wpAny M A (eval iter env) (fun x s₁ => wpAny M A (pyIter x) (fun it s₂ =>
      codeC M A (.forLoop target it body orelse env) (fun r s' => match r with | .ok f => Q f s' | .error e => cameBackBy M A env E e s') s₂) E s₁) E s)
    (hs : ∀ x, foldedSetIterable iter env x = pure x := by intro _; rfl) : wpC M A (exec (.For target iter body orelse pos) env) Q E s := by
  rw [exec_For]
  refine wpC_bind (wpC_standAt (wpC_bindA (wpAny_mono h (fun x s₁ h₁ => wpC_bind (wpC_of_eq (hs x) (wpC_bind (wpC_standAt (wpC_bindA (wpAny_holding
    (wpAny_mono h₁ (fun it s₂ h₂ => C_runOwn h₂) fun _ _ h' => h'))))))) fun _ _ h' => h')))
theorem C_noted {env : Env} {m : Sem α} {Q : α → Shared → Prop} (h : wpC M A m Q (notedBy M A env E) s) : wpC M A (m.onRaise fun x => do noteFrame x env; theTreesLotGoes x) Q E s :=
  wpC_onRaise (wpC_mono h (fun _ _ q => q) fun _ _ hx => wpC_any (wpAny_bind (wpAny_mono hx (fun _ _ e => wpAny_theTreesLotGoes e) fun _ _ e => e)))
end
section
variable {prog : Program} {w : World} {A : Around} {E : Value → Shared → Prop} {R : Result → Shared → Prop} {s : Shared} {env : Env}
theorem codeC_forLoop {target it body env} (I : Nat → Shared → Prop)
    (turn : ∀ n s, I n s → wpAny (model prog w) A (pyNext it) (fun r s₁ => match r with
      | none => R (.ok .next) s₁
      | some v => wpAny (model prog w) A (assign target env v) (fun _ s₂ => wpC (model prog w) A (execs body env) (fun f s₃ => match f with
          | .next | .cont => ∃ m, m < n ∧ I m s₃
          | .brk => R (.ok .next) s₃
          | .ret v => R (.ok (.ret v)) s₃) (fun _ _ => False) s₂) (fun _ _ => False) s₁) (fun _ _ => False) s)
    (n : Nat) (h : I n s) (ht : ∀ v, letOwnedTupleGo target it v = pure () := by intro _; rfl) : codeC (model prog w) A (.forLoop target it body [] env) R s := by
  refine codeC_loop rfl I (fun n s hI => ?_) n h
  show wpC _ A ((forTurn target it body [] env).onRaise (fun x => do noteFrame x env; theTreesLotGoes x)) _ _ s
  refine C_noted ?_
  simp only [forTurn]
  refine wpC_bind (wpC_standAt (wpC_bind (wpC_onRaise (wpC_any (wpAny_mono (turn n s hI) (fun r s₁ h₁ => ?_) fun _ _ h' => h'.elim)))))
  cases r with
  | none => exact wpC_pure (.inr ⟨rfl, codeC_any (codeAny_block (wpAny_execs_nil h₁))⟩)
  | some v =>
    refine wpC_bind (wpC_of_eq (ht v) ?_)
    refine wpC_bindA (wpAny_mono h₁ (fun _ s₂ h₂ => wpC_bind (wpC_mono h₂ (fun f s₃ h₃ => ?_) fun _ _ h' => h'.elim)) fun _ _ h' => h'.elim)
    cases f with
    | next => exact wpC_pure (.inl ⟨rfl, h₃⟩)
    | cont => exact wpC_pure (.inl ⟨rfl, h₃⟩)
    | brk => exact wpC_pure h₃
    | ret v => exact wpC_pure h₃
theorem codeC_call_function {a : Addr} {args : Args} {o : Obj} {fd : FuncData} {body : List Stmt} (hroom : A.depth < recursionLimit) (ho : s.heap.get? a = some o)
    (hd' : o.data = .func fd) (hco : fd.scope.isCoroutine = false) (hgen : fd.scope.isGenerator = false) (hbody : fd.body = .stmts body) (hcd : s.heap.CodeRec fd.code fd.qualname)
    (h : wpAny (model prog w) A.in1 (bindArgs fd args) (fun binds s₁ =>
      wpAny (model prog w) A.in1 (newFunctionEnv fd.scope fd.globals fd.closure binds (fd.qualname ++ ".<locals>.") (some a) fd.code none fd.builtins)
        (fun env s₂ => s₂.heap.NoLimit ∧ codeC (model prog w) A (.func body env) R s₂) (fun e s' => R (.error e) s') s₁) (fun e s' => R (.error e) s') s) :
    codeC (model prog w) A (.call (.ref a) args) R s := by
  refine codeC_of_tree ?_
  show wpC _ A.in1 (callAny (.ref a) args) _ _ s
  simp only [callAny]
  refine wpC_bindA (wpAny_load ho ?_)
  obtain ⟨c, oc, vs, tq, hc, hoc, hdc, hq⟩ := hcd
  simp only [hd', callFunction, hco, hgen, hbody, hc]
  rw [hc] at h
  refine wpC_bindA (m := field (.ref c) 1) (wpAny_field hoc hdc hq (wpC_bind (wpC_pure ?_)))
  exact wpC_bindA (wpAny_mono h (fun binds s₁ h₁ => wpC_bindA (wpAny_mono h₁ (fun env s₂ h₂ => wpC_bindA (wpAny_enterFrame h₂.1 hroom
    (wpC_pure (And.intro rfl h₂.2)))) fun _ _ h' => h')) fun _ _ h' => h')
end
end Mine
end
/- part C4 -/
section
open PySem PySem.W PyProof.Rows
open Sem (wp)
set_option Elab.async false
set_option maxRecDepth 100000
set_option maxHeartbeats 1000000
namespace Mine
section
variable {w : World} {d : Nat} {A : Around} {outer : List Env} {s : Shared}
theorem callFC {Q : Value → Shared → Prop} {E : Value → Shared → Prop} {f : Addr} {o : Obj} {args : List Value} (binds : List (Str × Value))
    (S : Sit w d A outer s.heap) (hd : d ≤ 20) (ho : (theK w.params).lookup f = some o) (ho2 : o.data = .func (fdOf o)) (hco : (fdOf o).scope.isCoroutine = false) (hgen : (fdOf o).scope.isGenerator = false) (hk : (fdOf o).scope.kind = .function)
    (hbody : (fdOf o).body = .stmts (stmtsOf o)) (hcode : ∃ c oc vs tq, (fdOf o).code = .ref c ∧ (theK w.params).lookup c = some oc ∧ oc.data = .fields vs ∧ vs[1]? = some (.str (fdOf o).qualname tq))
    (hb : BindsTo s (fdOf o) ⟨args, []⟩ binds) (hloc : ∀ x ∈ binds, (fdOf o).scope.names.lookup x.1 = some .local) (hcell : ∀ x ∈ (fdOf o).scope.names, x.2 ≠ .cell)
    (h : ∀ h₁ L tk, s.toks ≤ tk → In w d A outer (envF o f L) s.heap L h₁ (fun x => binds.reverse.lookup x) →
      wpC (model thePw w) (A.deeper (envF o f L)) (execs (stmtsOf o) (envF o f L)) (fun fl s' => Q (match fl with | .ret v => v | _ => .none) s') (leaveE w A (envF o f L) E) { s with heap := h₁, toks := tk }) :
    wpC (model thePw w) A (call (.ref f) args) Q E s := by
  refine wpC_call ?_
  obtain ⟨c, oc, vs, tq, c1, c2, c3, c4⟩ := hcode
  refine codeC_call_function (S.room hd) (S.ok.K _ _ ho) ho2 hco hgen hbody ⟨c, oc, vs, tq, c1, S.ok.K _ _ c2, c3, c4⟩ ?_
  refine hb _ _ _ _ (wpAny_newFunctionEnv hcell hloc ?_ hk)
  intro h₁ hn₁ hs₁
  have new : s.heap.get? s.heap.objs.size = none := Heap.get?_none_of_le (Nat.le_refl _)
  have k : ∀ b o, s.heap.get? b = some o → h₁.get? b = some o := fun b o e => (hs₁.2 b (fun q => by rw [q, new] at e; cases e)).trans (Heap.get?_push_of_some _ e)
  have S1 := S.kept (.of k : Kept (frs outer) s.heap h₁)
  refine ⟨S1.ok.lim, C_func (h h₁ s.heap.objs.size _ (Nat.le_add_right _ _) ⟨S, ⟨S.hd, ?_, ?_, ?_, ?_, S1.ok⟩, .of k, new, hn₁, rfl⟩)⟩
  · exact Around.frames_deeper S.st
  · intro env' he
    rcases List.mem_cons.mp he with q | q
    · subst q
      obtain ⟨o', es, ep, x1, x2, _⟩ := hn₁
      refine ⟨by show (fdOf o).scope.kind ≠ .module; rw [hk]; decide, s.heap.objs.size, o', es, ep, rfl, x1, x2, S.ok.low⟩
    · exact S1.fr env' q
  · show A.depth + 1 ≤ 301 + (d + 1)
    have := S.dp; omega
  · show A.units + 3 ≤ 4 + 10 * (d + 1)
    have := S.un; omega
end
theorem for_walkC {w : World} {d : Nat} {A : Around} {outer : List Env} {env : Env} {h₀ : Heap} {L : Addr} {m : Str → Option Value} {s : Shared} {R : Result → Shared → Prop} {x : Str} {px : Pos} {body : List Stmt} {it : Addr} {fp wr : List Addr} {n : Nat} {P : Nat → Value → Prop} {St : Nat → Heap → Prop} (J : Nat → (Str → Option Value) → Heap → Prop)
    (I : In w d A outer env h₀ L s.heap m) (W : Walks thePw w (A.deeper env) it fp wr n P St) (st : St 0 s.heap) (hwr : ∀ b ∈ wr, h₀.get? b = none ∧ b ≠ L) (hfp : L ∉ fp) (h0 : J 0 m s.heap)
    (hJ : ∀ i m h h', J i m h → (∀ b o, b ∉ wr → b ≠ L → h.get? b = some o → h'.get? b = some o) → J i m h')
    (step : ∀ i v s' m', Same s s' → i < n → P i v → J i m' s'.heap → In w d A outer env h₀ L s'.heap (fun y => if y = x then some v else m' y) →
      wpC (model thePw w) (A.deeper env) (execs body env) (fun f s₃ => match f with
        | .next | .cont => ∃ m'', Same s s₃ ∧ In w d A outer env h₀ L s₃.heap m'' ∧ J (i + 1) m'' s₃.heap ∧ ∀ b ∈ fp, ∀ o, s'.heap.get? b = some o → s₃.heap.get? b = some o
        | .brk => R (.ok .next) s₃
        | .ret v => R (.ok (.ret v)) s₃) (fun _ _ => False) s')
    (fin : ∀ s' m', Same s s' → J n m' s'.heap → In w d A outer env h₀ L s'.heap m' → R (.ok .next) s')
    (hx : env.kindOf x = some .local := by rfl) (hL : env.locals = L := by rfl) (hp : (env.scope.kind == .class || (env.scope.kind == .module && env.locals != env.globals)) = false := by rfl) :
    codeC (model thePw w) (A.deeper env) (.forLoop (.Name x px) (.ref it) body [] env) R s := by
  refine codeC_forLoop (fun k s' => ∃ i m', k = n - i ∧ i ≤ n ∧ Same s s' ∧ St i s'.heap ∧ In w d A outer env h₀ L s'.heap m' ∧ J i m' s'.heap) ?_ n
    ⟨0, m, by omega, Nat.zero_le _, .refl s, st, I, h0⟩
  rintro k s' ⟨i, m', rfl, hi, sm, st', I', j'⟩
  by_cases hin : i = n
  · subst hin
    exact W.done _ _ _ st' fun h₂ tk₂ hk => fin _ m' ⟨sm.gens, sm.drawn, sm.os⟩ (hJ _ _ _ _ j' fun b o n1 _ e => hk b o n1 e) (I'.touchs hwr hk)
  · refine W.item i _ _ _ (by omega) st' fun v h₂ tk₂ pv st₂ hk => ?_
    have I₂ := I'.touchs hwr hk
    have j₂ := hJ _ _ _ _ j' fun b o n1 _ e => hk b o n1 e
    refine wpAny_assign_Name (stS I₂ (fun s₃ sm₃ I₃ hs₃ => ?_) hx hL hp)
    have st₃ : St (i + 1) s₃.heap := W.frame _ _ _ st₂ fun b hb o e => (hs₃.2 b (fun q => hfp (q ▸ hb))).trans e
    have j₃ := hJ _ _ _ _ j₂ fun b o _ n2 e => (hs₃.2 b n2).trans e
    have sm' : Same s s₃ := ⟨sm₃.gens.trans sm.gens, sm₃.drawn.trans sm.drawn, sm₃.os.trans sm.os⟩
    refine wpC_mono (step i v s₃ m' sm' (by omega) pv j₃ I₃) (fun f s₄ hf => ?_) fun _ _ e => e
    have key : (∃ m'', Same s s₄ ∧ In w d A outer env h₀ L s₄.heap m'' ∧ J (i + 1) m'' s₄.heap ∧ ∀ b ∈ fp, ∀ o, s₃.heap.get? b = some o → s₄.heap.get? b = some o) → ∃ k', k' < n - i ∧ ∃ i m', k' = n - i ∧ i ≤ n ∧ Same s s₄ ∧ St i s₄.heap ∧ In w d A outer env h₀ L s₄.heap m' ∧ J i m' s₄.heap := by
      rintro ⟨m₄, sm₄, I₄, j₄, hk₄⟩
      exact ⟨n - (i + 1), by omega, i + 1, m₄, rfl, by omega, sm₄, W.frame _ _ _ st₃ hk₄, I₄, j₄⟩
    cases f with
    | next => exact key hf
    | cont => exact key hf
    | brk => exact hf
    | ret v => exact hf
end Mine
end
/- part C5 -/
section
open PySem PySem.W PyProof.Rows
open Sem (wp)
set_option Elab.async false
set_option maxRecDepth 100000
set_option maxHeartbeats 1000000
namespace Mine
theorem typeCall_int_2 (a b : Value) : checkTypeCall "int" ⟨[a, b], []⟩ = pure () := by kernel_rfl
theorem newCall_int_2 (a b : Value) : checkBuiltinCall "int.__new__" ⟨[.type "int", a, b], []⟩ = pure () := by kernel_rfl
section
variable {prog : Program} {w : World} {A : Around} {E : Value → Shared → Prop} {R : Result → Shared → Prop} {s : Shared}
theorem codeC_builtin {id : String} {a : Args} {B : Builtin} (he : entryFor table id = some B)
    (h : wpC (model prog w) (A.under (.builtin id a)) (B a) (fun fin s' => match fin with | .done f => R (.ok f) s' | .again c' => c'.quiet = true ∧ codeC (model prog w) A c' R s') (fun e s' => R (.error e) s') s) :
    codeC (model prog w) A (.builtin id a) R s := by
  refine codeC_of_tree ?_
  show wpC _ _ (match entryFor table id with | some b => b a | none => unsupported ((withoutEnding? id "#data").getD id)) _ _ s
  rw [he]; exact h
/-- int(x, 2) up to the tree of int.__new__ that throws -/
theorem C_int_new_throws {x v2 : Value} {Q : Value → Shared → Prop}
    (h : wpC (model prog w) A.in1.in1 (Builtin.«int.__new__» ⟨[.type "int", x, v2], []⟩) (fun _ _ => False) E s) : wpC (model prog w) A (call (.type "int") [x, v2]) Q E s := by
  obtain ⟨c, tl, hmro⟩ := F.called_int.mro
  have hmade := F.called_int.made
  have h1 := F.called_int.notType
  have h2 := F.called_int.canCreate
  have hct := typeCall_int_2 x v2
  refine wpC_call (codeC_of_tree ?_)
  show wpC _ _ (callAny (.type "int") _) _ _ _
  refine wpC_pure ⟨Code.quiet_builtin _ (by decide +kernel), codeC_builtin F.entry_type_call ?_⟩
  rw [Around.under_plain (weight_type_call_type "int" [x, v2] []) (units_type_call_type "int" [x, v2] [])]
  unfold Builtin.«type.__call__»
  simp only [h1, Bool.false_eq_true, if_false]
  rw [if_neg (by rw [h2]; decide)]
  refine wpC_bindA (wpAny_of_eq hct ?_)
  refine wpC_bindA (wpAny_of_eq hmro ?_)
  rw [if_neg (by simp)]
  refine wpC_bindA (wpAny_of_eq hmade ?_)
  refine wpC_bindA (wpAny_pure ?_)
  refine wpC_bind (wpC_holding (wpC_call (codeC_of_tree ?_)))
  show wpC _ A.in1.in1 (do checkBuiltinCall "int.__new__" ⟨[.type "int", x, v2], []⟩; again (.builtin "int.__new__" ⟨[.type "int", x, v2], []⟩)) _ _ s
  refine wpC_bindA (wpAny_of_eq (newCall_int_2 _ _) ?_)
  refine wpC_pure ⟨plainId_quiet F.called_int.plain _, codeC_builtin F.entry_int_new ?_⟩
  rw [Around.under_plainId F.called_int.plain _]
  exact wpC_mono h (fun _ _ q => False.elim q) fun _ _ q => q
theorem wpC_ite_true {α : Type} {M : Model} {c : Prop} [i : Decidable c] {a b : Sem α} {Q : α → Shared → Prop} (hc : c) (h : wpC M A a Q E s) : wpC M A (@ite _ c i a b) Q E s := by
  rw [if_pos hc]; exact h
theorem wpC_ite_false {α : Type} {M : Model} {c : Prop} [i : Decidable c] {a b : Sem α} {Q : α → Shared → Prop} (hc : ¬ c) (h : wpC M A b Q E s) : wpC M A (@ite _ c i a b) Q E s := by
  rw [if_neg hc]; exact h
/-- with the claim's caller below, a refusal leaves no mark -/
theorem C_mark {M : Model} {own : List String} {e : Value} {Q : Unit → Shared → Prop} (h : Q () s) : wpC M A (markTheRefusal own e) Q E s := by
  unfold markTheRefusal
  refine wpC_bind (wpC_stack fun st hst => ?_)
  have e1 : pythonCodeMadeTheCall own (st.map (·.1)) = false := by
    unfold pythonCodeMadeTheCall
    have e2 : (st.map (·.1)).any Code.isCaller = true := by
      rw [List.any_map]
      exact hst
    change ((!((st.map (·.1)).any Code.isCaller) && _) && _) = false
    rw [e2]
    rfl
  rw [if_neg (by rw [e1]; exact Bool.false_ne_true)]
  exact wpC_pure h
theorem intFrom_refused {x : Str} {t : Tok} {text : List Nat} (hh : A.handled = none) (hx : (reprText x).length ≤ 100000) (hE : ∀ h' e tk v, Heap.MadeExc s.heap h' e "ValueError" [v] → E (.ref e) { s with heap := h', toks := tk }) (hs : (text.takeWhile (· != 0)).length ≤ 640) (hr : (int_private% "readNumeral") 0 2 (text.takeWhile (· != 0)) = (int_private% "Numeral.invalid")) :
    wpC (model prog w) A ((int_private% "intFromText") (.str x t) text 2) (fun _ _ => False) E s := by
  refine wpC_ite_true hs ?_
  refine wpC_bindA (wpAny_pure ?_)
  dsimp only
  rw [hr]
  dsimp only
  refine wpC_bindA (wpAny_of_eq (a := none) rfl ?_)
  rw [if_neg (by simp)]
  refine wpC_bindA (wpAny_rule ?_)
  refine wpC_bindA (wpAny_of_eq (a := none) rfl ?_)
  dsimp only
  refine wpC_bindA (wpAny_pyRepr_str ?_ (Nat.le_trans hx (by decide)))
  refine wpC_bindA (wpAny_mkStr ?_ ?_)
  case refine_2 =>
    rw [strLen_append]
    refine Nat.le_trans (Nat.add_le_add (b := 100) (d := 200) (by decide +kernel) ?_) (by decide)
    show (Array.extract _ 0 200).size ≤ 200
    rw [Array.size_extract]
    omega
  refine wpC_bindA (wpAny_newExc_plain plainExc_ValueError ?_)
  intro h' e hm
  refine wpC_bind (C_mark ?_)
  refine wpC_any (wpAny_raiseNew_none hh ?_)
  exact hE _ _ _ _ hm
/-- int(x, 2) of a text that is no number in base two -/
theorem C_int_refused {x : Str} {t u : Tok} {Q : Value → Shared → Prop} (hh : A.handled = none) (hx : (reprText x).length ≤ 100000) (hs : (numSeenOf x).length ≤ 640) (hr : (int_private% "readNumeral") 0 2 (numSeenOf x) = (int_private% "Numeral.invalid"))
    (hE : ∀ h' e tk v, Heap.MadeExc s.heap h' e "ValueError" [v] → E (.ref e) { s with heap := h', toks := tk }) : wpC (model prog w) A (call (.type "int") [.str x t, .int 2 u]) Q E s := by
  refine C_int_new_throws ?_
  have f1 := F.conv_sub_int
  have f2 := F.madeHere_int
  unfold Builtin.«int.__new__»
  dsimp only
  refine wpC_bindA (wpAny_of_eq (a := true) rfl ?_)
  rw [if_neg (by decide)]
  refine wpC_bindA (wpAny_of_eq f1 ?_)
  rw [if_neg (by decide)]
  refine wpC_bindA (wpAny_of_eq f2 ?_)
  rw [if_neg (by simp)]
  rw [if_neg (by simp)]
  refine wpC_bindA (wpAny_of_eq (a := PUnit.unit) rfl ?_)
  show wpC (model prog w) A.in1.in1 (Builtin.Int.intIndex "int.__new__" (.int 2 u) >>= _) _ E s
  refine wpC_bindA (wpAny_of_eq (a := (2 : Int)) rfl ?_)
  rw [if_neg (by decide)]
  refine wpC_bindA (wpAny_of_eq (a := some (numTextOf x)) rfl ?_)
  dsimp only
  exact wpC_bind (wpC_mono (intFrom_refused (text := numTextOf x) hh hx hE hs hr) (fun _ _ q => False.elim q) fun _ _ q => q)
end
end Mine
end
/- part C6 -/
section
open PySem PySem.W PyProof.Rows PySem.NumText
set_option Elab.async false
set_option maxRecDepth 100000
set_option maxHeartbeats 1000000
namespace Mine
/-- texts of the signs 0, 1 and 2 -/
def Bits3 (cs : List Nat) : Prop := ∀ c ∈ cs, c = 48 ∨ c = 49 ∨ c = 50
def binVal (cs : List Nat) : Nat := cs.foldl (fun a c => a * 2 + (c - 48)) 0
theorem step_01 {ds : Array Nat} {b : Bool} {c : Nat} (h : c = 48 ∨ c = 49) : NumText.step 2 (ds, b) c = some (ds.push (c - 48), true) := by
  rcases h with rfl | rfl <;> rfl
theorem step_2 {p : Array Nat × Bool} : NumText.step 2 p 50 = none := rfl
theorem fold_01 : ∀ (cs : List Nat) (ds : Array Nat), (∀ c ∈ cs, c = 48 ∨ c = 49) → cs.foldlM (NumText.step 2) (ds, true) = some (cs.foldl (fun acc c => acc.push (c - 48)) ds, true)
  | [], _, _ => rfl
  | c :: cs, ds, h => by
    rw [List.foldlM_cons, step_01 (h c (.head _))]
    exact fold_01 cs _ fun d hd => h d (.tail _ hd)
theorem fold_2 : ∀ (cs : List Nat) (p : Array Nat × Bool), Bits3 cs → 50 ∈ cs → cs.foldlM (NumText.step 2) p = none
  | [], _, _, h => by cases h
  | c :: cs, (ds, b), h3, h => by
    rw [List.foldlM_cons]
    by_cases hc : c = 50
    · subst hc; rw [step_2]; rfl
    · have h01 : c = 48 ∨ c = 49 := by rcases h3 c (.head _) with q | q | q; exact .inl q; exact .inr q; exact absurd q hc
      rw [step_01 h01]
      refine fold_2 cs _ (fun d hd => h3 d (.tail _ hd)) ?_
      rcases List.mem_cons.mp h with q | q
      · exact absurd q.symm hc
      · exact q
theorem digits_01 {cs : List Nat} (h : ∀ c ∈ cs, c = 48 ∨ c = 49) (hne : cs ≠ []) : NumText.digits? 2 cs = some (cs.foldl (fun acc c => acc.push (c - 48)) #[]) := by
  cases cs with
  | nil => exact absurd rfl hne
  | cons c cs =>
    unfold NumText.digits?
    rw [List.foldlM_cons, step_01 (h c (.head _))]
    show ((cs.foldlM (NumText.step 2) (#[].push (c - 48), true)).bind _) = _
    rw [fold_01 cs _ fun d hd => h d (.tail _ hd)]
    rfl
theorem digits_2 {cs : List Nat} (h3 : Bits3 cs) (h : 50 ∈ cs) : NumText.digits? 2 cs = none := by
  unfold NumText.digits?
  rw [fold_2 cs _ h3 h]; rfl
theorem push_val : ∀ (cs : List Nat) (ds : Array Nat), (cs.foldl (fun acc c => acc.push (c - 48)) ds).foldl (fun acc d => acc * 2 + d) 0 = cs.foldl (fun a c => a * 2 + (c - 48)) (ds.foldl (fun acc d => acc * 2 + d) 0)
  | [], _ => rfl
  | c :: cs, ds => by rw [List.foldl_cons, push_val cs, Array.foldl_push, List.foldl_cons]
theorem drop_bits {cs : List Nat} (h : Bits3 cs) : cs.dropWhile NumText.blank = cs := by
  cases cs with
  | nil => rfl
  | cons c cs =>
    refine dropWhile_of ?_
    rcases h c (.head _) with q | q | q <;> omega
theorem bits_rev {cs : List Nat} (h : Bits3 cs) : Bits3 cs.reverse := fun c hc => h c (List.mem_reverse.mp hc)
theorem based_bits {cs : List Nat} (h : Bits3 cs) : NumText.based 2 cs = (2, false, cs) := by
  have e : NumText.prefix? cs = none := by
    match cs, h with
    | [], _ => rfl
    | [c], h => rcases h c (.head _) with rfl | rfl | rfl <;> rfl
    | c :: d :: r, h =>
      rcases h c (.head _) with rfl | rfl | rfl
      · rcases h d (.tail _ (.head _)) with rfl | rfl | rfl <;> rfl
      · rfl
      · rfl
  unfold NumText.based
  rw [e]; rfl
theorem read_bits {cs : List Nat} (h : Bits3 cs) : (int_private% "readNumeral") 0 2 cs = NumText.judge 0 false 2 false (NumText.digits? 2 cs) := by
  have hs : NumText.sign cs = (false, cs) := by
    cases cs with
    | nil => rfl
    | cons c r => exact sign_of (by rcases h c (.head _) with q | q | q <;> omega) (by rcases h c (.head _) with q | q | q <;> omega)
  rw [readNumeral_eq, drop_bits h, hs]
  simp only [based_bits h]
  rw [drop_bits (bits_rev h), List.reverse_reverse]
theorem read_2 {cs : List Nat} (h : Bits3 cs) (h2 : 50 ∈ cs) : (int_private% "readNumeral") 0 2 cs = (int_private% "Numeral.invalid") := by
  rw [read_bits h, digits_2 h h2]; rfl
theorem read_01 {cs : List Nat} (h : ∀ c ∈ cs, c = 48 ∨ c = 49) (hne : cs ≠ []) : (int_private% "readNumeral") 0 2 cs = (int_private% "Numeral.value") (binVal cs : Int) := by
  rw [read_bits fun c hc => (h c hc).elim .inl fun q => .inr (.inl q), digits_01 h hne]
  show (int_private% "Numeral.value") (((cs.foldl (fun acc c => acc.push (c - 48)) #[]).foldl (fun acc d => acc * 2 + d) 0 : Nat) : Int) = _
  rw [push_val]
  rfl
end Mine
end
/- part C7 -/
section
open PySem PySem.W PyProof.Rows PySem.NumText
open Sem (wp)
set_option Elab.async false
set_option maxRecDepth 100000
set_option maxHeartbeats 1000000
namespace Mine
section
variable {prog : Program} {w : World} {A : Around} {E : Value → Shared → Prop} {s : Shared}
theorem gives_int_base2 {x : Str} {t u : Tok} {n : Int} (hs : (numSeenOf x).length ≤ 640) (ha : ((numSeenOf x).length == (numTextOf x).length) = true) (hr : (int_private% "readNumeral") 0 2 (numSeenOf x) = (int_private% "Numeral.value") n) :
    Gives (Builtin.«int.__new__» ⟨[.type "int", .str x t, .int 2 u], []⟩) (.int n) :=
  .of_wp fun M A E s Q h => by
    have f1 := F.conv_sub_int
    have f2 := F.madeHere_int
    unfold Builtin.«int.__new__»
    dsimp only
    refine wpAny_bind (wpAny_of_eq (a := true) rfl ?_)
    rw [if_neg (by decide)]
    refine wpAny_bind (wpAny_of_eq f1 ?_)
    rw [if_neg (by decide)]
    refine wpAny_bind (wpAny_of_eq f2 ?_)
    rw [if_neg (by simp)]
    rw [if_neg (by simp)]
    refine wpAny_bind (wpAny_of_eq (a := PUnit.unit) rfl ?_)
    show wpAny M A (Builtin.Int.intIndex "int.__new__" (.int 2 u) >>= _) _ E s
    refine wpAny_bind (wpAny_of_eq (a := (2 : Int)) rfl ?_)
    rw [if_neg (by decide)]
    refine wpAny_bind (wpAny_of_eq (a := some (numTextOf x)) rfl ?_)
    dsimp only
    refine wpAny_bind ?_
    refine wpAny_ite_true (decide_eq_true hs) ?_
    refine wpAny_bind (wpAny_pure ?_)
    dsimp only
    rw [show (List.takeWhile (fun x => x != 0) (numTextOf x)) = numSeenOf x from rfl]
    rw [show Int.toNat 2 = 2 from rfl, hr]
    dsimp only
    rw [if_pos ha]
    refine wpAny_mkInt ?_
    rw [if_pos (by decide)]
    exact wpAny_pure ⟨_, rfl, h⟩
theorem args_object_init_3 (a b c : Value) : argsOk "object.__init__" ⟨[a, b, c], []⟩ := by unfold argsOk; kernel_rfl
/-- int(x, 2) of a number in base two -/
theorem call_int_base2 {x : Str} {t u : Tok} {n : Int} {Q : Value → Shared → Prop} (hs : (numSeenOf x).length ≤ 640) (ha : ((numSeenOf x).length == (numTextOf x).length) = true) (hr : (int_private% "readNumeral") 0 2 (numSeenOf x) = (int_private% "Numeral.value") n)
    (h : Q (.int n s.toks) { s with toks := s.toks + 1 }) : wpAny (model prog w) A (call (.type "int") [.str x t, .int 2 u]) Q E s :=
  callType_new F.called_int F.newNe_int (typeCall_int_2 _ _) (newCall_int_2 _ _) (fun obj => args_object_init_3 obj _ _) F.entry_int_new (gives_int_base2 hs ha hr).meets (show (Made.int n).post _ s from ⟨rfl, h⟩)
end
end Mine
end
/- part C8 -/
section
open PySem PySem.W PyProof.Rows
open Sem (wp)
set_option Elab.async false
set_option maxRecDepth 100000
set_option maxHeartbeats 1000000
namespace Mine
section
variable {w : World} {d : Nat} {A : Around} {outer : List Env} {env : Env} {h₀ h : Heap} {L e : Addr} {m : Str → Option Value} {M : Model} {E : Value → Shared → Prop} {s : Shared} {cls : String} {vs : List Value} {Q : Unit → Shared → Prop}
/-- an exception made in the frame is noted there -/
theorem noted_made (I : In w d A outer env h₀ L h m) (hx : Heap.MadeExc h s.heap e cls vs)
    (hQ : ∀ h' a0, Heap.HeldW (hideAll h (frs (env :: outer))) (env :: outer) e (.type cls) a0 L h' → h.UpToSlots h' → Q () { s with heap := h' }) : wpAny M (A.deeper env) (noteFrame (.ref e) env) Q E s := by
  obtain ⟨t, he, htn, ht⟩ := hx.there
  have hkb : (hideAll h (frs (env :: outer))).StaysIn s.heap := fun b o q => hx.keeps b o (of_hideAll _ q)
  have hen : (hideAll h (frs (env :: outer))).get? e = none := by
    cases q : (hideAll h (frs (env :: outer))).get? e with
    | none => rfl
    | some o => have := of_hideAll _ q; rw [hx.new] at this; cases this
  unfold noteFrame
  simp only [I.loc]
  refine wpAny_bind (wpAny_field he rfl (x := .none) rfl ?_)
  rw [if_neg (by decide)]
  refine wpAny_entryW (Around.frames_deeper I.S0.st) (I.S.funs.of_keeps fun b o hb _ => ⟨o, hx.keeps b o hb, rfl⟩) I.loc he hkb hen rfl (by simp) rfl ?_
  intro h' hN
  obtain ⟨k1, k2, k3, k4⟩ := hN
  exact hQ h' _ ⟨k1, hen, k2, k3⟩ ((Heap.UpToSlots.of_keeps hx.keeps).trans k4)
end
end Mine
end
/- part C9 -/
section
open PySem PySem.W PyProof.Rows
open Sem (wp)
set_option Elab.async false
set_option maxRecDepth 100000
set_option maxHeartbeats 1000000
namespace Mine
section
variable {w : World} {d : Nat} {A : Around} {outer : List Env} {env : Env} {h₀ h : Heap} {L e : Addr} {m : Str → Option Value} {E : Value → Shared → Prop} {s : Shared} {cls : String} {Q : Flow → Shared → Prop}
theorem In.flown (I : In w d A outer env h₀ L h m) {h' : Heap} (x : (hideAll h (frs (env :: outer))).StaysIn h') (u : h.UpToSlots h') : In w d A outer env h₀ L h' m := I.after (kept_of_hide x u)
/-- an exception that is held is caught by except X -/
theorem caught (I : In w d A outer env h₀ L h m) {a0 : Value} {x : Str} {np pos : Pos} {b₀ : Stmt} {suite : List Stmt} {rest : List ExceptHandler}
    (hH : Heap.HeldW (hideAll h (frs (env :: outer))) (env :: outer) e (.type cls) a0 L s.heap) (hu : h.UpToSlots s.heap)
    (hexc : isSubtype (.type cls) (.type "BaseException") = pure true) (hnt : isSubtype (.type ((Manifest.find? cls).elim "type" fun y => y.metatype)) (.type "tuple") = pure false) (hsub : isSubtype (.type cls) (.type cls) = pure true)
    (hv : bootBuiltins x = some (.type cls)) (hm : gNames w.params x = none)
    (k : ∀ h' E', Kept (frs (env :: outer)) h h' → In w d A outer env h₀ L h' m → wpAny (model thePw w) ((A.deeper env).mark (some (.ref e))) (execs (b₀ :: suite) env) Q E' { s with heap := h' })
    (hn : x ≠ "__name__" := by decide) (hk : env.scope.kind = .function := by rfl) (hkx : env.kindOf x = some .globalImplicit := by rfl) (hgl : env.globals = 3 := by rfl) (hbl : env.builtins = 0 := by rfl) (hd : (x == ("__debug__" : Str)) = false := by decide) :
    wpAny (model thePw w) (A.deeper env) (setFlight (.ref e) none) (fun _ s₃ => wpAny (model thePw w) (A.deeper env) (handleBy (.ref e) env (.ExceptHandler (some (.Name x np)) none (b₀ :: suite) pos :: rest)) Q E s₃) E s := by
  refine wpAny_landsW hH fun h₅ hfl hu₅ => ?_
  have u₅ := hu.trans hu₅
  have I₅ : In w d A outer env h₀ L h₅ m := I.after (kept_of_hide hfl.1 u₅)
  obtain ⟨ob, hob, hobc⟩ := hfl.there
  refine wpAny_handleBy_builtin (X := cls) (T := cls) (b := true) hexc hnt hsub (ldB I₅.S.ok hm hv ⟨rfl, ⟨ob, hob, hobc⟩, ?_⟩ hn hk hkx hgl hbl hd)
  rw [if_pos rfl]
  refine lands_againW hfl fun h₆ hfl₆ hu₆ => ?_
  exact k h₆ _ (kept_of_hide hfl₆.1 (u₅.trans hu₆)) (I.after (kept_of_hide hfl₆.1 (u₅.trans hu₆)))
/-- an exception that came out of a call is noted in the frame -/
theorem noted_thrown {M : Model} {ev : Value} {Q : Unit → Shared → Prop} (I : In w d A outer env h₀ L h m) (hx : Thrown (env :: outer) h cls ev s.heap)
    (hQ : ∀ a a0 h', ev = .ref a → Heap.HeldW (hideAll h (frs (env :: outer))) (env :: outer) a (.type cls) a0 L h' → h.UpToSlots h' → Q () { s with heap := h' }) : wpAny M (A.deeper env) (noteFrame ev env) Q E s := by
  obtain ⟨a, a0, rfl, f1, f2⟩ := hx
  exact wpAny_looks_onW (Around.frames_deeper I.S0.st) I.loc f1 fun h' x1 x2 => hQ a a0 h' rfl x1 (f2.trans x2)
end
end Mine
end
/- part C10 -/
section
open PySem PySem.W PyProof.Rows
open Sem (wp)
set_option Elab.async false
set_option maxRecDepth 100000
set_option maxHeartbeats 1000000
namespace Mine
section
variable {M : Model} {A : Around} {s : Shared}
theorem codeC_with_toks {c : Code} {R : Result → Shared → Prop} {n : Nat} (hn : n ≤ s.toks) (h : codeC M A c (fun r s' => n ≤ s'.toks → R r s') s) : codeC M A c R s :=
  fun Γ p hc hΓ hC => by obtain ⟨r, s', hr, hR⟩ := h Γ p hc hΓ hC; exact ⟨r, s', hr, hR (Nat.le_trans hn hr.toks_le)⟩
/-- any tree keeps the order of the drawn names -/
theorem wpC_with_toks {α : Type} {t : Sem α} {Q : α → Shared → Prop} {E : Value → Shared → Prop} {n : Nat} (hn : n ≤ s.toks)
    (h : wpC M A t (fun a s' => n ≤ s'.toks → Q a s') (fun e s' => n ≤ s'.toks → E e s') s) : wpC M A t Q E s :=
  fun Γ p hΓ hC => Sem.wp_mono M Γ t (fun _ _ _ x => x.2 x.1) (fun _ _ _ x => x.2 x.1) p s (Sem.wp_toks M Γ n t _ _ p s hn (h Γ p hΓ hC))
end
end Mine
end
/- part H15 -/
section
open PySem PySem.W PyProof.Rows
open Sem (wp)
set_option Elab.async false
set_option maxRecDepth 100000
set_option maxHeartbeats 400000
namespace Mine
theorem caller_called : Called ⟨.builtin "claim.caller" {}, none, none, [], none⟩ := by unfold Called; decide +kernel
/-- the claim's thread ends, shown where its caller is seen -/
theorem thread_endsC {prog : Program} {w : World} {t : Sem Fin} {s : Shared} {R : Result → Shared → Prop} (hz : s.asleep)
    (h : wpC (model prog w) callerA t (fun fin s' => ∃ f, fin = .done f ∧ R (.ok f) s' ∧ AllBare s'.gens) (fun e s' => R (.error e) s' ∧ AllBare s'.gens) s) :
    ∃ n r s' s'', runN (denote table) prog w n s ⟨t, .builtin "claim.caller" {}, default, []⟩ = .halted (outcomeOf r) s' ∧
      schedN (denote table) prog w n (.single s ⟨t, .builtin "claim.caller" {}, default, []⟩) = .halted (outcomeOf r) s' ∧ s'.forget = s''.forget ∧ R r s'' := by
  have hwp := h _ default caller_in caller_called
  obtain ⟨n, r, s₁, s₂, hs, hn, hfo, hR⟩ := wp_halts_full (M := model prog w) (R := R) hz (Sem.wp_mono _ _ t (fun fin p' s' h' => by
    obtain ⟨f, rfl, h1, h2⟩ := h'
    exact ⟨h1, leftWithCleanup_false_of_bare h2⟩) (fun e p' s' h' => ⟨h'.1, leftWithCleanup_false_of_bare h'.2⟩) default s hwp)
  exact ⟨n, r, s₂, s₁, hn, hs, hfo, hR⟩
/-- from what the call gives, told in wpC, to the claim's own words -/
theorem callFromC {c : ClaimW} {tree : List Value → Sem Fin} {w : World} {s : Shared} {free : Addr → Prop} {gens : Prop} {kept : Heap → Prop} (hz : s.asleep) (hg : s.gens = #[])
    (spec : ∀ args, c.pre args = true → WData.layableAll args = true → ∀ ord : List DictEntry → List DictEntry, (∀ l, (ord l).Perm l) → ∃ vs s₁, layAllW c.records (classAt s.heap) w.params ord args s = some (vs, s₁) ∧
      wpC (model c.prog w) callerA (tree vs) (fun fin s' => ∃ f, fin = .done f ∧ (c.Ends s args vs s₁ (.ok f) s' ∧ s'.os = s.os ∧ kept s'.heap) ∧ AllBare s'.gens)
        (fun e s' => (c.Ends s args vs s₁ (.error e) s' ∧ s'.os = s.os ∧ kept s'.heap) ∧ AllBare s'.gens) s₁) :
    c.CallFrom (fun vs => ⟨tree vs, .builtin "claim.caller" {}, default, []⟩) w free gens kept s := by
  intro args h1 h2 ord h3
  obtain ⟨vs, s₁, laid, hc⟩ := spec args h1 h2 ord h3
  have rest := layAllW_rest _ _ _ laid
  obtain ⟨k, r, s', s'', run, sched, same, ends, os, kp⟩ := thread_endsC (prog := c.prog) (w := w) (t := tree vs) (s := s₁)
    (R := fun r s' => c.Ends s args vs s₁ r s' ∧ s'.os = s.os ∧ kept s'.heap) (Shared.asleep_of_life rest.2.2.2 hz) hc
  obtain ⟨eh, _, _, eo, _⟩ := Shared.forget_eq same
  replace ends := ends.congr eh
  rw [← eh] at kp
  rw [← eo] at os
  have life : s'.heap.life = s.heap.life := (runN_life _ _ _ run).trans rest.2.2.2
  refine ⟨vs, s₁, laid, k, _, s', sched, ?_, (fun _ i x hx => by rw [hg] at hx; simp at hx), kp, by rw [life], Shared.rest_eq os⟩
  cases ends with
  | inl q =>
    obtain ⟨v, rfl, d1, d2, d3, d4, d5⟩ := q
    exact .inl ⟨v, rfl, d1, d2, d3, fun b o y _ => d4 b o y, d5⟩
  | inr q =>
    obtain ⟨e, ob, cls, rfl, d1, d2, d3, d4, d5⟩ := q
    exact .inr ⟨e, ob, cls, rfl, d1, d2, d3, d4, fun b o y _ => d5 b o y⟩
noncomputable section
/-- what the walk of the law's call is to show, in wpC -/
abbrev WalkC (q : Program) (loose : List Str) (XP : (Str → Option Value) → Heap → Prop) (YP : World → Heap → Prop) (r : RowW) (d : DefRec) : Prop :=
  ∀ (w : World) (s₀ s₁ : Shared) (mg mb : Str → Option Value), Ground q loose r.records XP w s₀ mg mb s₁.heap → YP w s₁.heap → ∀ a : Addr, mg d.name = some (.ref a) → s₁.gens = #[] →
    ∀ (args : List WData) (vals : List Value) (as : List Addr), r.claim.pre args = true → WData.layableAll args = true → ReadsAllW r.records (classAt s₀.heap) s₁.heap vals args as → WellAll w.params s₁.heap vals args → (∀ a ∈ as, (a == sysModules) = false) →
      wpC (model r.prog w) callerA (PySem.call (.ref a) vals) (fun v s' => GoodWG r.claim (classAt s₀.heap) (ExcName.means s₀.heap) args s₁ (.ok (.ret v)) s')
        (fun e s' => GoodWG r.claim (classAt s₀.heap) (ExcName.means s₀.heap) args s₁ (.error e) s') s₁
theorem law_byC {r : OpenRow} {q : Program} {loose : List Str} {XP : (Str → Option Value) → Heap → Prop} {YP : World → Heap → Prop} {d : DefRec} {kwd : List (Str × Expr)}
    (left : BehindTop r.prog q loose XP YP) (hr : r.records = []) (hwr : r.writes = false) (hYk : ∀ w h h', YP w h → (∀ b o, h.get? b = some o → h'.get? b = some o) → YP w h') (hXk : ∀ mg h h', XP mg h → (∀ b o, h.get? b = some o → h'.get? b = some o) → XP mg h')
    (hdef : defOf q r.name = some (d, kwd)) (hp : r.prog.theDef r.name = some (d.params, d.body, d.scope)) (hk : kwWritten? d.params.kwonlyargs d.params.kw_defaults = some kwd)
    (k1 : r.wellSaid = true) (ok : (opensWell r.prog && (frees r.toRowW && r.within.isEmpty)) = true) (hb : r.prog.bare) (hw : r.toRowW.promised)
    (call : WalkC q loose XP YP r.toRowW d) : r.Holds := by
  obtain ⟨o1, ok⟩ := Bool.and_eq_true_iff.mp ok
  obtain ⟨k5, k6⟩ := Bool.and_eq_true_iff.mp ok
  obtain ⟨hsame, hu, ha, hap, hm⟩ := frees_parts k5
  have hrr : r.toRowW.records = [] := hr
  have hcr : r.toRowW.claim.records = [] := hr
  refine ⟨k1, hw, ⟨hb, o1, by show r.toRowW.makers.map _ = []; rw [hm]; rfl⟩, hw.witness, fun w => ⟨(left w).1, fun s' hs' => ?_⟩⟩
  obtain ⟨s₀, hf, hg0, s, hT, hz, hgens, hg, G00, y⟩ := (left w).2 s' hs'
  have G0 : Ground q loose [] XP w s (s.heap.nsMap mainGlobals) (s.heap.nsMap builtinsNs) s.heap := ⟨G00.T, G00.B, G00.D, G00.TE, G00.TD, G00.W, G00.X.1, G00.cls, G00.has, G00.apart, G00.once, G00.K⟩
  have G : Ground q loose r.toRowW.records XP w s (s.heap.nsMap mainGlobals) (s.heap.nsMap builtinsNs) s.heap := by rw [hrr]; exact G0
  refine ⟨s₀, hf, hg0, s, hT, fun n hn => ?_, by rw [hcr]; exact G00.X.2.1, by rw [hcr]; exact G00.X.2.2.1, ?_⟩
  · obtain rfl : n = r.name := by split at hn <;> simp_all
    exact pinned_of_view hg G0 hdef hp hk
  refine callFromC (c := r.toRowW.claim) (tree := fun vs => do match ← nsGet mainNs r.name with
      | some f => do ret (← PySem.call f vs)
      | none => unsupported "claim.caller:no-such-global") hz hgens fun args hpre hlay ord hord => ?_
  obtain ⟨⟨vs, s₁⟩, hlaid⟩ := Option.isSome_iff_exists.mp (layAllW_isSome (P := w.params) (ord := ord) G.has args r.toRowW.args s (pre_splitW hpre).1)
  have keeps := layAllW_keeps _ _ _ hlaid
  have hal := layAllW_rest _ _ _ hlaid
  obtain ⟨as, hrd, hin, hold⟩ := reads_layAllW hord _ _ _ hlaid hlay s₁.heap (fun _ _ e => e)
  have L : Laid r.toRowW.records w s s₁ args vs as := ⟨⟨ord, hord, hlaid⟩, hrd, hin, hold, keeps, hal.1.trans hgens, hal.2.2.1⟩
  have G₁ := G.keeps hXk keeps
  obtain ⟨a, o, pm, cd, doc, dV, kV, h1, h2, h3, h4, h5⟩ := G₁.fn hdef
  have h := call w s s₁ _ _ G₁ (hYk _ _ _ y keeps) a (defOf_name hdef ▸ h1) L.gens args vs as hpre hlay L.reads L.well (L.low G.low)
  have hi := ident_freeW hu ha hap
  have hwi : r.toRowW.claim.within = [] := List.isEmpty_iff.mp k6
  refine ⟨vs, s₁, hlaid, wpC_bindA (wpAny_nsGet G₁.T.g ?_)⟩
  rw [h1]
  refine wpC_bind (wpC_mono h (fun v s' g => wpC_pure ?_) fun e s' g => ?_)
  · have z := g.laid (c := r.toRowW.claim) hsame hwi hi L
    exact ⟨_, rfl, ⟨z.1, z.2.1, fun q => by rw [hwr] at q; cases q⟩, z.2.2⟩
  · have z := g.laid (c := r.toRowW.claim) hsame hwi hi L
    exact ⟨⟨z.1, z.2.1, fun q => by rw [hwr] at q; cases q⟩, z.2.2⟩
end
end Mine
end
/- part J1 -/
section
open PySem PySem.W PyProof.Rows
open Sem (wp)
set_option Elab.async false
set_option maxRecDepth 100000
set_option maxHeartbeats 1000000
namespace Mine
section
variable {prog : Program} {w : World} {A : Around} {E : Value → Shared → Prop} {s : Shared}
theorem isi_str {x : Str} {t : Tok} {Q : Value → Shared → Prop} (h : Q (.bool true) s) : wpAny (model prog w) A (call (.builtin "isinstance") [.str x t, .type "str"]) Q E s :=
  call_isinstance_yes (typeIs_str s x t) (by kernel_rfl) (by rw [isSubtype_type]; kernel_rfl) h
theorem meth_replace {x : Str} {t : Tok} {pos : Pos} {a b : Sem Value} {Q : Value → Shared → Prop}
    (h : wpAny (model prog w) A a (fun v₁ s₁ => wpAny (model prog w) A b (fun v₂ s₂ => ∃ y u z v, v₁ = .str y u ∧ v₂ = .str z v ∧ u ≠ 0 ∧ v ≠ 0 ∧ u ≠ v ∧ (y == z) = false ∧ x.length ≤ 1048576 ∧ z.length ≤ 14 ∧
      ∀ t' k, Q (.str (Txt.replace x y z) t') { s₂ with toks := k }) E s₁) E s) : MethodOnS prog w A E "replace" (.str x t) pos [(false, a), (false, b)] Q s := by
  refine ⟨"str", "str.replace", F.plainAttrs_str, F.slot_str_replace, F.type_str_replace, typeIs_str _ _ _, (fun _ e => nomatch e), ?_⟩
  refine Calls.callWith_builtin rfl (Calls.evalArgs_plain (Calls.spliced_cons (wpAny_mono h (fun v₁ s₁ h₁ => Calls.spliced_cons (wpAny_mono h₁ (fun v₂ s₂ h₂ => Calls.spliced_nil ?_) fun _ _ e => e)) fun _ _ e => e)))
  obtain ⟨y, u, z, v, rfl, rfl, hu, hv, huv, hyz, hx, hz, hq⟩ := h₂
  exact SC.replaceW hu hv huv hyz hx hz hq
end
theorem str_ext {a b : Str} (h : a.cps.toList = b.cps.toList) : a = b := by
  obtain ⟨a⟩ := a; obtain ⟨b⟩ := b
  have := Array.toList_inj.mp h
  subst this; rfl
/-- the text without its separator -/
def bare (x sep : Str) : Str := if sep.cps.toList = [] then x else Txt.replace x sep (Str.ofString "")
theorem bare_len (x sep : Str) (h : sep.cps.toList = [] ∨ ∃ c, sep = ⟨#[c]⟩) : (bare x sep).length ≤ x.length := by
  unfold bare
  rcases h with h | ⟨c, rfl⟩
  · rw [if_pos h]; exact Nat.le_refl _
  · rw [if_neg (by simp)]
    have e : Str.ofString "" = ⟨#[]⟩ := by decide +kernel
    have := replace_strikes x c
    rw [e]
    show (Txt.replace x ⟨#[c]⟩ ⟨#[]⟩).cps.size ≤ x.cps.size
    rw [← Array.length_toList, ← Array.length_toList, this]
    exact List.length_filter_le _ _
end Mine
end
/- part G1 -/
section
open PySem PySem.W PyProof.Rows
set_option Elab.async false
set_option maxRecDepth 100000
set_option maxHeartbeats 1000000
namespace Mine
/-- the codes of a text -/
abbrev cd (x : Str) : List Nat := x.cps.toList
theorem cd_len (x : Str) : (cd x).length = x.length := by show x.cps.toList.length = x.cps.size; rw [Array.length_toList]
theorem cd_app (x y : Str) : cd (x ++ y) = cd x ++ cd y := by show (x.cps ++ y.cps).toList = _; rw [Array.toList_append]
theorem slice_from (x : Str) (i : Nat) (h : i ≤ x.length) : cd (Txt.slice x (some (i : Int)) none) = (cd x).drop i := by
  have e : Txt.slice x (some (i : Int)) none = StrLaws.sliceText x (some (i : Int)) none := rfl
  rw [e, StrLaws.sliceText_from ⟨Int.natCast_nonneg _, by have := cd_len x; unfold cd at this; omega⟩]
  show ((List.drop (i : Int).toNat (cd x)).take _) = _
  rw [Int.toNat_natCast, List.take_of_length_le]
  rw [List.length_drop]; unfold cd; omega
theorem slice_to (x : Str) (j : Nat) (h : j ≤ x.length) : cd (Txt.slice x none (some (j : Int))) = (cd x).take j := by
  have e : Txt.slice x none (some (j : Int)) = StrLaws.sliceText x none (some (j : Int)) := rfl
  rw [e, StrLaws.sliceText_to ⟨Int.natCast_nonneg _, by have := cd_len x; unfold cd at this; omega⟩]
  show ((List.drop 0 (cd x)).take ((j : Int) - 0).toNat) = _
  rw [List.drop_zero]
  congr 1
theorem slice_last (x : Str) (i : Nat) (h1 : 1 ≤ i) (h : i ≤ x.length) : cd (Txt.slice x (some (-(i : Int))) none) = (cd x).drop (x.length - i) := by
  have e : Txt.slice x (some (-(i : Int))) none = StrLaws.sliceText x (some (-(i : Int))) none := rfl
  have hl := cd_len x
  rw [e, StrLaws.sliceText_from_neg (by omega) (by omega)]
  show ((List.drop (-(i : Int) + x.length).toNat (cd x)).take _) = _
  rw [List.take_of_length_le]
  · congr 1; omega
  · rw [List.length_drop]; unfold cd at *; omega
/-- the n lowest binary digits of a number, the highest first -/
def wcodes (n v : Nat) : List Nat := (List.range n).map fun k => 48 + v / 2 ^ (n - 1 - k) % 2
def wtext (n v : Nat) : Str := ⟨(wcodes n v).toArray⟩
theorem cd_wtext (n v : Nat) : cd (wtext n v) = wcodes n v := rfl
theorem wcodes_len (n v : Nat) : (wcodes n v).length = n := by simp [wcodes]
theorem wtext_len (n v : Nat) : (wtext n v).length = n := by rw [← cd_len, cd_wtext, wcodes_len]
theorem wcodes_at (n v k : Nat) (h : k < n) : (wcodes n v)[k]? = some (48 + v / 2 ^ (n - 1 - k) % 2) := by simp [wcodes, h]
theorem bits8_codes (N : Nat) (h : N < 256) : cd (bits8 N) = wcodes 8 N := by
  have : ∀ N, N < 256 → cd (bits8 N) = wcodes 8 N := by decide +kernel
  exact this N h
theorem cd_join0 : ∀ (l : List Str), cd (Txt.join "" l) = (l.map cd).flatten := by
  intro l
  have e : Txt.join "" l = Str.join "" l := StrLaws.glued_eq_join _ _
  rw [e]
  have z : cd ("" : Str) = [] := by decide +kernel
  induction l with
  | nil => rfl
  | cons a r ih =>
    cases r with
    | nil => simp [Str.join]
    | cons b r =>
      show cd (a ++ "" ++ Str.join "" (b :: r)) = _
      rw [cd_app, cd_app, z, ih (StrLaws.glued_eq_join _ _)]
      simp
theorem zeros_cd (n : Nat) : cd (Txt.mul (Str.ofString "0") (n : Int)) = List.replicate n 48 := by
  have e : Str.ofString "0" = ⟨#[48]⟩ := by decide +kernel
  rw [e]
  have := mul_one_list 48 (n : Int)
  rw [Int.toNat_natCast] at this
  exact this
theorem ones_cd (n : Nat) : cd (Txt.mul (Str.ofString "1") (n : Int)) = List.replicate n 49 := by
  have e : Str.ofString "1" = ⟨#[49]⟩ := by decide +kernel
  rw [e]
  have := mul_one_list 49 (n : Int)
  rw [Int.toNat_natCast] at this
  exact this
theorem digit_split (v a b : Nat) : v / 256 / 2 ^ a % 2 = v / 2 ^ (a + 8) % 2 := by
  rw [Nat.div_div_eq_div_mul, Nat.pow_add, Nat.mul_comm 256]
theorem digit_low (v a : Nat) (h : a < 8) : v % 256 / 2 ^ a % 2 = v / 2 ^ a % 2 := by
  have e : (256 : Nat) = 2 ^ a * 2 ^ (8 - a) := by rw [← Nat.pow_add, Nat.add_sub_cancel' (Nat.le_of_lt h)]
  rw [e, Nat.mod_mul_right_div_self]
  refine Nat.mod_mod_of_dvd _ ?_
  exact Nat.pow_dvd_pow 2 (by omega : 1 ≤ 8 - a)
/-- the text that int_to_bits makes of a word -/
theorem word_text {one v : Nat} (h1 : 1 ≤ one ∧ one ≤ 16) (hv : v < 2 ^ one) (J : Str) (hJ : cd J = if v = 0 then List.replicate one 48 else if v / 256 = 0 then wcodes 8 (v % 256) else wcodes 8 (v / 256) ++ wcodes 8 (v % 256)) :
    Txt.slice (Txt.mul (Str.ofString "0") (one : Int) ++ J) (some (-(one : Int))) none = wtext one v := by
  apply str_ext
  show cd _ = cd _
  have hz := zeros_cd one
  have hlz : (Txt.mul (Str.ofString "0") (one : Int)).length = one := by rw [← cd_len, hz, List.length_replicate]
  have hl : (Txt.mul (Str.ofString "0") (one : Int) ++ J).length = one + J.length := by rw [Str.length_append, hlz]
  rw [slice_last _ _ h1.1 (by rw [hl]; omega), hl, Nat.add_sub_cancel_left, cd_app, hz, cd_wtext]
  apply List.ext_getElem?
  intro k
  rw [List.getElem?_drop]
  by_cases hk : k < one
  case neg =>
    rw [List.getElem?_eq_none (l := wcodes one v) (by rw [wcodes_len]; omega), List.getElem?_eq_none (l := List.replicate one 48 ++ cd J)]
    rw [List.length_append, List.length_replicate, cd_len]; omega
  rw [wcodes_at _ _ _ hk]
  have hJl := cd_len J
  have small : ∀ a, v < 2 ^ a → ∀ b, a ≤ b → v / 2 ^ b = 0 := fun a ha b hb => Nat.div_eq_of_lt (Nat.lt_of_lt_of_le ha (Nat.pow_le_pow_right (by decide) hb))
  by_cases v0 : v = 0
  · subst v0
    rw [if_pos rfl] at hJ
    rw [hJ, Nat.zero_div]
    rw [hJ, List.length_replicate] at hJl
    rw [List.getElem?_append_right (by rw [List.length_replicate]; omega), List.length_replicate, List.getElem?_replicate, if_pos (by omega)]
  rw [if_neg v0] at hJ
  by_cases v1 : v / 256 = 0
  · rw [if_pos v1] at hJ
    rw [hJ, wcodes_len] at hJl
    rw [hJ, ← hJl]
    by_cases hh : 8 + k < one
    · rw [List.getElem?_append_left (by rw [List.length_replicate]; omega), List.getElem?_replicate, if_pos hh, small 8 (by omega) _ (by omega)]
    · rw [List.getElem?_append_right (by rw [List.length_replicate]; omega), List.length_replicate, wcodes_at _ _ _ (by omega), digit_low _ _ (by omega)]
      congr 5; omega
  · rw [if_neg v1] at hJ
    rw [hJ, List.length_append, wcodes_len, wcodes_len] at hJl
    rw [hJ, ← hJl, List.getElem?_append_right (by rw [List.length_replicate]; omega), List.length_replicate]
    by_cases hh : 16 + k - one < 8
    · rw [List.getElem?_append_left (by rw [wcodes_len]; exact hh), wcodes_at _ _ _ hh, digit_split v _ 0]
      congr 5; omega
    · rw [List.getElem?_append_right (by rw [wcodes_len]; omega), wcodes_len, wcodes_at _ _ _ (by omega), digit_low _ _ (by omega)]
      congr 5; omega
end Mine
end
/- part J2 -/
section
open PySem PySem.W PyProof.Rows
open Sem (wp)
set_option Elab.async false
set_option maxRecDepth 100000
set_option maxHeartbeats 1000000
namespace Mine
theorem bits3_seen {y : Str} (h : Bits3 y.cps.toList) : numTextOf y = y.cps.toList ∧ numSeenOf y = y.cps.toList :=
  numText_signs fun c hc => .inr (by rcases h c hc with q | q | q <;> omega)
theorem bits3_repr {y : Str} (h : Bits3 y.cps.toList) (hl : y.length ≤ 2000) : (reprText y).length ≤ 100000 := by
  have := PySem.StrLaws.reprText_len y fun c hc => by rcases h c hc with q | q | q <;> (subst q; decide)
  omega
theorem binVal_lt_aux : ∀ (cs : List Nat) (a : Nat), (∀ c ∈ cs, c = 48 ∨ c = 49) → cs.foldl (fun a c => a * 2 + (c - 48)) a < (a + 1) * 2 ^ cs.length
  | [], a, _ => by simp
  | c :: cs, a, h => by
    have h1 := binVal_lt_aux cs (a * 2 + (c - 48)) fun d hd => h d (.tail _ hd)
    have hc : c - 48 ≤ 1 := by rcases h c (.head _) with q | q <;> omega
    rw [List.foldl_cons, List.length_cons, Nat.pow_succ, Nat.mul_comm (2 ^ cs.length) 2, ← Nat.mul_assoc]
    refine Nat.lt_of_lt_of_le h1 (Nat.mul_le_mul_right _ ?_)
    omega
theorem binVal_lt {cs : List Nat} (h : ∀ c ∈ cs, c = 48 ∨ c = 49) : binVal cs < 2 ^ cs.length := by
  have := binVal_lt_aux cs 0 h
  simpa [binVal] using this
theorem bits_01 {cs : List Nat} (h : Bits3 cs) (h2 : 50 ∉ cs) : ∀ c ∈ cs, c = 48 ∨ c = 49 := fun c hc => by
  rcases h c hc with q | q | q
  · exact .inl q
  · exact .inr q
  · subst q; exact absurd hc h2
def validY (y : Str) (n : Nat) : Bool := decide (y.length = n) && !decide (50 ∈ y.cps.toList)
section
variable {w : World} {d : Nat} {A : Around} {outer : List Env} {E : Value → Shared → Prop} {s : Shared}
theorem c_valid_bits {x sep : Str} {n : Nat} {t0 t1 u : Tok} {Q : Value → Shared → Prop}
    (S : Sit w d A outer s.heap) (hd : d ≤ 18) (hT : 0 < s.toks) (hu : u ≠ 0) (hus : u < s.toks) (hsep : sep.cps.toList = [] ∨ ∃ c, sep = ⟨#[c]⟩) (hx : x.length ≤ 2000) (h3 : (bare x sep).length = n → Bits3 (bare x sep).cps.toList) (hn : 1 ≤ n ∧ n ≤ 128)
    (h : ∀ s', Same s s' → Kept (frs outer) s.heap s'.heap → Q (.bool (validY (bare x sep) n)) s') :
    wpC (model thePw w) A (call (.ref 1337) [.str x t0, .int (n : Int) t1, .str sep u]) Q E s := by
  refine callFC [("bits", .str x t0), ("width", .int (n : Int) t1), ("word_sep", .str sep u)] S (by omega) (o := kf1337) rfl rfl rfl rfl rfl rfl ⟨1336, _, _, _, rfl, rfl, rfl, rfl⟩ (.of_defaults rfl (S.ok.K _ _ rfl) rfl (by rfl) (by rfl)) (locs (by rfl)) (by decide) ?_
  intro h₁ L tk htk I
  show wpC (model thePw w) (A.deeper (envF kf1337 1337 L)) (execs (_ :: _ :: _ :: _ :: _ :: _ :: []) (envF kf1337 1337 L)) _ _ _
  refine execsC_cons (wpC_any (wpAny_If (wpAny_isTrue_Not (wpAny_isTrue_value ?_ (by rfl)))))
  refine wpAny_Call_NameR (ldB I.S.ok (g_none _ _ (by decide)) b_isinstance ?_)
  refine Calls.callWith_builtin rfl (Calls.evalArgs_plain (Calls.spliced_cons (ldL I.ns rfl ?_)))
  refine Calls.spliced_cons (ldB I.S.ok (g_none _ _ (by decide)) b_str ?_)
  refine Calls.spliced_nil (isi_str ?_)
  refine tb true rfl ?_
  show wpAny (model thePw w) (A.deeper (envF kf1337 1337 L)) (execs [] (envF kf1337 1337 L)) _ _ _
  refine wpAny_execs_nil ?_
  have rest : ∀ s₂ m t, Same s s₂ → In w d A outer (envF kf1337 1337 L) s.heap L s₂.heap m → m "bits" = some (.str (bare x sep) t) → m "width" = some (.int (n : Int) t1) → (bare x sep).length ≤ 2000 →
      wpC (model thePw w) (A.deeper (envF kf1337 1337 L)) (execs ((stmtsOf kf1337).drop 2) (envF kf1337 1337 L)) (fun fl s' => Q (match fl with | .ret v => v | _ => .none) s') (leaveE w A (envF kf1337 1337 L) E) s₂ := by
    intro s₂ m t sm I2 hb hw hbl
    generalize hy : bare x sep = y at *
    show wpC (model thePw w) (A.deeper (envF kf1337 1337 L)) (execs (_ :: _ :: _ :: _ :: []) (envF kf1337 1337 L)) _ _ _
    refine execsC_cons (wpC_any (wpAny_If (wpAny_isTrue_Compare1 ?_)))
    refine wpAny_Call_NameR (ldB I2.S.ok (g_none _ _ (by decide)) b_len ?_)
    refine Calls.callWith_builtin rfl (Calls.evalArgs_plain (Calls.spliced_cons (ldL I2.ns hb ?_)))
    refine Calls.spliced_nil (SBL.len (by omega) ?_)
    refine ldL I2.ns hw ?_
    refine P.ne_int ?_
    by_cases hl : y.length = n
    case neg =>
      refine tb true (by simpa using fun e => hl (by exact_mod_cast e)) ?_
      show wpAny (model thePw w) (A.deeper (envF kf1337 1337 L)) (execs (_ :: []) (envF kf1337 1337 L)) _ _ _
      refine wpAny_execs_cons (wpAny_Return_some (wpAny_Constant_bool ?_))
      have e2 : validY y n = false := by simp [validY, hl]
      rw [e2] at h
      exact h _ ⟨sm.gens, sm.drawn, sm.os⟩ I2.kept
    refine tb false (by simp [hl]) ?_
    show wpAny (model thePw w) (A.deeper (envF kf1337 1337 L)) (execs [] (envF kf1337 1337 L)) _ _ _
    refine wpAny_execs_nil ?_
    replace h3 := h3 hl
    refine execsC_cons (wpC_any (wpAny_Assign_Name ?_ (by rfl)))
    refine wpAny_BinOp (wpAny_BinOp (wpAny_Constant_int (ldL I2.ns hw ?_)))
    refine pow_int_small (Int.natCast_nonneg _) (by omega) (by decide) ?_
    refine wpAny_Constant_int (P.sub_int ?_)
    refine stS I2 ?_
    intro s₃ sm3 I3 _
    replace sm3 : Same s s₃ := ⟨sm3.gens.trans sm.gens, sm3.drawn.trans sm.drawn, sm3.os.trans sm.os⟩
    refine execsC_cons (C_Try ?_)
    refine execsC_cons (C_If (C_isTrue_chain (wpAny_Constant_int (C_test_link ?_))))
    refine C_Call_NameR (ldB I3.S.ok (g_none _ _ (by decide)) b_int ?_)
    refine C_callWith_type rfl (Calls.evalArgs_plain (Calls.spliced_cons (ldL I3.ns ((if_neg (by decide)).trans hb) ?_)))
    refine Calls.spliced_cons (wpAny_Constant_int (k := 0) (pos := default) ?_)
    refine Calls.spliced_nil ?_
    obtain ⟨e1, e2⟩ := bits3_seen h3
    by_cases h2 : 50 ∈ y.cps.toList
    case pos =>
      refine C_int_refused I3.S.hd (bits3_repr h3 hbl) (by rw [e2, Array.length_toList]; show y.length ≤ 640; omega) (by rw [e2]; exact read_2 h3 h2) ?_
      intro h₄ e tk4 v hm
      refine noted_made (s := { s₃ with heap := h₄, toks := tk4 }) I3 hm ?_
      intro h₅ a0 hH hu5
      refine caught (s := { s₃ with heap := h₅, toks := tk4 }) I3 hH hu5 (by rw [isSubtype_type]; kernel_rfl) (by kernel_rfl) (by rw [isSubtype_type]; kernel_rfl) b_ValueError (g_none _ _ (by decide)) ?_
      intro h₆ E' _ I6
      refine wpAny_execs_cons (wpAny_Pass (wpAny_execs_nil ?_))
      show wpC (model thePw w) (A.deeper (envF kf1337 1337 L)) (execs (_ :: []) (envF kf1337 1337 L)) _ _ _
      refine execsC_cons (wpC_any (wpAny_Return_some (wpAny_Constant_bool ?_)))
      have e3 : validY y n = false := by simp [validY, h2]
      rw [e3] at h
      exact h _ ⟨sm3.gens, sm3.drawn, sm3.os⟩ I6.kept
    have h01 := bits_01 h3 h2
    have hyl : y.cps.toList.length = y.length := by rw [Array.length_toList]; rfl
    have hne : y.cps.toList ≠ [] := fun q => by rw [q] at hyl; simp at hyl; omega
    refine wpC_any (call_int_base2 (by rw [e2, Array.length_toList]; show y.length ≤ 640; omega) (by rw [e1, e2]; simp) (by rw [e2]; exact read_01 h01 hne) ?_)
    refine P.le_int ?_
    refine tb true (decide_eq_true (Int.natCast_nonneg _)) ?_
    refine test_last (ldL I3.ns (if_pos rfl) (P.le_int ?_))
    have hlt : binVal y.cps.toList < 2 ^ n := by have := binVal_lt h01; rw [hyl, hl] at this; exact this
    refine tb true (decide_eq_true ?_) ?_
    · rw [Int.toNat_natCast]
      exact Int.le_sub_one_of_lt (by exact_mod_cast hlt)
    show wpC (model thePw w) (A.deeper (envF kf1337 1337 L)) (execs (_ :: []) (envF kf1337 1337 L)) _ _ _
    refine execsC_cons (wpC_any (wpAny_Return_some (wpAny_Constant_bool ?_)))
    have e3 : validY y n = true := by simp [validY, h2, hl]
    rw [e3] at h
    exact h _ ⟨sm3.gens, sm3.drawn, sm3.os⟩ I3.kept
  -- the separator
  refine execsC_cons (wpC_any (wpAny_If (wpAny_isTrue_Compare1 ?_)))
  refine ldL I.ns rfl (wpAny_Constant_str ?_)
  refine ne_str ?_
  have es : (Str.ofString "").cps.toList = [] := by decide +kernel
  by_cases hs : sep.cps.toList = []
  · refine tb false (by rw [show sep = Str.ofString "" from str_ext (hs.trans es.symm)]; decide +kernel) ?_
    show wpAny (model thePw w) (A.deeper (envF kf1337 1337 L)) (execs [] (envF kf1337 1337 L)) _ _ _
    refine wpAny_execs_nil ?_
    have hb : bare x sep = x := if_pos hs
    exact rest _ _ t0 ⟨rfl, rfl, rfl⟩ I (by rw [hb]; rfl) rfl (by rw [hb]; exact hx)
  · refine tb true (by simp only [bne_iff_ne]; intro q; rw [q] at hs; exact hs es) ?_
    show wpAny (model thePw w) (A.deeper (envF kf1337 1337 L)) (execs (_ :: []) (envF kf1337 1337 L)) _ _ _
    refine wpAny_execs_cons (wpAny_Assign_Name ?_ (by rfl))
    refine Call_method2 (by rfl) (by rfl) (by rfl) (ldL I.ns rfl (meth_replace ?_))
    refine ldL I.ns rfl (wpAny_Constant_str ?_)
    refine ⟨_, _, _, _, rfl, rfl, hu, ?_, ?_, ?_, by omega, by decide +kernel, ?_⟩
    · exact Nat.pos_iff_ne_zero.mp (Nat.lt_of_lt_of_le hT (Nat.le_succ_of_le htk))
    · exact Nat.ne_of_lt (Nat.lt_of_lt_of_le hus (Nat.le_succ_of_le htk))
    · obtain ⟨c, rfl⟩ := hsep.resolve_left hs
      exact beq_false_of_ne fun q => by cases q
    intro t' k
    refine stS I ?_
    intro s₂ sm2 I2 _
    refine wpAny_execs_nil ?_
    have hb : bare x sep = Txt.replace x sep (Str.ofString "") := if_neg hs
    exact rest _ _ t' ⟨sm2.gens, sm2.drawn, sm2.os⟩ I2 (by rw [hb]; rfl) rfl (Nat.le_trans (bare_len x sep hsep) hx)
end
end Mine
end
/- part J3 -/
section
open PySem PySem.W PyProof.Rows
open Sem (wp)
set_option Elab.async false
set_option maxRecDepth 100000
set_option maxHeartbeats 1000000
namespace Mine
section
variable {w : World} {d : Nat} {A : Around} {outer : List Env} {E : Value → Shared → Prop} {s : Shared}
theorem validY_parts {y : Str} {n : Nat} (hv : validY y n = true) (h3 : y.length = n → Bits3 y.cps.toList) : y.length = n ∧ ∀ c ∈ y.cps.toList, c = 48 ∨ c = 49 := by
  simp only [validY, Bool.and_eq_true, decide_eq_true_eq, Bool.not_eq_true', decide_eq_false_iff_not] at hv
  exact ⟨hv.1, bits_01 (h3 hv.1) hv.2⟩
theorem call_int_01 {prog : Program} {y : Str} {t u : Tok} {Q : Value → Shared → Prop} (h01 : ∀ c ∈ y.cps.toList, c = 48 ∨ c = 49) (h1 : 1 ≤ y.length) (h2 : y.length ≤ 640)
    (h : Q (.int (binVal y.cps.toList : Int) s.toks) { s with toks := s.toks + 1 }) : wpAny (model prog w) A (call (.type "int") [.str y t, .int 2 u]) Q E s := by
  obtain ⟨e1, e2⟩ := bits3_seen (y := y) fun c hc => (h01 c hc).elim .inl fun q => .inr (.inl q)
  have hyl : y.cps.toList.length = y.length := by rw [Array.length_toList]; rfl
  have hne : y.cps.toList ≠ [] := fun q => by rw [q] at hyl; simp at hyl; omega
  exact call_int_base2 (by rw [e2, hyl]; exact h2) (by rw [e1, e2]; simp) (by rw [e2]; exact read_01 h01 hne) h
theorem c_bits_to_int {x sep : Str} {n : Nat} {t0 t1 u : Tok} {Q : Value → Shared → Prop}
    (S : Sit w d A outer s.heap) (hd : d ≤ 17) (hT : 0 < s.toks) (hu : u ≠ 0) (hus : u < s.toks) (hsep : sep.cps.toList = [] ∨ ∃ c, sep = ⟨#[c]⟩) (hx : x.length ≤ 2000) (h3 : (bare x sep).length = n → Bits3 (bare x sep).cps.toList) (hn : 1 ≤ n ∧ n ≤ 128)
    (hok : validY (bare x sep) n = true → ∀ s' t, Same s s' → Kept (frs outer) s.heap s'.heap → Q (.int (binVal (bare x sep).cps.toList : Int) t) s')
    (hbad : validY (bare x sep) n = false → ∀ e s', Same s s' → Thrown outer s.heap "ValueError" e s'.heap → E e s') :
    wpC (model thePw w) A (call (.ref 1345) [.str x t0, .int (n : Int) t1, .str sep u]) Q E s := by
  refine callFC [("bits", .str x t0), ("width", .int (n : Int) t1), ("word_sep", .str sep u)] S (by omega) (o := kf1345) rfl rfl rfl rfl rfl rfl ⟨1344, _, _, _, rfl, rfl, rfl, rfl⟩ (.of_defaults rfl (S.ok.K _ _ rfl) rfl (by rfl) (by rfl)) (locs (by rfl)) (by decide) ?_
  intro h₁ L tk htk I
  show wpC (model thePw w) (A.deeper (envF kf1345 1345 L)) (execs (_ :: _ :: _ :: []) (envF kf1345 1345 L)) _ _ _
  refine execsC_cons (C_If (C_isTrue_Not (C_isTrue_value ?_ (by rfl))))
  refine C_Call_NameR (ldG I.S.ok (g_valid_bits _) ?_)
  refine C_callWith_function (o := kf1337) (fd := fdOf kf1337) (Calls.evalArgs_plain (Calls.spliced_cons (ldL I.ns rfl ?_)))
  refine Calls.spliced_cons (ldL I.ns rfl ?_)
  refine Calls.spliced_cons (ldL I.ns rfl ?_)
  refine Calls.spliced_nil ⟨⟨I.S.ok.K _ _ rfl, rfl⟩, ?_⟩
  have hT1 : 0 < tk := Nat.lt_of_lt_of_le hT htk
  have hus1 : u < tk := Nat.lt_of_lt_of_le hus htk
  refine wpC_with_toks (s := { s with heap := h₁, toks := tk }) (n := tk) (Nat.le_refl _) ?_
  refine c_valid_bits (s := { s with heap := h₁, toks := tk }) I.S (by omega) hT1 hu hus1 hsep hx h3 hn ?_
  intro s₂ sm2 k₂ ht₂
  replace sm2 : Same s s₂ := ⟨sm2.gens, sm2.drawn, sm2.os⟩
  have I2 := I.after k₂
  cases hv : validY (bare x sep) n with
  | false =>
    refine tb false rfl ?_
    show wpC (model thePw w) (A.deeper (envF kf1345 1345 L)) (execs (_ :: []) (envF kf1345 1345 L)) _ _ _
    exact wpC_any (raise_text F.excCall_ValueError F.excRaise_ValueError I2 b_ValueError (g_none _ _ (by decide)) fun e s' x2 x3 => hbad hv _ _ (sm2.trans x2) x3)
  | true =>
  refine tb true rfl ?_
  show wpC (model thePw w) (A.deeper (envF kf1345 1345 L)) (execs [] (envF kf1345 1345 L)) _ _ _
  refine execsC_nil (wpC_any ?_)
  obtain ⟨hl, h01⟩ := validY_parts hv h3
  have rest : ∀ s₂ m t, Same s s₂ → In w d A outer (envF kf1345 1345 L) s.heap L s₂.heap m → m "bits" = some (.str (bare x sep) t) →
      wpAny (model thePw w) (A.deeper (envF kf1345 1345 L)) (execs ((stmtsOf kf1345).drop 2) (envF kf1345 1345 L)) (fun fl s' => Q (match fl with | .ret v => v | _ => .none) s') (leaveE w A (envF kf1345 1345 L) E) s₂ := by
    intro s₂ m t sm I2 hb
    show wpAny (model thePw w) (A.deeper (envF kf1345 1345 L)) (execs (_ :: []) (envF kf1345 1345 L)) _ _ _
    refine wpAny_execs_cons (wpAny_Return_some ?_)
    refine wpAny_Call_NameR (ldB I2.S.ok (g_none _ _ (by decide)) b_int ?_)
    refine PySem.callWith_type rfl (Calls.evalArgs_plain (Calls.spliced_cons (ldL I2.ns hb ?_)))
    refine Calls.spliced_cons (wpAny_Constant_int (k := 0) (pos := default) ?_)
    refine Calls.spliced_nil (call_int_01 h01 (by omega) (by omega) ?_)
    exact hok hv _ _ ⟨sm.gens, sm.drawn, sm.os⟩ I2.kept
  refine wpAny_execs_cons (wpAny_If (wpAny_isTrue_Compare1 ?_))
  refine ldL I2.ns rfl (wpAny_Constant_str ?_)
  refine ne_str ?_
  have es : (Str.ofString "").cps.toList = [] := by decide +kernel
  by_cases hs : sep.cps.toList = []
  · refine tb false (by rw [show sep = Str.ofString "" from str_ext (hs.trans es.symm)]; decide +kernel) ?_
    show wpAny (model thePw w) (A.deeper (envF kf1345 1345 L)) (execs [] (envF kf1345 1345 L)) _ _ _
    refine wpAny_execs_nil ?_
    have hb : bare x sep = x := if_pos hs
    exact rest _ _ t0 ⟨sm2.gens, sm2.drawn, sm2.os⟩ I2 (by rw [hb]; rfl)
  · refine tb true (by simp only [bne_iff_ne]; intro q; rw [q] at hs; exact hs es) ?_
    show wpAny (model thePw w) (A.deeper (envF kf1345 1345 L)) (execs (_ :: []) (envF kf1345 1345 L)) _ _ _
    refine wpAny_execs_cons (wpAny_Assign_Name ?_ (by rfl))
    refine Call_method2 (by rfl) (by rfl) (by rfl) (ldL I2.ns rfl (meth_replace ?_))
    refine ldL I2.ns rfl (wpAny_Constant_str ?_)
    refine ⟨_, _, _, _, rfl, rfl, hu, ?_, ?_, ?_, by omega, by decide +kernel, ?_⟩
    · exact Nat.pos_iff_ne_zero.mp (Nat.lt_of_lt_of_le hT1 (Nat.le_succ_of_le ht₂))
    · exact Nat.ne_of_lt (Nat.lt_of_lt_of_le hus1 (Nat.le_succ_of_le ht₂))
    · obtain ⟨c, rfl⟩ := hsep.resolve_left hs
      exact beq_false_of_ne fun q => by cases q
    intro t' k
    refine stS I2 ?_
    intro s₃ sm3 I3 _
    refine wpAny_execs_nil ?_
    have hb : bare x sep = Txt.replace x sep (Str.ofString "") := if_neg hs
    exact rest _ _ t' (sm2.trans ⟨sm3.gens, sm3.drawn, sm3.os⟩) I3 (by rw [hb]; rfl)
end
end Mine
end
/- part J4 -/
section
open PySem PySem.W PyProof.Rows
open Sem (wp)
set_option Elab.async false
set_option maxRecDepth 100000
set_option maxHeartbeats 1000000
namespace Mine
abbrev zb : Str := Str.ofString "0b"
def bareB (x : Str) : Str := Txt.replace x zb (Str.ofString "")
def validB (x : Str) (n : Nat) : Bool := Txt.startswith x zb && decide ((bareB x).length ≤ n) && !decide (50 ∈ (bareB x).cps.toList)
section
variable {w : World} {d : Nat} {A : Around} {outer : List Env} {E : Value → Shared → Prop} {s : Shared}
theorem c_valid_bin {x : Str} {n : Nat} {t0 t1 : Tok} {Q : Value → Shared → Prop}
    (S : Sit w d A outer s.heap) (hd : d ≤ 18) (hT : 0 < s.toks) (hx : x.length ≤ 2000) (h3 : Txt.startswith x zb = true → Bits3 (bareB x).cps.toList ∧ 1 ≤ (bareB x).length ∧ (bareB x).length ≤ 4000) (hn : 1 ≤ n ∧ n ≤ 128)
    (h : ∀ s', Same s s' → Kept (frs outer) s.heap s'.heap → Q (.bool (validB x n)) s') :
    wpC (model thePw w) A (call (.ref 1360) [.str x t0, .int (n : Int) t1]) Q E s := by
  refine callFC [("bin_val", .str x t0), ("width", .int (n : Int) t1)] S (by omega) (o := kf1360) rfl rfl rfl rfl rfl rfl ⟨1359, _, _, _, rfl, rfl, rfl, rfl⟩ (.of_eq (by rfl)) (locs (by rfl)) (by decide) ?_
  intro h₁ L tk htk I
  show wpC (model thePw w) (A.deeper (envF kf1360 1360 L)) (execs (_ :: _ :: _ :: _ :: _ :: _ :: _ :: []) (envF kf1360 1360 L)) _ _ _
  refine execsC_cons (wpC_any (wpAny_If (wpAny_isTrue_Not (wpAny_isTrue_value ?_ (by rfl)))))
  refine wpAny_Call_NameR (ldB I.S.ok (g_none _ _ (by decide)) b_isinstance ?_)
  refine Calls.callWith_builtin rfl (Calls.evalArgs_plain (Calls.spliced_cons (ldL I.ns rfl ?_)))
  refine Calls.spliced_cons (ldB I.S.ok (g_none _ _ (by decide)) b_str ?_)
  refine Calls.spliced_nil (isi_str ?_)
  refine tb true rfl ?_
  show wpAny (model thePw w) (A.deeper (envF kf1360 1360 L)) (execs [] (envF kf1360 1360 L)) _ _ _
  refine wpAny_execs_nil ?_
  refine execsC_cons (wpC_any (wpAny_If (wpAny_isTrue_Not (wpAny_isTrue_value ?_ (by rfl)))))
  refine Call_method1 (by rfl) (by rfl) (by rfl) (ldL I.ns rfl (SB.startswith ?_))
  refine wpAny_Constant_str ⟨_, _, rfl, ?_⟩
  cases hs : Txt.startswith x zb with
  | false =>
    refine tb false rfl ?_
    show wpAny (model thePw w) (A.deeper (envF kf1360 1360 L)) (execs (_ :: []) (envF kf1360 1360 L)) _ _ _
    refine wpAny_execs_cons (wpAny_Return_some (wpAny_Constant_bool ?_))
    have e2 : validB x n = false := by simp [validB, hs]
    rw [e2] at h
    exact h _ ⟨rfl, rfl, rfl⟩ I.kept
  | true =>
  obtain ⟨h3, h1, hyx⟩ := h3 hs
  refine tb true rfl ?_
  show wpAny (model thePw w) (A.deeper (envF kf1360 1360 L)) (execs [] (envF kf1360 1360 L)) _ _ _
  refine wpAny_execs_nil ?_
  refine execsC_cons (wpC_any (wpAny_Assign_Name ?_ (by rfl)))
  refine Call_method2 (by rfl) (by rfl) (by rfl) (ldL I.ns rfl (meth_replace ?_))
  refine wpAny_Constant_str (wpAny_Constant_str (k := 0) (pos := default) ?_)
  refine ⟨_, _, _, _, rfl, rfl, ?_, ?_, ?_, by decide +kernel, by omega, by decide +kernel, ?_⟩
  · exact Nat.pos_iff_ne_zero.mp (Nat.lt_of_lt_of_le hT (Nat.le_succ_of_le htk))
  · exact Nat.pos_iff_ne_zero.mp (Nat.lt_of_lt_of_le hT (Nat.le_succ_of_le (Nat.le_succ_of_le htk)))
  · exact Nat.ne_of_lt (Nat.lt_succ_self _)
  intro t' k
  refine stS I ?_
  intro s₂ sm2 I2 _
  replace sm2 : Same s s₂ := ⟨sm2.gens, sm2.drawn, sm2.os⟩
  have hb : (if ("bin_val" : Str) = "bin_val" then some (Value.str (bareB x) t') else none) = some (.str (bareB x) t') := if_pos rfl
  generalize hy : bareB x = y at *
  have hxs : Txt.replace x zb (Str.ofString "") = y := hy
  rw [hxs] at I2
  refine execsC_cons (wpC_any (wpAny_If (wpAny_isTrue_Compare1 ?_)))
  refine wpAny_Call_NameR (ldB I2.S.ok (g_none _ _ (by decide)) b_len ?_)
  refine Calls.callWith_builtin rfl (Calls.evalArgs_plain (Calls.spliced_cons (ldL I2.ns (if_pos rfl) ?_)))
  refine Calls.spliced_nil (SBL.len (by omega) ?_)
  refine ldL I2.ns rfl ?_
  refine P.gt_int ?_
  by_cases hl : y.length ≤ n
  case neg =>
    refine tb true (decide_eq_true (by omega)) ?_
    show wpAny (model thePw w) (A.deeper (envF kf1360 1360 L)) (execs (_ :: []) (envF kf1360 1360 L)) _ _ _
    refine wpAny_execs_cons (wpAny_Return_some (wpAny_Constant_bool ?_))
    have e2 : validB x n = false := by rw [validB, hy]; simp [hl]
    rw [e2] at h
    exact h _ ⟨sm2.gens, sm2.drawn, sm2.os⟩ I2.kept
  refine tb false (decide_eq_false (by omega)) ?_
  show wpAny (model thePw w) (A.deeper (envF kf1360 1360 L)) (execs [] (envF kf1360 1360 L)) _ _ _
  refine wpAny_execs_nil ?_
  refine execsC_cons (wpC_any (wpAny_Assign_Name ?_ (by rfl)))
  refine wpAny_BinOp (wpAny_BinOp (wpAny_Constant_int (ldL I2.ns rfl ?_)))
  refine pow_int_small (Int.natCast_nonneg _) (by omega) (by decide) ?_
  refine wpAny_Constant_int (P.sub_int ?_)
  refine stS I2 ?_
  intro s₃ sm3 I3 _
  replace sm3 : Same s s₃ := ⟨sm3.gens.trans sm2.gens, sm3.drawn.trans sm2.drawn, sm3.os.trans sm2.os⟩
  refine execsC_cons (C_Try ?_)
  refine execsC_cons (C_If (C_isTrue_chain (wpAny_Constant_int (C_test_link ?_))))
  refine C_Call_NameR (ldB I3.S.ok (g_none _ _ (by decide)) b_int ?_)
  refine C_callWith_type rfl (Calls.evalArgs_plain (Calls.spliced_cons (ldL I3.ns ((if_neg (by decide)).trans (if_pos rfl)) ?_)))
  refine Calls.spliced_cons (wpAny_Constant_int (k := 0) (pos := default) ?_)
  refine Calls.spliced_nil ?_
  obtain ⟨e1, e2⟩ := bits3_seen h3
  by_cases h2 : 50 ∈ y.cps.toList
  case pos =>
    refine C_int_refused I3.S.hd (bits3_repr h3 (by omega)) (by rw [e2, Array.length_toList]; show y.length ≤ 640; omega) (by rw [e2]; exact read_2 h3 h2) ?_
    intro h₄ e tk4 v hm
    refine noted_made (s := { s₃ with heap := h₄, toks := tk4 }) I3 hm ?_
    intro h₅ a0 hH hu5
    refine caught (s := { s₃ with heap := h₅, toks := tk4 }) I3 hH hu5 (by rw [isSubtype_type]; kernel_rfl) (by kernel_rfl) (by rw [isSubtype_type]; kernel_rfl) b_ValueError (g_none _ _ (by decide)) ?_
    intro h₆ E' _ I6
    refine wpAny_execs_cons (wpAny_Pass (wpAny_execs_nil ?_))
    show wpC (model thePw w) (A.deeper (envF kf1360 1360 L)) (execs (_ :: []) (envF kf1360 1360 L)) _ _ _
    refine execsC_cons (wpC_any (wpAny_Return_some (wpAny_Constant_bool ?_)))
    have e3 : validB x n = false := by rw [validB, hy]; simp [h2]
    rw [e3] at h
    exact h _ ⟨sm3.gens, sm3.drawn, sm3.os⟩ I6.kept
  have h01 := bits_01 h3 h2
  have hyl : y.cps.toList.length = y.length := by rw [Array.length_toList]; rfl
  refine wpC_any (call_int_01 h01 h1 (by omega) ?_)
  refine P.le_int ?_
  refine tb true (decide_eq_true (Int.natCast_nonneg _)) ?_
  refine test_last (ldL I3.ns (if_pos rfl) (P.le_int ?_))
  have hlt : binVal y.cps.toList < 2 ^ n := by
    have := binVal_lt h01
    rw [hyl] at this
    exact Nat.lt_of_lt_of_le this (Nat.pow_le_pow_right (by decide) hl)
  refine tb true (decide_eq_true ?_) ?_
  · rw [Int.toNat_natCast]
    exact Int.le_sub_one_of_lt (by exact_mod_cast hlt)
  show wpC (model thePw w) (A.deeper (envF kf1360 1360 L)) (execs (_ :: []) (envF kf1360 1360 L)) _ _ _
  refine execsC_cons (wpC_any (wpAny_Return_some (wpAny_Constant_bool ?_)))
  have e3 : validB x n = true := by rw [validB, hy, hs]; simp [h2, hl]
  rw [e3] at h
  exact h _ ⟨sm3.gens, sm3.drawn, sm3.os⟩ I3.kept
end
end Mine
end
/- part J5 -/
section
open PySem PySem.W PyProof.Rows
open Sem (wp)
set_option Elab.async false
set_option maxRecDepth 100000
set_option maxHeartbeats 1000000
namespace Mine
section
variable {w : World} {d : Nat} {A : Around} {outer : List Env} {E : Value → Shared → Prop} {s : Shared}
theorem validB_parts {x : Str} {n : Nat} (hv : validB x n = true) (h3 : Txt.startswith x zb = true → Bits3 (bareB x).cps.toList ∧ 1 ≤ (bareB x).length ∧ (bareB x).length ≤ 4000) :
    (bareB x).length ≤ n ∧ 1 ≤ (bareB x).length ∧ ∀ c ∈ (bareB x).cps.toList, c = 48 ∨ c = 49 := by
  simp only [validB, Bool.and_eq_true, decide_eq_true_eq, Bool.not_eq_true', decide_eq_false_iff_not] at hv
  obtain ⟨a, b, _⟩ := h3 hv.1.1
  exact ⟨hv.1.2, b, bits_01 a hv.2⟩
theorem c_bin_to_int {x : Str} {n : Nat} {t0 t1 : Tok} {Q : Value → Shared → Prop}
    (S : Sit w d A outer s.heap) (hd : d ≤ 17) (hT : 0 < s.toks) (hx : x.length ≤ 2000) (h3 : Txt.startswith x zb = true → Bits3 (bareB x).cps.toList ∧ 1 ≤ (bareB x).length ∧ (bareB x).length ≤ 4000) (hn : 1 ≤ n ∧ n ≤ 128)
    (hok : validB x n = true → ∀ s' t, Same s s' → Kept (frs outer) s.heap s'.heap → Q (.int (binVal (bareB x).cps.toList : Int) t) s')
    (hbad : validB x n = false → ∀ e s', Same s s' → Thrown outer s.heap "ValueError" e s'.heap → E e s') :
    wpC (model thePw w) A (call (.ref 1374) [.str x t0, .int (n : Int) t1]) Q E s := by
  refine callFC [("bin_val", .str x t0), ("width", .int (n : Int) t1)] S (by omega) (o := kf1374) rfl rfl rfl rfl rfl rfl ⟨1373, _, _, _, rfl, rfl, rfl, rfl⟩ (.of_eq (by rfl)) (locs (by rfl)) (by decide) ?_
  intro h₁ L tk htk I
  show wpC (model thePw w) (A.deeper (envF kf1374 1374 L)) (execs (_ :: _ :: []) (envF kf1374 1374 L)) _ _ _
  refine execsC_cons (C_If (C_isTrue_Not (C_isTrue_value ?_ (by rfl))))
  refine C_Call_NameR (ldG I.S.ok (g_valid_bin _) ?_)
  refine C_callWith_function (o := kf1360) (fd := fdOf kf1360) (Calls.evalArgs_plain (Calls.spliced_cons (ldL I.ns rfl ?_)))
  refine Calls.spliced_cons (ldL I.ns rfl ?_)
  refine Calls.spliced_nil ⟨⟨I.S.ok.K _ _ rfl, rfl⟩, ?_⟩
  have hT1 : 0 < tk := Nat.lt_of_lt_of_le hT htk
  refine wpC_with_toks (s := { s with heap := h₁, toks := tk }) (n := tk) (Nat.le_refl _) ?_
  refine c_valid_bin (s := { s with heap := h₁, toks := tk }) I.S (by omega) hT1 hx h3 hn ?_
  intro s₂ sm2 k₂ ht₂
  replace sm2 : Same s s₂ := ⟨sm2.gens, sm2.drawn, sm2.os⟩
  have I2 := I.after k₂
  cases hv : validB x n with
  | false =>
    refine tb false rfl ?_
    show wpC (model thePw w) (A.deeper (envF kf1374 1374 L)) (execs (_ :: []) (envF kf1374 1374 L)) _ _ _
    exact wpC_any (raise_text F.excCall_ValueError F.excRaise_ValueError I2 b_ValueError (g_none _ _ (by decide)) fun e s' x2 x3 => hbad hv _ _ (sm2.trans x2) x3)
  | true =>
  refine tb true rfl ?_
  show wpC (model thePw w) (A.deeper (envF kf1374 1374 L)) (execs [] (envF kf1374 1374 L)) _ _ _
  refine execsC_nil (wpC_any ?_)
  obtain ⟨hl, h1, h01⟩ := validB_parts hv h3
  refine wpAny_execs_cons (wpAny_Return_some ?_)
  refine wpAny_Call_NameR (ldB I2.S.ok (g_none _ _ (by decide)) b_int ?_)
  refine PySem.callWith_type rfl (Calls.evalArgs_plain (Calls.spliced_cons ?_))
  refine Call_method2 (by rfl) (by rfl) (by rfl) (ldL I2.ns rfl (meth_replace ?_))
  refine wpAny_Constant_str (wpAny_Constant_str (k := 0) (pos := default) ?_)
  refine ⟨_, _, _, _, rfl, rfl, ?_, ?_, ?_, by decide +kernel, by omega, by decide +kernel, ?_⟩
  · exact Nat.pos_iff_ne_zero.mp (Nat.lt_of_lt_of_le hT1 ht₂)
  · exact Nat.pos_iff_ne_zero.mp (Nat.lt_of_lt_of_le hT1 (Nat.le_succ_of_le ht₂))
  · exact Nat.ne_of_lt (Nat.lt_succ_self _)
  intro t' k
  refine Calls.spliced_cons (wpAny_Constant_int (k := 0) (pos := default) ?_)
  refine Calls.spliced_nil (call_int_01 (y := bareB x) h01 h1 (by omega) ?_)
  exact hok hv _ _ ⟨sm2.gens, sm2.drawn, sm2.os⟩ I2.kept
end
end Mine
end
/- part J6 -/
section
open PySem PySem.W PyProof.Rows
open Sem (wp)
set_option Elab.async false
set_option maxRecDepth 100000
set_option maxHeartbeats 1000000
namespace Mine
/-- the table's texts of a word below 2^16, the lowest byte first -/
def lowChunks (v : Nat) : List Str := if v = 0 then [] else if v / 256 = 0 then [bits8 (v % 256)] else [bits8 (v % 256), bits8 (v / 256)]
theorem strs_push {xs : Array Value} {ys : List Str} (h : StrsAre xs.toList ys) (y : Str) (t : Tok) : StrsAre (xs.push (.str y t)).toList (ys ++ [y]) := by
  rw [Array.toList_push]
  generalize xs.toList = l at h
  induction h with
  | nil => exact .cons y t .nil
  | cons k u _ ih => exact .cons k u ih
theorem strs_snoc {l : List Value} {ys : List Str} (h : StrsAre l ys) (y : Str) (t : Tok) : StrsAre (l ++ [.str y t]) (ys ++ [y]) := by
  induction h with
  | nil => exact .cons y t .nil
  | cons k u _ ih => exact .cons k u ih
theorem strs_rev {l : List Value} {ys : List Str} (h : StrsAre l ys) : StrsAre l.reverse ys.reverse := by
  induction h with
  | nil => exact .nil
  | cons k u _ ih => rw [List.reverse_cons, List.reverse_cons]; exact strs_snoc ih k u
theorem rows_at {i : Nat} (h : i < 256) : (rowsTo 256)[i]? = some (.str (bits8 i) (287 + 78 * i)) := by
  unfold rowsTo
  simp [h]
section
variable {w : World} {d : Nat} {A : Around} {outer : List Env} {E : Value → Shared → Prop} {s : Shared}
theorem table_in (B : Base w s.heap) : s.heap.IsList 23 (rowsTo 256) := ⟨_, B.K 23 _ rfl, rfl, 256, rfl⟩
theorem byte_at {value slice : PySem.Expr} {k : Int} {u : Tok} {Q : Value → Shared → Prop} (B : Base w s.heap) (h0 : 0 ≤ k) (h1 : k < 256) (h : ∀ t, Q (.str (bits8 k.toNat) t) s)
    (hs : subscripted slice false (.ref 23) (.int k u) = operate [.ref 23, .int k u] (getItem (.ref 23) (.int k u)) := by with_unfolding_all rfl) :
    wpAny (model thePw w) A (subscriptTail value slice (.ref 23) (.int k u)) Q E s :=
  tail_any (table_in B).typeIs slot_list_getitem.lookup (wpAny_getItem_list (table_in B) h0 (by omega) (rows_at (by omega)) (h _)) hs
abbrev i2bW : Stmt := nth (forBody (nth (stmtsOf kf1353) 1)) 1
theorem i2b_while {h₀ : Heap} {L D : Addr} {m : Str → Option Value} {v : Nat} {t : Tok} {Q : Flow → Shared → Prop} (I : In w d A outer (envF kf1353 1353 L) h₀ L s.heap m) (hw : m "word" = some (.int (v : Int) t)) (hb : m "bits" = some (.ref D)) (hv : v < 65536)
    (hD : OwnL s.heap D #[]) (hD0 : h₀.get? D = none) (hDL : D ≠ L)
    (k : ∀ s' m', Same s s' → In w d A outer (envF kf1353 1353 L) h₀ L s'.heap m' → (∀ x : Str, x ≠ "word" → m' x = m x) → (∃ xs, OwnL s'.heap D xs ∧ StrsAre xs.toList (lowChunks v)) → (∀ b o, b ≠ D → b ≠ L → s.heap.get? b = some o → s'.heap.get? b = some o) → Q .next s') :
    wpAny (model thePw w) (A.deeper (envF kf1353 1353 L)) (exec i2bW (envF kf1353 1353 L)) Q E s := by
  show wpAny (model thePw w) (A.deeper (envF kf1353 1353 L)) (exec (.While _ _ _ _) (envF kf1353 1353 L)) _ _ _
  refine wpAny_While ?_
  refine codeAny_whileLoop (fun n s' => ∃ m' xs pre t', Same s s' ∧ In w d A outer (envF kf1353 1353 L) h₀ L s'.heap m' ∧ (∀ x : Str, x ≠ "word" → m' x = m x) ∧ m' "word" = some (.int (n : Int) t') ∧ OwnL s'.heap D xs ∧ StrsAre xs.toList pre ∧
    (∀ b o, b ≠ D → b ≠ L → s.heap.get? b = some o → s'.heap.get? b = some o) ∧ xs.size ≤ 2 ∧ ((n = v ∧ pre = []) ∨ (n = v / 256 ∧ v ≠ 0 ∧ pre = [bits8 (v % 256)]) ∨ (n = 0 ∧ v / 256 ≠ 0 ∧ pre = [bits8 (v % 256), bits8 (v / 256)]))) ?_ v
    ⟨m, #[], [], t, .refl s, I, fun _ _ => rfl, hw, hD, .nil, fun _ _ _ _ e => e, by decide, .inl ⟨rfl, rfl⟩⟩
  rintro n s₁ ⟨m₁, xs, pre, t₁, sm1, I1, hm1, hw1, hD1, hS1, up1, hsz, hcase⟩
  refine wpAny_isTrue_value (ldL I1.ns hw1 (truthy_int ?_)) (by rfl)
  by_cases hn : n = 0
  · subst hn
    show wpAny (model thePw w) (A.deeper (envF kf1353 1353 L)) (execs [] (envF kf1353 1353 L)) _ _ _
    refine wpAny_execs_nil (k _ _ sm1 I1 hm1 ⟨xs, hD1, ?_⟩ up1)
    have : pre = lowChunks v := by
      unfold lowChunks
      rcases hcase with ⟨a, b⟩ | ⟨a, b, c⟩ | ⟨a, b, c⟩
      · rw [if_pos a.symm]; exact b
      · rw [if_neg b, if_pos a.symm]; exact c
      · rw [if_neg (fun q => b (by rw [q])), if_neg b]; exact c
    rw [← this]; exact hS1
  have hne : ((n : Int) != 0) = true := by simpa using hn
  rw [hne]
  show wpAny (model thePw w) (A.deeper (envF kf1353 1353 L)) (execs (_ :: _ :: []) (envF kf1353 1353 L)) _ _ _
  have hxs1 : xs.size ≤ 1 ∧ n < 65536 := by
    have e := hS1.len_eq
    rw [Array.length_toList] at e
    rcases hcase with ⟨a, b⟩ | ⟨a, b, c⟩ | ⟨a, b, c⟩
    · rw [b] at e; exact ⟨by rw [e]; simp, by omega⟩
    · rw [c] at e; exact ⟨by rw [e]; simp, by omega⟩
    · exact absurd a hn
  refine wpAny_execs_cons (wpAny_Expr_any ?_ (by rfl) (by rfl))
  refine wpAny_Call_append (by rfl) (by rfl) (by rfl) (by rfl) ?_
  refine ldL I1.ns ((hm1 _ (by decide)).trans hb) ?_
  refine ⟨D, xs, rfl, hD1.plain, ?_⟩
  refine Subscript_ (ldG I1.S.ok (g_table _) ?_)
  refine wpAny_BinOp (ldL I1.ns hw1 (wpAny_Constant_int (and_int ?_)))
  have e1 : Builtin.bitAnd (n : Int) 255 = ((n % 256 : Nat) : Int) := by
    have := bitAnd_mask (n : Int) 8 (Int.natCast_nonneg _)
    rw [show ((2 : Int) ^ 8 - 1) = 255 from rfl] at this
    rw [this]; rfl
  rw [e1]
  refine byte_at I1.S.ok (Int.natCast_nonneg _) (by omega) ?_
  intro tb
  rw [Int.toNat_natCast]
  refine app_own I1 hD1 hD0 hDL ?_ (Nat.le_trans hsz (by decide))
  intro h₂ hD2 I2 up2
  refine wpAny_execs_cons (wpAny_AugAssign_Name ?_)
  refine wpAny_loadName_local (by rfl) (by rfl) I2.ns hw1 ?_
  refine wpAny_Constant_int ?_
  refine irshift_int (by decide) ?_
  have e2 : ((n : Int)).fdiv (2 ^ ((8 : Int)).toNat) = ((n / 256 : Nat) : Int) := by
    rw [Int.fdiv_eq_ediv_of_nonneg _ (by decide)]; rfl
  rw [e2]
  refine stS I2 ?_
  intro s₃ sm3 I3 hs3
  refine wpAny_execs_nil ⟨n / 256, Nat.div_lt_self (Nat.pos_of_ne_zero hn) (by decide), _, _, pre ++ [bits8 (n % 256)], _, sm1.trans ⟨sm3.gens, sm3.drawn, sm3.os⟩, I3, fun x hx => (if_neg hx).trans (hm1 x hx), if_pos rfl, hD2.at fun o e => (hs3.2 D hDL).trans e, strs_push hS1 _ _,
    fun b o b1 b2 e => (hs3.2 b b2).trans (up2 b o b1 (up1 b o b1 b2 e)), by rw [Array.size_push]; omega, ?_⟩
  rcases hcase with ⟨a, b⟩ | ⟨a, b, c⟩ | ⟨a, b, c⟩
  · exact .inr (.inl ⟨by rw [a], fun q => hn (a.trans q), by rw [b, a]; rfl⟩)
  · refine .inr (.inr ⟨by omega, fun q => hn (a.trans q), ?_⟩)
    rw [c, a, Nat.mod_eq_of_lt (by omega : v / 256 < 256)]; rfl
  · exact absurd a hn
end
end Mine
end
/- part J7 -/
section
open PySem PySem.W PyProof.Rows
open Sem (wp)
set_option Elab.async false
set_option maxRecDepth 100000
set_option maxHeartbeats 1000000
namespace Mine
section
variable {w : World} {d : Nat} {A : Around} {outer : List Env} {E : Value → Shared → Prop} {s : Shared}
theorem meth_reverse {env : Env} {h₀ : Heap} {L D : Addr} {m : Str → Option Value} {A' : Around} {xs : Array Value} {pos : Pos} {Q : Value → Shared → Prop} (I : In w d A outer env h₀ L s.heap m) (hD : OwnL s.heap D xs) (hD0 : h₀.get? D = none) (hDL : D ≠ L) (hsz : xs.size ≤ sizeLine)
    (k : ∀ h', OwnL h' D xs.reverse → In w d A outer env h₀ L h' m → (∀ b o, b ≠ D → s.heap.get? b = some o → h'.get? b = some o) → Q .none { s with heap := h' }) :
    MethodOnS thePw w A' E "reverse" (.ref D) pos [] Q s := by
  obtain ⟨n, hn⟩ := hD
  refine ⟨"list", "list.reverse", F.plainAttrs_list, F.slot_list_reverse, F.type_list_reverse, ⟨_, hn, rfl⟩, (fun a e => by cases e; exact ⟨_, hn, rfl⟩), ?_⟩
  refine Calls.callWith_builtin rfl (PySem.evalArgs_none ?_)
  refine call_meets F.slot_list_reverse ⟨_, hn, rfl⟩ F.entry_list_reverse (F.args_list_reverse_1 _) (AutoSeq1.list_reverse_list_0 D xs n hsz) ⟨hn, ?_⟩
  have ex : Heap.ExtBut D s.heap (s.heap.update D (Obj.mapSeq fun x => x.reverse)) := (Heap.SameBut.update ..).extBut
  refine k _ ⟨_, Heap.get?_update_self _ hn rfl⟩ (I.touch hD0 hDL ex) ex
theorem join_cd_chunks (v : Nat) (hv : v < 65536) (one : Nat) (J : Str) (hJ : J = if (Txt.join (Str.ofString "") (lowChunks v).reverse).length = 0 then Txt.mul (Str.ofString "0") (one : Int) else Txt.join (Str.ofString "") (lowChunks v).reverse) :
    cd J = if v = 0 then List.replicate one 48 else if v / 256 = 0 then wcodes 8 (v % 256) else wcodes 8 (v / 256) ++ wcodes 8 (v % 256) := by
  have c := cd_join0 (lowChunks v).reverse
  have cl := cd_len (Txt.join (Str.ofString "") (lowChunks v).reverse)
  rw [show cd (Txt.join (Str.ofString "") (lowChunks v).reverse) = _ from c] at cl
  by_cases v0 : v = 0
  · rw [lowChunks, if_pos v0] at hJ
    rw [if_pos v0, hJ, if_pos (by rfl), zeros_cd]
  rw [if_neg v0]
  rw [lowChunks, if_neg v0] at c cl hJ
  by_cases v1 : v / 256 = 0
  · rw [if_pos v1]
    rw [if_pos v1] at c cl hJ
    have b := bits8_codes (v % 256) (Nat.mod_lt _ (by decide))
    simp only [List.reverse_cons, List.reverse_nil, List.nil_append, List.map_cons, List.map_nil, List.flatten_cons, List.flatten_nil, List.append_nil, b, wcodes_len] at c cl
    rw [hJ, if_neg (by show ¬ (Txt.join (Str.ofString "") ([bits8 (v % 256)]).reverse).length = 0; simp only [List.reverse_cons, List.reverse_nil, List.nil_append]; omega)]
    exact c
  · rw [if_neg v1]
    rw [if_neg v1] at c cl hJ
    have b := bits8_codes (v % 256) (Nat.mod_lt _ (by decide))
    have b' := bits8_codes (v / 256) (by omega)
    simp only [List.reverse_cons, List.reverse_nil, List.nil_append, List.map_cons, List.map_nil, List.flatten_cons, List.flatten_nil, List.append_nil, b, b', wcodes_len, List.cons_append, List.length_append] at c cl
    rw [hJ, if_neg (by show ¬ (Txt.join (Str.ofString "") ([bits8 (v % 256), bits8 (v / 256)]).reverse).length = 0; simp only [List.reverse_cons, List.reverse_nil, List.nil_append, List.cons_append]; omega)]
    exact c
end
end Mine
end
/- part J8 -/
section
open PySem PySem.W PyProof.Rows
open Sem (wp)
set_option Elab.async false
set_option maxRecDepth 100000
set_option maxHeartbeats 1000000
namespace Mine
theorem lowWords_mem {v : Int} {one k : Nat} {x : Int} (h : x ∈ lowWords v one k) : 0 ≤ x ∧ x < 2 ^ one := by
  obtain ⟨i, _, rfl⟩ := List.mem_map.mp h
  have p : (0 : Int) < 2 ^ one := Int.pow_pos (by decide)
  exact ⟨Int.emod_nonneg _ (by omega), Int.emod_lt_of_pos _ p⟩
theorem bits8_len (N : Nat) (h : N < 256) : (bits8 N).length = 8 := by rw [← cd_len, bits8_codes N h, wcodes_len]
/-- the words' texts -/
def wtexts (one : Nat) (ws : List Int) : List Str := ws.map fun w => wtext one w.toNat
section
variable {w : World} {d : Nat} {A : Around} {outer : List Env} {E : Value → Shared → Prop} {s : Shared}
abbrev i2bF : Stmt := nth (stmtsOf kf1353) 1
theorem i2b_word {h₀ : Heap} {L D : Addr} {m : Str → Option Value} {v one : Nat} {t t1 : Tok} {xs : Array Value} {ys : List Str} {Q : Flow → Shared → Prop} (I : In w d A outer (envF kf1353 1353 L) h₀ L s.heap m)
    (hw : m "word" = some (.int (v : Int) t)) (hb : m "bit_words" = some (.ref D)) (ho : m "word_size" = some (.int (one : Int) t1)) (h1 : 1 ≤ one ∧ one ≤ 16) (hv : v < 2 ^ one)
    (hD : OwnL s.heap D xs) (hS : StrsAre xs.toList ys) (hsz : xs.size ≤ 100) (hD0 : h₀.get? D = none) (hDL : D ≠ L)
    (k : ∀ s' m', Same s s' → In w d A outer (envF kf1353 1353 L) h₀ L s'.heap m' → (∀ x : Str, x ≠ "word" → x ≠ "bits" → x ≠ "bit_str" → m' x = m x) → (∃ xs', xs'.size = xs.size + 1 ∧ OwnL s'.heap D xs' ∧ StrsAre xs'.toList (ys ++ [wtext one v])) → (∀ b o, b ≠ D → b ≠ L → s.heap.get? b = some o → s'.heap.get? b = some o) → Q .next s') :
    wpAny (model thePw w) (A.deeper (envF kf1353 1353 L)) (execs (forBody i2bF) (envF kf1353 1353 L)) Q E s := by
  show wpAny (model thePw w) (A.deeper (envF kf1353 1353 L)) (execs (_ :: i2bW :: _ :: _ :: _ :: _ :: []) (envF kf1353 1353 L)) _ _ _
  have hv16 : v < 65536 := Nat.lt_of_lt_of_le hv (Nat.pow_le_pow_right (by decide) h1.2)
  refine wpAny_execs_cons (wpAny_Assign_Name ?_ (by rfl))
  refine ev_nil I ?_
  intro s₁ B sm1 hB I1 hB0 hBL hBn up1
  refine stS I1 ?_
  intro s₂ sm2 I2 hs2
  have hB2 : OwnL s₂.heap B #[] := hB.at fun o e => (hs2.2 B hBL).trans e
  have hBD : B ≠ D := fun q => by obtain ⟨_, e⟩ := hD; rw [← q, hBn] at e; cases e
  refine wpAny_execs_cons (i2b_while I2 ((if_neg (by decide)).trans hw) (if_pos rfl) hv16 hB2 hB0 hBL ?_)
  rintro s₃ m₃ sm3 I3 hm3 ⟨bs, hB3, hS3⟩ up3
  have hbsz : bs.size ≤ 2 := by
    have e := hS3.len_eq
    rw [Array.length_toList] at e
    rw [e]; unfold lowChunks
    split
    · simp
    · split <;> simp
  refine wpAny_execs_cons (wpAny_Expr_any ?_ (by rfl) (by rfl))
  refine Call_method0 (by rfl) (by rfl) (ldL I3.ns ((hm3 _ (by decide)).trans (if_pos rfl)) ?_)
  refine meth_reverse I3 hB3 hB0 hBL (Nat.le_trans hbsz (by decide)) ?_
  intro h₄ hB4 I4 up4
  have hS4 : StrsAre bs.reverse.toList (lowChunks v).reverse := by rw [Array.toList_reverse]; exact strs_rev hS3
  refine wpAny_execs_cons (wpAny_Assign_Name ?_ (by rfl))
  have jlen : (Txt.join (Str.ofString "") (lowChunks v).reverse).length ≤ 16 := by
    have c := cd_join0 (lowChunks v).reverse
    rw [← cd_len]
    show (cd (Txt.join "" (lowChunks v).reverse)).length ≤ 16
    rw [c]
    unfold lowChunks
    split
    · simp
    · split
      · simp [bits8_codes (v % 256) (Nat.mod_lt _ (by decide)), wcodes_len]
      · simp [bits8_codes (v % 256) (Nat.mod_lt _ (by decide)), bits8_codes (v / 256) (by omega), wcodes_len]
  generalize hj : Txt.join (Str.ofString "") (lowChunks v).reverse = j at jlen
  have tail : ∀ s₅ (J : Str) tj, J = (if j.length = 0 then Txt.mul (Str.ofString "0") (one : Int) else j) → Same s s₅ → s₅.heap = h₄ →
      wpAny (model thePw w) (A.deeper (envF kf1353 1353 L)) (storeName (envF kf1353 1353 L) "bit_str" (.str J tj)) (fun _ s' => wpAny (model thePw w) (A.deeper (envF kf1353 1353 L)) (execs ((forBody i2bF).drop 4) (envF kf1353 1353 L)) Q E s') E s₅ := by
    rintro s₅ J tj hJ sm5 rfl
    refine stS I4 ?_
    intro s₆ sm6 I6 hs6
    have hJc := join_cd_chunks v hv16 one J (by rw [hJ, hj])
    have hwt := word_text h1 hv J hJc
    have hJl : J.length ≤ 16 := by
      rw [hJ]
      split
      · rw [← cd_len, zeros_cd, List.length_replicate]; exact h1.2
      · exact jlen
    have e4 : ∀ x : Str, x ≠ "word" → x ≠ "bits" → x ≠ "bit_str" → (if x = "bit_str" then some (Value.str J tj) else m₃ x) = m x := fun x a b c => (if_neg c).trans ((hm3 x a).trans (if_neg b))
    show wpAny (model thePw w) (A.deeper (envF kf1353 1353 L)) (execs (_ :: _ :: []) (envF kf1353 1353 L)) _ _ _
    refine wpAny_execs_cons (wpAny_Assign_Name ?_ (by rfl))
    refine Subscript_ ?_
    refine wpAny_BinOp (wpAny_BinOp (wpAny_Constant_str (ldL I6.ns ((e4 _ (by decide) (by decide) (by decide)).trans ho) ?_)))
    refine SB.mul (mulOk_of 1 16 (by decide +kernel) (by omega) (by omega) (by decide) (by decide)) ?_
    intro tz kz
    refine ldL I6.ns (if_pos rfl) ?_
    have hzl : (Txt.mul (Str.ofString "0") (one : Int)).length = one := by rw [← cd_len, zeros_cd, List.length_replicate]
    refine SB.add ?_ (by rw [hzl]; exact Nat.le_trans (by omega : one + J.length ≤ 32) (by decide))
    intro ta ka
    refine wpAny_Slice ?_
    refine evalPart_some_step (UnaryOp_ (ldL I6.ns ((e4 _ (by decide) (by decide) (by decide)).trans ho) (neg_int ?_)))
    refine evalPart_none_step ?_
    refine evalPart_none_step ?_
    have hal : (Txt.mul (Str.ofString "0") (one : Int) ++ J).length ≤ sizeLine := by rw [Str.length_append, hzl]; exact Nat.le_trans (by omega : one + J.length ≤ 32) (by decide)
    refine tail_of_ItemOn (SBH.sliceItem_sn (P := fun h' => ∀ b o, s₆.heap.get? b = some o → h'.get? b = some o) (fun h ob p b o e => Heap.get?_push_of_some _ (p b o e)) (fun _ _ e => e) ?_ hal) (by with_unfolding_all rfl) (by intro _; with_unfolding_all rfl)
    intro h₇ t7 k7 up7
    rw [hwt]
    have I7 := I6.ext up7
    refine stS I7 ?_
    intro s₈ sm8 I8 hs8
    refine wpAny_execs_cons (wpAny_Expr_any ?_ (by rfl) (by rfl))
    refine wpAny_Call_append (by rfl) (by rfl) (by rfl) (by rfl) ?_
    have hD8 : OwnL s₈.heap D xs := hD.at fun o e => (hs8.2 D hDL).trans (up7 D o ((hs6.2 D hDL).trans (up4 D o hBD.symm (up3 D o hBD.symm hDL ((hs2.2 D hDL).trans (up1 D o e))))))
    refine ldL I8.ns ((if_neg (by decide)).trans ((e4 _ (by decide) (by decide) (by decide)).trans hb)) ?_
    refine ⟨D, xs, rfl, hD8.plain, ?_⟩
    refine ldL I8.ns (if_pos rfl) ?_
    refine app_own I8 hD8 hD0 hDL ?_ (Nat.le_trans hsz (by decide))
    intro h₉ hD9 I9 up9
    refine wpAny_execs_nil (k _ _ ?_ I9 (fun x a b c => (if_neg b).trans (e4 x a b c)) ⟨_, Array.size_push .., hD9, strs_push hS _ _⟩ ?_)
    · exact (sm5.trans ⟨sm6.gens, sm6.drawn, sm6.os⟩).trans ⟨sm8.gens, sm8.drawn, sm8.os⟩
    · intro b o b1 b2 e
      have b3 : b ≠ B := fun q => by rw [q, hBn] at e; cases e
      exact up9 b o b1 ((hs8.2 b b2).trans (up7 b o ((hs6.2 b b2).trans (up4 b o b3 (up3 b o b3 b2 ((hs2.2 b b2).trans (up1 b o e)))))))
  have smx : Same s s₃ := (sm1.trans sm2).trans sm3
  refine BoolOp_or ?_
  refine Call_method1 (by rfl) (by rfl) (by rfl) (wpAny_Constant_str (k := 0) (pos := default) ?_)
  refine ⟨"str", "str.join", F.plainAttrs_str, F.slot_str_join, F.type_str_join, typeIs_str _ _ _, (fun _ e => nomatch e), ?_⟩
  refine Calls.callWith_builtin rfl (Calls.evalArgs_plain (Calls.spliced_cons ?_))
  refine ldL I4.ns ((hm3 _ (by decide)).trans (if_pos rfl)) ?_
  refine Calls.spliced_nil ?_
  refine join_listW (ys := (lowChunks v).reverse) hB4.isList hS4 (by decide +kernel) ?_ ?_
  · unfold lowChunks
    split
    · simp
    · split
      · simp [bits8_len (v % 256) (Nat.mod_lt _ (by decide))]
      · simp [bits8_len (v % 256) (Nat.mod_lt _ (by decide)), bits8_len (v / 256) (by omega)]
  intro tj kj
  rw [show Txt.join (Str.ofString "") (lowChunks v).reverse = j from hj]
  refine SBL.truthy (by omega) ?_
  by_cases j0 : j.length = 0
  · rw [show ((j.length : Int) != 0) = false by simp [j0]]
    refine BoolOp_one ?_
    refine wpAny_BinOp (wpAny_Constant_str (ldL I4.ns ((hm3 _ (by decide)).trans ((if_neg (by decide)).trans ho)) ?_))
    refine SB.mul (mulOk_of 1 16 (by decide +kernel) (by omega) (by omega) (by decide) (by decide)) ?_
    intro tz kz
    refine tail _ _ _ ?_ ?_ ?_
    · rw [if_pos j0]
    · exact ⟨smx.gens, smx.drawn, smx.os⟩
    · rfl
  · rw [show ((j.length : Int) != 0) = true by simpa using j0]
    refine tail _ _ _ ?_ ?_ ?_
    · rw [if_neg j0]
    · exact ⟨smx.gens, smx.drawn, smx.os⟩
    · rfl
end
end Mine
end
/- part J9 -/
section
open PySem PySem.W PyProof.Rows
open Sem (wp)
set_option Elab.async false
set_option maxRecDepth 100000
set_option maxHeartbeats 1000000
namespace Mine
section
variable {w : World} {d : Nat} {A : Around} {outer : List Env} {E : Value → Shared → Prop} {s : Shared}
theorem tuple_lt {h : Heap} {t : Addr} {xs : Array Value} (x : h.IsTuple t xs) : @LT.lt Nat _ t h.objs.size := by
  obtain ⟨o, ho, _⟩ := x
  exact Heap.lt_size ho
theorem wtexts_sum (one : Nat) : ∀ (ws : List Int), ((wtexts one ws).map (·.length)).sum = ws.length * one
  | [] => by simp [wtexts]
  | a :: r => by
    have ih := wtexts_sum one r
    unfold wtexts at ih ⊢
    simp only [List.map_cons, List.sum_cons, ih, wtext_len, List.length_cons]
    rw [Nat.succ_mul, Nat.add_comm]
theorem wtexts_len (one : Nat) (ws : List Int) : (wtexts one ws).length = ws.length := by simp [wtexts]
theorem c_int_to_bits {v : Int} {sep : Str} {one many : Nat} {t0 t1 t2 u : Tok} {Q : Value → Shared → Prop}
    (S : Sit w d A outer s.heap) (hd : d ≤ 18) (h1 : 1 ≤ one ∧ one ≤ 16) (h2 : 1 ≤ many ∧ many ≤ 8) (hsep : sep.length ≤ 16)
    (hok : 0 ≤ v → v < 2 ^ (one * many) → ∀ s' t, Same s s' → Kept (frs outer) s.heap s'.heap → Q (.str (Txt.join sep (wtexts one (lowWords v one many).reverse)) t) s')
    (hbad : ¬ (0 ≤ v ∧ v < 2 ^ (one * many)) → ∀ e s', Same s s' → Thrown outer s.heap "IndexError" e s'.heap → E e s') :
    wpAny (model thePw w) A (call (.ref 1353) [.int v t0, .int (one : Int) t1, .int (many : Int) t2, .str sep u]) Q E s := by
  refine callF [("int_val", .int v t0), ("word_size", .int (one : Int) t1), ("num_words", .int (many : Int) t2), ("word_sep", .str sep u)] S (by omega) (o := kf1353) rfl rfl rfl rfl rfl rfl ⟨1352, _, _, _, rfl, rfl, rfl, rfl⟩ (.of_defaults rfl (S.ok.K _ _ rfl) rfl (by rfl) (by rfl)) (locs (by rfl)) (by decide) ?_
  intro h₁ L tk I
  show wpAny (model thePw w) (A.deeper (envF kf1353 1353 L)) (execs (_ :: i2bF :: _ :: _ :: []) (envF kf1353 1353 L)) _ _ _
  refine wpAny_execs_cons (wpAny_Assign_Name ?_ (by rfl))
  refine ev_nil I ?_
  intro s₁ D sm1 hD I1 hD0 hDL hDn up1
  refine stS I1 ?_
  intro s₂ sm2 I2 hs2
  have hD2 : OwnL s₂.heap D #[] := hD.at fun o e => (hs2.2 D hDL).trans e
  have sm : Same s s₂ := ⟨(sm1.trans sm2).gens, (sm1.trans sm2).drawn, (sm1.trans sm2).os⟩
  refine wpAny_execs_cons ?_
  show wpAny (model thePw w) (A.deeper (envF kf1353 1353 L)) (exec (.For (.Name "word" _) _ (forBody i2bF) [] _) (envF kf1353 1353 L)) _ _ _
  refine wpAny_For ?_
  refine wpAny_Call_NameR (ldG I2.S.ok (g_int_to_words _) ?_)
  refine Calls.callWith_function (o := kf1322) (fd := fdOf kf1322) (Calls.evalArgs_plain (Calls.spliced_cons (ldL I2.ns rfl ?_)))
  refine Calls.spliced_cons (ldL I2.ns rfl ?_)
  refine Calls.spliced_cons (ldL I2.ns rfl ?_)
  refine Calls.spliced_nil ⟨⟨I2.S.ok.K _ _ rfl, rfl⟩, ?_⟩
  refine c_int_to_words I2.S (by omega) h1 h2 ?_ ?_
  case refine_2 =>
    intro hb e s' sm' ht
    exact leave_thrown I2 ht fun h' ht' => hbad hb _ _ ⟨(sm.trans sm').gens, (sm.trans sm').drawn, (sm.trans sm').os⟩ ht'
  intro c1 c2 s₃ T xs sm3 k3 hTn hT hI
  have I3 := I2.after k3
  have hD3 : OwnL s₃.heap D #[] := hD2.at fun o e => I2.S.get k3 e (by
    obtain ⟨_, e'⟩ := hD2
    rw [e'] at e
    obtain rfl := Option.some.inj e
    intro es n q; cases q)
  have hT0 : s.heap.get? T = none := I2.fresh hTn
  have hTL : T ≠ L := fun q => by
    obtain ⟨o, es, ep, x1, _⟩ := I2.ns
    rw [← q, hTn] at x1; cases x1
  have hTD : T ≠ D := fun q => by obtain ⟨_, e⟩ := hD2; rw [← q, hTn] at e; cases e
  refine wpAny_pyIter_tuple hT ?_
  have I4 := I3.push { cls := .type "tuple_iterator", data := .fields #[.ref T, .int 0 0] }
  have hTi : T ≠ s₃.heap.objs.size := Nat.ne_of_lt (tuple_lt hT)
  have hDi : D ≠ s₃.heap.objs.size := Nat.ne_of_lt hD3.lt
  have hlen : (lowWords v one many).reverse.length = many := by rw [List.length_reverse]; simp [lowWords]
  have hxs : xs.size = many := by rw [← hlen, ← ints_len hI, Array.length_toList]
  refine for_walkS (fun i m h => m "bit_words" = some (.ref D) ∧ m "word_size" = some (.int (one : Int) t1) ∧ m "word_sep" = some (.str sep u) ∧
    ∃ ys, OwnL h D ys ∧ ys.size = i ∧ StrsAre ys.toList (wtexts one ((lowWords v one many).reverse.take i))) I4 (Walks.tuple I4.S.hd _ _ hTi xs) ⟨⟨_, Heap.get?_push_size _ rfl, rfl, rfl⟩, ?_⟩ ?_ ?_ ⟨rfl, rfl, rfl, #[], hD3.push _, rfl, .nil⟩ ?_ ?_ ?_
  · obtain ⟨o, ho, r⟩ := hT
    exact ⟨o, Heap.get?_push_of_some _ ho, r⟩
  · intro b hb
    obtain rfl := List.mem_singleton.mp hb
    exact ⟨I3.freshS, I3.Lne⟩
  · intro q
    rcases List.mem_cons.mp q with q | q
    · exact I3.Lne q.symm
    · exact hTL (List.mem_singleton.mp q).symm
  · rintro i m h h' ⟨j1, j2, j3, ys, j4, j5, j6⟩ hk
    exact ⟨j1, j2, j3, ys, j4.at fun o e => hk D o (fun q => hDi (List.mem_singleton.mp q)) hDL e, j5, j6⟩
  · rintro i x s₅ m₅ sm5 hi pv ⟨j1, j2, j3, ys, j4, j5, j6⟩ I5
    obtain ⟨n, t, hn, rfl⟩ := ints_get hI i x (by simpa using pv)
    have hnm := lowWords_mem (List.mem_reverse.mp (List.mem_of_getElem? hn))
    obtain ⟨nn, rfl⟩ := Int.eq_ofNat_of_zero_le hnm.1
    have hnv : nn < 2 ^ one := by exact_mod_cast hnm.2
    refine i2b_word I5 (if_pos rfl) ((if_neg (by decide)).trans j1) ((if_neg (by decide)).trans j2) h1 hnv j4 j6 (by omega) hD0 hDL ?_
    rintro s₆ m₆ sm6 I6 hm6 ⟨zs, z1, z2, z3⟩ up6
    refine ⟨m₆, ⟨(sm5.trans sm6).gens, (sm5.trans sm6).drawn, (sm5.trans sm6).os⟩, I6, ⟨(hm6 _ (by decide) (by decide) (by decide)).trans ((if_neg (by decide)).trans j1), (hm6 _ (by decide) (by decide) (by decide)).trans ((if_neg (by decide)).trans j2),
      (hm6 _ (by decide) (by decide) (by decide)).trans ((if_neg (by decide)).trans j3), zs, z2, by rw [z1, j5], ?_⟩, ?_⟩
    · rw [List.take_add_one, hn]
      show StrsAre zs.toList (wtexts one ((lowWords v one many).reverse.take i ++ [(nn : Int)]))
      have e : wtexts one ((lowWords v one many).reverse.take i ++ [(nn : Int)]) = wtexts one ((lowWords v one many).reverse.take i) ++ [wtext one nn] := by simp [wtexts]
      rw [e]; exact z3
    · intro b hb o eo
      rcases List.mem_cons.mp hb with q | q
      · exact up6 b o (q ▸ hDi.symm) (q ▸ I3.Lne) eo
      · obtain rfl := List.mem_singleton.mp q
        exact up6 b o hTD hTL eo
  · rintro s₅ m₅ sm5 ⟨j1, j2, j3, ys, j4, j5, j6⟩ I5
    rw [List.take_of_length_le (by omega)] at j6
    have smx : Same s s₅ := ⟨((sm.trans sm3).trans ⟨sm5.gens, sm5.drawn, sm5.os⟩).gens, ((sm.trans sm3).trans ⟨sm5.gens, sm5.drawn, sm5.os⟩).drawn, ((sm.trans sm3).trans ⟨sm5.gens, sm5.drawn, sm5.os⟩).os⟩
    have rest : ∀ s₆, Same s s₆ → s₆.heap = s₅.heap → wpAny (model thePw w) (A.deeper (envF kf1353 1353 L)) (execs ((stmtsOf kf1353).drop 3) (envF kf1353 1353 L)) (fun fl s' => Q (match fl with | .ret v => v | _ => .none) s') (leaveE w A (envF kf1353 1353 L) E) s₆ := by
      rintro s₆ sm6 he
      rw [← he] at I5 j4
      show wpAny (model thePw w) (A.deeper (envF kf1353 1353 L)) (execs (_ :: []) (envF kf1353 1353 L)) _ _ _
      refine wpAny_execs_cons (wpAny_Return_some ?_)
      refine Call_method1 (by rfl) (by rfl) (by rfl) (ldL I5.ns j3 ?_)
      refine ⟨"str", "str.join", F.plainAttrs_str, F.slot_str_join, F.type_str_join, typeIs_str _ _ _, (fun _ e => nomatch e), ?_⟩
      refine Calls.callWith_builtin rfl (Calls.evalArgs_plain (Calls.spliced_cons ?_))
      refine ldL I5.ns j1 ?_
      refine Calls.spliced_nil ?_
      refine join_listW j4.isList j6 hsep ?_ ?_
      · rw [wtexts_sum, wtexts_len, hlen]
        have : many * one ≤ 8 * 16 := Nat.mul_le_mul h2.2 h1.2
        omega
      intro tj kj
      exact hok c1 c2 _ _ ⟨sm6.gens, sm6.drawn, sm6.os⟩ I5.kept
    refine wpAny_execs_cons (wpAny_If (wpAny_isTrue_Compare1 ?_))
    refine ldL I5.ns j3 (wpAny_Constant_str ?_)
    refine ne_str ?_
    cases hc : (sep != Str.ofString "") with
    | false =>
      refine tb false rfl ?_
      show wpAny (model thePw w) (A.deeper (envF kf1353 1353 L)) (execs [] (envF kf1353 1353 L)) _ _ _
      refine wpAny_execs_nil ?_
      refine rest _ ?_ ?_
      · exact ⟨smx.gens, smx.drawn, smx.os⟩
      · rfl
    | true =>
      refine tb true rfl ?_
      show wpAny (model thePw w) (A.deeper (envF kf1353 1353 L)) (execs (_ :: []) (envF kf1353 1353 L)) _ _ _
      refine wpAny_execs_cons (wpAny_If (wpAny_isTrue_Not (wpAny_isTrue_value ?_ (by rfl))))
      refine wpAny_Call_NameR (ldB I5.S.ok (g_none _ _ (by decide)) b_isinstance ?_)
      refine Calls.callWith_builtin rfl (Calls.evalArgs_plain (Calls.spliced_cons (ldL I5.ns j3 ?_)))
      refine Calls.spliced_cons (ldB I5.S.ok (g_none _ _ (by decide)) b_str ?_)
      refine Calls.spliced_nil (isi_str ?_)
      refine tb true rfl ?_
      show wpAny (model thePw w) (A.deeper (envF kf1353 1353 L)) (execs [] (envF kf1353 1353 L)) _ _ _
      refine wpAny_execs_nil (wpAny_execs_nil ?_)
      refine rest _ ?_ ?_
      · exact ⟨smx.gens, smx.drawn, smx.os⟩
      · rfl
end
end Mine
end
/- part K1 -/
section
open PySem PySem.W PyProof.Rows
open Sem (wp)
set_option Elab.async false
set_option maxRecDepth 100000
set_option maxHeartbeats 1000000
namespace Mine
/-- the frame of a def whose names are captured -/
abbrev envFC (o : Obj) (f L : Addr) : Env := newEnv (fdOf o).scope L (fdOf o).globals (cellsFrom (L + 1) (fdOf o).scope.names []) ((fdOf o).qualname ++ ".<locals>.") (some f) (fdOf o).code none (fdOf o).builtins
/-- what the cells hold -/
def Cells (cs : List (Str × Addr)) (cm : Str → Option Value) (L : Addr) (h : Heap) : Prop := (∀ n c, cs.lookup n = some c → h.IsCell c (cm n) ∧ L < c) ∧ cs.Pairwise fun x y => x.2 ≠ y.2
section
variable {w : World} {d : Nat} {A : Around} {outer : List Env} {E : Value → Shared → Prop} {s : Shared}
theorem enter_cells {f : Addr} {o : Obj} {L : Addr} {binds : List (Str × Value)} {s₁ : Shared} (S : Sit w d A outer s.heap) (hk : (fdOf o).scope.kind = .function) (hL : L = s.heap.objs.size)
    (x : InCallC s (envFC o f L).locals (bindL (envFC o f L).kindOf binds fun _ => none) (envFC o f L).cells (bindC (envFC o f L).kindOf binds fun _ => none) s₁) :
    In w d A outer (envFC o f L) s.heap L s₁.heap (bindL (envFC o f L).kindOf binds fun _ => none) ∧ Cells (envFC o f L).cells (bindC (envFC o f L).kindOf binds fun _ => none) L s₁.heap ∧ (∀ b o, s.heap.get? b = some o → s₁.heap.get? b = some o) ∧ Same s s₁ := by
  subst hL
  have new : s.heap.get? s.heap.objs.size = none := Heap.get?_none_of_le (Nat.le_refl _)
  have k := x.toInCall.keep
  have S1 := S.kept (.of k : Kept (frs outer) s.heap s₁.heap)
  refine ⟨⟨S, ⟨S.hd, ?_, ?_, ?_, ?_, S1.ok⟩, .of k, new, x.toInCall.ns, rfl⟩, ⟨fun n c hc => ⟨x.cell n c hc, x.above n c (mem_of_lookup hc)⟩, x.apart⟩, k, ?_⟩
  · exact Around.frames_deeper S.st
  · intro env' he
    rcases List.mem_cons.mp he with q | q
    · subst q
      obtain ⟨o', es, ep, x1, x2, _⟩ := x.toInCall.ns
      refine ⟨by show (fdOf o).scope.kind ≠ .module; rw [hk]; decide, s.heap.objs.size, o', es, ep, rfl, x1, x2, S.ok.low⟩
    · exact S1.fr env' q
  · show A.depth + 1 ≤ 301 + (d + 1)
    have := S.dp; omega
  · show A.units + 3 ≤ 4 + 10 * (d + 1)
    have := S.un; omega
  · obtain ⟨h, tk, rfl⟩ := x.toInCall.same
    exact ⟨rfl, rfl, rfl⟩
theorem callF_cells {Q : Value → Shared → Prop} {f : Addr} {o : Obj} {args : List Value} (binds : List (Str × Value))
    (S : Sit w d A outer s.heap) (hd : d ≤ 20) (ho : (theK w.params).lookup f = some o) (ho2 : o.data = .func (fdOf o)) (hclo : (fdOf o).closure = []) (hco : (fdOf o).scope.isCoroutine = false) (hgen : (fdOf o).scope.isGenerator = false) (hk : (fdOf o).scope.kind = .function)
    (hbody : (fdOf o).body = .stmts (stmtsOf o)) (hcode : ∃ c oc vs tq, (fdOf o).code = .ref c ∧ (theK w.params).lookup c = some oc ∧ oc.data = .fields vs ∧ vs[1]? = some (.str (fdOf o).qualname tq))
    (hb : BindsTo s (fdOf o) ⟨args, []⟩ binds)
    (hkind : ∀ x ∈ binds, (fdOf o).scope.names.lookup x.1 = some .local ∨ ((fdOf o).scope.names.lookup x.1 = some .cell ∧ ((cellsFrom (s.heap.objs.size + 1) (fdOf o).scope.names []).lookup x.1).isSome = true))
    (h : ∀ s₁ L, Same s s₁ → In w d A outer (envFC o f L) s.heap L s₁.heap (bindL (envFC o f L).kindOf binds fun _ => none) → Cells (envFC o f L).cells (bindC (envFC o f L).kindOf binds fun _ => none) L s₁.heap → (∀ b o, s.heap.get? b = some o → s₁.heap.get? b = some o) →
      wpAny (model thePw w) (A.deeper (envFC o f L)) (execs (stmtsOf o) (envFC o f L)) (fun fl s' => Q (match fl with | .ret v => v | _ => .none) s') (leaveE w A (envFC o f L) E) s₁) :
    wpAny (model thePw w) A (call (.ref f) args) Q E s := by
  refine wpAny_call ?_
  obtain ⟨c, oc, vs, tq, c1, c2, c3, c4⟩ := hcode
  refine codeAny_call_function (S.room hd) (S.ok.K _ _ ho) ho2 hco hgen hbody ⟨c, oc, vs, tq, c1, S.ok.K _ _ c2, c3, c4⟩ ?_
  refine hb _ _ _ _ ?_
  rw [hclo]
  refine wpAny_newFunctionEnv_cells hk hkind fun env he s' x => ?_
  subst he
  obtain ⟨I, C, k, sm⟩ := enter_cells (f := f) S hk rfl x
  exact ⟨I.S.ok.lim, codeAny_func (h s' _ sm I C k)⟩
theorem callFC_cells {Q : Value → Shared → Prop} {f : Addr} {o : Obj} {args : List Value} (binds : List (Str × Value))
    (S : Sit w d A outer s.heap) (hd : d ≤ 20) (ho : (theK w.params).lookup f = some o) (ho2 : o.data = .func (fdOf o)) (hclo : (fdOf o).closure = []) (hco : (fdOf o).scope.isCoroutine = false) (hgen : (fdOf o).scope.isGenerator = false) (hk : (fdOf o).scope.kind = .function)
    (hbody : (fdOf o).body = .stmts (stmtsOf o)) (hcode : ∃ c oc vs tq, (fdOf o).code = .ref c ∧ (theK w.params).lookup c = some oc ∧ oc.data = .fields vs ∧ vs[1]? = some (.str (fdOf o).qualname tq))
    (hb : BindsTo s (fdOf o) ⟨args, []⟩ binds)
    (hkind : ∀ x ∈ binds, (fdOf o).scope.names.lookup x.1 = some .local ∨ ((fdOf o).scope.names.lookup x.1 = some .cell ∧ ((cellsFrom (s.heap.objs.size + 1) (fdOf o).scope.names []).lookup x.1).isSome = true))
    (h : ∀ s₁ L, L = s.heap.objs.size → Same s s₁ → In w d A outer (envFC o f L) s.heap L s₁.heap (bindL (envFC o f L).kindOf binds fun _ => none) → Cells (envFC o f L).cells (bindC (envFC o f L).kindOf binds fun _ => none) L s₁.heap → (∀ b o, s.heap.get? b = some o → s₁.heap.get? b = some o) →
      wpC (model thePw w) (A.deeper (envFC o f L)) (execs (stmtsOf o) (envFC o f L)) (fun fl s' => Q (match fl with | .ret v => v | _ => .none) s') (leaveE w A (envFC o f L) E) s₁) :
    wpC (model thePw w) A (call (.ref f) args) Q E s := by
  refine wpC_call ?_
  obtain ⟨c, oc, vs, tq, c1, c2, c3, c4⟩ := hcode
  refine codeC_call_function (S.room hd) (S.ok.K _ _ ho) ho2 hco hgen hbody ⟨c, oc, vs, tq, c1, S.ok.K _ _ c2, c3, c4⟩ ?_
  refine hb _ _ _ _ ?_
  rw [hclo]
  refine wpAny_newFunctionEnv_cells hk hkind fun env he s' x => ?_
  subst he
  obtain ⟨I, C, k, sm⟩ := enter_cells (f := f) S hk rfl x
  exact ⟨I.S.ok.lim, C_func (h s' _ rfl sm I C k)⟩
end
theorem paired_strs {F : Value → Value → Prop} {P : Nat → Value → Prop} {g : Nat → Str} (hF : ∀ j v y, P j v → F v y → ∃ t, y = .str (g j) t) :
    ∀ {vs ys : List Value} (off : Nat), Paired F vs ys → (∀ j v, vs[j]? = some v → P (off + j) v) → StrsAre ys ((List.range vs.length).map fun j => g (off + j))
  | _, _, _, .nil, _ => .nil
  | v :: vs, y :: ys, off, .cons h r, hP => by
    obtain ⟨t, rfl⟩ := hF off v y (hP 0 v rfl) h
    rw [List.length_cons, List.range_succ_eq_map, List.map_cons, List.map_map]
    have ih := paired_strs hF (off + 1) r fun j u hj => by
      have := hP (j + 1) u (by simpa using hj)
      rwa [show off + (j + 1) = off + 1 + j by omega] at this
    have e : ((fun j => g (off + j)) ∘ Nat.succ) = fun j => g (off + 1 + j) := by
      funext j
      show g (off + (j + 1)) = _
      rw [show off + (j + 1) = off + 1 + j by omega]
    rw [e]
    exact .cons _ _ ih
theorem paired_ints {F : Value → Value → Prop} {P : Nat → Value → Prop} {g : Nat → Int} (hF : ∀ j v y, P j v → F v y → ∃ t, y = .int (g j) t) :
    ∀ {vs ys : List Value} (off : Nat), Paired F vs ys → (∀ j v, vs[j]? = some v → P (off + j) v) → IntsAre ys ((List.range vs.length).map fun j => g (off + j))
  | _, _, _, .nil, _ => .nil
  | v :: vs, y :: ys, off, .cons h r, hP => by
    obtain ⟨t, rfl⟩ := hF off v y (hP 0 v rfl) h
    rw [List.length_cons, List.range_succ_eq_map, List.map_cons, List.map_map]
    have ih := paired_ints hF (off + 1) r fun j u hj => by
      have := hP (j + 1) u (by simpa using hj)
      rwa [show off + (j + 1) = off + 1 + j by omega] at this
    have e : ((fun j => g (off + j)) ∘ Nat.succ) = fun j => g (off + 1 + j) := by
      funext j
      show g (off + (j + 1)) = _
      rw [show off + (j + 1) = off + 1 + j by omega]
    rw [e]
    exact .cons _ _ ih
theorem two_pow_log2 (j : Nat) : ((2 : Int) ^ j).natAbs.log2 = j := by
  rw [Int.natAbs_pow]
  exact Nat.log2_two_pow
end Mine
end
/- part K2 -/
section
open PySem PySem.W PyProof.Rows
open Sem (wp)
set_option Elab.async false
set_option maxRecDepth 100000
set_option maxHeartbeats 1000000
namespace Mine
section
variable {M : Model} {A : Around} {E : Value → Shared → Prop} {s : Shared} {env : Env}
theorem ldC {x : Str} {c : Addr} {v : Value} {pos : Pos} {Q : Value → Shared → Prop} (hc : s.heap.IsCell c (some v)) (hl : env.cells.lookup x = some c) (h : Q v s) (hk : env.scope.kind = .function := by rfl) (hx : env.kindOf x = some .cell := by rfl)
    (hd : (x == ("__debug__" : Str)) = false := by decide) : wpAny M A (eval (.Name x pos) env) Q E s := wpAny_Name (wpAny_loadName_cell hk hx hl hc h) hd
end
theorem walks_bounded {prog : Program} {w : World} {A : Around} {I : Addr} {fp wr : List Addr} {n : Nat} {P : Nat → Value → Prop} {St : Nat → Heap → Prop} (W : Walks prog w A I fp wr n P St) : Walks prog w A I fp wr n (fun i v => i < n ∧ P i v) St where
  sub := W.sub
  frame := W.frame
  item := fun i s Q E hi st hQ => W.item i s Q E hi st fun v h' tk pv => hQ v h' tk ⟨hi, pv⟩
  done := W.done
  self := W.self
abbrev bitStr (v n k : Nat) : Str := if v / 2 ^ (n - 1 - k) % 2 = 1 then Str.ofString "1" else Str.ofString "0"
theorem bits_text (n v : Nat) : Txt.join (Str.ofString "") ((List.range n).map fun k => bitStr v n k) = wtext n v := by
  apply str_ext
  show cd (Txt.join "" _) = cd _
  rw [cd_join0, List.map_map, cd_wtext]
  have e : (cd ∘ fun k => bitStr v n k) = fun k => [48 + v / 2 ^ (n - 1 - k) % 2] := by
    funext k
    show cd (bitStr v n k) = _
    have z0 : cd (Str.ofString "0") = [48] := by decide +kernel
    have z1 : cd (Str.ofString "1") = [49] := by decide +kernel
    unfold bitStr
    by_cases h : v / 2 ^ (n - 1 - k) % 2 = 1
    · rw [if_pos h, z1, h]
    · rw [if_neg h, z0]
      have : v / 2 ^ (n - 1 - k) % 2 = 0 := by omega
      rw [this]
  rw [e]
  unfold wcodes
  generalize List.range n = l
  induction l with
  | nil => rfl
  | cons a r ih => rw [List.map_cons, List.flatten_cons, ih]; rfl
section
variable {w : World} {d : Nat} {A : Around} {outer : List Env} {E : Value → Shared → Prop} {s : Shared}
theorem c_law_spelled {v n : Nat} {t0 t1 : Tok} {Q : Value → Shared → Prop}
    (S : Sit w d A outer s.heap) (hd : d ≤ 19) (hn : n ≤ 200)
    (h : ∀ s' t, Same s s' → (∀ b o, s.heap.get? b = some o → s'.heap.get? b = some o) → Q (.str (wtext n v) t) s') :
    wpAny (model thePw w) A (call (.ref 1379) [.int (v : Int) t0, .int (n : Int) t1]) Q E s := by
  refine callF_cells [("number", .int (v : Int) t0), ("digits", .int (n : Int) t1)] S (by omega) (o := kf1379) rfl rfl rfl rfl rfl rfl rfl ⟨1378, _, _, _, rfl, rfl, rfl, rfl⟩ (.of_eq (by rfl))
    (List.forall_mem_cons.mpr ⟨.inr ⟨by rfl, by rfl⟩, List.forall_mem_cons.mpr ⟨.inr ⟨by rfl, by rfl⟩, fun _ h => by cases h⟩⟩) ?_
  intro s₁ L sm1 I C up1
  show wpAny (model thePw w) (A.deeper (envFC kf1379 1379 L)) (execs (_ :: []) (envFC kf1379 1379 L)) _ _ _
  have cN : s₁.heap.IsCell (L + 1) (some (.int (v : Int) t0)) := (C.1 "number" (L + 1) (by rfl)).1
  have cD : s₁.heap.IsCell (L + 2) (some (.int (n : Int) t1)) := (C.1 "digits" (L + 2) (by rfl)).1
  refine wpAny_execs_cons (wpAny_Return_some ?_)
  refine Call_method1 (by rfl) (by rfl) (by rfl) (wpAny_Constant_str (k := 0) (pos := default) ?_)
  refine ⟨"str", "str.join", F.plainAttrs_str, F.slot_str_join, F.type_str_join, typeIs_str _ _ _, (fun _ e => nomatch e), ?_⟩
  refine Calls.callWith_builtin rfl (Calls.evalArgs_plain (Calls.spliced_cons ?_))
  refine wpAny_ListComp_free (cl := [("number", L + 1), ("digits", L + 2)]) (fun _ => true) (fun u y => ∃ k : Nat, ∃ t t', u = .int (k : Int) t ∧ y = .str (bitStr v n k) t') (by rfl) (by decide) (by rfl) (by decide) (by rfl) ?_
  refine wpAny_Call_NameR (ldB I.S.ok (g_none _ _ (by decide)) b_range ?_)
  refine PySem.callWith_type rfl (Calls.evalArgs_plain (Calls.spliced_cons (ldC cD (by rfl) ?_)))
  refine Calls.spliced_nil ?_
  refine range_it (s := { s₁ with toks := s₁.toks + 1 }) I (by omega) ?_
  intro s₂ it sm2 I2 hit hit0 hitL hits up2
  have cN2 : ∀ s₃ : Shared, (∀ b o, b ∉ [it] → s₂.heap.get? b = some o → s₃.heap.get? b = some o) → s₃.heap.IsCell (L + 1) (some (.int (v : Int) t0)) := fun s₃ hk => by
    obtain ⟨o, ho, hc⟩ := cN
    exact ⟨o, hk _ o (fun q => by rw [List.mem_singleton.mp q] at ho; rw [hits] at ho; cases ho) (up2 _ o ho), hc⟩
  have cD2 : ∀ s₃ : Shared, (∀ b o, b ∉ [it] → s₂.heap.get? b = some o → s₃.heap.get? b = some o) → s₃.heap.IsCell (L + 2) (some (.int (n : Int) t1)) := fun s₃ hk => by
    obtain ⟨o, ho, hc⟩ := cD
    exact ⟨o, hk _ o (fun q => by rw [List.mem_singleton.mp q] at ho; rw [hits] at ho; cases ho) (up2 _ o ho), hc⟩
  refine ⟨it, [it], [it], n, _, _, rfl, walks_bounded (Walks.range I2.S.hd it 0 1 n), Nat.le_trans hn (by decide), ?_, ?_, ⟨?_, ?_⟩, ?_⟩
  · simpa using hit
  · intro b hb
    rw [List.mem_singleton.mp hb]
    exact Heap.lt_size hit
  · intro C i u s₃ m₃ E' _ _ _ _ _ _
    rw [List.forIn_nil]
    exact wpAny_pure ⟨rfl, _, _, rfl, fun _ _ e => e⟩
  · rintro C i u s₃ m₃ E' hC ⟨hi, tu, rfl⟩ _ hns hm hk _
    refine wpAny_IfExp (wpAny_isTrue_Compare1 ?_)
    refine wpAny_BinOp (wpAny_BinOp (ldC (cN2 _ hk) (by rfl) ?_))
    refine wpAny_BinOp (wpAny_Constant_int ?_)
    refine wpAny_BinOp (wpAny_BinOp (ldC (cD2 _ hk) (by rfl) ?_))
    refine wpAny_Constant_int (P.sub_int ?_)
    refine ldL hns hm (P.sub_int ?_)
    have e1 : (n : Int) - 1 - (0 + (i : Int) * 1) = ((n - 1 - i : Nat) : Int) := by omega
    rw [e1]
    refine pow_int_small (Int.natCast_nonneg _) (by omega) (by decide) ?_
    rw [Int.toNat_natCast]
    have p : (0 : Int) < 2 ^ (n - 1 - i) := Int.pow_pos (by decide)
    refine floordiv_int (by omega) ?_ (.inl (PyProof.noPylong_of_log2 (by rw [two_pow_log2]; omega)))
    refine wpAny_Constant_int (mod_int' (by decide) ?_)
    have e2 : ((v : Int).fdiv (2 ^ (n - 1 - i))).fmod 2 = ((v / 2 ^ (n - 1 - i) % 2 : Nat) : Int) := by
      rw [Int.fdiv_eq_ediv_of_nonneg _ (Int.le_of_lt p), Int.fmod_eq_emod_of_nonneg _ (by decide)]
      push_cast; rfl
    rw [e2]
    refine wpAny_Constant_int (P.eq_int ?_)
    refine wpAny_truthy_bool ?_
    by_cases hb : v / 2 ^ (n - 1 - i) % 2 = 1
    · rw [hb]
      refine wpAny_Constant_str ⟨⟨i, tu, _, ?_, congrArg (fun z => Value.str z _) (if_pos hb).symm⟩, _, _, rfl, fun _ _ e => e⟩
      congr 1; omega
    · have hb0 : v / 2 ^ (n - 1 - i) % 2 = 0 := by omega
      rw [hb0]
      refine wpAny_Constant_str ⟨⟨i, tu, _, ?_, congrArg (fun z => Value.str z _) (if_neg hb).symm⟩, _, _, rfl, fun _ _ e => e⟩
      congr 1; omega
  · intro D h' tk ys vs hD hl hpl hlen hP hF hk
    refine Calls.spliced_nil ?_
    have hS := paired_strs (F := fun u y => ∃ k : Nat, ∃ t t', u = .int (k : Int) t ∧ y = .str (bitStr v n k) t') (P := fun i u => i < n ∧ ∃ t, u = .int (0 + (i : Int) * 1) t) (g := fun k => bitStr v n k) (by
      rintro j u y ⟨_, t, rfl⟩ ⟨k, t2, t3, e1, rfl⟩
      have : j = k := by injection e1; omega
      subst this; exact ⟨_, rfl⟩) 0 hF (fun j u hj => by rw [Nat.zero_add]; rw [List.filter_eq_self.mpr (fun _ _ => rfl)] at hj; exact hP j u hj)
    rw [List.filter_eq_self.mpr (fun _ _ => rfl), hlen] at hS
    simp only [Nat.zero_add] at hS
    refine join_listW hl hS (by decide +kernel) ?_ ?_
    · have : ((List.map (fun x => x.length) (List.map (fun k => bitStr v n k) (List.range n))).sum) = n := by
        rw [List.map_map]
        have e : ((fun x : Str => x.length) ∘ fun k => bitStr v n k) = fun _ => 1 := by
          funext k
          show (bitStr v n k).length = 1
          unfold bitStr
          split <;> decide +kernel
        rw [e, List.map_const']; simp
      rw [this, List.length_map, List.length_range]; omega
    intro t' k
    rw [bits_text]
    refine h _ _ ⟨sm2.gens.trans sm1.gens, sm2.drawn.trans sm1.drawn, sm2.os.trans sm1.os⟩ ?_
    intro b o e
    have e1 := up1 b o e
    exact hk b o (fun q => by rw [List.mem_singleton.mp q] at e1; rw [hits] at e1; cases e1) (up2 b o e1)
end
end Mine
end
/- part G2 -/
section
open PySem PySem.W PyProof.Rows
set_option Elab.async false
set_option maxRecDepth 100000
set_option maxHeartbeats 1000000
namespace Mine
theorem cd_ofString (s : String) : cd (Str.ofString s) = s.toList.map Char.toNat := by
  show (cpsOfBytes 0 0 s.toByteArray.data.toList).toArray.toList = _
  rw [cpsOfBytes_string]
theorem wcodes_snoc (n v : Nat) : wcodes (n + 1) v = wcodes n (v / 2) ++ [48 + v % 2] := by
  unfold wcodes
  rw [List.range_succ, List.map_append]
  congr 1
  · apply List.map_congr_left
    intro k hk
    have hk := List.mem_range.mp hk
    rw [Nat.div_div_eq_div_mul]
    congr 3
    rw [← Nat.pow_succ']
    congr 1; omega
  · simp
theorem wcodes_app (a b v : Nat) : wcodes (a + b) v = wcodes a (v / 2 ^ b % 2 ^ a) ++ wcodes b v := by
  apply List.ext_getElem?
  intro j
  by_cases hj : j < a + b
  · rw [wcodes_at _ _ _ hj]
    by_cases ha : j < a
    · rw [List.getElem?_append_left (by rw [wcodes_len]; exact ha), wcodes_at _ _ _ ha]
      congr 2
      have e : 2 ^ a = 2 ^ (a - 1 - j) * 2 ^ (j + 1) := by rw [← Nat.pow_add]; congr 1; omega
      rw [e, Nat.mod_mul_right_div_self, Nat.mod_mod_of_dvd _ (Nat.pow_dvd_pow 2 (by omega : 1 ≤ j + 1)), Nat.div_div_eq_div_mul, ← Nat.pow_add]
      congr 3; omega
    · rw [List.getElem?_append_right (by rw [wcodes_len]; omega), wcodes_len, wcodes_at _ _ _ (by omega)]
      congr 5; omega
  · rw [List.getElem?_eq_none (by rw [wcodes_len]; omega), List.getElem?_eq_none (by rw [List.length_append, wcodes_len, wcodes_len]; omega)]
theorem binVal_snoc (l : List Nat) (c : Nat) : binVal (l ++ [c]) = binVal l * 2 + (c - 48) := by
  unfold binVal; rw [List.foldl_append]; rfl
theorem binVal_wcodes : ∀ (n v : Nat), binVal (wcodes n v) = v % 2 ^ n
  | 0, v => by simp [wcodes, binVal, Nat.mod_one]
  | n + 1, v => by
    rw [wcodes_snoc, binVal_snoc, binVal_wcodes n, Nat.pow_succ, Nat.add_sub_cancel_left, Nat.mul_comm (2 ^ n) 2, Nat.mod_mul]
    omega
theorem wcodes_01 {n v c : Nat} (h : c ∈ wcodes n v) : c = 48 ∨ c = 49 := by
  obtain ⟨k, _, rfl⟩ := List.mem_map.mp h
  omega
theorem log2_half {n : Nat} (h : 2 ≤ n) : n.log2 = (n / 2).log2 + 1 := by
  rw [Nat.log2_def, if_pos h]
theorem digitsCore_codes : ∀ (fuel n : Nat) (ds : List Char), n < fuel → (Nat.toDigitsCore 2 fuel n ds).map Char.toNat = wcodes (n.log2 + 1) n ++ ds.map Char.toNat
  | 0, _, _, h => absurd h (Nat.not_lt_zero _)
  | fuel + 1, n, ds, h => by
    unfold Nat.toDigitsCore
    have dc : ∀ k, k < 2 → (Nat.digitChar k).toNat = 48 + k := by decide
    have hd := dc (n % 2) (Nat.mod_lt _ (by decide))
    by_cases h0 : n / 2 = 0
    · simp only [h0, if_true, List.map_cons]
      have h1 : n < 2 := by omega
      have hl : n.log2 = 0 := by rw [Nat.log2_def, if_neg (by omega)]
      rw [hl, hd, wcodes_snoc]
      rfl
    · simp only [h0, if_false]
      rw [digitsCore_codes fuel (n / 2) _ (by omega), log2_half (n := n) (by omega), wcodes_snoc (_ + 1), List.map_cons, hd, List.append_assoc]
      rfl
theorem cd_zb : cd zb = [48, 98] := by decide +kernel
theorem bin_codes (v : Nat) : cd (baseText "0b" 2 (v : Int)) = [48, 98] ++ wcodes (v.log2 + 1) v := by
  have z : cd (Str.ofString "") = [] := by decide +kernel
  rw [baseText_nonneg (Int.natCast_nonneg _), cd_app, cd_app, z, cd_zb, Int.natAbs_natCast, cd_ofString, String.toList_ofList]
  show [48, 98] ++ (Nat.toDigitsCore 2 (v + 1) v []).map Char.toNat = _
  rw [digitsCore_codes _ _ _ (Nat.lt_succ_self _)]
  simp
theorem bin_text (v : Nat) : baseText "0b" 2 (v : Int) = zb ++ wtext (v.log2 + 1) v := str_ext (by
  show cd _ = cd _
  rw [bin_codes, cd_app, cd_zb, cd_wtext])
theorem bin_len (v : Int) : (baseText "0b" 2 v).length ≤ v.natAbs.log2 + 4 := by
  unfold baseText
  have hd : (Str.ofString (String.ofList (Nat.toDigits 2 v.natAbs))).length = ((Nat.toDigits 2 v.natAbs).map Char.toNat).length := by rw [← cd_len, cd_ofString, String.toList_ofList]
  rw [Str.length_append, Str.length_append, hd]
  have e : (Str.ofString "0b").length = 2 := by decide +kernel
  have h3 : (Str.ofString (if v < 0 then "-" else "")).length ≤ 1 := by split <;> decide +kernel
  have : ((Nat.toDigits 2 v.natAbs).map Char.toNat).length = v.natAbs.log2 + 1 := by
    show ((Nat.toDigitsCore 2 (v.natAbs + 1) v.natAbs []).map Char.toNat).length = _
    rw [digitsCore_codes _ _ _ (Nat.lt_succ_self _), List.length_append, wcodes_len]; rfl
  omega
/-- bin(v)[2:] -/
theorem bin_tail (v : Nat) : (Txt.slice (baseText "0b" 2 (v : Int)) (some 2) none).length = v.log2 + 1 := by
  have hl : (baseText "0b" 2 (v : Int)).length = v.log2 + 3 := by rw [← cd_len, bin_codes, List.length_append, wcodes_len]; simp; omega
  have := slice_from (baseText "0b" 2 (v : Int)) 2 (by omega)
  rw [← cd_len]
  show (cd (Txt.slice (baseText "0b" 2 (v : Int)) (some ((2 : Nat) : Int)) none)).length = _
  rw [this, bin_codes]
  simp [wcodes_len]
theorem log2_lt_of {v n : Nat} (hn : 1 ≤ n) (h : v < 2 ^ n) : v.log2 < n := by
  by_cases h0 : v = 0
  · subst h0; rw [Nat.log2_zero]; exact hn
  · exact (Nat.log2_lt h0).mpr h
theorem lt_of_log2 {v n : Nat} (h : 2 ^ n ≤ v) : n ≤ v.log2 := by
  have h0 : v ≠ 0 := fun q => by rw [q] at h; exact absurd h (Nat.not_le.mpr (Nat.two_pow_pos n))
  exact (Nat.le_log2 h0).mpr h
end Mine
end
/- part M1 -/
section
open PySem PySem.W PyProof.Rows
open Sem (wp)
set_option Elab.async false
set_option maxRecDepth 100000
set_option maxHeartbeats 1000000
namespace Mine
section
variable {prog : Program} {w : World} {A : Around} {E : Value → Shared → Prop} {s : Shared}
theorem slice_base {value slice : Expr} {l : Addr} {items : Array Value} {vl vu : Value} {lo hi : Option Int} {Q : Value → Shared → Prop} (hl : s.heap.IsList l items) (pl : IsPart vl lo) (pu : IsPart vu hi) (hsz : items.size ≤ sizeLine)
    (h : Q (.ref (s.heap.push { cls := .type "slice", data := .fields #[vl, vu, .none] }).objs.size) { s with heap := (s.heap.push { cls := .type "slice", data := .fields #[vl, vu, .none] }).push { cls := .type "list", data := .seq (slicePick items lo hi none) } })
    (hs : subscripted slice false (.ref l) (.ref s.heap.objs.size) = operate [.ref s.heap.objs.size, .ref l] (getItem (.ref l) (.ref s.heap.objs.size)) := by with_unfolding_all rfl)
    (ht : ∀ r, letTemporaryGo value (.ref l) r = pure () := by intro _; with_unfolding_all rfl) :
    wpAny (model prog w) A (subscriptTail value slice (.ref l) (.ref s.heap.objs.size)) Q E { s with heap := s.heap.push { cls := .type "slice", data := .fields #[vl, vu, .none] } } :=
  subscriptTail_ops (Heap.IsList.typeIs (s := { s with heap := s.heap.push { cls := .type "slice", data := .fields #[vl, vu, .none] } }) (hl.push _)) list_getitem_lookup
    (wpAny_getItem_list_slice (hl.push _) (Heap.IsSliceOf.new ..) pl pu .none (by simp) h hsz) hs ht
theorem add_base {l b : Addr} {xs ys : Array Value} {Q : Value → Shared → Prop} (hl : s.heap.IsList l xs) (hb : s.heap.IsList b ys) (hsz : xs.size + ys.size ≤ sizeLine)
    (h : Q (.ref s.heap.objs.size) { s with heap := s.heap.push { cls := .type "list", data := .seq (xs ++ ys) } }) : wpAny (model prog w) A (binaryOp .Add (.ref l) (.ref b)) Q E s := by
  obtain ⟨⟨cls, dd, data, sl⟩, ho, hc, n, hd⟩ := id hl
  obtain ⟨⟨cls2, dd2, data2, sl2⟩, ho2, hc2, n2, hd2⟩ := id hb
  simp only at hc hd hc2 hd2
  subst hc hd hc2 hd2
  exact concat_meets ⟨_, ho, rfl⟩ ⟨_, ho2, rfl⟩ noFill_list_add seq_list_add PySem.F.slot_list_add PySem.F.entry_list_add (PySem.F.args_list_add_2 _ _) (list_addW l b xs ys n n2 dd dd2 sl sl2 hsz) ⟨ho, ho2, h⟩
theorem slice_new {value slice : Expr} {l : Addr} {items : Array Value} {vl vu : Value} {lo hi : Option Int} {Q : Value → Shared → Prop} (hl : s.heap.IsList l items) (pl : IsPart vl lo) (pu : IsPart vu hi) (hsz : items.size ≤ sizeLine)
    (h : ∀ h' r, h'.IsList r (slicePick items lo hi none) → s.heap.get? r = none → (∀ b o, s.heap.get? b = some o → h'.get? b = some o) → Q (.ref r) { s with heap := h' })
    (hs : subscripted slice false (.ref l) (.ref s.heap.objs.size) = operate [.ref s.heap.objs.size, .ref l] (getItem (.ref l) (.ref s.heap.objs.size)) := by with_unfolding_all rfl)
    (ht : ∀ r, letTemporaryGo value (.ref l) r = pure () := by intro _; with_unfolding_all rfl) :
    wpAny (model prog w) A (subscriptTail value slice (.ref l) (.ref s.heap.objs.size)) Q E { s with heap := s.heap.push { cls := .type "slice", data := .fields #[vl, vu, .none] } } :=
  slice_base hl pl pu hsz (h _ _ ⟨_, Heap.get?_push_size _ rfl, rfl, _, rfl⟩ (Heap.get?_none_of_le (by rw [Heap.size_push]; exact Nat.le_succ _)) fun _ _ e => Heap.get?_push_of_some _ (Heap.get?_push_of_some _ e)) hs ht
theorem add_new {l b : Addr} {xs ys : Array Value} {Q : Value → Shared → Prop} (hl : s.heap.IsList l xs) (hb : s.heap.IsList b ys) (hsz : xs.size + ys.size ≤ sizeLine)
    (h : ∀ h' r, h'.IsList r (xs ++ ys) → s.heap.get? r = none → (∀ b o, s.heap.get? b = some o → h'.get? b = some o) → Q (.ref r) { s with heap := h' }) : wpAny (model prog w) A (binaryOp .Add (.ref l) (.ref b)) Q E s :=
  add_base hl hb hsz (h _ _ ⟨_, Heap.get?_push_size _ rfl, rfl, _, rfl⟩ (Heap.get?_none_of_le (Nat.le_refl _)) fun _ _ e => Heap.get?_push_of_some _ e)
/-- so many items are drawn from whatever walks -/
theorem draw_walks {I : Addr} {fp wr : List Addr} {n : Nat} {P : Nat → Value → Prop} {St : Nat → Heap → Prop} (W : Walks prog w A I fp wr n P St) : ∀ (k i : Nat) (s : Shared) (Q : List Value → Shared → Prop), St i s.heap → i + k ≤ n →
    (∀ vs h' tk, vs.length = k → (∀ j v, vs[j]? = some v → P (i + j) v) → St (i + k) h' → (∀ b o, b ∉ wr → s.heap.get? b = some o → h'.get? b = some o) → Q vs { s with heap := h', toks := tk }) → wpAny (model prog w) A (draw (.ref I) k) Q E s
  | 0, i, s, Q, st, _, hQ => by
    show wpAny _ _ (pure []) Q E s
    exact wpAny_pure (hQ [] s.heap s.toks rfl (fun j v h => by simp at h) st fun _ _ _ e => e)
  | k + 1, i, s, Q, st, hle, hQ => by
    show wpAny _ _ (pyNext (.ref I) >>= _) Q E s
    refine wpAny_bind (W.item i s _ _ (by omega) st fun v h₁ tk₁ pv st₁ up₁ => ?_)
    refine wpAny_bind (wpAny_holding (draw_walks W k (i + 1) _ _ st₁ (by omega) fun vs h₂ tk₂ hl hP st₂ up₂ => wpAny_pure ?_))
    refine hQ (v :: vs) h₂ tk₂ (by rw [List.length_cons, hl]) (fun j u hj => ?_) (by rw [show i + (k + 1) = i + 1 + k by omega]; exact st₂) fun b o hb e => up₂ b o hb (up₁ b o hb e)
    cases j with
    | zero =>
      obtain rfl : v = u := by simpa using hj
      exact pv
    | succ j => rw [show i + (j + 1) = i + 1 + j by omega]; exact hP j u (by simpa using hj)
theorem unpack_list {l : Addr} {items : Array Value} {targets : List (Bool × (Value → Sem Unit))} {Q : Unit → Shared → Prop} (hh : A.handled = none) (hl : s.heap.IsList l items)
    (hn : targets.length = items.size) (hstar : targets.findIdx? (·.1) = none)
    (h : ∀ h' tk, (∀ b o, s.heap.get? b = some o → h'.get? b = some o) → wpAny (model prog w) A (assignInOrder (targets.map (·.2)) items.toList) Q E { s with heap := h', toks := tk }) :
    wpAny (model prog w) A (unpack (.ref l) targets) Q E s := by
  have hlt : l ≠ s.heap.objs.size := Nat.ne_of_lt (isList_lt hl)
  unfold unpack
  rw [hn, hstar]
  refine wpAny_bind (wpAny_holding ?_)
  unfold unpackItems
  refine wpAny_bind ?_
  unfold notIterableAtAll
  refine wpAny_bind (wpAny_specialOf hl.typeIs slot_list_iter.lookup ?_)
  refine wpAny_pure ?_
  simp only [Bool.false_eq_true, if_false]
  refine wpAny_bind (wpAny_holding (wpAny_pyIter_list hl ?_))
  have W := Walks.list (prog := prog) (w := w) hh s.heap.objs.size l hlt items
  refine wpAny_bind (wpAny_holding (draw_walks W items.size 0 _ _ ⟨⟨_, Heap.get?_push_size _ rfl, rfl, rfl⟩, hl.push _⟩ (by omega) fun vs h₁ tk₁ hl₁ hP st₁ up₁ => ?_))
  have hall : vs = items.toList := by
    apply List.ext_getElem?
    intro j
    by_cases hj : j < vs.length
    · have := hP j _ (List.getElem?_eq_getElem hj)
      rw [List.getElem?_eq_getElem hj]
      rw [Nat.zero_add] at this
      rw [Array.getElem?_toList]
      exact this.symm
    · rw [List.getElem?_eq_none (by omega), List.getElem?_eq_none (by rw [Array.length_toList]; omega)]
  subst hall
  rw [if_neg (by simp)]
  rw [Nat.zero_add] at st₁
  refine wpAny_bind (wpAny_holding (W.done _ _ _ st₁ fun h₂ tk₂ up₂ => ?_))
  simp only [Option.isSome_none, Bool.false_eq_true, if_false]
  refine wpAny_pure (h h₂ tk₂ fun b o e => ?_)
  have hb : b ∉ [s.heap.objs.size] := fun q => by rw [List.mem_singleton.mp q] at e; exact Nat.lt_irrefl _ (Heap.lt_size e)
  exact up₂ b o hb (up₁ b o hb (Heap.get?_push_of_some _ e))
theorem assign_tuple_list {env : Env} {elts : List Expr} {x1} {pos : Pos} {l : Addr} {items : Array Value} {Q : Unit → Shared → Prop} (hh : A.handled = none) (hl : s.heap.IsList l items)
    (hn : (assignEach elts env).length = items.size) (hstar : (assignEach elts env).findIdx? (·.1) = none)
    (h : ∀ h' tk, (∀ b o, s.heap.get? b = some o → h'.get? b = some o) → wpAny (model prog w) A (assignInOrder ((assignEach elts env).map (·.2)) items.toList) Q E { s with heap := h', toks := tk }) :
    wpAny (model prog w) A (assign (.Tuple elts x1 pos) env (.ref l)) Q E s := by
  rw [arm_assign_Tuple]
  exact wpAny_bind (wpAny_standAt (unpack_list hh hl hn hstar h))
end
section
variable {M : Model} {A : Around} {E : Value → Shared → Prop} {s : Shared} {env : Env}
theorem C_isTrue_or {x rest pos whole} {Q : Bool → Shared → Prop}
    (h : wpC M A (isTrue x env (eval x env)) (fun c s' => if c then Q true s' else wpC M A (isTrue (.BoolOp .Or rest pos) env whole) Q E s') E s) : wpC M A (isTrue (.BoolOp .Or (x :: rest) pos) env whole) Q E s := by
  show wpC M A (do
    match BoolOp.Or, ← isTrue x env (eval x env) with
    | .And, false => pure false
    | .Or, true => pure true
    | _, _ => allTrue .Or rest env) Q E s
  refine wpC_bind (wpC_mono h (fun c s' h' => ?_) fun _ _ x => x)
  cases c with
  | false => exact h'
  | true => exact wpC_pure h'
theorem C_isTrue_or_nil {pos whole} {Q : Bool → Shared → Prop} (h : Q false s) : wpC M A (isTrue (.BoolOp .Or [] pos) env whole) Q E s := wpC_any (isTrue_or_nil h)
theorem C_isTrue_Compare1 {l op r pos whole} {Q : Bool → Shared → Prop}
    (h : wpC M A (eval l env) (fun a s₁ => wpAny M A (eval r env) (fun b s₂ => wpAny M A (compareOp op a b) (fun c s₃ => wpAny M A (truthy c) Q E s₃) E s₂) E s₁) E s)
    (hm : behindInMarks op r = false := by with_unfolding_all rfl) : wpC M A (isTrue (.Compare l [op] [r] pos) env whole) Q E s := fun Γ p hΓ hC => by
  simp only [isTrue_Compare1, markedBehindIn_of_false hm, Sem.wp_bind', Sem.wp_holding, Sem.wp_cmd_standAt, Sem.wp_operate]
  exact Sem.wp_mono M Γ _ (fun a p₁ s₁ h₁ => Sem.wp_mono M Γ _ (fun b _ s₂ h₂ => Sem.wp_mono M Γ _ (fun c p₃ s₃ h₃ => h₃ Γ p₃ hΓ)
    (fun _ _ _ h' => h') _ _ (h₂ Γ _ hΓ)) (fun _ _ _ h' => h') _ _ (h₁ Γ p₁ hΓ)) (fun _ _ _ h' => h') _ _ (h Γ p hΓ hC)
end
end Mine
end
/- part M2 -/
section
open PySem PySem.W PyProof.Rows
open Sem (wp)
set_option Elab.async false
set_option maxRecDepth 100000
set_option maxHeartbeats 1000000
namespace Mine
/-- the law's own frame -/
abbrev envL (L : Addr) : Env := envFC kf1384 1384 L
abbrev upd (m : Str → Option Value) (x : Str) (v : Value) : Str → Option Value := fun y => if y = x then some v else m y
theorem upd_same {m : Str → Option Value} {x : Str} {v : Value} : upd m x v x = some v := if_pos rfl
theorem upd_ne {m : Str → Option Value} {x y : Str} {v : Value} (h : y ≠ x) : upd m x v y = m y := if_neg h
abbrev AL (L : Addr) : Around := callerA.deeper (envL L)
/-- where the law's walk stands: its frame, and a ledger of what it holds -/
structure LS (w : World) (s0 : Shared) (L : Addr) (F : List (Addr × Obj)) (s : Shared) (m : Str → Option Value) : Prop where
  I : In w 0 callerA [] (envL L) s0.heap L s.heap m
  sm : Same s0 s
  led : ∀ p ∈ F, s.heap.get? p.1 = some p.2
  off : ∀ p ∈ F, p.1 ≠ L
section
variable {w : World} {s0 s : Shared} {L : Addr} {F : List (Addr × Obj)} {m : Str → Option Value} {E : Value → Shared → Prop}
theorem frsL : frs [envL L] = [L] := rfl
/-- what stands off the frame's namespace stays -/
theorem LS.move {s' : Shared} {m' : Str → Option Value} (H : LS w s0 L F s m) (sm : Same s s') (I : In w 0 callerA [] (envL L) s0.heap L s'.heap m') (T : List Addr) (hT : ∀ p ∈ F, p.1 ∉ T) (k : ∀ b o, b ≠ L → b ∉ T → s.heap.get? b = some o → s'.heap.get? b = some o) : LS w s0 L F s' m' :=
  ⟨I, H.sm.trans sm, fun p hp => k _ _ (H.off p hp) (hT p hp) (H.led p hp), H.off⟩
theorem LS.ext {s' : Shared} (H : LS w s0 L F s m) (sm : Same s s') (k : ∀ b o, s.heap.get? b = some o → s'.heap.get? b = some o) : LS w s0 L F s' m :=
  H.move sm (H.I.ext k) [] (fun _ _ q => nomatch q) fun b o _ _ e => k b o e
theorem LS.kept {s' : Shared} (H : LS w s0 L F s m) (sm : Same s s') (k : Kept (frs [envL L]) s.heap s'.heap) : LS w s0 L F s' m :=
  H.move sm (H.I.after k) [] (fun _ _ q => nomatch q) fun b o n _ e => k.stays b o (by rw [frsL]; exact fun q => n (List.mem_singleton.mp q)) e
theorem LS.tok {k : Tok} (H : LS w s0 L F s m) : LS w s0 L F { s with toks := k } m := ⟨H.I, ⟨H.sm.gens, H.sm.drawn, H.sm.os⟩, H.led, H.off⟩
theorem LS.push (H : LS w s0 L F s m) (o : Obj) : LS w s0 L F { s with heap := s.heap.push o } m := H.ext ⟨rfl, rfl, rfl⟩ fun _ _ e => Heap.get?_push_of_some _ e
theorem LS.store {M : Model} {A' : Around} {x : Str} {v : Value} {Q : Unit → Shared → Prop} (H : LS w s0 L F s m) (h : ∀ s', s.toks ≤ s'.toks → LS w s0 L F s' (upd m x v) → Q () s')
    (hx : (envL L).kindOf x = some .local := by rfl) : wpAny M A' (storeName (envL L) x v) Q E s :=
  wpAny_storeName_local hx H.I.ns (fun h' hn hs => h { s with heap := h', toks := s.toks + 1 } (Nat.le_succ _) (H.move (s' := { s with heap := h', toks := s.toks + 1 }) ⟨rfl, rfl, rfl⟩ (H.I.store hn hs) [] (fun _ _ q => nomatch q) fun b o n _ e => (hs.2 b n).trans e)) (by rfl)
/-- a new thing goes into the ledger -/
theorem LS.add {b : Addr} {o : Obj} (H : LS w s0 L F s m) (e : s.heap.get? b = some o) (hb : b ≠ L) : LS w s0 L ((b, o) :: F) s m :=
  ⟨H.I, H.sm, fun p hp => by
    rcases List.mem_cons.mp hp with q | q
    · subst q; exact e
    · exact H.led p q, fun p hp => by
    rcases List.mem_cons.mp hp with q | q
    · subst q; exact hb
    · exact H.off p q⟩
theorem LS.less {F' : List (Addr × Obj)} (H : LS w s0 L F s m) (h : ∀ p ∈ F', p ∈ F) : LS w s0 L F' s m := ⟨H.I, H.sm, fun p hp => H.led p (h p hp), fun p hp => H.off p (h p hp)⟩
theorem LS.new {b : Addr} (H : LS w s0 L F s m) (e : s.heap.get? b = none) : ∀ p ∈ F, p.1 ≠ b := fun p hp q => by
  have := H.led p hp; rw [q, e] at this; cases this
theorem LS.newL {b : Addr} (H : LS w s0 L F s m) (e : s.heap.get? b = none) : b ≠ L := fun q => by
  obtain ⟨o, es, ep, x1, _⟩ := H.I.ns
  rw [← q, e] at x1; cases x1
theorem LS.cell {c : Addr} {o : Obj} {v : Option Value} (H : LS w s0 L F s m) (hc : (c, o) ∈ F) (hd : o.data = .cell v) : s.heap.IsCell c v := ⟨o, H.led _ hc, hd⟩
/-- what is seen when the frame is left -/
theorem LS.out (H : LS w s0 L F s m) : Same s0 s ∧ Kept [] s0.heap s.heap := ⟨H.sm, H.I.kept⟩
/-- a statement of the law; behind it the order of the drawn names is kept -/
theorem stmtC {M : Model} {A : Around} {env : Env} {T0 : Tok} {st : Stmt} {rest : List Stmt} {Q : Flow → Shared → Prop} (ht : T0 ≤ s.toks)
    (h : wpC M A (exec st env) (fun f s' => T0 ≤ s'.toks → match f with | .next => wpC M A (execs rest env) Q E s' | f => Q f s') (fun e s' => T0 ≤ s'.toks → E e s') s) : wpC M A (execs (st :: rest) env) Q E s :=
  execsC_cons (wpC_with_toks ht h)
theorem live_ledger {h : Heap} (F : List (Addr × Obj)) : ∀ (fp : List Addr), (∀ b ∈ fp, ∃ o, h.get? b = some o) → (∀ b ∈ fp, b ≠ L) → (∀ p ∈ F, h.get? p.1 = some p.2) → (∀ p ∈ F, p.1 ≠ L) →
    ∃ F' : List (Addr × Obj), (∀ p ∈ F, p ∈ F') ∧ (∀ b ∈ fp, ∀ o, h.get? b = some o → (b, o) ∈ F') ∧ (∀ p ∈ F', h.get? p.1 = some p.2) ∧ (∀ p ∈ F', p.1 ≠ L)
  | [], _, _, h1, h2 => ⟨F, fun _ q => q, fun b q => absurd q (by simp), h1, h2⟩
  | b :: fp, hl, hn, h1, h2 => by
    obtain ⟨F', a1, a2, a3, a4⟩ := live_ledger F fp (fun c hc => hl c (.tail _ hc)) (fun c hc => hn c (.tail _ hc)) h1 h2
    obtain ⟨o, ho⟩ := hl b (.head _)
    refine ⟨(b, o) :: F', fun p hp => .tail _ (a1 p hp), fun c hc o' e => ?_, fun p hp => ?_, fun p hp => ?_⟩
    · rcases List.mem_cons.mp hc with q | q
      · subst q; rw [ho] at e; obtain rfl := Option.some.inj e; exact .head _
      · exact .tail _ (a2 c q o' e)
    · rcases List.mem_cons.mp hp with q | q
      · subst q; exact ho
      · exact a3 p q
    · rcases List.mem_cons.mp hp with q | q
      · subst q; exact hn b (.head _)
      · exact a4 p q
/-- a for loop of the law over whatever walks -/
theorem LS.forC {x : Str} {px : Pos} {body : List Stmt} {it : Addr} {fp wr : List Addr} {n : Nat} {P : Nat → Value → Prop} {St : Nat → Heap → Prop} {R : Result → Shared → Prop} {T0 : Tok} (J : Nat → (Str → Option Value) → Prop)
    (H : LS w s0 L F s m) (ht : T0 ≤ s.toks) (W : Walks thePw w (AL L) it fp wr n P St) (st : St 0 s.heap) (hwr : ∀ b ∈ wr, s0.heap.get? b = none ∧ b ≠ L) (hF : ∀ p ∈ F, p.1 ∉ wr) (hfp : L ∉ fp) (live : ∀ i h, St i h → ∀ b ∈ fp, ∃ o, h.get? b = some o) (h0 : J 0 m)
    (step : ∀ i v s' m' F', (∀ p ∈ F, p ∈ F') → T0 ≤ s'.toks → i < n → P i v → J i m' → LS w s0 L F' s' (upd m' x v) →
      wpC (model thePw w) (AL L) (execs body (envL L)) (fun f s₃ => match f with
        | .next | .cont => ∃ m'', LS w s0 L F' s₃ m'' ∧ J (i + 1) m''
        | .brk => R (.ok .next) s₃
        | .ret v => R (.ok (.ret v)) s₃) (fun _ _ => False) s')
    (fin : ∀ s' m', T0 ≤ s'.toks → J n m' → LS w s0 L F s' m' → R (.ok .next) s')
    (hx : (envL L).kindOf x = some .local := by rfl) : codeC (model thePw w) (AL L) (.forLoop (.Name x px) (.ref it) body [] (envL L)) R s := by
  refine codeC_forLoop (fun k s' => ∃ i m', k = n - i ∧ i ≤ n ∧ T0 ≤ s'.toks ∧ St i s'.heap ∧ LS w s0 L F s' m' ∧ J i m') ?_ n ⟨0, m, by omega, Nat.zero_le _, ht, st, H, h0⟩
  rintro k s' ⟨i, m', rfl, hi, ht', st', H', j'⟩
  by_cases hin : i = n
  · subst hin
    refine wpAny_with_toks ht' (W.done _ _ _ st' fun h₂ tk₂ hk ht₂ => ?_)
    exact fin _ m' ht₂ j' (H'.move ⟨rfl, rfl, rfl⟩ (H'.I.touchs hwr hk) wr hF fun b o _ n2 e => hk b o n2 e)
  · refine wpAny_with_toks ht' (W.item i _ _ _ (by omega) st' fun v h₂ tk₂ pv st₂ hk ht₂ => ?_)
    have H₂ : LS w s0 L F { s' with heap := h₂, toks := tk₂ } m' := H'.move ⟨rfl, rfl, rfl⟩ (H'.I.touchs hwr hk) wr hF fun b o _ n2 e => hk b o n2 e
    obtain ⟨F', f1, f2, f3, f4⟩ := live_ledger (L := L) F fp (live _ _ st₂) (fun b hb q => hfp (q ▸ hb)) H₂.led H₂.off
    have H₃ : LS w s0 L F' { s' with heap := h₂, toks := tk₂ } m' := ⟨H₂.I, H₂.sm, f3, f4⟩
    refine wpAny_assign_Name (H₃.store (fun s₄ ht₄ H₄ => ?_) hx)
    have st₄ : St (i + 1) s₄.heap := W.frame _ _ _ st₂ fun b hb o e => H₄.led _ (f2 b hb o e)
    refine wpC_with_toks (n := T0) (Nat.le_trans ht₂ ht₄) ?_
    refine wpC_mono (step i v s₄ m' F' f1 (Nat.le_trans ht₂ ht₄) (by omega) pv j' H₄) (fun f s₅ hf ht₅ => ?_) fun _ _ e _ => e
    have key : (∃ m'', LS w s0 L F' s₅ m'' ∧ J (i + 1) m'') → ∃ k', k' < n - i ∧ ∃ i m', k' = n - i ∧ i ≤ n ∧ T0 ≤ s₅.toks ∧ St i s₅.heap ∧ LS w s0 L F s₅ m' ∧ J i m' := by
      rintro ⟨m₄, H₅, j₅⟩
      exact ⟨n - (i + 1), by omega, i + 1, m₄, rfl, by omega, ht₅, W.frame _ _ _ st₄ fun b hb o e => by
        obtain ⟨o', e'⟩ := live _ _ st₂ b hb
        have e1 := H₄.led _ (f2 b hb o' e')
        rw [e1] at e
        obtain rfl := Option.some.inj e
        exact H₅.led _ (f2 b hb _ e'), H₅.less f1, j₅⟩
    cases f with
    | next => exact key hf
    | cont => exact key hf
    | brk => exact hf
    | ret v => exact hf
end
end Mine
end
/- part M3 -/
section
open PySem PySem.W PyProof.Rows
open Sem (wp)
set_option Elab.async false
set_option maxRecDepth 100000
set_option maxHeartbeats 1000000
namespace Mine
theorem assignInOrder_two {M : Model} {A : Around} {E : Value → Shared → Prop} {s : Shared} {t : Value → Sem Unit} {ts : List (Value → Sem Unit)} {x : Value} {xs : List Value} {Q : Unit → Shared → Prop}
    (h : wpAny M A (t x) (fun _ s₁ => wpAny M A (assignInOrder ts xs) Q E s₁) E s) : wpAny M A (assignInOrder (t :: ts) (x :: xs)) Q E s := by
  show wpAny M A (do holding xs (t x); assignInOrder ts xs) Q E s
  exact wpAny_bind (wpAny_holding h)
theorem assignInOrder_end {M : Model} {A : Around} {E : Value → Shared → Prop} {s : Shared} {Q : Unit → Shared → Prop} (h : Q () s) : wpAny M A (assignInOrder [] []) Q E s := wpAny_pure h
theorem four_of (ns : List Int) : ∃ a b c d, (ns.take 4 ++ [0, 0, 0, 0]).take 4 = [a, b, c, d] ∧ (c = 0 ∨ c ∈ ns) := by
  match ns with
  | [] => exact ⟨0, 0, 0, 0, rfl, .inl rfl⟩
  | [a] => exact ⟨a, 0, 0, 0, rfl, .inl rfl⟩
  | [a, b] => exact ⟨a, b, 0, 0, rfl, .inl rfl⟩
  | [a, b, c] => exact ⟨a, b, c, 0, rfl, .inr (by simp)⟩
  | a :: b :: c :: d :: r => exact ⟨a, b, c, d, rfl, .inr (by simp)⟩
theorem ints_four {vs : List Value} {a b c d : Int} (h : IntsAre vs [a, b, c, d]) : ∃ ta tb tc td, vs = [.int a ta, .int b tb, .int c tc, .int d td] := by
  match h with
  | .cons _ ta (.cons _ tb (.cons _ tc (.cons _ td .nil))) => exact ⟨ta, tb, tc, td, rfl⟩
abbrev lawSt (i : Nat) : Stmt := nth (stmtsOf kf1384) i
section
variable {w : World} {s0 s : Shared} {L l : Addr} {F : List (Addr × Obj)} {m : Str → Option Value} {E : Value → Shared → Prop}
theorem lawS0 {vs : List Value} {ns : List Int} {Q : Flow → Shared → Prop} (H : LS w s0 L F s m) (hm : m "script" = some (.ref l)) (hl : s.heap.IsList l vs.toArray) (hi : IntsAre vs ns) (hlen : ns.length ≤ 63)
    (k : ∀ s' a b c d ta tb tc td, LS w s0 L F s' (upd (upd (upd (upd m "a" (.int a ta)) "b" (.int b tb)) "c" (.int c tc)) "d" (.int d td)) → (c = 0 ∨ c ∈ ns) → Q .next s') :
    wpAny (model thePw w) (AL L) (exec (lawSt 0) (envL L)) Q E s := by
  refine Assign_Tuple ?_ (by rfl) (by rfl)
  refine Subscript_ (wpAny_BinOp (Subscript_ (ldL H.I.ns hm ?_)))
  refine wpAny_Slice (evalPart_none_step (evalPart_some_step (wpAny_Constant_int (evalPart_none_step ?_))))
  have hvl : vs.length = ns.length := ints_len hi
  refine slice_new (s := { s with toks := s.toks + 1 }) hl .none (.int 4 _) (by rw [List.size_toArray, hvl]; exact Nat.le_trans hlen (by decide)) ?_
  intro h1 r1 hy1 _ up1
  have H1 := (H.tok (k := s.toks + 1)).ext (s' := { s with heap := h1, toks := s.toks + 1 }) ⟨rfl, rfl, rfl⟩ up1
  have i1 : IntsAre (slicePick vs.toArray none (some 4) none).toList (ns.take 4) := kmk_upto hi (by decide)
  generalize slicePick vs.toArray none (some 4) none = y1 at hy1 i1
  refine wpAny_List (Calls.spliced_cons (wpAny_Constant_int (k := 0) (pos := default) (Calls.spliced_cons (wpAny_Constant_int (k := 0) (pos := default) (Calls.spliced_cons (wpAny_Constant_int (k := 0) (pos := default) (Calls.spliced_cons (wpAny_Constant_int (k := 0) (pos := default) (Calls.spliced_nil ⟨(by decide : 4 ≤ sizeLine), ?_⟩)))))))))
  have l1 : y1.size ≤ 4 := by rw [← Array.length_toList, ints_len i1, List.length_take]; exact Nat.min_le_left _ _
  refine add_new (hy1.push _) ⟨_, Heap.get?_push_size _ rfl, rfl, _, rfl⟩ (by show y1.size + 4 ≤ sizeLine; exact Nat.le_trans (by omega : y1.size + 4 ≤ 8) (by decide)) ?_
  intro h2 r2 hy2 _ up2
  have up12 : ∀ b o, h1.get? b = some o → h2.get? b = some o := fun b o e => up2 b o (Heap.get?_push_of_some _ e)
  have e2 : (y1 ++ [Value.int 0 (s.toks + 1), .int 0 (s.toks + 1 + 1), .int 0 (s.toks + 1 + 1 + 1), .int 0 (s.toks + 1 + 1 + 1 + 1)].toArray).toList = y1.toList ++ [Value.int 0 (s.toks + 1), .int 0 (s.toks + 1 + 1), .int 0 (s.toks + 1 + 1 + 1), .int 0 (s.toks + 1 + 1 + 1 + 1)] := by simp
  have i2 : IntsAre (y1 ++ [Value.int 0 (s.toks + 1), .int 0 (s.toks + 1 + 1), .int 0 (s.toks + 1 + 1 + 1), .int 0 (s.toks + 1 + 1 + 1 + 1)].toArray).toList (ns.take 4 ++ [0, 0, 0, 0]) := by
    rw [e2]
    exact (((ints_snoc_rev (ints_snoc_rev (ints_snoc_rev (ints_snoc_rev i1 0 (s.toks + 1)) 0 (s.toks + 1 + 1)) 0 (s.toks + 1 + 1 + 1)) 0 (s.toks + 1 + 1 + 1 + 1))) |> fun z => by simpa using z)
  change h2.IsList r2 (y1 ++ [Value.int 0 (s.toks + 1), .int 0 (s.toks + 1 + 1), .int 0 (s.toks + 1 + 1 + 1), .int 0 (s.toks + 1 + 1 + 1 + 1)].toArray) at hy2
  generalize y1 ++ [Value.int 0 (s.toks + 1), .int 0 (s.toks + 1 + 1), .int 0 (s.toks + 1 + 1 + 1), .int 0 (s.toks + 1 + 1 + 1 + 1)].toArray = y2 at hy2 i2
  have l2 : y2.size ≤ 8 := by rw [← Array.length_toList, ints_len i2, List.length_append, List.length_take]; simp; omega
  refine wpAny_Slice (evalPart_none_step (evalPart_some_step (wpAny_Constant_int (evalPart_none_step ?_))))
  have hy2' : h2.IsList r2 y2.toList.toArray := by simpa using hy2
  refine kba_turn (value' := PySem.Expr.Name (PySem.Str.ofString "_") default) (fun _ => rfl) ?_
  refine slice_new (s := { s with heap := h2, toks := s.toks + 1 + 1 + 1 + 1 + 1 + 1 }) hy2' .none (.int 4 _) (by simp; exact Nat.le_trans l2 (by decide)) ?_
  intro h3 r3 hy3 _ up3
  obtain ⟨a, b, c, d, e4, hc⟩ := four_of ns
  have i3 : IntsAre (slicePick y2.toList.toArray none (some 4) none).toList ((ns.take 4 ++ [0, 0, 0, 0]).take 4) := kmk_upto i2 (by decide)
  rw [e4] at i3
  generalize slicePick y2.toList.toArray none (some 4) none = y3 at hy3 i3
  obtain ⟨ta, tb, tc, td, e5⟩ := ints_four i3
  have hs3 : y3.size = 4 := by rw [← Array.length_toList, e5]; rfl
  refine assign_tuple_list H.I.S.hd hy3 (by rw [hs3]; rfl) (by rfl) ?_
  intro h4 tk4 up4
  rw [e5]
  have H4 : LS w s0 L F { s with heap := h4, toks := tk4 } m := H1.ext ⟨rfl, rfl, rfl⟩ fun b o e => up4 b o (up3 b o (up12 b o e))
  refine assignInOrder_two (wpAny_assign_Name (H4.store fun s5 ht5 H5 => ?_))
  refine assignInOrder_two (wpAny_assign_Name (H5.store fun s6 ht6 H6 => ?_))
  refine assignInOrder_two (wpAny_assign_Name (H6.store fun s7 ht7 H7 => ?_))
  refine assignInOrder_two (wpAny_assign_Name (H7.store fun s8 ht8 H8 => ?_))
  exact assignInOrder_end (k s8 a b c d ta tb tc td H8 hc)
theorem LS.setcell {M : Model} {A' : Around} {x : Str} {c : Addr} {o : Obj} {v₀ : Option Value} {v : Value} {Q : Unit → Shared → Prop} (H : LS w s0 L ((c, o) :: F) s m) (hd : o.data = .cell v₀) (hF : ∀ p ∈ F, p.1 ≠ c) (hc0 : s0.heap.get? c = none)
    (hl : (envL L).cells.lookup x = some c) (h : ∀ s' o', s'.toks = s.toks → o'.data = .cell (some v) → LS w s0 L ((c, o') :: F) s' m → Q () s') (hx : (envL L).kindOf x = some .cell := by rfl) : wpAny M A' (storeName (envL L) x v) Q E s := by
  have hcL : c ≠ L := H.off _ (.head _)
  refine wpAny_storeName_cell (by rfl) hx hl (H.cell (.head _) hd) fun h' hc' hs' => ?_
  obtain ⟨o', ho', hd'⟩ := hc'
  have H0 : LS w s0 L F s m := H.less fun p hp => .tail _ hp
  have H1 : LS w s0 L F { s with heap := h' } m := H0.move ⟨rfl, rfl, rfl⟩ (H.I.touch hc0 hcL hs'.extBut) [c] (fun p hp q => hF p hp (List.mem_singleton.mp q)) fun b o _ n e => hs'.extBut b o (fun q => n (List.mem_singleton.mpr q)) e
  exact h _ o' rfl hd' (H1.add ho' hcL)
theorem lawS1 {a b : Int} {ta tb : Tok} {o1 o2 : Obj} {Q : Flow → Shared → Prop} (H : LS w s0 L ((L + 1, o1) :: (L + 2, o2) :: F) s m) (ha : m "a" = some (.int a ta)) (hb : m "b" = some (.int b tb)) (d1 : o1.data = .cell none) (d2 : o2.data = .cell none)
    (hF1 : ∀ p ∈ F, p.1 ≠ L + 1 ∧ p.1 ≠ L + 2) (n1 : s0.heap.get? (L + 1) = none) (n2 : s0.heap.get? (L + 2) = none)
    (k : ∀ s' o1 o2 one many t1 t2, (1 ≤ one ∧ one ≤ 16) → (1 ≤ many ∧ many ≤ 8) → o1.data = .cell (some (.int ((one : Nat) : Int) t1)) → o2.data = .cell (some (.int ((many : Nat) : Int) t2)) → LS w s0 L ((L + 1, o1) :: (L + 2, o2) :: F) s' m → Q .next s') :
    wpAny (model thePw w) (AL L) (exec (lawSt 1) (envL L)) Q E s := by
  refine Assign_Tuple ?_ (by rfl) (by rfl)
  refine wpAny_Tuple ?_
  refine Calls.spliced_cons (wpAny_BinOp (wpAny_Constant_int (k := 0) (pos := default) (wpAny_BinOp (ldL H.I.ns ha (wpAny_Constant_int (mod_int' (by decide) ?_))))))
  refine P.add_int ?_
  refine Calls.spliced_cons (wpAny_BinOp (wpAny_Constant_int (k := 0) (pos := default) (wpAny_BinOp (ldL H.I.ns hb (wpAny_Constant_int (mod_int' (by decide) ?_))))))
  refine P.add_int ?_
  refine Calls.spliced_nil ⟨(by decide : 2 ≤ sizeLine), ?_⟩
  refine wpAny_assign_Tuple H.I.S.hd ⟨_, Heap.get?_push_size _ rfl, rfl, _, rfl⟩ (by rfl) (by rfl) ?_
  intro h' ex
  have H1 : LS w s0 L ((L + 1, o1) :: (L + 2, o2) :: F) { s with heap := h' } m := H.ext ⟨rfl, rfl, rfl⟩ fun b o e => ex b o (Nat.ne_of_lt (Heap.lt_size (Heap.get?_push_of_some _ e))) (Heap.get?_push_of_some _ e)
  have ra := Int.fmod_nonneg_of_pos a (by decide : (0 : Int) < 16)
  have rb := Int.fmod_lt_of_pos a (by decide : (0 : Int) < 16)
  have rc := Int.fmod_nonneg_of_pos b (by decide : (0 : Int) < 8)
  have rd := Int.fmod_lt_of_pos b (by decide : (0 : Int) < 8)
  refine assignInOrder_two (wpAny_assign_Name ((H1.tok).setcell d1 (fun p hp => ?_) n1 (by rfl) fun s2 o1' _ e1 H2 => ?_))
  · rcases List.mem_cons.mp hp with q | q
    · subst q; exact Nat.ne_of_gt (Nat.lt_succ_self _)
    · exact (hF1 p q).1
  have H3 : LS w s0 L ((L + 2, o2) :: (L + 1, o1') :: F) s2 m := H2.less fun p hp => by
    simp only [List.mem_cons] at hp ⊢
    rcases hp with q | q | q
    · exact .inr (.inl q)
    · exact .inl q
    · exact .inr (.inr q)
  refine assignInOrder_two (wpAny_assign_Name (H3.setcell d2 (fun p hp => ?_) n2 (by rfl) fun s3 o2' _ e2 H4 => ?_))
  · rcases List.mem_cons.mp hp with q | q
    · subst q; exact Nat.ne_of_lt (Nat.lt_succ_self _)
    · exact (hF1 p q).2
  refine assignInOrder_end (k s3 o1' o2' (1 + a.fmod 16).toNat (1 + b.fmod 8).toNat _ _ ⟨by omega, by omega⟩ ⟨by omega, by omega⟩ (e1.trans (congrArg (fun z => Data.cell (some (Value.int z _))) (Int.toNat_of_nonneg (by omega)).symm)) (e2.trans (congrArg (fun z => Data.cell (some (Value.int z _))) (Int.toNat_of_nonneg (by omega)).symm)) ?_)
  · exact H4.less fun p hp => by
      simp only [List.mem_cons] at hp ⊢
      rcases hp with q | q | q
      · exact .inr (.inl q)
      · exact .inl q
      · exact .inr (.inr q)
/-- the separators -/
def sepOk (x : Str) : Prop := x = Str.ofString "" ∨ x = ⟨#[46]⟩ ∨ x = ⟨#[58]⟩ ∨ x = ⟨#[45]⟩
theorem lawS2 {one many : Nat} {t1 t2 : Tok} {o1 o2 : Obj} {Q : Flow → Shared → Prop} (H : LS w s0 L F s m) (c1 : (L + 1, o1) ∈ F) (c2 : (L + 2, o2) ∈ F) (d1 : o1.data = .cell (some (.int (one : Int) t1))) (d2 : o2.data = .cell (some (.int (many : Int) t2))) (h1 : one ≤ 16) (h2 : many ≤ 8)
    (k : ∀ s' t, LS w s0 L F s' (upd m "digits" (.int ((one * many : Nat) : Int) t)) → Q .next s') : wpAny (model thePw w) (AL L) (exec (lawSt 2) (envL L)) Q E s := by
  refine wpAny_Assign_Name ?_ (by rfl)
  refine wpAny_BinOp (ldC (H.cell c1 d1) (by rfl) (ldC (H.cell c2 d2) (by rfl) ?_))
  refine P.mul_int ?_ (IntMulOk.of_left (intBits_le_64 (by omega) (by omega)))
  refine (H.tok).store fun s' _ H' => ?_
  rw [show ((one : Int) * (many : Int)) = ((one * many : Nat) : Int) by push_cast; rfl] at H'
  exact k _ _ H'
theorem lawS3 {dg : Nat} {t : Tok} {Q : Flow → Shared → Prop} (H : LS w s0 L F s m) (hd : m "digits" = some (.int (dg : Int) t)) (h1 : dg ≤ 128)
    (k : ∀ s' t, 0 < s'.toks → LS w s0 L F s' (upd m "top" (.int (2 ^ dg) t)) → Q .next s') : wpAny (model thePw w) (AL L) (exec (lawSt 3) (envL L)) Q E s := by
  refine wpAny_Assign_Name ?_ (by rfl)
  refine wpAny_BinOp (wpAny_Constant_int (ldL H.I.ns hd ?_))
  refine pow_int_small (Int.natCast_nonneg _) (by omega) (by decide) ?_
  rw [Int.toNat_natCast]
  refine (H.tok).store fun s' ht H' => ?_
  exact k _ _ (Nat.lt_of_lt_of_le (Nat.zero_lt_succ _) ht) H'
theorem lawS4 {a : Int} {ta : Tok} {Q : Flow → Shared → Prop} (H : LS w s0 L F s m) (ha : m "a" = some (.int a ta)) (ht : 0 < s.toks)
    (k : ∀ s' sep u, sepOk sep → 0 < u → u < s'.toks → LS w s0 L F s' (upd m "mark" (.str sep u)) → Q .next s') : wpAny (model thePw w) (AL L) (exec (lawSt 4) (envL L)) Q E s := by
  refine wpAny_Assign_Name ?_ (by rfl)
  refine Subscript_ ?_
  refine wpAny_List (Calls.spliced_cons (wpAny_Constant_str (k := 0) (pos := default) (Calls.spliced_cons (wpAny_Constant_str (k := 0) (pos := default) (Calls.spliced_cons (wpAny_Constant_str (k := 0) (pos := default) (Calls.spliced_cons (wpAny_Constant_str (k := 0) (pos := default) (Calls.spliced_nil ⟨(by decide : 4 ≤ sizeLine), ?_⟩)))))))))
  refine wpAny_BinOp (wpAny_BinOp (ldL (H.I.ns.keeps fun _ _ e => Heap.get?_push_of_some _ e) ha (wpAny_Constant_int (floordiv_int (by decide) ?_))))
  refine wpAny_Constant_int (mod_int' (by decide) ?_)
  have r0 := Int.fmod_nonneg_of_pos (a.fdiv 16) (by decide : (0 : Int) < 4)
  have r1 := Int.fmod_lt_of_pos (a.fdiv 16) (by decide : (0 : Int) < 4)
  generalize (a.fdiv 16).fmod 4 = j at r0 r1
  refine kba_turn (value' := PySem.Expr.Name (PySem.Str.ofString "_") default) (fun _ => rfl) ?_
  have lt0 : s.toks < s.toks + 1 + 1 + 1 + 1 + 1 + 1 + 1 + 1 := by omega
  have lt1 : s.toks + 1 < s.toks + 1 + 1 + 1 + 1 + 1 + 1 + 1 + 1 := by omega
  have lt2 : s.toks + 1 + 1 < s.toks + 1 + 1 + 1 + 1 + 1 + 1 + 1 + 1 := by omega
  have lt3 : s.toks + 1 + 1 + 1 < s.toks + 1 + 1 + 1 + 1 + 1 + 1 + 1 + 1 := by omega
  rcases (by omega : j = 0 ∨ j = 1 ∨ j = 2 ∨ j = 3) with rfl | rfl | rfl | rfl
  · refine tail_any (Heap.IsList.typeIs ⟨_, Heap.get?_push_size _ rfl, rfl, _, rfl⟩) slot_list_getitem.lookup (wpAny_getItem_list ⟨_, Heap.get?_push_size _ rfl, rfl, _, rfl⟩ (by decide) (by decide) (by rfl) ?_) (by with_unfolding_all rfl)
    refine LS.store (H.ext ⟨rfl, rfl, rfl⟩ fun _ _ e => Heap.get?_push_of_some _ e) fun s' hts H' => ?_
    exact k _ _ _ (.inl rfl) (ht) (Nat.lt_of_lt_of_le lt0 hts) H'
  · refine tail_any (Heap.IsList.typeIs ⟨_, Heap.get?_push_size _ rfl, rfl, _, rfl⟩) slot_list_getitem.lookup (wpAny_getItem_list ⟨_, Heap.get?_push_size _ rfl, rfl, _, rfl⟩ (by decide) (by decide) (by rfl) ?_) (by with_unfolding_all rfl)
    refine LS.store (H.ext ⟨rfl, rfl, rfl⟩ fun _ _ e => Heap.get?_push_of_some _ e) fun s' hts H' => ?_
    exact k _ _ _ (.inr (.inl (by decide +kernel))) (Nat.zero_lt_succ _) (Nat.lt_of_lt_of_le lt1 hts) H'
  · refine tail_any (Heap.IsList.typeIs ⟨_, Heap.get?_push_size _ rfl, rfl, _, rfl⟩) slot_list_getitem.lookup (wpAny_getItem_list ⟨_, Heap.get?_push_size _ rfl, rfl, _, rfl⟩ (by decide) (by decide) (by rfl) ?_) (by with_unfolding_all rfl)
    refine LS.store (H.ext ⟨rfl, rfl, rfl⟩ fun _ _ e => Heap.get?_push_of_some _ e) fun s' hts H' => ?_
    exact k _ _ _ (.inr (.inr (.inl (by decide +kernel)))) (Nat.zero_lt_succ _) (Nat.lt_of_lt_of_le lt2 hts) H'
  · refine tail_any (Heap.IsList.typeIs ⟨_, Heap.get?_push_size _ rfl, rfl, _, rfl⟩) slot_list_getitem.lookup (wpAny_getItem_list ⟨_, Heap.get?_push_size _ rfl, rfl, _, rfl⟩ (by decide) (by decide) (by rfl) ?_) (by with_unfolding_all rfl)
    refine LS.store (H.ext ⟨rfl, rfl, rfl⟩ fun _ _ e => Heap.get?_push_of_some _ e) fun s' hts H' => ?_
    exact k _ _ _ (.inr (.inr (.inr (by decide +kernel)))) (Nat.zero_lt_succ _) (Nat.lt_of_lt_of_le lt3 hts) H'
end
end Mine
end
/- part M4 -/
section
open PySem PySem.W PyProof.Rows
open Sem (wp)
set_option Elab.async false
set_option maxRecDepth 100000
set_option maxHeartbeats 1000000
namespace Mine
theorem log2_small {n : Nat} (h : n < 2 ^ 129) : n.log2 ≤ 1048600 := by
  by_cases h0 : n = 0
  · subst h0; decide
  · have := (Nat.log2_lt h0).mpr h
    omega
section
variable {w : World} {s0 s : Shared} {L l : Addr} {F : List (Addr × Obj)} {m : Str → Option Value} {E : Value → Shared → Prop}
theorem lawS5 {c d : Int} {dg : Nat} {tc td tt : Tok} {o3 : Obj} {Q : Flow → Shared → Prop} (H : LS w s0 L ((L + 3, o3) :: F) s m) (hc : m "c" = some (.int c tc)) (hd : m "d" = some (.int d td)) (htop : m "top" = some (.int (2 ^ dg) tt)) (d3 : o3.data = .cell none) (hdg : dg ≤ 128) (hcl : c.natAbs.log2 ≤ 1048600)
    (hF : ∀ p ∈ F, p.1 ≠ L + 3) (n3 : s0.heap.get? (L + 3) = none)
    (k : ∀ s' o3 N t, N.natAbs.log2 ≤ 1048600 → s.toks ≤ s'.toks → o3.data = .cell (some (.int N t)) → LS w s0 L ((L + 3, o3) :: F) s' m → Q .next s') : wpAny (model thePw w) (AL L) (exec (lawSt 5) (envL L)) Q E s := by
  have p2 : (0 : Int) < 2 ^ dg := Int.pow_pos (by decide)
  have p3 : (2 : Int) ^ dg ≤ 2 ^ 128 := by
    have := Nat.pow_le_pow_right (n := 2) (by decide) hdg
    exact_mod_cast this
  have fin : ∀ s1 N t, N.natAbs.log2 ≤ 1048600 → s.toks ≤ s1.toks → s1.heap = s.heap → Same s s1 → wpAny (model thePw w) (AL L) (storeName (envL L) "number" (.int N t)) (fun _ => Q .next) E s1 := by
    intro s1 N t hN ht1 hh sm
    have H1 : LS w s0 L ((L + 3, o3) :: F) s1 m := H.ext sm (by rw [hh]; exact fun _ _ e => e)
    exact H1.setcell d3 hF n3 (by rfl) fun s2 o' ht e H2 => k s2 o' N t hN (by rw [ht]; exact ht1) e H2
  refine wpAny_Assign_Name ?_ (by rfl)
  refine wpAny_IfExp (wpAny_isTrue_Compare1 ?_)
  refine wpAny_BinOp (ldL H.I.ns hd (wpAny_Constant_int (mod_int' (by decide) ?_)))
  refine wpAny_Constant_int (P.eq_int (wpAny_truthy_bool ?_))
  cases h3 : (d.fmod 4 == 3) with
  | true =>
    refine ldL H.I.ns hc ?_
    refine fin _ _ _ hcl ?_ ?_ ?_
    · exact Nat.le_succ_of_le (Nat.le_succ_of_le (Nat.le_succ _))
    · rfl
    · exact ⟨rfl, rfl, rfl⟩
  | false =>
    show wpAny (model thePw w) (AL L) (eval (.IfExp _ _ _ _) (envL L)) _ _ _
    refine wpAny_IfExp (wpAny_isTrue_Compare1 ?_)
    refine wpAny_BinOp (ldL H.I.ns hd (wpAny_Constant_int (mod_int' (by decide) ?_)))
    refine wpAny_Constant_int (P.eq_int (wpAny_truthy_bool ?_))
    cases h2 : (d.fmod 4 == 2) with
    | true =>
      show wpAny (model thePw w) (AL L) (eval (.BinOp _ _ _ _) (envL L)) _ _ _
      refine wpAny_BinOp (wpAny_BinOp (ldL H.I.ns htop (wpAny_Constant_int (P.sub_int ?_))))
      refine wpAny_BinOp (ldL H.I.ns hc (wpAny_Constant_int (mod_int' (by decide) ?_)))
      refine P.add_int ?_
      have r0 := Int.fmod_nonneg_of_pos c (by decide : (0 : Int) < 2)
      have r1 := Int.fmod_lt_of_pos c (by decide : (0 : Int) < 2)
      refine fin _ _ _ (log2_small ?_) ?_ ?_ ?_
      · have : (2 : Int) ^ 128 < 2 ^ 129 := by decide
        have e : ((2 : Int) ^ dg - 1 + c.fmod 2).natAbs < ((2 ^ 129 : Nat)) := by
          have e1 : ((((2 : Int) ^ dg - 1 + c.fmod 2).natAbs : Nat) : Int) < 2 ^ 129 := by rw [Int.natAbs_of_nonneg (by omega)]; omega
          exact_mod_cast e1
        exact e
      · repeat (first | exact Nat.le_refl _ | refine Nat.le_succ_of_le ?_)
      · rfl
      · exact ⟨rfl, rfl, rfl⟩
    | false =>
      show wpAny (model thePw w) (AL L) (eval (.BinOp _ _ _ _) (envL L)) _ _ _
      refine wpAny_BinOp (ldL H.I.ns hc (ldL H.I.ns htop (mod_int' (by omega) ?_)))
      have r0 := Int.fmod_nonneg_of_pos c p2
      have r1 := Int.fmod_lt_of_pos c p2
      refine fin _ _ _ (log2_small ?_) ?_ ?_ ?_
      · have : (2 : Int) ^ 128 < 2 ^ 129 := by decide
        have e1 : (((c.fmod (2 ^ dg)).natAbs : Nat) : Int) < 2 ^ 129 := by rw [Int.natAbs_of_nonneg r0]; omega
        exact_mod_cast e1
      · repeat (first | exact Nat.le_refl _ | refine Nat.le_succ_of_le ?_)
      · rfl
      · exact ⟨rfl, rfl, rfl⟩
end
end Mine
end
/- part M5 -/
section
open PySem PySem.W PyProof.Rows
open Sem (wp)
set_option Elab.async false
set_option maxRecDepth 100000
set_option maxHeartbeats 1000000
namespace Mine
/-- what the law knows behind its first statements -/
structure Scene (L l : Addr) (F : List (Addr × Obj)) (m : Str → Option Value) (one many : Nat) (N dv : Int) (sep : Str) (u T0 : Tok) : Prop where
  c1 : ∃ o t, (L + 1, o) ∈ F ∧ o.data = .cell (some (.int (one : Int) t))
  c2 : ∃ o t, (L + 2, o) ∈ F ∧ o.data = .cell (some (.int (many : Int) t))
  c3 : ∃ o t, (L + 3, o) ∈ F ∧ o.data = .cell (some (.int N t))
  h1 : 1 ≤ one ∧ one ≤ 16
  h2 : 1 ≤ many ∧ many ≤ 8
  hN : N.natAbs.log2 ≤ 1048600
  hs : sepOk sep
  u0 : 0 < u
  uT : u < T0
  script : m "script" = some (.ref l)
  dd : ∃ t, m "d" = some (.int dv t)
  dg : ∃ t, m "digits" = some (.int ((one * many : Nat) : Int) t)
  top : ∃ t, m "top" = some (.int (2 ^ (one * many)) t)
  mrk : m "mark" = some (.str sep u)
abbrev sceneNames : List Str := ["script", "d", "digits", "top", "mark"]
theorem Scene.keep {L l : Addr} {F F' : List (Addr × Obj)} {m m' : Str → Option Value} {one many : Nat} {N dv : Int} {sep : Str} {u T0 : Tok} (S : Scene L l F m one many N dv sep u T0) (hF : ∀ p ∈ F, p ∈ F') (hm : ∀ x ∈ sceneNames, m' x = m x) : Scene L l F' m' one many N dv sep u T0 where
  c1 := let ⟨o, t, a, b⟩ := S.c1; ⟨o, t, hF _ a, b⟩
  c2 := let ⟨o, t, a, b⟩ := S.c2; ⟨o, t, hF _ a, b⟩
  c3 := let ⟨o, t, a, b⟩ := S.c3; ⟨o, t, hF _ a, b⟩
  h1 := S.h1
  h2 := S.h2
  hN := S.hN
  hs := S.hs
  u0 := S.u0
  uT := S.uT
  script := (hm _ (by decide)).trans S.script
  dd := let ⟨t, a⟩ := S.dd; ⟨t, (hm _ (by decide)).trans a⟩
  dg := let ⟨t, a⟩ := S.dg; ⟨t, (hm _ (by decide)).trans a⟩
  top := let ⟨t, a⟩ := S.top; ⟨t, (hm _ (by decide)).trans a⟩
  mrk := (hm _ (by decide)).trans S.mrk
theorem Scene.upd {L l : Addr} {F : List (Addr × Obj)} {m : Str → Option Value} {one many : Nat} {N dv : Int} {sep : Str} {u T0 : Tok} {x : Str} {v : Value} (S : Scene L l F m one many N dv sep u T0) (hx : x ∉ sceneNames) : Scene L l F (Mine.upd m x v) one many N dv sep u T0 :=
  S.keep (fun _ h => h) fun y hy => upd_ne fun q => hx (q ▸ hy)
theorem Scene.dgl {L l : Addr} {F : List (Addr × Obj)} {m : Str → Option Value} {one many : Nat} {N dv : Int} {sep : Str} {u T0 : Tok} (S : Scene L l F m one many N dv sep u T0) : 1 ≤ one * many ∧ one * many ≤ 128 :=
  ⟨Nat.mul_pos S.h1.1 S.h2.1, Nat.mul_le_mul S.h1.2 S.h2.2⟩
section
variable {w : World} {s0 : Shared} {l : Addr} {E : Value → Shared → Prop}
abbrev LQ (Q : Value → Shared → Prop) : Flow → Shared → Prop := fun fl s' => Q (match fl with | .ret v => v | _ => .none) s'
abbrev LE (w : World) (L : Addr) (E : Value → Shared → Prop) : Value → Shared → Prop := leaveE w callerA (envL L) E
theorem lawA {vs : List Value} {ns : List Int} {Q : Value → Shared → Prop} (S : Sit w 0 callerA [] s0.heap) (hl : s0.heap.IsList l vs.toArray) (hi : IntsAre vs ns) (hlen : ns.length ≤ 63) (hbits : ∀ n ∈ ns, n.natAbs.log2 ≤ 1048600)
    (k : ∀ s L F m one many N dv sep u T0, T0 ≤ s.toks → LS w s0 L F s m → Scene L l F m one many N dv sep u T0 → wpC (model thePw w) (AL L) (execs ((stmtsOf kf1384).drop 6) (envL L)) (LQ Q) (LE w L E) s) :
    wpC (model thePw w) callerA (call (.ref 1384) [.ref l]) Q E s0 := by
  refine callFC_cells [("script", .ref l)] S (by decide) (o := kf1384) rfl rfl rfl rfl rfl rfl rfl ⟨1383, _, _, _, rfl, rfl, rfl, rfl⟩ (.of_eq (by rfl)) (List.forall_mem_cons.mpr ⟨.inl (by rfl), fun _ h => by cases h⟩) ?_
  intro s1 L hL sm1 I1 C up1
  have fresh : ∀ j, s0.heap.get? (L + j) = none := fun j => Heap.get?_none_of_le (by rw [hL]; exact Nat.le_add_right _ _)
  obtain ⟨⟨o1, g1, d1⟩, _⟩ := C.1 "one" (L + 1) (by rfl)
  obtain ⟨⟨o2, g2, d2⟩, _⟩ := C.1 "many" (L + 2) (by rfl)
  obtain ⟨⟨o3, g3, d3⟩, _⟩ := C.1 "number" (L + 3) (by rfl)
  have H1 : LS w s0 L [(L + 1, o1), (L + 2, o2), (L + 3, o3)] s1 (bindL (envL L).kindOf [("script", .ref l)] fun _ => none) := by
    refine ⟨I1, sm1, fun p hp => ?_, fun p hp => ?_⟩
    · simp only [List.mem_cons, List.not_mem_nil, or_false] at hp
      rcases hp with q | q | q <;> subst q <;> assumption
    · simp only [List.mem_cons, List.not_mem_nil, or_false] at hp
      rcases hp with q | q | q <;> subst q <;> exact Nat.ne_of_gt (Nat.lt_add_of_pos_right (by decide))
  show wpC (model thePw w) (AL L) (execs (lawSt 0 :: lawSt 1 :: lawSt 2 :: lawSt 3 :: lawSt 4 :: lawSt 5 :: (stmtsOf kf1384).drop 6) (envL L)) _ _ _
  refine execsC_cons (wpC_any (lawS0 H1 (by rfl) (H1.I.kept.isList hl) hi hlen ?_))
  intro s2 a b c d ta tb tc td H2 hc
  refine execsC_cons (wpC_any (lawS1 (F := [(L + 3, o3)]) H2 rfl rfl d1 d2 (fun p hp => ?_) (fresh 1) (fresh 2) ?_))
  · obtain rfl := List.mem_singleton.mp hp
    exact ⟨by simp, by simp⟩
  intro s3 o1' o2' one many t1 t2 h1 h2 e1 e2 H3
  refine execsC_cons (wpC_any (lawS2 H3 (.head _) (.tail _ (.head _)) e1 e2 h1.2 h2.2 ?_))
  intro s4 tdg H4
  have hdg : one * many ≤ 128 := Nat.mul_le_mul h1.2 h2.2
  refine execsC_cons (wpC_any (lawS3 H4 rfl hdg ?_))
  intro s5 ttop ht5 H5
  refine execsC_cons (wpC_any (lawS4 H5 rfl ht5 ?_))
  intro s6 sep u hsep hu0 hu6 H6
  have H6' : LS w s0 L ((L + 3, o3) :: (L + 1, o1') :: (L + 2, o2') :: []) s6 _ := H6.less fun p hp => by
    simp only [List.mem_cons, List.not_mem_nil, or_false] at hp ⊢
    rcases hp with q | q | q
    · exact .inr (.inr q)
    · exact .inl q
    · exact .inr (.inl q)
  have hcl : c.natAbs.log2 ≤ 1048600 := by
    rcases hc with q | q
    · subst q; decide
    · exact hbits c q
  refine execsC_cons (wpC_any (lawS5 H6' rfl rfl rfl d3 hdg hcl (fun p hp => ?_) (fresh 3) ?_))
  · simp only [List.mem_cons, List.not_mem_nil, or_false] at hp
    rcases hp with q | q <;> subst q <;> simp
  intro s7 o3' N tN hN ht7 e3 H7
  refine k s7 L _ _ one many N d sep u s6.toks ht7 H7 ⟨⟨_, _, .tail _ (.head _), e1⟩, ⟨_, _, .tail _ (.tail _ (.head _)), e2⟩, ⟨_, _, .head _, e3⟩, h1, h2, hN, hsep, hu0, hu6, rfl, ⟨_, rfl⟩, ⟨_, rfl⟩, ⟨_, rfl⟩, rfl⟩
end
end Mine
end
/- part M6 -/
section
open PySem PySem.W PyProof.Rows
open Sem (wp)
set_option Elab.async false
set_option maxRecDepth 100000
set_option maxHeartbeats 1000000
namespace Mine
section
variable {w : World} {d : Nat} {A : Around} {outer : List Env} {env : Env} {h₀ h h' : Heap} {L : Addr} {m m' : Str → Option Value}
/-- the frame's namespace is turned, and things of the frame's own -/
theorem In.renew (I : In w d A outer env h₀ L h m) {T : List Addr} (hT : ∀ b ∈ T, h₀.get? b = none) (hn : h'.Ns L m') (k : ∀ b o, b ≠ L → b ∉ T → h.get? b = some o → h'.get? b = some o) : In w d A outer env h₀ L h' m' := by
  have off : ∀ b o, h₀.get? b = some o → b ≠ L ∧ b ∉ T := fun b o e => ⟨I.ne e, fun q => by rw [hT b q] at e; cases e⟩
  have k1 : Kept (frs outer) h₀ h' := ⟨fun b o n e => k b o (off b o e).1 (off b o e).2 (I.kept.stays b o n e), fun b o e nf => by
    obtain ⟨sl, q⟩ := I.kept.slots b o e nf
    exact ⟨sl, k b _ (off b o e).1 (off b o e).2 q⟩⟩
  refine ⟨I.S0, ⟨I.S.hd, I.S.st, fun env' he => ?_, I.S.dp, I.S.un, I.S0.ok.kept I.S0.hi k1⟩, k1, I.new, hn, I.loc⟩
  obtain ⟨a, L', o, es, n, e1, e2, e3, e4⟩ := I.S.fr env' he
  by_cases q : L' = L
  · subst q
    obtain ⟨o', es', ep, x1, x2, _⟩ := hn
    exact ⟨a, L', o', es', ep, e1, x1, x2, e4⟩
  · rcases List.mem_cons.mp he with r | r
    · subst r
      rw [I.loc] at e1
      exact absurd (Option.some.inj e1).symm q
    · obtain ⟨_, L2, o2, es2, n2, f1, f2, _⟩ := I.S0.fr env' r
      rw [e1] at f1
      obtain rfl := Option.some.inj f1
      exact ⟨a, L', o, es, n, e1, k L' o q (off _ _ f2).2 e2, e3, e4⟩
end
section
variable {w : World} {s0 s : Shared} {L l : Addr} {F : List (Addr × Obj)} {m m' : Str → Option Value} {E : Value → Shared → Prop}
theorem LS.comp {s' : Shared} (H : LS w s0 L F s m) (sm : Same s s') {T : List Addr} (hT : ∀ b ∈ T, s0.heap.get? b = none) (hF : ∀ p ∈ F, p.1 ∉ T) (hn : s'.heap.Ns L m') (k : ∀ b o, b ≠ L → b ∉ T → s.heap.get? b = some o → s'.heap.get? b = some o) : LS w s0 L F s' m' :=
  H.move sm (H.I.renew hT hn k) T hF k
theorem paired_map {F : Value → Value → Prop} {g : Int → Int} (hF : ∀ n t y, F (.int n t) y → ∃ t', y = .int (g n) t') : ∀ {vs ys : List Value} {ns : List Int}, IntsAre vs ns → Paired F vs ys → IntsAre ys (ns.map g)
  | _, _, _, .nil, .nil => .nil
  | _, _, _, .cons n t r, .cons h q => by
    obtain ⟨t', rfl⟩ := hF n t _ h
    exact .cons _ _ (paired_map hF r q)
theorem items_all {items : Array Value} {vs : List Value} (hl : vs.length = items.size) (hP : ∀ (j : Nat) (v : Value), vs[j]? = some v → items[j]? = some v) : vs = items.toList := by
  apply List.ext_getElem?
  intro j
  by_cases hj : j < vs.length
  · rw [List.getElem?_eq_getElem hj, Array.getElem?_toList]
    exact (hP j _ (List.getElem?_eq_getElem hj)).symm
  · rw [List.getElem?_eq_none (by omega), List.getElem?_eq_none (by rw [Array.length_toList]; omega)]
/-- the words that the law asks about -/
def askWord (one : Nat) (n : Int) : Int := if n.fmod 7 = 6 then n else n.fmod (2 ^ one + 1)
theorem lawS7 {vs : List Value} {ns : List Int} {one many : Nat} {N dv : Int} {sep : Str} {u T0 : Tok} {Q : Flow → Shared → Prop} (H : LS w s0 L F s m) (Sc : Scene L l F m one many N dv sep u T0) (hl : s0.heap.IsList l vs.toArray) (hi : IntsAre vs ns) (hlen : ns.length ≤ 63)
    (k : ∀ s' F' m' D (ys : Array Value) (ws : List Int), (∀ p ∈ F, p ∈ F') → LS w s0 L F' s' m' → Scene L l F' m' one many N dv sep u T0 → m' "words" = some (.ref D) → (∃ o, (D, o) ∈ F' ∧ o.cls = .type "list" ∧ ∃ n, o.data = .seq ys n) → IntsAre ys.toList ws → ws.length ≤ 63 → Q .next s') :
    wpAny (model thePw w) (AL L) (exec (lawSt 7) (envL L)) Q E s := by
  obtain ⟨o1, t1, c1, d1⟩ := Sc.c1
  obtain ⟨o2, t2, c2, d2⟩ := Sc.c2
  obtain ⟨td, hd⟩ := Sc.dd
  have h2 := Sc.h2
  refine wpAny_Assign_ListComp_free (cl := [("one", L + 1)]) (fun _ => true) (fun v y => ∃ n t t', v = .int n t ∧ y = .int (askWord one n) t') (by rfl) (by rfl) (by decide) (by rfl) (by decide) (by rfl) (by rfl) (by rfl) ?_
  refine Subscript_ (ldL H.I.ns Sc.script ?_)
  refine wpAny_Slice (evalPart_some_step (wpAny_Constant_int (evalPart_some_step ?_)))
  refine wpAny_BinOp (wpAny_BinOp (wpAny_Constant_int (ldC (H.cell c2 d2) (by rfl) (P.add_int ?_))))
  refine wpAny_mono (Q := fun v s₁ => ∃ e te, v = .int e te ∧ 0 ≤ e ∧ e ≤ 1 ∧ s₁.heap = s.heap ∧ Same s s₁) ?_ ?_ (fun _ _ e => e)
  · refine wpAny_IfExp (wpAny_isTrue_Compare1 ?_)
    refine wpAny_BinOp (ldL H.I.ns hd (wpAny_Constant_int (mod_int' (by decide) ?_)))
    refine wpAny_Constant_int (P.eq_int (wpAny_truthy_bool ?_))
    cases (dv.fmod 8 == 5) with
    | true => exact wpAny_Constant_int ⟨1, _, rfl, by decide, by decide, rfl, ⟨rfl, rfl, rfl⟩⟩
    | false => exact wpAny_Constant_int ⟨0, _, rfl, by decide, by decide, rfl, ⟨rfl, rfl, rfl⟩⟩
  rintro v s₁ ⟨e, te, rfl, e0, e1, hh, sm1⟩
  have H1 : LS w s0 L F s₁ m := H.ext sm1 (by rw [hh]; exact fun _ _ e => e)
  refine P.add_int ?_
  refine evalPart_none_step ?_
  have hl1 : s₁.heap.IsList l vs.toArray := H1.I.kept.isList hl
  have hvl : vs.length = ns.length := ints_len hi
  refine slice_new (s := { s₁ with toks := s₁.toks + 1 }) hl1 (.int 2 _) (.int _ _) (by rw [List.size_toArray, hvl]; exact Nat.le_trans hlen (by decide)) ?_
  intro h2' r hr hrn up2
  have i2 := kmk_run hi (x := 2) (y := 2 + (many : Int) + e) (by decide) (by omega)
  have hws : ((ns.drop (2 : Int).toNat).take (min (2 + (many : Int) + e).toNat ns.length - (2 : Int).toNat)).length ≤ 63 := by
    rw [List.length_take, List.length_drop]
    omega
  generalize (ns.drop (2 : Int).toNat).take (min (2 + (many : Int) + e).toNat ns.length - (2 : Int).toNat) = ws0 at i2 hws
  generalize slicePick vs.toArray (some 2) (some (2 + (many : Int) + e)) none = xs at hr i2
  have H2 : LS w s0 L F { s₁ with heap := h2', toks := s₁.toks + 1 } m := (H1.tok).ext ⟨rfl, rfl, rfl⟩ up2
  refine wpAny_pyIter_list hr ?_
  have H3 := H2.push { cls := .type "list_iterator", data := .fields #[.ref r, .int 0 0] }
  have hri : r ≠ h2'.objs.size := Nat.ne_of_lt (isList_lt hr)
  have hin : h2'.get? h2'.objs.size = none := Heap.get?_none_of_le (Nat.le_refl _)
  have hi0 : s0.heap.get? h2'.objs.size = none := H2.I.freshS
  have hiL : h2'.objs.size ≠ L := H2.I.Lne
  have hF3 : ∀ p ∈ F, p.1 ≠ h2'.objs.size := H2.new hin
  have cO : ∀ s₃ : Shared, (∀ b o, b ∉ [h2'.objs.size] → (h2'.push { cls := .type "list_iterator", data := .fields #[.ref r, .int 0 0] }).get? b = some o → s₃.heap.get? b = some o) → s₃.heap.IsCell (L + 1) (some (.int (one : Int) t1)) := fun s₃ hk =>
    ⟨o1, hk _ _ (fun q => hF3 _ c1 (List.mem_singleton.mp q)) (H3.led _ c1), d1⟩
  refine ⟨h2'.objs.size, _, _, xs.size, _, _, m, rfl, Walks.list H3.I.S.hd h2'.objs.size r hri xs, ?_, ⟨⟨_, Heap.get?_push_size _ rfl, rfl, rfl⟩, hr.push _⟩, ?_, ?_, H3.I.ns, ⟨?_, ?_⟩, ?_⟩
  · rw [← Array.length_toList, ints_len i2]; exact Nat.le_trans hws (by decide)
  · intro b hb
    show b < (h2'.push _).objs.size
    rw [Heap.size_push]
    rcases List.mem_cons.mp hb with q | q
    · subst q; exact Nat.lt_succ_self _
    · obtain rfl := List.mem_singleton.mp q; exact Nat.lt_succ_of_lt (isList_lt hr)
  · exact fun q => hiL (List.mem_singleton.mp q).symm
  · intro C i u s₃ m₃ E' _ _ _ _ _ _
    rw [List.forIn_nil]
    exact wpAny_pure ⟨rfl, _, _, rfl, fun _ _ e => e⟩
  · rintro C i v s₃ m₃ E' hC pv _ hns hm hk _
    obtain ⟨n, tn, hn, rfl⟩ := ints_get i2 i v (by simpa using pv)
    refine wpAny_IfExp (wpAny_isTrue_Compare1 ?_)
    refine wpAny_BinOp (ldL hns hm (wpAny_Constant_int (mod_int' (by decide) ?_)))
    refine wpAny_Constant_int (P.eq_int (wpAny_truthy_bool ?_))
    by_cases h6 : n.fmod 7 = 6
    · rw [show (n.fmod 7 == 6) = true by simpa using h6]
      refine ldL hns hm ⟨⟨n, tn, tn, rfl, ?_⟩, _, _, rfl, fun _ _ e => e⟩
      rw [askWord, if_pos h6]
    · rw [show (n.fmod 7 == 6) = false by simpa using h6]
      refine wpAny_BinOp (ldL hns hm ?_)
      refine wpAny_BinOp (wpAny_BinOp (wpAny_Constant_int (ldC (cO _ hk) (by rfl) ?_)))
      refine pow_int_small (Int.natCast_nonneg _) (by have := Sc.h1; omega) (by decide) ?_
      rw [Int.toNat_natCast]
      have p : (0 : Int) < 2 ^ one := Int.pow_pos (by decide)
      refine wpAny_Constant_int (P.add_int (mod_int' (by omega) ?_))
      refine ⟨⟨n, tn, _, rfl, congrArg (fun z => Value.int z _) ?_⟩, _, _, rfl, fun _ _ e => e⟩
      rw [askWord, if_neg h6]
  · intro D h4 tk4 ys us hDn hDl hDp hul hP hPair hn4 up4
    have hus : us = xs.toList := items_all hul fun j v hj => hP j v hj
    rw [List.filter_eq_self.mpr (fun _ _ => rfl), hus] at hPair
    have i4 : IntsAre ys.toList (ws0.map (askWord one)) := paired_map (fun n t y hy => by
      obtain ⟨n', t', t'', e1, e2⟩ := hy
      obtain ⟨rfl, rfl⟩ : n = n' ∧ t = t' := by injection e1 with a b; exact ⟨a, b⟩
      exact ⟨t'', e2⟩) i2 hPair
    have H4 : LS w s0 L F { s₁ with heap := h4, toks := tk4 } (upd m "words" (.ref D)) := H3.comp (s' := { s₁ with heap := h4, toks := tk4 }) ⟨rfl, rfl, rfl⟩ (T := [h2'.objs.size]) (fun b hb => by rw [List.mem_singleton.mp hb]; exact hi0) (fun p hp q => hF3 p hp (List.mem_singleton.mp q)) hn4 up4
    obtain ⟨oD, gD, cD, nD, dD⟩ := hDl
    have hDL : D ≠ L := H3.newL hDn
    refine k _ ((D, oD) :: F) _ D ys _ (fun p hp => .tail _ hp) (H4.add gD hDL) ((Sc.upd (by decide)).keep (fun p hp => .tail _ hp) fun _ _ => rfl) upd_same ⟨oD, .head _, cD, nD, dD⟩ i4 (by rw [List.length_map]; exact hws)
end
end Mine
end
/- part M7 -/
section
open PySem PySem.W PyProof.Rows
open Sem (wp)
set_option Elab.async false
set_option maxRecDepth 100000
set_option maxHeartbeats 1000000
namespace Mine
def badWord (one : Nat) : Value → Bool
  | .int n _ => !(decide (0 ≤ n) && decide (n < 2 ^ one))
  | _ => false
theorem ints_filter {p : Value → Bool} {q : Int → Bool} (h : ∀ n t, p (.int n t) = q n) : ∀ {vs : List Value} {ns : List Int}, IntsAre vs ns → IntsAre (vs.filter p) (ns.filter q)
  | _, _, .nil => .nil
  | _, _, .cons n t r => by
    rw [List.filter_cons, List.filter_cons, h]
    cases q n with
    | true => exact .cons _ _ (ints_filter h r)
    | false => exact ints_filter h r
theorem wordsOk_eq (ws : List Int) (one many : Nat) : wordsOk ws (one : Int) (many : Int) = (decide (ws.length = many) && decide (ws.filter (fun n => !(decide (0 ≤ n) && decide (n < 2 ^ one))) = [])) := by
  unfold wordsOk
  rw [Int.toNat_natCast]
  have e1 : decide ((ws.length : Int) = (many : Int)) = decide (ws.length = many) := by
    by_cases h : ws.length = many
    · simp [h]
    · rw [decide_eq_false h, decide_eq_false (fun q => h (by exact_mod_cast q))]
  rw [e1]
  congr 1
  have e2 : (ws.all fun n => decide (0 ≤ n) && decide (n ≤ 2 ^ one - 1)) = (ws.all fun n => decide (0 ≤ n) && decide (n < 2 ^ one)) := by
    congr 1
    funext n
    congr 1
    by_cases h : n < 2 ^ one
    · rw [decide_eq_true h, decide_eq_true (Int.le_sub_one_of_lt h)]
    · rw [decide_eq_false h, decide_eq_false (fun q => h (Int.lt_of_le_sub_one q))]
  rw [e2]
  by_cases h : ws.filter (fun n => !(decide (0 ≤ n) && decide (n < 2 ^ one))) = []
  · rw [decide_eq_true h, List.all_eq_true]
    intro n hn
    have := List.filter_eq_nil_iff.mp h n hn
    simpa using this
  · rw [decide_eq_false h, List.all_eq_false]
    obtain ⟨n, hn⟩ := List.exists_mem_of_ne_nil _ h
    obtain ⟨a, b⟩ := List.mem_filter.mp hn
    exact ⟨n, a, by rw [Bool.not_eq_true'] at b; rw [b]; decide⟩
section
variable {w : World} {s0 s : Shared} {L l : Addr} {F : List (Addr × Obj)} {m m' : Str → Option Value} {E : Value → Shared → Prop}
theorem lawS8 {one many : Nat} {N dv : Int} {sep : Str} {u T0 : Tok} {D : Addr} {ys : Array Value} {ws : List Int} {Q : Flow → Shared → Prop} (H : LS w s0 L F s m) (Sc : Scene L l F m one many N dv sep u T0) (hm : m "words" = some (.ref D)) (hD : ∃ o, (D, o) ∈ F ∧ o.cls = .type "list" ∧ ∃ n, o.data = .seq ys n) (hi : IntsAre ys.toList ws) (hlen : ws.length ≤ 63)
    (k : ∀ s', LS w s0 L F s' (upd m "fits" (.bool (wordsOk ws (one : Int) (many : Int)))) → Q .next s') :
    wpAny (model thePw w) (AL L) (exec (lawSt 8) (envL L)) Q E s := by
  obtain ⟨o1, t1, c1, d1⟩ := Sc.c1
  obtain ⟨o2, t2, c2, d2⟩ := Sc.c2
  obtain ⟨oD, gD, clD, nD, dD⟩ := hD
  have hl : s.heap.IsList D ys := ⟨oD, H.led _ gD, clD, nD, dD⟩
  have hsz : ys.size = ws.length := by rw [← ints_len hi, Array.length_toList]
  rw [wordsOk_eq] at k
  refine wpAny_Assign_Name ?_ (by rfl)
  refine BoolOp_and ?_
  refine wpAny_Compare1 ?_
  refine wpAny_Call_NameR (ldB H.I.S.ok (g_none _ _ (by decide)) b_len ?_)
  refine Calls.callWith_builtin rfl (Calls.evalArgs_plain (Calls.spliced_cons (ldL H.I.ns hm ?_)))
  refine Calls.spliced_nil (len_list hl (by omega) ?_)
  refine ldC (H.cell c2 d2) (by rfl) ?_
  refine P.eq_int (wpAny_truthy_bool ?_)
  by_cases hc : ws.length = many
  case neg =>
    have e : ((ys.size : Int) == (many : Int)) = false := by rw [hsz]; simpa using fun q => hc (by exact_mod_cast q)
    rw [e]
    rw [decide_eq_false hc, Bool.false_and] at k
    exact LS.store (H.ext ⟨rfl, rfl, rfl⟩ fun _ _ e => e) fun s' _ H' => k _ H'
  have e : ((ys.size : Int) == (many : Int)) = true := by rw [hsz]; exact beq_iff_eq.mpr (by exact_mod_cast hc)
  rw [e]
  rw [decide_eq_true hc, Bool.true_and] at k
  refine BoolOp_one ?_
  refine wpAny_Compare1 ?_
  refine wpAny_ListComp_free (cl := [("one", L + 1)]) (badWord one) (fun v y => v = y) (by rfl) (by decide) (by rfl) (by decide) (by rfl) ?_
  refine ldL H.I.ns hm ?_
  refine wpAny_pyIter_list hl ?_
  have H3 := H.push { cls := .type "list_iterator", data := .fields #[.ref D, .int 0 0] }
  have hDi : D ≠ s.heap.objs.size := Nat.ne_of_lt (isList_lt hl)
  have hin : s.heap.get? s.heap.objs.size = none := Heap.get?_none_of_le (Nat.le_refl _)
  have hi0 : s0.heap.get? s.heap.objs.size = none := H.I.freshS
  have hiL : s.heap.objs.size ≠ L := H.I.Lne
  have hF3 : ∀ p ∈ F, p.1 ≠ s.heap.objs.size := H.new hin
  have cO : ∀ s₃ : Shared, (∀ b o, b ∉ [s.heap.objs.size] → (s.heap.push { cls := .type "list_iterator", data := .fields #[.ref D, .int 0 0] }).get? b = some o → s₃.heap.get? b = some o) → s₃.heap.IsCell (L + 1) (some (.int (one : Int) t1)) := fun s₃ hk =>
    ⟨o1, hk _ _ (fun q => hF3 _ c1 (List.mem_singleton.mp q)) (H3.led _ c1), d1⟩
  refine ⟨s.heap.objs.size, _, _, ys.size, _, _, rfl, Walks.list H3.I.S.hd s.heap.objs.size D hDi ys, ?_, ⟨⟨_, Heap.get?_push_size _ rfl, rfl, rfl⟩, hl.push _⟩, ?_, ⟨?_, ?_⟩, ?_⟩
  · rw [hsz]; exact Nat.le_trans hlen (by decide)
  · intro b hb
    show b < (s.heap.push _).objs.size
    rw [Heap.size_push]
    rcases List.mem_cons.mp hb with q | q
    · subst q; exact Nat.lt_succ_self _
    · obtain rfl := List.mem_singleton.mp q; exact Nat.lt_succ_of_lt (isList_lt hl)
  · rintro C i v s₃ m₃ E' hC pv hns hmx hk _
    obtain ⟨n, tn, hn, rfl⟩ := ints_get hi i v (by simpa using pv)
    rw [List.forIn_cons, if_pos rfl]
    refine wpAny_bind (wpAny_bind (wpAny_isTrue_Not ?_))
    refine isTrue_chain (wpAny_Constant_int ?_)
    refine test_link (ldL hns hmx (P.le_int ?_))
    by_cases g1 : 0 ≤ n
    case neg =>
      refine tb false (decide_eq_false g1) ?_
      refine wpAny_pure ?_
      dsimp only
      rw [List.forIn_nil]
      exact wpAny_pure ⟨by simp [badWord, g1], _, _, rfl, fun _ _ e => e⟩
    refine tb true (decide_eq_true g1) ?_
    refine test_last ?_
    refine wpAny_BinOp (wpAny_Constant_int (ldC (cO _ hk) (by rfl) ?_))
    refine pow_int_small (Int.natCast_nonneg _) (by have := Sc.h1; omega) (by decide) ?_
    rw [Int.toNat_natCast]
    refine P.lt_int ?_
    refine wpAny_truthy_bool (wpAny_pure ?_)
    dsimp only
    rw [List.forIn_nil]
    exact wpAny_pure ⟨by simp [badWord, g1], _, _, rfl, fun _ _ e => e⟩
  · rintro C i v s₃ m₃ E' hC pv _ hns hmx hk _
    exact ldL hns hmx ⟨rfl, _, _, rfl, fun _ _ e => e⟩
  · intro D2 h4 tk4 zs us hDn hDl hDp hul hP hPair up4
    have hus : us = ys.toList := items_all hul fun j v hj => hP j v hj
    have heq : zs.toList = us.filter (badWord one) := by
      have : ∀ {a b : List Value}, Paired (fun v y => v = y) a b → b = a := by
        intro a b h
        induction h with
        | nil => rfl
        | cons e _ ih => rw [e, ih]
      exact this hPair
    have i4 : IntsAre zs.toList (ws.filter (fun n => !(decide (0 ≤ n) && decide (n < 2 ^ one)))) := by
      rw [heq, hus]
      exact ints_filter (fun n t => rfl) hi
    have H4 : LS w s0 L F { s with heap := h4, toks := tk4 } m := H3.move (s' := { s with heap := h4, toks := tk4 }) ⟨rfl, rfl, rfl⟩ (H3.I.touchs (T := [s.heap.objs.size]) (fun b hb => by rw [List.mem_singleton.mp hb]; exact ⟨hi0, hiL⟩) up4) [s.heap.objs.size] (fun p hp q => hF3 p hp (List.mem_singleton.mp q)) fun b o _ n e => up4 b o n e
    refine wpAny_List (Calls.spliced_nil ⟨by decide, ?_⟩)
    have hz : h4.IsList D2 zs.toList.toArray := by simpa using hDl
    refine eq_intsK (us := []) (ms := []) (hz.push _) i4 ⟨_, Heap.get?_push_size _ rfl, rfl, _, rfl⟩ .nil (Nat.lt_of_le_of_lt (Nat.add_le_add_right H.I.S.un 64) (by decide)) ?_
    exact LS.store (H4.ext ⟨rfl, rfl, rfl⟩ fun _ _ e => Heap.get?_push_of_some _ e) fun s' _ H' => k _ H'
end
end Mine
end
/- part M8 -/
section
open PySem PySem.W PyProof.Rows
open Sem (wp)
set_option Elab.async false
set_option maxRecDepth 100000
set_option maxHeartbeats 1000000
namespace Mine
/-- the number that the law tells of a row of words -/
def foldWords (one : Nat) (ws : List Int) : Int := ws.foldl (fun a x => a * 2 ^ one + x) 0
theorem fold_acc (one : Nat) : ∀ (ws : List Int) (a : Int), ws.foldl (fun a x => a * 2 ^ one + x) a = a * 2 ^ (one * ws.length) + tellLow one ws.reverse
  | [], a => by simp [tellLow]
  | x :: r, a => by
    rw [List.foldl_cons, fold_acc one r, List.reverse_cons, tellLow_snoc, List.length_reverse, List.length_cons, Nat.mul_succ, Int.pow_add, Int.add_mul, Int.mul_assoc, Int.mul_comm (2 ^ one) (2 ^ (one * r.length)), Int.mul_comm x]
    omega
theorem foldWords_eq (one : Nat) (ws : List Int) : foldWords one ws = tellLow one ws.reverse := by
  rw [foldWords, fold_acc, Int.zero_mul, Int.zero_add]
section
variable {w : World} {s0 s : Shared} {L l : Addr} {F : List (Addr × Obj)} {m m' : Str → Option Value} {E : Value → Shared → Prop}
theorem lawD {vs : List Value} {ns : List Int} {one many : Nat} {N dv : Int} {sep : Str} {u T0 : Tok} {Q : Value → Shared → Prop} (H : LS w s0 L F s m) (Sc : Scene L l F m one many N dv sep u T0) (hl : s0.heap.IsList l vs.toArray) (hi : IntsAre vs ns) (hlen : ns.length ≤ 63)
    (hQ : ∀ s', Same s0 s' → Kept [] s0.heap s'.heap → Q (.bool true) s') : wpC (model thePw w) (AL L) (execs ((stmtsOf kf1384).drop 7) (envL L)) (LQ Q) (LE w L E) s := by
  show wpC (model thePw w) (AL L) (execs (lawSt 7 :: lawSt 8 :: lawSt 9 :: lawSt 10 :: []) (envL L)) _ _ _
  refine execsC_cons (wpC_any (lawS7 H Sc hl hi hlen ?_))
  intro s1 F1 m1 D ys ws _ H1 Sc1 hw1 hD1 i1 hws
  refine execsC_cons (wpC_any (lawS8 H1 Sc1 hw1 hD1 i1 hws ?_))
  intro s2 H2
  have Sc2 : Scene L l F1 (upd m1 "fits" (.bool (wordsOk ws (one : Int) (many : Int)))) one many N dv sep u T0 := Sc1.upd (by decide)
  have hw2 : upd m1 "fits" (.bool (wordsOk ws (one : Int) (many : Int))) "words" = some (.ref D) := hw1
  have hf2 : upd m1 "fits" (.bool (wordsOk ws (one : Int) (many : Int))) "fits" = some (.bool (wordsOk ws (one : Int) (many : Int))) := upd_same
  generalize upd m1 "fits" (.bool (wordsOk ws (one : Int) (many : Int))) = m2 at H2 Sc2 hw2 hf2
  obtain ⟨o1, t1, c1, d1⟩ := Sc2.c1
  obtain ⟨o2, t2, c2, d2⟩ := Sc2.c2
  have h1 := Sc2.h1
  have isL : ∀ s', LS w s0 L F1 s' m2 → s'.heap.IsList D ys := fun s' H' => let ⟨oD, gD, cD, nD, dD⟩ := hD1; ⟨oD, H'.led _ gD, cD, nD, dD⟩
  -- valid_words(..) != fits
  refine execsC_cons (wpC_any (wpAny_If (wpAny_isTrue_Compare1 ?_)))
  refine wpAny_Call_NameR (ldG H2.I.S.ok (g_valid_words _) ?_)
  refine Calls.callWith_function (o := kf1315) (fd := fdOf kf1315) (Calls.evalArgs_plain (Calls.spliced_cons (ldL H2.I.ns hw2 ?_)))
  refine Calls.spliced_cons (ldC (H2.cell c1 d1) (by rfl) ?_)
  refine Calls.spliced_cons (ldC (H2.cell c2 d2) (by rfl) ?_)
  refine Calls.spliced_nil ⟨⟨H2.I.S.ok.K _ _ rfl, rfl⟩, ?_⟩
  refine c_valid_words H2.I.S (by decide) (isL _ H2) i1 (Nat.le_trans hws (by decide)) (Int.natCast_nonneg _) (by omega) ?_
  intro h3 tk3 k3
  have H3 : LS w s0 L F1 { s2 with heap := h3, toks := tk3 } m2 := H2.kept ⟨rfl, rfl, rfl⟩ k3
  refine ldL H3.I.ns hf2 (ne_bool ?_)
  refine tb false (by cases wordsOk ws (one : Int) (many : Int) <;> rfl) ?_
  show wpAny (model thePw w) (AL L) (execs [] (envL L)) _ _ _
  refine wpAny_execs_nil ?_
  -- try
  refine execsC_cons (C_Try ?_)
  refine execsC_cons (wpC_any (wpAny_Assign_Name ?_ (by rfl)))
  refine wpAny_Call_NameR (ldG H3.I.S.ok (g_words_to_int _) ?_)
  refine Calls.callWith_function (o := kf1329) (fd := fdOf kf1329) (Calls.evalArgs_plain (Calls.spliced_cons (ldL H3.I.ns hw2 ?_)))
  refine Calls.spliced_cons (ldC (H3.cell c1 d1) (by rfl) ?_)
  refine Calls.spliced_cons (ldC (H3.cell c2 d2) (by rfl) ?_)
  refine Calls.spliced_nil ⟨⟨H3.I.S.ok.K _ _ rfl, rfl⟩, ?_⟩
  refine c_words_to_int (s := { s2 with heap := h3, toks := tk3 }) H3.I.S (by decide) (isL _ H3) i1 hws h1 ?_ ?_
  case refine_2 =>
    intro hv e s4 sm4 ht4
    refine noted_thrown H3.I ht4 ?_
    intro a a0 h5 he hH hu5
    subst he
    refine caught (s := { s4 with heap := h5 }) H3.I hH hu5 (by rw [isSubtype_type]; kernel_rfl) (by kernel_rfl) (by rw [isSubtype_type]; kernel_rfl) b_ValueError (g_none _ _ (by decide)) ?_
    intro h6 E' k6 I6
    refine wpAny_execs_cons (wpAny_Return_some (UnaryOp_ (ldL I6.ns hf2 (not_of ?_))))
    refine tb false hv ?_
    have H6 : LS w s0 L F1 { s4 with heap := h6 } m2 := H3.kept (s' := { s4 with heap := h6 }) ⟨sm4.gens, sm4.drawn, sm4.os⟩ k6
    exact hQ _ H6.out.1 H6.out.2
  intro hv s4 tt sm4 k4
  have H4 : LS w s0 L F1 s4 m2 := H3.kept sm4 k4
  refine H4.store fun s5 _ H5 => ?_
  refine execsC_cons (wpC_any (wpAny_Assign_Name (wpAny_Constant_int ?_) (by rfl)))
  refine (H5.tok).store fun s6 _ H6 => ?_
  -- the loop
  have hwall : ∀ x ∈ ws, 0 ≤ x ∧ x < 2 ^ one := fun x hx => by
    have := (Bool.and_eq_true_iff.mp hv).2
    have := List.all_eq_true.mp this x hx
    rw [Bool.and_eq_true, decide_eq_true_eq, decide_eq_true_eq, Int.toNat_natCast] at this
    exact ⟨this.1, Int.lt_of_le_sub_one this.2⟩
  have hsz : ys.size = ws.length := by rw [← ints_len i1, Array.length_toList]
  have isL6 : s6.heap.IsList D ys := let ⟨oD, gD, cD, nD, dD⟩ := hD1; ⟨oD, H6.led _ gD, cD, nD, dD⟩
  refine execsC_cons (C_For ?_)
  refine ldL H6.I.ns hw2 ?_
  refine wpAny_pyIter_list isL6 ?_
  have H7 := H6.push { cls := .type "list_iterator", data := .fields #[.ref D, .int 0 0] }
  have hDi : D ≠ s6.heap.objs.size := Nat.ne_of_lt (isList_lt isL6)
  have hDL : D ≠ L := let ⟨oD, gD, _⟩ := hD1; H6.off _ gD
  refine H7.forC (T0 := 0) (fun i m' => (∀ x : Str, x ≠ "word" → x ≠ "due" → m' x = upd (upd m2 "told" (.int (tellLow one ws.reverse) tt)) "due" (.int 0 s5.toks) x) ∧ ∃ t, m' "due" = some (.int (foldWords one (ws.take i)) t)) (Nat.zero_le _) (Walks.list H7.I.S.hd _ D hDi ys) ⟨⟨_, Heap.get?_push_size _ rfl, rfl, rfl⟩, isL6.push _⟩ ?_ ?_ ?_ ?_ ?_ ?_ ?_
  · intro b hb
    obtain rfl := List.mem_singleton.mp hb
    exact ⟨H6.I.freshS, H6.I.Lne⟩
  · exact fun p hp q => H6.new (Heap.get?_none_of_le (Nat.le_refl _)) p hp (List.mem_singleton.mp q)
  · intro q
    rcases List.mem_cons.mp q with q | q
    · exact H6.I.Lne q.symm
    · exact hDL (List.mem_singleton.mp q).symm
  · rintro i h ⟨⟨o, ho, _⟩, ⟨o', ho', _⟩⟩ b hb
    rcases List.mem_cons.mp hb with q | q
    · subst q; exact ⟨o, ho⟩
    · obtain rfl := List.mem_singleton.mp q; exact ⟨o', ho'⟩
  · exact ⟨fun _ _ _ => rfl, ⟨_, rfl⟩⟩
  · rintro i v s8 m8 F8 hF8 _ hin pv ⟨j1, tj, j2⟩ H8
    obtain ⟨n, tn, hn, rfl⟩ := ints_get i1 i v (by simpa using pv)
    show wpC (model thePw w) (AL L) (execs (_ :: []) (envL L)) _ _ _
    refine execsC_cons (wpC_any (wpAny_Assign_Name ?_ (by rfl)))
    refine wpAny_BinOp (wpAny_BinOp (ldL H8.I.ns ((upd_ne (by decide)).trans j2) ?_))
    refine wpAny_BinOp (wpAny_Constant_int (ldC (H8.cell (hF8 _ c1) d1) (by rfl) ?_))
    refine pow_int_small (Int.natCast_nonneg _) (by omega) (by decide) ?_
    rw [Int.toNat_natCast]
    have hp16 : (2 : Int) ^ one ≤ 2 ^ 16 := by
      have := Nat.pow_le_pow_right (n := 2) (by decide) h1.2
      exact_mod_cast this
    have hp0 : (0 : Int) < 2 ^ one := Int.pow_pos (by decide)
    refine P.mul_int ?_ (IntMulOk.of_right (intBits_le_64 (by omega) (by omega)))
    refine ldL H8.I.ns upd_same (P.add_int ?_)
    refine LS.store (H8.ext ⟨rfl, rfl, rfl⟩ fun _ _ e => e) fun s9 _ H9 => ?_
    refine execsC_nil ⟨_, H9, fun x a b => (upd_ne b).trans ((upd_ne a).trans (j1 x a b)), _, upd_same.trans (congrArg (fun z => some (Value.int z _)) ?_)⟩
    rw [List.take_add_one, hn]
    show _ = foldWords one (ws.take i ++ [n])
    rw [foldWords, foldWords, List.foldl_append]
    rfl
  · rintro s8 m8 _ ⟨j1, tj, j2⟩ H8
    rw [List.take_of_length_le (by omega)] at j2
    show wpC (model thePw w) (AL L) (execs (_ :: []) (envL L)) _ _ _
    refine execsC_cons (wpC_any (wpAny_Return_some (BoolOp_and ?_)))
    refine ldL H8.I.ns ((j1 _ (by decide) (by decide)).trans hf2) ?_
    refine tb true hv ?_
    refine BoolOp_one (wpAny_Compare1 ?_)
    refine ldL H8.I.ns ((j1 _ (by decide) (by decide)).trans rfl) (ldL H8.I.ns j2 (P.eq_int ?_))
    rw [foldWords_eq, beq_self_eq_true]
    exact hQ _ H8.out.1 H8.out.2
end
end Mine
end
/- part M9 -/
section
open PySem PySem.W PyProof.Rows
open Sem (wp)
set_option Elab.async false
set_option maxRecDepth 100000
set_option maxHeartbeats 1000000
namespace Mine
def ifThen : Stmt → List Stmt
  | .If _ b _ _ => b
  | _ => []
def ifElse : Stmt → List Stmt
  | .If _ _ b _ => b
  | _ => []
section
variable {w : World} {s0 s : Shared} {L l : Addr} {F : List (Addr × Obj)} {m m' : Str → Option Value} {E : Value → Shared → Prop}
/-- one more refusal is counted -/
theorem refuse_note {s4 : Shared} {e : Value} {r : Int} {t : Tok} {np pa pc ps pos : Pos} {kk : Nat} {rest : List ExceptHandler} {Q : Flow → Shared → Prop} (H : LS w s0 L F s m) (ht : Thrown [envL L] s.heap "IndexError" e s4.heap) (sm : Same s s4) (hr : m "refused" = some (.int r t))
    (k : ∀ s' t, LS w s0 L F s' (upd m "refused" (.int (r + 1) t)) → Q .next s') :
    wpAny (model thePw w) (AL L) (noteFrame e (envL L)) (fun _ s₂ => wpAny (model thePw w) (AL L) (setFlight e none) (fun _ s₃ =>
      wpAny (model thePw w) (AL L) (handleBy e (envL L) (.ExceptHandler (some (.Name "IndexError" np)) none [.AugAssign (.Name "refused" pa) .Add (.Constant (.int 1) kk pc) ps] pos :: rest)) Q E s₃) E s₂) E s4 := by
  refine noted_thrown H.I ht ?_
  intro a a0 h5 he hH hu5
  subst he
  refine caught (s := { s4 with heap := h5 }) H.I hH hu5 (by rw [isSubtype_type]; kernel_rfl) (by kernel_rfl) (by rw [isSubtype_type]; kernel_rfl) b_IndexError (g_none _ _ (by decide)) ?_
  intro h6 E' k6 I6
  have H6 : LS w s0 L F { s4 with heap := h6 } m := H.kept (s' := { s4 with heap := h6 }) ⟨sm.gens, sm.drawn, sm.os⟩ k6
  refine wpAny_execs_cons (wpAny_AugAssign_Name ?_)
  refine wpAny_loadName_local (by rfl) (by rfl) H6.I.ns hr ?_
  refine wpAny_Constant_int (iadd_int ?_)
  refine LS.store (H6.ext ⟨rfl, rfl, rfl⟩ fun _ _ e => e) fun s7 _ H7 => ?_
  exact wpAny_execs_nil (k s7 _ H7)
theorem lawC {one many : Nat} {N dv : Int} {sep : Str} {u T0 : Tok} {Q : Flow → Shared → Prop} (H : LS w s0 L F s m) (Sc : Scene L l F m one many N dv sep u T0) (hbad : ¬ (0 ≤ N ∧ N < 2 ^ (one * many)))
    (k : ∀ s' m', LS w s0 L F s' m' → Scene L l F m' one many N dv sep u T0 → Q .next s') : wpC (model thePw w) (AL L) (execs (ifElse (lawSt 6)) (envL L)) Q E s := by
  show wpC (model thePw w) (AL L) (execs (_ :: _ :: _ :: _ :: _ :: []) (envL L)) _ _ _
  obtain ⟨o1, t1, c1, d1⟩ := Sc.c1
  obtain ⟨o2, t2, c2, d2⟩ := Sc.c2
  obtain ⟨o3, t3, c3, d3⟩ := Sc.c3
  obtain ⟨tdg, hdg⟩ := Sc.dg
  have hmk := Sc.mrk
  have dgl := Sc.dgl
  have h1 := Sc.h1
  have h2 := Sc.h2
  refine execsC_cons (wpC_any (wpAny_Assign_Name (wpAny_Constant_int ?_) (by rfl)))
  refine (H.tok).store fun s1 _ H1 => ?_
  -- int_to_words
  refine execsC_cons (C_Try (execsC_cons (wpC_any (wpAny_Expr_any ?_ (by rfl) (by rfl)))))
  refine wpAny_Call_NameR (ldG H1.I.S.ok (g_int_to_words _) ?_)
  refine Calls.callWith_function (o := kf1322) (fd := fdOf kf1322) (Calls.evalArgs_plain (Calls.spliced_cons (ldC (H1.cell c3 d3) (by rfl) ?_)))
  refine Calls.spliced_cons (ldC (H1.cell c1 d1) (by rfl) ?_)
  refine Calls.spliced_cons (ldC (H1.cell c2 d2) (by rfl) ?_)
  refine Calls.spliced_nil ⟨⟨H1.I.S.ok.K _ _ rfl, rfl⟩, ?_⟩
  refine c_int_to_words H1.I.S (by decide) h1 h2 (fun a b => absurd ⟨a, b⟩ hbad) (fun _ e s2 sm2 ht2 => ?_)
  refine refuse_note H1 ht2 sm2 upd_same fun s3 tr3 H3 => ?_
  -- int_to_bits
  have sc3 : ∀ x : Str, x ≠ "refused" → upd (upd m "refused" (.int 0 s.toks)) "refused" (.int (0 + 1) tr3) x = m x := fun x hx => (upd_ne hx).trans (upd_ne hx)
  have r3 : upd (upd m "refused" (.int 0 s.toks)) "refused" (.int (0 + 1) tr3) "refused" = some (.int (0 + 1) tr3) := upd_same
  change LS w s0 L F s3 (upd (upd m "refused" (.int 0 s.toks)) "refused" (.int (0 + 1) tr3)) at H3
  generalize upd (upd m "refused" (.int 0 s.toks)) "refused" (.int (0 + 1) tr3) = m3 at H3 sc3 r3
  refine execsC_cons (C_Try (execsC_cons (wpC_any (wpAny_Expr_any ?_ (by rfl) (by rfl)))))
  refine wpAny_Call_NameR (ldG H3.I.S.ok (g_int_to_bits _) ?_)
  refine Calls.callWith_function (o := kf1353) (fd := fdOf kf1353) (Calls.evalArgs_plain (Calls.spliced_cons (ldC (H3.cell c3 d3) (by rfl) ?_)))
  refine Calls.spliced_cons (ldC (H3.cell c1 d1) (by rfl) ?_)
  refine Calls.spliced_cons (ldC (H3.cell c2 d2) (by rfl) ?_)
  refine Calls.spliced_cons (ldL H3.I.ns ((sc3 _ (by decide)).trans hmk) ?_)
  refine Calls.spliced_nil ⟨⟨H3.I.S.ok.K _ _ rfl, rfl⟩, ?_⟩
  have hsl : sep.length ≤ 16 := by
    rcases Sc.hs with q | q | q | q <;> (rw [q]; decide +kernel)
  refine c_int_to_bits H3.I.S (by decide) h1 h2 hsl (fun a b => absurd ⟨a, b⟩ hbad) (fun _ e s4 sm4 ht4 => ?_)
  refine refuse_note H3 ht4 sm4 r3 fun s5 tr5 H5 => ?_
  have sc5 : ∀ x : Str, x ≠ "refused" → upd m3 "refused" (.int (0 + 1 + 1) tr5) x = m x := fun x hx => (upd_ne hx).trans (sc3 x hx)
  have r5 : upd m3 "refused" (.int (0 + 1 + 1) tr5) "refused" = some (.int 2 tr5) := upd_same
  generalize upd m3 "refused" (.int (0 + 1 + 1) tr5) = m5 at H5 sc5 r5
  have fin : ∀ s6 t6, LS w s0 L F s6 (upd m5 "refused" (.int 3 t6)) → wpC (model thePw w) (AL L) (execs ((ifElse (lawSt 6)).drop 4) (envL L)) Q E s6 := by
    intro s6 t6 H6
    show wpC (model thePw w) (AL L) (execs (_ :: []) (envL L)) _ _ _
    refine execsC_cons (wpC_any (wpAny_If (wpAny_isTrue_Compare1 ?_)))
    refine ldL H6.I.ns upd_same (wpAny_Constant_int (P.ne_int ?_))
    refine tb false rfl ?_
    show wpAny (model thePw w) (AL L) (execs [] (envL L)) _ _ _
    refine wpAny_execs_nil (execsC_nil (k _ (upd m5 "refused" (.int 3 t6)) (H6.ext ⟨rfl, rfl, rfl⟩ fun _ _ e => e) (Sc.keep (fun _ h => h) fun x hx => ?_)))
    have hne : x ≠ "refused" := fun q => by subst q; revert hx; decide
    exact (upd_ne hne).trans (sc5 x hne)
  refine execsC_cons (C_If (wpC_any (wpAny_isTrue_Compare1 ?_)))
  refine ldC (H5.cell c3 d3) (by rfl) (wpAny_Constant_int (P.lt_int ?_))
  by_cases hneg : N < 0
  · refine tb true (decide_eq_true hneg) ?_
    show wpC (model thePw w) (AL L) (execs (_ :: []) (envL L)) _ _ _
    refine execsC_cons (wpC_any (wpAny_AugAssign_Name ?_))
    refine wpAny_loadName_local (by rfl) (by rfl) H5.I.ns r5 ?_
    refine wpAny_Constant_int (iadd_int ?_)
    refine LS.store (H5.ext ⟨rfl, rfl, rfl⟩ fun _ _ e => e) fun s7 _ H7 => ?_
    exact execsC_nil (fin s7 _ H7)
  · refine tb false (decide_eq_false hneg) ?_
    show wpC (model thePw w) (AL L) (execs (_ :: []) (envL L)) _ _ _
    obtain ⟨n, rfl⟩ := Int.eq_ofNat_of_zero_le (by omega : 0 ≤ N)
    have hbig : 2 ^ (one * many) ≤ n := by
      have : ¬ ((n : Int) < 2 ^ (one * many)) := fun q => hbad ⟨Int.natCast_nonneg _, q⟩
      have := Int.not_lt.mp this
      exact_mod_cast this
    have H5' : LS w s0 L F { s5 with toks := s5.toks + 1 } m5 := H5.tok
    refine execsC_cons (C_Try (execsC_cons (wpC_any (wpAny_Expr_any ?_ (by rfl) (by rfl)))))
    refine wpAny_Call_NameR (ldG H5'.I.S.ok (g_int_to_bin _) ?_)
    refine Calls.callWith_function (o := kf1367) (fd := fdOf kf1367) (Calls.evalArgs_plain (Calls.spliced_cons (ldC (H5'.cell c3 d3) (by rfl) ?_)))
    refine Calls.spliced_cons (ldL H5'.I.ns ((sc5 _ (by decide)).trans hdg) ?_)
    refine Calls.spliced_nil ⟨⟨H5'.I.S.ok.K _ _ rfl, rfl⟩, ?_⟩
    have hlog := lt_of_log2 hbig
    have hN := Sc.hN
    refine c_int_to_bin (s := { s5 with toks := s5.toks + 1 }) H5'.I.S (by decide) rfl rfl (by have := bin_len (n : Int); omega) (fun hle => ?_) (fun _ e s6 sm6 ht6 => ?_)
    · rw [bin_tail] at hle; omega
    refine refuse_note H5' ht6 sm6 r5 fun s7 tr7 H7 => ?_
    exact execsC_nil (fin s7 _ H7)
end
end Mine
end
/- part G3 -/
section
open PySem PySem.W PyProof.Rows PySem.Builtin PySem.Builtin.Str
set_option Elab.async false
set_option maxRecDepth 100000
set_option maxHeartbeats 1000000
namespace Mine
/-- texts with a separator's codes between -/
def glue (σ : List Nat) : List (List Nat) → List Nat
  | [] => []
  | [a] => a
  | a :: b :: r => a ++ σ ++ glue σ (b :: r)
theorem cd_join (sep : Str) : ∀ l : List Str, cd (Txt.join sep l) = glue (cd sep) (l.map cd) := by
  intro l
  have e : Txt.join sep l = Str.join sep l := StrLaws.glued_eq_join _ _
  rw [e]
  clear e
  induction l with
  | nil => rfl
  | cons a r ih =>
    cases r with
    | nil => rfl
    | cons b r =>
      show cd (a ++ sep ++ Str.join sep (b :: r)) = _
      rw [cd_app, cd_app, ih]
      rfl
theorem glue_nil : ∀ l : List (List Nat), glue [] l = l.flatten
  | [] => rfl
  | [a] => by simp [glue]
  | a :: b :: r => by rw [glue, glue_nil (b :: r)]; simp
theorem glue_filter (c : Nat) : ∀ l : List (List Nat), (∀ a ∈ l, c ∉ a) → (glue [c] l).filter (· != c) = l.flatten
  | [], _ => rfl
  | [a], h => by
    rw [glue, List.filter_eq_self.mpr]
    · simp
    · intro x hx
      simp only [bne_iff_ne]
      intro q; subst q; exact h a (.head _) hx
  | a :: b :: r, h => by
    rw [glue, List.filter_append, List.filter_append, glue_filter c (b :: r) fun x hx => h x (.tail _ hx), List.filter_eq_self.mpr]
    · simp
    · intro x hx
      simp only [bne_iff_ne]
      intro q; subst q; exact h a (.head _) hx
theorem glue_last (σ : List Nat) : ∀ (l : List (List Nat)), l ≠ [] → (∀ a ∈ l, a ≠ []) → ∃ T x, glue σ l = T ++ [x] ∧ ∃ a ∈ l, x ∈ a
  | [], h, _ => absurd rfl h
  | [a], _, h => by
    have ha := h a (.head _)
    exact ⟨a.dropLast, a.getLast ha, (List.dropLast_concat_getLast ha).symm, a, .head _, List.getLast_mem ha⟩
  | a :: b :: r, _, h => by
    obtain ⟨T, x, e, a', h1, h2⟩ := glue_last σ (b :: r) (by simp) fun x hx => h x (.tail _ hx)
    exact ⟨a ++ σ ++ T, x, by rw [glue, e]; simp, a', .tail _ h1, h2⟩
theorem glue_len (σ : List Nat) (k n : Nat) (hσ : σ.length ≤ k) : ∀ l : List (List Nat), (∀ a ∈ l, a.length ≤ n) → (glue σ l).length ≤ l.length * (n + k)
  | [], _ => by simp [glue]
  | [a], h => by have := h a (.head _); simp [glue]; omega
  | a :: b :: r, h => by
    have h1 := h a (.head _)
    have h2 := glue_len σ k n hσ (b :: r) fun x hx => h x (.tail _ hx)
    rw [glue, List.length_append, List.length_append, List.length_cons, Nat.succ_mul]
    omega
/-- the words spell the number -/
theorem spelled_words (one n : Nat) : ∀ many : Nat, (((lowWords (n : Int) one many).reverse.map fun x => wcodes one x.toNat)).flatten = wcodes (one * many) n
  | 0 => by simp [lowWords, wcodes]
  | k + 1 => by
    rw [lowWords_succ, List.reverse_append, List.map_append, List.flatten_append, spelled_words one n k]
    have e : ((n : Int) / 2 ^ (one * k) % 2 ^ one).toNat = n / 2 ^ (one * k) % 2 ^ one := by
      have : ((n : Int) / 2 ^ (one * k) % 2 ^ one) = ((n / 2 ^ (one * k) % 2 ^ one : Nat) : Int) := by push_cast; rfl
      rw [this, Int.toNat_natCast]
    simp only [List.reverse_singleton, List.map_cons, List.map_nil, List.flatten_cons, List.flatten_nil, List.append_nil]
    rw [e, Nat.mul_succ, Nat.add_comm, wcodes_app]
theorem sep_codes {sep : Str} (h : sepOk sep) : cd sep = [] ∨ ∃ c, sep = ⟨#[c]⟩ ∧ c ≠ 48 ∧ c ≠ 49 ∧ c ≠ 50 := by
  rcases h with q | q | q | q
  · left; rw [q]; decide +kernel
  · exact .inr ⟨46, q, by decide, by decide, by decide⟩
  · exact .inr ⟨58, q, by decide, by decide, by decide⟩
  · exact .inr ⟨45, q, by decide, by decide, by decide⟩
/-- what is left without the separator, as codes -/
def strike (sep : Str) (l : List Nat) : List Nat := if cd sep = [] then l else l.filter fun x => !(cd sep).contains x
theorem bare_cd {sep : Str} (h : sepOk sep) (x : Str) : cd (bare x sep) = strike sep (cd x) := by
  unfold bare strike
  rcases sep_codes h with q | ⟨c, q, _⟩
  · rw [if_pos q, if_pos q]
  · subst q
    rw [if_neg (by simp), if_neg (by simp)]
    have e : Str.ofString "" = ⟨#[]⟩ := by decide +kernel
    rw [e]
    show (Txt.replace x ⟨#[c]⟩ ⟨#[]⟩).cps.toList = _
    rw [replace_strikes]
    congr 1
    funext y
    simp [bne, cd]
    by_cases hy : y = c
    · subst hy; simp
    · simp [hy]
theorem strike_app (sep : Str) (a b : List Nat) : strike sep (a ++ b) = strike sep a ++ strike sep b := by
  unfold strike
  split
  · rfl
  · rw [List.filter_append]
theorem strike_keep {sep : Str} (h : sepOk sep) {l : List Nat} (hl : ∀ c ∈ l, c = 48 ∨ c = 49 ∨ c = 50) : strike sep l = l := by
  unfold strike
  rcases sep_codes h with q | ⟨c, q, n1, n2, n3⟩
  · rw [if_pos q]
  · subst q
    rw [if_neg (by simp)]
    refine List.filter_eq_self.mpr fun x hx => ?_
    have : x ≠ c := by rcases hl x hx with q | q | q <;> (subst q; exact fun z => by first | exact n1 z.symm | exact n2 z.symm | exact n3 z.symm)
    simp [cd, this]
theorem strike_mem {sep : Str} {l : List Nat} {x : Nat} (h : x ∈ strike sep l) : x ∈ l := by
  unfold strike at h
  split at h
  · exact h
  · exact (List.mem_filter.mp h).1
theorem strike_not {sep : Str} {l : List Nat} {x : Nat} (hx : x ∈ strike sep l) : x ∉ cd sep := by
  unfold strike at hx
  split at hx
  · rename_i q; rw [q]; simp
  · have := (List.mem_filter.mp hx).2
    simpa using this
/-- the law's text -/
abbrev lawText (sep : Str) (one many n : Nat) : Str := Txt.join sep (wtexts one (lowWords (n : Int) one many).reverse)
theorem lawText_cd (sep : Str) (one many n : Nat) : cd (lawText sep one many n) = glue (cd sep) ((lowWords (n : Int) one many).reverse.map fun x => wcodes one x.toNat) := by
  rw [lawText, cd_join, wtexts, List.map_map]
  rfl
theorem lawText_strike {sep : Str} (h : sepOk sep) (one many n : Nat) : strike sep (cd (lawText sep one many n)) = wcodes (one * many) n := by
  rw [lawText_cd, ← spelled_words]
  unfold strike
  rcases sep_codes h with q | ⟨c, q, n1, n2, _⟩
  · rw [if_pos q, q, glue_nil]
  · subst q
    rw [if_neg (by simp), ← glue_filter c]
    · congr 1
      funext x
      simp [bne, cd]
      by_cases hy : x = c
      · subst hy; simp
      · simp [hy]
    · intro a ha hc
      obtain ⟨x, _, rfl⟩ := List.mem_map.mp ha
      rcases wcodes_01 hc with z | z
      · exact n1 z
      · exact n2 z
theorem lawText_len {sep : Str} (h : sepOk sep) {one many n : Nat} (h1 : one ≤ 16) (h2 : many ≤ 8) : (lawText sep one many n).length ≤ 200 := by
  rw [← cd_len, lawText_cd]
  have hσ : (cd sep).length ≤ 1 := by
    rcases sep_codes h with q | ⟨c, q, _⟩
    · rw [q]; simp
    · subst q; exact Nat.le_refl _
  have := glue_len (cd sep) 1 one hσ ((lowWords (n : Int) one many).reverse.map fun x => wcodes one x.toNat) fun a ha => by
    obtain ⟨x, _, rfl⟩ := List.mem_map.mp ha
    rw [wcodes_len]; exact Nat.le_refl _
  have hl : ((lowWords (n : Int) one many).reverse.map fun x => wcodes one x.toNat).length = many := by simp [lowWords]
  rw [hl] at this
  have h3 : many * (one + 1) ≤ 8 * 17 := Nat.mul_le_mul h2 (by omega)
  omega
theorem lawText_last {sep : Str} (h : sepOk sep) {one many n : Nat} (h1 : 1 ≤ one) (h2 : 1 ≤ many) : ∃ T x, cd (lawText sep one many n) = T ++ [x] ∧ (x = 48 ∨ x = 49) := by
  obtain ⟨T, x, e, a, ha, hx⟩ := glue_last (cd sep) ((lowWords (n : Int) one many).reverse.map fun x => wcodes one x.toNat) (by
    intro q
    have : ((lowWords (n : Int) one many).reverse.map fun x => wcodes one x.toNat).length = many := by simp [lowWords]
    rw [q] at this; simp at this; omega) fun a ha => by
    obtain ⟨x, _, rfl⟩ := List.mem_map.mp ha
    intro q
    have := wcodes_len one x.toNat
    rw [q] at this; simp at this; omega
  obtain ⟨y, _, rfl⟩ := List.mem_map.mp ha
  exact ⟨T, x, by rw [lawText_cd]; exact e, wcodes_01 hx⟩
/-- a text that valid_bits refuses, fit for the contracts -/
structure WrongT (sep : Str) (dg : Nat) (x : Str) : Prop where
  len : x.length ≤ 2000
  b3 : (bare x sep).length = dg → Bits3 (bare x sep).cps.toList
  bad : validY (bare x sep) dg = false
theorem text_good {sep : Str} (h : sepOk sep) {one many n : Nat} (hn : n < 2 ^ (one * many)) : (bare (lawText sep one many n) sep).length = one * many ∧ Bits3 (bare (lawText sep one many n) sep).cps.toList ∧ validY (bare (lawText sep one many n) sep) (one * many) = true ∧ binVal (bare (lawText sep one many n) sep).cps.toList = n := by
  have e : (bare (lawText sep one many n) sep).cps.toList = wcodes (one * many) n := (bare_cd h _).trans (lawText_strike h one many n)
  have hl : (bare (lawText sep one many n) sep).length = one * many := by rw [← cd_len]; show (bare (lawText sep one many n) sep).cps.toList.length = _; rw [e, wcodes_len]
  refine ⟨hl, ?_, ?_, ?_⟩
  · rw [e]; intro c hc; rcases wcodes_01 hc with q | q
    · exact .inl q
    · exact .inr (.inl q)
  · rw [validY, hl, e]
    have : 50 ∉ wcodes (one * many) n := fun q => by rcases wcodes_01 q with z | z <;> exact absurd z (by decide)
    simp [this]
  · rw [e, binVal_wcodes, Nat.mod_eq_of_lt hn]
theorem wrong_len {sep : Str} {dg : Nat} {x : Str} (hx : x.length ≤ 2000) (hl : (bare x sep).length ≠ dg) : WrongT sep dg x := ⟨hx, fun q => absurd q hl, by simp [validY, hl]⟩
theorem wrong_cut {sep : Str} (h : sepOk sep) {one many n : Nat} (h1 : 1 ≤ one ∧ one ≤ 16) (h2 : 1 ≤ many ∧ many ≤ 8) {x : Str} (hx : cd x = (cd (lawText sep one many n)).take ((lawText sep one many n).length - 1)) : WrongT sep (one * many) x := by
  have hlen := lawText_len h (one := one) (many := many) (n := n) h1.2 h2.2
  refine wrong_len ?_ ?_
  · rw [← cd_len, hx, List.length_take]; omega
  · obtain ⟨T, y, e, hy⟩ := lawText_last h (n := n) h1.1 h2.1
    have hL : (lawText sep one many n).length = T.length + 1 := by rw [← cd_len, e]; simp
    have hxT : cd x = T := by rw [hx, e, hL]; simp
    rw [← cd_len, bare_cd h, hxT]
    have s := lawText_strike h one many n
    rw [e, strike_app, strike_keep h (l := [y]) (fun c hc => by rw [List.mem_singleton.mp hc]; rcases hy with z | z; exact .inl z; exact .inr (.inl z))] at s
    have := congrArg List.length s
    rw [List.length_append, wcodes_len] at this
    simp at this
    omega
theorem wrong_more {sep : Str} (h : sepOk sep) {one many n : Nat} (h1 : one ≤ 16) (h2 : many ≤ 8) {x : Str} (hx : cd x = cd (lawText sep one many n) ++ [48]) : WrongT sep (one * many) x := by
  have hlen := lawText_len h (one := one) (many := many) (n := n) h1 h2
  refine wrong_len ?_ ?_
  · rw [← cd_len, hx, List.length_append, cd_len]; simp; omega
  · rw [← cd_len, bare_cd h, hx, strike_app, lawText_strike h, strike_keep h (l := [48]) (fun c hc => .inl (List.mem_singleton.mp hc))]
    simp [wcodes_len]
theorem wrong_mark {sep : Str} (h : sepOk sep) {one many n k : Nat} (h1 : one ≤ 16) (h2 : many ≤ 8) {x : Str} (hx : cd x = (cd (lawText sep one many n)).take k ++ [50] ++ (cd (lawText sep one many n)).drop (k + 1)) : WrongT sep (one * many) x := by
  have hlen := lawText_len h (one := one) (many := many) (n := n) h1 h2
  have h50 : strike sep [50] = [50] := strike_keep h fun c hc => .inr (.inr (List.mem_singleton.mp hc))
  have e : (bare x sep).cps.toList = strike sep ((cd (lawText sep one many n)).take k) ++ [50] ++ strike sep ((cd (lawText sep one many n)).drop (k + 1)) := by
    have := bare_cd h x
    rw [hx, strike_app, strike_app, h50] at this
    exact this
  have digit : ∀ c ∈ strike sep (cd (lawText sep one many n)), c = 48 ∨ c = 49 ∨ c = 50 := fun c hc => by
    rw [lawText_strike h] at hc
    rcases wcodes_01 hc with q | q
    · exact .inl q
    · exact .inr (.inl q)
  have sub1 : ∀ c ∈ strike sep ((cd (lawText sep one many n)).take k), c = 48 ∨ c = 49 ∨ c = 50 := fun c hc => digit c (by
    rw [← List.take_append_drop k (cd (lawText sep one many n)), strike_app]
    exact List.mem_append_left _ hc)
  have sub2 : ∀ c ∈ strike sep ((cd (lawText sep one many n)).drop (k + 1)), c = 48 ∨ c = 49 ∨ c = 50 := fun c hc => digit c (by
    rw [← List.take_append_drop (k + 1) (cd (lawText sep one many n)), strike_app]
    exact List.mem_append_right _ hc)
  refine ⟨?_, fun _ => ?_, ?_⟩
  · rw [← cd_len, hx, List.length_append, List.length_append, List.length_take, List.length_drop, cd_len]; simp; omega
  · rw [e]
    intro c hc
    rcases List.mem_append.mp hc with q | q
    · rcases List.mem_append.mp q with q | q
      · exact sub1 c q
      · exact .inr (.inr (List.mem_singleton.mp q))
    · exact sub2 c q
  · rw [validY, e]; simp
end Mine
end
/- part G4 -/
section
open PySem PySem.W PyProof.Rows PySem.Builtin PySem.Builtin.Str
set_option Elab.async false
set_option maxRecDepth 100000
set_option maxHeartbeats 1000000
namespace Mine
theorem zb_len : zb.length = 2 := by decide +kernel
theorem sub_zb (x : Str) (i : Nat) : subAt x zb i = ((cd x).drop i |>.take 2 |> (· == [48, 98])) := by
  rw [StrLaws.subAt_eq, zb_len]
  show ((List.take 2 (List.drop i (cd x))) == cd zb) = _
  rw [cd_zb]
theorem starts_yes {x : Str} {ds : List Nat} (h : cd x = [48, 98] ++ ds) : Txt.startswith x zb = true := by
  have hl : x.length = ds.length + 2 := by rw [← cd_len, h]; simp
  unfold Txt.startswith
  rw [sub_zb, h, zb_len, hl]
  simp
theorem starts_no {x : Str} (h : ∀ c ∈ cd x, c ≠ 98) : Txt.startswith x zb = false := by
  unfold Txt.startswith
  rw [sub_zb]
  have : ((cd x).drop 0 |>.take 2 |> (· == [48, 98])) = false := by
    rw [beq_eq_false_iff_ne]
    intro q
    have : 98 ∈ cd x := by
      have h1 : 98 ∈ List.take 2 (List.drop 0 (cd x)) := by rw [q]; simp
      exact List.mem_of_mem_drop (List.mem_of_mem_take h1)
    exact h 98 this rfl
  rw [this, Bool.and_false]
theorem bareB_cd {x : Str} {ds : List Nat} (h : cd x = [48, 98] ++ ds) (hd : Bits3 ds) : cd (bareB x) = ds := by
  have hl : x.length = ds.length + 2 := by rw [← cd_len, h]; simp
  have at0 : StrLaws.At x zb x.length 0 := ⟨by rw [zb_len, hl]; omega, by rw [sub_zb, h]; simp⟩
  have only : ∀ c, 2 ≤ c → ¬ StrLaws.At x zb x.length c := by
    intro c hc hat
    have := hat.2
    rw [sub_zb, h, beq_iff_eq] at this
    have h1 : 98 ∈ List.take 2 (List.drop c ([48, 98] ++ ds)) := by rw [this]; simp
    have h2 : 98 ∈ ds := by
      have h3 := List.mem_of_mem_take h1
      obtain ⟨k, rfl⟩ : ∃ k, c = k + 2 := ⟨c - 2, by omega⟩
      rw [show List.drop (k + 2) ([48, 98] ++ ds) = List.drop k ds from rfl] at h3
      exact List.mem_of_mem_drop h3
    rcases hd 98 h2 with q | q | q <;> exact absurd q (by decide)
  have hocc : occurrences x zb 0 x.length (x.length + 1) = [0] := by
    rcases StrLaws.occ_head x zb (x.length + 1) (by omega) with ⟨_, hn⟩ | ⟨i, r, e, hat, _⟩
    · exact absurd at0 (hn 0)
    · obtain ⟨f, hch⟩ := StrLaws.occ_chain x zb (x.length + 1)
      rw [e] at hch ⊢
      have hi : i = 0 := by
        by_cases hz : i = 0
        · exact hz
        · exfalso
          by_cases h1 : i = 1
          · subst h1
            have := hat.2
            rw [sub_zb, h, beq_iff_eq] at this
            have : (List.take 2 (List.drop 1 ([48, 98] ++ ds))).head? = some 48 := by rw [this]; rfl
            simp at this
          · exact only i (by omega) hat
      subst hi
      cases r with
      | nil => rfl
      | cons c r =>
        obtain ⟨_, _, h3⟩ := hch
        obtain ⟨h4, h5, _⟩ := h3
        rw [zb_len] at h4
        exact absurd h5 (only c (by omega))
  unfold bareB Txt.replace
  rw [hocc, zb_len]
  have e : (([0] : List Nat).isEmpty || ((2 : Nat) == 0 && (Str.ofString "").length == 0)) = false := by decide +kernel
  rw [e, if_neg (by decide), StrLaws.glued_eq_join, StrLaws.partsBetween_eq]
  show cd (Str.join (Str.ofString "") [strSub x 0 0, strSub x (0 + 2) x.length]) = ds
  have z : cd (Str.ofString "") = [] := by decide +kernel
  show cd (strSub x 0 0 ++ Str.ofString "" ++ strSub x (0 + 2) x.length) = ds
  rw [cd_app, cd_app, z]
  have e1 : cd (strSub x 0 0) = [] := by
    have := StrLaws.strSub_toList x 0 0
    simpa using this
  have e2 : cd (strSub x (0 + 2) x.length) = ds := by
    have := StrLaws.strSub_toList x (0 + 2) x.length
    show (strSub x (0 + 2) x.length).cps.toList = ds
    rw [this]
    show List.take (x.length - (0 + 2)) (List.drop (0 + 2) (cd x)) = ds
    rw [h, hl]
    simp
  rw [e1, e2]; rfl
/-- a text that valid_bin refuses, fit for the contracts -/
structure WrongB (dg : Nat) (x : Str) : Prop where
  len : x.length ≤ 2000
  b3 : Txt.startswith x zb = true → Bits3 (bareB x).cps.toList ∧ 1 ≤ (bareB x).length ∧ (bareB x).length ≤ 4000
  bad : validB x dg = false
theorem fit_b3 {x : Str} {ds : List Nat} (h : cd x = [48, 98] ++ ds) (hd : Bits3 ds) (h1 : 1 ≤ ds.length) (h2 : ds.length ≤ 1000) : x.length ≤ 2000 ∧ Bits3 (bareB x).cps.toList ∧ 1 ≤ (bareB x).length ∧ (bareB x).length ≤ 4000 := by
  have e := bareB_cd h hd
  have el : (bareB x).length = ds.length := by rw [← cd_len, e]
  refine ⟨by rw [← cd_len, h, List.length_append]; simp; omega, ?_, by omega, by omega⟩
  show Bits3 (cd (bareB x))
  rw [e]; exact hd
theorem bin_good {n dg : Nat} (hdg : 1 ≤ dg ∧ dg ≤ 128) (hn : n < 2 ^ dg) (x : Str) (hx : x = zb ++ wtext (n.log2 + 1) n) : x.length ≤ 2000 ∧ (Bits3 (bareB x).cps.toList ∧ 1 ≤ (bareB x).length ∧ (bareB x).length ≤ 4000) ∧ validB x dg = true ∧ binVal (bareB x).cps.toList = n := by
  subst hx
  have hlog := log2_lt_of hdg.1 hn
  have hc : cd (zb ++ wtext (n.log2 + 1) n) = [48, 98] ++ wcodes (n.log2 + 1) n := by rw [cd_app, cd_zb, cd_wtext]
  have hb : Bits3 (wcodes (n.log2 + 1) n) := fun c q => by rcases wcodes_01 q with z | z; exact .inl z; exact .inr (.inl z)
  have e := bareB_cd hc hb
  obtain ⟨f1, f2, f3, f4⟩ := fit_b3 hc hb (by rw [wcodes_len]; omega) (by rw [wcodes_len]; omega)
  refine ⟨f1, ⟨f2, f3, f4⟩, ?_, ?_⟩
  · have el : (bareB (zb ++ wtext (n.log2 + 1) n)).length = n.log2 + 1 := by rw [← cd_len, e, wcodes_len]
    have n50 : 50 ∉ (bareB (zb ++ wtext (n.log2 + 1) n)).cps.toList := by
      show 50 ∉ cd (bareB (zb ++ wtext (n.log2 + 1) n))
      rw [e]
      intro q; rcases wcodes_01 q with z | z <;> exact absurd z (by decide)
    rw [validB, starts_yes hc, el]
    simp only [Bool.true_and, Bool.and_eq_true, decide_eq_true_eq, Bool.not_eq_true', decide_eq_false_iff_not]
    exact ⟨by omega, n50⟩
  · show binVal (cd (bareB (zb ++ wtext (n.log2 + 1) n))) = n
    rw [e, binVal_wcodes, Nat.mod_eq_of_lt]
    by_cases h0 : n = 0
    · subst h0; exact Nat.two_pow_pos _
    · exact (Nat.log2_lt h0).mp (Nat.lt_succ_self _)
theorem wrongB_bare {n dg k : Nat} (hk : k ≤ 1000) : WrongB dg (wtext k n) := by
  have hs : Txt.startswith (wtext k n) zb = false := starts_no fun c hc q => by
    rw [cd_wtext] at hc
    rcases wcodes_01 hc with z | z <;> (subst q; exact absurd z (by decide))
  refine ⟨by rw [wtext_len]; omega, fun q => (by rw [hs] at q; exact absurd q (by decide)), (by rw [validB, hs]; rfl)⟩
theorem wrongB_long {x : Str} {ds : List Nat} {dg : Nat} (h : cd x = [48, 98] ++ ds) (hd : Bits3 ds) (h1 : dg < ds.length) (h2 : ds.length ≤ 1000) : WrongB dg x := by
  obtain ⟨f1, f2⟩ := fit_b3 h hd (by omega) h2
  refine ⟨f1, fun _ => f2, ?_⟩
  have el : (bareB x).length = ds.length := by rw [← cd_len, bareB_cd h hd]
  rw [validB, el]
  have : decide (ds.length ≤ dg) = false := decide_eq_false (by omega)
  rw [this, Bool.and_false, Bool.false_and]
theorem wrongB_two {x : Str} {ds : List Nat} {dg : Nat} (h : cd x = [48, 98] ++ ds) (hd : Bits3 ds) (h1 : 50 ∈ ds) (h2 : ds.length ≤ 1000) : WrongB dg x := by
  obtain ⟨f1, f2⟩ := fit_b3 h hd (List.length_pos_of_mem h1) h2
  refine ⟨f1, fun _ => f2, ?_⟩
  have : decide (50 ∈ (bareB x).cps.toList) = true := decide_eq_true (by show 50 ∈ cd (bareB x); rw [bareB_cd h hd]; exact h1)
  rw [validB, this]; simp
end Mine
end
/- part N1 -/
section
open PySem PySem.W PyProof.Rows
open Sem (wp)
set_option Elab.async false
set_option maxRecDepth 100000
set_option maxHeartbeats 1000000
namespace Mine
abbrev lawB (i : Nat) : Stmt := nth (ifThen (lawSt 6)) i
theorem due_eq (v : Int) (one many : Nat) : ((List.range many).map fun k => v / 2 ^ (one * (many - 1 - k)) % 2 ^ one) = (lowWords v one many).reverse := by
  apply List.ext_getElem?
  intro j
  by_cases hj : j < many
  · rw [List.getElem?_reverse (by simp [lowWords]; exact hj)]
    simp [lowWords, hj, List.getElem?_range, show many - 1 - j < many by omega]
  · rw [List.getElem?_eq_none (by simp; omega), List.getElem?_eq_none (by simp [lowWords]; omega)]
/-- a list of the law's, in its ledger -/
def Held (F : List (Addr × Obj)) (D : Addr) (ys : Array Value) : Prop := ∃ o, (D, o) ∈ F ∧ o.cls = .type "list" ∧ ∃ n, o.data = .seq ys n
theorem Held.isList {w : World} {s0 s : Shared} {L : Addr} {F : List (Addr × Obj)} {m : Str → Option Value} {D : Addr} {ys : Array Value} (x : Held F D ys) (H : LS w s0 L F s m) : s.heap.IsList D ys :=
  let ⟨o, g, c, n, d⟩ := x; ⟨o, H.led _ g, c, n, d⟩
theorem Held.mono {F F' : List (Addr × Obj)} {D : Addr} {ys : Array Value} (x : Held F D ys) (h : ∀ p ∈ F, p ∈ F') : Held F' D ys := let ⟨o, g, r⟩ := x; ⟨o, h _ g, r⟩
section
variable {w : World} {s0 s : Shared} {L l : Addr} {F : List (Addr × Obj)} {m m' : Str → Option Value} {E : Value → Shared → Prop}
theorem lawB0 {one many n : Nat} {dv : Int} {sep : Str} {u T0 : Tok} {Q : Flow → Shared → Prop} (H : LS w s0 L F s m) (Sc : Scene L l F m one many (n : Int) dv sep u T0)
    (k : ∀ s' F' D ys, (∀ p ∈ F, p ∈ F') → LS w s0 L F' s' (upd m "due" (.ref D)) → Held F' D ys → IntsAre ys.toList (lowWords (n : Int) one many).reverse → Q .next s') :
    wpAny (model thePw w) (AL L) (exec (lawB 0) (envL L)) Q E s := by
  obtain ⟨o1, t1, c1, d1⟩ := Sc.c1
  obtain ⟨o2, t2, c2, d2⟩ := Sc.c2
  obtain ⟨o3, t3, c3, d3⟩ := Sc.c3
  have h1 := Sc.h1
  have h2 := Sc.h2
  refine wpAny_Assign_ListComp_free (cl := [("one", L + 1), ("number", L + 3), ("many", L + 2)]) (fun _ => true) (fun v y => ∃ k : Nat, ∃ t t', v = .int (k : Int) t ∧ y = .int ((n : Int) / 2 ^ (one * (many - 1 - k)) % 2 ^ one) t') (by rfl) (by rfl) (by decide) (by rfl) (by decide) (by rfl) (by rfl) (by rfl) ?_
  refine wpAny_Call_NameR (ldB H.I.S.ok (g_none _ _ (by decide)) b_range ?_)
  refine PySem.callWith_type rfl (Calls.evalArgs_plain (Calls.spliced_cons (ldC (H.cell c2 d2) (by rfl) ?_)))
  refine Calls.spliced_nil ?_
  refine range_it H.I (by omega) ?_
  intro s₂ it sm2 I2 hit hit0 hitL hits up2
  have H2 : LS w s0 L F s₂ m := H.ext sm2 up2
  have hF2 : ∀ p ∈ F, p.1 ≠ it := H.new hits
  have cc : ∀ {c : Addr} {o : Obj} {v : Option Value} (s₃ : Shared), (c, o) ∈ F → o.data = .cell v → (∀ b o, b ∉ [it] → s₂.heap.get? b = some o → s₃.heap.get? b = some o) → s₃.heap.IsCell c v := fun s₃ hc hd hk =>
    ⟨_, hk _ _ (fun q => hF2 _ hc (List.mem_singleton.mp q)) (H2.led _ hc), hd⟩
  refine ⟨it, [it], [it], many, _, _, m, rfl, walks_bounded (Walks.range I2.S.hd it 0 1 many), Nat.le_trans (by omega : many ≤ 8) (by decide), ?_, ?_, ?_, H2.I.ns, ⟨?_, ?_⟩, ?_⟩
  · simpa using hit
  · intro b hb
    rw [List.mem_singleton.mp hb]
    exact Heap.lt_size hit
  · exact fun q => hitL (List.mem_singleton.mp q).symm
  · intro C i v s₃ m₃ E' _ _ _ _ _ _
    rw [List.forIn_nil]
    exact wpAny_pure ⟨rfl, _, _, rfl, fun _ _ e => e⟩
  · rintro C i v s₃ m₃ E' hC ⟨hin, tu, rfl⟩ _ hns hm hk _
    refine wpAny_BinOp (wpAny_BinOp (ldC (cc _ c3 d3 hk) (by rfl) ?_))
    refine wpAny_BinOp (wpAny_Constant_int ?_)
    refine wpAny_BinOp (ldC (cc _ c1 d1 hk) (by rfl) ?_)
    refine wpAny_BinOp (wpAny_BinOp (ldC (cc _ c2 d2 hk) (by rfl) ?_))
    refine wpAny_Constant_int (P.sub_int ?_)
    refine ldL hns hm (P.sub_int ?_)
    have e1 : (many : Int) - 1 - (0 + (i : Int) * 1) = ((many - 1 - i : Nat) : Int) := by omega
    rw [e1]
    refine P.mul_int ?_ (IntMulOk.of_left (intBits_le_64 (by omega) (by omega)))
    have e2 : (one : Int) * ((many - 1 - i : Nat) : Int) = ((one * (many - 1 - i) : Nat) : Int) := by push_cast; rfl
    rw [e2]
    have hb : one * (many - 1 - i) ≤ 16 * 8 := Nat.mul_le_mul h1.2 (by omega)
    refine pow_int_small (Int.natCast_nonneg _) (by omega) (by decide) ?_
    rw [Int.toNat_natCast]
    have p : (0 : Int) < 2 ^ (one * (many - 1 - i)) := Int.pow_pos (by decide)
    have p1 : (0 : Int) < 2 ^ one := Int.pow_pos (by decide)
    refine floordiv_int (by omega) ?_ (.inl (PyProof.noPylong_of_log2 (by rw [two_pow_log2]; omega)))
    refine wpAny_BinOp (wpAny_Constant_int (ldC (cc _ c1 d1 hk) (by rfl) ?_))
    refine pow_int_small (Int.natCast_nonneg _) (by omega) (by decide) ?_
    rw [Int.toNat_natCast]
    refine mod_int' (by omega) ⟨⟨i, tu, _, ?_, congrArg (fun z => Value.int z _) ?_⟩, _, _, rfl, fun _ _ e => e⟩
    · congr 1; omega
    · rw [Int.fdiv_eq_ediv_of_nonneg _ (Int.le_of_lt p), Int.fmod_eq_emod_of_nonneg _ (Int.le_of_lt p1)]
  · intro D h4 tk4 ys us hDn hDl hDp hul hP hPair hn4 up4
    have hI := paired_ints (F := fun v y => ∃ k : Nat, ∃ t t', v = .int (k : Int) t ∧ y = .int ((n : Int) / 2 ^ (one * (many - 1 - k)) % 2 ^ one) t') (P := fun i v => i < many ∧ ∃ t, v = .int (0 + (i : Int) * 1) t) (g := fun k => (n : Int) / 2 ^ (one * (many - 1 - k)) % 2 ^ one) (by
      rintro j v y ⟨_, t, rfl⟩ ⟨k, t2, t3, e1, rfl⟩
      have : j = k := by injection e1; omega
      subst this; exact ⟨_, rfl⟩) 0 hPair (fun j v hj => by rw [Nat.zero_add]; rw [List.filter_eq_self.mpr (fun _ _ => rfl)] at hj; exact hP j v hj)
    rw [List.filter_eq_self.mpr (fun _ _ => rfl), hul] at hI
    simp only [Nat.zero_add] at hI
    rw [due_eq] at hI
    have H4 : LS w s0 L F { s₂ with heap := h4, toks := tk4 } (upd m "due" (.ref D)) := H2.comp (s' := { s₂ with heap := h4, toks := tk4 }) ⟨rfl, rfl, rfl⟩ (T := [it]) (fun b hb => by rw [List.mem_singleton.mp hb]; exact hit0) (fun p hp q => hF2 p hp (List.mem_singleton.mp q)) hn4 up4
    obtain ⟨oD, gD, cD, nD, dD⟩ := hDl
    exact k _ ((D, oD) :: F) D ys (fun p hp => .tail _ hp) (H4.add gD (H2.newL hDn)) ⟨oD, .head _, cD, nD, dD⟩ hI
theorem lawB1 {one many n : Nat} {dv : Int} {sep : Str} {u T0 : Tok} {Q : Flow → Shared → Prop} (H : LS w s0 L F s m) (Sc : Scene L l F m one many (n : Int) dv sep u T0) (hn : n < 2 ^ (one * many))
    (k : ∀ s' F' D ys, (∀ p ∈ F, p ∈ F') → LS w s0 L F' s' (upd m "words" (.ref D)) → Held F' D ys → IntsAre ys.toList (lowWords (n : Int) one many).reverse → Q .next s') :
    wpAny (model thePw w) (AL L) (exec (lawB 1) (envL L)) Q E s := by
  obtain ⟨o1, t1, c1, d1⟩ := Sc.c1
  obtain ⟨o2, t2, c2, d2⟩ := Sc.c2
  obtain ⟨o3, t3, c3, d3⟩ := Sc.c3
  refine wpAny_Assign_Name ?_ (by rfl)
  refine wpAny_Call_NameR (ldB H.I.S.ok (g_none _ _ (by decide)) b_list ?_)
  refine PySem.callWith_type rfl (Calls.evalArgs_plain (Calls.spliced_cons ?_))
  refine wpAny_Call_NameR (ldG H.I.S.ok (g_int_to_words _) ?_)
  refine Calls.callWith_function (o := kf1322) (fd := fdOf kf1322) (Calls.evalArgs_plain (Calls.spliced_cons (ldC (H.cell c3 d3) (by rfl) ?_)))
  refine Calls.spliced_cons (ldC (H.cell c1 d1) (by rfl) ?_)
  refine Calls.spliced_cons (ldC (H.cell c2 d2) (by rfl) ?_)
  refine Calls.spliced_nil ⟨⟨H.I.S.ok.K _ _ rfl, rfl⟩, ?_⟩
  have hn' : (n : Int) < 2 ^ (one * many) := by exact_mod_cast hn
  refine c_int_to_words H.I.S (by decide) Sc.h1 Sc.h2 ?_ (fun hb _ _ _ _ => absurd ⟨Int.natCast_nonneg _, hn'⟩ hb)
  intro _ _ s2 T xs sm2 k2 hTn hT hI
  have H2 : LS w s0 L F s2 m := H.kept sm2 k2
  have hxs : xs.size ≤ 8 := by
    rw [← Array.length_toList, ints_len hI]
    have h2 := Sc.h2
    simp [lowWords]; omega
  obtain ⟨oT, gT, cT, nT, dT⟩ := hT
  refine Calls.spliced_nil (call_list_seq T (.inr rfl) gT cT dT ?_ (Nat.le_trans hxs (by decide)))
  intro h3 c' up3 g3
  have H3 : LS w s0 L F { s2 with heap := h3 } m := H2.ext (s' := { s2 with heap := h3 }) ⟨rfl, rfl, rfl⟩ up3
  have H3' := H3.add (b := s2.heap.objs.size) g3 H2.I.Lne
  refine H3'.store fun s4 _ H4 => ?_
  exact k s4 _ _ xs (fun p hp => .tail _ hp) H4 ⟨_, .head _, rfl, _, rfl⟩ hI
end
end Mine
end
/- part N2 -/
section
open PySem PySem.W PyProof.Rows
open Sem (wp)
set_option Elab.async false
set_option maxRecDepth 100000
set_option maxHeartbeats 1000000
namespace Mine
theorem paired_strs_map {F : Value → Value → Prop} {g : Int → Str} {P : Int → Prop} (hF : ∀ n t y, P n → F (.int n t) y → ∃ t', y = .str (g n) t') : ∀ {vs ys : List Value} {ns : List Int}, IntsAre vs ns → (∀ n ∈ ns, P n) → Paired F vs ys → StrsAre ys (ns.map g)
  | _, _, _, .nil, _, .nil => .nil
  | _, _, _, .cons n t r, hP, .cons h q => by
    obtain ⟨t', rfl⟩ := hF n t _ (hP n (.head _)) h
    exact .cons _ _ (paired_strs_map hF r (fun k hk => hP k (.tail _ hk)) q)
section
variable {w : World} {s0 s : Shared} {L l : Addr} {F : List (Addr × Obj)} {m m' : Str → Option Value} {E : Value → Shared → Prop}
theorem lawB2 {one many n : Nat} {dv : Int} {sep : Str} {u T0 : Tok} {D : Addr} {ys : Array Value} {Q : Flow → Shared → Prop} (H : LS w s0 L F s m) (Sc : Scene L l F m one many (n : Int) dv sep u T0) (hd : m "due" = some (.ref D)) (hD : Held F D ys) (hI : IntsAre ys.toList (lowWords (n : Int) one many).reverse)
    (k : ∀ s' t, LS w s0 L F s' (upd m "text" (.str (lawText sep one many n) t)) → Q .next s') :
    wpAny (model thePw w) (AL L) (exec (lawB 2) (envL L)) Q E s := by
  obtain ⟨o1, t1, c1, d1⟩ := Sc.c1
  have h1 := Sc.h1
  have h2 := Sc.h2
  have hl := hD.isList H
  have hlen : (lowWords (n : Int) one many).reverse.length = many := by simp [lowWords]
  have hsz : ys.size = many := by rw [← hlen, ← ints_len hI, Array.length_toList]
  refine wpAny_Assign_Name ?_ (by rfl)
  refine Call_method1 (by rfl) (by rfl) (by rfl) (ldL H.I.ns Sc.mrk ?_)
  refine ⟨"str", "str.join", PySem.F.plainAttrs_str, PySem.F.slot_str_join, PySem.F.type_str_join, typeIs_str _ _ _, (fun _ e => nomatch e), ?_⟩
  refine Calls.callWith_builtin rfl (Calls.evalArgs_plain (Calls.spliced_cons ?_))
  refine wpAny_ListComp_free (cl := [("one", L + 1)]) (fun _ => true) (fun v y => ∃ n : Nat, ∃ t t', v = .int (n : Int) t ∧ y = .str (wtext one n) t') (by rfl) (by decide) (by rfl) (by decide) (by rfl) ?_
  refine ldL H.I.ns hd ?_
  refine wpAny_pyIter_list hl ?_
  have H3 := H.push { cls := .type "list_iterator", data := .fields #[.ref D, .int 0 0] }
  have hDi : D ≠ s.heap.objs.size := Nat.ne_of_lt (isList_lt hl)
  have hi0 : s0.heap.get? s.heap.objs.size = none := H.I.freshS
  have hiL : s.heap.objs.size ≠ L := H.I.Lne
  have hF3 : ∀ p ∈ F, p.1 ≠ s.heap.objs.size := H.new (Heap.get?_none_of_le (Nat.le_refl _))
  refine ⟨s.heap.objs.size, _, _, ys.size, _, _, rfl, Walks.list H3.I.S.hd s.heap.objs.size D hDi ys, ?_, ⟨⟨_, Heap.get?_push_size _ rfl, rfl, rfl⟩, hl.push _⟩, ?_, ⟨?_, ?_⟩, ?_⟩
  · rw [hsz]; exact Nat.le_trans h2.2 (by decide)
  · intro b hb
    show b < (s.heap.push _).objs.size
    rw [Heap.size_push]
    rcases List.mem_cons.mp hb with q | q
    · subst q; exact Nat.lt_succ_self _
    · obtain rfl := List.mem_singleton.mp q; exact Nat.lt_succ_of_lt (isList_lt hl)
  · intro C i v s₃ m₃ E' _ _ _ _ _ _
    rw [List.forIn_nil]
    exact wpAny_pure ⟨rfl, _, _, rfl, fun _ _ e => e⟩
  · rintro C i v s₃ m₃ E' hC pv _ hns hmx hk _
    obtain ⟨x, tx, hx, rfl⟩ := ints_get hI i v (by simpa using pv)
    obtain ⟨xn, rfl⟩ := Int.eq_ofNat_of_zero_le (lowWords_mem (List.mem_reverse.mp (List.mem_of_getElem? hx))).1
    have I3 : In w 0 callerA [] (envL L) s0.heap L s₃.heap m := H3.I.touchs (T := [s.heap.objs.size]) (fun b hb => by rw [List.mem_singleton.mp hb]; exact ⟨hi0, hiL⟩) hk
    have cO : s₃.heap.IsCell (L + 1) (some (.int (one : Int) t1)) := ⟨o1, hk _ _ (fun q => hF3 _ c1 (List.mem_singleton.mp q)) (H3.led _ c1), d1⟩
    refine wpAny_Call_NameR (ldG I3.S.ok (g_law_spelled _) ?_)
    refine Calls.callWith_function (o := kf1379) (fd := fdOf kf1379) (Calls.evalArgs_plain (Calls.spliced_cons (ldL hns hmx ?_)))
    refine Calls.spliced_cons (ldC cO (by rfl) ?_)
    refine Calls.spliced_nil ⟨⟨I3.S.ok.K _ _ rfl, rfl⟩, ?_⟩
    refine c_law_spelled I3.S (by decide) (by omega) ?_
    intro s4 t4 sm4 up4
    exact ⟨⟨xn, tx, t4, rfl, rfl⟩, s4.heap, s4.toks, sm4.eq, up4⟩
  · intro D2 h4 tk4 zs us hDn hDl hDp hul hP hPair up4
    have hus : us = ys.toList := items_all hul fun j v hj => hP j v hj
    rw [List.filter_eq_self.mpr (fun _ _ => rfl), hus] at hPair
    have hS : StrsAre zs.toList (wtexts one (lowWords (n : Int) one many).reverse) := paired_strs_map (g := fun x => wtext one x.toNat) (P := fun x => 0 ≤ x) (fun x t y _ hy => by
      obtain ⟨x', t', t'', e1, e2⟩ := hy
      obtain ⟨rfl, rfl⟩ : x = (x' : Int) ∧ t = t' := by injection e1 with a b; exact ⟨a, b⟩
      exact ⟨t'', by rw [e2, Int.toNat_natCast]⟩) hI (fun x hx => (lowWords_mem (List.mem_reverse.mp hx)).1) hPair
    have H4 : LS w s0 L F { s with heap := h4, toks := tk4 } m := H3.move (s' := { s with heap := h4, toks := tk4 }) ⟨rfl, rfl, rfl⟩ (H3.I.touchs (T := [s.heap.objs.size]) (fun b hb => by rw [List.mem_singleton.mp hb]; exact ⟨hi0, hiL⟩) up4) [s.heap.objs.size] (fun p hp q => hF3 p hp (List.mem_singleton.mp q)) fun b o _ n e => up4 b o n e
    refine Calls.spliced_nil ?_
    have hsl : sep.length ≤ 16 := by
      rcases Sc.hs with q | q | q | q <;> (rw [q]; decide +kernel)
    refine join_listW hDl hS hsl ?_ ?_
    · rw [wtexts_sum, wtexts_len, hlen]
      have : many * one ≤ 8 * 16 := Nat.mul_le_mul h2.2 h1.2
      omega
    intro tj kj
    exact LS.store (H4.ext ⟨rfl, rfl, rfl⟩ fun _ _ e => e) fun s' _ H' => k s' tj H'
end
end Mine
end
/- part N3 -/
section
open PySem PySem.W PyProof.Rows
open Sem (wp)
set_option Elab.async false
set_option maxRecDepth 100000
set_option maxHeartbeats 1000000
namespace Mine
theorem tellLow_low (one n : Nat) : ∀ k : Nat, tellLow one (lowWords (n : Int) one k) = ((n % 2 ^ (one * k) : Nat) : Int)
  | 0 => by simp [lowWords, tellLow, Nat.mod_one]
  | k + 1 => by
    rw [lowWords_succ, tellLow_snoc, tellLow_low one n k]
    have hl : (lowWords (n : Int) one k).length = k := by simp [lowWords]
    rw [hl, Nat.mul_succ, Nat.pow_add, Nat.mod_mul]
    push_cast
    rfl
theorem words_good (one many n : Nat) : wordsOk (lowWords (n : Int) one many).reverse (one : Int) (many : Int) = true := by
  have hl : (lowWords (n : Int) one many).reverse.length = many := by simp [lowWords]
  rw [wordsOk_eq, hl]
  have : (lowWords (n : Int) one many).reverse.filter (fun n => !(decide (0 ≤ n) && decide (n < 2 ^ one))) = [] := by
    rw [List.filter_eq_nil_iff]
    intro x hx
    have := lowWords_mem (List.mem_reverse.mp hx)
    simp [this.1, this.2]
  rw [decide_eq_true rfl, decide_eq_true this]; rfl
theorem words_tell {one many n : Nat} (hn : n < 2 ^ (one * many)) : tellLow one (lowWords (n : Int) one many).reverse.reverse = (n : Int) := by
  rw [List.reverse_reverse, tellLow_low, Nat.mod_eq_of_lt hn]
theorem sep_form {sep : Str} (h : sepOk sep) : sep.cps.toList = [] ∨ ∃ c, sep = ⟨#[c]⟩ := by
  rcases sep_codes h with q | ⟨c, q, _⟩
  · exact .inl q
  · exact .inr ⟨c, q⟩
section
variable {w : World} {s0 s : Shared} {L l : Addr} {F : List (Addr × Obj)} {m m' : Str → Option Value} {E : Value → Shared → Prop}
theorem lawB3 {one many n : Nat} {dv : Int} {sep : Str} {u T0 : Tok} {D1 D2 : Addr} {y1 y2 : Array Value} {Q : Flow → Shared → Prop} (H : LS w s0 L F s m) (Sc : Scene L l F m one many (n : Int) dv sep u T0) (hn : n < 2 ^ (one * many))
    (hw : m "words" = some (.ref D1)) (hD1 : Held F D1 y1) (i1 : IntsAre y1.toList (lowWords (n : Int) one many).reverse) (hd : m "due" = some (.ref D2)) (hD2 : Held F D2 y2) (i2 : IntsAre y2.toList (lowWords (n : Int) one many).reverse)
    (k : ∀ s', LS w s0 L F s' m → Q .next s') : wpAny (model thePw w) (AL L) (exec (lawB 3) (envL L)) Q E s := by
  obtain ⟨o1, t1, c1, d1⟩ := Sc.c1
  obtain ⟨o2, t2, c2, d2⟩ := Sc.c2
  obtain ⟨o3, t3, c3, d3⟩ := Sc.c3
  have h1 := Sc.h1
  have h2 := Sc.h2
  have hl1 := hD1.isList H
  have hl2 := hD2.isList H
  have hlen : (lowWords (n : Int) one many).reverse.length = many := by simp [lowWords]
  refine wpAny_If (isTrue_or (wpAny_isTrue_Compare1 ?_))
  refine ldL H.I.ns hw (ldL H.I.ns hd ?_)
  refine ne_intsK (vs := y1.toList) (us := y2.toList) (by simpa using hl1) i1 (by simpa using hl2) i2 (Nat.lt_of_le_of_lt (Nat.add_le_add_right H.I.S.un 64) (by decide)) ?_
  refine tb false (by simp) ?_
  refine isTrue_or (wpAny_isTrue_Compare1 ?_)
  refine wpAny_Call_NameR (ldG H.I.S.ok (g_words_to_int _) ?_)
  refine Calls.callWith_function (o := kf1329) (fd := fdOf kf1329) (Calls.evalArgs_plain (Calls.spliced_cons (ldL H.I.ns hw ?_)))
  refine Calls.spliced_cons (ldC (H.cell c1 d1) (by rfl) ?_)
  refine Calls.spliced_cons (ldC (H.cell c2 d2) (by rfl) ?_)
  refine Calls.spliced_nil ⟨⟨H.I.S.ok.K _ _ rfl, rfl⟩, ?_⟩
  refine c_words_to_int H.I.S (by decide) hl1 i1 (by omega) h1 ?_ (fun hb => absurd ((words_good one many n).symm.trans hb) (by decide))
  intro _ s2 t4 sm2 k2
  have H2 := H.kept sm2 k2
  rw [words_tell hn]
  refine ldC (H2.cell c3 d3) (by rfl) (P.ne_int ?_)
  refine tb false (by simp) ?_
  refine isTrue_or (wpAny_isTrue_Not (wpAny_isTrue_value ?_ (by rfl)))
  refine wpAny_Call_NameR (ldG H2.I.S.ok (g_valid_words _) ?_)
  refine Calls.callWith_function (o := kf1315) (fd := fdOf kf1315) (Calls.evalArgs_plain (Calls.spliced_cons (ldL H2.I.ns hw ?_)))
  refine Calls.spliced_cons (ldC (H2.cell c1 d1) (by rfl) ?_)
  refine Calls.spliced_cons (ldC (H2.cell c2 d2) (by rfl) ?_)
  refine Calls.spliced_nil ⟨⟨H2.I.S.ok.K _ _ rfl, rfl⟩, ?_⟩
  refine c_valid_words H2.I.S (by decide) (hD1.isList H2) i1 (by rw [hlen]; exact Nat.le_trans h2.2 (by decide)) (Int.natCast_nonneg _) (by omega) ?_
  intro h3 tk3 k3
  rw [words_good]
  refine tb true rfl ?_
  refine isTrue_or_nil ?_
  show wpAny (model thePw w) (AL L) (execs [] (envL L)) _ _ _
  exact wpAny_execs_nil (k _ (H2.kept (s' := { s2 with heap := h3, toks := tk3 }) ⟨rfl, rfl, rfl⟩ k3))
theorem lawB4 {one many n : Nat} {dv : Int} {sep : Str} {u T0 : Tok} {tt : Tok} {Q : Flow → Shared → Prop} (H : LS w s0 L F s m) (Sc : Scene L l F m one many (n : Int) dv sep u T0) (hn : n < 2 ^ (one * many)) (ht : T0 ≤ s.toks)
    (hx : m "text" = some (.str (lawText sep one many n) tt)) (k : ∀ s', LS w s0 L F s' m → Q .next s') : wpC (model thePw w) (AL L) (exec (lawB 4) (envL L)) Q E s := by
  obtain ⟨o1, t1, c1, d1⟩ := Sc.c1
  obtain ⟨o2, t2, c2, d2⟩ := Sc.c2
  obtain ⟨o3, t3, c3, d3⟩ := Sc.c3
  obtain ⟨tdg, hdg⟩ := Sc.dg
  have hmk := Sc.mrk
  have dgl := Sc.dgl
  have h1 := Sc.h1
  have h2 := Sc.h2
  have hn' : (n : Int) < 2 ^ (one * many) := by exact_mod_cast hn
  have hsl : sep.length ≤ 16 := by
    rcases Sc.hs with q | q | q | q <;> (rw [q]; decide +kernel)
  obtain ⟨g1, g2, g3, g4⟩ := text_good Sc.hs hn
  have hu : u ≠ 0 := Nat.pos_iff_ne_zero.mp Sc.u0
  have hT0 : 0 < T0 := Nat.lt_trans Sc.u0 Sc.uT
  have hxl := Nat.le_trans (lawText_len Sc.hs (n := n) h1.2 h2.2) (by decide : 200 ≤ 2000)
  refine C_If (C_isTrue_or (wpC_with_toks ht (wpC_any (wpAny_isTrue_Compare1 ?_))))
  refine wpAny_Call_NameR (ldG H.I.S.ok (g_int_to_bits _) ?_)
  refine Calls.callWith_function (o := kf1353) (fd := fdOf kf1353) (Calls.evalArgs_plain (Calls.spliced_cons (ldC (H.cell c3 d3) (by rfl) ?_)))
  refine Calls.spliced_cons (ldC (H.cell c1 d1) (by rfl) ?_)
  refine Calls.spliced_cons (ldC (H.cell c2 d2) (by rfl) ?_)
  refine Calls.spliced_cons (ldL H.I.ns hmk ?_)
  refine Calls.spliced_nil ⟨⟨H.I.S.ok.K _ _ rfl, rfl⟩, ?_⟩
  refine c_int_to_bits H.I.S (by decide) h1 h2 hsl ?_ (fun hb => absurd ⟨Int.natCast_nonneg _, hn'⟩ hb)
  intro _ _ s2 t4 sm2 k2
  have H2 := H.kept sm2 k2
  refine ldL H2.I.ns hx (ne_str ?_)
  refine tb false (by simp) ?_
  intro ht2
  show wpC (model thePw w) (AL L) _ _ _ _
  refine C_isTrue_or (wpC_with_toks ht2 (C_isTrue_Compare1 ?_))
  refine C_Call_NameR (ldG H2.I.S.ok (g_bits_to_int _) ?_)
  refine C_callWith_function (o := kf1345) (fd := fdOf kf1345) (Calls.evalArgs_plain (Calls.spliced_cons (ldL H2.I.ns hx ?_)))
  refine Calls.spliced_cons (ldL H2.I.ns hdg ?_)
  refine Calls.spliced_cons (ldL H2.I.ns hmk ?_)
  refine Calls.spliced_nil ⟨⟨H2.I.S.ok.K _ _ rfl, rfl⟩, ?_⟩
  refine c_bits_to_int H2.I.S (by decide) (Nat.lt_of_lt_of_le hT0 ht2) hu (Nat.lt_of_lt_of_le Sc.uT ht2) (sep_form Sc.hs) hxl (fun _ => g2) dgl ?_ (fun hb => absurd (g3.symm.trans hb) (by decide))
  intro _ s3 t5 sm3 k3
  have H3 := H2.kept sm3 k3
  rw [g4]
  refine ldC (H3.cell c3 d3) (by rfl) (P.ne_int ?_)
  refine tb false (by simp) ?_
  intro ht3
  show wpC (model thePw w) (AL L) _ _ _ _
  refine C_isTrue_or (C_isTrue_Not (C_isTrue_value ?_ (by rfl)))
  refine C_Call_NameR (ldG H3.I.S.ok (g_valid_bits _) ?_)
  refine C_callWith_function (o := kf1337) (fd := fdOf kf1337) (Calls.evalArgs_plain (Calls.spliced_cons (ldL H3.I.ns hx ?_)))
  refine Calls.spliced_cons (ldL H3.I.ns hdg ?_)
  refine Calls.spliced_cons (ldL H3.I.ns hmk ?_)
  refine Calls.spliced_nil ⟨⟨H3.I.S.ok.K _ _ rfl, rfl⟩, ?_⟩
  refine c_valid_bits H3.I.S (by decide) (Nat.lt_of_lt_of_le hT0 ht3) hu (Nat.lt_of_lt_of_le Sc.uT ht3) (sep_form Sc.hs) hxl (fun _ => g2) dgl ?_
  intro s4 sm4 k4
  have H4 := H3.kept sm4 k4
  rw [g3]
  refine tb true rfl ?_
  refine C_isTrue_or_nil ?_
  show wpC (model thePw w) (AL L) (execs [] (envL L)) _ _ _
  exact execsC_nil (k _ H4)
end
end Mine
end
/- part N4 -/
section
open PySem PySem.W PyProof.Rows
open Sem (wp)
set_option Elab.async false
set_option maxRecDepth 100000
set_option maxHeartbeats 1000000
namespace Mine
theorem bits_of (n : Nat) : (((Builtin.Int.intBits (n : Int) : Nat) : Int) > 1 ∧ Builtin.Int.intBits (n : Int) = n.log2 + 1) ∨ (¬ ((Builtin.Int.intBits (n : Int) : Nat) : Int) > 1 ∧ n.log2 = 0) := by
  unfold Builtin.Int.intBits
  by_cases h0 : n = 0
  · subst h0
    exact .inr ⟨by simp, Nat.log2_zero⟩
  · have hne : ((n : Int) == 0) = false := by simpa using h0
    rw [hne, if_neg Bool.false_ne_true, Int.natAbs_natCast]
    by_cases h1 : n.log2 = 0
    · exact .inr ⟨by rw [h1]; simp, h1⟩
    · exact .inl ⟨by omega, rfl⟩
section
variable {w : World} {s0 s : Shared} {L l : Addr} {F : List (Addr × Obj)} {m m' : Str → Option Value} {E : Value → Shared → Prop}
abbrev shortText (n : Nat) : Str := wtext (n.log2 + 1) n
theorem lawB5 {one many n : Nat} {dv : Int} {sep : Str} {u T0 : Tok} {Q : Flow → Shared → Prop} (H : LS w s0 L F s m) (Sc : Scene L l F m one many (n : Int) dv sep u T0) (hn : n < 2 ^ (one * many))
    (k : ∀ s' t, LS w s0 L F s' (upd m "short" (.str (shortText n) t)) → Q .next s') : wpAny (model thePw w) (AL L) (exec (lawB 5) (envL L)) Q E s := by
  obtain ⟨o3, t3, c3, d3⟩ := Sc.c3
  have dgl := Sc.dgl
  have hlog := log2_lt_of dgl.1 hn
  refine wpAny_Assign_Name ?_ (by rfl)
  refine wpAny_Call_NameR (ldG H.I.S.ok (g_law_spelled _) ?_)
  refine Calls.callWith_function (o := kf1379) (fd := fdOf kf1379) (Calls.evalArgs_plain (Calls.spliced_cons (ldC (H.cell c3 d3) (by rfl) ?_)))
  refine Calls.spliced_cons ?_
  refine wpAny_Call_NameR (ldB H.I.S.ok (g_none _ _ (by decide)) b_max ?_)
  refine Calls.callWith_builtin rfl (Calls.evalArgs_plain (Calls.spliced_cons (wpAny_Constant_int (k := 0) (pos := default) ?_)))
  refine Calls.spliced_cons ?_
  refine Call_method0 (by rfl) (by rfl) (ldC (H.cell c3 d3) (by rfl) ?_)
  refine ⟨"int", "int.bit_length", PySem.F.plainAttrs_int, PySem.F.slot_int_bit_length, PySem.F.type_int_bit_length, typeIs_int _ _ _, (fun _ e => nomatch e), ?_⟩
  refine method0_gives PySem.F.slot_int_bit_length PySem.F.entry_int_bit_length (typeIs_int _ _ _) (PySem.F.args_int_bit_length_1 _) (AutoIntG2.int_bit_length_int_0 _ _) ?_
  refine Calls.spliced_nil (max_two_ints H.I.S.hd ?_)
  intro h2 tk2 up2
  have H2 : LS w s0 L F { s with heap := h2, toks := tk2 } m := H.ext (s' := { s with heap := h2, toks := tk2 }) ⟨rfl, rfl, rfl⟩ up2
  rcases bits_of n with ⟨g1, g2⟩ | ⟨g1, g2⟩
  · rw [if_pos g1, g2]
    refine Calls.spliced_nil ⟨⟨H2.I.S.ok.K _ _ rfl, rfl⟩, ?_⟩
    refine c_law_spelled (s := { s with heap := h2, toks := tk2 }) H2.I.S (by decide) (by omega) ?_
    intro s3 t3 sm3 up3
    exact LS.store (H2.ext sm3 up3) fun s' _ H' => k s' t3 H'
  · rw [if_neg g1]
    refine Calls.spliced_nil ⟨⟨H2.I.S.ok.K _ _ rfl, rfl⟩, ?_⟩
    refine c_law_spelled (n := 1) (s := { s with heap := h2, toks := tk2 }) H2.I.S (by decide) (by omega) ?_
    intro s3 t3 sm3 up3
    refine LS.store (H2.ext sm3 up3) fun s' _ H' => k s' t3 ?_
    rw [show shortText n = wtext 1 n by rw [shortText, g2]]
    exact H'
theorem lawB6 {one many n : Nat} {dv : Int} {sep : Str} {u T0 : Tok} {tt : Tok} {Q : Flow → Shared → Prop} (H : LS w s0 L F s m) (Sc : Scene L l F m one many (n : Int) dv sep u T0) (hn : n < 2 ^ (one * many)) (ht : T0 ≤ s.toks)
    (hx : m "short" = some (.str (shortText n) tt)) (k : ∀ s', LS w s0 L F s' m → Q .next s') : wpC (model thePw w) (AL L) (exec (lawB 6) (envL L)) Q E s := by
  obtain ⟨o3, t3, c3, d3⟩ := Sc.c3
  obtain ⟨tdg, hdg⟩ := Sc.dg
  have dgl := Sc.dgl
  have hlog := log2_lt_of dgl.1 hn
  have hT0 : 0 < T0 := Nat.lt_trans Sc.u0 Sc.uT
  obtain ⟨g1, g2, g3, g4⟩ := bin_good dgl hn (zb ++ shortText n) rfl
  have hxl : (baseText "0b" 2 (n : Int)).length ≤ 1100000 := by have := bin_len (n : Int); rw [Int.natAbs_natCast] at this; omega
  have hsz : zb.length + (shortText n).length ≤ sizeLine := by rw [zb_len, wtext_len]; exact Nat.le_trans (by omega : 2 + (n.log2 + 1) ≤ 200) (by decide)
  refine C_If (C_isTrue_or (wpC_with_toks ht (wpC_any (wpAny_isTrue_Compare1 ?_))))
  refine wpAny_Call_NameR (ldG H.I.S.ok (g_int_to_bin _) ?_)
  refine Calls.callWith_function (o := kf1367) (fd := fdOf kf1367) (Calls.evalArgs_plain (Calls.spliced_cons (ldC (H.cell c3 d3) (by rfl) ?_)))
  refine Calls.spliced_cons (ldL H.I.ns hdg ?_)
  refine Calls.spliced_nil ⟨⟨H.I.S.ok.K _ _ rfl, rfl⟩, ?_⟩
  refine c_int_to_bin H.I.S (by decide) rfl rfl hxl (fun _ => ?_) (fun hb => ?_)
  case refine_2 => rw [bin_tail] at hb; omega
  intro s2 t4 sm2 k2
  have H2 := H.kept sm2 k2
  refine wpAny_BinOp (wpAny_Constant_str (ldL H2.I.ns hx ?_))
  refine SB.add ?_ hsz
  intro ta ka
  refine ne_str ?_
  refine tb false (by rw [bin_text]; simp) ?_
  intro ht2
  have H2' : LS w s0 L F { s2 with toks := ka } m := H2.tok
  show wpC (model thePw w) (AL L) _ _ _ { s2 with toks := ka }
  refine C_isTrue_or (wpC_with_toks ht2 (C_isTrue_Compare1 ?_))
  refine C_Call_NameR (ldG H2'.I.S.ok (g_bin_to_int _) ?_)
  refine C_callWith_function (o := kf1374) (fd := fdOf kf1374) (Calls.evalArgs_plain (Calls.spliced_cons (wpAny_with_toks ht2 (wpAny_BinOp (wpAny_Constant_str (k := 0) (pos := default) (ldL H2'.I.ns hx ?_))))))
  refine SB.add ?_ hsz
  intro tb' kb htb
  have H2b : LS w s0 L F { s2 with toks := kb } m := H2.tok
  refine Calls.spliced_cons (ldL H2b.I.ns hdg ?_)
  refine Calls.spliced_nil ⟨⟨H2b.I.S.ok.K _ _ rfl, rfl⟩, ?_⟩
  refine c_bin_to_int (s := { s2 with toks := kb }) (x := zb ++ shortText n) H2b.I.S (by decide) (Nat.lt_of_lt_of_le hT0 htb) g1 (fun _ => g2) dgl ?_ (fun hb => absurd (g3.symm.trans hb) (by decide))
  intro _ s3 t5 sm3 k3
  have H3 := H2b.kept sm3 k3
  rw [g4]
  refine ldC (H3.cell c3 d3) (by rfl) (P.ne_int ?_)
  refine tb false (by simp) ?_
  intro ht3
  have H3' : LS w s0 L F { s3 with toks := s3.toks } m := H3
  show wpC (model thePw w) (AL L) _ _ _ _
  refine C_isTrue_or (C_isTrue_Not (C_isTrue_value ?_ (by rfl)))
  refine C_Call_NameR (ldG H3.I.S.ok (g_valid_bin _) ?_)
  refine C_callWith_function (o := kf1360) (fd := fdOf kf1360) (Calls.evalArgs_plain (Calls.spliced_cons (wpAny_with_toks ht3 (wpAny_BinOp (wpAny_Constant_str (k := 0) (pos := default) (ldL H3.I.ns hx ?_))))))
  refine SB.add ?_ hsz
  intro tc kc htc
  have H3b : LS w s0 L F { s3 with toks := kc } m := H3.tok
  refine Calls.spliced_cons (ldL H3b.I.ns hdg ?_)
  refine Calls.spliced_nil ⟨⟨H3b.I.S.ok.K _ _ rfl, rfl⟩, ?_⟩
  refine c_valid_bin (s := { s3 with toks := kc }) (x := zb ++ shortText n) H3b.I.S (by decide) (Nat.lt_of_lt_of_le hT0 htc) g1 (fun _ => g2) dgl ?_
  intro s4 sm4 k4
  have H4 := H3b.kept sm4 k4
  rw [g3]
  refine tb true rfl ?_
  refine C_isTrue_or_nil ?_
  show wpC (model thePw w) (AL L) (execs [] (envL L)) _ _ _
  exact execsC_nil (k _ H4)
end
end Mine
end
/- part N5 -/
section
open PySem PySem.W PyProof.Rows
open Sem (wp)
set_option Elab.async false
set_option maxRecDepth 100000
set_option maxHeartbeats 1000000
namespace Mine
section
variable {w : World} {s0 s : Shared} {L l : Addr} {F : List (Addr × Obj)} {m m' : Str → Option Value} {E : Value → Shared → Prop}
/-- a wrong binary text is refused by both -/
theorem body7 {one many : Nat} {N dv : Int} {sep x : Str} {u T0 t : Tok} {R : Flow → Shared → Prop} (H : LS w s0 L F s m) (Sc : Scene L l F m one many N dv sep u T0) (ht : T0 ≤ s.toks) (hw : m "wrong" = some (.str x t)) (W : WrongB (one * many) x)
    (k : ∀ s', LS w s0 L F s' m → R .next s') : wpC (model thePw w) (AL L) (execs (forBody (lawB 7)) (envL L)) R (fun _ _ => False) s := by
  obtain ⟨tdg, hdg⟩ := Sc.dg
  have dgl := Sc.dgl
  have hT0 : 0 < T0 := Nat.lt_trans Sc.u0 Sc.uT
  show wpC (model thePw w) (AL L) (execs (_ :: _ :: []) (envL L)) _ _ _
  refine stmtC ht (C_If (C_isTrue_value ?_ (by rfl)))
  refine C_Call_NameR (ldG H.I.S.ok (g_valid_bin _) ?_)
  refine C_callWith_function (o := kf1360) (fd := fdOf kf1360) (Calls.evalArgs_plain (Calls.spliced_cons (ldL H.I.ns hw ?_)))
  refine Calls.spliced_cons (ldL H.I.ns hdg ?_)
  refine Calls.spliced_nil ⟨⟨H.I.S.ok.K _ _ rfl, rfl⟩, ?_⟩
  refine c_valid_bin H.I.S (by decide) (Nat.lt_of_lt_of_le hT0 ht) W.len W.b3 dgl ?_
  intro s2 sm2 k2
  have H2 := H.kept sm2 k2
  rw [W.bad]
  refine tb false rfl ?_
  show wpC (model thePw w) (AL L) (execs [] (envL L)) _ _ _
  refine execsC_nil fun ht2 => ?_
  show wpC (model thePw w) (AL L) (execs (_ :: []) (envL L)) _ _ _
  refine execsC_cons (C_Try ?_)
  refine execsC_cons (C_Expr ?_ (by rfl) (by rfl))
  refine C_Call_NameR (ldG H2.I.S.ok (g_bin_to_int _) ?_)
  refine C_callWith_function (o := kf1374) (fd := fdOf kf1374) (Calls.evalArgs_plain (Calls.spliced_cons (ldL H2.I.ns hw ?_)))
  refine Calls.spliced_cons (ldL H2.I.ns hdg ?_)
  refine Calls.spliced_nil ⟨⟨H2.I.S.ok.K _ _ rfl, rfl⟩, ?_⟩
  refine c_bin_to_int H2.I.S (by decide) (Nat.lt_of_lt_of_le hT0 ht2) W.len W.b3 dgl (fun hv => absurd (hv.symm.trans W.bad) (by decide)) ?_
  intro _ e s3 sm3 ht3
  refine noted_thrown H2.I ht3 ?_
  intro a a0 h5 he hH hu5
  subst he
  refine caught (s := { s3 with heap := h5 }) H2.I hH hu5 (by rw [isSubtype_type]; kernel_rfl) (by kernel_rfl) (by rw [isSubtype_type]; kernel_rfl) b_ValueError (g_none _ _ (by decide)) ?_
  intro h6 E' k6 I6
  have H6 : LS w s0 L F { s3 with heap := h6 } m := H2.kept (s' := { s3 with heap := h6 }) ⟨sm3.gens, sm3.drawn, sm3.os⟩ k6
  exact wpAny_execs_cons (wpAny_Pass (wpAny_execs_nil (execsC_nil (k _ H6))))
/-- a wrong text of bits is refused by both -/
theorem body9 {one many : Nat} {N dv : Int} {sep x : Str} {u T0 t : Tok} {R : Flow → Shared → Prop} (H : LS w s0 L F s m) (Sc : Scene L l F m one many N dv sep u T0) (ht : T0 ≤ s.toks) (hw : m "wrong" = some (.str x t)) (W : WrongT sep (one * many) x)
    (k : ∀ s', LS w s0 L F s' m → R .next s') : wpC (model thePw w) (AL L) (execs (forBody (lawB 9)) (envL L)) R (fun _ _ => False) s := by
  obtain ⟨tdg, hdg⟩ := Sc.dg
  have hmk := Sc.mrk
  have dgl := Sc.dgl
  have hT0 : 0 < T0 := Nat.lt_trans Sc.u0 Sc.uT
  have hu : u ≠ 0 := Nat.pos_iff_ne_zero.mp Sc.u0
  show wpC (model thePw w) (AL L) (execs (_ :: _ :: []) (envL L)) _ _ _
  refine stmtC ht (C_If (C_isTrue_value ?_ (by rfl)))
  refine C_Call_NameR (ldG H.I.S.ok (g_valid_bits _) ?_)
  refine C_callWith_function (o := kf1337) (fd := fdOf kf1337) (Calls.evalArgs_plain (Calls.spliced_cons (ldL H.I.ns hw ?_)))
  refine Calls.spliced_cons (ldL H.I.ns hdg ?_)
  refine Calls.spliced_cons (ldL H.I.ns hmk ?_)
  refine Calls.spliced_nil ⟨⟨H.I.S.ok.K _ _ rfl, rfl⟩, ?_⟩
  refine c_valid_bits H.I.S (by decide) (Nat.lt_of_lt_of_le hT0 ht) hu (Nat.lt_of_lt_of_le Sc.uT ht) (sep_form Sc.hs) W.len W.b3 dgl ?_
  intro s2 sm2 k2
  have H2 := H.kept sm2 k2
  rw [W.bad]
  refine tb false rfl ?_
  show wpC (model thePw w) (AL L) (execs [] (envL L)) _ _ _
  refine execsC_nil fun ht2 => ?_
  show wpC (model thePw w) (AL L) (execs (_ :: []) (envL L)) _ _ _
  refine execsC_cons (C_Try ?_)
  refine execsC_cons (C_Expr ?_ (by rfl) (by rfl))
  refine C_Call_NameR (ldG H2.I.S.ok (g_bits_to_int _) ?_)
  refine C_callWith_function (o := kf1345) (fd := fdOf kf1345) (Calls.evalArgs_plain (Calls.spliced_cons (ldL H2.I.ns hw ?_)))
  refine Calls.spliced_cons (ldL H2.I.ns hdg ?_)
  refine Calls.spliced_cons (ldL H2.I.ns hmk ?_)
  refine Calls.spliced_nil ⟨⟨H2.I.S.ok.K _ _ rfl, rfl⟩, ?_⟩
  refine c_bits_to_int H2.I.S (by decide) (Nat.lt_of_lt_of_le hT0 ht2) hu (Nat.lt_of_lt_of_le Sc.uT ht2) (sep_form Sc.hs) W.len W.b3 dgl (fun hv => absurd (hv.symm.trans W.bad) (by decide)) ?_
  intro _ e s3 sm3 ht3
  refine noted_thrown H2.I ht3 ?_
  intro a a0 h5 he hH hu5
  subst he
  refine caught (s := { s3 with heap := h5 }) H2.I hH hu5 (by rw [isSubtype_type]; kernel_rfl) (by kernel_rfl) (by rw [isSubtype_type]; kernel_rfl) b_ValueError (g_none _ _ (by decide)) ?_
  intro h6 E' k6 I6
  have H6 : LS w s0 L F { s3 with heap := h6 } m := H2.kept (s' := { s3 with heap := h6 }) ⟨sm3.gens, sm3.drawn, sm3.os⟩ k6
  exact wpAny_execs_cons (wpAny_Pass (wpAny_execs_nil (execsC_nil (k _ H6))))
/-- a loop over a tuple of texts -/
theorem loopW {T : Addr} {items : Array Value} {px : Pos} {body : List Stmt} {P : Str → Prop} {T0 : Tok} {Q' : Result → Shared → Prop} (H : LS w s0 L F s m) (ht : T0 ≤ s.toks) (hT : s.heap.IsTuple T items) (hTL : T ≠ L) (hit : ∀ v ∈ items.toList, ∃ x t, v = .str x t ∧ P x)
    (bodyOk : ∀ s' F' m' x t, (∀ p ∈ F, p ∈ F') → T0 ≤ s'.toks → (∀ y : Str, y ≠ "wrong" → m' y = m y) → LS w s0 L F' s' m' → m' "wrong" = some (.str x t) → P x → ∀ R : Flow → Shared → Prop, (∀ s'', LS w s0 L F' s'' m' → R .next s'') → wpC (model thePw w) (AL L) (execs body (envL L)) R (fun _ _ => False) s')
    (k : ∀ s' m', T0 ≤ s'.toks → LS w s0 L F s' m' → (∀ y : Str, y ≠ "wrong" → m' y = m y) → Q' (.ok .next) s') :
    wpAny (model thePw w) (AL L) (pyIter (.ref T)) (fun it s₂ => codeC (model thePw w) (AL L) (.forLoop (.Name "wrong" px) it body [] (envL L)) Q' s₂) E s := by
  refine wpAny_pyIter_tuple hT ?_
  have H1 := H.push { cls := .type "tuple_iterator", data := .fields #[.ref T, .int 0 0] }
  have hTi : T ≠ s.heap.objs.size := Nat.ne_of_lt (tuple_lt hT)
  have hT1 : (s.heap.push { cls := .type "tuple_iterator", data := .fields #[.ref T, .int 0 0] }).IsTuple T items := by
    obtain ⟨o, ho, r⟩ := hT
    exact ⟨o, Heap.get?_push_of_some _ ho, r⟩
  refine H1.forC (T0 := T0) (fun _ m' => ∀ y : Str, y ≠ "wrong" → m' y = m y) ht (Walks.tuple H1.I.S.hd _ T hTi items) ⟨⟨_, Heap.get?_push_size _ rfl, rfl, rfl⟩, hT1⟩ ?_ ?_ ?_ ?_ ?_ ?_ ?_
  · intro b hb
    obtain rfl := List.mem_singleton.mp hb
    exact ⟨H.I.freshS, H.I.Lne⟩
  · exact fun p hp q => H.new (Heap.get?_none_of_le (Nat.le_refl _)) p hp (List.mem_singleton.mp q)
  · intro q
    rcases List.mem_cons.mp q with q | q
    · exact H.I.Lne q.symm
    · exact hTL (List.mem_singleton.mp q).symm
  · rintro i h ⟨⟨o, ho, _⟩, ⟨o', ho', _⟩⟩ b hb
    rcases List.mem_cons.mp hb with q | q
    · subst q; exact ⟨o, ho⟩
    · obtain rfl := List.mem_singleton.mp q; exact ⟨o', ho'⟩
  · exact fun _ _ => rfl
  · rintro i v s' m' F' hF' ht' hi pv j H'
    have hv : v ∈ items.toList := by
      rw [← Array.getElem?_toList] at pv
      exact List.mem_of_getElem? pv
    obtain ⟨x, t, rfl, hx⟩ := hit v hv
    refine bodyOk s' F' _ x t hF' ht' (fun y hy => (upd_ne hy).trans (j y hy)) H' upd_same hx _ fun s'' H'' => ⟨_, H'', fun y hy => (upd_ne hy).trans (j y hy)⟩
  · exact fun s' m' ht' j H' => k s' m' ht' H' j
end
end Mine
end
/- part N6 -/
section
open PySem PySem.W PyProof.Rows
open Sem (wp)
set_option Elab.async false
set_option maxRecDepth 100000
set_option maxHeartbeats 1000000
namespace Mine
theorem rep_bits {c n : Nat} (h : c = 48 ∨ c = 49 ∨ c = 50) : Bits3 (List.replicate n c) := fun x hx => by rw [(List.mem_replicate.mp hx).2]; exact h
theorem bits_app {a b : List Nat} (ha : Bits3 a) (hb : Bits3 b) : Bits3 (a ++ b) := fun x hx => (List.mem_append.mp hx).elim (ha x) (hb x)
theorem bits_w (n v : Nat) : Bits3 (wcodes n v) := fun _ h => (wcodes_01 h).elim .inl fun q => .inr (.inl q)
theorem bits_one {c : Nat} (h : c = 48 ∨ c = 49 ∨ c = 50) : Bits3 [c] := fun x hx => by rw [List.mem_singleton.mp hx]; exact h
theorem cd0 : cd (Str.ofString "0") = [48] := by decide +kernel
theorem cd1 : cd (Str.ofString "1") = [49] := by decide +kernel
theorem cd2 : cd (Str.ofString "2") = [50] := by decide +kernel
section
variable {w : World} {s0 s : Shared} {L l : Addr} {F : List (Addr × Obj)} {m m' : Str → Option Value} {E : Value → Shared → Prop}
theorem lawB7 {one many n : Nat} {dv : Int} {sep : Str} {u T0 tt : Tok} {Q : Flow → Shared → Prop} (H : LS w s0 L F s m) (Sc : Scene L l F m one many (n : Int) dv sep u T0) (hn : n < 2 ^ (one * many)) (ht : T0 ≤ s.toks) (hx : m "short" = some (.str (shortText n) tt))
    (k : ∀ s' m', T0 ≤ s'.toks → LS w s0 L F s' m' → (∀ y : Str, y ≠ "wrong" → m' y = m y) → Q .next s') : wpC (model thePw w) (AL L) (exec (lawB 7) (envL L)) Q E s := by
  obtain ⟨tdg, hdg⟩ := Sc.dg
  have dgl := Sc.dgl
  have hlog := log2_lt_of dgl.1 hn
  have hsl : (shortText n).length = n.log2 + 1 := wtext_len _ _
  have big : (1000 : Nat) ≤ sizeLine := by decide
  show wpC (model thePw w) (AL L) (exec (.For (.Name "wrong" _) _ (forBody (lawB 7)) [] _) (envL L)) _ _ _
  refine C_For (wpAny_with_toks ht ?_)
  refine wpAny_Tuple ?_
  refine Calls.spliced_cons (ldL H.I.ns hx ?_)
  have z0 : (Txt.mul (Str.ofString "0") ((one * many : Nat) : Int)).length = one * many := by rw [← cd_len, zeros_cd, List.length_replicate]
  have y1 : (zb ++ Txt.mul (Str.ofString "0") ((one * many : Nat) : Int)).length = one * many + 2 := by rw [Str.length_append, zb_len, z0]; omega
  have l1 : (Str.ofString "1").length = 1 := by decide +kernel
  have z1 : (Txt.mul (Str.ofString "1") ((one * many + 1 : Nat) : Int)).length = one * many + 1 := by rw [← cd_len, ones_cd, List.length_replicate]
  have l2 : (Str.ofString "2").length = 1 := by decide +kernel
  -- '0b' + '0' * digits + '1'
  refine Calls.spliced_cons (wpAny_mono (Q := fun v s₁ => ∃ t, v = .str (zb ++ Txt.mul (Str.ofString "0") ((one * many : Nat) : Int) ++ Str.ofString "1") t ∧ Same s s₁ ∧ ∀ b o, s.heap.get? b = some o → s₁.heap.get? b = some o) ?_ ?_ (fun _ _ e => e))
  · refine wpAny_BinOp (wpAny_BinOp (wpAny_Constant_str (k := 0) (pos := default) (wpAny_BinOp (wpAny_Constant_str (ldL H.I.ns hdg ?_)))))
    refine SB.mul (mulOk_of 1 200 (by decide +kernel) (by omega) (by omega) (by decide) (by decide)) ?_
    intro _ _
    refine SB.add ?_ (by rw [zb_len, z0]; omega)
    intro _ _
    refine wpAny_Constant_str ?_
    refine SB.add ?_ (by rw [y1, l1]; omega)
    intro t1 _
    exact ⟨t1, rfl, ⟨rfl, rfl, rfl⟩, fun _ _ e => e⟩
  rintro v1 s1 ⟨t1, rfl, sm1, up1⟩
  have H1 : LS w s0 L F s1 m := H.ext sm1 up1
  -- '0b' + '1' * (digits + 1)
  refine Calls.spliced_cons (wpAny_mono (Q := fun v s₂ => ∃ t, v = .str (zb ++ Txt.mul (Str.ofString "1") ((one * many + 1 : Nat) : Int)) t ∧ Same s1 s₂ ∧ ∀ b o, s1.heap.get? b = some o → s₂.heap.get? b = some o) ?_ ?_ (fun _ _ e => e))
  · refine wpAny_BinOp (wpAny_Constant_str (k := 0) (pos := default) (wpAny_BinOp (wpAny_Constant_str (wpAny_BinOp (ldL H1.I.ns hdg (wpAny_Constant_int ?_))))))
    refine P.add_int ?_
    rw [show ((one * many : Nat) : Int) + 1 = ((one * many + 1 : Nat) : Int) by push_cast; rfl]
    refine SB.mul (mulOk_of 1 200 (by decide +kernel) (by omega) (by omega) (by decide) (by decide)) ?_
    intro _ _
    refine SB.add ?_ (by rw [zb_len, z1]; omega)
    intro t2 _
    exact ⟨t2, rfl, ⟨rfl, rfl, rfl⟩, fun _ _ e => e⟩
  rintro v2 s2 ⟨t2, rfl, sm2, up2⟩
  have H2 : LS w s0 L F s2 m := H1.ext sm2 up2
  -- '0b' + short[:len(short) - 1] + '2'
  refine Calls.spliced_cons (wpAny_mono (Q := fun v s₃ => ∃ t cut, cd cut = (cd (shortText n)).take n.log2 ∧ v = .str (zb ++ cut ++ Str.ofString "2") t ∧ Same s2 s₃ ∧ ∀ b o, s2.heap.get? b = some o → s₃.heap.get? b = some o) ?_ ?_ (fun _ _ e => e))
  · refine wpAny_BinOp (wpAny_BinOp (wpAny_Constant_str (k := 0) (pos := default) ?_))
    refine Subscript_ (ldL H2.I.ns hx ?_)
    refine wpAny_Slice (evalPart_none_step (evalPart_some_step ?_))
    refine wpAny_BinOp ?_
    refine wpAny_Call_NameR (ldB H2.I.S.ok (g_none _ _ (by decide)) b_len ?_)
    refine Calls.callWith_builtin rfl (Calls.evalArgs_plain (Calls.spliced_cons (ldL H2.I.ns hx ?_)))
    refine Calls.spliced_nil (SBL.len (by omega) ?_)
    refine wpAny_Constant_int (P.sub_int ?_)
    rw [show ((shortText n).length : Int) - 1 = ((n.log2 : Nat) : Int) by rw [hsl]; push_cast; omega]
    refine evalPart_none_step ?_
    refine tail_of_ItemOn (SBH.sliceItem_ns (P := fun h' => ∀ b o, s2.heap.get? b = some o → h'.get? b = some o) (fun h ob p b o e => Heap.get?_push_of_some _ (p b o e)) (fun _ _ e => e) ?_ (by omega)) (by with_unfolding_all rfl) (by intro _; with_unfolding_all rfl)
    intro h3 t3 k3 up3
    have c3 := slice_to (shortText n) n.log2 (by omega)
    generalize Txt.slice (shortText n) none (some ((n.log2 : Nat) : Int)) = cut at c3
    have lc : cut.length ≤ 200 := by rw [← cd_len, c3, List.length_take]; omega
    refine SB.add ?_ (by rw [zb_len]; omega)
    intro _ _
    refine wpAny_Constant_str ?_
    have y3 : (zb ++ cut).length ≤ 202 := by rw [Str.length_append, zb_len]; omega
    refine SB.add (x := zb ++ cut) ?_ (by rw [l2]; omega)
    intro t4 k4
    exact ⟨t4, cut, c3, rfl, ⟨rfl, rfl, rfl⟩, up3⟩
  rintro v3 s3 ⟨t4, cut, c3, rfl, sm3, up3⟩
  have H3 : LS w s0 L F s3 m := H2.ext sm3 up3
  refine Calls.spliced_nil ⟨(by decide : 4 ≤ sizeLine), ?_⟩
  intro ht4
  refine loopW (P := WrongB (one * many)) (T0 := T0) (H3.push _) ht4 ⟨_, Heap.get?_push_size _ rfl, rfl, _, rfl⟩ H3.I.Lne ?_ (fun s' F' m' x t hF ht' hm' H' hw' hx' R hR => ?_) (fun s' m' ht' H' hm' => k s' m' ht' H' hm')
  · intro v hv
    have hv : v = .str (shortText n) tt ∨ v = .str (zb ++ Txt.mul (Str.ofString "0") ((one * many : Nat) : Int) ++ Str.ofString "1") t1 ∨ v = .str (zb ++ Txt.mul (Str.ofString "1") ((one * many + 1 : Nat) : Int)) t2 ∨ v = .str (zb ++ cut ++ Str.ofString "2") t4 := by simpa using hv
    rcases hv with q | q | q | q
    · exact ⟨_, _, q, wrongB_bare (by omega)⟩
    · refine ⟨_, _, q, wrongB_long (ds := List.replicate (one * many) 48 ++ [49]) ?_ (bits_app (rep_bits (.inl rfl)) (bits_one (.inr (.inl rfl)))) (by simp) (by simp; omega)⟩
      rw [cd_app, cd_app, cd_zb, zeros_cd, cd1, List.append_assoc]
    · refine ⟨_, _, q, wrongB_long (ds := List.replicate (one * many + 1) 49) ?_ (rep_bits (.inr (.inl rfl))) (by simp) (by simp; omega)⟩
      rw [cd_app, cd_zb, ones_cd]
    · refine ⟨_, _, q, wrongB_two (ds := (cd (shortText n)).take n.log2 ++ [50]) ?_ (bits_app (fun c hc => bits_w _ _ c (List.mem_of_mem_take hc)) (bits_one (.inr (.inr rfl)))) (by simp) ?_⟩
      · rw [cd_app, cd_app, cd_zb, c3, cd2, List.append_assoc]
      · rw [List.length_append, List.length_take]; simp; omega
  · exact body7 H' (Sc.keep hF fun y hy => hm' y (fun q => by subst q; revert hy; decide)) ht' hw' hx' hR
theorem lawB8 {one many n : Nat} {dv : Int} {sep : Str} {u T0 tt : Tok} {Q : Flow → Shared → Prop} (H : LS w s0 L F s m) (Sc : Scene L l F m one many (n : Int) dv sep u T0) (hx : m "text" = some (.str (lawText sep one many n) tt))
    (k : ∀ s' (wh : Nat) t, wh < (lawText sep one many n).length → LS w s0 L F s' (upd m "where" (.int (wh : Int) t)) → Q .next s') : wpAny (model thePw w) (AL L) (exec (lawB 8) (envL L)) Q E s := by
  obtain ⟨td, hd⟩ := Sc.dd
  have hlen := lawText_len Sc.hs (n := n) Sc.h1.2 Sc.h2.2
  have hpos : 1 ≤ (lawText sep one many n).length := by
    obtain ⟨T, y, e, _⟩ := lawText_last Sc.hs (n := n) Sc.h1.1 Sc.h2.1
    rw [← cd_len, e]; simp
  refine wpAny_Assign_Name ?_ (by rfl)
  refine wpAny_BinOp (wpAny_BinOp (ldL H.I.ns hd (wpAny_Constant_int (floordiv_int (by decide) ?_))))
  refine wpAny_Call_NameR (ldB H.I.S.ok (g_none _ _ (by decide)) b_len ?_)
  refine Calls.callWith_builtin rfl (Calls.evalArgs_plain (Calls.spliced_cons (ldL H.I.ns hx ?_)))
  refine Calls.spliced_nil (SBL.len (by omega) ?_)
  refine mod_int' (by omega) ?_
  have r0 := Int.fmod_nonneg_of_pos (dv.fdiv 4) (by omega : (0 : Int) < ((lawText sep one many n).length : Int))
  have r1 := Int.fmod_lt_of_pos (dv.fdiv 4) (by omega : (0 : Int) < ((lawText sep one many n).length : Int))
  obtain ⟨wh, e⟩ := Int.eq_ofNat_of_zero_le r0
  rw [e]
  refine LS.store (H.ext ⟨rfl, rfl, rfl⟩ fun _ _ e => e) fun s' _ H' => k s' wh _ (by omega) H'
theorem lawB9 {one many n wh : Nat} {dv : Int} {sep : Str} {u T0 tt tw : Tok} {Q : Flow → Shared → Prop} (H : LS w s0 L F s m) (Sc : Scene L l F m one many (n : Int) dv sep u T0) (ht : T0 ≤ s.toks) (hx : m "text" = some (.str (lawText sep one many n) tt)) (hw : m "where" = some (.int (wh : Int) tw)) (hwh : wh < (lawText sep one many n).length)
    (k : ∀ s' m', T0 ≤ s'.toks → LS w s0 L F s' m' → (∀ y : Str, y ≠ "wrong" → m' y = m y) → Q .next s') : wpC (model thePw w) (AL L) (exec (lawB 9) (envL L)) Q E s := by
  have dgl := Sc.dgl
  have h1 := Sc.h1
  have h2 := Sc.h2
  have hlen := lawText_len Sc.hs (n := n) Sc.h1.2 Sc.h2.2
  have big : (1000 : Nat) ≤ sizeLine := by decide
  have l0 : (Str.ofString "0").length = 1 := by decide +kernel
  have l2 : (Str.ofString "2").length = 1 := by decide +kernel
  generalize hX : lawText sep one many n = X at hx hwh hlen
  have loop_pos : 1 ≤ X.length := Nat.lt_of_le_of_lt (Nat.zero_le _) hwh
  show wpC (model thePw w) (AL L) (exec (.For (.Name "wrong" _) _ (forBody (lawB 9)) [] _) (envL L)) _ _ _
  refine C_For (wpAny_with_toks ht ?_)
  refine wpAny_Tuple ?_
  -- text[:len(text) - 1]
  refine Calls.spliced_cons (wpAny_mono (Q := fun v s₁ => ∃ t x1, cd x1 = (cd X).take (X.length - 1) ∧ v = .str x1 t ∧ Same s s₁ ∧ ∀ b o, s.heap.get? b = some o → s₁.heap.get? b = some o) ?_ ?_ (fun _ _ e => e))
  · refine Subscript_ (ldL H.I.ns hx ?_)
    refine wpAny_Slice (evalPart_none_step (evalPart_some_step ?_))
    refine wpAny_BinOp ?_
    refine wpAny_Call_NameR (ldB H.I.S.ok (g_none _ _ (by decide)) b_len ?_)
    refine Calls.callWith_builtin rfl (Calls.evalArgs_plain (Calls.spliced_cons (ldL H.I.ns hx ?_)))
    refine Calls.spliced_nil (SBL.len (by omega) ?_)
    refine wpAny_Constant_int (P.sub_int ?_)
    rw [show (X.length : Int) - 1 = ((X.length - 1 : Nat) : Int) by omega]
    refine evalPart_none_step ?_
    refine tail_of_ItemOn (SBH.sliceItem_ns (P := fun h' => ∀ b o, s.heap.get? b = some o → h'.get? b = some o) (fun h ob p b o e => Heap.get?_push_of_some _ (p b o e)) (fun _ _ e => e) ?_ (by omega)) (by with_unfolding_all rfl) (by intro _; with_unfolding_all rfl)
    intro h3 t3 k3 up3
    exact ⟨t3, _, slice_to X (X.length - 1) (by omega), rfl, ⟨rfl, rfl, rfl⟩, up3⟩
  rintro v1 s1 ⟨t1, x1, e1, rfl, sm1, up1⟩
  have H1 : LS w s0 L F s1 m := H.ext sm1 up1
  -- text + '0'
  refine Calls.spliced_cons (wpAny_mono (Q := fun v s₂ => ∃ t, v = .str (X ++ Str.ofString "0") t ∧ Same s1 s₂ ∧ ∀ b o, s1.heap.get? b = some o → s₂.heap.get? b = some o) ?_ ?_ (fun _ _ e => e))
  · refine wpAny_BinOp (ldL H1.I.ns hx (wpAny_Constant_str ?_))
    refine SB.add ?_ (by rw [l0]; omega)
    intro t2 _
    exact ⟨t2, rfl, ⟨rfl, rfl, rfl⟩, fun _ _ e => e⟩
  rintro v2 s2 ⟨t2, rfl, sm2, up2⟩
  have H2 : LS w s0 L F s2 m := H1.ext sm2 up2
  -- text[:where] + '2' + text[where + 1:]
  refine Calls.spliced_cons (wpAny_mono (Q := fun v s₃ => ∃ t x3, cd x3 = (cd X).take wh ++ [50] ++ (cd X).drop (wh + 1) ∧ v = .str x3 t ∧ Same s2 s₃ ∧ ∀ b o, s2.heap.get? b = some o → s₃.heap.get? b = some o) ?_ ?_ (fun _ _ e => e))
  · refine wpAny_BinOp (wpAny_mono (Q := fun v s₃ => ∃ t xa, cd xa = (cd X).take wh ++ [50] ∧ v = .str xa t ∧ Same s2 s₃ ∧ ∀ b o, s2.heap.get? b = some o → s₃.heap.get? b = some o) ?_ ?_ (fun _ _ e => e))
    · refine wpAny_BinOp (Subscript_ (ldL H2.I.ns hx ?_))
      refine wpAny_Slice (evalPart_none_step (evalPart_some_step (ldL H2.I.ns hw (evalPart_none_step ?_))))
      refine tail_of_ItemOn (SBH.sliceItem_ns (P := fun h' => ∀ b o, s2.heap.get? b = some o → h'.get? b = some o) (fun h ob p b o e => Heap.get?_push_of_some _ (p b o e)) (fun _ _ e => e) ?_ (by omega)) (by with_unfolding_all rfl) (by intro _; with_unfolding_all rfl)
      intro h3 t3 k3 up3
      have c3 := slice_to X wh (by omega)
      generalize Txt.slice X none (some (wh : Int)) = xb at c3
      have lb : xb.length ≤ 200 := by rw [← cd_len, c3, List.length_take, cd_len]; omega
      refine wpAny_Constant_str ?_
      refine SB.add ?_ (by rw [l2]; omega)
      intro t4 _
      exact ⟨t4, _, by rw [cd_app, c3, cd2], rfl, ⟨rfl, rfl, rfl⟩, up3⟩
    · rintro va sa ⟨ta, xa, ea, rfl, sma, upa⟩
      have Ha : LS w s0 L F sa m := H2.ext sma upa
      refine Subscript_ (ldL Ha.I.ns hx ?_)
      refine wpAny_Slice (evalPart_some_step ?_)
      refine wpAny_BinOp (ldL Ha.I.ns hw (wpAny_Constant_int (P.add_int ?_)))
      rw [show (wh : Int) + 1 = ((wh + 1 : Nat) : Int) by push_cast; rfl]
      refine evalPart_none_step (evalPart_none_step ?_)
      refine tail_of_ItemOn (SBH.sliceItem_sn (P := fun h' => ∀ b o, sa.heap.get? b = some o → h'.get? b = some o) (fun h ob p b o e => Heap.get?_push_of_some _ (p b o e)) (fun _ _ e => e) ?_ (by omega)) (by with_unfolding_all rfl) (by intro _; with_unfolding_all rfl)
      intro h3 t3 k3 up3
      have c3 := slice_from X (wh + 1) (by omega)
      generalize Txt.slice X (some ((wh + 1 : Nat) : Int)) none = xb at c3
      have lb : xb.length ≤ 200 := by rw [← cd_len, c3, List.length_drop, cd_len]; omega
      have la : xa.length ≤ 201 := by rw [← cd_len, ea, List.length_append, List.length_take, cd_len]; simp; omega
      refine SB.add ?_ (by omega)
      intro t4 _
      exact ⟨t4, _, by rw [cd_app, ea, c3], rfl, ⟨sma.gens, sma.drawn, sma.os⟩, fun b o e => up3 b o (upa b o e)⟩
  rintro v3 s3 ⟨t3, x3, e3, rfl, sm3, up3⟩
  have H3 : LS w s0 L F s3 m := H2.ext sm3 up3
  refine Calls.spliced_nil ⟨(by decide : 3 ≤ sizeLine), ?_⟩
  intro ht4
  subst hX
  refine loopW (P := WrongT sep (one * many)) (T0 := T0) (H3.push _) ht4 ⟨_, Heap.get?_push_size _ rfl, rfl, _, rfl⟩ H3.I.Lne ?_ (fun s' F' m' x t hF ht' hm' H' hw' hx' R hR => ?_) (fun s' m' ht' H' hm' => k s' m' ht' H' hm')
  · intro v hv
    have hv : v = .str x1 t1 ∨ v = .str (lawText sep one many n ++ Str.ofString "0") t2 ∨ v = .str x3 t3 := by simpa using hv
    rcases hv with q | q | q
    · exact ⟨_, _, q, wrong_cut Sc.hs h1 h2 e1⟩
    · exact ⟨_, _, q, wrong_more Sc.hs h1.2 h2.2 (by rw [cd_app, cd0])⟩
    · exact ⟨_, _, q, wrong_mark Sc.hs h1.2 h2.2 e3⟩
  · exact body9 H' (Sc.keep hF fun y hy => hm' y (fun q => by subst q; revert hy; decide)) ht' hw' hx' hR
end
end Mine
end
/- part N7 -/
section
open PySem PySem.W PyProof.Rows
open Sem (wp)
set_option Elab.async false
set_option maxRecDepth 100000
set_option maxHeartbeats 1000000
namespace Mine
section
variable {w : World} {s0 s : Shared} {L l : Addr} {F : List (Addr × Obj)} {m m' : Str → Option Value} {E : Value → Shared → Prop}
theorem lawIn {one many n : Nat} {dv : Int} {sep : Str} {u T0 : Tok} {Q : Flow → Shared → Prop} (H : LS w s0 L F s m) (Sc : Scene L l F m one many (n : Int) dv sep u T0) (ht : T0 ≤ s.toks) (hn : n < 2 ^ (one * many))
    (k : ∀ s' F' m', LS w s0 L F' s' m' → Scene L l F' m' one many (n : Int) dv sep u T0 → Q .next s') : wpC (model thePw w) (AL L) (execs (ifThen (lawSt 6)) (envL L)) Q E s := by
  show wpC (model thePw w) (AL L) (execs (lawB 0 :: lawB 1 :: lawB 2 :: lawB 3 :: lawB 4 :: lawB 5 :: lawB 6 :: lawB 7 :: lawB 8 :: lawB 9 :: []) (envL L)) _ _ _
  refine stmtC ht (wpC_any (lawB0 H Sc ?_))
  intro s1 F1 D1 y1 hF1 H1 hD1 i1 ht1
  have Sc1 : Scene L l F1 (upd m "due" (.ref D1)) one many (n : Int) dv sep u T0 := (Sc.upd (by decide)).keep hF1 fun _ _ => rfl
  have e1 : upd m "due" (.ref D1) "due" = some (.ref D1) := upd_same
  generalize upd m "due" (.ref D1) = m1 at H1 Sc1 e1
  refine stmtC ht1 (wpC_any (lawB1 H1 Sc1 hn ?_))
  intro s2 F2 D2 y2 hF2 H2 hD2 i2 ht2
  have Sc2 : Scene L l F2 (upd m1 "words" (.ref D2)) one many (n : Int) dv sep u T0 := (Sc1.upd (by decide)).keep hF2 fun _ _ => rfl
  have e2 : upd m1 "words" (.ref D2) "words" = some (.ref D2) := upd_same
  have e2' : upd m1 "words" (.ref D2) "due" = some (.ref D1) := e1
  replace hD1 := hD1.mono hF2
  generalize upd m1 "words" (.ref D2) = m2 at H2 Sc2 e2 e2'
  refine stmtC ht2 (wpC_any (lawB2 H2 Sc2 e2' hD1 i1 ?_))
  intro s3 tt H3 ht3
  have Sc3 : Scene L l F2 (upd m2 "text" (.str (lawText sep one many n) tt)) one many (n : Int) dv sep u T0 := Sc2.upd (by decide)
  have e3 : upd m2 "text" (.str (lawText sep one many n) tt) "text" = some (.str (lawText sep one many n) tt) := upd_same
  have e3w : upd m2 "text" (.str (lawText sep one many n) tt) "words" = some (.ref D2) := e2
  have e3d : upd m2 "text" (.str (lawText sep one many n) tt) "due" = some (.ref D1) := e2'
  generalize upd m2 "text" (.str (lawText sep one many n) tt) = m3 at H3 Sc3 e3 e3w e3d
  refine stmtC ht3 (wpC_any (lawB3 H3 Sc3 hn e3w hD2 i2 e3d hD1 i1 ?_))
  intro s4 H4 ht4
  refine stmtC ht4 (lawB4 H4 Sc3 hn ht4 e3 ?_)
  intro s5 H5 ht5
  refine stmtC ht5 (wpC_any (lawB5 H5 Sc3 hn ?_))
  intro s6 ts H6 ht6
  have Sc6 : Scene L l F2 (upd m3 "short" (.str (shortText n) ts)) one many (n : Int) dv sep u T0 := Sc3.upd (by decide)
  have e6 : upd m3 "short" (.str (shortText n) ts) "short" = some (.str (shortText n) ts) := upd_same
  have e6t : upd m3 "short" (.str (shortText n) ts) "text" = some (.str (lawText sep one many n) tt) := e3
  generalize upd m3 "short" (.str (shortText n) ts) = m6 at H6 Sc6 e6 e6t
  refine stmtC ht6 (lawB6 H6 Sc6 hn ht6 e6 ?_)
  intro s7 H7 ht7
  refine stmtC ht7 (lawB7 H7 Sc6 hn ht7 e6 ?_)
  intro s8 m8 ht8 H8 hm8 _
  have Sc8 : Scene L l F2 m8 one many (n : Int) dv sep u T0 := Sc6.keep (fun _ h => h) fun y hy => hm8 y (fun q => by subst q; revert hy; decide)
  have e8 : m8 "text" = some (.str (lawText sep one many n) tt) := (hm8 _ (by decide)).trans e6t
  refine stmtC ht8 (wpC_any (lawB8 H8 Sc8 e8 ?_))
  intro s9 wh tw hwh H9 ht9
  have Sc9 : Scene L l F2 (upd m8 "where" (.int (wh : Int) tw)) one many (n : Int) dv sep u T0 := Sc8.upd (by decide)
  refine stmtC ht9 (lawB9 H9 Sc9 ht9 e8 upd_same hwh ?_)
  intro s10 m10 ht10 H10 hm10 _
  exact execsC_nil (k s10 F2 m10 H10 (Sc9.keep (fun _ h => h) fun y hy => hm10 y (fun q => by subst q; revert hy; decide)))
theorem lawIf {one many : Nat} {N dv : Int} {sep : Str} {u T0 : Tok} {Q : Flow → Shared → Prop} (H : LS w s0 L F s m) (Sc : Scene L l F m one many N dv sep u T0) (ht : T0 ≤ s.toks)
    (k : ∀ s' F' m', LS w s0 L F' s' m' → Scene L l F' m' one many N dv sep u T0 → Q .next s') : wpC (model thePw w) (AL L) (exec (lawSt 6) (envL L)) Q E s := by
  obtain ⟨o3, t3, c3, d3⟩ := Sc.c3
  obtain ⟨ttop, htop⟩ := Sc.top
  show wpC (model thePw w) (AL L) (exec (.If _ (ifThen (lawSt 6)) (ifElse (lawSt 6)) _) (envL L)) _ _ _
  refine C_If (wpC_with_toks ht (wpC_any (isTrue_chain (wpAny_Constant_int ?_))))
  refine test_link (ldC (H.cell c3 d3) (by rfl) (P.le_int ?_))
  by_cases h0 : 0 ≤ N
  case neg =>
    refine tb false (decide_eq_false h0) fun _ => ?_
    exact lawC (H.ext ⟨rfl, rfl, rfl⟩ fun _ _ e => e) Sc (fun q => h0 q.1) fun s' m' H' Sc' => k s' F m' H' Sc'
  refine tb true (decide_eq_true h0) ?_
  refine test_last (ldL H.I.ns htop (P.lt_int ?_))
  by_cases h1 : N < 2 ^ (one * many)
  case neg =>
    refine tb false (decide_eq_false h1) fun _ => ?_
    exact lawC (H.ext ⟨rfl, rfl, rfl⟩ fun _ _ e => e) Sc (fun q => h1 q.2) fun s' m' H' Sc' => k s' F m' H' Sc'
  refine tb true (decide_eq_true h1) fun ht2 => ?_
  obtain ⟨n, rfl⟩ := Int.eq_ofNat_of_zero_le h0
  exact lawIn (H.ext ⟨rfl, rfl, rfl⟩ fun _ _ e => e) Sc ht2 (by exact_mod_cast h1) k
theorem law_walk {vs : List Value} {ns : List Int} {Q : Value → Shared → Prop} (S : Sit w 0 callerA [] s0.heap) (hl : s0.heap.IsList l vs.toArray) (hi : IntsAre vs ns) (hlen : ns.length ≤ 63) (hbits : ∀ n ∈ ns, n.natAbs.log2 ≤ 1048600)
    (hQ : ∀ s', Same s0 s' → Kept [] s0.heap s'.heap → Q (.bool true) s') : wpC (model thePw w) callerA (call (.ref 1384) [.ref l]) Q E s0 := by
  refine lawA S hl hi hlen hbits ?_
  intro s L F m one many N dv sep u T0 ht H Sc
  show wpC (model thePw w) (AL L) (execs (lawSt 6 :: (stmtsOf kf1384).drop 7) (envL L)) _ _ _
  refine execsC_cons (lawIf H Sc ht ?_)
  intro s' F' m' H' Sc'
  exact lawD H' Sc' hl hi hlen hQ
end
end Mine
end
/- part N8 -/
section
open PySem PySem.W PyProof.Rows
open Sem (wp)
set_option Elab.async false
set_option maxRecDepth 100000
set_option maxHeartbeats 1000000
namespace Mine
theorem ns_same {h : Heap} {a : Addr} {m₁ m₂ : Str → Option Value} (x : h.Ns a m₁) (y : h.Ns a m₂) (n : Str) : m₁ n = m₂ n := by
  obtain ⟨o, es, ep, e1, e2, _, e3⟩ := x
  obtain ⟨o', es', ep', f1, f2, _, f3⟩ := y
  rw [e1] at f1
  obtain rfl := Option.some.inj f1
  rw [e2] at f2
  injection f2 with g1 g2
  subst g1
  first
  | exact (e3 n).symm.trans (f3 n)
  | exact (e3 n).trans (f3 n).symm
theorem walk_end {w : World} {s₁ : Shared} {mean : ExcName → Option Value} {mg mb : Str → Option Value} {a l : Addr} {vs : List Value} {ns : List Int} {Q : Value → Shared → Prop} {E : Value → Shared → Prop}
    (T : Top qView (looseW qView qLoose) mean mg mb s₁.heap) (KX : (theK w.params).In s₁.heap) (ha : mg (Str.ofString "law") = some (.ref a)) (hl : s₁.heap.IsList l vs.toArray) (hi : IntsAre vs ns) (hlen : ns.length ≤ 63) (hb : (PyData.list (ns.map PyData.int)).layable0 = true)
    (hQ : ∀ s', s'.gens = s₁.gens → s'.os = s₁.os → (∀ b o, s₁.heap.get? b = some o → s'.heap.get? b = some o) → Q (.bool true) s') : wpC (model thePw w) callerA (call (.ref a) [.ref l]) Q E s₁ := by
  have low : @LT.lt Nat _ 1384 s₁.heap.objs.size := by
    obtain ⟨o, ho⟩ : ∃ o, (theK w.params).lookup 1384 = some o := ⟨_, rfl⟩
    exact Heap.lt_size (KX _ _ ho)
  have B : Base w s₁.heap := ⟨KX, T.nolimit, ⟨mb, T.b, T.builtins⟩, low⟩
  have hg : gNames w.params "law" = some (.ref 1384) := by kernel_rfl
  have e := (ns_same T.g B.glob "law").symm.trans ha
  rw [hg] at e
  obtain rfl : (1384 : Addr) = a := by injection e with e; injection e
  have S : Sit w 0 callerA [] s₁.heap := ⟨rfl, rfl, fun _ h => absurd h (by simp), by decide, by decide, B⟩
  refine law_walk S hl hi hlen (fun n hn => ?_) fun s' sm k => hQ s' sm.gens sm.os fun b o e => k.stays b o (by simp) e
  have := PyData.bits_item_of_ints hb hn
  unfold Builtin.Int.intBits at this
  split at this
  · rename_i h0
    have : n = 0 := by simpa using h0
    subst this; decide
  · omega
end Mine
end
open PySem PySem.W PyProof.Rows Mine
set_option maxRecDepth 100000 in
set_option maxHeartbeats 8000000 in
theorem PySem.Challenge.cw_ja0026_01_holds : PySem.Challenge.rw_ja0026_01.Holds := by
  w_on
  o_law
  refine law_byC (q := qView) (loose := qLoose) (XP := XL qView []) (YP := theHook.says) theBehind rfl rfl theHook.keeps XL.keeps (by rfl) (by rfl) (by rfl) (by first | assumption | decide +kernel) (by decide +kernel) ⟨rfl, rfl, rfl, rfl, rfl, by decide +kernel⟩ ?hw ?hc
  case hw => w_witness2
  intro w s₀ s₁ mg mb G Y a ha hg args vals as hpre hlay hrd hwell hlow
  have KX := kIn_of Y
  replace ha : mg (Str.ofString "law") = some (.ref a) := ha
  obtain ⟨T, _⟩ := G
  wrow_args hpre hlay hrd hwell hlow
  rename_i ns _ _ hb _ _ _ _ l vs _ hL _ _ _ hI _ hlen _
  refine walk_end T KX ha hL hI (by omega) hb ?_
  intro s' h1 h2 h3
  refine ⟨.inl ⟨.bool true, .bool true, [], rfl, ?_, .bool true, ?_, fun _ => ⟨.nil, fun _ ha => nomatch ha⟩⟩, .of_keep h3, h2, .of_eq (h1.trans hg)⟩
  · intro cls
    first
    | rfl
    | with_unfolding_all rfl
    | simp [ClaimW.raises]
  · first
    | rfl
    | with_unfolding_all rfl
    | kernel_rfl
