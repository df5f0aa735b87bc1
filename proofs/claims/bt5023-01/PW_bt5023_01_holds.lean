import PyProof.Rows.All
import Wide.All
import OpenK.AllK
import Wide.FinOn
import PySem.Challenge.RW_bt5023_01
open PySem PySem.W PyProof.Rows PySem.Calls
set_option Elab.async false
set_option maxRecDepth 100000
set_option maxHeartbeats 8000000
set_option rowWalk.seconds 3000
set_option linter.unusedVariables false
namespace Mine
open_top hd for PySem.Challenge.rw_bt5023_01
-- text R1
section
open PySem.Builtin
theorem encode_eq (t u : Tok) : «str.encode» ⟨[.str (PySem.Str.ofString "") t, .str (PySem.Str.ofString "utf-8") u], []⟩ = (mkBytes #[] >>= fun v => ret v) := by kernel_rfl
section
variable {prog : Program} {w : World} {A : Around} {E : Value → Shared → Prop} {s : Shared} {t u : Tok}
theorem encode_method {M : Model} {pl : Sem Bool} {Q : Value × List Value → Shared → Prop} {x : PySem.Str} (h : Q (.builtin "str.encode", [.str x t]) s) : wpAny M A (getMethod (.str x t) (PySem.Str.ofString "encode") pl) Q E s := by
  with_reducible exact GM.of (.str x t) (typeIs_str _ _ _) PySem.F.slot_str_encode PySem.F.type_str_encode GM.noRef h
theorem encode_call {Q : Value → Shared → Prop} (h : ∀ t' k, Q (.bytes #[] t') { s with toks := k }) :
    wpAny (model prog w) A (call (.builtin "str.encode") [.str (PySem.Str.ofString "") t, .str (PySem.Str.ofString "utf-8") u]) Q E s := by
  refine wpAny_call_entry PySem.F.slot_str_encode (typeIs_str s _ t) PySem.F.entry_str_encode ?_ (PySem.F.args_str_encode_2 _ _)
  rw [encode_eq]
  exact wpAny_bind (wpAny_mkBytes (wpAny_pure ⟨_, rfl, h _ _⟩))
end
end
-- text R2
/-! bytes of an int -/
def idInts (n : Int) : List Int := (KTBy.little 8 n).reverse
def idB (n : Int) : Array UInt8 := ((idInts n).map fun i => UInt8.ofNat i.toNat).toArray
theorem idB_of {b : Array UInt8} {n : Int} (h : KBw.bInts b = idInts n) : b = idB n := by
  unfold idB
  rw [← h]
  unfold KBw.bInts
  rw [List.map_map]
  have e : ((fun i : Int => UInt8.ofNat i.toNat) ∘ fun c : UInt8 => (c.toNat : Int)) = id := by
    funext c
    simp
  rw [e, List.map_id]
def ofDigits : List Int → Int
  | [] => 0
  | d :: r => d + 256 * ofDigits r
theorem ofDigits_little : ∀ (k : Nat) (x : Int), 0 ≤ x → x < 256 ^ k → ofDigits (KTBy.little k x) = x
  | 0, x, h0, h1 => by
    have : x = 0 := by simpa using (show x = 0 by have : (256 : Int) ^ 0 = 1 := rfl; omega)
    rw [this]; rfl
  | k + 1, x, h0, h1 => by
    show x % 256 + 256 * ofDigits (KTBy.little k (x / 256)) = x
    rw [ofDigits_little k (x / 256) (by omega) (by rw [Int.pow_succ] at h1; omega)]
    omega
theorem idInts_inj {x y : Int} (hx0 : 0 ≤ x) (hx : x < 2 ^ 60) (hy0 : 0 ≤ y) (hy : y < 2 ^ 60) (h : idInts x = idInts y) : x = y := by
  have e : KTBy.little 8 x = KTBy.little 8 y := List.reverse_inj.mp h
  have a := ofDigits_little 8 x hx0 (by have : (256 : Int) ^ 8 = 2 ^ 64 := by decide
                                        omega)
  have b := ofDigits_little 8 y hy0 (by have : (256 : Int) ^ 8 = 2 ^ 64 := by decide
                                        omega)
  rw [← a, ← b, e]
theorem little_range : ∀ (k : Nat) (x : Int), ∀ d ∈ KTBy.little k x, 0 ≤ d ∧ d < 256
  | 0, _, _, h => nomatch h
  | k + 1, x, d, h => by
    rcases List.mem_cons.mp (show d ∈ x % 256 :: KTBy.little k (x / 256) from h) with rfl | h
    · omega
    · exact little_range k _ d h
theorem bInts_idB (n : Int) : KBw.bInts (idB n) = idInts n := by
  unfold KBw.bInts idB
  rw [List.map_map]
  have : ∀ l : List Int, (∀ d ∈ l, 0 ≤ d ∧ d < 256) → l.map ((fun c : UInt8 => (c.toNat : Int)) ∘ fun i => UInt8.ofNat i.toNat) = l := by
    intro l hl
    induction l with
    | nil => rfl
    | cons d r ih =>
      have := hl d (.head _)
      rw [List.map_cons, ih fun e he => hl e (.tail _ he)]
      congr 1
      show ((UInt8.ofNat d.toNat).toNat : Int) = d
      rw [UInt8.toNat_ofNat']
      omega
  exact this _ fun d hd => little_range 8 n d (List.mem_reverse.mp hd)
theorem idB_ne {x y : Int} (hx0 : 0 ≤ x) (hx : x < 2 ^ 60) (hy0 : 0 ≤ y) (hy : y < 2 ^ 60) (h : x ≠ y) : (idB x).toList ≠ (idB y).toList := fun e =>
  h (idInts_inj hx0 hx hy0 hy (by rw [← bInts_idB, ← bInts_idB, Array.toList_inj.mp e]))
/-! a dict by bytes -/
theorem bk_is (prog : Program) (w : World) (b : Array UInt8) (t : Tok) : (bytesKind prog w).is b.toList (.bytes b t) = true := by simp [bytesKind, isBytes]
section
variable {K : Type} [DecidableEq K] {k k' : K} {v v' : Value} {r : List (K × Value)}
theorem va_head : valueAt ((k, v) :: r) k = some v := by simp [valueAt]
theorem va_tail {x : Option Value} (h : k' ≠ k) (e : valueAt r k = x) : valueAt ((k', v') :: r) k = x := by
  rw [← e]; simp [valueAt, h]
theorem va_nil : valueAt ([] : List (K × Value)) k = none := rfl
end
section
variable {prog : Program} {w : World} {A : Around} {E : Value → Shared → Prop} {s : Shared} {h₀ : Heap} {L d : Addr} {m : Str → Option Value} {news : List (Addr × Obj)} {g : Obj → List (Addr × Obj)} {o : Obj} {Q : Value → Shared → Prop}
theorem bk_made {b c : Array UInt8} {t u : Tok} {v v' : Value} (F : Fr h₀ L s.heap m) (N : News h₀ L s.heap news) (U : UpdF d o news g) (hd : o.IsDictOf (bytesKind prog w) []) (hn : b.toList ≠ c.toList)
    (h : ∀ h' o', Fr h₀ L h' m → News h₀ L h' (g o') → o'.IsDictOf (bytesKind prog w) [(b.toList, v), (c.toList, v')] → Q (.ref d) { s with heap := h', toks := s.toks + 2 }) :
    KdnMade prog w (bytesKind prog w) d Q [(.bytes b t, v), (.bytes c u, v')] s := by
  obtain ⟨pre, post, rfl, hg, a, b'⟩ := U.split
  have hm := N (d, o) (List.mem_append_right _ (.head _))
  refine ⟨[(b.toList, v), (c.toList, v')], ⟨bk_is _ _ _ _, rfl, bk_is _ _ _ _, rfl, trivial⟩, Heap.dictOf_iff.mpr ⟨o, hm.1, hd⟩, fun h' hmm hs => ?_⟩
  have e : merged [] [(b.toList, v), (c.toList, v')] = [(b.toList, v), (c.toList, v')] := by simp [merged, stored, hn]
  rw [e] at hmm
  obtain ⟨o', ho', hd'⟩ := Heap.dictOf_iff.mp hmm
  exact h h' o' (F.change hs hm.2.1 hm.2.2) (hg o' ▸ N.setIn a b' hs ho') hd'
theorem bk_without_head {b c : Array UInt8} {v v' : Value} (hn : b.toList ≠ c.toList) : without [(b.toList, v), (c.toList, v')] b.toList = [(c.toList, v')] := by
  simp [without, Ne.symm hn]
theorem bk_without_tail {b c : Array UInt8} {v v' : Value} (hn : b.toList ≠ c.toList) : without [(b.toList, v), (c.toList, v')] c.toList = [(b.toList, v)] := by
  simp [without, hn]
theorem bk_pop {b : Array UInt8} {t : Tok} {v : Value} {kvs kvs' : List (List UInt8 × Value)} (F : Fr h₀ L s.heap m) (N : News h₀ L s.heap news) (U : UpdF d o news g) (hd : o.IsDictOf (bytesKind prog w) kvs)
    (hl : valueAt kvs b.toList = some v) (hsz : kvs.length ≤ 16777216) (hw : without kvs b.toList = kvs')
    (h : ∀ h' o', Fr h₀ L h' m → News h₀ L h' (g o') → o'.IsDictOf (bytesKind prog w) kvs' → Q v { s with heap := h', toks := s.toks + 1 }) :
    wpAny (model prog w) A (call (.builtin "dict.pop") [.ref d, .bytes b t]) Q E s := by
  subst hw
  exact kob_pop (more := []) F N U hd (bk_is _ _ _ _) (.inl rfl) rfl (PySem.F.args_dict_pop_2 _ _) hl (by rw [sizeLine_eq]; exact hsz) h
theorem bk_in {b : Array UInt8} {t : Tok} {kvs : List (List UInt8 × Value)} {x : Bool} (N : News h₀ L s.heap news) (hp : (d, o) ∈ news) (hd : o.IsDictOf (bytesKind prog w) kvs) (lo : (d == sysModules) = false)
    (hb : (valueAt kvs b.toList).isSome = x) (h : Q (.bool x) { s with toks := s.toks + 1 }) : wpAny (model prog w) A (compareOp .In (.bytes b t) (.ref d)) Q E s :=
  kda_in N hp hd lo (bk_is _ _ _ _) x hb h
theorem bk_item {b : Array UInt8} {t : Tok} {kvs : List (List UInt8 × Value)} {v : Value} (N : News h₀ L s.heap news) (hp : (d, o) ∈ news) (hd : o.IsDictOf (bytesKind prog w) kvs)
    (hl : valueAt kvs b.toList = some v) (h : Q v { s with toks := s.toks + 1 }) : wpAny (model prog w) A (getItem (.ref d) (.bytes b t)) Q E s :=
  kdt_getItem N hp hd (bk_is _ _ _ _) hl h
end
/-! the same data, side by side -/
mutual
inductive Same (h : Heap) : Nat → Value → Value → Prop
  | bytes {n : Nat} (b : Array UInt8) (t u : Tok) : Same h n (.bytes b t) (.bytes b u)
  | int {n : Nat} (i : Int) (t u : Tok) : Same h n (.int i t) (.int i u)
  | tuple {n : Nat} {a b : Addr} {xs ys : Array Value} : h.IsTuple a xs → h.IsTuple b ys → SameAll h n xs.toList ys.toList → Same h (n + 1) (.ref a) (.ref b)
  | list {n : Nat} {a b : Addr} {xs ys : Array Value} : h.IsList a xs → h.IsList b ys → SameAll h n xs.toList ys.toList → Same h (n + 1) (.ref a) (.ref b)
inductive SameAll (h : Heap) : Nat → List Value → List Value → Prop
  | nil {n : Nat} : SameAll h n [] []
  | cons {n : Nat} {x y : Value} {xs ys : List Value} : Same h n x y → SameAll h n xs ys → SameAll h n (x :: xs) (y :: ys)
end
theorem SameAll.get {h : Heap} {n : Nat} : ∀ {xs ys : List Value}, SameAll h n xs ys → xs.length = ys.length ∧ ∀ (j : Nat) (h1 : j < xs.length) (h2 : j < ys.length), Same h n xs[j] ys[j]
  | _, _, .nil => ⟨rfl, fun j h1 _ => absurd h1 (Nat.not_lt_zero _)⟩
  | _, _, .cons a b => by
    obtain ⟨e, k⟩ := SameAll.get b
    refine ⟨by simp [e], fun j h1 h2 => ?_⟩
    cases j with
    | zero => exact a
    | succ j => exact k j (Nat.lt_of_succ_lt_succ h1) (Nat.lt_of_succ_lt_succ h2)
theorem all_true (n : Nat) : (List.range n).all (fun _ => true) = true := by simp
theorem Same.rc {s : Shared} : ∀ (n : Nat) (A : Around) (v w : Value), Same s.heap n v w → A.units + n < cLine → SeqAt.EqAt A s v w true ∧ (∀ a b, v = .ref a → w = .ref b → SeqAt.RcAt A s v w true)
  | n, A, _, _, .bytes b t u, _ => ⟨fun prog w E Q hq => eqBool_bytes (by simpa using hq), fun a b e => nomatch e⟩
  | n, A, _, _, .int i t u, _ => ⟨by have := SeqAt.EqAt.int_int (A := A) (s := s) i t i u; simpa using this, fun a b e => nomatch e⟩
  | n + 1, A, _, _, .tuple (a := a) (b := b) (xs := xs) (ys := ys) h1 h2 h3, hu => by
    have hg := SameAll.get h3
    have rc : SeqAt.RcAt A s (.ref a) (.ref b) true := by
      have := SeqAt.RcAt.tuples (A := A) (e := fun _ => true) h1 h2 (by omega) fun j j1 j2 => (Same.rc n A.in1 _ _ (by have := hg.2 j (by simpa using j1) (by simpa using j2); simpa using this) (by rw [units_in1]; omega)).1
      have hs : xs.size = ys.size := by simpa using hg.1
      rw [all_true, hs] at this
      simpa using this
    refine ⟨?_, fun _ _ _ _ => rc⟩
    by_cases hab : a = b
    · subst hab; exact SeqAt.EqAt.same _
    · exact SeqAt.EqAt.of_refs hab rc
  | n + 1, A, _, _, .list (a := a) (b := b) (xs := xs) (ys := ys) h1 h2 h3, hu => by
    have hg := SameAll.get h3
    have rc : SeqAt.RcAt A s (.ref a) (.ref b) true := by
      have hs : xs.size = ys.size := by simpa using hg.1
      have := SeqAt.RcAt.lists (A := A) (e := fun _ => true) h1 h2 hs (by omega) fun j j1 j2 => (Same.rc n A.in1 _ _ (by have := hg.2 j (by simpa using j1) (by simpa using j2); simpa using this) (by rw [units_in1]; omega)).1
      rw [all_true] at this
      exact this
    refine ⟨?_, fun _ _ _ _ => rc⟩
    by_cases hab : a = b
    · subst hab; exact SeqAt.EqAt.same _
    · exact SeqAt.EqAt.of_refs hab rc
theorem Same.ne {s : Shared} {n : Nat} {A : Around} {a b : Addr} (x : Same s.heap n (.ref a) (.ref b)) (hu : A.units + n < cLine) : SeqAt.RcNeAt A s (.ref a) (.ref b) false := by
  cases x with
  | @tuple n _ _ xs ys h1 h2 h3 =>
    have hg := SameAll.get h3
    have hs : xs.size = ys.size := by simpa using hg.1
    have := SeqAt.RcNeAt.tuples (A := A) (e := fun _ => true) h1 h2 (by omega) fun j j1 j2 => (Same.rc n A.in1 _ _ (by have := hg.2 j (by simpa using j1) (by simpa using j2); simpa using this) (by rw [units_in1]; omega)).1
    rw [all_true, hs] at this
    simpa using this
  | @list n _ _ xs ys h1 h2 h3 =>
    have hg := SameAll.get h3
    have hs : xs.size = ys.size := by simpa using hg.1
    have := SeqAt.RcNeAt.lists (A := A) (e := fun _ => true) h1 h2 hs (by omega) fun j j1 j2 => (Same.rc n A.in1 _ _ (by have := hg.2 j (by simpa using j1) (by simpa using j2); simpa using this) (by rw [units_in1]; omega)).1
    rw [all_true] at this
    exact this
theorem led_list {h₀ h : Heap} {L a : Addr} {news : List (Addr × Obj)} {o : Obj} {xs : Array Value} {n : Nat} (N : News h₀ L h news) (hm : (a, o) ∈ news) (hc : o.cls = .type "list") (hd : o.data = .seq xs n) : h.IsList a xs := ⟨o, (N _ hm).1, hc, n, hd⟩
theorem led_tuple {h₀ h : Heap} {L a : Addr} {news : List (Addr × Obj)} {o : Obj} {xs : Array Value} {n : Nat} (N : News h₀ L h news) (hm : (a, o) ∈ news) (hc : o.cls = .type "tuple") (hd : o.data = .seq xs n) : h.IsTuple a xs := ⟨o, (N _ hm).1, hc, n, hd⟩
section
variable {prog : Program} {w : World} {A : Around} {E : Value → Shared → Prop} {s : Shared} {Q : Value → Shared → Prop} {a b : Addr}
theorem same_ne (n : Nat) (h : Same s.heap n (.ref a) (.ref b)) (hu : A.units + n < cLine) (hq : Q (.bool false) s) : wpAny (model prog w) A (compareOp .NotEq (.ref a) (.ref b)) Q E s :=
  (Same.ne h hu) prog w E Q hq
theorem same_eq (n : Nat) (h : Same s.heap n (.ref a) (.ref b)) (hu : A.units + n < cLine) (hq : Q (.bool true) s) : wpAny (model prog w) A (compareOp .Eq (.ref a) (.ref b)) Q E s :=
  (Same.rc n A _ _ h hu).2 a b rfl rfl prog w E Q hq
end
section
local macro_rules | `(tactic| walk_at "getMethod str") => `(tactic| (k_here; with_reducible refine Mine.encode_method ?_))
local macro_rules | `(tactic| walk_at "call builtin:str.encode") => `(tactic| (k_here; (with_reducible show wpAny _ _ (call (Value.builtin "str.encode") [Value.str _ _, Value.str _ _]) _ _ _); with_unfolding_all refine Mine.encode_call ?_; intro _ _))
local macro_rules | `(tactic| walk_at "same") => `(tactic| repeat' (first
  | exact Mine.Same.bytes _ _ _
  | exact Mine.Same.int _ _ _
  | exact Mine.SameAll.nil
  | (refine Mine.SameAll.cons ?_ ?_)
  | (refine Mine.Same.tuple (Mine.led_tuple (by k_asm) (by k_mem) rfl rfl) (Mine.led_tuple (by k_asm) (by k_mem) rfl rfl) ?_)
  | (refine Mine.Same.list (Mine.led_list (by k_asm) (by k_mem) rfl rfl) (Mine.led_list (by k_asm) (by k_mem) rfl rfl) ?_)))
local macro_rules | `(tactic| walk_at "compareOp Eq ref ref") => `(tactic| (k_here; (with_reducible show wpAny _ _ (compareOp CmpOp.Eq (Value.ref _) (Value.ref _)) _ _ _); k_dflt (refine' Mine.same_eq 3 ?h ?u ?_; (case h => (walk_at "same"; done)); (case u => ke_room))))
local macro_rules | `(tactic| walk_at "compareOp NotEq ref ref") => `(tactic| (k_here; (with_reducible show wpAny _ _ (compareOp CmpOp.NotEq (Value.ref _) (Value.ref _)) _ _ _); k_dflt (refine' Mine.same_ne 3 ?h ?u ?_; (case h => (walk_at "same"; done)); (case u => ke_room))))
local macro_rules | `(tactic| walk_at "call builtin:int.to_bytes") => `(tactic| (k_here; (with_reducible show wpAny _ _ (call (Value.builtin "int.to_bytes") [Value.int _ _, Value.int _ _, Value.str _ _]) _ _ _); (with_unfolding_all refine KTBy.to_big (k := 8) (B := 18446744073709551616) (by decide) (by decide) (by kt_fact) (by kt_fact) ?_); (intro b' _ _ hb' _)))
local macro_rules | `(tactic| walk_at "eval Dict cons") => `(tactic| (k_here; k_dflt (refine' kdn_eval (knd := bytesKind _ _) ?F ?N ?b ?a ?l ?e ?n ?_; (case F => k_asm); (case N => k_asm); (case b => exact Top.nolimit (by k_asm)); (case a => rfl); (case l => rfl); (case e => exact List.cons_ne_nil _ _); (case n => exact Nat.le_of_ble_eq_true rfl)); intro d' h' o' F' N' l1 lo' hd'; (try k_lt l1)))
local macro_rules | `(tactic| walk_at "bk_ne") => `(tactic| first | with_reducible assumption | exact Ne.symm (by with_reducible assumption))
local macro_rules | `(tactic| walk_at "bk_val") => `(tactic| first | exact Mine.va_head | exact Mine.va_nil | exact Mine.va_tail (by walk_at "bk_ne") (by walk_at "bk_val"))
local macro_rules | `(tactic| walk_at "KdnMade") => `(tactic| (k_here; k_dflt (refine' Mine.bk_made ?F ?N ?U ?d ?n ?_; (case F => k_asm); (case N => k_asm); (case U => k_updF); (case d => k_asm); (case n => walk_at "bk_ne")); intro h' o' F' N' hd'; (try dsimp only at N')))
local macro_rules | `(tactic| walk_at "call builtin:dict.pop") => `(tactic| (k_here; (with_reducible show wpAny _ _ (call (Value.builtin "dict.pop") [Value.ref _, Value.bytes _ _]) _ _ _); k_dflt (refine' Mine.bk_pop ?F ?N ?U ?d ?v ?z ?w ?_; (case F => k_asm); (case N => k_asm); (case U => k_updF); (case d => k_asm); (case v => walk_at "bk_val"); (case z => decide); (case w => first | exact Mine.bk_without_head (by walk_at "bk_ne") | exact Mine.bk_without_tail (by walk_at "bk_ne"))); intro h' o' F' N' hd'; (try dsimp only at N')))
local macro_rules | `(tactic| walk_at "compareOp In bytes ref") => `(tactic| (k_here; k_dflt (first
  | (refine' Mine.bk_in (x := true) ?N ?p ?d ?lo ?v ?_; (case N => k_asm); (case p => k_mem); (case d => k_asm); (case lo => k_asm); (case v => (rw [show valueAt _ _ = some _ from by walk_at "bk_val"]; rfl)))
  | (refine' Mine.bk_in (x := false) ?N ?p ?d ?lo ?v ?_; (case N => k_asm); (case p => k_mem); (case d => k_asm); (case lo => k_asm); (case v => (rw [show valueAt _ _ = none from by walk_at "bk_val"]; rfl))))))
local macro_rules | `(tactic| walk_at "getItem ref bytes") => `(tactic| (k_here; k_dflt (refine' Mine.bk_item ?N ?p ?d ?v ?_; (case N => k_asm); (case p => k_mem); (case d => k_asm); (case v => walk_at "bk_val"))))
local macro_rules | `(tactic| walk_at "subscriptTail") => `(tactic| (k_here; (with_reducible show wpAny _ _ (subscriptTail _ _ (Value.ref _) (Value.bytes _ _)) _ _ _); k_dflt (refine' kdt_tail (knd := bytesKind _ _) ?N ?p ?d ?_; (case N => k_asm); (case p => k_mem); (case d => k_asm))))
local macro_rules | `(tactic| walk_at "callWith ref") => `(tactic| (k_here; k_dflt (refine' callWith_K ?k1 ?k2 ?_; (case k1 => k_asm); (case k2 => k_is); k_whole)))
-- text C1
def Known (K : Params → Frag) (l : W.OpenLaw) : Prop := True
abbrev P0 : Program := PySem.Challenge.rw_bt5023_01.row.prog
local macro_rules | `(tactic| walk_at "k known") => `(tactic| (w_top off; have Z : Known hd.heap_39 PySem.Challenge.rw_bt5023_01 := (by (suffices Known hd.heap_39 PySem.Challenge.rw_bt5023_01 by assumption); k_fill; trivial); clear Z))
theorem fmod64 {n : Int} (n0 : 0 ≤ n) (n1 : n < 1152921504606846976) : n.fmod (2 ^ Int.toNat 64) = n := by
  have e : (2 : Int) ^ Int.toNat 64 = 18446744073709551616 := by decide
  rw [e, Int.fmod_eq_emod_of_nonneg _ (by decide)]
  exact Int.emod_eq_of_lt n0 (by omega)
theorem law_id_call {w : World} {dp un : Nat} {gd : Option (List Code)} {cn : Str} {cs : Scope} {a : Addr} {ccd : Value} {cl : List (Str × Addr)} {outer : List Env} {A₀ : Around} {base h₀ : Heap} {L : Addr} {m : Str → Option Value} {news : List (Addr × Obj)} {s : Shared} {Q E : Value → Shared → Prop}
  {loose : List Str} {mean : ExcName → Option Value} {mg mb : Str → Option Value}
  (B : Below A₀ base outer h₀) (F : Fr h₀ L s.heap m) (X : (hd.heap_39 w.params).In h₀) (N : News h₀ L s.heap news) (T : Top topProg loose mean mg mb h₀) (hk : cs.kind = .function) (hdp : dp + 1 < recursionLimit)
  {n : Int} {tk : Tok} (n0 : 0 ≤ n) (n1 : n < 1152921504606846976)
  (hret : ∀ t h' tk', Fr h₀ L h' m → News h₀ L h' news → Q (.bytes (idB n) t) { s with heap := h', toks := tk' }) :
   wpAny (model P0 w) (ktrTop dp un gd cn cs L a ccd cl outer) (call (.ref 285) [.int n tk]) Q E s := by
  walk_at "k known"
  refine wpAny_call ?_
  k_dflt cell_enter
  repeat (first | (k_unfold; (try dsimp only)) | walk1 | (dsimp only; walk1) | (leave1; walk_say "STEP leave1"; try dsimp only) | fail "no step")
  (rename KBw.bInts _ = _ => hb)
  rw [fmod64 n0 n1] at hb
  rw [idB_of hb]
  exact hret _ _ _ (by k_asm) (by k_asm)
end
-- text E1
/-! an exception in flight, its dict told -/
def Tr (B h : Heap) (e : Addr) (cls : Value) (dd : Option Addr) (fl : Value) : Prop :=
  ∃ oe vs T oT ts, h.get? e = some oe ∧ oe.cls = cls ∧ oe.dict = dd ∧ oe.data = .fields vs ∧ vs[1]? = some (.ref T) ∧ B.get? T = none ∧ T ≠ e ∧ h.get? T = some oT ∧ oT.data = .fields ts ∧ ts[3]? = some fl
def Tr0 (h : Heap) (e : Addr) (cls : Value) (dd : Option Addr) : Prop :=
  ∃ oe vs, h.get? e = some oe ∧ oe.cls = cls ∧ oe.dict = dd ∧ oe.data = .fields vs ∧ vs[1]? = some .none
theorem Tr.there {B h : Heap} {e : Addr} {cls fl : Value} {dd : Option Addr} (x : Tr B h e cls dd fl) : ∃ oe vs, h.get? e = some oe ∧ oe.cls = cls ∧ oe.dict = dd ∧ oe.data = .fields vs := by
  obtain ⟨oe, vs, _, _, _, a, b, c, d, _⟩ := x
  exact ⟨oe, vs, a, b, c, d⟩
theorem dict_mapFields (o : Obj) (f : Array Value → Array Value) : (o.mapFields f).dict = o.dict := by
  obtain ⟨_, _, d, _⟩ := o
  cases d <;> rfl
abbrev UpS (h h' : Heap) : Prop := h.UpToSlots h'
section
variable {M : Model} {A : Around} {E : Value → Shared → Prop} {s : Shared} {B : Heap} {env : Env} {outer : List Env} {L e : Addr} {cls fl : Value} {dd : Option Addr} {Q : Unit → Shared → Prop}
theorem entryD {oe : Obj} {vs : Array Value} {head : Value} {hadNext : Bool} (hfr : A.frames = some (env :: outer)) (hl : s.heap.FunFrames B (env :: outer)) (hf : env.frame = some L)
    (he : s.heap.get? e = some oe) (hkb : B.StaysIn s.heap) (hen : B.get? e = none) (hd : oe.data = .fields vs) (hsz : 1 < vs.size)
    (h : ∀ h', B.StaysIn h' → h'.FunFrames B (env :: outer) → Tr B h' e oe.cls oe.dict (rawInt L) → UpS s.heap h' → Q () { s with heap := h' }) :
    wpAny M A (do let a ← frameOf env; let pl ← entryPlaceOf L hadNext; let b ← EntryCells.newEntry head a .none (rawInt L) .none pl; setField (.ref e) 1 b) Q E s := by
  have hene : e ∉ (env :: outer).filterMap (·.frame) := fun hm => by
    obtain ⟨_, o, ho, hnf⟩ := hl.mem hm
    rw [he] at ho
    cases ho
    exact hnf vs hd
  refine wpAny_bind (wpAny_frameOf_fun hfr hl hf fun h₁ hs₁ => ?_)
  refine wpAny_bind (wpAny_entryPlaceOf fun pl hpl => ?_)
  unfold EntryCells.newEntry newFields
  refine wpAny_bind (wpAny_newObj_type ?_ (hpl.sizeOk5 _ _ _ _ _))
  generalize hts : ([head, .ref L, .none, rawInt L, .none] ++ (if pl.isEmpty then List.replicate 6 Value.none else pl)).toArray = ts
  have h3 : ts[3]? = some (rawInt L) := by
    subst hts
    first | (simp; done) | (rcases hpl with rfl | ⟨_, _, _, _, _, _, _, rfl⟩ <;> simp)
  have he₁ : h₁.get? e = some oe := (hs₁.2.1 e hene).trans he
  have kb₁ : B.StaysIn h₁ := fun b o hbo => (hs₁.2.1 b fun hm => by rw [(hl.mem hm).1] at hbo; cases hbo).trans (hkb b o hbo)
  have he₂ := Heap.get?_push_of_some (h := h₁) ({ cls := .type "traceback", dict := none, data := .fields ts } : Obj) he₁
  refine wpAny_setField he₂ hd hsz ?_
  have hTe : h₁.objs.size ≠ e := Nat.ne_of_gt (Heap.lt_size he₁)
  have hd₃ := Obj.data_mapFields hd (·.setIfInBounds 1 (Value.ref h₁.objs.size))
  have he₃ := Heap.get?_update_self (Obj.mapFields (·.setIfInBounds 1 (Value.ref h₁.objs.size))) he₂ (Obj.isFreed_of_fields hd₃)
  have hT₃ := (Heap.get?_update_other (h₁.push ({ cls := .type "traceback", dict := none, data := .fields ts } : Obj)) (Obj.mapFields (·.setIfInBounds 1 (Value.ref h₁.objs.size))) (Ne.symm hTe)).trans (Heap.get?_push_size h₁ rfl)
  have keep : ∀ b o, b ≠ e → h₁.get? b = some o → ((h₁.push ({ cls := .type "traceback", dict := none, data := .fields ts } : Obj)).update e (Obj.mapFields (·.setIfInBounds 1 (Value.ref h₁.objs.size)))).get? b = some o :=
    fun b o hbe hb => (Heap.get?_update_other _ _ (Ne.symm hbe)).trans (Heap.get?_push_of_some _ hb)
  have noRecord : ∀ b o, s.heap.get? b = some o → (∀ vs, o.data ≠ .fields vs) → b ≠ e := fun b o hb hnf q => by
    rw [q, he] at hb
    cases hb
    exact hnf vs hd
  refine h _ (fun b o hbo => keep b o (fun q => by rw [q, hen] at hbo; cases hbo) (kb₁ b o hbo)) (hl.of_keeps fun b o hb hnf => ?_) ?_ fun b o hb hnf => ?_
  · obtain ⟨sl, hs⟩ := hs₁.2.2 b o hb
    exact ⟨_, keep b _ (noRecord b o hb hnf) hs, rfl⟩
  · exact ⟨_, _, h₁.objs.size, _, _, he₃, Obj.cls_mapFields _ _, dict_mapFields _ _, hd₃, by simp [hsz], kb₁.fresh, hTe, hT₃, rfl, h3⟩
  · obtain ⟨sl, hs⟩ := hs₁.2.2 b o hb
    exact ⟨sl, keep b _ (noRecord b o hb hnf) hs⟩
theorem note0D (hfr : A.frames = some (env :: outer)) (hl : s.heap.FunFrames B (env :: outer)) (hf : env.frame = some L) (ht : Tr0 s.heap e cls dd) (hkb : B.StaysIn s.heap) (hen : B.get? e = none)
    (h : ∀ h', B.StaysIn h' → h'.FunFrames B (env :: outer) → Tr B h' e cls dd (rawInt L) → UpS s.heap h' → Q () { s with heap := h' }) : wpAny M A (noteFrame (.ref e) env) Q E s := by
  obtain ⟨oe, vs, he, rfl, rfl, hd, h1⟩ := ht
  unfold noteFrame
  simp only [hf]
  refine wpAny_bind (wpAny_field he hd h1 ?_)
  rw [if_neg (by decide)]
  exact entryD hfr hl hf he hkb hen hd (Array.getElem?_eq_some_iff.mp h1).1 h
theorem note1D (hfr : A.frames = some (env :: outer)) (hl : s.heap.FunFrames B (env :: outer)) (hf : env.frame = some L) (ht : Tr B s.heap e cls dd .none) (hkb : B.StaysIn s.heap) (hen : B.get? e = none)
    (h : ∀ h', B.StaysIn h' → h'.FunFrames B (env :: outer) → Tr B h' e cls dd (rawInt L) → UpS s.heap h' → Q () { s with heap := h' }) : wpAny M A (noteFrame (.ref e) env) Q E s := by
  obtain ⟨oe, vs, T, oT, ts, he, rfl, rfl, hd, h1, hnT, hTe, hT, hdT, h3⟩ := ht
  unfold noteFrame
  simp only [hf]
  refine wpAny_bind (wpAny_field he hd h1 ?_)
  rw [if_pos (show (Value.ref T != Value.none) = true from by simp)]
  refine wpAny_bind (wpAny_field hT hdT h3 ?_)
  rw [if_neg (show ¬ ((Value.none == rawInt L) = true) from by simp [rawInt])]
  refine wpAny_bind (wpAny_setField hT hdT (Array.getElem?_eq_some_iff.mp h3).1 ?_)
  have other : ∀ b, b ≠ T → (s.heap.update T (Obj.mapFields (·.setIfInBounds 3 Value.none))).get? b = s.heap.get? b := fun b hb => Heap.get?_update_other _ _ (Ne.symm hb)
  have noRecord : ∀ b o, s.heap.get? b = some o → (∀ vs, o.data ≠ .fields vs) → b ≠ T := fun b o hb hnf q => by
    rw [q, hT] at hb
    cases hb
    exact hnf ts hdT
  refine entryD hfr (hl.of_keeps fun b o hb hnf => ⟨o, (other b (noRecord b o hb hnf)).trans hb, rfl⟩) hf ((other e (Ne.symm hTe)).trans he)
    (fun b o hbo => (other b fun q => by rw [q, hnT] at hbo; cases hbo).trans (hkb b o hbo)) hen hd (Array.getElem?_eq_some_iff.mp h1).1
    fun h' x1 x2 x3 x4 => h h' x1 x2 x3 fun b o hb hnf => x4 b o ((other b (noRecord b o hb hnf)).trans hb) hnf
theorem noteAgainD (hf : env.frame = some L) (ht : Tr B s.heap e cls dd (rawInt L)) (h : Q () s) : wpAny M A (noteFrame (.ref e) env) Q E s := by
  obtain ⟨oe, vs, T, oT, ts, he, _, _, hd, h1, hnT, hTe, hT, hdT, h3⟩ := ht
  unfold noteFrame
  simp only [hf]
  refine wpAny_bind (wpAny_field he hd h1 ?_)
  rw [if_pos (show (Value.ref T != Value.none) = true from by simp)]
  refine wpAny_bind (wpAny_field hT hdT h3 ?_)
  rw [if_pos (show (rawInt L == rawInt L) = true from by simp)]
  exact wpAny_pure h
theorem landD {l : List Env} (hkb : B.StaysIn s.heap) (hl : s.heap.FunFrames B l) (ht : Tr B s.heap e cls dd fl)
    (h : ∀ h', B.StaysIn h' → h'.FunFrames B l → Tr B h' e cls dd .none → UpS s.heap h' → Q () { s with heap := h' }) : wpAny M A (setFlight (.ref e) none) Q E s := by
  obtain ⟨oe, vs, T, oT, ts, he, hcls, hdd, hd, h1, hnT, hTe, hT, hdT, h3⟩ := ht
  have hsz3 : 3 < ts.size := (Array.getElem?_eq_some_iff.mp h3).1
  have other : ∀ b, b ≠ T → (s.heap.update T (Obj.mapFields (·.setIfInBounds 3 ((none : Option Addr).elim Value.none fun f => rawInt f)))).get? b = s.heap.get? b :=
    fun b hb => Heap.get?_update_other _ _ (Ne.symm hb)
  have noRecord : ∀ b o, s.heap.get? b = some o → (∀ vs, o.data ≠ .fields vs) → b ≠ T := fun b o hb hnf q => by
    rw [q, hT] at hb
    cases hb
    exact hnf ts hdT
  unfold setFlight
  refine wpAny_bind (wpAny_field he hd h1 ?_)
  rw [if_pos (show (Value.ref T != Value.none) = true from by simp)]
  refine wpAny_setField hT hdT hsz3 (h _ (fun b o hbo => (other b fun q => by rw [q, hnT] at hbo; cases hbo).trans (hkb b o hbo))
    (hl.of_keeps fun b o hb hnf => ⟨o, (other b (noRecord b o hb hnf)).trans hb, rfl⟩) ?_ fun b o hb hnf => ⟨o.slots, (other b (noRecord b o hb hnf)).trans hb⟩)
  exact ⟨oe, vs, T, _, _, (other e (Ne.symm hTe)).trans he, hcls, hdd, hd, h1, hnT, hTe, Heap.get?_update_self _ hT (Obj.isFreed_of_fields (Obj.data_mapFields hdT _)), Obj.data_mapFields hdT _, by simp [hsz3]⟩
end
-- text E2
abbrev fr (l : List Env) : List Addr := l.filterMap (·.frame)
/-- in flight, behind the frames l; G: what stood ahead, less what the ledger tells -/
def RD (base G : Heap) (l : List Env) (e : Addr) (cls : Value) (dd : Option Addr) (news : List (Addr × Obj)) (h : Heap) : Prop :=
  ∃ B, base.StaysIn B ∧ (∀ b o, G.get? b = some o → b ∉ fr l → B.get? b = some o) ∧ (∀ q ∈ news, B.get? q.1 = some q.2 ∧ G.get? q.1 = none ∧ base.get? q.1 = none) ∧ B.StaysIn h ∧ B.get? e = none ∧ h.FunFrames B l ∧ Tr B h e cls dd .none
theorem RD.sub {base G h : Heap} {l : List Env} {e : Addr} {cls : Value} {dd : Option Addr} {news news' : List (Addr × Obj)} (R : RD base G l e cls dd news h) (hs : ∀ q ∈ news', q ∈ news) : RD base G l e cls dd news' h := by
  obtain ⟨B, a, b, c, d⟩ := R
  exact ⟨B, a, b, fun q hq => c q (hs q hq), d⟩
theorem RD.toSN {base G h : Heap} {l : List Env} {e : Addr} {cls : Value} {dd : Option Addr} {news : List (Addr × Obj)} (R : RD base G l e cls dd news h) : RaisedSN base G l e cls news h := by
  obtain ⟨B, a, b, c, d1, d2, d3, oe, vs, T, oT, ts, t1, t2, _, t4, t5, t6⟩ := R
  have h1 : 1 < vs.size := (Array.getElem?_eq_some_iff.mp t5).1
  exact ⟨B, vs[0]'(by omega), a, b, c, d1, d2, d3, oe, vs, T, oT, ts, t1, ⟨t2, Array.getElem?_eq_getElem (by omega)⟩, t4, t5, t6⟩
theorem fr_mem {env : Env} {outer : List Env} {L b : Addr} (hf : env.frame = some L) (hm : b ∈ fr (env :: outer)) : b = L ∨ b ∈ fr outer := by
  obtain ⟨x, hx, q⟩ := List.mem_filterMap.mp hm
  rcases List.mem_cons.mp hx with rfl | hx
  · exact .inl (Option.some.inj (q.symm.trans hf))
  · exact .inr (List.mem_filterMap.mpr ⟨x, hx, q⟩)
theorem fr_head {env : Env} {outer : List Env} {L : Addr} (hf : env.frame = some L) : L ∈ fr (env :: outer) := List.mem_filterMap.mpr ⟨env, .head _, hf⟩
theorem fr_tail {env : Env} {outer : List Env} {b : Addr} (hm : b ∈ fr outer) : b ∈ fr (env :: outer) := by
  obtain ⟨x, hx, q⟩ := List.mem_filterMap.mp hm
  exact List.mem_filterMap.mpr ⟨x, .tail _ hx, q⟩
section
variable {M : Model} {A : Around} {E : Value → Shared → Prop} {s' : Shared} {base g g₂ h : Heap} {env : Env} {outer : List Env} {L e : Addr} {m : Str → Option Value} {cls : Value} {dd : Option Addr} {Q : Unit → Shared → Prop} {news : List (Addr × Obj)}
theorem pushD (K : Below A base outer g) (F : Fr g L h m) (hf : env.frame = some L) (hk : env.scope.kind ≠ .module) : Below (A.deeper env) base (env :: outer) h := by
  have hnew : base.get? L = none := by
    cases q : base.get? L with
    | none => rfl
    | some o => exact absurd (Nat.lt_of_lt_of_le (Heap.lt_size (K.stays _ _ q)) F.above) (Nat.lt_irrefl _)
  obtain ⟨oL, es, ep, hL, hLd, _⟩ := F.ns
  refine ⟨Around.frames_deeper K.stack, fun b o x => F.keep b o (K.stays b o x), hk, ⟨L, oL, hf, hnew, hL, fun vs q => by rw [hLd] at q; cases q⟩, ?_⟩
  exact K.frames.of_keeps fun b o x _ => ⟨o, F.keep b o x, rfl⟩
/-- the exception was made in this very frame: e stands apart from the ledger -/
theorem leave_startD (K : Below A base outer g) (F : Fr g L s'.heap m) (N : News g L s'.heap news) (hf : env.frame = some L) (hk : env.scope.kind ≠ .module) (hne : ∀ q ∈ news, q.1 ≠ e) (hge : g.get? e = none) (ht : Tr0 s'.heap e cls dd)
    (hQ : ∀ h', RD base g outer e cls dd news h' → g.UpToSlots h' → Q () { s' with heap := h' }) : wpAny M (A.deeper env) (leaving env (.ref e)) Q E s' := by
  have K' := pushD (env := env) K F hf hk
  let B := hideAll s'.heap (e :: fr (env :: outer))
  have st : base.StaysIn B := fun b o q => hideAll_get _ (K'.stays b o q) fun hm => by
    rcases List.mem_cons.mp hm with rfl | hm
    · rw [fresh_of_stays K.stays hge] at q; cases q
    · rw [(K'.frames.mem hm).1] at q; cases q
  have sg : ∀ b o, g.get? b = some o → b ∉ fr outer → B.get? b = some o := fun b o q nm => hideAll_get _ (F.keep b o q) fun hm => by
    rcases List.mem_cons.mp hm with rfl | hm
    · rw [hge] at q; cases q
    · rcases fr_mem hf hm with z | z
      · rw [z, kts_self F] at q; cases q
      · exact nm z
  have hl : ∀ q ∈ news, B.get? q.1 = some q.2 ∧ g.get? q.1 = none ∧ base.get? q.1 = none := fun q hq => by
    refine ⟨hideAll_get _ (N q hq).1 fun hm => ?_, (N q hq).2.2, fresh_of_stays K.stays (N q hq).2.2⟩
    rcases List.mem_cons.mp hm with z | hm
    · exact hne q hq z
    · rcases fr_mem hf hm with z | z
      · exact (N q hq).2.1 z
      · obtain ⟨o, ho, _⟩ := (K.frames.mem z).2
        rw [(N q hq).2.2] at ho; cases ho
  have hBs : B.StaysIn s'.heap := fun b o q => of_hideAll _ q
  have hBe : B.get? e = none := hideAll_none _ (.head _)
  have hfun : s'.heap.FunFrames B (env :: outer) := funFrames_hide K'.frames fun x hx b q => .tail _ (List.mem_filterMap.mpr ⟨x, hx, q⟩)
  unfold leaving
  refine wpAny_bind (note0D K'.stack hfun hf ht hBs hBe fun h₁ a1 a2 a3 a4 => ?_)
  refine landD a1 a2 a3 fun h₂ b1 b2 b3 b4 => ?_
  obtain ⟨_, _, b2'⟩ := b2
  exact hQ h₂ ⟨B, st, sg, hl, b1, hBe, b2', b3⟩ (((Heap.UpToSlots.of_keeps F.keep).trans a4).trans b4)
theorem leave_nextD (K : Below A base outer g) (F : Fr g L g₂ m) (hf : env.frame = some L) (R : RD base g₂ (env :: outer) e cls dd news s'.heap) (hsm : g₂.UpToSlots s'.heap)
    (hQ : ∀ h', RD base g outer e cls dd news h' → g.UpToSlots h' → Q () { s' with heap := h' }) : wpAny M (A.deeper env) (leaving env (.ref e)) Q E s' := by
  obtain ⟨B, st, sg, hl, hBs, hBe, hfun, ht⟩ := R
  unfold leaving
  refine wpAny_bind (note1D (Around.frames_deeper K.stack) hfun hf ht hBs hBe fun h₁ a1 a2 a3 a4 => ?_)
  refine landD a1 a2 a3 fun h₂ b1 b2 b3 b4 => ?_
  obtain ⟨_, _, b2'⟩ := b2
  refine hQ h₂ ⟨B, st, fun b o q nm => sg b o (F.keep b o q) fun hm => ?_, fun q hq => ⟨(hl q hq).1, kts_none F.keep (hl q hq).2.1, (hl q hq).2.2⟩, b1, hBe, b2', b3⟩ ((Heap.UpToSlots.of_keeps F.keep).trans ((hsm.trans a4).trans b4))
  rcases fr_mem hf hm with z | z
  · rw [z, kts_self F] at q; cases q
  · exact nm z
end
-- text E3
/-! an own exception class is called: Exception.__new__, then its own __init__ -/
def excMk (K : Frag) (C : Addr) : Bool := match K.lookup C with
  | some ⟨_, _, .cls cd, sl⟩ => !cd.hasDel && (sl.toList[4]?).join == some (.builtin "Exception.__new__") && !cd.mro.isEmpty && cd.mro.contains (.ref C) && cd.mro.contains (.type "Exception") && !cd.mro.contains (.type "AttributeError") && !cd.mro.contains (.type "NameError") &&
      specialIn K (.ref C) "__call__" == some (some (.builtin "type.__call__")) && instIn K (.ref C) (.type "type") == some true
  | _ => false
structure ExcMk (M : Model) (h : Heap) (C : Addr) : Prop where
  obj : ∃ oc od cd sl, h.get? C = some ⟨oc, od, .cls cd, sl⟩ ∧ cd.hasDel = false ∧ cd.mro.isEmpty = false
  made : Looks M h (Bind.madeBy (.ref C)) (some "Exception.__new__")
  base : Looks M h (Bind.staticBase (.ref C)) (.ref C)
  self : Looks M h (isSubtype (.ref C) (.ref C)) true
  top : Looks M h (isSubtype (.ref C) (.type "Exception")) true
  nAttr : Looks M h (isSubtype (.ref C) (.type "AttributeError")) false
  nName : Looks M h (isSubtype (.ref C) (.type "NameError")) false
  call : Looks M h (specialOf (.ref C) "__call__") (some (.builtin "type.__call__"))
  typ : Looks M h (isInstance (.ref C) (.type "type")) true
theorem excMk_of {K : Frag} {M : Model} {h : Heap} (X : K.In h) {C : Addr} (e : excMk K C = true) : ExcMk M h C := by
  unfold excMk at e
  split at e
  · rename_i oc od cd sl ho
    simp only [Bool.and_eq_true, Bool.not_eq_true', beq_iff_eq] at e
    obtain ⟨⟨⟨⟨⟨⟨⟨⟨e2, e3⟩, e4⟩, e5⟩, e6⟩, e7⟩, e8⟩, e9⟩, e10⟩ := e
    have hc : clsIn K C = some cd := by unfold clsIn; rw [ho]
    have hm : Looks M h (mroOf (.ref C)) cd.mro := (looks_clsIn X hc).andThen .now
    obtain ⟨c, l, hl⟩ : ∃ c l, cd.mro = c :: l := by cases q : cd.mro with | nil => rw [q] at e4; cases e4 | cons c l => exact ⟨c, l, rfl⟩
    have made : Looks M h (Bind.madeBy (.ref C)) (some "Exception.__new__") := by
      intro A Q E s k q
      unfold Bind.madeBy
      refine wpAny_bind (hm A _ E s k ?_)
      rw [hl, List.forIn_cons]
      refine wpAny_bind (wpAny_bind (wpAny_bind (wpAny_bind (wpAny_loadPart (k _ _ (X _ _ ho)) (wpAny_pure ?_)))))
      dsimp only
      rw [← Array.getElem?_toList, e3]
      exact wpAny_pure (wpAny_pure (wpAny_pure q))
    refine ⟨⟨oc, od, cd, sl, X _ _ ho, e2, e4⟩, made, ?_, looks_mroIn X ?_, looks_mroIn X ?_, looks_mroIn X ?_, looks_mroIn X ?_, looks_specialIn X e9, looks_instIn X e10⟩
    · intro A Q E s k q
      unfold Bind.staticBase
      refine wpAny_bind (hm A _ E s k ?_)
      rw [hl, List.forIn_cons]
      exact wpAny_bind (wpAny_bind (wpAny_bind (made A _ E s k (wpAny_pure (wpAny_pure (wpAny_pure q))))))
    · unfold mroIn; rw [hc, Option.bind_some, if_neg (by rw [e4]; decide), e5]
    · unfold mroIn; rw [hc, Option.bind_some, if_neg (by rw [e4]; decide), e6]
    · unfold mroIn; rw [hc, Option.bind_some, if_neg (by rw [e4]; decide), e7]
    · unfold mroIn; rw [hc, Option.bind_some, if_neg (by rw [e4]; decide), e8]
  · cases e
abbrev tupObj (vs : List Value) : Obj := { cls := .type "tuple", data := .seq vs.toArray }
abbrev excObj (C t : Addr) : Obj := { cls := .ref C, data := .fields #[.ref t, .none, .none, .none, .bool false, .none] }
section
variable {prog : Program} {w : World} {A : Around} {C : Addr} {R : Result → Shared → Prop} {h : Heap} {g : Array GenState} {d : Drawn} {t : Nat} {os : OsState}
theorem exc_new {rest : List Value} {kw : List (Str × Value)} (Y : ExcMk (model prog w) h C) (hrest : rest.length ≤ sizeLine)
    (hq : R (.ok (.ret (.ref (h.objs.size + 1)))) ⟨(h.push (tupObj rest)).push (excObj C h.objs.size), g, d, t, os⟩) :
    codeAny (model prog w) A (.call (.builtin "Exception.__new__") ⟨.ref C :: rest, kw⟩) R ⟨h, g, d, t, os⟩ := by
  obtain ⟨⟨oc, od, cd, sl, hC, e2, e4⟩, made, base, self, top, nAttr, nName, call, typ⟩ := Y
  have F := PySem.F.excBase_Exception
  have hends := F.ends
  refine codeAny_call_builtin_code (Code.quiet_builtin _ F.quiet) ?_
  simp only [checkBuiltinCall, F.newKind, F.newSplit, F.newRow]
  repeat (first | simp only [bne_self_eq_false, Bool.false_eq_true, if_false] | lk)
  refine codeAny_builtinAt F.entry ?_
  unfold Builtin.«BaseException.__new__»
  refine PySem.wpAt_bind ?_
  show PySem.wpAt _ _ _ (stack >>= _) _ _ _
  refine PySem.wpAt_bind (PySem.wpAt_stack fun p below => PySem.wpAt_of_wpAny ?_)
  wp_walk
  refine PySem.wpAt_of_wpAny ?_
  rw [F.owner]
  have here : Looks (model prog w) h (Bind.madeHere "BaseException.__new__" (.ref C)) () := base.andThen (made.andThen (Looks.of_pure (by simp only [Option.map_some, F.canon, bne_self_eq_false, Bool.false_eq_true, if_false])))
  repeat (first | simp only [Bool.false_eq_true, if_false] | lk)
  rw [if_neg (show ¬ rest.toArray.size > sizeLine from by simpa using hrest)]
  unfold newObjAsIs
  refine wpAny_bind (wpAny_alloc ?_)
  show wpAny _ _ (pure (Value.ref h.objs.size)) _ _ _
  refine wpAny_pure (wpAny_bind ?_)
  show wpAny _ _ (newObj (Value.ref C) (Data.fields #[.ref h.objs.size, .none, .none, .none, .bool false, .none])) _ _ _
  unfold newObj
  dsimp only
  refine wpAny_ite_false (decide_eq_false (show ¬ (6 > sizeLine + 2) from by rw [sizeLine_eq]; decide)) ?_
  unfold newObjAsIs classHasDel
  refine wpAny_bind (wpAny_alloc ?_)
  dsimp only
  refine wpAny_bind (wpAny_bind (wpAny_load (Heap.get?_push_of_some _ (Heap.get?_push_of_some _ hC)) (wpAny_pure ?_)))
  rw [e2]
  refine wpAny_pure (wpAny_pure ?_)
  show R _ _
  rw [Heap.size_push]
  exact hq
theorem exc_core {rest : List Value} {kw : List (Str × Value)} {init : Value} (Y : ExcMk (model prog w) h C) (hrest : rest.length ≤ sizeLine) (hi : Looks (model prog w) h (typeLookup (.ref C) "__init__") (some init))
    (hb : ∀ self, Looks (model prog w) h (bindSpecial init self) (init, [self]))
    (hq : codeAny (model prog w) (A.under (.builtin "type.__call__" ⟨.ref C :: rest, kw⟩)) (.call init ⟨.ref (h.objs.size + 1) :: rest, kw⟩) (InitBack (h.objs.size + 1) R) ⟨(h.push (tupObj rest)).push (excObj C h.objs.size), g, d, t, os⟩) :
    codeAny (model prog w) A (.call (.ref C) ⟨rest, kw⟩) R ⟨h, g, d, t, os⟩ := by
  have Y' := Y
  obtain ⟨⟨oc, od, cd, sl, hC, e2, e4⟩, made, base, self, top, nAttr, nName, call, typ⟩ := Y
  refine codeAny_of_tree ?_
  show wpAny _ _ (callAny (.ref C) _) _ _ _
  refine nd_load hC ?_
  show wpAny _ _ (callAny.viaDunder (.ref C) _) _ _ _
  unfold callAny.viaDunder
  refine wpAny_bind (call.at ?_)
  dsimp only
  rw [tc_bind]
  refine wpAny_bind (wpAny_pure (wpAny_bind (wpAny_pure ?_)))
  refine wpAny_pure (a := Fin.again (.call (.builtin "type.__call__") ⟨.ref C :: rest, kw⟩)) (And.intro rfl ?_)
  refine codeAny_call_builtin_at (Code.quiet_builtin _ (by decide +kernel)) entry_typeCall (check_slot tc_kind tc_split typ (tc_args _ _ _) ?_)
  unfold Builtin.«type.__call__»
  have hm : Looks (model prog w) h (mroOf (.ref C)) cd.mro := ((Looks.ld (part := none) hC).andThen .now).andThen .now
  repeat (first | simp only [e4, Bool.false_eq_true, if_false] | with_reducible refine wpAny_call ?_ | lk)
  refine exc_new Y' hrest ?_
  have k : ∀ b o, h.get? b = some o → ((h.push (tupObj rest)).push (excObj C h.objs.size)).get? b = some o := fun b o e => Heap.get?_push_of_some _ (Heap.get?_push_of_some _ e)
  have hx : ((h.push (tupObj rest)).push (excObj C h.objs.size)).get? (h.objs.size + 1) = some (excObj C h.objs.size) := by heap_get
  have t1 : Looks (model prog w) ((h.push (tupObj rest)).push (excObj C h.objs.size)) (typeOf (.ref (h.objs.size + 1))) (.ref C) := (Looks.ld hx).andThen .now
  have s1 := self.keeps k
  have i1 := hi.keeps k
  have b1 := (hb (.ref (h.objs.size + 1))).keeps k
  unfold isInstance callSpecial? specialOf
  repeat (first | with_reducible refine wpAny_call ?_ | lk)
  refine codeAny_mono hq fun r s' z => ?_
  rcases r with e | (v | _ | _ | _) <;> first | exact z | exact z.elim | skip
  obtain ⟨rfl, z⟩ := z
  exact wpAny_pure (wpAny_pure z)
end
section
variable {prog : Program} {w : World} {A : Around} {K : Frag} {C : Addr} {s : Shared} {h₀ : Heap} {L : Addr} {m : Str → Option Value} {news : List (Addr × Obj)} {R : Result → Shared → Prop} {Q E : Value → Shared → Prop}
theorem exc_K {rest : List Value} {kw : List (Str × Value)} {fI : Addr} (F : Fr h₀ L s.heap m) (N : News h₀ L s.heap news) (X : K.In s.heap) (hm : excMk K C = true) (hrest : rest.length ≤ sizeLine)
    (hi : findIn K (.ref C) "__init__" = some (some (.ref fI))) (hf : typeIn K (.ref fI) = some (.type "function"))
    (h : ∀ e t h', Fr h₀ L h' m → News h₀ L h' ((e, excObj C t) :: (t, tupObj rest) :: news) → (∀ p ∈ news, p.1 < t) → t < e →
      codeAny (model prog w) (A.under (.builtin "type.__call__" ⟨.ref C :: rest, kw⟩)) (.call (.ref fI) ⟨.ref e :: rest, kw⟩) (InitBack e R) { s with heap := h' }) :
    codeAny (model prog w) A (.call (.ref C) ⟨rest, kw⟩) R s := by
  obtain ⟨hh, g, d, t, os⟩ := s
  refine exc_core (excMk_of X hm) hrest (looks_findIn X hi) (fun self => bind_fn X self hf) (h _ hh.objs.size _ ((F.push _).push _) ?_ (fun p hp => Heap.lt_size (N p hp).1) (Nat.lt_succ_self _))
  have := (N.push F (tupObj rest)).push (F.push _) (excObj C hh.objs.size)
  rwa [Heap.size_push] at this
end
-- text E4
section
open Builtin Builtin.ObjectAttr
/-! attributes of an exception object -/
def onlyExc : List Value → Bool
  | .ref _ :: r => onlyExc r
  | l => l == [.type "Exception", .type "BaseException", .type "object"]
theorem refuse_exc (self : Value) : ∀ {l : List Value}, onlyExc l = true → refuseLoop self "__setattr__" l = pure ()
  | .ref c :: r, e => by rw [refuseLoop_ref]; exact refuse_exc self (l := r) e
  | [], e => by cases e
  | .type n :: r, e => by rw [show Value.type n :: r = [.type "Exception", .type "BaseException", .type "object"] from beq_iff_eq.mp e]; exact PySem.F.store_Exception.passes self
  | .none :: r, e => by cases e
  | .ellipsis :: r, e => by cases e
  | .notImplemented :: r, e => by cases e
  | .bool _ :: r, e => by cases e
  | .int _ _ :: r, e => by cases e
  | .float _ _ :: r, e => by cases e
  | .str _ _ :: r, e => by cases e
  | .bytes _ _ :: r, e => by cases e
  | .builtin _ :: r, e => by cases e
theorem exc_has : ∀ {l : List Value}, onlyExc l = true → l.contains (.type "object") = true
  | .ref c :: r, e => by rw [List.contains_cons, exc_has (l := r) e, Bool.or_true]
  | [], e => by cases e
  | .type n :: r, e => by rw [show Value.type n :: r = [.type "Exception", .type "BaseException", .type "object"] from beq_iff_eq.mp e]; decide
  | .none :: r, e => by cases e
  | .ellipsis :: r, e => by cases e
  | .notImplemented :: r, e => by cases e
  | .bool _ :: r, e => by cases e
  | .int _ _ :: r, e => by cases e
  | .float _ _ :: r, e => by cases e
  | .str _ _ :: r, e => by cases e
  | .bytes _ _ :: r, e => by cases e
  | .builtin _ :: r, e => by cases e
def overExc (K : Frag) (C : Addr) : Bool := (clsIn K C).any fun cd => onlyExc cd.mro
section
variable {prog : Program} {w : World} {A : Around} {R : Result → Shared → Prop} {s : Shared} {K : Frag} {x C L : Addr} {h₀ : Heap} {m : Str → Option Value} {news : List (Addr × Obj)}
theorem osaE_open {ox : Obj} {od : Option Obj} {name : Str} {tk : Tok} {v : Value} (X : K.In s.heap) (I : InstAt s.heap x ox C od) (hp : overExc K C = true) (ht : takerIn K C name = some none)
    (h : ∀ b, wpAny (model prog w) A.in1 (storeInOwnDict (.ref x) (.ref C) (.str name tk) name v b)
      (fun fin s' => match fin with | .done f => R (.ok f) s' | .again c' => c'.quiet = true ∧ codeAny (model prog w) A c' R s') (fun e s' => R (.error e) s') s) :
    codeAny (model prog w) A (.call (.builtin "object.__setattr__") ⟨[.ref x, .str name tk, v], []⟩) R s := by
  have SF := PySem.F.store_object
  obtain ⟨cd, hc, ho⟩ := any_some hp
  have ne : cd.mro.isEmpty = false := by cases q : cd.mro with | nil => rw [q] at ho; cases ho | cons _ _ => rfl
  have sub : Looks (model prog w) s.heap (isInstance (.ref x) (.type "object")) true := I.type.andThen (looks_mroIn X (by unfold mroIn; rw [hc, Option.bind_some, if_neg (by rw [ne]; decide), exc_has ho]))
  refine codeAny_call_builtin SF.slot.plain SF.entry (@check_slot (model prog w) _ _ s "object.__setattr__" "object" "__setattr__" (.ref x) [.str name tk, v] [] _ SF.kind SF.split sub (SF.args (.ref x) (.str name tk) v) ?_)
  obtain ⟨attr, ha, hr⟩ := Option.bind_eq_some_iff.mp ht
  have hm : Looks (model prog w) s.heap (mroOf (.ref C)) cd.mro := (looks_clsIn X hc).andThen .now
  have L3 : Looks (model prog w) s.heap (storeTaker? attr) none := by
    cases attr with
    | none => cases hr; exact .now
    | some a =>
      obtain ⟨b, hb, q⟩ := Option.map_eq_some_iff.mp hr
      refine (looks_takesIn X hb).andThen ?_
      cases b with
      | true => cases q
      | false => exact .now
  rw [osa_eq, refuse_eq]
  refine wpAny_bind (wpAny_bind (I.type.here (wpAny_bind (hm.here ?_))))
  rw [refuse_exc _ ho]
  refine wpAny_pure (wpAny_bind (I.type.here (wpAny_bind ((looks_findIn X ha).here (wpAny_bind (L3.here ?_))))))
  exact h _
theorem nsSet_led {E' : Value → Shared → Prop} {Q : Unit → Shared → Prop} {dx n n' : Nat} {name : Str} {v : Value} {es es' : List DictEntry} {news' : List (Addr × Obj)} (F : Fr h₀ L s.heap m) (N : News h₀ L s.heap news) (U : Upd dx (dictOf es n) (dictOf es' n') news news')
    (hl : (getL name es).isSome = true) (e : (putL name (PyData.keyHash w.params name) (.str name s.toks) v es, putN name es n) = (es', n'))
    (h : ∀ h', Fr h₀ L h' m → News h₀ L h' news' → h'.get? dx = some (dictOf es' n') → Q () { s with heap := h', toks := s.toks + 1 }) : wpAny (model prog w) A (nsSet dx name v) Q E' s := by
  obtain ⟨pre, post, rfl, rfl, a, b⟩ := U.split
  obtain ⟨e1, e2⟩ := Prod.mk.inj e
  subst e1 e2
  have D := (N (dx, dictOf es n) (List.mem_append_right _ (.head _))).1
  obtain ⟨U1, U2⟩ := news_upd (f := Obj.putName name (PyData.keyHash w.params name) (.str name s.toks) v) F N a b (putName_dict name _ _ v es n) rfl
  have c : (!es.any (·.key.isStr name) && es.any (·.refKey)) = false := by
    cases hf : es.find? (·.key.isStr name) with
    | some en => rw [List.any_eq_true.mpr ⟨en, List.mem_of_find?_eq_some hf, List.find?_some hf⟩]; rfl
    | none =>
      have : ¬ es.any (·.refKey) = true := fun z => by unfold getL at hl; rw [hf] at hl; simp [z] at hl
      rw [Bool.not_eq_true _ |>.mp this, Bool.and_false]
  unfold nsSet
  refine wpAny_bind (wpAny_bind (wpAny_askSetting (wpAny_pure (wpAny_bind (wpAny_mkText (wpAny_bind (wpAny_loadPart D ?_)))))))
  dsimp only
  rw [aRefKeyMayBeTheName_at]
  have c' : (!es.toArray.any (·.key.isStr name) && es.toArray.any (·.refKey)) = false := by rw [List.any_toArray, List.any_toArray]; exact c
  rw [c']
  exact wpAny_updatePart D (h _ U1 U2 (U2 _ (List.mem_append_right _ (.head _))).1)
theorem own_dict {M : Model} {E' : Value → Shared → Prop} {Q : Option Addr → Shared → Prop} {ox : Obj} {dx : Addr} (X : K.In s.heap) (hx : s.heap.get? x = some ox) (hcl : ox.cls = .ref C) (hd : ox.dict = some dx) (hh : hasDictIn K C = true)
    (h : Q (some dx) s) : wpAny M A (instanceDict x true) Q E' s := by
  obtain ⟨cd, hc, hd'⟩ := any_some hh
  obtain ⟨oc, odi, oda, osl⟩ := ox
  dsimp only at hcl hd
  subst hcl hd
  unfold instanceDict
  refine wpAny_bind (wpAny_loadPart hx ?_)
  refine wpAny_bind ((looks_clsIn X hc).here ?_)
  rw [hd']
  exact wpAny_pure h
theorem own_dict_new {M : Model} {E' : Value → Shared → Prop} {Q : Option Addr → Shared → Prop} {ox : Obj} {vs : Array Value} (X : K.In s.heap) (hx : s.heap.get? x = some ox) (hcl : ox.cls = .ref C) (hd : ox.dict = none) (hda : ox.data = .fields vs) (hh : hasDictIn K C = true)
    (h : Q (some s.heap.objs.size) { s with heap := (s.heap.push (dictOf [] 0)).update x fun o => { o with dict := some s.heap.objs.size } }) : wpAny M A (instanceDict x true) Q E' s := by
  obtain ⟨cd, hc, hd'⟩ := any_some hh
  obtain ⟨oc, odi, oda, osl⟩ := ox
  dsimp only at hcl hd hda
  subst hcl hd hda
  unfold instanceDict
  refine wpAny_bind (wpAny_loadPart hx ?_)
  refine wpAny_bind ((looks_clsIn X hc).here ?_)
  rw [hd']
  show wpAny M A (alloc (dictOf [] 0) >>= fun d => update x (fun o => { o with dict := some d }) >>= fun _ => pure (some d)) Q E' s
  exact wpAny_bind (wpAny_alloc (wpAny_bind (wpAny_update (Heap.get?_push_of_some _ hx) (wpAny_pure h))))
variable {E : Value → Shared → Prop} {Q : Unit → Shared → Prop} {dx n n' : Nat} {name : Str} {v : Value} {es es' : List DictEntry} {news' : List (Addr × Obj)} {ox : Obj}
theorem setE_more (F : Fr h₀ L s.heap m) (X₀ : K.In h₀) (N : News h₀ L s.heap news) (hm : (x, ox) ∈ news) (hcl : ox.cls = .ref C) (hno : notCls ox = true) (hd : ox.dict = some dx) (hmd : (dx, dictOf es n) ∈ news)
    (hs : findIn K (.ref C) "__setattr__" = some (some (.builtin "object.__setattr__"))) (hp : overExc K C = true) (ht : takerIn K C name = some none) (hh : hasDictIn K C = true) (hl : (getL name es).isSome = true)
    (e : (putL name (PyData.keyHash w.params name) (.str name (s.toks + 1)) v es, putN name es n) = (es', n')) (U : Upd dx (dictOf es n) (dictOf es' n') news news') (hz : es'.length ≤ 1000)
    (h : ∀ h', Fr h₀ L h' m → News h₀ L h' news' → Q () { s with heap := h', toks := s.toks + 2 }) : wpAny (model prog w) A (setAttr (.ref x) name v) Q E s := by
  have X := X₀.keeps F.keep
  have hx := (N _ hm).1
  have I : InstAt s.heap x ox C (some (dictOf es n)) := ⟨hx, hcl, hno, by rw [hd]; exact (N _ hmd).1⟩
  refine set_plain X I hs (osaE_open (s := { s with toks := s.toks + 1 }) X I hp ht fun b => ?_)
  unfold storeInOwnDict ownDictForStores
  refine wpAny_bind (wpAny_pure ?_)
  refine wpAny_ite_false (decide_eq_false (by simp)) ?_
  refine wpAny_bind (own_dict X hx hcl hd hh ?_)
  show wpAny _ _ (storeInDict dx (.str name s.toks) name v) _ _ _
  unfold storeInDict
  refine wpAny_bind (wpAny_pure (wpAny_bind (nsSet_led (s := { s with toks := s.toks + 1 }) F N U hl e fun h' F' N' g' => ?_)))
  refine wpAny_bind (wpAny_lookBehind g' (pastItsLine_dict (by rw [List.size_toArray, sizeLine_eq]; omega)) ?_)
  exact wpAny_pure (h h' F' N')
theorem setE_new {vs : Array Value} (F : Fr h₀ L s.heap m) (X₀ : K.In h₀) (N : News h₀ L s.heap ((x, ox) :: news)) (hcl : ox.cls = .ref C) (hda : ox.data = .fields vs) (hd : ox.dict = none) (hne : ∀ p ∈ news, p.1 ≠ x)
    (hs : findIn K (.ref C) "__setattr__" = some (some (.builtin "object.__setattr__"))) (hp : overExc K C = true) (ht : takerIn K C name = some none) (hh : hasDictIn K C = true)
    (h : ∀ d h', Fr h₀ L h' m → News h₀ L h' ((d, dictOf [⟨PyData.keyHash w.params name, .str name (s.toks + 1), v⟩] 1) :: (x, { ox with dict := some d }) :: news) → (∀ p ∈ news, p.1 < d) → x < d → Q () { s with heap := h', toks := s.toks + 2 }) :
    wpAny (model prog w) A (setAttr (.ref x) name v) Q E s := by
  have X := X₀.keeps F.keep
  have hx := (N _ (.head _)).1
  have hno : notCls ox = true := by unfold notCls; rw [hda]
  have I : InstAt s.heap x ox C none := ⟨hx, hcl, hno, by rw [hd]; trivial⟩
  refine set_plain X I hs (osaE_open (s := { s with toks := s.toks + 1 }) X I hp ht fun b => ?_)
  unfold storeInOwnDict ownDictForStores
  refine wpAny_bind (wpAny_pure ?_)
  refine wpAny_ite_false (decide_eq_false (by simp)) ?_
  refine wpAny_bind (own_dict_new X hx hcl hd hda hh ?_)
  show wpAny _ _ (storeInDict s.heap.objs.size (.str name s.toks) name v) _ _ _
  have hlt := Heap.lt_size hx
  have F₁ := F.push (dictOf [] 0)
  have N₁ := N.push F (dictOf [] 0)
  have N₁' : News h₀ L (s.heap.push (dictOf [] 0)) ([(s.heap.objs.size, dictOf [] 0)] ++ (x, ox) :: news) := N₁
  have hf : ({ ox with dict := some s.heap.objs.size } : Obj).isFreed = false := by
    obtain ⟨_, _, dt, _⟩ := ox
    dsimp only at hda
    subst hda
    rfl
  obtain ⟨F₂, N₂⟩ := news_upd (f := fun o => { o with dict := some s.heap.objs.size }) F₁ N₁' (fun p hp => by rw [List.mem_singleton.mp hp]; exact Nat.ne_of_gt hlt) hne rfl hf
  have lt : ∀ p ∈ news, p.1 < s.heap.objs.size := fun p hp => Heap.lt_size (N p (.tail _ hp)).1
  unfold storeInDict
  refine wpAny_bind (wpAny_pure (wpAny_bind (nsSet_led (s := { s with heap := _, toks := s.toks + 1 }) (es := []) (n := 0) F₂ N₂ (Upd.head fun p hp => ?_) rfl rfl fun h' F' N' g' => ?_)))
  · rcases List.mem_cons.mp hp with rfl | hp
    · exact Nat.ne_of_lt hlt
    · exact Nat.ne_of_lt (lt p hp)
  refine wpAny_bind (wpAny_lookBehind g' (pastItsLine_dict (by rw [List.size_toArray, sizeLine_eq]; show 1 ≤ 16777216 + 1; decide)) ?_)
  exact wpAny_pure (h _ h' F' N' lt hlt)
end
end
-- text E5
section
open Builtin Builtin.ObjectAttr
theorem ga_slot : Slot "BaseException" "__getattribute__" "BaseException.__getattribute__" :=
  .of (owner := "BaseException") (n := "__getattribute__") (by rw [typeLookup_type, builtinLookup_eq_fast]; kernel_rfl) (by decide +kernel) (by decide +kernel) (by decide +kernel)
    (by first | exact .inl (by decide +kernel) | exact .inr (by decide +kernel)) (by rw [isSubtype_type]; kernel_rfl)
theorem ga_kind : builtinKind "BaseException.__getattribute__" = some .slot := by decide +kernel
theorem ga_split : splitId "BaseException.__getattribute__" = some ("BaseException", "__getattribute__") := by decide +kernel
theorem ga_args (a b : Value) : argsOk "BaseException.__getattribute__" ⟨[a, b], []⟩ := by unfold argsOk; kernel_rfl
theorem ga_ne (C : Addr) : (onTheHeap (Value.ref C) && Value.builtin "BaseException.__getattribute__" == Value.builtin "object.__getattribute__") = false := by
  have : (Value.builtin "BaseException.__getattribute__" == Value.builtin "object.__getattribute__") = false := by decide +kernel
  rw [this, Bool.and_false]
section
variable {prog : Program} {w : World} {A : Around} {E : Value → Shared → Prop} {s : Shared} {K : Frag} {x C : Addr} {ox : Obj} {od : Option Obj} {name : Str} {expr : Bool} {Q : Value → Shared → Prop}
theorem getE {v : Value} (X : K.In s.heap) (I : InstAt s.heap x ox C od) (hga : findIn K (.ref C) "__getattribute__" = some (some (.builtin "BaseException.__getattribute__"))) (hgt : findIn K (.ref C) "__getattr__" = some none)
    (hB : subIn K (.ref C) (.type "BaseException") = some true) (hf : findObj K C od name = some (.value v)) (hh : handedIn v = true) (h : Q v { s with toks := s.toks + 1 }) : wpAny (model prog w) A (getAttr (.ref x) name expr) Q E s := by
  obtain ⟨hp, g, d, t, os⟩ := s
  have L0 := I.type (M := model prog w)
  have L1 := looks_findIn (M := model prog w) X hga
  have L2 := looks_findIn (M := model prog w) X hgt
  have L3 : Looks (model prog w) hp (isInstance (.ref x) (.type "BaseException")) true := L0.andThen (looks_subIn X hB)
  have L4 := looks_find (M := model prog w) X I hf
  unfold getAttr getAttrBy
  refine wpAny_bind (wpAny_mkText (wpAny_holding (wpAny_bind (L0.at (wpAny_bind (L1.at ?_))))))
  dsimp only
  rw [ga_ne]
  refine wpAny_ite_false (by decide) ?_
  unfold getAttrByItsOwn hookBefore
  refine wpAny_bind (L2.at ?_)
  dsimp only [Option.toList]
  refine wpAny_bind (wpAny_attempt (wpAny_holding ?_))
  unfold callGetattribute
  have hx0 : (expr && onTheHeap (Value.builtin "BaseException.__getattribute__")) = false := by cases expr <;> rfl
  rw [hx0]
  refine wpAny_ite_false (by decide) ?_
  unfold boundAndCalled
  rw [ga_slot.bind]
  refine wpAny_bind (wpAny_pure ?_)
  show wpAny _ _ (call (.builtin "BaseException.__getattribute__") [.ref x, .str name t]) _ _ _
  refine wpAny_call (codeAny_call_builtin ga_slot.plain PySem.F.entry_bexc_ga ?_)
  refine @check_slot (model prog w) _ _ _ "BaseException.__getattribute__" "BaseException" "__getattribute__" (.ref x) [.str name t] [] _ ga_kind ga_split L3 (ga_args _ _) ?_
  unfold Builtin.«object.__getattribute__»
  repeat lk
  show wpAny _ _ (handedOut v) _ _ _
  rw [handedOut_of hh]
  exact wpAny_pure h
theorem canon_ga : (Manifest.canonical "BaseException.__getattribute__" != "object.__getattribute__") = false := by decide +kernel
theorem methodE {pl : Sem Bool} {f dx : Addr} {es : List DictEntry} {n : Nat} {Q : Value × List Value → Shared → Prop} (X : K.In s.heap) (hx : s.heap.get? x = some ox) (hcl : ox.cls = .ref C) (hd : ox.dict = some dx) (hdx : s.heap.get? dx = some (dictOf es n))
    (hga : findIn K (.ref C) "__getattribute__" = some (some (.builtin "BaseException.__getattribute__"))) (hgt : findIn K (.ref C) "__getattr__" = some none)
    (hf : findIn K (.ref C) name = some (some (.ref f))) (ht : isFn K (.ref f) = true) (hl : getL name es = some none) (h : Q (.ref f, [.ref x]) s) : wpAny (model prog w) A (getMethod (.ref x) name pl) Q E s := by
  have T : Looks (model prog w) s.heap (typeOf (.ref x)) (.ref C) := hcl ▸ (Looks.ld hx).andThen .now
  have L1 := T.andThen (f := fun t => typeLookup t "__getattribute__") (looks_findIn X hga)
  have L2 := T.andThen (f := fun t => typeLookup t "__getattr__") (looks_findIn X hgt)
  have L3 := T.andThen (f := fun t => typeLookup t name) (looks_findIn X hf)
  unfold getMethod
  refine wpAny_bind (L1.here ?_)
  dsimp only
  rw [canon_ga, if_neg (by decide)]
  refine wpAny_bind (L2.here (wpAny_bind (L3.here (wpAny_bind ((looks_typeIn X (beq_iff_eq.mp ht)).here ?_)))))
  rw [if_neg (by decide +kernel)]
  refine wpAny_bind (wpAny_loadPart hx ?_)
  rw [hd]
  refine wpAny_bind (wpAny_bind (wpAny_loadPart hdx ?_))
  rw [nsLook_of (r := none) (by rw [lookIn_dict]; exact hl)]
  exact wpAny_pure (wpAny_bind (wpAny_rule (wpAny_pure h)))
end
end
-- text E6
section
open Builtin Builtin.ObjectAttr
theorem allLt_mem {d : Nat} : ∀ {l : List (Addr × Obj)}, AllLt d l → ∀ p ∈ l, p.1 < d
  | [], _, _, h => nomatch h
  | q :: r, h, p, hp => by
    rcases List.mem_cons.mp hp with rfl | hp
    · exact h.1
    · exact allLt_mem h.2 p hp
theorem allNe {d x : Nat} {l : List (Addr × Obj)} (h : AllLt d l) (hx : d ≤ x) : ∀ p ∈ l, p.1 ≠ x := fun p hp => Nat.ne_of_lt (Nat.lt_of_lt_of_le (allLt_mem h p hp) hx)
theorem allNe' {d x : Nat} {l : List (Addr × Obj)} (h : ∀ p ∈ l, p.1 < d) (hx : d ≤ x) : ∀ p ∈ l, p.1 ≠ x := fun p hp => Nat.ne_of_lt (Nat.lt_of_lt_of_le (h p hp) hx)
theorem lt_and {d : Nat} {p : Addr × Obj} {l : List (Addr × Obj)} (h : ∀ q ∈ p :: l, q.1 < d) : @LT.lt Nat _ p.1 d ∧ ∀ q ∈ l, q.1 < d := ⟨h p (.head _), fun q hq => h q (.tail _ hq)⟩
section
variable {prog : Program} {w : World} {A : Around} {E : Value → Shared → Prop} {s : Shared} {K : Frag} {x C dx n L : Addr} {ox : Obj} {name : Str} {expr : Bool} {es : List DictEntry} {h₀ : Heap} {m : Str → Option Value} {news : List (Addr × Obj)}
theorem getE_K {Q : Value → Shared → Prop} {v : Value} {attr : Option Value} (F : Fr h₀ L s.heap m) (X₀ : K.In h₀) (N : News h₀ L s.heap news) (hm : (x, ox) ∈ news) (hcl : ox.cls = .ref C) (hno : notCls ox = true) (hd : ox.dict = some dx) (hmd : (dx, dictOf es n) ∈ news)
    (hga : findIn K (.ref C) "__getattribute__" = some (some (.builtin "BaseException.__getattribute__"))) (hgt : findIn K (.ref C) "__getattr__" = some none)
    (hB : subIn K (.ref C) (.type "BaseException") = some true) (hh : hasDictIn K C = true) (ha : findIn K (.ref C) name = some attr) (hn : noGet K attr = true) (hl : getL name es = some (some v)) (hv : handedIn v = true)
    (h : Q v { s with toks := s.toks + 1 }) : wpAny (model prog w) A (getAttr (.ref x) name expr) Q E s :=
  getE (X₀.keeps F.keep) (ox := ox) (od := some (dictOf es n)) ⟨(N _ hm).1, hcl, hno, by rw [hd]; exact (N _ hmd).1⟩ hga hgt hB (findObj_own hh ha hn hl) hv h
theorem methodE_K {pl : Sem Bool} {f : Addr} {Q : Value × List Value → Shared → Prop} (F : Fr h₀ L s.heap m) (X₀ : K.In h₀) (N : News h₀ L s.heap news) (hm : (x, ox) ∈ news) (hcl : ox.cls = .ref C) (hd : ox.dict = some dx) (hmd : (dx, dictOf es n) ∈ news)
    (hga : findIn K (.ref C) "__getattribute__" = some (some (.builtin "BaseException.__getattribute__"))) (hgt : findIn K (.ref C) "__getattr__" = some none)
    (hf : findIn K (.ref C) name = some (some (.ref f))) (ht : isFn K (.ref f) = true) (hl : getL name es = some none) (h : Q (.ref f, [.ref x]) s) : wpAny (model prog w) A (getMethod (.ref x) name pl) Q E s :=
  methodE (X₀.keeps F.keep) (N _ hm).1 hcl hd (N _ hmd).1 hga hgt hf ht hl h
theorem call_exc {Q : Value → Shared → Prop} {rest : List Value} {kw : List (Str × Value)} {fI : Addr} (F : Fr h₀ L s.heap m) (X₀ : K.In h₀) (N : News h₀ L s.heap news) (hm : excMk K C = true) (hrest : rest.length ≤ 16777216)
    (hi : findIn K (.ref C) "__init__" = some (some (.ref fI))) (hf : isFn K (.ref fI) = true)
    (h : ∀ e t h', Fr h₀ L h' m → News h₀ L h' ((e, excObj C t) :: (t, tupObj rest) :: news) → (∀ p ∈ news, p.1 < t) → t < e →
      codeAny (model prog w) (A.under (.builtin "type.__call__" ⟨.ref C :: rest, kw⟩)) (.call (.ref fI) ⟨.ref e :: rest, kw⟩) (InitBack e fun r s' => match r with | .ok (.ret v) => Q v s' | .ok _ => False | .error e => E e s') { s with heap := h' }) :
    wpAny (model prog w) A (call (.ref C) rest kw) Q E s := wpAny_call (exc_K F N (X₀.keeps F.keep) hm (by rw [sizeLine_eq]; exact hrest) hi (beq_iff_eq.mp hf) h)
end
end
-- text E7
section
open Builtin Builtin.ObjectAttr
/-! an own exception is raised, no exception being handled -/
def RaiseK (h₀ : Heap) (L : Addr) (m : Str → Option Value) (E : Value → Shared → Prop) (v : Value) (s₁ : Shared) : Prop :=
  ∃ (K : Frag) (e C : Addr) (oe : Obj) (vs : Array Value) (news : List (Addr × Obj)), v = .ref e ∧ Fr h₀ L s₁.heap m ∧ K.In h₀ ∧ News h₀ L s₁.heap news ∧ (e, oe) ∈ news ∧ oe.cls = .ref C ∧ oe.data = .fields vs ∧ vs[1]? = some .none ∧
    typeIn K (.ref C) = some (.type "type") ∧ subIn K (.ref C) (.type "BaseException") = some true ∧ E (.ref e) s₁
section
variable {M : Model} {A : Around} {E : Value → Shared → Prop} {s : Shared} {env : Env} {h₀ : Heap} {L : Addr} {m m' : Str → Option Value}
theorem raise_own {x : Expr} {pos : Pos} {Q : Flow → Shared → Prop} (_F : Fr h₀ L s.heap m) (hh : A.handled = none)
    (h : wpAny M A (eval x env) (RaiseK h₀ L m E) E s) : wpAny M A (exec (.Raise (some x) none pos) env) Q E s := by
  show wpAny M A (do standAt pos; raiseStmt env (some (do let v ← eval x env; standAt pos; pure v)) none) Q E s
  refine wpAny_bind (wpAny_standAt ?_)
  unfold raiseStmt
  dsimp only
  refine wpAny_bind (wpAny_bind (wpAny_mono h (fun v s₁ h₁ => wpAny_bind (wpAny_standAt (wpAny_pure ?_))) fun _ _ x => x))
  obtain ⟨K, e, C, oe, vs, news, rfl, F, X₀, N, hm, hcl, hd, h1, ht, hs, hE⟩ := h₁
  have he := (N _ hm).1
  have X := X₀.keeps F.keep
  obtain ⟨hp, g, d, tk, os⟩ := s₁
  have LT : Looks M hp (typeOf (.ref e)) (.ref C) := hcl ▸ (Looks.ld he).andThen .now
  have LI : Looks M hp (isInstance (.ref e) (.type "BaseException")) true := LT.andThen (looks_subIn X hs)
  have LM : Looks M hp (typeOf (.ref C)) (.type "type") := looks_typeIn X ht
  have hnt : ∀ {Q' : Bool → Shared → Prop}, Q' false ⟨hp, g, d, tk, os⟩ → wpAny M A (isType (.ref e)) Q' E ⟨hp, g, d, tk, os⟩ := by
    intro Q' hq
    simp only [isType, loadHead]
    refine wpAny_bind (wpAny_loadPart he ?_)
    rw [hd]; exact wpAny_pure hq
  refine wpAny_bind (wpAny_pure ?_)
  dsimp only
  refine wpAny_bind (wpAny_holding ?_)
  unfold excFromValue isExcClass
  refine wpAny_bind (wpAny_bind (hnt ?_))
  simp only [Bool.false_eq_true, if_false]
  refine wpAny_pure ?_
  simp only [Bool.false_eq_true, if_false]
  refine wpAny_bind (LI.at ?_)
  simp only [if_true]
  refine wpAny_pure ?_
  refine wpAny_bind (hnt ?_)
  simp only [Bool.false_eq_true, if_false]
  unfold raisedInstance
  refine wpAny_bind (wpAny_bind (LT.at (wpAny_bind (LM.at ?_))))
  rw [if_pos (by decide)]
  refine wpAny_pure ?_
  unfold setFlight raiseNew
  refine wpAny_bind (wpAny_bind (wpAny_field he hd h1 ?_))
  rw [if_neg (by decide)]
  refine wpAny_pure (wpAny_bind (wpAny_handled ?_))
  rw [hh]
  first
    | exact wpAny_throw hE
    | exact wpAny_bind (wpAny_pure (wpAny_throw hE))
theorem raiseK_led {K : Frag} {e C : Addr} {oe : Obj} {vs : Array Value} {news : List (Addr × Obj)} (F : Fr h₀ L s.heap m) (X₀ : K.In h₀) (N : News h₀ L s.heap news) (hm : (e, oe) ∈ news) (hcl : oe.cls = .ref C) (hd : oe.data = .fields vs) (h1 : vs[1]? = some .none)
    (ht : typeIn K (.ref C) = some (.type "type")) (hs : subIn K (.ref C) (.type "BaseException") = some true) (h : E (.ref e) s) : RaiseK h₀ L m E (.ref e) s :=
  ⟨K, e, C, oe, vs, news, rfl, F, X₀, N, hm, hcl, hd, h1, ht, hs, h⟩
end
section
variable {prog : Program} {w : World} {A : Around} {K : Frag} {C : Addr} {s : Shared} {h₀ : Heap} {L : Addr} {m : Str → Option Value} {news : List (Addr × Obj)} {R : Result → Shared → Prop} {Q E : Value → Shared → Prop}
/-- the library's KeyError.__init__ below an own class: it stores the arguments anew -/
theorem tr0_led {s' : Shared} {e : Addr} {oe : Obj} {vs : Array Value} (N : News h₀ L s.heap news) (hm : (e, oe) ∈ news) (hd : oe.data = .fields vs) (h1 : vs[1]? = some .none) : Tr0 s.heap e oe.cls oe.dict :=
  ⟨oe, vs, (N _ hm).1, rfl, rfl, hd, h1⟩
end
end
-- text E8
section
open Builtin Builtin.ObjectAttr
section
variable {prog : Program} {w : World} {A : Around} {K : Frag} {C : Addr} {h₀ : Heap} {L : Addr} {m : Str → Option Value} {news : List (Addr × Obj)} {R : Result → Shared → Prop} {Q E : Value → Shared → Prop}
theorem keyErr_init {h : Heap} {g : Array GenState} {d : Drawn} {t : Nat} {os : OsState} {e : Addr} {oe : Obj} {vs : Array Value} {t0 : Addr} {a b : Value} (he : h.get? e = some oe) (hd : oe.data = .fields vs) (h0 : vs[0]? = some (.ref t0))
    (LI : Looks (model prog w) h (isInstance (.ref e) (.type "KeyError")) true) (hcl : oe.cls = .ref C) {oc : Value} {od : Option Addr} {cd : ClassData} {sl : Array (Option Value)} (hC : h.get? C = some ⟨oc, od, .cls cd, sl⟩)
    (hq : R (.ok (.ret .none)) ⟨(h.push (tupObj [a, b])).update e (Obj.mapFields (·.setIfInBounds 0 (.ref h.objs.size))), g, d, t, os⟩) :
    codeAny (model prog w) A (.call (.builtin "KeyError.__init__") ⟨[.ref e, a, b], []⟩) R ⟨h, g, d, t, os⟩ := by
  have F := excClass_KeyError
  refine codeAny_call_builtin F.init.plain F.initEntry ?_
  have chk : ∀ {A : Around} {E : Value → Shared → Prop} {Q : Unit → Shared → Prop}, Q () ⟨h, g, d, t, os⟩ → wpAny (model prog w) A (checkBuiltinCall "KeyError.__init__" ⟨[.ref e, a, b], []⟩) Q E ⟨h, g, d, t, os⟩ := by
    intro A E Q hq
    have hst := F.notStar
    simp only [checkBuiltinCall, F.initKind, F.initSplit, F.initSig]
    refine wpAny_bind (LI.at ?_)
    repeat (first | (with_reducible refine wpAny_loadPart_at he ?_; rw [hcl]) | with_reducible refine wpAny_loadPart_at hC ?_ | wp_step)
    exact hq
  refine chk ?_
  have he₁ := Heap.get?_push_of_some (tupObj [a, b]) he
  have hsz : 0 < vs.size := (Array.getElem?_eq_some_iff.mp h0).1
  unfold Builtin.«BaseException.__init__»
  dsimp only
  refine wpAny_ite_false (by rfl) ?_
  unfold newTuple
  refine wpAny_bind (wpAny_newObj_type ?_ (by size_fits))
  unfold BaseException.bexcPut
  refine wpAny_bind (wpAny_bind (wpAny_field he₁ hd h0 ?_))
  refine wpAny_bind (wpAny_setField he₁ hd hsz ?_)
  dsimp only
  wp_walk
  exact hq
theorem exc_K2 {s : Shared} {a b : Value} (F : Fr h₀ L s.heap m) (N : News h₀ L s.heap news) (X : K.In s.heap) (hm : excMk K C = true) (hi : findIn K (.ref C) "__init__" = some (some (.builtin "KeyError.__init__")))
    (hs : subIn K (.ref C) (.type "KeyError") = some true)
    (h : ∀ e t h', Fr h₀ L h' m → News h₀ L h' ((e, excObj C t) :: news) → (∀ p ∈ news, p.1 < e) → R (.ok (.ret (.ref e))) { s with heap := h' }) :
    codeAny (model prog w) A (.call (.ref C) ⟨[a, b], []⟩) R s := by
  obtain ⟨hh, g, d, t, os⟩ := s
  refine exc_core (excMk_of X hm) (show 2 ≤ sizeLine by rw [sizeLine_eq]; decide) (looks_findIn X hi) (fun self => Looks.of_pure (excClass_KeyError.init.bind self)) ?_
  have F₂ := (F.push (tupObj [a, b])).push (excObj C hh.objs.size)
  have N₂ := (N.push F (tupObj [a, b])).push (F.push _) (excObj C hh.objs.size)
  rw [Heap.size_push] at N₂
  have he := (N₂ _ (.head _)).1
  have X₂ : K.In ((hh.push (tupObj [a, b])).push (excObj C hh.objs.size)) := X.keeps fun b o e => Heap.get?_push_of_some _ (Heap.get?_push_of_some _ e)
  have LI : Looks (model prog w) _ (isInstance (.ref (hh.objs.size + 1)) (.type "KeyError")) true := ((Looks.ld he).andThen .now).andThen (looks_subIn X₂ hs)
  have hm' := excMk_of (M := model prog w) X₂ hm
  obtain ⟨oc, od, cd, sl, hC, _, _⟩ := hm'.obj
  refine keyErr_init he rfl rfl LI rfl hC ?_
  refine ⟨rfl, ?_⟩
  have N₃ := N₂.push F₂ (tupObj [a, b])
  rw [Heap.size_push, Heap.size_push] at N₃
  have lt : ∀ p ∈ news, p.1 < hh.objs.size := fun p hp => Heap.lt_size (N p hp).1
  have N₄ : News h₀ L (((hh.push (tupObj [a, b])).push (excObj C hh.objs.size)).push (tupObj [a, b])) ([(hh.objs.size + 1 + 1, tupObj [a, b])] ++ (hh.objs.size + 1, excObj C hh.objs.size) :: news) := fun p hp => N₃ p (by
    rcases List.mem_append.mp hp with hp | hp
    · exact List.mem_cons.mpr (.inl (List.mem_singleton.mp hp))
    · rcases List.mem_cons.mp hp with rfl | hp
      · exact .tail _ (.head _)
      · exact .tail _ (.tail _ (.tail _ hp)))
  obtain ⟨F₅, N₅⟩ := news_upd (f := Obj.mapFields (·.setIfInBounds 0 (.ref ((hh.push (tupObj [a, b])).push (excObj C hh.objs.size)).objs.size))) (F₂.push (tupObj [a, b])) N₄ (fun p hp => by rw [List.mem_singleton.mp hp]; exact Nat.succ_ne_self _) (fun p hp => Nat.ne_of_lt (Nat.lt_succ_of_lt (lt p hp))) rfl rfl
  exact h _ _ _ F₅ (fun p hp => N₅ p (List.mem_append_right _ hp)) (fun p hp => Nat.lt_succ_of_lt (lt p hp))
theorem call_exc2 {s : Shared} {a b : Value} (F : Fr h₀ L s.heap m) (X₀ : K.In h₀) (N : News h₀ L s.heap news) (hm : excMk K C = true) (hi : findIn K (.ref C) "__init__" = some (some (.builtin "KeyError.__init__")))
    (hs : subIn K (.ref C) (.type "KeyError") = some true)
    (h : ∀ e t h', Fr h₀ L h' m → News h₀ L h' ((e, excObj C t) :: news) → (∀ p ∈ news, p.1 < e) → Q (.ref e) { s with heap := h' }) :
    wpAny (model prog w) A (call (.ref C) [a, b]) Q E s := wpAny_call (exc_K2 F N (X₀.keeps F.keep) hm hi hs h)
end
end
-- text E10
section
variable {M : Model} {A : Around} {E : Value → Shared → Prop} {s : Shared} {B : Heap} {env : Env} {outer : List Env} {L e : Addr} {cls fl : Value} {dd : Option Addr} {Q : Unit → Shared → Prop}
/-- setFlight, whatever the frame -/
theorem flightD {l : List Env} {f : Option Addr} (hkb : B.StaysIn s.heap) (hl : s.heap.FunFrames B l) (ht : Tr B s.heap e cls dd fl)
    (h : ∀ h', B.StaysIn h' → h'.FunFrames B l → Tr B h' e cls dd (f.elim Value.none fun f => rawInt f) → UpS s.heap h' → Q () { s with heap := h' }) : wpAny M A (setFlight (.ref e) f) Q E s := by
  obtain ⟨oe, vs, T, oT, ts, he, hcls, hdd, hd, h1, hnT, hTe, hT, hdT, h3⟩ := ht
  have hsz3 : 3 < ts.size := (Array.getElem?_eq_some_iff.mp h3).1
  have other : ∀ b, b ≠ T → (s.heap.update T (Obj.mapFields (·.setIfInBounds 3 (f.elim Value.none fun f => rawInt f)))).get? b = s.heap.get? b :=
    fun b hb => Heap.get?_update_other _ _ (Ne.symm hb)
  have noRecord : ∀ b o, s.heap.get? b = some o → (∀ vs, o.data ≠ .fields vs) → b ≠ T := fun b o hb hnf q => by
    rw [q, hT] at hb
    cases hb
    exact hnf ts hdT
  unfold setFlight
  refine wpAny_bind (wpAny_field he hd h1 ?_)
  rw [if_pos (show (Value.ref T != Value.none) = true from by simp)]
  refine wpAny_setField hT hdT hsz3 (h _ (fun b o hbo => (other b fun q => by rw [q, hnT] at hbo; cases hbo).trans (hkb b o hbo))
    (hl.of_keeps fun b o hb hnf => ⟨o, (other b (noRecord b o hb hnf)).trans hb, rfl⟩) ?_ fun b o hb hnf => ⟨o.slots, (other b (noRecord b o hb hnf)).trans hb⟩)
  exact ⟨oe, vs, T, _, _, (other e (Ne.symm hTe)).trans he, hcls, hdd, hd, h1, hnT, hTe, Heap.get?_update_self _ hT (Obj.isFreed_of_fields (Obj.data_mapFields hdT _)), Obj.data_mapFields hdT _, by simp [hsz3]⟩
end
def Mode (env : Env) (B h : Heap) (e : Addr) (cls : Value) (dd : Option Addr) : Prop :=
  Tr0 h e cls dd ∨ Tr B h e cls dd .none ∨ ∃ L, env.frame = some L ∧ Tr B h e cls dd (rawInt L)
/-- raised, as a try of this frame meets it: fresh, in flight behind the frames within, or noted here -/
def RM (base G : Heap) (env : Env) (outer : List Env) (e : Addr) (cls : Value) (news : List (Addr × Obj)) (h : Heap) : Prop :=
  ∃ B dd, base.StaysIn B ∧ (∀ b o, G.get? b = some o → b ∉ fr (env :: outer) → B.get? b = some o) ∧ (∀ q ∈ news, B.get? q.1 = some q.2 ∧ G.get? q.1 = none ∧ base.get? q.1 = none) ∧
    B.StaysIn h ∧ B.get? e = none ∧ h.FunFrames B (env :: outer) ∧ Mode env B h e cls dd
theorem RM.sub {base G h : Heap} {env : Env} {l : List Env} {e : Addr} {cls : Value} {news news' : List (Addr × Obj)} (R : RM base G env l e cls news h) (hs : ∀ q ∈ news', q ∈ news) : RM base G env l e cls news' h := by
  obtain ⟨B, dd, a, b, c, d⟩ := R
  exact ⟨B, dd, a, b, fun q hq => c q (hs q hq), d⟩
theorem RM.ofSN {base G h : Heap} {env : Env} {outer : List Env} {e : Addr} {cls : Value} {news : List (Addr × Obj)} (R : RaisedSN base G (env :: outer) e cls news h) : RM base G env outer e cls news h := by
  obtain ⟨B, a0, a, b, c, d1, d2, d3, oe, vs, T, oT, ts, t1, ⟨t2, _⟩, t4, t5, t6⟩ := R
  exact ⟨B, oe.dict, a, b, c, d1, d2, d3, .inr (.inl ⟨oe, vs, T, oT, ts, t1, t2, rfl, t4, t5, t6⟩)⟩
section
variable {M : Model} {A : Around} {E : Value → Shared → Prop} {s' : Shared} {base g G h : Heap} {env : Env} {outer : List Env} {L e : Addr} {m : Str → Option Value} {cls : Value} {dd : Option Addr} {Q : Unit → Shared → Prop} {news : List (Addr × Obj)}
theorem RM.fresh (K : Below A base outer g) (F : Fr g L h m) (N : News g L h news) (hf : env.frame = some L) (hk : env.scope.kind ≠ .module) (hne : ∀ q ∈ news, q.1 ≠ e) (hge : g.get? e = none) (hLe : L ≠ e) (ht : Tr0 h e cls dd) :
    ∃ G, Fr g L G m ∧ RM base G env outer e cls news h ∧ G.UpToSlots h := by
  have K' := pushD (env := env) K F hf hk
  obtain ⟨oL, es, ep, hL, hLd, hLk, hLf⟩ := F.ns
  have nm : ∀ b o, g.get? b = some o → b ∉ e :: news.map (·.1) := fun b o q hm => by
    rcases List.mem_cons.mp hm with rfl | hm
    · rw [hge] at q; cases q
    · obtain ⟨p, hp, rfl⟩ := List.mem_map.mp hm
      rw [(N p hp).2.2] at q; cases q
  have nL : L ∉ e :: news.map (·.1) := fun hm => by
    rcases List.mem_cons.mp hm with z | hm
    · exact hLe z
    · obtain ⟨p, hp, q⟩ := List.mem_map.mp hm
      exact (N p hp).2.1 q
  refine ⟨hideAll h (e :: news.map (·.1)), ⟨⟨oL, es, ep, hideAll_get _ hL nL, hLd, hLk, hLf⟩, fun b o q => hideAll_get _ (F.keep b o q) (nm b o q), F.above⟩, ?_, fun b o q _ => ⟨o.slots, of_hideAll _ q⟩⟩
  refine ⟨hideAll h (e :: fr (env :: outer)), dd, fun b o q => hideAll_get _ (K'.stays b o q) fun hm => ?_, fun b o q nmf => ?_, fun q hq => ⟨hideAll_get _ (N q hq).1 fun hm => ?_, hideAll_none _ (.tail _ (List.mem_map_of_mem hq)), fresh_of_stays K.stays (N q hq).2.2⟩, fun b o q => of_hideAll _ q, hideAll_none _ (.head _), funFrames_hide K'.frames fun x hx b q => .tail _ (List.mem_filterMap.mpr ⟨x, hx, q⟩), .inl ht⟩
  · rcases List.mem_cons.mp hm with rfl | hm
    · rw [fresh_of_stays K.stays hge] at q; cases q
    · rw [(K'.frames.mem hm).1] at q; cases q
  · by_cases hb : b = e
    · rw [hb, hideAll_none _ (.head _)] at q; cases q
    · exact hideAll_get _ (of_hideAll _ q) fun hm => by
        rcases List.mem_cons.mp hm with z | z
        · exact hb z
        · exact nmf z
  · rcases List.mem_cons.mp hm with z | hm
    · exact hne q hq z
    · rcases fr_mem hf hm with z | z
      · exact (N q hq).2.1 z
      · obtain ⟨o, ho, _⟩ := (K.frames.mem z).2
        rw [(N q hq).2.2] at ho; cases ho
theorem RM.noted (K : Below A base outer g) (hf : env.frame = some L) (R : RM base G env outer e cls news s'.heap)
    (k : ∀ h' B dd, base.StaysIn B → (∀ b o, G.get? b = some o → b ∉ fr (env :: outer) → B.get? b = some o) → (∀ q ∈ news, B.get? q.1 = some q.2 ∧ G.get? q.1 = none ∧ base.get? q.1 = none) →
      B.StaysIn h' → B.get? e = none → h'.FunFrames B (env :: outer) → Tr B h' e cls dd (rawInt L) → UpS s'.heap h' → Q () { s' with heap := h' }) : wpAny M (A.deeper env) (noteFrame (.ref e) env) Q E s' := by
  obtain ⟨B, dd, a, b, c, d1, d2, d3, t⟩ := R
  have hfr := Around.frames_deeper (env := env) K.stack
  rcases t with t | t | ⟨L', hL', t⟩
  · exact note0D hfr d3 hf t d1 d2 fun h' x1 x2 x3 x4 => k h' B dd a b c x1 d2 x2 x3 x4
  · exact note1D hfr d3 hf t d1 d2 fun h' x1 x2 x3 x4 => k h' B dd a b c x1 d2 x2 x3 x4
  · obtain rfl := Option.some.inj (hL'.symm.trans hf)
    exact noteAgainD hf t (k s'.heap B dd a b c d1 d2 d3 t (Heap.UpToSlots.of_keeps fun _ _ x => x))
/-- the look of a try at what was raised in its body -/
theorem RM.look {Q : Unit → Shared → Prop} (K : Below A base outer g) (hf : env.frame = some L) (R : RM base G env outer e cls news s'.heap) (hsm : G.UpToSlots s'.heap)
    (k : ∀ h', RaisedSN base G (env :: outer) e cls news h' → G.UpToSlots h' → Q () { s' with heap := h' }) :
    wpAny M (A.deeper env) (noteFrame (.ref e) env) (fun _ s₂ => wpAny M (A.deeper env) (setFlight (.ref e) none) (fun _ s₃ => Q () s₃) E s₂) E s' := by
  refine R.noted K hf fun h₁ B dd a b c d1 d2 d3 t u => ?_
  refine flightD (s := { s' with heap := h₁ }) (f := none) d1 d3 t fun h₂ x1 x2 x3 x4 => ?_
  exact k h₂ (RD.toSN ⟨B, a, b, c, x1, d2, x2, x3⟩) ((hsm.trans u).trans x4)
end
/-- what a body hands to its try -/
def PX (A : Around) (base g : Heap) (env : Env) (outer : List Env) (L : Addr) (s : Shared) (J : Value → (Str → Option Value) → List (Addr × Obj) → Prop) : Value → Shared → Prop :=
  fun x s' => ∃ e g' G m cls news h' tk', x = .ref e ∧ s' = { s with heap := h', toks := tk' } ∧ KtsTurn (outer.filterMap (·.frame)) g g' ∧ Below A base outer g' ∧ KtsDicts (outer.filterMap (·.frame)) g' ∧ Fr g' L G m ∧ RM base G env outer e cls news h' ∧ G.UpToSlots h' ∧ J cls m news
theorem PX.passes {M : Model} {A A₀ A' : Around} {base g g' : Heap} {env : Env} {outer : List Env} {L : Addr} {s : Shared} {J : Value → (Str → Option Value) → List (Addr × Obj) → Prop}
    (K : Below A base outer g) (hA : A'.frames = (A.deeper env).frames) (hf : env.frame = some L) : PassesOwnAt M A' (A.deeper env) env (PX A₀ base g' env outer L s J) := by
  rintro x s' ⟨e, g₁, G, m, cls, news, h', tk', rfl, rfl, TT, BB, DD, F, R, U, j⟩
  unfold notedBy
  have hfr : A'.frames = some (env :: outer) := hA.trans (Around.frames_deeper K.stack)
  obtain ⟨B, dd, a, b, c, d1, d2, d3, t⟩ := R
  have key : ∀ h₁, B.StaysIn h₁ → h₁.FunFrames B (env :: outer) → Tr B h₁ e cls dd (rawInt L) → UpS h' h₁ → cameBackBy M (A.deeper env) env (PX A₀ base g' env outer L s J) (.ref e) { s with heap := h₁, toks := tk' } := by
    intro h₁ x1 x2 x3 x4
    unfold cameBackBy
    have x3' := x3
    obtain ⟨oe, vs, T, oT, ts, he, _, _, hd, h1, _⟩ := x3'
    refine wpAny_bind (wpAny_field he hd h1 ?_)
    rw [if_neg (show ¬ ((Value.ref T == Value.none) = true) from by simp)]
    first
      | refine flightD (s := { s with heap := h₁, toks := tk' }) (f := env.frame) x1 x2 x3 fun h₂ y1 y2 y3 y4 => ?_
      | refine wpAny_bind (wpAny_pure (flightD (s := { s with heap := h₁, toks := tk' }) (f := env.frame) x1 x2 x3 fun h₂ y1 y2 y3 y4 => ?_))
    rw [hf] at y3
    exact ⟨e, g₁, G, m, cls, news, h₂, tk', rfl, rfl, TT, BB, DD, F, ⟨B, dd, a, b, c, y1, d2, y2, .inr (.inr ⟨L, hf, y3⟩)⟩, (U.trans x4).trans y4, j⟩
  rcases t with t | t | ⟨L', hL', t⟩
  · exact note0D hfr d3 hf t d1 d2 fun h' x1 x2 x3 x4 => key h' x1 x2 x3 x4
  · exact note1D hfr d3 hf t d1 d2 fun h' x1 x2 x3 x4 => key h' x1 x2 x3 x4
  · obtain rfl := Option.some.inj (hL'.symm.trans hf)
    exact noteAgainD hf t (key h' d1 d3 t (Heap.UpToSlots.of_keeps fun _ _ x => x))
section
variable {A : Around} {base g g' h : Heap} {env : Env} {outer : List Env} {L e : Addr} {m : Str → Option Value} {cls : Value} {dd : Option Addr} {news : List (Addr × Obj)} {s : Shared} {tk : Tok} {J : Value → (Str → Option Value) → List (Addr × Obj) → Prop}
theorem PX.fresh (T : KtsTurn (outer.filterMap (·.frame)) g g') (K : Below A base outer g') (D : KtsDicts (outer.filterMap (·.frame)) g') (F : Fr g' L h m) (N : News g' L h news) (hf : env.frame = some L) (hk : env.scope.kind ≠ .module) (hne : ∀ q ∈ news, q.1 ≠ e) (hge : g'.get? e = none) (hLe : L ≠ e) (ht : Tr0 h e cls dd)
    (hj : J cls m news) : PX A base g env outer L s J (.ref e) { s with heap := h, toks := tk } := by
  obtain ⟨G, FG, R, U⟩ := RM.fresh (base := base) (env := env) K F N hf hk hne hge hLe ht
  exact ⟨e, g', G, m, cls, news, h, tk, rfl, rfl, T, K, D, FG, R, U, hj⟩
theorem PX.flown {G : Heap} (K : Below A base outer g) (D : KtsDicts (outer.filterMap (·.frame)) g) (F : Fr g L G m) (R : RaisedSN base G (env :: outer) e cls news h) (U : G.UpToSlots h) (hj : J cls m news) : PX A base g env outer L s J (.ref e) { s with heap := h, toks := tk } :=
  ⟨e, g, G, m, cls, news, h, tk, rfl, rfl, KtsTurn.refl, K, D, F, RM.ofSN R, U, hj⟩
end
-- text E11
section
open Builtin Builtin.ObjectAttr
/-! an attribute that an own object lacks -/
def shortName (K : Frag) (C : Addr) : Bool := (clsIn K C).any fun cd => decide (cd.name.cps.foldl (fun k c => k + (Str.utf8Of c).length) 0 ≤ 100) && decide ((s!"'{cd.name.toString}' object has no attribute '").length ≤ 90)
section
variable {prog : Program} {w : World} {A : Around} {E : Value → Shared → Prop} {s : Shared} {K : Frag} {x C : Addr} {ox : Obj} {od : Option Obj} {name : Str} {expr : Bool} {Q : Value → Shared → Prop}
theorem getMiss (X : K.In s.heap) (I : InstAt s.heap x ox C od) (hA : A.handled = none) (hga : findIn K (.ref C) "__getattribute__" = some (some (.builtin "object.__getattribute__"))) (hgt : findIn K (.ref C) "__getattr__" = some none)
    (hf : findObj K C od name = some .missing) (hs : shortName K C = true) (hsz : name.length + 100 ≤ sizeLine)
    (h : ∀ h' tk e, Heap.NewAttrErr s.heap h' e (.ref x) name → E (.ref e) { s with heap := h', toks := tk }) : wpAny (model prog w) A (getAttr (.ref x) name expr) Q E s := by
  refine get_open X I hga ?_
  obtain ⟨hh', g, d, t, os⟩ := s
  have L0 := I.type (M := model prog w)
  have L1 := looks_find (M := model prog w) X I hf
  have L2 := looks_findIn (M := model prog w) X hgt
  obtain ⟨cd, hc, hcd⟩ := any_some hs
  obtain ⟨h1, h2⟩ := Bool.and_eq_true_iff.mp hcd
  have L3 := looks_clsIn (M := model prog w) X hc
  refine wpAny_bind (wpAny_pure (wpAny_bind (L0.at (wpAny_bind (L1.at (wpAny_bind (L2.at ?_)))))))
  show wpAny _ _ (noSuchAttribute (.ref x) name) _ _ _
  unfold noSuchAttribute typeNameOfCut shownTypeOf
  refine wpAny_bind (wpAny_bind (wpAny_bind (L0.at ?_)))
  rw [if_neg (show ¬ ((Value.ref C == Value.type "builtin_function_or_method") = true) from by simp)]
  refine wpAny_pure ?_
  unfold typeNameCut
  refine wpAny_bind (L3.at ?_)
  rw [if_pos (of_decide_eq_true h1)]
  refine wpAny_pure ?_
  refine wpAny_raiseAttrError ?_ (fun h' tk e x' => ?_) (attrMsg_fits (of_decide_eq_true h2) hsz)
  · exact hA
  obtain ⟨t', u', he⟩ := x'.there
  show wpAny _ _ (noteIf true _ _ _) _ _ _
  have LT : Looks (model prog w) h' (typeOf (.ref e)) (.type "AttributeError") := (Looks.ld he).andThen .now
  have LA : Looks (model prog w) h' (isInstance (.ref e) (.type "AttributeError")) true := LT.andThen (Looks.of_pure sub_AttributeError)
  unfold noteIf noteAttr
  rw [if_pos rfl]
  dsimp only
  unfold lacksNameAndObj
  refine wpAny_bind (wpAny_bind (LA.at ?_))
  simp only [Bool.not_true, Bool.false_eq_true, if_false]
  refine wpAny_bind (wpAny_load he ?_)
  dsimp only
  rw [if_pos (by rfl)]
  refine wpAny_pure ?_
  rw [if_neg (by decide)]
  exact wpAny_pure (h _ _ _ x')
end
end
-- text E12
/-! a fresh exception caught in its own frame: its context is told -/
def Two (h : Heap) (e : Addr) : Prop := ∃ oe ws, h.get? e = some oe ∧ oe.data = .fields ws ∧ ws[2]? = some .none
section
variable {M : Model} {A : Around} {E : Value → Shared → Prop} {s : Shared} {B : Heap} {env : Env} {outer : List Env} {L e : Addr} {cls fl : Value} {dd : Option Addr} {Q : Unit → Shared → Prop}
theorem entryV {oe : Obj} {vs : Array Value} {head : Value} {hadNext : Bool} (hfr : A.frames = some (env :: outer)) (hl : s.heap.FunFrames B (env :: outer)) (hf : env.frame = some L)
    (he : s.heap.get? e = some oe) (hkb : B.StaysIn s.heap) (hen : B.get? e = none) (hd : oe.data = .fields vs) (hsz : 1 < vs.size) (h2 : vs[2]? = some .none)
    (h : ∀ h', B.StaysIn h' → h'.FunFrames B (env :: outer) → Tr B h' e oe.cls oe.dict (rawInt L) → Two h' e → UpS s.heap h' → Q () { s with heap := h' }) :
    wpAny M A (do let a ← frameOf env; let pl ← entryPlaceOf L hadNext; let b ← EntryCells.newEntry head a .none (rawInt L) .none pl; setField (.ref e) 1 b) Q E s := by
  have hene : e ∉ (env :: outer).filterMap (·.frame) := fun hm => by
    obtain ⟨_, o, ho, hnf⟩ := hl.mem hm
    rw [he] at ho
    cases ho
    exact hnf vs hd
  refine wpAny_bind (wpAny_frameOf_fun hfr hl hf fun h₁ hs₁ => ?_)
  refine wpAny_bind (wpAny_entryPlaceOf fun pl hpl => ?_)
  unfold EntryCells.newEntry newFields
  refine wpAny_bind (wpAny_newObj_type ?_ (hpl.sizeOk5 _ _ _ _ _))
  generalize hts : ([head, .ref L, .none, rawInt L, .none] ++ (if pl.isEmpty then List.replicate 6 Value.none else pl)).toArray = ts
  have h3 : ts[3]? = some (rawInt L) := by
    subst hts
    first | (simp; done) | (rcases hpl with rfl | ⟨_, _, _, _, _, _, _, rfl⟩ <;> simp)
  have he₁ : h₁.get? e = some oe := (hs₁.2.1 e hene).trans he
  have kb₁ : B.StaysIn h₁ := fun b o hbo => (hs₁.2.1 b fun hm => by rw [(hl.mem hm).1] at hbo; cases hbo).trans (hkb b o hbo)
  have he₂ := Heap.get?_push_of_some (h := h₁) ({ cls := .type "traceback", dict := none, data := .fields ts } : Obj) he₁
  refine wpAny_setField he₂ hd hsz ?_
  have hTe : h₁.objs.size ≠ e := Nat.ne_of_gt (Heap.lt_size he₁)
  have hd₃ := Obj.data_mapFields hd (·.setIfInBounds 1 (Value.ref h₁.objs.size))
  have he₃ := Heap.get?_update_self (Obj.mapFields (·.setIfInBounds 1 (Value.ref h₁.objs.size))) he₂ (Obj.isFreed_of_fields hd₃)
  have hT₃ := (Heap.get?_update_other (h₁.push ({ cls := .type "traceback", dict := none, data := .fields ts } : Obj)) (Obj.mapFields (·.setIfInBounds 1 (Value.ref h₁.objs.size))) (Ne.symm hTe)).trans (Heap.get?_push_size h₁ rfl)
  have keep : ∀ b o, b ≠ e → h₁.get? b = some o → ((h₁.push ({ cls := .type "traceback", dict := none, data := .fields ts } : Obj)).update e (Obj.mapFields (·.setIfInBounds 1 (Value.ref h₁.objs.size)))).get? b = some o :=
    fun b o hbe hb => (Heap.get?_update_other _ _ (Ne.symm hbe)).trans (Heap.get?_push_of_some _ hb)
  have noRecord : ∀ b o, s.heap.get? b = some o → (∀ vs, o.data ≠ .fields vs) → b ≠ e := fun b o hb hnf q => by
    rw [q, he] at hb
    cases hb
    exact hnf vs hd
  refine h _ (fun b o hbo => keep b o (fun q => by rw [q, hen] at hbo; cases hbo) (kb₁ b o hbo)) (hl.of_keeps fun b o hb hnf => ?_) ?_ ⟨_, _, he₃, hd₃, ?_⟩ fun b o hb hnf => ?_
  · obtain ⟨sl, hs⟩ := hs₁.2.2 b o hb
    exact ⟨_, keep b _ (noRecord b o hb hnf) hs, rfl⟩
  · exact ⟨_, _, h₁.objs.size, _, _, he₃, Obj.cls_mapFields _ _, dict_mapFields _ _, hd₃, by simp [hsz], kb₁.fresh, hTe, hT₃, rfl, h3⟩
  · rw [Array.getElem?_setIfInBounds_ne (by decide)]
    exact h2
  · obtain ⟨sl, hs⟩ := hs₁.2.2 b o hb
    exact ⟨sl, keep b _ (noRecord b o hb hnf) hs⟩
theorem note0V {oe : Obj} {vs : Array Value} (hfr : A.frames = some (env :: outer)) (hl : s.heap.FunFrames B (env :: outer)) (hf : env.frame = some L) (he : s.heap.get? e = some oe) (hd : oe.data = .fields vs) (h1 : vs[1]? = some .none) (h2 : vs[2]? = some .none) (hkb : B.StaysIn s.heap) (hen : B.get? e = none)
    (h : ∀ h', B.StaysIn h' → h'.FunFrames B (env :: outer) → Tr B h' e oe.cls oe.dict (rawInt L) → Two h' e → UpS s.heap h' → Q () { s with heap := h' }) : wpAny M A (noteFrame (.ref e) env) Q E s := by
  unfold noteFrame
  simp only [hf]
  refine wpAny_bind (wpAny_field he hd h1 ?_)
  rw [if_neg (by decide)]
  exact entryV hfr hl hf he hkb hen hd (Array.getElem?_eq_some_iff.mp h1).1 h2 h
theorem flightV {l : List Env} {f : Option Addr} (hkb : B.StaysIn s.heap) (hl : s.heap.FunFrames B l) (ht : Tr B s.heap e cls dd fl) (h2 : Two s.heap e)
    (h : ∀ h', B.StaysIn h' → h'.FunFrames B l → Tr B h' e cls dd (f.elim Value.none fun f => rawInt f) → Two h' e → UpS s.heap h' → Q () { s with heap := h' }) : wpAny M A (setFlight (.ref e) f) Q E s := by
  obtain ⟨oe, vs, T, oT, ts, he, hcls, hdd, hd, h1, hnT, hTe, hT, hdT, h3⟩ := ht
  have hsz3 : 3 < ts.size := (Array.getElem?_eq_some_iff.mp h3).1
  have other : ∀ b, b ≠ T → (s.heap.update T (Obj.mapFields (·.setIfInBounds 3 (f.elim Value.none fun f => rawInt f)))).get? b = s.heap.get? b :=
    fun b hb => Heap.get?_update_other _ _ (Ne.symm hb)
  have noRecord : ∀ b o, s.heap.get? b = some o → (∀ vs, o.data ≠ .fields vs) → b ≠ T := fun b o hb hnf q => by
    rw [q, hT] at hb
    cases hb
    exact hnf ts hdT
  obtain ⟨oe2, ws, he2, hd2, hw2⟩ := h2
  unfold setFlight
  refine wpAny_bind (wpAny_field he hd h1 ?_)
  rw [if_pos (show (Value.ref T != Value.none) = true from by simp)]
  refine wpAny_setField hT hdT hsz3 (h _ (fun b o hbo => (other b fun q => by rw [q, hnT] at hbo; cases hbo).trans (hkb b o hbo))
    (hl.of_keeps fun b o hb hnf => ⟨o, (other b (noRecord b o hb hnf)).trans hb, rfl⟩) ?_ ⟨oe2, ws, (other e (Ne.symm hTe)).trans he2, hd2, hw2⟩ fun b o hb hnf => ⟨o.slots, (other b (noRecord b o hb hnf)).trans hb⟩)
  exact ⟨oe, vs, T, _, _, (other e (Ne.symm hTe)).trans he, hcls, hdd, hd, h1, hnT, hTe, Heap.get?_update_self _ hT (Obj.isFreed_of_fields (Obj.data_mapFields hdT _)), Obj.data_mapFields hdT _, by simp [hsz3]⟩
end
section
variable {prog : Program} {w : World} {A₀ : Around} {E : Value → Shared → Prop} {s' : Shared} {base g G h : Heap} {outer : List Env} {L a e : Addr} {m : Str → Option Value} {name : Str} {scope : Scope} {cd : Value}
  {b₀ : Stmt} {suite : List Stmt} {pos : Pos} {rest : List ExceptHandler} {Q : Flow → Shared → Prop} {news : List (Addr × Obj)} {KF : Frag} {tt : Expr}
  {p : Program} {loose : List Str} {mean : ExcName → Option Value} {mg mb : Str → Option Value} {o : Value} {nm : Str}
theorem catchAttr (K : Below A₀ base outer g) (F : Fr g L h m) (N : News g L h news) (hx : Heap.NewAttrErr h s'.heap e o nm) (XB : KF.In base) (TB : Top p loose mean mg mb base) (D : KtsDicts (outer.filterMap (·.frame)) g)
    (T : KtsTest prog w KF p loose mg mb name scope L a cd (.type "AttributeError") tt true)
    (k : ∀ h' g' oe ws, KtsTurn (outer.filterMap (·.frame)) g g' → Fr g' L h' m → News g' L h' ((e, oe) :: news) → oe.data = .fields ws → ws[2]? = some .none → (∀ q ∈ news, q.1 ≠ e) → Below A₀ base outer g' → KF.In g' → Top p loose mean mg mb g' → KtsDicts (outer.filterMap (·.frame)) g' →
      wpAny (model prog w) ((A₀.deeper (envOf name scope L a cd)).mark (some (.ref e))) (execs (b₀ :: suite) (envOf name scope L a cd)) Q E { s' with heap := h' })
    (hk : scope.kind = .function) (hE : PassesOwnAt (model prog w) ((A₀.deeper (envOf name scope L a cd)).mark (some (.ref e))) (A₀.deeper (envOf name scope L a cd)) (envOf name scope L a cd) E) :
    wpAny (model prog w) (A₀.deeper (envOf name scope L a cd)) (noteFrame (.ref e) (envOf name scope L a cd))
      (fun _ s₂ => wpAny (model prog w) (A₀.deeper (envOf name scope L a cd)) (setFlight (.ref e) none) (fun _ s₃ =>
        wpAny (model prog w) (A₀.deeper (envOf name scope L a cd)) (handleBy (.ref e) (envOf name scope L a cd) (.ExceptHandler (some tt) none (b₀ :: suite) pos :: rest)) Q E s₃) E s₂) E s' := by
  obtain ⟨t, u, he⟩ := hx.there
  have F' : Fr g L s'.heap m := ⟨let ⟨o, es, ep, q, r⟩ := F.ns; ⟨o, es, ep, hx.keeps _ _ q, r⟩, fun b o q => hx.keeps b o (F.keep b o q), F.above⟩
  have N' : News g L s'.heap news := fun p hp => ⟨hx.keeps _ _ (N p hp).1, (N p hp).2⟩
  have hge : g.get? e = none := kts_none F.keep hx.new
  have hne : ∀ q ∈ news, q.1 ≠ e := fun q hq z => by have := (N q hq).1; rw [z, hx.new] at this; cases this
  have hLe : L ≠ e := fun z => by
    obtain ⟨oL, _, _, hL, _⟩ := F.ns
    rw [z, hx.new] at hL; cases hL
  obtain ⟨G, FG, ⟨B, dd, hB, hBG, hl, d1, d2, d3, md⟩, U⟩ := RM.fresh (base := base) (env := envOf name scope L a cd) (cls := .type "AttributeError") (dd := none) K F' N' rfl (by show scope.kind ≠ .module; rw [hk]; decide) hne hge hLe ⟨_, _, he, rfl, rfl, rfl, rfl⟩
  clear md dd
  refine note0V (Around.frames_deeper K.stack) d3 rfl he rfl rfl rfl d1 d2 fun h₁ x1 x2 x3 x4 x5 => ?_
  refine flightV (s := { s' with heap := h₁ }) (f := none) x1 x2 x3 x4 fun h₂ y1 y2 y3 y4 y5 => ?_
  have U₂ : G.UpToSlots h₂ := (U.trans x5).trans y5
  have R₂ : RaisedSN base G (envOf name scope L a cd :: outer) e (.type "AttributeError") news h₂ := RD.toSN ⟨B, hB, hBG, hl, y1, d2, y2, y3⟩
  obtain ⟨g₅, T₅, F₅, K₅⟩ := kts_ground K FG hBG y1 U₂
  refine wpAny_handleBy_cons (codeAny_handlers_test (T _ _ _ { s' with heap := h₂ } g₅ e m F₅ (XB.keeps K₅.stays) (topRead_of (TB.keeps K₅.stays)) R₂.ty fun h₅ kp => ?_)) (by intro q; cases q)
  refine codeAny_handlers_suite ?_
  have y4' : Two h₅ e := by obtain ⟨oe, ws, q1, q2, q3⟩ := y4; exact ⟨oe, ws, kp _ _ q1, q2, q3⟩
  have y3' : Tr B h₅ e (.type "AttributeError") none .none := by
    obtain ⟨oe, vs, T, oT, ts, he, hcls, hdd, hd, h1, hnT, hTe, hT, hdT, h3⟩ := y3
    exact ⟨oe, vs, T, oT, ts, kp _ _ he, hcls, hdd, hd, h1, hnT, hTe, kp _ _ hT, hdT, h3⟩
  refine flightV (s := { s' with heap := h₅ }) (f := none) (fun b o q => kp b o (y1 b o q)) (y2.of_keeps fun b o q _ => ⟨o, kp b o q, rfl⟩) y3' y4' fun h₆ z1 z2 z3 z4 z5 => ?_
  have U₆ : G.UpToSlots h₆ := (U₂.trans (Heap.UpToSlots.of_keeps kp)).trans z5
  obtain ⟨g₆, T₆, F₆, K₆⟩ := kts_ground K FG hBG z1 U₆
  have hL : B.get? L = none := by
    obtain ⟨_, ⟨L', _, hf, hn', _⟩, _⟩ := z2
    obtain rfl : L = L' := Option.some.inj hf
    exact hn'
  have Nl : News g₆ L h₆ news := fun q hq => ⟨z1 _ _ (hl q hq).1, (fun z => by have := (hl q hq).1; rw [z, hL] at this; cases this), T₆.none_ _ (kts_none FG.keep (hl q hq).2.1)⟩
  obtain ⟨oe, ws, q1, q2, q3⟩ := z4
  have Ne : News g₆ L h₆ ((e, oe) :: news) := News.more F₆ Nl q1 (fun es n q => by rw [q2] at q; cases q) (T₆.none_ _ hge)
  exact wpAny_passesOwnAt hE (k h₆ g₆ oe ws T₆ F₆ Ne q2 q3 hne K₆ (XB.keeps K₆.stays) (TB.keeps K₆.stays) (D.turn T₆))
end
-- text E13
section
open Builtin
/-! an own class is raised by its bare name while an exception is handled -/
theorem entry_unchain : entryFor table "proto.unchain" = some Builtin.«proto.unchain» := entryFor_of_tree (by kernel_rfl)
section
variable {prog : Program} {w : World} {A : Around} {E : Value → Shared → Prop} {s : Shared} {K : Frag} {C : Addr}
theorem issub_nested {h : Heap} {g : Array GenState} {d : Drawn} {t : Nat} {os : OsState} {dep : Int} {tk : Tok} {Q : Fin → Shared → Prop} (X : K.In h) (hc : kitCls K (.ref C) (.ref C) = some true) (hq : Q (.done (.ret (.bool true))) ⟨h, g, d, t, os⟩) :
    wpAny (model prog w) A (Builtin.«issubclass.nested» ⟨[.ref C, .ref C, .int dep tk], []⟩) Q E ⟨h, g, d, t, os⟩ := by
  obtain ⟨hty, his, hsub⟩ := kit_cls (M := model prog w) X hc
  unfold Builtin.«issubclass.nested»
  refine wpAny_bind (hty.at ?_)
  rw [if_pos (by decide)]
  k_delta "plainIsSubclass"
  refine wpAny_bind (wpAny_bind (his.at (wpAny_bind (his.at ?_))))
  simp only [Bool.and_self, if_true]
  refine hsub.at ?_
  first
    | exact wpAny_pure (wpAny_pure hq)
    | exact wpAny_pure hq
theorem issub_call {Q : Value → Shared → Prop} (X : K.In s.heap) (hc : kitCls K (.ref C) (.ref C) = some true) (hq : Q (.bool true) s) : wpAny (model prog w) A (call (.builtin "issubclass") [.ref C, .ref C]) Q E s := by
  have g : Meets (Builtin.«issubclass» ⟨[.ref C, .ref C], []⟩) (fun _ R s => K.In s.heap ∧ R (.ok (.ret (.bool true))) s) := fun prog w A R s hs => by
    obtain ⟨hh, g, d, t, os⟩ := s
    exact issubclass_outer (issub_nested hs.1 hc hs.2)
  exact call_issubclass g ⟨X, hq⟩
theorem unchain_none {e1 e2 : Addr} {oe : Obj} {ws : Array Value} {Q : Value → Shared → Prop} (he : s.heap.get? e1 = some oe) (hd : oe.data = .fields ws) (h2 : ws[2]? = some .none) (h : Q .none s) :
    wpAny (model prog w) A (runValue (.builtin "proto.unchain" ⟨[.ref e2, .ref e1, .ref e1, .bool false], []⟩)) Q E s := by
  refine wpAny_runValue (codeAny_builtin entry_unchain ?_)
  unfold Builtin.«proto.unchain»
  dsimp only
  refine wpAny_bind (wpAny_field he hd h2 ?_)
  rw [if_pos (by decide)]
  first
    | exact wpAny_pure h
    | exact wpAny_bind (wpAny_pure (wpAny_pure h))
end
section
variable {prog : Program} {w : World} {A : Around} {E : Value → Shared → Prop} {s : Shared} {env : Env} {K : Frag} {C e1 L : Addr} {h₀ : Heap} {m : Str → Option Value}
/-- what the call of the class must bring -/
def RaisedC (K : Frag) (h₀ : Heap) (L : Addr) (m : Str → Option Value) (C e1 : Addr) (E : Value → Shared → Prop) (v : Value) (s₁ : Shared) : Prop :=
  ∃ (e2 : Addr) (oe oe1 : Obj) (vs ws : Array Value) (news : List (Addr × Obj)), v = .ref e2 ∧ Fr h₀ L s₁.heap m ∧ K.In h₀ ∧ News h₀ L s₁.heap ((e2, oe) :: news) ∧ (∀ p ∈ news, p.1 ≠ e2) ∧ (e1, oe1) ∈ news ∧ oe1.data = .fields ws ∧ ws[2]? = some .none ∧
    oe.cls = .ref C ∧ oe.data = .fields vs ∧ vs[1]? = some .none ∧ 2 < vs.size ∧
    ∀ h', Fr h₀ L h' m → News h₀ L h' ((e2, { oe with data := .fields (vs.setIfInBounds 2 (.ref e1)) }) :: news) → E (.ref e2) { s₁ with heap := h' }
theorem raise_cls {x : Str} {np pos : Pos} {Q : Flow → Shared → Prop} (hh : A.handled = some (.ref e1)) (hc : kitCls K (.ref C) (.ref C) = some true) (hb : exmOne K (.ref C) (.ref C) = some true) (hB : subIn K (.ref C) (.type "BaseException") = some true)
    (h : wpAny (model prog w) A (eval (.Name x np) env) (fun f s₁ => f = .ref C ∧ K.In s₁.heap ∧ wpAny (model prog w) A (call (.ref C) [] []) (RaisedC K h₀ L m C e1 E) E s₁) E s) :
    wpAny (model prog w) A (exec (.Raise (some (.Name x np)) none pos) env) Q E s := by
  show wpAny (model prog w) A (do standAt pos; raiseStmt env (some (do let v ← eval (.Name x np) env; standAt pos; pure v)) none) Q E s
  refine wpAny_bind (wpAny_standAt ?_)
  unfold raiseStmt
  dsimp only
  refine wpAny_bind (wpAny_bind (wpAny_mono h (fun v s₁ h₁ => wpAny_bind (wpAny_standAt (wpAny_pure ?_))) fun _ _ e => e))
  obtain ⟨rfl, X₁, hcall⟩ := h₁
  refine wpAny_bind (wpAny_pure ?_)
  dsimp only
  refine wpAny_bind (wpAny_holding ?_)
  unfold excFromValue
  refine wpAny_bind ?_
  obtain ⟨hp, g, d, tk, os⟩ := s₁
  refine (exm_cls (M := model prog w) X₁ hb).1.at ?_
  simp only [if_true]
  refine wpAny_bind (wpAny_mono hcall (fun v s₂ h₂ => ?_) fun _ _ e => e)
  obtain ⟨e2, oe, oe1, vs, ws, news, rfl, F, X₀, N, hne, hm1, hd1, h12, hcl, hd, h1, hsz, hE⟩ := h₂
  obtain ⟨hp2, g2, d2, tk2, os2⟩ := s₂
  dsimp only at F N
  have X := X₀.keeps F.keep
  have he := (N _ (.head _)).1
  have LT : Looks (model prog w) hp2 (typeOf (.ref e2)) (.ref C) := hcl ▸ (Looks.ld he).andThen .now
  have LI : Looks (model prog w) hp2 (isInstance (.ref e2) (.type "BaseException")) true := LT.andThen (looks_subIn X hB)
  refine wpAny_bind (LI.at ?_)
  simp only [Bool.not_true, Bool.false_eq_true, if_false]
  refine wpAny_pure ?_
  refine wpAny_bind ((kit_cls (M := model prog w) X hc).2.1.at ?_)
  simp only [if_true]
  refine wpAny_bind (wpAny_holding ?_)
  unfold raisedFor
  simp only [Bool.false_eq_true, if_false]
  refine wpAny_bind (LT.at (wpAny_bind (issub_call (s := ⟨hp2, g2, d2, tk2, os2⟩) X hc (wpAny_bind (wpAny_truthy_bool ?_)))))
  simp only [if_true]
  refine wpAny_pure ?_
  unfold setFlight raiseNew
  refine wpAny_bind (wpAny_bind (wpAny_field (i := 1) he hd h1 ?_))
  rw [if_neg (by decide)]
  refine wpAny_pure (wpAny_bind (wpAny_handled ?_))
  rw [hh]
  dsimp only
  have hne12 : e1 ≠ e2 := hne _ hm1
  have ne' : ((Value.ref e1 != Value.ref e2) = true) := by simpa using hne12
  simp only [ne', if_true]
  have fin : wpAny (model prog w) A (updateField e2 2 (.ref e1)) (fun _ s' => E (.ref e2) s') E ⟨hp2, g2, d2, tk2, os2⟩ := by
    have z : wpAny (model prog w) A (setField (.ref e2) 2 (.ref e1)) (fun _ s' => E (.ref e2) s') E ⟨hp2, g2, d2, tk2, os2⟩ := by
      refine wpAny_setField he hd hsz ?_
      obtain ⟨F', N'⟩ := news_upd (f := Obj.mapFields (·.setIfInBounds 2 (.ref e1))) F (show News h₀ L hp2 ([] ++ (e2, oe) :: news) from N) (fun _ hp => nomatch hp) hne rfl (Obj.isFreed_of_fields (Obj.data_mapFields hd _))
      refine hE _ F' ?_
      have eo : oe.mapFields (·.setIfInBounds 2 (.ref e1)) = { oe with data := .fields (vs.setIfInBounds 2 (.ref e1)) } := by
        obtain ⟨_, _, dt, _⟩ := oe
        dsimp only at hd
        subst hd
        rfl
      rw [eo] at N'
      exact N'
    exact z
  refine wpAny_bind (wpAny_holding (unchain_none (Q := fun _ s' => wpAny (model prog w) A (updateField e2 2 (.ref e1) >>= fun _ => throw (.ref e2)) Q E s') (N _ (.tail _ hm1)).1 hd1 h12 ?_))
  exact wpAny_bind (wpAny_mono fin (fun _ s' q => wpAny_throw q) fun _ _ q => q)
end
end
-- text E9
section
open Builtin Builtin.ObjectAttr
theorem canon_oga : (Manifest.canonical "object.__getattribute__" != "object.__getattribute__") = false := by decide +kernel
section
variable {prog : Program} {w : World} {A : Around} {E : Value → Shared → Prop} {s : Shared} {K : Frag} {x C : Addr} {ox : Obj} {od : Option Obj} {name : Str} {h₀ : Heap} {L : Addr} {m : Str → Option Value}
theorem method_usual {pl : Sem Bool} {Q : Value × List Value → Shared → Prop} (F : Fr h₀ L s.heap m) (X₀ : K.In h₀) (I : InstAt s.heap x ox C od)
    (hga : findIn K (.ref C) "__getattribute__" = some (some (.builtin "object.__getattribute__"))) (hgt : findIn K (.ref C) "__getattr__" = some none) (hf : findIn K (.ref C) name = some none)
    (h : wpAny (model prog w) A (getAttr (.ref x) name) (fun v s' => Q (v, []) s') E s) : wpAny (model prog w) A (getMethod (.ref x) name pl) Q E s := by
  have X := X₀.keeps F.keep
  have T := I.type (M := model prog w)
  have L1 := T.andThen (f := fun t => typeLookup t "__getattribute__") (looks_findIn X hga)
  have L2 := T.andThen (f := fun t => typeLookup t "__getattr__") (looks_findIn X hgt)
  have L3 := T.andThen (f := fun t => typeLookup t name) (looks_findIn X hf)
  unfold getMethod
  refine wpAny_bind (L1.here ?_)
  dsimp only
  rw [canon_oga, if_neg (by decide)]
  refine wpAny_bind (L2.here (wpAny_bind (L3.here ?_)))
  exact wpAny_bind (wpAny_mono h (fun v s' q => wpAny_pure q) fun _ _ q => q)
end
theorem truthy_empty {prog : Program} {w : World} {A : Around} {E : Value → Shared → Prop} {s : Shared} {t : Tok} {Q : Bool → Shared → Prop} (h : Q false { s with toks := s.toks + 1 + 1 }) : wpAny (model prog w) A (truthy (.bytes #[] t)) Q E s := truthy_bytes (by decide) h
end
-- text E14
/-! a def with cells, called from the outmost frame, that catches -/
section
variable {prog : Program} {w : World} {A₀ A : Around} {s : Shared} {base h₀ : Heap} {L : Addr} {m : Str → Option Value} {news : List (Addr × Obj)} {K : Frag} {p : Program} {loose : List Str} {mean : ExcName → Option Value} {mg mb : Str → Option Value}
  {R : Result → Shared → Prop} {cn : Str} {cs : Scope} {a : Addr} {ccd : Value} {name qual : Str} {params : Arguments} {body : List Stmt} {scope : Scope} {dV kV doc pm cdv ct oc : Value} {an od : Option Addr} {osl : Array (Option Value)} {f : Addr} {args : Args} {binds : List (Str × Value)}
theorem code_defCS0 (B : Below A₀ base [] h₀) (F : Fr h₀ L s.heap m) (X₀ : K.In h₀) (N : News h₀ L s.heap news) (T : Top p loose mean mg mb h₀) (hA : A.frames = some [envOf cn cs L a ccd])
    (ho : K.lookup f = some ⟨oc, od, .func (fnOf name qual params body scope dV kV doc pm an cdv ct), osl⟩) (hcd : codeIn K cdv qual = true) (hroom : A.depth < recursionLimit)
    (hbind : BindsTo s (fnOf name qual params body scope dV kV doc pm an cdv ct) args binds) (hkind : (binds.all fun y => scope.names.lookup y.1 == some .local || scope.names.lookup y.1 == some .cell) = true)
    (hnd : ((cellsFrom 0 scope.names []).map (·.1)).Nodup)
    (h : ∀ g L' h₁ tk cells, Fr h₀ L g m → Fr g L' h₁ (bindL (envOfC qual scope L' f cdv).kindOf binds fun _ => none) → News g L' h₁ (cells ++ news) →
      CellsAre (bindC (envOfC qual scope L' f cdv).kindOf binds fun _ => none) (cellsFrom (L' + 1) scope.names []) cells → Below A base [envOf cn cs L a ccd] g → K.In g → Top p loose mean mg mb g → (∀ p ∈ news, p.1 < L') → KtsDicts ([envOf cn cs L a ccd].filterMap (·.frame)) g →
      wpAny (model prog w) (A.deeper (envOfC qual scope L' f cdv)) (execs body (envOfC qual scope L' f cdv))
        (fun fl s' => LeaveS0 ([envOf cn cs L a ccd].filterMap (·.frame)) h₀ L m g R (match fl with | .ret v => v | _ => .none) s')
        (fun e s' => wpAny (model prog w) (A.deeper (envOfC qual scope L' f cdv)) (leaving (envOfC qual scope L' f cdv) e) (fun _ s'' => R (.error e) s'') (fun e' s'' => R (.error e') s'') s')
        { s with heap := h₁, toks := tk })
    (hck : cs.kind = .function) (hco : scope.isCoroutine = false) (hgen : scope.isGenerator = false) (hk : scope.kind = .function) : codeAny (model prog w) A (.call (.ref f) args) R s := by
  have X := X₀.keeps F.keep
  obtain ⟨oL, es, ep, hLg, hLd, hN, hNs, st, B₂⟩ := kts_enter B F N hA hck
  refine codeAny_call_function hroom (X _ _ ho) rfl hco hgen rfl (codeRec_of X hcd) (hbind _ _ _ _ ?_)
  refine wpAny_newFunctionEnv_cells hk (kindsX hkind _) fun env' he s' x => ?_
  subst he
  refine ⟨(T.nolimit.keeps F.keep).keeps x.toInCall.keep, codeAny_func ?_⟩
  obtain ⟨h₁, tk, rfl, _⟩ := x.done
  have hk₁ := x.toInCall.keep
  obtain ⟨cells, NC, Y⟩ := Cl.news (h₀ := s.heap) (Nat.le_refl _) fun n c hm => ⟨x.cell n c (lookup_of_mem_nodup (cellsFrom_names scope.names 0 (s.heap.objs.size + 1) [] [] rfl ▸ hnd) hm), x.above n c hm⟩
  refine wpAny_mono (h _ s.heap.objs.size h₁ tk cells ⟨hN _ hLg, st, F.above⟩ ⟨x.toInCall.ns, fun b o e => hk₁ b o (of_hideAll _ e), Nat.le_of_eq (hideAll_size _ _)⟩ (fun p hp => ?_) Y B₂ (X₀.keeps st) (T.keeps st) (fun p hp => Heap.lt_size (N p hp).1) (fun b hb => by
      rcases kts_mem hb with rfl | z
      · exact ⟨oL, es, ep, hLg, hLd⟩
      · simp at z)) (fun fl s' hl => ?_) fun _ _ y => y
  · rcases List.mem_append.mp hp with hp | hp
    · refine ⟨(NC p hp).1, (NC p hp).2.1, ?_⟩
      cases q : (hideAll s.heap (news.map (·.1))).get? p.1 with
      | none => rfl
      | some o => have := of_hideAll _ q; rw [(NC p hp).2.2] at this; cases this
    · exact ⟨hk₁ _ _ (N p hp).1, Nat.ne_of_lt (Heap.lt_size (N p hp).1), hideAll_none _ (List.mem_map_of_mem hp)⟩
  obtain ⟨g', L', m', news', T', F', N', k⟩ := hl
  have nL₀ : h₀.get? L = none := kts_self F
  obtain ⟨sl, hs⟩ := T'.up hLg
  refine k ⟨hNs sl _ (F'.keep _ _ hs), fun b o e => F'.keep b o (T'.other b o (st b o e) (fun q => by
    rcases kts_mem q with z | z
    · rw [z, nL₀] at e
      cases e
    · simp at z)), F.above⟩ fun p hp => ⟨(N' p hp).1, fun q => ?_, ?_⟩
  · have := (N' p hp).2.2; rw [q, hs] at this; cases this
  · cases q : h₀.get? p.1 with
    | none => rfl
    | some o =>
      obtain ⟨sl', hs'⟩ := T'.up (st _ _ q)
      have := (N' p hp).2.2
      rw [hs'] at this
      cases this
end
-- text E15
/-! an own exception caught as a name in a frame with cells; its dict stays told -/
section
variable {M : Model} {A : Around} {E : Value → Shared → Prop} {s' : Shared} {base g G h : Heap} {env : Env} {outer : List Env} {L e : Addr} {m : Str → Option Value} {cls : Value} {dd : Option Addr} {news : List (Addr × Obj)}
theorem RD.look {Q : Unit → Shared → Prop} (K : Below A base outer g) (hf : env.frame = some L) (R : RD base G (env :: outer) e cls dd news s'.heap) (hsm : G.UpToSlots s'.heap)
    (k : ∀ h', RD base G (env :: outer) e cls dd news h' → G.UpToSlots h' → Q () { s' with heap := h' }) :
    wpAny M (A.deeper env) (noteFrame (.ref e) env) (fun _ s₂ => wpAny M (A.deeper env) (setFlight (.ref e) none) (fun _ s₃ => Q () s₃) E s₂) E s' := by
  obtain ⟨B, a, b, c, d1, d2, d3, t⟩ := R
  refine note1D (Around.frames_deeper K.stack) d3 hf t d1 d2 fun h₁ x1 x2 x3 x4 => ?_
  refine flightD (s := { s' with heap := h₁ }) (f := none) x1 x2 x3 fun h₂ y1 y2 y3 y4 => ?_
  exact k h₂ ⟨B, a, b, c, y1, d2, y2, y3⟩ ((hsm.trans x4).trans y4)
end
section
variable {prog : Program} {w : World} {A₀ : Around} {E : Value → Shared → Prop} {s' : Shared} {base g G : Heap} {outer : List Env} {L a e : Addr} {m : Str → Option Value} {name : Str} {scope : Scope} {cd cls c : Value} {dd : Option Addr} {cells : List (Str × Addr)}
  {n x : Str} {b₀ : Stmt} {suite : List Stmt} {pos np : Pos} {rest : List ExceptHandler} {Q : Flow → Shared → Prop} {news : List (Addr × Obj)} {KF : Frag}
  {p : Program} {loose : List Str} {mean : ExcName → Option Value} {mg mb : Str → Option Value}
theorem hitXD (R : RD base G (envX name scope L a cd cells :: outer) e cls dd news s'.heap) (F : Fr g L G m) (K : Below A₀ base outer g) (hsm : G.UpToSlots s'.heap) (XB : KF.In base) (TB : Top p loose mean mg mb base) (D : KtsDicts (outer.filterMap (·.frame)) g)
    (hc : nsIn KF mainGlobals x = some (some c)) (hx : exmOne KF cls c = some true)
    (k : ∀ h' g' tk oe vs, KtsTurn (outer.filterMap (·.frame)) g g' → Fr g' L h' (fun y => if y = n then some (.ref e) else m y) → News g' L h' ((e, oe) :: news) → oe.cls = cls → oe.dict = dd → oe.data = .fields vs → (∀ q ∈ news, q.1 ≠ e) → Below A₀ base outer g' → KF.In g' → Top p loose mean mg mb g' → KtsDicts (outer.filterMap (·.frame)) g' →
      wpAny (model prog w) ((A₀.deeper (envX name scope L a cd cells)).mark (some (.ref e))) (execs (b₀ :: suite) (envX name scope L a cd cells))
        (fun f s₄ => wpAny (model prog w) (A₀.deeper (envX name scope L a cd cells)) (do bindName (envX name scope L a cd cells) n .none; unbindBehindTheSuite (envX name scope L a cd cells) n pos) (fun _ s₅ => Q f s₅) E s₄)
        (fun _ _ => False) { s' with heap := h', toks := tk })
    (hk : scope.kind = .function) (hlo : (envX name scope L a cd cells).kindOf n = some .local) (hg : (envX name scope L a cd cells).kindOf x = some .globalImplicit) (hd : (x == ("__debug__" : Str)) = false) :
    wpAny (model prog w) (A₀.deeper (envX name scope L a cd cells)) (handleBy (.ref e) (envX name scope L a cd cells) (.ExceptHandler (some (.Name x np)) (some n) (b₀ :: suite) pos :: rest)) Q E s' := by
  obtain ⟨B, hB, hBG, hl, d1, d2, d3, t⟩ := R
  obtain ⟨g₅, T₅, F₅, K₅⟩ := kts_ground (name := name) (scope := scope) (a := a) (cd := cd) K F hBG d1 hsm
  have LT : Looks (model prog w) s'.heap (typeOf (.ref e)) cls := by
    obtain ⟨oe, vs, he, hcl, _⟩ := t.there
    subst hcl
    exact (Looks.ld he).andThen .now
  refine wpAny_handleBy_cons (codeAny_handlers_test (nameX_K F₅ (XB.keeps K₅.stays) (topRead_of (TB.keeps K₅.stays)) hc ((exm_one ((XB.keeps K₅.stays).keeps F₅.keep) LT hx).here ?_) hk hg hd)) (by intro q; cases q)
  have hL : B.get? L = none := by
    obtain ⟨_, ⟨L', _, hf, hn', _⟩, _⟩ := d3
    obtain rfl : L = L' := Option.some.inj hf
    exact hn'
  refine codeAny_handlers_suite_as ?_
  refine flightD (f := none) d1 d3 t fun h₆ z1 z2 z3 z4 => ?_
  obtain ⟨g₆, T₆, F₆, K₆⟩ := kts_ground (name := name) (scope := scope) (a := a) (cd := cd) K F hBG z1 (hsm.trans z4)
  have Nl : News g₆ L h₆ news := fun q hq => ⟨z1 _ _ (hl q hq).1, (fun z => by have := (hl q hq).1; rw [z, hL] at this; cases this), T₆.none_ _ (kts_none F.keep (hl q hq).2.1)⟩
  obtain ⟨oe, vs, he, hcl, hdd, hda⟩ := z3.there
  have hne : ∀ q ∈ news, q.1 ≠ e := fun q hq z => by have := (hl q hq).1; rw [z, d2] at this; cases this
  have hge : g.get? e = none := by
    cases q : g.get? e with
    | none => rfl
    | some o =>
      by_cases hm : e ∈ outer.filterMap (·.frame)
      · obtain ⟨_, o', ho', hdf⟩ := K.frames.mem hm
        obtain ⟨sl, hs⟩ := (hsm.trans z4) _ _ (F.keep _ _ ho') hdf
        rw [he] at hs
        cases hs
        exact absurd hda (hdf _)
      · have := hBG e o (F.keep e o q) (fun hm' => by
          rcases fr_mem (env := envX name scope L a cd cells) rfl hm' with z | z
          · have hq := kts_self F
            rw [z] at q
            rw [hq] at q; cases q
          · exact hm z)
        rw [d2] at this; cases this
  have Ne : News g₆ L h₆ ((e, oe) :: news) := News.more F₆ Nl he (fun es n q => by rw [hda] at q; cases q) (T₆.none_ _ hge)
  refine storeX_L F₆ Ne (fun h₇ F₇ N₇ => ?_) hk hlo
  exact wpAny_mono (k h₇ g₆ _ oe vs T₆ F₇ N₇ hcl hdd hda hne K₆ (XB.keeps K₆.stays) (TB.keeps K₆.stays) (D.turn T₆)) (fun _ _ x => x) (fun _ _ x => x.elim)
end
-- text E16
/-! isinstance of an object of an own exception class: no -/
section
variable {prog : Program} {w : World} {A : Around} {E : Value → Shared → Prop} {s : Shared} {K : Frag} {x C D : Addr} {ox od : Obj}
theorem classE {Q : Option Value → Shared → Prop} (X : K.In s.heap) (I : InstAt s.heap x ox C (some od)) (hga : findIn K (.ref C) "__getattribute__" = some (some (.builtin "BaseException.__getattribute__"))) (hgt : findIn K (.ref C) "__getattr__" = some none)
    (hB : subIn K (.ref C) (.type "BaseException") = some true) (hdct : hasDictIn K C = true) (ha : findIn K (.ref C) "__class__" = some (some (.builtin "object.__class__")))
    (hn : specialIn K (.builtin "object.__class__") "__get__" = some (some (.builtin "getset_descriptor.__get__"))) (htk : takesIn K (.builtin "object.__class__") = some true) (hm : mroIn K C (.type "object") = some true)
    (h : Q (some (.ref C)) { s with toks := s.toks + 1 }) : wpAny (model prog w) A (getAttr? (.ref x) "__class__") Q E s := by
  have hf : findObj K C (some od) "__class__" = some (.bind (.builtin "getset_descriptor.__get__") (.builtin "object.__class__")) := findObj_data (by obtain ⟨cd, hc, _⟩ := any_some hdct; rw [hc]; rfl) ha hn htk
  obtain ⟨hp, g, d, t, os⟩ := s
  have L0 := I.type (M := model prog w)
  have L1 := looks_findIn (M := model prog w) X hga
  have L2 := looks_findIn (M := model prog w) X hgt
  have L3 : Looks (model prog w) hp (isInstance (.ref x) (.type "BaseException")) true := L0.andThen (looks_subIn X hB)
  have L4 := looks_find (M := model prog w) X I hf
  unfold getAttr? getAttrBy? getAttrBy
  refine wpAny_bind (wpAny_mkText (wpAny_bind (wpAny_attempt (wpAny_holding (wpAny_bind (L0.at (wpAny_bind (L1.at ?_))))))))
  dsimp only
  rw [ga_ne]
  refine wpAny_ite_false (by decide) ?_
  unfold getAttrByItsOwn hookBefore
  refine wpAny_bind (L2.at ?_)
  dsimp only [Option.toList]
  refine wpAny_bind (wpAny_attempt (wpAny_holding ?_))
  unfold callGetattribute
  have hx0 : (false && onTheHeap (Value.builtin "BaseException.__getattribute__")) = false := rfl
  rw [hx0]
  refine wpAny_ite_false (by decide) ?_
  unfold boundAndCalled
  rw [ga_slot.bind]
  refine wpAny_bind (wpAny_pure ?_)
  show wpAny _ _ (call (.builtin "BaseException.__getattribute__") [.ref x, .str "__class__" t]) _ _ _
  refine wpAny_call (codeAny_call_builtin ga_slot.plain PySem.F.entry_bexc_ga ?_)
  refine @check_slot (model prog w) _ _ _ "BaseException.__getattribute__" "BaseException" "__getattribute__" (.ref x) [.str "__class__" t] [] _ ga_kind ga_split L3 (ga_args _ _) ?_
  unfold Builtin.«object.__getattribute__»
  repeat ((fail_if_success (with_reducible show wpAny _ _ (call _ _ _) _ _ _)); lk)
  refine wpAny_call (class_get (s := ⟨hp, g, d, t + 1, os⟩) (ox := ox) (od := some od) X I hm ?_)
  exact wpAny_pure (handed_on (M := model prog w) rfl (wpAny_pure h))
theorem nestE {c : Value} {dep : Int} {tk : Tok} {Q : Fin → Shared → Prop} (X : K.In s.heap) (I : InstAt s.heap x ox C (some od)) (hga : findIn K (.ref C) "__getattribute__" = some (some (.builtin "BaseException.__getattribute__"))) (hgt : findIn K (.ref C) "__getattr__" = some none)
    (hB : subIn K (.ref C) (.type "BaseException") = some true) (hdct : hasDictIn K C = true) (ha : findIn K (.ref C) "__class__" = some (some (.builtin "object.__class__")))
    (hn : specialIn K (.builtin "object.__class__") "__get__" = some (some (.builtin "getset_descriptor.__get__"))) (htk : takesIn K (.builtin "object.__class__") = some true) (hm : mroIn K C (.type "object") = some true)
    (hty : Looks (model prog w) s.heap (typeOf c) (.type "type")) (his : Looks (model prog w) s.heap (isType c) true)
    (hne : (Value.ref C == c) = false) (hsub : Looks (model prog w) s.heap (isSubtype (.ref C) c) false) (h : Q (.done (.ret (.bool false))) { s with toks := s.toks + 1 }) :
    wpAny (model prog w) A (Builtin.«isinstance.nested» ⟨[.ref x, c, .int dep tk], []⟩) Q E s := by
  obtain ⟨cdD, hcD, _⟩ := any_some hdct
  have hisD : Looks (model prog w) s.heap (isType (.ref C)) true := by
    unfold clsIn at hcD
    split at hcD
    · rename_i c' d' cd' sl' ho
      intro A' Q' E' s' k q
      unfold isType loadHead
      exact wpAny_bind (wpAny_loadPart (k _ _ (X _ _ ho)) (wpAny_pure q))
    · cases hcD
  obtain ⟨h0, g, d, tt, os⟩ := s
  have L0 := I.type (M := model prog w)
  have LI : Looks (model prog w) h0 (isInstance (.ref x) c) false := L0.andThen hsub
  unfold Builtin.«isinstance.nested»
  refine wpAny_bind (L0.at ?_)
  rw [if_neg (fun q => by rw [hne] at q; exact Bool.noConfusion q)]
  refine wpAny_bind (hty.at ?_)
  rw [if_pos (by decide)]
  k_delta "plainIsInstance"
  refine wpAny_bind (wpAny_bind (his.at ?_))
  simp only [Bool.not_true, Bool.false_eq_true, if_false]
  refine wpAny_bind (LI.at ?_)
  simp only [Bool.false_eq_true, if_false]
  refine wpAny_bind (classE X I hga hgt hB hdct ha hn htk hm ?_)
  refine wpAny_bind (hisD.at ?_)
  simp only [Bool.not_true, Bool.false_eq_true, if_false]
  refine wpAny_bind (wpAny_rule ?_)
  refine hsub.at ?_
  first
    | exact wpAny_pure h
    | exact wpAny_pure (wpAny_pure h)
    | exact wpAny_bind (wpAny_pure (wpAny_pure h))
theorem isE_not {Q : Value → Shared → Prop} {dx n L : Addr} {es : List DictEntry} {h₀ : Heap} {m : Str → Option Value} {news : List (Addr × Obj)} (F : Fr h₀ L s.heap m) (X₀ : K.In h₀) (N : News h₀ L s.heap news) (hmx : (x, ox) ∈ news) (hcl : ox.cls = .ref C) (hno : notCls ox = true) (hd : ox.dict = some dx) (hmd : (dx, dictOf es n) ∈ news)
    (e : kin_not K C D = true) (hga : findIn K (.ref C) "__getattribute__" = some (some (.builtin "BaseException.__getattribute__"))) (hgt : findIn K (.ref C) "__getattr__" = some none)
    (hB : subIn K (.ref C) (.type "BaseException") = some true) (hdct : hasDictIn K C = true) (ha : findIn K (.ref C) "__class__" = some (some (.builtin "object.__class__")))
    (hn : specialIn K (.builtin "object.__class__") "__get__" = some (some (.builtin "getset_descriptor.__get__"))) (htk : takesIn K (.builtin "object.__class__") = some true) (hm : mroIn K C (.type "object") = some true)
    (h : Q (.bool false) { s with toks := s.toks + 1 }) : wpAny (model prog w) A (call (.builtin "isinstance") [.ref x, .ref D]) Q E s := by
  have X := X₀.keeps F.keep
  have I : InstAt s.heap x ox C (some (dictOf es n)) := ⟨(N _ hmx).1, hcl, hno, by rw [hd]; exact (N _ hmd).1⟩
  unfold kin_not at e
  rw [Bool.and_eq_true, Bool.and_eq_true, Bool.and_eq_true] at e
  obtain ⟨⟨⟨e0, e1⟩, e2⟩, e3⟩ := e
  refine call_isinstance (S := fun _ R s => (K.In s.heap ∧ InstAt s.heap x ox C (some (dictOf es n))) ∧ R (.ok (.ret (.bool false))) { s with toks := s.toks + 1 })
    (fun _ _ _ _ _ hs => isinstance_outer (nestE hs.1.1 hs.1.2 hga hgt hB hdct ha hn htk hm (looks_typeIn hs.1.1 (beq_iff_eq.mp e2)) ?_ ?_ (looks_subIn hs.1.1 (beq_iff_eq.mp e3)) hs.2) (by intro q; cases q)) ⟨⟨X, I⟩, h⟩
  · unfold clsIn at e1
    split at e1
    · rename_i c' d' cd' sl' ho
      intro A' Q' E' s' k q
      unfold isType loadHead
      exact wpAny_bind (wpAny_loadPart (k _ _ (hs.1.1 _ _ ho)) (wpAny_pure q))
    · cases e1
  · exact Bool.eq_false_iff.mpr fun q => of_decide_eq_true e0 (Value.ref.inj (beq_iff_eq.mp q))
end
-- text E17
theorem wp_app {M : Model} {Γ : Ctx} {env : Env} {ys : List Stmt} {Q E} : ∀ (xs : List Stmt) p s, Sem.wp M Γ (execs (xs ++ ys) env) Q E p s = Sem.wp M Γ (execs xs env) (fun f p' s' => match f with | .next => Sem.wp M Γ (execs ys env) Q E p' s' | f => Q f p' s') E p s := by
  intro xs
  induction xs with
  | nil => intro p s; rfl
  | cons x xs ih =>
    intro p s
    rw [List.cons_append, execs_cons, Sem.wp_bind', execs_cons, Sem.wp_bind']
    congr 1
    funext f p' s'
    cases f <;> first | exact ih p' s' | rfl
theorem execs_app {M : Model} {A : Around} {env : Env} {xs ys : List Stmt} {Q : Flow → Shared → Prop} {E : Value → Shared → Prop} {s : Shared}
    (h : wpAny M A (execs xs env) (fun f s' => match f with | .next => wpAny M A (execs ys env) Q E s' | f => Q f s') E s) : wpAny M A (execs (xs ++ ys) env) Q E s := fun Γ p hΓ => by
  rw [wp_app]
  refine Sem.wp_mono M Γ _ (fun f p' s' h' => ?_) (fun _ _ _ h' => h') _ _ (h Γ p hΓ)
  cases f <;> first | exact h' Γ p' hΓ | exact h'
-- text K1
section
variable {prog : Program} {w : World} {A : Around} {E : Value → Shared → Prop} {g : Heap} {L d a : Addr} {m : Str → Option Value} {news : List (Addr × Obj)}
theorem str_keys {es : List DictEntry} (h : ∀ e ∈ es, ∃ x t, e.key = .str x t) : (es.toArray.all fun e => isExactStrKey e.key) = true := by
  rw [← Array.all_toList]
  exact List.all_eq_true.mpr fun e he => by obtain ⟨x, t, q⟩ := h e he; rw [q]; rfl
theorem find_none {es : List DictEntry} {x : Str} (h : ∀ e ∈ es, e.key.isStr x = false) : es.toArray.findIdx? (fun e => e.key.isStr x) = none := by
  rw [Array.findIdx?_eq_none_iff]
  intro e he
  exact h e (by simpa using he)
theorem put_str {s : Shared} {es : List DictEntry} {n : Nat} {x : Str} {t : Tok} {hsh : Int} {v : Value} {Q : Unit → Shared → Prop} (F : Fr g L s.heap m) (N : News g L s.heap ((d, dictOf es n) :: news)) (h2 : ∀ p ∈ news, p.1 ≠ d)
    (hk : ∀ e ∈ es, ∃ x t, e.key = .str x t) (hs : ∀ e ∈ es, e.key.isStr x = false) (hz : es.length ≤ 8)
    (h : ∀ h', Fr g L h' m → News g L h' ((d, dictOf (es ++ [⟨hsh, .str x t, v⟩]) (n + 1)) :: news) → Q () { s with heap := h' }) :
    wpAny (model prog w) A (dictPut d hsh (.str x t) v) Q E s := by
  have D := (N _ (.head _)).1
  unfold dictPut
  refine wpAny_bind (KTD.kt_dictFind_strs D rfl (str_keys hk) ?_)
  rw [find_none hs]
  dsimp only
  have U := news_upd (pre := []) (f := Obj.mapDictKeys (·.push ⟨hsh, .str x t, v⟩)) (o' := dictOf (es ++ [⟨hsh, .str x t, v⟩]) (n + 1)) F N (fun _ hp => nomatch hp) h2 (by simp [Obj.mapDictKeys]) rfl
  exact wpAny_updateDictKeys D rfl (h _ U.1 U.2) (by rw [sizeLine_eq]; simp; omega)
theorem wpAny_forIn_range {M : Model} {s : Shared} {n : Nat} {f : Nat → PUnit → Sem (ForInStep PUnit)} {Q : PUnit → Shared → Prop} (I : Nat → Shared → Prop) (h0 : I 0 s)
    (turn : ∀ i s', i < n → I i s' → wpAny M A (f i ⟨⟩) (fun r s'' => r = .yield ⟨⟩ ∧ I (i + 1) s'') E s') (fin : ∀ s', I n s' → Q ⟨⟩ s') : wpAny M A (forIn (List.range n) PUnit.unit f) Q E s := by
  refine wpAny_forIn_list f (fun rest _ s' => ∃ k, rest = List.range' k (n - k) ∧ k ≤ n ∧ I k s') Q (fun x rest b s' hI => ?_) (fun b s' hI => ?_) _ _ ⟨0, by rw [List.range_eq_range']; rfl, Nat.zero_le _, h0⟩
  · obtain ⟨k, e, hk, hI⟩ := hI
    have lt : k < n := by
      rcases Nat.lt_or_ge k n with q | q
      · exact q
      · rw [Nat.sub_eq_zero_of_le q] at e; cases e
    rw [show n - k = (n - (k + 1)) + 1 by omega, List.range'_succ] at e
    obtain ⟨rfl, rfl⟩ := List.cons.inj e
    exact wpAny_mono (turn _ _ lt hI) (fun r s'' z => by obtain ⟨rfl, z⟩ := z; exact ⟨_, rfl, lt, z⟩) fun _ _ z => z
  · obtain ⟨k, e, hk, hI⟩ := hI
    have : k = n := by
      have z := congrArg List.length e
      rw [List.length_range'] at z
      simp at z
      omega
    exact fin _ (this ▸ hI)
theorem dict_sub : isSubtype (.type "dict") (.type "dict") = pure true := by kernel_rfl
theorem dict_iter : typeLookup (.type "dict") "__iter__" = pure (some (.builtin "dict.__iter__")) := by rw [typeLookup_type, builtinLookup_eq_fast]; kernel_rfl
theorem merge_str {s : Shared} {es el : List DictEntry} {n k : Nat} {oa : Obj} {Q : Unit → Shared → Prop} (F : Fr g L s.heap m) (N : News g L s.heap ((d, dictOf es n) :: news)) (h2 : ∀ p ∈ news, p.1 ≠ d)
    (ha : (a, oa) ∈ news) (hc : oa.cls = .type "dict") (hd : oa.data = .dict el.toArray k) (lo : (a == sysModules) = false)
    (hk : ∀ e ∈ es, ∃ x t, e.key = .str x t) (hl : ∀ e ∈ el, ∃ x t, e.key = .str x t ∧ ∀ e' ∈ es, e'.key.isStr x = false) (hn : el.Pairwise (fun e e' => ∀ x t, e'.key = .str x t → e.key.isStr x = false)) (hz : es.length + el.length ≤ 8)
    (h : ∀ h', Fr g L h' m → News g L h' ((d, dictOf (es ++ el) (n + el.length)) :: news) → Q () { s with heap := h' }) :
    wpAny (model prog w) A (mergeMapping d (.ref a) true) Q E s := by
  have ga : ∀ h', News g L h' news → h'.get? a = some oa := fun h' N' => (N' _ ha).1
  have Na : News g L s.heap news := fun p hp => N p (.tail _ hp)
  have T : s.TypeIs (.ref a) "dict" := ⟨oa, ga _ Na, hc⟩
  have D := (N _ (.head _)).1
  unfold mergeMapping
  refine wpAny_bind (wpAny_isInstance T dict_sub ?_)
  rw [if_pos rfl]
  refine wpAny_bind (wpAny_specialOf T dict_iter (wpAny_bind (wpAny_pure ?_)))
  rw [beq_self_eq_true]
  dsimp only
  rw [lo, if_neg Bool.false_ne_true]
  refine wpAny_bind (wpAny_dictEntries D rfl ?_)
  refine wpAny_ite ?_
  split
  all_goals try (
    refine wpAny_bind (wpAny_dictEntries (ga _ Na) hd ?_)
    refine wpAny_bind (wpAny_mono (Q := fun _ s' => s' = s) (wpAny_forIn_array' _ (fun rest _ s' => (∀ e ∈ rest, ∃ x t, e.key = .str x t) ∧ s' = s) _ (fun e rest b s' hI => ?a) (fun b s' hI => hI.2) _ _ ⟨fun e he => ?b, rfl⟩) (fun _ s' z => ?c) (fun _ _ z => z))
    case a =>
      obtain ⟨x, t, q⟩ := hI.1 e (.head _)
      rw [q]
      exact wpAny_pure ⟨fun e' h' => hI.1 e' (.tail _ h'), hI.2⟩
    case b =>
      obtain ⟨x, t, q, _⟩ := hl e (by simpa using he)
      exact ⟨x, t, q⟩
    rw [z])
  all_goals
    refine wpAny_bind (wpAny_dictEntries (ga _ Na) hd ?_)
    refine wpAny_bind (wpAny_dictEpoch (ga _ Na) hd ?_)
    refine wpAny_bind (wpAny_forIn_range (fun i s' => ∃ h', s' = { s with heap := h' } ∧ Fr g L h' m ∧ News g L h' ((d, dictOf (es ++ el.take i) (n + i)) :: news)) ⟨s.heap, rfl, F, by rw [List.take_zero, List.append_nil]; exact N⟩ (fun i s' hi hI => ?t) fun s' hI => wpAny_pure ?z)
    case z =>
      obtain ⟨h', rfl, F', N'⟩ := hI
      rw [List.size_toArray, List.take_length] at N'
      exact h h' F' N'
    case t =>
      obtain ⟨h', rfl, F', N'⟩ := hI
      rw [List.size_toArray] at hi
      have D' := (N' _ (.head _)).1
      have Na' : News g L h' news := fun p hp => N' p (.tail _ hp)
      refine wpAny_bind (wpAny_dictEntries (ga _ Na') hd ?_)
      rw [List.getElem?_toArray, List.getElem?_eq_getElem hi]
      dsimp only
      obtain ⟨x, t, q, hx⟩ := hl el[i] (List.getElem_mem hi)
      have kk : ∀ e ∈ es ++ el.take i, ∃ x t, e.key = .str x t := fun e he => by
        rcases List.mem_append.mp he with z | z
        · exact hk e z
        · obtain ⟨x, t, q, _⟩ := hl e (List.mem_of_mem_take z)
          exact ⟨x, t, q⟩
      have nn : ∀ e ∈ es ++ el.take i, e.key.isStr x = false := fun e he => by
        rcases List.mem_append.mp he with z | z
        · exact hx e z
        · obtain ⟨j, hj, rfl⟩ := List.mem_iff_getElem.mp z
          have hj' : j < i := by rw [List.length_take] at hj; omega
          rw [List.getElem_take]
          exact List.pairwise_iff_getElem.mp hn j i (by omega) hi hj' x t q
      refine wpAny_bind (wpAny_holding ?_)
      rw [if_pos rfl, q]
      refine wpAny_bind (KTD.kt_dictFind_strs D' rfl (str_keys kk) ?_)
      rw [find_none nn]
      show wpAny _ _ (dictPut d el[i].hash (Value.str x t) el[i].val) _ _ _
      refine put_str F' N' h2 kk nn (by rw [List.length_append, List.length_take]; omega) fun h'' F'' N'' => ?_
      refine wpAny_bind (wpAny_dictEpoch (ga _ fun p hp => N'' p (.tail _ hp)) hd ?_)
      rw [bne_self_eq_false]
      refine wpAny_pure ⟨rfl, h'', rfl, F'', ?_⟩
      rw [List.take_add_one, List.getElem?_eq_getElem hi, ← List.append_assoc]
      have ee : el[i] = ⟨el[i].hash, .str x t, el[i].val⟩ := by rw [← q]
      show News g L h'' ((d, dictOf (es ++ el.take i ++ [el[i]]) (n + (i + 1))) :: news)
      rw [ee]
      exact N''

theorem ne_cons2 {x : Nat} {p : Addr × Obj} {l : List (Addr × Obj)} (h : @Ne Nat p.1 x) (h' : ∀ q ∈ l, q.1 ≠ x) : ∀ q ∈ p :: l, q.1 ≠ x := fun q hq => by
  rcases List.mem_cons.mp hq with rfl | hq
  · exact h
  · exact h' q hq
/-- a keyword's value is read and nothing else -/
def Just (M : Model) (A : Around) (E : Value → Shared → Prop) (g : Heap) (L : Addr) (m : Str → Option Value) (x : Sem Value) (v : Value) : Prop :=
  ∀ (s : Shared) (Q : Value → Shared → Prop), Fr g L s.heap m → Q v s → wpAny M A x Q E s
theorem merged_more {s : Shared} {f : Value} {n1 n2 nx : Str} {v1 v2 vx : Value} {x1 x2 x3 : Sem Value} {od : Obj} {Q : Addr → Shared → Prop} (F : Fr g L s.heap m) (N : News g L s.heap news) (T : sysModules < g.objs.size)
    (j1 : Just (model prog w) A E g L m x1 v1) (j2 : Just (model prog w) A E g L m x2 v2) (j3 : Just (model prog w) A E g L m x3 (.ref d)) (hm : (d, od) ∈ news) (hd : od.IsDictOf (strKind prog w) [(nx, vx)])
    (d12 : (n1 == n2) = false) (d1x : (n1 == nx) = false) (d2x : (n2 == nx) = false) (lo : (d == sysModules) = false)
    (h : ∀ a h' tk' k e1 e2 e3 t1 t2 t3, Fr g L h' m → News g L h' ((a, dictOf [⟨e1, .str n1 t1, v1⟩, ⟨e2, .str n2 t2, v2⟩, ⟨e3, .str nx t3, vx⟩] k) :: news) → Q a { s with heap := h', toks := tk' }) :
    wpAny (model prog w) A (mergedKeywords f [(some n1, x1), (some n2, x2), (none, x3)]) Q E s := by
  unfold mergedKeywords
  refine wpAny_bind (wpAny_alloc ?_)
  refine wpAny_bind (wpAny_holding ?_)
  dsimp only
  rw [List.forIn_cons]
  refine wpAny_bind (wpAny_bind (wpAny_pure ?_))
  dsimp only
  rw [List.forIn_cons]
  refine wpAny_bind (wpAny_pure ?_)
  dsimp only
  rw [List.forIn_cons]
  refine wpAny_bind (wpAny_bind ?_)
  rw [if_neg (by exact Bool.false_ne_true)]
  dsimp only [List.nil_append, List.cons_append, List.map]
  have F1 : Fr g L (s.heap.push { cls := .type "dict", data := .dict #[] }) m := F.push _
  have N1 : News g L (s.heap.push { cls := .type "dict", data := .dict #[] }) ((s.heap.objs.size, dictOf [] 0) :: news) := News.push F N _ rfl
  have ne1 : ∀ p ∈ news, p.1 ≠ s.heap.objs.size := fun p hp => Nat.ne_of_lt (Heap.lt_size (N p hp).1)
  refine wpAny_bind (wpAny_evalAll_cons (j1 _ _ F1 (wpAny_evalAll_cons (j2 _ _ F1 (wpAny_evalAll_nil ?_)))))
  refine wpAny_bind (wpAny_alloc ?_)
  have F2 := F1.push { cls := .type "dict", data := .dict #[] }
  have N2 := News.push F1 N1 { cls := .type "dict", data := .dict #[] } rfl
  have ne2 : ∀ p ∈ ((s.heap.objs.size, dictOf [] 0) :: news), p.1 ≠ (s.heap.push { cls := .type "dict", data := .dict #[] }).objs.size := fun p hp => Nat.ne_of_lt (Heap.lt_size (N1 p hp).1)
  have lo1 := F1.notModules T
  dsimp only at F2 N2 ne2 lo1 ⊢
  generalize hS : (s.heap.push { cls := .type "dict", data := .dict #[] }).objs.size = S at F2 N2 ne2 lo1 ⊢
  generalize s.heap.objs.size = D at N1 ne1 N2 ne2 ⊢
  generalize (s.heap.push { cls := .type "dict", data := .dict #[] }).push { cls := .type "dict", data := .dict #[] } = H2 at F2 N2 ⊢
  clear F1 N1 hS
  have neS : ∀ p ∈ ((S, dictOf [] 0) :: news), p.1 ≠ D := ne_cons2 (Ne.symm (ne2 _ (.head _))) ne1
  rw [show ([(n1, x1), (n2, x2)].zip [v1, v2]) = [((n1, x1), v1), ((n2, x2), v2)] from rfl, List.forIn_cons]
  refine wpAny_bind (wpAny_bind (wpAny_bind (kp_nsSet F2 N2 ne2 (fun _ h => nomatch h) (fun _ h => nomatch h) fun H3 F3 N3 => wpAny_pure ?_)))
  dsimp only
  rw [List.forIn_cons]
  refine wpAny_bind (wpAny_bind (kp_nsSet (k := n2) F3 N3 ne2 (fun e he => ?k) (fun e he => ?r) fun H4 F4 N4 => wpAny_pure ?_))
  case k => obtain rfl := List.mem_singleton.mp he; exact d12
  case r => obtain rfl := List.mem_singleton.mp he; rfl
  dsimp only
  rw [List.forIn_nil]
  refine wpAny_pure (wpAny_onRaise (wpAny_holding (wpAny_tryCatch (wpAny_onRaise ?_))))
  dsimp only [List.nil_append, List.cons_append] at N4
  generalize (PyData.keyHash w.params n1) = e1 at N4
  generalize (PyData.keyHash w.params n2) = e2 at N4
  have lo2 : (S == sysModules) = false := lo1
  have NS : News g L H4 ((D, dictOf [] 0) :: (S, dictOf [⟨e1, .str n1 s.toks, v1⟩, ⟨e2, .str n2 (s.toks + 1), v2⟩] 2) :: news) := fun p hp => by
    rcases List.mem_cons.mp hp with rfl | hp
    · exact N4 _ (.tail _ (.head _))
    · rcases List.mem_cons.mp hp with rfl | hp
      · exact N4 _ (.head _)
      · exact N4 _ (.tail _ (.tail _ hp))
  have neD : ∀ p ∈ ((S, dictOf [⟨e1, .str n1 s.toks, v1⟩, ⟨e2, .str n2 (s.toks + 1), v2⟩] 2) :: news), p.1 ≠ D := ne_cons2 (Ne.symm (ne2 _ (.head _))) ne1
  refine merge_str (s := { s with heap := H4, toks := s.toks + 1 + 1 }) F4 NS neD (.head _) rfl rfl lo2 (fun _ h => nomatch h) (fun e he => ?k) ?p (Nat.le_of_ble_eq_true rfl) fun H5 F5 N5 => ?_
  case k =>
    rcases List.mem_cons.mp he with rfl | he
    · exact ⟨n1, _, rfl, fun _ h => nomatch h⟩
    · obtain rfl := List.mem_singleton.mp he
      exact ⟨n2, _, rfl, fun _ h => nomatch h⟩
  case p =>
    refine List.pairwise_cons.mpr ⟨fun e he x t q => ?_, List.pairwise_singleton _ _⟩
    obtain rfl := List.mem_singleton.mp he
    cases q
    exact d12
  refine wpAny_bind (j3 _ _ F5 ?_)
  refine wpAny_bind (wpAny_onRaise (wpAny_holding (wpAny_tryCatch (wpAny_onRaise ?_))))
  obtain ⟨es, ep, ⟨hc, _⟩, hdt, _, hp, _⟩ := hd
  obtain ⟨el⟩ := es
  dsimp only at hp
  cases hp with
  | @cons e _ es' _ hi hv hp' =>
    cases hp'
    obtain ⟨tx, hx⟩ := Value.isStrOf_shape hi
    dsimp only at hx hv
    have N6 : News g L H5 ((D, dictOf [⟨e1, .str n1 s.toks, v1⟩, ⟨e2, .str n2 (s.toks + 1), v2⟩] 2) :: news) := fun p hp => by
      rcases List.mem_cons.mp hp with rfl | hp
      · exact N5 _ (.head _)
      · exact N5 _ (.tail _ (.tail _ hp))
    refine merge_str (s := { s with heap := H5, toks := s.toks + 1 + 1 }) F5 N6 ne1 hm hc hdt lo (fun e' he => ?k2) (fun e' he => ?k3) (List.pairwise_singleton _ _) (Nat.le_of_ble_eq_true rfl) fun H7 F7 N7 => ?_
    case k2 =>
      rcases List.mem_cons.mp he with rfl | he
      · exact ⟨n1, _, rfl⟩
      · obtain rfl := List.mem_singleton.mp he
        exact ⟨n2, _, rfl⟩
    case k3 =>
      obtain rfl := List.mem_singleton.mp he
      refine ⟨nx, tx, hx, fun e3 he3 => ?_⟩
      rcases List.mem_cons.mp he3 with rfl | he3
      · exact d1x
      · obtain rfl := List.mem_singleton.mp he3
        exact d2x
    refine wpAny_pure ?_
    dsimp only
    rw [List.forIn_nil]
    refine wpAny_pure ?_
    refine wpAny_ite ?_
    rw [if_pos (by rfl)]
    refine wpAny_pure (wpAny_pure ?_)
    obtain ⟨e3, ek, ev⟩ := e
    dsimp only at hx hv
    subst hx
    subst hv
    exact h D H7 _ _ e1 e2 e3 _ _ _ F7 N7
theorem keywordsIn_three {s : Shared} {f : Value} {k : Nat} {n1 n2 nx : Str} {v1 v2 vx : Value} {e1 e2 e3 : Int} {t1 t2 t3 : Tok} {Q : List (Str × Value) → Shared → Prop} (N : News g L s.heap ((d, dictOf [⟨e1, .str n1 t1, v1⟩, ⟨e2, .str n2 t2, v2⟩, ⟨e3, .str nx t3, vx⟩] k) :: news))
    (h : Q [(n1, v1), (n2, v2), (nx, vx)] s) : wpAny (model prog w) A (keywordsIn f d) Q E s := by
  unfold keywordsIn
  refine wpAny_bind (wpAny_dictEntries (N _ (.head _)).1 rfl ?_)
  rw [← Array.forIn_toList]
  rw [List.forIn_cons]
  refine wpAny_bind (wpAny_bind (wpAny_pure ?_))
  dsimp only
  rw [List.forIn_cons]
  refine wpAny_bind (wpAny_pure ?_)
  dsimp only
  rw [List.forIn_cons]
  refine wpAny_bind (wpAny_pure ?_)
  dsimp only
  rw [List.forIn_nil]
  exact wpAny_pure (wpAny_pure h)
theorem callWith_more {s : Shared} {pos : Pos} {f : Addr} {of : Obj} {fd : FuncData} {n1 n2 nx : Str} {v0 v1 v2 vx : Value} {x0 x1 x2 x3 : Sem Value} {od : Obj} {Q : Value → Shared → Prop} (F : Fr g L s.heap m) (N : News g L s.heap news) (T : sysModules < g.objs.size)
    (hf : g.get? f = some of) (hfd : of.data = .func fd)
    (j0 : Just (model prog w) A E g L m x0 v0) (j1 : Just (model prog w) A E g L m x1 v1) (j2 : Just (model prog w) A E g L m x2 v2) (j3 : Just (model prog w) A E g L m x3 (.ref d)) (hm : (d, od) ∈ news) (hd : od.IsDictOf (strKind prog w) [(nx, vx)])
    (d12 : (n1 == n2) = false) (d1x : (n1 == nx) = false) (d2x : (n2 == nx) = false) (lo : (d == sysModules) = false)
    (h : ∀ h' tk', Fr g L h' m → News g L h' news → wpAny (model prog w) A (call (.ref f) [v0] [(n1, v1), (n2, v2), (nx, vx)]) Q E { s with heap := h', toks := tk' }) :
    wpAny (model prog w) A (callWith pos (.ref f) [] [(false, x0)] [(some n1, x1), (some n2, x2), (none, x3)]) Q E s := by
  refine callWith_function_kw (o := of) (fd := fd) ?_
  unfold evalArgs
  show wpAny _ _ (spliced [(false, x0)] >>= _) _ _ _
  refine wpAny_bind (spliced_cons (j0 _ _ F (spliced_nil ?_)))
  dsimp only
  refine wpAny_bind (wpAny_pure (wpAny_holding ?_))
  dsimp only
  rw [if_neg (by exact Bool.false_ne_true)]
  refine wpAny_bind (merged_more F N T j1 j2 j3 hm hd d12 d1x d2x lo fun a h' tk' k e1 e2 e3 t1 t2 t3 F' N' => ?_)
  refine wpAny_bind (wpAny_pure (wpAny_bind (wpAny_holding (keywordsIn_three N' (wpAny_pure ?_)))))
  exact ⟨⟨F'.keep _ _ hf, hfd⟩, h h' tk' F' fun p hp => N' p (.tail _ hp)⟩
end
-- text K2
section
variable {prog : Program} {w : World} {A A₀ : Around} {E : Value → Shared → Prop} {s : Shared} {K : Frag} {L d : Addr} {h₀ base g : Heap} {m mg mb : Str → Option Value} {news : List (Addr × Obj)} {p : Program} {loose : List Str} {mean : ExcName → Option Value}
theorem just_name {name : Str} {scope : Scope} {a : Addr} {cd v : Value} {x : Str} {ps : Pos} (hv : m x = some v) (hk : scope.kind = .function) (hl : (envOf name scope L a cd).kindOf x = some .local) (hd : (x == ("__debug__" : Str)) = false) :
    Just (model prog w) A E g L m (eval (.Name x ps) (envOf name scope L a cd)) v := fun _ _ F h => ld F hv h hk hl hd
theorem just_then {x : Sem Value} {v : Value} {pos : Pos} (j : Just (model prog w) A E g L m x v) : Just (model prog w) A E g L m (do let v ← x; standAt pos; pure v) v :=
  fun s Q F h => wpAny_bind (j s _ F (wpAny_bind (wpAny_standAt (wpAny_pure h))))
theorem callWith_names {name : Str} {scope : Scope} {fa : Addr} {cd : Value} {pos p0 p1 p2 p3 q1 q2 q3 : Pos} {f : Addr} {y0 y1 y2 y3 n1 n2 nx : Str} {v0 v1 v2 vx : Value} {od : Obj} {Q : Value → Shared → Prop} (F : Fr g L s.heap m) (X : K.In g) (N : News g L s.heap ((d, od) :: news)) (T : Top p loose mean mg mb g)
    (hf : fnIn K f = true) (m0 : m y0 = some v0) (m1 : m y1 = some v1) (m2 : m y2 = some v2) (m3 : m y3 = some (.ref d)) (hd : od.IsDictOf (strKind prog w) [(nx, vx)]) (lo : (d == sysModules) = false)
    (h : ∀ h' tk', Fr g L h' m → News g L h' news → wpAny (model prog w) A (call (.ref f) [v0] [(n1, v1), (n2, v2), (nx, vx)]) Q E { s with heap := h', toks := tk' })
    (hk : scope.kind = .function) (k0 : (envOf name scope L fa cd).kindOf y0 = some .local) (k1 : (envOf name scope L fa cd).kindOf y1 = some .local) (k2 : (envOf name scope L fa cd).kindOf y2 = some .local) (k3 : (envOf name scope L fa cd).kindOf y3 = some .local)
    (d0 : (y0 == ("__debug__" : Str)) = false) (d1 : (y1 == ("__debug__" : Str)) = false) (d2 : (y2 == ("__debug__" : Str)) = false) (d3 : (y3 == ("__debug__" : Str)) = false)
    (d12 : (n1 == n2) = false) (d1x : (n1 == nx) = false) (d2x : (n2 == nx) = false) :
    wpAny (model prog w) A (callWith pos (.ref f) [] (backTo pos (starEach [.Name y0 p0] (envOf name scope L fa cd))) (backToKw pos (keywordEach [⟨some n1, .Name y1 p1, q1⟩, ⟨some n2, .Name y2 p2, q2⟩, ⟨none, .Name y3 p3, q3⟩] (envOf name scope L fa cd)))) Q E s := by
  unfold fnIn at hf
  split at hf
  · rename_i e
    exact callWith_more F N (modules_low T.nolimit) (X _ _ e) rfl (just_name m0 hk k0 d0) (just_then (just_name m1 hk k1 d1)) (just_then (just_name m2 hk k2 d2)) (just_then (just_name m3 hk k3 d3)) (.head _) hd d12 d1x d2x lo fun h' tk' F' N' => h h' tk' F' fun p hp => N' p (.tail _ hp)
  · cases hf
/-- a def with a ** of its own is entered; its values may be of any kind -/
theorem enter_more {env : Env} {outer : List Env} {R : Result → Shared → Prop} {name qual : Str} {params : Arguments} {body : List Stmt} {scope : Scope} {dV kV doc pm cdv ct oc : Value} {an od : Option Addr} {osl : Array (Option Value)} {f : Addr} {args : Args} {nm : Str} {ex front : List (Str × Value)} {g₁ : Addr → Sem (List (Str × Value))}
    (B : Below A₀ base outer h₀) (F : Fr h₀ L s.heap m) (X : K.In h₀) (N : News h₀ L s.heap news) (T : Top p loose mean mg mb h₀) (hA : A.frames = some (env :: outer)) (hf : env.frame = some L) (hke : env.scope.kind = .function)
    (ho : K.lookup f = some ⟨oc, od, .func (fnOf name qual params body scope dV kV doc pm an cdv ct), osl⟩) (hcd : codeIn K cdv qual = true) (hroom : A.depth < recursionLimit) (hn : kwDistinct ex = true)
    (hp : peekA K ⟨prog, w.params⟩ (bindArgs (fnOf name qual params body scope dV kV doc pm an cdv ct) args) = some (dictOf [] 0, g₁))
    (hg : ∀ D, g₁ D = (forIn ex PUnit.unit (fun x _ => (nsSet D x.1 x.2 >>= fun _ => pure (ForInStep.yield PUnit.unit))) >>= fun _ => pure (front ++ [(nm, Value.ref D)])))
    (hl : ∀ D, ∀ y ∈ front ++ [(nm, Value.ref D)], scope.names.lookup y.1 = some .local)
    (h : ∀ D o g L' h₁ tk, (∀ p ∈ news, p.1 < D) → (D == sysModules) = false → o.IsDictOf (strKind prog w) ex → Fr h₀ L g m → Fr g L' h₁ (fun y => (front ++ [(nm, Value.ref D)]).reverse.lookup y) → News g L' h₁ ((D, o) :: news) → Below A base (env :: outer) g → K.In g → Top p loose mean mg mb g →
      wpAny (model prog w) (A.deeper (envOf qual scope L' f cdv)) (execs body (envOf qual scope L' f cdv))
        (fun fl s' => LeaveK h₀ L m g R (match fl with | .ret v => v | _ => .none) s')
        (fun e s' => wpAny (model prog w) (A.deeper (envOf qual scope L' f cdv)) (leaving (envOf qual scope L' f cdv) e) (fun _ s'' => R (.error e) s'') (fun e' s'' => R (.error e') s'') s')
        { s with heap := h₁, toks := tk })
    (hco : scope.isCoroutine = false) (hgen : scope.isGenerator = false) (hk : scope.kind = .function)
    (hcell : ∀ x ∈ scope.names, x.2 ≠ .cell) : codeAny (model prog w) A (.call (.ref f) args) R s := by
  have hn' := kwDistinct_nodup hn
  refine codeAny_call_function (fd := fnOf name qual params body scope dV kV doc pm an cdv ct) (body := body) hroom ((X.keeps F.keep) _ _ ho) rfl hco hgen rfl (codeRec_of (X.keeps F.keep) hcd) ?_
  refine wp_of_peekA (o := dictOf [] 0) F N (X.keeps F.keep) rfl _ g₁ hp fun h1 F1 N1 l1 => ?_
  rw [hg]
  refine wpAny_bind (kp_fill ex { s with heap := h1 } [] 0 F1 N1 (fun p hp => Nat.ne_of_lt (l1 p hp)) (fun _ z => nomatch z) (fun _ z => nomatch z) hn' fun h2 F2 N2 => wpAny_pure ?_)
  refine kp_frame (cl := []) (s := { s with heap := h2, toks := s.toks + ex.length }) B F2 N2 T.nolimit hA hf hke (hl _) (fun g L' h3 FG FL NG BG st => ?_) hcell hk
  exact h _ _ g L' h3 _ l1 (F.notModules (modules_low T.nolimit)) (kp_isDict s.toks (0 + ex.length) hn') FG FL NG BG (X.keeps st) (T.keeps st)
theorem methodCall_more {M : Model} {A : Around} {name : Str} {env : Env} {o : Expr} {apos pos : Pos} {args : List Expr} {kws : List Keyword} {Q : Value → Shared → Prop}
    (h : wpAny M A (eval o env) (fun ov s₁ => wpAny M A (getAttr ov name true) (fun f s₂ => wpAny M A (callWith pos f [] (backTo pos (starEach args env)) (backToKw pos (keywordEach kws env))) Q E s₂) E s₁) E s)
    (he : eval (.Call (.Attribute o name apos) args kws pos) env = (do
      let ov ← eval o env
      standAt apos.atName
      let (f, first) ← holding [ov] (do pure (← getAttr ov name true, []))
      let p ← pure pos
      callWith p f first (backTo pos (starEach args env)) (backToKw pos (keywordEach kws env))) := by rfl) :
    wpAny M A (eval (.Call (.Attribute o name apos) args kws pos) env) Q E s := by
  rw [he]
  refine wpAny_bind (wpAny_mono h (fun ov s₁ h₁ => wpAny_bind (wpAny_standAt (wpAny_bind (wpAny_holding (wpAny_bind (wpAny_mono h₁ (fun f s₂ h₂ => ?_) fun _ _ x => x)))))) fun _ _ x => x)
  exact wpAny_pure (wpAny_bind (wpAny_pure h₂))
end
-- text D1
def nth : List Stmt → Nat → Stmt
  | [], _ => .Pass default
  | s :: _, 0 => s
  | _ :: r, n + 1 => nth r n
def bodyOf : Stmt → List Stmt
  | .FunctionDef _ _ b _ _ _ _ _ _ _ => b
  | _ => []
abbrev caseBody : List Stmt := bodyOf (nth PySem.Challenge.pw_bt5023_01.main.body 18)
theorem le_line {n : Nat} (h : n ≤ 8) : n ≤ sizeLine := by rw [sizeLine_eq]; exact Nat.le_trans h (by decide)
theorem ne_cons {x : Nat} {p : Addr × Obj} {l : List (Addr × Obj)} (h : @Ne Nat p.1 x) (h' : ∀ q ∈ l, q.1 ≠ x) : ∀ q ∈ p :: l, q.1 ≠ x := fun q hq => by
  rcases List.mem_cons.mp hq with rfl | hq
  · exact h
  · exact h' q hq
theorem ne_nil {x : Nat} : ∀ q ∈ ([] : List (Addr × Obj)), q.1 ≠ x := fun q hq => nomatch hq
def Sub (a b : List (Addr × Obj)) : Prop := ∀ p ∈ a, p ∈ b
theorem Sub.tail {a b : List (Addr × Obj)} {q : Addr × Obj} (h : Sub a b) : Sub a (q :: b) := fun p hp => .tail _ (h p hp)
inductive Front (p : Addr × Obj) : List (Addr × Obj) → List (Addr × Obj) → Prop
  | here {r : List (Addr × Obj)} : Front p (p :: r) r
  | there {q : Addr × Obj} {r r' : List (Addr × Obj)} : Front p r r' → Front p (q :: r) (q :: r')
theorem Front.mem {p : Addr × Obj} {l l' : List (Addr × Obj)} (f : Front p l l') : ∀ q ∈ p :: l', q ∈ l := by
  induction f with
  | here => exact fun q hq => hq
  | there _ ih =>
    intro q hq
    rcases List.mem_cons.mp hq with rfl | hq
    · exact .tail _ (ih _ (.head _))
    · rcases List.mem_cons.mp hq with rfl | hq
      · exact .head _
      · exact .tail _ (ih _ (.tail _ hq))
theorem fnAt_of {h₀ h : Heap} {L q : Addr} {oq : Obj} {fd : FuncData} {news : List (Addr × Obj)} (N : News h₀ L h news) (hm : (q, oq) ∈ news) (hd : oq.data = .func fd) : FnAt q h := by
  obtain ⟨oc, od, dt, sl⟩ := oq
  dsimp only at hd
  subst hd
  exact ⟨oc, od, fd, sl, (N _ hm).1⟩
theorem newsTo {h₀ h : Heap} {L : Addr} {news news' : List (Addr × Obj)} (N : News h₀ L h news) (hs : ∀ p ∈ news', p ∈ news) : News h₀ L h news' := fun p hp => N p (hs p hp)
theorem newsFront {h₀ h : Heap} {L : Addr} {p : Addr × Obj} {l l' : List (Addr × Obj)} (N : News h₀ L h l) (f : Front p l l') : News h₀ L h (p :: l') := newsTo N f.mem
theorem leave_led {M : Model} {A : Around} {E : Value → Shared → Prop} {s' : Shared} {base g : Heap} {env : Env} {outer : List Env} {L e : Addr} {m : Str → Option Value} {Q : Unit → Shared → Prop} {news news' : List (Addr × Obj)} {oe : Obj} {vs : Array Value}
    (K : Below A base outer g) (F : Fr g L s'.heap m) (N : News g L s'.heap news) (hf : env.frame = some L) (hk : env.scope.kind ≠ .module) (hm : (e, oe) ∈ news) (hd : oe.data = .fields vs) (h1 : vs[1]? = some .none)
    (hs : ∀ q ∈ news', q ∈ news) (hne : ∀ q ∈ news', q.1 ≠ e)
    (hQ : ∀ h', RD base g outer e oe.cls oe.dict news' h' → g.UpToSlots h' → Q () { s' with heap := h' }) : wpAny M (A.deeper env) (leaving env (.ref e)) Q E s' :=
  leave_startD K F (newsTo N hs) hf hk hne (N _ hm).2.2 ⟨oe, vs, (N _ hm).1, rfl, rfl, hd, h1⟩ hQ
/-- what a call of the law's own loadSerial does where the table has the row -/
def Reads (w : World) (mem : List (Addr × Obj)) (f la : Addr) (bo bx : Array UInt8) (to tx : Tok) (t1 : Value) : Prop :=
  ∀ (dp un : Nat) (gd : Option (List Code)) (cn : Str) (cs : Scope) (a : Addr) (ccd : Value) (cl : List (Str × Addr)) (outer : List Env) (A₀ : Around) (base h₀ : Heap) (L : Addr) (m : Str → Option Value) (s : Shared) (Q E : Value → Shared → Prop)
    (loose : List Str) (mean : ExcName → Option Value) (mg mb : Str → Option Value) (rest : List (Addr × Obj)) (va : Array Value) (na : Nat),
    Below A₀ base outer h₀ → Fr h₀ L s.heap m → (hd.heap_39 w.params).In h₀ → News h₀ L s.heap ((la, W.listOf va na) :: rest) → Top topProg loose mean mg mb h₀ → CodeHd base 305 301 → cs.kind = .function → dp + 10 < recursionLimit → un + 80 < cLine →
    (∀ p ∈ rest, p.1 ≠ la) → va.size ≤ 8 → Sub mem rest →
    (∀ t h' tk', Fr h₀ L h' m → News h₀ L h' ((t, tupObj [.bytes bo to, .bytes bx tx]) :: (la, W.listOf (va.push (.ref t)) (na + 1)) :: rest) → (@LT.lt Nat _ la t ∧ AllLt t rest) → Q t1 { s with heap := h', toks := tk' }) →
    wpAny (model P0 w) (ktrTop dp un gd cn cs L a ccd cl outer) (call (.ref f) [.bytes bo to, .bytes bx tx]) Q E s
def Misses (w : World) (mem : List (Addr × Obj)) (f la : Addr) (bo bx : Array UInt8) (to tx : Tok) : Prop :=
  ∀ (dp un : Nat) (gd : Option (List Code)) (cn : Str) (cs : Scope) (a : Addr) (ccd : Value) (cl : List (Str × Addr)) (outer : List Env) (A₀ : Around) (base h₀ : Heap) (L : Addr) (m : Str → Option Value) (s : Shared) (Q E : Value → Shared → Prop)
    (loose : List Str) (mean : ExcName → Option Value) (mg mb : Str → Option Value) (rest : List (Addr × Obj)) (va : Array Value) (na : Nat),
    Below A₀ base outer h₀ → Fr h₀ L s.heap m → (hd.heap_39 w.params).In h₀ → News h₀ L s.heap ((la, W.listOf va na) :: rest) → Top topProg loose mean mg mb h₀ → CodeHd base 305 301 → cs.kind = .function → dp + 10 < recursionLimit → un + 80 < cLine →
    (∀ p ∈ rest, p.1 ≠ la) → va.size ≤ 8 → Sub mem rest →
    (∀ e G t h' tk', Fr h₀ L G m → RaisedSN base G (envX cn cs L a ccd cl :: outer) e (.ref 44) ((t, tupObj [.bytes bo to, .bytes bx tx]) :: (la, W.listOf (va.push (.ref t)) (na + 1)) :: rest) h' → G.UpToSlots h' → (@LT.lt Nat _ la t ∧ AllLt t rest) → E (.ref e) { s with heap := h', toks := tk' }) →
    wpAny (model P0 w) (ktrTop dp un gd cn cs L a ccd cl outer) (call (.ref f) [.bytes bo to, .bytes bx tx]) Q E s
section
variable {M : Model} {A : Around} {E : Value → Shared → Prop} {s' : Shared} {base g h : Heap} {env : Env} {outer : List Env} {L e : Addr} {m : Str → Option Value} {Q : Unit → Shared → Prop} {news : List (Addr × Obj)}
theorem leave_newexc {X : String} (K : Below A base outer g) (F : Fr g L h m) (N : News g L h news) (hx : Heap.NewExc h s'.heap e X) (hf : env.frame = some L) (hk : env.scope.kind ≠ .module)
    (hQ : ∀ h' dd, RD base g outer e (.type X) dd news h' → g.UpToSlots h' → Q () { s' with heap := h' }) : wpAny M (A.deeper env) (leaving env (.ref e)) Q E s' := by
  obtain ⟨ob, tp, he, hc, hd⟩ := hx.there
  have N' : News g L s'.heap news := fun p hp => ⟨hx.keeps _ _ (N p hp).1, (N p hp).2⟩
  have F' : Fr g L s'.heap m := ⟨let ⟨o, es, ep, q, r⟩ := F.ns; ⟨o, es, ep, hx.keeps _ _ q, r⟩, fun b o q => hx.keeps b o (F.keep b o q), F.above⟩
  have ht : Tr0 s'.heap e (.type X) ob.dict := ⟨ob, _, he, hc, rfl, hd, rfl⟩
  exact leave_startD K F' N' hf hk (fun q hq z => by have := (N q hq).1; rw [z, hx.new] at this; cases this) (kts_none F.keep hx.new) ht fun h' R U => hQ h' _ R U
theorem leave_madeof {cls : Value} {vs : List Value} (K : Below A base outer g) (F : Fr g L h m) (N : News g L h news) (hx : Heap.MadeExcOf h s'.heap e cls vs) (hf : env.frame = some L) (hk : env.scope.kind ≠ .module)
    (hQ : ∀ h' dd, RD base g outer e cls dd news h' → g.UpToSlots h' → Q () { s' with heap := h' }) : wpAny M (A.deeper env) (leaving env (.ref e)) Q E s' := by
  obtain ⟨t, he, _⟩ := hx.there
  have N' : News g L s'.heap news := fun p hp => ⟨hx.keeps _ _ (N p hp).1, (N p hp).2⟩
  have F' : Fr g L s'.heap m := ⟨let ⟨o, es, ep, q, r⟩ := F.ns; ⟨o, es, ep, hx.keeps _ _ q, r⟩, fun b o q => hx.keeps b o (F.keep b o q), F.above⟩
  have ht : Tr0 s'.heap e cls none := ⟨_, _, he, rfl, rfl, rfl, rfl⟩
  exact leave_startD K F' N' hf hk (fun q hq z => by have := (N q hq).1; rw [z, hx.new] at this; cases this) (kts_none F.keep hx.new) ht fun h' R U => hQ h' _ R U
end
-- text D2
section
variable {M : Model} {A : Around} {E : Value → Shared → Prop} {s : Shared} {env : Env} {outer : List Env}
theorem cutQ {st : Stmt} {Q : Flow → Shared → Prop} (P : Shared → Prop) (h1 : ∀ s', P s' → Q .next s') (h2 : wpAny M A (exec st env) (fun f s' => match f with | .next => P s' | f => Q f s') E s) : wpAny M A (exec st env) Q E s :=
  wpAny_mono h2 (fun f s' x => by cases f <;> first | exact x | exact h1 _ x) fun _ _ x => x
theorem cutE {α : Type} {c : Sem α} {Q : α → Shared → Prop} (P : Value → Shared → Prop) (h1 : ∀ e s', P e s' → E e s') (h2 : wpAny M A c Q P s) : wpAny M A c Q E s := wpAny_mono h2 (fun _ _ x => x) h1
theorem kd_push {h₀ g : Heap} {L : Addr} {m : Str → Option Value} (F : Fr h₀ L g m) (hf : env.frame = some L) (D : KtsDicts (outer.filterMap (·.frame)) h₀) : KtsDicts ((env :: outer).filterMap (·.frame)) g := fun b hb => by
  rcases fr_mem hf hb with rfl | hb
  · obtain ⟨o, es, ep, h1, h2, _⟩ := F.ns
    exact ⟨o, es, ep, h1, h2⟩
  · obtain ⟨o, es, n, h1, h2⟩ := D b hb
    exact ⟨o, es, n, F.keep _ _ h1, h2⟩
theorem RD.turn {base g g' h : Heap} {l : List Env} {e : Addr} {cls : Value} {dd : Option Addr} {news : List (Addr × Obj)} (R : RD base g' l e cls dd news h) (T : KtsTurn (l.filterMap (·.frame)) g g') : RD base g l e cls dd news h := by
  obtain ⟨B, a, b, c, d⟩ := R
  refine ⟨B, a, fun x o q nm => b x o (T.other x o q nm) nm, fun q hq => ⟨(c q hq).1, ?_, (c q hq).2.2⟩, d⟩
  cases z : g.get? q.1 with
  | none => rfl
  | some o =>
    obtain ⟨sl, hs⟩ := T.up z
    have := (c q hq).2.1
    rw [hs] at this
    cases this
theorem ups_turn {fs : List Addr} {g g' h : Heap} (T : KtsTurn fs g g') (U : g'.UpToSlots h) : g.UpToSlots h := fun b o hb hnf => by
  obtain ⟨sl, hs⟩ := T.up hb
  obtain ⟨sl', hs'⟩ := U b _ hs hnf
  exact ⟨sl', hs'⟩
end
section
local macro_rules | `(tactic| walk_at "getMethod str") => `(tactic| (k_here; with_reducible refine Mine.encode_method ?_))
local macro_rules | `(tactic| walk_at "call builtin:str.encode") => `(tactic| (k_here; (with_reducible show wpAny _ _ (call (Value.builtin "str.encode") [Value.str _ _, Value.str _ _]) _ _ _); with_unfolding_all refine Mine.encode_call ?_; intro _ _))
local macro_rules | `(tactic| walk_at "same") => `(tactic| repeat' (first
  | exact Mine.Same.bytes _ _ _
  | exact Mine.Same.int _ _ _
  | exact Mine.SameAll.nil
  | (refine Mine.SameAll.cons ?_ ?_)
  | (refine Mine.Same.tuple (Mine.led_tuple (by k_asm) (by k_mem) rfl rfl) (Mine.led_tuple (by k_asm) (by k_mem) rfl rfl) ?_)
  | (refine Mine.Same.list (Mine.led_list (by k_asm) (by k_mem) rfl rfl) (Mine.led_list (by k_asm) (by k_mem) rfl rfl) ?_)))
local macro_rules | `(tactic| walk_at "compareOp Eq ref ref") => `(tactic| (k_here; (with_reducible show wpAny _ _ (compareOp CmpOp.Eq (Value.ref _) (Value.ref _)) _ _ _); k_dflt (refine' Mine.same_eq 3 ?h ?u ?_; (case h => (walk_at "same"; done)); (case u => ke_room))))
local macro_rules | `(tactic| walk_at "compareOp NotEq ref ref") => `(tactic| (k_here; (with_reducible show wpAny _ _ (compareOp CmpOp.NotEq (Value.ref _) (Value.ref _)) _ _ _); k_dflt (refine' Mine.same_ne 3 ?h ?u ?_; (case h => (walk_at "same"; done)); (case u => ke_room))))
local macro_rules | `(tactic| walk_at "call builtin:int.to_bytes") => `(tactic| (k_here; (with_reducible show wpAny _ _ (call (Value.builtin "int.to_bytes") [Value.int _ _, Value.int _ _, Value.str _ _]) _ _ _); (with_unfolding_all refine KTBy.to_big (k := 8) (B := 18446744073709551616) (by decide) (by decide) (by kt_fact) (by kt_fact) ?_); (intro b' _ _ hb' _)))
local macro_rules | `(tactic| walk_at "eval Dict cons") => `(tactic| (k_here; k_dflt (refine' kdn_eval (knd := bytesKind _ _) ?F ?N ?b ?a ?l ?e ?n ?_; (case F => k_asm); (case N => k_asm); (case b => exact Top.nolimit (by k_asm)); (case a => rfl); (case l => rfl); (case e => exact List.cons_ne_nil _ _); (case n => exact Nat.le_of_ble_eq_true rfl)); intro d' h' o' F' N' l1 lo' hd'; (try k_lt l1)))
local macro_rules | `(tactic| walk_at "bk_ne") => `(tactic| first | with_reducible assumption | exact Ne.symm (by with_reducible assumption))
local macro_rules | `(tactic| walk_at "bk_val") => `(tactic| first | exact Mine.va_head | exact Mine.va_nil | exact Mine.va_tail (by walk_at "bk_ne") (by walk_at "bk_val"))
local macro_rules | `(tactic| walk_at "KdnMade") => `(tactic| (k_here; k_dflt (refine' Mine.bk_made ?F ?N ?U ?d ?n ?_; (case F => k_asm); (case N => k_asm); (case U => k_updF); (case d => k_asm); (case n => walk_at "bk_ne")); intro h' o' F' N' hd'; (try dsimp only at N')))
local macro_rules | `(tactic| walk_at "call builtin:dict.pop") => `(tactic| (k_here; (with_reducible show wpAny _ _ (call (Value.builtin "dict.pop") [Value.ref _, Value.bytes _ _]) _ _ _); k_dflt (refine' Mine.bk_pop ?F ?N ?U ?d ?v ?z ?w ?_; (case F => k_asm); (case N => k_asm); (case U => k_updF); (case d => k_asm); (case v => first | (walk_at "bk_val"; done) | assumption); (case z => decide); (case w => first | exact Mine.bk_without_head (by walk_at "bk_ne") | exact Mine.bk_without_tail (by walk_at "bk_ne"))); intro h' o' F' N' hd'; (try dsimp only at N')))
local macro_rules | `(tactic| walk_at "compareOp In bytes ref") => `(tactic| (k_here; k_dflt (first
  | (refine' Mine.bk_in (x := true) ?N ?p ?d ?lo ?v ?_; (case N => k_asm); (case p => k_mem); (case d => k_asm); (case lo => k_asm); (case v => (rw [show valueAt _ _ = some _ from by first | (walk_at "bk_val"; done) | assumption]; rfl)))
  | (refine' Mine.bk_in (x := false) ?N ?p ?d ?lo ?v ?_; (case N => k_asm); (case p => k_mem); (case d => k_asm); (case lo => k_asm); (case v => (rw [show valueAt _ _ = none from by first | (walk_at "bk_val"; done) | assumption]; rfl))))))
local macro_rules | `(tactic| walk_at "getItem ref bytes") => `(tactic| (k_here; k_dflt (refine' Mine.bk_item ?N ?p ?d ?v ?_; (case N => k_asm); (case p => k_mem); (case d => k_asm); (case v => first | (walk_at "bk_val"; done) | assumption))))
local macro_rules | `(tactic| walk_at "subscriptTail") => `(tactic| (k_here; (with_reducible show wpAny _ _ (subscriptTail _ _ (Value.ref _) (Value.bytes _ _)) _ _ _); k_dflt (refine' kdt_tail (knd := bytesKind _ _) ?N ?p ?d ?_; (case N => k_asm); (case p => k_mem); (case d => k_asm))))
local macro_rules | `(tactic| walk_at "callWith ref") => `(tactic| (k_here; k_dflt (first | (refine' callWith_K ?k1 ?k2 ?_; (case k1 => k_asm); (case k2 => k_is); k_whole) | (refine' callWith_K0 ?k1 ?k2 ?_; (case k1 => k_in); (case k2 => k_is); k_whole))))
local macro_rules | `(tactic| walk_at "call ref") => `(tactic| (k_here; (with_reducible show wpAny _ _ (call (Value.ref 285) [Value.int _ _]) _ _ _); k_dflt (refine' Mine.law_id_call ?k1 ?k2 ?k3 ?k4 ?k5 ?kK ?kd ?n0 ?n1 ?_; (case k1 => k_asm); (case k2 => k_asm); (case k3 => k_asm); (case k4 => k_asm); (case k5 => k_asm); (case kK => first | exact rfl | assumption); (case kd => ktr_room); (case n0 => with_reducible assumption); (case n1 => with_reducible assumption)); intro t9 h9 tk9 F9 N9; (try dsimp only); (try k_fold)))
local macro_rules | `(tactic| walk_at "call ref") => `(tactic| (k_here; kn_here; k_dflt (refine wpAny_call ?_; (refine' code_nest ?k1 ?k2 ?k3 ?k4 ?k5 ?kA ?kF ?kK ?k6 ?k7 ?k8 ?k9 ?kB ?_ ?c2 ?c3 ?c4 ?c5; (case kA => exact rfl); (case kF => exact rfl); (case kK => first | exact rfl | assumption); (case k1 => k_asm); (case k2 => k_asm); (case k3 => k_asm); (case k4 => k_asm); (case k5 => k_asm); (case k6 => k_mem); (case k7 => exact codeRec_news (by k_asm) (by k_mem) (by assumption) (by assumption)); (case k8 => ktr_room); (case k9 => exact BindsTo.of_eq rfl); (case c5 => decide); (case kB => exact locs rfl); (case c2 => exact rfl); (case c3 => exact rfl); (case c4 => exact rfl); k_whole; intro g' L' h' FG' F' N' B' X' T'; (try dsimp only); (try k_lift B'); (try k_fold)))))
local macro_rules | `(tactic| k_mem) => `(tactic| first | exact List.mem_cons_self | with_reducible assumption | (refine List.mem_cons_of_mem _ ?_; k_mem))
local macro_rules | `(tactic| k_all) => `(tactic| first | with_reducible assumption | (refine Mine.allNe (by with_reducible assumption) ?_; (first | exact Nat.le_refl _ | omega)) | (refine Mine.allNe' (by with_reducible assumption) ?_; (first | exact Nat.le_refl _ | omega)))
local macro_rules | `(tactic| walk_at "ENTER") => `(tactic| (refine' code_def ?k1 ?k2 ?k3 ?k4 ?k5 ?kA ?kF ?kK ?k6 ?k7 ?k8 ?k9 ?kB ?_ ?c2 ?c3 ?c4 ?c5; (case kA => exact rfl); (case kF => exact rfl); (case kK => first | exact rfl | assumption); (case k1 => k_asm); (case k2 => k_asm); (case k3 => k_asm); (case k4 => k_asm); (case k5 => k_asm); (case k6 => k_is); (case k7 => k_is); (case k8 => ktr_room); (case k9 => first | exact BindsTo.of_eq rfl | exact binds_K (by k_in) rfl (by k_is) rfl rfl rfl | fail "ENTER: no rule for these arguments"); (case c5 => decide); (case kB => exact locs rfl); (case c2 => exact rfl); (case c3 => exact rfl); (case c4 => exact rfl); k_whole; intro g' L' h' FG' F' N' B' X' T'; (try dsimp only); (try k_lift B'); (try k_fold)))
local macro_rules | `(tactic| walk_at "call ref") => `(tactic| (k_here; k_dflt (refine' Mine.call_exc ?k1 ?k2 ?k3 ?k4 ?kr ?k5 ?k6 ?_; (case k1 => k_asm); (case k2 => k_asm); (case k3 => k_asm); (case k4 => kernel_rfl); (case kr => exact Nat.le_of_ble_eq_true rfl); (case k5 => k_is); (case k6 => k_is); k_whole; intro x' d' h' F' N' l1 l2; (try k_lt l1); (try k_lt2 l2); (try k_sweep); walk_at "ENTER")))
local macro_rules | `(tactic| walk_at "setAttr ref") => `(tactic| (k_here; k_dflt (refine' Mine.setE_more ?k1 ?k2 ?k3 ?k4 ?r1 ?r2 ?r3 ?k5 ?k6 ?k7 ?k8 ?k9 ?k10 ?k11 ?k12 ?k13 ?_; (case k1 => k_asm); (case k2 => k_asm); (case k3 => k_asm); (case k4 => k_mem); (case r1 => exact rfl); (case r2 => exact rfl); (case r3 => exact rfl); (case k5 => k_mem); (case k6 => k_is); (case k7 => kernel_rfl); (case k8 => k_is); (case k9 => k_is); (case k10 => rfl); (case k11 => exact rfl); (case k12 => k_upd); (case k13 => exact Nat.le_of_ble_eq_true rfl); k_whole); intro h' F' N'; (try k_sweep)))
local macro_rules | `(tactic| walk_at "setAttr ref") => `(tactic| (k_here; k_dflt (refine' Mine.setE_new ?k1 ?k2 ?k3 ?r1 ?r2 ?r3 ?k5 ?k6 ?k7 ?k8 ?k9 ?_; (case k1 => k_asm); (case k2 => k_asm); (case k3 => k_asm); (case r1 => exact rfl); (case r2 => exact rfl); (case r3 => exact rfl); (case k5 => k_all); (case k6 => k_is); (case k7 => kernel_rfl); (case k8 => k_is); (case k9 => k_is)); intro d' h' F' N' l1 l2; (try dsimp only at N'); (try k_lt l1); (try k_lt2 l2); (try k_sweep)))
local macro_rules | `(tactic| walk_at "getAttr ref") => `(tactic| (k_here; k_dflt (refine' Mine.getE_K ?k1 ?k2 ?k3 ?k4 ?r1 ?r2 ?r3 ?k5 ?k6 ?k7 ?k8 ?k9 ?k10 ?k11 ?k12 ?k13 ?_; (case k1 => k_asm); (case k2 => k_asm); (case k3 => k_asm); (case k4 => k_mem); (case r1 => exact rfl); (case r2 => exact rfl); (case r3 => exact rfl); (case k5 => k_mem); (case k6 => k_is); (case k7 => k_is); (case k8 => k_is); (case k9 => k_is); (case k10 => k_is); (case k11 => k_is); (case k12 => k_get); (case k13 => k_handed); k_whole)))
local macro_rules | `(tactic| walk_at "getMethod ref") => `(tactic| (k_here; k_dflt (refine' Mine.methodE_K ?k1 ?k2 ?k3 ?k4 ?r1 ?r2 ?k5 ?k6 ?k7 ?k8 ?k9 ?k10 ?_; (case k1 => k_asm); (case k2 => k_asm); (case k3 => k_asm); (case k4 => k_mem); (case r1 => exact rfl); (case r2 => exact rfl); (case k5 => k_mem); (case k6 => k_is); (case k7 => k_is); (case k8 => k_is); (case k9 => k_is); (case k10 => k_get); k_whole)))
local macro_rules | `(tactic| walk_at "own raise") => `(tactic| (k_dflt (refine' Mine.raise_own ?F ?hh ?_; (case F => k_asm); (case hh => first | rfl | assumption); k_whole)))
local macro_rules | `(tactic| walk_at "exec Raise some none") => `(tactic| (k_here; (with_reducible show wpAny _ _ (exec (Stmt.Raise (some (Expr.Call (Expr.Name ("POSKeyError" : Str) _) _ _ _)) none _) _) _ _ _); walk_at "own raise"))
local macro_rules | `(tactic| walk_at "exec Raise some none") => `(tactic| (k_here; (with_reducible show wpAny _ _ (exec (Stmt.Raise (some (Expr.Call (Expr.Name ("ConflictError" : Str) _) _ _ _)) none _) _) _ _ _); walk_at "own raise"))
local macro_rules | `(tactic| walk_at "exec Raise some none") => `(tactic| (k_here; (with_reducible show wpAny _ _ (exec (Stmt.Raise (some (Expr.Call (Expr.Name ("ReadConflictError" : Str) _) _ _ _)) none _) _) _ _ _); walk_at "own raise"))
local macro_rules | `(tactic| walk_at "call ref") => `(tactic| (k_here; (with_reducible show wpAny _ _ (call (Value.ref 44) [_, _]) _ _ _); k_dflt (refine' Mine.call_exc2 ?k1 ?k2 ?k3 ?k4 ?k5 ?k6 ?_; (case k1 => k_asm); (case k2 => k_asm); (case k3 => k_asm); (case k4 => kernel_rfl); (case k5 => k_is); (case k6 => k_is); k_whole; intro x' d' h' F' N' l1; (try k_lt l1); (try k_sweep))))
local macro_rules | `(tactic| walk_at "RaiseK") => `(tactic| (k_dflt (refine' Mine.raiseK_led ?k1 ?k2 ?k3 ?k4 ?r1 ?r2 ?r3 ?k5 ?k6 ?_; (case k1 => k_asm); (case k2 => k_asm); (case k3 => k_asm); (case k4 => k_mem); (case r1 => exact rfl); (case r2 => exact rfl); (case r3 => exact rfl); (case k5 => k_is); (case k6 => k_is); k_whole)))
local macro_rules | `(tactic| walk_at "call builtin:list.append") => `(tactic| (k_here; (with_reducible show wpAny _ _ (call (Value.builtin _) [Value.ref _, _]) _ _ _); k_dflt (refine' append_K ?k1 ?k2 ?k3 ?_ ?z; (case k1 => k_asm); (case k2 => k_asm); (case k3 => k_upd); (case z => first | exact le_line (by assumption) | size_fits); k_whole); intro h' F' N'; (try k_sweep)))
local macro_rules | `(tactic| walk_at "split lts") => `(tactic| repeat ((with_reducible rename _ ∧ _ => lz); (obtain ⟨_, _⟩ := lz)))
local macro_rules | `(tactic| walk_at "all ne") => `(tactic| repeat' (first | with_reducible assumption | exact ne_nil | (refine Mine.allNe (by with_reducible assumption) ?_; first | exact Nat.le_refl _ | omega) | (refine ne_cons (by first | with_reducible assumption | exact Ne.symm (by with_reducible assumption) | omega) ?_)))
local macro_rules | `(tactic| walk_at "end raise") => `(tactic| (k_dflt (refine' leave_led ?K ?F ?N ?hf ?hk ?hm ?hd ?h1 ?hs ?hne ?_; (case K => k_asm); (case F => k_asm); (case N => k_asm); (case hf => exact rfl); (case hk => first | decide | (intro q; cases q)); (case hm => k_mem); (case hd => exact rfl); (case h1 => exact rfl); (case hs => exact fun q hq => List.Mem.tail _ hq); (case hne => (walk_at "split lts"; walk_at "all ne"; done)); k_whole); intro hz Rz Uz))
local macro_rules | `(tactic| walk_at "callWith ref") => `(tactic| (k_here; (with_reducible show wpAny _ _ (callWith _ (Value.ref _) _ (backTo _ (starEach [] _)) (backToKw _ (keywordEach (_ :: _) _))) _ _ _); k_dflt (refine' callWith_KW0 ?k1 ?k2 ?k3 ?_; (case k1 => k_asm); (case k2 => k_is); (case k3 => exact rfl); k_whole)))
local macro_rules | `(tactic| walk_at "leaving ref") => `(tactic| (k_here; (with_reducible rename Heap.NewExc _ _ _ _ => neX); k_dflt (refine' Mine.leave_newexc ?K ?F ?N neX ?hf ?hk ?_; (case K => k_asm); (case F => k_asm); (case N => k_asm); (case hf => exact rfl); (case hk => first | decide | (intro q; cases q)); k_whole); intro hz dz Rz Uz))
local macro_rules | `(tactic| walk_at "leaving ref") => `(tactic| (k_here; (with_reducible rename Heap.MadeExcOf _ _ _ _ _ => neX); k_dflt (refine' Mine.leave_madeof ?K ?F ?N neX ?hf ?hk ?_; (case K => k_asm); (case F => k_asm); (case N => k_asm); (case hf => exact rfl); (case hk => first | decide | (intro q; cases q)); k_whole); intro hz dz Rz Uz))
local macro_rules | `(tactic| walk_at "leaving ref") => `(tactic| (k_here; (with_reducible rename Mine.RD _ _ _ _ _ _ _ _ => rdX); k_dflt (refine' Mine.leave_nextD ?K ?F ?hf rdX ?U ?_; (case K => k_asm); (case F => k_asm); (case hf => exact rfl); (case U => k_asm); k_whole); intro hz Rz Uz))
local macro_rules | `(tactic| walk_at "ENTER") => `(tactic| ((with_reducible show codeAny _ _ (.call (.ref 116) _) _ _); k_dflt (refine' Mine.enter_more ?k1 ?k2 ?k3 ?k4 ?k5 ?kA ?kF ?kK ?k6 ?k7 ?k8 ?kN ?kP ?kT ?kB ?_ ?c2 ?c3 ?c4 ?c5; (case kA => exact rfl); (case kF => exact rfl); (case kK => first | exact rfl | assumption); (case k1 => k_asm); (case k2 => k_asm); (case k3 => k_asm); (case k4 => k_asm); (case k5 => k_asm); (case k6 => k_is); (case k7 => k_is); (case k8 => ktr_room); (case kP => exact rfl); (case kT => exact fun _ => rfl); (case kN => exact rfl); (case kB => exact fun _ => locs rfl); (case c5 => decide); (case c2 => exact rfl); (case c3 => exact rfl); (case c4 => exact rfl); k_whole; intro D' o' g' L' h' tk' l1 lo' hs' FG' F' N' B' X' T'; (try k_lt l1); (try dsimp only); (try k_lift B'); (try k_fold))))
local macro_rules | `(tactic| walk_at "eval Call Attribute") => `(tactic| (k_here; (with_reducible show wpAny _ _ (eval (Expr.Call (Expr.Attribute (Expr.Name ("ConflictError" : Str) _) _ _) _ (_ :: _) _) _) _ _ _); k_dflt (refine' Mine.methodCall_more ?_ ?he; (case he => with_unfolding_all rfl); k_whole)))
local macro_rules | `(tactic| walk_at "call ref") => `(tactic| (k_here; (with_reducible show wpAny _ _ (call (Value.ref 61) _ _) _ _ _); k_dflt (refine wpAny_call ?_; walk_at "ENTER")))
local macro_rules | `(tactic| walk_at "callWith ref") => `(tactic| (k_here; (with_reducible show wpAny _ _ (callWith _ (Value.ref 61) _ _ _) _ _ _); k_dflt (refine' Mine.callWith_names ?k1 ?k2 ?k3 ?k4 ?kf ?m0 ?m1 ?m2 ?m3 ?hd ?lo ?_ ?kk ?a0 ?a1 ?a2 ?a3 ?b0 ?b1 ?b2 ?b3 ?c1 ?c2 ?c3; (case k1 => k_asm); (case k2 => k_asm); (case k3 => k_asm); (case k4 => k_asm); (case kf => k_is); (case m0 => rfl); (case m1 => rfl); (case m2 => rfl); (case m3 => rfl); (case hd => assumption); (case lo => assumption); (case kk => exact rfl); (case a0 => exact rfl); (case a1 => exact rfl); (case a2 => exact rfl); (case a3 => exact rfl); (case b0 => decide); (case b1 => decide); (case b2 => decide); (case b3 => decide); (case c1 => decide); (case c2 => decide); (case c3 => decide); k_whole; intro h' tk' F' N')))
local macro_rules | `(tactic| walk_at "k known") => `(tactic| (w_top off; have Z : Known hd.heap_39 PySem.Challenge.rw_bt5023_01 := (by (suffices Known hd.heap_39 PySem.Challenge.rw_bt5023_01 by assumption); k_fill; trivial); clear Z))
-- text F2
def FailCls (c : Value) : Prop := c = .type "ValueError" ∨ c = .type "KeyError" ∨ c = .ref 99 ∨ c = .ref 119 ∨ c = .ref 131
theorem fail_call {w : World} {dp un : Nat} {gd : Option (List Code)} {cn : Str} {cs : Scope} {a : Addr} {ccd : Value} {cl : List (Str × Addr)} {outer : List Env} {A₀ : Around} {base h₀ : Heap} {L : Addr} {m : Str → Option Value} {s : Shared} {Q E : Value → Shared → Prop}
    {loose : List Str} {mean : ExcName → Option Value} {mg mb : Str → Option Value} {news : List (Addr × Obj)}
    (B : Below A₀ base outer h₀) (F : Fr h₀ L s.heap m) (X : (hd.heap_39 w.params).In h₀) (N : News h₀ L s.heap news) (T : Top topProg loose mean mg mb h₀) (CH : CodeHd base 305 301) (hk : cs.kind = .function) (hdp : dp + 6 < recursionLimit) (hun : un + 40 < cLine)
    {kind : Int} {tk : Tok}
    (hret : ∀ e G cls dd h' tk', FailCls cls → Fr h₀ L G m → RD base G (envX cn cs L a ccd cl :: outer) e cls dd news h' → G.UpToSlots h' → E (.ref e) { s with heap := h', toks := tk' }) :
    wpAny (model P0 w) (ktrTop dp un gd cn cs L a ccd cl outer) (call (.ref 292) [.int kind tk]) Q E s := by
  walk_at "k known"
  refine wpAny_call ?_
  walk_at "ENTER"
  repeat' (first | (k_unfold; (try dsimp only)) | walk1 | (dsimp only; walk1) | (leave1; walk_say "STEP leave1"; try dsimp only) | fail "no step")
  any_goals (refine' hret _ _ _ _ _ _ ?f ?k ?r ?u; (case r => with_reducible assumption); (case k => k_asm); (case u => k_asm); (case f => first | exact .inl rfl | exact .inr (.inl rfl) | exact .inr (.inr (.inl rfl)) | exact .inr (.inr (.inr (.inl rfl))) | exact .inr (.inr (.inr (.inr rfl)))))
  · (k_dflt (refine' leave_led (news' := news) ?K ?F ?N ?hf ?hk ?hm ?hd ?h1 ?hs ?hne ?_; (case K => k_asm); (case F => k_asm); (case N => k_asm); (case hf => exact rfl); (case hk => first | decide | (intro q; cases q)); (case hm => k_mem); (case hd => exact rfl); (case h1 => exact rfl); (case hs => first | exact fun q hq => List.Mem.tail _ hq | exact fun q hq => List.Mem.tail _ (List.Mem.tail _ hq) | exact fun q hq => List.Mem.tail _ (List.Mem.tail _ (List.Mem.tail _ hq)) | exact fun q hq => List.Mem.tail _ (List.Mem.tail _ (List.Mem.tail _ (List.Mem.tail _ hq)))); (case hne => (walk_at "split lts"; walk_at "all ne"; done)); k_whole); intro hz Rz Uz)
    refine' hret _ _ _ _ _ _ ?f ?k ?r ?u; (case r => with_reducible assumption); (case k => k_asm); (case u => k_asm); (case f => first | exact .inl rfl | exact .inr (.inl rfl) | exact .inr (.inr (.inl rfl)) | exact .inr (.inr (.inr (.inl rfl))) | exact .inr (.inr (.inr (.inr rfl))))
  · (k_dflt (refine' leave_led (news' := news) ?K ?F ?N ?hf ?hk ?hm ?hd ?h1 ?hs ?hne ?_; (case K => k_asm); (case F => k_asm); (case N => k_asm); (case hf => exact rfl); (case hk => first | decide | (intro q; cases q)); (case hm => k_mem); (case hd => exact rfl); (case h1 => exact rfl); (case hs => first | exact fun q hq => List.Mem.tail _ hq | exact fun q hq => List.Mem.tail _ (List.Mem.tail _ hq) | exact fun q hq => List.Mem.tail _ (List.Mem.tail _ (List.Mem.tail _ hq)) | exact fun q hq => List.Mem.tail _ (List.Mem.tail _ (List.Mem.tail _ (List.Mem.tail _ hq)))); (case hne => (walk_at "split lts"; walk_at "all ne"; done)); k_whole); intro hz Rz Uz)
    refine' hret _ _ _ _ _ _ ?f ?k ?r ?u; (case r => with_reducible assumption); (case k => k_asm); (case u => k_asm); (case f => first | exact .inl rfl | exact .inr (.inl rfl) | exact .inr (.inr (.inl rfl)) | exact .inr (.inr (.inr (.inl rfl))) | exact .inr (.inr (.inr (.inr rfl))))
def MergesOk (w : World) (mem : List (Addr × Obj)) (f lh : Addr) (v1 v2 v3 v4 : Value) : Prop :=
  ∀ (dp un : Nat) (gd : Option (List Code)) (cn : Str) (cs : Scope) (a : Addr) (ccd : Value) (cl : List (Str × Addr)) (outer : List Env) (A₀ : Around) (base h₀ : Heap) (L : Addr) (m : Str → Option Value) (s : Shared) (Q E : Value → Shared → Prop)
    (loose : List Str) (mean : ExcName → Option Value) (mg mb : Str → Option Value) (rest : List (Addr × Obj)),
    Below A₀ base outer h₀ → Fr h₀ L s.heap m → (hd.heap_39 w.params).In h₀ → News h₀ L s.heap ((lh, W.listOf #[] 0) :: rest) → Top topProg loose mean mg mb h₀ → CodeHd base 305 301 → cs.kind = .function → dp + 10 < recursionLimit → un + 80 < cLine →
    (∀ p ∈ rest, p.1 ≠ lh) → Sub mem rest →
    (∀ t l h' tk', Fr h₀ L h' m → News h₀ L h' ((l, W.listOf #[v1, v2, v3, v4] 0) :: (t, tupObj [v1, v2, v3]) :: (lh, W.listOf #[.ref t] 1) :: rest) → (@LT.lt Nat _ lh t ∧ AllLt t rest) → @LT.lt Nat _ t l → Q (.ref l) { s with heap := h', toks := tk' }) →
    wpAny (model P0 w) (ktrTop dp un gd cn cs L a ccd cl outer) (call (.ref f) [v1, v2, v3]) Q E s
def MergesBad (w : World) (mem : List (Addr × Obj)) (f lh : Addr) (v1 v2 v3 : Value) : Prop :=
  ∀ (dp un : Nat) (gd : Option (List Code)) (cn : Str) (cs : Scope) (a : Addr) (ccd : Value) (cl : List (Str × Addr)) (outer : List Env) (A₀ : Around) (base h₀ : Heap) (L : Addr) (m : Str → Option Value) (s : Shared) (Q E : Value → Shared → Prop)
    (loose : List Str) (mean : ExcName → Option Value) (mg mb : Str → Option Value) (rest : List (Addr × Obj)),
    Below A₀ base outer h₀ → Fr h₀ L s.heap m → (hd.heap_39 w.params).In h₀ → News h₀ L s.heap ((lh, W.listOf #[] 0) :: rest) → Top topProg loose mean mg mb h₀ → CodeHd base 305 301 → cs.kind = .function → dp + 10 < recursionLimit → un + 80 < cLine →
    (∀ p ∈ rest, p.1 ≠ lh) → Sub mem rest →
    (∀ e G t cls h' tk', FailCls cls → Fr h₀ L G m → RaisedSN base G (envX cn cs L a ccd cl :: outer) e cls ((t, tupObj [v1, v2, v3]) :: (lh, W.listOf #[.ref t] 1) :: rest) h' → G.UpToSlots h' → (@LT.lt Nat _ lh t ∧ AllLt t rest) → E (.ref e) { s with heap := h', toks := tk' }) →
    wpAny (model P0 w) (ktrTop dp un gd cn cs L a ccd cl outer) (call (.ref f) [v1, v2, v3]) Q E s
local macro_rules | `(tactic| walk_at "call ref") => `(tactic| (k_here; (with_reducible show wpAny _ _ (call (Value.ref 292) [Value.int _ _]) _ _ _); k_dflt (refine' Mine.fail_call ?k1 ?k2 ?k3 ?k4 ?k5 ?k6 ?kK ?kd ?ku ?_; (case k1 => k_asm); (case k2 => k_asm); (case k3 => k_asm); (case k4 => k_asm); (case k5 => k_asm); (case k6 => k_asm); (case kK => first | exact rfl | assumption); (case kd => ktr_room); (case ku => ktr_room)); intro e9 G9 cls9 dd9 h9 tk9 fc9 F9 R9 U9; (try dsimp only)))
section
variable {w : World} {rest0 : List (Addr × Obj)} {lh : Addr}
  {f1 c1 cf ch cn0 : Addr} {oc1 : Obj} {n1 q1 : Str} {ps1 : Arguments} {b1 : List Stmt} {sc1 : Scope} {pos1 : Pos} {doc1 pm1 ctv1 : Value} {vs1 : Array Value} {u1 : Tok}
  {fault number : Int} {tf tn t1 t2 t3 : Tok} {i1 i2 i3 : Int} {ocf och ocn : Obj}
theorem mergesOk_of (e1 : nth caseBody 9 = .FunctionDef n1 ps1 b1 [] none [] sc1 none n1 pos1)
  (m1 : (f1, fnMade n1 q1 ps1 b1 sc1 [("number", cn0), ("heard", ch), ("fault", cf)] doc1 pm1 c1 ctv1) ∈ rest0) (m2 : (c1, oc1) ∈ rest0) (m3 : oc1.data = .fields vs1) (m4 : vs1[1]? = some (.str q1 u1))
  (hcf : (cf, ocf) ∈ rest0) (hcf' : ocf.data = .cell (some (.int fault tf))) (hch : (ch, och) ∈ rest0) (hch' : och.data = .cell (some (.ref lh))) (hcn : (cn0, ocn) ∈ rest0) (hcn' : ocn.data = .cell (some (.int number tn)))
  (hv : ¬ fault > 3) : MergesOk w rest0 f1 lh (.int i1 t1) (.int i2 t2) (.int i3 t3) (.int number tn) := by
  intro dp un gd cn cs a ccd cl outer A₀ base h₀ L m s Q E loose mean mg mb rest B F X N T CH hk hdp hun hla hsub hret
  replace m1 := hsub _ m1
  replace m2 := hsub _ m2
  replace hcf := hsub _ hcf
  replace hch := hsub _ hch
  replace hcn := hsub _ hcn
  clear hsub
  walk_at "k known"
  cases e1
  repeat' (first | (k_unfold; (try dsimp only)) | walk1 | (dsimp only; walk1) | (leave1; walk_say "STEP leave1"; try dsimp only) | fail "no step")
  walk_at "split lts"
  exact hret _ _ _ _ (by k_asm) (by k_asm) ⟨by assumption, by assumption⟩ (by first | assumption | omega)
theorem mergesBad_of (e1 : nth caseBody 9 = .FunctionDef n1 ps1 b1 [] none [] sc1 none n1 pos1)
  (m1 : (f1, fnMade n1 q1 ps1 b1 sc1 [("number", cn0), ("heard", ch), ("fault", cf)] doc1 pm1 c1 ctv1) ∈ rest0) (m2 : (c1, oc1) ∈ rest0) (m3 : oc1.data = .fields vs1) (m4 : vs1[1]? = some (.str q1 u1))
  (hcf : (cf, ocf) ∈ rest0) (hcf' : ocf.data = .cell (some (.int fault tf))) (hch : (ch, och) ∈ rest0) (hch' : och.data = .cell (some (.ref lh))) (hcn : (cn0, ocn) ∈ rest0) (hcn' : ocn.data = .cell (some (.int number tn)))
  (hv : fault > 3) : MergesBad w rest0 f1 lh (.int i1 t1) (.int i2 t2) (.int i3 t3) := by
  intro dp un gd cn cs a ccd cl outer A₀ base h₀ L m s Q E loose mean mg mb rest B F X N T CH hk hdp hun hla hsub hret
  replace m1 := hsub _ m1
  replace m2 := hsub _ m2
  replace hcf := hsub _ hcf
  replace hch := hsub _ hch
  replace hcn := hsub _ hcn
  clear hsub
  walk_at "k known"
  cases e1
  repeat' (first | (k_unfold; (try dsimp only)) | walk1 | (dsimp only; walk1) | (leave1; walk_say "STEP leave1"; try dsimp only) | fail "no step")
  walk_at "split lts"
  exact hret _ _ _ _ _ _ (by assumption) (by k_asm) (RD.toSN (by assumption)) (by k_asm) ⟨by assumption, by assumption⟩
end
section
variable {w : World} {rest0 : List (Addr × Obj)} {la : Addr}
  {f1 c1 ca ct tb : Addr} {oc1 ob : Obj} {n1 q1 : Str} {ps1 : Arguments} {b1 : List Stmt} {sc1 : Scope} {pos1 : Pos} {doc1 pm1 ctv1 : Value} {vs1 : Array Value} {u1 : Tok}
  {bo bx by_ : Array UInt8} {tx to : Tok} {oca oct : Obj}
theorem misses_of {al : List (List UInt8 × Value)} (e1 : nth caseBody 8 = .FunctionDef n1 ps1 b1 [] none [] sc1 none n1 pos1)
  (m1 : (f1, fnMade n1 q1 ps1 b1 sc1 [("table", ct), ("asked", ca)] doc1 pm1 c1 ctv1) ∈ rest0) (m2 : (c1, oc1) ∈ rest0) (m3 : oc1.data = .fields vs1) (m4 : vs1[1]? = some (.str q1 u1))
  (hca : (ca, oca) ∈ rest0) (hca' : oca.data = .cell (some (.ref la))) (hct : (ct, oct) ∈ rest0) (hct' : oct.data = .cell (some (.ref tb))) (htb : (tb, ob) ∈ rest0) (htd : ob.IsDictOf (bytesKind P0 w) al) (lo : (tb == sysModules) = false)
  (hv : valueAt al bx.toList = none) : Misses w rest0 f1 la bo bx to tx := by
  intro dp un gd cn cs a ccd cl outer A₀ base h₀ L m s Q E loose mean mg mb rest va na B F X N T CH hk hdp hun hla hva hsub hret
  replace m1 := hsub _ m1
  replace m2 := hsub _ m2
  replace hca := hsub _ hca
  replace hct := hsub _ hct
  replace htb := hsub _ htb
  clear hsub
  walk_at "k known"
  cases e1
  repeat (first | (k_unfold; (try dsimp only)) | walk1 | (dsimp only; walk1) | (leave1; walk_say "STEP leave1"; try dsimp only) | fail "no step")
  walk_at "end raise"
  walk_at "split lts"
  exact hret _ _ _ _ _ (by k_asm) (RD.toSN (by k_asm)) (by k_asm) ⟨by assumption, by assumption⟩
theorem reads_of {al : List (List UInt8 × Value)} (e1 : nth caseBody 8 = .FunctionDef n1 ps1 b1 [] none [] sc1 none n1 pos1)
  (m1 : (f1, fnMade n1 q1 ps1 b1 sc1 [("table", ct), ("asked", ca)] doc1 pm1 c1 ctv1) ∈ rest0) (m2 : (c1, oc1) ∈ rest0) (m3 : oc1.data = .fields vs1) (m4 : vs1[1]? = some (.str q1 u1))
  (hca : (ca, oca) ∈ rest0) (hca' : oca.data = .cell (some (.ref la))) (hct : (ct, oct) ∈ rest0) (hct' : oct.data = .cell (some (.ref tb))) (htb : (tb, ob) ∈ rest0) (htd : ob.IsDictOf (bytesKind P0 w) al) (lo : (tb == sysModules) = false)
  {v1 : Value} (hv : valueAt al bx.toList = some v1) : Reads w rest0 f1 la bo bx to tx v1 := by
  intro dp un gd cn cs a ccd cl outer A₀ base h₀ L m s Q E loose mean mg mb rest va na B F X N T CH hk hdp hun hla hva hsub hret
  replace m1 := hsub _ m1
  replace m2 := hsub _ m2
  replace hca := hsub _ hca
  replace hct := hsub _ hct
  replace htb := hsub _ htb
  clear hsub
  walk_at "k known"
  cases e1
  repeat (first | (k_unfold; (try dsimp only)) | walk1 | (dsimp only; walk1) | (leave1; walk_say "STEP leave1"; try dsimp only) | fail "no step")
  walk_at "split lts"
  exact hret _ _ _ (by k_asm) (by k_asm) ⟨by assumption, by assumption⟩
end
end
-- text D3
def clsBody : Stmt → List Stmt
  | .ClassDef _ _ _ b _ _ _ _ _ _ _ => b
  | _ => []
def tryBody : Stmt → List Stmt
  | .Try b _ _ _ _ => b
  | _ => []
abbrev ttrDef : Stmt := nth (clsBody (nth PySem.Challenge.pw_bt5023_01.main.body 10)) 0
abbrev ttrBody : List Stmt := bodyOf ttrDef
abbrev ttrTry : List Stmt := tryBody (nth ttrBody 1)
abbrev ttrN : Str := Str.ofString "ConflictResolvingStorage.tryToResolveConflict"
theorem m_here {x : Str} {v : Value} {o : Option Value} {_ : Decidable (x = x)} : (if x = x then some v else o) = some v := if_pos rfl
theorem m_there {x z : Str} {v u : Value} {o : Option Value} {_ : Decidable (z = x)} (h : z ≠ x) (hm : o = some u) : (if z = x then some v else o) = some u := (if_neg h).trans hm
/-- m' is m but for the names xs -/
def Keeps (xs : List Str) (m m' : Str → Option Value) : Prop := ∀ y, y ∉ xs → m' y = m y
theorem Keeps.at {xs : List Str} {m m' : Str → Option Value} {y : Str} {v : Value} (K : Keeps xs m m') (hm : m y = some v) (h : y ∉ xs := by decide +kernel) : m' y = some v := (K y h).trans hm
theorem Keeps.refl {xs : List Str} {m : Str → Option Value} : Keeps xs m m := fun _ _ => rfl
theorem Keeps.set {xs : List Str} {m m' : Str → Option Value} {x : Str} {v : Value} (K : Keeps xs m m') (h : x ∈ xs := by decide +kernel) : Keeps xs m (fun y => if y = x then some v else m' y) := fun y hy => by
  have : y ≠ x := fun q => hy (q ▸ h)
  show (if y = x then some v else m' y) = m y
  rw [if_neg this]
  exact K y hy
/-- the ledger with the two lists ahead -/
structure Led2 (g : Heap) (L : Addr) (h : Heap) (la : Addr) (LA : Obj) (lh : Addr) (LH : Obj) (rest : List (Addr × Obj)) : Prop where
  N : News g L h ((la, LA) :: (lh, LH) :: rest)
  na : ∀ p ∈ rest, p.1 ≠ la
  nh : ∀ p ∈ rest, p.1 ≠ lh
  ne : @Ne Nat la lh
theorem Led2.of {g h : Heap} {L la lh : Addr} {LA LH : Obj} {l l1 rest : List (Addr × Obj)} (N : News g L h l) (f1 : Front (lh, LH) l l1) (f2 : Front (la, LA) l1 rest) (na : ∀ p ∈ rest, p.1 ≠ la) (nh : ∀ p ∈ rest, p.1 ≠ lh) (ne : @Ne Nat la lh) : Led2 g L h la LA lh LH rest :=
  ⟨newsTo N fun p hp => by
    rcases List.mem_cons.mp hp with rfl | hp
    · exact f1.mem _ (.tail _ (f2.mem _ (.head _)))
    · rcases List.mem_cons.mp hp with rfl | hp
      · exact f1.mem _ (.head _)
      · exact f1.mem _ (.tail _ (f2.mem _ (.tail _ hp))), na, nh, ne⟩
theorem Sub.refl {a : List (Addr × Obj)} : Sub a a := fun _ h => h
theorem Sub.trans {a b c : List (Addr × Obj)} (h : Sub a b) (k : Sub b c) : Sub a c := fun p hp => k p (h p hp)
-- text D4
section
variable {prog : Program} {w : World} {A : Around} {E : Value → Shared → Prop} {s : Shared} {K : Frag} {C x : Addr} {ox : Obj} {name : Str} {es : List DictEntry} {n : Nat} {h₀ : Heap} {L : Addr} {m : Str → Option Value} {expr : Bool} {Q : Value → Shared → Prop}
theorem findObj_missing {od : Obj} (hh : hasDictIn K C = true) (ha : findIn K (.ref C) name = some none) (hc : copiedNames.contains name = false) (hl : lookIn name od = some none) : findObj K C (some od) name = some .missing := by
  obtain ⟨cd, hc', hd⟩ := any_some hh
  unfold findObj
  have ho : PySem.W.ownOf cd (some od) name = some none := by unfold PySem.W.ownOf; rw [if_pos hd]; exact hl
  rw [hc', Option.bind_some, ha, Option.bind_some]
  simp only [Option.bind_some, ho, hc, Bool.false_and, Bool.false_eq_true, if_false]
theorem getMiss_K (F : Fr h₀ L s.heap m) (X₀ : K.In h₀) (I : InstAt s.heap x ox C (some (dictOf es n))) (hA : A.handled = none) (hg : plainGet K C name = true) (hh : hasDictIn K C = true) (ha : findIn K (.ref C) name = some none) (hc : copiedNames.contains name = false)
    (hl : getL name es = some none) (hs : shortName K C = true) (hsz : name.length ≤ 1000)
    (h : ∀ h' tk e, Heap.NewAttrErr s.heap h' e (.ref x) name → E (.ref e) { s with heap := h', toks := tk }) : wpAny (model prog w) A (getAttr (.ref x) name expr) Q E s :=
  getMiss (X₀.keeps F.keep) I hA (plainGet_of hg).1 (plainGet_of hg).2 (findObj_missing hh ha hc (by rw [lookIn_dict, hl])) hs (by rw [sizeLine_eq]; omega) h
end
section
variable {prog : Program} {w : World} {A : Around} {E : Value → Shared → Prop} {s : Shared}
theorem getItem_tup_out {t : Addr} {items : Array Value} {k : Int} {u : Tok} {Q : Value → Shared → Prop} (ht : IsTup s.heap t items)
    (hlo : -(2 ^ 63) ≤ k) (hhi : k < 2 ^ 63) (hj : seqIndex? k items.size = none) (hh : A.handled = none) (h : ∀ h' tk e, Heap.NewExc s.heap h' e "IndexError" → E (.ref e) { s with heap := h', toks := tk }) : wpAny (model prog w) A (getItem (.ref t) (.int k u)) Q E s := by
  unfold getItem
  try with_reducible refine wpAny_holding ?_
  first | refine wpAny_bind (wpAny_pure ?_) | skip
  refine wpAny_bind (wpAny_sequenceKey ht.typeIs (by decide) ?_)
  refine wpAny_bind (wpAny_callSpecial?_slot (name := Str.ofString "__getitem__") ht.typeIs slot_tuple_getitem
    (wpAny_call_entry slot_tuple_getitem ht.typeIs entry_tuple_getitem ?_ (args_tuple_getitem _ _)))
  show wpAny _ _ (Builtin.Tuple.tupleItemsOf (.ref t) >>= _) _ _ s
  refine wpAny_bind (tupleItemsOf_ ht ?_)
  refine wpAny_bind (wpAny_typeOf (typeIs_int s k u) ?_)
  rw [if_neg (by decide)]
  refine wpAny_bind (wpAny_specialOf (T := "int") (typeIs_int s k u) int_index ?_)
  rw [if_neg (by simp)]
  refine wpAny_bind (wpAny_of_eq (a := k) rfl ?_)
  rw [if_neg (by simp only [Bool.or_eq_true, decide_eq_true_eq]; omega)]
  simp only [hj, Option.bind_none]
  exact wpAny_bind (wpAny_rule (wpAny_raiseErrorWords plainExc_IndexError (by exact hh) h))
theorem item_tup_out {value slice : Expr} {t : Addr} {l : List Value} {k : Int} {u : Tok} {Q : Value → Shared → Prop} (ht : IsTup s.heap t l.toArray)
    (hlo : -(2 ^ 63) ≤ k) (hhi : k < 2 ^ 63) (hj : seqIndex? k l.length = none) (hh : A.handled = none) (h : ∀ h' tk e, Heap.NewExc s.heap h' e "IndexError" → E (.ref e) { s with heap := h', toks := tk })
    (hs : subscripted slice false (.ref t) (.int k u) = operate [.ref t, .int k u] (getItem (.ref t) (.int k u))) :
    wpAny (model prog w) A (subscriptTail value slice (.ref t) (.int k u)) Q E s :=
  tail_any ht.typeIs slot_tuple_getitem.lookup (getItem_tup_out ht hlo hhi (by simpa using hj) hh h) hs
end
theorem isTup_led {g h : Heap} {L t : Addr} {news : List (Addr × Obj)} {vs : List Value} (N : News g L h news) (hm : (t, tupObj vs) ∈ news) : IsTup h t vs.toArray := ⟨_, (N _ hm).1, rfl, _, rfl⟩
theorem front2 {x y : Addr × Obj} {l l1 rest : List (Addr × Obj)} (f1 : Front y l l1) (f2 : Front x l1 rest) : ∀ p ∈ x :: y :: rest, p ∈ l := fun p hp => by
  rcases List.mem_cons.mp hp with rfl | hp
  · exact f1.mem _ (.tail _ (f2.mem _ (.head _)))
  · rcases List.mem_cons.mp hp with rfl | hp
    · exact f1.mem _ (.head _)
    · exact f1.mem _ (.tail _ (f2.mem _ (.tail _ hp)))
theorem PX.flown2 {A : Around} {base g G h : Heap} {env : Env} {outer : List Env} {L e la lh : Addr} {LA LH : Obj} {m : Str → Option Value} {cls : Value} {l l1 rest : List (Addr × Obj)} {s : Shared} {tk : Tok} {J : Value → (Str → Option Value) → List (Addr × Obj) → Prop}
    (K : Below A base outer g) (D : KtsDicts (outer.filterMap (·.frame)) g) (F : Fr g L G m) (R : RaisedSN base G (env :: outer) e cls l h) (U : G.UpToSlots h) (f1 : Front (lh, LH) l l1) (f2 : Front (la, LA) l1 rest)
    (hj : J cls m ((la, LA) :: (lh, LH) :: rest)) : PX A base g env outer L s J (.ref e) { s with heap := h, toks := tk } :=
  ⟨e, g, G, m, cls, _, h, tk, rfl, rfl, KtsTurn.refl, K, D, F, (RM.ofSN R).sub (front2 f1 f2), U, hj⟩
-- text D5
/-! plain data that a ledger bears -/
inductive Dt where
  | bytes (b : Array UInt8)
  | int (i : Int)
  | tup (l : List Dt)
  | lst (l : List Dt)
mutual
inductive Has (news : List (Addr × Obj)) : Nat → Value → Dt → Prop
  | bytes {n : Nat} (b : Array UInt8) (t : Tok) : Has news n (.bytes b t) (.bytes b)
  | int {n : Nat} (i : Int) (t : Tok) : Has news n (.int i t) (.int i)
  | tup {n : Nat} {a : Addr} {vs : List Value} {ds : List Dt} : (a, tupObj vs) ∈ news → HasAll news n vs ds → Has news (n + 1) (.ref a) (.tup ds)
  | lst {n k : Nat} {a : Addr} {vs : Array Value} {ds : List Dt} : (a, W.listOf vs k) ∈ news → HasAll news n vs.toList ds → Has news (n + 1) (.ref a) (.lst ds)
inductive HasAll (news : List (Addr × Obj)) : Nat → List Value → List Dt → Prop
  | nil {n : Nat} : HasAll news n [] []
  | cons {n : Nat} {v : Value} {vs : List Value} {d : Dt} {ds : List Dt} : Has news n v d → HasAll news n vs ds → HasAll news n (v :: vs) (d :: ds)
end
mutual
theorem Has.mono {a b : List (Addr × Obj)} (h : Sub a b) : ∀ {n : Nat} {v : Value} {d : Dt}, Has a n v d → Has b n v d
  | _, _, _, .bytes b t => .bytes b t
  | _, _, _, .int i t => .int i t
  | _, _, _, .tup hm x => .tup (h _ hm) (HasAll.mono h x)
  | _, _, _, .lst hm x => .lst (h _ hm) (HasAll.mono h x)
theorem HasAll.mono {a b : List (Addr × Obj)} (h : Sub a b) : ∀ {n : Nat} {vs : List Value} {ds : List Dt}, HasAll a n vs ds → HasAll b n vs ds
  | _, _, _, .nil => .nil
  | _, _, _, .cons x y => .cons (Has.mono h x) (HasAll.mono h y)
end
mutual
theorem same_of {g h : Heap} {L : Addr} {news : List (Addr × Obj)} (N : News g L h news) : ∀ {n : Nat} {v u : Value} {d : Dt}, Has news n v d → Has news n u d → Same h n v u
  | _, _, _, _, .bytes b t, .bytes _ t' => .bytes b t t'
  | _, _, _, _, .int i t, .int _ t' => .int i t t'
  | _, _, _, _, .tup hm x, .tup hm' x' => .tuple (led_tuple N hm rfl rfl) (led_tuple N hm' rfl rfl) (sameAll_of N x x')
  | _, _, _, _, .lst hm x, .lst hm' x' => .list (led_list N hm rfl rfl) (led_list N hm' rfl rfl) (sameAll_of N x x')
theorem sameAll_of {g h : Heap} {L : Addr} {news : List (Addr × Obj)} (N : News g L h news) : ∀ {n : Nat} {vs us : List Value} {ds : List Dt}, HasAll news n vs ds → HasAll news n us ds → SameAll h n vs us
  | _, _, _, _, .nil, .nil => .nil
  | _, _, _, _, .cons x y, .cons x' y' => .cons (same_of N x x') (sameAll_of N y y')
end
theorem HasAll.push {news : List (Addr × Obj)} {n : Nat} {vs : Array Value} {ds : List Dt} {v : Value} {d : Dt} (h : HasAll news n vs.toList ds) (k : Has news n v d) : HasAll news n (vs.push v).toList (ds ++ [d]) := by
  rw [Array.toList_push]
  generalize vs.toList = l at h
  induction l generalizing ds with
  | nil => cases h; exact .cons k .nil
  | cons x xs ih => cases h with | cons a b => exact .cons a (ih b)
-- text D6
abbrev caseDef : Stmt := nth PySem.Challenge.pw_bt5023_01.main.body 18
abbrev caseN : Str := Str.ofString "_law_case"
abbrev cAt (i : Nat) : Stmt := nth caseBody i
theorem cells_five {cm : Str → Option Value} {n1 n2 n3 n4 n5 : Str} {c1 c2 c3 c4 c5 : Addr} {cells : List (Addr × Obj)} (x : CellsAre cm [(n1, c1), (n2, c2), (n3, c3), (n4, c4), (n5, c5)] cells) :
    ∃ o1 o2 o3 o4 o5, cells = [(c1, o1), (c2, o2), (c3, o3), (c4, o4), (c5, o5)] ∧ o1.data = .cell (cm n1) ∧ o2.data = .cell (cm n2) ∧ o3.data = .cell (cm n3) ∧ o4.data = .cell (cm n4) ∧ o5.data = .cell (cm n5) := by
  cases x with | cons h1 x => cases x with | cons h2 x => cases x with | cons h3 x => cases x with | cons h4 x => cases x with | cons h5 x => cases x; exact ⟨_, _, _, _, _, rfl, h1, h2, h3, h4, h5⟩
/-- the ledger of the case, its five turning parts ahead -/
structure Led5 (g : Heap) (L : Addr) (h : Heap) (tb : Addr) (TB : Obj) (la : Addr) (LA : Obj) (lh : Addr) (LH : Obj) (dk : Addr) (DK : Obj) (ps : Array Value) (rest : List (Addr × Obj)) : Prop where
  N : News g L h ((tb, TB) :: (la, LA) :: (lh, LH) :: (dk, DK) :: (294, tabObj ps) :: rest)
  o0 : @LT.lt Nat _ 294 L
  o1 : @LT.lt Nat _ L dk
  o2 : @LT.lt Nat _ dk lh
  o3 : @LT.lt Nat _ lh la
  o4 : @LT.lt Nat _ la tb
  n1 : ∀ p ∈ rest, p.1 ≠ tb
  n2 : ∀ p ∈ rest, p.1 ≠ la
  n3 : ∀ p ∈ rest, p.1 ≠ lh
  n4 : ∀ p ∈ rest, p.1 ≠ dk
  n5 : ∀ p ∈ rest, p.1 ≠ 294
theorem Led5.of {g h : Heap} {L tb la lh dk : Addr} {TB LA LH DK : Obj} {ps : Array Value} {l l1 l2 l3 l4 rest : List (Addr × Obj)} (N : News g L h l) (f1 : Front (tb, TB) l l1) (f2 : Front (la, LA) l1 l2) (f3 : Front (lh, LH) l2 l3) (f4 : Front (dk, DK) l3 l4) (f5 : Front (294, tabObj ps) l4 rest)
    (o0 : @LT.lt Nat _ 294 L) (o1 : @LT.lt Nat _ L dk) (o2 : @LT.lt Nat _ dk lh) (o3 : @LT.lt Nat _ lh la) (o4 : @LT.lt Nat _ la tb)
    (n1 : ∀ p ∈ rest, p.1 ≠ tb) (n2 : ∀ p ∈ rest, p.1 ≠ la) (n3 : ∀ p ∈ rest, p.1 ≠ lh) (n4 : ∀ p ∈ rest, p.1 ≠ dk) (n5 : ∀ p ∈ rest, p.1 ≠ 294) : Led5 g L h tb TB la LA lh LH dk DK ps rest := by
  refine ⟨newsTo N fun p hp => ?_, o0, o1, o2, o3, o4, n1, n2, n3, n4, n5⟩
  rcases List.mem_cons.mp hp with rfl | hp
  · exact f1.mem _ (.head _)
  refine f1.mem _ (.tail _ ?_)
  rcases List.mem_cons.mp hp with rfl | hp
  · exact f2.mem _ (.head _)
  refine f2.mem _ (.tail _ ?_)
  rcases List.mem_cons.mp hp with rfl | hp
  · exact f3.mem _ (.head _)
  refine f3.mem _ (.tail _ ?_)
  rcases List.mem_cons.mp hp with rfl | hp
  · exact f4.mem _ (.head _)
  refine f4.mem _ (.tail _ ?_)
  rcases List.mem_cons.mp hp with rfl | hp
  · exact f5.mem _ (.head _)
  · exact f5.mem _ (.tail _ hp)
theorem newsOfLt {L : Nat} {news : List (Addr × Obj)} {x : Nat} (h : ∀ p ∈ news, p.1 < L) (hx : @LE.le Nat _ L x) : ∀ p ∈ news, p.1 ≠ x := fun p hp => Nat.ne_of_lt (Nat.lt_of_lt_of_le (h p hp) hx)
abbrev es3 (P : Params) (a1 a2 a3 : Tok) (b1 b2 b3 : Value) : List DictEntry := [⟨PyData.keyHash P (Str.ofString "user"), .str (Str.ofString "user") a1, b1⟩, ⟨PyData.keyHash P (Str.ofString "description"), .str (Str.ofString "description") a2, b2⟩, ⟨PyData.keyHash P (Str.ofString "extension"), .str (Str.ofString "extension") a3, b3⟩]
abbrev qRead : Str := caseN ++ ".<locals>." ++ "reading"
abbrev qMerge : Str := caseN ++ ".<locals>." ++ "merging"
/-- the table of the case's code: empty ahead of its first run, then both defs -/
def TabSt (ps : Array Value) (rest : List (Addr × Obj)) : Prop :=
  ps = #[] ∨ ∃ c1 oc1 vs1 u1 c2 oc2 vs2 u2, ps = #[] ++ #[rawInt 151, rawInt 4, .ref c1] ++ #[rawInt 157, rawInt 4, .ref c2] ∧ (c1, oc1) ∈ rest ∧ oc1.data = .fields vs1 ∧ vs1[1]? = some (.str qRead u1) ∧ (c2, oc2) ∈ rest ∧ oc2.data = .fields vs2 ∧ vs2[1]? = some (.str qMerge u2)
theorem TabSt.mono {ps : Array Value} {a b : List (Addr × Obj)} (h : Sub a b) (x : TabSt ps a) : TabSt ps b := by
  rcases x with x | ⟨c1, oc1, vs1, u1, c2, oc2, vs2, u2, e, x1, x2, x3, x4, x5, x6⟩
  · exact .inl x
  · exact .inr ⟨c1, oc1, vs1, u1, c2, oc2, vs2, u2, e, h _ x1, x2, x3, h _ x4, x5, x6⟩
section
local macro_rules | `(tactic| walk_at "FnAt") => `(tactic| (k_dflt (exact Mine.fnAt_of (by k_asm) (by k_mem) (by with_reducible assumption))))
local macro_rules | `(tactic| walk_at "callWith ref") => `(tactic| (k_here; k_dflt (first
  | (refine' callWith_F ?k1 ?_; (case k1 => exact Mine.fnAt_of (by k_asm) (by k_mem) (by with_reducible assumption)); k_whole)
  | (refine' callWith_F0 ?k1 ?_; (case k1 => exact Mine.fnAt_of (by k_asm) (by k_mem) (by with_reducible assumption)); k_whole; try dsimp only [List.nil_append, List.cons_append]))))
local macro_rules | `(tactic| walk_at "getMethod str") => `(tactic| (k_here; with_reducible refine Mine.encode_method ?_))
local macro_rules | `(tactic| walk_at "call builtin:str.encode") => `(tactic| (k_here; (with_reducible show wpAny _ _ (call (Value.builtin "str.encode") [Value.str _ _, Value.str _ _]) _ _ _); with_unfolding_all refine Mine.encode_call ?_; intro _ _))
local macro_rules | `(tactic| walk_at "same") => `(tactic| repeat' (first
  | exact Mine.Same.bytes _ _ _
  | exact Mine.Same.int _ _ _
  | exact Mine.SameAll.nil
  | (refine Mine.SameAll.cons ?_ ?_)
  | (refine Mine.Same.tuple (Mine.led_tuple (by k_asm) (by k_mem) rfl rfl) (Mine.led_tuple (by k_asm) (by k_mem) rfl rfl) ?_)
  | (refine Mine.Same.list (Mine.led_list (by k_asm) (by k_mem) rfl rfl) (Mine.led_list (by k_asm) (by k_mem) rfl rfl) ?_)))
local macro_rules | `(tactic| walk_at "compareOp Eq ref ref") => `(tactic| (k_here; (with_reducible show wpAny _ _ (compareOp CmpOp.Eq (Value.ref _) (Value.ref _)) _ _ _); k_dflt (refine' Mine.same_eq 3 ?h ?u ?_; (case h => (walk_at "same"; done)); (case u => ke_room))))
local macro_rules | `(tactic| walk_at "compareOp NotEq ref ref") => `(tactic| (k_here; (with_reducible show wpAny _ _ (compareOp CmpOp.NotEq (Value.ref _) (Value.ref _)) _ _ _); k_dflt (refine' Mine.same_ne 3 ?h ?u ?_; (case h => (walk_at "same"; done)); (case u => ke_room))))
local macro_rules | `(tactic| walk_at "call builtin:int.to_bytes") => `(tactic| (k_here; (with_reducible show wpAny _ _ (call (Value.builtin "int.to_bytes") [Value.int _ _, Value.int _ _, Value.str _ _]) _ _ _); (with_unfolding_all refine KTBy.to_big (k := 8) (B := 18446744073709551616) (by decide) (by decide) (by kt_fact) (by kt_fact) ?_); (intro b' _ _ hb' _)))
local macro_rules | `(tactic| walk_at "eval Dict cons") => `(tactic| (k_here; k_dflt (refine' kdn_eval (knd := bytesKind _ _) ?F ?N ?b ?a ?l ?e ?n ?_; (case F => k_asm); (case N => k_asm); (case b => exact Top.nolimit (by k_asm)); (case a => rfl); (case l => rfl); (case e => exact List.cons_ne_nil _ _); (case n => exact Nat.le_of_ble_eq_true rfl)); intro d' h' o' F' N' l1 lo' hd'; (try k_lt l1)))
local macro_rules | `(tactic| walk_at "bk_ne") => `(tactic| first | with_reducible assumption | exact Ne.symm (by with_reducible assumption))
local macro_rules | `(tactic| walk_at "bk_val") => `(tactic| first | exact Mine.va_head | exact Mine.va_nil | exact Mine.va_tail (by walk_at "bk_ne") (by walk_at "bk_val"))
local macro_rules | `(tactic| walk_at "KdnMade") => `(tactic| (k_here; k_dflt (refine' Mine.bk_made ?F ?N ?U ?d ?n ?_; (case F => k_asm); (case N => k_asm); (case U => k_updF); (case d => k_asm); (case n => walk_at "bk_ne")); intro h' o' F' N' hd'; (try dsimp only at N')))
local macro_rules | `(tactic| walk_at "call builtin:dict.pop") => `(tactic| (k_here; (with_reducible show wpAny _ _ (call (Value.builtin "dict.pop") [Value.ref _, Value.bytes _ _]) _ _ _); k_dflt (refine' Mine.bk_pop ?F ?N ?U ?d ?v ?z ?w ?_; (case F => k_asm); (case N => k_asm); (case U => k_updF); (case d => k_asm); (case v => first | (walk_at "bk_val"; done) | assumption); (case z => decide); (case w => first | exact Mine.bk_without_head (by walk_at "bk_ne") | exact Mine.bk_without_tail (by walk_at "bk_ne"))); intro h' o' F' N' hd'; (try dsimp only at N')))
local macro_rules | `(tactic| walk_at "compareOp In bytes ref") => `(tactic| (k_here; k_dflt (first
  | (refine' Mine.bk_in (x := true) ?N ?p ?d ?lo ?v ?_; (case N => k_asm); (case p => k_mem); (case d => k_asm); (case lo => k_asm); (case v => (rw [show valueAt _ _ = some _ from by first | (walk_at "bk_val"; done) | assumption]; rfl)))
  | (refine' Mine.bk_in (x := false) ?N ?p ?d ?lo ?v ?_; (case N => k_asm); (case p => k_mem); (case d => k_asm); (case lo => k_asm); (case v => (rw [show valueAt _ _ = none from by first | (walk_at "bk_val"; done) | assumption]; rfl))))))
local macro_rules | `(tactic| walk_at "getItem ref bytes") => `(tactic| (k_here; k_dflt (refine' Mine.bk_item ?N ?p ?d ?v ?_; (case N => k_asm); (case p => k_mem); (case d => k_asm); (case v => first | (walk_at "bk_val"; done) | assumption))))
local macro_rules | `(tactic| walk_at "subscriptTail") => `(tactic| (k_here; (with_reducible show wpAny _ _ (subscriptTail _ _ (Value.ref _) (Value.bytes _ _)) _ _ _); k_dflt (refine' kdt_tail (knd := bytesKind _ _) ?N ?p ?d ?_; (case N => k_asm); (case p => k_mem); (case d => k_asm))))
local macro_rules | `(tactic| walk_at "callWith ref") => `(tactic| (k_here; k_dflt (first | (refine' callWith_K ?k1 ?k2 ?_; (case k1 => k_asm); (case k2 => k_is); k_whole) | (refine' callWith_K0 ?k1 ?k2 ?_; (case k1 => k_in); (case k2 => k_is); k_whole))))
local macro_rules | `(tactic| walk_at "call ref") => `(tactic| (k_here; (with_reducible show wpAny _ _ (call (Value.ref 285) [Value.int _ _]) _ _ _); k_dflt (refine' Mine.law_id_call ?k1 ?k2 ?k3 ?k4 ?k5 ?kK ?kd ?n0 ?n1 ?_; (case k1 => k_asm); (case k2 => k_asm); (case k3 => k_asm); (case k4 => k_asm); (case k5 => k_asm); (case kK => first | exact rfl | assumption); (case kd => ktr_room); (case n0 => with_reducible assumption); (case n1 => with_reducible assumption)); intro t9 h9 tk9 F9 N9; (try dsimp only); (try k_fold)))
local macro_rules | `(tactic| walk_at "call ref") => `(tactic| (k_here; kn_here; k_dflt (refine wpAny_call ?_; (refine' code_nest ?k1 ?k2 ?k3 ?k4 ?k5 ?kA ?kF ?kK ?k6 ?k7 ?k8 ?k9 ?kB ?_ ?c2 ?c3 ?c4 ?c5; (case kA => exact rfl); (case kF => exact rfl); (case kK => first | exact rfl | assumption); (case k1 => k_asm); (case k2 => k_asm); (case k3 => k_asm); (case k4 => k_asm); (case k5 => k_asm); (case k6 => k_mem); (case k7 => exact codeRec_news (by k_asm) (by k_mem) (by assumption) (by assumption)); (case k8 => ktr_room); (case k9 => exact BindsTo.of_eq rfl); (case c5 => decide); (case kB => exact locs rfl); (case c2 => exact rfl); (case c3 => exact rfl); (case c4 => exact rfl); k_whole; intro g' L' h' FG' F' N' B' X' T'; (try dsimp only); (try k_lift B'); (try k_fold)))))
local macro_rules | `(tactic| k_mem) => `(tactic| first | exact List.mem_cons_self | with_reducible assumption | (refine List.mem_cons_of_mem _ ?_; k_mem))
local macro_rules | `(tactic| k_all) => `(tactic| first | with_reducible assumption | (refine Mine.allNe (by with_reducible assumption) ?_; (first | exact Nat.le_refl _ | omega)) | (refine Mine.allNe' (by with_reducible assumption) ?_; (first | exact Nat.le_refl _ | omega)))
local macro_rules | `(tactic| walk_at "ENTER") => `(tactic| (refine' code_def ?k1 ?k2 ?k3 ?k4 ?k5 ?kA ?kF ?kK ?k6 ?k7 ?k8 ?k9 ?kB ?_ ?c2 ?c3 ?c4 ?c5; (case kA => exact rfl); (case kF => exact rfl); (case kK => first | exact rfl | assumption); (case k1 => k_asm); (case k2 => k_asm); (case k3 => k_asm); (case k4 => k_asm); (case k5 => k_asm); (case k6 => k_is); (case k7 => k_is); (case k8 => ktr_room); (case k9 => first | exact BindsTo.of_eq rfl | exact binds_K (by k_in) rfl (by k_is) rfl rfl rfl | fail "ENTER: no rule for these arguments"); (case c5 => decide); (case kB => exact locs rfl); (case c2 => exact rfl); (case c3 => exact rfl); (case c4 => exact rfl); k_whole; intro g' L' h' FG' F' N' B' X' T'; (try dsimp only); (try k_lift B'); (try k_fold)))
local macro_rules | `(tactic| walk_at "call ref") => `(tactic| (k_here; k_dflt (refine' Mine.call_exc ?k1 ?k2 ?k3 ?k4 ?kr ?k5 ?k6 ?_; (case k1 => k_asm); (case k2 => k_asm); (case k3 => k_asm); (case k4 => kernel_rfl); (case kr => exact Nat.le_of_ble_eq_true rfl); (case k5 => k_is); (case k6 => k_is); k_whole; intro x' d' h' F' N' l1 l2; (try k_lt l1); (try k_lt2 l2); (try k_sweep); walk_at "ENTER")))
local macro_rules | `(tactic| walk_at "setAttr ref") => `(tactic| (k_here; k_dflt (refine' Mine.setE_more ?k1 ?k2 ?k3 ?k4 ?r1 ?r2 ?r3 ?k5 ?k6 ?k7 ?k8 ?k9 ?k10 ?k11 ?k12 ?k13 ?_; (case k1 => k_asm); (case k2 => k_asm); (case k3 => k_asm); (case k4 => k_mem); (case r1 => exact rfl); (case r2 => exact rfl); (case r3 => exact rfl); (case k5 => k_mem); (case k6 => k_is); (case k7 => kernel_rfl); (case k8 => k_is); (case k9 => k_is); (case k10 => rfl); (case k11 => exact rfl); (case k12 => k_upd); (case k13 => exact Nat.le_of_ble_eq_true rfl); k_whole); intro h' F' N'; (try k_sweep)))
local macro_rules | `(tactic| walk_at "setAttr ref") => `(tactic| (k_here; k_dflt (refine' Mine.setE_new ?k1 ?k2 ?k3 ?r1 ?r2 ?r3 ?k5 ?k6 ?k7 ?k8 ?k9 ?_; (case k1 => k_asm); (case k2 => k_asm); (case k3 => k_asm); (case r1 => exact rfl); (case r2 => exact rfl); (case r3 => exact rfl); (case k5 => k_all); (case k6 => k_is); (case k7 => kernel_rfl); (case k8 => k_is); (case k9 => k_is)); intro d' h' F' N' l1 l2; (try dsimp only at N'); (try k_lt l1); (try k_lt2 l2); (try k_sweep)))
local macro_rules | `(tactic| walk_at "getAttr ref") => `(tactic| (k_here; k_dflt (refine' Mine.getE_K ?k1 ?k2 ?k3 ?k4 ?r1 ?r2 ?r3 ?k5 ?k6 ?k7 ?k8 ?k9 ?k10 ?k11 ?k12 ?k13 ?_; (case k1 => k_asm); (case k2 => k_asm); (case k3 => k_asm); (case k4 => k_mem); (case r1 => exact rfl); (case r2 => exact rfl); (case r3 => exact rfl); (case k5 => k_mem); (case k6 => k_is); (case k7 => k_is); (case k8 => k_is); (case k9 => k_is); (case k10 => k_is); (case k11 => k_is); (case k12 => k_get); (case k13 => k_handed); k_whole)))
local macro_rules | `(tactic| walk_at "getMethod ref") => `(tactic| (k_here; k_dflt (refine' Mine.methodE_K ?k1 ?k2 ?k3 ?k4 ?r1 ?r2 ?k5 ?k6 ?k7 ?k8 ?k9 ?k10 ?_; (case k1 => k_asm); (case k2 => k_asm); (case k3 => k_asm); (case k4 => k_mem); (case r1 => exact rfl); (case r2 => exact rfl); (case k5 => k_mem); (case k6 => k_is); (case k7 => k_is); (case k8 => k_is); (case k9 => k_is); (case k10 => k_get); k_whole)))
local macro_rules | `(tactic| walk_at "own raise") => `(tactic| (k_dflt (refine' Mine.raise_own ?F ?hh ?_; (case F => k_asm); (case hh => first | rfl | assumption); k_whole)))
local macro_rules | `(tactic| walk_at "exec Raise some none") => `(tactic| (k_here; (with_reducible show wpAny _ _ (exec (Stmt.Raise (some (Expr.Call (Expr.Name ("POSKeyError" : Str) _) _ _ _)) none _) _) _ _ _); walk_at "own raise"))
local macro_rules | `(tactic| walk_at "exec Raise some none") => `(tactic| (k_here; (with_reducible show wpAny _ _ (exec (Stmt.Raise (some (Expr.Call (Expr.Name ("ConflictError" : Str) _) _ _ _)) none _) _) _ _ _); walk_at "own raise"))
local macro_rules | `(tactic| walk_at "exec Raise some none") => `(tactic| (k_here; (with_reducible show wpAny _ _ (exec (Stmt.Raise (some (Expr.Call (Expr.Name ("ReadConflictError" : Str) _) _ _ _)) none _) _) _ _ _); walk_at "own raise"))
local macro_rules | `(tactic| walk_at "call ref") => `(tactic| (k_here; (with_reducible show wpAny _ _ (call (Value.ref 44) [_, _]) _ _ _); k_dflt (refine' Mine.call_exc2 ?k1 ?k2 ?k3 ?k4 ?k5 ?k6 ?_; (case k1 => k_asm); (case k2 => k_asm); (case k3 => k_asm); (case k4 => kernel_rfl); (case k5 => k_is); (case k6 => k_is); k_whole; intro x' d' h' F' N' l1; (try k_lt l1); (try k_sweep))))
local macro_rules | `(tactic| walk_at "RaiseK") => `(tactic| (k_dflt (refine' Mine.raiseK_led ?k1 ?k2 ?k3 ?k4 ?r1 ?r2 ?r3 ?k5 ?k6 ?_; (case k1 => k_asm); (case k2 => k_asm); (case k3 => k_asm); (case k4 => k_mem); (case r1 => exact rfl); (case r2 => exact rfl); (case r3 => exact rfl); (case k5 => k_is); (case k6 => k_is); k_whole)))
local macro_rules | `(tactic| walk_at "call builtin:list.append") => `(tactic| (k_here; (with_reducible show wpAny _ _ (call (Value.builtin _) [Value.ref _, _]) _ _ _); k_dflt (refine' append_K ?k1 ?k2 ?k3 ?_ ?z; (case k1 => k_asm); (case k2 => k_asm); (case k3 => k_upd); (case z => first | exact le_line (by assumption) | size_fits); k_whole); intro h' F' N'; (try k_sweep)))
local macro_rules | `(tactic| walk_at "split lts") => `(tactic| repeat ((with_reducible rename _ ∧ _ => lz); (obtain ⟨_, _⟩ := lz)))
local macro_rules | `(tactic| walk_at "all ne") => `(tactic| repeat' (first | with_reducible assumption | exact ne_nil | (refine Mine.allNe (by with_reducible assumption) ?_; first | exact Nat.le_refl _ | omega) | (refine ne_cons (by first | with_reducible assumption | exact Ne.symm (by with_reducible assumption) | omega) ?_)))
local macro_rules | `(tactic| walk_at "end raise") => `(tactic| (k_dflt (refine' leave_led ?K ?F ?N ?hf ?hk ?hm ?hd ?h1 ?hs ?hne ?_; (case K => k_asm); (case F => k_asm); (case N => k_asm); (case hf => exact rfl); (case hk => first | decide | (intro q; cases q)); (case hm => k_mem); (case hd => exact rfl); (case h1 => exact rfl); (case hs => exact fun q hq => List.Mem.tail _ hq); (case hne => (walk_at "split lts"; walk_at "all ne"; done)); k_whole); intro hz Rz Uz))
local macro_rules | `(tactic| walk_at "callWith ref") => `(tactic| (k_here; (with_reducible show wpAny _ _ (callWith _ (Value.ref _) _ (backTo _ (starEach [] _)) (backToKw _ (keywordEach (_ :: _) _))) _ _ _); k_dflt (refine' callWith_KW0 ?k1 ?k2 ?k3 ?_; (case k1 => k_asm); (case k2 => k_is); (case k3 => exact rfl); k_whole)))
local macro_rules | `(tactic| walk_at "leaving ref") => `(tactic| (k_here; (with_reducible rename Heap.NewExc _ _ _ _ => neX); k_dflt (refine' Mine.leave_newexc ?K ?F ?N neX ?hf ?hk ?_; (case K => k_asm); (case F => k_asm); (case N => k_asm); (case hf => exact rfl); (case hk => first | decide | (intro q; cases q)); k_whole); intro hz dz Rz Uz))
local macro_rules | `(tactic| walk_at "leaving ref") => `(tactic| (k_here; (with_reducible rename Heap.MadeExcOf _ _ _ _ _ => neX); k_dflt (refine' Mine.leave_madeof ?K ?F ?N neX ?hf ?hk ?_; (case K => k_asm); (case F => k_asm); (case N => k_asm); (case hf => exact rfl); (case hk => first | decide | (intro q; cases q)); k_whole); intro hz dz Rz Uz))
local macro_rules | `(tactic| walk_at "leaving ref") => `(tactic| (k_here; (with_reducible rename Mine.RD _ _ _ _ _ _ _ _ => rdX); k_dflt (refine' Mine.leave_nextD ?K ?F ?hf rdX ?U ?_; (case K => k_asm); (case F => k_asm); (case hf => exact rfl); (case U => k_asm); k_whole); intro hz Rz Uz))
local macro_rules | `(tactic| k_get) => `(tactic| with_reducible assumption)
local macro_rules | `(tactic| walk_at "front") => `(tactic| repeat (first | with_reducible exact Mine.Front.here | apply Mine.Front.there))
local macro_rules | `(tactic| walk_at "sub") => `(tactic| repeat (first | with_reducible assumption | refine Mine.Sub.tail ?_))
local macro_rules | `(tactic| walk_at "call ref") => `(tactic| (k_here; (with_reducible rename Mine.Reads _ _ _ _ _ _ _ _ _ => hz0); k_dflt (refine' (show Mine.Reads _ _ _ _ _ _ _ _ _ from by with_reducible assumption) _ _ _ _ _ _ _ _ _ _ _ _ _ _ _ _ _ _ _ _ _ _ _ _ ?k1 ?k2 ?k3 ?k4 ?k5 ?k6 ?kK ?kd ?ku ?kn ?kv ?ks ?_; (case k1 => k_asm); (case k2 => k_asm); (case k3 => k_asm); (case k4 => (refine' newsFront ?kn0 ?kf0; (case kn0 => k_asm); (case kf0 => (walk_at "front"; done)))); (case k5 => k_asm); (case k6 => k_asm); (case kK => first | exact rfl | assumption); (case kd => ktr_room); (case ku => ktr_room); (case kn => (walk_at "split lts"; walk_at "all ne"; done)); (case kv => first | with_reducible assumption | exact Nat.le_of_ble_eq_true rfl); (case ks => (walk_at "sub"; done))); intro t9 h9 tk9 F9 N9 l9; (try simp only [AllLt, and_true] at l9); (try dsimp only)))
local macro_rules | `(tactic| walk_at "call ref") => `(tactic| (k_here; (with_reducible rename Mine.Misses _ _ _ _ _ _ _ _ => hz0); k_dflt (refine' (show Mine.Misses _ _ _ _ _ _ _ _ from by with_reducible assumption) _ _ _ _ _ _ _ _ _ _ _ _ _ _ _ _ _ _ _ _ _ _ _ _ ?k1 ?k2 ?k3 ?k4 ?k5 ?k6 ?kK ?kd ?ku ?kn ?kv ?ks ?_; (case k1 => k_asm); (case k2 => k_asm); (case k3 => k_asm); (case k4 => (refine' newsFront ?kn0 ?kf0; (case kn0 => k_asm); (case kf0 => (walk_at "front"; done)))); (case k5 => k_asm); (case k6 => k_asm); (case kK => first | exact rfl | assumption); (case kd => ktr_room); (case ku => ktr_room); (case kn => (walk_at "split lts"; walk_at "all ne"; done)); (case kv => first | with_reducible assumption | exact Nat.le_of_ble_eq_true rfl); (case ks => (walk_at "sub"; done))); intro e9 G9 t9 h9 tk9 F9 R9 U9 l9; (try simp only [AllLt, and_true] at l9); (try dsimp only)))
local macro_rules | `(tactic| walk_at "call ref") => `(tactic| (k_here; (with_reducible rename Mine.MergesOk _ _ _ _ _ _ _ _ => hz0); k_dflt (refine' (show Mine.MergesOk _ _ _ _ _ _ _ _ from by with_reducible assumption) _ _ _ _ _ _ _ _ _ _ _ _ _ _ _ _ _ _ _ _ _ _ ?k1 ?k2 ?k3 ?k4 ?k5 ?k6 ?kK ?kd ?ku ?kn ?ks ?_; (case k1 => k_asm); (case k2 => k_asm); (case k3 => k_asm); (case k4 => (refine' newsFront ?kn0 ?kf0; (case kn0 => k_asm); (case kf0 => (walk_at "front"; done)))); (case k5 => k_asm); (case k6 => k_asm); (case kK => first | exact rfl | assumption); (case kd => ktr_room); (case ku => ktr_room); (case kn => (walk_at "split lts"; walk_at "all ne"; done)); (case ks => (walk_at "sub"; done))); intro t9 b9 h9 tk9 F9 N9 l9 l8; (try simp only [AllLt, and_true] at l9); (try dsimp only)))
local macro_rules | `(tactic| walk_at "call ref") => `(tactic| (k_here; (with_reducible rename Mine.MergesBad _ _ _ _ _ _ _ => hz0); k_dflt (refine' (show Mine.MergesBad _ _ _ _ _ _ _ from by with_reducible assumption) _ _ _ _ _ _ _ _ _ _ _ _ _ _ _ _ _ _ _ _ _ _ ?k1 ?k2 ?k3 ?k4 ?k5 ?k6 ?kK ?kd ?ku ?kn ?ks ?_; (case k1 => k_asm); (case k2 => k_asm); (case k3 => k_asm); (case k4 => (refine' newsFront ?kn0 ?kf0; (case kn0 => k_asm); (case kf0 => (walk_at "front"; done)))); (case k5 => k_asm); (case k6 => k_asm); (case kK => first | exact rfl | assumption); (case kd => ktr_room); (case ku => ktr_room); (case kn => (walk_at "split lts"; walk_at "all ne"; done)); (case ks => (walk_at "sub"; done))); intro e9 G9 t9 cls9 h9 tk9 fc9 F9 R9 U9 l9; (try simp only [AllLt, and_true] at l9); (try dsimp only)))
local macro_rules | `(tactic| walk_at "getMethod ref") => `(tactic| (k_here; (with_reducible show wpAny _ _ (getMethod (Value.ref _) (Str.ofString "loadSerial") _) _ _ _); k_dflt (refine' Mine.method_usual ?k1 ?k2 ?k3 ?k4 ?k5 ?k6 ?_; (case k1 => k_asm); (case k2 => k_asm); (case k3 => k_inst); (case k4 => k_is); (case k5 => k_is); (case k6 => k_is); k_whole)))
local macro_rules | `(tactic| walk_at "eval Name") => `(tactic| (k_here; (with_reducible show wpAny _ _ (eval (Expr.Name _ _) (envOf _ _ _ _ _)) _ _ _); k_dflt (refine' name_B ?k0 ?k1 ?k2 ?k3 ?k4 ?k5 ?_ ?k6 ?k7 ?k8; (case k0 => k_asm); (case k1 => k_asm); (case k2 => k_asm); (case k3 => k_is); (case k4 => boot_by_name); (case k5 => decide +kernel); (case k6 => exact rfl); (case k7 => exact rfl); (case k8 => exact rfl)); k_whole))
local macro_rules | `(tactic| walk_at "eval Name") => `(tactic| (k_here; (with_reducible show wpAny _ _ (eval (Expr.Name _ _) (envOf _ _ _ _ _)) _ _ _); k_dflt (refine' name_K ?k0 ?k1 ?k2 ?k3 ?_ ?k6 ?k7 ?k8; (case k0 => k_asm); (case k1 => k_asm); (case k2 => k_asm); (case k3 => k_is); (case k6 => exact rfl); (case k7 => exact rfl); (case k8 => exact rfl)); k_whole))
local macro_rules | `(tactic| walk_at "m_get") => `(tactic| (first | with_reducible assumption | with_reducible exact Mine.m_here | ((with_reducible refine' Mine.m_there ?hz ?hm); (case hz => decide +kernel); (case hm => walk_at "m_get"))))
local macro_rules | `(tactic| walk_at "eval Name") => `(tactic| (k_here; (with_reducible show wpAny _ _ (eval (Expr.Name _ _) (envOf _ _ _ _ _)) _ _ _); k_dflt (refine' ld ?k1 ?k2 ?_ ?k3 ?k4 ?k5; (case k1 => k_asm); (case k2 => (walk_at "m_get"; done)); (case k3 => exact rfl); (case k4 => exact rfl); (case k5 => exact rfl)); k_whole))
local macro_rules | `(tactic| walk_at "truthy bytes") => `(tactic| (k_here; (with_reducible show wpAny _ _ (truthy (Value.bytes #[] _)) _ _ _); refine Mine.truthy_empty ?_))
local macro_rules | `(tactic| walk_at "led2") => `(tactic| (refine' Led2.of ?nn ?n1 ?n2 ?na ?nh ?ne; (case nn => k_asm); (case n1 => (walk_at "front"; done)); (case n2 => (walk_at "front"; done)); (case na => (walk_at "all ne"; done)); (case nh => (walk_at "all ne"; done)); (case ne => assumption)))
local macro_rules | `(tactic| walk_at "keeps") => `(tactic| first | with_reducible exact Keeps.refl | (refine Keeps.set ?_ (by decide +kernel); walk_at "keeps"))
local macro_rules | `(tactic| walk_at "sub") => `(tactic| first | with_reducible exact Sub.refl | with_reducible assumption | (refine Mine.Sub.tail ?_; walk_at "sub"))
local macro_rules | `(tactic| walk_at "walk") => `(tactic| repeat' (first | (k_unfold; (try dsimp only)) | walk1 | (dsimp only; walk1) | (leave1; walk_say "STEP leave1"; try dsimp only) | fail "no step"))
local macro_rules | `(tactic| ktr_room) => `(tactic| ((simp only [depth_mark, depth_under_make, depth_under_kw, depth_in1, depth_deeper, depth_caller]); (try dsimp only [ktrTop]); omega))
local macro_rules | `(tactic| k_all) => `(tactic| (walk_at "split lts"; walk_at "all ne"; done))

local macro_rules | `(tactic| walk_at "k known") => `(tactic| (w_top off; have Z : Known hd.heap_39 PySem.Challenge.rw_bt5023_01 := (by (suffices Known hd.heap_39 PySem.Challenge.rw_bt5023_01 by assumption); k_fill; trivial); clear Z))
-- text V2
section
variable {w : World} {dp un : Nat} {gd : Option (List Code)} {cn : Str} {cs : Scope} {a : Addr} {ccd : Value} {cl : List (Str × Addr)} {outer : List Env} {base g : Heap} {L Lc : Addr} {m : Str → Option Value} {s : Shared} {E : Value → Shared → Prop}     {loose : List Str} {mean : ExcName → Option Value} {mg mb : Str → Option Value} {rest : List (Addr × Obj)} {la lh : Addr} {LA LH : Obj}     {nm bn : Str} {ps : Arguments} {bd : List Stmt} {sc : Scope} {pos : Pos} 
variable {Q : Flow → Shared → Prop} {ts : Expr} {bs os : List Stmt} {p2 : Pos} {k dk t0 t1 : Addr} {es : List DictEntry} {n1 : Nat} {i1 i2 : Int} {u1 u2 : Tok}
theorem blockIf_obj
    (ed : ttrDef = .FunctionDef nm ps bd [] none [] sc none bn pos) (et : nth ttrTry 2 = .If ts bs os p2)
    (B : Below (ktrTop dp un gd cn cs Lc a ccd cl outer) base (envX cn cs Lc a ccd cl :: outer) g) (F : Fr g L s.heap m) (X : (hd.heap_39 w.params).In g) (N : Led2 g L s.heap la LA lh LH rest) (T : Top topProg loose mean mg mb g)
    (hm : m "meta" = some (.ref k)) (hk : (k, instObj 274 dk) ∈ rest ∨ (k, instObj 245 dk) ∈ rest) (hdk : (dk, dictOf es n1) ∈ rest)
    (hret : ∀ m' rest' h' tk', Keeps ["klass", "newargs"] m m' → m' "klass" = some (.ref k) → Fr g L h' m' → Led2 g L h' la LA lh LH rest' → Sub rest rest' → Q .next { s with heap := h', toks := tk' }) :
    wpAny (model P0 w) ((ktrTop dp un gd cn cs Lc a ccd cl outer).deeper (envOf ttrN sc L 178 (.ref 177))) (exec (.If ts bs os p2) (envOf ttrN sc L 178 (.ref 177))) Q E s := by
  walk_at "k known"
  cases ed
  cases et
  obtain ⟨N, na, nh, hn⟩ := N
  rcases hk with hk | hk
  all_goals (walk_at "walk"; walk_at "split lts"; refine' hret _ _ _ _ ?kk ?km ?kf ?kl ?ks; (case kf => k_asm); (case kk => (walk_at "keeps"; done)); (case km => (walk_at "m_get"; done)); (case kl => walk_at "led2"); (case ks => (walk_at "sub"; done)))
theorem blockIf_tup
    (ed : ttrDef = .FunctionDef nm ps bd [] none [] sc none bn pos) (et : nth ttrTry 2 = .If ts bs os p2)
    (B : Below (ktrTop dp un gd cn cs Lc a ccd cl outer) base (envX cn cs Lc a ccd cl :: outer) g) (F : Fr g L s.heap m) (X : (hd.heap_39 w.params).In g) (N : Led2 g L s.heap la LA lh LH rest) (T : Top topProg loose mean mg mb g)
    (hm : m "meta" = some (.ref t0)) {v : Value} (ht0 : (t0, tupObj [.ref k, v]) ∈ rest) (hv : v = .none ∨ (v = .ref t1 ∧ (t1, tupObj []) ∈ rest) ∨ (v = .ref t1 ∧ (t1, tupObj [.int i1 u1, .int i2 u2]) ∈ rest))
    (hret : ∀ m' rest' h' tk', Keeps ["klass", "newargs"] m m' → m' "klass" = some (.ref k) → Fr g L h' m' → Led2 g L h' la LA lh LH rest' → Sub rest rest' → Q .next { s with heap := h', toks := tk' }) :
    wpAny (model P0 w) ((ktrTop dp un gd cn cs Lc a ccd cl outer).deeper (envOf ttrN sc L 178 (.ref 177))) (exec (.If ts bs os p2) (envOf ttrN sc L 178 (.ref 177))) Q E s := by
  walk_at "k known"
  cases ed
  cases et
  obtain ⟨N, na, nh, hn⟩ := N
  rcases hv with rfl | ⟨rfl, hv⟩ | ⟨rfl, hv⟩
  all_goals (walk_at "walk"; walk_at "split lts"; refine' hret _ _ _ _ ?kk ?km ?kf ?kl ?ks; (case kf => k_asm); (case kk => (walk_at "keeps"; done)); (case km => (walk_at "m_get"; done)); (case kl => walk_at "led2"); (case ks => (walk_at "sub"; done)))
end
-- text V3
section
variable {w : World} {dp un : Nat} {gd : Option (List Code)} {cn : Str} {cs : Scope} {a : Addr} {ccd : Value} {cl : List (Str × Addr)} {outer : List Env} {base g : Heap} {L Lc : Addr} {m : Str → Option Value} {s : Shared} {E : Value → Shared → Prop}     {loose : List Str} {mean : ExcName → Option Value} {mg mb : Str → Option Value} {rest : List (Addr × Obj)} {la lh : Addr} {LA LH : Obj}     {nm bn : Str} {ps : Arguments} {bd : List Stmt} {sc : Scope} {pos : Pos} 
variable {Q : Flow → Shared → Prop} {tb eb fb : List Stmt} {hs : List ExceptHandler} {p2 : Pos} {k dk f2 : Addr} {es : List DictEntry} {n1 : Nat}
theorem blockRes_own
    (ed : ttrDef = .FunctionDef nm ps bd [] none [] sc none bn pos) (et : nth ttrTry 4 = .Try tb hs eb fb p2)
    (B : Below (ktrTop dp un gd cn cs Lc a ccd cl outer) base (envX cn cs Lc a ccd cl :: outer) g) (F : Fr g L s.heap m) (X : (hd.heap_39 w.params).In g) (N : Led2 g L s.heap la LA lh LH rest) (T : Top topProg loose mean mg mb g)
    (hm : m "inst" = some (.ref k)) (hk : (k, instObj 274 dk) ∈ rest) (hdk : (dk, dictOf es n1) ∈ rest) (hes : getL "_p_resolveConflict" es = some (some (.ref f2)))
    (hret : ∀ m' rest' h' tk', Keeps ["resolve"] m m' → m' "resolve" = some (.ref f2) → Fr g L h' m' → Led2 g L h' la LA lh LH rest' → Sub rest rest' → Q .next { s with heap := h', toks := tk' }) :
    wpAny (model P0 w) ((ktrTop dp un gd cn cs Lc a ccd cl outer).deeper (envOf ttrN sc L 178 (.ref 177))) (exec (.Try tb hs eb fb p2) (envOf ttrN sc L 178 (.ref 177))) Q E s := by
  walk_at "k known"
  cases ed
  cases et
  obtain ⟨N, na, nh, hn⟩ := N
  walk_at "walk"
  walk_at "split lts"; refine' hret _ _ _ _ ?kk ?km ?kf ?kl ?ks; (case kf => k_asm); (case kk => (walk_at "keeps"; done)); (case km => (walk_at "m_get"; done)); (case kl => walk_at "led2"); (case ks => (walk_at "sub"; done))
theorem blockRes_len
    (ed : ttrDef = .FunctionDef nm ps bd [] none [] sc none bn pos) (et : nth ttrTry 4 = .Try tb hs eb fb p2)
    (B : Below (ktrTop dp un gd cn cs Lc a ccd cl outer) base (envX cn cs Lc a ccd cl :: outer) g) (F : Fr g L s.heap m) (X : (hd.heap_39 w.params).In g) (N : Led2 g L s.heap la LA lh LH rest) (T : Top topProg loose mean mg mb g)
    (hm : m "inst" = some (.ref k)) (hk : (k, instObj 245 dk) ∈ rest) (hdk : (dk, dictOf es n1) ∈ rest) (hes : getL "_p_resolveConflict" es = some none)
    (hret : ∀ q m' rest' h' tk', Keeps ["resolve"] m m' → m' "resolve" = some (.ref q) → Fr g L h' m' → Led2 g L h' la LA lh LH rest' → Sub rest rest' → (q, methodObj (.ref 228) (.ref k)) ∈ rest' → Q .next { s with heap := h', toks := tk' }) :
    wpAny (model P0 w) ((ktrTop dp un gd cn cs Lc a ccd cl outer).deeper (envOf ttrN sc L 178 (.ref 177))) (exec (.Try tb hs eb fb p2) (envOf ttrN sc L 178 (.ref 177))) Q E s := by
  walk_at "k known"
  cases ed
  cases et
  obtain ⟨N, na, nh, hn⟩ := N
  walk_at "walk"
  walk_at "split lts"; refine' hret _ _ _ _ _ ?kk ?km ?kf ?kl ?ks ?kq; (case kf => k_asm); (case kk => (walk_at "keeps"; done)); (case km => (walk_at "m_get"; done)); (case kl => walk_at "led2"); (case ks => (walk_at "sub"; done)); (case kq => k_mem)
end
-- text V4
section
variable {w : World} {dp un : Nat} {gd : Option (List Code)} {cn : Str} {cs : Scope} {a : Addr} {ccd : Value} {cl : List (Str × Addr)} {outer : List Env} {base g : Heap} {L Lc : Addr} {m : Str → Option Value} {s : Shared} {E : Value → Shared → Prop}     {loose : List Str} {mean : ExcName → Option Value} {mg mb : Str → Option Value} {rest : List (Addr × Obj)} {la lh : Addr} {LA LH : Obj}     {nm bn : Str} {ps : Arguments} {bd : List Stmt} {sc : Scope} {pos : Pos} 
variable {Q : Flow → Shared → Prop} {tb eb fb : List Stmt} {hs : List ExceptHandler} {p2 : Pos} {k dk f2 : Addr} {es : List DictEntry} {n1 : Nat}
local macro_rules | `(tactic| walk_at "getAttr ref") => `(tactic| (k_here; (with_reducible show wpAny _ _ (getAttr (Value.ref _) (Str.ofString "_p_resolveConflict") _) _ _ _); k_dflt (refine' Mine.getMiss_K ?k1 ?k2 ?k3 ?k4 ?k5 ?k6 ?k7 ?k8 ?k9 ?k10 ?k11 ?_; (case k1 => k_asm); (case k2 => k_asm); (case k3 => k_inst); (case k4 => exact rfl); (case k5 => k_is); (case k6 => k_is); (case k7 => k_is); (case k8 => decide +kernel); (case k9 => with_reducible assumption); (case k10 => kernel_rfl); (case k11 => decide +kernel); k_whole); intro h' tk' e' nae))
theorem blockRes_none {s₀ : Shared} {h : Heap} {tk : Tok} {J : Value → (Str → Option Value) → List (Addr × Obj) → Prop}
    (ed : ttrDef = .FunctionDef nm ps bd [] none [] sc none bn pos) (et : nth ttrTry 4 = .Try tb hs eb fb p2)
    (XB : (hd.heap_39 w.params).In base) (TB : Top topProg loose mean mg mb base) (D : KtsDicts ((envX cn cs Lc a ccd cl :: outer).filterMap (·.frame)) g)
    (B : Below (ktrTop dp un gd cn cs Lc a ccd cl outer) base (envX cn cs Lc a ccd cl :: outer) g) (F : Fr g L h m) (X : (hd.heap_39 w.params).In g) (N : Led2 g L h la LA lh LH rest) (T : Top topProg loose mean mg mb g)
    (hm : m "inst" = some (.ref k)) (hk : (k, instObj 274 dk) ∈ rest) (hdk : (dk, dictOf es n1) ∈ rest) (hes : getL "_p_resolveConflict" es = some none)
    (hdp : dp + 20 < recursionLimit) (hun : un + 200 < cLine) (hJ : J (.ref 99) m ((la, LA) :: (lh, LH) :: rest)) :
    wpAny (model P0 w) ((ktrTop dp un gd cn cs Lc a ccd cl outer).deeper (envOf ttrN sc L 178 (.ref 177))) (exec (.Try tb hs eb fb p2) (envOf ttrN sc L 178 (.ref 177))) Q
      (PX (ktrTop dp un gd cn cs Lc a ccd cl outer) base g (envOf ttrN sc L 178 (.ref 177)) (envX cn cs Lc a ccd cl :: outer) L s₀ J) { s₀ with heap := h, toks := tk } := by
  walk_at "k known"
  cases ed
  cases et
  obtain ⟨N, na, nh, hn⟩ := N
  walk_at "walk"
  (rename Heap.NewAttrErr _ _ _ _ _ => nae)
  k_dflt (refine' catchAttr B F N nae XB TB D ?T ?k ?hk ?hE; (case T => kts_test); (case hk => exact rfl); (case hE => exact PX.passes B rfl rfl))
  intro h₁ g₁ oe ws T₁ F₁ N₁ q1 q2 hne B₁ X₁ P₁ D₁
  clear F N X T B D nae
  refine wpAny_execs_cons ?_
  k_dflt (refine' raise_cls (K := (hd.heap_39 w.params)) (C := 99) (h₀ := g₁) (L := L) (m := m) ?hh ?hc ?hb ?hB ?_; (case hh => exact rfl); (case hc => kernel_rfl); (case hb => kernel_rfl); (case hB => kernel_rfl))
  k_dflt (refine' name_K F₁ X₁ (topRead_of P₁) ?e ⟨rfl, X₁.keeps F₁.keep, ?_⟩ ?k6 ?k7 ?k8; (case e => k_is); (case k6 => exact rfl); (case k7 => exact rfl); (case k8 => exact rfl))
  walk_at "walk"
  walk_at "split lts"
  refine' ⟨_, _, oe, _, ws, _, rfl, ?zF, ?zX, newsFront ?zN ?zf, ?zn, ?zm, q1, q2, ?r1, ?r2, ?r3, ?zs, ?_⟩
  (case zF => k_asm); (case zX => k_asm); (case zN => k_asm); (case zf => (walk_at "front"; done)); (case zn => (walk_at "all ne"; done)); (case zm => k_mem); (case r1 => exact rfl); (case r2 => exact rfl); (case r3 => exact rfl); (case zs => exact Nat.le_of_ble_eq_true rfl)
  intro hz Fz Nz
  exact PX.fresh T₁ B₁ D₁ Fz (newsTo (news' := (la, LA) :: (lh, LH) :: rest) Nz (fun q hq => .tail _ (.tail _ (.tail _ (.tail _ hq))))) rfl (show ScopeKind.function ≠ ScopeKind.module by decide) (by walk_at "all ne"; done) (Nz _ (.head _)).2.2 (Ne.symm (Nz _ (.head _)).2.1) ⟨_, _, (Nz _ (.head _)).1, rfl, rfl, rfl, rfl⟩ hJ
end
-- text V5
section
variable {w : World} {dp un : Nat} {gd : Option (List Code)} {cn : Str} {cs : Scope} {a : Addr} {ccd : Value} {cl : List (Str × Addr)} {outer : List Env} {base g : Heap} {L Lc : Addr} {m : Str → Option Value} {s : Shared} {E : Value → Shared → Prop}     {loose : List Str} {mean : ExcName → Option Value} {mg mb : Str → Option Value} {rest : List (Addr × Obj)} {la lh : Addr} {LA LH : Obj}     {nm bn : Str} {ps : Arguments} {bd : List Stmt} {sc : Scope} {pos : Pos} 
variable {Q : Flow → Shared → Prop} {p2 : Pos} {ts : List Expr} {tv : Expr} {st ds f1 : Addr} {hh1 : Int} {k1 : Tok} {of1 : Obj} {fd1 : FuncData} {bo bx : Array UInt8} {to tx : Tok} {v1 : Value} {va : Array Value} {na : Nat} {mem : List (Addr × Obj)}
  {s₀ : Shared} {h : Heap} {tk : Tok} {J : Value → (Str → Option Value) → List (Addr × Obj) → Prop}
theorem blockOld_hit (ed : ttrDef = .FunctionDef nm ps bd [] none [] sc none bn pos) (et : nth ttrTry 5 = .Assign ts tv p2)
    (XB : (hd.heap_39 w.params).In base) (TB : Top topProg loose mean mg mb base) (D : KtsDicts ((envX cn cs Lc a ccd cl :: outer).filterMap (·.frame)) g)
    (B : Below (ktrTop dp un gd cn cs Lc a ccd cl outer) base (envX cn cs Lc a ccd cl :: outer) g) (F : Fr g L h m) (X : (hd.heap_39 w.params).In g) (N : Led2 g L h la (W.listOf va na) lh LH rest) (T : Top topProg loose mean mg mb g) (CH : CodeHd base 305 301) (hck : cs.kind = .function)
    (hdp : dp + 20 < recursionLimit) (hun : un + 200 < cLine) (hva : va.size ≤ 8) (hmem : Sub mem rest)
    (hst : (st, instObj 181 ds) ∈ rest) (hds : (ds, dictOf [⟨hh1, .str (Str.ofString "loadSerial") k1, .ref f1⟩] 1) ∈ rest) (hf1 : (f1, of1) ∈ rest) (hf1' : of1.data = .func fd1)
    (m0 : m "self" = some (.ref st)) (m1 : m "oid" = some (.bytes bo to)) (m2 : m "oldSerial" = some (.bytes bx tx)) (H : Reads w mem f1 la bo bx to tx v1)
    (hret : ∀ t m' rest' h' tk', Keeps ["oldData"] m m' → m' "oldData" = some v1 → Fr g L h' m' → Led2 g L h' la (W.listOf (va.push (.ref t)) (na + 1)) lh LH rest' → Sub rest rest' → (t, tupObj [.bytes bo to, .bytes bx tx]) ∈ rest' → Q .next { s₀ with heap := h', toks := tk' }) :
    wpAny (model P0 w) ((ktrTop dp un gd cn cs Lc a ccd cl outer).deeper (envOf ttrN sc L 178 (.ref 177))) (exec (.Assign ts tv p2) (envOf ttrN sc L 178 (.ref 177))) Q E { s₀ with heap := h, toks := tk } := by
  walk_at "k known"
  cases ed
  cases et
  obtain ⟨N, nna, nnh, hn⟩ := N
  have hcons : ∀ p ∈ (lh, LH) :: rest, p.1 ≠ la := ne_cons (Ne.symm hn) nna
  walk_at "walk"
  walk_at "split lts"; refine' hret _ _ _ _ _ ?kk ?km ?kf ?kl ?ks ?kt; (case kf => k_asm); (case kk => (walk_at "keeps"; done)); (case km => (walk_at "m_get"; done)); (case kl => walk_at "led2"); (case ks => (walk_at "sub"; done)); (case kt => k_mem)
theorem blockOld_miss (ed : ttrDef = .FunctionDef nm ps bd [] none [] sc none bn pos) (et : nth ttrTry 5 = .Assign ts tv p2)
    (XB : (hd.heap_39 w.params).In base) (TB : Top topProg loose mean mg mb base) (D : KtsDicts ((envX cn cs Lc a ccd cl :: outer).filterMap (·.frame)) g)
    (B : Below (ktrTop dp un gd cn cs Lc a ccd cl outer) base (envX cn cs Lc a ccd cl :: outer) g) (F : Fr g L h m) (X : (hd.heap_39 w.params).In g) (N : Led2 g L h la (W.listOf va na) lh LH rest) (T : Top topProg loose mean mg mb g) (CH : CodeHd base 305 301) (hck : cs.kind = .function)
    (hdp : dp + 20 < recursionLimit) (hun : un + 200 < cLine) (hva : va.size ≤ 8) (hmem : Sub mem rest)
    (hst : (st, instObj 181 ds) ∈ rest) (hds : (ds, dictOf [⟨hh1, .str (Str.ofString "loadSerial") k1, .ref f1⟩] 1) ∈ rest) (hf1 : (f1, of1) ∈ rest) (hf1' : of1.data = .func fd1)
    (m0 : m "self" = some (.ref st)) (m1 : m "oid" = some (.bytes bo to)) (m2 : m "oldSerial" = some (.bytes bx tx)) (H : Misses w mem f1 la bo bx to tx)
    (hJ : ∀ t rest', (t, tupObj [.bytes bo to, .bytes bx tx]) ∈ rest' → Sub rest rest' → (∀ p ∈ rest', p.1 ≠ la) → (∀ p ∈ rest', p.1 ≠ lh) → J (.ref 44) m ((la, W.listOf (va.push (.ref t)) (na + 1)) :: (lh, LH) :: rest')) :
    wpAny (model P0 w) ((ktrTop dp un gd cn cs Lc a ccd cl outer).deeper (envOf ttrN sc L 178 (.ref 177))) (exec (.Assign ts tv p2) (envOf ttrN sc L 178 (.ref 177))) Q (PX (ktrTop dp un gd cn cs Lc a ccd cl outer) base g (envOf ttrN sc L 178 (.ref 177)) (envX cn cs Lc a ccd cl :: outer) L s₀ J) { s₀ with heap := h, toks := tk } := by
  walk_at "k known"
  cases ed
  cases et
  obtain ⟨N, nna, nnh, hn⟩ := N
  have hcons : ∀ p ∈ (lh, LH) :: rest, p.1 ≠ la := ne_cons (Ne.symm hn) nna
  walk_at "walk"
  walk_at "split lts"
  refine' PX.flown2 (la := la) (lh := lh) (LH := LH) (cls := .ref 44) B D ?fF ?fR ?fU ?f1 ?f2 ?fj
  case fR => assumption
  case fF => k_asm
  case fU => assumption
  case f1 => (walk_at "front"; done)
  case f2 => (walk_at "front"; done)
  case fj => exact hJ _ _ (by k_mem) (by walk_at "sub"; done) (by walk_at "all ne"; done) (by walk_at "all ne"; done)
end
-- text V6
section
variable {w : World} {dp un : Nat} {gd : Option (List Code)} {cn : Str} {cs : Scope} {a : Addr} {ccd : Value} {cl : List (Str × Addr)} {outer : List Env} {base g : Heap} {L Lc : Addr} {m : Str → Option Value} {s : Shared} {E : Value → Shared → Prop}     {loose : List Str} {mean : ExcName → Option Value} {mg mb : Str → Option Value} {rest : List (Addr × Obj)} {la lh : Addr} {LA LH : Obj}     {nm bn : Str} {ps : Arguments} {bd : List Stmt} {sc : Scope} {pos : Pos} 
variable {Q : Flow → Shared → Prop} {p2 : Pos} {bs os : List Stmt} {tc t6 t7 : Tok} {t2 : Addr} {i2 : Int} {tv : Expr} {st ds f1 : Addr} {hh1 : Int} {k1 : Tok} {of1 : Obj} {fd1 : FuncData} {bo bx : Array UInt8} {to tx : Tok} {v1 : Value} {va : Array Value} {na : Nat} {mem : List (Addr × Obj)}
  {s₀ : Shared} {h : Heap} {tk : Tok} {J : Value → (Str → Option Value) → List (Addr × Obj) → Prop}
theorem blockCom_handed (ed : ttrDef = .FunctionDef nm ps bd [] none [] sc none bn pos) (et : nth ttrTry 6 = .If tv bs os p2)
    (B : Below (ktrTop dp un gd cn cs Lc a ccd cl outer) base (envX cn cs Lc a ccd cl :: outer) g) (F : Fr g L h m) (X : (hd.heap_39 w.params).In g) (N : Led2 g L h la LA lh LH rest) (T : Top topProg loose mean mg mb g)
    (m3 : m "committedData" = some (.ref t2)) (ht2 : (t2, tupObj [.str "any" t6, .int i2 t7]) ∈ rest)
    (hret : ∀ h' tk', Fr g L h' m → Led2 g L h' la LA lh LH rest → Q .next { s₀ with heap := h', toks := tk' }) :
    wpAny (model P0 w) ((ktrTop dp un gd cn cs Lc a ccd cl outer).deeper (envOf ttrN sc L 178 (.ref 177))) (exec (.If tv bs os p2) (envOf ttrN sc L 178 (.ref 177))) Q E { s₀ with heap := h, toks := tk } := by
  walk_at "k known"
  cases ed
  cases et
  obtain ⟨N, nna, nnh, hn⟩ := N
  walk_at "walk"
  exact hret _ _ (by k_asm) ⟨by k_asm, nna, nnh, hn⟩
theorem blockCom_hit (ed : ttrDef = .FunctionDef nm ps bd [] none [] sc none bn pos) (et : nth ttrTry 6 = .If tv bs os p2)
    (XB : (hd.heap_39 w.params).In base) (TB : Top topProg loose mean mg mb base) (D : KtsDicts ((envX cn cs Lc a ccd cl :: outer).filterMap (·.frame)) g)
    (B : Below (ktrTop dp un gd cn cs Lc a ccd cl outer) base (envX cn cs Lc a ccd cl :: outer) g) (F : Fr g L h m) (X : (hd.heap_39 w.params).In g) (N : Led2 g L h la (W.listOf va na) lh LH rest) (T : Top topProg loose mean mg mb g) (CH : CodeHd base 305 301) (hck : cs.kind = .function)
    (hdp : dp + 20 < recursionLimit) (hun : un + 200 < cLine) (hva : va.size ≤ 8) (hmem : Sub mem rest)
    (hst : (st, instObj 181 ds) ∈ rest) (hds : (ds, dictOf [⟨hh1, .str (Str.ofString "loadSerial") k1, .ref f1⟩] 1) ∈ rest) (hf1 : (f1, of1) ∈ rest) (hf1' : of1.data = .func fd1)
    (m0 : m "self" = some (.ref st)) (m1 : m "oid" = some (.bytes bo to)) (m3 : m "committedData" = some (.bytes #[] tc)) (m2 : m "committedSerial" = some (.bytes bx tx)) (H : Reads w mem f1 la bo bx to tx v1)
    (hret : ∀ t m' rest' h' tk', Keeps ["committedData"] m m' → m' "committedData" = some v1 → Fr g L h' m' → Led2 g L h' la (W.listOf (va.push (.ref t)) (na + 1)) lh LH rest' → Sub rest rest' → (t, tupObj [.bytes bo to, .bytes bx tx]) ∈ rest' → Q .next { s₀ with heap := h', toks := tk' }) :
    wpAny (model P0 w) ((ktrTop dp un gd cn cs Lc a ccd cl outer).deeper (envOf ttrN sc L 178 (.ref 177))) (exec (.If tv bs os p2) (envOf ttrN sc L 178 (.ref 177))) Q E { s₀ with heap := h, toks := tk } := by
  walk_at "k known"
  cases ed
  cases et
  obtain ⟨N, nna, nnh, hn⟩ := N
  have hcons : ∀ p ∈ (lh, LH) :: rest, p.1 ≠ la := ne_cons (Ne.symm hn) nna
  walk_at "walk"
  walk_at "split lts"; refine' hret _ _ _ _ _ ?kk ?km ?kf ?kl ?ks ?kt; (case kf => k_asm); (case kk => (walk_at "keeps"; done)); (case km => (walk_at "m_get"; done)); (case kl => walk_at "led2"); (case ks => (walk_at "sub"; done)); (case kt => k_mem)
theorem blockCom_miss (ed : ttrDef = .FunctionDef nm ps bd [] none [] sc none bn pos) (et : nth ttrTry 6 = .If tv bs os p2)
    (XB : (hd.heap_39 w.params).In base) (TB : Top topProg loose mean mg mb base) (D : KtsDicts ((envX cn cs Lc a ccd cl :: outer).filterMap (·.frame)) g)
    (B : Below (ktrTop dp un gd cn cs Lc a ccd cl outer) base (envX cn cs Lc a ccd cl :: outer) g) (F : Fr g L h m) (X : (hd.heap_39 w.params).In g) (N : Led2 g L h la (W.listOf va na) lh LH rest) (T : Top topProg loose mean mg mb g) (CH : CodeHd base 305 301) (hck : cs.kind = .function)
    (hdp : dp + 20 < recursionLimit) (hun : un + 200 < cLine) (hva : va.size ≤ 8) (hmem : Sub mem rest)
    (hst : (st, instObj 181 ds) ∈ rest) (hds : (ds, dictOf [⟨hh1, .str (Str.ofString "loadSerial") k1, .ref f1⟩] 1) ∈ rest) (hf1 : (f1, of1) ∈ rest) (hf1' : of1.data = .func fd1)
    (m0 : m "self" = some (.ref st)) (m1 : m "oid" = some (.bytes bo to)) (m3 : m "committedData" = some (.bytes #[] tc)) (m2 : m "committedSerial" = some (.bytes bx tx)) (H : Misses w mem f1 la bo bx to tx)
    (hJ : ∀ t rest', (t, tupObj [.bytes bo to, .bytes bx tx]) ∈ rest' → Sub rest rest' → (∀ p ∈ rest', p.1 ≠ la) → (∀ p ∈ rest', p.1 ≠ lh) → J (.ref 44) m ((la, W.listOf (va.push (.ref t)) (na + 1)) :: (lh, LH) :: rest')) :
    wpAny (model P0 w) ((ktrTop dp un gd cn cs Lc a ccd cl outer).deeper (envOf ttrN sc L 178 (.ref 177))) (exec (.If tv bs os p2) (envOf ttrN sc L 178 (.ref 177))) Q (PX (ktrTop dp un gd cn cs Lc a ccd cl outer) base g (envOf ttrN sc L 178 (.ref 177)) (envX cn cs Lc a ccd cl :: outer) L s₀ J) { s₀ with heap := h, toks := tk } := by
  walk_at "k known"
  cases ed
  cases et
  obtain ⟨N, nna, nnh, hn⟩ := N
  have hcons : ∀ p ∈ (lh, LH) :: rest, p.1 ≠ la := ne_cons (Ne.symm hn) nna
  walk_at "walk"
  walk_at "split lts"
  refine' PX.flown2 (la := la) (lh := lh) (LH := LH) (cls := .ref 44) B D ?fF ?fR ?fU ?f1 ?f2 ?fj
  case fR => assumption
  case fF => k_asm
  case fU => assumption
  case f1 => (walk_at "front"; done)
  case f2 => (walk_at "front"; done)
  case fj => exact hJ _ _ (by k_mem) (by walk_at "sub"; done) (by walk_at "all ne"; done) (by walk_at "all ne"; done)
end
-- text V7
section
variable {w : World} {dp un : Nat} {gd : Option (List Code)} {cn : Str} {cs : Scope} {a : Addr} {ccd : Value} {cl : List (Str × Addr)} {outer : List Env} {base g : Heap} {L Lc : Addr} {m : Str → Option Value} {s : Shared} {E : Value → Shared → Prop}     {loose : List Str} {mean : ExcName → Option Value} {mg mb : Str → Option Value} {rest : List (Addr × Obj)} {la lh : Addr} {LA LH : Obj}     {nm bn : Str} {ps : Arguments} {bd : List Stmt} {sc : Scope} {pos : Pos} 
variable {Q : Flow → Shared → Prop} {ts : List Expr} {tv : Expr} {p2 : Pos} {st ds pf r t1 : Addr} {bo bx : Array UInt8} {to tx t3 t4 t5 : Tok} {i1 i3 : Int} {mv : Value} {s₀ : Shared} {h : Heap} {tk : Tok}
local macro_rules | `(tactic| walk_at "call ref") => `(tactic| (k_here; (with_reducible show wpAny _ _ (call (Value.ref 142) _) _ _ _); k_dflt (refine wpAny_call ?_; walk_at "ENTER")))
theorem blockNew (ed : ttrDef = .FunctionDef nm ps bd [] none [] sc none bn pos) (et : nth ttrTry 7 = .Assign ts tv p2)
    (B : Below (ktrTop dp un gd cn cs Lc a ccd cl outer) base (envX cn cs Lc a ccd cl :: outer) g) (F : Fr g L h m) (X : (hd.heap_39 w.params).In g) (N : Led2 g L h la LA lh LH rest) (T : Top topProg loose mean mg mb g) (hck : cs.kind = .function) (hdp : dp + 20 < recursionLimit) (hun : un + 200 < cLine)
    (m0 : m "newpickle" = some (.ref r)) (hr : (r, tupObj [mv, .int i3 t3]) ∈ rest)
    (hret : ∀ m' rest' h' tk', Keeps ["newstate"] m m' → m' "newstate" = some (.int i3 t3) → Fr g L h' m' → Led2 g L h' la LA lh LH rest' → Sub rest rest' → Q .next { s₀ with heap := h', toks := tk' }) :
    wpAny (model P0 w) ((ktrTop dp un gd cn cs Lc a ccd cl outer).deeper (envOf ttrN sc L 178 (.ref 177))) (exec (.Assign ts tv p2) (envOf ttrN sc L 178 (.ref 177))) Q E { s₀ with heap := h, toks := tk } := by
  walk_at "k known"
  cases ed
  cases et
  obtain ⟨N, nna, nnh, hn⟩ := N
  walk_at "walk"
  walk_at "split lts"; refine' hret _ _ _ _ ?kk ?km ?kf ?kl ?ks; (case kf => k_asm); (case kk => (walk_at "keeps"; done)); (case km => (walk_at "m_get"; done)); (case kl => walk_at "led2"); (case ks => (walk_at "sub"; done))
theorem blockSt1 (ed : ttrDef = .FunctionDef nm ps bd [] none [] sc none bn pos) (et : nth ttrTry 8 = .Assign ts tv p2)
    (B : Below (ktrTop dp un gd cn cs Lc a ccd cl outer) base (envX cn cs Lc a ccd cl :: outer) g) (F : Fr g L h m) (X : (hd.heap_39 w.params).In g) (N : Led2 g L h la LA lh LH rest) (T : Top topProg loose mean mg mb g) (hck : cs.kind = .function) (hdp : dp + 20 < recursionLimit) (hun : un + 200 < cLine)
    (m0 : m "self" = some (.ref st)) (m1 : m "oid" = some (.bytes bo to)) (m2 : m "oldSerial" = some (.bytes bx tx)) (m3 : m "prfactory" = some (.ref pf)) (m4 : m "oldData" = some (.ref t1)) (ht1 : (t1, tupObj [.str "any" t4, .int i1 t5]) ∈ rest)
    (hret : ∀ m' rest' h' tk', Keeps ["old"] m m' → m' "old" = some (.int i1 t5) → Fr g L h' m' → Led2 g L h' la LA lh LH rest' → Sub rest rest' → Q .next { s₀ with heap := h', toks := tk' }) :
    wpAny (model P0 w) ((ktrTop dp un gd cn cs Lc a ccd cl outer).deeper (envOf ttrN sc L 178 (.ref 177))) (exec (.Assign ts tv p2) (envOf ttrN sc L 178 (.ref 177))) Q E { s₀ with heap := h, toks := tk } := by
  walk_at "k known"
  cases ed
  cases et
  obtain ⟨N, nna, nnh, hn⟩ := N
  walk_at "walk"
  walk_at "split lts"; refine' hret _ _ _ _ ?kk ?km ?kf ?kl ?ks; (case kf => k_asm); (case kk => (walk_at "keeps"; done)); (case km => (walk_at "m_get"; done)); (case kl => walk_at "led2"); (case ks => (walk_at "sub"; done))
theorem blockSt2 (ed : ttrDef = .FunctionDef nm ps bd [] none [] sc none bn pos) (et : nth ttrTry 9 = .Assign ts tv p2)
    (B : Below (ktrTop dp un gd cn cs Lc a ccd cl outer) base (envX cn cs Lc a ccd cl :: outer) g) (F : Fr g L h m) (X : (hd.heap_39 w.params).In g) (N : Led2 g L h la LA lh LH rest) (T : Top topProg loose mean mg mb g) (hck : cs.kind = .function) (hdp : dp + 20 < recursionLimit) (hun : un + 200 < cLine)
    (m0 : m "self" = some (.ref st)) (m1 : m "oid" = some (.bytes bo to)) (m2 : m "committedSerial" = some (.bytes bx tx)) (m3 : m "prfactory" = some (.ref pf)) (m4 : m "committedData" = some (.ref t1)) (ht1 : (t1, tupObj [.str "any" t4, .int i1 t5]) ∈ rest)
    (hret : ∀ m' rest' h' tk', Keeps ["committed"] m m' → m' "committed" = some (.int i1 t5) → Fr g L h' m' → Led2 g L h' la LA lh LH rest' → Sub rest rest' → Q .next { s₀ with heap := h', toks := tk' }) :
    wpAny (model P0 w) ((ktrTop dp un gd cn cs Lc a ccd cl outer).deeper (envOf ttrN sc L 178 (.ref 177))) (exec (.Assign ts tv p2) (envOf ttrN sc L 178 (.ref 177))) Q E { s₀ with heap := h, toks := tk } := by
  walk_at "k known"
  cases ed
  cases et
  obtain ⟨N, nna, nnh, hn⟩ := N
  walk_at "walk"
  walk_at "split lts"; refine' hret _ _ _ _ ?kk ?km ?kf ?kl ?ks; (case kf => k_asm); (case kk => (walk_at "keeps"; done)); (case km => (walk_at "m_get"; done)); (case kl => walk_at "led2"); (case ks => (walk_at "sub"; done))
end
-- text V8
section
variable {w : World} {dp un : Nat} {gd : Option (List Code)} {cn : Str} {cs : Scope} {a : Addr} {ccd : Value} {cl : List (Str × Addr)} {outer : List Env} {base g : Heap} {L Lc : Addr} {m : Str → Option Value} {s : Shared} {E : Value → Shared → Prop}     {loose : List Str} {mean : ExcName → Option Value} {mg mb : Str → Option Value} {rest : List (Addr × Obj)} {la lh : Addr} {LA LH : Obj}     {nm bn : Str} {ps : Arguments} {bd : List Stmt} {sc : Scope} {pos : Pos} 
variable {Q : Flow → Shared → Prop} {ts : List Expr} {tv : Expr} {p2 : Pos} {k q f2 : Addr} {of2 : Obj} {fd2 : FuncData} {u1 u2 u3 : Tok} {i1 i2 i3 : Int} {v4 : Value} {mem : List (Addr × Obj)} {s₀ : Shared} {h : Heap} {tk : Tok} {J : Value → (Str → Option Value) → List (Addr × Obj) → Prop}
theorem blockMerge_ok (ed : ttrDef = .FunctionDef nm ps bd [] none [] sc none bn pos) (et : nth ttrTry 10 = .Assign ts tv p2)
    (D : KtsDicts ((envX cn cs Lc a ccd cl :: outer).filterMap (·.frame)) g) (B : Below (ktrTop dp un gd cn cs Lc a ccd cl outer) base (envX cn cs Lc a ccd cl :: outer) g) (F : Fr g L h m) (X : (hd.heap_39 w.params).In g) (N : Led2 g L h la LA lh (W.listOf #[] 0) rest) (T : Top topProg loose mean mg mb g) (CH : CodeHd base 305 301) (hck : cs.kind = .function) (hdp : dp + 20 < recursionLimit) (hun : un + 200 < cLine)
    (m1 : m "old" = some (.int i1 u1)) (m2 : m "committed" = some (.int i2 u2)) (m3 : m "newstate" = some (.int i3 u3))
    (m4 : m "resolve" = some (.ref f2)) (hf2 : (f2, of2) ∈ rest) (hf2' : of2.data = .func fd2) (hmem : Sub mem rest) (H : MergesOk w mem f2 lh (.int i1 u1) (.int i2 u2) (.int i3 u3) v4)
    (hret : ∀ l t m' rest' h' tk', Keeps ["resolved"] m m' → m' "resolved" = some (.ref l) → Fr g L h' m' → Led2 g L h' la LA lh (W.listOf #[.ref t] 1) rest' → Sub rest rest' → (t, tupObj [.int i1 u1, .int i2 u2, .int i3 u3]) ∈ rest' → (l, W.listOf #[.int i1 u1, .int i2 u2, .int i3 u3, v4] 0) ∈ rest' → Q .next { s₀ with heap := h', toks := tk' }) :
    wpAny (model P0 w) ((ktrTop dp un gd cn cs Lc a ccd cl outer).deeper (envOf ttrN sc L 178 (.ref 177))) (exec (.Assign ts tv p2) (envOf ttrN sc L 178 (.ref 177))) Q E { s₀ with heap := h, toks := tk } := by
  walk_at "k known"
  cases ed
  cases et
  obtain ⟨N, nna, nnh, hn⟩ := N
  have hcons : ∀ p ∈ (la, LA) :: rest, p.1 ≠ lh := ne_cons hn nnh
  walk_at "walk"
  walk_at "split lts"
  refine' hret _ _ _ _ _ _ ?kk ?km ?kf ?kl ?ks ?kt ?ku; (case kf => k_asm); (case kk => (walk_at "keeps"; done)); (case km => (walk_at "m_get"; done)); (case kl => walk_at "led2"); (case ks => (walk_at "sub"; done)); (case kt => k_mem); (case ku => k_mem)
theorem blockMerge_bad (ed : ttrDef = .FunctionDef nm ps bd [] none [] sc none bn pos) (et : nth ttrTry 10 = .Assign ts tv p2)
    (D : KtsDicts ((envX cn cs Lc a ccd cl :: outer).filterMap (·.frame)) g) (B : Below (ktrTop dp un gd cn cs Lc a ccd cl outer) base (envX cn cs Lc a ccd cl :: outer) g) (F : Fr g L h m) (X : (hd.heap_39 w.params).In g) (N : Led2 g L h la LA lh (W.listOf #[] 0) rest) (T : Top topProg loose mean mg mb g) (CH : CodeHd base 305 301) (hck : cs.kind = .function) (hdp : dp + 20 < recursionLimit) (hun : un + 200 < cLine)
    (m1 : m "old" = some (.int i1 u1)) (m2 : m "committed" = some (.int i2 u2)) (m3 : m "newstate" = some (.int i3 u3))
    (m4 : m "resolve" = some (.ref f2)) (hf2 : (f2, of2) ∈ rest) (hf2' : of2.data = .func fd2) (hmem : Sub mem rest) (H : MergesBad w mem f2 lh (.int i1 u1) (.int i2 u2) (.int i3 u3))
    (hJ : ∀ cls t rest', FailCls cls → (t, tupObj [.int i1 u1, .int i2 u2, .int i3 u3]) ∈ rest' → Sub rest rest' → (∀ p ∈ rest', p.1 ≠ la) → (∀ p ∈ rest', p.1 ≠ lh) → J cls m ((la, LA) :: (lh, W.listOf #[.ref t] 1) :: rest')) :
    wpAny (model P0 w) ((ktrTop dp un gd cn cs Lc a ccd cl outer).deeper (envOf ttrN sc L 178 (.ref 177))) (exec (.Assign ts tv p2) (envOf ttrN sc L 178 (.ref 177))) Q (PX (ktrTop dp un gd cn cs Lc a ccd cl outer) base g (envOf ttrN sc L 178 (.ref 177)) (envX cn cs Lc a ccd cl :: outer) L s₀ J) { s₀ with heap := h, toks := tk } := by
  walk_at "k known"
  cases ed
  cases et
  obtain ⟨N, nna, nnh, hn⟩ := N
  have hcons : ∀ p ∈ (la, LA) :: rest, p.1 ≠ lh := ne_cons hn nnh
  walk_at "walk"
  walk_at "split lts"
  refine' PX.flown2 (la := la) (lh := lh) (LA := LA) B D ?fF ?fR ?fU ?f1 ?f2 ?fj
  case fR => assumption
  case fF => k_asm
  case fU => assumption
  case f1 => (walk_at "front"; done)
  case f2 => (walk_at "front"; done)
  case fj => exact hJ _ _ _ (by assumption) (by k_mem) (by walk_at "sub"; done) (by walk_at "all ne"; done) (by walk_at "all ne"; done)
local macro_rules | `(tactic| walk_at "call ref") => `(tactic| (k_here; k_dflt (refine' call_meth ?k1 ?k2 ?_; (case k1 => k_asm); (case k2 => k_mem); k_whole; walk_at "ENTER")))
theorem blockMerge_len (ed : ttrDef = .FunctionDef nm ps bd [] none [] sc none bn pos) (et : nth ttrTry 10 = .Assign ts tv p2)
    (D : KtsDicts ((envX cn cs Lc a ccd cl :: outer).filterMap (·.frame)) g) (B : Below (ktrTop dp un gd cn cs Lc a ccd cl outer) base (envX cn cs Lc a ccd cl :: outer) g) (F : Fr g L h m) (X : (hd.heap_39 w.params).In g) (N : Led2 g L h la LA lh LH rest) (T : Top topProg loose mean mg mb g) (CH : CodeHd base 305 301) (hck : cs.kind = .function) (hdp : dp + 20 < recursionLimit) (hun : un + 200 < cLine)
    (m1 : m "old" = some (.int i1 u1)) (m2 : m "committed" = some (.int i2 u2)) (m3 : m "newstate" = some (.int i3 u3))
    (m4 : m "resolve" = some (.ref q)) (hq : (q, methodObj (.ref 228) (.ref k)) ∈ rest) (b1 : 0 ≤ i1 ∧ i1 < 100) (b2 : 0 ≤ i2 ∧ i2 < 100) (b3 : 0 ≤ i3 ∧ i3 < 100)
    (hret : ∀ u m' rest' h' tk', Keeps ["resolved"] m m' → m' "resolved" = some (.int (i2 + i3 - i1) u) → Fr g L h' m' → Led2 g L h' la LA lh LH rest' → Sub rest rest' → Q .next { s₀ with heap := h', toks := tk' }) :
    wpAny (model P0 w) ((ktrTop dp un gd cn cs Lc a ccd cl outer).deeper (envOf ttrN sc L 178 (.ref 177))) (exec (.Assign ts tv p2) (envOf ttrN sc L 178 (.ref 177))) Q E { s₀ with heap := h, toks := tk } := by
  walk_at "k known"
  cases ed
  cases et
  obtain ⟨N, nna, nnh, hn⟩ := N
  have hcons : ∀ p ∈ (la, LA) :: rest, p.1 ≠ lh := ne_cons hn nnh
  walk_at "walk"
  walk_at "split lts"
  refine' hret _ _ _ _ _ ?kk ?km ?kf ?kl ?ks; (case kf => k_asm); (case kk => (walk_at "keeps"; done)); (case km => (walk_at "m_get"; done)); (case kl => walk_at "led2"); (case ks => (walk_at "sub"; done))
theorem blockRet {mv rv : Value} {te : Option Expr} (ed : ttrDef = .FunctionDef nm ps bd [] none [] sc none bn pos) (et : nth ttrTry 11 = .Return te p2)
    (B : Below (ktrTop dp un gd cn cs Lc a ccd cl outer) base (envX cn cs Lc a ccd cl :: outer) g) (F : Fr g L h m) (X : (hd.heap_39 w.params).In g) (N : Led2 g L h la LA lh LH rest) (T : Top topProg loose mean mg mb g) (m1 : m "meta" = some mv) (m2 : m "resolved" = some rv)
    (hret : ∀ v rest' h' tk', Fr g L h' m → Led2 g L h' la LA lh LH rest' → Sub rest rest' → (v, tupObj [mv, rv]) ∈ rest' → Q (.ret (.ref v)) { s₀ with heap := h', toks := tk' }) :
    wpAny (model P0 w) ((ktrTop dp un gd cn cs Lc a ccd cl outer).deeper (envOf ttrN sc L 178 (.ref 177))) (exec (.Return te p2) (envOf ttrN sc L 178 (.ref 177))) Q E { s₀ with heap := h, toks := tk } := by
  walk_at "k known"
  cases ed
  cases et
  obtain ⟨N, nna, nnh, hn⟩ := N
  walk_at "walk"
  walk_at "split lts"
  refine' hret _ _ _ _ ?kf ?kl ?ks ?kt; (case kf => k_asm); (case kl => walk_at "led2"); (case ks => (walk_at "sub"; done)); (case kt => k_mem)
end
-- text V9
section
variable {w : World} {dp un : Nat} {gd : Option (List Code)} {cn : Str} {cs : Scope} {a : Addr} {ccd : Value} {cl : List (Str × Addr)} {outer : List Env} {base g : Heap} {L Lc : Addr} {m : Str → Option Value} {s : Shared} {E : Value → Shared → Prop}     {loose : List Str} {mean : ExcName → Option Value} {mg mb : Str → Option Value} {rest : List (Addr × Obj)} {la lh : Addr} {LA LH : Obj}     {nm bn : Str} {ps : Arguments} {bd : List Stmt} {sc : Scope} {pos : Pos} 
variable {Q : Flow → Shared → Prop} {ts : List Expr} {tv : Expr} {p2 : Pos} {k r : Addr} {mv nv : Value} {s₀ : Shared} {h : Heap} {tk : Tok} {J : Value → (Str → Option Value) → List (Addr × Obj) → Prop}
theorem blockKl (ed : ttrDef = .FunctionDef nm ps bd [] none [] sc none bn pos) (et : nth ttrBody 0 = .Assign ts tv p2)
    (D : KtsDicts ((envX cn cs Lc a ccd cl :: outer).filterMap (·.frame)) g) (B : Below (ktrTop dp un gd cn cs Lc a ccd cl outer) base (envX cn cs Lc a ccd cl :: outer) g) (F : Fr g L h m) (X : (hd.heap_39 w.params).In g) (N : Led2 g L h la LA lh LH rest) (T : Top topProg loose mean mg mb g) (hck : cs.kind = .function) (hdp : dp + 20 < recursionLimit) (hun : un + 200 < cLine)
    
    (hret : ∀ u m' rest' h' tk', Keeps ["klass"] m m' → m' "klass" = some (.str "n/a" u) → Fr g L h' m' → Led2 g L h' la LA lh LH rest' → Sub rest rest' → Q .next { s₀ with heap := h', toks := tk' }) :
    wpAny (model P0 w) ((ktrTop dp un gd cn cs Lc a ccd cl outer).deeper (envOf ttrN sc L 178 (.ref 177))) (exec (.Assign ts tv p2) (envOf ttrN sc L 178 (.ref 177))) Q E { s₀ with heap := h, toks := tk } := by
  walk_at "k known"
  cases ed
  cases et
  obtain ⟨N, nna, nnh, hn⟩ := N
  walk_at "walk"
  walk_at "split lts"
  refine' hret _ _ _ _ _ ?kk ?km ?kf ?kl ?ks; (case kf => k_asm); (case kk => (walk_at "keeps"; done)); (case km => (walk_at "m_get"; done)); (case kl => walk_at "led2"); (case ks => (walk_at "sub"; done))
theorem blockPf (ed : ttrDef = .FunctionDef nm ps bd [] none [] sc none bn pos) (et : nth ttrTry 0 = .Assign ts tv p2)
    (D : KtsDicts ((envX cn cs Lc a ccd cl :: outer).filterMap (·.frame)) g) (B : Below (ktrTop dp un gd cn cs Lc a ccd cl outer) base (envX cn cs Lc a ccd cl :: outer) g) (F : Fr g L h m) (X : (hd.heap_39 w.params).In g) (N : Led2 g L h la LA lh LH rest) (T : Top topProg loose mean mg mb g) (hck : cs.kind = .function) (hdp : dp + 20 < recursionLimit) (hun : un + 200 < cLine)
    
    (hret : ∀ x m' rest' h' tk', Keeps ["prfactory"] m m' → m' "prfactory" = some (.ref x) → Fr g L h' m' → Led2 g L h' la LA lh LH rest' → Sub rest rest' → Q .next { s₀ with heap := h', toks := tk' }) :
    wpAny (model P0 w) ((ktrTop dp un gd cn cs Lc a ccd cl outer).deeper (envOf ttrN sc L 178 (.ref 177))) (exec (.Assign ts tv p2) (envOf ttrN sc L 178 (.ref 177))) Q E { s₀ with heap := h, toks := tk } := by
  walk_at "k known"
  cases ed
  cases et
  obtain ⟨N, nna, nnh, hn⟩ := N
  walk_at "walk"
  walk_at "split lts"
  refine' hret _ _ _ _ _ ?kk ?km ?kf ?kl ?ks; (case kf => k_asm); (case kk => (walk_at "keeps"; done)); (case km => (walk_at "m_get"; done)); (case kl => walk_at "led2"); (case ks => (walk_at "sub"; done))
theorem blockMeta (ed : ttrDef = .FunctionDef nm ps bd [] none [] sc none bn pos) (et : nth ttrTry 1 = .Assign ts tv p2)
    (D : KtsDicts ((envX cn cs Lc a ccd cl :: outer).filterMap (·.frame)) g) (B : Below (ktrTop dp un gd cn cs Lc a ccd cl outer) base (envX cn cs Lc a ccd cl :: outer) g) (F : Fr g L h m) (X : (hd.heap_39 w.params).In g) (N : Led2 g L h la LA lh LH rest) (T : Top topProg loose mean mg mb g) (hck : cs.kind = .function) (hdp : dp + 20 < recursionLimit) (hun : un + 200 < cLine)
    (m1 : m "newpickle" = some (.ref r)) (hr : (r, tupObj [mv, nv]) ∈ rest)
    (hret : ∀  m' rest' h' tk', Keeps ["meta"] m m' → m' "meta" = some (mv) → Fr g L h' m' → Led2 g L h' la LA lh LH rest' → Sub rest rest' → Q .next { s₀ with heap := h', toks := tk' }) :
    wpAny (model P0 w) ((ktrTop dp un gd cn cs Lc a ccd cl outer).deeper (envOf ttrN sc L 178 (.ref 177))) (exec (.Assign ts tv p2) (envOf ttrN sc L 178 (.ref 177))) Q E { s₀ with heap := h, toks := tk } := by
  walk_at "k known"
  cases ed
  cases et
  obtain ⟨N, nna, nnh, hn⟩ := N
  walk_at "walk"
  walk_at "split lts"
  refine' hret _ _ _ _ ?kk ?km ?kf ?kl ?ks; (case kf => k_asm); (case kk => (walk_at "keeps"; done)); (case km => (walk_at "m_get"; done)); (case kl => walk_at "led2"); (case ks => (walk_at "sub"; done))
theorem blockInst (ed : ttrDef = .FunctionDef nm ps bd [] none [] sc none bn pos) (et : nth ttrTry 3 = .Assign ts tv p2)
    (D : KtsDicts ((envX cn cs Lc a ccd cl :: outer).filterMap (·.frame)) g) (B : Below (ktrTop dp un gd cn cs Lc a ccd cl outer) base (envX cn cs Lc a ccd cl :: outer) g) (F : Fr g L h m) (X : (hd.heap_39 w.params).In g) (N : Led2 g L h la LA lh LH rest) (T : Top topProg loose mean mg mb g) (hck : cs.kind = .function) (hdp : dp + 20 < recursionLimit) (hun : un + 200 < cLine)
    (m1 : m "klass" = some (.ref k))
    (hret : ∀  m' rest' h' tk', Keeps ["inst"] m m' → m' "inst" = some (.ref k) → Fr g L h' m' → Led2 g L h' la LA lh LH rest' → Sub rest rest' → Q .next { s₀ with heap := h', toks := tk' }) :
    wpAny (model P0 w) ((ktrTop dp un gd cn cs Lc a ccd cl outer).deeper (envOf ttrN sc L 178 (.ref 177))) (exec (.Assign ts tv p2) (envOf ttrN sc L 178 (.ref 177))) Q E { s₀ with heap := h, toks := tk } := by
  walk_at "k known"
  cases ed
  cases et
  obtain ⟨N, nna, nnh, hn⟩ := N
  walk_at "walk"
  walk_at "split lts"
  refine' hret _ _ _ _ ?kk ?km ?kf ?kl ?ks; (case kf => k_asm); (case kk => (walk_at "keeps"; done)); (case km => (walk_at "m_get"; done)); (case kl => walk_at "led2"); (case ks => (walk_at "sub"; done))
theorem blockMeta_none (ed : ttrDef = .FunctionDef nm ps bd [] none [] sc none bn pos) (et : nth ttrTry 1 = .Assign ts tv p2)
    (D : KtsDicts ((envX cn cs Lc a ccd cl :: outer).filterMap (·.frame)) g) (B : Below (ktrTop dp un gd cn cs Lc a ccd cl outer) base (envX cn cs Lc a ccd cl :: outer) g) (F : Fr g L h m) (X : (hd.heap_39 w.params).In g) (N : Led2 g L h la LA lh LH rest) (T : Top topProg loose mean mg mb g) (hck : cs.kind = .function) (hdp : dp + 20 < recursionLimit) (hun : un + 200 < cLine)
    (m1 : m "newpickle" = some (.ref r)) (hr : (r, tupObj []) ∈ rest)
    (hJ : J (.type "IndexError") m ((la, LA) :: (lh, LH) :: rest)) :
    wpAny (model P0 w) ((ktrTop dp un gd cn cs Lc a ccd cl outer).deeper (envOf ttrN sc L 178 (.ref 177))) (exec (.Assign ts tv p2) (envOf ttrN sc L 178 (.ref 177))) Q (PX (ktrTop dp un gd cn cs Lc a ccd cl outer) base g (envOf ttrN sc L 178 (.ref 177)) (envX cn cs Lc a ccd cl :: outer) L s₀ J) { s₀ with heap := h, toks := tk } := by
  walk_at "k known"
  cases ed
  cases et
  obtain ⟨N, nna, nnh, hn⟩ := N
  walk_at "walk"
  walk_at "split lts"
  k_dflt (refine' Mine.item_tup_out (isTup_led N (List.Mem.tail _ (List.Mem.tail _ hr))) (by decide) (by decide) rfl rfl ?_ (by with_unfolding_all rfl))
  intro h' tk' e' nx
  obtain ⟨ob, tp, he, hc, hd⟩ := nx.there
  exact PX.fresh KtsTurn.refl B D ⟨let ⟨o, es, ep, q, r⟩ := F.ns; ⟨o, es, ep, nx.keeps _ _ q, r⟩, fun b o q => nx.keeps b o (F.keep b o q), F.above⟩
    (fun p hp => ⟨nx.keeps _ _ (N p hp).1, (N p hp).2⟩) rfl (show ScopeKind.function ≠ ScopeKind.module by decide) (fun q hq z => by have := (N q hq).1; rw [z] at this; exact nomatch (this.symm.trans nx.new)) (kts_none F.keep nx.new) (fun z => by
      obtain ⟨oL, _, _, hL, _⟩ := F.ns
      rw [z] at hL
      exact nomatch (hL.symm.trans nx.new)) ⟨ob, _, he, hc, rfl, hd, rfl⟩ hJ
end
-- text V10
section
variable {w : World} {dp un : Nat} {gd : Option (List Code)} {cn : Str} {cs : Scope} {a : Addr} {ccd : Value} {cl : List (Str × Addr)} {outer : List Env} {base g : Heap} {L Lc : Addr} {m : Str → Option Value} {s : Shared} {E : Value → Shared → Prop}     {loose : List Str} {mean : ExcName → Option Value} {mg mb : Str → Option Value} {rest : List (Addr × Obj)} {la lh : Addr} {LA LH : Obj}     {nm bn : Str} {ps : Arguments} {bd : List Stmt} {sc : Scope} {pos : Pos} 
variable {Q : Flow → Shared → Prop} {tb eb fb : List Stmt} {hs : List ExceptHandler} {p2 : Pos} {e : Addr} {cls : Value} {G : Heap} {news : List (Addr × Obj)} {s₀ : Shared} {h : Heap} {tk : Tok}
def CatchCls (c : Value) : Prop := c = .type "IndexError" ∨ c = .ref 44 ∨ FailCls c
theorem catchAll0 (ed : ttrDef = .FunctionDef nm ps bd [] none [] sc none bn pos) (et : nth ttrBody 1 = .Try tb hs eb fb p2)
    (XB : (hd.heap_39 w.params).In base) (TB : Top topProg loose mean mg mb base) (D : KtsDicts ((envX cn cs Lc a ccd cl :: outer).filterMap (·.frame)) g)
    (B : Below (ktrTop dp un gd cn cs Lc a ccd cl outer) base (envX cn cs Lc a ccd cl :: outer) g) (F : Fr g L G m) (R : RaisedSN base G ((envOf ttrN sc L 178 (.ref 177)) :: envX cn cs Lc a ccd cl :: outer) e cls news h) (U : G.UpToSlots h) (hc : CatchCls cls)
    (hret : ∀ h' g' tk' m', KtsTurn ((envX cn cs Lc a ccd cl :: outer).filterMap (·.frame)) g g' → Keeps ["e"] m m' → Fr g' L h' m' → News g' L h' news → Below (ktrTop dp un gd cn cs Lc a ccd cl outer) base (envX cn cs Lc a ccd cl :: outer) g' → KtsDicts ((envX cn cs Lc a ccd cl :: outer).filterMap (·.frame)) g' → Q .next { s₀ with heap := h', toks := tk' }) :
    wpAny (model P0 w) ((ktrTop dp un gd cn cs Lc a ccd cl outer).deeper (envOf ttrN sc L 178 (.ref 177))) (handleBy (.ref e) (envOf ttrN sc L 178 (.ref 177)) hs) Q (fun _ _ => False) { s₀ with heap := h, toks := tk } := by
  walk_at "k known"
  cases ed
  cases et
  rcases hc with rfl | rfl | rfl | rfl | rfl | rfl | rfl
  · k_dflt (refine' pass_SN R F B U XB TB D ?T ?_; (case T => kts_test))
    intro h1 R1 U1
    k_dflt (refine' hit_SN0 R1 F B U1 XB TB D KtsTurn.refl ?T ?_; (case T => kts_test))
    intro h2 g2 T2 F2 N2 K2 X2 P2 D2
    clear R R1 U U1 D B F
    walk_at "walk"
    exact hret _ _ _ _ T2 Keeps.refl F2 N2 K2 D2
  · k_dflt (refine' pass_SN R F B U XB TB D ?T ?_; (case T => kts_test))
    intro h1 R1 U1
    k_dflt (refine' hit_SN0 R1 F B U1 XB TB D KtsTurn.refl ?T ?_; (case T => kts_test))
    intro h2 g2 T2 F2 N2 K2 X2 P2 D2
    clear R R1 U U1 D B F
    walk_at "walk"
    exact hret _ _ _ _ T2 Keeps.refl F2 N2 K2 D2
  · k_dflt (refine' pass_SN R F B U XB TB D ?T ?_; (case T => kts_test))
    intro h1 R1 U1
    k_dflt (refine' hit_SN0 R1 F B U1 XB TB D KtsTurn.refl ?T ?_; (case T => kts_test))
    intro h2 g2 T2 F2 N2 K2 X2 P2 D2
    clear R R1 U U1 D B F
    walk_at "walk"
    exact hret _ _ _ _ T2 Keeps.refl F2 N2 K2 D2
  · k_dflt (refine' pass_SN R F B U XB TB D ?T ?_; (case T => kts_test))
    intro h1 R1 U1
    k_dflt (refine' hit_SN0 R1 F B U1 XB TB D KtsTurn.refl ?T ?_; (case T => kts_test))
    intro h2 g2 T2 F2 N2 K2 X2 P2 D2
    clear R R1 U U1 D B F
    walk_at "walk"
    exact hret _ _ _ _ T2 Keeps.refl F2 N2 K2 D2
  · k_dflt (refine' hit_SNB R F B U XB TB D KtsTurn.refl ?T ?_; (case T => kts_test))
    intro h2 g2 tk2 T2 F2 N2 K2 X2 P2 D2
    clear R U D B F
    walk_at "walk"
    refine' hret _ _ _ _ T2 ?kk ?kf ?kn K2 D2
    case kf => assumption
    case kn => assumption
    case kk => (intro y hy; have hy' := fun q => hy (List.mem_singleton.mpr q); show (if _ then _ else _) = _; rw [if_neg hy', if_neg hy'])
  · k_dflt (refine' hit_SNB R F B U XB TB D KtsTurn.refl ?T ?_; (case T => kts_test))
    intro h2 g2 tk2 T2 F2 N2 K2 X2 P2 D2
    clear R U D B F
    walk_at "walk"
    refine' hret _ _ _ _ T2 ?kk ?kf ?kn K2 D2
    case kf => assumption
    case kn => assumption
    case kk => (intro y hy; have hy' := fun q => hy (List.mem_singleton.mpr q); show (if _ then _ else _) = _; rw [if_neg hy', if_neg hy'])
  · k_dflt (refine' hit_SNB R F B U XB TB D KtsTurn.refl ?T ?_; (case T => kts_test))
    intro h2 g2 tk2 T2 F2 N2 K2 X2 P2 D2
    clear R U D B F
    walk_at "walk"
    refine' hret _ _ _ _ T2 ?kk ?kf ?kn K2 D2
    case kf => assumption
    case kn => assumption
    case kk => (intro y hy; have hy' := fun q => hy (List.mem_singleton.mpr q); show (if _ then _ else _) = _; rw [if_neg hy', if_neg hy'])
/-- whatever the body of the outer try hands on is swallowed -/
theorem catchAll {J : Value → (Str → Option Value) → List (Addr × Obj) → Prop} {E : Value → Shared → Prop} (ed : ttrDef = .FunctionDef nm ps bd [] none [] sc none bn pos) (et : nth ttrBody 1 = .Try tb hs eb fb p2)
    (XB : (hd.heap_39 w.params).In base) (TB : Top topProg loose mean mg mb base) (hJ : ∀ cls m news, J cls m news → CatchCls cls)
    (hret : ∀ h' g' tk' cls m m' news, KtsTurn ((envX cn cs Lc a ccd cl :: outer).filterMap (·.frame)) g g' → J cls m news → Keeps ["e"] m m' → Fr g' L h' m' → News g' L h' news → Below (ktrTop dp un gd cn cs Lc a ccd cl outer) base (envX cn cs Lc a ccd cl :: outer) g' → KtsDicts ((envX cn cs Lc a ccd cl :: outer).filterMap (·.frame)) g' → Q .next { s₀ with heap := h', toks := tk' }) :
    ∀ x s', PX (ktrTop dp un gd cn cs Lc a ccd cl outer) base g (envOf ttrN sc L 178 (.ref 177)) (envX cn cs Lc a ccd cl :: outer) L s₀ J x s' → wpAny (model P0 w) ((ktrTop dp un gd cn cs Lc a ccd cl outer).deeper (envOf ttrN sc L 178 (.ref 177))) (noteFrame x (envOf ttrN sc L 178 (.ref 177))) (fun _ s₂ => wpAny (model P0 w) ((ktrTop dp un gd cn cs Lc a ccd cl outer).deeper (envOf ttrN sc L 178 (.ref 177))) (setFlight x none) (fun _ s₃ => wpAny (model P0 w) ((ktrTop dp un gd cn cs Lc a ccd cl outer).deeper (envOf ttrN sc L 178 (.ref 177))) (handleBy x (envOf ttrN sc L 178 (.ref 177)) hs) Q E s₃) E s₂) E s' := by
  rintro x s' ⟨e, g', G, m, cls, news, h', tk', rfl, rfl, TT, K, D, F, R, U, j⟩
  refine wpAny_mono (RM.look (E := E) (Q := fun _ s₃ => wpAny (model P0 w) ((ktrTop dp un gd cn cs Lc a ccd cl outer).deeper (envOf ttrN sc L 178 (.ref 177))) (handleBy (.ref e) (envOf ttrN sc L 178 (.ref 177)) hs) Q E s₃) K rfl R U fun h'' R' U' => ?_) (fun _ _ x => x) (fun _ _ x => x)
  refine wpAny_mono (catchAll0 (s₀ := s₀) ed et XB TB D K F R' U' (hJ _ _ _ j) fun h₂ g₂ tk₂ m₂ T₂ kk F₂ N₂ K₂ D₂ => hret h₂ g₂ tk₂ cls m m₂ news (TT.trans T₂) j kk F₂ N₂ K₂ D₂) (fun _ _ x => x) (fun _ _ x => x.elim)
end
-- text V11
section
variable {w : World} {dp un : Nat} {gd : Option (List Code)} {cn : Str} {cs : Scope} {a : Addr} {ccd : Value} {cl : List (Str × Addr)} {outer : List Env} {base g : Heap} {L Lc : Addr} {m : Str → Option Value} {s : Shared} {E : Value → Shared → Prop}     {loose : List Str} {mean : ExcName → Option Value} {mg mb : Str → Option Value} {rest : List (Addr × Obj)} {la lh : Addr} {LA LH : Obj}     {nm bn : Str} {ps : Arguments} {bds : List Stmt} {sc : Scope} {pos : Pos} 
variable {Q : Flow → Shared → Prop} {x1 x2 : Option Expr} {p2 : Pos} {news : List (Addr × Obj)} {s₀ : Shared} {h : Heap} {tk : Tok} {bo bl bd : Array UInt8} {to tl td : Tok} {rv : Value}
theorem blockRaise (ed : ttrDef = .FunctionDef nm ps bds [] none [] sc none bn pos) (et : nth ttrBody 2 = .Raise x1 x2 p2)
    (B : Below (ktrTop dp un gd cn cs Lc a ccd cl outer) base (envX cn cs Lc a ccd cl :: outer) g) (F : Fr g L h m) (X : (hd.heap_39 w.params).In g) (N : News g L h news) (T : Top topProg loose mean mg mb g) (hck : cs.kind = .function) (hdp : dp + 20 < recursionLimit) (hun : un + 200 < cLine)
    (m0 : m "oid" = some (.bytes bo to)) (m1 : m "committedSerial" = some (.bytes bl tl)) (m2 : m "oldSerial" = some (.bytes bd td)) (m3 : m "newpickle" = some rv)
    (hE : ∀ e dd tt es n h' tk' oe vs news', Fr g L h' m → News g L h' ((e, oe) :: news') → oe.cls = .ref 99 → oe.dict = some dd → oe.data = .fields vs → vs[1]? = some .none → (∀ q ∈ news', q.1 ≠ e) → Sub news news' → (dd, dictOf es n) ∈ news' →
      getL "oid" es = some (some (.bytes bo to)) → getL "serials" es = some (some (.ref tt)) → getL "get_oid" es = some none → getL "get_serials" es = some none → (tt, tupObj [.bytes bl tl, .bytes bd td]) ∈ news' → E (.ref e) { s₀ with heap := h', toks := tk' }) :
    wpAny (model P0 w) ((ktrTop dp un gd cn cs Lc a ccd cl outer).deeper (envOf ttrN sc L 178 (.ref 177))) (exec (.Raise x1 x2 p2) (envOf ttrN sc L 178 (.ref 177))) Q E { s₀ with heap := h, toks := tk } := by
  walk_at "k known"
  cases ed
  cases et
  walk_at "walk"
  walk_at "split lts"
  refine' hE _ _ _ _ _ _ _ _ _ _ ?kf (newsFront ?kn ?f1) ?c1 ?c2 ?c3 ?c4 ?ne ?ks ?kd ?o1 ?o2 ?o3 ?o4 ?kt
  case kf => k_asm
  case kn => k_asm
  case f1 => (walk_at "front"; done)
  case c1 => exact rfl
  case c2 => exact rfl
  case c3 => exact rfl
  case c4 => exact rfl
  case ne => (walk_at "all ne"; done)
  case ks => (walk_at "sub"; done)
  case kd => k_mem
  case o1 => rfl
  case o2 => rfl
  case o3 => rfl
  case o4 => rfl
  case kt => k_mem
end
-- text V12
section
variable {w : World} {dp un : Nat} {gd : Option (List Code)} {cn : Str} {cs : Scope} {a : Addr} {ccd : Value} {cl : List (Str × Addr)} {outer : List Env} {base g : Heap} {L Lc : Addr} {m : Str → Option Value} {s : Shared} {E : Value → Shared → Prop}     {loose : List Str} {mean : ExcName → Option Value} {mg mb : Str → Option Value} {rest : List (Addr × Obj)} {la lh : Addr} {LA LH : Obj}     {nm bn : Str} {ps : Arguments} {bd : List Stmt} {sc : Scope} {pos : Pos} 
variable {A₀ : Around} {h₀ : Heap} {mc : Str → Option Value} {Q : Value → Shared → Prop} {st r : Addr} {bo bl bdd : Array UInt8} {to tl td : Tok} {tb eb fb : List Stmt} {hs : List ExceptHandler} {p2 : Pos}
  {Zok : Value → List (Addr × Obj) → Prop} {Zbad : List (Addr × Obj) → Prop}
def TJ (bo bl bdd : Array UInt8) (to tl td : Tok) (r : Addr) (Zbad : List (Addr × Obj) → Prop) : Value → (Str → Option Value) → List (Addr × Obj) → Prop :=
  fun cls m news => CatchCls cls ∧ m "oid" = some (.bytes bo to) ∧ m "committedSerial" = some (.bytes bl tl) ∧ m "oldSerial" = some (.bytes bdd td) ∧ m "newpickle" = some (.ref r) ∧ Zbad news
theorem ttr_shell (hd0 : Option Addr) (ed : ttrDef = .FunctionDef nm ps bd [] none [] sc none bn pos) (et : nth ttrBody 1 = .Try tb hs eb fb p2)
    (XB : (hd.heap_39 w.params).In base) (TB : Top topProg loose mean mg mb base) (B : Below A₀ base outer h₀) (F : Fr h₀ Lc s.heap mc) (X : (hd.heap_39 w.params).In h₀) (N : Led2 h₀ Lc s.heap la LA lh LH rest) (T : Top topProg loose mean mg mb h₀) (D : KtsDicts (outer.filterMap (·.frame)) h₀)
    (hck : cs.kind = .function) (hdp : dp + 20 < recursionLimit) (hun : un + 200 < cLine)
    (hbody : ∀ g L h1 tk1 m, Fr h₀ Lc g mc → Fr g L h1 m → Led2 g L h1 la LA lh LH rest → Below (ktrTop dp un gd cn cs Lc a ccd cl outer) base (envX cn cs Lc a ccd cl :: outer) g → (hd.heap_39 w.params).In g → Top topProg loose mean mg mb g → KtsDicts ((envX cn cs Lc a ccd cl :: outer).filterMap (·.frame)) g →
      m "self" = some (.ref st) → m "oid" = some (.bytes bo to) → m "committedSerial" = some (.bytes bl tl) → m "oldSerial" = some (.bytes bdd td) → m "newpickle" = some (.ref r) → (match hd0 with | some q => m "committedData" = some (.ref q) | none => ∃ tc, m "committedData" = some (.bytes #[] tc)) →
      wpAny (model P0 w) ((ktrTop dp un gd cn cs Lc a ccd cl outer).deeper (envOf ttrN sc L 178 (.ref 177))) (execs tb (envOf ttrN sc L 178 (.ref 177)))
        (fun f s' => ∃ v h' tk' m' news', f = .ret v ∧ s' = { s with heap := h', toks := tk' } ∧ Fr g L h' m' ∧ News g L h' news' ∧ Zok v news')
        (PX (ktrTop dp un gd cn cs Lc a ccd cl outer) base g (envOf ttrN sc L 178 (.ref 177)) (envX cn cs Lc a ccd cl :: outer) L s (TJ bo bl bdd to tl td r Zbad)) { s with heap := h1, toks := tk1 })
    (hok : ∀ v h' tk' news', Fr h₀ Lc h' mc → News h₀ Lc h' news' → Zok v news' → Q v { s with heap := h', toks := tk' })
    (hbad : ∀ e dd tt es n h' tk' G news news', Zbad news → Sub news news' → Fr h₀ Lc G mc → RD base G (envX cn cs Lc a ccd cl :: outer) e (.ref 99) (some dd) news' h' → G.UpToSlots h' → (dd, dictOf es n) ∈ news' →
      getL "oid" es = some (some (.bytes bo to)) → getL "serials" es = some (some (.ref tt)) → getL "get_oid" es = some none → getL "get_serials" es = some none → (tt, tupObj [.bytes bl tl, .bytes bdd td]) ∈ news' → E (.ref e) { s with heap := h', toks := tk' }) :
    wpAny (model P0 w) (ktrTop dp un gd cn cs Lc a ccd cl outer) (call (.ref 178) ([.ref st, .bytes bo to, .bytes bl tl, .bytes bdd td, .ref r] ++ hd0.toList.map Value.ref)) Q E s := by
  walk_at "k known"
  obtain ⟨N, na, nh, hn⟩ := N
  have ed' := ed
  have et' := et
  cases ed
  cases et
  rcases hd0 with _ | q0
  · refine wpAny_call ?_
    refine' code_def ?k1 ?k2 ?k3 ?k4 ?k5 ?kA ?kF ?kK ?k6 ?k7 ?k8 ?k9 ?kB ?_ ?c2 ?c3 ?c4 ?c5; (case kA => exact rfl); (case kF => exact rfl); (case kK => first | exact rfl | assumption); (case k1 => k_asm); (case k2 => k_asm); (case k3 => k_asm); (case k4 => k_asm); (case k5 => k_asm); (case k6 => k_is); (case k7 => k_is); (case k8 => ktr_room); (case k9 => first | exact BindsTo.of_eq rfl | exact binds_K (by k_in) rfl (by k_is) rfl rfl rfl | fail "ENTER: no rule for these arguments"); (case c5 => decide); (case kB => exact locs rfl); (case c2 => exact rfl); (case c3 => exact rfl); (case c4 => exact rfl)
    intro g L h1 FG F1 N1 B1 X1 T1
    obtain ⟨m1, F1', f0, f1, f2, f3, f4, f5⟩ : ∃ m1, Fr g L h1 m1 ∧ m1 "self" = some (.ref st) ∧ m1 "oid" = some (.bytes bo to) ∧ m1 "committedSerial" = some (.bytes bl tl) ∧ m1 "oldSerial" = some (.bytes bdd td) ∧ m1 "newpickle" = some (.ref r) ∧ (∃ tc, m1 "committedData" = some (.bytes #[] tc)) := ⟨_, F1, rfl, rfl, rfl, rfl, rfl, ⟨_, rfl⟩⟩
    clear F1
    have D1 := kd_push (env := envX cn cs Lc a ccd cl) FG rfl D
    refine wpAny_execs_cons ?_
    refine blockKl (s₀ := s) ed' rfl D1 B1 F1' X1 ⟨N1, na, nh, hn⟩ T1 hck hdp hun ?_
    intro u m2 rest2 h2 tk2 K2 _ F2 N2 S2
    have N2' : Led2 g L h2 la LA lh LH rest := ⟨newsTo N2.N (fun p hp => by
      rcases List.mem_cons.mp hp with rfl | hp
      · exact .head _
      · rcases List.mem_cons.mp hp with rfl | hp
        · exact .tail _ (.head _)
        · exact .tail _ (.tail _ (S2 _ hp))), na, nh, hn⟩
    refine wpAny_execs_cons (wpAny_Try_except ?_)
    refine wpAny_mono (hbody g L h2 tk2 m2 FG F2 N2' B1 X1 T1 D1 (K2.at f0) (K2.at f1) (K2.at f2) (K2.at f3) (K2.at f4) ⟨f5.choose, K2.at f5.choose_spec⟩) ?_ ?_
    · rintro f s' ⟨v, h', tk', m', news', rfl, rfl, F', N', z⟩
      exact ⟨L, m', news', F', N', fun F'' N'' => hok _ _ _ _ F'' N'' z⟩
    · refine catchAll ed' et' XB TB (fun _ _ _ j => j.1) (fun h' g' tk' cls m m' news TT j kk F' N' K' D' => ?_)
      refine wpAny_execs_cons ?_
      refine blockRaise (s₀ := s) ed' rfl K' F' (XB.keeps K'.stays) N' (TB.keeps K'.stays) hck hdp hun (kk.at j.2.1) (kk.at j.2.2.1) (kk.at j.2.2.2.1) (kk.at j.2.2.2.2.1) ?_
      intro e dd tt es n h'' tk'' oe vs news'' F'' N'' c1 c2 c3 c4 ne sub hdd o1 o2 o3 o4 htt
      exact leave_startD K' F'' (newsTo N'' fun q hq => .tail _ hq) rfl (show ScopeKind.function ≠ ScopeKind.module by decide) ne (N'' _ (.head _)).2.2 ⟨oe, vs, (N'' _ (.head _)).1, c1, c2, c3, c4⟩ fun hz Rz Uz =>
        hbad e dd tt es n hz tk'' g news news'' j.2.2.2.2.2 sub FG (Rz.turn TT) (ups_turn TT Uz) hdd o1 o2 o3 o4 htt
  · refine wpAny_call ?_
    refine' code_def ?k1 ?k2 ?k3 ?k4 ?k5 ?kA ?kF ?kK ?k6 ?k7 ?k8 ?k9 ?kB ?_ ?c2 ?c3 ?c4 ?c5; (case kA => exact rfl); (case kF => exact rfl); (case kK => first | exact rfl | assumption); (case k1 => k_asm); (case k2 => k_asm); (case k3 => k_asm); (case k4 => k_asm); (case k5 => k_asm); (case k6 => k_is); (case k7 => k_is); (case k8 => ktr_room); (case k9 => first | exact BindsTo.of_eq rfl | exact binds_K (by k_in) rfl (by k_is) rfl rfl rfl | fail "ENTER: no rule for these arguments"); (case c5 => decide); (case kB => exact locs rfl); (case c2 => exact rfl); (case c3 => exact rfl); (case c4 => exact rfl)
    intro g L h1 FG F1 N1 B1 X1 T1
    obtain ⟨m1, F1', f0, f1, f2, f3, f4, f5⟩ : ∃ m1, Fr g L h1 m1 ∧ m1 "self" = some (.ref st) ∧ m1 "oid" = some (.bytes bo to) ∧ m1 "committedSerial" = some (.bytes bl tl) ∧ m1 "oldSerial" = some (.bytes bdd td) ∧ m1 "newpickle" = some (.ref r) ∧ m1 "committedData" = some (.ref q0) := ⟨_, F1, rfl, rfl, rfl, rfl, rfl, rfl⟩
    clear F1
    have D1 := kd_push (env := envX cn cs Lc a ccd cl) FG rfl D
    refine wpAny_execs_cons ?_
    refine blockKl (s₀ := s) ed' rfl D1 B1 F1' X1 ⟨N1, na, nh, hn⟩ T1 hck hdp hun ?_
    intro u m2 rest2 h2 tk2 K2 _ F2 N2 S2
    have N2' : Led2 g L h2 la LA lh LH rest := ⟨newsTo N2.N (fun p hp => by
      rcases List.mem_cons.mp hp with rfl | hp
      · exact .head _
      · rcases List.mem_cons.mp hp with rfl | hp
        · exact .tail _ (.head _)
        · exact .tail _ (.tail _ (S2 _ hp))), na, nh, hn⟩
    refine wpAny_execs_cons (wpAny_Try_except ?_)
    refine wpAny_mono (hbody g L h2 tk2 m2 FG F2 N2' B1 X1 T1 D1 (K2.at f0) (K2.at f1) (K2.at f2) (K2.at f3) (K2.at f4) (K2.at f5)) ?_ ?_
    · rintro f s' ⟨v, h', tk', m', news', rfl, rfl, F', N', z⟩
      exact ⟨L, m', news', F', N', fun F'' N'' => hok _ _ _ _ F'' N'' z⟩
    · refine catchAll ed' et' XB TB (fun _ _ _ j => j.1) (fun h' g' tk' cls m m' news TT j kk F' N' K' D' => ?_)
      refine wpAny_execs_cons ?_
      refine blockRaise (s₀ := s) ed' rfl K' F' (XB.keeps K'.stays) N' (TB.keeps K'.stays) hck hdp hun (kk.at j.2.1) (kk.at j.2.2.1) (kk.at j.2.2.2.1) (kk.at j.2.2.2.2.1) ?_
      intro e dd tt es n h'' tk'' oe vs news'' F'' N'' c1 c2 c3 c4 ne sub hdd o1 o2 o3 o4 htt
      exact leave_startD K' F'' (newsTo N'' fun q hq => .tail _ hq) rfl (show ScopeKind.function ≠ ScopeKind.module by decide) ne (N'' _ (.head _)).2.2 ⟨oe, vs, (N'' _ (.head _)).1, c1, c2, c3, c4⟩ fun hz Rz Uz =>
        hbad e dd tt es n hz tk'' g news news'' j.2.2.2.2.2 sub FG (Rz.turn TT) (ups_turn TT Uz) hdd o1 o2 o3 o4 htt
end
-- text V13
section
variable {w : World} {dp un : Nat} {gd : Option (List Code)} {cn : Str} {cs : Scope} {a : Addr} {ccd : Value} {cl : List (Str × Addr)} {outer : List Env} {base g : Heap} {L Lc : Addr} {m : Str → Option Value} {s : Shared} {E : Value → Shared → Prop}     {loose : List Str} {mean : ExcName → Option Value} {mg mb : Str → Option Value} {rest : List (Addr × Obj)} {la lh : Addr} {LA LH : Obj}     {nm bn : Str} {ps : Arguments} {bd : List Stmt} {sc : Scope} {pos : Pos} 
variable {Q : Flow → Shared → Prop} {tb : List Stmt} {st r k dk f1 ds : Addr} {hh1 : Int} {k1 : Tok} {of1 : Obj} {fd1 : FuncData} {mv nv v1 v2 : Value} {bo bl bdd : Array UInt8} {to tl td : Tok} {es : List DictEntry} {n1 : Nat} {s₀ : Shared} {h : Heap} {tk : Tok} {mem : List (Addr × Obj)} {J : Value → (Str → Option Value) → List (Addr × Obj) → Prop}
abbrev tAt (i : Nat) : Stmt := nth ttrTry i
/-- the forms of the new row's first part -/
def FormIs (mv : Value) (k : Addr) (rest : List (Addr × Obj)) : Prop :=
  (mv = .ref k ∧ ∃ dk es n, ((k, instObj 274 dk) ∈ rest ∨ (k, instObj 245 dk) ∈ rest) ∧ (dk, dictOf es n) ∈ rest) ∨
  (∃ t0 t1 v i1 u1 i2 u2, mv = .ref t0 ∧ (t0, tupObj [.ref k, v]) ∈ rest ∧ (v = .none ∨ (v = .ref t1 ∧ (t1, tupObj []) ∈ rest) ∨ (v = .ref t1 ∧ (t1, tupObj [.int i1 u1, .int i2 u2]) ∈ rest)))
theorem FormIs.mono {mv : Value} {k : Addr} {a b : List (Addr × Obj)} (h : Sub a b) (x : FormIs mv k a) : FormIs mv k b := by
  rcases x with ⟨e, dk, es, n, q, q2⟩ | ⟨t0, t1, v, i1, u1, i2, u2, e, q, q2⟩
  · exact .inl ⟨e, dk, es, n, q.imp (h _) (h _), h _ q2⟩
  · exact .inr ⟨t0, t1, v, i1, u1, i2, u2, e, h _ q, q2.imp id (Or.imp (fun y => ⟨y.1, h _ y.2⟩) fun y => ⟨y.1, h _ y.2⟩)⟩
theorem keeps_trans {xs ys : List Str} {m m' m'' : Str → Option Value} (h : Keeps xs m m') (h' : Keeps ys m' m'') : Keeps (xs ++ ys) m m'' := fun y hy => (h' y fun q => hy (List.mem_append_right _ q)).trans (h y fun q => hy (List.mem_append_left _ q))
theorem bodyHead (ed : ttrDef = .FunctionDef nm ps bd [] none [] sc none bn pos) {rest4 : List Stmt} 
    (D : KtsDicts ((envX cn cs Lc a ccd cl :: outer).filterMap (·.frame)) g) (B : Below (ktrTop dp un gd cn cs Lc a ccd cl outer) base (envX cn cs Lc a ccd cl :: outer) g) (F : Fr g L h m) (X : (hd.heap_39 w.params).In g) (N : Led2 g L h la LA lh LH rest) (T : Top topProg loose mean mg mb g) (hck : cs.kind = .function) (hdp : dp + 20 < recursionLimit) (hun : un + 200 < cLine)
    (m1 : m "newpickle" = some (.ref r)) (hr : (r, tupObj [mv, nv]) ∈ rest) (hf : FormIs mv k rest)
    (hret : ∀ x m' rest' h' tk', Keeps ["prfactory", "meta", "klass", "newargs", "inst"] m m' → m' "prfactory" = some (.ref x) → m' "meta" = some mv → m' "inst" = some (.ref k) → Fr g L h' m' → Led2 g L h' la LA lh LH rest' → Sub rest rest' →
      wpAny (model P0 w) ((ktrTop dp un gd cn cs Lc a ccd cl outer).deeper (envOf ttrN sc L 178 (.ref 177))) (execs rest4 (envOf ttrN sc L 178 (.ref 177))) Q E { s₀ with heap := h', toks := tk' }) :
    wpAny (model P0 w) ((ktrTop dp un gd cn cs Lc a ccd cl outer).deeper (envOf ttrN sc L 178 (.ref 177))) (execs (tAt 0 :: tAt 1 :: tAt 2 :: tAt 3 :: rest4) (envOf ttrN sc L 178 (.ref 177))) Q E { s₀ with heap := h, toks := tk } := by
  refine wpAny_execs_cons (blockPf ed rfl D B F X N T hck hdp hun ?_)
  intro x ma resta ha tka Ka ea Fa Na Sa
  refine wpAny_execs_cons (blockMeta ed rfl D B Fa X Na T hck hdp hun (Ka.at m1) (Sa _ hr) ?_)
  intro mb' restb hb tkb Kb eb Fb Nb Sb
  have S2 := Sa.trans Sb
  have key : ∀ m' rest' h' tk', Keeps ["klass", "newargs"] mb' m' → m' "klass" = some (.ref k) → Fr g L h' m' → Led2 g L h' la LA lh LH rest' → Sub restb rest' →
      wpAny (model P0 w) ((ktrTop dp un gd cn cs Lc a ccd cl outer).deeper (envOf ttrN sc L 178 (.ref 177))) (execs (tAt 3 :: rest4) (envOf ttrN sc L 178 (.ref 177))) Q E { s₀ with heap := h', toks := tk' } := by
    intro mc restc hc tkc Kc ec Fc Nc Sc
    refine wpAny_execs_cons (blockInst ed rfl D B Fc X Nc T hck hdp hun ec ?_)
    intro md restd hd' tkd Kd ed' Fd Nd Sd
    exact hret x md restd hd' tkd (keeps_trans Ka (keeps_trans Kb (keeps_trans Kc Kd))) (Kd.at (Kc.at (Kb.at ea))) (Kd.at (Kc.at eb)) ed' Fd Nd ((S2.trans Sc).trans Sd)
  refine wpAny_execs_cons ?_
  rcases FormIs.mono S2 hf with ⟨rfl, dk, es, n, q, q2⟩ | ⟨t0, t1, v, i1, u1, i2, u2, rfl, q, q2⟩
  · exact blockIf_obj ed rfl B Fb X Nb T eb q q2 key
  · exact blockIf_tup ed rfl B Fb X Nb T eb q q2 key
end
-- text V14
section
variable {w : World} {dp un : Nat} {gd : Option (List Code)} {cn : Str} {cs : Scope} {a : Addr} {ccd : Value} {cl : List (Str × Addr)} {outer : List Env} {base g : Heap} {L Lc : Addr} {m : Str → Option Value} {s : Shared} {E : Value → Shared → Prop}     {loose : List Str} {mean : ExcName → Option Value} {mg mb : Str → Option Value} {rest : List (Addr × Obj)} {la lh : Addr} {LA LH : Obj}     {nm bn : Str} {ps : Arguments} {bd : List Stmt} {sc : Scope} {pos : Pos} 
variable {Q : Flow → Shared → Prop} {st k f1 ds t1 t2 pf r q f2 : Addr} {hh1 : Int} {k1 : Tok} {of1 of2 : Obj} {fd1 fd2 : FuncData} {mv v4 : Value} {bo bl bdd : Array UInt8} {to tl td t3 t4 t5 t6 t7 : Tok} {i1 i2 i3 : Int} {s₀ : Shared} {h : Heap} {tk : Tok} {mem : List (Addr × Obj)} {J : Value → (Str → Option Value) → List (Addr × Obj) → Prop} {rest7 : List Stmt}
theorem bodyLoad_handed (ed : ttrDef = .FunctionDef nm ps bd [] none [] sc none bn pos) (XB : (hd.heap_39 w.params).In base) (TB : Top topProg loose mean mg mb base)
    (D : KtsDicts ((envX cn cs Lc a ccd cl :: outer).filterMap (·.frame)) g) (B : Below (ktrTop dp un gd cn cs Lc a ccd cl outer) base (envX cn cs Lc a ccd cl :: outer) g) (F : Fr g L h m) (X : (hd.heap_39 w.params).In g) (N : Led2 g L h la (W.listOf #[] 0) lh LH rest) (T : Top topProg loose mean mg mb g) (CH : CodeHd base 305 301) (hck : cs.kind = .function) (hdp : dp + 20 < recursionLimit) (hun : un + 200 < cLine)
    (hmem : Sub mem rest) (hst : (st, instObj 181 ds) ∈ rest) (hds : (ds, dictOf [⟨hh1, .str (Str.ofString "loadSerial") k1, .ref f1⟩] 1) ∈ rest) (hf1 : (f1, of1) ∈ rest) (hf1' : of1.data = .func fd1)
    (m0 : m "self" = some (.ref st)) (m1 : m "oid" = some (.bytes bo to)) (m2 : m "committedSerial" = some (.bytes bl tl)) (m3 : m "oldSerial" = some (.bytes bdd td)) (m4 : m "committedData" = some (.ref q)) (hq : (q, tupObj [.str "any" t6, .int i2 t7]) ∈ rest) (H1 : Reads w mem f1 la bo bdd to td (.ref t1))
    (hret : ∀ va na m' rest' h' tk', Keeps ["oldData", "committedData"] m m' → m' "oldData" = some (.ref t1) → m' "committedData" = some (.ref q) → Fr g L h' m' → Led2 g L h' la (W.listOf va na) lh LH rest' → Sub rest rest' → HasAll rest' 1 va.toList [.tup [.bytes bo, .bytes bdd]] → wpAny (model P0 w) ((ktrTop dp un gd cn cs Lc a ccd cl outer).deeper (envOf ttrN sc L 178 (.ref 177))) (execs (rest7) (envOf ttrN sc L 178 (.ref 177))) Q E { s₀ with heap := h', toks := tk' }) :
    wpAny (model P0 w) ((ktrTop dp un gd cn cs Lc a ccd cl outer).deeper (envOf ttrN sc L 178 (.ref 177))) (execs (tAt 5 :: tAt 6 :: rest7) (envOf ttrN sc L 178 (.ref 177))) Q E { s₀ with heap := h, toks := tk } := by
  refine wpAny_execs_cons (blockOld_hit (s₀ := s₀) ed rfl XB TB D B F X N T CH hck hdp hun (by decide) hmem hst hds hf1 hf1' m0 m1 m3 H1 ?_)
  intro t ma resta ha tka Ka ea Fa Na Sa hta
  refine wpAny_execs_cons (blockCom_handed (s₀ := s₀) ed rfl B Fa X Na T (Ka.at m4) (Sa _ hq) ?_)
  intro hb tkb Fb Nb
  exact hret _ _ ma resta hb tkb (fun y hy => Ka y fun z => hy (List.mem_cons.mpr (.inl (List.mem_singleton.mp z)))) ea (Ka.at m4) Fb Nb Sa (.cons (.tup hta (.cons (.bytes _ _) (.cons (.bytes _ _) .nil))) .nil)
theorem bodyLoad_read (ed : ttrDef = .FunctionDef nm ps bd [] none [] sc none bn pos) (XB : (hd.heap_39 w.params).In base) (TB : Top topProg loose mean mg mb base)
    (D : KtsDicts ((envX cn cs Lc a ccd cl :: outer).filterMap (·.frame)) g) (B : Below (ktrTop dp un gd cn cs Lc a ccd cl outer) base (envX cn cs Lc a ccd cl :: outer) g) (F : Fr g L h m) (X : (hd.heap_39 w.params).In g) (N : Led2 g L h la (W.listOf #[] 0) lh LH rest) (T : Top topProg loose mean mg mb g) (CH : CodeHd base 305 301) (hck : cs.kind = .function) (hdp : dp + 20 < recursionLimit) (hun : un + 200 < cLine)
    (hmem : Sub mem rest) (hst : (st, instObj 181 ds) ∈ rest) (hds : (ds, dictOf [⟨hh1, .str (Str.ofString "loadSerial") k1, .ref f1⟩] 1) ∈ rest) (hf1 : (f1, of1) ∈ rest) (hf1' : of1.data = .func fd1)
    (m0 : m "self" = some (.ref st)) (m1 : m "oid" = some (.bytes bo to)) (m2 : m "committedSerial" = some (.bytes bl tl)) (m3 : m "oldSerial" = some (.bytes bdd td)) {tc : Tok} (m4 : m "committedData" = some (.bytes #[] tc)) (H1 : Reads w mem f1 la bo bdd to td (.ref t1)) (H2 : Reads w mem f1 la bo bl to tl (.ref t2))
    (hret : ∀ va na m' rest' h' tk', Keeps ["oldData", "committedData"] m m' → m' "oldData" = some (.ref t1) → m' "committedData" = some (.ref t2) → Fr g L h' m' → Led2 g L h' la (W.listOf va na) lh LH rest' → Sub rest rest' → HasAll rest' 1 va.toList [.tup [.bytes bo, .bytes bdd], .tup [.bytes bo, .bytes bl]] → wpAny (model P0 w) ((ktrTop dp un gd cn cs Lc a ccd cl outer).deeper (envOf ttrN sc L 178 (.ref 177))) (execs (rest7) (envOf ttrN sc L 178 (.ref 177))) Q E { s₀ with heap := h', toks := tk' }) :
    wpAny (model P0 w) ((ktrTop dp un gd cn cs Lc a ccd cl outer).deeper (envOf ttrN sc L 178 (.ref 177))) (execs (tAt 5 :: tAt 6 :: rest7) (envOf ttrN sc L 178 (.ref 177))) Q E { s₀ with heap := h, toks := tk } := by
  refine wpAny_execs_cons (blockOld_hit (s₀ := s₀) ed rfl XB TB D B F X N T CH hck hdp hun (by decide) hmem hst hds hf1 hf1' m0 m1 m3 H1 ?_)
  intro t ma resta ha tka Ka ea Fa Na Sa hta
  refine wpAny_execs_cons (blockCom_hit (s₀ := s₀) ed rfl XB TB D B Fa X Na T CH hck hdp hun (Nat.le_of_ble_eq_true rfl) (hmem.trans Sa) (Sa _ hst) (Sa _ hds) (Sa _ hf1) hf1' (Ka.at m0) (Ka.at m1) (Ka.at m4) (Ka.at m2) H2 ?_)
  intro t' mb restb hb tkb Kb eb Fb Nb Sb htb
  exact hret _ _ mb restb hb tkb (keeps_trans Ka Kb) (Kb.at ea) eb Fb Nb (Sa.trans Sb) (.cons (.tup (Sb _ hta) (.cons (.bytes _ _) (.cons (.bytes _ _) .nil))) (.cons (.tup htb (.cons (.bytes _ _) (.cons (.bytes _ _) .nil))) .nil))
theorem bodySt (ed : ttrDef = .FunctionDef nm ps bd [] none [] sc none bn pos) (XB : (hd.heap_39 w.params).In base) (TB : Top topProg loose mean mg mb base)
    (D : KtsDicts ((envX cn cs Lc a ccd cl :: outer).filterMap (·.frame)) g) (B : Below (ktrTop dp un gd cn cs Lc a ccd cl outer) base (envX cn cs Lc a ccd cl :: outer) g) (F : Fr g L h m) (X : (hd.heap_39 w.params).In g) (N : Led2 g L h la LA lh LH rest) (T : Top topProg loose mean mg mb g) (CH : CodeHd base 305 301) (hck : cs.kind = .function) (hdp : dp + 20 < recursionLimit) (hun : un + 200 < cLine)
    (m0 : m "self" = some (.ref st)) (m1 : m "oid" = some (.bytes bo to)) (m2 : m "committedSerial" = some (.bytes bl tl)) (m3 : m "oldSerial" = some (.bytes bdd td)) (mr : m "newpickle" = some (.ref r)) (hr : (r, tupObj [mv, .int i3 t3]) ∈ rest) (mp : m "prfactory" = some (.ref pf)) (mo : m "oldData" = some (.ref t1)) (mcd : m "committedData" = some (.ref t2)) (ht1 : (t1, tupObj [.str "any" t4, .int i1 t5]) ∈ rest) (ht2 : (t2, tupObj [.str "any" t6, .int i2 t7]) ∈ rest)
    (hret : ∀ m' rest' h' tk', Keeps ["newstate", "old", "committed"] m m' → m' "newstate" = some (.int i3 t3) → m' "old" = some (.int i1 t5) → m' "committed" = some (.int i2 t7) → Fr g L h' m' → Led2 g L h' la LA lh LH rest' → Sub rest rest' → wpAny (model P0 w) ((ktrTop dp un gd cn cs Lc a ccd cl outer).deeper (envOf ttrN sc L 178 (.ref 177))) (execs (rest7) (envOf ttrN sc L 178 (.ref 177))) Q E { s₀ with heap := h', toks := tk' }) :
    wpAny (model P0 w) ((ktrTop dp un gd cn cs Lc a ccd cl outer).deeper (envOf ttrN sc L 178 (.ref 177))) (execs (tAt 7 :: tAt 8 :: tAt 9 :: rest7) (envOf ttrN sc L 178 (.ref 177))) Q E { s₀ with heap := h, toks := tk } := by
  refine wpAny_execs_cons (blockNew (s₀ := s₀) ed rfl B F X N T hck hdp hun mr hr ?_)
  intro ma resta ha tka Ka ea Fa Na Sa
  refine wpAny_execs_cons (blockSt1 (s₀ := s₀) ed rfl B Fa X Na T hck hdp hun (Ka.at m0) (Ka.at m1) (Ka.at m3) (Ka.at mp) (Ka.at mo) (Sa _ ht1) ?_)
  intro mb restb hb tkb Kb eb Fb Nb Sb
  refine wpAny_execs_cons (blockSt2 (s₀ := s₀) ed rfl B Fb X Nb T hck hdp hun (Kb.at (Ka.at m0)) (Kb.at (Ka.at m1)) (Kb.at (Ka.at m2)) (Kb.at (Ka.at mp)) (Kb.at (Ka.at mcd)) (Sb _ (Sa _ ht2)) ?_)
  intro mc restc hc tkc Kc ec Fc Nc Sc
  exact hret mc restc hc tkc (keeps_trans Ka (keeps_trans Kb Kc)) (Kc.at (Kb.at ea)) (Kc.at eb) ec Fc Nc ((Sa.trans Sb).trans Sc)
end
-- text V15
section
variable {w : World} {dp un : Nat} {gd : Option (List Code)} {cn : Str} {cs : Scope} {a : Addr} {ccd : Value} {cl : List (Str × Addr)} {outer : List Env} {base g : Heap} {L Lc : Addr} {m : Str → Option Value} {s : Shared} {E : Value → Shared → Prop}     {loose : List Str} {mean : ExcName → Option Value} {mg mb : Str → Option Value} {rest : List (Addr × Obj)} {la lh : Addr} {LA LH : Obj}     {nm bn : Str} {ps : Arguments} {bd : List Stmt} {sc : Scope} {pos : Pos} 
variable {A₀ : Around} {h₀ : Heap} {mc : Str → Option Value} {Q : Value → Shared → Prop} {st k f1 ds t1 t2 pf r q f2 dk : Addr} {hh1 : Int} {k1 : Tok} {of1 of2 : Obj} {fd1 fd2 : FuncData} {mv v4 : Value} {bo bl bdd : Array UInt8} {to tl td t3 t4 t5 t6 t7 : Tok} {i1 i2 i3 : Int} {es : List DictEntry} {n1 : Nat}
def OutBad (rest : List (Addr × Obj)) (A H : List Dt) (la lh : Addr) (news' : List (Addr × Obj)) : Prop := Sub rest news' ∧ Has news' 2 (.ref la) (.lst A) ∧ Has news' 2 (.ref lh) (.lst H)
def OutOk (rest : List (Addr × Obj)) (mv : Value) (A H : List Dt) (R : Dt) (la lh : Addr) (v : Value) (news' : List (Addr × Obj)) : Prop := OutBad rest A H la lh news' ∧ ∃ va rv, v = .ref va ∧ (va, tupObj [mv, rv]) ∈ news' ∧ Has news' 1 rv R
theorem OutBad.mono {rest a b : List (Addr × Obj)} {A H : List Dt} {la lh : Addr} (x : OutBad rest A H la lh a) (h : Sub a b) : OutBad rest A H la lh b := ⟨x.1.trans h, x.2.1.mono h, x.2.2.mono h⟩
theorem outBad_of {rest rest' : List (Addr × Obj)} {A H : List Dt} {la lh : Addr} {va vh : Array Value} {na nh : Nat} (hs : Sub rest rest') (h1 : HasAll rest' 1 va.toList A) (h2 : HasAll rest' 1 vh.toList H) : OutBad rest A H la lh ((la, W.listOf va na) :: (lh, W.listOf vh nh) :: rest') :=
  ⟨fun p hp => .tail _ (.tail _ (hs p hp)), .lst (.head _) (h1.mono fun p hp => .tail _ (.tail _ hp)), .lst (.tail _ (.head _)) (h2.mono fun p hp => .tail _ (.tail _ hp))⟩
def ResIs (k : Addr) (rest : List (Addr × Obj)) : Prop :=
  (∃ dk es n f2, (k, instObj 274 dk) ∈ rest ∧ (dk, dictOf es n) ∈ rest ∧ getL "_p_resolveConflict" es = some (some (.ref f2))) ∨ (∃ dk es n, (k, instObj 245 dk) ∈ rest ∧ (dk, dictOf es n) ∈ rest ∧ getL "_p_resolveConflict" es = some none)
theorem ResIs.mono {k : Addr} {a b : List (Addr × Obj)} (h : Sub a b) (x : ResIs k a) : ResIs k b := by
  rcases x with ⟨dk, es, n, f2, q1, q2, q3⟩ | ⟨dk, es, n, q1, q2, q3⟩
  · exact .inl ⟨dk, es, n, f2, h _ q1, h _ q2, q3⟩
  · exact .inr ⟨dk, es, n, h _ q1, h _ q2, q3⟩
theorem ttr_empty (hd0 : Option Addr) (XB : (hd.heap_39 w.params).In base) (TB : Top topProg loose mean mg mb base) (B : Below A₀ base outer h₀) (F : Fr h₀ Lc s.heap mc) (X : (hd.heap_39 w.params).In h₀) (N : Led2 h₀ Lc s.heap la (W.listOf #[] 0) lh (W.listOf #[] 0) rest) (T : Top topProg loose mean mg mb h₀) (D : KtsDicts (outer.filterMap (·.frame)) h₀) (CH : CodeHd base 305 301)
    (hck : cs.kind = .function) (hdp : dp + 20 < recursionLimit) (hun : un + 200 < cLine)
    (hr : (r, tupObj []) ∈ rest)
    (hbad : ∀ e dd tt es n h' tk' G news', Fr h₀ Lc G mc → RD base G (envX cn cs Lc a ccd cl :: outer) e (.ref 99) (some dd) news' h' → G.UpToSlots h' → OutBad rest ([]) ([]) la lh news' → (dd, dictOf es n) ∈ news' →
      getL "oid" es = some (some (.bytes bo to)) → getL "serials" es = some (some (.ref tt)) → getL "get_oid" es = some none → getL "get_serials" es = some none → (tt, tupObj [.bytes bl tl, .bytes bdd td]) ∈ news' → E (.ref e) { s with heap := h', toks := tk' }) :
    wpAny (model P0 w) (ktrTop dp un gd cn cs Lc a ccd cl outer) (call (.ref 178) ([.ref st, .bytes bo to, .bytes bl tl, .bytes bdd td, .ref r] ++ (hd0 : Option Addr).toList.map Value.ref)) Q E s := by
  refine ttr_shell (tb := [tAt 0, tAt 1, tAt 2, tAt 3, tAt 4, tAt 5, tAt 6, tAt 7, tAt 8, tAt 9, tAt 10, tAt 11]) (Zok := fun _ _ => False) (Zbad := OutBad rest [] [] la lh) hd0 rfl rfl XB TB B F X N T D hck hdp hun ?_ (fun _ _ _ _ _ _ z => z.elim) (fun e dd tt es n h' tk' G news news' z sub FG R U d o1 o2 o3 o4 t => hbad e dd tt es n h' tk' G news' FG R U (z.mono sub) d o1 o2 o3 o4 t)
  intro g L h1 tk1 m FG F N B X T D m0 m1 m2 m3 m4 m5
  refine wpAny_execs_cons (blockPf (s₀ := s) rfl rfl D B F X N T hck hdp hun ?_)
  intro x ma resta ha tka Ka ea Fa Na Sa
  exact wpAny_execs_cons (blockMeta_none (s₀ := s) rfl rfl D B Fa X Na T hck hdp hun (Ka.at m4) (Sa _ hr) ⟨.inl rfl, Ka.at m1, Ka.at m2, Ka.at m3, Ka.at m4, outBad_of Sa .nil .nil⟩)
theorem ttr_none (hd0 : Option Addr) (XB : (hd.heap_39 w.params).In base) (TB : Top topProg loose mean mg mb base) (B : Below A₀ base outer h₀) (F : Fr h₀ Lc s.heap mc) (X : (hd.heap_39 w.params).In h₀) (N : Led2 h₀ Lc s.heap la (W.listOf #[] 0) lh (W.listOf #[] 0) rest) (T : Top topProg loose mean mg mb h₀) (D : KtsDicts (outer.filterMap (·.frame)) h₀) (CH : CodeHd base 305 301)
    (hck : cs.kind = .function) (hdp : dp + 20 < recursionLimit) (hun : un + 200 < cLine)
    (hr : (r, tupObj [mv, .int i3 t3]) ∈ rest) (hfm : FormIs mv k rest) (hk : (k, instObj 274 dk) ∈ rest) (hdk : (dk, dictOf es n1) ∈ rest) (hes : getL "_p_resolveConflict" es = some none)
    (hbad : ∀ e dd tt es n h' tk' G news', Fr h₀ Lc G mc → RD base G (envX cn cs Lc a ccd cl :: outer) e (.ref 99) (some dd) news' h' → G.UpToSlots h' → OutBad rest ([]) ([]) la lh news' → (dd, dictOf es n) ∈ news' →
      getL "oid" es = some (some (.bytes bo to)) → getL "serials" es = some (some (.ref tt)) → getL "get_oid" es = some none → getL "get_serials" es = some none → (tt, tupObj [.bytes bl tl, .bytes bdd td]) ∈ news' → E (.ref e) { s with heap := h', toks := tk' }) :
    wpAny (model P0 w) (ktrTop dp un gd cn cs Lc a ccd cl outer) (call (.ref 178) ([.ref st, .bytes bo to, .bytes bl tl, .bytes bdd td, .ref r] ++ (hd0 : Option Addr).toList.map Value.ref)) Q E s := by
  refine ttr_shell (tb := [tAt 0, tAt 1, tAt 2, tAt 3, tAt 4, tAt 5, tAt 6, tAt 7, tAt 8, tAt 9, tAt 10, tAt 11]) (Zok := fun _ _ => False) (Zbad := OutBad rest [] [] la lh) hd0 rfl rfl XB TB B F X N T D hck hdp hun ?_ (fun _ _ _ _ _ _ z => z.elim) (fun e dd tt es n h' tk' G news news' z sub FG R U d o1 o2 o3 o4 t => hbad e dd tt es n h' tk' G news' FG R U (z.mono sub) d o1 o2 o3 o4 t)
  intro g L h1 tk1 m FG F N B X T D m0 m1 m2 m3 m4 m5
  refine bodyHead (s₀ := s) rfl D B F X N T hck hdp hun m4 hr hfm ?_
  intro x ma resta ha tka Ka e1 e2 e3 Fa Na Sa
  exact wpAny_execs_cons (blockRes_none (s₀ := s) rfl rfl XB TB D B Fa X Na T e3 (Sa _ hk) (Sa _ hdk) hes hdp hun ⟨.inr (.inr (.inr (.inr (.inl rfl)))), Ka.at m1, Ka.at m2, Ka.at m3, Ka.at m4, outBad_of Sa .nil .nil⟩)
end
-- text V16
section
variable {w : World} {dp un : Nat} {gd : Option (List Code)} {cn : Str} {cs : Scope} {a : Addr} {ccd : Value} {cl : List (Str × Addr)} {outer : List Env} {base g : Heap} {L Lc : Addr} {m : Str → Option Value} {s : Shared} {E : Value → Shared → Prop}     {loose : List Str} {mean : ExcName → Option Value} {mg mb : Str → Option Value} {rest : List (Addr × Obj)} {la lh : Addr} {LA LH : Obj}     {nm bn : Str} {ps : Arguments} {bd : List Stmt} {sc : Scope} {pos : Pos} 
variable {A₀ : Around} {h₀ : Heap} {mc : Str → Option Value} {Q : Value → Shared → Prop} {st k f1 ds t1 t2 pf r q f2 dk : Addr} {hh1 : Int} {k1 : Tok} {of1 of2 : Obj} {fd1 fd2 : FuncData} {mv v4 : Value} {bo bl bdd : Array UInt8} {to tl td t3 t4 t5 t6 t7 tn : Tok} {i1 i2 i3 num : Int} {es : List DictEntry} {n1 : Nat}
theorem bodyRes {Q : Flow → Shared → Prop} {s₀ : Shared} {h : Heap} {tk : Tok} {rest5 : List Stmt} (ed : ttrDef = .FunctionDef nm ps bd [] none [] sc none bn pos)
    (B : Below (ktrTop dp un gd cn cs Lc a ccd cl outer) base (envX cn cs Lc a ccd cl :: outer) g) (F : Fr g L h m) (X : (hd.heap_39 w.params).In g) (N : Led2 g L h la LA lh LH rest) (T : Top topProg loose mean mg mb g) (hi : m "inst" = some (.ref k)) (hR : ResIs k rest)
    (hret : ∀ m' rest' h' tk', Keeps ["resolve"] m m' → Fr g L h' m' → Led2 g L h' la LA lh LH rest' → Sub rest rest' → wpAny (model P0 w) ((ktrTop dp un gd cn cs Lc a ccd cl outer).deeper (envOf ttrN sc L 178 (.ref 177))) (execs rest5 (envOf ttrN sc L 178 (.ref 177))) Q E { s₀ with heap := h', toks := tk' }) :
    wpAny (model P0 w) ((ktrTop dp un gd cn cs Lc a ccd cl outer).deeper (envOf ttrN sc L 178 (.ref 177))) (execs (tAt 4 :: rest5) (envOf ttrN sc L 178 (.ref 177))) Q E { s₀ with heap := h, toks := tk } := by
  rcases hR with ⟨dk, es, n, f2, q1, q2, q3⟩ | ⟨dk, es, n, q1, q2, q3⟩
  · exact wpAny_execs_cons (blockRes_own (s := { s₀ with heap := h, toks := tk }) ed rfl B F X N T hi q1 q2 q3 fun m' rest' h' tk' K _ F' N' S' => hret m' rest' h' tk' K F' N' S')
  · exact wpAny_execs_cons (blockRes_len (s := { s₀ with heap := h, toks := tk }) ed rfl B F X N T hi q1 q2 q3 fun q m' rest' h' tk' K _ F' N' S' _ => hret m' rest' h' tk' K F' N' S')
theorem ttr_oldmiss (hd0 : Option Addr) (XB : (hd.heap_39 w.params).In base) (TB : Top topProg loose mean mg mb base) (B : Below A₀ base outer h₀) (F : Fr h₀ Lc s.heap mc) (X : (hd.heap_39 w.params).In h₀) (N : Led2 h₀ Lc s.heap la (W.listOf #[] 0) lh (W.listOf #[] 0) rest) (T : Top topProg loose mean mg mb h₀) (D : KtsDicts (outer.filterMap (·.frame)) h₀) (CH : CodeHd base 305 301)
    (hck : cs.kind = .function) (hdp : dp + 20 < recursionLimit) (hun : un + 200 < cLine)
    (hst : (st, instObj 181 ds) ∈ rest) (hds : (ds, dictOf [⟨hh1, .str (Str.ofString "loadSerial") k1, .ref f1⟩] 1) ∈ rest) (hf1 : (f1, of1) ∈ rest) (hf1' : of1.data = .func fd1) (hr : (r, tupObj [mv, .int i3 t3]) ∈ rest) (hfm : FormIs mv k rest) (hR : ResIs k rest) (H1 : Misses w rest f1 la bo bdd to td)
    (hbad : ∀ e dd tt es n h' tk' G news', Fr h₀ Lc G mc → RD base G (envX cn cs Lc a ccd cl :: outer) e (.ref 99) (some dd) news' h' → G.UpToSlots h' → OutBad rest ([.tup [.bytes bo, .bytes bdd]]) ([]) la lh news' → (dd, dictOf es n) ∈ news' →
      getL "oid" es = some (some (.bytes bo to)) → getL "serials" es = some (some (.ref tt)) → getL "get_oid" es = some none → getL "get_serials" es = some none → (tt, tupObj [.bytes bl tl, .bytes bdd td]) ∈ news' → E (.ref e) { s with heap := h', toks := tk' }) :
    wpAny (model P0 w) (ktrTop dp un gd cn cs Lc a ccd cl outer) (call (.ref 178) ([.ref st, .bytes bo to, .bytes bl tl, .bytes bdd td, .ref r] ++ (hd0 : Option Addr).toList.map Value.ref)) Q E s := by
  refine ttr_shell (tb := [tAt 0, tAt 1, tAt 2, tAt 3, tAt 4, tAt 5, tAt 6, tAt 7, tAt 8, tAt 9, tAt 10, tAt 11]) (Zok := fun _ _ => False) (Zbad := OutBad rest [.tup [.bytes bo, .bytes bdd]] [] la lh) hd0 rfl rfl XB TB B F X N T D hck hdp hun ?_ (fun _ _ _ _ _ _ z => z.elim) (fun e dd tt es n h' tk' G news news' z sub FG R U d o1 o2 o3 o4 t => hbad e dd tt es n h' tk' G news' FG R U (z.mono sub) d o1 o2 o3 o4 t)
  intro g L h1 tk1 m FG F N B X T D m0 m1 m2 m3 m4 m5
  refine bodyHead (s₀ := s) rfl D B F X N T hck hdp hun m4 hr hfm ?_
  intro x ma resta ha tka Ka pa mta ina Fa Na Sa
  refine bodyRes (s₀ := s) rfl B Fa X Na T ina (hR.mono Sa) ?_
  intro mb restb hb tkb Kb Fb Nb Sb
  have S2 := Sa.trans Sb
  refine wpAny_execs_cons (blockOld_miss (s₀ := s) rfl rfl XB TB D B Fb X Nb T CH hck hdp hun (by decide) S2 (S2 _ hst) (S2 _ hds) (S2 _ hf1) hf1' (Kb.at (Ka.at m0)) (Kb.at (Ka.at m1)) (Kb.at (Ka.at m3)) H1 ?_)
  intro t rest' ht hs _ _
  exact ⟨.inr (.inl rfl), Kb.at (Ka.at m1), Kb.at (Ka.at m2), Kb.at (Ka.at m3), Kb.at (Ka.at m4), outBad_of (S2.trans hs) (.cons (.tup ht (.cons (.bytes _ _) (.cons (.bytes _ _) .nil))) .nil) .nil⟩
theorem ttr_lastmiss (XB : (hd.heap_39 w.params).In base) (TB : Top topProg loose mean mg mb base) (B : Below A₀ base outer h₀) (F : Fr h₀ Lc s.heap mc) (X : (hd.heap_39 w.params).In h₀) (N : Led2 h₀ Lc s.heap la (W.listOf #[] 0) lh (W.listOf #[] 0) rest) (T : Top topProg loose mean mg mb h₀) (D : KtsDicts (outer.filterMap (·.frame)) h₀) (CH : CodeHd base 305 301)
    (hck : cs.kind = .function) (hdp : dp + 20 < recursionLimit) (hun : un + 200 < cLine)
    (hst : (st, instObj 181 ds) ∈ rest) (hds : (ds, dictOf [⟨hh1, .str (Str.ofString "loadSerial") k1, .ref f1⟩] 1) ∈ rest) (hf1 : (f1, of1) ∈ rest) (hf1' : of1.data = .func fd1) (hr : (r, tupObj [mv, .int i3 t3]) ∈ rest) (hfm : FormIs mv k rest) (hR : ResIs k rest) (H1 : Reads w rest f1 la bo bdd to td (.ref t1)) (ht1 : (t1, tupObj [.str "any" t4, .int i1 t5]) ∈ rest) (H2 : Misses w rest f1 la bo bl to tl)
    (hbad : ∀ e dd tt es n h' tk' G news', Fr h₀ Lc G mc → RD base G (envX cn cs Lc a ccd cl :: outer) e (.ref 99) (some dd) news' h' → G.UpToSlots h' → OutBad rest ([.tup [.bytes bo, .bytes bdd], .tup [.bytes bo, .bytes bl]]) ([]) la lh news' → (dd, dictOf es n) ∈ news' →
      getL "oid" es = some (some (.bytes bo to)) → getL "serials" es = some (some (.ref tt)) → getL "get_oid" es = some none → getL "get_serials" es = some none → (tt, tupObj [.bytes bl tl, .bytes bdd td]) ∈ news' → E (.ref e) { s with heap := h', toks := tk' }) :
    wpAny (model P0 w) (ktrTop dp un gd cn cs Lc a ccd cl outer) (call (.ref 178) ([.ref st, .bytes bo to, .bytes bl tl, .bytes bdd td, .ref r] ++ (none : Option Addr).toList.map Value.ref)) Q E s := by
  refine ttr_shell (tb := [tAt 0, tAt 1, tAt 2, tAt 3, tAt 4, tAt 5, tAt 6, tAt 7, tAt 8, tAt 9, tAt 10, tAt 11]) (Zok := fun _ _ => False) (Zbad := OutBad rest [.tup [.bytes bo, .bytes bdd], .tup [.bytes bo, .bytes bl]] [] la lh) none rfl rfl XB TB B F X N T D hck hdp hun ?_ (fun _ _ _ _ _ _ z => z.elim) (fun e dd tt es n h' tk' G news news' z sub FG R U d o1 o2 o3 o4 t => hbad e dd tt es n h' tk' G news' FG R U (z.mono sub) d o1 o2 o3 o4 t)
  intro g L h1 tk1 m FG F N B X T D m0 m1 m2 m3 m4 m5
  refine bodyHead (s₀ := s) rfl D B F X N T hck hdp hun m4 hr hfm ?_
  intro x ma resta ha tka Ka pa mta ina Fa Na Sa
  refine bodyRes (s₀ := s) rfl B Fa X Na T ina (hR.mono Sa) ?_
  intro mb restb hb tkb Kb Fb Nb Sb
  have S2 := Sa.trans Sb
  obtain ⟨tc, m5⟩ := m5
  refine wpAny_execs_cons (blockOld_hit (s₀ := s) rfl rfl XB TB D B Fb X Nb T CH hck hdp hun (by decide) S2 (S2 _ hst) (S2 _ hds) (S2 _ hf1) hf1' (Kb.at (Ka.at m0)) (Kb.at (Ka.at m1)) (Kb.at (Ka.at m3)) H1 ?_)
  intro t mc' restc hc tkc Kc ec Fc Nc Sc htc
  have S3 := S2.trans Sc
  refine wpAny_execs_cons (blockCom_miss (s₀ := s) rfl rfl XB TB D B Fc X Nc T CH hck hdp hun (Nat.le_of_ble_eq_true rfl) S3 (S3 _ hst) (S3 _ hds) (S3 _ hf1) hf1' (Kc.at (Kb.at (Ka.at m0))) (Kc.at (Kb.at (Ka.at m1))) (Kc.at (Kb.at (Ka.at m5))) (Kc.at (Kb.at (Ka.at m2))) H2 ?_)
  intro t' rest' ht hs _ _
  exact ⟨.inr (.inl rfl), Kc.at (Kb.at (Ka.at m1)), Kc.at (Kb.at (Ka.at m2)), Kc.at (Kb.at (Ka.at m3)), Kc.at (Kb.at (Ka.at m4)), outBad_of (S3.trans hs) (.cons (.tup (hs _ htc) (.cons (.bytes _ _) (.cons (.bytes _ _) .nil))) (.cons (.tup ht (.cons (.bytes _ _) (.cons (.bytes _ _) .nil))) .nil)) .nil⟩
theorem ttr_ok_handed (XB : (hd.heap_39 w.params).In base) (TB : Top topProg loose mean mg mb base) (B : Below A₀ base outer h₀) (F : Fr h₀ Lc s.heap mc) (X : (hd.heap_39 w.params).In h₀) (N : Led2 h₀ Lc s.heap la (W.listOf #[] 0) lh (W.listOf #[] 0) rest) (T : Top topProg loose mean mg mb h₀) (D : KtsDicts (outer.filterMap (·.frame)) h₀) (CH : CodeHd base 305 301)
    (hck : cs.kind = .function) (hdp : dp + 20 < recursionLimit) (hun : un + 200 < cLine)
    (hst : (st, instObj 181 ds) ∈ rest) (hds : (ds, dictOf [⟨hh1, .str (Str.ofString "loadSerial") k1, .ref f1⟩] 1) ∈ rest) (hf1 : (f1, of1) ∈ rest) (hf1' : of1.data = .func fd1) (hr : (r, tupObj [mv, .int i3 t3]) ∈ rest) (hfm : FormIs mv k rest) (H1 : Reads w rest f1 la bo bdd to td (.ref t1)) (ht1 : (t1, tupObj [.str "any" t4, .int i1 t5]) ∈ rest) (ht2 : (q, tupObj [.str "any" t6, .int i2 t7]) ∈ rest) (hk : (k, instObj 274 dk) ∈ rest) (hdk : (dk, dictOf es n1) ∈ rest) (hes : getL "_p_resolveConflict" es = some (some (.ref f2))) (hf2 : (f2, of2) ∈ rest) (hf2' : of2.data = .func fd2) (H3 : MergesOk w rest f2 lh (.int i1 t5) (.int i2 t7) (.int i3 t3) (.int num tn))
    (hok : ∀ v h' tk' news', Fr h₀ Lc h' mc → News h₀ Lc h' news' → OutOk rest mv ([.tup [.bytes bo, .bytes bdd]]) ([.tup [.int i1, .int i2, .int i3]]) (.lst [.int i1, .int i2, .int i3, .int num]) la lh v news' → Q v { s with heap := h', toks := tk' }) :
    wpAny (model P0 w) (ktrTop dp un gd cn cs Lc a ccd cl outer) (call (.ref 178) ([.ref st, .bytes bo to, .bytes bl tl, .bytes bdd td, .ref r] ++ ((some q) : Option Addr).toList.map Value.ref)) Q E s := by
  refine ttr_shell (tb := [tAt 0, tAt 1, tAt 2, tAt 3, tAt 4, tAt 5, tAt 6, tAt 7, tAt 8, tAt 9, tAt 10, tAt 11]) (Zok := OutOk rest mv [.tup [.bytes bo, .bytes bdd]] [.tup [.int i1, .int i2, .int i3]] (.lst [.int i1, .int i2, .int i3, .int num]) la lh) (Zbad := fun _ => False) (some q) rfl rfl XB TB B F X N T D hck hdp hun ?_ (fun v h' tk' news' F' N' z => hok v h' tk' news' F' N' z) (fun _ _ _ _ _ _ _ _ _ _ z => z.elim)
  intro g L h1 tk1 m FG F N B X T D m0 m1 m2 m3 m4 m5
  refine bodyHead (s₀ := s) rfl D B F X N T hck hdp hun m4 hr hfm ?_
  intro x ma resta ha tka Ka pa mta ina Fa Na Sa
  refine wpAny_execs_cons (blockRes_own (s := { s with heap := ha, toks := tka }) rfl rfl B Fa X Na T ina (Sa _ hk) (Sa _ hdk) hes ?_)
  intro mb restb hb tkb Kb eb Fb Nb Sb
  have S2 := Sa.trans Sb
  refine bodyLoad_handed (s₀ := s) (t6 := t6) (i2 := i2) (t7 := t7) (t1 := t1) rfl XB TB D B Fb X Nb T CH hck hdp hun S2 (S2 _ hst) (S2 _ hds) (S2 _ hf1) hf1' (Kb.at (Ka.at m0)) (Kb.at (Ka.at m1)) (Kb.at (Ka.at m2)) (Kb.at (Ka.at m3)) (Kb.at (Ka.at m5)) (S2 _ ht2) H1 ?_
  intro va na mc' restc hc tkc Kc ec1 ec2 Fc Nc Sc hA
  have S3 := S2.trans Sc
  refine bodySt (s₀ := s) (t4 := t4) (t6 := t6) rfl XB TB D B Fc X Nc T CH hck hdp hun (Kc.at (Kb.at (Ka.at m0))) (Kc.at (Kb.at (Ka.at m1))) (Kc.at (Kb.at (Ka.at m2))) (Kc.at (Kb.at (Ka.at m3))) (Kc.at (Kb.at (Ka.at m4))) (S3 _ hr) (Kc.at (Kb.at pa)) ec1 ec2 (S3 _ ht1) (S3 _ ht2) ?_
  intro md restd hd' tkd Kd ed1 ed2 ed3 Fd Nd Sd
  have S4 := S3.trans Sd
  refine wpAny_execs_cons (blockMerge_ok (s₀ := s) rfl rfl D B Fd X Nd T CH hck hdp hun ed2 ed3 ed1 (Kd.at (Kc.at eb)) (S4 _ hf2) hf2' S4 H3 ?_)
  intro l t me reste he tke Ke ee Fe Ne Se ht hl
  refine wpAny_execs_cons (blockRet (s₀ := s) rfl rfl B Fe X Ne T (Ke.at (Kd.at (Kc.at (Kb.at mta)))) ee ?_)
  intro v restf hf tkf Ff Nf Sf hv
  exact ⟨_, hf, tkf, me, _, rfl, rfl, Ff, Nf.N, outBad_of (((S4.trans Se).trans Sf)) (hA.mono ((Sd.trans Se).trans Sf)) (.cons (.tup (Sf _ ht) (.cons (.int _ _) (.cons (.int _ _) (.cons (.int _ _) .nil)))) .nil), v, _, rfl, .tail _ (.tail _ hv), .lst (.tail _ (.tail _ (Sf _ hl))) (.cons (.int _ _) (.cons (.int _ _) (.cons (.int _ _) (.cons (.int _ _) .nil))))⟩
theorem ttr_ok_read (XB : (hd.heap_39 w.params).In base) (TB : Top topProg loose mean mg mb base) (B : Below A₀ base outer h₀) (F : Fr h₀ Lc s.heap mc) (X : (hd.heap_39 w.params).In h₀) (N : Led2 h₀ Lc s.heap la (W.listOf #[] 0) lh (W.listOf #[] 0) rest) (T : Top topProg loose mean mg mb h₀) (D : KtsDicts (outer.filterMap (·.frame)) h₀) (CH : CodeHd base 305 301)
    (hck : cs.kind = .function) (hdp : dp + 20 < recursionLimit) (hun : un + 200 < cLine)
    (hst : (st, instObj 181 ds) ∈ rest) (hds : (ds, dictOf [⟨hh1, .str (Str.ofString "loadSerial") k1, .ref f1⟩] 1) ∈ rest) (hf1 : (f1, of1) ∈ rest) (hf1' : of1.data = .func fd1) (hr : (r, tupObj [mv, .int i3 t3]) ∈ rest) (hfm : FormIs mv k rest) (H1 : Reads w rest f1 la bo bdd to td (.ref t1)) (ht1 : (t1, tupObj [.str "any" t4, .int i1 t5]) ∈ rest) (H2 : Reads w rest f1 la bo bl to tl (.ref t2)) (ht2 : (t2, tupObj [.str "any" t6, .int i2 t7]) ∈ rest) (hk : (k, instObj 274 dk) ∈ rest) (hdk : (dk, dictOf es n1) ∈ rest) (hes : getL "_p_resolveConflict" es = some (some (.ref f2))) (hf2 : (f2, of2) ∈ rest) (hf2' : of2.data = .func fd2) (H3 : MergesOk w rest f2 lh (.int i1 t5) (.int i2 t7) (.int i3 t3) (.int num tn))
    (hok : ∀ v h' tk' news', Fr h₀ Lc h' mc → News h₀ Lc h' news' → OutOk rest mv ([.tup [.bytes bo, .bytes bdd], .tup [.bytes bo, .bytes bl]]) ([.tup [.int i1, .int i2, .int i3]]) (.lst [.int i1, .int i2, .int i3, .int num]) la lh v news' → Q v { s with heap := h', toks := tk' }) :
    wpAny (model P0 w) (ktrTop dp un gd cn cs Lc a ccd cl outer) (call (.ref 178) ([.ref st, .bytes bo to, .bytes bl tl, .bytes bdd td, .ref r] ++ (none : Option Addr).toList.map Value.ref)) Q E s := by
  refine ttr_shell (tb := [tAt 0, tAt 1, tAt 2, tAt 3, tAt 4, tAt 5, tAt 6, tAt 7, tAt 8, tAt 9, tAt 10, tAt 11]) (Zok := OutOk rest mv [.tup [.bytes bo, .bytes bdd], .tup [.bytes bo, .bytes bl]] [.tup [.int i1, .int i2, .int i3]] (.lst [.int i1, .int i2, .int i3, .int num]) la lh) (Zbad := fun _ => False) none rfl rfl XB TB B F X N T D hck hdp hun ?_ (fun v h' tk' news' F' N' z => hok v h' tk' news' F' N' z) (fun _ _ _ _ _ _ _ _ _ _ z => z.elim)
  intro g L h1 tk1 m FG F N B X T D m0 m1 m2 m3 m4 m5
  refine bodyHead (s₀ := s) rfl D B F X N T hck hdp hun m4 hr hfm ?_
  intro x ma resta ha tka Ka pa mta ina Fa Na Sa
  refine wpAny_execs_cons (blockRes_own (s := { s with heap := ha, toks := tka }) rfl rfl B Fa X Na T ina (Sa _ hk) (Sa _ hdk) hes ?_)
  intro mb restb hb tkb Kb eb Fb Nb Sb
  have S2 := Sa.trans Sb
  obtain ⟨tc, m5⟩ := m5
  refine bodyLoad_read (s₀ := s) (t1 := t1) (t2 := t2) rfl XB TB D B Fb X Nb T CH hck hdp hun S2 (S2 _ hst) (S2 _ hds) (S2 _ hf1) hf1' (Kb.at (Ka.at m0)) (Kb.at (Ka.at m1)) (Kb.at (Ka.at m2)) (Kb.at (Ka.at m3)) (Kb.at (Ka.at m5)) H1 H2 ?_
  intro va na mc' restc hc tkc Kc ec1 ec2 Fc Nc Sc hA
  have S3 := S2.trans Sc
  refine bodySt (s₀ := s) (t4 := t4) (t6 := t6) rfl XB TB D B Fc X Nc T CH hck hdp hun (Kc.at (Kb.at (Ka.at m0))) (Kc.at (Kb.at (Ka.at m1))) (Kc.at (Kb.at (Ka.at m2))) (Kc.at (Kb.at (Ka.at m3))) (Kc.at (Kb.at (Ka.at m4))) (S3 _ hr) (Kc.at (Kb.at pa)) ec1 ec2 (S3 _ ht1) (S3 _ ht2) ?_
  intro md restd hd' tkd Kd ed1 ed2 ed3 Fd Nd Sd
  have S4 := S3.trans Sd
  refine wpAny_execs_cons (blockMerge_ok (s₀ := s) rfl rfl D B Fd X Nd T CH hck hdp hun ed2 ed3 ed1 (Kd.at (Kc.at eb)) (S4 _ hf2) hf2' S4 H3 ?_)
  intro l t me reste he tke Ke ee Fe Ne Se ht hl
  refine wpAny_execs_cons (blockRet (s₀ := s) rfl rfl B Fe X Ne T (Ke.at (Kd.at (Kc.at (Kb.at mta)))) ee ?_)
  intro v restf hf tkf Ff Nf Sf hv
  exact ⟨_, hf, tkf, me, _, rfl, rfl, Ff, Nf.N, outBad_of (((S4.trans Se).trans Sf)) (hA.mono ((Sd.trans Se).trans Sf)) (.cons (.tup (Sf _ ht) (.cons (.int _ _) (.cons (.int _ _) (.cons (.int _ _) .nil)))) .nil), v, _, rfl, .tail _ (.tail _ hv), .lst (.tail _ (.tail _ (Sf _ hl))) (.cons (.int _ _) (.cons (.int _ _) (.cons (.int _ _) (.cons (.int _ _) .nil))))⟩
theorem ttr_bad_handed (XB : (hd.heap_39 w.params).In base) (TB : Top topProg loose mean mg mb base) (B : Below A₀ base outer h₀) (F : Fr h₀ Lc s.heap mc) (X : (hd.heap_39 w.params).In h₀) (N : Led2 h₀ Lc s.heap la (W.listOf #[] 0) lh (W.listOf #[] 0) rest) (T : Top topProg loose mean mg mb h₀) (D : KtsDicts (outer.filterMap (·.frame)) h₀) (CH : CodeHd base 305 301)
    (hck : cs.kind = .function) (hdp : dp + 20 < recursionLimit) (hun : un + 200 < cLine)
    (hst : (st, instObj 181 ds) ∈ rest) (hds : (ds, dictOf [⟨hh1, .str (Str.ofString "loadSerial") k1, .ref f1⟩] 1) ∈ rest) (hf1 : (f1, of1) ∈ rest) (hf1' : of1.data = .func fd1) (hr : (r, tupObj [mv, .int i3 t3]) ∈ rest) (hfm : FormIs mv k rest) (H1 : Reads w rest f1 la bo bdd to td (.ref t1)) (ht1 : (t1, tupObj [.str "any" t4, .int i1 t5]) ∈ rest) (ht2 : (q, tupObj [.str "any" t6, .int i2 t7]) ∈ rest) (hk : (k, instObj 274 dk) ∈ rest) (hdk : (dk, dictOf es n1) ∈ rest) (hes : getL "_p_resolveConflict" es = some (some (.ref f2))) (hf2 : (f2, of2) ∈ rest) (hf2' : of2.data = .func fd2) (H3 : MergesBad w rest f2 lh (.int i1 t5) (.int i2 t7) (.int i3 t3))
    (hbad : ∀ e dd tt es n h' tk' G news', Fr h₀ Lc G mc → RD base G (envX cn cs Lc a ccd cl :: outer) e (.ref 99) (some dd) news' h' → G.UpToSlots h' → OutBad rest ([.tup [.bytes bo, .bytes bdd]]) ([.tup [.int i1, .int i2, .int i3]]) la lh news' → (dd, dictOf es n) ∈ news' →
      getL "oid" es = some (some (.bytes bo to)) → getL "serials" es = some (some (.ref tt)) → getL "get_oid" es = some none → getL "get_serials" es = some none → (tt, tupObj [.bytes bl tl, .bytes bdd td]) ∈ news' → E (.ref e) { s with heap := h', toks := tk' }) :
    wpAny (model P0 w) (ktrTop dp un gd cn cs Lc a ccd cl outer) (call (.ref 178) ([.ref st, .bytes bo to, .bytes bl tl, .bytes bdd td, .ref r] ++ ((some q) : Option Addr).toList.map Value.ref)) Q E s := by
  refine ttr_shell (tb := [tAt 0, tAt 1, tAt 2, tAt 3, tAt 4, tAt 5, tAt 6, tAt 7, tAt 8, tAt 9, tAt 10, tAt 11]) (Zok := fun _ _ => False) (Zbad := OutBad rest [.tup [.bytes bo, .bytes bdd]] [.tup [.int i1, .int i2, .int i3]] la lh) (some q) rfl rfl XB TB B F X N T D hck hdp hun ?_ (fun _ _ _ _ _ _ z => z.elim) (fun e dd tt es n h' tk' G news news' z sub FG R U d o1 o2 o3 o4 t => hbad e dd tt es n h' tk' G news' FG R U (z.mono sub) d o1 o2 o3 o4 t)
  intro g L h1 tk1 m FG F N B X T D m0 m1 m2 m3 m4 m5
  refine bodyHead (s₀ := s) rfl D B F X N T hck hdp hun m4 hr hfm ?_
  intro x ma resta ha tka Ka pa mta ina Fa Na Sa
  refine wpAny_execs_cons (blockRes_own (s := { s with heap := ha, toks := tka }) rfl rfl B Fa X Na T ina (Sa _ hk) (Sa _ hdk) hes ?_)
  intro mb restb hb tkb Kb eb Fb Nb Sb
  have S2 := Sa.trans Sb
  refine bodyLoad_handed (s₀ := s) (t6 := t6) (i2 := i2) (t7 := t7) (t1 := t1) rfl XB TB D B Fb X Nb T CH hck hdp hun S2 (S2 _ hst) (S2 _ hds) (S2 _ hf1) hf1' (Kb.at (Ka.at m0)) (Kb.at (Ka.at m1)) (Kb.at (Ka.at m2)) (Kb.at (Ka.at m3)) (Kb.at (Ka.at m5)) (S2 _ ht2) H1 ?_
  intro va na mc' restc hc tkc Kc ec1 ec2 Fc Nc Sc hA
  have S3 := S2.trans Sc
  refine bodySt (s₀ := s) (t4 := t4) (t6 := t6) rfl XB TB D B Fc X Nc T CH hck hdp hun (Kc.at (Kb.at (Ka.at m0))) (Kc.at (Kb.at (Ka.at m1))) (Kc.at (Kb.at (Ka.at m2))) (Kc.at (Kb.at (Ka.at m3))) (Kc.at (Kb.at (Ka.at m4))) (S3 _ hr) (Kc.at (Kb.at pa)) ec1 ec2 (S3 _ ht1) (S3 _ ht2) ?_
  intro md restd hd' tkd Kd ed1 ed2 ed3 Fd Nd Sd
  have S4 := S3.trans Sd
  refine wpAny_execs_cons (blockMerge_bad (s₀ := s) rfl rfl D B Fd X Nd T CH hck hdp hun ed2 ed3 ed1 (Kd.at (Kc.at eb)) (S4 _ hf2) hf2' S4 H3 ?_)
  intro cls t rest' hc' ht hs _ _
  exact ⟨.inr (.inr hc'), Kd.at (Kc.at (Kb.at (Ka.at m1))), Kd.at (Kc.at (Kb.at (Ka.at m2))), Kd.at (Kc.at (Kb.at (Ka.at m3))), Kd.at (Kc.at (Kb.at (Ka.at m4))), outBad_of (S4.trans hs) (hA.mono (Sd.trans hs)) (.cons (.tup ht (.cons (.int _ _) (.cons (.int _ _) (.cons (.int _ _) .nil)))) .nil)⟩
theorem ttr_bad_read (XB : (hd.heap_39 w.params).In base) (TB : Top topProg loose mean mg mb base) (B : Below A₀ base outer h₀) (F : Fr h₀ Lc s.heap mc) (X : (hd.heap_39 w.params).In h₀) (N : Led2 h₀ Lc s.heap la (W.listOf #[] 0) lh (W.listOf #[] 0) rest) (T : Top topProg loose mean mg mb h₀) (D : KtsDicts (outer.filterMap (·.frame)) h₀) (CH : CodeHd base 305 301)
    (hck : cs.kind = .function) (hdp : dp + 20 < recursionLimit) (hun : un + 200 < cLine)
    (hst : (st, instObj 181 ds) ∈ rest) (hds : (ds, dictOf [⟨hh1, .str (Str.ofString "loadSerial") k1, .ref f1⟩] 1) ∈ rest) (hf1 : (f1, of1) ∈ rest) (hf1' : of1.data = .func fd1) (hr : (r, tupObj [mv, .int i3 t3]) ∈ rest) (hfm : FormIs mv k rest) (H1 : Reads w rest f1 la bo bdd to td (.ref t1)) (ht1 : (t1, tupObj [.str "any" t4, .int i1 t5]) ∈ rest) (H2 : Reads w rest f1 la bo bl to tl (.ref t2)) (ht2 : (t2, tupObj [.str "any" t6, .int i2 t7]) ∈ rest) (hk : (k, instObj 274 dk) ∈ rest) (hdk : (dk, dictOf es n1) ∈ rest) (hes : getL "_p_resolveConflict" es = some (some (.ref f2))) (hf2 : (f2, of2) ∈ rest) (hf2' : of2.data = .func fd2) (H3 : MergesBad w rest f2 lh (.int i1 t5) (.int i2 t7) (.int i3 t3))
    (hbad : ∀ e dd tt es n h' tk' G news', Fr h₀ Lc G mc → RD base G (envX cn cs Lc a ccd cl :: outer) e (.ref 99) (some dd) news' h' → G.UpToSlots h' → OutBad rest ([.tup [.bytes bo, .bytes bdd], .tup [.bytes bo, .bytes bl]]) ([.tup [.int i1, .int i2, .int i3]]) la lh news' → (dd, dictOf es n) ∈ news' →
      getL "oid" es = some (some (.bytes bo to)) → getL "serials" es = some (some (.ref tt)) → getL "get_oid" es = some none → getL "get_serials" es = some none → (tt, tupObj [.bytes bl tl, .bytes bdd td]) ∈ news' → E (.ref e) { s with heap := h', toks := tk' }) :
    wpAny (model P0 w) (ktrTop dp un gd cn cs Lc a ccd cl outer) (call (.ref 178) ([.ref st, .bytes bo to, .bytes bl tl, .bytes bdd td, .ref r] ++ (none : Option Addr).toList.map Value.ref)) Q E s := by
  refine ttr_shell (tb := [tAt 0, tAt 1, tAt 2, tAt 3, tAt 4, tAt 5, tAt 6, tAt 7, tAt 8, tAt 9, tAt 10, tAt 11]) (Zok := fun _ _ => False) (Zbad := OutBad rest [.tup [.bytes bo, .bytes bdd], .tup [.bytes bo, .bytes bl]] [.tup [.int i1, .int i2, .int i3]] la lh) none rfl rfl XB TB B F X N T D hck hdp hun ?_ (fun _ _ _ _ _ _ z => z.elim) (fun e dd tt es n h' tk' G news news' z sub FG R U d o1 o2 o3 o4 t => hbad e dd tt es n h' tk' G news' FG R U (z.mono sub) d o1 o2 o3 o4 t)
  intro g L h1 tk1 m FG F N B X T D m0 m1 m2 m3 m4 m5
  refine bodyHead (s₀ := s) rfl D B F X N T hck hdp hun m4 hr hfm ?_
  intro x ma resta ha tka Ka pa mta ina Fa Na Sa
  refine wpAny_execs_cons (blockRes_own (s := { s with heap := ha, toks := tka }) rfl rfl B Fa X Na T ina (Sa _ hk) (Sa _ hdk) hes ?_)
  intro mb restb hb tkb Kb eb Fb Nb Sb
  have S2 := Sa.trans Sb
  obtain ⟨tc, m5⟩ := m5
  refine bodyLoad_read (s₀ := s) (t1 := t1) (t2 := t2) rfl XB TB D B Fb X Nb T CH hck hdp hun S2 (S2 _ hst) (S2 _ hds) (S2 _ hf1) hf1' (Kb.at (Ka.at m0)) (Kb.at (Ka.at m1)) (Kb.at (Ka.at m2)) (Kb.at (Ka.at m3)) (Kb.at (Ka.at m5)) H1 H2 ?_
  intro va na mc' restc hc tkc Kc ec1 ec2 Fc Nc Sc hA
  have S3 := S2.trans Sc
  refine bodySt (s₀ := s) (t4 := t4) (t6 := t6) rfl XB TB D B Fc X Nc T CH hck hdp hun (Kc.at (Kb.at (Ka.at m0))) (Kc.at (Kb.at (Ka.at m1))) (Kc.at (Kb.at (Ka.at m2))) (Kc.at (Kb.at (Ka.at m3))) (Kc.at (Kb.at (Ka.at m4))) (S3 _ hr) (Kc.at (Kb.at pa)) ec1 ec2 (S3 _ ht1) (S3 _ ht2) ?_
  intro md restd hd' tkd Kd ed1 ed2 ed3 Fd Nd Sd
  have S4 := S3.trans Sd
  refine wpAny_execs_cons (blockMerge_bad (s₀ := s) rfl rfl D B Fd X Nd T CH hck hdp hun ed2 ed3 ed1 (Kd.at (Kc.at eb)) (S4 _ hf2) hf2' S4 H3 ?_)
  intro cls t rest' hc' ht hs _ _
  exact ⟨.inr (.inr hc'), Kd.at (Kc.at (Kb.at (Ka.at m1))), Kd.at (Kc.at (Kb.at (Ka.at m2))), Kd.at (Kc.at (Kb.at (Ka.at m3))), Kd.at (Kc.at (Kb.at (Ka.at m4))), outBad_of (S4.trans hs) (hA.mono (Sd.trans hs)) (.cons (.tup ht (.cons (.int _ _) (.cons (.int _ _) (.cons (.int _ _) .nil)))) .nil)⟩
theorem ttr_len_handed (XB : (hd.heap_39 w.params).In base) (TB : Top topProg loose mean mg mb base) (B : Below A₀ base outer h₀) (F : Fr h₀ Lc s.heap mc) (X : (hd.heap_39 w.params).In h₀) (N : Led2 h₀ Lc s.heap la (W.listOf #[] 0) lh (W.listOf #[] 0) rest) (T : Top topProg loose mean mg mb h₀) (D : KtsDicts (outer.filterMap (·.frame)) h₀) (CH : CodeHd base 305 301)
    (hck : cs.kind = .function) (hdp : dp + 20 < recursionLimit) (hun : un + 200 < cLine)
    (hst : (st, instObj 181 ds) ∈ rest) (hds : (ds, dictOf [⟨hh1, .str (Str.ofString "loadSerial") k1, .ref f1⟩] 1) ∈ rest) (hf1 : (f1, of1) ∈ rest) (hf1' : of1.data = .func fd1) (hr : (r, tupObj [mv, .int i3 t3]) ∈ rest) (hfm : FormIs mv k rest) (H1 : Reads w rest f1 la bo bdd to td (.ref t1)) (ht1 : (t1, tupObj [.str "any" t4, .int i1 t5]) ∈ rest) (ht2 : (q, tupObj [.str "any" t6, .int i2 t7]) ∈ rest) (hk : (k, instObj 245 dk) ∈ rest) (hdk : (dk, dictOf es n1) ∈ rest) (hes : getL "_p_resolveConflict" es = some none) (b1 : 0 ≤ i1 ∧ i1 < 100) (b2 : 0 ≤ i2 ∧ i2 < 100) (b3 : 0 ≤ i3 ∧ i3 < 100)
    (hok : ∀ v h' tk' news', Fr h₀ Lc h' mc → News h₀ Lc h' news' → OutOk rest mv ([.tup [.bytes bo, .bytes bdd]]) ([]) (.int (i2 + i3 - i1)) la lh v news' → Q v { s with heap := h', toks := tk' }) :
    wpAny (model P0 w) (ktrTop dp un gd cn cs Lc a ccd cl outer) (call (.ref 178) ([.ref st, .bytes bo to, .bytes bl tl, .bytes bdd td, .ref r] ++ ((some q) : Option Addr).toList.map Value.ref)) Q E s := by
  refine ttr_shell (tb := [tAt 0, tAt 1, tAt 2, tAt 3, tAt 4, tAt 5, tAt 6, tAt 7, tAt 8, tAt 9, tAt 10, tAt 11]) (Zok := OutOk rest mv [.tup [.bytes bo, .bytes bdd]] [] (.int (i2 + i3 - i1)) la lh) (Zbad := fun _ => False) (some q) rfl rfl XB TB B F X N T D hck hdp hun ?_ (fun v h' tk' news' F' N' z => hok v h' tk' news' F' N' z) (fun _ _ _ _ _ _ _ _ _ _ z => z.elim)
  intro g L h1 tk1 m FG F N B X T D m0 m1 m2 m3 m4 m5
  refine bodyHead (s₀ := s) rfl D B F X N T hck hdp hun m4 hr hfm ?_
  intro x ma resta ha tka Ka pa mta ina Fa Na Sa
  refine wpAny_execs_cons (blockRes_len (s := { s with heap := ha, toks := tka }) rfl rfl B Fa X Na T ina (Sa _ hk) (Sa _ hdk) hes ?_)
  intro qm mb restb hb tkb Kb eb Fb Nb Sb hqm
  have S2 := Sa.trans Sb
  refine bodyLoad_handed (s₀ := s) (t6 := t6) (i2 := i2) (t7 := t7) (t1 := t1) rfl XB TB D B Fb X Nb T CH hck hdp hun S2 (S2 _ hst) (S2 _ hds) (S2 _ hf1) hf1' (Kb.at (Ka.at m0)) (Kb.at (Ka.at m1)) (Kb.at (Ka.at m2)) (Kb.at (Ka.at m3)) (Kb.at (Ka.at m5)) (S2 _ ht2) H1 ?_
  intro va na mc' restc hc tkc Kc ec1 ec2 Fc Nc Sc hA
  have S3 := S2.trans Sc
  refine bodySt (s₀ := s) (t4 := t4) (t6 := t6) rfl XB TB D B Fc X Nc T CH hck hdp hun (Kc.at (Kb.at (Ka.at m0))) (Kc.at (Kb.at (Ka.at m1))) (Kc.at (Kb.at (Ka.at m2))) (Kc.at (Kb.at (Ka.at m3))) (Kc.at (Kb.at (Ka.at m4))) (S3 _ hr) (Kc.at (Kb.at pa)) ec1 ec2 (S3 _ ht1) (S3 _ ht2) ?_
  intro md restd hd' tkd Kd ed1 ed2 ed3 Fd Nd Sd
  have S4 := S3.trans Sd
  refine wpAny_execs_cons (blockMerge_len (s₀ := s) rfl rfl D B Fd X Nd T CH hck hdp hun ed2 ed3 ed1 (Kd.at (Kc.at eb)) (Sd _ (Sc _ hqm)) b1 b2 b3 ?_)
  intro u me reste he tke Ke ee Fe Ne Se
  refine wpAny_execs_cons (blockRet (s₀ := s) rfl rfl B Fe X Ne T (Ke.at (Kd.at (Kc.at (Kb.at mta)))) ee ?_)
  intro v restf hf tkf Ff Nf Sf hv
  exact ⟨_, hf, tkf, me, _, rfl, rfl, Ff, Nf.N, outBad_of (((S4.trans Se).trans Sf)) (hA.mono ((Sd.trans Se).trans Sf)) .nil, v, _, rfl, .tail _ (.tail _ hv), .int _ _⟩
theorem ttr_len_read (XB : (hd.heap_39 w.params).In base) (TB : Top topProg loose mean mg mb base) (B : Below A₀ base outer h₀) (F : Fr h₀ Lc s.heap mc) (X : (hd.heap_39 w.params).In h₀) (N : Led2 h₀ Lc s.heap la (W.listOf #[] 0) lh (W.listOf #[] 0) rest) (T : Top topProg loose mean mg mb h₀) (D : KtsDicts (outer.filterMap (·.frame)) h₀) (CH : CodeHd base 305 301)
    (hck : cs.kind = .function) (hdp : dp + 20 < recursionLimit) (hun : un + 200 < cLine)
    (hst : (st, instObj 181 ds) ∈ rest) (hds : (ds, dictOf [⟨hh1, .str (Str.ofString "loadSerial") k1, .ref f1⟩] 1) ∈ rest) (hf1 : (f1, of1) ∈ rest) (hf1' : of1.data = .func fd1) (hr : (r, tupObj [mv, .int i3 t3]) ∈ rest) (hfm : FormIs mv k rest) (H1 : Reads w rest f1 la bo bdd to td (.ref t1)) (ht1 : (t1, tupObj [.str "any" t4, .int i1 t5]) ∈ rest) (H2 : Reads w rest f1 la bo bl to tl (.ref t2)) (ht2 : (t2, tupObj [.str "any" t6, .int i2 t7]) ∈ rest) (hk : (k, instObj 245 dk) ∈ rest) (hdk : (dk, dictOf es n1) ∈ rest) (hes : getL "_p_resolveConflict" es = some none) (b1 : 0 ≤ i1 ∧ i1 < 100) (b2 : 0 ≤ i2 ∧ i2 < 100) (b3 : 0 ≤ i3 ∧ i3 < 100)
    (hok : ∀ v h' tk' news', Fr h₀ Lc h' mc → News h₀ Lc h' news' → OutOk rest mv ([.tup [.bytes bo, .bytes bdd], .tup [.bytes bo, .bytes bl]]) ([]) (.int (i2 + i3 - i1)) la lh v news' → Q v { s with heap := h', toks := tk' }) :
    wpAny (model P0 w) (ktrTop dp un gd cn cs Lc a ccd cl outer) (call (.ref 178) ([.ref st, .bytes bo to, .bytes bl tl, .bytes bdd td, .ref r] ++ (none : Option Addr).toList.map Value.ref)) Q E s := by
  refine ttr_shell (tb := [tAt 0, tAt 1, tAt 2, tAt 3, tAt 4, tAt 5, tAt 6, tAt 7, tAt 8, tAt 9, tAt 10, tAt 11]) (Zok := OutOk rest mv [.tup [.bytes bo, .bytes bdd], .tup [.bytes bo, .bytes bl]] [] (.int (i2 + i3 - i1)) la lh) (Zbad := fun _ => False) none rfl rfl XB TB B F X N T D hck hdp hun ?_ (fun v h' tk' news' F' N' z => hok v h' tk' news' F' N' z) (fun _ _ _ _ _ _ _ _ _ _ z => z.elim)
  intro g L h1 tk1 m FG F N B X T D m0 m1 m2 m3 m4 m5
  refine bodyHead (s₀ := s) rfl D B F X N T hck hdp hun m4 hr hfm ?_
  intro x ma resta ha tka Ka pa mta ina Fa Na Sa
  refine wpAny_execs_cons (blockRes_len (s := { s with heap := ha, toks := tka }) rfl rfl B Fa X Na T ina (Sa _ hk) (Sa _ hdk) hes ?_)
  intro qm mb restb hb tkb Kb eb Fb Nb Sb hqm
  have S2 := Sa.trans Sb
  obtain ⟨tc, m5⟩ := m5
  refine bodyLoad_read (s₀ := s) (t1 := t1) (t2 := t2) rfl XB TB D B Fb X Nb T CH hck hdp hun S2 (S2 _ hst) (S2 _ hds) (S2 _ hf1) hf1' (Kb.at (Ka.at m0)) (Kb.at (Ka.at m1)) (Kb.at (Ka.at m2)) (Kb.at (Ka.at m3)) (Kb.at (Ka.at m5)) H1 H2 ?_
  intro va na mc' restc hc tkc Kc ec1 ec2 Fc Nc Sc hA
  have S3 := S2.trans Sc
  refine bodySt (s₀ := s) (t4 := t4) (t6 := t6) rfl XB TB D B Fc X Nc T CH hck hdp hun (Kc.at (Kb.at (Ka.at m0))) (Kc.at (Kb.at (Ka.at m1))) (Kc.at (Kb.at (Ka.at m2))) (Kc.at (Kb.at (Ka.at m3))) (Kc.at (Kb.at (Ka.at m4))) (S3 _ hr) (Kc.at (Kb.at pa)) ec1 ec2 (S3 _ ht1) (S3 _ ht2) ?_
  intro md restd hd' tkd Kd ed1 ed2 ed3 Fd Nd Sd
  have S4 := S3.trans Sd
  refine wpAny_execs_cons (blockMerge_len (s₀ := s) rfl rfl D B Fd X Nd T CH hck hdp hun ed2 ed3 ed1 (Kd.at (Kc.at eb)) (Sd _ (Sc _ hqm)) b1 b2 b3 ?_)
  intro u me reste he tke Ke ee Fe Ne Se
  refine wpAny_execs_cons (blockRet (s₀ := s) rfl rfl B Fe X Ne T (Ke.at (Kd.at (Kc.at (Kb.at mta)))) ee ?_)
  intro v restf hf tkf Ff Nf Sf hv
  exact ⟨_, hf, tkf, me, _, rfl, rfl, Ff, Nf.N, outBad_of (((S4.trans Se).trans Sf)) (hA.mono ((Sd.trans Se).trans Sf)) .nil, v, _, rfl, .tail _ (.tail _ hv), .int _ _⟩
end
end
section
local macro_rules | `(tactic| walk_at "FnAt") => `(tactic| (k_dflt (exact Mine.fnAt_of (by k_asm) (by k_mem) (by with_reducible assumption))))
local macro_rules | `(tactic| walk_at "callWith ref") => `(tactic| (k_here; k_dflt (first
  | (refine' callWith_F ?k1 ?_; (case k1 => exact Mine.fnAt_of (by k_asm) (by k_mem) (by with_reducible assumption)); k_whole)
  | (refine' callWith_F0 ?k1 ?_; (case k1 => exact Mine.fnAt_of (by k_asm) (by k_mem) (by with_reducible assumption)); k_whole; try dsimp only [List.nil_append, List.cons_append]))))
local macro_rules | `(tactic| walk_at "getMethod str") => `(tactic| (k_here; with_reducible refine Mine.encode_method ?_))
local macro_rules | `(tactic| walk_at "call builtin:str.encode") => `(tactic| (k_here; (with_reducible show wpAny _ _ (call (Value.builtin "str.encode") [Value.str _ _, Value.str _ _]) _ _ _); with_unfolding_all refine Mine.encode_call ?_; intro _ _))
local macro_rules | `(tactic| walk_at "same") => `(tactic| repeat' (first
  | exact Mine.Same.bytes _ _ _
  | exact Mine.Same.int _ _ _
  | exact Mine.SameAll.nil
  | (refine Mine.SameAll.cons ?_ ?_)
  | (refine Mine.Same.tuple (Mine.led_tuple (by k_asm) (by k_mem) rfl rfl) (Mine.led_tuple (by k_asm) (by k_mem) rfl rfl) ?_)
  | (refine Mine.Same.list (Mine.led_list (by k_asm) (by k_mem) rfl rfl) (Mine.led_list (by k_asm) (by k_mem) rfl rfl) ?_)))
local macro_rules | `(tactic| walk_at "compareOp Eq ref ref") => `(tactic| (k_here; (with_reducible show wpAny _ _ (compareOp CmpOp.Eq (Value.ref _) (Value.ref _)) _ _ _); k_dflt (refine' Mine.same_eq 3 ?h ?u ?_; (case h => (walk_at "same"; done)); (case u => ke_room))))
local macro_rules | `(tactic| walk_at "compareOp NotEq ref ref") => `(tactic| (k_here; (with_reducible show wpAny _ _ (compareOp CmpOp.NotEq (Value.ref _) (Value.ref _)) _ _ _); k_dflt (refine' Mine.same_ne 3 ?h ?u ?_; (case h => (walk_at "same"; done)); (case u => ke_room))))
local macro_rules | `(tactic| walk_at "call builtin:int.to_bytes") => `(tactic| (k_here; (with_reducible show wpAny _ _ (call (Value.builtin "int.to_bytes") [Value.int _ _, Value.int _ _, Value.str _ _]) _ _ _); (with_unfolding_all refine KTBy.to_big (k := 8) (B := 18446744073709551616) (by decide) (by decide) (by kt_fact) (by kt_fact) ?_); (intro b' _ _ hb' _)))
local macro_rules | `(tactic| walk_at "eval Dict cons") => `(tactic| (k_here; k_dflt (refine' kdn_eval (knd := bytesKind _ _) ?F ?N ?b ?a ?l ?e ?n ?_; (case F => k_asm); (case N => k_asm); (case b => exact Top.nolimit (by k_asm)); (case a => rfl); (case l => rfl); (case e => exact List.cons_ne_nil _ _); (case n => exact Nat.le_of_ble_eq_true rfl)); intro d' h' o' F' N' l1 lo' hd'; (try k_lt l1)))
local macro_rules | `(tactic| walk_at "bk_ne") => `(tactic| first | with_reducible assumption | exact Ne.symm (by with_reducible assumption))
local macro_rules | `(tactic| walk_at "bk_val") => `(tactic| first | exact Mine.va_head | exact Mine.va_nil | exact Mine.va_tail (by walk_at "bk_ne") (by walk_at "bk_val"))
local macro_rules | `(tactic| walk_at "KdnMade") => `(tactic| (k_here; k_dflt (refine' Mine.bk_made ?F ?N ?U ?d ?n ?_; (case F => k_asm); (case N => k_asm); (case U => k_updF); (case d => k_asm); (case n => walk_at "bk_ne")); intro h' o' F' N' hd'; (try dsimp only at N')))
local macro_rules | `(tactic| walk_at "call builtin:dict.pop") => `(tactic| (k_here; (with_reducible show wpAny _ _ (call (Value.builtin "dict.pop") [Value.ref _, Value.bytes _ _]) _ _ _); k_dflt (refine' Mine.bk_pop ?F ?N ?U ?d ?v ?z ?w ?_; (case F => k_asm); (case N => k_asm); (case U => k_updF); (case d => k_asm); (case v => first | (walk_at "bk_val"; done) | assumption); (case z => exact Nat.le_of_ble_eq_true rfl); (case w => first | exact Mine.bk_without_head (by walk_at "bk_ne") | exact Mine.bk_without_tail (by walk_at "bk_ne"))); intro h' o' F' N' hd'; (try dsimp only at N')))
local macro_rules | `(tactic| walk_at "compareOp In bytes ref") => `(tactic| (k_here; k_dflt (first
  | (refine' Mine.bk_in (x := true) ?N ?p ?d ?lo ?v ?_; (case N => k_asm); (case p => k_mem); (case d => k_asm); (case lo => k_asm); (case v => (rw [show valueAt _ _ = some _ from by first | (walk_at "bk_val"; done) | assumption]; rfl)))
  | (refine' Mine.bk_in (x := false) ?N ?p ?d ?lo ?v ?_; (case N => k_asm); (case p => k_mem); (case d => k_asm); (case lo => k_asm); (case v => (rw [show valueAt _ _ = none from by first | (walk_at "bk_val"; done) | assumption]; rfl))))))
local macro_rules | `(tactic| walk_at "getItem ref bytes") => `(tactic| (k_here; k_dflt (refine' Mine.bk_item ?N ?p ?d ?v ?_; (case N => k_asm); (case p => k_mem); (case d => k_asm); (case v => first | (walk_at "bk_val"; done) | assumption))))
local macro_rules | `(tactic| walk_at "subscriptTail") => `(tactic| (k_here; (with_reducible show wpAny _ _ (subscriptTail _ _ (Value.ref _) (Value.bytes _ _)) _ _ _); k_dflt (refine' kdt_tail (knd := bytesKind _ _) ?N ?p ?d ?_; (case N => k_asm); (case p => k_mem); (case d => k_asm))))
local macro_rules | `(tactic| walk_at "callWith ref") => `(tactic| (k_here; k_dflt (first | (refine' callWith_K ?k1 ?k2 ?_; (case k1 => k_asm); (case k2 => k_is); k_whole) | (refine' callWith_K0 ?k1 ?k2 ?_; (case k1 => k_in); (case k2 => k_is); k_whole))))
local macro_rules | `(tactic| walk_at "call ref") => `(tactic| (k_here; (with_reducible show wpAny _ _ (call (Value.ref 285) [Value.int _ _]) _ _ _); k_dflt (refine' Mine.law_id_call ?k1 ?k2 ?k3 ?k4 ?k5 ?kK ?kd ?n0 ?n1 ?_; (case k1 => k_asm); (case k2 => k_asm); (case k3 => k_asm); (case k4 => k_asm); (case k5 => k_asm); (case kK => first | exact rfl | assumption); (case kd => ktr_room); (case n0 => with_reducible assumption); (case n1 => with_reducible assumption)); intro t9 h9 tk9 F9 N9; (try dsimp only); (try k_fold)))
local macro_rules | `(tactic| walk_at "call ref") => `(tactic| (k_here; kn_here; k_dflt (refine wpAny_call ?_; (refine' code_nest ?k1 ?k2 ?k3 ?k4 ?k5 ?kA ?kF ?kK ?k6 ?k7 ?k8 ?k9 ?kB ?_ ?c2 ?c3 ?c4 ?c5; (case kA => exact rfl); (case kF => exact rfl); (case kK => first | exact rfl | assumption); (case k1 => k_asm); (case k2 => k_asm); (case k3 => k_asm); (case k4 => k_asm); (case k5 => k_asm); (case k6 => k_mem); (case k7 => exact codeRec_news (by k_asm) (by k_mem) (by assumption) (by assumption)); (case k8 => ktr_room); (case k9 => exact BindsTo.of_eq rfl); (case c5 => decide); (case kB => exact locs rfl); (case c2 => exact rfl); (case c3 => exact rfl); (case c4 => exact rfl); k_whole; intro g' L' h' FG' F' N' B' X' T'; (try dsimp only); (try k_lift B'); (try k_fold)))))
local macro_rules | `(tactic| k_mem) => `(tactic| first | exact List.mem_cons_self | with_reducible assumption | (refine List.mem_cons_of_mem _ ?_; k_mem))
local macro_rules | `(tactic| k_all) => `(tactic| first | with_reducible assumption | (refine Mine.allNe (by with_reducible assumption) ?_; (first | exact Nat.le_refl _ | omega)) | (refine Mine.allNe' (by with_reducible assumption) ?_; (first | exact Nat.le_refl _ | omega)))
local macro_rules | `(tactic| walk_at "ENTER") => `(tactic| (refine' code_def ?k1 ?k2 ?k3 ?k4 ?k5 ?kA ?kF ?kK ?k6 ?k7 ?k8 ?k9 ?kB ?_ ?c2 ?c3 ?c4 ?c5; (case kA => exact rfl); (case kF => exact rfl); (case kK => first | exact rfl | assumption); (case k1 => k_asm); (case k2 => k_asm); (case k3 => k_asm); (case k4 => k_asm); (case k5 => k_asm); (case k6 => k_is); (case k7 => k_is); (case k8 => ktr_room); (case k9 => first | exact BindsTo.of_eq rfl | exact binds_K (by k_in) rfl (by k_is) rfl rfl rfl | fail "ENTER: no rule for these arguments"); (case c5 => decide); (case kB => exact locs rfl); (case c2 => exact rfl); (case c3 => exact rfl); (case c4 => exact rfl); k_whole; intro g' L' h' FG' F' N' B' X' T'; (try dsimp only); (try k_lift B'); (try k_fold)))
local macro_rules | `(tactic| walk_at "call ref") => `(tactic| (k_here; (first | (with_reducible show wpAny _ _ (call (Value.ref 99) _ _) _ _ _) | (with_reducible show wpAny _ _ (call (Value.ref 119) _ _) _ _ _) | (with_reducible show wpAny _ _ (call (Value.ref 131) _ _) _ _ _)); k_dflt (refine' Mine.call_exc ?k1 ?k2 ?k3 ?k4 ?kr ?k5 ?k6 ?_; (case k1 => k_asm); (case k2 => k_asm); (case k3 => k_asm); (case k4 => kernel_rfl); (case kr => exact Nat.le_of_ble_eq_true rfl); (case k5 => k_is); (case k6 => k_is); k_whole; intro x' d' h' F' N' l1 l2; (try k_lt l1); (try k_lt2 l2); (try k_sweep); walk_at "ENTER")))
local macro_rules | `(tactic| walk_at "setAttr ref") => `(tactic| (k_here; k_dflt (refine' Mine.setE_more ?k1 ?k2 ?k3 ?k4 ?r1 ?r2 ?r3 ?k5 ?k6 ?k7 ?k8 ?k9 ?k10 ?k11 ?k12 ?k13 ?_; (case k1 => k_asm); (case k2 => k_asm); (case k3 => k_asm); (case k4 => k_mem); (case r1 => exact rfl); (case r2 => exact rfl); (case r3 => exact rfl); (case k5 => k_mem); (case k6 => k_is); (case k7 => ((first | (with_reducible show overExc _ 99 = true) | (with_reducible show overExc _ 119 = true) | (with_reducible show overExc _ 131 = true) | (with_reducible show overExc _ 44 = true)); kernel_rfl)); (case k8 => k_is); (case k9 => k_is); (case k10 => rfl); (case k11 => exact rfl); (case k12 => k_upd); (case k13 => exact Nat.le_of_ble_eq_true rfl); k_whole); intro h' F' N'; (try k_sweep)))
local macro_rules | `(tactic| walk_at "setAttr ref") => `(tactic| (k_here; k_dflt (refine' Mine.setE_new ?k1 ?k2 ?k3 ?r1 ?r2 ?r3 ?k5 ?k6 ?k7 ?k8 ?k9 ?_; (case k1 => k_asm); (case k2 => k_asm); (case k3 => k_asm); (case r1 => exact rfl); (case r2 => exact rfl); (case r3 => exact rfl); (case k5 => k_all); (case k6 => k_is); (case k7 => ((first | (with_reducible show overExc _ 99 = true) | (with_reducible show overExc _ 119 = true) | (with_reducible show overExc _ 131 = true) | (with_reducible show overExc _ 44 = true)); kernel_rfl)); (case k8 => k_is); (case k9 => k_is)); intro d' h' F' N' l1 l2; (try dsimp only at N'); (try k_lt l1); (try k_lt2 l2); (try k_sweep)))
local macro_rules | `(tactic| walk_at "getAttr ref") => `(tactic| (k_here; k_dflt (refine' Mine.getE_K ?k1 ?k2 ?k3 ?k4 ?r1 ?r2 ?r3 ?k5 ?k6 ?k7 ?k8 ?k9 ?k10 ?k11 ?k12 ?k13 ?_; (case k1 => k_asm); (case k2 => k_asm); (case k3 => k_asm); (case k4 => k_mem); (case r1 => exact rfl); (case r2 => exact rfl); (case r3 => exact rfl); (case k5 => k_mem); (case k6 => k_is); (case k7 => k_is); (case k8 => k_is); (case k9 => k_is); (case k10 => k_is); (case k11 => k_is); (case k12 => k_get); (case k13 => k_handed); k_whole)))
local macro_rules | `(tactic| walk_at "getMethod ref") => `(tactic| (k_here; k_dflt (refine' Mine.methodE_K ?k1 ?k2 ?k3 ?k4 ?r1 ?r2 ?k5 ?k6 ?k7 ?k8 ?k9 ?k10 ?_; (case k1 => k_asm); (case k2 => k_asm); (case k3 => k_asm); (case k4 => k_mem); (case r1 => exact rfl); (case r2 => exact rfl); (case k5 => k_mem); (case k6 => k_is); (case k7 => k_is); (case k8 => k_is); (case k9 => k_is); (case k10 => k_get); k_whole)))
local macro_rules | `(tactic| walk_at "own raise") => `(tactic| (k_dflt (refine' Mine.raise_own ?F ?hh ?_; (case F => k_asm); (case hh => first | rfl | assumption); k_whole)))
local macro_rules | `(tactic| walk_at "exec Raise some none") => `(tactic| (k_here; (with_reducible show wpAny _ _ (exec (Stmt.Raise (some (Expr.Call (Expr.Name ("POSKeyError" : Str) _) _ _ _)) none _) _) _ _ _); walk_at "own raise"))
local macro_rules | `(tactic| walk_at "exec Raise some none") => `(tactic| (k_here; (with_reducible show wpAny _ _ (exec (Stmt.Raise (some (Expr.Call (Expr.Name ("ConflictError" : Str) _) _ _ _)) none _) _) _ _ _); walk_at "own raise"))
local macro_rules | `(tactic| walk_at "exec Raise some none") => `(tactic| (k_here; (with_reducible show wpAny _ _ (exec (Stmt.Raise (some (Expr.Call (Expr.Name ("ReadConflictError" : Str) _) _ _ _)) none _) _) _ _ _); walk_at "own raise"))
local macro_rules | `(tactic| walk_at "call ref") => `(tactic| (k_here; (with_reducible show wpAny _ _ (call (Value.ref 44) [_, _]) _ _ _); k_dflt (refine' Mine.call_exc2 ?k1 ?k2 ?k3 ?k4 ?k5 ?k6 ?_; (case k1 => k_asm); (case k2 => k_asm); (case k3 => k_asm); (case k4 => kernel_rfl); (case k5 => k_is); (case k6 => k_is); k_whole; intro x' d' h' F' N' l1; (try k_lt l1); (try k_sweep))))
local macro_rules | `(tactic| walk_at "RaiseK") => `(tactic| (k_dflt (refine' Mine.raiseK_led ?k1 ?k2 ?k3 ?k4 ?r1 ?r2 ?r3 ?k5 ?k6 ?_; (case k1 => k_asm); (case k2 => k_asm); (case k3 => k_asm); (case k4 => k_mem); (case r1 => exact rfl); (case r2 => exact rfl); (case r3 => exact rfl); (case k5 => k_is); (case k6 => k_is); k_whole)))
local macro_rules | `(tactic| walk_at "call builtin:list.append") => `(tactic| (k_here; (with_reducible show wpAny _ _ (call (Value.builtin _) [Value.ref _, _]) _ _ _); k_dflt (refine' append_K ?k1 ?k2 ?k3 ?_ ?z; (case k1 => k_asm); (case k2 => k_asm); (case k3 => k_upd); (case z => first | exact le_line (by assumption) | size_fits); k_whole); intro h' F' N'; (try k_sweep)))
local macro_rules | `(tactic| walk_at "split lts") => `(tactic| repeat ((with_reducible rename _ ∧ _ => lz); (obtain ⟨_, _⟩ := lz)))
local macro_rules | `(tactic| walk_at "all ne") => `(tactic| repeat' (first | with_reducible assumption | exact ne_nil | (refine Mine.allNe (by with_reducible assumption) ?_; first | exact Nat.le_refl _ | omega) | (refine ne_cons (by first | with_reducible assumption | exact Ne.symm (by with_reducible assumption) | omega) ?_)))
local macro_rules | `(tactic| walk_at "end raise") => `(tactic| (k_dflt (refine' leave_led ?K ?F ?N ?hf ?hk ?hm ?hd ?h1 ?hs ?hne ?_; (case K => k_asm); (case F => k_asm); (case N => k_asm); (case hf => exact rfl); (case hk => first | decide | (intro q; cases q)); (case hm => k_mem); (case hd => exact rfl); (case h1 => exact rfl); (case hs => exact fun q hq => List.Mem.tail _ hq); (case hne => (walk_at "split lts"; walk_at "all ne"; done)); k_whole); intro hz Rz Uz))
local macro_rules | `(tactic| walk_at "callWith ref") => `(tactic| (k_here; (with_reducible show wpAny _ _ (callWith _ (Value.ref _) _ (backTo _ (starEach [] _)) (backToKw _ (keywordEach (_ :: _) _))) _ _ _); k_dflt (refine' callWith_KW0 ?k1 ?k2 ?k3 ?_; (case k1 => k_asm); (case k2 => k_is); (case k3 => exact rfl); k_whole)))
local macro_rules | `(tactic| walk_at "leaving ref") => `(tactic| (k_here; (with_reducible rename Heap.NewExc _ _ _ _ => neX); k_dflt (refine' Mine.leave_newexc ?K ?F ?N neX ?hf ?hk ?_; (case K => k_asm); (case F => k_asm); (case N => k_asm); (case hf => exact rfl); (case hk => first | decide | (intro q; cases q)); k_whole); intro hz dz Rz Uz))
local macro_rules | `(tactic| walk_at "leaving ref") => `(tactic| (k_here; (with_reducible rename Heap.MadeExcOf _ _ _ _ _ => neX); k_dflt (refine' Mine.leave_madeof ?K ?F ?N neX ?hf ?hk ?_; (case K => k_asm); (case F => k_asm); (case N => k_asm); (case hf => exact rfl); (case hk => first | decide | (intro q; cases q)); k_whole); intro hz dz Rz Uz))
local macro_rules | `(tactic| walk_at "leaving ref") => `(tactic| (k_here; (with_reducible rename Mine.RD _ _ _ _ _ _ _ _ => rdX); k_dflt (refine' Mine.leave_nextD ?K ?F ?hf rdX ?U ?_; (case K => k_asm); (case F => k_asm); (case hf => exact rfl); (case U => k_asm); k_whole); intro hz Rz Uz))
local macro_rules | `(tactic| k_get) => `(tactic| with_reducible assumption)
local macro_rules | `(tactic| walk_at "front") => `(tactic| repeat (first | with_reducible exact Mine.Front.here | apply Mine.Front.there))
local macro_rules | `(tactic| walk_at "sub") => `(tactic| repeat (first | with_reducible assumption | refine Mine.Sub.tail ?_))
local macro_rules | `(tactic| walk_at "call ref") => `(tactic| (k_here; (with_reducible rename Mine.Reads _ _ _ _ _ _ _ _ _ => hz0); k_dflt (refine' (show Mine.Reads _ _ _ _ _ _ _ _ _ from by with_reducible assumption) _ _ _ _ _ _ _ _ _ _ _ _ _ _ _ _ _ _ _ _ _ _ _ _ ?k1 ?k2 ?k3 ?k4 ?k5 ?k6 ?kK ?kd ?ku ?kn ?kv ?ks ?_; (case k1 => k_asm); (case k2 => k_asm); (case k3 => k_asm); (case k4 => (refine' newsFront ?kn0 ?kf0; (case kn0 => k_asm); (case kf0 => (walk_at "front"; done)))); (case k5 => k_asm); (case k6 => k_asm); (case kK => first | exact rfl | assumption); (case kd => ktr_room); (case ku => ktr_room); (case kn => (walk_at "split lts"; walk_at "all ne"; done)); (case kv => first | with_reducible assumption | exact Nat.le_of_ble_eq_true rfl); (case ks => (walk_at "sub"; done))); intro t9 h9 tk9 F9 N9 l9; (try simp only [AllLt, and_true] at l9); (try dsimp only)))
local macro_rules | `(tactic| walk_at "call ref") => `(tactic| (k_here; (with_reducible rename Mine.Misses _ _ _ _ _ _ _ _ => hz0); k_dflt (refine' (show Mine.Misses _ _ _ _ _ _ _ _ from by with_reducible assumption) _ _ _ _ _ _ _ _ _ _ _ _ _ _ _ _ _ _ _ _ _ _ _ _ ?k1 ?k2 ?k3 ?k4 ?k5 ?k6 ?kK ?kd ?ku ?kn ?kv ?ks ?_; (case k1 => k_asm); (case k2 => k_asm); (case k3 => k_asm); (case k4 => (refine' newsFront ?kn0 ?kf0; (case kn0 => k_asm); (case kf0 => (walk_at "front"; done)))); (case k5 => k_asm); (case k6 => k_asm); (case kK => first | exact rfl | assumption); (case kd => ktr_room); (case ku => ktr_room); (case kn => (walk_at "split lts"; walk_at "all ne"; done)); (case kv => first | with_reducible assumption | exact Nat.le_of_ble_eq_true rfl); (case ks => (walk_at "sub"; done))); intro e9 G9 t9 h9 tk9 F9 R9 U9 l9; (try simp only [AllLt, and_true] at l9); (try dsimp only)))
local macro_rules | `(tactic| walk_at "call ref") => `(tactic| (k_here; (with_reducible rename Mine.MergesOk _ _ _ _ _ _ _ _ => hz0); k_dflt (refine' (show Mine.MergesOk _ _ _ _ _ _ _ _ from by with_reducible assumption) _ _ _ _ _ _ _ _ _ _ _ _ _ _ _ _ _ _ _ _ _ _ ?k1 ?k2 ?k3 ?k4 ?k5 ?k6 ?kK ?kd ?ku ?kn ?ks ?_; (case k1 => k_asm); (case k2 => k_asm); (case k3 => k_asm); (case k4 => (refine' newsFront ?kn0 ?kf0; (case kn0 => k_asm); (case kf0 => (walk_at "front"; done)))); (case k5 => k_asm); (case k6 => k_asm); (case kK => first | exact rfl | assumption); (case kd => ktr_room); (case ku => ktr_room); (case kn => (walk_at "split lts"; walk_at "all ne"; done)); (case ks => (walk_at "sub"; done))); intro t9 b9 h9 tk9 F9 N9 l9 l8; (try simp only [AllLt, and_true] at l9); (try dsimp only)))
local macro_rules | `(tactic| walk_at "call ref") => `(tactic| (k_here; (with_reducible rename Mine.MergesBad _ _ _ _ _ _ _ => hz0); k_dflt (refine' (show Mine.MergesBad _ _ _ _ _ _ _ from by with_reducible assumption) _ _ _ _ _ _ _ _ _ _ _ _ _ _ _ _ _ _ _ _ _ _ ?k1 ?k2 ?k3 ?k4 ?k5 ?k6 ?kK ?kd ?ku ?kn ?ks ?_; (case k1 => k_asm); (case k2 => k_asm); (case k3 => k_asm); (case k4 => (refine' newsFront ?kn0 ?kf0; (case kn0 => k_asm); (case kf0 => (walk_at "front"; done)))); (case k5 => k_asm); (case k6 => k_asm); (case kK => first | exact rfl | assumption); (case kd => ktr_room); (case ku => ktr_room); (case kn => (walk_at "split lts"; walk_at "all ne"; done)); (case ks => (walk_at "sub"; done))); intro e9 G9 t9 cls9 h9 tk9 fc9 F9 R9 U9 l9; (try simp only [AllLt, and_true] at l9); (try dsimp only)))
local macro_rules | `(tactic| walk_at "getMethod ref") => `(tactic| (k_here; (with_reducible show wpAny _ _ (getMethod (Value.ref _) (Str.ofString "loadSerial") _) _ _ _); k_dflt (refine' Mine.method_usual ?k1 ?k2 ?k3 ?k4 ?k5 ?k6 ?_; (case k1 => k_asm); (case k2 => k_asm); (case k3 => k_inst); (case k4 => k_is); (case k5 => k_is); (case k6 => k_is); k_whole)))
local macro_rules | `(tactic| walk_at "eval Name") => `(tactic| (k_here; (with_reducible show wpAny _ _ (eval (Expr.Name _ _) (envOf _ _ _ _ _)) _ _ _); k_dflt (refine' name_B ?k0 ?k1 ?k2 ?k3 ?k4 ?k5 ?_ ?k6 ?k7 ?k8; (case k0 => k_asm); (case k1 => k_asm); (case k2 => k_asm); (case k3 => k_is); (case k4 => boot_by_name); (case k5 => decide +kernel); (case k6 => exact rfl); (case k7 => exact rfl); (case k8 => exact rfl)); k_whole))
local macro_rules | `(tactic| walk_at "eval Name") => `(tactic| (k_here; (with_reducible show wpAny _ _ (eval (Expr.Name _ _) (envOf _ _ _ _ _)) _ _ _); k_dflt (refine' name_K ?k0 ?k1 ?k2 ?k3 ?_ ?k6 ?k7 ?k8; (case k0 => k_asm); (case k1 => k_asm); (case k2 => k_asm); (case k3 => k_is); (case k6 => exact rfl); (case k7 => exact rfl); (case k8 => exact rfl)); k_whole))
local macro_rules | `(tactic| walk_at "m_get") => `(tactic| (first | with_reducible assumption | with_reducible exact Mine.m_here | ((with_reducible refine' Mine.m_there ?hz ?hm); (case hz => decide +kernel); (case hm => walk_at "m_get"))))
local macro_rules | `(tactic| walk_at "eval Name") => `(tactic| (k_here; (with_reducible show wpAny _ _ (eval (Expr.Name _ _) (envOf _ _ _ _ _)) _ _ _); k_dflt (refine' ld ?k1 ?k2 ?_ ?k3 ?k4 ?k5; (case k1 => k_asm); (case k2 => (walk_at "m_get"; done)); (case k3 => exact rfl); (case k4 => exact rfl); (case k5 => exact rfl)); k_whole))
local macro_rules | `(tactic| walk_at "truthy bytes") => `(tactic| (k_here; (with_reducible show wpAny _ _ (truthy (Value.bytes #[] _)) _ _ _); refine Mine.truthy_empty ?_))
local macro_rules | `(tactic| walk_at "led2") => `(tactic| (refine' Led2.of ?nn ?n1 ?n2 ?na ?nh ?ne; (case nn => k_asm); (case n1 => (walk_at "front"; done)); (case n2 => (walk_at "front"; done)); (case na => (walk_at "all ne"; done)); (case nh => (walk_at "all ne"; done)); (case ne => assumption)))
local macro_rules | `(tactic| walk_at "keeps") => `(tactic| first | with_reducible exact Keeps.refl | (refine Keeps.set ?_ (by decide +kernel); walk_at "keeps"))
local macro_rules | `(tactic| walk_at "sub") => `(tactic| first | with_reducible exact Sub.refl | with_reducible assumption | (refine Mine.Sub.tail ?_; walk_at "sub"))
local macro_rules | `(tactic| walk_at "walk") => `(tactic| repeat' (first | (k_unfold; (try dsimp only)) | walk1 | (dsimp only; walk1) | (leave1; walk_say "STEP leave1"; try dsimp only) | fail "no step"))
local macro_rules | `(tactic| ktr_room) => `(tactic| ((simp only [depth_mark, depth_under_make, depth_under_kw, depth_in1, depth_deeper, depth_caller]); (try dsimp only [ktrTop]); omega))
local macro_rules | `(tactic| k_all) => `(tactic| (walk_at "split lts"; walk_at "all ne"; done))
local macro_rules | `(tactic| walk_at "eval Name") => `(tactic| (k_here; (with_reducible show wpAny _ _ (eval (Expr.Name _ _) (envOfC _ _ _ _ _)) _ _ _); k_dflt (refine' nameX_B ?k0 ?k1 ?k2 ?k3 ?k4 ?k5 ?_ ?k6 ?k7 ?k8; (case k0 => k_asm); (case k1 => k_asm); (case k2 => k_asm); (case k3 => k_is); (case k4 => boot_by_name); (case k5 => decide +kernel); (case k6 => exact rfl); (case k7 => exact rfl); (case k8 => exact rfl)); k_whole))
local macro_rules | `(tactic| walk_at "eval Name") => `(tactic| (k_here; (with_reducible show wpAny _ _ (eval (Expr.Name _ _) (envOfC _ _ _ _ _)) _ _ _); k_dflt (refine' nameX_K ?k0 ?k1 ?k2 ?k3 ?_ ?k6 ?k7 ?k8; (case k0 => k_asm); (case k1 => k_asm); (case k2 => k_asm); (case k3 => k_is); (case k6 => exact rfl); (case k7 => exact rfl); (case k8 => exact rfl)); k_whole))
local macro_rules | `(tactic| walk_at "eval Name") => `(tactic| (k_here; (with_reducible show wpAny _ _ (eval (Expr.Name _ _) (envOfC _ _ _ _ _)) _ _ _); k_dflt (refine' nameX_C ?k0 ?k1 ?k2 ?k3 ?_ ?k6 ?k7 ?k8; (case k1 => exact rfl); (case k0 => k_asm); (case k2 => k_mem); (case k3 => first | with_reducible assumption | exact rfl); (case k6 => exact rfl); (case k7 => exact rfl); (case k8 => exact rfl)); k_whole))
local macro_rules | `(tactic| walk_at "eval Name") => `(tactic| (k_here; (with_reducible show wpAny _ _ (eval (Expr.Name _ _) (envOfC _ _ _ _ _)) _ _ _); k_dflt (refine' nameX_L ?k1 ?k2 ?_ ?k3 ?k4 ?k5; (case k1 => k_asm); (case k2 => (walk_at "m_get"; done)); (case k3 => exact rfl); (case k4 => exact rfl); (case k5 => exact rfl)); k_whole))
local macro_rules | `(tactic| walk_at "call ref") => `(tactic| (k_here; (first | (with_reducible show wpAny _ _ (call (Value.ref 274) _ _) _ _ _) | (with_reducible show wpAny _ _ (call (Value.ref 245) _ _) _ _ _)); k_dflt (refine' call_cls ?k1 ?k2 ?k3 ?k4 ?k5 ?k6 ?_; (case k1 => k_asm); (case k2 => k_asm); (case k3 => k_asm); (case k4 => k_is); (case k5 => k_is); (case k6 => k_is); k_whole; intro x' d' h' F' N' l1 l2; (try k_lt l1); (try k_lt2 l2); (try k_sweep); walk_at "ENTER")))
local macro_rules | `(tactic| walk_at "getMethod ref") => `(tactic| (k_here; (with_reducible show wpAny _ _ (getMethod (Value.ref _) (Str.ofString "pop") _) _ _ _); k_dflt (refine' kdl_method (knd := bytesKind _ _) PySem.F.slot_dict_pop PySem.F.type_dict_pop ?n ?m ?d ?_; (case n => k_asm); (case m => k_mem); (case d => k_asm))))
local macro_rules | `(tactic| walk_at "walkc") => `(tactic| repeat' (first | (exfalso; omega) | (k_unfold; (try dsimp only)) | walk1 | (dsimp only; walk1) | (leave1; walk_say "STEP leave1"; try dsimp only) | fail "no step"))

local macro_rules | `(tactic| walk_at "k known") => `(tactic| (w_top off; have Z : Known hd.heap_39 PySem.Challenge.rw_bt5023_01 := (by (suffices Known hd.heap_39 PySem.Challenge.rw_bt5023_01 by assumption); k_fill; trivial); clear Z))
-- text W2
section
variable {w : World} {dp un : Nat} {gd : Option (List Code)} {cn : Str} {cs : Scope} {a : Addr} {ccd : Value} {base g h₀ : Heap} {L Lc : Addr} {m mc : Str → Option Value} {s : Shared} {Q E : Value → Shared → Prop}     {loose : List Str} {mean : ExcName → Option Value} {mg mb : Str → Option Value} {rest news : List (Addr × Obj)} {la lh : Addr} {LA LH : Obj} {A₀ : Around}     {nm bn : Str} {ps : Arguments} {bd : List Stmt} {sc : Scope} {pos : Pos} 
theorem caseA {n what form fault : Int} {u1 u2 u3 u4 : Tok} {handed : Bool} {o1 o2 o3 o4 o5 : Obj} {pt : Array Value} {Qf : Flow → Shared → Prop}
    (ed : caseDef = .FunctionDef nm ps bd [] none [] sc none bn pos)
    (B : Below (ktrTop dp un gd cn cs Lc a ccd [] []) base [envOf cn cs Lc a ccd] g) (F : Fr g L s.heap m) (X : (hd.heap_39 w.params).In g) (N : News g L s.heap ((L + 1 + 1 + 1 + 1 + 1, o1) :: (L + 1 + 1 + 1 + 1, o2) :: (L + 1 + 1 + 1, o3) :: (L + 1 + 1, o4) :: (L + 1, o5) :: (294, tabObj pt) :: news)) (T : Top topProg loose mean mg mb g) (hck : cs.kind = .function) (hdp : dp + 30 < recursionLimit) (hun : un + 300 < cLine)
    (h294 : @LT.lt Nat _ 294 L) (hn294 : ∀ p ∈ news, p.1 ≠ 294) (hnl : ∀ p ∈ news, p.1 < L) (n0 : 0 ≤ n) (n1 : n < 1000000000) (q1 : o1.data = .cell none) (q2 : o2.data = .cell none) (q3 : o3.data = .cell none) (q4 : o4.data = .cell (some (.int fault u4))) (q5 : o5.data = .cell (some (.int n u1)))
    (hret : ∀ m' h' tk' to tl td v1 v2 v3 k dk a1 a2 a3 b1 b2 b3 lh la tb TB t1 t2 x1 x2 x3 x4 rest', Keeps ["oid", "old", "last", "first", "second", "third", "klass"] m m' → m' "oid" = some (.bytes (idB n) to) → m' "old" = some (.bytes (idB (n + 1)) tl) → m' "last" = some (.bytes (idB (n + 2)) td) → m' "first" = some (.int (n.fmod 50) v1) → m' "second" = some (.int (n.fmod 70 + 1) v2) → m' "third" = some (.int (n.fmod 90 + 2) v3) → m' "klass" = some (.ref k) →
      Fr g L h' m' → Led5 g L h' tb TB la (W.listOf #[] 0) lh (W.listOf #[] 0) dk (dictOf (es3 w.params a1 a2 a3 b1 b2 b3) 3) pt rest' → Sub news rest' → TB.IsDictOf (bytesKind P0 w) [((idB (n + 1)).toList, .ref t1), ((idB (n + 2)).toList, .ref t2)] → (tb == sysModules) = false →
      (t1, tupObj [.str "any" x1, .int (n.fmod 50) v1]) ∈ rest' → (t2, tupObj [.str "any" x2, .int (n.fmod 70 + 1) v2]) ∈ rest' → (k, instObj 274 dk) ∈ rest' →
      (L + 1 + 1 + 1 + 1 + 1, x3) ∈ rest' → x3.data = .cell (some (.ref tb)) → (L + 1 + 1 + 1 + 1, x4) ∈ rest' → x4.data = .cell (some (.ref lh)) → (∃ x5, (L + 1 + 1 + 1, x5) ∈ rest' ∧ x5.data = .cell (some (.ref la))) → (L + 1 + 1, o4) ∈ rest' → (L + 1, o5) ∈ rest' → Qf .next { s with heap := h', toks := tk' }) :
    wpAny (model P0 w) ((ktrTop dp un gd cn cs Lc a ccd [] []).deeper (envOfC caseN sc L 299 (.ref 298))) (execs [cAt 0, cAt 1, cAt 2, cAt 3, cAt 4, cAt 5] (envOfC caseN sc L 299 (.ref 298))) Qf E s := by
  walk_at "k known"
  have m1 : 0 ≤ n + 1 := by omega
  have m2 : 0 ≤ n + 2 := by omega
  have z0 : n < 1152921504606846976 := by omega
  have z1 : n + 1 < 1152921504606846976 := by omega
  have z2 : n + 2 < 1152921504606846976 := by omega
  have r12 : (idB (n + 1)).toList ≠ (idB (n + 2)).toList := idB_ne m1 (by omega) m2 (by omega) (by omega)
  cases ed
  refine wpAny_execs_cons ?_
  show wpAny _ _ (exec (nth caseBody 0) _) _ _ _
  have e0 : ∃ x, x = nth caseBody 0 := ⟨_, rfl⟩
  unfold cAt
  dsimp only [nth, caseBody, bodyOf, PySem.Challenge.pw_bt5023_01]
  walk_at "walk"
  walk_at "split lts"
  have hnewsx : ∀ x : Nat, L ≤ x → ∀ p ∈ news, p.1 ≠ x := fun x hx => newsOfLt hnl hx
  refine' hret _ _ _ _ _ _ _ _ _ _ _ _ _ _ _ _ _ _ _ _ _ _ _ _ _ _ _ _ ?kk ?f1 ?f2 ?f3 ?f4 ?f5 ?f6 ?f7 ?kf (Led5.of ?ln ?l1 ?l2 ?l3 ?l4 ?l5 ?p0 ?p1 ?p2 ?p3 ?p4 ?n1 ?n2 ?n3 ?n4 ?n5) ?ks ?kd ?km ?kt1 ?kt2 ?kk1 ?c1 ?c2 ?c3 ?c4 ?c5 ?c6 ?c7
  case kf => k_asm
  case kd => k_asm
  case f1 => (walk_at "m_get"; done)
  case f2 => (walk_at "m_get"; done)
  case f3 => (walk_at "m_get"; done)
  case f4 => (walk_at "m_get"; done)
  case f5 => (walk_at "m_get"; done)
  case f6 => (walk_at "m_get"; done)
  case f7 => (walk_at "m_get"; done)
  case kk => (walk_at "keeps"; done)
  case ln => k_asm
  case l1 => (walk_at "front"; done)
  case l2 => (walk_at "front"; done)
  case l3 => (walk_at "front"; done)
  case l4 => (walk_at "front"; done)
  case l5 => (walk_at "front"; done)
  case p0 => exact h294
  case p1 => omega
  case p2 => omega
  case p3 => omega
  case p4 => omega
  case n1 => (walk_at "all ne"; done)
  case n2 => (walk_at "all ne"; done)
  case n3 => (walk_at "all ne"; done)
  case n4 => (walk_at "all ne"; done)
  case n5 => (walk_at "all ne"; done)
  case ks => (walk_at "sub"; done)
  case km => assumption
  case kt1 => k_mem
  case kt2 => k_mem
  case kk1 => k_mem
  case c1 => k_mem
  case c2 => assumption
  case c3 => k_mem
  case c4 => assumption
  case c5 => exact ⟨_, by k_mem, by assumption⟩
  case c6 => k_mem
  case c7 => k_mem
end
-- text W3
section
variable {w : World} {dp un : Nat} {gd : Option (List Code)} {cn : Str} {cs : Scope} {a : Addr} {ccd : Value} {base g h₀ : Heap} {L Lc : Addr} {m mc : Str → Option Value} {s : Shared} {Q E : Value → Shared → Prop}     {loose : List Str} {mean : ExcName → Option Value} {mg mb : Str → Option Value} {rest news : List (Addr × Obj)} {la lh : Addr} {LA LH : Obj} {A₀ : Around}     {nm bn : Str} {ps : Arguments} {bd : List Stmt} {sc : Scope} {pos : Pos} 
variable {n what form fault : Int} {u1 u2 u3 u4 to tl td : Tok} {tb dk t1 t2 : Addr} {TB DK o4 x3 : Obj} {pt : Array Value} {Qf : Flow → Shared → Prop}
theorem caseB (ed : caseDef = .FunctionDef nm ps bd [] none [] sc none bn pos)
    (B : Below (ktrTop dp un gd cn cs Lc a ccd [] []) base [envOf cn cs Lc a ccd] g) (F : Fr g L s.heap m) (X : (hd.heap_39 w.params).In g) (N : Led5 g L s.heap tb TB la LA lh LH dk DK pt rest) (T : Top topProg loose mean mg mb g) (hck : cs.kind = .function) (hdp : dp + 30 < recursionLimit) (hun : un + 300 < cLine)
    (n0 : 0 ≤ n) (n1 : n < 1000000000) (m1 : m "old" = some (.bytes (idB (n + 1)) tl)) (m2 : m "last" = some (.bytes (idB (n + 2)) td)) (hD : TB.IsDictOf (bytesKind P0 w) [((idB (n + 1)).toList, .ref t1), ((idB (n + 2)).toList, .ref t2)]) (hs : (tb == sysModules) = false)
    (c5 : (L + 1 + 1 + 1 + 1 + 1, x3) ∈ rest) (c5' : x3.data = .cell (some (.ref tb))) (c2 : (L + 1 + 1, o4) ∈ rest) (c2' : o4.data = .cell (some (.int fault u4)))
    (hret : ∀ h' tk' TB' al, Fr g L h' m → Led5 g L h' tb TB' la LA lh LH dk DK pt rest → TB'.IsDictOf (bytesKind P0 w) al → valueAt al (idB (n + 1)).toList = (if fault = 1 then none else some (.ref t1)) → valueAt al (idB (n + 2)).toList = (if fault = 2 then none else some (.ref t2)) → Qf .next { s with heap := h', toks := tk' }) :
    wpAny (model P0 w) ((ktrTop dp un gd cn cs Lc a ccd [] []).deeper (envOfC caseN sc L 299 (.ref 298))) (execs [cAt 6, cAt 7] (envOfC caseN sc L 299 (.ref 298))) Qf E s := by
  walk_at "k known"
  have i1 : 0 ≤ n + 1 := by omega
  have i2 : 0 ≤ n + 2 := by omega
  have r12 : (idB (n + 1)).toList ≠ (idB (n + 2)).toList := idB_ne i1 (by omega) i2 (by omega) (by omega)
  cases ed
  obtain ⟨N, z0, z1, z2, z3, z4, y1, y2, y3, y4, y5⟩ := N
  unfold cAt
  dsimp only [nth, caseBody, bodyOf, PySem.Challenge.pw_bt5023_01]
  by_cases f1 : fault = 1
  · subst f1
    walk_at "walkc"
    exact hret _ _ _ _ (by k_asm) (Led5.mk (by k_asm) z0 z1 z2 z3 z4 y1 y2 y3 y4 y5) (by k_asm) (va_tail (Ne.symm r12) va_nil) va_head
  · by_cases f2 : fault = 2
    · subst f2
      walk_at "walkc"
      exact hret _ _ _ _ (by k_asm) (Led5.mk (by k_asm) z0 z1 z2 z3 z4 y1 y2 y3 y4 y5) (by k_asm) va_head (va_tail r12 va_nil)
    · walk_at "walkc"
      exact hret _ _ _ _ (by k_asm) (Led5.mk (by k_asm) z0 z1 z2 z3 z4 y1 y2 y3 y4 y5) (by k_asm) (by rw [if_neg f1]; exact va_head) (by rw [if_neg f2]; exact va_tail r12 va_head)
end
-- text W4
section
variable {w : World} {dp un : Nat} {gd : Option (List Code)} {cn : Str} {cs : Scope} {a : Addr} {ccd : Value} {base g h₀ : Heap} {L Lc : Addr} {m mc : Str → Option Value} {s : Shared} {Q E : Value → Shared → Prop}     {loose : List Str} {mean : ExcName → Option Value} {mg mb : Str → Option Value} {rest news : List (Addr × Obj)} {la lh : Addr} {LA LH : Obj} {A₀ : Around}     {nm bn : Str} {ps : Arguments} {bd : List Stmt} {sc : Scope} {pos : Pos} 
variable {n what form fault : Int} {u1 u2 u3 u4 to tl td : Tok} {tb dk t1 t2 : Addr} {TB DK o1 o2 o3 o4 o5 : Obj} {pt : Array Value} {Qf : Flow → Shared → Prop}
theorem caseC (ed : caseDef = .FunctionDef nm ps bd [] none [] sc none bn pos)
    (B : Below (ktrTop dp un gd cn cs Lc a ccd [] []) base [envOf cn cs Lc a ccd] g) (F : Fr g L s.heap m) (X : (hd.heap_39 w.params).In g) (N : Led5 g L s.heap tb TB la LA lh LH dk DK pt rest) (hT : TabSt pt rest) (T : Top topProg loose mean mg mb g) (C2 : CodeHd base 298 294) (hck : cs.kind = .function) (hdp : dp + 30 < recursionLimit) (hun : un + 300 < cLine)
    (c5 : (L + 1 + 1 + 1 + 1 + 1, o1) ∈ rest) (c4 : (L + 1 + 1 + 1 + 1, o2) ∈ rest) (c3 : (L + 1 + 1 + 1, o3) ∈ rest) (c2 : (L + 1 + 1, o4) ∈ rest) (c1 : (L + 1, o5) ∈ rest) (d1 : o1.data = .cell (some (.ref tb))) (d2 : o2.data = .cell (some (.ref lh))) (d3 : o3.data = .cell (some (.ref la))) (d4 : o4.data = .cell (some (.int fault u4))) (d5 : o5.data = .cell (some (.int n u1)))
    {n8 n9 : Str} {ps8 ps9 : Arguments} {b8 b9 : List Stmt} {sc8 sc9 : Scope} {p8 p9 : Pos} (e8 : nth caseBody 8 = .FunctionDef n8 ps8 b8 [] none [] sc8 none n8 p8) (e9 : nth caseBody 9 = .FunctionDef n9 ps9 b9 [] none [] sc9 none n9 p9)
    (hret : ∀ f1 k1 ok1 ct1 dc1 vs1 v1 f2 k2 ok2 ct2 dc2 vs2 v2 pm m' h' tk' pt' rest', Keeps ["reading", "merging"] m m' → m' "reading" = some (.ref f1) → m' "merging" = some (.ref f2) → Fr g L h' m' → Led5 g L h' tb TB la LA lh LH dk DK pt' rest' → TabSt pt' rest' → Sub rest rest' →
      (f1, fnMade n8 qRead ps8 b8 sc8 [("table", L + 1 + 1 + 1 + 1 + 1), ("asked", L + 1 + 1 + 1)] dc1 pm k1 ct1) ∈ rest' → (k1, ok1) ∈ rest' → ok1.data = .fields vs1 → vs1[1]? = some (.str qRead v1) →
      (f2, fnMade n9 qMerge ps9 b9 sc9 [("number", L + 1), ("heard", L + 1 + 1 + 1 + 1), ("fault", L + 1 + 1)] dc2 pm k2 ct2) ∈ rest' → (k2, ok2) ∈ rest' → ok2.data = .fields vs2 → vs2[1]? = some (.str qMerge v2) → Qf .next { s with heap := h', toks := tk' }) :
    wpAny (model P0 w) ((ktrTop dp un gd cn cs Lc a ccd [] []).deeper (envOfC caseN sc L 299 (.ref 298))) (execs [cAt 8, cAt 9] (envOfC caseN sc L 299 (.ref 298))) Qf E s := by
  walk_at "k known"
  cases ed
  cases e8
  cases e9
  obtain ⟨N, z0, z1, z2, z3, z4, y1, y2, y3, y4, y5⟩ := N
  unfold cAt
  dsimp only [nth, caseBody, bodyOf, PySem.Challenge.pw_bt5023_01]
  rcases hT with rfl | ⟨k1, ok1, vs1, v1, k2, ok2, vs2, v2, rfl, t1, t2, t3, t4, t5, t6⟩
  · walk_at "walk"
    walk_at "split lts"
    refine' hret _ _ _ _ _ _ _ _ _ _ _ _ _ _ _ _ _ _ _ _ ?kkx ?f1x ?f2x ?kfx (Led5.of ?lnx ?l1x ?l2x ?l3x ?l4x ?l5x z0 z1 z2 z3 z4 ?n1x ?n2x ?n3x ?n4x ?n5x) ?tsx ?ksx ?a1x ?a2x ?a3x ?a4x ?b1x ?b2x ?b3x ?b4x
    case kfx => k_asm
    case kkx => (walk_at "keeps"; done)
    case f1x => (walk_at "m_get"; done)
    case f2x => (walk_at "m_get"; done)
    case lnx => k_asm
    case l1x => (walk_at "front"; done)
    case l2x => (walk_at "front"; done)
    case l3x => (walk_at "front"; done)
    case l4x => (walk_at "front"; done)
    case l5x => (walk_at "front"; done)
    case n1x => (walk_at "all ne"; done)
    case n2x => (walk_at "all ne"; done)
    case n3x => (walk_at "all ne"; done)
    case n4x => (walk_at "all ne"; done)
    case n5x => (walk_at "all ne"; done)
    case ksx => (walk_at "sub"; done)
    case a1x => k_mem
    case a2x => k_mem
    case a3x => assumption
    case a4x => assumption
    case b1x => k_mem
    case b2x => k_mem
    case b3x => assumption
    case b4x => assumption
    case tsx => exact .inr ⟨_, _, _, _, _, _, _, _, rfl, by k_mem, by assumption, by assumption, by k_mem, by assumption, by assumption⟩
  · walk_at "walk"
    walk_at "split lts"
    refine' hret _ _ _ _ _ _ _ _ _ _ _ _ _ _ _ _ _ _ _ _ ?kky ?f1y ?f2y ?kfy (Led5.of ?lny ?l1y ?l2y ?l3y ?l4y ?l5y z0 z1 z2 z3 z4 ?n1y ?n2y ?n3y ?n4y ?n5y) ?tsy ?ksy ?a1y ?a2y ?a3y ?a4y ?b1y ?b2y ?b3y ?b4y
    case kfy => k_asm
    case kky => (walk_at "keeps"; done)
    case f1y => (walk_at "m_get"; done)
    case f2y => (walk_at "m_get"; done)
    case lny => k_asm
    case l1y => (walk_at "front"; done)
    case l2y => (walk_at "front"; done)
    case l3y => (walk_at "front"; done)
    case l4y => (walk_at "front"; done)
    case l5y => (walk_at "front"; done)
    case n1y => (walk_at "all ne"; done)
    case n2y => (walk_at "all ne"; done)
    case n3y => (walk_at "all ne"; done)
    case n4y => (walk_at "all ne"; done)
    case n5y => (walk_at "all ne"; done)
    case ksy => (walk_at "sub"; done)
    case a1y => k_mem
    case a2y => k_mem
    case a3y => assumption
    case a4y => assumption
    case b1y => k_mem
    case b2y => k_mem
    case b3y => assumption
    case b4y => assumption
    case tsy => exact .inr ⟨_, _, _, _, _, _, _, _, rfl, by k_mem, t2, t3, by k_mem, t5, t6⟩
end
-- text W5
section
variable {w : World} {dp un : Nat} {gd : Option (List Code)} {cn : Str} {cs : Scope} {a : Addr} {ccd : Value} {base g h₀ : Heap} {L Lc : Addr} {m mc : Str → Option Value} {s : Shared} {Q E : Value → Shared → Prop}     {loose : List Str} {mean : ExcName → Option Value} {mg mb : Str → Option Value} {rest news : List (Addr × Obj)} {la lh : Addr} {LA LH : Obj} {A₀ : Around}     {nm bn : Str} {ps : Arguments} {bd : List Stmt} {sc : Scope} {pos : Pos} 
variable {n what form fault : Int} {u1 u2 u3 u4 to tl td : Tok} {tb dk k f2 t1 t2 : Addr} {TB DK o1 o2 o3 o4 o5 : Obj} {pt : Array Value} {Qf : Flow → Shared → Prop} {a1 a2 a3 : Tok} {b1 b2 b3 : Value}
/-- the class of the new row, by what -/
def KlassIs (what : Int) (k : Addr) (f2 : Addr) (rest : List (Addr × Obj)) : Prop :=
  (what = 0 ∧ ∃ dk es n, (k, instObj 274 dk) ∈ rest ∧ (dk, dictOf es n) ∈ rest ∧ getL "_p_resolveConflict" es = some (some (.ref f2))) ∨
  (what = 1 ∧ ∃ dk es n, (k, instObj 245 dk) ∈ rest ∧ (dk, dictOf es n) ∈ rest ∧ getL "_p_resolveConflict" es = some none) ∨
  (what = 2 ∧ ∃ dk es n, (k, instObj 274 dk) ∈ rest ∧ (dk, dictOf es n) ∈ rest ∧ getL "_p_resolveConflict" es = some none)
theorem caseD (ed : caseDef = .FunctionDef nm ps bd [] none [] sc none bn pos)
    (B : Below (ktrTop dp un gd cn cs Lc a ccd [] []) base [envOf cn cs Lc a ccd] g) (F : Fr g L s.heap m) (X : (hd.heap_39 w.params).In g) (N : Led5 g L s.heap tb TB la LA lh LH dk (dictOf (es3 w.params a1 a2 a3 b1 b2 b3) 3) pt rest) (T : Top topProg loose mean mg mb g) (hck : cs.kind = .function) (hdp : dp + 30 < recursionLimit) (hun : un + 300 < cLine)
    (hw : what = 0 ∨ what = 1 ∨ what = 2) (m1 : m "what" = some (.int what u2)) (m2 : m "klass" = some (.ref k)) (m3 : m "merging" = some (.ref f2)) (hk : (k, instObj 274 dk) ∈ rest)
    (hret : ∀ k' m' h' tk' rest', Keeps ["klass"] m m' → m' "klass" = some (.ref k') → Fr g L h' m' → Led2 g L h' la LA lh LH rest' → KlassIs what k' f2 rest' → (tb, TB) ∈ rest' → (294, tabObj pt) ∈ rest' → Sub rest rest' → Qf .next { s with heap := h', toks := tk' }) :
    wpAny (model P0 w) ((ktrTop dp un gd cn cs Lc a ccd [] []).deeper (envOfC caseN sc L 299 (.ref 298))) (execs [cAt 10, cAt 11] (envOfC caseN sc L 299 (.ref 298))) Qf E s := by
  walk_at "k known"
  cases ed
  obtain ⟨N, z0, z1, z2, z3, z4, y1, y2, y3, y4, y5⟩ := N
  unfold cAt
  dsimp only [nth, caseBody, bodyOf, PySem.Challenge.pw_bt5023_01]
  rcases hw with rfl | rfl | rfl
  · walk_at "walkc"
    walk_at "split lts"
    refine' hret _ _ _ _ _ ?kkx ?kjx ?kfx (Led2.of ?lnx ?l1x ?l2x ?n1x ?n2x (by omega)) ?kix ?ktx ?k9x ?ksx
    case kfx => k_asm
    case kkx => (walk_at "keeps"; done)
    case kjx => first | (walk_at "m_get"; done) | assumption
    case lnx => k_asm
    case l1x => (walk_at "front"; done)
    case l2x => (walk_at "front"; done)
    case n1x => (walk_at "all ne"; done)
    case n2x => (walk_at "all ne"; done)
    case kix => exact .inl ⟨rfl, dk, _, _, by k_mem, by k_mem, rfl⟩
    case ktx => k_mem
    case k9x => k_mem
    case ksx => (walk_at "sub"; done)
  · walk_at "walkc"
    walk_at "split lts"
    refine' hret _ _ _ _ _ ?kky ?kjy ?kfy (Led2.of ?lny ?l1y ?l2y ?n1y ?n2y (by omega)) ?kiy ?kty ?k9y ?ksy
    case kfy => k_asm
    case kky => (walk_at "keeps"; done)
    case kjy => first | (walk_at "m_get"; done) | assumption
    case lny => k_asm
    case l1y => (walk_at "front"; done)
    case l2y => (walk_at "front"; done)
    case n1y => (walk_at "all ne"; done)
    case n2y => (walk_at "all ne"; done)
    case kiy => exact .inr (.inl ⟨rfl, _, _, _, by k_mem, by k_mem, rfl⟩)
    case kty => k_mem
    case k9y => k_mem
    case ksy => (walk_at "sub"; done)
  · walk_at "walkc"
    walk_at "split lts"
    refine' hret _ _ _ _ _ ?kkz ?kjz ?kfz (Led2.of ?lnz ?l1z ?l2z ?n1z ?n2z (by omega)) ?kiz ?ktz ?k9z ?ksz
    case kfz => k_asm
    case kkz => (walk_at "keeps"; done)
    case kjz => first | (walk_at "m_get"; done) | assumption
    case lnz => k_asm
    case l1z => (walk_at "front"; done)
    case l2z => (walk_at "front"; done)
    case n1z => (walk_at "all ne"; done)
    case n2z => (walk_at "all ne"; done)
    case kiz => exact .inr (.inr ⟨rfl, dk, _, _, by k_mem, by k_mem, rfl⟩)
    case ktz => k_mem
    case k9z => k_mem
    case ksz => (walk_at "sub"; done)
end
-- text W6
section
variable {w : World} {dp un : Nat} {gd : Option (List Code)} {cn : Str} {cs : Scope} {a : Addr} {ccd : Value} {base g h₀ : Heap} {L Lc : Addr} {m mc : Str → Option Value} {s : Shared} {Q E : Value → Shared → Prop}     {loose : List Str} {mean : ExcName → Option Value} {mg mb : Str → Option Value} {rest news : List (Addr × Obj)} {la lh : Addr} {LA LH : Obj} {A₀ : Around}     {nm bn : Str} {ps : Arguments} {bd : List Stmt} {sc : Scope} {pos : Pos} 
variable {n what form fault : Int} {handed : Bool} {u1 u2 u3 u4 v1 v2 v3 to tl td : Tok} {i1 i2 i3 : Int} {tb dk k f1 f2 t1 t2 : Addr} {o4 of1 : Obj} {fd1 : FuncData} {Qf : Flow → Shared → Prop} {mv : Value} {es : List DictEntry} {n1 : Nat} {bo bl bdd : Array UInt8}
theorem caseE1 (ed : caseDef = .FunctionDef nm ps bd [] none [] sc none bn pos)
    (B : Below (ktrTop dp un gd cn cs Lc a ccd [] []) base [envOf cn cs Lc a ccd] g) (F : Fr g L s.heap m) (X : (hd.heap_39 w.params).In g) (N : Led2 g L s.heap la LA lh LH rest) (T : Top topProg loose mean mg mb g) (hck : cs.kind = .function) (hdp : dp + 30 < recursionLimit) (hun : un + 300 < cLine)
    (hfm : form = 0 ∨ form = 1 ∨ form = 2 ∨ form = 3) (m1 : m "form" = some (.int form u2)) (m2 : m "klass" = some (.ref k)) (hk : (k, instObj 274 dk) ∈ rest ∨ (k, instObj 245 dk) ∈ rest) (hdk : (dk, dictOf es n1) ∈ rest)
    (hret : ∀ mv m' h' tk' rest', Keeps ["meta"] m m' → m' "meta" = some mv → Fr g L h' m' → Led2 g L h' la LA lh LH rest' → Sub rest rest' → FormIs mv k rest' → Qf .next { s with heap := h', toks := tk' }) :
    wpAny (model P0 w) ((ktrTop dp un gd cn cs Lc a ccd [] []).deeper (envOfC caseN sc L 299 (.ref 298))) (execs [cAt 12] (envOfC caseN sc L 299 (.ref 298))) Qf E s := by
  walk_at "k known"
  cases ed
  obtain ⟨N, nna, nnh, hn⟩ := N
  unfold cAt
  dsimp only [nth, caseBody, bodyOf, PySem.Challenge.pw_bt5023_01]
  rcases hfm with rfl | rfl | rfl | rfl
  · walk_at "walkc"
    walk_at "split lts"
    refine' hret _ _ _ _ _ ?kkx ?kjx ?kfx (Led2.of ?lnx ?l1x ?l2x ?n1x ?n2x hn) ?ksx ?e0x
    case kfx => k_asm
    case kkx => (walk_at "keeps"; done)
    case kjx => first | (walk_at "m_get"; done) | assumption
    case lnx => k_asm
    case l1x => (walk_at "front"; done)
    case l2x => (walk_at "front"; done)
    case n1x => (walk_at "all ne"; done)
    case n2x => (walk_at "all ne"; done)
    case ksx => (walk_at "sub"; done)
    case e0x => exact .inl ⟨rfl, dk, _, _, hk.imp (fun h => by k_mem) (fun h => by k_mem), by k_mem⟩
  · walk_at "walkc"
    walk_at "split lts"
    refine' hret _ _ _ _ _ ?kky ?kjy ?kfy (Led2.of ?lny ?l1y ?l2y ?n1y ?n2y hn) ?ksy ?e0y
    case kfy => k_asm
    case kky => (walk_at "keeps"; done)
    case kjy => first | (walk_at "m_get"; done) | assumption
    case lny => k_asm
    case l1y => (walk_at "front"; done)
    case l2y => (walk_at "front"; done)
    case n1y => (walk_at "all ne"; done)
    case n2y => (walk_at "all ne"; done)
    case ksy => (walk_at "sub"; done)
    case e0y => exact .inr ⟨_, 0, _, 0, 0, 0, 0, rfl, by k_mem, .inl rfl⟩
  · walk_at "walkc"
    walk_at "split lts"
    refine' hret _ _ _ _ _ ?kkz ?kjz ?kfz (Led2.of ?lnz ?l1z ?l2z ?n1z ?n2z hn) ?ksz ?e0z
    case kfz => k_asm
    case kkz => (walk_at "keeps"; done)
    case kjz => first | (walk_at "m_get"; done) | assumption
    case lnz => k_asm
    case l1z => (walk_at "front"; done)
    case l2z => (walk_at "front"; done)
    case n1z => (walk_at "all ne"; done)
    case n2z => (walk_at "all ne"; done)
    case ksz => (walk_at "sub"; done)
    case e0z => exact .inr ⟨_, _, _, 0, 0, 0, 0, rfl, by k_mem, .inr (.inl ⟨rfl, by k_mem⟩)⟩
  · walk_at "walkc"
    walk_at "split lts"
    refine' hret _ _ _ _ _ ?kkv ?kjv ?kfv (Led2.of ?lnv ?l1v ?l2v ?n1v ?n2v hn) ?ksv ?e0v
    case kfv => k_asm
    case kkv => (walk_at "keeps"; done)
    case kjv => first | (walk_at "m_get"; done) | assumption
    case lnv => k_asm
    case l1v => (walk_at "front"; done)
    case l2v => (walk_at "front"; done)
    case n1v => (walk_at "all ne"; done)
    case n2v => (walk_at "all ne"; done)
    case ksv => (walk_at "sub"; done)
    case e0v => exact .inr ⟨_, _, _, _, _, _, _, rfl, by k_mem, .inr (.inr ⟨rfl, by k_mem⟩)⟩
theorem caseE2 (ed : caseDef = .FunctionDef nm ps bd [] none [] sc none bn pos)
    (B : Below (ktrTop dp un gd cn cs Lc a ccd [] []) base [envOf cn cs Lc a ccd] g) (F : Fr g L s.heap m) (X : (hd.heap_39 w.params).In g) (N : Led2 g L s.heap la LA lh LH rest) (T : Top topProg loose mean mg mb g) (hck : cs.kind = .function) (hdp : dp + 30 < recursionLimit) (hun : un + 300 < cLine)
    (c2 : (L + 1 + 1, o4) ∈ rest) (c2' : o4.data = .cell (some (.int fault u4))) (m1 : m "meta" = some mv) (m2 : m "third" = some (.int i3 v3))
    (hret : ∀ r m' h' tk' rest', Keeps ["row"] m m' → m' "row" = some (.ref r) → Fr g L h' m' → Led2 g L h' la LA lh LH rest' → Sub rest rest' → ((fault = 3 ∧ (r, tupObj []) ∈ rest') ∨ (fault ≠ 3 ∧ (r, tupObj [mv, .int i3 v3]) ∈ rest')) → Qf .next { s with heap := h', toks := tk' }) :
    wpAny (model P0 w) ((ktrTop dp un gd cn cs Lc a ccd [] []).deeper (envOfC caseN sc L 299 (.ref 298))) (execs [cAt 13] (envOfC caseN sc L 299 (.ref 298))) Qf E s := by
  walk_at "k known"
  cases ed
  obtain ⟨N, nna, nnh, hn⟩ := N
  unfold cAt
  dsimp only [nth, caseBody, bodyOf, PySem.Challenge.pw_bt5023_01]
  by_cases hf : fault = 3
  · subst hf
    walk_at "walkc"
    walk_at "split lts"
    refine' hret _ _ _ _ _ ?kkx ?kjx ?kfx (Led2.of ?lnx ?l1x ?l2x ?n1x ?n2x hn) ?ksx ?e0x
    case kfx => k_asm
    case kkx => (walk_at "keeps"; done)
    case kjx => first | (walk_at "m_get"; done) | assumption
    case lnx => k_asm
    case l1x => (walk_at "front"; done)
    case l2x => (walk_at "front"; done)
    case n1x => (walk_at "all ne"; done)
    case n2x => (walk_at "all ne"; done)
    case ksx => (walk_at "sub"; done)
    case e0x => exact .inl ⟨rfl, by k_mem⟩
  · walk_at "walkc"
    walk_at "split lts"
    refine' hret _ _ _ _ _ ?kky ?kjy ?kfy (Led2.of ?lny ?l1y ?l2y ?n1y ?n2y hn) ?ksy ?e0y
    case kfy => k_asm
    case kky => (walk_at "keeps"; done)
    case kjy => first | (walk_at "m_get"; done) | assumption
    case lny => k_asm
    case l1y => (walk_at "front"; done)
    case l2y => (walk_at "front"; done)
    case n1y => (walk_at "all ne"; done)
    case n2y => (walk_at "all ne"; done)
    case ksy => (walk_at "sub"; done)
    case e0y => exact .inr ⟨hf, by k_mem⟩
theorem caseE3 (ed : caseDef = .FunctionDef nm ps bd [] none [] sc none bn pos)
    (B : Below (ktrTop dp un gd cn cs Lc a ccd [] []) base [envOf cn cs Lc a ccd] g) (F : Fr g L s.heap m) (X : (hd.heap_39 w.params).In g) (N : Led2 g L s.heap la LA lh LH rest) (T : Top topProg loose mean mg mb g) (hck : cs.kind = .function) (hdp : dp + 30 < recursionLimit) (hun : un + 300 < cLine)
    (m1 : m "reading" = some (.ref f1))
    (hret : ∀ st ds hh k1 m' h' tk' rest', Keeps ["store"] m m' → m' "store" = some (.ref st) → Fr g L h' m' → Led2 g L h' la LA lh LH rest' → Sub rest rest' → (st, instObj 181 ds) ∈ rest' → (ds, dictOf [⟨hh, .str (Str.ofString "loadSerial") k1, .ref f1⟩] 1) ∈ rest' → Qf .next { s with heap := h', toks := tk' }) :
    wpAny (model P0 w) ((ktrTop dp un gd cn cs Lc a ccd [] []).deeper (envOfC caseN sc L 299 (.ref 298))) (execs [cAt 14, cAt 15] (envOfC caseN sc L 299 (.ref 298))) Qf E s := by
  walk_at "k known"
  cases ed
  obtain ⟨N, nna, nnh, hn⟩ := N
  unfold cAt
  dsimp only [nth, caseBody, bodyOf, PySem.Challenge.pw_bt5023_01]
  walk_at "walk"
  walk_at "split lts"
  refine' hret _ _ _ _ _ _ _ _ ?kkx ?kjx ?kfx (Led2.of ?lnx ?l1x ?l2x ?n1x ?n2x hn) ?ksx ?e0x ?e1x
  case kfx => k_asm
  case kkx => (walk_at "keeps"; done)
  case kjx => first | (walk_at "m_get"; done) | assumption
  case lnx => k_asm
  case l1x => (walk_at "front"; done)
  case l2x => (walk_at "front"; done)
  case n1x => (walk_at "all ne"; done)
  case n2x => (walk_at "all ne"; done)
  case ksx => (walk_at "sub"; done)
  case e0x => k_mem
  case e1x => k_mem
end
-- text W7
section
variable {w : World} {dp un : Nat} {gd : Option (List Code)} {cn : Str} {cs : Scope} {a : Addr} {ccd : Value} {base g h₀ : Heap} {L Lc : Addr} {m mc : Str → Option Value} {s : Shared} {Q E : Value → Shared → Prop}     {loose : List Str} {mean : ExcName → Option Value} {mg mb : Str → Option Value} {rest news : List (Addr × Obj)} {la lh : Addr} {LA LH : Obj} {A₀ : Around}     {nm bn : Str} {ps : Arguments} {bd : List Stmt} {sc : Scope} {pos : Pos} 
variable {n what form fault : Int} {handed : Bool} {u1 u2 u3 u4 v1 v2 v3 to tl td : Tok} {i1 i2 i3 : Int} {tb dk k f1 f2 t1 t2 ld : Addr} {o4 of1 : Obj} {fd1 : FuncData} {Qf : Flow → Shared → Prop} {mv : Value} {es : List DictEntry} {n1 : Nat} {bo bl bdd : Array UInt8} {rb : Bool} {A : List Dt}
theorem caseE4 (ed : caseDef = .FunctionDef nm ps bd [] none [] sc none bn pos)
    (B : Below (ktrTop dp un gd cn cs Lc a ccd [] []) base [envOf cn cs Lc a ccd] g) (F : Fr g L s.heap m) (X : (hd.heap_39 w.params).In g) (N : Led2 g L s.heap la LA lh LH rest) (T : Top topProg loose mean mg mb g) (hck : cs.kind = .function) (hdp : dp + 30 < recursionLimit) (hun : un + 300 < cLine)
    (c2 : (L + 1 + 1, o4) ∈ rest) (c2' : o4.data = .cell (some (.int fault u4))) (m1 : m "oid" = some (.bytes bo to)) (m2 : m "old" = some (.bytes bdd td)) (m3 : m "last" = some (.bytes bl tl)) (m4 : m "handed" = some (.bool handed))
    (hret : ∀ ld m' h' tk' rest', Keeps ["due_asked"] m m' → m' "due_asked" = some (.ref ld) → Fr g L h' m' → Led2 g L h' la LA lh LH rest' → Sub rest rest' → Has rest' 2 (.ref ld) (.lst (if fault ≠ 1 ∧ handed = false then [.tup [.bytes bo, .bytes bdd], .tup [.bytes bo, .bytes bl]] else [.tup [.bytes bo, .bytes bdd]])) → Qf .next { s with heap := h', toks := tk' }) :
    wpAny (model P0 w) ((ktrTop dp un gd cn cs Lc a ccd [] []).deeper (envOfC caseN sc L 299 (.ref 298))) (execs [cAt 16, cAt 17] (envOfC caseN sc L 299 (.ref 298))) Qf E s := by
  walk_at "k known"
  cases ed
  obtain ⟨N, nna, nnh, hn⟩ := N
  unfold cAt
  dsimp only [nth, caseBody, bodyOf, PySem.Challenge.pw_bt5023_01]
  by_cases hf : fault = 1
  · subst hf
    walk_at "walkc"
    walk_at "split lts"
    refine' hret _ _ _ _ _ ?kkx ?kjx ?kfx (Led2.of ?lnx ?l1x ?l2x ?n1x ?n2x hn) ?ksx ?e0x
    case kfx => k_asm
    case kkx => (walk_at "keeps"; done)
    case kjx => first | (walk_at "m_get"; done) | assumption
    case lnx => k_asm
    case l1x => (walk_at "front"; done)
    case l2x => (walk_at "front"; done)
    case n1x => (walk_at "all ne"; done)
    case n2x => (walk_at "all ne"; done)
    case ksx => (walk_at "sub"; done)
    case e0x => (rw [if_neg (by rintro ⟨q, _⟩; exact q rfl)]; exact .lst (by k_mem) (.cons (.tup (by k_mem) (.cons (.bytes _ _) (.cons (.bytes _ _) .nil))) .nil))
  · cases handed
    · walk_at "walkc"
      walk_at "split lts"
      refine' hret _ _ _ _ _ ?kky ?kjy ?kfy (Led2.of ?lny ?l1y ?l2y ?n1y ?n2y hn) ?ksy ?e0y
      case kfy => k_asm
      case kky => (walk_at "keeps"; done)
      case kjy => first | (walk_at "m_get"; done) | assumption
      case lny => k_asm
      case l1y => (walk_at "front"; done)
      case l2y => (walk_at "front"; done)
      case n1y => (walk_at "all ne"; done)
      case n2y => (walk_at "all ne"; done)
      case ksy => (walk_at "sub"; done)
      case e0y => (rw [if_pos ⟨hf, rfl⟩]; exact .lst (by k_mem) (.cons (.tup (by k_mem) (.cons (.bytes _ _) (.cons (.bytes _ _) .nil))) (.cons (.tup (by k_mem) (.cons (.bytes _ _) (.cons (.bytes _ _) .nil))) .nil)))
    · walk_at "walkc"
      walk_at "split lts"
      refine' hret _ _ _ _ _ ?kkz ?kjz ?kfz (Led2.of ?lnz ?l1z ?l2z ?n1z ?n2z hn) ?ksz ?e0z
      case kfz => k_asm
      case kkz => (walk_at "keeps"; done)
      case kjz => first | (walk_at "m_get"; done) | assumption
      case lnz => k_asm
      case l1z => (walk_at "front"; done)
      case l2z => (walk_at "front"; done)
      case n1z => (walk_at "all ne"; done)
      case n2z => (walk_at "all ne"; done)
      case ksz => (walk_at "sub"; done)
      case e0z => (rw [if_neg (by rintro ⟨_, q⟩; cases q)]; exact .lst (by k_mem) (.cons (.tup (by k_mem) (.cons (.bytes _ _) (.cons (.bytes _ _) .nil))) .nil))
theorem caseE5 (ed : caseDef = .FunctionDef nm ps bd [] none [] sc none bn pos)
    (B : Below (ktrTop dp un gd cn cs Lc a ccd [] []) base [envOf cn cs Lc a ccd] g) (F : Fr g L s.heap m) (X : (hd.heap_39 w.params).In g) (N : Led2 g L s.heap la LA lh LH rest) (T : Top topProg loose mean mg mb g) (hck : cs.kind = .function) (hdp : dp + 30 < recursionLimit) (hun : un + 300 < cLine)
    (c2 : (L + 1 + 1, o4) ∈ rest) (c2' : o4.data = .cell (some (.int fault u4))) (m1 : m "what" = some (.int what u2)) (m2 : m "due_asked" = some (.ref ld)) (hA : Has rest 2 (.ref ld) (.lst A))
    (hret : ∀ ld m' h' tk' rest', Keeps ["due_asked"] m m' → m' "due_asked" = some (.ref ld) → Fr g L h' m' → Led2 g L h' la LA lh LH rest' → Sub rest rest' → Has rest' 2 (.ref ld) (.lst (if what = 2 ∨ fault = 3 then [] else A)) → Qf .next { s with heap := h', toks := tk' }) :
    wpAny (model P0 w) ((ktrTop dp un gd cn cs Lc a ccd [] []).deeper (envOfC caseN sc L 299 (.ref 298))) (execs [cAt 18] (envOfC caseN sc L 299 (.ref 298))) Qf E s := by
  walk_at "k known"
  cases ed
  obtain ⟨N, nna, nnh, hn⟩ := N
  unfold cAt
  dsimp only [nth, caseBody, bodyOf, PySem.Challenge.pw_bt5023_01]
  by_cases hw : what = 2
  · subst hw
    walk_at "walkc"
    walk_at "split lts"
    refine' hret _ _ _ _ _ ?kkx ?kjx ?kfx (Led2.of ?lnx ?l1x ?l2x ?n1x ?n2x hn) ?ksx ?e0x
    case kfx => k_asm
    case kkx => (walk_at "keeps"; done)
    case kjx => first | (walk_at "m_get"; done) | assumption
    case lnx => k_asm
    case l1x => (walk_at "front"; done)
    case l2x => (walk_at "front"; done)
    case n1x => (walk_at "all ne"; done)
    case n2x => (walk_at "all ne"; done)
    case ksx => (walk_at "sub"; done)
    case e0x => (rw [if_pos (.inl rfl)]; exact .lst (by k_mem) .nil)
  · by_cases hf : fault = 3
    · subst hf
      walk_at "walkc"
      walk_at "split lts"
      refine' hret _ _ _ _ _ ?kky ?kjy ?kfy (Led2.of ?lny ?l1y ?l2y ?n1y ?n2y hn) ?ksy ?e0y
      case kfy => k_asm
      case kky => (walk_at "keeps"; done)
      case kjy => first | (walk_at "m_get"; done) | assumption
      case lny => k_asm
      case l1y => (walk_at "front"; done)
      case l2y => (walk_at "front"; done)
      case n1y => (walk_at "all ne"; done)
      case n2y => (walk_at "all ne"; done)
      case ksy => (walk_at "sub"; done)
      case e0y => (rw [if_pos (.inr rfl)]; exact .lst (by k_mem) .nil)
    · walk_at "walkc"
      walk_at "split lts"
      exact hret _ _ _ _ _ Keeps.refl m2 (by k_asm) ⟨by k_asm, nna, nnh, hn⟩ Sub.refl (by rw [if_neg (by rintro (q | q); exact hw q; exact hf q)]; exact hA)
end
-- text W8
section
variable {w : World} {dp un : Nat} {gd : Option (List Code)} {cn : Str} {cs : Scope} {a : Addr} {ccd : Value} {base g h₀ : Heap} {L Lc : Addr} {m mc : Str → Option Value} {s : Shared} {Q E : Value → Shared → Prop}     {loose : List Str} {mean : ExcName → Option Value} {mg mb : Str → Option Value} {rest news : List (Addr × Obj)} {la lh : Addr} {LA LH : Obj} {A₀ : Around}     {nm bn : Str} {ps : Arguments} {bd : List Stmt} {sc : Scope} {pos : Pos} 
variable {n what form fault : Int} {handed : Bool} {u1 u2 u3 u4 v1 v2 v3 to tl td : Tok} {i1 i2 i3 : Int} {o4 : Obj} {Qf : Flow → Shared → Prop} {rb : Bool}
def reachedB (what fault : Int) (handed : Bool) : Bool := decide (what ≠ 2 ∧ fault ≠ 3 ∧ fault ≠ 1 ∧ (handed = true ∨ fault ≠ 2))
def refusedB (what fault : Int) (handed : Bool) : Bool := decide (reachedB what fault handed = false ∨ (what = 0 ∧ fault > 3))
theorem rB_t {what fault : Int} {handed : Bool} (a : what ≠ 2) (b : fault ≠ 3) (c : fault ≠ 1) (d : handed = true ∨ fault ≠ 2) : true = reachedB what fault handed := by
  unfold reachedB; exact (decide_eq_true ⟨a, b, c, d⟩).symm
theorem rB_f {what fault : Int} {handed : Bool} (q : ¬ (what ≠ 2 ∧ fault ≠ 3 ∧ fault ≠ 1 ∧ (handed = true ∨ fault ≠ 2))) : false = reachedB what fault handed := by
  unfold reachedB; exact (decide_eq_false q).symm
theorem fB_t {what fault : Int} {handed : Bool} (q : reachedB what fault handed = false ∨ (what = 0 ∧ fault > 3)) : true = refusedB what fault handed := by
  unfold refusedB; exact (decide_eq_true q).symm
theorem fB_f {what fault : Int} {handed : Bool} (a : reachedB what fault handed = true) (q : ¬ (what = 0 ∧ fault > 3)) : false = refusedB what fault handed := by
  unfold refusedB; exact (decide_eq_false (fun z => z.elim (fun y => by rw [a] at y; cases y) q)).symm
theorem caseE6 (ed : caseDef = .FunctionDef nm ps bd [] none [] sc none bn pos)
    (B : Below (ktrTop dp un gd cn cs Lc a ccd [] []) base [envOf cn cs Lc a ccd] g) (F : Fr g L s.heap m) (X : (hd.heap_39 w.params).In g) (N : Led2 g L s.heap la LA lh LH rest) (T : Top topProg loose mean mg mb g) (hck : cs.kind = .function) (hdp : dp + 30 < recursionLimit) (hun : un + 300 < cLine)
    (c2 : (L + 1 + 1, o4) ∈ rest) (c2' : o4.data = .cell (some (.int fault u4))) (m1 : m "what" = some (.int what u2)) (m4 : m "handed" = some (.bool handed))
    (hret : ∀ b m' h' tk' rest', Keeps ["reached"] m m' → m' "reached" = some (.bool b) → Fr g L h' m' → Led2 g L h' la LA lh LH rest' → Sub rest rest' → b = reachedB what fault handed → Qf .next { s with heap := h', toks := tk' }) :
    wpAny (model P0 w) ((ktrTop dp un gd cn cs Lc a ccd [] []).deeper (envOfC caseN sc L 299 (.ref 298))) (execs [cAt 19] (envOfC caseN sc L 299 (.ref 298))) Qf E s := by
  walk_at "k known"
  cases ed
  obtain ⟨N, nna, nnh, hn⟩ := N
  unfold cAt
  dsimp only [nth, caseBody, bodyOf, PySem.Challenge.pw_bt5023_01]
  by_cases hw : what = 2
  · subst hw
    walk_at "walkc"
    walk_at "split lts"
    refine' hret _ _ _ _ _ ?kkx ?kjx ?kfx (Led2.of ?lnx ?l1x ?l2x ?n1x ?n2x hn) ?ksx ?e0x
    case kfx => k_asm
    case kkx => (walk_at "keeps"; done)
    case kjx => first | (walk_at "m_get"; done) | assumption
    case lnx => k_asm
    case l1x => (walk_at "front"; done)
    case l2x => (walk_at "front"; done)
    case n1x => (walk_at "all ne"; done)
    case n2x => (walk_at "all ne"; done)
    case ksx => (walk_at "sub"; done)
    case e0x => (exact rB_f (fun q => q.1 rfl))
  by_cases h3 : fault = 3
  · subst h3
    walk_at "walkc"
    walk_at "split lts"
    refine' hret _ _ _ _ _ ?kky ?kjy ?kfy (Led2.of ?lny ?l1y ?l2y ?n1y ?n2y hn) ?ksy ?e0y
    case kfy => k_asm
    case kky => (walk_at "keeps"; done)
    case kjy => first | (walk_at "m_get"; done) | assumption
    case lny => k_asm
    case l1y => (walk_at "front"; done)
    case l2y => (walk_at "front"; done)
    case n1y => (walk_at "all ne"; done)
    case n2y => (walk_at "all ne"; done)
    case ksy => (walk_at "sub"; done)
    case e0y => (exact rB_f (fun q => q.2.1 rfl))
  by_cases h1 : fault = 1
  · subst h1
    walk_at "walkc"
    walk_at "split lts"
    refine' hret _ _ _ _ _ ?kkz ?kjz ?kfz (Led2.of ?lnz ?l1z ?l2z ?n1z ?n2z hn) ?ksz ?e0z
    case kfz => k_asm
    case kkz => (walk_at "keeps"; done)
    case kjz => first | (walk_at "m_get"; done) | assumption
    case lnz => k_asm
    case l1z => (walk_at "front"; done)
    case l2z => (walk_at "front"; done)
    case n1z => (walk_at "all ne"; done)
    case n2z => (walk_at "all ne"; done)
    case ksz => (walk_at "sub"; done)
    case e0z => (exact rB_f (fun q => q.2.2.1 rfl))
  cases handed
  · by_cases h2 : fault = 2
    · subst h2
      walk_at "walkc"
      walk_at "split lts"
      refine' hret _ _ _ _ _ ?kkv ?kjv ?kfv (Led2.of ?lnv ?l1v ?l2v ?n1v ?n2v hn) ?ksv ?e0v
      case kfv => k_asm
      case kkv => (walk_at "keeps"; done)
      case kjv => first | (walk_at "m_get"; done) | assumption
      case lnv => k_asm
      case l1v => (walk_at "front"; done)
      case l2v => (walk_at "front"; done)
      case n1v => (walk_at "all ne"; done)
      case n2v => (walk_at "all ne"; done)
      case ksv => (walk_at "sub"; done)
      case e0v => (exact rB_f (fun q => q.2.2.2.elim (fun z => nomatch z) (fun z => z rfl)))
    · walk_at "walkc"
      walk_at "split lts"
      refine' hret _ _ _ _ _ ?kkw ?kjw ?kfw (Led2.of ?lnw ?l1w ?l2w ?n1w ?n2w hn) ?ksw ?e0w
      case kfw => k_asm
      case kkw => (walk_at "keeps"; done)
      case kjw => first | (walk_at "m_get"; done) | assumption
      case lnw => k_asm
      case l1w => (walk_at "front"; done)
      case l2w => (walk_at "front"; done)
      case n1w => (walk_at "all ne"; done)
      case n2w => (walk_at "all ne"; done)
      case ksw => (walk_at "sub"; done)
      case e0w => (exact (bne_iff_ne.mpr h2).trans (rB_t hw h3 h1 (.inr h2)))
  · walk_at "walkc"
    walk_at "split lts"
    refine' hret _ _ _ _ _ ?kku ?kju ?kfu (Led2.of ?lnu ?l1u ?l2u ?n1u ?n2u hn) ?ksu ?e0u
    case kfu => k_asm
    case kku => (walk_at "keeps"; done)
    case kju => first | (walk_at "m_get"; done) | assumption
    case lnu => k_asm
    case l1u => (walk_at "front"; done)
    case l2u => (walk_at "front"; done)
    case n1u => (walk_at "all ne"; done)
    case n2u => (walk_at "all ne"; done)
    case ksu => (walk_at "sub"; done)
    case e0u => (exact rB_t hw h3 h1 (.inl rfl))
theorem caseE7 (ed : caseDef = .FunctionDef nm ps bd [] none [] sc none bn pos)
    (B : Below (ktrTop dp un gd cn cs Lc a ccd [] []) base [envOf cn cs Lc a ccd] g) (F : Fr g L s.heap m) (X : (hd.heap_39 w.params).In g) (N : Led2 g L s.heap la LA lh LH rest) (T : Top topProg loose mean mg mb g) (hck : cs.kind = .function) (hdp : dp + 30 < recursionLimit) (hun : un + 300 < cLine)
    (m1 : m "what" = some (.int what u2)) (m4 : m "reached" = some (.bool rb)) (m5 : m "first" = some (.int i1 v1)) (m6 : m "second" = some (.int i2 v2)) (m7 : m "third" = some (.int i3 v3))
    (hret : ∀ ld m' h' tk' rest', Keeps ["due_heard"] m m' → m' "due_heard" = some (.ref ld) → Fr g L h' m' → Led2 g L h' la LA lh LH rest' → Sub rest rest' → Has rest' 2 (.ref ld) (.lst (if rb = true ∧ what = 0 then [.tup [.int i1, .int i2, .int i3]] else [])) → Qf .next { s with heap := h', toks := tk' }) :
    wpAny (model P0 w) ((ktrTop dp un gd cn cs Lc a ccd [] []).deeper (envOfC caseN sc L 299 (.ref 298))) (execs [cAt 20] (envOfC caseN sc L 299 (.ref 298))) Qf E s := by
  walk_at "k known"
  cases ed
  obtain ⟨N, nna, nnh, hn⟩ := N
  unfold cAt
  dsimp only [nth, caseBody, bodyOf, PySem.Challenge.pw_bt5023_01]
  cases rb
  · walk_at "walkc"
    walk_at "split lts"
    refine' hret _ _ _ _ _ ?kkx ?kjx ?kfx (Led2.of ?lnx ?l1x ?l2x ?n1x ?n2x hn) ?ksx ?e0x
    case kfx => k_asm
    case kkx => (walk_at "keeps"; done)
    case kjx => first | (walk_at "m_get"; done) | assumption
    case lnx => k_asm
    case l1x => (walk_at "front"; done)
    case l2x => (walk_at "front"; done)
    case n1x => (walk_at "all ne"; done)
    case n2x => (walk_at "all ne"; done)
    case ksx => (walk_at "sub"; done)
    case e0x => (rw [if_neg (fun q => nomatch q.1)]; exact .lst (by k_mem) .nil)
  · by_cases hw : what = 0
    · subst hw
      walk_at "walkc"
      walk_at "split lts"
      refine' hret _ _ _ _ _ ?kky ?kjy ?kfy (Led2.of ?lny ?l1y ?l2y ?n1y ?n2y hn) ?ksy ?e0y
      case kfy => k_asm
      case kky => (walk_at "keeps"; done)
      case kjy => first | (walk_at "m_get"; done) | assumption
      case lny => k_asm
      case l1y => (walk_at "front"; done)
      case l2y => (walk_at "front"; done)
      case n1y => (walk_at "all ne"; done)
      case n2y => (walk_at "all ne"; done)
      case ksy => (walk_at "sub"; done)
      case e0y => (rw [if_pos ⟨rfl, rfl⟩]; exact .lst (by k_mem) (.cons (.tup (by k_mem) (.cons (.int _ _) (.cons (.int _ _) (.cons (.int _ _) .nil)))) .nil))
    · walk_at "walkc"
      walk_at "split lts"
      refine' hret _ _ _ _ _ ?kkz ?kjz ?kfz (Led2.of ?lnz ?l1z ?l2z ?n1z ?n2z hn) ?ksz ?e0z
      case kfz => k_asm
      case kkz => (walk_at "keeps"; done)
      case kjz => first | (walk_at "m_get"; done) | assumption
      case lnz => k_asm
      case l1z => (walk_at "front"; done)
      case l2z => (walk_at "front"; done)
      case n1z => (walk_at "all ne"; done)
      case n2z => (walk_at "all ne"; done)
      case ksz => (walk_at "sub"; done)
      case e0z => (rw [if_neg (fun q => hw q.2)]; exact .lst (by k_mem) .nil)
theorem caseE8 (ed : caseDef = .FunctionDef nm ps bd [] none [] sc none bn pos)
    (B : Below (ktrTop dp un gd cn cs Lc a ccd [] []) base [envOf cn cs Lc a ccd] g) (F : Fr g L s.heap m) (X : (hd.heap_39 w.params).In g) (N : Led2 g L s.heap la LA lh LH rest) (T : Top topProg loose mean mg mb g) (hck : cs.kind = .function) (hdp : dp + 30 < recursionLimit) (hun : un + 300 < cLine)
    (c2 : (L + 1 + 1, o4) ∈ rest) (c2' : o4.data = .cell (some (.int fault u4))) (m1 : m "what" = some (.int what u2)) (m4 : m "reached" = some (.bool (reachedB what fault handed)))
    (hret : ∀ b m' h' tk' rest', Keeps ["refused"] m m' → m' "refused" = some (.bool b) → Fr g L h' m' → Led2 g L h' la LA lh LH rest' → Sub rest rest' → b = refusedB what fault handed → Qf .next { s with heap := h', toks := tk' }) :
    wpAny (model P0 w) ((ktrTop dp un gd cn cs Lc a ccd [] []).deeper (envOfC caseN sc L 299 (.ref 298))) (execs [cAt 21] (envOfC caseN sc L 299 (.ref 298))) Qf E s := by
  walk_at "k known"
  cases ed
  obtain ⟨N, nna, nnh, hn⟩ := N
  unfold cAt
  dsimp only [nth, caseBody, bodyOf, PySem.Challenge.pw_bt5023_01]
  cases hr : reachedB what fault handed
  · rw [hr] at m4
    walk_at "walkc"
    walk_at "split lts"
    refine' hret _ _ _ _ _ ?kkx ?kjx ?kfx (Led2.of ?lnx ?l1x ?l2x ?n1x ?n2x hn) ?ksx ?e0x
    case kfx => k_asm
    case kkx => (walk_at "keeps"; done)
    case kjx => first | (walk_at "m_get"; done) | assumption
    case lnx => k_asm
    case l1x => (walk_at "front"; done)
    case l2x => (walk_at "front"; done)
    case n1x => (walk_at "all ne"; done)
    case n2x => (walk_at "all ne"; done)
    case ksx => (walk_at "sub"; done)
    case e0x => (exact fB_t (.inl hr))
  rw [hr] at m4
  by_cases hw : what = 0
  · subst hw
    by_cases h3 : fault > 3
    · walk_at "walkc"
      walk_at "split lts"
      refine' hret _ _ _ _ _ ?kky ?kjy ?kfy (Led2.of ?lny ?l1y ?l2y ?n1y ?n2y hn) ?ksy ?e0y
      case kfy => k_asm
      case kky => (walk_at "keeps"; done)
      case kjy => first | (walk_at "m_get"; done) | assumption
      case lny => k_asm
      case l1y => (walk_at "front"; done)
      case l2y => (walk_at "front"; done)
      case n1y => (walk_at "all ne"; done)
      case n2y => (walk_at "all ne"; done)
      case ksy => (walk_at "sub"; done)
      case e0y => (exact (decide_eq_true (p := 3 < fault) h3).trans (fB_t (.inr ⟨rfl, h3⟩)))
    · walk_at "walkc"
      walk_at "split lts"
      refine' hret _ _ _ _ _ ?kkz ?kjz ?kfz (Led2.of ?lnz ?l1z ?l2z ?n1z ?n2z hn) ?ksz ?e0z
      case kfz => k_asm
      case kkz => (walk_at "keeps"; done)
      case kjz => first | (walk_at "m_get"; done) | assumption
      case lnz => k_asm
      case l1z => (walk_at "front"; done)
      case l2z => (walk_at "front"; done)
      case n1z => (walk_at "all ne"; done)
      case n2z => (walk_at "all ne"; done)
      case ksz => (walk_at "sub"; done)
      case e0z => (exact (decide_eq_false (p := 3 < fault) h3).trans (fB_f hr (fun q => h3 q.2)))
  · walk_at "walkc"
    walk_at "split lts"
    refine' hret _ _ _ _ _ ?kkv ?kjv ?kfv (Led2.of ?lnv ?l1v ?l2v ?n1v ?n2v hn) ?ksv ?e0v
    case kfv => k_asm
    case kkv => (walk_at "keeps"; done)
    case kjv => first | (walk_at "m_get"; done) | assumption
    case lnv => k_asm
    case l1v => (walk_at "front"; done)
    case l2v => (walk_at "front"; done)
    case n1v => (walk_at "all ne"; done)
    case n2v => (walk_at "all ne"; done)
    case ksv => (walk_at "sub"; done)
    case e0v => (exact (beq_eq_false_iff_ne.mpr hw).trans (fB_f hr (fun q => hw q.1)))
end
-- text Z1
section
variable {w : World} {dp un : Nat} {gd : Option (List Code)} {cn : Str} {cs : Scope} {a : Addr} {ccd : Value} {base g h₀ : Heap} {L Lc : Addr} {m mc : Str → Option Value} {s : Shared} {Q E : Value → Shared → Prop}     {loose : List Str} {mean : ExcName → Option Value} {mg mb : Str → Option Value} {rest news : List (Addr × Obj)} {la lh : Addr} {LA LH : Obj} {A₀ : Around}     {nm bn : Str} {ps : Arguments} {bd : List Stmt} {sc : Scope} {pos : Pos} 
variable {mv : Value} {A H : List Dt} {R : Dt} {bo bl bdd : Array UInt8} {to tl td v2 : Tok} {handed ok : Bool} {i2 : Int} {st ds f1 r : Addr} {hh : Int} {k1 : Tok} {Qf : Flow → Shared → Prop} {E' : Value → Shared → Prop} {tb : List Stmt} {hs : List ExceptHandler} {eb fb : List Stmt} {p2 : Pos}
def TtrAt (w : World) (mem : List (Addr × Obj)) (la lh : Addr) (a5 : List Value) (hdd : Option (Int × Tok)) (mv : Value) (A H : List Dt) (R : Dt) (bo bl bdd : Array UInt8) (ok : Bool) : Prop :=
  ∀ (dp un : Nat) (gd : Option (List Code)) (cn : Str) (cs : Scope) (a : Addr) (ccd : Value) (cl : List (Str × Addr)) (outer : List Env) (A₀ : Around) (base h₀ : Heap) (L : Addr) (m : Str → Option Value) (s : Shared) (Q E : Value → Shared → Prop)
    (loose : List Str) (mean : ExcName → Option Value) (mg mb : Str → Option Value) (rest : List (Addr × Obj)) (args more : List Value),
    Below A₀ base outer h₀ → Fr h₀ L s.heap m → Led2 h₀ L s.heap la (W.listOf #[] 0) lh (W.listOf #[] 0) rest → args = a5 ++ more →
    (match hdd with | none => more = [] | some (i, t) => ∃ q t', more = [.ref q] ∧ (q, tupObj [.str "any" t', .int i t]) ∈ rest) → Sub mem rest →
    (hd.heap_39 w.params).In base → Top topProg loose mean mg mb base → (hd.heap_39 w.params).In h₀ → Top topProg loose mean mg mb h₀ → KtsDicts (outer.filterMap (·.frame)) h₀ → CodeHd base 305 301 → cs.kind = .function → dp + 20 < recursionLimit → un + 200 < cLine →
    (ok = true → ∀ v h' tk' news', Fr h₀ L h' m → News h₀ L h' news' → OutOk rest mv A H R la lh v news' → Q v { s with heap := h', toks := tk' }) →
    (ok = false → ∀ e dd tt es n h' tk' G news' to' tl' td', Fr h₀ L G m → RD base G (envX cn cs L a ccd cl :: outer) e (.ref 99) (some dd) news' h' → G.UpToSlots h' → OutBad rest A H la lh news' → (dd, dictOf es n) ∈ news' → getL "oid" es = some (some (.bytes bo to')) → getL "serials" es = some (some (.ref tt)) → getL "get_oid" es = some none → getL "get_serials" es = some none → (tt, tupObj [.bytes bl tl', .bytes bdd td']) ∈ news' → E (.ref e) { s with heap := h', toks := tk' }) →
    wpAny (model P0 w) (ktrTop dp un gd cn cs L a ccd cl outer) (call (.ref 178) args) Q E s
local macro_rules | `(tactic| walk_at "call ref") => `(tactic| (k_here; (with_reducible show wpAny _ _ (call (Value.ref 178) _ _) _ _ _); (with_reducible rename Mine.TtrAt _ _ _ _ _ _ _ _ _ _ _ _ _ _ => hz0); walk_at "split lts"; k_dflt (refine' (show Mine.TtrAt _ _ _ _ _ _ _ _ _ _ _ _ _ _ from by with_reducible assumption) _ _ _ _ _ _ _ _ _ _ _ _ _ _ _ _ _ _ _ _ _ _ _ _ ?k1 ?k2 ?k4 ?ka ?km ?ks ?k0 ?k00 ?k3 ?k5 ?k55 ?k6 ?kK ?kd ?ku ?ho ?hb; (case k1 => k_asm); (case k2 => k_asm); (case k4 => walk_at "led2"); (case ka => first | exact (List.append_nil _).symm | exact @rfl (List Value) ([_, _, _, _, _] ++ [_])); (case km => first | exact rfl | exact ⟨_, _, rfl, by k_mem⟩); (case ks => (walk_at "sub"; done)); (case k0 => k_asm); (case k00 => assumption); (case k3 => k_asm); (case k5 => k_asm); (case k55 => assumption); (case k6 => k_asm); (case kK => first | exact rfl | assumption); (case kd => ktr_room); (case ku => ktr_room)); (case' ho => (intro zk v9 h9 tk9 n9 F9 N9 z9; (try dsimp only))); (case' hb => (intro zk e9 dd9 tt9 es9 x9 h9 tk9 G9 n9 to9 tl9 td9 F9 R9 U9 z9 zd zo zs zg zr zt; (try dsimp only)))))


theorem caseTry0 (ed : caseDef = .FunctionDef nm ps bd [] none [] sc none bn pos) (et : nth caseBody 22 = .Try tb hs eb fb p2)
    (XB : (hd.heap_39 w.params).In base) (TB : Top topProg loose mean mg mb base) (D : KtsDicts ([envOf cn cs Lc a ccd].filterMap (·.frame)) g) (CH : CodeHd base 305 301)
    (B : Below (ktrTop dp un gd cn cs Lc a ccd [] []) base [envOf cn cs Lc a ccd] g) (F : Fr g L s.heap m) (X : (hd.heap_39 w.params).In g) (N : Led2 g L s.heap la (W.listOf #[] 0) lh (W.listOf #[] 0) rest) (T : Top topProg loose mean mg mb g) (hck : cs.kind = .function) (hdp : dp + 30 < recursionLimit) (hun : un + 300 < cLine)
    (m1 : m "oid" = some (.bytes bo to)) (m2 : m "old" = some (.bytes bdd td)) (m3 : m "last" = some (.bytes bl tl)) (m4 : m "handed" = some (.bool false)) (m5 : m "store" = some (.ref st)) (m6 : m "row" = some (.ref r)) (m7 : m "second" = some (.int i2 v2))
    (hst : (st, instObj 181 ds) ∈ rest) (hds : (ds, dictOf [⟨hh, .str (Str.ofString "loadSerial") k1, .ref f1⟩] 1) ∈ rest)
    (H0 : TtrAt w rest la lh [.ref st, .bytes bo to, .bytes bl tl, .bytes bdd td, .ref r] none mv A H R bo bl bdd ok)
    (hok : ok = true → ∀ v m' h' tk' rest' news', Keeps ["told"] m m' → m' "told" = some v → Fr g L h' m' → News g L h' news' → Sub rest rest' → OutOk rest' mv A H R la lh v news' → Qf .next { s with heap := h', toks := tk' })
    (hbad : ok = false → ∀ e dd tt es n h' tk' G rest' news' to' tl' td', Fr g L G m → RD base G ((envOfC caseN sc L 299 (.ref 298)) :: [envOf cn cs Lc a ccd]) e (.ref 99) (some dd) news' h' → G.UpToSlots h' → Sub rest rest' → OutBad rest' A H la lh news' → (dd, dictOf es n) ∈ news' → getL "oid" es = some (some (.bytes bo to')) → getL "serials" es = some (some (.ref tt)) → getL "get_oid" es = some none → getL "get_serials" es = some none → (tt, tupObj [.bytes bl tl', .bytes bdd td']) ∈ news' → E' (.ref e) { s with heap := h', toks := tk' }) :
    wpAny (model P0 w) ((ktrTop dp un gd cn cs Lc a ccd [] []).deeper (envOfC caseN sc L 299 (.ref 298))) (execs tb (envOfC caseN sc L 299 (.ref 298))) Qf E' s := by
  walk_at "k known"
  cases ed
  cases et
  obtain ⟨N, nna, nnh, hn⟩ := N
  walk_at "walk"
  · refine' hbad (by assumption) _ _ _ _ _ _ _ _ _ _ _ _ _ (by assumption) (by assumption) (by assumption) ?ksz (by assumption) (by assumption) (by assumption) (by assumption) (by assumption) (by assumption) (by assumption)
    case ksz => (walk_at "sub"; done)
  · refine' hok (by assumption) _ _ _ _ _ _ ?kkx ?kjx ?kfx ?knx ?ksx ?kzx
    case kfx => k_asm
    case knx => k_asm
    case kkx => (walk_at "keeps"; done)
    case kjx => first | (walk_at "m_get"; done) | assumption
    case kzx => assumption
    case ksx => (walk_at "sub"; done)

theorem caseTry1 (ed : caseDef = .FunctionDef nm ps bd [] none [] sc none bn pos) (et : nth caseBody 22 = .Try tb hs eb fb p2)
    (XB : (hd.heap_39 w.params).In base) (TB : Top topProg loose mean mg mb base) (D : KtsDicts ([envOf cn cs Lc a ccd].filterMap (·.frame)) g) (CH : CodeHd base 305 301)
    (B : Below (ktrTop dp un gd cn cs Lc a ccd [] []) base [envOf cn cs Lc a ccd] g) (F : Fr g L s.heap m) (X : (hd.heap_39 w.params).In g) (N : Led2 g L s.heap la (W.listOf #[] 0) lh (W.listOf #[] 0) rest) (T : Top topProg loose mean mg mb g) (hck : cs.kind = .function) (hdp : dp + 30 < recursionLimit) (hun : un + 300 < cLine)
    (m1 : m "oid" = some (.bytes bo to)) (m2 : m "old" = some (.bytes bdd td)) (m3 : m "last" = some (.bytes bl tl)) (m4 : m "handed" = some (.bool true)) (m5 : m "store" = some (.ref st)) (m6 : m "row" = some (.ref r)) (m7 : m "second" = some (.int i2 v2))
    (hst : (st, instObj 181 ds) ∈ rest) (hds : (ds, dictOf [⟨hh, .str (Str.ofString "loadSerial") k1, .ref f1⟩] 1) ∈ rest)
    (H0 : TtrAt w rest la lh [.ref st, .bytes bo to, .bytes bl tl, .bytes bdd td, .ref r] (some (i2, v2)) mv A H R bo bl bdd ok)
    (hok : ok = true → ∀ v m' h' tk' rest' news', Keeps ["told"] m m' → m' "told" = some v → Fr g L h' m' → News g L h' news' → Sub rest rest' → OutOk rest' mv A H R la lh v news' → Qf .next { s with heap := h', toks := tk' })
    (hbad : ok = false → ∀ e dd tt es n h' tk' G rest' news' to' tl' td', Fr g L G m → RD base G ((envOfC caseN sc L 299 (.ref 298)) :: [envOf cn cs Lc a ccd]) e (.ref 99) (some dd) news' h' → G.UpToSlots h' → Sub rest rest' → OutBad rest' A H la lh news' → (dd, dictOf es n) ∈ news' → getL "oid" es = some (some (.bytes bo to')) → getL "serials" es = some (some (.ref tt)) → getL "get_oid" es = some none → getL "get_serials" es = some none → (tt, tupObj [.bytes bl tl', .bytes bdd td']) ∈ news' → E' (.ref e) { s with heap := h', toks := tk' }) :
    wpAny (model P0 w) ((ktrTop dp un gd cn cs Lc a ccd [] []).deeper (envOfC caseN sc L 299 (.ref 298))) (execs tb (envOfC caseN sc L 299 (.ref 298))) Qf E' s := by
  walk_at "k known"
  cases ed
  cases et
  obtain ⟨N, nna, nnh, hn⟩ := N
  walk_at "walk"
  · refine' hbad (by assumption) _ _ _ _ _ _ _ _ _ _ _ _ _ (by assumption) (by assumption) (by assumption) ?ksz (by assumption) (by assumption) (by assumption) (by assumption) (by assumption) (by assumption) (by assumption)
    case ksz => (walk_at "sub"; done)
  · refine' hok (by assumption) _ _ _ _ _ _ ?kkx ?kjx ?kfx ?knx ?ksx ?kzx
    case kfx => k_asm
    case knx => k_asm
    case kkx => (walk_at "keeps"; done)
    case kjx => first | (walk_at "m_get"; done) | assumption
    case kzx => assumption
    case ksx => (walk_at "sub"; done)
end
-- text Z2
theorem name_goes_C {M : Model} {A : Around} {E : Value → Shared → Prop} {s : Shared} {name : Str} {scope : Scope} {L a : Addr} {cd : Value} {h₀ : Heap} {m : Str → Option Value} {news : List (Addr × Obj)} {n : Str} {pos : Pos} {Q : Unit → Shared → Prop} (F : Fr h₀ L s.heap m) (N : News h₀ L s.heap news)
    (h : ∀ h' m', Fr h₀ L h' m' → News h₀ L h' news → Q () { s with heap := h', toks := s.toks + 1 })
    (hk : scope.kind = .function) (hl : (envOfC name scope L a cd).kindOf n = some .local) :
    wpAny M A (do bindName (envOfC name scope L a cd) n .none; unbindBehindTheSuite (envOfC name scope L a cd) n pos) Q E s :=
  wpAny_nameGoes hl F.ns (by show (scope.kind == .class || (scope.kind == .module && L != mainGlobals)) = false; rw [hk]; rfl) fun h' m' hn hs => h h' m' (F.set hn hs) (N.set hs)
theorem hitXC {prog : Program} {w : World} {A₀ : Around} {E : Value → Shared → Prop} {s' : Shared} {base g G : Heap} {outer : List Env} {L a e : Addr} {m : Str → Option Value} {name : Str} {scope : Scope} {cd cls c : Value} {dd : Option Addr}
  {n x : Str} {b₀ : Stmt} {suite : List Stmt} {pos np : Pos} {rest : List ExceptHandler} {Q : Flow → Shared → Prop} {news : List (Addr × Obj)} {KF : Frag}
  {p : Program} {loose : List Str} {mean : ExcName → Option Value} {mg mb : Str → Option Value}
    (R : RD base G (envOfC name scope L a cd :: outer) e cls dd news s'.heap) (F : Fr g L G m) (K : Below A₀ base outer g) (hsm : G.UpToSlots s'.heap) (XB : KF.In base) (TB : Top p loose mean mg mb base) (D : KtsDicts (outer.filterMap (·.frame)) g)
    (hc : nsIn KF mainGlobals x = some (some c)) (hx : exmOne KF cls c = some true)
    (k : ∀ h' g' tk vs sl, KtsTurn (outer.filterMap (·.frame)) g g' → Fr g' L h' (fun y => if y = n then some (.ref e) else m y) → News g' L h' ((e, ⟨cls, dd, .fields vs, sl⟩) :: news) → (∀ q ∈ news, q.1 ≠ e) → Below A₀ base outer g' → KF.In g' → Top p loose mean mg mb g' → KtsDicts (outer.filterMap (·.frame)) g' →
      wpAny (model prog w) ((A₀.deeper (envOfC name scope L a cd)).mark (some (.ref e))) (execs (b₀ :: suite) (envOfC name scope L a cd))
        (fun f s₄ => wpAny (model prog w) (A₀.deeper (envOfC name scope L a cd)) (do bindName (envOfC name scope L a cd) n .none; unbindBehindTheSuite (envOfC name scope L a cd) n pos) (fun _ s₅ => Q f s₅) E s₄)
        (fun _ _ => False) { s' with heap := h', toks := tk })
    (hk : scope.kind = .function) (hlo : (envOfC name scope L a cd).kindOf n = some .local) (hg : (envOfC name scope L a cd).kindOf x = some .globalImplicit) (hd : (x == ("__debug__" : Str)) = false) :
    wpAny (model prog w) (A₀.deeper (envOfC name scope L a cd)) (handleBy (.ref e) (envOfC name scope L a cd) (.ExceptHandler (some (.Name x np)) (some n) (b₀ :: suite) pos :: rest)) Q E s' :=
  hitXD (cells := cellsFrom (L + 1) scope.names []) R F K hsm XB TB D hc hx (fun h' g' tk oe vs T1 F1 N1 q1 q2 q3 ne B1 X1 T2 D2 => by
    obtain ⟨c1, c2, c3, c4⟩ := oe
    cases q1
    cases q2
    cases q3
    exact k h' g' tk vs c4 T1 F1 N1 ne B1 X1 T2 D2) hk hlo hg hd
section
variable {w : World} {dp un : Nat} {gd : Option (List Code)} {cn : Str} {cs : Scope} {a : Addr} {ccd : Value} {base g h₀ : Heap} {L Lc : Addr} {m mc : Str → Option Value} {s : Shared} {Q E : Value → Shared → Prop}     {loose : List Str} {mean : ExcName → Option Value} {mg mb : Str → Option Value} {rest news : List (Addr × Obj)} {la lh : Addr} {LA LH : Obj} {A₀ : Around}     {nm bn : Str} {ps : Arguments} {bd : List Stmt} {sc : Scope} {pos : Pos} 
variable {A H : List Dt} {bo bl bdd : Array UInt8} {to tl td to' tl' td' : Tok} {Qf : Flow → Shared → Prop} {tb : List Stmt} {hs : List ExceptHandler} {eb fb : List Stmt} {p2 : Pos} {e dd tt da dh : Addr} {es : List DictEntry} {n : Nat} {G : Heap} {oa oh : Obj}
local macro_rules | `(tactic| walk_at "getAttr ref") => `(tactic| (k_here; k_dflt (refine' Mine.getE_K ?k1 ?k2 ?k3 ?k4 ?r1 ?r2 ?r3 ?k5 ?k6 ?k7 ?k8 ?k9 ?k10 ?k11 ?k12 ?k13 ?_; (case k1 => k_asm); (case k2 => k_asm); (case k3 => k_asm); (case k4 => k_mem); (case r1 => exact rfl); (case r2 => exact rfl); (case r3 => exact rfl); (case k5 => k_mem); (case k6 => k_is); (case k7 => k_is); (case k8 => k_is); (case k9 => k_is); (case k10 => k_is); (case k11 => k_is); (case k12 => with_reducible assumption); (case k13 => first | exact rfl | k_handed); k_whole)))
local macro_rules | `(tactic| walk_at "getMethod ref") => `(tactic| (k_here; k_dflt (refine' Mine.methodE_K ?k1 ?k2 ?k3 ?k4 ?r1 ?r2 ?k5 ?k6 ?k7 ?k8 ?k9 ?k10 ?_; (case k1 => k_asm); (case k2 => k_asm); (case k3 => k_asm); (case k4 => k_mem); (case r1 => exact rfl); (case r2 => exact rfl); (case k5 => k_mem); (case k6 => k_is); (case k7 => k_is); (case k8 => k_is); (case k9 => k_is); (case k10 => with_reducible assumption); k_whole)))
local macro_rules | `(tactic| walk_at "compareOp Eq ref ref") => `(tactic| (k_here; (with_reducible show wpAny _ _ (compareOp CmpOp.Eq (Value.ref _) (Value.ref _)) _ _ _); k_dflt (refine' Mine.same_eq 2 (Mine.same_of ?N (Mine.Has.mono ?s1 ?x1) (Mine.Has.mono ?s2 ?x2)) ?u ?_; (case N => k_asm); (case x1 => with_reducible assumption); (case x2 => with_reducible assumption); (case s1 => (walk_at "sub"; done)); (case s2 => (walk_at "sub"; done)); (case u => ke_room))))
local macro_rules | `(tactic| walk_at "compareOp NotEq ref ref") => `(tactic| (k_here; (with_reducible show wpAny _ _ (compareOp CmpOp.NotEq (Value.ref _) (Value.ref _)) _ _ _); k_dflt (refine' Mine.same_ne 2 (Mine.same_of ?N (Mine.Has.mono ?s1 ?x1) (Mine.Has.mono ?s2 ?x2)) ?u ?_; (case N => k_asm); (case x1 => with_reducible assumption); (case x2 => with_reducible assumption); (case s1 => (walk_at "sub"; done)); (case s2 => (walk_at "sub"; done)); (case u => ke_room))))
local macro_rules | `(tactic| walk_at "call builtin:isinstance") => `(tactic| (k_here; (with_reducible show wpAny _ _ (call _ [Value.ref _, Value.ref 119]) _ _ _); k_dflt (refine' Mine.isE_not ?k1 ?k2 ?k3 ?k4 ?r1 ?r2 ?r3 ?k5 ?e ?a ?b ?c ?d ?f ?g ?h ?i ?_; (case k1 => k_asm); (case k2 => k_asm); (case k3 => k_asm); (case k4 => k_mem); (case r1 => exact rfl); (case r2 => exact rfl); (case r3 => exact rfl); (case k5 => k_mem); (case e => kin_no); (case a => k_is); (case b => k_is); (case c => k_is); (case d => k_is); (case f => k_is); (case g => k_is); (case h => k_is); (case i => k_is); k_whole)))
local macro_rules | `(tactic| walk_at "call ref") => `(tactic| (k_here; (with_reducible show wpAny _ (Around.mark _ _) _ _ _ _); refine wpAny_call ?_; walk_at "ENTER"))

theorem caseHit (ed : caseDef = .FunctionDef nm ps bd [] none [] sc none bn pos) (et : nth caseBody 22 = .Try tb hs eb fb p2)
    (XB : (hd.heap_39 w.params).In base) (TB : Top topProg loose mean mg mb base) (D : KtsDicts ([envOf cn cs Lc a ccd].filterMap (·.frame)) g)
    (B : Below (ktrTop dp un gd cn cs Lc a ccd [] []) base [envOf cn cs Lc a ccd] g) (F : Fr g L G m) (R : RD base G ((envOfC caseN sc L 299 (.ref 298)) :: [envOf cn cs Lc a ccd]) e (.ref 99) (some dd) rest s.heap) (U : G.UpToSlots s.heap) (hck : cs.kind = .function) (hdp : dp + 30 < recursionLimit) (hun : un + 300 < cLine)
    (m0 : m "refused" = some (.bool true)) (m1 : m "oid" = some (.bytes bo to)) (m2 : m "old" = some (.bytes bdd td)) (m3 : m "last" = some (.bytes bl tl)) (m4 : m "due_asked" = some (.ref da)) (m5 : m "due_heard" = some (.ref dh))
    (c3 : (L + 1 + 1 + 1, oa) ∈ rest) (c3' : oa.data = .cell (some (.ref la))) (c4 : (L + 1 + 1 + 1 + 1, oh) ∈ rest) (c4' : oh.data = .cell (some (.ref lh)))
    (ha : Has rest 2 (.ref la) (.lst A)) (ha' : Has rest 2 (.ref da) (.lst A)) (hh : Has rest 2 (.ref lh) (.lst H)) (hh' : Has rest 2 (.ref dh) (.lst H))
    (hdd : (dd, dictOf es n) ∈ rest) (g1 : getL "oid" es = some (some (.bytes bo to'))) (g2 : getL "serials" es = some (some (.ref tt))) (g3 : getL "get_oid" es = some none) (g4 : getL "get_serials" es = some none) (htt : (tt, tupObj [.bytes bl tl', .bytes bdd td']) ∈ rest)
    (hret : ∀ g' h' tk' m' rest', KtsTurn ([envOf cn cs Lc a ccd].filterMap (·.frame)) g g' → Fr g' L h' m' → News g' L h' rest' → Sub rest rest' → Qf (.ret (.bool true)) { s with heap := h', toks := tk' }) :
    wpAny (model P0 w) ((ktrTop dp un gd cn cs Lc a ccd [] []).deeper (envOfC caseN sc L 299 (.ref 298))) (noteFrame (.ref e) (envOfC caseN sc L 299 (.ref 298))) (fun _ s₂ => wpAny (model P0 w) ((ktrTop dp un gd cn cs Lc a ccd [] []).deeper (envOfC caseN sc L 299 (.ref 298))) (setFlight (.ref e) none) (fun _ s₃ => wpAny (model P0 w) ((ktrTop dp un gd cn cs Lc a ccd [] []).deeper (envOfC caseN sc L 299 (.ref 298))) (handleBy (.ref e) (envOfC caseN sc L 299 (.ref 298)) hs) Qf E s₃) E s₂) E s := by
  walk_at "k known"
  cases ed
  cases et
  refine wpAny_mono (RD.look (E := E) (Q := fun _ s₃ => wpAny (model P0 w) ((ktrTop dp un gd cn cs Lc a ccd [] []).deeper (envOfC caseN _ L 299 (.ref 298))) (handleBy (.ref e) (envOfC caseN _ L 299 (.ref 298)) _) Qf E s₃) B rfl R U fun h'' R' U' => ?_) (fun _ _ x => x) (fun _ _ x => x)
  refine' hitXC R' F B U' XB TB D ?hc ?hx ?_ rfl rfl rfl rfl
  case hc => k_is
  case hx => kts_exm
  intro h₂ g₂ tk₂ vs₂ sl₂ T₂ F₂ N₂ ne₂ B₂ X₂ P₂ D₂
  clear R R' U U' D B F
  walk_at "walk"
  · refine' name_goes_C ?kF ?kN ?_ rfl rfl
    case kF => k_asm
    case kN => k_asm
    intro h' m' F' N'
    exact hret _ _ _ _ _ T₂ F' N' (by walk_at "sub"; done)
  · rename_i hbb
    rw [beq_self_eq_true] at hbb
    cases hbb
end
-- text Z3
section
variable {w : World} {dp un : Nat} {gd : Option (List Code)} {cn : Str} {cs : Scope} {a : Addr} {ccd : Value} {base g h₀ : Heap} {L Lc : Addr} {m mc : Str → Option Value} {s : Shared} {Q E : Value → Shared → Prop}     {loose : List Str} {mean : ExcName → Option Value} {mg mb : Str → Option Value} {rest news : List (Addr × Obj)} {la lh : Addr} {LA LH : Obj} {A₀ : Around}     {nm bn : Str} {ps : Arguments} {bd : List Stmt} {sc : Scope} {pos : Pos} 
variable {A H : List Dt} {Qf : Flow → Shared → Prop} {da dh va ma ra : Addr} {oa oh o5 : Obj} {what i1 i2 i3 num : Int} {u1 u2 v1 v2 v3 ur : Tok}
local macro_rules | `(tactic| walk_at "getAttr ref") => `(tactic| (k_here; k_dflt (refine' Mine.getE_K ?k1 ?k2 ?k3 ?k4 ?r1 ?r2 ?r3 ?k5 ?k6 ?k7 ?k8 ?k9 ?k10 ?k11 ?k12 ?k13 ?_; (case k1 => k_asm); (case k2 => k_asm); (case k3 => k_asm); (case k4 => k_mem); (case r1 => exact rfl); (case r2 => exact rfl); (case r3 => exact rfl); (case k5 => k_mem); (case k6 => k_is); (case k7 => k_is); (case k8 => k_is); (case k9 => k_is); (case k10 => k_is); (case k11 => k_is); (case k12 => with_reducible assumption); (case k13 => first | exact rfl | k_handed); k_whole)))
local macro_rules | `(tactic| walk_at "getMethod ref") => `(tactic| (k_here; k_dflt (refine' Mine.methodE_K ?k1 ?k2 ?k3 ?k4 ?r1 ?r2 ?k5 ?k6 ?k7 ?k8 ?k9 ?k10 ?_; (case k1 => k_asm); (case k2 => k_asm); (case k3 => k_asm); (case k4 => k_mem); (case r1 => exact rfl); (case r2 => exact rfl); (case k5 => k_mem); (case k6 => k_is); (case k7 => k_is); (case k8 => k_is); (case k9 => k_is); (case k10 => with_reducible assumption); k_whole)))
local macro_rules | `(tactic| walk_at "compareOp Eq ref ref") => `(tactic| (k_here; (with_reducible show wpAny _ _ (compareOp CmpOp.Eq (Value.ref _) (Value.ref _)) _ _ _); k_dflt (refine' Mine.same_eq 2 (Mine.same_of ?N (Mine.Has.mono ?s1 ?x1) (Mine.Has.mono ?s2 ?x2)) ?u ?_; (case N => k_asm); (case x1 => with_reducible assumption); (case x2 => with_reducible assumption); (case s1 => (walk_at "sub"; done)); (case s2 => (walk_at "sub"; done)); (case u => ke_room))))
local macro_rules | `(tactic| walk_at "compareOp NotEq ref ref") => `(tactic| (k_here; (with_reducible show wpAny _ _ (compareOp CmpOp.NotEq (Value.ref _) (Value.ref _)) _ _ _); k_dflt (refine' Mine.same_ne 2 (Mine.same_of ?N (Mine.Has.mono ?s1 ?x1) (Mine.Has.mono ?s2 ?x2)) ?u ?_; (case N => k_asm); (case x1 => with_reducible assumption); (case x2 => with_reducible assumption); (case s1 => (walk_at "sub"; done)); (case s2 => (walk_at "sub"; done)); (case u => ke_room))))
local macro_rules | `(tactic| walk_at "call builtin:isinstance") => `(tactic| (k_here; (with_reducible show wpAny _ _ (call _ [Value.ref _, Value.ref 119]) _ _ _); k_dflt (refine' Mine.isE_not ?k1 ?k2 ?k3 ?k4 ?r1 ?r2 ?r3 ?k5 ?e ?a ?b ?c ?d ?f ?g ?h ?i ?_; (case k1 => k_asm); (case k2 => k_asm); (case k3 => k_asm); (case k4 => k_mem); (case r1 => exact rfl); (case r2 => exact rfl); (case r3 => exact rfl); (case k5 => k_mem); (case e => kin_no); (case a => k_is); (case b => k_is); (case c => k_is); (case d => k_is); (case f => k_is); (case g => k_is); (case h => k_is); (case i => k_is); k_whole)))
local macro_rules | `(tactic| walk_at "call ref") => `(tactic| (k_here; (with_reducible show wpAny _ (Around.mark _ _) _ _ _ _); refine wpAny_call ?_; walk_at "ENTER"))
local macro_rules | `(tactic| walk_at "compareOp Eq ref ref") => `(tactic| (k_here; (with_reducible show wpAny _ _ (compareOp CmpOp.Eq (Value.ref _) (Value.ref _)) _ _ _); k_dflt (refine' Mine.same_eq 1 (Mine.same_of ?N (Mine.Has.mono ?s1 ?x1) ?x2) ?u ?_; (case N => k_asm); (case x1 => with_reducible assumption); (case x2 => exact .lst (by k_mem) (.cons (.int _ _) (.cons (.int _ _) (.cons (.int _ _) (.cons (.int _ _) .nil))))); (case s1 => (walk_at "sub"; done)); (case u => ke_room))))

theorem caseEnd1 (ed : caseDef = .FunctionDef nm ps bd [] none [] sc none bn pos)
    (B : Below (ktrTop dp un gd cn cs Lc a ccd [] []) base [envOf cn cs Lc a ccd] g) (F : Fr g L s.heap m) (X : (hd.heap_39 w.params).In g) (N : News g L s.heap rest) (T : Top topProg loose mean mg mb g) (hck : cs.kind = .function) (hdp : dp + 30 < recursionLimit) (hun : un + 300 < cLine)
    (m0 : m "refused" = some (.bool false)) (m4 : m "due_asked" = some (.ref da)) (m5 : m "due_heard" = some (.ref dh)) (m6 : m "told" = some (.ref va)) (m7 : m "meta" = some (.ref ma)) (m8 : m "what" = some (.int what u2)) (m9 : m "first" = some (.int i1 v1)) (m10 : m "second" = some (.int i2 v2)) (m11 : m "third" = some (.int i3 v3))
    (c1 : (L + 1, o5) ∈ rest) (c1' : o5.data = .cell (some (.int num u1))) (c3 : (L + 1 + 1 + 1, oa) ∈ rest) (c3' : oa.data = .cell (some (.ref la))) (c4 : (L + 1 + 1 + 1 + 1, oh) ∈ rest) (c4' : oh.data = .cell (some (.ref lh)))
    (ha : Has rest 2 (.ref la) (.lst A)) (ha' : Has rest 2 (.ref da) (.lst A)) (hh : Has rest 2 (.ref lh) (.lst H)) (hh' : Has rest 2 (.ref dh) (.lst H)) (hva : (va, tupObj [.ref ma, .int (i2 + i3 - i1) ur]) ∈ rest) (hw : what = 1)
    (hret : ∀ h' tk' rest', Fr g L h' m → News g L h' rest' → Sub rest rest' → Qf (.ret (.bool true)) { s with heap := h', toks := tk' }) :
    wpAny (model P0 w) ((ktrTop dp un gd cn cs Lc a ccd [] []).deeper (envOfC caseN sc L 299 (.ref 298))) (execs [cAt 23, cAt 24, cAt 25] (envOfC caseN sc L 299 (.ref 298))) Qf E s := by
  walk_at "k known"
  cases ed
  unfold cAt
  dsimp only [nth, caseBody, bodyOf, PySem.Challenge.pw_bt5023_01]
  subst hw
  walk_at "walkc"
  show Qf (.ret (.bool (i2 + i3 - i1 == i2 + i3 - i1))) _
  rw [beq_self_eq_true]
  refine' hret _ _ _ ?kfX ?knX ?ksX
  case kfX => k_asm
  case knX => k_asm
  case ksX => (walk_at "sub"; done)
theorem caseEnd0 (ed : caseDef = .FunctionDef nm ps bd [] none [] sc none bn pos)
    (B : Below (ktrTop dp un gd cn cs Lc a ccd [] []) base [envOf cn cs Lc a ccd] g) (F : Fr g L s.heap m) (X : (hd.heap_39 w.params).In g) (N : News g L s.heap rest) (T : Top topProg loose mean mg mb g) (hck : cs.kind = .function) (hdp : dp + 30 < recursionLimit) (hun : un + 300 < cLine)
    (m0 : m "refused" = some (.bool false)) (m4 : m "due_asked" = some (.ref da)) (m5 : m "due_heard" = some (.ref dh)) (m6 : m "told" = some (.ref va)) (m7 : m "meta" = some (.ref ma)) (m8 : m "what" = some (.int what u2)) (m9 : m "first" = some (.int i1 v1)) (m10 : m "second" = some (.int i2 v2)) (m11 : m "third" = some (.int i3 v3))
    (c1 : (L + 1, o5) ∈ rest) (c1' : o5.data = .cell (some (.int num u1))) (c3 : (L + 1 + 1 + 1, oa) ∈ rest) (c3' : oa.data = .cell (some (.ref la))) (c4 : (L + 1 + 1 + 1 + 1, oh) ∈ rest) (c4' : oh.data = .cell (some (.ref lh)))
    (ha : Has rest 2 (.ref la) (.lst A)) (ha' : Has rest 2 (.ref da) (.lst A)) (hh : Has rest 2 (.ref lh) (.lst H)) (hh' : Has rest 2 (.ref dh) (.lst H)) (hva : (va, tupObj [.ref ma, .ref ra]) ∈ rest) (hra : Has rest 1 (.ref ra) (.lst [.int i1, .int i2, .int i3, .int num])) (hw : what ≠ 1)
    (hret : ∀ h' tk' rest', Fr g L h' m → News g L h' rest' → Sub rest rest' → Qf (.ret (.bool true)) { s with heap := h', toks := tk' }) :
    wpAny (model P0 w) ((ktrTop dp un gd cn cs Lc a ccd [] []).deeper (envOfC caseN sc L 299 (.ref 298))) (execs [cAt 23, cAt 24, cAt 25] (envOfC caseN sc L 299 (.ref 298))) Qf E s := by
  walk_at "k known"
  cases ed
  unfold cAt
  dsimp only [nth, caseBody, bodyOf, PySem.Challenge.pw_bt5023_01]
  walk_at "walkc"
  refine' hret _ _ _ ?kfX ?knX ?ksX
  case kfX => k_asm
  case knX => k_asm
  case ksX => (walk_at "sub"; done)
end
-- text Z4
def AA (what fault : Int) (handed : Bool) (bo bdd bl : Array UInt8) : List Dt := if what = 2 ∨ fault = 3 then [] else if fault ≠ 1 ∧ handed = false then [.tup [.bytes bo, .bytes bdd], .tup [.bytes bo, .bytes bl]] else [.tup [.bytes bo, .bytes bdd]]
def HH (what fault : Int) (handed : Bool) (i1 i2 i3 : Int) : List Dt := if reachedB what fault handed = true ∧ what = 0 then [.tup [.int i1, .int i2, .int i3]] else []
def RR (what i1 i2 i3 num : Int) : Dt := if what = 1 then .int (i2 + i3 - i1) else .lst [.int i1, .int i2, .int i3, .int num]
section
variable {w : World} {mem mem' : List (Addr × Obj)} {f1 f2 la lh k r st ds t1 t2 : Addr} {bo bx bl bdd : Array UInt8} {to tx tl td t3 t4 t5 t6 t7 tn : Tok} {tv mv : Value} {what fault i1 i2 i3 num : Int} {handed : Bool} {of1 of2 : Obj} {fd1 fd2 : FuncData} {hh1 : Int} {k1 : Tok} {v1 v2 v3 v4 : Value}
theorem Reads.mono (h : Sub mem mem') (x : Reads w mem f1 la bo bx to tx tv) : Reads w mem' f1 la bo bx to tx tv := by
  intro dp un gd cn cs a ccd cl outer A₀ base h₀ L m s Q E loose mean mg mb rest va na B F X N T CH hk hd hu hn hv hs hr
  exact x dp un gd cn cs a ccd cl outer A₀ base h₀ L m s Q E loose mean mg mb rest va na B F X N T CH hk hd hu hn hv (h.trans hs) hr
theorem Misses.mono (h : Sub mem mem') (x : Misses w mem f1 la bo bx to tx) : Misses w mem' f1 la bo bx to tx := by
  intro dp un gd cn cs a ccd cl outer A₀ base h₀ L m s Q E loose mean mg mb rest va na B F X N T CH hk hd hu hn hv hs hr
  exact x dp un gd cn cs a ccd cl outer A₀ base h₀ L m s Q E loose mean mg mb rest va na B F X N T CH hk hd hu hn hv (h.trans hs) hr
theorem MergesOk.mono (h : Sub mem mem') (x : MergesOk w mem f2 lh v1 v2 v3 v4) : MergesOk w mem' f2 lh v1 v2 v3 v4 := by
  intro dp un gd cn cs a ccd cl outer A₀ base h₀ L m s Q E loose mean mg mb rest B F X N T CH hk hd hu hn hs hr
  exact x dp un gd cn cs a ccd cl outer A₀ base h₀ L m s Q E loose mean mg mb rest B F X N T CH hk hd hu hn (h.trans hs) hr
theorem MergesBad.mono (h : Sub mem mem') (x : MergesBad w mem f2 lh v1 v2 v3) : MergesBad w mem' f2 lh v1 v2 v3 := by
  intro dp un gd cn cs a ccd cl outer A₀ base h₀ L m s Q E loose mean mg mb rest B F X N T CH hk hd hu hn hs hr
  exact x dp un gd cn cs a ccd cl outer A₀ base h₀ L m s Q E loose mean mg mb rest B F X N T CH hk hd hu hn (h.trans hs) hr
theorem not_ref {what fault : Int} {handed : Bool} (h : true = refusedB what fault handed) : (!refusedB what fault handed) = false := by rw [← h]; rfl
theorem not_ref' {what fault : Int} {handed : Bool} (h : false = refusedB what fault handed) : (!refusedB what fault handed) = true := by rw [← h]; rfl
theorem ttrAt_of (hst : (st, instObj 181 ds) ∈ mem) (hds : (ds, dictOf [⟨hh1, .str (Str.ofString "loadSerial") k1, .ref f1⟩] 1) ∈ mem) (hf1 : (f1, of1) ∈ mem) (hf1' : of1.data = .func fd1) (hf2 : (f2, of2) ∈ mem) (hf2' : of2.data = .func fd2)
    (hK : KlassIs what k f2 mem) (hfm : FormIs mv k mem) (hrow : (fault = 3 ∧ (r, tupObj []) ∈ mem) ∨ (fault ≠ 3 ∧ (r, tupObj [mv, .int i3 t3]) ∈ mem))
    (ht1 : (t1, tupObj [.str "any" t4, .int i1 t5]) ∈ mem) (ht2 : (t2, tupObj [.str "any" t6, .int i2 t7]) ∈ mem)
    (R1 : fault ≠ 1 → Reads w mem f1 la bo bdd to td (.ref t1)) (M1 : fault = 1 → Misses w mem f1 la bo bdd to td) (R2 : fault ≠ 2 → Reads w mem f1 la bo bl to tl (.ref t2)) (M2 : fault = 2 → Misses w mem f1 la bo bl to tl)
    (G1 : ¬ fault > 3 → MergesOk w mem f2 lh (.int i1 t5) (.int i2 t7) (.int i3 t3) (.int num tn)) (G2 : fault > 3 → MergesBad w mem f2 lh (.int i1 t5) (.int i2 t7) (.int i3 t3))
    (b1 : 0 ≤ i1 ∧ i1 < 100) (b2 : 0 ≤ i2 ∧ i2 < 100) (b3 : 0 ≤ i3 ∧ i3 < 100) :
    TtrAt w mem la lh [.ref st, .bytes bo to, .bytes bl tl, .bytes bdd td, .ref r] (if handed then some (i2, t7) else none) mv (AA what fault handed bo bdd bl) (HH what fault handed i1 i2 i3) (RR what i1 i2 i3 num) bo bl bdd (!refusedB what fault handed) := by
  intro dp un gd cn cs a ccd cl outer A₀ base h₀ L m s Q E loose mean mg mb rest args more B F N hargs hmore hs XB TB X T D CH hck hdp hun hok hbad
  subst hargs
  obtain ⟨hd0, rfl, hq1, hq2⟩ : ∃ hd0 : Option Addr, more = hd0.toList.map Value.ref ∧ (handed = true → ∃ q t', hd0 = some q ∧ (q, tupObj [.str "any" t', .int i2 t7]) ∈ rest) ∧ (handed = false → hd0 = none) := by
    cases handed
    · exact ⟨none, hmore, (fun z => nomatch z), fun _ => rfl⟩
    · obtain ⟨q, t', rfl, h⟩ := hmore
      exact ⟨some q, rfl, (fun _ => ⟨q, t', rfl, h⟩), (fun z => nomatch z)⟩
  by_cases h3 : fault = 3
  · have hr0 : reachedB what fault handed = false := (rB_f (fun q => q.2.1 h3)).symm
    have hA : AA what fault handed bo bdd bl = [] := if_pos (.inr h3)
    have hH : HH what fault handed i1 i2 i3 = [] := if_neg (fun q => by rw [hr0] at q; exact nomatch q.1)
    rw [hA, hH] at hbad
    have hr : (r, tupObj []) ∈ mem := by
      rcases hrow with z | z
      · exact z.2
      · exact absurd h3 z.1
    exact ttr_empty hd0 XB TB B F X N T D CH hck hdp hun (hs _ hr) (fun e dd tt es n h' tk' G news' => hbad (not_ref (fB_t (.inl hr0))) e dd tt es n h' tk' G news' _ _ _)
  have hr : (r, tupObj [mv, .int i3 t3]) ∈ mem := by
    rcases hrow with z | z
    · exact absurd z.1 h3
    · exact z.2
  rcases hK with ⟨rfl, dk, es, n, k1, k2, k3⟩ | ⟨rfl, dk, es, n, k1, k2, k3⟩ | ⟨rfl, dk, es, n, k1, k2, k3⟩
  · have hRI : ResIs k rest := .inl ⟨dk, es, n, f2, hs _ k1, hs _ k2, k3⟩
    by_cases h1 : fault = 1
    · have hr0 : reachedB 0 fault handed = false := (rB_f (fun q => q.2.2.1 h1)).symm
      have hA : AA 0 fault handed bo bdd bl = [.tup [.bytes bo, .bytes bdd]] := by unfold AA; rw [if_neg (by simp [h3]), if_neg (by simp [h1])]
      have hH : HH 0 fault handed i1 i2 i3 = [] := if_neg (fun q => by rw [hr0] at q; exact nomatch q.1)
      rw [hA, hH] at hbad
      exact ttr_oldmiss hd0 XB TB B F X N T D CH hck hdp hun (hs _ hst) (hs _ hds) (hs _ hf1) hf1' (hs _ hr) (hfm.mono hs) hRI ((M1 h1).mono hs) (fun e dd tt es n h' tk' G news' => hbad (not_ref (fB_t (.inl hr0))) e dd tt es n h' tk' G news' _ _ _)
    cases handed
    · obtain rfl := hq2 rfl
      have hA : AA 0 fault false bo bdd bl = [.tup [.bytes bo, .bytes bdd], .tup [.bytes bo, .bytes bl]] := by unfold AA; rw [if_neg (by simp [h3]), if_pos ⟨h1, rfl⟩]
      by_cases h2 : fault = 2
      · have hr0 : reachedB 0 fault false = false := (rB_f (what := 0) (fault := fault) (handed := false) (fun q => q.2.2.2.elim (fun z => Bool.noConfusion z) (fun z => z h2))).symm
        have hH : HH 0 fault false i1 i2 i3 = [] := if_neg (fun q => by rw [hr0] at q; exact nomatch q.1)
        rw [hA, hH] at hbad
        exact ttr_lastmiss XB TB B F X N T D CH hck hdp hun (hs _ hst) (hs _ hds) (hs _ hf1) hf1' (hs _ hr) (hfm.mono hs) hRI ((R1 h1).mono hs) (hs _ ht1) ((M2 h2).mono hs) (fun e dd tt es n h' tk' G news' => hbad (not_ref (fB_t (.inl hr0))) e dd tt es n h' tk' G news' _ _ _)
      have hr0 : reachedB 0 fault false = true := (rB_t (by decide) h3 h1 (.inr h2)).symm
      have hH : HH 0 fault false i1 i2 i3 = [.tup [.int i1, .int i2, .int i3]] := if_pos ⟨hr0, rfl⟩
      have hRR : RR 0 i1 i2 i3 num = .lst [.int i1, .int i2, .int i3, .int num] := if_neg (by decide)
      rw [hA, hH] at hbad
      rw [hA, hH, hRR] at hok
      by_cases h4 : fault > 3
      · exact ttr_bad_read XB TB B F X N T D CH hck hdp hun (hs _ hst) (hs _ hds) (hs _ hf1) hf1' (hs _ hr) (hfm.mono hs) ((R1 h1).mono hs) (hs _ ht1) ((R2 h2).mono hs) (hs _ ht2) (hs _ k1) (hs _ k2) k3 (hs _ hf2) hf2' ((G2 h4).mono hs) (fun e dd tt es n h' tk' G news' => hbad (not_ref (fB_t (.inr ⟨rfl, h4⟩))) e dd tt es n h' tk' G news' _ _ _)
      · exact ttr_ok_read XB TB B F X N T D CH hck hdp hun (hs _ hst) (hs _ hds) (hs _ hf1) hf1' (hs _ hr) (hfm.mono hs) ((R1 h1).mono hs) (hs _ ht1) ((R2 h2).mono hs) (hs _ ht2) (hs _ k1) (hs _ k2) k3 (hs _ hf2) hf2' ((G1 h4).mono hs) (hok (not_ref' (fB_f hr0 (fun q => h4 q.2))))
    · obtain ⟨q, t', rfl, hq⟩ := hq1 rfl
      have hA : AA 0 fault true bo bdd bl = [.tup [.bytes bo, .bytes bdd]] := by unfold AA; rw [if_neg (by simp [h3]), if_neg (by simp)]
      have hr0 : reachedB 0 fault true = true := (rB_t (by decide) h3 h1 (.inl rfl)).symm
      have hH : HH 0 fault true i1 i2 i3 = [.tup [.int i1, .int i2, .int i3]] := if_pos ⟨hr0, rfl⟩
      have hRR : RR 0 i1 i2 i3 num = .lst [.int i1, .int i2, .int i3, .int num] := if_neg (by decide)
      rw [hA, hH] at hbad
      rw [hA, hH, hRR] at hok
      by_cases h4 : fault > 3
      · exact ttr_bad_handed XB TB B F X N T D CH hck hdp hun (hs _ hst) (hs _ hds) (hs _ hf1) hf1' (hs _ hr) (hfm.mono hs) ((R1 h1).mono hs) (hs _ ht1) hq (hs _ k1) (hs _ k2) k3 (hs _ hf2) hf2' ((G2 h4).mono hs) (fun e dd tt es n h' tk' G news' => hbad (not_ref (fB_t (.inr ⟨rfl, h4⟩))) e dd tt es n h' tk' G news' _ _ _)
      · exact ttr_ok_handed XB TB B F X N T D CH hck hdp hun (hs _ hst) (hs _ hds) (hs _ hf1) hf1' (hs _ hr) (hfm.mono hs) ((R1 h1).mono hs) (hs _ ht1) hq (hs _ k1) (hs _ k2) k3 (hs _ hf2) hf2' ((G1 h4).mono hs) (hok (not_ref' (fB_f hr0 (fun q => h4 q.2))))
  · have hRI : ResIs k rest := .inr ⟨dk, es, n, hs _ k1, hs _ k2, k3⟩
    have hH : HH 1 fault handed i1 i2 i3 = [] := if_neg (fun q => absurd q.2 (by decide))
    by_cases h1 : fault = 1
    · have hr0 : reachedB 1 fault handed = false := (rB_f (fun q => q.2.2.1 h1)).symm
      have hA : AA 1 fault handed bo bdd bl = [.tup [.bytes bo, .bytes bdd]] := by unfold AA; rw [if_neg (by simp [h3]), if_neg (by simp [h1])]
      rw [hA, hH] at hbad
      exact ttr_oldmiss hd0 XB TB B F X N T D CH hck hdp hun (hs _ hst) (hs _ hds) (hs _ hf1) hf1' (hs _ hr) (hfm.mono hs) hRI ((M1 h1).mono hs) (fun e dd tt es n h' tk' G news' => hbad (not_ref (fB_t (.inl hr0))) e dd tt es n h' tk' G news' _ _ _)
    cases handed
    · obtain rfl := hq2 rfl
      have hA : AA 1 fault false bo bdd bl = [.tup [.bytes bo, .bytes bdd], .tup [.bytes bo, .bytes bl]] := by unfold AA; rw [if_neg (by simp [h3]), if_pos ⟨h1, rfl⟩]
      by_cases h2 : fault = 2
      · have hr0 : reachedB 1 fault false = false := (rB_f (what := 1) (fault := fault) (handed := false) (fun q => q.2.2.2.elim (fun z => Bool.noConfusion z) (fun z => z h2))).symm
        rw [hA, hH] at hbad
        exact ttr_lastmiss XB TB B F X N T D CH hck hdp hun (hs _ hst) (hs _ hds) (hs _ hf1) hf1' (hs _ hr) (hfm.mono hs) hRI ((R1 h1).mono hs) (hs _ ht1) ((M2 h2).mono hs) (fun e dd tt es n h' tk' G news' => hbad (not_ref (fB_t (.inl hr0))) e dd tt es n h' tk' G news' _ _ _)
      have hr0 : reachedB 1 fault false = true := (rB_t (by decide) h3 h1 (.inr h2)).symm
      have hRR : RR 1 i1 i2 i3 num = .int (i2 + i3 - i1) := if_pos rfl
      rw [hA, hH, hRR] at hok
      exact ttr_len_read XB TB B F X N T D CH hck hdp hun (hs _ hst) (hs _ hds) (hs _ hf1) hf1' (hs _ hr) (hfm.mono hs) ((R1 h1).mono hs) (hs _ ht1) ((R2 h2).mono hs) (hs _ ht2) (hs _ k1) (hs _ k2) k3 b1 b2 b3 (hok (not_ref' (fB_f hr0 (fun q => absurd q.1 (by decide)))))
    · obtain ⟨q, t', rfl, hq⟩ := hq1 rfl
      have hA : AA 1 fault true bo bdd bl = [.tup [.bytes bo, .bytes bdd]] := by unfold AA; rw [if_neg (by simp [h3]), if_neg (by simp)]
      have hr0 : reachedB 1 fault true = true := (rB_t (by decide) h3 h1 (.inl rfl)).symm
      have hRR : RR 1 i1 i2 i3 num = .int (i2 + i3 - i1) := if_pos rfl
      rw [hA, hH, hRR] at hok
      exact ttr_len_handed XB TB B F X N T D CH hck hdp hun (hs _ hst) (hs _ hds) (hs _ hf1) hf1' (hs _ hr) (hfm.mono hs) ((R1 h1).mono hs) (hs _ ht1) hq (hs _ k1) (hs _ k2) k3 b1 b2 b3 (hok (not_ref' (fB_f hr0 (fun q => absurd q.1 (by decide)))))
  · have hr0 : reachedB 2 fault handed = false := (rB_f (fun q => q.1 rfl)).symm
    have hA : AA 2 fault handed bo bdd bl = [] := if_pos (.inl rfl)
    have hH : HH 2 fault handed i1 i2 i3 = [] := if_neg (fun q => by rw [hr0] at q; exact nomatch q.1)
    rw [hA, hH] at hbad
    exact ttr_none hd0 XB TB B F X N T D CH hck hdp hun (hs _ hr) (hfm.mono hs) (hs _ k1) (hs _ k2) k3 (fun e dd tt es n h' tk' G news' => hbad (not_ref (fB_t (.inl hr0))) e dd tt es n h' tk' G news' _ _ _)
end
-- text Z5
theorem caseBody_eq : caseBody = [cAt 0, cAt 1, cAt 2, cAt 3, cAt 4, cAt 5] ++ ([cAt 6, cAt 7] ++ ([cAt 8, cAt 9] ++ ([cAt 10, cAt 11] ++ ([cAt 12] ++ ([cAt 13] ++ ([cAt 14, cAt 15] ++ ([cAt 16, cAt 17] ++ ([cAt 18] ++ ([cAt 19] ++ ([cAt 20] ++ ([cAt 21] ++ (cAt 22 :: [cAt 23, cAt 24, cAt 25])))))))))))) := rfl
theorem KlassIs.mono {what : Int} {k f2 : Addr} {a b : List (Addr × Obj)} (h : Sub a b) (x : KlassIs what k f2 a) : KlassIs what k f2 b := by
  rcases x with ⟨e, dk, es, n, z1, z2, z3⟩ | ⟨e, dk, es, n, z1, z2, z3⟩ | ⟨e, dk, es, n, z1, z2, z3⟩
  · exact .inl ⟨e, dk, es, n, h _ z1, h _ z2, z3⟩
  · exact .inr (.inl ⟨e, dk, es, n, h _ z1, h _ z2, z3⟩)
  · exact .inr (.inr ⟨e, dk, es, n, h _ z1, h _ z2, z3⟩)
section
variable {w : World} {dp un : Nat} {gd : Option (List Code)} {cn : Str} {cs : Scope} {a : Addr} {ccd : Value} {base g h₀ : Heap} {L Lc : Addr} {m mc : Str → Option Value} {s : Shared} {Q E : Value → Shared → Prop}     {loose : List Str} {mean : ExcName → Option Value} {mg mb : Str → Option Value} {rest news : List (Addr × Obj)} {la lh : Addr} {LA LH : Obj} {A₀ : Around}     {nm bn : Str} {ps : Arguments} {bd : List Stmt} {sc : Scope} {pos : Pos} 
variable {n what form fault : Int} {handed : Bool} {u1 u2 u3 u4 : Tok} {o1 o2 o3 o4 o5 : Obj} {pt : Array Value} {Qf : Flow → Shared → Prop}
theorem case_run (ed : caseDef = .FunctionDef nm ps bd [] none [] sc none bn pos)
    (XB : (hd.heap_39 w.params).In base) (TB : Top topProg loose mean mg mb base) (D : KtsDicts ([envOf cn cs Lc a ccd].filterMap (·.frame)) g) (CH : CodeHd base 305 301) (C2 : CodeHd base 298 294)
    (B : Below (ktrTop dp un gd cn cs Lc a ccd [] []) base [envOf cn cs Lc a ccd] g) (F : Fr g L s.heap m) (X : (hd.heap_39 w.params).In g) (N : News g L s.heap ((L + 1 + 1 + 1 + 1 + 1, o1) :: (L + 1 + 1 + 1 + 1, o2) :: (L + 1 + 1 + 1, o3) :: (L + 1 + 1, o4) :: (L + 1, o5) :: (294, tabObj pt) :: news)) (T : Top topProg loose mean mg mb g) (hck : cs.kind = .function) (hdp : dp + 30 < recursionLimit) (hun : un + 300 < cLine)
    (h294 : @LT.lt Nat _ 294 L) (hn294 : ∀ p ∈ news, p.1 ≠ 294) (hnl : ∀ p ∈ news, p.1 < L) (hT : TabSt pt news) (n0 : 0 ≤ n) (n1 : n < 1000000000) (q1 : o1.data = .cell none) (q2 : o2.data = .cell none) (q3 : o3.data = .cell none) (q4 : o4.data = .cell (some (.int fault u4))) (q5 : o5.data = .cell (some (.int n u1)))
    (hw : what = 0 ∨ what = 1 ∨ what = 2) (hfo : form = 0 ∨ form = 1 ∨ form = 2 ∨ form = 3) (m1 : m "what" = some (.int what u2)) (m2 : m "form" = some (.int form u3)) (m3 : m "handed" = some (.bool handed))
    (hret : ∀ g' m' h' tk' pt' rest', KtsTurn ([envOf cn cs Lc a ccd].filterMap (·.frame)) g g' → Fr g' L h' m' → News g' L h' rest' → (294, tabObj pt') ∈ rest' → TabSt pt' rest' → Sub news rest' → Qf (.ret (.bool true)) { s with heap := h', toks := tk' }) :
    wpAny (model P0 w) ((ktrTop dp un gd cn cs Lc a ccd [] []).deeper (envOfC caseN sc L 299 (.ref 298))) (execs caseBody (envOfC caseN sc L 299 (.ref 298))) Qf E s := by
  rw [caseBody_eq]
  refine execs_app (caseA (what := what) (form := form) (u2 := u2) (u3 := u3) (handed := handed) ed B F X N T hck hdp hun h294 hn294 hnl n0 n1 q1 q2 q3 q4 q5 ?_)
  intro ma ha tka to tl td v1 v2 v3 k dk a1 a2 a3 b1 b2 b3 lh la tb TB0 t1 t2 x1 x2 x3 x4 resta Ka ao aol ala af as_ at_ ak Fa Na Sa hD hsm ht1 ht2 hk cc5 cd5 cc4 cd4 cc3 cc2 cc1
  obtain ⟨x5, cc3, cd3⟩ := cc3
  refine execs_app (caseB ed B Fa X Na T hck hdp hun n0 n1 aol ala hD hsm cc5 cd5 cc2 q4 ?_)
  intro hb tkb TB' al Fb Nb hD' val1 val2
  obtain ⟨n8, ps8, b8, sc8, p8, e8⟩ : ∃ n8 ps8 b8 sc8 p8, nth caseBody 8 = .FunctionDef n8 ps8 b8 [] none [] sc8 none n8 p8 := ⟨_, _, _, _, _, rfl⟩
  obtain ⟨n9, ps9, b9, sc9, p9, e9⟩ : ∃ n9 ps9 b9 sc9 p9, nth caseBody 9 = .FunctionDef n9 ps9 b9 [] none [] sc9 none n9 p9 := ⟨_, _, _, _, _, rfl⟩
  refine execs_app (caseC ed B Fb X Nb (hT.mono Sa) T C2 hck hdp hun cc5 cc4 cc3 cc2 cc1 cd5 cd4 cd3 q4 q5 e8 e9 ?_)
  intro f1 k1 ok1 ct1 dc1 vs1 w1 f2 k2 ok2 ct2 dc2 vs2 w2 pm mc' hc tkc ptc restc Kc cr cm Fc Nc hTc Sc hf1 hk1 hk1' hk1'' hf2 hk2 hk2' hk2''
  refine execs_app (caseD ed B Fc X Nc T hck hdp hun hw (Kc.at (Ka.at m1)) (Kc.at ak) cm (Sc _ hk) ?_)
  intro k' md hd' tkd restd Kd dk' Fd Nd hK htb hpt Sd
  obtain ⟨dk2, es2, n2, hk3, hdk3⟩ : ∃ dk2 es2 n2, ((k', instObj 274 dk2) ∈ restd ∨ (k', instObj 245 dk2) ∈ restd) ∧ (dk2, dictOf es2 n2) ∈ restd := by
    rcases hK with ⟨_, dk, es, n, z1, z2, _⟩ | ⟨_, dk, es, n, z1, z2, _⟩ | ⟨_, dk, es, n, z1, z2, _⟩
    · exact ⟨dk, es, n, .inl z1, z2⟩
    · exact ⟨dk, es, n, .inr z1, z2⟩
    · exact ⟨dk, es, n, .inl z1, z2⟩
  refine execs_app (caseE1 ed B Fd X Nd T hck hdp hun hfo (Kd.at (Kc.at (Ka.at m2))) dk' hk3 hdk3 ?_)
  intro mv me1 h1 tk1 rest1 K1 e1m F1 N1 S1 hform
  have U1 := Sd.trans S1
  have U0 := Sc.trans U1
  refine execs_app (caseE2 ed B F1 X N1 T hck hdp hun (U0 _ cc2) q4 e1m (K1.at (Kd.at (Kc.at at_))) ?_)
  intro r me2 h2 tk2 rest2 K2 e2r F2 N2 S2 hrow
  refine execs_app (caseE3 ed B F2 X N2 T hck hdp hun (K2.at (K1.at (Kd.at cr))) ?_)
  intro st ds hh kk me3 h3 tk3 rest3 K3 e3s F3 N3 S3 hst hds
  have V3 := (U0.trans S2).trans S3
  refine execs_app (caseE4 ed B F3 X N3 T hck hdp hun (V3 _ cc2) q4 (K3.at (K2.at (K1.at (Kd.at (Kc.at ao))))) (K3.at (K2.at (K1.at (Kd.at (Kc.at aol))))) (K3.at (K2.at (K1.at (Kd.at (Kc.at ala))))) (K3.at (K2.at (K1.at (Kd.at (Kc.at (Ka.at m3)))))) ?_)
  intro ld4 me4 h4 tk4 rest4 K4 e4d F4 N4 S4 hA4
  refine execs_app (caseE5 ed B F4 X N4 T hck hdp hun (S4 _ (V3 _ cc2)) q4 (K4.at (K3.at (K2.at (K1.at (Kd.at (Kc.at (Ka.at m1))))))) e4d hA4 ?_)
  intro ld5 me5 h5 tk5 rest5 K5 e5d F5 N5 S5 hA5
  have V5 := (V3.trans S4).trans S5
  refine execs_app (caseE6 ed B F5 X N5 T hck hdp hun (V5 _ cc2) q4 (K5.at (K4.at (K3.at (K2.at (K1.at (Kd.at (Kc.at (Ka.at m1)))))))) (K5.at (K4.at (K3.at (K2.at (K1.at (Kd.at (Kc.at (Ka.at m3)))))))) ?_)
  intro rb me6 h6 tk6 rest6 K6 e6r F6 N6 S6 hrb
  subst hrb
  refine execs_app (caseE7 ed B F6 X N6 T hck hdp hun (K6.at (K5.at (K4.at (K3.at (K2.at (K1.at (Kd.at (Kc.at (Ka.at m1))))))))) e6r (K6.at (K5.at (K4.at (K3.at (K2.at (K1.at (Kd.at (Kc.at af)))))))) (K6.at (K5.at (K4.at (K3.at (K2.at (K1.at (Kd.at (Kc.at as_)))))))) (K6.at (K5.at (K4.at (K3.at (K2.at (K1.at (Kd.at (Kc.at at_)))))))) ?_)
  intro ld7 me7 h7 tk7 rest7 K7 e7d F7 N7 S7 hH7
  have V7 := (V5.trans S6).trans S7
  refine execs_app (caseE8 ed B F7 X N7 T hck hdp hun (V7 _ cc2) q4 (K7.at (K6.at (K5.at (K4.at (K3.at (K2.at (K1.at (Kd.at (Kc.at (Ka.at m1)))))))))) (K7.at e6r) ?_)
  intro rf me8 h8 tk8 rest8 K8 e8r F8 N8 S8 hrf
  subst hrf
  have V8 := V7.trans S8
  have W3 := (((S4.trans S5).trans S6).trans S7).trans S8
  have W2 := S3.trans W3
  have W1 := S2.trans W2
  have Wd := S1.trans W1
  have Wc := Sd.trans Wd
  have Wa := Sc.trans Wc
  obtain ⟨mr, rfl⟩ : ∃ mr, mv = .ref mr := by
    rcases hform with ⟨z, _⟩ | ⟨t0, _, _, _, _, _, _, z, _⟩
    · exact ⟨_, z⟩
    · exact ⟨_, z⟩
  have bb1 : 0 ≤ n.fmod 50 ∧ n.fmod 50 < 100 := by rw [Int.fmod_eq_emod_of_nonneg n (by decide)]; omega
  have bb2 : 0 ≤ n.fmod 70 + 1 ∧ n.fmod 70 + 1 < 100 := by rw [Int.fmod_eq_emod_of_nonneg n (by decide)]; omega
  have bb3 : 0 ≤ n.fmod 90 + 2 ∧ n.fmod 90 + 2 < 100 := by rw [Int.fmod_eq_emod_of_nonneg n (by decide)]; omega
  have H0 := ttrAt_of (w := w) (mem := rest8) (la := la) (lh := lh) (bo := idB n) (bdd := idB (n + 1)) (bl := idB (n + 2)) (to := to) (tl := td) (td := tl) (handed := handed) (fault := fault) (num := n) (tn := u1)
    (W3 _ hst) (W3 _ hds) (Wc _ hf1) rfl (Wc _ hf2) rfl (KlassIs.mono Wd hK) (FormIs.mono W1 hform) (hrow.imp (fun z => ⟨z.1, W2 _ z.2⟩) (fun z => ⟨z.1, W2 _ z.2⟩)) (Wa _ ht1) (Wa _ ht2)
    (fun z => reads_of e8 (Wc _ hf1) (Wc _ hk1) hk1' hk1'' (Wa _ cc3) cd3 (Wa _ cc5) cd5 (Wd _ htb) hD' hsm (val1.trans (if_neg z)))
    (fun z => misses_of e8 (Wc _ hf1) (Wc _ hk1) hk1' hk1'' (Wa _ cc3) cd3 (Wa _ cc5) cd5 (Wd _ htb) hD' hsm (val1.trans (if_pos z)))
    (fun z => reads_of e8 (Wc _ hf1) (Wc _ hk1) hk1' hk1'' (Wa _ cc3) cd3 (Wa _ cc5) cd5 (Wd _ htb) hD' hsm (val2.trans (if_neg z)))
    (fun z => misses_of e8 (Wc _ hf1) (Wc _ hk1) hk1' hk1'' (Wa _ cc3) cd3 (Wa _ cc5) cd5 (Wd _ htb) hD' hsm (val2.trans (if_pos z)))
    (fun z => mergesOk_of e9 (Wc _ hf2) (Wc _ hk2) hk2' hk2'' (Wa _ cc2) q4 (Wa _ cc4) cd4 (Wa _ cc1) q5 z)
    (fun z => mergesBad_of e9 (Wc _ hf2) (Wc _ hk2) hk2' hk2'' (Wa _ cc2) q4 (Wa _ cc4) cd4 (Wa _ cc1) q5 z) bb1 bb2 bb3
  have hA8 : Has rest8 2 (.ref ld5) (.lst (AA what fault handed (idB n) (idB (n + 1)) (idB (n + 2)))) := hA5.mono ((S6.trans S7).trans S8)
  have hH8 : Has rest8 2 (.ref ld7) (.lst (HH what fault handed (n.fmod 50) (n.fmod 70 + 1) (n.fmod 90 + 2))) := hH7.mono S8
  have hcl : (!refusedB what fault handed) = false → refusedB what fault handed = true := fun z => by cases q : refusedB what fault handed with | true => rfl | false => rw [q] at z; cases z
  have hcl' : (!refusedB what fault handed) = true → refusedB what fault handed = false := fun z => by cases q : refusedB what fault handed with | false => rfl | true => rw [q] at z; cases z
  have p1 := (K8.at (K7.at (K6.at (K5.at (K4.at (K3.at (K2.at (K1.at (Kd.at (Kc.at ao))))))))))
  have p2 := (K8.at (K7.at (K6.at (K5.at (K4.at (K3.at (K2.at (K1.at (Kd.at (Kc.at aol))))))))))
  have p3 := (K8.at (K7.at (K6.at (K5.at (K4.at (K3.at (K2.at (K1.at (Kd.at (Kc.at ala))))))))))
  have p4 := (K8.at (K7.at (K6.at (K5.at (K4.at (K3.at (K2.at (K1.at (Kd.at (Kc.at (Ka.at m3)))))))))))
  have p5 := (K8.at (K7.at (K6.at (K5.at (K4.at e3s)))))
  have p6 := (K8.at (K7.at (K6.at (K5.at (K4.at (K3.at e2r))))))
  have p7 := (K8.at (K7.at (K6.at (K5.at (K4.at (K3.at (K2.at (K1.at (Kd.at (Kc.at as_))))))))))
  have p8 := (K8.at (K7.at (K6.at (K5.at (K4.at (K3.at (K2.at (K1.at (Kd.at (Kc.at af))))))))))
  have p9 := (K8.at (K7.at (K6.at (K5.at (K4.at (K3.at (K2.at (K1.at (Kd.at (Kc.at at_))))))))))
  have p10 := (K8.at (K7.at (K6.at (K5.at (K4.at (K3.at (K2.at (K1.at (Kd.at (Kc.at (Ka.at m1)))))))))))
  have p11 := (K8.at (K7.at (K6.at (K5.at (K4.at (K3.at (K2.at e1m)))))))
  have p12 := (K8.at (K7.at (K6.at e5d)))
  have p13 := (K8.at e7d)
  obtain ⟨tb9, h9, hs9, p22, et⟩ : ∃ tb h0 hs p2, cAt 22 = .Try tb (h0 :: hs) [] [] p2 := ⟨_, _, _, _, rfl⟩
  have hTc8 : TabSt ptc rest8 := hTc.mono Wc
  have hpt8 : (294, tabObj ptc) ∈ rest8 := Wd _ hpt
  have hS8 : Sub news rest8 := Sa.trans Wa
  have hok : (!refusedB what fault handed) = true → ∀ v m' h' tk' rest' news', Keeps ["told"] me8 m' → m' "told" = some v → Fr g L h' m' → News g L h' news' → Sub rest8 rest' → OutOk rest' (.ref mr) (AA what fault handed (idB n) (idB (n + 1)) (idB (n + 2))) (HH what fault handed (n.fmod 50) (n.fmod 70 + 1) (n.fmod 90 + 2)) (RR what (n.fmod 50) (n.fmod 70 + 1) (n.fmod 90 + 2) n) la lh v news' →
      wpAny (model P0 w) ((ktrTop dp un gd cn cs Lc a ccd [] []).deeper (envOfC caseN sc L 299 (.ref 298))) (execs [cAt 23, cAt 24, cAt 25] (envOfC caseN sc L 299 (.ref 298))) Qf E { s with heap := h', toks := tk' } := by
    intro ok v m' h' tk' rest' news' K9 ev F9 N9 S9 z
    obtain ⟨⟨y1, y2, y3⟩, va, rv, rfl, y4, y5⟩ := z
    have Y := S9.trans y1
    have er : m' "refused" = some (.bool false) := by rw [← hcl' ok]; exact K9.at e8r
    by_cases w1' : what = 1
    · have y6 : Has news' 1 rv (.int (n.fmod 70 + 1 + (n.fmod 90 + 2) - n.fmod 50)) := by unfold RR at y5; rwa [if_pos w1'] at y5
      obtain ⟨ut, rfl⟩ : ∃ ut, rv = .int (n.fmod 70 + 1 + (n.fmod 90 + 2) - n.fmod 50) ut := by cases y6; exact ⟨_, rfl⟩
      exact caseEnd1 (s := { s with heap := h', toks := tk' }) ed B F9 X N9 T hck hdp hun er (K9.at p12) (K9.at p13) ev (K9.at p11) (K9.at p10) (K9.at p8) (K9.at p7) (K9.at p9) (Y _ (Wa _ cc1)) q5 (Y _ (Wa _ cc3)) cd3 (Y _ (Wa _ cc4)) cd4 y2 (hA8.mono Y) y3 (hH8.mono Y) y4 w1' fun h'' tk'' rest'' F'' N'' S'' => hret g m' h'' tk'' ptc rest'' KtsTurn.refl F'' N'' (S'' _ (Y _ hpt8)) (hTc8.mono (Y.trans S'')) (hS8.trans (Y.trans S''))
    · have y6 : Has news' 1 rv (.lst [.int (n.fmod 50), .int (n.fmod 70 + 1), .int (n.fmod 90 + 2), .int n]) := by unfold RR at y5; rwa [if_neg w1'] at y5
      obtain ⟨ra, rfl⟩ : ∃ ra, rv = .ref ra := by cases y6; exact ⟨_, rfl⟩
      exact caseEnd0 (s := { s with heap := h', toks := tk' }) ed B F9 X N9 T hck hdp hun er (K9.at p12) (K9.at p13) ev (K9.at p11) (K9.at p10) (K9.at p8) (K9.at p7) (K9.at p9) (Y _ (Wa _ cc1)) q5 (Y _ (Wa _ cc3)) cd3 (Y _ (Wa _ cc4)) cd4 y2 (hA8.mono Y) y3 (hH8.mono Y) y4 y6 w1' fun h'' tk'' rest'' F'' N'' S'' => hret g m' h'' tk'' ptc rest'' KtsTurn.refl F'' N'' (S'' _ (Y _ hpt8)) (hTc8.mono (Y.trans S'')) (hS8.trans (Y.trans S''))
  have hbad : (!refusedB what fault handed) = false → ∀ e dd tt es n' h' tk' G rest' news' to' tl' td', Fr g L G me8 → RD base G ((envOfC caseN sc L 299 (.ref 298)) :: [envOf cn cs Lc a ccd]) e (.ref 99) (some dd) news' h' → G.UpToSlots h' → Sub rest8 rest' → OutBad rest' (AA what fault handed (idB n) (idB (n + 1)) (idB (n + 2))) (HH what fault handed (n.fmod 50) (n.fmod 70 + 1) (n.fmod 90 + 2)) la lh news' → (dd, dictOf es n') ∈ news' → getL "oid" es = some (some (.bytes (idB n) to')) → getL "serials" es = some (some (.ref tt)) → getL "get_oid" es = some none → getL "get_serials" es = some none → (tt, tupObj [.bytes (idB (n + 2)) tl', .bytes (idB (n + 1)) td']) ∈ news' →
      wpAny (model P0 w) ((ktrTop dp un gd cn cs Lc a ccd [] []).deeper (envOfC caseN sc L 299 (.ref 298))) (noteFrame (.ref e) (envOfC caseN sc L 299 (.ref 298))) (fun _ s₂ => wpAny (model P0 w) ((ktrTop dp un gd cn cs Lc a ccd [] []).deeper (envOfC caseN sc L 299 (.ref 298))) (setFlight (.ref e) none) (fun _ s₃ => wpAny (model P0 w) ((ktrTop dp un gd cn cs Lc a ccd [] []).deeper (envOfC caseN sc L 299 (.ref 298))) (handleBy (.ref e) (envOfC caseN sc L 299 (.ref 298)) (h9 :: hs9)) (fun f s' => match f with | .next => wpAny (model P0 w) ((ktrTop dp un gd cn cs Lc a ccd [] []).deeper (envOfC caseN sc L 299 (.ref 298))) (execs [cAt 23, cAt 24, cAt 25] (envOfC caseN sc L 299 (.ref 298))) Qf E s' | f => Qf f s') E s₃) E s₂) E { s with heap := h', toks := tk' } := by
    intro ok e dd tt es n' h' tk' G rest' news' to' tl' td' F9 R9 U9 S9 z zd g1 g2 g3 g4 ztt
    obtain ⟨y1, y2, y3⟩ := z
    have Y := S9.trans y1
    have er : me8 "refused" = some (.bool true) := by rw [← hcl ok]; exact e8r
    exact caseHit (s := { s with heap := h', toks := tk' }) ed et XB TB D B F9 R9 U9 hck hdp hun er p1 p2 p3 p12 p13 (Y _ (Wa _ cc3)) cd3 (Y _ (Wa _ cc4)) cd4 y2 (hA8.mono Y) y3 (hH8.mono Y) zd g1 g2 g3 g4 ztt fun g' h'' tk'' m'' rest'' T'' F'' N'' S'' => hret g' m'' h'' tk'' ptc rest'' T'' F'' N'' (S'' _ (Y _ hpt8)) (hTc8.mono (Y.trans S'')) (hS8.trans (Y.trans S''))
  show wpAny _ _ (execs (cAt 22 :: [cAt 23, cAt 24, cAt 25]) _) _ _ _
  rw [et]
  refine wpAny_execs_cons (wpAny_Try_except ?_)
  cases handed
  · exact caseTry0 (s := { s with heap := h8, toks := tk8 }) ed et XB TB D CH B F8 X N8 T hck hdp hun p1 p2 p3 p4 p5 p6 p7 (W3 _ hst) (W3 _ hds) H0 (fun ok v m' h' tk' rest' news' a1 a2 a3 a4 a5 a6 => wpAny_execs_nil (hok ok v m' h' tk' rest' news' a1 a2 a3 a4 a5 a6)) hbad
  · exact caseTry1 (s := { s with heap := h8, toks := tk8 }) ed et XB TB D CH B F8 X N8 T hck hdp hun p1 p2 p3 p4 p5 p6 p7 (W3 _ hst) (W3 _ hds) H0 (fun ok v m' h' tk' rest' news' a1 a2 a3 a4 a5 a6 => wpAny_execs_nil (hok ok v m' h' tk' rest' news' a1 a2 a3 a4 a5 a6)) hbad
end
-- text Z6
theorem tab_ne {g h : Heap} {L : Addr} {l : List (Addr × Obj)} {pt : Array Value} (N : News g L h l) (hp : (294, tabObj pt) ∈ l) {c : Addr} {oc : Obj} {vs : Array Value} {u : Tok} {q : Str} (hc : (c, oc) ∈ l) (h1 : oc.data = .fields vs) (h2 : vs[1]? = some (.str q u)) (hT : TabSt pt l) : c ≠ 294 := by
  intro z
  subst z
  have e1 := (N _ hp).1
  have e2 := (N _ hc).1
  rw [e1] at e2
  cases e2
  have h3 : pt = vs := by injection h1
  subst h3
  rcases hT with x | ⟨_, _, _, _, _, _, _, _, x, _⟩
  · subst x; exact nomatch h2
  · subst x; exact nomatch h2
/-- the ledger between the calls: the case's table ahead, everything else apart from it -/
theorem tab_split {g h : Heap} {L : Addr} {l news : List (Addr × Obj)} {pt : Array Value} (N : News g L h l) (hp : (294, tabObj pt) ∈ l) (hT : TabSt pt l) (hs : Sub news l) (hn : ∀ p ∈ news, p.1 ≠ 294) :
    ∃ l', News g L h ((294, tabObj pt) :: l') ∧ TabSt pt l' ∧ Sub news l' ∧ ∀ p ∈ l', p.1 ≠ 294 := by
  refine ⟨l.filter (fun p => decide (p.1 ≠ 294)), newsTo N (fun p hp' => ?_), ?_, fun p hp' => List.mem_filter.mpr ⟨hs p hp', decide_eq_true (hn p hp')⟩, fun p hp' => of_decide_eq_true (List.mem_filter.mp hp').2⟩
  · rcases List.mem_cons.mp hp' with rfl | z
    · exact hp
    · exact (List.mem_filter.mp z).1
  · rcases hT with x | ⟨c1, oc1, vs1, u1, c2, oc2, vs2, u2, e, x1, x2, x3, x4, x5, x6⟩
    · exact .inl x
    · exact .inr ⟨c1, oc1, vs1, u1, c2, oc2, vs2, u2, e, List.mem_filter.mpr ⟨x1, decide_eq_true (tab_ne (u := u1) (q := qRead) N hp x1 x2 x3 (.inr ⟨c1, oc1, vs1, u1, c2, oc2, vs2, u2, e, x1, x2, x3, x4, x5, x6⟩))⟩, x2, x3, List.mem_filter.mpr ⟨x4, decide_eq_true (tab_ne (u := u2) (q := qMerge) N hp x4 x5 x6 (.inr ⟨c1, oc1, vs1, u1, c2, oc2, vs2, u2, e, x1, x2, x3, x4, x5, x6⟩))⟩, x5, x6⟩
section
variable {w : World} {dp un : Nat} {gd : Option (List Code)} {cn : Str} {cs : Scope} {a : Addr} {ccd : Value} {base g h₀ : Heap} {L Lc : Addr} {m mc : Str → Option Value} {s : Shared} {Q E : Value → Shared → Prop}     {loose : List Str} {mean : ExcName → Option Value} {mg mb : Str → Option Value} {rest news : List (Addr × Obj)} {la lh : Addr} {LA LH : Obj} {A₀ : Around}     {nm bn : Str} {ps : Arguments} {bd : List Stmt} {sc : Scope} {pos : Pos} 
variable {n what form fault : Int} {handed : Bool} {u1 u2 u3 u4 : Tok} {pt : Array Value}
theorem case_call
    (XB : (hd.heap_39 w.params).In base) (TB : Top topProg loose mean mg mb base) (CH : CodeHd base 305 301) (C2 : CodeHd base 298 294)
    (B : Below A₀ base [] h₀) (F : Fr h₀ Lc s.heap mc) (X : (hd.heap_39 w.params).In h₀) (N : News h₀ Lc s.heap ((294, tabObj pt) :: news)) (T : Top topProg loose mean mg mb h₀) (hck : cs.kind = .function) (hdp : dp + 30 < recursionLimit) (hun : un + 300 < cLine)
    (hn294 : ∀ p ∈ news, p.1 ≠ 294) (hT : TabSt pt news) (n0 : 0 ≤ n) (n1 : n < 1000000000)
    (hw : what = 0 ∨ what = 1 ∨ what = 2) (hfo : form = 0 ∨ form = 1 ∨ form = 2 ∨ form = 3)
    (hret : ∀ h' tk' pt' news', Fr h₀ Lc h' mc → News h₀ Lc h' ((294, tabObj pt') :: news') → TabSt pt' news' → Sub news news' → (∀ p ∈ news', p.1 ≠ 294) → Q (.bool true) { s with heap := h', toks := tk' }) :
    wpAny (model P0 w) (ktrTop dp un gd cn cs Lc a ccd [] []) (call (.ref 299) [.int n u1, .int what u2, .int form u3, .int fault u4, .bool handed]) Q E s := by
  walk_at "k known"
  refine wpAny_call ?_
  refine' code_defCS0 ?k1 ?k2 ?k3 ?k4 ?k5 ?kA ?k6 ?k7 ?k8 ?k9 ?kB ?kD ?_ ?kK ?c2 ?c3 ?c4; (case kA => exact rfl); (case kK => first | exact rfl | assumption); (case k1 => k_asm); (case k2 => k_asm); (case k3 => k_asm); (case k4 => k_asm); (case k5 => k_asm); (case k6 => k_is); (case k7 => k_is); (case k8 => ktr_room); (case k9 => first | exact BindsTo.of_eq rfl | exact binds_K (by k_in) rfl (by k_is) rfl rfl rfl | fail "ENTER: no rule for these arguments"); (case kD => decide); (case kB => exact rfl); (case c2 => exact rfl); (case c3 => exact rfl); (case c4 => exact rfl)
  intro g L h1 tk cells FG F1 N1 Y B1 X1 T1 l1 D1
  obtain ⟨o1, o2, o3, o4, o5, rfl, q1, q2, q3, q4, q5⟩ := cells_five Y
  refine wpAny_mono (case_run (s := { s with heap := h1, toks := tk }) (n := n) (what := what) (form := form) (fault := fault) (handed := handed) (news := news) (pt := pt) rfl XB TB D1 CH C2 B1 F1 X1 N1 T1 hck hdp hun (l1 _ (.head _)) hn294 (fun p hp => l1 p (.tail _ hp)) hT n0 n1 q1 q2 q3 q4 q5 hw hfo rfl rfl rfl ?_) (fun f s' z => z) (fun e s' z => z)
  intro g' m' h' tk' pt' rest' T' F' N' hp hT' hs
  obtain ⟨l', N2, hT2, hs2, hn2⟩ := tab_split N' hp hT' hs hn294
  exact leaveS0_ F' N2 T' fun F'' N'' => hret h' tk' pt' l' F'' N'' hT2 hs2 hn2
end
-- text ST1
abbrev stDef : Stmt := nth PySem.Challenge.pw_bt5023_01.main.body 19
abbrev stBody : List Stmt := bodyOf stDef
abbrev sAt (i : Nat) : Stmt := nth stBody i
abbrev stN : Str := Str.ofString "_law_states"
abbrev qSt : Str := stN ++ ".<locals>." ++ "reading"
/-- the table of the code of _law_states: empty ahead of its first run, then its def -/
def StSt (ps : Array Value) (rest : List (Addr × Obj)) : Prop :=
  ps = #[] ∨ ∃ c1 oc1 vs1 u1, ps = #[] ++ #[rawInt 196, rawInt 4, .ref c1] ∧ (c1, oc1) ∈ rest ∧ oc1.data = .fields vs1 ∧ vs1[1]? = some (.str qSt u1)
theorem StSt.mono {ps : Array Value} {a b : List (Addr × Obj)} (h : Sub a b) (x : StSt ps a) : StSt ps b := by
  rcases x with x | ⟨c1, oc1, vs1, u1, e, x1, x2, x3⟩
  · exact .inl x
  · exact .inr ⟨c1, oc1, vs1, u1, e, h _ x1, x2, x3⟩
theorem cells_two {cm : Str → Option Value} {n1 n2 : Str} {c1 c2 : Addr} {cells : List (Addr × Obj)} (x : CellsAre cm [(n1, c1), (n2, c2)] cells) :
    ∃ o1 o2, cells = [(c1, o1), (c2, o2)] ∧ o1.data = .cell (cm n1) ∧ o2.data = .cell (cm n2) := by
  cases x with | cons h1 x => cases x with | cons h2 x => cases x; exact ⟨_, _, rfl, h1, h2⟩
section
variable {w : World} {dp un : Nat} {gd : Option (List Code)} {cn : Str} {cs : Scope} {a : Addr} {ccd : Value} {base g h₀ : Heap} {L Lc : Addr} {m mc : Str → Option Value} {s : Shared} {Q E : Value → Shared → Prop}     {loose : List Str} {mean : ExcName → Option Value} {mg mb : Str → Option Value} {rest news : List (Addr × Obj)} {la lh : Addr} {LA LH : Obj} {A₀ : Around}     {nm bn : Str} {ps : Arguments} {bd : List Stmt} {sc : Scope} {pos : Pos} 
variable {n : Int} {u1 to ts_ : Tok} {pt : Array Value} {o1 o2 x1 : Obj} {f1 st ds pf : Addr} {Qf : Flow → Shared → Prop}
theorem statesA (ed : stDef = .FunctionDef nm ps bd [] none [] sc none bn pos)
    (B : Below (ktrTop dp un gd cn cs Lc a ccd [] []) base [envOf cn cs Lc a ccd] g) (F : Fr g L s.heap m) (X : (hd.heap_39 w.params).In g) (N : News g L s.heap ((L + 1 + 1, o1) :: (L + 1, o2) :: (301, tabObj pt) :: news)) (T : Top topProg loose mean mg mb g) (hck : cs.kind = .function) (hdp : dp + 30 < recursionLimit) (hun : un + 300 < cLine)
    (hL : @LT.lt Nat _ 301 L) (hn301 : ∀ p ∈ news, p.1 ≠ 301) (hnl : ∀ p ∈ news, p.1 < L) (n0 : 0 ≤ n) (n1 : n < 1000000000) (q1 : o1.data = .cell none) (q2 : o2.data = .cell (some (.int n u1)))
    (hret : ∀ m' h' tk' to ts_ la x1 rest', m' "oid" = some (.bytes (idB n) to) → m' "serial" = some (.bytes (idB (n + 5)) ts_) → Fr g L h' m' → Led2 g L h' la (W.listOf #[] 0) 301 (tabObj pt) rest' → Sub news rest' → (L + 1 + 1, x1) ∈ rest' → x1.data = .cell (some (.ref la)) → (L + 1, o2) ∈ rest' → Qf .next { s with heap := h', toks := tk' }) :
    wpAny (model P0 w) ((ktrTop dp un gd cn cs Lc a ccd [] []).deeper (envOfC stN sc L 306 (.ref 305))) (execs [sAt 0, sAt 1] (envOfC stN sc L 306 (.ref 305))) Qf E s := by
  walk_at "k known"
  have z0 : 0 ≤ n + 5 := by omega
  have z1 : n < 1152921504606846976 := by omega
  have z2 : n + 5 < 1152921504606846976 := by omega
  cases ed
  unfold sAt
  dsimp only [nth, stBody, stDef, bodyOf, PySem.Challenge.pw_bt5023_01]
  have hnewsx : ∀ x : Nat, L ≤ x → ∀ p ∈ news, p.1 ≠ x := fun x hx => newsOfLt hnl hx
  iterate 3 (first | (k_unfold; (try dsimp only)) | walk1 | (dsimp only; walk1) | (leave1; walk_say "STEP leave1"; try dsimp only) | fail "no step")
  walk_at "walk"
  walk_at "split lts"
  refine' hret _ _ _ _ _ _ _ _ ?f1 ?f2 ?kf (Led2.of ?ln ?l1 ?l2 ?n1 ?n2 ?nn) ?ks ?c1 ?c2 ?c3
  case kf => k_asm
  case f1 => (walk_at "m_get"; done)
  case f2 => (walk_at "m_get"; done)
  case ln => k_asm
  case l1 => (walk_at "front"; done)
  case l2 => (walk_at "front"; done)
  case n1 => (walk_at "all ne"; done)
  case n2 => (walk_at "all ne"; done)
  case nn => omega
  case ks => (walk_at "sub"; done)
  case c1 => k_mem
  case c2 => assumption
  case c3 => k_mem
theorem statesB (ed : stDef = .FunctionDef nm ps bd [] none [] sc none bn pos)
    (B : Below (ktrTop dp un gd cn cs Lc a ccd [] []) base [envOf cn cs Lc a ccd] g) (F : Fr g L s.heap m) (X : (hd.heap_39 w.params).In g) (N : Led2 g L s.heap la LA 301 (tabObj pt) rest) (hT : StSt pt rest) (CH : CodeHd base 305 301) (T : Top topProg loose mean mg mb g) (hck : cs.kind = .function) (hdp : dp + 30 < recursionLimit) (hun : un + 300 < cLine)
    (c2 : (L + 1 + 1, x1) ∈ rest) (c1 : (L + 1, o2) ∈ rest) (q1 : x1.data = .cell (some (.ref la))) (q2 : o2.data = .cell (some (.int n u1)))
    {n8 : Str} {ps8 : Arguments} {b8 : List Stmt} {sc8 : Scope} {p8 : Pos} (e8 : nth stBody 2 = .FunctionDef n8 ps8 b8 [] none [] sc8 none n8 p8)
    (hret : ∀ f1 k1 ok1 ct1 dc1 vs1 v1 pm m' h' tk' pt' rest', Keeps ["reading"] m m' → m' "reading" = some (.ref f1) → Fr g L h' m' → Led2 g L h' la LA 301 (tabObj pt') rest' → StSt pt' rest' → Sub rest rest' →
      (f1, fnMade n8 qSt ps8 b8 sc8 [("number", L + 1), ("asked", L + 1 + 1)] dc1 pm k1 ct1) ∈ rest' → (k1, ok1) ∈ rest' → ok1.data = .fields vs1 → vs1[1]? = some (.str qSt v1) → Qf .next { s with heap := h', toks := tk' }) :
    wpAny (model P0 w) ((ktrTop dp un gd cn cs Lc a ccd [] []).deeper (envOfC stN sc L 306 (.ref 305))) (execs [sAt 2] (envOfC stN sc L 306 (.ref 305))) Qf E s := by
  walk_at "k known"
  cases ed
  cases e8
  obtain ⟨N, nna, nnh, hn⟩ := N
  unfold sAt
  dsimp only [nth, stBody, stDef, bodyOf, PySem.Challenge.pw_bt5023_01]
  rcases hT with rfl | ⟨k1, ok1, vs1, v1, rfl, t1, t2, t3⟩
  · walk_at "walk"
    walk_at "split lts"
    refine' hret _ _ _ _ _ _ _ _ _ _ _ _ _ ?kkx ?f1x ?kfx (Led2.of ?lnx ?l1x ?l2x ?n1x ?n2x hn) ?tsx ?ksx ?a1x ?a2x ?a3x ?a4x
    case kfx => k_asm
    case kkx => (walk_at "keeps"; done)
    case f1x => (walk_at "m_get"; done)
    case lnx => k_asm
    case l1x => (walk_at "front"; done)
    case l2x => (walk_at "front"; done)
    case n1x => (walk_at "all ne"; done)
    case n2x => (walk_at "all ne"; done)
    case ksx => (walk_at "sub"; done)
    case a1x => k_mem
    case a2x => k_mem
    case a3x => assumption
    case a4x => assumption
    case tsx => exact .inr ⟨_, _, _, _, rfl, by k_mem, by assumption, by assumption⟩
  · walk_at "walk"
    walk_at "split lts"
    refine' hret _ _ _ _ _ _ _ _ _ _ _ _ _ ?kky ?f1y ?kfy (Led2.of ?lny ?l1y ?l2y ?n1y ?n2y hn) ?tsy ?ksy ?a1y ?a2y ?a3y ?a4y
    case kfy => k_asm
    case kky => (walk_at "keeps"; done)
    case f1y => (walk_at "m_get"; done)
    case lny => k_asm
    case l1y => (walk_at "front"; done)
    case l2y => (walk_at "front"; done)
    case n1y => (walk_at "all ne"; done)
    case n2y => (walk_at "all ne"; done)
    case ksy => (walk_at "sub"; done)
    case a1y => k_mem
    case a2y => k_mem
    case a3y => assumption
    case a4y => assumption
    case tsy => exact .inr ⟨_, _, _, _, rfl, by k_mem, by assumption, by assumption⟩
end
-- text ST2
section
variable {w : World} {dp un : Nat} {gd : Option (List Code)} {cn : Str} {cs : Scope} {a : Addr} {ccd : Value} {base g h₀ : Heap} {L Lc : Addr} {m mc : Str → Option Value} {s : Shared} {Q E : Value → Shared → Prop}     {loose : List Str} {mean : ExcName → Option Value} {mg mb : Str → Option Value} {rest news : List (Addr × Obj)} {la lh : Addr} {LA LH : Obj} {A₀ : Around}     {nm bn : Str} {ps : Arguments} {bd : List Stmt} {sc : Scope} {pos : Pos} 
variable {n : Int} {u1 to ts_ : Tok} {pt : Array Value} {o1 o2 x1 : Obj} {f1 st ds pf : Addr} {bo bx : Array UInt8} {Qf : Flow → Shared → Prop}
theorem statesC (ed : stDef = .FunctionDef nm ps bd [] none [] sc none bn pos)
    (B : Below (ktrTop dp un gd cn cs Lc a ccd [] []) base [envOf cn cs Lc a ccd] g) (F : Fr g L s.heap m) (X : (hd.heap_39 w.params).In g) (N : Led2 g L s.heap la LA 301 (tabObj pt) rest) (T : Top topProg loose mean mg mb g) (hck : cs.kind = .function) (hdp : dp + 30 < recursionLimit) (hun : un + 300 < cLine)
    (m1 : m "reading" = some (.ref f1))
    (hret : ∀ st ds pf hh k1 m' h' tk' rest', Keeps ["store", "factory"] m m' → m' "store" = some (.ref st) → m' "factory" = some (.ref pf) → Fr g L h' m' → Led2 g L h' la LA 301 (tabObj pt) rest' → Sub rest rest' → (st, instObj 181 ds) ∈ rest' → (ds, dictOf [⟨hh, .str (Str.ofString "loadSerial") k1, .ref f1⟩] 1) ∈ rest' → Qf .next { s with heap := h', toks := tk' }) :
    wpAny (model P0 w) ((ktrTop dp un gd cn cs Lc a ccd [] []).deeper (envOfC stN sc L 306 (.ref 305))) (execs [sAt 3, sAt 4, sAt 5] (envOfC stN sc L 306 (.ref 305))) Qf E s := by
  walk_at "k known"
  cases ed
  obtain ⟨N, nna, nnh, hn⟩ := N
  unfold sAt
  dsimp only [nth, stBody, stDef, bodyOf, PySem.Challenge.pw_bt5023_01]
  walk_at "walkc"
  walk_at "split lts"
  refine' hret _ _ _ _ _ _ _ _ _ ?kkx ?f0x ?f1x ?kfx (Led2.of ?lnx ?l1x ?l2x ?n1x ?n2x hn) ?ksx ?e0x ?e1x
  case kfx => k_asm
  case kkx => (walk_at "keeps"; done)
  case f0x => (walk_at "m_get"; done)
  case f1x => (walk_at "m_get"; done)
  case lnx => k_asm
  case l1x => (walk_at "front"; done)
  case l2x => (walk_at "front"; done)
  case n1x => (walk_at "all ne"; done)
  case n2x => (walk_at "all ne"; done)
  case ksx => (walk_at "sub"; done)
  case e0x => k_mem
  case e1x => k_mem

local macro_rules | `(tactic| walk_at "call ref") => `(tactic| (k_here; (with_reducible show wpAny _ _ (call (Value.ref 142) _) _ _ _); k_dflt (refine wpAny_call ?_; walk_at "ENTER")))

theorem statesD (ed : stDef = .FunctionDef nm ps bd [] none [] sc none bn pos)
    (B : Below (ktrTop dp un gd cn cs Lc a ccd [] []) base [envOf cn cs Lc a ccd] g) (F : Fr g L s.heap m) (X : (hd.heap_39 w.params).In g) (N : Led2 g L s.heap la (W.listOf #[] 0) 301 (tabObj pt) rest) (T : Top topProg loose mean mg mb g) (hck : cs.kind = .function) (hdp : dp + 30 < recursionLimit) (hun : un + 300 < cLine)
    (m1 : m "store" = some (.ref st)) (m2 : m "oid" = some (.bytes bo to)) (m3 : m "serial" = some (.bytes bx ts_)) (m4 : m "factory" = some (.ref pf)) (n0 : 0 ≤ n) (n1 : n < 1000000000)
    (c2 : (L + 1 + 1, x1) ∈ rest) (c1 : (L + 1, o2) ∈ rest) (q1 : x1.data = .cell (some (.ref la))) (q2 : o2.data = .cell (some (.int n u1)))
    (hret : ∀ h' tk' rest', Fr g L h' m → Led2 g L h' la (W.listOf #[] 0) 301 (tabObj pt) rest' → Sub rest rest' → Qf .next { s with heap := h', toks := tk' }) :
    wpAny (model P0 w) ((ktrTop dp un gd cn cs Lc a ccd [] []).deeper (envOfC stN sc L 306 (.ref 305))) (execs [sAt 6] (envOfC stN sc L 306 (.ref 305))) Qf E s := by
  walk_at "k known"
  cases ed
  obtain ⟨N, nna, nnh, hn⟩ := N
  unfold sAt
  dsimp only [nth, stBody, stDef, bodyOf, PySem.Challenge.pw_bt5023_01]
  walk_at "walkc"
  walk_at "split lts"
  refine' hret _ _ _ ?kf (Led2.of ?ln ?l1 ?l2 ?n1 ?n2 hn) ?ks
  case kf => k_asm
  case ln => k_asm
  case l1 => (walk_at "front"; done)
  case l2 => (walk_at "front"; done)
  case n1 => (walk_at "all ne"; done)
  case n2 => (walk_at "all ne"; done)
  case ks => (walk_at "sub"; done)
end
-- text ST3
/-- what a call of the loadSerial of _law_states does -/
def Tells (w : World) (mem : List (Addr × Obj)) (f la : Addr) (bo bx : Array UInt8) (to tx : Tok) (n : Int) : Prop :=
  ∀ (dp un : Nat) (gd : Option (List Code)) (cn : Str) (cs : Scope) (a : Addr) (ccd : Value) (cl : List (Str × Addr)) (outer : List Env) (A₀ : Around) (base h₀ : Heap) (L : Addr) (m : Str → Option Value) (s : Shared) (Q E : Value → Shared → Prop)
    (loose : List Str) (mean : ExcName → Option Value) (mg mb : Str → Option Value) (rest : List (Addr × Obj)),
    Below A₀ base outer h₀ → Fr h₀ L s.heap m → (hd.heap_39 w.params).In h₀ → News h₀ L s.heap ((la, W.listOf #[] 0) :: rest) → Top topProg loose mean mg mb h₀ → CodeHd base 305 301 → cs.kind = .function → dp + 10 < recursionLimit → un + 80 < cLine →
    (∀ p ∈ rest, p.1 ≠ la) → Sub mem rest →
    (∀ t r t2 t3 h' tk', Fr h₀ L h' m → News h₀ L h' ((r, tupObj [.str "told" t2, .int (n + 1) t3]) :: (t, tupObj [.bytes bo to, .bytes bx tx]) :: (la, W.listOf #[.ref t] 1) :: rest) → (@LT.lt Nat _ la t ∧ AllLt t rest) → @LT.lt Nat _ t r → Q (.ref r) { s with heap := h', toks := tk' }) →
    wpAny (model P0 w) (ktrTop dp un gd cn cs L a ccd cl outer) (call (.ref f) [.bytes bo to, .bytes bx tx]) Q E s
section
variable {w : World} {rest0 : List (Addr × Obj)} {la : Addr}
  {f1 c1 ca cn0 : Addr} {oc1 : Obj} {n1 q1 : Str} {ps1 : Arguments} {b1 : List Stmt} {sc1 : Scope} {pos1 : Pos} {doc1 pm1 ctv1 : Value} {vs1 : Array Value} {u1 : Tok}
  {bo bx : Array UInt8} {tx to tn : Tok} {oca ocn : Obj} {n : Int}
theorem tells_of (e1 : nth stBody 2 = .FunctionDef n1 ps1 b1 [] none [] sc1 none n1 pos1)
  (m1 : (f1, fnMade n1 q1 ps1 b1 sc1 [("number", cn0), ("asked", ca)] doc1 pm1 c1 ctv1) ∈ rest0) (m2 : (c1, oc1) ∈ rest0) (m3 : oc1.data = .fields vs1) (m4 : vs1[1]? = some (.str q1 u1))
  (hca : (ca, oca) ∈ rest0) (hca' : oca.data = .cell (some (.ref la))) (hcn : (cn0, ocn) ∈ rest0) (hcn' : ocn.data = .cell (some (.int n tn))) (n0 : 0 ≤ n) (n9 : n < 1000000000) : Tells w rest0 f1 la bo bx to tx n := by
  intro dp un gd cn cs a ccd cl outer A₀ base h₀ L m s Q E loose mean mg mb rest B F X N T CH hk hdp hun hla hsub hret
  have z1 : n < 1152921504606846976 := by omega
  replace m1 := hsub _ m1
  replace m2 := hsub _ m2
  replace hca := hsub _ hca
  replace hcn := hsub _ hcn
  clear hsub
  walk_at "k known"
  cases e1
  repeat' (first | (k_unfold; (try dsimp only)) | walk1 | (dsimp only; walk1) | (leave1; walk_say "STEP leave1"; try dsimp only) | fail "no step")
  walk_at "split lts"
  exact hret _ _ _ _ _ _ (by k_asm) (by k_asm) ⟨by assumption, by assumption⟩ (by first | assumption | omega)
end
section
variable {w : World} {dp un : Nat} {gd : Option (List Code)} {cn : Str} {cs : Scope} {a : Addr} {ccd : Value} {base g h₀ : Heap} {L Lc : Addr} {m mc : Str → Option Value} {s : Shared} {Q E : Value → Shared → Prop}     {loose : List Str} {mean : ExcName → Option Value} {mg mb : Str → Option Value} {rest news : List (Addr × Obj)} {la lh : Addr} {LA LH : Obj} {A₀ : Around}     {nm bn : Str} {ps : Arguments} {bd : List Stmt} {sc : Scope} {pos : Pos} 
variable {n : Int} {u1 to ts_ : Tok} {pt : Array Value} {o1 o2 x1 : Obj} {f1 st ds pf : Addr} {hh : Int} {k1 : Tok} {of1 : Obj} {fd1 : FuncData} {bo bx : Array UInt8} {Qf : Flow → Shared → Prop}
local macro_rules | `(tactic| walk_at "call ref") => `(tactic| (k_here; (with_reducible show wpAny _ _ (call (Value.ref 142) _) _ _ _); k_dflt (refine wpAny_call ?_; walk_at "ENTER")))
local macro_rules | `(tactic| walk_at "call ref") => `(tactic| (k_here; (with_reducible rename Mine.Tells _ _ _ _ _ _ _ _ _ => hz0); k_dflt (refine' (show Mine.Tells _ _ _ _ _ _ _ _ _ from by with_reducible assumption) _ _ _ _ _ _ _ _ _ _ _ _ _ _ _ _ _ _ _ _ _ _ ?k1 ?k2 ?k3 ?k4 ?k5 ?k6 ?kK ?kd ?ku ?kn ?ks ?_; (case k1 => k_asm); (case k2 => k_asm); (case k3 => k_asm); (case k4 => (refine' newsFront ?kn0 ?kf0; (case kn0 => k_asm); (case kf0 => (walk_at "front"; done)))); (case k5 => k_asm); (case k6 => k_asm); (case kK => first | exact rfl | assumption); (case kd => ktr_room); (case ku => first | ktr_room | ((simp only [units_deeper]); (try dsimp only [ktrTop]); omega)); (case kn => (walk_at "split lts"; walk_at "all ne"; done)); (case ks => (walk_at "sub"; done))); intro t9 r9 a9 b9 h9 tk9 F9 N9 l9 l8; (try simp only [AllLt, and_true] at l9); (try dsimp only)))

theorem statesE (ed : stDef = .FunctionDef nm ps bd [] none [] sc none bn pos)
    (B : Below (ktrTop dp un gd cn cs Lc a ccd [] []) base [envOf cn cs Lc a ccd] g) (F : Fr g L s.heap m) (X : (hd.heap_39 w.params).In g) (N : Led2 g L s.heap la (W.listOf #[] 0) 301 (tabObj pt) rest) (hT : StSt pt rest) (CH : CodeHd base 305 301) (T : Top topProg loose mean mg mb g) (hck : cs.kind = .function) (hdp : dp + 30 < recursionLimit) (hun : un + 300 < cLine)
    (m1 : m "store" = some (.ref st)) (m2 : m "oid" = some (.bytes bo to)) (m3 : m "serial" = some (.bytes bx ts_)) (m4 : m "factory" = some (.ref pf)) (n0 : 0 ≤ n) (n1 : n < 1000000000)
    (c2 : (L + 1 + 1, x1) ∈ rest) (c1 : (L + 1, o2) ∈ rest) (q1 : x1.data = .cell (some (.ref la))) (q2 : o2.data = .cell (some (.int n u1)))
    (hst : (st, instObj 181 ds) ∈ rest) (hds : (ds, dictOf [⟨hh, .str (Str.ofString "loadSerial") k1, .ref f1⟩] 1) ∈ rest) (hf1 : (f1, of1) ∈ rest) (hf1' : of1.data = .func fd1) (H : Tells w rest f1 la bo bx to ts_ n)
    (hret : ∀ h' tk' LA' rest', Fr g L h' m → Led2 g L h' la LA' 301 (tabObj pt) rest' → Sub rest rest' → Qf (.ret (.bool true)) { s with heap := h', toks := tk' }) :
    wpAny (model P0 w) ((ktrTop dp un gd cn cs Lc a ccd [] []).deeper (envOfC stN sc L 306 (.ref 305))) (execs [sAt 7] (envOfC stN sc L 306 (.ref 305))) Qf E s := by
  walk_at "k known"
  have z0 : 0 ≤ n + 1 := by omega
  have z1 : n < 1152921504606846976 := by omega
  have z2 : n + 1 < 1152921504606846976 := by omega
  cases ed
  obtain ⟨N, nna, nnh, hn⟩ := N
  have hcons : ∀ p ∈ (301, tabObj pt) :: rest, p.1 ≠ la := ne_cons (Ne.symm hn) nna
  unfold sAt
  dsimp only [nth, stBody, stDef, bodyOf, PySem.Challenge.pw_bt5023_01]
  walk_at "walkc"
  walk_at "split lts"
  refine' hret _ _ _ _ ?kf (Led2.of ?ln ?l1 ?l2 ?n1 ?n2 hn) ?ks
  case kf => k_asm
  case ln => k_asm
  case l1 => (walk_at "front"; done)
  case l2 => (walk_at "front"; done)
  case n1 => (walk_at "all ne"; done)
  case n2 => (walk_at "all ne"; done)
  case ks => (walk_at "sub"; done)
end
-- text ST4
theorem stBody_eq : stBody = [sAt 0, sAt 1] ++ ([sAt 2] ++ ([sAt 3, sAt 4, sAt 5] ++ ([sAt 6] ++ [sAt 7]))) := rfl
theorem st_ne {g h : Heap} {L : Addr} {l : List (Addr × Obj)} {ps : Array Value} (N : News g L h l) (hp : (301, tabObj ps) ∈ l) {c : Addr} {oc : Obj} {vs : Array Value} {u : Tok} {q : Str} (hc : (c, oc) ∈ l) (h1 : oc.data = .fields vs) (h2 : vs[1]? = some (.str q u)) (hT : StSt ps l) : c ≠ 301 := by
  intro z
  subst z
  have e1 := (N _ hp).1
  have e2 := (N _ hc).1
  rw [e1] at e2
  cases e2
  have h3 : ps = vs := by injection h1
  subst h3
  rcases hT with x | ⟨_, _, _, _, x, _⟩
  · subst x; exact nomatch h2
  · subst x; exact nomatch h2
section
variable {w : World} {dp un : Nat} {gd : Option (List Code)} {cn : Str} {cs : Scope} {a : Addr} {ccd : Value} {base g h₀ : Heap} {L Lc : Addr} {m mc : Str → Option Value} {s : Shared} {Q E : Value → Shared → Prop}     {loose : List Str} {mean : ExcName → Option Value} {mg mb : Str → Option Value} {rest news : List (Addr × Obj)} {la lh : Addr} {LA LH : Obj} {A₀ : Around}     {nm bn : Str} {ps : Arguments} {bd : List Stmt} {sc : Scope} {pos : Pos} 
variable {n : Int} {u1 : Tok} {pt : Array Value} {o1 o2 : Obj} {Qf : Flow → Shared → Prop}
theorem states_run (ed : stDef = .FunctionDef nm ps bd [] none [] sc none bn pos)
    (B : Below (ktrTop dp un gd cn cs Lc a ccd [] []) base [envOf cn cs Lc a ccd] g) (F : Fr g L s.heap m) (X : (hd.heap_39 w.params).In g) (N : News g L s.heap ((L + 1 + 1, o1) :: (L + 1, o2) :: (301, tabObj pt) :: news)) (hT : StSt pt news) (CH : CodeHd base 305 301) (T : Top topProg loose mean mg mb g) (hck : cs.kind = .function) (hdp : dp + 30 < recursionLimit) (hun : un + 300 < cLine)
    (hL : @LT.lt Nat _ 301 L) (hn301 : ∀ p ∈ news, p.1 ≠ 301) (hnl : ∀ p ∈ news, p.1 < L) (n0 : 0 ≤ n) (n1 : n < 1000000000) (q1 : o1.data = .cell none) (q2 : o2.data = .cell (some (.int n u1)))
    (hret : ∀ m' h' tk' pt' rest', Fr g L h' m' → News g L h' rest' → (301, tabObj pt') ∈ rest' → StSt pt' rest' → Sub news rest' → Qf (.ret (.bool true)) { s with heap := h', toks := tk' }) :
    wpAny (model P0 w) ((ktrTop dp un gd cn cs Lc a ccd [] []).deeper (envOfC stN sc L 306 (.ref 305))) (execs stBody (envOfC stN sc L 306 (.ref 305))) Qf E s := by
  rw [stBody_eq]
  refine execs_app (statesA ed B F X N T hck hdp hun hL hn301 hnl n0 n1 q1 q2 ?_)
  intro ma ha tka to ts_ la x1 resta ao as_ Fa Na Sa cc2 cd2 cc1
  obtain ⟨n8, ps8, b8, sc8, p8, e8⟩ : ∃ n8 ps8 b8 sc8 p8, nth stBody 2 = .FunctionDef n8 ps8 b8 [] none [] sc8 none n8 p8 := ⟨_, _, _, _, _, rfl⟩
  refine execs_app (statesB (s := { s with heap := ha, toks := tka }) ed B Fa X Na (hT.mono Sa) CH T hck hdp hun cc2 cc1 cd2 q2 e8 ?_)
  intro f1 k1 ok1 ct1 dc1 vs1 v1 pm mb' hb tkb ptb restb Kb br Fb Nb hTb Sb hf1 hk1 hk1' hk1''
  refine execs_app (statesC (s := { s with heap := hb, toks := tkb }) ed B Fb X Nb T hck hdp hun br ?_)
  intro st ds pf hh kk mc' hc tkc restc Kc cs_ cp Fc Nc Sc hst hds
  have U := Sb.trans Sc
  refine execs_app (statesD (s := { s with heap := hc, toks := tkc }) ed B Fc X Nc T hck hdp hun cs_ (Kc.at (Kb.at ao)) (Kc.at (Kb.at as_)) cp n0 n1 (U _ cc2) (U _ cc1) cd2 q2 ?_)
  intro hd' tkd restd Fd Nd Sd
  have V := U.trans Sd
  refine statesE (s := { s with heap := hd', toks := tkd }) ed B Fd X Nd (hTb.mono (Sc.trans Sd)) CH T hck hdp hun cs_ (Kc.at (Kb.at ao)) (Kc.at (Kb.at as_)) cp n0 n1 (V _ cc2) (V _ cc1) cd2 q2 (Sd _ hst) (Sd _ hds) (Sd _ (Sc _ hf1)) rfl (tells_of e8 (Sd _ (Sc _ hf1)) (Sd _ (Sc _ hk1)) hk1' hk1'' (V _ cc2) cd2 (V _ cc1) q2 n0 n1) ?_
  intro he tke LA' reste Fe Ne Se
  refine hret _ he tke ptb ((la, LA') :: (301, tabObj ptb) :: reste) Fe Ne.N (.tail _ (.head _)) (hTb.mono fun p hp => .tail _ (.tail _ (Se _ (Sd _ (Sc _ hp))))) fun p hp => .tail _ (.tail _ (Se _ (V _ (Sa _ hp))))
end
section
variable {w : World} {dp un : Nat} {gd : Option (List Code)} {cn : Str} {cs : Scope} {a : Addr} {ccd : Value} {base g h₀ : Heap} {L Lc : Addr} {m mc : Str → Option Value} {s : Shared} {Q E : Value → Shared → Prop}     {loose : List Str} {mean : ExcName → Option Value} {mg mb : Str → Option Value} {rest news : List (Addr × Obj)} {la lh : Addr} {LA LH : Obj} {A₀ : Around}     {nm bn : Str} {ps : Arguments} {bd : List Stmt} {sc : Scope} {pos : Pos} 
variable {n : Int} {u1 : Tok} {pt : Array Value} {keep : List (Addr × Obj)}
theorem states_call
    (XB : (hd.heap_39 w.params).In base) (TB : Top topProg loose mean mg mb base) (CH : CodeHd base 305 301)
    (B : Below A₀ base [] h₀) (F : Fr h₀ Lc s.heap mc) (X : (hd.heap_39 w.params).In h₀) (N : News h₀ Lc s.heap ((301, tabObj pt) :: news)) (T : Top topProg loose mean mg mb h₀) (hck : cs.kind = .function) (hdp : dp + 30 < recursionLimit) (hun : un + 300 < cLine)
    (hn301 : ∀ p ∈ news, p.1 ≠ 301) (hT : StSt pt news) (n0 : 0 ≤ n) (n1 : n < 1000000000)
    (hret : ∀ h' tk' pt' news', Fr h₀ Lc h' mc → News h₀ Lc h' news' → (301, tabObj pt') ∈ news' → StSt pt' news' → Sub news news' → Q (.bool true) { s with heap := h', toks := tk' }) :
    wpAny (model P0 w) (ktrTop dp un gd cn cs Lc a ccd [] []) (call (.ref 306) [.int n u1]) Q E s := by
  walk_at "k known"
  refine wpAny_call ?_
  refine' code_defCS0 ?k1 ?k2 ?k3 ?k4 ?k5 ?kA ?k6 ?k7 ?k8 ?k9 ?kB ?kD ?_ ?kK ?c2 ?c3 ?c4; (case kA => exact rfl); (case kK => first | exact rfl | assumption); (case k1 => k_asm); (case k2 => k_asm); (case k3 => k_asm); (case k4 => k_asm); (case k5 => k_asm); (case k6 => k_is); (case k7 => k_is); (case k8 => ktr_room); (case k9 => first | exact BindsTo.of_eq rfl | exact binds_K (by k_in) rfl (by k_is) rfl rfl rfl | fail "ENTER: no rule for these arguments"); (case kD => decide); (case kB => exact rfl); (case c2 => exact rfl); (case c3 => exact rfl); (case c4 => exact rfl)
  intro g L h1 tk cells FG F1 N1 Y B1 X1 T1 l1 D1
  obtain ⟨o1, o2, rfl, q1, q2⟩ := cells_two Y
  refine wpAny_mono (states_run (s := { s with heap := h1, toks := tk }) (n := n) (news := news) (pt := pt) rfl B1 F1 X1 N1 hT CH T1 hck hdp hun (l1 _ (.head _)) hn301 (fun p hp => l1 p (.tail _ hp)) n0 n1 q1 q2 ?_) (fun f s' z => z) (fun e s' z => z)
  intro m' h' tk' pt' rest' F' N' hp hT' hs
  exact leaveS0_ F' N' KtsTurn.refl fun F'' N'' => hret h' tk' pt' rest' F'' N'' hp hT' hs
end
-- text L1
/-- what law's ledger holds between two calls: both tables, at their first run or later -/
def LJ (l : List (Addr × Obj)) : Prop := ∃ pt ps, (294, tabObj pt) ∈ l ∧ (301, tabObj ps) ∈ l ∧ TabSt pt l ∧ StSt ps l
theorem LJ.mono {a b : List (Addr × Obj)} (h : Sub a b) (x : LJ a) : LJ b := by
  obtain ⟨pt, ps, y1, y2, y3, y4⟩ := x
  exact ⟨pt, ps, h _ y1, h _ y2, y3.mono h, y4.mono h⟩
theorem TabSt.keep {pt : Array Value} {l : List (Addr × Obj)} {x : Addr} (hT : TabSt pt l) (hne : ∀ c oc vs q u, (c, oc) ∈ l → oc.data = .fields vs → vs[1]? = some (.str q u) → c ≠ x) : TabSt pt (l.filter fun p => decide (p.1 ≠ x)) := by
  rcases hT with y | ⟨c1, oc1, vs1, u1, c2, oc2, vs2, u2, e, x1, x2, x3, x4, x5, x6⟩
  · exact .inl y
  · exact .inr ⟨c1, oc1, vs1, u1, c2, oc2, vs2, u2, e, List.mem_filter.mpr ⟨x1, decide_eq_true (hne _ _ _ _ _ x1 x2 x3)⟩, x2, x3, List.mem_filter.mpr ⟨x4, decide_eq_true (hne _ _ _ _ _ x4 x5 x6)⟩, x5, x6⟩
theorem StSt.keep {pt : Array Value} {l : List (Addr × Obj)} {x : Addr} (hT : StSt pt l) (hne : ∀ c oc vs q u, (c, oc) ∈ l → oc.data = .fields vs → vs[1]? = some (.str q u) → c ≠ x) : StSt pt (l.filter fun p => decide (p.1 ≠ x)) := by
  rcases hT with y | ⟨c1, oc1, vs1, u1, e, x1, x2, x3⟩
  · exact .inl y
  · exact .inr ⟨c1, oc1, vs1, u1, e, List.mem_filter.mpr ⟨x1, decide_eq_true (hne _ _ _ _ _ x1 x2 x3)⟩, x2, x3⟩
theorem sub_filter {l : List (Addr × Obj)} {x : Addr} : Sub (l.filter fun p => decide (p.1 ≠ x)) l := fun p hp => (List.mem_filter.mp hp).1
theorem ne_filter {l : List (Addr × Obj)} {x : Addr} : ∀ p ∈ l.filter (fun p => decide (p.1 ≠ x)), p.1 ≠ x := fun p hp => of_decide_eq_true (List.mem_filter.mp hp).2
section
variable {w : World} {dp un : Nat} {gd : Option (List Code)} {cn : Str} {cs : Scope} {a : Addr} {ccd : Value} {base g h₀ : Heap} {L Lc : Addr} {m mc : Str → Option Value} {s : Shared} {Q E : Value → Shared → Prop}     {loose : List Str} {mean : ExcName → Option Value} {mg mb : Str → Option Value} {rest news : List (Addr × Obj)} {la lh : Addr} {LA LH : Obj} {A₀ : Around}     {nm bn : Str} {ps : Arguments} {bd : List Stmt} {sc : Scope} {pos : Pos} 
variable {n what form fault : Int} {handed : Bool} {u1 u2 u3 u4 : Tok} {keep : List (Addr × Obj)}
theorem case_J
    (XB : (hd.heap_39 w.params).In base) (TB : Top topProg loose mean mg mb base) (CH : CodeHd base 305 301) (C2 : CodeHd base 298 294)
    (B : Below A₀ base [] h₀) (F : Fr h₀ Lc s.heap mc) (X : (hd.heap_39 w.params).In h₀) (N : News h₀ Lc s.heap news) (J : LJ news) (T : Top topProg loose mean mg mb h₀) (hck : cs.kind = .function) (hdp : dp + 30 < recursionLimit) (hun : un + 300 < cLine)
    (n0 : 0 ≤ n) (n1 : n < 1000000000) (hw : what = 0 ∨ what = 1 ∨ what = 2) (hfo : form = 0 ∨ form = 1 ∨ form = 2 ∨ form = 3)
    (hk : Sub keep news) (hk294 : ∀ p ∈ keep, p.1 ≠ 294) (hk301 : ∀ p ∈ keep, p.1 ≠ 301)
    (hret : ∀ h' tk' news', Fr h₀ Lc h' mc → News h₀ Lc h' news' → LJ news' → Sub keep news' → Q (.bool true) { s with heap := h', toks := tk' }) :
    wpAny (model P0 w) (ktrTop dp un gd cn cs Lc a ccd [] []) (call (.ref 299) [.int n u1, .int what u2, .int form u3, .int fault u4, .bool handed]) Q E s := by
  obtain ⟨pt, ps, y1, y2, y3, y4⟩ := J
  have hne : ∀ c oc vs q u, (c, oc) ∈ news → oc.data = .fields vs → vs[1]? = some (.str q u) → c ≠ 294 := fun c oc vs q u hc h1 h2 => tab_ne (u := u) (q := q) N y1 hc h1 h2 y3
  obtain ⟨l', N2, hT2, hs2, hn2⟩ := tab_split (news := news.filter fun p => decide (p.1 ≠ 294)) N y1 y3 sub_filter ne_filter
  refine case_call XB TB CH C2 B F X N2 T hck hdp hun hn2 hT2 n0 n1 hw hfo fun h' tk' pt' news' F' N' hT' hs hn => ?_
  have q1 : (301, tabObj ps) ∈ news.filter fun p => decide (p.1 ≠ 294) := List.mem_filter.mpr ⟨y2, decide_eq_true (by decide : (301 : Nat) ≠ 294)⟩
  refine hret h' tk' _ F' N' ⟨pt', ps, .head _, .tail _ (hs _ (hs2 _ q1)), hT'.mono (fun p hp => .tail _ hp), (y4.keep hne).mono fun p hp => .tail _ (hs _ (hs2 _ hp))⟩ fun p hp => .tail _ (hs _ (hs2 _ (List.mem_filter.mpr ⟨hk _ hp, decide_eq_true (hk294 _ hp)⟩)))
theorem states_J
    (XB : (hd.heap_39 w.params).In base) (TB : Top topProg loose mean mg mb base) (CH : CodeHd base 305 301)
    (B : Below A₀ base [] h₀) (F : Fr h₀ Lc s.heap mc) (X : (hd.heap_39 w.params).In h₀) (N : News h₀ Lc s.heap news) (J : LJ news) (T : Top topProg loose mean mg mb h₀) (hck : cs.kind = .function) (hdp : dp + 30 < recursionLimit) (hun : un + 300 < cLine)
    (n0 : 0 ≤ n) (n1 : n < 1000000000)
    (hk : Sub keep news) (hk294 : ∀ p ∈ keep, p.1 ≠ 294) (hk301 : ∀ p ∈ keep, p.1 ≠ 301)
    (hret : ∀ h' tk' news', Fr h₀ Lc h' mc → News h₀ Lc h' news' → LJ news' → Sub keep news' → Q (.bool true) { s with heap := h', toks := tk' }) :
    wpAny (model P0 w) (ktrTop dp un gd cn cs Lc a ccd [] []) (call (.ref 306) [.int n u1]) Q E s := by
  obtain ⟨pt, ps, y1, y2, y3, y4⟩ := J
  have hne : ∀ c oc vs q u, (c, oc) ∈ news → oc.data = .fields vs → vs[1]? = some (.str q u) → c ≠ 301 := fun c oc vs q u hc h1 h2 => st_ne (u := u) (q := q) N y2 hc h1 h2 y4
  have N2 : News h₀ Lc s.heap ((301, tabObj ps) :: news.filter fun p => decide (p.1 ≠ 301)) := newsTo N fun p hp => by
    rcases List.mem_cons.mp hp with rfl | hp
    · exact y2
    · exact sub_filter _ hp
  have q1 : (294, tabObj pt) ∈ news.filter fun p => decide (p.1 ≠ 301) := List.mem_filter.mpr ⟨y1, decide_eq_true (by decide : (294 : Nat) ≠ 301)⟩
  refine states_call XB TB CH B F X N2 T hck hdp hun ne_filter (y4.keep hne) n0 n1 fun h' tk' ps' news' F' N' hp hT' hs => ?_
  exact hret h' tk' _ F' N' ⟨pt, ps', hs _ q1, hp, (y3.keep hne).mono hs, hT'⟩ fun p hp => hs _ (List.mem_filter.mpr ⟨hk _ hp, decide_eq_true (hk301 _ hp)⟩)
end
section
variable {prog : Program} {w : World} {A : Around} {E : Value → Shared → Prop} {s : Shared} {env : Env} {h₀ : Heap} {x : Str} {body : List Stmt} {Q : Flow → Shared → Prop}
/-- the end of a turn: all that the loop stands on is there, and the tables -/
def TurnPost (h₀ : Heap) (L : Addr) (own : List (Addr × Obj)) (s₁ : Shared) (Q : Flow → Shared → Prop) (f : Flow) (s₂ : Shared) : Prop :=
  match f with
  | .ret v => Q (.ret v) s₂
  | .brk => Q .next s₂
  | _ => ∃ h' tk m' news', s₂ = { s₁ with heap := h', toks := tk } ∧ Fr h₀ L h' m' ∧ News h₀ L h' news' ∧ Sub own news' ∧ LJ news'
/-- a loop over ints that the call itself has listed -/
theorem iter_made {l : Addr} {ol : Obj} {vs : List Value} {ns : List Int} {m₀ : Str → Option Value} {news : List (Addr × Obj)}
    (hh : A.handled = none) (hlm : (l, ol) ∈ news) (hlc : ol.cls = .type "list") (hld : ∃ ep, ol.data = .seq vs.toArray ep) (hi : IntsAre vs ns) (F : Fr h₀ env.locals s.heap m₀) (N : News h₀ env.locals s.heap news) (hj : LJ news) (h0 : h₀.get? l = none) (hl4 : l ≠ 294) (hl1 : l ≠ 301)
    (turn : ∀ (n : Int) (t : Tok) (m₁ : Str → Option Value) l₁ h tk own, n ∈ ns → Fr h₀ env.locals h (fun y => if y = x then some (.int n t) else m₁ y) → News h₀ env.locals h (own ++ l₁) → LJ l₁ → (∀ p ∈ own, p.1 ≠ 294) → (∀ p ∈ own, p.1 ≠ 301) →
      wpAny (model prog w) A (execs body env) (TurnPost h₀ env.locals own { s with heap := h, toks := tk } Q) E { s with heap := h, toks := tk })
    (done : ∀ (m₁ : Str → Option Value) l₁ h tk, Fr h₀ env.locals h m₁ → News h₀ env.locals h l₁ → LJ l₁ → Q .next { s with heap := h, toks := tk }) :
    wpAny (model prog w) A (pyIter (.ref l)) (fun it s₂ => LoopAtV prog w A h₀ env x body Q E it s₂) E s := by
  have hls : s.heap.IsList l vs.toArray := by
    obtain ⟨ep, hld⟩ := hld
    exact ⟨ol, (N _ hlm).1, hlc, ep, hld⟩
  obtain ⟨o', hol, _⟩ := id hls
  have hlt : l < s.heap.objs.size := Heap.lt_size hol
  have hne : l ≠ s.heap.objs.size := Nat.ne_of_lt hlt
  have hlL : l ≠ env.locals := (N _ hlm).2.1
  have l4 : (294 : Nat) < s.heap.objs.size := by obtain ⟨pt, ps, y1, _⟩ := hj; exact Heap.lt_size (N _ y1).1
  have l1 : (301 : Nat) < s.heap.objs.size := by obtain ⟨pt, ps, _, y2, _⟩ := hj; exact Heap.lt_size (N _ y2).1
  refine wpAny_pyIter_list hls ?_
  have W := Walks.list (prog := prog) (w := w) hh s.heap.objs.size l hne vs.toArray
  have hlen : vs.toArray.size = ns.length := by simp [hi.length]
  rw [hlen] at W
  refine ⟨_, _, _, ns.length, _, _, m₀, news, fun _ _ l₁ => LJ l₁, rfl, W, ?_, ?_, ?_, ⟨⟨_, Heap.get?_push_size _ rfl, rfl, rfl⟩, hls.at fun o e => Heap.get?_push_of_some _ e⟩, F.push _, (fun p hp => ⟨Heap.get?_push_of_some _ (N p hp).1, (N p hp).2⟩), hj, ?_, ?_⟩
  · intro hm
    rcases List.mem_cons.mp hm with e | hm
    · exact absurd F.ns.lt (e ▸ Nat.lt_irrefl _)
    · exact hlL (List.mem_singleton.mp hm).symm
  · intro b hb
    rw [List.mem_singleton.mp hb]
    exact next_is_new F
  · intro p hp hI
    exact absurd (Heap.lt_size (N p hp).1) ((List.mem_singleton.mp hI) ▸ Nat.lt_irrefl _)
  · rintro i v m₁ l₁ s₁ own ⟨h', tk', rfl⟩ hin hP hJ hoff hsub hown hall hSt F₁ N₁
    have hlt' : i < ns.length := hin
    obtain ⟨t, hx⟩ := hi.get i ns[i] (by simp [hlt'])
    have hv : v = .int ns[i] t := by
      have hP' : vs[i]? = some v := by simpa using hP
      rw [hx] at hP'; exact (Option.some.inj hP').symm
    subst hv
    have off : ∀ x : Nat, x < s.heap.objs.size → l ≠ x → ∀ p ∈ own, p.1 ≠ x := fun x hx hlx p hp e => by
      rcases List.mem_cons.mp (hsub p hp) with q | q
      · rw [q] at e; exact absurd hx (e ▸ Nat.lt_irrefl _)
      · rw [List.mem_singleton.mp q] at e; exact hlx e
    obtain ⟨⟨oI, hI1, _, hI2⟩, _⟩ := hSt
    have hIown : (s.heap.objs.size, oI) ∈ own := hall _ (.head _) (next_is_new F) _ hI1
    refine wpAny_mono (turn ns[i] t m₁ l₁ h' tk' own (List.getElem_mem hlt') F₁ N₁ hJ (off 294 l4 hl4) (off 301 l1 hl1)) (fun f s₂ p => ?_) fun _ _ e => e
    have fin : (∃ h'' tk m' news', s₂ = { { s with heap := h', toks := tk' } with heap := h'', toks := tk } ∧ Fr h₀ env.locals h'' m' ∧ News h₀ env.locals h'' news' ∧ Sub own news' ∧ LJ news') → LoopStepU h₀ env.locals [s.heap.objs.size] own (fun _ l₁ => LJ l₁) { s with heap := h', toks := tk' } .next s₂ := by
      rintro ⟨h'', tk, m', news', e, F', N', hs, hJ'⟩
      have hcI : ∀ c oc vs q u, (c, oc) ∈ news' → oc.data = .fields vs → vs[1]? = some (.str q u) → c ≠ s.heap.objs.size := fun c oc vs q u hc h1 h2 z => by
        subst z
        have e1 := (N' _ (hs _ hIown)).1
        have e2 := (N' _ hc).1
        rw [e1] at e2
        cases e2
        rw [hI2] at h1
        cases h1
        exact nomatch h2
      obtain ⟨pt, ps, y1, y2, y3, y4⟩ := hJ'
      refine ⟨rfl, h'', tk, m', news'.filter fun p => decide (p.1 ≠ s.heap.objs.size), e, F', fun p hp => ?_, fun p hp => ?_, ⟨pt, ps, List.mem_filter.mpr ⟨y1, decide_eq_true (Nat.ne_of_lt l4)⟩, List.mem_filter.mpr ⟨y2, decide_eq_true (Nat.ne_of_lt l1)⟩, y3.keep hcI, y4.keep hcI⟩⟩
      · rcases List.mem_append.mp hp with z | z
        · exact N' p (hs p z)
        · exact N' p (sub_filter p z)
      · exact fun z => ne_filter p hp (List.mem_singleton.mp z)
    cases f with
    | ret v => exact .ret p
    | brk => exact .brk p
    | next => exact .next (fin p)
    | cont => exact .cont (fin p)
  · rintro h' tk m' news' F' N' _ hJ
    exact done m' news' h' tk F' N' hJ
end
-- one line more: the walk keeps its table of lines by their number
local macro_rules | `(tactic| walk_at "number") => `(tactic| skip)
-- text L2
abbrev lawScope : Scope := { kind := ScopeKind.function, names := [(Str.ofString "script", NameKind.local), (Str.ofString "number", NameKind.local), (Str.ofString "numbers", NameKind.local), (Str.ofString "fault", NameKind.local), (Str.ofString "_law_case", NameKind.globalImplicit), (Str.ofString "_law_states", NameKind.globalImplicit), (Str.ofString "range", NameKind.globalImplicit)], isGenerator := false, isCoroutine := false, more := [(Str.ofString "fast", Const.str (Str.ofString "script")), (Str.ofString "fast", Const.str (Str.ofString "number")), (Str.ofString "fast", Const.str (Str.ofString "numbers")), (Str.ofString "fast", Const.str (Str.ofString "fault"))] }
abbrev lawN : Str := Str.ofString "law"
abbrev lawDef : Stmt := nth PySem.Challenge.pw_bt5023_01.main.body 20
abbrev lawBody : List Stmt := bodyOf lawDef
theorem fm3 (k : Int) : k.fmod 3 = 0 ∨ k.fmod 3 = 1 ∨ k.fmod 3 = 2 := by
  rw [Int.fmod_eq_emod_of_nonneg k (by decide : (0 : Int) ≤ 3)]
  omega
theorem fm4 (k : Int) : k.fmod 4 = 0 ∨ k.fmod 4 = 1 ∨ k.fmod 4 = 2 ∨ k.fmod 4 = 3 := by
  rw [Int.fmod_eq_emod_of_nonneg k (by decide : (0 : Int) ≤ 4)]
  omega
theorem fm9 (k : Int) : 0 ≤ k.fmod (10 ^ Int.toNat 9) ∧ k.fmod (10 ^ Int.toNat 9) < 1000000000 := by
  rw [show (10 : Int) ^ Int.toNat 9 = 1000000000 from rfl, Int.fmod_eq_emod_of_nonneg k (by decide : (0 : Int) ≤ 1000000000)]
  omega
local macro_rules | `(tactic| walk_at "call ref") => `(tactic| (k_here; (with_reducible show wpAny _ _ (call (Value.ref 299) _) _ _ _); k_dflt (refine' Mine.case_J ?k1 ?k2 ?k3 ?k4 ?k5 ?k6 ?k7 ?k8 ?k9 ?kT ?kK ?kd ?ku ?n0 ?n1 ?hw ?hf ?hk ?h4 ?h1 ?_; (case k1 => with_reducible assumption); (case k2 => with_reducible assumption); (case k3 => with_reducible assumption); (case k4 => with_reducible assumption); (case k5 => with_reducible assumption); (case k6 => k_asm); (case k7 => k_asm); (case k8 => k_asm); (case k9 => with_reducible assumption); (case kT => k_asm); (case kK => exact rfl); (case kd => first | assumption | ktr_room); (case ku => first | assumption | omega); (case n0 => first | assumption | omega); (case n1 => first | assumption | omega); (case hw => first | exact Mine.fm3 _ | exact .inl rfl | exact .inr (.inl rfl) | exact .inr (.inr rfl)); (case hf => first | exact Mine.fm4 _ | exact .inl rfl | exact .inr (.inl rfl) | exact .inr (.inr (.inl rfl)) | exact .inr (.inr (.inr rfl))); (case hk => with_reducible assumption); (case h4 => with_reducible assumption); (case h1 => with_reducible assumption)); intro h9 tk9 l9 F9 N9 J9 S9; (try dsimp only)))
local macro_rules | `(tactic| walk_at "call ref") => `(tactic| (k_here; (with_reducible show wpAny _ _ (call (Value.ref 306) _) _ _ _); k_dflt (refine' Mine.states_J ?k1 ?k2 ?k3 ?k5 ?k6 ?k7 ?k8 ?k9 ?kT ?kK ?kd ?ku ?n0 ?n1 ?hk ?h4 ?h1 ?_; (case k1 => with_reducible assumption); (case k2 => with_reducible assumption); (case k3 => with_reducible assumption); (case k5 => with_reducible assumption); (case k6 => k_asm); (case k7 => k_asm); (case k8 => k_asm); (case k9 => with_reducible assumption); (case kT => k_asm); (case kK => exact rfl); (case kd => first | assumption | ktr_room); (case ku => first | assumption | omega); (case n0 => first | assumption | omega); (case n1 => first | assumption | omega); (case hk => with_reducible assumption); (case h4 => with_reducible assumption); (case h1 => with_reducible assumption)); intro h9 tk9 l9 F9 N9 J9 S9; (try dsimp only)))

section
variable {prog : Program} {w : World} {A : Around} {E : Value → Shared → Prop} {s : Shared} {env : Env} {h₀ : Heap} {x : Str} {body : List Stmt} {Q : Flow → Shared → Prop}
/-- a loop over a range -/
theorem iter_rangeM {r : Addr} {a₀ b₀ : Int} {t₀ u₀ v₀ : Tok} {n : Nat} {m₀ : Str → Option Value} {news : List (Addr × Obj)}
    (hh : A.handled = none) (hr : IsRange s.heap r a₀ b₀ 1 t₀ u₀ v₀) (hsmall : Builtin.Range.small a₀ b₀ 1 = true) (hn : Builtin.Range.rangeSize a₀ b₀ 1 = (n : Int)) (F : Fr h₀ env.locals s.heap m₀) (N : News h₀ env.locals s.heap news) (hj : LJ news)
    (turn : ∀ (k : Int) (t : Tok) (m₁ : Str → Option Value) l₁ h tk own, a₀ ≤ k → k < a₀ + (n : Int) → Fr h₀ env.locals h (fun y => if y = x then some (.int k t) else m₁ y) → News h₀ env.locals h (own ++ l₁) → LJ l₁ → (∀ p ∈ own, p.1 ≠ 294) → (∀ p ∈ own, p.1 ≠ 301) →
      wpAny (model prog w) A (execs body env) (TurnPost h₀ env.locals own { s with heap := h, toks := tk } Q) E { s with heap := h, toks := tk })
    (done : ∀ (m₁ : Str → Option Value) l₁ h tk, Fr h₀ env.locals h m₁ → News h₀ env.locals h l₁ → LJ l₁ → Q .next { s with heap := h, toks := tk }) :
    wpAny (model prog w) A (pyIter (.ref r)) (fun it s₂ => LoopAtV prog w A h₀ env x body Q E it s₂) E s := by
  have l4 : (294 : Nat) < s.heap.objs.size := by obtain ⟨pt, ps, y1, _⟩ := hj; exact Heap.lt_size (N _ y1).1
  have l1 : (301 : Nat) < s.heap.objs.size := by obtain ⟨pt, ps, _, y2, _⟩ := hj; exact Heap.lt_size (N _ y2).1
  refine wpAny_pyIter_range hr hsmall ?_
  have W : Walks prog w A s.heap.objs.size [s.heap.objs.size] [s.heap.objs.size] n (fun i v => i < n ∧ ∃ t, v = .int (a₀ + i * 1) t)
      (fun i h => IsRangeIter h s.heap.objs.size (a₀ + (i : Nat) * 1) ((n : Int) - (i : Nat)) 1) := (Walks.range hh _ a₀ 1 n).bound
  refine ⟨_, _, _, n, _, _, m₀, news, fun _ _ l₁ => LJ l₁, rfl, W, ?_, ?_, ?_, (by show IsRangeIter _ _ _ _ _; rw [hn]; simpa using Heap.get?_push_size _ rfl), F.push _, (fun p hp => ⟨Heap.get?_push_of_some _ (N p hp).1, (N p hp).2⟩), hj, ?_, ?_⟩
  · intro hm
    exact absurd F.ns.lt ((List.mem_singleton.mp hm) ▸ Nat.lt_irrefl _)
  · intro b hb
    rw [List.mem_singleton.mp hb]
    exact next_is_new F
  · intro p hp hI
    exact absurd (Heap.lt_size (N p hp).1) ((List.mem_singleton.mp hI) ▸ Nat.lt_irrefl _)
  · rintro i v m₁ l₁ s₁ own ⟨h', tk', rfl⟩ hin ⟨_, t, rfl⟩ hJ hoff hsub hown hall hSt F₁ N₁
    have off : ∀ x : Nat, x < s.heap.objs.size → ∀ p ∈ own, p.1 ≠ x := fun x hx p hp e => by
      rw [List.mem_singleton.mp (hsub p hp)] at e
      exact absurd hx (e ▸ Nat.lt_irrefl _)
    have hIown := hall s.heap.objs.size (.head _) (next_is_new F) _ hSt
    refine wpAny_mono (turn (a₀ + i * 1) t m₁ l₁ h' tk' own (by omega) (by omega) F₁ N₁ hJ (off 294 l4) (off 301 l1)) (fun f s₂ p => ?_) fun _ _ e => e
    have fin : (∃ h'' tk m' news', s₂ = { { s with heap := h', toks := tk' } with heap := h'', toks := tk } ∧ Fr h₀ env.locals h'' m' ∧ News h₀ env.locals h'' news' ∧ Sub own news' ∧ LJ news') → LoopStepU h₀ env.locals [s.heap.objs.size] own (fun _ l₁ => LJ l₁) { s with heap := h', toks := tk' } .next s₂ := by
      rintro ⟨h'', tk, m', news', e, F', N', hs, hJ'⟩
      have hcI : ∀ c oc vs q u, (c, oc) ∈ news' → oc.data = .fields vs → vs[1]? = some (.str q u) → c ≠ s.heap.objs.size := fun c oc vs q u hc h1 h2 z => by
        subst z
        have e1 := (N' _ (hs _ hIown)).1
        have e2 := (N' _ hc).1
        rw [e1] at e2
        cases e2
        cases h1
        exact nomatch h2
      obtain ⟨pt, ps, y1, y2, y3, y4⟩ := hJ'
      refine ⟨rfl, h'', tk, m', news'.filter fun p => decide (p.1 ≠ s.heap.objs.size), e, F', fun p hp => ?_, fun p hp => ?_, ⟨pt, ps, List.mem_filter.mpr ⟨y1, decide_eq_true (Nat.ne_of_lt l4)⟩, List.mem_filter.mpr ⟨y2, decide_eq_true (Nat.ne_of_lt l1)⟩, y3.keep hcI, y4.keep hcI⟩⟩
      · rcases List.mem_append.mp hp with z | z
        · exact N' p (hs p z)
        · exact N' p (sub_filter p z)
      · exact fun z => ne_filter p hp (List.mem_singleton.mp z)
    cases f with
    | ret v => exact .ret p
    | brk => exact .brk p
    | next => exact .next (fin p)
    | cont => exact .cont (fin p)
  · rintro h' tk m' news' F' N' _ hJ
    exact done m' news' h' tk F' N' hJ
end
section
variable {w : World} {dp un : Nat} {gd : Option (List Code)} {cn : Str} {cs : Scope} {a : Addr} {ccd : Value} {base g h₀ : Heap} {L Lc : Addr} {m mc : Str → Option Value} {s : Shared} {Q E : Value → Shared → Prop}     {loose : List Str} {mean : ExcName → Option Value} {mg mb : Str → Option Value} {rest news : List (Addr × Obj)} {la lh : Addr} {LA LH : Obj} {A₀ : Around}     {nm bn : Str} {ps : Arguments} {bd : List Stmt} {sc : Scope} {pos : Pos} 
variable {n : Int} {t : Tok} {own l₁ : List (Addr × Obj)} {tg ie : Expr} {fb : List Stmt} {fp : Pos} {Qf : Flow → Shared → Prop}
theorem law_turn (el : nth lawBody 1 = .For tg ie fb [] fp) (CH : CodeHd h₀ 305 301) (C2 : CodeHd h₀ 298 294)
    (B : Below A₀ h₀ [] h₀) (X : (hd.heap_39 w.params).In h₀) (T : Top topProg loose mean mg mb h₀) (hdp : dp + 30 < recursionLimit) (hun : un + 300 < cLine)
    (F : Fr h₀ Lc s.heap (fun y => if y = Str.ofString "number" then some (.int n t) else m y)) (N : News h₀ Lc s.heap (own ++ l₁)) (J : LJ l₁) (o4 : ∀ p ∈ own, p.1 ≠ 294) (o1 : ∀ p ∈ own, p.1 ≠ 301) (n0 : 0 ≤ n) (n1 : n < 1000000000) :
    wpAny (model P0 w) (ktrTop dp un gd lawN lawScope Lc a ccd [] []) (execs fb (envOf lawN lawScope Lc a ccd)) (TurnPost h₀ Lc own s Qf) E s := by
  walk_at "k known"
  cases el
  have J0 : LJ (own ++ l₁) := J.mono fun p hp => List.mem_append_right _ hp
  have S0 : Sub own (own ++ l₁) := fun p hp => List.mem_append_left _ hp
  clear J
  generalize own ++ l₁ = l2 at N J0 S0
  have z0 : n < 1152921504606846976 := by omega
  walk_at "walkc"
  exact ⟨_, _, _, _, rfl, by k_asm, by k_asm, by assumption, by assumption⟩
theorem law_turn2 (el : nth lawBody 2 = .For tg ie fb [] fp) (CH : CodeHd h₀ 305 301) (C2 : CodeHd h₀ 298 294)
    (B : Below A₀ h₀ [] h₀) (X : (hd.heap_39 w.params).In h₀) (T : Top topProg loose mean mg mb h₀) (hdp : dp + 30 < recursionLimit) (hun : un + 300 < cLine)
    (F : Fr h₀ Lc s.heap (fun y => if y = Str.ofString "fault" then some (.int n t) else m y)) (N : News h₀ Lc s.heap (own ++ l₁)) (J : LJ l₁) (o4 : ∀ p ∈ own, p.1 ≠ 294) (o1 : ∀ p ∈ own, p.1 ≠ 301) (n0 : 0 ≤ n) (n1 : n < 9) :
    wpAny (model P0 w) (ktrTop dp un gd lawN lawScope Lc a ccd [] []) (execs fb (envOf lawN lawScope Lc a ccd)) (TurnPost h₀ Lc own s Qf) E s := by
  walk_at "k known"
  cases el
  have J0 : LJ (own ++ l₁) := J.mono fun p hp => List.mem_append_right _ hp
  have S0 : Sub own (own ++ l₁) := fun p hp => List.mem_append_left _ hp
  clear J
  generalize own ++ l₁ = l2 at N J0 S0
  have z0 : n < 1152921504606846976 := by omega
  walk_at "walkc"
  exact ⟨_, _, _, _, rfl, by k_asm, by k_asm, by assumption, by assumption⟩
theorem law_rest {l : List (Addr × Obj)} (CH : CodeHd h₀ 305 301) (C2 : CodeHd h₀ 298 294)
    (B : Below A₀ h₀ [] h₀) (X : (hd.heap_39 w.params).In h₀) (T : Top topProg loose mean mg mb h₀) (hdp : dp + 30 < recursionLimit) (hun : un + 300 < cLine)
    (F : Fr h₀ Lc s.heap m) (N : News h₀ Lc s.heap l) (J : LJ l) (hE : PassesOwn (model P0 w) (ktrTop dp un gd lawN lawScope Lc a ccd [] []) (envOf lawN lawScope Lc a ccd) E)
    (hret : ∀ h' tk' m' l', Fr h₀ Lc h' m' → News h₀ Lc h' l' → LJ l' → Qf (.ret (.bool true)) { s with heap := h', toks := tk' }) :
    wpAny (model P0 w) (ktrTop dp un gd lawN lawScope Lc a ccd [] []) (execs [nth lawBody 2, nth lawBody 3, nth lawBody 4] (envOf lawN lawScope Lc a ccd)) Qf E s := by
  walk_at "k known"
  dsimp only [nth, lawBody, lawDef, bodyOf, PySem.Challenge.pw_bt5023_01]
  have S0 : Sub [] l := fun p hp => nomatch hp
  have e4 : ∀ p ∈ ([] : List (Addr × Obj)), p.1 ≠ 294 := fun p hp => nomatch hp
  have e1 : ∀ p ∈ ([] : List (Addr × Obj)), p.1 ≠ 301 := fun p hp => nomatch hp
  refine wpAny_execs_cons ?_
  refine' For_invVF F ?k1 ?k2 ?_ (by intro _; rfl) hE
  case k1 => exact rfl
  case k2 => exact rfl
  iterate 7 walk1
  obtain ⟨tg, ie, fb, fp, el⟩ : ∃ tg ie fb fp, nth lawBody 2 = .For tg ie fb [] fp := ⟨_, _, _, _, rfl⟩
  refine iter_rangeM (n := 9) rfl (by assumption) (by decide) (by decide) (by assumption) (by assumption) J ?_ ?_
  · intro k t m₁ l₁ h tk own k0 k1 F1 N1 J1 o4 o1
    exact law_turn2 rfl CH C2 B X T hdp hun F1 N1 J1 o4 o1 k0 (by omega)
  · clear S0 J
    intro m₁ l₁ h tk F N J
    have S0 : Sub [] l₁ := fun p hp => nomatch hp
    dsimp only
    walk_at "walkc"
    exact hret _ _ _ _ (by k_asm) (by k_asm) (by assumption)
end
end
end Mine
theorem PySem.Challenge.cw_bt5023_01_holds : PySem.Challenge.rw_bt5023_01.Holds := by
  refine Mine.hd ?_
  w_strict (k_go0; (all_goals try k_fold); k_steps)
  have q0 := ‹_ ∧ _ ∧ (294 : Nat) ≠ _›
  refine' Mine.iter_made ?hh ?hlm ?hlc ?hld ?hi ?F ?N ?hj ?h0 ?hl4 ?hl1 ?turn ?done
  case hh => exact rfl
  case N => assumption
  case hlm => exact List.mem_cons_self
  case hlc => exact rfl
  case hld => exact ⟨_, rfl⟩
  case hi => assumption
  case F => assumption
  case hj => exact ⟨_, _, by k_mem, by k_mem, .inl rfl, .inl rfl⟩
  case h0 => exact (‹News _ _ _ (_ :: _)› _ List.mem_cons_self).2.2
  case hl4 => exact Ne.symm q0.2.2
  case hl1 => exact Ne.symm q0.2.1
  case turn =>
    intro n t m₁ l₁ h tk own hn F1 N1 J1 o4 o1
    obtain ⟨k, _, rfl⟩ := List.mem_map.mp hn
    exact Mine.law_turn (A₀ := callerA) rfl (by assumption) (by assumption) (by assumption) (by assumption) (by assumption) (by decide) (by rw [cLine_is]; decide) F1 N1 J1 o4 o1 (Mine.fm9 _).1 (Mine.fm9 _).2
  case done =>
    intro m₁ l₁ h tk F1 N1 J1
    refine Mine.law_rest (A₀ := callerA) (by assumption) (by assumption) (by assumption) (by assumption) (by assumption) (by decide) (by rw [cLine_is]; decide) F1 N1 J1 (by passes_own) ?_
    intro h' tk' m' l' F2 N2 J2
    obtain ⟨pt, ps, y1, y2, _⟩ := J2
    refine ⟨?_, ⟨_, (N2 _ y2).1⟩, ⟨_, (N2 _ y1).1⟩, trivial⟩
    k_steps
