import PyProof.Rows.All
import Wide.All
import OpenK.AllK
import Wide.FinOn
import PySem.Challenge.RW_pe0009_01
set_option Elab.async false
namespace Mine
open PySem PySem.W PyProof.Rows
set_option maxRecDepth 100000
set_option maxHeartbeats 8000000
open_top hd for PySem.Challenge.rw_pe0009_01
end Mine
namespace Mine
set_option maxRecDepth 100000
open PySem PySem.W PySem.Calls PyProof.Rows

/-- what a call of one of the text's defs, handed `args` where the ledger is `led`, gives back:
    a value and the objects it has made, as `post` says -/
def Tell (w : World) (d : Nat) (f : Addr) (args : List Value) (led : List (Addr × Obj)) (post : Value → List (Addr × Obj) → Prop) : Prop :=
  ∀ (mean : ExcName → Option Value) (mg mb : Str → Option Value) (dp un : Nat) (gd : Option (List Code)) (cn : Str) (cs : Scope) (a : Addr) (ccd : Value) (cl : List (Str × Addr)) (outer : List Env) (A₀ : Around) (base h₀ : Heap) (L : Addr) (m : Str → Option Value) (s : Shared) (Q E : Value → Shared → Prop),
    Below A₀ base outer h₀ → Fr h₀ L s.heap m → (hd.heap_39 w.params).In h₀ → News h₀ L s.heap led → Top hd.view_39 (looseW hd.view_39 [Str.ofString "COMPILER_FLAG_NAMES"]) mean mg mb h₀ → cs.kind = .function →
    dp + d < recursionLimit → un + 100 * d < cLine →
    (∀ v made h' tk', post v made → (∀ p ∈ led, ∀ q ∈ made, p.1 < q.1) → Fr h₀ L h' m → News h₀ L h' (made ++ led) → Q v { s with heap := h', toks := tk' }) →
    wpAny (model Challenge.rw_pe0009_01.row.prog w) (ktrTop dp un gd cn cs L a ccd cl outer) (call (.ref f) args) Q E s
theorem Tell.use {w : World} {d : Nat} {f : Addr} {args : List Value} {led : List (Addr × Obj)} {post : Value → List (Addr × Obj) → Prop} (C : Tell w d f args led post)
    {mean : ExcName → Option Value} {mg mb : Str → Option Value} {dp un : Nat} {gd : Option (List Code)} {cn : Str} {cs : Scope} {a : Addr} {ccd : Value} {cl : List (Str × Addr)} {outer : List Env} {A₀ : Around} {base h₀ : Heap} {L : Addr} {m : Str → Option Value} {s : Shared} {Q E : Value → Shared → Prop}
    (B : Below A₀ base outer h₀) (F : Fr h₀ L s.heap m) (X : (hd.heap_39 w.params).In h₀) (N : News h₀ L s.heap led) (T : Top hd.view_39 (looseW hd.view_39 [Str.ofString "COMPILER_FLAG_NAMES"]) mean mg mb h₀) (hk : cs.kind = .function)
    (hdp : dp + d < recursionLimit) (hun : un + 100 * d < cLine)
    (ret : ∀ v made h' tk', post v made → (∀ p ∈ led, ∀ q ∈ made, p.1 < q.1) → Fr h₀ L h' m → News h₀ L h' (made ++ led) → Q v { s with heap := h', toks := tk' }) :
    wpAny (model Challenge.rw_pe0009_01.row.prog w) (ktrTop dp un gd cn cs L a ccd cl outer) (call (.ref f) args) Q E s :=
  C mean mg mb dp un gd cn cs a ccd cl outer A₀ base h₀ L m s Q E B F X N T hk hdp hun ret
theorem news_sub {h₀ : Heap} {L : Addr} {h : Heap} {l l' : List (Addr × Obj)} (N : News h₀ L h l) (hs : ∀ p ∈ l', p ∈ l) : News h₀ L h l' := fun p hp => N p (hs p hp)
theorem made_one {led : List (Addr × Obj)} {l : Addr} {o : Obj} (h : ∀ p ∈ led, p.1 < l) : ∀ p ∈ led, ∀ q ∈ [(l, o)], p.1 < q.1 := fun p hp q hq => by
  rw [List.mem_singleton.mp hq]; exact h p hp
theorem made_nil {led : List (Addr × Obj)} : ∀ p ∈ led, ∀ q ∈ ([] : List (Addr × Obj)), p.1 < q.1 := fun _ _ _ h => nomatch h
end Mine
namespace Mine
set_option maxRecDepth 100000
set_option maxHeartbeats 8000000
open PySem PySem.W PySem.Calls PyProof.Rows
def wordNames : List Str := [Str.ofString "OPTIMIZED", Str.ofString "NEWLOCALS", Str.ofString "VARARGS", Str.ofString "VARKEYWORDS",
          Str.ofString "NESTED", Str.ofString "GENERATOR", Str.ofString "NOFREE", Str.ofString "COROUTINE",
          Str.ofString "ITERABLE_COROUTINE", Str.ofString "ASYNC_GENERATOR"]
def word (b : Int) : Str := if b < 10 then wordNames.getD b.toNat Str.empty else Str.ofString "0x" ++ Txt.item (Str.ofString "1248") (b.fmod 4) ++ Txt.mul (Str.ofString "0") (b.fdiv 4)
theorem word_lo {b : Int} (h : b < 10) : word b = wordNames.getD b.toNat Str.empty := if_pos h
theorem word_hi {b : Int} (h : ¬ b < 10) : word b = Str.ofString "0x" ++ Txt.item (Str.ofString "1248") (b.fmod 4) ++ Txt.mul (Str.ofString "0") (b.fdiv 4) := if_neg h
theorem word_tells (w : World) (led) (b : Int) (t : Tok) (h0 : 0 ≤ b) (h1 : b < 33) :
    Tell w 2 43 [.int b t] led (fun v made => made = [] ∧ ∃ tk, v = .str (word b) tk) := by
  unfold Tell
  k_fill
  w_top off
  intro mean mg mb dp un gd cn cs a ccd cl outer A₀ base h₀ L m s Q E B F X N T hk hd hu hret
  have q1 : 0 ≤ b.fdiv 4 := by rw [Int.fdiv_eq_ediv_of_nonneg _ (by decide)]; omega
  have q2 : b.fdiv 4 ≤ 8 := by rw [Int.fdiv_eq_ediv_of_nonneg _ (by decide)]; omega
  refine wpAny_call ?_
  k_dflt cell_enter
  k_steps
  · exact hret _ [] _ _ ⟨rfl, by rw [word_lo (by assumption)]; exact ⟨_, rfl⟩⟩ (fun _ _ _ h => nomatch h) (by assumption) (news_sub (by assumption) (fun p hp => List.Mem.tail _ hp))
  · exact hret _ [] _ _ ⟨rfl, by rw [word_hi (by assumption)]; exact ⟨_, rfl⟩⟩ (fun _ _ _ h => nomatch h) (by assumption) (news_sub (by assumption) (fun p hp => List.Mem.tail _ hp))
end Mine
namespace Mine
set_option maxRecDepth 100000
set_option maxHeartbeats 8000000
open PySem PySem.W PySem.Calls PyProof.Rows
def prodL (ns : List Int) : Int := ns.foldl (fun a b => a * b) 1
theorem prodL_add (pre : List Int) (n : Int) : prodL (pre ++ [n]) = prodL pre * n := by simp [prodL]
theorem product_tells (w : World) (led) (l : Addr) (vs : List Value) (ns : List Int) (n : Nat) (hi : IntsAre vs ns) (hb : ∀ v ∈ ns, 0 ≤ v ∧ v < 1073741824) :
    Tell w 2 76 [.ref l] ((l, listOf vs.toArray n) :: led) (fun v made => made = [] ∧ ∃ tk, v = .int (prodL ns) tk) := by
  unfold Tell
  k_fill
  w_top off
  intro mean mg mb dp un gd cn cs a ccd cl outer A₀ base h₀ L m s Q E B F X N T hk hd hu hret
  have hMk : KstMark := kstMark
  refine wpAny_call ?_
  k_dflt cell_enter
  k_with_none
  k_with "pyIter ref" => k_state (fun pre made => made = prodL pre) "made"
  k_with "state" => first | rfl | (rw [prodL_add]; simp_all)
  k_with "inplaceOp Mult int int" => (have hb9 := hb _ kMem; refine imul_int ?_ (IntMulOk.of_right (PySem.intBits_le_64 (by omega) (by omega))))
  k_steps
  all_goals exact hret _ [] _ _ ⟨rfl, by subst_vars; exact ⟨_, rfl⟩⟩ (fun _ _ _ h => nomatch h) (by assumption) (by assumption)
end Mine
namespace Mine
set_option maxRecDepth 100000
set_option maxHeartbeats 8000000
open PySem PySem.W PySem.Calls PyProof.Rows
@[irreducible] def cutStep (whole mask : Int) (c : List Int × Int) (k : Int) : List Int × Int :=
  if k = 4 ∨ (mask.fdiv (2 ^ k.toNat)).fmod 2 = 0 then (c.1 ++ [(whole.fdiv (64 ^ (4 - k).toNat)).fmod (64 ^ c.2.toNat)], 1) else (c.1, c.2 + 1)
@[irreducible] def cutAt (whole mask : Int) (ks : List Int) : List Int × Int := ks.foldl (cutStep whole mask) ([], 1)
theorem pow64_ne (k : Nat) : (64 : Int) ^ k ≠ 0 := Int.pow_ne_zero (by decide)
theorem pow64_lt {k : Nat} (h : k ≤ 4) : ((64 : Int) ^ k).natAbs < 1073741824 := by
  have : k = 0 ∨ k = 1 ∨ k = 2 ∨ k = 3 ∨ k = 4 := by omega
  rcases this with rfl | rfl | rfl | rfl | rfl <;> decide
theorem cut_add (w m : Int) (pre : List Int) (k : Int) : cutAt w m (pre ++ [k]) = cutStep w m (cutAt w m pre) k := by
  unfold cutAt; simp
theorem cut_stop {w m : Int} {pre row : List Int} {size k : Int} (e : (row, size) = cutAt w m pre) (h : k = 4 ∨ (m.fdiv (2 ^ k.toNat)).fmod 2 = 0) (h1 : row.length ≤ pre.length) :
    (row ++ [(w.fdiv (64 ^ (4 - k).toNat)).fmod (64 ^ size.toNat)], (1 : Int)) = cutAt w m (pre ++ [k]) ∧ (1 : Int) ≤ 1 ∧ (1 : Int) ≤ 1 + ((pre ++ [k]).length : Int) ∧ (row ++ [(w.fdiv (64 ^ (4 - k).toNat)).fmod (64 ^ size.toNat)]).length ≤ (pre ++ [k]).length := by
  refine ⟨?_, Int.le_refl _, ?_, ?_⟩
  · rw [cut_add, ← e]; unfold cutStep; rw [if_pos h]
  · rw [List.length_append]; omega
  · rw [List.length_append, List.length_append]; simp; exact h1
theorem cut_on {w m : Int} {pre row : List Int} {size k : Int} (e : (row, size) = cutAt w m pre) (h4 : k ≠ 4) (h : (m.fdiv (2 ^ k.toNat)).fmod 2 ≠ 0) (h1 : row.length ≤ pre.length) (h2 : 1 ≤ size) (h3 : size ≤ 1 + pre.length) :
    (row, size + 1) = cutAt w m (pre ++ [k]) ∧ (1 : Int) ≤ size + 1 ∧ size + 1 ≤ 1 + ((pre ++ [k]).length : Int) ∧ row.length ≤ (pre ++ [k]).length := by
  refine ⟨?_, ?_, ?_, ?_⟩
  · rw [cut_add, ← e]; unfold cutStep; rw [if_neg (fun q => q.elim h4 h)]
  · omega
  · rw [List.length_append]; simp; omega
  · rw [List.length_append]; simp; omega
theorem cut_tells (w : World) (led) (N0 mask : Int) (tn tm : Tok) 
   (h0 : 0 ≤ N0 ∧ N0 < 1073741824) (h1 : 0 ≤ mask ∧ mask < 16) :
    Tell w 2 64 [.int N0 tn, .int mask tm] led (fun v made => ∃ l vs n, v = .ref l ∧ made = [(l, listOf vs.toArray n)] ∧ IntsAre vs (cutAt N0 mask [0, 1, 2, 3, 4]).1) := by
  unfold Tell
  k_fill
  w_top off
  intro mean mg mb dp un gd cn cs a ccd cl outer A₀ base h₀ L m s Q E B F X N T hk hd hu hret
  have hMk : KstMark := kstMark
  have hnil : IntsAre ([] : List Value) ([] : List Int) := .nil
  refine wpAny_call ?_
  k_dflt cell_enter
  k_with_none
  k_with "pyIter ref" => k_state_short (fun pre row size => (row, size) = cutAt N0 mask pre ∧ 1 ≤ size ∧ size ≤ 1 + pre.length ∧ row.length ≤ pre.length) "row" "size"
  k_with "state" => first | (unfold cutAt; simp; done) | exact cut_stop (by assumption) (Or.inl (by assumption)) (by assumption) | exact cut_stop (by assumption) (Or.inr (by assumption)) (by assumption) | exact cut_on (by assumption) (by assumption) (by assumption) (by assumption) (by assumption) (by assumption) | fail "mine"
  k_with "binaryOp FloorDiv int int" => refine floordiv_int (pow64_ne _) ?_ (Or.inl (PyProof.noPylong_small (pow64_lt (by omega))))
  k_with "binaryOp Mod int int" => refine mod_int' (pow64_ne _) ?_
  k_steps
  · (rename (_, _) = cutAt _ _ _ => e)
    refine hret _ [_] _ _ ⟨_, _, _, rfl, rfl, ?_⟩ (made_one (by assumption)) (by assumption) (by assumption)
    have e2 : (cutAt N0 mask [0, 1, 2, 3, 4]).1 = _ := (congrArg Prod.fst e).symm
    rw [e2]; exact kFacts
end Mine
namespace Mine
set_option maxRecDepth 100000
set_option maxHeartbeats 8000000
open PySem PySem.W PySem.Calls PyProof.Rows
def walkStep (sg : Int) (c : Int × Int) (d : Int) : Int × Int := (64 * c.1 + sg * d * c.2, c.2 + (64 * c.1 + sg * d * c.2))
@[irreducible] def walkAt (sg : Int) (ds : List Int) : Int × Int := ds.foldl (walkStep sg) (0, 1)
theorem walk_add (sg : Int) (pre : List Int) (d : Int) : walkAt sg (pre ++ [d]) = walkStep sg (walkAt sg pre) d := by
  unfold walkAt; simp
theorem walk_on {sg : Int} {pre : List Int} {d a b : Int} (e : (a, b) = walkAt sg pre) : (64 * a + sg * d * b, b + (64 * a + sg * d * b)) = walkAt sg (pre ++ [d]) := by
  rw [walk_add, ← e]; rfl
theorem sgd_ok {sg d b : Int} (hs : sg = 1 ∨ sg = -1) (h : 0 ≤ d ∧ d < 64) : IntMulOk (sg * d) b := by
  refine IntMulOk.of_left (PySem.intBits_le_64 ?_ ?_) <;> rcases hs with rfl | rfl <;> omega
theorem walk_tells (w : World) (led) (l : Addr) (vs : List Value) (ds : List Int) (n : Nat) (sg : Int) (tsg : Tok) (hi : IntsAre vs ds) (hb : ∀ v ∈ ds, 0 ≤ v ∧ v < 64) (hs : sg = 1 ∨ sg = -1) :
    Tell w 2 83 [.ref l, .int sg tsg] ((l, listOf vs.toArray n) :: led) (fun v made => made = [] ∧ ∃ tk, v = .int (walkAt sg ds).1 tk) := by
  unfold Tell
  k_fill
  w_top off
  intro mean mg mb dp un gd cn cs a ccd cl outer A₀ base h₀ L m s Q E B F X N T hk hd hu hret
  have hMk : KstMark := kstMark
  have hnil : IntsAre ([] : List Value) ([] : List Int) := .nil
  refine wpAny_call ?_
  k_dflt cell_enter
  k_with_none
  k_with "pyIter ref" => k_state (fun pre last sums => (last, sums) = walkAt sg pre) "last" "sums"
  k_with "state" => first | (unfold walkAt; rfl) | exact walk_on (by assumption)
  k_with "binaryOp Mult int int" => (refine mul_int ?_ (sgd_ok hs (hb _ kMem)))
  k_steps
  · refine hret _ [] _ _ ⟨rfl, ?_⟩ made_nil (by assumption) (by assumption)
    rw [← kInv]; exact ⟨_, rfl⟩
end Mine
namespace Mine
set_option maxRecDepth 100000
set_option maxHeartbeats 8000000
open PySem PySem.W PySem.Calls PyProof.Rows
def octOf (n : Int) (j : Bool) : Int := n.fmod 64 + (if j then 64 else 0) + (n.fdiv 64).fmod 2 * 128
theorem oct_yes {n k : Int} {q : Bool} (h : k < 4) (hq : q = true) : n.fmod 64 + 64 + (n.fdiv 64).fmod 2 * 128 = octOf n (decide (k < 4) && q) := by
  subst hq; simp [octOf, h]
theorem oct_no {n k : Int} {q : Bool} (hq : q = false) : n.fmod 64 + 0 + (n.fdiv 64).fmod 2 * 128 = octOf n (decide (k < 4) && q) := by
  subst hq; simp [octOf]
theorem oct_last {n k : Int} {q : Bool} (h : ¬ k < 4) : n.fmod 64 + 0 + (n.fdiv 64).fmod 2 * 128 = octOf n (decide (k < 4) && q) := by
  simp [octOf, h]
theorem map_step {f : Int → Int} {pre row : List Int} {k v : Int} (e : row = pre.map f) (hl : row.length = pre.length) (hv : v = f k) : row ++ [v] = (pre ++ [k]).map f ∧ (row ++ [v]).length = (pre ++ [k]).length := by
  subst e hv; simp
def isIn (xs : List Str) (b : Int) : Bool := xs.any fun x => x == word b
theorem octets_tells (w : World) (led) (ln lw : Addr) (n0 n1 n2 n3 n4 n5 sh : Int) (t0 t1 t2 t3 t4 t5 ts : Tok) (n n' : Nat) (ws : List Value) (xs : List Str) (hw : StrsAre ws xs)
   (h0 : 0 ≤ n0 ∧ n0 < 1073741824) (h1 : 0 ≤ n1 ∧ n1 < 1073741824) (h2 : 0 ≤ n2 ∧ n2 < 1073741824) (h3 : 0 ≤ n3 ∧ n3 < 1073741824) (h4 : 0 ≤ n4 ∧ n4 < 1073741824) (hsh : 0 ≤ sh ∧ sh < 30) :
    Tell w 4 50 [.ref ln, .ref lw, .int sh ts] ((ln, listOf #[.int n0 t0, .int n1 t1, .int n2 t2, .int n3 t3, .int n4 t4, .int n5 t5] n) :: (lw, listOf ws.toArray n') :: led)
      (fun v made => ∃ l vs k, v = .ref l ∧ made = [(l, listOf vs.toArray k)] ∧ IntsAre vs [octOf n0 (isIn xs (sh + 0)), octOf n1 (isIn xs (sh + 1)), octOf n2 (isIn xs (sh + 2)), octOf n3 (isIn xs (sh + 3)), octOf n4 false]) := by
  unfold Tell
  k_fill
  w_top off
  intro mean mg mb dp un gd cn cs a ccd cl outer A₀ base h₀ L m s Q E B F X N T hk hd hu hret
  have hMk : KstMark := kstMark
  have hnil : IntsAre ([] : List Value) ([] : List Int) := .nil
  refine wpAny_call ?_
  k_dflt cell_enter
  k_with_none
  k_with "pyIter ref" => k_state_short (fun pre octets => octets = pre.map (fun k => octOf ([n0, n1, n2, n3, n4, n5].getD k.toNat 0) (decide (k < 4) && (xs.any fun x => x == word (sh + k)))) ∧ octets.length = pre.length) "octets"
  k_with "state" => first | exact ⟨rfl, rfl⟩ | exact map_step (by assumption) (by assumption) (oct_yes (by assumption) (by assumption)) | exact map_step (by assumption) (by assumption) (oct_no (by assumption)) | exact map_step (by assumption) (by assumption) (oct_last (by assumption))
  k_with "call ref" => (k_dflt (refine' (word_tells _ _ _ _ ?p1 ?p2).use ?k1 ?k2 ?k3 ?k4 ?k5 ?kK ?kd ?ku ?_); (case p1 => omega); (case p2 => omega); (case k1 => k_asm); (case k2 => k_asm); (case k3 => k_asm); (case k4 => k_asm); (case k5 => k_asm); (case kK => first | exact rfl | assumption); (case kd => ktr_room); (case ku => ktr_units); rintro v9 made9 h9 tk9 ⟨rfl, t9, rfl⟩ lt9 F9 N9; simp only [List.nil_append] at N9; (try k_fold))
  k_steps
  · (rename _ = List.map _ _ => e)
    refine hret _ [_] _ _ ⟨_, _, _, rfl, rfl, ?_⟩ (made_one (kst_ltOf (by assumption))) (by assumption) (by assumption)
    rw [e] at kFacts; exact kFacts
end Mine
namespace Mine
set_option maxRecDepth 100000
open PySem PySem.W PySem.Calls PyProof.Rows
/-- an object that is a list of `vs` -/
def ListObj (o : Obj) (vs : List Value) : Prop := o.cls = .type "list" ∧ ∃ n, o.data = .seq vs.toArray n
theorem ListObj.isList {h : Heap} {D : Addr} {o : Obj} {vs : List Value} (q : ListObj o vs) (e : h.get? D = some o) : h.IsList D vs.toArray := ⟨o, e, q.1, q.2⟩
theorem ListObj.inNews {h₀ h : Heap} {L D : Addr} {news : List (Addr × Obj)} {o : Obj} {vs : List Value} (q : ListObj o vs) (N : News h₀ L h news) (hm : (D, o) ∈ news) : h.IsList D vs.toArray := q.isList (N _ hm).1
theorem list_enters {h₀ h : Heap} {L D : Addr} {m : Str → Option Value} {news : List (Addr × Obj)} {vs : List Value} (hn : h₀.get? D = none) (hl : h.IsList D vs.toArray) (F : Fr h₀ L h m) (N : News h₀ L h news) :
    ∃ o : Obj, ListObj o vs ∧ News h₀ L h ((D, o) :: news) := by
  obtain ⟨o, ho, hc, n, hd⟩ := hl
  refine ⟨o, ⟨hc, n, hd⟩, fun p hp => ?_⟩
  rcases List.mem_cons.mp hp with rfl | hp
  · refine ⟨ho, fun e => ?_, hn⟩
    obtain ⟨oL, es, ep, hL, hLd, _⟩ := F.ns
    have e' : D = L := e
    rw [e', hL] at ho
    cases ho
    rw [hLd] at hd
    cases hd
  · exact N p hp
end Mine
namespace Mine
set_option maxRecDepth 100000
set_option maxHeartbeats 8000000
theorem frMap {h₀ h : PySem.Heap} {L : PySem.Addr} {m : PySem.Str → Option PySem.Value} (_F : PyProof.Rows.Fr h₀ L h m) : ∃ m', m' = m := ⟨m, rfl⟩
open PySem PySem.W PySem.Calls PyProof.Rows
local macro_rules | `(tactic| walk_at "eval List") => `(tactic| (k_here; (rename Heap.get? _ _ = none => hnX); (obtain ⟨oX, lX, NX⟩ := list_enters hnX (by assumption) (by assumption) (by assumption)); clear hnX; walk_at "eval List"))
local macro_rules | `(tactic| walk_at "compareOp Eq ref ref") => `(tactic| (k_here; (rename ListObj _ _ => lX); (rename News _ _ _ _ => NX); (refine eq_intsK (ListObj.inNews lX NX (by k_mem)) (CarriedAll.intsOf (by assumption)) (News.isList NX (by k_mem)) IntsAre.nil (by ktr_units) ?_); (replace NX := news_sub NX (fun _ hp => List.Mem.tail _ (List.Mem.tail _ hp)))))
local macro_rules | `(tactic| walk_at "compareOp NotEq ref ref") => `(tactic| (k_here; (rename ListObj _ _ => lX); (rename News _ _ _ _ => NX); (refine ne_intsK (ListObj.inNews lX NX (by k_mem)) (CarriedAll.intsOf (by assumption)) (News.isList NX (by k_mem)) IntsAre.nil (by ktr_units) ?_); (replace NX := news_sub NX (fun _ hp => List.Mem.tail _ (List.Mem.tail _ hp)))))
local macro_rules | `(tactic| walk_at "exec While Compare cons nil") => `(tactic| k_extra "while")
def WideAt (ns : List Int) (wd : Int) : Prop := wd = 3 ∨ ∃ v ∈ ns, 10 ^ (wd.toNat - 1) ≤ v
theorem nofil {p : Int → Bool} {ns : List Int} (h : decide (List.map (fun a : Int => a) (List.filter p ns) = []) = true) : ∀ v ∈ ns, p v = false := by
  have h := of_decide_eq_true h
  rw [List.map_id'', List.filter_eq_nil_iff] at h
  · exact fun v hv => by simpa using h v hv
  · intro _; rfl
theorem somefil {p : Int → Bool} {ns : List Int} (h : decide (List.map (fun a : Int => a) (List.filter p ns) = []) = false) : ∃ v ∈ ns, p v = true := by
  have h := of_decide_eq_false h
  rw [List.map_id''] at h
  · obtain ⟨v, hv⟩ := List.exists_mem_of_ne_nil _ h
    exact ⟨v, (List.mem_filter.mp hv).1, (List.mem_filter.mp hv).2⟩
  · intro _; rfl
theorem pow10_small {k : Nat} {v : Int} (h : 10 ^ k ≤ v) (hv : v < 1073741824) : k ≤ 9 := by
  by_cases hk : k ≤ 9
  · exact hk
  · exfalso
    have h1 : (10 : Nat) ^ 10 ≤ 10 ^ k := Nat.pow_le_pow_right (by decide) (by omega)
    have h2 : (10 : Nat) ^ 10 = 10000000000 := by decide
    have h3 : (10 : Int) ^ k = ((10 ^ k : Nat) : Int) := by simp
    rw [h3] at h
    rw [h2] at h1
    omega
theorem wide_on {ns : List Int} {wd : Int} (hb : ∀ v ∈ ns, 0 ≤ v ∧ v < 1073741824) (b1 : 3 ≤ wd) (h : decide (List.map (fun a : Int => a) (List.filter (fun a => decide (10 ^ wd.toNat ≤ a)) ns) = []) = false) : wd ≤ 9 ∧ WideAt ns (wd + 1) := by
  obtain ⟨v, hv, hp⟩ := somefil h
  have hp := of_decide_eq_true hp
  have := pow10_small hp (hb v hv).2
  refine ⟨by omega, Or.inr ⟨v, hv, ?_⟩⟩
  have e : (wd + 1).toNat - 1 = wd.toNat := by omega
  rw [e]; exact hp
/-- what the width of a row is, with or without a place without a line -/
def WidthIs (ns : List Int) (blank : Bool) (x : Int) : Prop :=
  ((∀ v ∈ ns, v = 0) ∧ x = 0) ∨ ((∃ v ∈ ns, v ≠ 0) ∧ ∃ wd : Int, 3 ≤ wd ∧ (∀ v ∈ ns, v < 10 ^ wd.toNat) ∧ WideAt ns wd ∧ x = if blank = true ∧ wd = 3 then 4 else wd)
theorem width_zero {ns : List Int} {blank : Bool} (h : decide (List.map (fun a : Int => a) (List.filter (fun a => a != 0) ns) = []) = true) : WidthIs ns blank 0 :=
  Or.inl ⟨fun v hv => by simpa using nofil h v hv, rfl⟩
theorem width_at {ns : List Int} {blank : Bool} {wd x : Int} (h0 : decide (List.map (fun a : Int => a) (List.filter (fun a => a != 0) ns) = []) = false) (b1 : 3 ≤ wd) (b3 : WideAt ns wd)
    (h : decide (List.map (fun a : Int => a) (List.filter (fun a => decide (10 ^ wd.toNat ≤ a)) ns) = []) = true) (hx : x = if blank = true ∧ wd = 3 then 4 else wd) : WidthIs ns blank x := by
  refine Or.inr ⟨?_, wd, b1, ?_, b3, hx⟩
  · obtain ⟨v, hv, hp⟩ := somefil h0
    exact ⟨v, hv, by simpa using hp⟩
  · intro v hv
    have := of_decide_eq_false (nofil h v hv)
    omega
theorem width_tells (w : World) (led) (l : Addr) (vs : List Value) (ns : List Int) (n : Nat) (blank : Bool) (hi : IntsAre vs ns) (hb : ∀ v ∈ ns, 0 ≤ v ∧ v < 1073741824) (hl : ns.length ≤ 5) :
    Tell w 2 69 [.ref l, .bool blank] ((l, listOf vs.toArray n) :: led) (fun v made => made = [] ∧ ∃ x tk, v = .int x tk ∧ WidthIs ns blank x) := by
  unfold Tell
  k_fill
  w_top off
  intro mean mg mb dp un gd cn cs a ccd cl outer A₀ base h₀ L m s Q E B F X N T hk hd hu hret
  have hMk : KstMark := kstMark
  have hnil : IntsAre ([] : List Value) ([] : List Int) := .nil
  refine wpAny_call ?_
  k_dflt (refine' code_defC ?k1 ?k2 ?k3 ?k4 ?k5 ?kA ?kF ?kK ?k6 ?k7 ?k8 ?k9 ?kB ?kD ?_ ?c2 ?c3 ?c4; (case kA => exact rfl); (case kF => exact rfl); (case kK => assumption); (case k1 => k_asm); (case k2 => k_asm); (case k3 => k_asm); (case k4 => k_asm); (case k5 => k_asm); (case k6 => k_is); (case k7 => k_is); (case k8 => ktr_room); (case k9 => exact BindsTo.of_eq rfl); (case kB => exact rfl); (case kD => decide +kernel); (case c2 => exact rfl); (case c3 => exact rfl); (case c4 => exact rfl); intro g' L' h' tk' cells' FG' F' N' Y' B' X' T' l1; (have l2 := fun p hp => Nat.lt_succ_of_lt (l1 p hp)); (try k_lt l1); (try k_lt l2); k_cells Y'; (try simp only [List.cons_append, List.nil_append] at N'); (try dsimp only); (try k_lift B'); (try k_fold))
  k_with_none
  k_with "while" => ((rename Fr _ _ _ _ => wF); (rename News _ _ _ _ => wN); (rename Obj.data _ = Data.cell _ => wD); (obtain ⟨mW, hmW⟩ := frMap wF); (rw [← hmW] at wF); (refine While_inv (fun k m₁ nx => ∃ (o1 : Obj) (wd : Int) (tk : Tok), k = (10 - wd).toNat ∧ m₁ = mW ∧ nx = (L' + 1, o1) :: (l, listOf vs.toArray n) :: led ∧ o1.data = Data.cell (some (.int wd tk)) ∧ 3 ≤ wd ∧ wd ≤ 10 ∧ WideAt ns wd) wF wN ⟨_, 3, _, rfl, rfl, rfl, wD, by omega, by omega, Or.inl rfl⟩ ?_); rintro k m₁ nx h₁ tk₁ F₁ N₁ ⟨o1, wd, tkw, rfl, rfl, rfl, d1, b1, b2, b3⟩; subst hmW; clear wF wN wD)
  k_steps
  all_goals try k_data
  · exact hret _ [] _ _ ⟨rfl, _, _, rfl, width_zero (by assumption)⟩ made_nil (by assumption) (news_sub (by assumption) (fun _ hp => List.Mem.tail _ hp))
  · exact hret _ [] _ _ ⟨rfl, _, _, rfl, width_at (by assumption) b1 b3 (by assumption) (by simp_all)⟩ made_nil (by assumption) (news_sub (by assumption) (fun _ hp => List.Mem.tail _ hp))
  · exact hret _ [] _ _ ⟨rfl, _, _, rfl, width_at (by assumption) b1 b3 (by assumption) (by simp_all)⟩ made_nil (by assumption) (news_sub (by assumption) (fun _ hp => List.Mem.tail _ hp))
  · exact hret _ [] _ _ ⟨rfl, _, _, rfl, width_at (by assumption) b1 b3 (by assumption) (by simp_all)⟩ made_nil (by assumption) (news_sub (by assumption) (fun _ hp => List.Mem.tail _ hp))
  · have q := wide_on hb b1 (by assumption)
    exact WhileStep.intro (n' := (10 - (wd + 1)).toNat) (by assumption) (by assumption) (by omega) ⟨_, wd + 1, _, rfl, rfl, rfl, (by assumption), by omega, by omega, q.2⟩
end Mine
namespace Mine
set_option maxRecDepth 100000
open PySem PySem.W PySem.Calls PyProof.Rows

theorem newsHead {h₀ h : Heap} {L l : Addr} {o : Obj} {led : List (Addr × Obj)} (_N : News h₀ L h ((l, o) :: led)) : ∃ l', l' = l := ⟨l, rfl⟩
/-- where a turn of a range loop ends -/
def RangeTurn (h₀ : Heap) (L I : Addr) (o : Obj) (J : (Str → Option Value) → List (Addr × Obj) → Prop) (s : Shared) (s₃ : Shared) : Prop :=
  ∃ h' tk m' news', s₃ = { s with heap := h', toks := tk } ∧ Fr h₀ L h' m' ∧ News h₀ L h' ((I, o) :: news') ∧ (∀ p ∈ news', p.1 ≠ I) ∧ J m' news'
def RangePost (h₀ : Heap) (L I : Addr) (o : Obj) (J : (Str → Option Value) → List (Addr × Obj) → Prop) (s : Shared) (Q : Flow → Shared → Prop) (f : Flow) (s₃ : Shared) : Prop :=
  match f with
  | .ret v => Q (.ret v) s₃
  | .brk => Q .next s₃
  | _ => RangeTurn h₀ L I o J s s₃
theorem RangeTurn.intro {h₀ h' : Heap} {L I : Addr} {o : Obj} {J : (Str → Option Value) → List (Addr × Obj) → Prop} {s : Shared} {tk : Nat} {m' : Str → Option Value} {news' all : List (Addr × Obj)}
    (F : Fr h₀ L h' m') (N : News h₀ L h' all) (hs : ∀ p ∈ (I, o) :: news', p ∈ all) (off : ∀ p ∈ news', p.1 ≠ I) (j : J m' news') : RangeTurn h₀ L I o J s { s with heap := h', toks := tk } :=
  ⟨h', tk, m', news', rfl, F, fun p hp => N p (hs p hp), off, j⟩
def RangeInv (h₀ : Heap) (L I : Addr) (a₀ : Int) (n : Nat) (J : Nat → (Str → Option Value) → List (Addr × Obj) → Prop) (s : Shared) (k : Nat) (s' : Shared) : Prop :=
  ∃ i h tk m₁ news₁, k = n + 1 - i ∧ i ≤ n ∧ s' = { s with heap := h, toks := tk } ∧ IsRangeIter h I (a₀ + (i : Int)) ((n : Int) - (i : Int)) 1 ∧ Fr h₀ L h m₁ ∧ News h₀ L h news₁ ∧ (∀ p ∈ news₁, p.1 ≠ I) ∧ J i m₁ news₁
section
variable {prog : Program} {w : World} {A : Around} {E : Value → Shared → Prop} {s : Shared} {env : Env} {h₀ : Heap} {target : Expr} {body orelse : List Stmt} {Q : Flow → Shared → Prop}
theorem for_range {I : Addr} {n : Nat} {a₀ : Int} {m₀ : Str → Option Value} {news₀ : List (Addr × Obj)} (J : Nat → (Str → Option Value) → List (Addr × Obj) → Prop)
    (hh : A.handled = none) (hst : IsRangeIter s.heap I a₀ n 1) (hL : env.locals ≠ I) (hI : h₀.get? I = none) (F : Fr h₀ env.locals s.heap m₀) (N : News h₀ env.locals s.heap news₀) (off : ∀ p ∈ news₀, p.1 ≠ I) (h0 : J 0 m₀ news₀)
    (turn : ∀ i m₁ news₁ h tk t, i < n → J i m₁ news₁ → (∀ p ∈ news₁, p.1 ≠ I) → Fr h₀ env.locals h m₁ → News h₀ env.locals h ((I, itR (a₀ + i + 1) (n - i - 1)) :: news₁) →
      wpAny (model prog w) A (assign target env (.int (a₀ + i) t)) (fun _ s₂ => wpAny (model prog w) A (execs body env) (RangePost h₀ env.locals I (itR (a₀ + i + 1) (n - i - 1)) (J (i + 1)) { s with heap := h, toks := tk } Q) E s₂) E { s with heap := h, toks := tk })
    (done : ∀ m₁ news₁ h tk, J n m₁ news₁ → Fr h₀ env.locals h m₁ → News h₀ env.locals h news₁ → wpAny (model prog w) A (execs orelse env) Q E { s with heap := h, toks := tk })
    (ht : ∀ v, letOwnedTupleGo target (.ref I) v = pure ()) (hE : PassesOwn (model prog w) A env E) :
    codeAny (model prog w) A (.forLoop target (.ref I) body orelse env) (fun r s' => match r with | .ok f => Q f s' | .error e => cameBackBy (model prog w) A env E e s') s := by
  have keepS : ∀ {h h₁ : Heap} {m₁ : Str → Option Value} {news₁ : List (Addr × Obj)}, (∀ b o, b ≠ I → h.get? b = some o → h₁.get? b = some o) → Fr h₀ env.locals h m₁ → News h₀ env.locals h news₁ → (∀ p ∈ news₁, p.1 ≠ I) →
      Fr h₀ env.locals h₁ m₁ ∧ News h₀ env.locals h₁ news₁ := fun hk F₁ N₁ o₁ =>
    ⟨⟨F₁.ns.at' fun o e => hk _ o hL e, fun b o e => hk b o (fun q => by rw [q, hI] at e; cases e) (F₁.keep b o e), F₁.above⟩, fun p hp => ⟨hk _ _ (o₁ p hp) (N₁ p hp).1, (N₁ p hp).2⟩⟩
  refine codeAny_forLoop (RangeInv h₀ env.locals I a₀ n J s) ?_ (n + 1)
    ⟨0, s.heap, s.toks, m₀, news₀, rfl, Nat.zero_le _, rfl, by simpa using hst, F, N, off, h0⟩ ht
  rintro k s' ⟨i, h, tk, m₁, news₁, rfl, hi, rfl, it, F₁, N₁, o₁, j₁⟩
  by_cases hlt : i < n
  · refine wpAny_pyNext_range_item it (by omega) fun h₁ it₁ hs₁ => ?_
    have hk : ∀ b o, b ≠ I → h.get? b = some o → h₁.get? b = some o := fun b o hb e => (hs₁.2 b hb).trans e
    obtain ⟨F₂, N₂⟩ := keepS hk F₁ N₁ o₁
    have N₃ : News h₀ env.locals h₁ ((I, itR (a₀ + i + 1) (n - i - 1)) :: news₁) := fun p hp => by
      rcases List.mem_cons.mp hp with rfl | hp
      · exact ⟨it₁, fun e => hL e.symm, hI⟩
      · exact N₂ p hp
    refine wpAny_passesOwn hE (wpAny_mono (turn i m₁ news₁ h₁ (tk + 1) tk hlt j₁ o₁ F₂ N₃) (fun _ s₂ h₂ => ?_) fun _ _ e => e)
    refine wpAny_passesOwn hE (wpAny_mono h₂ (fun f s₃ h₃ => ?_) fun _ _ e => e)
    have fin : RangeTurn h₀ env.locals I (itR (a₀ + i + 1) (n - i - 1)) (J (i + 1)) { s with heap := h₁, toks := tk + 1 } s₃ → ∃ k, k < n + 1 - i ∧ RangeInv h₀ env.locals I a₀ n J s k s₃ := by
      rintro ⟨h', tk', m', news', rfl, F', N', o', j'⟩
      have q := (N' _ (.head _)).1
      have e1 : a₀ + i + 1 = a₀ + ((i + 1 : Nat) : Int) := by omega
      have e2 : (n : Int) - i - 1 = n - ((i + 1 : Nat) : Int) := by omega
      rw [e1, e2] at q
      exact ⟨n + 1 - (i + 1), by omega, i + 1, h', tk', m', news', rfl, hlt, rfl, q, F', fun p hp => N' p (.tail _ hp), o', j'⟩
    cases f with
    | ret v => exact h₃
    | brk => exact h₃
    | next => exact fin h₃
    | cont => exact fin h₃
  · have hin : i = n := by omega
    subst hin
    refine wpAny_pyNext_range_end hh it (by omega) fun h₁ he₁ => ?_
    obtain ⟨F₂, N₂⟩ := keepS (fun b o hb e => he₁ b o hb e) F₁ N₁ o₁
    exact wpAny_passesOwn hE (done m₁ news₁ h₁ tk j₁ F₂ N₂)
theorem for_range_iter {r : Addr} {a₀ b₀ : Int} {t₀ u₀ v₀ : Tok} {n : Nat} {m₀ : Str → Option Value} {news₀ : List (Addr × Obj)} (J : Nat → (Str → Option Value) → List (Addr × Obj) → Prop)
    (hh : A.handled = none) (hr : IsRange s.heap r a₀ b₀ 1 t₀ u₀ v₀) (hsmall : Builtin.Range.small a₀ b₀ 1 = true) (hn : Builtin.Range.rangeSize a₀ b₀ 1 = (n : Int)) (F : Fr h₀ env.locals s.heap m₀) (N : News h₀ env.locals s.heap news₀) (h0 : J 0 m₀ news₀)
    (turn : ∀ I i m₁ news₁ h tk t, (∀ p ∈ news₀, p.1 < I) → i < n → J i m₁ news₁ → (∀ p ∈ news₁, p.1 ≠ I) → Fr h₀ env.locals h m₁ → News h₀ env.locals h ((I, itR (a₀ + i + 1) (n - i - 1)) :: news₁) →
      wpAny (model prog w) A (assign target env (.int (a₀ + i) t)) (fun _ s₂ => wpAny (model prog w) A (execs body env) (RangePost h₀ env.locals I (itR (a₀ + i + 1) (n - i - 1)) (J (i + 1)) { s with heap := h, toks := tk } Q) E s₂) E { s with heap := h, toks := tk })
    (done : ∀ m₁ news₁ h tk, J n m₁ news₁ → Fr h₀ env.locals h m₁ → News h₀ env.locals h news₁ → wpAny (model prog w) A (execs orelse env) Q E { s with heap := h, toks := tk })
    (ht : ∀ I v, letOwnedTupleGo target (.ref I) v = pure () := by intro _ _; rfl) (hE : PassesOwn (model prog w) A env E := by passes_own) :
    wpAny (model prog w) A (pyIter (.ref r)) (fun it s₂ => codeAny (model prog w) A (.forLoop target it body orelse env) (fun r s' => match r with | .ok f => Q f s' | .error e => cameBackBy (model prog w) A env E e s') s₂) E s := by
  refine wpAny_pyIter_range hr hsmall ?_
  rw [hn]
  have lt : ∀ p ∈ news₀, p.1 < s.heap.objs.size := fun p hp => Heap.lt_size (N p hp).1
  refine for_range J hh (Heap.get?_push_size _ rfl) (Nat.ne_of_lt F.ns.lt) ?_ (F.push _) (fun p hp => ⟨Heap.get?_push_of_some _ (N p hp).1, (N p hp).2⟩) (fun p hp => Nat.ne_of_lt (lt p hp)) h0 (fun i m₁ news₁ h tk t => turn _ i m₁ news₁ h tk t lt) done (ht _) hE
  cases q : h₀.get? s.heap.objs.size with
  | none => rfl
  | some o => exact absurd (Heap.lt_size (F.keep _ _ q)) (Nat.lt_irrefl _)
end
end Mine
namespace Mine
set_option maxRecDepth 100000
set_option maxHeartbeats 8000000
open PySem PySem.W PySem.Calls PyProof.Rows
theorem unrEndW_intro {h₀ h' : Heap} {L : Addr} {s₁ : Shared} {its news' all : List (Addr × Obj)} {rest : (Str → Option Value) → List (Addr × Obj) → Prop} {tk : Nat} {m' : Str → Option Value} (F : Fr h₀ L h' m') (N : News h₀ L h' all) (hI : ∀ p ∈ its, p ∈ all) (hs : ∀ p ∈ news', p ∈ all)
    (off : ∀ p ∈ news', ∀ q ∈ its, p.1 ≠ q.1) (r : rest m' news') : UnrEndW h₀ L s₁ its rest { s₁ with heap := h', toks := tk } :=
  ⟨h', tk, m', news', rfl, F, fun p hp => (List.mem_append.mp hp).elim (fun q => N p (hI p q)) (fun q => N p (hs p q)), off, r⟩
theorem off_two {led : List (Addr × Obj)} {I : Addr} {a b : Obj} (h : ∀ p ∈ led, p.1 < I) : ∀ p ∈ led, ∀ q ∈ [(I + 1, a), (I, b)], p.1 ≠ q.1 := fun p hp q hq => by
  have := h p hp
  rcases List.mem_cons.mp hq with rfl | hq
  · exact Nat.ne_of_lt (Nat.lt_succ_of_lt this)
  · rw [List.mem_singleton.mp hq]; exact Nat.ne_of_lt this
def upTerm (k d up : Int) : Int := if k + up = 4 then d * 64 ^ up.toNat * 2 ^ (4 - up).toNat else d * 64 ^ up.toNat * 2 ^ (3 - up).toNat
@[irreducible] def sumUp (M k d : Int) (ups : List Int) : Int := ups.foldl (fun a up => a + upTerm k d up) M
theorem sumUp_nil (M k d : Int) : M = sumUp M k d [] := by unfold sumUp; rfl
theorem sumUp_yes {M k d up : Int} {ups : List Int} {a : Int} (e : a = sumUp M k d ups) (h : k + up = 4) : a + d * 64 ^ up.toNat * 2 ^ (4 - up).toNat = sumUp M k d (ups ++ [up]) := by
  subst e; unfold sumUp; simp [upTerm, h]
theorem sumUp_no {M k d up : Int} {ups : List Int} {a : Int} (e : a = sumUp M k d ups) (h : k + up ≠ 4) : a + d * 64 ^ up.toNat * 2 ^ (3 - up).toNat = sumUp M k d (ups ++ [up]) := by
  subst e; unfold sumUp; simp [upTerm, h]
theorem d64_ok {d b : Int} {u : Nat} (h : 0 ≤ d ∧ d < 64) (hu : u ≤ 4) : IntMulOk (d * 64 ^ u) b := by
  have : u = 0 ∨ u = 1 ∨ u = 2 ∨ u = 3 ∨ u = 4 := by omega
  refine IntMulOk.of_left (PySem.intBits_le_64 ?_ ?_) <;> rcases this with rfl | rfl | rfl | rfl | rfl <;> simp only [Int.reducePow] <;> omega

abbrev mMade (M : Int) (tM : Tok) (u : Str → Option Value) : Str → Option Value := fun y => if y = Str.ofString "made" then some (.int M tM) else u y
@[irreducible] def allSum (d0 d1 d2 d3 d4 : Int) : Int := sumUp (sumUp (sumUp (sumUp (sumUp 0 0 d0 (rangeKs 0 (5 - 0 : Int).toNat)) 1 d1 (rangeKs 0 (5 - 1 : Int).toNat)) 2 d2 (rangeKs 0 (5 - 2 : Int).toNat)) 3 d3 (rangeKs 0 (5 - 3 : Int).toNat)) 4 d4 (rangeKs 0 (5 - 4 : Int).toNat)
theorem five {IR : List Itm → (Str → Option Value) → List (Addr × Obj) → Prop} {news₀ : List (Addr × Obj)} {d0 d1 d2 d3 d4 : Int} {t0 t1 t2 t3 t4 tM : Tok} {u : Str → Option Value}
    (h0 : 0 ≤ d0 ∧ d0 < 64) (h1 : 0 ≤ d1 ∧ d1 < 64) (h2 : 0 ≤ d2 ∧ d2 < 64) (h3 : 0 ≤ d3 ∧ d3 < 64) (h4 : 0 ≤ d4 ∧ d4 < 64)
    (T : ∀ (k d M : Int) (td tM : Tok) (u : Str → Option Value) (r : List Itm), 0 ≤ k → k < 5 → 0 ≤ d ∧ d < 64 → (∀ u' tM', IR r (mMade (sumUp M k d (rangeKs 0 (5 - k).toNat)) tM' u') news₀) →
      IR (Itm.pair (fun t => Value.int k t) (.int d td) :: r) (mMade M tM u) news₀)
    (fin : ∀ u' tM', IR [] (mMade (allSum d0 d1 d2 d3 d4) tM' u') news₀) :
    IR [Itm.pair (fun t => Value.int 0 t) (.int d0 t0), Itm.pair (fun t => Value.int 1 t) (.int d1 t1), Itm.pair (fun t => Value.int 2 t) (.int d2 t2), Itm.pair (fun t => Value.int 3 t) (.int d3 t3), Itm.pair (fun t => Value.int 4 t) (.int d4 t4)] (mMade 0 tM u) news₀ := by
  refine T 0 d0 0 t0 tM u _ (by decide) (by decide) h0 fun u1 s1 => T 1 d1 _ t1 s1 u1 _ (by decide) (by decide) h1 fun u2 s2 => T 2 d2 _ t2 s2 u2 _ (by decide) (by decide) h2 fun u3 s3 => T 3 d3 _ t3 s3 u3 _ (by decide) (by decide) h3 fun u4 s4 => T 4 d4 _ t4 s4 u4 _ (by decide) (by decide) h4 fun u5 s5 => ?_
  have := fin u5 s5
  unfold allSum at this
  exact this
theorem frAs {h₀ h : Heap} {L : Addr} {m : Str → Option Value} {M : Int} {tM : Tok} (F : Fr h₀ L h m) (e : m (Str.ofString "made") = some (.int M tM)) : Fr h₀ L h (mMade M tM m) := by
  have : mMade M tM m = m := by
    funext y
    show (if y = Str.ofString "made" then some (Value.int M tM) else m y) = m y
    by_cases q : y = Str.ofString "made"
    · rw [if_pos q, q, e]
    · rw [if_neg q]
  rw [this]; exact F
local macro_rules | `(tactic| walk_at "exec For Tuple Call cons nil") => `(tactic| (k_here; (rename Fr _ _ _ _ => lF'); (with_unfolding_all refine' For_turns lF' ?_; k_whole)))
local macro_rules | `(tactic| walk_at "call type:enumerate") => `(tactic| k_extra "enum")
local macro_rules | `(tactic| walk_at "UnrEndW") => `(tactic| k_extra "enumEnd")
theorem all_tells (w : World) (led) (l : Addr) (d0 d1 d2 d3 d4 : Int) (t0 t1 t2 t3 t4 : Tok) (n : Nat)
   (h0 : 0 ≤ d0 ∧ d0 < 64) (h1 : 0 ≤ d1 ∧ d1 < 64) (h2 : 0 ≤ d2 ∧ d2 < 64) (h3 : 0 ≤ d3 ∧ d3 < 64) (h4 : 0 ≤ d4 ∧ d4 < 64) :
    Tell w 2 90 [.ref l] ((l, listOf #[.int d0 t0, .int d1 t1, .int d2 t2, .int d3 t3, .int d4 t4] n) :: led) (fun v made => made = [] ∧ ∃ tk, v = .int (allSum d0 d1 d2 d3 d4) tk) := by
  unfold Tell
  k_fill
  w_top off
  intro mean mg mb dp un gd cn cs a ccd cl outer A₀ base h₀ L m s Q E B F X N T hk hd hu hret
  have hMk : KstMark := kstMark
  have hnil : IntsAre ([] : List Value) ([] : List Int) := .nil
  refine wpAny_call ?_
  k_dflt cell_enter
  k_with_none
  k_with "enum" => ((rename Fr _ _ _ _ => lF); (rename News _ _ _ _ => lN); (with_unfolding_all refine ktu_enum (lo := listOf #[.int d0 t0, .int d1 t1, .int d2 t2, .int d3 t3, .int d4 t4] n) (vs := [.int d0 t0, .int d1 t1, .int d2 t2, .int d3 t3, .int d4 t4]) (xs := [Itm.pair (fun t => Value.int 0 t) (.int d0 t0), Itm.pair (fun t => Value.int 1 t) (.int d1 t1), Itm.pair (fun t => Value.int 2 t) (.int d2 t2), Itm.pair (fun t => Value.int 3 t) (.int d3 t3), Itm.pair (fun t => Value.int 4 t) (.int d4 t4)]) (by rfl) lF lN (by k_mem) (by rfl) (by rfl) (by rfl) ?_); clear lF lN; intro iE lE; (refine five (IR := ItemsRest _ _ _ _ _ _ _ _ _ _ _ _) h0 h1 h2 h3 h4 ?_ ?_); (intro k d M td tM u r hk0 hk5 hd0 hr); rotate_left; (intro u5 s5); rotate_right)
  k_with "pyIter ref" => k_state (fun pre made => made = sumUp M k d pre) "made"
  k_with "state" => first | exact sumUp_nil _ _ _ | exact sumUp_yes (by assumption) (by assumption) | exact sumUp_no (by assumption) (by assumption)
  k_with "binaryOp Mult int int" => (refine mul_int ?_ (d64_ok (by assumption) (by omega)))
  k_steps
  · have e : rangeKs 0 (5 - k).toNat = rangeKs 0 (5 - k - 0).toNat := by rw [Int.sub_zero]
    have q := hr
    rw [e, ← kInv] at q
    exact unrEndW_intro (frAs kFr (by rfl)) kNews (fun p hp => by simp only [List.mem_cons, List.not_mem_nil, or_false] at hp ⊢; rcases hp with rfl | rfl <;> simp) (fun p hp => List.Mem.tail _ (List.Mem.tail _ hp)) (off_two lE) ⟨⟨List.Mem.head _, trivial⟩, q _ _⟩
  · exact hret _ [] _ _ ⟨rfl, _, rfl⟩ made_nil (by assumption) (by assumption)
end Mine
namespace Mine
set_option maxRecDepth 100000
open PySem PySem.W PySem.Calls PyProof.Rows
/-- the number without its lowest i binary places -/
@[irreducible] def above (F i : Nat) : Nat := F / 2 ^ i * 2 ^ i
theorem above_succ (F i : Nat) : above F i = above F (i + 1) + F / 2 ^ i % 2 * 2 ^ i := by
  unfold above
  have h : F / 2 ^ (i + 1) = F / 2 ^ i / 2 := by rw [Nat.pow_succ, Nat.div_div_eq_div_mul]
  rw [h, Nat.pow_succ]
  have := Nat.div_add_mod (F / 2 ^ i) 2
  have e : F / 2 ^ i * 2 ^ i = (2 * (F / 2 ^ i / 2) + F / 2 ^ i % 2) * 2 ^ i := by rw [this]
  rw [e, Nat.add_mul]
  have : 2 * (F / 2 ^ i / 2) * 2 ^ i = F / 2 ^ i / 2 * (2 ^ i * 2) := by
    rw [Nat.mul_comm 2, Nat.mul_assoc, Nat.mul_comm 2 (2 ^ i)]
  omega
theorem and_above (F i : Nat) : above F i &&& 2 ^ i = F / 2 ^ i % 2 * 2 ^ i := by
  have hb : (above F i).testBit i = (F / 2 ^ i).testBit 0 := by
    unfold above
    rw [Nat.testBit_mul_two_pow]; simp
  rw [Nat.testBit_zero] at hb
  apply Nat.eq_of_testBit_eq
  intro j
  rw [Nat.testBit_and, Nat.testBit_two_pow]
  rcases Nat.mod_two_eq_zero_or_one (F / 2 ^ i) with h | h
  · rw [h] at hb ⊢
    by_cases q : i = j
    · subst q; rw [hb]; simp
    · simp [q]
  · rw [h] at hb ⊢
    rw [Nat.one_mul, Nat.testBit_two_pow]
    by_cases q : i = j
    · subst q; rw [hb]; simp
    · simp [q]
theorem pow_cast (i : Nat) : (1 : Int) * 2 ^ ((0 : Int) + (i : Int)).toNat = ((2 ^ i : Nat) : Int) := by
  have : ((0 : Int) + (i : Int)).toNat = i := by omega
  rw [this]; simp
theorem flag_and (F i : Nat) : Builtin.bitAnd ((above F i : Nat) : Int) (1 * 2 ^ ((0 : Int) + (i : Int)).toNat) = ((F / 2 ^ i % 2 * 2 ^ i : Nat) : Int) := by
  rw [pow_cast, bitAnd_pp (Int.natCast_nonneg _) (Int.natCast_nonneg _)]
  have e1 : ((above F i : Nat) : Int).toNat = above F i := Int.toNat_natCast _
  have e2 : ((2 ^ i : Nat) : Int).toNat = 2 ^ i := Int.toNat_natCast _
  rw [e1, e2, and_above]
theorem flag_on {F i : Nat} (h : Builtin.bitAnd ((above F i : Nat) : Int) (1 * 2 ^ ((0 : Int) + (i : Int)).toNat) ≠ 0) : F / 2 ^ i % 2 = 1 := by
  rw [flag_and] at h
  have := Nat.mod_two_eq_zero_or_one (F / 2 ^ i)
  rcases this with q | q
  · rw [q] at h; simp at h
  · exact q
theorem flag_off {F i : Nat} (h : Builtin.bitAnd ((above F i : Nat) : Int) (1 * 2 ^ ((0 : Int) + (i : Int)).toNat) = 0) : F / 2 ^ i % 2 = 0 := by
  rw [flag_and] at h
  have := Nat.mod_two_eq_zero_or_one (F / 2 ^ i)
  rcases this with q | q
  · exact q
  · rw [q] at h
    have := Nat.two_pow_pos i
    omega
theorem flag_xor {F i : Nat} (h : F / 2 ^ i % 2 = 1) : Builtin.bitXor ((above F i : Nat) : Int) (1 * 2 ^ ((0 : Int) + (i : Int)).toNat) = ((above F (i + 1) : Nat) : Int) := by
  rw [bitXor_and, flag_and, h, pow_cast]
  have := above_succ F i
  rw [h] at this
  omega
theorem flag_same {F i : Nat} (h : F / 2 ^ i % 2 = 0) : above F i = above F (i + 1) := by
  have := above_succ F i
  rw [h] at this
  omega
/-- the names of the places below i that are set -/
@[irreducible] def namesTo (F i : Nat) : List Str := ((List.range i).filter fun j : Nat => F / 2 ^ j % 2 == 1).map fun j : Nat => word (j : Int)
theorem namesTo_on {F i : Nat} (h : F / 2 ^ i % 2 = 1) : namesTo F (i + 1) = namesTo F i ++ [word (i : Int)] := by
  unfold namesTo; rw [List.range_succ]; simp [h]
theorem namesTo_off {F i : Nat} (h : F / 2 ^ i % 2 = 0) : namesTo F (i + 1) = namesTo F i := by
  unfold namesTo; rw [List.range_succ]; simp [h]
theorem namesTo_len (F i : Nat) : (namesTo F i).length ≤ i := by
  unfold namesTo
  rw [List.length_map]
  exact Nat.le_trans (List.length_filter_le _ _) (by simp)
theorem above_zero {F i : Nat} (h : above F i = 0) : F / 2 ^ i = 0 := by
  unfold above at h
  have := Nat.two_pow_pos i
  rcases Nat.mul_eq_zero.mp h with q | q
  · exact q
  · omega
theorem names_stop {F i : Nat} (h : above F i = 0) : ∀ k, above F (i + k) = 0 ∧ namesTo F (i + k) = namesTo F i
  | 0 => ⟨h, rfl⟩
  | k + 1 => by
    obtain ⟨h1, h2⟩ := names_stop h k
    have hb : F / 2 ^ (i + k) % 2 = 0 := by rw [above_zero h1]
    refine ⟨?_, ?_⟩
    · rw [← Nat.add_assoc, ← flag_same hb]; exact h1
    · rw [← Nat.add_assoc, namesTo_off hb]; exact h2
/-- the words of a number's flags -/
@[irreducible] def flagWords (F : Nat) : List Str := if F = 0 ∨ above F 32 ≠ 0 then namesTo F 32 ++ [baseText "0x" 16 ((above F 32 : Nat) : Int)] else namesTo F 32
theorem flagWords_end {F : Nat} (h : F = 0 ∨ above F 32 ≠ 0) : flagWords F = namesTo F 32 ++ [baseText "0x" 16 ((above F 32 : Nat) : Int)] := by
  unfold flagWords; rw [if_pos h]
theorem flagWords_brk {F i : Nat} (hi : i < 32) (hb : F / 2 ^ i % 2 = 1) (h : above F (i + 1) = 0) : flagWords F = namesTo F (i + 1) := by
  have h32 := names_stop h (31 - i)
  have e : i + 1 + (31 - i) = 32 := by omega
  rw [e] at h32
  unfold flagWords
  rw [if_neg, h32.2]
  rintro (q | q)
  · subst q; simp at hb
  · exact q h32.1
theorem hexLen {i : Nat} (hi : i < 32) : (baseText "0x" 16 (1 * 2 ^ ((0 : Int) + (i : Int)).toNat)).length ≤ sizeLine := by
  have : ∀ i : Nat, i < 32 → (baseText "0x" 16 (1 * 2 ^ ((0 : Int) + (i : Int)).toNat)).length ≤ 100 := by decide +kernel
  have := this i hi
  rw [sizeLine_eq]; omega
abbrev flagTab : List (Int × PyData) := [(1, PyData.str { cps := #[79, 80, 84, 73, 77, 73, 90, 69, 68] }),
    (2, PyData.str { cps := #[78, 69, 87, 76, 79, 67, 65, 76, 83] }),
    (4, PyData.str { cps := #[86, 65, 82, 65, 82, 71, 83] }),
    (8, PyData.str { cps := #[86, 65, 82, 75, 69, 89, 87, 79, 82, 68, 83] }),
    (16, PyData.str { cps := #[78, 69, 83, 84, 69, 68] }),
    (32, PyData.str { cps := #[71, 69, 78, 69, 82, 65, 84, 79, 82] }),
    (64, PyData.str { cps := #[78, 79, 70, 82, 69, 69] }),
    (128, PyData.str { cps := #[67, 79, 82, 79, 85, 84, 73, 78, 69] }),
    (256, PyData.str { cps := #[73, 84, 69, 82, 65, 66, 76, 69, 95, 67, 79, 82, 79, 85, 84, 73, 78, 69] }),
    (512, PyData.str { cps := #[65, 83, 89, 78, 67, 95, 71, 69, 78, 69, 82, 65, 84, 79, 82] })]
def strOf : PyData → Str
  | .str x => x
  | _ => Str.empty
def isStrD : PyData → Bool
  | .str _ => true
  | _ => false
theorem isStrD_eq {d : PyData} (h : isStrD d = true) : d = PyData.str (strOf d) := by
  cases d <;> first | rfl | cases h
theorem tab_word {i : Nat} (hi : i < 32) : (KTD.datumAt (1 * 2 ^ ((0 : Int) + (i : Int)).toNat) flagTab).getD (PyData.str (baseText "0x" 16 (1 * 2 ^ ((0 : Int) + (i : Int)).toNat))) = PyData.str (word (i : Int)) := by
  have h1 : ∀ i : Nat, i < 32 → strOf ((KTD.datumAt (1 * 2 ^ ((0 : Int) + (i : Int)).toNat) flagTab).getD (PyData.str (baseText "0x" 16 (1 * 2 ^ ((0 : Int) + (i : Int)).toNat)))) = word (i : Int) := by decide +kernel
  have h2 : ∀ i : Nat, i < 32 → isStrD ((KTD.datumAt (1 * 2 ^ ((0 : Int) + (i : Int)).toNat) flagTab).getD (PyData.str (baseText "0x" 16 (1 * 2 ^ ((0 : Int) + (i : Int)).toNat)))) = true := by decide +kernel
  rw [← h1 i hi]
  exact isStrD_eq (h2 i hi)
end Mine
namespace Mine
set_option maxRecDepth 100000
set_option maxHeartbeats 8000000
local macro_rules | `(tactic| walk_at "nothing of the kind") => `(tactic| fail)
open PySem PySem.W PySem.Calls PyProof.Rows
abbrev mFl (fl : Int) (tf : Tok) (l : Addr) (u : Str → Option Value) : Str → Option Value := fun y => if y = Str.ofString "flags" then some (.int fl tf) else if y = Str.ofString "names" then some (.ref l) else u y
theorem mFl_of {fl : Int} {tf : Tok} {l : Addr} {m : Str → Option Value} (h1 : m (Str.ofString "flags") = some (.int fl tf)) (h2 : m (Str.ofString "names") = some (.ref l)) : m = mFl fl tf l m := by
  funext y
  show m y = if y = Str.ofString "flags" then some (.int fl tf) else if y = Str.ofString "names" then some (.ref l) else m y
  by_cases q : y = Str.ofString "flags"
  · rw [if_pos q, q, h1]
  · rw [if_neg q]
    by_cases r : y = Str.ofString "names"
    · rw [if_pos r, r, h2]
    · rw [if_neg r]
theorem getName {prog : Program} {w : World} {A : Around} {E : Value → Shared → Prop} {s : Shared} {h₀ : Heap} {Q : Value → Shared → Prop} {i : Nat} {tk tk2 : Tok} (hi : i < 32) (K : KTD.Keyed h₀ 15 flagTab) (hk : ∀ b o, h₀.get? b = some o → s.heap.get? b = some o)
    (h : ∀ t', Q (.str (word (i : Int)) t') { s with toks := s.toks + 1 }) : wpAny (model prog w) A (call (.builtin "dict.get") [.ref 15, .int (1 * 2 ^ ((0 : Int) + (i : Int)).toNat) tk, .str (baseText "0x" 16 (1 * 2 ^ ((0 : Int) + (i : Int)).toNat)) tk2]) Q E s :=
  call_get2_intTab (K.keep hk prog w) (dd := PyData.str (baseText "0x" 16 (1 * 2 ^ ((0 : Int) + (i : Int)).toNat))) (fun h => Reads.str _ _) fun v hv => by
    rw [KTD.lookup_keyed, tab_word hi] at hv
    obtain ⟨t, rfl⟩ := hv.str_inv
    exact h t
theorem word_len {j : Nat} (h : j < 33) : (word (j : Int)).length ≤ 64 := by
  have : ∀ j : Nat, j < 33 → (word (j : Int)).length ≤ 64 := by decide +kernel
  exact this j h
theorem weight_le : ∀ (ys : List Str), (∀ y ∈ ys, y.length ≤ 64) → (ys.map (·.length)).sum ≤ 64 * ys.length
  | [], _ => by simp
  | y :: r, h => by
    have h1 := h y (.head _)
    have h2 := weight_le r fun z hz => h z (.tail _ hz)
    simp only [List.map_cons, List.sum_cons, List.length_cons]
    omega
theorem names_short {F i : Nat} (hi : i ≤ 32) : ∀ y ∈ namesTo F i, y.length ≤ 64 := by
  intro y hy
  unfold namesTo at hy
  obtain ⟨j, hj, rfl⟩ := List.mem_map.mp hy
  have := List.mem_range.mp (List.mem_filter.mp hj).1
  exact word_len (by omega)
theorem join_ok {ys : List Str} (hl : ys.length ≤ 40) (h : ∀ y ∈ ys, y.length ≤ 64) : (ys.map (·.length)).sum + ys.length * 64 ≤ 16777216 := by
  have := weight_le ys h
  omega
theorem hex_above {F : Nat} (h : F < 8589934592) : (baseText "0x" 16 ((above F 32 : Nat) : Int)).length ≤ 64 := by
  have q : F / 2 ^ 32 = 0 ∨ F / 2 ^ 32 = 1 := by
    have : F / 2 ^ 32 < 2 := Nat.div_lt_of_lt_mul (by simpa using h)
    omega
  unfold above
  rcases q with q | q <;> rw [q] <;> decide +kernel
theorem off_head {led : List (Addr × Obj)} {l I : Addr} {o o' : Obj} (h : ∀ p ∈ (l, o) :: led, p.1 ≠ I) : ∀ p ∈ (l, o') :: led, p.1 ≠ I := fun p hp => by
  rcases List.mem_cons.mp hp with rfl | hp
  · exact h (l, o) (.head _)
  · exact h p (.tail _ hp)
theorem strs_on {vs : List Value} {F i : Nat} {tg : Tok} (hS : StrsAre vs (namesTo F i)) (hb : F / 2 ^ i % 2 = 1) : StrsAre (vs ++ [Value.str (word (i : Int)) tg]) (namesTo F (i + 1)) := by
  rw [namesTo_on hb]
  exact StrsAre.append' hS (.cons _ _ .nil)
local macro_rules | `(tactic| walk_at "call builtin:hex") => `(tactic| k_extra "hex")
local macro_rules | `(tactic| walk_at "call builtin:dict.get") => `(tactic| k_extra "get")
local macro_rules | `(tactic| walk_at "call builtin:str.join") => `(tactic| k_extra "join")
theorem flags_tells (w : World) (led) (F0 : Nat) (t : Tok) (h1 : F0 < 8589934592) :
    Tell w 2 22 [.int (F0 : Int) t] led (fun v made => made = [] ∧ ∃ tk, v = .str (Txt.join (Str.ofString ", ") (flagWords F0)) tk) := by
  unfold Tell
  k_fill
  w_top off
  intro mean mg mb dp un gd cn cs a ccd cl outer A₀ base h₀ L m s Q E B F X N T hk hd hu hret
  have hMk : KstMark := kstMark
  have hnil : IntsAre ([] : List Value) ([] : List Int) := .nil
  refine wpAny_call ?_
  k_dflt (refine' code_def ?k1 ?k2 ?k3 ?k4 ?k5 ?kA ?kF ?kK ?k6 ?k7 ?k8 ?k9 ?kB ?_ ?c2 ?c3 ?c4 ?c5; (case kA => exact rfl); (case kF => exact rfl); (case kK => assumption); (case k1 => k_asm); (case k2 => k_asm); (case k3 => k_asm); (case k4 => k_asm); (case k5 => k_asm); (case k6 => k_is); (case k7 => k_is); (case k8 => ktr_room); (case k9 => exact BindsTo.of_eq rfl); (case c5 => decide); (case kB => exact locs rfl); (case c2 => exact rfl); (case c3 => exact rfl); (case c4 => exact rfl); intro g' L' h' FG' F' N' B' X' T'; (try dsimp only); (try k_lift B'); (try k_fold))
  k_with_none
  k_steps
  refine wpAny_For ?_ (by intro _; rfl)
  k_steps
  (rename IsRange _ _ _ _ _ _ _ _ => rgX); (rename Fr _ _ _ _ => lF); (rename News _ _ _ _ => lN)
  obtain ⟨l', el'⟩ := newsHead lN
  subst el'
  refine for_range_iter (n := 32) (fun i m₁ nx => ∃ (tf : Tok) (vs : List Value) (c : Nat) (u : Str → Option Value), m₁ = mFl ((above F0 i : Nat) : Int) tf l' u ∧ nx = (l', listOf vs.toArray c) :: led ∧ StrsAre vs (namesTo F0 i) ∧ vs.length ≤ i ∧ (F0 = 0 ∨ above F0 i ≠ 0)) (by rfl) rgX (by decide) (by decide) lF lN ?j0 ?turn ?done
  · refine ⟨t, [], 0, _, mFl_of ?_ rfl, rfl, by unfold namesTo; exact .nil, Nat.le_refl _, ?_⟩
    · have e : above F0 0 = F0 := by unfold above; simp
      rw [e]; rfl
    · have e : above F0 0 = F0 := by unfold above; simp
      rw [e]; omega
  · rintro I i m₁ nx h tk ti hlt hi ⟨tf, vs, c, u, rfl, rfl, hS, hlen, hz⟩ off Fi Ni
    have hlI := ltN (hlt _ (.head _))
    clear lF lN
    k_with "hex" => refine P.hex_of_int ?_ (hexLen hi)
    k_with "get" => ((rename KTD.Keyed _ _ _ => kyX); refine getName hi kyX (by kt_keeps) ?_; intro tg)
    k_steps
    · have hb := flag_on (by assumption)
      have e := flag_xor hb
      refine RangeTurn.intro (by assumption) (by assumption) (fun p hp => hp) (off_head off) ⟨_, vs ++ [.str (word (i : Int)) _], _, _, mFl_of (by rw [← e]; rfl) rfl, by rw [List.push_toArray], strs_on hS hb, by rw [List.length_append]; simp; omega, Or.inr ?_⟩
      intro q
      have q' := (by assumption : Builtin.bitXor ((above F0 i : Nat) : Int) (1 * 2 ^ ((0 : Int) + (i : Int)).toNat) ≠ 0)
      rw [e, q] at q'
      exact q' rfl
    · have hb := flag_on (by assumption)
      have e := flag_xor hb
      have ez : above F0 (i + 1) = 0 := by
        have q := (by assumption : Builtin.bitXor ((above F0 i : Nat) : Int) (1 * 2 ^ ((0 : Int) + (i : Int)).toNat) = 0)
        rw [e] at q; omega
      dsimp only [RangePost]
      k_with "join" => (refine join_listC (News.isList (by assumption) (by k_mem)) (by rw [List.push_toArray]; exact strs_on hS hb) (by decide) (join_ok (Nat.le_trans (namesTo_len _ _) (by omega)) (names_short (by omega))) ?_; intro tj kj)
      k_steps
      · rw [← flagWords_brk hi hb ez]
        exact hret _ [] _ _ ⟨rfl, _, rfl⟩ made_nil (by assumption) (news_sub (by assumption) (fun p hp => .tail _ (.tail _ hp)))
    · have hb := flag_off (by assumption)
      have e := flag_same hb
      refine RangeTurn.intro (by assumption) (by assumption) (fun p hp => hp) off ⟨_, vs, _, _, mFl_of (by rw [← e]; rfl) rfl, rfl, by rw [namesTo_off hb]; exact hS, by omega, ?_⟩
      rw [← e]; exact hz
  · rintro m₁ nx h tk ⟨tf, vs, c, u, rfl, rfl, hS, hlen, hz⟩ Fi Ni
    clear lF lN
    have hx : (baseText "0x" 16 ((above F0 32 : Nat) : Int)).length ≤ 64 := hex_above h1
    k_with "hex" => refine P.hex_of_int ?_ (Nat.le_trans hx (by rw [sizeLine_eq]; omega))
    k_with "join" => (refine join_listC (News.isList (by assumption) (by k_mem)) (by rw [List.push_toArray]; exact StrsAre.append' hS (.cons _ _ .nil)) (by decide) (join_ok (by rw [List.length_append]; have := namesTo_len F0 32; simp; omega) (by intro y hy; rcases List.mem_append.mp hy with q | q; exact names_short (Nat.le_refl _) y q; rw [List.mem_singleton.mp q]; exact hx)) ?_; intro tj kj)
    k_steps
    · rw [← flagWords_end hz]
      exact hret _ [] _ _ ⟨rfl, _, rfl⟩ made_nil (by assumption) (news_sub (by assumption) (fun p hp => .tail _ hp))
end Mine
namespace Mine
set_option maxRecDepth 100000
open PySem PySem.W PySem.Calls PyProof.Rows
/-- a list's iterator that stands at place i -/
def LiIter (o : Obj) (l : Addr) (i : Nat) : Prop := o.cls = .type "list_iterator" ∧ o.data = .fields #[.ref l, .int i 0]
theorem stop_members : ownMembersOf (.type "StopIteration") [] = #[] := by
  unfold ownMembersOf
  split <;> first | rfl | (rename_i h; revert h; decide) | simp_all
section
variable {prog : Program} {w : World} {A : Around} {E : Value → Shared → Prop} {s : Shared} {h₀ : Heap} {L it l : Addr} {m : Str → Option Value} {news rest : List (Addr × Obj)} {io lo : Obj} {vs : List Value} {i : Nat} {x : Value}
theorem LiIter.at {h : Heap} (a : LiIter io l i) (ho : h.get? it = some io) : h.IsListIter it l i := ⟨io, ho, a.1, a.2⟩
theorem li_iter {Q : Value → Shared → Prop} (F : Fr h₀ L s.heap m) (N : News h₀ L s.heap news) (hl : s.heap.IsList l vs.toArray)
    (h : ∀ (I : Addr) h' oI, Fr h₀ L h' m → News h₀ L h' ((I, oI) :: news) → (∀ p ∈ news, p.1 < I) → LiIter oI l 0 → Q (.ref I) { s with heap := h' }) :
    wpAny (model prog w) A (call (.builtin "iter") [.ref l]) Q E s := by
  refine call_function_entry (by decide +kernel) (by decide +kernel) kdk_entry_iter (kdk_args_iter _) ?_
  unfold Builtin.«iter»
  refine wpAny_bind (m := someArgs "iter" 1 2 _) (wpAny_of_eq (a := [Value.ref l]) (by first | rfl | kernel_rfl!) ?_)
  show wpAny _ _ (pyIter (.ref l) >>= _) _ _ _
  refine wpAny_bind (wpAny_pyIter_list hl ?_)
  exact wpAny_pure ⟨_, rfl, h _ _ _ (F.push _) (News.push F N _ rfl) (fun q hq => Heap.lt_size (N q hq).1) ⟨rfl, rfl⟩⟩
theorem li_head {h h' : Heap} {o' : Obj} (F : Fr h₀ L h m) (N : News h₀ L h ((it, io) :: rest)) (hoff : ∀ p ∈ rest, p.1 ≠ it) (hs : Heap.SameBut it h h') (ho' : h'.get? it = some o') :
    Fr h₀ L h' m ∧ News h₀ L h' ((it, o') :: rest) := by
  have hm := N (it, io) (.head _)
  exact ⟨F.change hs hm.2.1 hm.2.2, (show News h₀ L h ([] ++ (it, io) :: rest) from N).setIn (fun _ h => nomatch h) hoff hs ho'⟩
theorem li_next {Q : Value → Shared → Prop} (F : Fr h₀ L s.heap m) (N : News h₀ L s.heap ((it, io) :: rest)) (hi : LiIter io l i) (hoff : ∀ p ∈ rest, p.1 ≠ it) (hl : s.heap.IsList l vs.toArray) (hx : vs[i]? = some x)
    (h : ∀ h' o', Fr h₀ L h' m → News h₀ L h' ((it, o') :: rest) → LiIter o' l (i + 1) → Q x { s with heap := h' }) :
    wpAny (model prog w) A (call (.builtin "next") [.ref it]) Q E s := by
  have hm := N (it, io) (.head _)
  have hit := hi.at hm.1
  obtain ⟨o, ho, hc, hd⟩ := id hit
  obtain ⟨ol, hol, _, nl, hdl⟩ := id hl
  refine call_function_entry (by decide +kernel) (by decide +kernel) kdk_entry_next (kdk_args_next _) ?_
  unfold Builtin.«next»
  refine wpAny_bind (m := someArgs "next" 1 2 _) (wpAny_of_eq (a := [Value.ref it]) (by first | rfl | kernel_rfl!) ?_)
  dsimp only
  refine wpAny_bind (wpAny_specialOf (name := Str.ofString "__next__") hit.typeIs slot_listiter_next.lookup ?_)
  refine wpAny_ite_split (fun hab => absurd hab (by decide)) (fun _ => ?_)
  refine wpAny_bind (wpAny_callSpecial?_slot (name := Str.ofString "__next__") hit.typeIs slot_listiter_next (wpAny_call_entry slot_listiter_next hit.typeIs entry_listiter_next ?_ (args_listiter_next _)))
  show wpAny _ _ (field (.ref it) 0 >>= _) _ _ s
  refine wpAny_bind (wpAny_field ho hd (x := .ref l) rfl ?_)
  show wpAny _ _ (if (Value.ref l == Value.none) = true then _ else _) _ _ s
  rw [if_neg (show ¬ ((Value.ref l == Value.none) = true) from Bool.false_ne_true)]
  show wpAny _ _ (field (.ref it) 1 >>= _) _ _ s
  refine wpAny_bind (wpAny_field ho hd (x := .int i 0) rfl ?_)
  show wpAny _ _ (seqItems? (.ref l) >>= _) _ _ s
  refine wpAny_bind (wpAny_seqItems hol hdl ?_)
  have hx' : vs.toArray[i]? = some x := by simpa using hx
  simp only [Int.toNat_natCast, hx']
  have ho' := Heap.get?_update_self (h := s.heap) (Obj.mapFields (·.setIfInBounds 1 (rawInt ((i : Int) + 1)))) ho (Obj.isFreed_of_fields (Obj.data_mapFields hd _))
  have fin := li_head F N hoff (Heap.SameBut.update ..) ho'
  refine wpAny_bind (wpAny_setField ho hd (by simp) (wpAny_pure ⟨x, rfl, wpAny_pure ⟨_, rfl, h _ _ fin.1 fin.2 ⟨(Obj.cls_mapFields ..).trans hc, ?_⟩⟩⟩))
  rw [Obj.data_mapFields hd]; simp [rawInt]
theorem li_stop {Q : Value → Shared → Prop} (hh : A.handled = none) (F : Fr h₀ L s.heap m) (N : News h₀ L s.heap ((it, io) :: rest)) (hi : LiIter io l i) (hoff : ∀ p ∈ rest, p.1 ≠ it) (hl : s.heap.IsList l vs.toArray) (hx : vs[i]? = none)
    (h : ∀ h₁ h' e o' tk, Fr h₀ L h₁ m → News h₀ L h₁ ((it, o') :: rest) → Heap.NewExc h₁ h' e "StopIteration" → E (.ref e) { s with heap := h', toks := tk }) :
    wpAny (model prog w) A (call (.builtin "next") [.ref it]) Q E s := by
  have hm := N (it, io) (.head _)
  have hit := hi.at hm.1
  obtain ⟨o, ho, hc, hd⟩ := id hit
  obtain ⟨ol, hol, _, nl, hdl⟩ := id hl
  refine call_function_entry (by decide +kernel) (by decide +kernel) kdk_entry_next (kdk_args_next _) ?_
  unfold Builtin.«next»
  refine wpAny_bind (m := someArgs "next" 1 2 _) (wpAny_of_eq (a := [Value.ref it]) (by first | rfl | kernel_rfl!) ?_)
  dsimp only
  refine wpAny_bind (wpAny_specialOf (name := Str.ofString "__next__") hit.typeIs slot_listiter_next.lookup ?_)
  refine wpAny_ite_split (fun hab => absurd hab (by decide)) (fun _ => ?_)
  refine wpAny_bind (wpAny_callSpecial?_slot (name := Str.ofString "__next__") hit.typeIs slot_listiter_next (wpAny_call_entry slot_listiter_next hit.typeIs entry_listiter_next ?_ (args_listiter_next _)))
  show wpAny _ _ (field (.ref it) 0 >>= _) _ _ s
  refine wpAny_bind (wpAny_field ho hd (x := .ref l) rfl ?_)
  show wpAny _ _ (if (Value.ref l == Value.none) = true then _ else _) _ _ s
  rw [if_neg (show ¬ ((Value.ref l == Value.none) = true) from Bool.false_ne_true)]
  show wpAny _ _ (field (.ref it) 1 >>= _) _ _ s
  refine wpAny_bind (wpAny_field ho hd (x := .int i 0) rfl ?_)
  show wpAny _ _ (seqItems? (.ref l) >>= _) _ _ s
  refine wpAny_bind (wpAny_seqItems hol hdl ?_)
  have hx' : vs.toArray[i]? = none := by simpa using hx
  simp only [Int.toNat_natCast, hx']
  refine wpAny_bind (wpAny_rule (wpAny_bind (wpAny_setField ho hd (by simp) ?_)))
  show wpAny _ _ (newExc (.type "StopIteration") [] >>= _) _ _ _
  refine wpAny_bind ?_
  simp only [newExc, newTuple]
  refine wpAny_bind (wpAny_newObj_type ?_ (by size_fits))
  refine wpAny_bind (m := firstArgMember _ _) (wpAny_of_eq (a := Value.none) (by first | rfl | (simp only [firstArgMember]; rfl)) ?_)
  refine wpAny_newObj_type ?_ (by size_fits)
  simp only [raiseNew]
  refine wpAny_bind (wpAny_handled ?_)
  rw [show A.in1.in1.handled = none from hh]
  refine wpAny_bind (wpAny_pure (wpAny_throw ?_))
  have ho' := Heap.get?_update_self (h := s.heap) (Obj.mapFields (·.setIfInBounds 0 Value.none)) ho (Obj.isFreed_of_fields (Obj.data_mapFields hd _))
  have fin := li_head F N hoff (Heap.SameBut.update ..) ho'
  refine h _ _ _ _ _ fin.1 fin.2 ⟨fun b o e => Heap.get?_push_of_some _ (Heap.get?_push_of_some _ e), ?_, ?_⟩
  · cases q : (s.heap.update it (Obj.mapFields (·.setIfInBounds 0 Value.none))).get? ((s.heap.update it (Obj.mapFields (·.setIfInBounds 0 Value.none))).push { cls := Value.type "tuple", data := Data.seq #[] }).objs.size with
    | none => rfl
    | some o => exact absurd (Heap.lt_size q) (by simp [Heap.push])
  · exact ⟨_, .ref (s.heap.update it (Obj.mapFields (·.setIfInBounds 0 Value.none))).objs.size, Heap.get?_push_size _ rfl, rfl, by rw [stop_members]; rfl⟩
end
end Mine
namespace Mine
set_option maxRecDepth 100000
set_option maxHeartbeats 8000000
open PySem PySem.W PySem.Calls PyProof.Rows
theorem and_pow (n i : Nat) : n &&& 2 ^ i = n / 2 ^ i % 2 * 2 ^ i := by
  have hb : n.testBit i = decide (n / 2 ^ i % 2 = 1) := by rw [Nat.testBit_eq_decide_div_mod_eq]
  apply Nat.eq_of_testBit_eq
  intro j
  rw [Nat.testBit_and, Nat.testBit_two_pow]
  rcases Nat.mod_two_eq_zero_or_one (n / 2 ^ i) with h | h
  · rw [h] at hb ⊢
    by_cases q : i = j
    · subst q; rw [hb]; simp
    · simp [q]
  · rw [h] at hb ⊢
    rw [Nat.one_mul, Nat.testBit_two_pow]
    by_cases q : i = j
    · subst q; rw [hb]; simp
    · simp [q]
theorem and64 {b : Int} (h : 0 ≤ b) : Builtin.bitAnd b 64 = b / 64 % 2 * 64 := by
  rw [bitAnd_pp h (by decide)]
  have : b.toNat &&& (64 : Int).toNat = b.toNat / 64 % 2 * 64 := and_pow b.toNat 6
  rw [this]; omega
theorem or_low {v x : Int} (hv : 0 ≤ v) (hx : 0 ≤ x) (hx' : x < 64) : Builtin.bitOr (v * 64) x = v * 64 + x := by
  rw [bitOr_and, bitAnd_pp (by omega) hx]
  have e : (v * 64).toNat &&& x.toNat = 0 := by
    have e1 : (v * 64).toNat = v.toNat * 2 ^ 6 := by omega
    rw [e1]
    apply Nat.eq_of_testBit_eq
    intro j
    rw [Nat.testBit_and, Nat.testBit_mul_two_pow]
    by_cases q : 6 ≤ j
    · have : x.toNat.testBit j = false := Nat.testBit_lt_two_pow (Nat.lt_of_lt_of_le (by omega : x.toNat < 2 ^ 6) (Nat.pow_le_pow_right (by decide) q))
      simp [this]
    · simp [q]
  rw [e]; omega
/-- what is read on from a number that is joined to the next -/
def readOn : Int → List Int → Int × List Int
  | v, [] => (v, [])
  | v, b :: r => if b / 64 % 2 = 1 then readOn (v * 64 + b % 64) r else (v * 64 + b % 64, r)
def readOne : List Int → Int × List Int
  | [] => (0, [])
  | b :: r => if b / 64 % 2 = 1 then readOn (b % 64) r else (b % 64, r)
def TellIt (w : World) (d : Nat) (f : Addr) (it : Addr) (io : Obj) (rest : List (Addr × Obj)) (post : Value → Obj → Prop) : Prop :=
  ∀ (mean : ExcName → Option Value) (mg mb : Str → Option Value) (dp un : Nat) (gd : Option (List Code)) (cn : Str) (cs : Scope) (a : Addr) (ccd : Value) (cl : List (Str × Addr)) (outer : List Env) (A₀ : Around) (base h₀ : Heap) (L : Addr) (m : Str → Option Value) (s : Shared) (Q E : Value → Shared → Prop),
    Below A₀ base outer h₀ → Fr h₀ L s.heap m → (hd.heap_39 w.params).In h₀ → News h₀ L s.heap ((it, io) :: rest) → Top hd.view_39 (looseW hd.view_39 [Str.ofString "COMPILER_FLAG_NAMES"]) mean mg mb h₀ → cs.kind = .function →
    dp + d < recursionLimit → un + 100 * d < cLine →
    (∀ v o' h' tk', post v o' → Fr h₀ L h' m → News h₀ L h' ((it, o') :: rest) → Q v { s with heap := h', toks := tk' }) →
    wpAny (model Challenge.rw_pe0009_01.row.prog w) (ktrTop dp un gd cn cs L a ccd cl outer) (call (.ref f) [.ref it]) Q E s
local macro_rules | `(tactic| walk_at "call builtin:next") => `(tactic| k_extra "next")
local macro_rules | `(tactic| walk_at "exec While BinOp cons nil") => `(tactic| k_extra "while")
abbrev mBV (b : Int) (tb : Tok) (v : Int) (tv : Tok) (it : Addr) (u : Str → Option Value) : Str → Option Value := fun y => if y = Str.ofString "val" then some (.int v tv) else if y = Str.ofString "b" then some (.int b tb) else if y = Str.ofString "iterator" then some (.ref it) else u y
theorem mBV_of {b v : Int} {tb tv : Tok} {it : Addr} {m : Str → Option Value} (h1 : m (Str.ofString "val") = some (.int v tv)) (h2 : m (Str.ofString "b") = some (.int b tb)) (h3 : m (Str.ofString "iterator") = some (.ref it)) : m = mBV b tb v tv it m := by
  funext y
  show m y = if y = Str.ofString "val" then some (.int v tv) else if y = Str.ofString "b" then some (.int b tb) else if y = Str.ofString "iterator" then some (.ref it) else m y
  by_cases q : y = Str.ofString "val"
  · rw [if_pos q, q, h1]
  · rw [if_neg q]
    by_cases r : y = Str.ofString "b"
    · rw [if_pos r, r, h2]
    · rw [if_neg r]
      by_cases t : y = Str.ofString "iterator"
      · rw [if_pos t, t, h3]
      · rw [if_neg t]
def Pend (bs : List Int) (i j : Nat) (b v : Int) : Prop := (if b / 64 % 2 = 1 then readOn v (bs.drop j) else (v, bs.drop j)) = readOne (bs.drop i) ∧ (b / 64 % 2 = 1 → j < bs.length)
/-- the last octet joins to nothing -/
def Ends (bs : List Int) : Prop := ∀ k (h : k < bs.length), bs[k] / 64 % 2 = 1 → k + 1 < bs.length
theorem pend_start {bs : List Int} {i : Nat} (hE : Ends bs) (h : i < bs.length) : Pend bs i (i + 1) bs[i] (bs[i] % 64) := by
  refine ⟨?_, hE i h⟩
  rw [List.drop_eq_getElem_cons h]; rfl
theorem pend_on {bs : List Int} {i j : Nat} {b v : Int} (hE : Ends bs) (hP : Pend bs i j b v) (hb : b / 64 % 2 = 1) (h : j < bs.length) : Pend bs i (j + 1) bs[j] (v * 64 + bs[j] % 64) := by
  refine ⟨?_, hE j h⟩
  have q := hP.1
  rw [if_pos hb, List.drop_eq_getElem_cons h] at q
  exact q
theorem pend_end {bs : List Int} {i j : Nat} {b v : Int} (hP : Pend bs i j b v) (hb : b / 64 % 2 ≠ 1) : v = (readOne (bs.drop i)).1 ∧ bs.drop j = (readOne (bs.drop i)).2 := by
  have q := hP.1
  rw [if_neg hb] at q
  rw [← q]; exact ⟨rfl, rfl⟩
theorem b64_on {b : Int} (h0 : 0 ≤ b) (h : ¬ Builtin.bitAnd b 64 = 0) : b / 64 % 2 = 1 := by
  rw [and64 h0] at h; omega
theorem b64_off {b : Int} (h0 : 0 ≤ b) (h : Builtin.bitAnd b 64 = 0) : b / 64 % 2 ≠ 1 := by
  rw [and64 h0] at h; omega
theorem low_start {b : Int} {i : Nat} : b % 64 < 64 ^ (i + 1) := by
  have h : (64 : Nat) ^ 1 ≤ 64 ^ (i + 1) := Nat.pow_le_pow_right (by decide) (by omega)
  have h3 : (64 : Int) ^ (i + 1) = ((64 ^ (i + 1) : Nat) : Int) := by simp
  rw [h3]; omega
theorem low_on {v b : Int} {j : Nat} (h0 : 0 ≤ v) (hv : v < 64 ^ j) (hj : j < 5) : v * 64 + b % 64 < 64 ^ (j + 1) ∧ v * 64 + b % 64 < 1073741824 := by
  have h : (64 : Nat) ^ (j + 1) ≤ 64 ^ 5 := Nat.pow_le_pow_right (by decide) (by omega)
  have h3 : (64 : Int) ^ (j + 1) = ((64 ^ (j + 1) : Nat) : Int) := by simp
  have h4 : (64 : Int) ^ j = ((64 ^ j : Nat) : Int) := by simp
  have h5 : (64 : Nat) ^ (j + 1) = 64 ^ j * 64 := Nat.pow_succ ..
  have h6 : (64 : Nat) ^ 5 = 1073741824 := by decide
  rw [h4] at hv
  rw [h3]
  omega
theorem val_on {v b : Int} (h0 : 0 ≤ v) : Builtin.bitOr (v * 2 ^ (6 : Int).toNat) (Builtin.bitAnd b 63) = v * 64 + b % 64 := by
  rw [bitAnd_m6]
  have e : v * 2 ^ (6 : Int).toNat = v * 64 := by rfl
  rw [e, or_low h0 (by omega) (by omega)]
theorem parse_tells (w : World) (led) (it l : Addr) (io lo : Obj) (vs : List Value) (bs : List Int) (i : Nat) (hi : IntsAre vs bs) (hl : ListObj lo vs) (ho : LiIter io l i) (hb : ∀ b ∈ bs, 0 ≤ b ∧ b < 256) (h5 : bs.length ≤ 5) (hE : Ends bs) (hlt : i < bs.length) (hoff : ∀ p ∈ (l, lo) :: led, p.1 ≠ it) :
    TellIt w 2 29 it io ((l, lo) :: led) (fun v o' => ∃ k tk, v = .int (readOne (bs.drop i)).1 tk ∧ LiIter o' l k ∧ bs.drop k = (readOne (bs.drop i)).2 ∧ i < k ∧ k ≤ bs.length) := by
  unfold TellIt
  k_fill
  w_top off
  intro mean mg mb dp un gd cn cs a ccd cl outer A₀ base h₀ L m s Q E B F X N T hk hd hu hret
  have hMk : KstMark := kstMark
  have hnil : IntsAre ([] : List Value) ([] : List Int) := .nil
  refine wpAny_call ?_
  k_dflt (refine' code_def ?k1 ?k2 ?k3 ?k4 ?k5 ?kA ?kF ?kK ?k6 ?k7 ?k8 ?k9 ?kB ?_ ?c2 ?c3 ?c4 ?c5; (case kA => exact rfl); (case kF => exact rfl); (case kK => assumption); (case k1 => k_asm); (case k2 => k_asm); (case k3 => k_asm); (case k4 => k_asm); (case k5 => k_asm); (case k6 => k_is); (case k7 => k_is); (case k8 => ktr_room); (case k9 => exact BindsTo.of_eq rfl); (case c5 => decide); (case kB => exact locs rfl); (case c2 => exact rfl); (case c3 => exact rfl); (case c4 => exact rfl); intro g' L' h' FG' F' N' B' X' T'; (try dsimp only); (try k_lift B'); (try k_fold))
  k_with_none
  obtain ⟨t0, hx0⟩ := hi.get i bs[i] (by simp [hlt])
  k_with "next" => ((rename Fr _ _ _ _ => lF); (rename News _ _ _ _ => lN); (refine li_next lF lN ho hoff (hl.inNews lN (.tail _ (.head _))) hx0 ?_); clear lF lN; intro hN oN FN NN iN)
  have hb0 := hb bs[i] (List.getElem_mem _)
  k_with "while" => ((rename Fr _ _ _ _ => wF); (rename News _ _ _ _ => wN); (refine While_inv (fun k m₁ nx => ∃ (j : Nat) (oj : Obj) (b v : Int) (tb tv : Tok) (u : Str → Option Value), k = bs.length - j ∧ i < j ∧ j ≤ bs.length ∧ m₁ = mBV b tb v tv it u ∧ nx = (it, oj) :: (l, lo) :: led ∧ LiIter oj l j ∧ 0 ≤ b ∧ b < 256 ∧ 0 ≤ v ∧ v < 1073741824 ∧ v < 64 ^ j ∧ Pend bs i j b v) wF wN ⟨i + 1, _, bs[i], _, _, _, _, rfl, Nat.lt_succ_self _, hlt, mBV_of rfl rfl rfl, rfl, iN, hb0.1, hb0.2, ?w1, ?w2, ?w4, ?w3⟩ ?_); (case w1 => rw [bitAnd_m6]; omega); (case w2 => rw [bitAnd_m6]; omega); (case w4 => rw [bitAnd_m6]; exact low_start); (case w3 => rw [bitAnd_m6]; exact pend_start hE hlt); clear wF wN; rintro k m₁ nx h₁ tk₁ F₁ N₁ ⟨j, oj, b, v, tb, tv, u, rfl, ij, jn, rfl, rfl, hoj, b0, b1, v0, v1, v2, hP⟩)
  k_with "next" => ((have hj := hP.2 (b64_on b0 (by assumption))); (obtain ⟨tj, hxj⟩ := hi.get j bs[j] (by simp [hj])); (have hbj := hb bs[j] (List.getElem_mem _)); (rename Fr _ _ _ _ => lF); (rename News _ _ _ _ => lN); (refine li_next lF lN hoj hoff (hl.inNews lN (.tail _ (.head _))) hxj ?_); clear lF lN; intro hN oN FN NN iN)
  k_steps
  · have hbit := b64_on b0 (by assumption)
    have hj := hP.2 hbit
    have hbj := hb bs[j] (List.getElem_mem _)
    have low := low_on (b := bs[j]) v0 v2 (by omega)
    refine WhileStep.intro (n' := bs.length - (j + 1)) (by assumption) (by assumption) (by omega) ⟨j + 1, _, bs[j], v * 64 + bs[j] % 64, _, _, _, rfl, by omega, hj, mBV_of (by rw [← val_on v0]; rfl) rfl rfl, rfl, (by assumption), hbj.1, hbj.2, by omega, low.2, low.1, pend_on hE hP hbit hj⟩
  · obtain ⟨e1, e2⟩ := pend_end hP (b64_off b0 (by assumption))
    exact hret _ _ _ _ ⟨j, _, by rw [e1], hoj, e2, ij, jn⟩ (by assumption) (by assumption)
end Mine
namespace Mine
set_option maxRecDepth 100000
open PySem PySem.W PySem.Calls PyProof.Rows
section
variable {prog : Program} {w : World} {A₀ A : Around} {s : Shared} {base h₀ : Heap} {L : Addr} {m : Str → Option Value} {env : Env} {news : List (Addr × Obj)} {K : Frag} {p : Program} {loose : List Str} {mean : ExcName → Option Value} {mg mb : Str → Option Value}
    {R : Result → Shared → Prop} {name qual : Str} {params : Arguments} {body : List Stmt} {scope : Scope} {dV kV doc pm cdv ct oc : Value} {an od : Option Addr} {osl : Array (Option Value)} {f : Addr} {args : Args} {binds : List (Str × Value)}
/-- a def that catches, called from a frame that stands alone: its marks on that frame are no harm -/
theorem code_defT (B : Below A₀ base [] h₀) (F : Fr h₀ L s.heap m) (X₀ : K.In h₀) (N : News h₀ L s.heap news) (T : Top p loose mean mg mb h₀) (hA : A.frames = some [env]) (hf : env.frame = some L) (hke : env.scope.kind = .function)
    (ho : K.lookup f = some ⟨oc, od, .func (fnOf name qual params body scope dV kV doc pm an cdv ct), osl⟩) (hcd : codeIn K cdv qual = true) (hroom : A.depth < recursionLimit)
    (hbind : BindsTo s (fnOf name qual params body scope dV kV doc pm an cdv ct) args binds) (hloc : ∀ y ∈ binds, scope.names.lookup y.1 = some .local)
    (h : ∀ g L' h₁, Fr h₀ L g m → Fr g L' h₁ (fun y => binds.reverse.lookup y) → News g L' h₁ news → Below A base [env] g → K.In g → Top p loose mean mg mb g → KtsDicts ([env].filterMap (·.frame)) g →
      wpAny (model prog w) (A.deeper (envOf qual scope L' f cdv)) (execs body (envOf qual scope L' f cdv))
        (fun fl s' => LeaveS0 ([env].filterMap (·.frame)) h₀ L m g R (match fl with | .ret v => v | _ => .none) s')
        (fun e s' => wpAny (model prog w) (A.deeper (envOf qual scope L' f cdv)) (leaving (envOf qual scope L' f cdv) e) (fun _ s'' => R (.error e) s'') (fun e' s'' => R (.error e') s'') s')
        { s with heap := h₁, toks := s.toks + binds.length })
    (hco : scope.isCoroutine = false) (hgen : scope.isGenerator = false) (hk : scope.kind = .function)
    (hcell : ∀ x ∈ scope.names, x.2 ≠ .cell) : codeAny (model prog w) A (.call (.ref f) args) R s := by
  have X := X₀.keeps F.keep
  have hfr : [env].filterMap (·.frame) = [L] := by simp [hf]
  obtain ⟨FG, BG, st, _⟩ := groundX (R := R) B F N hA hf hke
  refine codeAny_call_def (fd := fnOf name qual params body scope dV kV doc pm an cdv ct) (body := body) (binds := binds) hroom (X _ _ ho) rfl (T.nolimit.keeps F.keep) (codeRec_of X hcd) rfl hbind hcell hloc (fun h₁ hns hk₁ => ?_) hco hgen hk
  obtain ⟨oL, es, ep, hLg, hLd, hLk, hLf⟩ := FG.ns
  refine wpAny_mono (h _ s.heap.objs.size h₁ FG ⟨hns, fun b o e => hk₁ b o (of_hideAll _ e), Nat.le_of_eq (hideAll_size _ _)⟩
    (fun p hp => ⟨hk₁ _ _ (N p hp).1, Nat.ne_of_lt (Heap.lt_size (N p hp).1), hideAll_none _ (List.mem_map_of_mem hp)⟩) BG (X₀.keeps st) (T.keeps st) (fun b hb => by
      rw [hfr] at hb
      rw [List.mem_singleton.mp hb]
      exact ⟨oL, es, ep, hLg, hLd⟩)) (fun fl s' hl => ?_) fun _ _ y => y
  obtain ⟨g', L', m', news', T', F', N', k⟩ := hl
  have nL₀ : h₀.get? L = none := kts_self F
  obtain ⟨sl, hs⟩ := T'.up hLg
  refine k ⟨⟨_, es, ep, F'.keep _ _ hs, hLd, hLk, hLf⟩, fun b o e => F'.keep b o (T'.other b o (st b o e) (fun q => by
    rw [hfr] at q
    rw [List.mem_singleton.mp q, nL₀] at e
    cases e)), F.above⟩ fun p hp => ⟨(N' p hp).1, fun q => ?_, ?_⟩
  · have := (N' p hp).2.2; rw [q, hs] at this; cases this
  · cases q : h₀.get? p.1 with
    | none => rfl
    | some o =>
      obtain ⟨sl', hs'⟩ := T'.up (st _ _ q)
      have := (N' p hp).2.2
      rw [hs'] at this
      cases this
end
end Mine
namespace Mine
set_option maxRecDepth 100000
set_option maxHeartbeats 8000000
open PySem PySem.W PySem.Calls PyProof.Rows
theorem TellIt.use {w : World} {d : Nat} {f it : Addr} {io : Obj} {rest : List (Addr × Obj)} {post : Value → Obj → Prop} (C : TellIt w d f it io rest post)
    {mean : ExcName → Option Value} {mg mb : Str → Option Value} {dp un : Nat} {gd : Option (List Code)} {cn : Str} {cs : Scope} {a : Addr} {ccd : Value} {cl : List (Str × Addr)} {outer : List Env} {A₀ : Around} {base h₀ : Heap} {L : Addr} {m : Str → Option Value} {s : Shared} {Q E : Value → Shared → Prop}
    (B : Below A₀ base outer h₀) (F : Fr h₀ L s.heap m) (X : (hd.heap_39 w.params).In h₀) (N : News h₀ L s.heap ((it, io) :: rest)) (T : Top hd.view_39 (looseW hd.view_39 [Str.ofString "COMPILER_FLAG_NAMES"]) mean mg mb h₀) (hk : cs.kind = .function)
    (hdp : dp + d < recursionLimit) (hun : un + 100 * d < cLine)
    (ret : ∀ v o' h' tk', post v o' → Fr h₀ L h' m → News h₀ L h' ((it, o') :: rest) → Q v { s with heap := h', toks := tk' }) :
    wpAny (model Challenge.rw_pe0009_01.row.prog w) (ktrTop dp un gd cn cs L a ccd cl outer) (call (.ref f) [.ref it]) Q E s :=
  C mean mg mb dp un gd cn cs a ccd cl outer A₀ base h₀ L m s Q E B F X N T hk hdp hun ret
def readN : Nat → List Int → List Int
  | 0, _ => []
  | _ + 1, [] => []
  | n + 1, b :: r => (readOne (b :: r)).1 :: readN n (readOne (b :: r)).2
local macro_rules | `(tactic| walk_at "noteFrame ref") => `(tactic| k_extra "caught")
local macro_rules | `(tactic| walk_at "call builtin:iter") => `(tactic| k_extra "iter")
local macro_rules | `(tactic| walk_at "call builtin:next") => `(tactic| k_extra "next")
local macro_rules | `(tactic| walk_at "exec While Compare cons nil") => `(tactic| k_extra "while")
theorem four_in {a b c : Addr × Obj} {led : List (Addr × Obj)} : ∀ p ∈ b :: c :: a :: led, p ∈ a :: b :: c :: led := fun p hp => by
  simp only [List.mem_cons] at hp ⊢
  rcases hp with h | h | h | h <;> simp [h]
theorem four_back {a b c : Addr × Obj} {led : List (Addr × Obj)} : ∀ p ∈ a :: b :: c :: led, p ∈ b :: c :: a :: led := fun p hp => by
  simp only [List.mem_cons] at hp ⊢
  rcases hp with h | h | h | h <;> simp [h]
theorem two_in {a b : Addr × Obj} {led : List (Addr × Obj)} : ∀ p ∈ b :: a :: led, p ∈ a :: b :: led := fun p hp => by
  simp only [List.mem_cons] at hp ⊢
  rcases hp with h | h | h <;> simp [h]
theorem off_it {r l it : Addr} {o o' : Obj} {led : List (Addr × Obj)} (h1 : ∀ p ∈ (l, o) :: led, p.1 < it) (h2 : it < r) : ∀ p ∈ (l, o) :: (r, o') :: led, p.1 ≠ it := fun p hp => by
  rcases List.mem_cons.mp hp with rfl | hp
  · exact Nat.ne_of_lt (h1 _ (.head _))
  · rcases List.mem_cons.mp hp with rfl | hp
    · exact Nat.ne_of_gt h2
    · exact Nat.ne_of_lt (h1 p (.tail _ hp))
theorem off_it2 {r l it : Addr} {o o' : Obj} {led : List (Addr × Obj)} (h1 : ∀ p ∈ (l, o) :: led, p.1 < it) (h2 : it < r) : ∀ p ∈ (r, o') :: (l, o) :: led, p.1 ≠ it := fun p hp => by
  rcases List.mem_cons.mp hp with rfl | hp
  · exact Nat.ne_of_gt h2
  · exact Nat.ne_of_lt (h1 p hp)
theorem read_on {bs rs : List Int} {j k : Nat} (hj : j < bs.length) (hr : rs.length < 5) (e : rs ++ readN (5 - rs.length) (bs.drop j) = readN 5 bs) (h : bs.drop k = (readOne (bs.drop j)).2) :
    (rs ++ [(readOne (bs.drop j)).1]) ++ readN (5 - (rs ++ [(readOne (bs.drop j)).1]).length) (bs.drop k) = readN 5 bs := by
  have e1 : 5 - rs.length = (5 - (rs ++ [(readOne (bs.drop j)).1]).length) + 1 := by rw [List.length_append]; simp; omega
  rw [← e, e1, h, List.append_assoc]
  congr 1
  generalize (5 - (rs ++ [(readOne (bs.drop j)).1]).length) = n
  rw [List.drop_eq_getElem_cons hj]; rfl
theorem read_end {bs rs : List Int} {j : Nat} (hj : bs.length ≤ j) (e : rs ++ readN (5 - rs.length) (bs.drop j) = readN 5 bs) : rs = readN 5 bs := by
  rw [List.drop_eq_nil_of_le hj] at e
  have : ∀ n, readN n [] = [] := fun n => by cases n <;> rfl
  rw [this, List.append_nil] at e
  exact e
/-- as Tell, called from a frame that stands alone -/
def TellTop (w : World) (d : Nat) (f : Addr) (args : List Value) (led : List (Addr × Obj)) (post : Value → List (Addr × Obj) → Prop) : Prop :=
  ∀ (mean : ExcName → Option Value) (mg mb : Str → Option Value) (dp un : Nat) (gd : Option (List Code)) (cn : Str) (cs : Scope) (a : Addr) (ccd : Value) (cl : List (Str × Addr)) (A₀ : Around) (h₀ : Heap) (L : Addr) (m : Str → Option Value) (s : Shared) (Q E : Value → Shared → Prop),
    Below A₀ h₀ [] h₀ → Fr h₀ L s.heap m → (hd.heap_39 w.params).In h₀ → News h₀ L s.heap led → Top hd.view_39 (looseW hd.view_39 [Str.ofString "COMPILER_FLAG_NAMES"]) mean mg mb h₀ → cs.kind = .function →
    dp + d < recursionLimit → un + 100 * d < cLine →
    (∀ v made h' tk', post v made → (∀ p ∈ led, ∀ q ∈ made, p.1 < q.1) → Fr h₀ L h' m → News h₀ L h' (made ++ led) → Q v { s with heap := h', toks := tk' }) →
    wpAny (model Challenge.rw_pe0009_01.row.prog w) (ktrTop dp un gd cn cs L a ccd cl []) (call (.ref f) args) Q E s
theorem stop_exc : isSubtype (.type "StopIteration") (.type "BaseException") = pure true := by rw [isSubtype_type]; kernel_rfl
theorem stop_notTuple : isSubtype (.type ((Manifest.find? "StopIteration").elim "type" fun y => y.metatype)) (.type "tuple") = pure false := by
  rw [isSubtype_type]; kernel_rfl
theorem stop_boot : bootBuiltins (Str.ofString "StopIteration") = some (.type "StopIteration") := by decide +kernel
theorem read_tells (w : World) (led) (l : Addr) (vs : List Value) (bs : List Int) (n : Nat) (hi : IntsAre vs bs) (hb : ∀ b ∈ bs, 0 ≤ b ∧ b < 256) (h5 : bs.length ≤ 5) (hE : Ends bs) :
    TellTop w 4 57 [.ref l] ((l, listOf vs.toArray n) :: led) (fun v made => ∃ r us k, v = .ref r ∧ made = [(r, listOf us.toArray k)] ∧ IntsAre us (readN 5 bs)) := by
  unfold TellTop
  k_fill
  w_top off
  intro mean mg mb dp un gd cn cs a ccd cl A₀ h₀ L m s Q E B F X N T hk hd hu hret
  have hMk : KstMark := kstMark
  have hnil : IntsAre ([] : List Value) ([] : List Int) := .nil
  refine wpAny_call ?_
  k_dflt (refine' code_defT ?k1 ?k2 ?k3 ?k4 ?k5 ?kA ?kF ?kK ?k6 ?k7 ?k8 ?k9 ?kB ?_ ?c2 ?c3 ?c4 ?c5; (case kA => exact rfl); (case kF => exact rfl); (case kK => assumption); (case k1 => k_asm); (case k2 => k_asm); (case k3 => k_asm); (case k4 => k_asm); (case k5 => k_asm); (case k6 => k_is); (case k7 => k_is); (case k8 => ktr_room); (case k9 => exact BindsTo.of_eq rfl); (case c5 => decide); (case kB => exact locs rfl); (case c2 => exact rfl); (case c3 => exact rfl); (case c4 => exact rfl); intro g' L' h' FG' F' N' B' X' T' D'; (try dsimp only); (try k_lift B'); (try k_fold))
  k_with_none
  k_with "iter" => ((rename Fr _ _ _ _ => lF); (rename News _ _ _ _ => lN); (refine li_iter lF lN (News.isList lN (by k_mem)) ?_); clear lF lN; intro it hI oI FI NI lI iI)
  k_with "while" => ((rename Fr _ _ _ _ => wF); (rename News _ _ _ _ => wN); (obtain ⟨r, er⟩ := newsHead wN); subst er; (have ir : @LT.lt Nat _ it r := by omega); (obtain ⟨mW, hmW⟩ := frMap wF); (rw [← hmW] at wF); (refine While_inv (fun k m₁ nx => ∃ (j : Nat) (oj : Obj) (us : List Value) (rs : List Int) (c : Nat), k = bs.length - j ∧ m₁ = mW ∧ nx = (r, listOf us.toArray c) :: (it, oj) :: (l, listOf vs.toArray n) :: led ∧ LiIter oj l j ∧ j ≤ bs.length ∧ IntsAre us rs ∧ us.length = rs.length ∧ rs.length ≤ j ∧ rs ++ readN (5 - rs.length) (bs.drop j) = readN 5 bs) wF wN ⟨0, _, [], [], _, rfl, rfl, rfl, iI, Nat.zero_le _, .nil, rfl, Nat.le_refl _, by simp⟩ ?_); rintro k m₁ nx h₁ tk₁ F₁ N₁ ⟨j, oj, us, rs, c, rfl, rfl, rfl, hoj, jn, hus, hul, hrj, hR⟩; subst hmW; clear wF wN)
  k_with "call ref" => ((rename Fr _ _ _ _ => lF); (rename News _ _ _ _ => lN); (refine Or.elim (Nat.lt_or_ge j bs.length) (fun hjb => ?cA) (fun hjb => ?cB)); (case' cB => (refine wpAny_call ?_; k_dflt (refine' code_def ?k1 ?k2 ?k3 ?k4 ?k5 ?kA ?kF ?kK ?k6 ?k7 ?k8 ?k9 ?kB ?_ ?c2 ?c3 ?c4 ?c5; (case kA => exact rfl); (case kF => exact rfl); (case kK => first | exact rfl | assumption); (case k1 => k_asm); (case k2 => k_asm); (case k3 => k_asm); (case k4 => k_asm); (case k5 => k_asm); (case k6 => k_is); (case k7 => k_is); (case k8 => ktr_room); (case k9 => exact BindsTo.of_eq rfl); (case c5 => decide); (case kB => exact locs rfl); (case c2 => exact rfl); (case c3 => exact rfl); (case c4 => exact rfl); intro g2 L2 h2 FG2 F2 N2 B2 X2 T2; (try dsimp only); (try k_lift B2); (try k_fold)); clear lF lN)); (case' cA => (k_dflt (refine' (parse_tells w ((r, _) :: led) it l oj (listOf vs.toArray n) vs bs j hi ⟨rfl, _, rfl⟩ hoj hb h5 hE hjb (off_it lI ir)).use ?k1 lF ?k3 (news_sub lN four_in) ?k5 ?kK ?kd ?ku ?_); (case k1 => k_asm); (case k3 => k_asm); (case k5 => k_asm); (case kK => first | exact rfl | assumption); (case kd => ktr_room); (case ku => ktr_units); rintro v9 o9 h9 tk9 ⟨k9, t9, rfl, i9, e9, lt9, le9⟩ F9 N9; (replace N9 := news_sub N9 four_back); clear lF lN; (try k_fold))))
  k_with "next" => ((rename Fr _ _ _ _ => lF); (rename News _ _ _ _ => lN); (refine li_stop (by rfl) lF (news_sub lN two_in) hoj (off_it2 lI ir) (News.isList lN (.tail _ (.tail _ (.head _)))) (List.getElem?_eq_none (by rw [hi.length]; exact hjb)) ?_); clear lF lN; intro h3 h4 e3 o3 tk3 F3 N3 X3)
  k_with "caught" => ((rename RaisedSN _ _ _ _ _ _ _ => rsX); k_dflt (refine' caught_SN0 (T' := "StopIteration") rsX FG2 B' (by assumption) X T D' KtsTurn.refl ?ex stop_boot (by decide) stop_exc stop_notTuple isSubtype_stop ?_; (case ex => k_is)); intro h5 g5 T5 F5 N5 K5 X5 P5 D5)
  k_steps
  · exact WhileStep.intro (n' := bs.length - k9) (by assumption) (by assumption) (by omega) ⟨k9, o9, us ++ [.int (readOne (List.drop j bs)).1 t9], rs ++ [(readOne (List.drop j bs)).1], c + 1, rfl, rfl, by rw [List.push_toArray], i9, le9, IntsAre.append hus (.cons _ _ .nil), by simp [hul], by simp; omega, read_on hjb (by omega) hR e9⟩
  · have l9 : it < r ∧ l < r ∧ AllLt r led := by assumption
    exact hret _ [_] _ _ ⟨r, us, c, rfl, rfl, by rw [← read_end hjb hR]; exact hus⟩ (made_one (kst_ltOf ⟨l9.2.1, l9.2.2⟩)) (by assumption) (news_sub (by assumption) (fun p hp => List.Mem.tail _ hp))
end Mine
namespace Mine
set_option maxRecDepth 100000
set_option maxHeartbeats 4000000
open PySem PySem.W PySem.Calls PyProof.Rows
/-- the row of numbers for a choice of flags -/
def rows16 (d0 d1 d2 d3 d4 : Int) : Nat → List Int
  | 0 => [d0, d1, d2, d3, d4]
  | 1 => [(64 * d0 + d1), d2, d3, d4]
  | 2 => [d0, (64 * d1 + d2), d3, d4]
  | 3 => [(64 * (64 * d0 + d1) + d2), d3, d4]
  | 4 => [d0, d1, (64 * d2 + d3), d4]
  | 5 => [(64 * d0 + d1), (64 * d2 + d3), d4]
  | 6 => [d0, (64 * (64 * d1 + d2) + d3), d4]
  | 7 => [(64 * (64 * (64 * d0 + d1) + d2) + d3), d4]
  | 8 => [d0, d1, d2, (64 * d3 + d4)]
  | 9 => [(64 * d0 + d1), d2, (64 * d3 + d4)]
  | 10 => [d0, (64 * d1 + d2), (64 * d3 + d4)]
  | 11 => [(64 * (64 * d0 + d1) + d2), (64 * d3 + d4)]
  | 12 => [d0, d1, (64 * (64 * d2 + d3) + d4)]
  | 13 => [(64 * d0 + d1), (64 * (64 * d2 + d3) + d4)]
  | 14 => [d0, (64 * (64 * (64 * d1 + d2) + d3) + d4)]
  | _ => [(64 * (64 * (64 * (64 * d0 + d1) + d2) + d3) + d4)]
def wholeOf (d0 d1 d2 d3 d4 : Int) : Int := 64 * (64 * (64 * (64 * (64 * 0 + d0) + d1) + d2) + d3) + d4
theorem cut16 {d0 d1 d2 d3 d4 : Int} (h0 : 0 ≤ d0 ∧ d0 < 64) (h1 : 0 ≤ d1 ∧ d1 < 64) (h2 : 0 ≤ d2 ∧ d2 < 64) (h3 : 0 ≤ d3 ∧ d3 < 64) (h4 : 0 ≤ d4 ∧ d4 < 64) {m : Nat} (hm : m < 16) :
    (cutAt (wholeOf d0 d1 d2 d3 d4) (m : Int) [0, 1, 2, 3, 4]).1 = rows16 d0 d1 d2 d3 d4 m := by
  have : m = 0 ∨ m = 1 ∨ m = 2 ∨ m = 3 ∨ m = 4 ∨ m = 5 ∨ m = 6 ∨ m = 7 ∨ m = 8 ∨ m = 9 ∨ m = 10 ∨ m = 11 ∨ m = 12 ∨ m = 13 ∨ m = 14 ∨ m = 15 := by omega
  rcases this with rfl | rfl | rfl | rfl | rfl | rfl | rfl | rfl | rfl | rfl | rfl | rfl | rfl | rfl | rfl | rfl
  all_goals
    unfold cutAt cutStep rows16 wholeOf
    simp [Int.fdiv_eq_ediv_of_nonneg, Int.fmod_eq_emod_of_nonneg]
    try omega
theorem oct_low {n : Int} {j : Bool} (h : 0 ≤ n) : octOf n j % 64 = n.fmod 64 := by
  unfold octOf
  rw [Int.fmod_eq_emod_of_nonneg _ (by decide), Int.fmod_eq_emod_of_nonneg _ (by decide), Int.fdiv_eq_ediv_of_nonneg _ (by decide)]
  cases j <;> simp <;> omega
theorem oct_join {n : Int} {j : Bool} (h : 0 ≤ n) : (octOf n j / 64 % 2 = 1) = (j = true) := by
  unfold octOf
  rw [Int.fmod_eq_emod_of_nonneg _ (by decide), Int.fmod_eq_emod_of_nonneg _ (by decide), Int.fdiv_eq_ediv_of_nonneg _ (by decide)]
  cases j <;> simp <;> omega
theorem oct_bound {n : Int} {j : Bool} (h : 0 ≤ n) : 0 ≤ octOf n j ∧ octOf n j < 256 := by
  unfold octOf
  rw [Int.fmod_eq_emod_of_nonneg _ (by decide), Int.fmod_eq_emod_of_nonneg _ (by decide), Int.fdiv_eq_ediv_of_nonneg _ (by decide)]
  cases j <;> simp <;> omega
/-- bit k of the choice -/
def bitOf (m k : Nat) : Bool := m / 2 ^ k % 2 == 1
theorem read16 {n0 n1 n2 n3 n4 : Int} (h0 : 0 ≤ n0) (h1 : 0 ≤ n1) (h2 : 0 ≤ n2) (h3 : 0 ≤ n3) (h4 : 0 ≤ n4) {m : Nat} (hm : m < 16) :
    readN 5 [octOf n0 (bitOf m 0), octOf n1 (bitOf m 1), octOf n2 (bitOf m 2), octOf n3 (bitOf m 3), octOf n4 false] = rows16 (n0.fmod 64) (n1.fmod 64) (n2.fmod 64) (n3.fmod 64) (n4.fmod 64) m := by
  have : m = 0 ∨ m = 1 ∨ m = 2 ∨ m = 3 ∨ m = 4 ∨ m = 5 ∨ m = 6 ∨ m = 7 ∨ m = 8 ∨ m = 9 ∨ m = 10 ∨ m = 11 ∨ m = 12 ∨ m = 13 ∨ m = 14 ∨ m = 15 := by omega
  rcases this with rfl | rfl | rfl | rfl | rfl | rfl | rfl | rfl | rfl | rfl | rfl | rfl | rfl | rfl | rfl | rfl
  all_goals
    simp [readN, readOne, readOn, rows16, bitOf, oct_low h0, oct_low h1, oct_low h2, oct_low h3, oct_low h4, oct_join h0, oct_join h1, oct_join h2, oct_join h3, oct_join h4]
    try omega
theorem ends16 {n0 n1 n2 n3 n4 : Int} {j0 j1 j2 j3 : Bool} (h4 : 0 ≤ n4) : Ends [octOf n0 j0, octOf n1 j1, octOf n2 j2, octOf n3 j3, octOf n4 false] := by
  intro k hk
  have : k = 0 ∨ k = 1 ∨ k = 2 ∨ k = 3 ∨ k = 4 := by simp at hk; omega
  rcases this with rfl | rfl | rfl | rfl | rfl <;> simp [oct_join h4]
end Mine
namespace Mine
set_option maxRecDepth 100000
set_option maxHeartbeats 4000000
open PySem PySem.W PySem.Calls PyProof.Rows
theorem walk_is (sg d0 d1 d2 d3 d4 : Int) : (walkAt sg [d0, d1, d2, d3, d4]).1 =
    64 * (64 * (64 * (64 * (sg * d0) + sg * d1 * (1 + sg * d0)) + sg * d2 * (1 + sg * d0 + (64 * (sg * d0) + sg * d1 * (1 + sg * d0)))) + sg * d3 * (1 + sg * d0 + (64 * (sg * d0) + sg * d1 * (1 + sg * d0)) + (64 * (64 * (sg * d0) + sg * d1 * (1 + sg * d0)) + sg * d2 * (1 + sg * d0 + (64 * (sg * d0) + sg * d1 * (1 + sg * d0)))))) + sg * d4 * (1 + sg * d0 + (64 * (sg * d0) + sg * d1 * (1 + sg * d0)) + (64 * (64 * (sg * d0) + sg * d1 * (1 + sg * d0)) + sg * d2 * (1 + sg * d0 + (64 * (sg * d0) + sg * d1 * (1 + sg * d0)))) + (64 * (64 * (64 * (sg * d0) + sg * d1 * (1 + sg * d0)) + sg * d2 * (1 + sg * d0 + (64 * (sg * d0) + sg * d1 * (1 + sg * d0)))) + sg * d3 * (1 + sg * d0 + (64 * (sg * d0) + sg * d1 * (1 + sg * d0)) + (64 * (64 * (sg * d0) + sg * d1 * (1 + sg * d0)) + sg * d2 * (1 + sg * d0 + (64 * (sg * d0) + sg * d1 * (1 + sg * d0))))))) := by
  unfold walkAt
  simp only [List.foldl_cons, List.foldl_nil, walkStep, Int.mul_zero, Int.zero_add, Int.mul_one]
abbrev all16 : List Nat := [0, 1, 2, 3, 4, 5, 6, 7, 8, 9, 10, 11, 12, 13, 14, 15]
theorem prods (d0 d1 d2 d3 d4 : Int) : (all16.map fun m => prodL (rows16 d0 d1 d2 d3 d4 m)).sum = (walkAt 1 [d0, d1, d2, d3, d4]).1 := by
  rw [walk_is]
  simp only [all16, List.map_cons, List.map_nil, List.sum_cons, List.sum_nil, rows16, prodL, List.foldl_cons, List.foldl_nil]
  grind
theorem prodsM (d0 d1 d2 d3 d4 : Int) : (all16.map fun m => prodL (rows16 d0 d1 d2 d3 d4 m) * (-1) ^ (rows16 d0 d1 d2 d3 d4 m).length).sum = (walkAt (-1) [d0, d1, d2, d3, d4]).1 := by
  rw [walk_is]
  simp only [all16, List.map_cons, List.map_nil, List.sum_cons, List.sum_nil, rows16, prodL, List.foldl_cons, List.foldl_nil, List.length_cons, List.length_nil]
  grind
theorem alls (d0 d1 d2 d3 d4 : Int) : (all16.map fun m => (rows16 d0 d1 d2 d3 d4 m).sum).sum = allSum d0 d1 d2 d3 d4 := by
  unfold allSum sumUp
  simp [all16, rows16, upTerm, rangeKs, List.range_succ]
  omega
end Mine
namespace Mine
set_option maxRecDepth 100000
open PySem PySem.W PySem.Calls PyProof.Rows
theorem wide_le {ns : List Int} {a b : Int} (ha : 3 ≤ a) (hb : 3 ≤ b) (h : ∀ v ∈ ns, v < 10 ^ a.toNat) (hw : WideAt ns b) : b ≤ a := by
  rcases hw with rfl | ⟨v, hv, hp⟩
  · exact ha
  · by_cases q : b ≤ a
    · exact q
    · exfalso
      have h1 := h v hv
      have h2 : (10 : Nat) ^ a.toNat ≤ 10 ^ (b.toNat - 1) := Nat.pow_le_pow_right (by decide) (by omega)
      have h3 : (10 : Int) ^ a.toNat = ((10 ^ a.toNat : Nat) : Int) := by simp
      have h4 : (10 : Int) ^ (b.toNat - 1) = ((10 ^ (b.toNat - 1) : Nat) : Int) := by simp
      rw [h3] at h1
      rw [h4] at hp
      omega
theorem width_unique {ns : List Int} {b : Bool} {x y : Int} (hx : WidthIs ns b x) (hy : WidthIs ns b y) : x = y := by
  rcases hx with ⟨z, rfl⟩ | ⟨⟨v, hv, hn⟩, a, a3, ha, hwa, rfl⟩
  · rcases hy with ⟨_, rfl⟩ | ⟨⟨v, hv, hn⟩, _⟩
    · rfl
    · exact absurd (z v hv) hn
  · rcases hy with ⟨z, _⟩ | ⟨_, c, c3, hc, hwc, rfl⟩
    · exact absurd (z v hv) hn
    · have e : a = c := by
        have := wide_le a3 c3 ha hwc
        have := wide_le c3 a3 hc hwa
        omega
      rw [e]
end Mine
namespace Mine
set_option maxRecDepth 100000
set_option maxHeartbeats 4000000
open PySem PySem.W PySem.Calls PyProof.Rows
/-- the words of the chosen flags -/
def dueOf (m sh : Nat) : List Str := ([0, 1, 2, 3].filter fun k => bitOf m k).map fun k : Nat => word ((sh + k : Nat) : Int)
def wordsOf (m sh : Nat) : List Str := if dueOf m sh = [] then [Str.ofString "0x0"] else dueOf m sh
theorem flagWords_all : ∀ m, m < 16 → ∀ sh, sh < 30 → flagWords (m * 2 ^ sh) = wordsOf m sh := by decide +kernel
theorem in_all : ∀ m, m < 16 → ∀ sh, sh < 30 → ∀ k, k < 4 → isIn (wordsOf m sh) ((sh + k : Nat) : Int) = bitOf m k := by decide +kernel
end Mine
namespace Mine
set_option maxRecDepth 100000
open PySem PySem.W PySem.Calls PyProof.Rows PySem.StrLaws PySem.Builtin PySem.Builtin.Str
abbrev sepC : Str := Str.ofString ", "
theorem sepC_list : sepC.cps.toList = [44, 32] := by decide +kernel
theorem sepC_len : sepC.length = 2 := by decide +kernel
def joinL : List Str → List Nat
  | [] => []
  | [w] => w.cps.toList
  | w :: v :: r => w.cps.toList ++ 44 :: 32 :: joinL (v :: r)
theorem fold_joinL : ∀ (r : List Str) (acc : Array Nat), ((r.foldl (fun acc p => acc ++ sepC.cps ++ p.cps) acc).toList) = acc.toList ++ (r.flatMap fun p => [44, 32] ++ p.cps.toList)
  | [], acc => by simp
  | p :: r, acc => by
    rw [List.foldl_cons, fold_joinL r]
    simp only [Array.toList_append, sepC_list, List.flatMap_cons, List.append_assoc]
theorem joinL_flat : ∀ (w : Str) (r : List Str), joinL (w :: r) = w.cps.toList ++ (r.flatMap fun p => [44, 32] ++ p.cps.toList)
  | w, [] => by simp [joinL]
  | w, v :: r => by
    rw [joinL, joinL_flat v r]; simp
theorem join_list (w : Str) (r : List Str) : (Txt.join sepC (w :: r)).cps.toList = joinL (w :: r) := by
  rw [joinL_flat]
  exact fold_joinL r w.cps
theorem at_iff {x : Str} {k : Nat} : At x sepC x.length k ↔ (x.cps.toList.drop k).take 2 = [44, 32] := by
  have e : subAt x sepC k = ((x.cps.toList.drop k).take 2 == [44, 32]) := by rw [subAt_eq, sepC_list, sepC_len]
  constructor
  · intro h
    have := h.2
    rw [e] at this
    exact eq_of_beq this
  · intro h
    refine ⟨?_, by rw [e, h]; rfl⟩
    have hl := congrArg List.length h
    simp at hl
    rw [sepC_len]
    have : x.cps.toList.length = x.length := by simp [Str.length]
    simp [Str.length] at *
    omega
theorem no_at {l : List Nat} {t : List Nat} {j : Nat} (hf : 44 ∉ l) (hj : j < l.length) : ((l ++ t).drop j).take 2 ≠ [44, 32] := by
  intro h
  have e : (l ++ t).drop j = l[j] :: (l.drop (j + 1) ++ t) := by
    rw [List.drop_append_of_le_length (Nat.le_of_lt hj), List.drop_eq_getElem_cons hj]; rfl
  rw [e] at h
  have h0 : l[j] = 44 := by
    have := congrArg List.head? h
    simpa using this
  exact hf (h0 ▸ List.getElem_mem hj)
theorem parts_words (x : Str) : ∀ (ws : List Str) (cuts : List Nat) (a f : Nat), ws ≠ [] → (∀ w ∈ ws, 44 ∉ w.cps.toList) → a ≤ x.cps.toList.length → x.cps.toList.drop a = joinL ws → ChainG x sepC x.length a cuts f → (∀ k, f ≤ k → ¬ At x sepC x.length k) → partsFrom x 2 a cuts = ws
  | [], _, _, _, h, _, _, _, _, _ => absurd rfl h
  | [w], cuts, a, f, _, hf, ha, hd, hc, hn => by
    have hw := hf w (.head _)
    have none : ∀ k, a ≤ k → ¬ At x sepC x.length k := fun k hk q => by
      rw [at_iff] at q
      have e : x.cps.toList.drop k = w.cps.toList.drop (k - a) := by
        have : k = a + (k - a) := by omega
        rw [this, ← List.drop_drop, hd]
        simp [joinL]
      rw [e] at q
      have h0 : 44 ∈ (w.cps.toList.drop (k - a)).take 2 := by rw [q]; exact .head _
      exact hw (List.mem_of_mem_drop (List.mem_of_mem_take h0))
    cases cuts with
    | nil =>
      show [strSub x a x.length] = [w]
      congr 1
      apply Str.ext'
      apply Array.toList_inj.mp
      rw [strSub_toList, hd]
      have : (joinL [w]).length ≤ x.length - a := by
        rw [← hd]; simp [Str.length]
      exact List.take_of_length_le this
    | cons c r => exact absurd hc.2.1 (none c hc.1)
  | w :: v :: r, cuts, a, f, _, hf, ha, hd, hc, hn => by
    have hw := hf w (.head _)
    have hat : At x sepC x.length (a + w.cps.toList.length) := by
      rw [at_iff, ← List.drop_drop, hd, joinL]
      simp
    have hno : ∀ k, a ≤ k → k < a + w.cps.toList.length → ¬ At x sepC x.length k := fun k h1 h2 q => by
      rw [at_iff] at q
      have e : k = a + (k - a) := by omega
      rw [e, ← List.drop_drop, hd, joinL] at q
      exact no_at hw (by omega) q
    cases cuts with
    | nil =>
      have e : f = a := hc
      exact absurd hat (hn _ (by omega))
    | cons c rr =>
      obtain ⟨c1, c2, c3, c4⟩ := hc
      have ec : c = a + w.cps.toList.length := by
        rcases Nat.lt_trichotomy c (a + w.cps.toList.length) with q | q | q
        · exact absurd c2 (hno c c1 q)
        · exact q
        · exact absurd hat (c3 _ (by omega) q)
      rw [sepC_len] at c4
      have hd2 : x.cps.toList.drop (c + 2) = joinL (v :: r) := by
        have : c + 2 = a + (w.cps.toList.length + 2) := by omega
        rw [this, ← List.drop_drop, hd, joinL, ← List.drop_drop]
        simp
      have hlen : c + 2 ≤ x.cps.toList.length := by
        have h1 : (x.cps.toList.drop a).length = (joinL (w :: v :: r)).length := by rw [hd]
        rw [joinL, List.length_append, List.length_cons, List.length_cons, List.length_drop] at h1
        omega
      show strSub x a c :: partsFrom x 2 (c + 2) rr = w :: v :: r
      rw [parts_words x (v :: r) rr (c + 2) f (by simp) (fun z hz => hf z (.tail _ hz)) hlen hd2 c4 hn]
      congr 1
      apply Str.ext'
      apply Array.toList_inj.mp
      rw [strSub_toList, hd, joinL, ec]
      have : a + w.cps.toList.length - a = w.cps.toList.length := by omega
      rw [this]
      simp
theorem split_join {ws : List Str} (hne : ws ≠ []) (hf : ∀ w ∈ ws, 44 ∉ w.cps.toList) (hk : strKind (Txt.join sepC ws) = 1) : Txt.split (Txt.join sepC ws) sepC = ws := by
  obtain ⟨w, r, rfl⟩ := List.exists_cons_of_ne_nil hne
  have hl := join_list w r
  obtain ⟨f, hG, hn⟩ := occ_tight (Txt.join sepC (w :: r)) sepC (by rw [sepC_len]; decide)
  have key := parts_words (Txt.join sepC (w :: r)) (w :: r) _ 0 f hne hf (Nat.zero_le _) (by rw [List.drop_zero]; exact hl) hG hn
  have hk2 : strKind sepC = 1 := by decide +kernel
  unfold Txt.split
  split
  · rename_i hc
    rw [hk, hk2, sepC_len] at hc
    have hx : (Txt.join sepC (w :: r)).length < 2 := by simpa using hc
    cases r with
    | nil => congr 1
    | cons v r =>
      exfalso
      have h1 := congrArg List.length hl
      rw [joinL, List.length_append, List.length_cons, List.length_cons] at h1
      have h2 : (Txt.join sepC (w :: v :: r)).cps.toList.length = (Txt.join sepC (w :: v :: r)).length := by simp [Str.length]
      omega
  · split
    · rename_i he
      rw [List.isEmpty_iff.mp he] at key
      refine Eq.trans ?_ key
      show _ = [strSub (Txt.join sepC (w :: r)) 0 (Txt.join sepC (w :: r)).length]
      rw [sub_whole]
    · rw [partsBetween_eq, sepC_len]
      exact key
theorem kind_one {x : Str} (h : ∀ c ∈ x.cps.toList, c < 256) : strKind x = 1 := by
  unfold Builtin.Str.strKind
  rw [if_pos]
  rw [← Array.all_toList]
  exact List.all_eq_true.mpr fun c hc => decide_eq_true (h c hc)
theorem joinL_small : ∀ (ws : List Str), (∀ w ∈ ws, ∀ c ∈ w.cps.toList, c < 256) → ∀ c ∈ joinL ws, c < 256
  | [], _, c, hc => nomatch hc
  | [w], h, c, hc => h w (.head _) c hc
  | w :: v :: r, h, c, hc => by
    rw [joinL] at hc
    rcases List.mem_append.mp hc with q | q
    · exact h w (.head _) c q
    · rcases List.mem_cons.mp q with rfl | q
      · decide
      · rcases List.mem_cons.mp q with rfl | q
        · decide
        · exact joinL_small (v :: r) (fun z hz => h z (.tail _ hz)) c q
theorem word_signs : ∀ b, b < 33 → (word ((b : Nat) : Int)).cps.toList.all (fun c => c != 44 && decide (c < 256)) = true := by decide +kernel
theorem nought_signs : (Str.ofString "0x0").cps.toList.all (fun c => c != 44 && decide (c < 256)) = true := by decide +kernel
theorem words_signs {m sh : Nat} (hs : sh < 30) : ∀ w ∈ wordsOf m sh, ∀ c ∈ w.cps.toList, c ≠ 44 ∧ c < 256 := by
  intro w hw c hc
  have key : w.cps.toList.all (fun c => c != 44 && decide (c < 256)) = true := by
    unfold wordsOf at hw
    split at hw
    · rw [List.mem_singleton.mp hw]; exact nought_signs
    · unfold dueOf at hw
      obtain ⟨k, hk, rfl⟩ := List.mem_map.mp hw
      have hk4 := (List.mem_filter.mp hk).1
      have : k < 4 := by
        simp at hk4; omega
      exact word_signs _ (by omega)
  have := List.all_eq_true.mp key c hc
  simpa using this
theorem wordsOf_ne (m sh : Nat) : wordsOf m sh ≠ [] := by
  unfold wordsOf
  split
  · simp
  · assumption
theorem split_words {m sh : Nat} (hm : m < 16) (hs : sh < 30) : Txt.split (Txt.join (Str.ofString ", ") (flagWords (m * 2 ^ sh))) (Str.ofString ", ") = wordsOf m sh := by
  rw [flagWords_all m hm sh hs]
  obtain ⟨w, r, e⟩ := List.exists_cons_of_ne_nil (wordsOf_ne m sh)
  refine split_join (wordsOf_ne m sh) (fun w hw q => (words_signs hs w hw 44 q).1 rfl) (kind_one ?_)
  have hl : (Txt.join sepC (wordsOf m sh)).cps.toList = joinL (wordsOf m sh) := by rw [e]; exact join_list w r
  rw [hl]
  exact joinL_small _ fun w hw c hc => (words_signs hs w hw c hc).2
end Mine
namespace Mine
set_option maxRecDepth 100000
set_option maxHeartbeats 1000000
open PySem PySem.W PySem.Calls PyProof.Rows PySem.F
theorem slot_filter_init : Slot "filter" "__init__" "object.__init__" :=
  .of (owner := "object") (n := "__init__") (by rw [typeLookup_type, builtinLookup_eq_fast]; kernel_rfl) (by decide +kernel) (by decide +kernel) (by decide +kernel)
    (by first | exact .inl (by decide +kernel) | exact .inr (by decide +kernel)) (by rw [isSubtype_type]; kernel_rfl)
theorem slot_filter_iter : Slot "filter" "__iter__" "filter.__iter__" :=
  .of (owner := "filter") (n := "__iter__") (by rw [typeLookup_type, builtinLookup_eq_fast]; kernel_rfl) (by decide +kernel) (by decide +kernel) (by decide +kernel)
    (by first | exact .inl (by decide +kernel) | exact .inr (by decide +kernel)) (by rw [isSubtype_type]; kernel_rfl)
theorem slot_filter_next : Slot "filter" "__next__" "filter.__next__" :=
  .of (owner := "filter") (n := "__next__") (by rw [typeLookup_type, builtinLookup_eq_fast]; kernel_rfl) (by decide +kernel) (by decide +kernel) (by decide +kernel)
    (by first | exact .inl (by decide +kernel) | exact .inr (by decide +kernel)) (by rw [isSubtype_type]; kernel_rfl)
theorem entry_filter_next : entryFor table "filter.__next__" = some Builtin.«filter.__next__» := entryFor_of_tree (by kernel_rfl)
theorem entry_filter_new : entryFor table "filter.__new__" = some Builtin.«filter.__new__» := entryFor_of_tree (by kernel_rfl)
theorem entry_filter_iter : entryFor table "filter.__iter__" = some Builtin.«dict_keyiterator.__iter__» :=
  entryFor_alias (id' := "dict_keyiterator.__iter__") (by kernel_rfl) (by first | rfl | decide +kernel) (by decide +kernel) (by kernel_rfl)
theorem args_filter_next (a : Value) : argsOk "filter.__next__" ⟨[a], []⟩ := by unfold argsOk; kernel_rfl
theorem args_filter_iter (a : Value) : argsOk "filter.__iter__" ⟨[a], []⟩ := by unfold argsOk; kernel_rfl
theorem mro_filter : mroOf (.type "filter") = pure [.type "filter", .type "object"] := by rw [mroOf_type]; kernel_rfl
theorem lookup_filter_new : typeLookup (.type "filter") "__new__" = pure (some (.builtin "filter.__new__")) := by rw [typeLookup_type, builtinLookup_eq_fast]; kernel_rfl
theorem called_filter : TypeCalled "filter" "filter.__new__" "object.__init__" :=
  ⟨by decide +kernel, by decide +kernel, ⟨_, _, mro_filter⟩, madeBy_type mro_filter lookup_filter_new (by decide +kernel), by decide +kernel, by rw [isSubtype_type]; kernel_rfl, slot_filter_init⟩
theorem typeCall_filter (a b : Value) : checkTypeCall "filter" ⟨[a, b], []⟩ = pure () := by kernel_rfl
theorem newCall_filter (a b : Value) : checkBuiltinCall "filter.__new__" ⟨[.type "filter", a, b], []⟩ = pure () := by kernel_rfl
theorem sub_filter : isSubtype (.type "filter") (.type "filter") = pure true := by rw [isSubtype_type]; kernel_rfl
end Mine
namespace Mine
set_option maxRecDepth 100000
set_option maxHeartbeats 1000000
open PySem PySem.W PySem.Calls PyProof.Rows PySem.F
section
variable {prog : Program} {w : World} {K : Type} [DecidableEq K] {knd : KeyKind prog w K} {A : Around} {E : Value → Shared → Prop} {s : Shared}
theorem vi_next {it d : Addr} {i ep : Nat} {kvs : List (K × Value)} {k : K} {v : Value} {Q : Option Value → Shared → Prop} (hit : s.heap.IsValIter it d i kvs.length ep)
    (hm : s.heap.DictAt knd d kvs ep) (hx : kvs[i]? = some (k, v))
    (hQ : ∀ h', h'.IsValIter it d (i + 1) kvs.length ep → Heap.SameBut it s.heap h' → Q (some v) { s with heap := h' }) :
    wpAny (model prog w) A (callSpecial? (.ref it) (Str.ofString "__next__")) Q E s := by
  obtain ⟨o, ho, hc, hd⟩ := id hit
  obtain ⟨od, es, hod, hcd, hdd, hk, hp, hn⟩ := id hm
  refine wpAny_callSpecial?_slot (name := Str.ofString "__next__") hit.typeIs F.slot_dict_valueiterator_next
    (wpAny_call_entry F.slot_dict_valueiterator_next hit.typeIs F.entry_dict_valueiterator_next ?_ (F.args_dict_valueiterator_next_1 _))
  refine wpAny_bind (wpAny_pure (wpAny_bind (wpAny_bind ?_)))
  refine wpAny_bind (wpAny_typeNameOfWhole_valiter hit.typeIs (wpAny_pure ?_))
  refine wpAny_bind (wpAny_fieldsOf ho hd ?_)
  have hown : Builtin.Dict_items.ownsTuple "dict_valueiterator" = false := by decide
  simp only [hown, Bool.false_eq_true, if_false]
  show wpAny _ _ (if (Value.ref d == Value.none) = true then _ else _) _ _ s
  rw [if_neg (show ¬ ((Value.ref d == Value.none) = true) from Bool.false_ne_true)]
  refine wpAny_bind (wpAny_pure (wpAny_bind (wpAny_dictEntries hod hdd ?_)))
  have hsz : es.size = kvs.length := by rw [← hp.length]; simp
  rw [if_neg (by rw [hsz]; simp)]
  refine wpAny_bind (wpAny_pure (wpAny_bind (wpAny_dictEpoch hod hdd ?_)))
  rw [if_neg (by simp)]
  refine wpAny_pure ?_
  have hlt : i < kvs.length := (List.getElem?_eq_some_iff.mp hx).1
  have hlt' : i < es.size := by rw [hsz]; exact hlt
  have hval : es[i].val = v := (hp.get? (e := es[i]) (by simp [hlt']) hx).2
  simp only [show ¬ ((i : Int) < 0) from by omega, if_false, Int.toNat_natCast, Array.getElem?_eq_getElem hlt']
  refine wpAny_bind (wpAny_bind (wpAny_typeNameOfWhole_valiter hit.typeIs (wpAny_pure ?_)))
  refine wpAny_bind (wpAny_isOneOf_valiter hit.typeIs ?_)
  show wpAny _ _ (setField (.ref it) 1 (rawInt ((i : Int) + 1)) >>= _) _ _ s
  refine wpAny_bind (wpAny_setField ho hd (by simp) ?_)
  have hit' : (s.heap.update it (Obj.mapFields (·.setIfInBounds 1 (rawInt ((i : Int) + 1))))).IsValIter it d (i + 1) kvs.length ep :=
    ⟨_, Heap.get?_update_self _ ho (Obj.isFreed_of_fields (Obj.data_mapFields hd _)), (Obj.cls_mapFields ..).trans hc, by rw [Obj.data_mapFields hd]; simp [rawInt]⟩
  refine wpAny_bind (wpAny_holding ?_)
  refine wpAny_bind (wpAny_isOneOf_valiter (s := { s with heap := s.heap.update it (Obj.mapFields (·.setIfInBounds 1 (rawInt ((i : Int) + 1)))) }) hit'.typeIs ?_)
  refine wpAny_bind (wpAny_isOneOf_valiter (s := { s with heap := s.heap.update it (Obj.mapFields (·.setIfInBounds 1 (rawInt ((i : Int) + 1)))) }) hit'.typeIs ?_)
  show wpAny _ _ (pure es[i].val) _ _ _
  exact wpAny_pure (wpAny_pure ⟨_, rfl, hval ▸ hQ _ hit' (Heap.SameBut.update ..)⟩)
theorem vi_stop {it d : Addr} {i ep : Nat} {kvs : List (K × Value)} {Q : Option Value → Shared → Prop} (hh : A.handled = none) (hit : s.heap.IsValIter it d i kvs.length ep)
    (hm : s.heap.DictAt knd d kvs ep) (hx : kvs[i]? = none)
    (hE : ∀ h' e, Heap.ExtBut it s.heap h' → (∃ o, h'.get? e = some o ∧ o.cls = .type "StopIteration") → E (.ref e) { s with heap := h' }) :
    wpAny (model prog w) A (callSpecial? (.ref it) (Str.ofString "__next__")) Q E s := by
  obtain ⟨o, ho, hc, hd⟩ := id hit
  obtain ⟨od, es, hod, hcd, hdd, hk, hp, hn⟩ := id hm
  refine wpAny_callSpecial?_slot (name := Str.ofString "__next__") hit.typeIs F.slot_dict_valueiterator_next
    (wpAny_call_entry F.slot_dict_valueiterator_next hit.typeIs F.entry_dict_valueiterator_next ?_ (F.args_dict_valueiterator_next_1 _))
  refine wpAny_bind (wpAny_pure (wpAny_bind (wpAny_bind ?_)))
  refine wpAny_bind (wpAny_typeNameOfWhole_valiter hit.typeIs (wpAny_pure ?_))
  refine wpAny_bind (wpAny_fieldsOf ho hd ?_)
  have hown : Builtin.Dict_items.ownsTuple "dict_valueiterator" = false := by decide
  simp only [hown, Bool.false_eq_true, if_false]
  show wpAny _ _ (if (Value.ref d == Value.none) = true then _ else _) _ _ s
  rw [if_neg (show ¬ ((Value.ref d == Value.none) = true) from Bool.false_ne_true)]
  refine wpAny_bind (wpAny_pure (wpAny_bind (wpAny_dictEntries hod hdd ?_)))
  have hsz : es.size = kvs.length := by rw [← hp.length]; simp
  rw [if_neg (by rw [hsz]; simp)]
  refine wpAny_bind (wpAny_pure (wpAny_bind (wpAny_dictEpoch hod hdd ?_)))
  rw [if_neg (by simp)]
  refine wpAny_pure ?_
  have hge : es.size ≤ i := by rw [hsz]; simpa using hx
  simp only [show ¬ ((i : Int) < 0) from by omega, if_false, Int.toNat_natCast, Array.getElem?_eq_none hge]
  refine wpAny_bind (wpAny_bind (wpAny_typeNameOfWhole_valiter hit.typeIs (wpAny_pure ?_)))
  show wpAny _ _ (setField (.ref it) 0 .none >>= _) _ _ s
  refine wpAny_bind (wpAny_setField ho hd (by simp) ?_)
  show wpAny _ _ (newExc (.type "StopIteration") [] >>= _) _ _ _
  refine wpAny_bind ?_
  simp only [newExc, newTuple]
  refine wpAny_bind (wpAny_newObj_type ?_ (by size_fits))
  refine wpAny_bind (m := firstArgMember _ _) (wpAny_of_eq (a := Value.none) (by first | rfl | (simp only [firstArgMember]; rfl)) ?_)
  refine wpAny_newObj_type ?_ (by size_fits)
  simp only [raiseNew]
  refine wpAny_bind (wpAny_handled ?_)
  rw [show A.in1.handled = none from hh]
  refine wpAny_bind (wpAny_pure (wpAny_throw ?_))
  exact hE _ _ (((Heap.SameBut.update ..).extBut.push _).push _) ⟨_, Heap.get?_push_size _ rfl, rfl⟩
end
end Mine
namespace Mine
set_option maxRecDepth 100000
set_option maxHeartbeats 1000000
open PySem PySem.W PySem.Calls PyProof.Rows PySem.F
abbrev IsFilt (h : Heap) (f it : Addr) : Prop := h.get? f = some { cls := .type "filter", dict := none, data := .fields #[.none, .ref it], slots := #[] }
def kept : Value → Bool | .int n _ => n != 0 | _ => false
def LineV : Value → Prop | .int _ _ => True | .none => True | _ => False
section
variable {prog : Program} {w : World} {K : Type} [DecidableEq K] {knd : KeyKind prog w K} {A : Around} {E : Value → Shared → Prop} {s : Shared}
theorem truthy_line {v : Value} {Q : Bool → Shared → Prop} (hv : LineV v) (hQ : Q (kept v) s) : wpAny (model prog w) A (truthy v) Q E s := by
  cases v with
  | int n t => first | exact PySem.truthy_int hQ | exact PyProof.Rows.truthy_int hQ | exact truthy_int hQ | exact PureInt.truthy_int hQ | exact IntR.truthy_int hQ
  | none => exact fun _ _ _ => hQ
  | _ => exact hv.elim
theorem filt_body {f it d : Addr} {ep : Nat} {kvs : List (K × Value)} (hh : A.handled = none) (hfi : f ≠ it) (hdi : d ≠ it) (hv : ∀ p ∈ kvs, LineV p.2) {R : Result → Shared → Prop} :
    ∀ (k i : Nat) (s : Shared), kvs.length - i = k → i ≤ kvs.length → IsFilt s.heap f it → s.heap.IsValIter it d i kvs.length ep → s.heap.DictAt knd d kvs ep →
    (∀ j v h', j ≤ kvs.length → ((kvs.drop i).map (·.2)).filter kept = v :: ((kvs.drop j).map (·.2)).filter kept → h'.IsValIter it d j kvs.length ep → Heap.SameBut it s.heap h' → R (.ok (.ret v)) { s with heap := h' }) →
    (((kvs.drop i).map (·.2)).filter kept = [] → ∀ h' e, Heap.ExtBut it s.heap h' → (∃ o, h'.get? e = some o ∧ o.cls = .type "StopIteration") → R (.error (.ref e)) { s with heap := h' }) →
    wpAny (model prog w) A.in1 (Builtin.«filter.__next__» ⟨[.ref f], []⟩) (fun fin s' => match fin with | .done f => R (.ok f) s' | .again c' => c'.quiet = true ∧ codeAny (model prog w) A c' R s') (fun e s' => R (.error e) s') s := by
  intro k
  induction k with
  | zero =>
    intro i s hk hi hf hit hm hR hS
    have e : i = kvs.length := by omega
    unfold Builtin.«filter.__next__»
    refine wpAny_bind (wpAny_of_eq (a := (Value.ref f, [])) rfl ?_)
    dsimp only
    refine wpAny_bind (wpAny_field hf rfl (x := .none) rfl ?_)
    refine wpAny_bind (wpAny_field hf rfl (x := .ref it) rfl ?_)
    refine wpAny_bind (vi_stop hh hit hm (by simp [e]) ?_)
    exact hS (by simp [e])
  | succ k ih =>
    intro i s hk hi hf hit hm hR hS
    have hlt : i < kvs.length := by omega
    obtain ⟨⟨key, v⟩, hx⟩ : ∃ p, kvs[i]? = some p := ⟨kvs[i], by simp [hlt]⟩
    have hdrop : kvs.drop i = (key, v) :: kvs.drop (i + 1) := by
      rw [List.drop_eq_getElem_cons hlt]; congr 1; exact (List.getElem?_eq_some_iff.mp hx).2
    have hvv : LineV v := hv (key, v) (List.mem_of_getElem? hx)
    unfold Builtin.«filter.__next__»
    refine wpAny_bind (wpAny_of_eq (a := (Value.ref f, [])) rfl ?_)
    dsimp only
    refine wpAny_bind (wpAny_field hf rfl (x := .none) rfl ?_)
    refine wpAny_bind (wpAny_field hf rfl (x := .ref it) rfl ?_)
    refine wpAny_bind (vi_next hit hm hx fun h' hit' hs' => ?_)
    dsimp only
    refine wpAny_bind (wpAny_holding ?_)
    rw [if_pos (by rfl)]
    refine wpAny_bind (wpAny_rule (truthy_line hvv ?_))
    cases hkv : kept v with
    | true =>
      simp only [if_true]
      exact wpAny_pure (hR (i + 1) v h' (by omega) (by rw [hdrop]; simp [hkv]) hit' hs')
    | false =>
      simp only [Bool.false_eq_true, if_false]
      refine wpAny_pure ⟨plainId_quiet slot_filter_next.plain _, codeAny_builtin entry_filter_next ?_⟩
      rw [Around.under_plainId slot_filter_next.plain _]
      have hd : ((kvs.drop i).map (·.2)).filter kept = ((kvs.drop (i+1)).map (·.2)).filter kept := by rw [hdrop]; simp [hkv]
      refine ih (i + 1) _ (by omega) (by omega) ((hs'.2 f hfi).trans hf) hit' (hm.extBut hs'.extBut hdi) (fun j v h₂ hj e hit₂ hs₂ => ?_) (fun e h₂ x he hx => ?_)
      · exact hR j v h₂ hj (hd.trans e) hit₂ (hs'.trans hs₂)
      · exact hS (hd.trans e) h₂ x (fun b o hb e => he b o hb (hs'.extBut b o hb e)) hx
end
end Mine
namespace Mine
set_option maxRecDepth 100000
set_option maxHeartbeats 1000000
open PySem PySem.W PySem.Calls PyProof.Rows PySem.F
section
variable {prog : Program} {w : World} {K : Type} [DecidableEq K] {knd : KeyKind prog w K} {A : Around} {E : Value → Shared → Prop} {s : Shared}
theorem filt_call {f it d : Addr} {ep i : Nat} {kvs : List (K × Value)} {R : Result → Shared → Prop} (hh : A.handled = none) (hfi : f ≠ it) (hdi : d ≠ it) (hv : ∀ p ∈ kvs, LineV p.2)
    (hi : i ≤ kvs.length) (hf : IsFilt s.heap f it) (hit : s.heap.IsValIter it d i kvs.length ep) (hm : s.heap.DictAt knd d kvs ep)
    (hR : ∀ j v h', j ≤ kvs.length → ((kvs.drop i).map (·.2)).filter kept = v :: ((kvs.drop j).map (·.2)).filter kept → h'.IsValIter it d j kvs.length ep → Heap.SameBut it s.heap h' → R (.ok (.ret v)) { s with heap := h' })
    (hS : ((kvs.drop i).map (·.2)).filter kept = [] → ∀ h' e, Heap.ExtBut it s.heap h' → (∃ o, h'.get? e = some o ∧ o.cls = .type "StopIteration") → R (.error (.ref e)) { s with heap := h' }) :
    codeAny (model prog w) A (.call (.builtin "filter.__next__") ⟨[.ref f], []⟩) R s :=
  codeAny_call_builtin slot_filter_next.plain entry_filter_next (slot_filter_next.check _ _ _ _ _ _ _ _ ⟨_, hf, rfl⟩ (args_filter_next _) (filt_body hh hfi hdi hv _ i s rfl hi hf hit hm hR hS))
theorem filt_next {f it d : Addr} {ep i : Nat} {kvs : List (K × Value)} {Q : Option Value → Shared → Prop} (hh : A.handled = none) (hfi : f ≠ it) (hdi : d ≠ it) (hv : ∀ p ∈ kvs, LineV p.2)
    (hi : i ≤ kvs.length) (hf : IsFilt s.heap f it) (hit : s.heap.IsValIter it d i kvs.length ep) (hm : s.heap.DictAt knd d kvs ep)
    (hR : ∀ j v h', j ≤ kvs.length → ((kvs.drop i).map (·.2)).filter kept = v :: ((kvs.drop j).map (·.2)).filter kept → h'.IsValIter it d j kvs.length ep → Heap.SameBut it s.heap h' → Q (some v) { s with heap := h' })
    (hS : ((kvs.drop i).map (·.2)).filter kept = [] → ∀ h', Heap.ExtBut it s.heap h' → Q none { s with heap := h' }) :
    wpAny (model prog w) A (pyNext (.ref f)) Q E s := by
  have hT : s.TypeIs (.ref f) "filter" := ⟨_, hf, rfl⟩
  unfold pyNext
  refine wpAny_bind (wpAny_attempt (wpAny_callSpecial?_slot (name := Str.ofString "__next__") hT slot_filter_next ?_))
  refine wpAny_call (filt_call hh hfi hdi hv hi hf hit hm (fun j v h' hj e hit' hs' => ?_) (fun e h' x he hx => ?_))
  · exact wpAny_pure (hR j v h' hj e hit' hs')
  · obtain ⟨o, ho, hc⟩ := hx
    refine wpAny_bind (wpAny_isInstance (T := "StopIteration") (b := true) ⟨o, ho, hc⟩ isSubtype_stop ?_)
    exact wpAny_pure (hS e _ he)
theorem filt_iter {f it : Addr} {Q : Value → Shared → Prop} (hf : IsFilt s.heap f it) (h : Q (.ref f) s) : wpAny (model prog w) A (pyIter (.ref f)) Q E s := by
  have hT : s.TypeIs (.ref f) "filter" := ⟨_, hf, rfl⟩
  refine wpAny_pyIter_slot hT slot_filter_iter (wpAny_call_entry slot_filter_iter hT entry_filter_iter ?_ (args_filter_iter _))
  show wpAny _ _ (ret (.ref f)) _ _ s
  exact wpAny_pure ⟨_, rfl, "filter", _, hT, slot_filter_next.lookup, h⟩
theorem filt_make {v d : Addr} {kvs : List (K × Value)} {ep : Nat} {Q : Value → Shared → Prop} (hv : s.heap.IsValuesView v d) (hm : s.heap.DictAt knd d kvs ep)
    (hQ : ∀ h', IsFilt h' (s.heap.objs.size + 1) s.heap.objs.size → h'.IsValIter s.heap.objs.size d 0 kvs.length ep → h'.objs.size = s.heap.objs.size + 2 → (∀ b o, s.heap.get? b = some o → h'.get? b = some o) → Q (.ref (s.heap.objs.size + 1)) { s with heap := h' }) :
    wpAny (model prog w) A (call (.type "filter") [.none, .ref v]) Q E s := by
  have g : MeetsIn prog w (Builtin.«filter.__new__» ⟨[.type "filter", .none, .ref v], []⟩) (fun _ R s => (s.heap.IsValuesView v d ∧ s.heap.DictAt knd d kvs ep) ∧
      R (.ok (.ret (.ref (s.heap.objs.size + 1)))) { s with heap := (s.heap.push { cls := .type "dict_valueiterator", data := .fields #[.ref d, .int 0 0, .int kvs.length 0, .int ep 0] }).push { cls := .type "filter", data := .fields #[.none, .ref s.heap.objs.size] } }) :=
    .of_wp fun A R s ⟨⟨hv, hm⟩, h⟩ => by
      unfold Builtin.«filter.__new__»
      have hsub := sub_filter
      refine wpAny_bind ?_
      unfold Builtin.SmallTypes.newClass
      dsimp only
      refine wpAny_bind (wpAny_of_eq (a := true) rfl ?_)
      refine wpAny_bind (wpAny_of_eq sub_filter ?_)
      refine wpAny_pure ?_
      dsimp only
      refine wpAny_bind (wpAny_of_eq (a := ()) rfl ?_)
      refine wpAny_bind (wpAny_of_eq (a := ()) rfl ?_)
      refine wpAny_bind (wpAny_pyIter_values hv hm ?_)
      refine wpAny_bind ?_
      show wpAny _ _ (newObj (.type "filter") (.fields #[.none, .ref s.heap.objs.size])) _ _ _
      refine wpAny_newObj_type ?_
      refine wpAny_pure ⟨_, rfl, ?_⟩
      rw [Heap.size_push]; exact h
  refine callType_newIn called_filter (by decide) (typeCall_filter _ _) (newCall_filter _ _) (fun obj => F.args_object_init_3 obj _ _) entry_filter_new g ⟨⟨hv, hm⟩, ?_⟩
  have hz : (s.heap.push { cls := .type "dict_valueiterator", data := .fields #[.ref d, .int 0 0, .int kvs.length 0, .int ep 0] }).objs.size = s.heap.objs.size + 1 := Heap.size_push ..
  have he : IsFilt ((s.heap.push { cls := .type "dict_valueiterator", data := .fields #[.ref d, .int 0 0, .int kvs.length 0, .int ep 0] }).push { cls := .type "filter", data := .fields #[.none, .ref s.heap.objs.size] }) (s.heap.objs.size + 1) s.heap.objs.size := by
    have := Heap.get?_push_size (s.heap.push { cls := .type "dict_valueiterator", data := .fields #[.ref d, .int 0 0, .int kvs.length 0, .int ep 0] })
      (o := { cls := .type "filter", data := .fields #[.none, .ref s.heap.objs.size] }) rfl
    rw [hz] at this; exact this
  exact ⟨⟨_, he, rfl⟩, hQ _ he ⟨_, Heap.get?_push_of_some _ (Heap.get?_push_size _ rfl), rfl, rfl⟩ (by rw [Heap.size_push, hz]) fun b o x => Heap.get?_push_of_some _ (Heap.get?_push_of_some _ x)⟩
end
end Mine
namespace Mine
set_option maxRecDepth 100000
set_option maxHeartbeats 1000000
open PySem PySem.W PySem.Calls PyProof.Rows PySem.F
/-- M is the greatest of the ints of a list of values -/
def MaxIn (fl : List Value) (v : Value) : Prop := ∃ M t, v = .int M t ∧ v ∈ fl ∧ ∀ x u, Value.int x u ∈ fl → x ≤ M
def remAt {K : Type} (kvs : List (K × Value)) (i : Nat) : List Value := ((kvs.drop i).map (·.2)).filter kept
theorem kept_int {v : Value} (h : kept v = true) : ∃ n t, v = .int n t ∧ n ≠ 0 := by
  cases v with
  | int n t => exact ⟨n, t, rfl, by simpa [kept] using h⟩
  | _ => simp [kept] at h
section
variable {prog : Program} {w : World} {K : Type} [DecidableEq K] {knd : KeyKind prog w K} {A : Around} {E : Value → Shared → Prop} {s : Shared}
theorem gt_ints {a b : Int} {t u : Tok} {Q : Value → Shared → Prop} (h : Q (.bool (decide (a > b))) s) : wpAny (model prog w) A (richCompare .Gt (.int a t) (.int b u)) Q E s := by
  have c := CmpOf.ints_gt (prog := prog) (w := w) (A := A) (P := fun i v => (i = 0 ∧ v = .int a t) ∨ (i = 1 ∧ v = .int b u)) (fun i => if i = 0 then a else b)
    (by rintro i v (⟨rfl, rfl⟩ | ⟨rfl, rfl⟩); exact ⟨t, by simp⟩; exact ⟨u, by simp⟩)
  exact c 0 1 _ _ s Q E (.inl ⟨rfl, rfl⟩) (.inr ⟨rfl, rfl⟩) (by simpa using h)
theorem maxd_loop {f it d S : Addr} {ep : Nat} {kvs : List (K × Value)} {dv : Value} {fl : List Value} (hh : A.handled = none) (hfi : f ≠ it) (hdi : d ≠ it) (hv : ∀ p ∈ kvs, LineV p.2)
    (hSf : S ≠ f) (hSi : S ≠ it) (hSd : S ≠ d) {R : Result → Shared → Prop} :
    ∀ (k i : Nat) (s : Shared) (pre : List Value) (vb : Value) (c : Nat), (remAt kvs i).length = k → i ≤ kvs.length → pre ++ remAt kvs i = fl → MaxIn pre vb →
    IsFilt s.heap f it → s.heap.IsValIter it d i kvs.length ep → s.heap.DictAt knd d kvs ep →
    s.heap.get? S = some { cls := .type "list", dict := none, data := .seq #[vb, vb] c, slots := #[] } →
    (∀ v h' tk, MaxIn fl v → (∀ b o, b ≠ it → b ≠ S → s.heap.get? b = some o → h'.get? b = some o) → R (.ok (.ret v)) { s with heap := h', toks := tk }) →
    codeAny (model prog w) A (.builtin "max.loop" ⟨[.ref f, .none, .ref S], [("default", dv)]⟩) R s := by
  have hname : (toString "max" ++ toString ".loop" : String) = "max.loop" := by decide
  intro k
  induction k with
  | zero =>
    intro i s pre vb c hk hi hfl hmx hf hit hm hS hR
    have hr : remAt kvs i = [] := List.length_eq_zero_iff.mp hk
    refine codeAny_builtin F.entry_max_loop ?_
    rw [Around.under_plainId F.plain_max_loop _]
    show wpAny _ A.in1 (seqItems? (.ref S) >>= _) _ _ s
    refine wpAny_bind (wpAny_seqItems hS rfl ?_)
    show wpAny _ A.in1 (tryCatch (pyNext (.ref f)) _ >>= _) _ _ s
    refine wpAny_bind (wpAny_tryCatch (filt_next (A := A.in1) hh hfi hdi hv hi hf hit hm (fun j v h' hj e _ _ => ?_) (fun _ h' he => ?_)))
    · have e' : remAt kvs i = _ := e
      rw [hr] at e'; exact nomatch e'
    · have hS' := he S _ hSi hS
      show wpAny _ A.in1 (updateSeq S (fun _ => #[]) >>= _) _ _ _
      refine wpAny_bind ?_
      refine wpAny_updateSeq hS' rfl (wpAny_bind (wpAny_letGo (wpAny_pure ?_)))
      rw [hr, List.append_nil] at hfl
      refine hR vb _ s.toks (hfl ▸ hmx) fun b o hbi hbS e => (Heap.get?_update_other _ _ (Ne.symm hbS)).trans (he b o hbi e)
  | succ k ih =>
    intro i s pre vb c hk hi hfl hmx hf hit hm hS hR
    refine codeAny_builtin F.entry_max_loop ?_
    rw [Around.under_plainId F.plain_max_loop _]
    show wpAny _ A.in1 (seqItems? (.ref S) >>= _) _ _ s
    refine wpAny_bind (wpAny_seqItems hS rfl ?_)
    show wpAny _ A.in1 (tryCatch (pyNext (.ref f)) _ >>= _) _ _ s
    refine wpAny_bind (wpAny_tryCatch (filt_next (A := A.in1) hh hfi hdi hv hi hf hit hm (fun j v h' hj e hit' hs' => ?_) (fun e h' he => ?_)))
    · have e' : remAt kvs i = v :: remAt kvs j := e
      have hkv : kept v = true := (List.mem_filter.mp (show v ∈ remAt kvs i by rw [e']; exact .head _)).2
      obtain ⟨x, t, rfl, hx0⟩ := kept_int hkv
      obtain ⟨M, u, rfl, hMin, hMax⟩ := hmx
      have hS' := (hs'.2 S hSi).trans hS
      have hf' := (hs'.2 f hfi).trans hf
      have hm' := hm.extBut hs'.extBut hdi
      have hlen : (remAt kvs j).length = k := by rw [e'] at hk; simpa using hk
      have hfl' : (pre ++ [.int x t]) ++ remAt kvs j = fl := by rw [← hfl, e']; simp
      show wpAny _ A.in1 (tryCatch (holding [Value.int x t, Value.int x t] (richCompare .Gt (.int x t) (.int M u) >>= _)) _ >>= _) _ _ _
      refine wpAny_bind (wpAny_tryCatch (wpAny_holding (wpAny_bind (gt_ints ?_))))
      refine wpAny_bind (wpAny_holding (wpAny_truthy_bool ?_))
      refine wpAny_bind (wpAny_letGo (wpAny_pure ?_))
      by_cases hgt : x > M
      · simp only [hgt, decide_true, if_true]
        refine wpAny_bind ?_
        refine wpAny_updateSeq hS' rfl (wpAny_bind (wpAny_letGo ?_))
        rw [hname]
        refine wpAny_pure ⟨plainId_quiet F.plain_max_loop _, ih j _ (pre ++ [.int x t]) (.int x t) _ hlen hj hfl' ⟨x, t, rfl, by simp, fun y q hy => ?_⟩ ?_ ?_ ?_ (Heap.get?_update_self _ hS' rfl) fun v' h'' tk'' hP' hk'' => ?_⟩
        · rcases List.mem_append.mp hy with h | h
          · have := hMax y q h; omega
          · simp at h; omega
        · exact (Heap.get?_update_other _ _ hSf).trans hf'
        · exact hit'.at fun o e => (Heap.get?_update_other _ _ hSi).trans e
        · exact hm'.at' fun o e => (Heap.get?_update_other _ _ hSd).trans e
        · exact hR v' h'' tk'' hP' fun b o hbi hbS e => hk'' b o hbi hbS ((Heap.get?_update_other _ _ (Ne.symm hbS)).trans ((hs'.2 b hbi).trans e))
      · simp only [hgt, decide_false, Bool.false_eq_true, if_false]
        refine wpAny_bind (wpAny_letGo ?_)
        rw [hname]
        refine wpAny_pure ⟨plainId_quiet F.plain_max_loop _, ih j _ (pre ++ [.int x t]) (.int M u) c hlen hj hfl' ⟨M, u, rfl, by simp [hMin], fun y q hy => ?_⟩ hf' hit' hm' hS' fun v' h'' tk'' hP' hk'' => ?_⟩
        · rcases List.mem_append.mp hy with h | h
          · exact hMax y q h
          · simp at h; omega
        · exact hR v' h'' tk'' hP' fun b o hbi hbS e => hk'' b o hbi hbS ((hs'.2 b hbi).trans e)
    · have e' : remAt kvs i = [] := e
      rw [e'] at hk; exact nomatch hk
end
end Mine
namespace Mine
set_option maxRecDepth 100000
set_option maxHeartbeats 1000000
open PySem PySem.W PySem.Calls PyProof.Rows PySem.F
theorem args_maxd (a b : Value) : argsOk "max" ⟨[a], [(Str.ofString "default", b)]⟩ := by unfold argsOk; kernel_rfl
section
variable {prog : Program} {w : World} {K : Type} [DecidableEq K] {knd : KeyKind prog w K} {A : Around} {E : Value → Shared → Prop} {s : Shared}
theorem maxd_first {f it d S : Addr} {ep : Nat} {kvs : List (K × Value)} {dv : Value} {c : Nat} (hh : A.handled = none) (hfi : f ≠ it) (hdi : d ≠ it) (hv : ∀ p ∈ kvs, LineV p.2)
    (hSf : S ≠ f) (hSi : S ≠ it) (hSd : S ≠ d) {R : Result → Shared → Prop}
    (hf : IsFilt s.heap f it) (hit : s.heap.IsValIter it d 0 kvs.length ep) (hm : s.heap.DictAt knd d kvs ep)
    (hS : s.heap.get? S = some { cls := .type "list", dict := none, data := .seq #[] c, slots := #[] })
    (hR : ∀ v h' tk, (remAt kvs 0 = [] ∧ v = dv) ∨ MaxIn (remAt kvs 0) v → (∀ b o, b ≠ it → b ≠ S → s.heap.get? b = some o → h'.get? b = some o) → R (.ok (.ret v)) { s with heap := h', toks := tk }) :
    codeAny (model prog w) A (.builtin "max.loop" ⟨[.ref f, .none, .ref S], [("default", dv)]⟩) R s := by
  have hname : (toString "max" ++ toString ".loop" : String) = "max.loop" := by decide
  refine codeAny_builtin F.entry_max_loop ?_
  rw [Around.under_plainId F.plain_max_loop _]
  show wpAny _ A.in1 (seqItems? (.ref S) >>= _) _ _ s
  refine wpAny_bind (wpAny_seqItems hS rfl ?_)
  show wpAny _ A.in1 (tryCatch (pyNext (.ref f)) _ >>= _) _ _ s
  refine wpAny_bind (wpAny_tryCatch (filt_next (A := A.in1) hh hfi hdi hv (Nat.zero_le _) hf hit hm (fun j v h' hj e hit' hs' => ?_) (fun e h' he => ?_)))
  · have e' : remAt kvs 0 = v :: remAt kvs j := e
    have hkv : kept v = true := (List.mem_filter.mp (show v ∈ remAt kvs 0 by rw [e']; exact .head _)).2
    obtain ⟨x, t, rfl, hx0⟩ := kept_int hkv
    have hS' := (hs'.2 S hSi).trans hS
    show wpAny _ A.in1 (updateSeq S (fun _ => #[Value.int x t, Value.int x t]) >>= _) _ _ _
    refine wpAny_bind ?_
    refine wpAny_updateSeq hS' rfl ?_
    rw [hname]
    refine wpAny_pure ⟨plainId_quiet F.plain_max_loop _, maxd_loop (knd := knd) (ep := ep) (fl := remAt kvs 0) hh hfi hdi hv hSf hSi hSd _ j _ [.int x t] (.int x t) _ rfl hj (by rw [e']; rfl) ⟨x, t, rfl, by simp, fun y q hy => ?_⟩ ?_ ?_ ?_ (Heap.get?_update_self _ hS' rfl) fun v' h'' tk'' hP' hk'' => ?_⟩
    · simp at hy; omega
    · exact (Heap.get?_update_other _ _ hSf).trans ((hs'.2 f hfi).trans hf)
    · exact hit'.at fun o e => (Heap.get?_update_other _ _ hSi).trans e
    · exact (hm.extBut hs'.extBut hdi).at' fun o e => (Heap.get?_update_other _ _ hSd).trans e
    · exact hR v' h'' tk'' (.inr hP') fun b o hbi hbS e => hk'' b o hbi hbS ((Heap.get?_update_other _ _ (Ne.symm hbS)).trans ((hs'.2 b hbi).trans e))
  · have e' : remAt kvs 0 = [] := e
    refine wpAny_bind (wpAny_rule (wpAny_pure ?_))
    exact hR dv h' s.toks (.inl ⟨e', rfl⟩) fun b o hbi _ e => he b o hbi e
theorem call_function_tree_kw {id : String} {b : Builtin} {args : List Value} {kw : List (Str × Value)} {Q : Value → Shared → Prop} (hk : builtinKind id = none) (hp : plainId id = true)
    (hb : entryFor table id = some b) (ha : argsOk id ⟨args, kw⟩)
    (hc : wpAny (model prog w) A.in1 (b ⟨args, kw⟩) (fun fin s' => match fin with
      | .done f => (match (Except.ok f : Result) with | .ok (.ret v) => Q v s' | .ok _ => False | .error e => E e s')
      | .again c' => c'.quiet = true ∧ codeAny (model prog w) A c' (fun r s' => match r with | .ok (.ret v) => Q v s' | .ok _ => False | .error e => E e s') s') E s) :
    wpAny (model prog w) A (call (.builtin id) args kw) Q E s := by
  refine wpAny_call (codeAny_call_builtin hp hb ?_)
  simp only [checkBuiltinCall, hk]
  cases hsig : Manifest.signature? id with
  | none => exact wpAny_pure hc
  | some sig =>
    have h2 : Bind.checkArgs id sig ⟨args, kw⟩ = pure () := by simpa only [argsOk, hsig] using ha
    show wpAny _ A.in1 (Bind.checkArgs id sig ⟨args, kw⟩) _ _ s
    rw [h2]; exact wpAny_pure hc
theorem maxd_call {f it d : Addr} {ep : Nat} {kvs : List (K × Value)} {dv : Value} {Q : Value → Shared → Prop} (hh : A.handled = none) (hfi : f ≠ it) (hdi : d ≠ it) (hv : ∀ p ∈ kvs, LineV p.2)
    (hf : IsFilt s.heap f it) (hit : s.heap.IsValIter it d 0 kvs.length ep) (hm : s.heap.DictAt knd d kvs ep)
    (hQ : ∀ v h' tk, (remAt kvs 0 = [] ∧ v = dv) ∨ MaxIn (remAt kvs 0) v → (∀ b o, b ≠ it → s.heap.get? b = some o → h'.get? b = some o) → Q v { s with heap := h', toks := tk }) :
    wpAny (model prog w) A (call (.builtin "max") [.ref f] [(Str.ofString "default", dv)]) Q E s := by
  have hname : (toString "max" ++ toString ".loop" : String) = "max.loop" := by decide
  refine call_function_tree_kw F.kind_max F.plain_max F.entry_max (args_maxd _ _) ?_
  show wpAny _ A.in1 (Builtin.Builtins.bindParams "max" ["key", "default"] 0 ⟨[], [(Str.ofString "default", dv)]⟩ >>= _) _ _ s
  refine wpAny_bind (wpAny_of_eq (show Builtin.Builtins.bindParams "max" ["key", "default"] 0 ⟨[], [(Str.ofString "default", dv)]⟩ = pure [none, some dv] from rfl) ?_)
  refine wpAny_bind (wpAny_pure ?_)
  refine wpAny_bind (filt_iter hf ?_)
  refine wpAny_bind (wpAny_newObj_type ?_)
  rw [hname]
  have lf : f < s.heap.objs.size := Heap.lt_size hf
  have li : it < s.heap.objs.size := by obtain ⟨o, ho, _⟩ := hit; exact Heap.lt_size ho
  have ld : d < s.heap.objs.size := by obtain ⟨o, _, ho, _⟩ := hm; exact Heap.lt_size ho
  refine wpAny_pure ⟨plainId_quiet F.plain_max_loop _, maxd_first (knd := knd) (ep := ep) (S := s.heap.objs.size) hh hfi hdi hv (Nat.ne_of_gt lf) (Nat.ne_of_gt li) (Nat.ne_of_gt ld) (Heap.get?_push_of_some _ hf) (hit.at fun o e => Heap.get?_push_of_some _ e) (hm.at' fun o e => Heap.get?_push_of_some _ e) (Heap.get?_push_size _ rfl) fun v h' tk hP hk => ?_⟩
  exact hQ v h' tk hP fun b o hbw e => hk b o hbw (Nat.ne_of_lt (Heap.lt_size e)) (Heap.get?_push_of_some _ e)
end
end Mine
namespace Mine
set_option maxRecDepth 100000
set_option maxHeartbeats 1000000
open PySem PySem.W PySem.Calls PyProof.Rows PySem.F
theorem no_contains_values : typeLookup (.type "dict_values") "__contains__" = pure none := by rw [typeLookup_type, builtinLookup_eq_fast]; kernel_rfl
theorem entry_contains_iter : entryFor table "proto.contains_iter" = some Builtin.«proto.contains_iter» := entryFor_of_tree (by kernel_rfl)
theorem plain_contains_iter : plainId "proto.contains_iter" = true := by decide +kernel
def isNoneV : Value → Bool | .none => true | _ => false
section
variable {prog : Program} {w : World} {K : Type} [DecidableEq K] {knd : KeyKind prog w K} {A : Around} {E : Value → Shared → Prop} {s : Shared}
theorem eq_line {v : Value} {Q : Bool → Shared → Prop} (hv : LineV v) (hQ : Q (isNoneV v) s) : wpAny (model prog w) A (eqBool v .none) Q E s := by
  cases v with
  | int n t => exact SeqAt.EqAt.int_none n t prog w E Q hQ
  | none => 
    unfold eqBool
    refine wpAny_holding ?_
    rw [if_pos (by rfl)]
    exact wpAny_bind (wpAny_rule (wpAny_pure hQ))
  | _ => exact hv.elim
theorem inV_code {it d : Addr} {ep : Nat} {kvs : List (K × Value)} (hh : A.handled = none) (hdi : d ≠ it) (hv : ∀ p ∈ kvs, LineV p.2) {R : Result → Shared → Prop} :
    ∀ (k i : Nat) (s : Shared), kvs.length - i = k → i ≤ kvs.length → s.heap.IsValIter it d i kvs.length ep → s.heap.DictAt knd d kvs ep →
    (∀ h', Heap.ExtBut it s.heap h' → R (.ok (.ret (.bool ((kvs.drop i).any fun p => isNoneV p.2)))) { s with heap := h' }) →
    codeAny (model prog w) A (.builtin "proto.contains_iter" ⟨[.ref it, .none], []⟩) R s := by
  intro k
  induction k with
  | zero =>
    intro i s hk hi hit hm hR
    have e : i = kvs.length := by omega
    refine codeAny_builtin entry_contains_iter ?_
    rw [Around.under_plainId plain_contains_iter _]
    show wpAny _ A.in1 (pyNext (.ref it) >>= _) _ _ s
    refine wpAny_bind (wpAny_pyNext_values_end (A := A.in1) hh hit hm (by simp [e]) fun h' he => ?_)
    refine wpAny_bind (wpAny_rule (wpAny_pure ?_))
    simpa [e] using hR h' he
  | succ k ih =>
    intro i s hk hi hit hm hR
    have hlt : i < kvs.length := by omega
    obtain ⟨⟨key, v⟩, hx⟩ : ∃ p, kvs[i]? = some p := ⟨kvs[i], by simp [hlt]⟩
    have hdrop : kvs.drop i = (key, v) :: kvs.drop (i + 1) := by
      rw [List.drop_eq_getElem_cons hlt]; congr 1; exact (List.getElem?_eq_some_iff.mp hx).2
    have hvv : LineV v := hv (key, v) (List.mem_of_getElem? hx)
    refine codeAny_builtin entry_contains_iter ?_
    rw [Around.under_plainId plain_contains_iter _]
    show wpAny _ A.in1 (pyNext (.ref it) >>= _) _ _ s
    refine wpAny_bind (wpAny_pyNext_values_item (A := A.in1) hit hm hx fun h' hit' hs' => ?_)
    dsimp only
    refine wpAny_bind (eq_line hvv ?_)
    cases hn : isNoneV v with
    | true =>
      simp only [if_true]
      refine wpAny_bind (wpAny_rule (wpAny_pure ?_))
      have := hR h' hs'.extBut
      rw [hdrop] at this
      simpa [hn] using this
    | false =>
      simp only [Bool.false_eq_true, if_false]
      refine wpAny_pure ⟨plainId_quiet plain_contains_iter _, ih (i + 1) _ (by omega) (by omega) hit' (hm.extBut hs'.extBut hdi) fun h₂ he => ?_⟩
      have := hR h₂ (fun b o hb e => he b o hb (hs'.extBut b o hb e))
      rw [hdrop] at this
      simpa [hn] using this
theorem inV {v d : Addr} {ep : Nat} {kvs : List (K × Value)} {Q : Bool → Shared → Prop} (hh : A.handled = none) (hl : ∀ p ∈ kvs, LineV p.2) (hv : s.heap.IsValuesView v d) (hm : s.heap.DictAt knd d kvs ep)
    (hQ : ∀ h', (∀ b o, s.heap.get? b = some o → h'.get? b = some o) → Q (kvs.any fun p => isNoneV p.2) { s with heap := h' }) :
    wpAny (model prog w) A (contains (.ref v) .none) Q E s := by
  unfold contains
  refine wpAny_holding ?_
  rw [stdlibNamesSay?_ref]
  dsimp only
  refine wpAny_bind (wpAny_specialOf hv.typeIs no_contains_values ?_)
  rw [if_neg (by decide)]
  refine wpAny_bind ?_
  unfold callSpecialUnlessNone?
  refine wpAny_bind (wpAny_specialOf hv.typeIs no_contains_values (wpAny_pure ?_))
  dsimp only
  refine wpAny_bind (wpAny_rule ?_)
  have ld : d < s.heap.objs.size := by obtain ⟨o, _, ho, _⟩ := hm; exact Heap.lt_size ho
  refine wpAny_bind (wpAny_tryCatch (wpAny_pyIter_values hv hm ?_))
  refine wpAny_bind ?_
  refine wpAny_runValue (inV_code (knd := knd) (ep := ep) (it := s.heap.objs.size) hh (Nat.ne_of_lt ld) hl _ 0 _ rfl (Nat.zero_le _) ⟨_, Heap.get?_push_size _ rfl, rfl, rfl⟩ (hm.at' fun o e => Heap.get?_push_of_some _ e) fun h' he => ?_)
  refine wpAny_pure ?_
  exact hQ h' fun b o e => he b o (Nat.ne_of_lt (Heap.lt_size e)) (Heap.get?_push_of_some _ e)
end
end Mine
namespace Mine
set_option maxRecDepth 100000
set_option maxHeartbeats 1000000
open PySem PySem.W PySem.Calls PyProof.Rows PySem.F
abbrev viewObj (d : Addr) : Obj := { cls := .type "dict_values", data := .fields #[.ref d] }
abbrev filtObj (it : Addr) : Obj := { cls := .type "filter", dict := none, data := .fields #[.none, .ref it], slots := #[] }
def ValIt (o : Obj) (d : Addr) (i n ep : Nat) : Prop := ∀ (h : Heap) (it : Addr), h.get? it = some o → h.IsValIter it d i n ep
section
variable {prog : Program} {w : World} {K : Type} [DecidableEq K] {knd : KeyKind prog w K} {A : Around} {E : Value → Shared → Prop} {s : Shared} {h₀ : Heap} {L V D : Addr} {m : Str → Option Value} {rest : List (Addr × Obj)} {oD : Obj} {kvs : List (K × Value)} {ep : Nat}
theorem view_at {h : Heap} (e : h.get? V = some (viewObj D)) : h.IsValuesView V D := ⟨_, e, rfl, rfl⟩
theorem filt_makeN {Q : Value → Shared → Prop} (F : Fr h₀ L s.heap m) (N : News h₀ L s.heap ((V, viewObj D) :: (D, oD) :: rest)) (hat : KdkAt knd oD kvs ep)
    (hQ : ∀ f it oit h', Fr h₀ L h' m → News h₀ L h' ((f, filtObj it) :: (it, oit) :: (V, viewObj D) :: (D, oD) :: rest) → ValIt oit D 0 kvs.length ep → f ≠ it → D ≠ it → (∀ p ∈ (V, viewObj D) :: (D, oD) :: rest, p.1 ≠ it) → Q (.ref f) { s with heap := h' }) :
    wpAny (model prog w) A (call (.type "filter") [.none, .ref V]) Q E s := by
  have hD := hat.dictAt (N _ (.tail _ (.head _))).1
  refine filt_make (view_at (N _ (.head _)).1) hD fun h' hf hit hz hk => ?_
  obtain ⟨oit, e, ec, ed⟩ := id hit
  refine hQ _ s.heap.objs.size oit h' (F.keeps hk) (fun p hp => ?_) (fun h it g => ⟨oit, g, ec, ed⟩) (Nat.succ_ne_self _) (Nat.ne_of_lt hD.lt_size) fun p hp => Nat.ne_of_lt (Heap.lt_size (N p hp).1)
  rcases List.mem_cons.mp hp with rfl | hp
  · exact ⟨hf, fun q => by have hl := F.ns.lt; rw [← q] at hl; exact absurd hl (by simp), ktu_new F (Nat.le_succ _)⟩
  rcases List.mem_cons.mp hp with rfl | hp
  · exact ⟨e, fun q => by have hl := F.ns.lt; rw [← q] at hl; exact absurd hl (by simp), ktu_new F (Nat.le_refl _)⟩
  · exact ⟨hk _ _ (N p hp).1, (N p hp).2⟩
theorem maxd_callN {f it : Addr} {oit : Obj} {dv : Value} {Q : Value → Shared → Prop} (hh : A.handled = none) (F : Fr h₀ L s.heap m) (N : News h₀ L s.heap ((f, filtObj it) :: (it, oit) :: (V, viewObj D) :: (D, oD) :: rest)) (hat : KdkAt knd oD kvs ep)
    (hit : ValIt oit D 0 kvs.length ep) (hfi : f ≠ it) (hdi : D ≠ it) (off : ∀ p ∈ (V, viewObj D) :: (D, oD) :: rest, p.1 ≠ it) (hv : ∀ p ∈ kvs, LineV p.2)
    (hQ : ∀ v h' tk, (remAt kvs 0 = [] ∧ v = dv) ∨ MaxIn (remAt kvs 0) v → Fr h₀ L h' m → News h₀ L h' ((D, oD) :: rest) → Q v { s with heap := h', toks := tk }) :
    wpAny (model prog w) A (call (.builtin "max") [.ref f] [(Str.ofString "default", dv)]) Q E s := by
  have hD := hat.dictAt (N _ (.tail _ (.tail _ (.tail _ (.head _))))).1
  have hI := N _ (.tail _ (.head _))
  refine maxd_call (knd := knd) hh hfi hdi hv (N _ (.head _)).1 (hit _ _ hI.1) hD fun v h' tk hP hk => hQ v h' tk hP ?_ ?_
  · exact LCg.fr_but F (fun b o hb e => hk b o (by simpa using hb) e) (Ne.symm hI.2.1) hI.2.2
  · exact fun p hp => ⟨hk _ _ (off p (.tail _ hp)) (N p (.tail _ (.tail _ (.tail _ hp)))).1, (N p (.tail _ (.tail _ (.tail _ hp)))).2⟩
theorem inVN {Q : Bool → Shared → Prop} (hh : A.handled = none) (F : Fr h₀ L s.heap m) (N : News h₀ L s.heap ((V, viewObj D) :: (D, oD) :: rest)) (hat : KdkAt knd oD kvs ep) (hv : ∀ p ∈ kvs, LineV p.2)
    (hQ : ∀ h', Fr h₀ L h' m → News h₀ L h' ((D, oD) :: rest) → Q (kvs.any fun p => isNoneV p.2) { s with heap := h' }) :
    wpAny (model prog w) A (contains (.ref V) .none) Q E s := by
  have hD := hat.dictAt (N _ (.tail _ (.head _))).1
  refine inV (knd := knd) hh hv (view_at (N _ (.head _)).1) hD fun h' hk => hQ h' (F.keeps hk) (fun p hp => N.grown hk p (.tail _ hp))
end
end Mine
namespace Mine
set_option maxRecDepth 100000
set_option maxHeartbeats 1000000
open PySem PySem.W PySem.Calls PyProof.Rows
theorem str_len {M : Int} (h0 : 0 < M) (h1 : M < 1073741824) : ∃ X : Str, Str.ofString (toString M) = X ∧ M.natAbs.log2 < 1920 ∧ 1 ≤ X.length ∧ X.length ≤ 10 ∧ 10 ^ (X.length - 1) ≤ M ∧ M < 10 ^ X.length := by
  obtain ⟨m, rfl⟩ : ∃ m : Nat, M = (m : Int) := ⟨M.toNat, by omega⟩
  refine ⟨_, rfl, ?_, ?_⟩
  · show m.log2 < 1920
    have : m.log2 < 30 := (Nat.log2_lt (by omega)).mpr (by omega)
    omega
  have e : (Str.ofString (toString ((m : Nat) : Int))).length = (Nat.toDigits 10 m).length := by
    have := congrArg Str.length (text_ofNat m)
    simpa [Str.length] using this
  rw [e]
  have g1 := tDigits_len_ge 10 m
  have g2 : (Nat.toDigits 10 m).length ≤ 10 := digits10_le (by decide) (Nat.lt_trans (by omega : m < 1073741824) (by decide))
  generalize hL : (Nat.toDigits 10 m).length = n at g1 g2
  refine ⟨g1, g2, ?_, ?_⟩
  · have q : 10 ^ (n - 1) ≤ m := by
      by_cases hk : n = 1
      · subst hk; simp; omega
      · by_cases h : 10 ^ (n - 1) ≤ m
        · exact h
        · have := digits10_le (k := n - 1) (n := m) (by omega) (by omega)
          omega
    have h3 : (10 : Int) ^ (n - 1) = ((10 ^ (n - 1) : Nat) : Int) := by simp
    rw [h3]; omega
  · have q : m < 10 ^ n := by
      by_cases h : m < 10 ^ n
      · exact h
      · have := digits10_ge (k := n) (n := m) (by omega)
        omega
    have h3 : (10 : Int) ^ n = ((10 ^ n : Nat) : Int) := by simp
    rw [h3]; omega
theorem in_rem {kvs : List (Int × Value)} {M : Int} {t : Tok} : Value.int M t ∈ remAt kvs 0 ↔ M ≠ 0 ∧ ∃ k, (k, Value.int M t) ∈ kvs := by
  unfold remAt
  rw [List.drop_zero, List.mem_filter, List.mem_map]
  constructor
  · rintro ⟨⟨⟨k, v⟩, hp, e⟩, hk⟩
    have e' : v = Value.int M t := e
    subst e'
    exact ⟨by simpa [kept] using hk, k, hp⟩
  · rintro ⟨h, k, hp⟩
    exact ⟨⟨_, hp, rfl⟩, by simpa [kept] using h⟩
theorem lin_max {kvs : List (Int × Value)} {ns : List Int} (hns : ∀ x, x ≠ 0 → ((∃ k t, (k, Value.int x t) ∈ kvs) ↔ x ∈ ns)) (hb : ∀ v ∈ ns, 0 ≤ v ∧ v < 1073741824) {M : Int} {t : Tok}
    (h1 : Value.int M t ∈ remAt kvs 0) (h2 : ∀ x u, Value.int x u ∈ remAt kvs 0 → x ≤ M) : 0 < M ∧ M < 1073741824 ∧ M ∈ ns ∧ ∀ v ∈ ns, v ≤ M := by
  obtain ⟨h0, k, hk⟩ := in_rem.mp h1
  have hM := (hns M h0).mp ⟨k, t, hk⟩
  have hb' := hb M hM
  refine ⟨by omega, hb'.2, hM, fun v hv => ?_⟩
  by_cases hz : v = 0
  · omega
  · obtain ⟨k', t', hk'⟩ := (hns v hz).mpr hv
    exact h2 v t' (in_rem.mpr ⟨hz, k', hk'⟩)
theorem lin_none {kvs : List (Int × Value)} {ns : List Int} (hns : ∀ x, x ≠ 0 → ((∃ k t, (k, Value.int x t) ∈ kvs) ↔ x ∈ ns)) (h : remAt kvs 0 = []) : ∀ v ∈ ns, v = 0 := by
  intro v hv
  by_cases hz : v = 0
  · exact hz
  · obtain ⟨k', t', hk'⟩ := (hns v hz).mpr hv
    have := in_rem.mpr ⟨hz, k', hk'⟩
    rw [h] at this
    exact nomatch this
theorem lin_width {ns : List Int} {blank : Bool} {M wd x : Int} {n : Nat} (hM : 0 < M) (hin : M ∈ ns) (hmx : ∀ v ∈ ns, v ≤ M) (n1 : 1 ≤ n) (n2 : n ≤ 10) (lo : 10 ^ (n - 1) ≤ M) (hi : M < 10 ^ n)
    (hw : wd = if (3 : Int) < n then (n : Int) else 3) (hx : x = if blank = true ∧ wd = 3 then 4 else wd) : WidthIs ns blank x := by
  refine Or.inr ⟨⟨M, hin, by omega⟩, wd, ?_, fun v hv => ?_, ?_, hx⟩
  · split at hw <;> omega
  · have h1 := hmx v hv
    split at hw
    · have e : wd.toNat = n := by omega
      rw [e]; omega
    · have e : wd.toNat = 3 := by omega
      rw [e]
      have h2 : (10 : Nat) ^ n ≤ 10 ^ 3 := Nat.pow_le_pow_right (by decide) (by omega)
      have h3 : (10 : Int) ^ n = ((10 ^ n : Nat) : Int) := by simp
      rw [h3] at hi
      have h4 : (10 : Int) ^ 3 = 1000 := by decide
      have h5 : (10 : Nat) ^ 3 = 1000 := by decide
      rw [h4]; rw [h5] at h2
      omega
  · split at hw
    · exact Or.inr ⟨M, hin, by rw [show wd.toNat - 1 = n - 1 by omega]; exact lo⟩
    · exact Or.inl hw
end Mine
namespace Mine
set_option maxRecDepth 100000
set_option maxHeartbeats 4000000
local macro_rules | `(tactic| walk_at "nothing of the kind") => `(tactic| fail)
open PySem PySem.W PySem.Calls PyProof.Rows
local macro_rules | `(tactic| walk_at "call type:filter") => `(tactic| k_extra "filter")
local macro_rules | `(tactic| walk_at "call builtin:max") => `(tactic| k_extra "max")
local macro_rules | `(tactic| walk_at "call type:str") => `(tactic| k_extra "str")
local macro_rules | `(tactic| walk_at "compareOp In none ref") => `(tactic| k_extra "isin")
theorem in_none {prog : Program} {w : World} {K : Type} [DecidableEq K] {knd : KeyKind prog w K} {A : Around} {E : Value → Shared → Prop} {s : Shared} {h₀ : Heap} {L V D : Addr} {m : Str → Option Value} {rest : List (Addr × Obj)} {oD : Obj} {kvs : List (K × Value)} {ep : Nat} {Q : Value → Shared → Prop}
    (hh : A.handled = none) (F : Fr h₀ L s.heap m) (N : News h₀ L s.heap ((V, viewObj D) :: (D, oD) :: rest)) (hat : KdkAt knd oD kvs ep) (hv : ∀ p ∈ kvs, LineV p.2)
    (hQ : ∀ h', Fr h₀ L h' m → News h₀ L h' ((D, oD) :: rest) → Q (.bool (kvs.any fun p => isNoneV p.2)) { s with heap := h' }) :
    wpAny (model prog w) A (compareOp .In .none (.ref V)) Q E s := by
  show wpAny _ _ (contains (.ref V) .none >>= fun r => pure (Value.bool r)) _ _ _
  exact wpAny_bind (inVN hh F N hat hv fun h' F' N' => wpAny_pure (hQ h' F' N'))
theorem lin_f1 {blank : Bool} {wd : Int} (h : ¬ wd < 4) : wd = if blank = true ∧ wd = 3 then 4 else wd := by
  rw [if_neg]; rintro ⟨_, q⟩; omega
theorem lin_f2 {blank : Bool} {n : Nat} {wd : Int} (e : wd = if (3 : Int) < n then (n : Int) else 3) (h : wd < 4) (hb : blank = true) : (4 : Int) = if blank = true ∧ wd = 3 then 4 else wd := by
  rw [if_pos]; refine ⟨hb, ?_⟩; split at e <;> omega
theorem lin_f3 {blank : Bool} {wd : Int} (hb : blank = false) : wd = if blank = true ∧ wd = 3 then 4 else wd := by
  rw [if_neg]; rintro ⟨q, _⟩; rw [hb] at q; exact nomatch q
theorem lineno_tells (w : World) (led) (D : Addr) (oD : Obj) (kvs : List (Int × Value)) (ns : List Int) (blank : Bool)
    (hD : oD.IsDictOf (intKind Challenge.rw_pe0009_01.row.prog w) kvs) (hv : ∀ p ∈ kvs, LineV p.2)
    (hns : ∀ x, x ≠ 0 → ((∃ k t, (k, Value.int x t) ∈ kvs) ↔ x ∈ ns)) (hb : ∀ v ∈ ns, 0 ≤ v ∧ v < 1073741824) (hlo : (D == sysModules) = false) (hbl : (kvs.any fun p => isNoneV p.2) = blank) :
    Tell w 2 36 [.ref D] ((D, oD) :: led) (fun v made => made = [] ∧ ∃ x tk, v = .int x tk ∧ WidthIs ns blank x) := by
  unfold Tell
  k_fill
  w_top off
  intro mean mg mb dp un gd cn cs a ccd cl outer A₀ base h₀ L m s Q E B F X N T hk hd hu hret
  have hMk : KstMark := kstMark
  have hnil : IntsAre ([] : List Value) ([] : List Int) := .nil
  refine wpAny_call ?_
  k_dflt (refine' code_def ?k1 ?k2 ?k3 ?k4 ?k5 ?kA ?kF ?kK ?k6 ?k7 ?k8 ?k9 ?kB ?_ ?c2 ?c3 ?c4 ?c5; (case kA => exact rfl); (case kF => exact rfl); (case kK => assumption); (case k1 => k_asm); (case k2 => k_asm); (case k3 => k_asm); (case k4 => k_asm); (case k5 => k_asm); (case k6 => k_is); (case k7 => k_is); (case k8 => ktr_room); (case k9 => exact BindsTo.of_eq rfl); (case c5 => decide); (case kB => exact locs rfl); (case c2 => exact rfl); (case c3 => exact rfl); (case c4 => exact rfl); intro g' L' h' FG' F' N' B' X' T'; (try dsimp only); (try k_lift B'); (try k_fold))
  k_with_none
  obtain ⟨ep, hat⟩ := KdkAt.of hD
  k_with "filter" => ((rename Fr _ _ _ _ => lF); (rename News _ _ _ _ => lN); (refine filt_makeN lF lN hat ?_); clear lF lN; intro fW iW oW hW FW NW vW fiW diW offW)
  k_with "max" => ((rename Fr _ _ _ _ => lF); (rename News _ _ _ _ => lN); (refine maxd_callN (by rfl) lF lN hat vW fiW diW offW hv ?_); clear lF lN; intro vM hM tM pM FM NM; (refine Or.elim pM (fun pM => ?mA) (fun pM => ?mB)); (case' mA => (obtain ⟨pM0, pM1⟩ := pM; subst pM1)); (case' mB => (obtain ⟨M, tkM, pM1, pM2, pM3⟩ := pM; subst pM1; (obtain ⟨M0, M1, Mi, Mx⟩ := lin_max hns hb pM2 pM3); clear pM2 pM3)))
  k_with "str" => ((obtain ⟨XM, eX, lX, n1, n2, lo, hi⟩ := str_len M0 M1); (refine P.str_of_int lX ?_); (rw [eX]))
  k_with "isin" => ((rename Fr _ _ _ _ => lF); (rename News _ _ _ _ => lN); (refine in_none (by rfl) lF lN hat hv ?_); clear lF lN; (rw [hbl]); intro hI FI NI)
  k_steps
  all_goals first
    | (exfalso; omega)
    | (rename remAt _ _ = [] => pM0; exact hret _ [] _ _ ⟨rfl, _, _, rfl, Or.inl ⟨lin_none hns pM0, rfl⟩⟩ made_nil (by assumption) (by assumption))
    | exact hret _ [] _ _ ⟨rfl, _, _, rfl, lin_width M0 Mi Mx n1 n2 lo hi rfl (lin_f1 (by assumption))⟩ made_nil (by assumption) (by assumption)
    | exact hret _ [] _ _ ⟨rfl, _, _, rfl, lin_width M0 Mi Mx n1 n2 lo hi rfl (lin_f2 rfl (by assumption) (by assumption))⟩ made_nil (by assumption) (by assumption)
    | exact hret _ [] _ _ ⟨rfl, _, _, rfl, lin_width M0 Mi Mx n1 n2 lo hi rfl (lin_f3 (by assumption))⟩ made_nil (by assumption) (by assumption)
end Mine
namespace Mine
set_option maxRecDepth 100000
set_option maxHeartbeats 1000000
open PySem PySem.W PySem.Calls PyProof.Rows PyProof.Rows.LCg PySem.Spec
/-- a turn of a comprehension over enumerate: the element, walked where the ledger may be longer -/
def ETurn (prog : Program) (w : World) (A : Around) (h₀ : Heap) (L : Addr) (m : Str → Option Value) (env : Env) (elt : PySem.Expr) (a b : Str) (scope : Scope) (cl : List (Str × Addr)) (s : Shared) (news : List (Addr × Obj)) (vs : List Value) (G : Nat → Value → Prop) : Prop :=
  ∀ (i : Nat) (v : Value) (t : Tok) (C : Addr) (oC : Obj) (m₂ : Str → Option Value) (h : Heap) (tk : Nat) (own : List (Addr × Obj)) (E' : Value → Shared → Prop), vs[i]? = some v → NsObj oC m₂ → m₂ a = some (.int (i : Int) t) → m₂ b = some v → Fr h₀ L h m → News h₀ L h ((C, oC) :: (news ++ own)) →
    wpAny (model prog w) A (eval elt (compEnvC scope cl C env)) (fun y s' => (∃ h' tk', s' = { s with heap := h', toks := tk' } ∧ Fr h₀ L h' m ∧ News h₀ L h' ((C, oC) :: (news ++ own))) ∧ G i y) E' { s with heap := h, toks := tk }
/-- where an enumerate stands ahead of its first turn -/
structure ESrc (h₀ : Heap) (L : Addr) (m : Str → Option Value) (h : Heap) (e it l : Addr) (vs : List Value) (news : List (Addr × Obj)) : Prop where
  hei : e ≠ it
  hle : l ≠ e
  hli : l ≠ it
  he : IsEnum h e it 0 .none
  hit : h.IsListIter it l 0
  hl : h.IsList l vs.toArray
  he₀ : h₀.get? e = none
  hi₀ : h₀.get? it = none
  hl₀ : h₀.get? l = none
  heL : e ≠ L
  hiL : it ≠ L
  hlL : l ≠ L
  offe : ∀ p ∈ news, p.1 ≠ e
  offi : ∀ p ∈ news, p.1 ≠ it
  F : Fr h₀ L h m
  N : News h₀ L h news
section
variable {prog : Program} {w : World} {A : Around} {E : Value → Shared → Prop} {s : Shared} {h₀ : Heap} {L : Addr} {m : Str → Option Value} {env : Env}
theorem block_E {elt iter : PySem.Expr} {a b : Str} {pa pb tp : Pos} {kk : Nat} {scope : Scope} {cl : List (Str × Addr)} {pos : Pos} {s₂ : Shared} {e it l : Addr} {vs : List Value} {news : List (Addr × Obj)} {G : Nat → Value → Prop}
    {RR : Value → Addr → Result → Shared → Prop} (hh : A.handled = none) (hsz : vs.length ≤ sizeLine)
    (hcell : ∀ y ∈ scope.names, y.2 ≠ .cell) (hkind : scope.kind = .function) (hxa : scope.names.lookup a = some .local) (hxb : scope.names.lookup b = some .local) (hab : ¬ a = b)
    (S : ESrc h₀ L m s₂.heap e it l vs news) (R : ETurn prog w A h₀ L m env elt a b scope cl s₂ news vs G)
    (hRR : ∀ D C h tk m' ys, Fr h₀ L h m → News h₀ L h ((D, lst ys) :: news) → h.Ns C m' → h₀.get? C = none → C ≠ L → D ≠ L → C ≠ D → (∀ p ∈ news, p.1 ≠ C) → (∀ p ∈ news, p.1 < D) → ys.length = vs.length → (∀ i y, ys[i]? = some y → G i y) → RR (.ref D) C (.ok .next) { s₂ with heap := h, toks := tk }) :
    wpAny (model prog w) A (newList []) (fun acc s₃ => wpAny (model prog w) A (newFunctionEnv scope env.globals cl [] env.qual none .none (some env)) (fun cenv s₄ =>
      codeAny (model prog w) A (.compStart (.ListComp elt [⟨.Tuple [.Name a pa, .Name b pb] kk tp, iter, [], 0⟩] scope pos) 0 (.ref e) acc { cenv with scope := relabel scope env }) (RR acc cenv.locals) s₄) E s₃) E s₂ := by
  obtain ⟨hei, hle, hli, he, hit, hl, he₀, hi₀, hl₀, heL, hiL, hlL, offe, offi, F, N⟩ := S
  refine wpAny_newObj_type (wpAny_newFunctionEnv hcell (by intro y hy; simp at hy) (fun h₁ hns₁ hsb₁ => ?_) hkind)
  dsimp only at hns₁ hsb₁ ⊢
  generalize hH2 : s₂.heap.push { cls := .type "list", dict := none, data := .seq ([] : List Value).toArray } = H2 at hns₁ hsb₁ ⊢
  have hC : H2.objs.size = s₂.heap.objs.size + 1 := by rw [← hH2, Heap.size_push]
  have hDC : s₂.heap.objs.size ≠ H2.objs.size := by rw [hC]; exact Nat.ne_of_lt (Nat.lt_succ_self _)
  have below : ∀ b, b < s₂.heap.objs.size → b ≠ H2.objs.size ∧ b ≠ s₂.heap.objs.size := fun b hb => ⟨by rw [hC]; exact Nat.ne_of_lt (Nat.lt_succ_of_lt hb), Nat.ne_of_lt hb⟩
  have helt : e < s₂.heap.objs.size := Heap.lt_size he
  have hilt : it < s₂.heap.objs.size := by obtain ⟨_, x, _⟩ := hit; exact Heap.lt_size x
  have hllt : l < s₂.heap.objs.size := by obtain ⟨_, x, _⟩ := hl; exact Heap.lt_size x
  have old : ∀ b o, s₂.heap.get? b = some o → h₁.get? b = some o := fun b o e => hsb₁.extBut b o (below b (Heap.lt_size e)).1 (Heap.get?_push_of_some _ (hH2 ▸ Heap.get?_push_of_some _ e))
  have hacc : h₁.get? s₂.heap.objs.size = some (lst []) := hsb₁.extBut _ _ hDC (Heap.get?_push_of_some _ (hH2 ▸ Heap.get?_push_size _ rfl))
  have fresh : ∀ a, s₂.heap.objs.size ≤ a → s₂.heap.get? a = none := fun a ha => by
    cases e : s₂.heap.get? a with
    | none => rfl
    | some o' => exact absurd (Heap.lt_size e) (Nat.not_lt.mpr ha)
  have fresh₀ : ∀ a, s₂.heap.objs.size ≤ a → h₀.get? a = none := fun a ha => by
    cases e : h₀.get? a with
    | none => rfl
    | some o' => have := F.keep a o' e; rw [fresh a ha] at this; cases this
  have hD₀ : h₀.get? s₂.heap.objs.size = none := fresh₀ _ (Nat.le_refl _)
  have hC₀ : h₀.get? H2.objs.size = none := fresh₀ _ (by rw [hC]; exact Nat.le_succ _)
  have hLlt : L < s₂.heap.objs.size := F.ns.lt
  have hDL : s₂.heap.objs.size ≠ L := Ne.symm (below L hLlt).2
  have hCL : H2.objs.size ≠ L := Ne.symm (below L hLlt).1
  have newsC : ∀ p ∈ news, p.1 ≠ H2.objs.size := fun p hp => (below _ (Heap.lt_size (N p hp).1)).1
  have newsD : ∀ p ∈ news, p.1 ≠ s₂.heap.objs.size := fun p hp => (below _ (Heap.lt_size (N p hp).1)).2
  have W := KTurns.ofWalksU (elts := [.Name a pa, .Name b pb]) (k := kk) (pos := tp) (WalksT.enumerate (prog := prog) (w := w) (A := A) hh e it l hei hle hli vs.toArray).toU
  have loop : ∀ s₃ : Shared, s₃ = { s₂ with heap := h₁, toks := s₂.toks + ([] : List (Str × Value)).length } →
      codeAny (model prog w) A (.compLoop (.ListComp elt [⟨.Tuple [.Name a pa, .Name b pb] kk tp, iter, [], 0⟩] scope pos) 0 (.ref e) (.ref s₂.heap.objs.size) (compEnvC scope cl H2.objs.size env))
        (RR (.ref s₂.heap.objs.size) H2.objs.size) s₃ := by
    rintro s₃ rfl
    refine kcp_loop
      (fun k s' => ∃ h' tk i ys m', s' = { s₂ with heap := h', toks := tk } ∧ i ≤ vs.length ∧ k = vs.length + 1 - i ∧ ys.length = i ∧ ((∃ old, IsEnum h' e it (i : Nat) old) ∧ h'.IsListIter it l i ∧ h'.IsList l vs.toArray) ∧ Fr h₀ L h' m ∧ h'.Ns H2.objs.size m' ∧
        News h₀ L h' ((s₂.heap.objs.size, lst ys) :: news) ∧ ∀ (j : Nat) y, ys[j]? = some y → G j y) ?_ (vs.length + 1)
      ⟨h₁, _, 0, [], _, rfl, Nat.zero_le _, rfl, rfl, ⟨⟨.none, old _ _ he⟩, hit.at fun o x => old _ o x, hl.at fun o x => old _ o x⟩, F.keeps old, hns₁, fun p hp => ?_, fun j y h => by simp at h⟩
    · rintro k s' ⟨h', tk, i, ys, m', rfl, hi, rfl, hyl, hst', F', hn', N', G'⟩
      by_cases hlt : i < vs.length
      · refine W.item i _ _ _ (by simpa using hlt) hst' fun v h₂ tk₂ hMd hk₂ => ?_
        refine W.go i v _ _ _ hMd fun h₃ hP hst₃ hk₃ => ?_
        obtain ⟨T, vals, rfl, ⟨t, x, hx, rfl⟩, hT⟩ := hP
        have up₃ : ∀ c o, c ≠ e → c ≠ it → h'.get? c = some o → h₃.get? c = some o := fun c o h1 h2 q => hk₃ c o (by simp [h1, h2]) (hk₂ c o (by simp [h1, h2]) q)
        refine kcp_assign (env := compEnvC scope cl H2.objs.size env) hh hT (lookup_relabel_local hxa) (lookup_relabel_local hxb) (by simp [compEnvC, relabel, hkind]) (hn'.at' fun o q => up₃ _ o (Ne.symm (below e helt).1) (Ne.symm (below it hilt).1) q) fun h₄ tk₄ hn₄ hs₄ => ?_
        have up : ∀ c o, c ≠ e → c ≠ it → c ≠ H2.objs.size → h'.get? c = some o → h₄.get? c = some o := fun c o h1 h2 h3 q => hs₄ c o h3 (up₃ c o h1 h2 q)
        have hst₄ : (∃ old, IsEnum h₄ e it ((i + 1 : Nat) : Int) old) ∧ h₄.IsListIter it l (i + 1) ∧ h₄.IsList l vs.toArray := W.frame _ _ _ hst₃ fun c hc o q => hs₄ c o (fun q' => by
          have hc' : c = e ∨ c = it ∨ c = l := by simpa using hc
          rcases hc' with rfl | rfl | rfl
          · exact (below _ helt).1 q'
          · exact (below _ hilt).1 q'
          · exact (below _ hllt).1 q') q
        obtain ⟨oC, heC, hoC⟩ := ns_obj hn₄
        have F₄ : Fr h₀ L h₄ m := ⟨F'.ns.at' fun o q => up _ o (Ne.symm heL) (Ne.symm hiL) (Ne.symm hCL) q, fun c o q => up c o (fun z => by rw [z, he₀] at q; cases q) (fun z => by rw [z, hi₀] at q; cases q) (fun z => by rw [z, hC₀] at q; cases q) (F'.keep c o q), F'.above⟩
        obtain ⟨⟨od, hE₄⟩, ⟨oi, hI₄, hI₄'⟩, ⟨ol, hl₄, hl₄'⟩⟩ := id hst₄
        obtain ⟨oe, heE, hoE⟩ : ∃ oe : Obj, h₄.get? e = some oe ∧ ∀ h : Heap, h.get? e = some oe → IsEnum h e it ((i + 1 : Nat) : Int) od := ⟨_, hE₄, fun _ q => q⟩
        have hD₄ : h₄.get? s₂.heap.objs.size = some (lst ys) := up _ _ (Nat.ne_of_gt helt) (Nat.ne_of_gt hilt) hDC (N' _ (.head _)).1
        have N₄ : News h₀ L h₄ ((H2.objs.size, oC) :: (news ++ [(e, oe), (it, oi), (l, ol), (s₂.heap.objs.size, lst ys)])) := fun q hq => by
          rcases List.mem_cons.mp hq with rfl | hq
          · exact ⟨heC, hCL, hC₀⟩
          · rcases List.mem_append.mp hq with hq | hq
            · exact ⟨up _ _ (offe q hq) (offi q hq) (newsC q hq) (N' q (.tail _ hq)).1, (N' q (.tail _ hq)).2⟩
            · simp only [List.mem_cons, List.not_mem_nil, or_false] at hq
              rcases hq with rfl | rfl | rfl | rfl
              · exact ⟨heE, heL, he₀⟩
              · exact ⟨hI₄, hiL, hi₀⟩
              · exact ⟨hl₄, hlL, hl₀⟩
              · exact ⟨hD₄, hDL, hD₀⟩
        refine wpAny_mono (R i x t H2.objs.size oC _ h₄ _ _ _ (by simpa using hx) hoC (by simp [hab]) (by simp) F₄ N₄) (fun y s₅ h₅ => ?_) fun _ _ q => q
        obtain ⟨⟨h₅, tk₅, rfl, F₅, N₅⟩, G₅⟩ := h₅
        have inN : ∀ q, q ∈ [(e, oe), (it, oi), (l, ol), (s₂.heap.objs.size, lst ys)] → h₅.get? q.1 = some q.2 := fun q hq => (N₅ q (.tail _ (List.mem_append_right _ hq))).1
        have zC := (N₅ (H2.objs.size, oC) (.head _)).1
        have hst₅ : (∃ old, IsEnum h₅ e it ((i + 1 : Nat) : Int) old) ∧ h₅.IsListIter it l (i + 1) ∧ h₅.IsList l vs.toArray :=
          ⟨⟨od, hoE _ (inN (e, oe) (by simp))⟩, ⟨oi, inN (it, oi) (by simp), hI₄'⟩, ⟨ol, inN (l, ol) (by simp), hl₄'⟩⟩
        refine append_at (hsz := by show ys.toArray.size ≤ sizeLine; rw [List.size_toArray, hyl]; exact Nat.le_trans hi hsz) (inN (s₂.heap.objs.size, lst ys) (by simp)) fun h₆ hs₆ hD₆ => ?_
        refine ⟨vs.length + 1 - (i + 1), by omega, h₆, tk₅, i + 1, ys ++ [y], _, rfl, hlt, rfl, by rw [List.length_append, List.length_singleton, hyl], W.frame _ _ _ hst₅ fun c hc o q => hs₆.extBut c o (fun q' => by
          have hc' : c = e ∨ c = it ∨ c = l := by simpa using hc
          rcases hc' with rfl | rfl | rfl
          · exact (below _ helt).2 q'
          · exact (below _ hilt).2 q'
          · exact (below _ hllt).2 q') q, F₅.change hs₆ hDL hD₀,
          (hoC.ns zC).sameBut hs₆ (Ne.symm hDC), fun q hq => ?_, fun j y' hj => ?_⟩
        · rcases List.mem_cons.mp hq with rfl | hq
          · exact ⟨hD₆.trans (congrArg some (lst_snoc ys y)), hDL, hD₀⟩
          · have z := N₅ q (.tail _ (List.mem_append_left _ hq))
            exact ⟨hs₆.extBut _ _ (newsD q hq) z.1, z.2⟩
        · rcases Nat.lt_trichotomy j ys.length with h | h | h
          · exact G' j y' (by rwa [List.getElem?_append_left h] at hj)
          · subst h; simp at hj; subst hj; rw [hyl]; exact G₅
          · have hnone : (ys ++ [y])[j]? = none := List.getElem?_eq_none (by rw [List.length_append, List.length_singleton]; omega)
            rw [hnone] at hj; cases hj
      · have hin : i = vs.length := Nat.le_antisymm hi (Nat.not_lt.mp hlt)
        subst hin
        refine W.done _ _ _ (by simpa using hst') fun h₂ tk₂ hk₂ => ?_
        have up₂ : ∀ c o, c ≠ e → c ≠ it → h'.get? c = some o → h₂.get? c = some o := fun c o h1 h2 q => hk₂ c o (by simp [h1, h2]) q
        refine hRR _ _ h₂ tk₂ _ ys ⟨F'.ns.at' fun o q => up₂ _ o (Ne.symm heL) (Ne.symm hiL) q, fun c o q => up₂ c o (fun z => by rw [z, he₀] at q; cases q) (fun z => by rw [z, hi₀] at q; cases q) (F'.keep c o q), F'.above⟩ (fun q hq => ?_)
          (hn'.at' fun o q => up₂ _ o (Ne.symm (below e helt).1) (Ne.symm (below it hilt).1) q) hC₀ hCL hDL (Ne.symm hDC) newsC (fun p hp => Heap.lt_size (N p hp).1) hyl G'
        rcases List.mem_cons.mp hq with rfl | hq
        · exact ⟨up₂ _ _ (Nat.ne_of_gt helt) (Nat.ne_of_gt hilt) (N' _ (.head _)).1, (N' _ (.head _)).2⟩
        · exact ⟨up₂ _ _ (offe q hq) (offi q hq) (N' _ (.tail _ hq)).1, (N' _ (.tail _ hq)).2⟩
    · rcases List.mem_cons.mp hp with rfl | hp
      · exact ⟨hacc, hDL, hD₀⟩
      · exact ⟨old _ _ (N p hp).1, (N p hp).2⟩
  exact codeAny_compStart_list (loop _ rfl) (wpAny_pyIter_enum (old _ _ he) (loop _ rfl))
end
end Mine
namespace Mine
set_option maxRecDepth 100000
set_option maxHeartbeats 1000000
open PySem PySem.W PySem.Calls PyProof.Rows PyProof.Rows.LCg PySem.Spec
/-- a part that the walk is to leave to the hand -/
structure Hold (p : Prop) : Prop where
  out : p
section
variable {prog : Program} {w : World} {A : Around} {E : Value → Shared → Prop} {s : Shared} {h₀ : Heap} {L : Addr} {m : Str → Option Value} {env : Env}
theorem call_enumE {l : Addr} {vs : List Value} {news : List (Addr × Obj)} {Q : Value → Shared → Prop} (F : Fr h₀ L s.heap m) (N : News h₀ L s.heap news) (hl : s.heap.IsList l vs.toArray) (hl₀ : h₀.get? l = none)
    (h : ∀ h' e it, ESrc h₀ L m h' e it l vs news → Q (.ref e) { s with heap := h' }) : wpAny (model prog w) A (call (.type "enumerate") [.ref l]) Q E s := by
  have hlt : l < s.heap.objs.size := by obtain ⟨_, x, _⟩ := hl; exact Heap.lt_size x
  have hLlt : L < s.heap.objs.size := F.ns.lt
  have hlL : l ≠ L := by
    rintro rfl
    obtain ⟨oL, es, ep, hL, hLd, _⟩ := F.ns
    obtain ⟨o, ho, _, n, hd⟩ := hl
    rw [hL] at ho
    cases ho
    rw [hLd] at hd
    cases hd
  refine call_enumerate_list hl fun h' hE hI hsz hk => h h' _ _ ⟨Nat.succ_ne_self _, ktu_ne 1 hlt, Nat.ne_of_lt hlt, hE, hI, hl.at fun o e => hk l o e, ktu_new F (Nat.le_add_right _ _), ktu_new F (Nat.le_refl _), hl₀, Ne.symm (ktu_ne 1 hLlt), Nat.ne_of_gt hLlt, hlL,
    fun p hp => ktu_ne 1 (Heap.lt_size (N p hp).1), fun p hp => Nat.ne_of_lt (Heap.lt_size (N p hp).1), F.keeps hk, N.grown hk⟩
def ESrcV (prog : Program) (w : World) (A : Around) (h₀ : Heap) (L : Addr) (m : Str → Option Value) (env : Env) (elt : PySem.Expr) (a b y : Str) (scope : Scope) (cl : List (Str × Addr)) (Q : Flow → Shared → Prop) (xv : Value) (s₁ : Shared) : Prop :=
  ∃ (e it l : Addr) (vs : List Value) (news : List (Addr × Obj)) (G : Nat → Value → Prop), xv = .ref e ∧ A.handled = none ∧ vs.length ≤ sizeLine ∧ ESrc h₀ L m s₁.heap e it l vs news ∧ ETurn prog w A h₀ L m env elt a b scope cl s₁ news vs G ∧
    Hold (∀ D h tk ys, Fr h₀ L h (fun z => if z = y then some (.ref D) else m z) → News h₀ L h ((D, lst ys) :: news) → (∀ p ∈ news, p.1 < D) → ys.length = vs.length → (∀ i v, ys[i]? = some v → G i v) → Q .next { s₁ with heap := h, toks := tk })
theorem Assign_E {elt iter : PySem.Expr} {a b y : Str} {pa pb tp py : Pos} {kk} {scope : Scope} {cl : List (Str × Addr)} {pos spos : Pos} {Q : Flow → Shared → Prop} (_F₀ : Fr h₀ L s.heap m) (hLe : env.locals = L)
    (hsw : swapsWith (.ListComp elt [⟨.Tuple [.Name a pa, .Name b pb] kk tp, iter, [], 0⟩] scope pos) (some (.Name y py)) spos.line env = pure true)
    (hclos : closureFor scope env = pure cl) (hcell : ∀ z ∈ scope.names, z.2 ≠ .cell) (hkind : scope.kind = .function)
    (hnames : ∀ z ∈ scope.names, z.2 = .local → scope.names.lookup z.1 = some .local) (hxa : scope.names.lookup a = some .local) (hxb : scope.names.lookup b = some .local) (hab : ¬ a = b)
    (hy : env.kindOf y = some .local) (hp : (env.scope.kind == .class || (env.scope.kind == .module && env.locals != env.globals)) = false)
    (h : wpAny (model prog w) A (eval iter env) (ESrcV prog w A h₀ L m env elt a b y scope cl Q) E s)
    (hs : ∀ x, foldedSetIterable iter env x = pure x := by intro _; rfl) :
    wpAny (model prog w) A (exec (.Assign [.Name y py] (.ListComp elt [⟨.Tuple [.Name a pa, .Name b pb] kk tp, iter, [], 0⟩] scope pos) spos) env) Q E s := by
  subst hLe
  rw [exec_Assign_Name_used _ _ _ _ hsw]
  refine wpAny_bind (wpAny_standAt (wpAny_bind ?_))
  show wpAny _ A (do let _ ← comprehension (.ListComp elt [⟨.Tuple [.Name a pa, .Name b pb] kk tp, iter, [], 0⟩] scope pos) scope env _ (newList []) false (eval iter env) (some (assign (.Name y py) env))) _ _ s
  refine wpAny_bind (wpAny_mono (wpAny_comprehension_free (use := some (assign (.Name y py) env)) (Q := fun _ s' => Q .next s') rfl hs hclos hkind hnames
    (wpAny_mono h (fun xv s₁ h₁ => ?_) fun _ _ e => e)) (fun _ s' hq => wpAny_pure (wpAny_pure hq)) fun _ _ e => e)
  obtain ⟨e, it, l, vs, news, G, rfl, hh, hsz, S, R, fin⟩ := h₁
  refine wpAny_pyIter_enum S.he ?_
  refine block_E hh hsz hcell hkind hxa hxb hab S R ?_
  intro D C h' tk m' ys F' N' hn hC₀ hCL hDL hCD offC lt hyl hG
  show wpAny _ A (assign (.Name y py) env (.ref D)) _ _ _
  refine wpAny_assign_Name (wpAny_storeName_local hy F'.ns (fun h₂ hn₂ hs₂ => ?_) hp)
  have hL₀ : h₀.get? env.locals = none := Heap.get?_none_of_le F'.above
  have F₂ : Fr h₀ env.locals h₂ (fun z => if z = y then some (.ref D) else m z) := ⟨hn₂, fun b o e => hs₂.extBut b o (fun q => by rw [q, hL₀] at e; cases e) (F'.keep b o e), F'.above⟩
  refine ⟨m', hn.sameBut hs₂ hCL, fun h'' hs'' => fin.out D h'' _ ys (F₂.change hs'' hCL hC₀) (fun p hp => ?_) lt hyl hG⟩
  have z : h₂.get? p.1 = some p.2 := hs₂.extBut _ _ (N' p hp).2.1 (N' p hp).1
  refine ⟨hs''.extBut _ _ ?_ z, (N' p hp).2⟩
  rcases List.mem_cons.mp hp with rfl | hp
  · exact Ne.symm hCD
  · exact offC p hp
end
end Mine
namespace Mine
set_option maxRecDepth 100000
set_option maxHeartbeats 1000000
open PySem PySem.W PySem.Calls PyProof.Rows
theorem six_v {i : Nat} {v : Value} {t0 t1 t2 t3 t4 t5 : Tok} (h : ([.int 3 t0, .int 70 t1, .int 0 t2, .int 255 t3, .int 63 t4, .int 7 t5] : List Value)[i]? = some v) : i < 6 ∧ ∃ x t, v = .int x t ∧ 0 ≤ x ∧ x < 256 := by
  have hi : i < 6 := by
    rcases Nat.lt_or_ge i 6 with q | q
    · exact q
    · rw [List.getElem?_eq_none (by simpa using q)] at h; cases h
  refine ⟨hi, ?_⟩
  have : i = 0 ∨ i = 1 ∨ i = 2 ∨ i = 3 ∨ i = 4 ∨ i = 5 := by omega
  rcases this with rfl | rfl | rfl | rfl | rfl | rfl <;> (simp at h; subst h; exact ⟨_, _, rfl, by omega, by omega⟩)
def NumV (_ : Nat) (v : Value) : Prop := ∃ x t, v = .int x t ∧ 0 ≤ x ∧ x < 1073741824
theorem six_ys {ys : List Value} (hl : ys.length = 6) (hG : ∀ (i : Nat) v, ys[i]? = some v → NumV i v) : ∃ n0 n1 n2 n3 n4 n5 t0 t1 t2 t3 t4 t5, ys = [.int n0 t0, .int n1 t1, .int n2 t2, .int n3 t3, .int n4 t4, .int n5 t5] ∧
    (0 ≤ n0 ∧ n0 < 1073741824) ∧ (0 ≤ n1 ∧ n1 < 1073741824) ∧ (0 ≤ n2 ∧ n2 < 1073741824) ∧ (0 ≤ n3 ∧ n3 < 1073741824) ∧ (0 ≤ n4 ∧ n4 < 1073741824) ∧ (0 ≤ n5 ∧ n5 < 1073741824) := by
  match ys, hl with
  | [a, b, c, d, e, f], _ =>
    obtain ⟨n0, t0, rfl, h0⟩ := hG 0 a rfl
    obtain ⟨n1, t1, rfl, h1⟩ := hG 1 b rfl
    obtain ⟨n2, t2, rfl, h2⟩ := hG 2 c rfl
    obtain ⟨n3, t3, rfl, h3⟩ := hG 3 d rfl
    obtain ⟨n4, t4, rfl, h4⟩ := hG 4 e rfl
    obtain ⟨n5, t5, rfl, h5⟩ := hG 5 f rfl
    exact ⟨_, _, _, _, _, _, _, _, _, _, _, _, rfl, h0, h1, h2, h3, h4, h5⟩
theorem five_is {ys : List Value} {a b c d e : Int} (h : IntsAre ys [a, b, c, d, e]) : ∃ t0 t1 t2 t3 t4, ys = [.int a t0, .int b t1, .int c t2, .int d t3, .int e t4] := by
  cases h with | cons _ t0 h =>
  cases h with | cons _ t1 h =>
  cases h with | cons _ t2 h =>
  cases h with | cons _ t3 h =>
  cases h with | cons _ t4 h =>
  cases h
  exact ⟨t0, t1, t2, t3, t4, rfl⟩
theorem mod_map {f : Int → Int} (hf : ∀ x, 0 ≤ f x ∧ f x < 1000000) (ns : List Int) : ∀ x ∈ ns.map f, 0 ≤ x ∧ x < 1000000 := by
  intro x hx
  obtain ⟨y, _, rfl⟩ := List.mem_map.mp hx
  exact hf y
theorem sum_bound : ∀ (l : List Int), (∀ x ∈ l, 0 ≤ x ∧ x < 1000000) → 0 ≤ l.sum ∧ l.sum ≤ 1000000 * (l.length : Int)
  | [], _ => by simp
  | x :: r, h => by
    have h1 := h x (.head _)
    have h2 := sum_bound r fun z hz => h z (.tail _ hz)
    simp only [List.sum_cons, List.length_cons]
    omega
theorem pick_in {ns : List Int} {lo hi st : Option Int} : ∀ x ∈ pickNums ns lo hi st, x ∈ ns := by
  intro x hx
  unfold pickNums at hx
  obtain ⟨j, _, hj⟩ := List.mem_filterMap.mp hx
  exact List.mem_of_getElem? hj
theorem pick_sum {vs : List Value} {ns : List Int} (hi : IntsAre vs ns) (hb : ∀ x ∈ ns, 0 ≤ x ∧ x < 1000000) (hl : ns.length ≤ 63) {lo hi' st : Option Int} : 0 ≤ (pickNums ns lo hi' st).sum ∧ (pickNums ns lo hi' st).sum ≤ 63000000 := by
  have h1 := sum_bound _ fun x hx => hb x (pick_in (lo := lo) (hi := hi') (st := st) x hx)
  have h2 := length_pickNums_le hi lo hi' st
  omega
theorem taken_facts {ys : List Value} {ws : List Int} (h : IntsAre ys (List.map (fun k' : Int => k'.fmod (10 ^ Int.toNat 6)) (List.take 63 ws))) (i : Int) : ∃ ps : List Int, IntsAre (slicePick ys.toArray (some i) none (some 6)).toList ps ∧ 0 ≤ ps.sum ∧ ps.sum ≤ 63000000 := by
  have hb8 := mod_map (f := fun k : Int => k.fmod (10 ^ Int.toNat 6)) (fun x => by
    have e : (10 : Int) ^ Int.toNat 6 = 1000000 := by decide
    simp only [e]
    rw [Int.fmod_eq_emod_of_nonneg _ (by decide)]; exact ⟨Int.emod_nonneg _ (by decide), Int.emod_lt_of_pos _ (by decide)⟩) (List.take 63 ws)
  have hl : (List.map (fun k' : Int => k'.fmod (10 ^ Int.toNat 6)) (List.take 63 ws)).length ≤ 63 := by rw [List.length_map, List.length_take]; omega
  exact ⟨_, h.pick (some i) none (some 6), pick_sum h hb8 hl⟩
section
variable {prog : Program} {w : World} {A : Around} {E : Value → Shared → Prop} {s : Shared} {h₀ : Heap} {L l : Addr} {m : Str → Option Value} {news : List (Addr × Obj)}
theorem sum_arr {its : Array Value} {ns : List Int} {Q : Value → Shared → Prop} (F : Fr h₀ L s.heap m) (N : News h₀ L s.heap news) (hh : A.handled = none) (hl : s.heap.IsList l its) (hi : IntsAre its.toList ns)
    (h : ∀ h' tk t', Fr h₀ L h' m → News h₀ L h' news → Q (.int ns.sum t') { s with heap := h', toks := tk }) : wpAny (model prog w) A (call (.builtin "sum") [.ref l]) Q E s :=
  LSm.sum_ints (vs := its.toList) F N hh (by rw [Array.toArray_toList]; exact hl) hi h
end
end Mine
namespace Mine
set_option maxRecDepth 100000
set_option maxHeartbeats 1000000
open PySem PySem.W PySem.Calls PyProof.Rows
def defBody : Stmt → List Stmt
  | .FunctionDef _ _ b _ _ _ _ _ _ _ => b
  | _ => []
def defScope : Stmt → Scope
  | .FunctionDef _ _ _ _ _ _ sc _ _ _ => sc
  | _ => Challenge.pw_pe0009_01.main.scope
def forBody : Stmt → List Stmt
  | .For _ _ b _ _ => b
  | _ => []
def forTarget : Stmt → Expr
  | .For t _ _ _ _ => t
  | _ => .Name "" ⟨0, 0, 0, 0⟩
def lawDef : Stmt := Challenge.pw_pe0009_01.main.body.getD 15 (.Pass ⟨0, 0, 0, 0⟩)
def lawScope : Scope := defScope lawDef
def lawFor : Stmt := (defBody lawDef).getD 7 (.Pass ⟨0, 0, 0, 0⟩)
def turnBody : List Stmt := forBody lawFor
def turnTarget : Expr := forTarget lawFor
def restBody : List Stmt := (defBody lawDef).drop 2
def endBody : List Stmt := (defBody lawDef).drop 8
end Mine
namespace Mine
set_option maxRecDepth 100000
set_option maxHeartbeats 1000000
open PySem PySem.W PySem.Calls PyProof.Rows
abbrev mLaw (nm dg rw : Addr) (W : Int) (tW : Tok) (u : Str → Option Value) : Str → Option Value := fun y => if y = Str.ofString "rows" then some (.ref rw) else if y = Str.ofString "whole" then some (.int W tW) else if y = Str.ofString "digits" then some (.ref dg) else if y = Str.ofString "numbers" then some (.ref nm) else u y
theorem mLaw_of {nm dg rw : Addr} {W : Int} {tW : Tok} {m : Str → Option Value} (h1 : m (Str.ofString "rows") = some (.ref rw)) (h2 : m (Str.ofString "whole") = some (.int W tW)) (h3 : m (Str.ofString "digits") = some (.ref dg)) (h4 : m (Str.ofString "numbers") = some (.ref nm)) : m = mLaw nm dg rw W tW m := by
  funext y
  show m y = if y = Str.ofString "rows" then some (.ref rw) else if y = Str.ofString "whole" then some (.int W tW) else if y = Str.ofString "digits" then some (.ref dg) else if y = Str.ofString "numbers" then some (.ref nm) else m y
  by_cases q1 : y = Str.ofString "rows"
  · rw [if_pos q1, q1, h1]
  · rw [if_neg q1]
    by_cases q2 : y = Str.ofString "whole"
    · rw [if_pos q2, q2, h2]
    · rw [if_neg q2]
      by_cases q3 : y = Str.ofString "digits"
      · rw [if_pos q3, q3, h3]
      · rw [if_neg q3]
        by_cases q4 : y = Str.ofString "numbers"
        · rw [if_pos q4, q4, h4]
        · rw [if_neg q4]
/-- the rows read so far: the list's values and the objects -/
inductive RowsAre (g : Nat → List Int) : Nat → List Value → List (Addr × Obj) → Prop
  | nil : RowsAre g 0 [] []
  | snoc {i : Nat} {rs : List Value} {rl : List (Addr × Obj)} (a : Addr) (us : List Value) (k : Nat) : RowsAre g i rs rl → IntsAre us (g i) → RowsAre g (i + 1) (rs ++ [.ref a]) ((a, listOf us.toArray k) :: rl)
theorem RowsAre.length {g : Nat → List Int} {i : Nat} {rs : List Value} {rl : List (Addr × Obj)} (h : RowsAre g i rs rl) : rs.length = i := by
  induction h with
  | nil => rfl
  | snoc a us k _ _ ih => simp [ih]
theorem RowsAre.get {g : Nat → List Int} {i : Nat} {rs : List Value} {rl : List (Addr × Obj)} (h : RowsAre g i rs rl) : ∀ (j : Nat) v, rs[j]? = some v → ∃ a us k, v = .ref a ∧ (a, listOf us.toArray k) ∈ rl ∧ IntsAre us (g j) := by
  induction h with
  | nil => intro j v h; simp at h
  | @snoc i rs rl a us k h hu ih =>
    intro j v hj
    rcases Nat.lt_trichotomy j rs.length with q | q | q
    · rw [List.getElem?_append_left q] at hj
      obtain ⟨a', us', k', e, hm, hi⟩ := ih j v hj
      exact ⟨a', us', k', e, .tail _ hm, hi⟩
    · subst q
      simp at hj
      subst hj
      rw [← h.length] at hu
      exact ⟨a, us, k, rfl, .head _, hu⟩
    · have hnone : (rs ++ [Value.ref a])[j]? = none := List.getElem?_eq_none (by rw [List.length_append, List.length_singleton]; omega)
      rw [hnone] at hj; cases hj
/-- what holds between the turns of the loop over the sixteen choices -/
def LawJ (L nm dg rw : Addr) (nums ds : List Value) (cn cdg : Nat) (W : Int) (g : Nat → List Int) (oS oT : Obj) (i : Nat) (m₁ : Str → Option Value) (news₁ : List (Addr × Obj)) : Prop :=
  ∃ (tW : Tok) (u : Str → Option Value) (oM : Obj) (x0 : Option Value) (rs : List Value) (c : Nat) (rl : List (Addr × Obj)), m₁ = mLaw nm dg rw W tW u ∧ oM.data = .cell x0 ∧ RowsAre g i rs rl ∧ (∀ p ∈ rl, rw < p.1) ∧
    news₁ = (rw, listOf rs.toArray c) :: (dg, listOf ds.toArray cdg) :: (nm, listOf nums.toArray cn) :: (L + 1 + 1 + 1, oM) :: (L + 1 + 1, oS) :: (L + 1, oT) :: rl
end Mine
namespace Mine
set_option maxRecDepth 100000
set_option maxHeartbeats 1000000
open PySem PySem.W PySem.Calls PyProof.Rows PyProof.V PySem.Spec PySem.SeqAt
theorem canLayAll0_strs : ∀ ns : List Str, (∀ x ∈ ns, PyData.strOk x = true) → PyData.canLayAll0 (ns.map PyData.str) = true
  | [], _ => by simp [PyData.canLayAll0]
  | n :: r, h => by simp [PyData.canLayAll0, PyData.canLay0, canLayAll0_strs r (fun x hx => h x (.tail _ hx)), h n (.head _)]
theorem depthAll_strs : ∀ ns : List Str, PyData.depthAll (ns.map PyData.str) ≤ 1
  | [] => by simp [PyData.depthAll]
  | n :: r => by
    have := depthAll_strs r
    simp only [List.map_cons, PyData.depthAll, PyData.depth]
    omega
theorem shaped_strs {ns : List Str} (h : ∀ x ∈ ns, PyData.strOk x = true) : shaped (.list (ns.map PyData.str)) = true := by
  have h1 := depthAll_strs ns
  have h2 : PyData.depth (.list (ns.map PyData.str)) ≤ 64 := by simp only [PyData.depth]; omega
  show (PyData.canLay0 (.list (ns.map PyData.str)) && decide (PyData.depth (.list (ns.map PyData.str)) ≤ 64)) = true
  rw [Bool.and_eq_true]
  exact ⟨by simp only [PyData.canLay0]; exact canLayAll0_strs ns h, decide_eq_true h2⟩
theorem noMix_strs : ∀ ns ms : List Str, noMixAll (ns.map PyData.str) (ms.map PyData.str) = true
  | [], [] => by simp [noMixAll]
  | [], _ :: _ => by simp [noMixAll]
  | _ :: _, [] => by simp [noMixAll]
  | _ :: r, _ :: q => by simp [noMixAll, noMix, noMix_strs r q]
theorem same_strs : ∀ ns ms : List Str, PySem.Spec.sameAll (ns.map PyData.str) (ms.map PyData.str) = decide (ns = ms)
  | [], [] => by simp [PySem.Spec.sameAll]
  | [], _ :: _ => by simp [PySem.Spec.sameAll]
  | _ :: _, [] => by simp [PySem.Spec.sameAll]
  | n :: r, k :: q => by
    simp only [List.map_cons, PySem.Spec.sameAll, same_strs r q]
    rw [PyProof.V.same_str]
    by_cases h : n = k <;> simp [h]
theorem reads_of_strs {h : Heap} {a : Addr} {vs : List Value} {ns : List Str} (hl : h.IsList a vs.toArray) (hi : StrsAre vs ns) : Reads h (.ref a) (.list (ns.map PyData.str)) [a] := by
  obtain ⟨o, ho, hc, n, hd⟩ := hl
  exact Reads.list ho hc hd (by simpa using StrsAre.reads h hi)
section
variable {prog : Program} {w : World} {A : Around} {E : Value → Shared → Prop} {s : Shared}
theorem ne_strsK {a b : Addr} {vs us : List Value} {ns ms : List Str} {Q : Value → Shared → Prop} (hl : s.heap.IsList a vs.toArray) (hi : StrsAre vs ns) (hl' : s.heap.IsList b us.toArray) (hi' : StrsAre us ms) (hu : A.units + 64 < cLine) (o1 : ∀ x ∈ ns, PyData.strOk x = true) (o2 : ∀ x ∈ ms, PyData.strOk x = true)
    (h : Q (.bool (!decide (ns = ms))) s) : wpAny (model prog w) A (compareOp .NotEq (.ref a) (.ref b)) Q E s :=
  ne_dataH_same (reads_of_strs hl hi) (reads_of_strs hl' hi') (shaped_strs o1) (shaped_strs o2) hu (by simp only [noMix]; exact noMix_strs ns ms) (by simp only [PySem.Spec.same]; rw [same_strs]; exact h)
end
theorem words_ok_all : ∀ m, m < 16 → ∀ sh, sh < 30 → (wordsOf m sh).all PyData.strOk = true := by decide +kernel
theorem words_ok {m sh : Nat} (hm : m < 16) (hs : sh < 30) : ∀ x ∈ wordsOf m sh, PyData.strOk x = true := List.all_eq_true.mp (words_ok_all m hm sh hs)
theorem due_ok_all : ∀ m, m < 16 → ∀ sh, sh < 30 → (dueOf m sh).all PyData.strOk = true := by decide +kernel
theorem due_ok {m sh : Nat} (hm : m < 16) (hs : sh < 30) : ∀ x ∈ dueOf m sh, PyData.strOk x = true := List.all_eq_true.mp (due_ok_all m hm sh hs)
theorem nil_ok : ∀ x ∈ ([] : List Str), PyData.strOk x = true := fun _ h => nomatch h
theorem join_len_all : ∀ m, m < 16 → ∀ sh, sh < 30 → (Txt.join (Str.ofString ", ") (wordsOf m sh)).length ≤ 1000 := by decide +kernel
section
variable {prog : Program} {w : World} {A : Around} {E : Value → Shared → Prop} {s : Shared} {h₀ : Heap} {L : Addr} {m : Str → Option Value} {news : List (Addr × Obj)}
theorem words_split {i k : Nat} {t u : Tok} {Q : Value → Shared → Prop} (hi : i < 16) (hk : k < 30) (hF : Fr h₀ L s.heap m) (hN : News h₀ L s.heap news)
    (h : ∀ D ws h' kk, StrsAre ws (wordsOf i k) → Fr h₀ L h' m → News h₀ L h' ((D, listOf ws.toArray 0) :: news) → (∀ p ∈ news, p.1 < D) → Q (.ref D) { s with heap := h', toks := kk }) :
    wpAny (model prog w) A (call (.builtin "str.split") [.str (Txt.join (Str.ofString ", ") (flagWords (i * 2 ^ k))) t, .str (Str.ofString ", ") u]) Q E s := by
  refine KSpl.split1 hF hN (by decide) (fun D l h' kk e S F' N' lt => ?_) ?_
  · rw [split_words hi hk] at e
    rw [e] at S
    exact h D _ h' kk S F' N' lt
  · rw [flagWords_all i hi k hk]
    have := join_len_all i hi k hk
    rw [sizeLine_eq]; omega
end
end Mine
namespace Mine
set_option maxRecDepth 100000
set_option maxHeartbeats 1000000
open PySem PySem.W PySem.Calls PyProof.Rows PyProof.Rows.LCg PySem.Spec
section
variable {prog : Program} {w : World} {A : Around} {s : Shared} {h₀ : Heap} {L : Addr} {m : Str → Option Value} {env : Env}
theorem compEnd_mono {s₁ s₂ : Shared} {I C D : Addr} {oI oC oD : Obj} {S : List (Addr × Obj) → Prop} {r r' : Value → List (Addr × Obj) → Prop} {y : Value} (hr : ∀ news, r y news → r' y news)
    (h : CompEnd h₀ L m s₁ I oI C oC D oD S r y s₂) : CompEnd h₀ L m s₁ I oI C oC D oD S r' y s₂ :=
  let ⟨h', tk, news', e, F, N, o, q, z⟩ := h; ⟨h', tk, news', e, F, N, o, q, hr _ z⟩
theorem rest_inv {elt : PySem.Expr} {x : Str} {scope : Scope} {cl : List (Str × Addr)} {S : List (Addr × Obj) → Prop} {P : Nat → Value → Prop} {Fin : List Value → List (Addr × Obj) → Prop} {n : Nat} (J : Nat → List Value → List (Addr × Obj) → Prop)
    (turn : ∀ i ys news v I oI C oC D m₂ h tk (E' : Value → Shared → Prop), i < n → J i ys news → P i v → NsObj oC m₂ → m₂ x = some v → Fr h₀ L h m → News h₀ L h ((I, oI) :: (C, oC) :: (D, lst ys) :: news) → Off3 I C D news → ((@Ne Nat I C) ∧ (@Ne Nat I D) ∧ (@Ne Nat C D)) →
      wpAny (model prog w) A (eval elt (compEnvC scope cl C env)) (CompEnd h₀ L m { s with heap := h, toks := tk } I oI C oC D (lst ys) S (fun y news' => J (i + 1) (ys ++ [y]) news')) E' { s with heap := h, toks := tk })
    (fin : ∀ ys news, J n ys news → Fin ys news) : ∀ k i ys news, i + k = n → J i ys news → CompRest prog w A h₀ L m env elt x scope cl s S P Fin k i ys news
  | 0, i, ys, news, e, j => by
    have : i = n := by omega
    subst this
    exact fin ys news j
  | k + 1, i, ys, news, e, j => CompRest.succ fun v I oI C oC D m₂ h tk E' hP hC hx F N off ne =>
    wpAny_mono (turn i ys news v I oI C oC D m₂ h tk E' (by omega) j hP hC hx F N off ne) (fun _ _ q => compEnd_mono (fun news' z => rest_inv J turn fin k (i + 1) _ news' (by omega) z) q) fun _ _ q => q
theorem restT_inv {ct elt : PySem.Expr} {x : Str} {scope : Scope} {cl : List (Str × Addr)} {S : List (Addr × Obj) → Prop} {P : Nat → Value → Prop} {Fin : List Value → List (Addr × Obj) → Prop} {n : Nat} (J : Nat → List Value → List (Addr × Obj) → Prop)
    (turn : ∀ i ys news v I oI C oC D m₂ h tk (E' : Value → Shared → Prop), i < n → J i ys news → P i v → NsObj oC m₂ → m₂ x = some v → Fr h₀ L h m → News h₀ L h ((I, oI) :: (C, oC) :: (D, lst ys) :: news) → Off3 I C D news → ((@Ne Nat I C) ∧ (@Ne Nat I D) ∧ (@Ne Nat C D)) →
      wpAny (model prog w) A (isTrue ct (compEnvC scope cl C env) (eval ct (compEnvC scope cl C env))) (fun ok s' => if ok = true then
        wpAny (model prog w) A (eval elt (compEnvC scope cl C env)) (CompEnd h₀ L m { s with heap := h, toks := tk } I oI C oC D (lst ys) S (fun y news' => J (i + 1) (ys ++ [y]) news')) E' s'
        else CompEnd h₀ L m { s with heap := h, toks := tk } I oI C oC D (lst ys) S (fun _ news' => J (i + 1) ys news') Value.none s') E' { s with heap := h, toks := tk })
    (fin : ∀ ys news, J n ys news → Fin ys news) : ∀ k i ys news, i + k = n → J i ys news → LCt.CompRestT prog w A h₀ L m env ct elt x scope cl s S P Fin k i ys news
  | 0, i, ys, news, e, j => by
    have : i = n := by omega
    subst this
    exact fin ys news j
  | k + 1, i, ys, news, e, j => LCt.CompRestT.succ fun v I oI C oC D m₂ h tk E' hP hC hx F N off ne =>
    wpAny_mono (turn i ys news v I oI C oC D m₂ h tk E' (by omega) j hP hC hx F N off ne) (fun ok s' q => by
      cases ok with
      | true =>
        simp only [if_true] at q ⊢
        exact wpAny_mono q (fun _ _ q => compEnd_mono (fun news' z => restT_inv J turn fin k (i + 1) _ news' (by omega) z) q) fun _ _ q => q
      | false =>
        simp only [Bool.false_eq_true, if_false] at q ⊢
        exact compEnd_mono (fun news' z => restT_inv J turn fin k (i + 1) _ news' (by omega) z) q) fun _ _ q => q
end
end Mine
namespace Mine
set_option maxRecDepth 100000
set_option maxHeartbeats 1000000
open PySem PySem.W PySem.Calls PyProof.Rows
def stOf (j : Nat) : Stmt := turnBody.getD j (.Pass ⟨0, 0, 0, 0⟩)
theorem turn_sts : turnBody = [stOf 0, stOf 1, stOf 2, stOf 3, stOf 4, stOf 5, stOf 6, stOf 7, stOf 8] := by rfl
abbrev wi (x : String) (v : Value) (m : Str → Option Value) : Str → Option Value := fun y => if y = Str.ofString x then some v else m y
theorem fr_as {h₀ h : Heap} {L : Addr} {m : Str → Option Value} {x : String} {v : Value} (F : Fr h₀ L h m) (e : m (Str.ofString x) = some v) : Fr h₀ L h (wi x v m) := by
  have : wi x v m = m := by
    funext y
    show (if y = Str.ofString x then some v else m y) = m y
    by_cases q : y = Str.ofString x
    · rw [if_pos q, q, e]
    · rw [if_neg q]
  rw [this]; exact F
theorem newsIs {h₀ h : Heap} {L : Addr} {l : List (Addr × Obj)} (_N : News h₀ L h l) : ∃ l', l' = l := ⟨l, rfl⟩
/-- the words of the chosen flags below place j -/
def dueTo (m sh j : Nat) : List Str := ((List.range j).filter fun k => bitOf m k).map fun k : Nat => word ((sh + k : Nat) : Int)
theorem dueTo_on {m sh j : Nat} (h : bitOf m j = true) : dueTo m sh (j + 1) = dueTo m sh j ++ [word ((sh + j : Nat) : Int)] := by
  unfold dueTo; rw [List.range_succ]; simp [h]
theorem dueTo_off {m sh j : Nat} (h : bitOf m j = false) : dueTo m sh (j + 1) = dueTo m sh j := by
  unfold dueTo; rw [List.range_succ]; simp [h]
theorem dueTo_four (m sh : Nat) : dueTo m sh 4 = dueOf m sh := rfl
theorem flag_cast (i k : Nat) : (i : Int) * 2 ^ (k : Int).toNat = ((i * 2 ^ k : Nat) : Int) := by simp
theorem flag_small {i k : Nat} (hi : i < 16) (hk : k < 30) : i * 2 ^ k < 8589934592 := by
  have h : 2 ^ k ≤ 2 ^ 29 := Nat.pow_le_pow_right (by decide) (by omega)
  have h2 : i * 2 ^ k ≤ 15 * 2 ^ 29 := Nat.mul_le_mul (by omega) h
  have h3 : 15 * 2 ^ 29 < 8589934592 := by decide
  omega
theorem bit_int {i j : Nat} {x : Int} (hx : x = (j : Int)) : ((i : Int).fdiv (2 ^ x.toNat)).fmod 2 = if bitOf i j = true then 1 else 0 := by
  subst hx
  rw [Int.toNat_natCast, Int.fmod_eq_emod_of_nonneg _ (by decide), Int.fdiv_eq_ediv_of_nonneg _ (Int.pow_nonneg (by decide))]
  have e : ((i : Int) / 2 ^ j) % 2 = ((i / 2 ^ j % 2 : Nat) : Int) := by simp
  rw [e]
  unfold bitOf
  rcases Nat.mod_two_eq_zero_or_one (i / 2 ^ j) with h | h <;> simp [h]
end Mine
namespace Mine
set_option maxRecDepth 100000
set_option maxHeartbeats 4000000
open PySem PySem.W PySem.Calls PyProof.Rows
local macro_rules | `(tactic| walk_at "call ref") => `(tactic| k_extra "call")
local macro_rules | `(tactic| walk_at "exec Assign cons ListComp") => `(tactic| k_extra "due")
local macro_rules | `(tactic| walk_at "CompSrcT") => `(tactic| k_extra "dueSrc")
theorem due_true {i k j : Nat} {ys : List Value} {t : Tok} {x b : Int} (h : ((i : Int).fdiv (2 ^ x.toNat)).fmod 2 = 1) (hx : x = (j : Int)) (hS : StrsAre ys (dueTo i k j)) (hb : b = ((k + j : Nat) : Int)) : StrsAre (ys ++ [Value.str (word b) t]) (dueTo i k (j + 1)) := by
  have hbit : bitOf i j = true := by
    rw [bit_int hx] at h
    by_cases q : bitOf i j = true
    · exact q
    · rw [if_neg q] at h; exact absurd h (by decide)
  rw [dueTo_on hbit, hb]
  exact StrsAre.append' hS (.cons _ _ .nil)
theorem due_false {i k j : Nat} {ys : List Value} {x : Int} (h : ((i : Int).fdiv (2 ^ x.toNat)).fmod 2 ≠ 1) (hx : x = (j : Int)) (hS : StrsAre ys (dueTo i k j)) : StrsAre ys (dueTo i k (j + 1)) := by
  have hbit : bitOf i j = false := by
    rw [bit_int hx] at h
    by_cases q : bitOf i j = true
    · rw [if_pos q] at h; exact absurd rfl h
    · simpa using q
  rw [dueTo_off hbit]
  exact hS
theorem stDue (w : World) (mean : ExcName → Option Value) (mg mb : Str → Option Value) (h₀ : Heap) (L fa : Addr) (cd : Value) (B : Below callerA h₀ [] h₀) (X : (hd.heap_39 w.params).In h₀)
   (T : Top hd.view_39 (looseW hd.view_39 [Str.ofString "COMPILER_FLAG_NAMES"]) mean mg mb h₀) (m : Str → Option Value) (led : List (Addr × Obj)) (s : Shared) (Q : Flow → Shared → Prop) (E : Value → Shared → Prop)
   (i k : Nat) (hk : k < 30) (hi : i < 16) (tsh ti : Tok) (oM oS : Obj) (hS : oS.data = .cell (some (.int (k : Int) tsh))) (hM : oM.data = .cell (some (.int (i : Int) ti)))
   (F : Fr h₀ L s.heap m) (N : News h₀ L s.heap ((L + 1 + 1 + 1, oM) :: (L + 1 + 1, oS) :: led))
   (hQ : ∀ D ys h' tk', StrsAre ys (dueOf i k) → Fr h₀ L h' (wi "due" (.ref D) m) → News h₀ L h' ((D, LCg.lst ys) :: (L + 1 + 1 + 1, oM) :: (L + 1 + 1, oS) :: led) → LCg.Off1 D ((L + 1 + 1 + 1, oM) :: (L + 1 + 1, oS) :: led) → Q .next { s with heap := h', toks := tk' }) :
   wpAny (model Challenge.rw_pe0009_01.row.prog w) (callerA.deeper (envOfC (Str.ofString "law") lawScope L fa cd)) (exec (stOf 1) (envOfC (Str.ofString "law") lawScope L fa cd)) Q E s := by
  revert X
  k_fill
  w_top off
  intro X
  conv =>
    pattern stOf _
    whnf
  conv =>
    pattern (occs := *) lawScope
    all_goals whnf
  have hMk : KstMark := kstMark
  have hnil : IntsAre ([] : List Value) ([] : List Int) := .nil
  k_with_none
  k_with "call" => ((with_reducible show wpAny _ _ (call (Value.ref 43) [Value.int _ _]) _ _ _); (k_dflt (refine' (word_tells w _ _ _ ?p1 ?p2).use ?k1 ?k2 ?k3 ?k4 ?k5 ?kK ?kd ?ku ?_)); (case k1 => k_asm); (case k2 => k_asm); (case k3 => k_asm); (case k4 => k_asm); (case k5 => k_asm); (case kK => first | exact rfl | assumption); (case kd => ktr_room); (case ku => ktr_units); (case p1 => omega); (case p2 => omega); (rintro v9 made9 h9 tk9 ⟨rfl, t9, rfl⟩ lt9 F9 N9); (simp only [List.nil_append] at N9); (try k_fold))
  k_with "due" => ((with_reducible show wpAny _ _ (exec (Stmt.Assign [Expr.Name (Str.ofString "due") _] _ _) _) _ _ _); k_dflt (refine LCt.Assign_ListComp_T (F₀ := by k_asm) (by rfl) (by with_unfolding_all rfl) (by with_unfolding_all rfl) (by decide) (by rfl) (by decide) (by rfl) (by rfl) (by rfl) ?_))
  k_with "dueSrc" => ((rename Fr _ _ _ _ => lF); (rename News _ _ _ _ => lN); (rename IsRange _ _ _ _ _ _ _ _ => rgX); (refine LCt.CompSrcT.range (by rfl) lF lN rgX (by decide) (by rfl) (Nat.le_of_ble_eq_true rfl) ?_); intro g'; (obtain ⟨led0, hled0⟩ := newsIs lN); (clear lF lN rgX); (refine restT_inv (n := 4) (fun j ys nx => nx = led0 ∧ StrsAre ys (dueTo i k j)) ?dueT ?dueF 4 0 [] _ (by rfl) ⟨hled0.symm, .nil⟩); (case' dueT => rintro j ys nx v I' oI' C' oC' D' m' h' tk' E' hj ⟨rfl, hSy⟩ ⟨tj, rfl⟩ hC' hx' F' N' off' ne'; subst hled0; simp only [LCg.Off3, and_true] at off'); (case' dueF => rintro ys nx ⟨rfl, hSy⟩; subst hled0))
  k_steps
  all_goals first
    | exact hQ _ _ _ _ hSy (by assumption) (by assumption) (by assumption)
    | exact hQ _ _ _ _ hSy (by assumption) (by assumption) (by simp only [LCg.Off1, and_true]; assumption)
    | exact LCg.CompEnd.intro (by assumption) (by assumption) _ (fun p hp => hp) (by simp only [LCg.Off3, and_true]; assumption) trivial ⟨rfl, due_true (by assumption) (by omega) hSy (by omega)⟩
    | exact LCg.CompEnd.intro (by assumption) (by assumption) _ (fun p hp => hp) (by simp only [LCg.Off3, and_true]; assumption) trivial ⟨rfl, due_false (by assumption) (by omega) hSy⟩
end Mine
namespace Mine
set_option maxRecDepth 100000
set_option maxHeartbeats 4000000
open PySem PySem.W PySem.Calls PyProof.Rows
local macro_rules | `(tactic| walk_at "call ref") => `(tactic| k_extra "call")
local macro_rules | `(tactic| walk_at "call builtin:str.split") => `(tactic| k_extra "split")
theorem stWords (w : World) (mean : ExcName → Option Value) (mg mb : Str → Option Value) (h₀ : Heap) (L fa : Addr) (cd : Value) (B : Below callerA h₀ [] h₀) (X : (hd.heap_39 w.params).In h₀)
   (T : Top hd.view_39 (looseW hd.view_39 [Str.ofString "COMPILER_FLAG_NAMES"]) mean mg mb h₀) (m : Str → Option Value) (led : List (Addr × Obj)) (s : Shared) (Q : Flow → Shared → Prop) (E : Value → Shared → Prop)
   (i k : Nat) (hk : k < 30) (hi : i < 16) (tsh ti : Tok) (oM oS : Obj) (hS : oS.data = .cell (some (.int (k : Int) tsh))) (hM : oM.data = .cell (some (.int (i : Int) ti)))
   (F : Fr h₀ L s.heap m) (N : News h₀ L s.heap ((L + 1 + 1 + 1, oM) :: (L + 1 + 1, oS) :: led))
   (hQ : ∀ D ws h' tk', StrsAre ws (wordsOf i k) → Fr h₀ L h' (wi "words" (.ref D) m) → News h₀ L h' ((D, listOf ws.toArray 0) :: (L + 1 + 1 + 1, oM) :: (L + 1 + 1, oS) :: led) → (∀ p ∈ (L + 1 + 1 + 1, oM) :: (L + 1 + 1, oS) :: led, p.1 < D) → Q .next { s with heap := h', toks := tk' }) :
   wpAny (model Challenge.rw_pe0009_01.row.prog w) (callerA.deeper (envOfC (Str.ofString "law") lawScope L fa cd)) (exec (stOf 0) (envOfC (Str.ofString "law") lawScope L fa cd)) Q E s := by
  revert X
  k_fill
  w_top off
  intro X
  conv =>
    pattern stOf _
    whnf
  conv =>
    pattern (occs := *) lawScope
    all_goals whnf
  have hMk : KstMark := kstMark
  have hnil : IntsAre ([] : List Value) ([] : List Int) := .nil
  k_with_none
  k_with "call" => ((with_reducible show wpAny _ _ (call (Value.ref 22) [Value.int _ _]) _ _ _); (rw [flag_cast]); (k_dflt (refine' (flags_tells w _ (i * 2 ^ k) _ (flag_small hi hk)).use ?k1 ?k2 ?k3 ?k4 ?k5 ?kK ?kd ?ku ?_)); (case k1 => k_asm); (case k2 => k_asm); (case k3 => k_asm); (case k4 => k_asm); (case k5 => k_asm); (case kK => first | exact rfl | assumption); (case kd => ktr_room); (case ku => ktr_units); (rintro v9 made9 h9 tk9 ⟨rfl, t9, rfl⟩ lt9 F9 N9); (simp only [List.nil_append] at N9); (try k_fold))
  k_with "split" => ((rename Fr _ _ _ _ => lF); (rename News _ _ _ _ => lN); (refine words_split hi hk lF lN ?_); clear lF lN; intro DW ws hW kW sW FW NW lW)
  k_steps
  exact hQ _ _ _ _ sW (by assumption) (by assumption) lW
end Mine
namespace Mine
set_option maxRecDepth 100000
set_option maxHeartbeats 4000000
open PySem PySem.W PySem.Calls PyProof.Rows
local macro_rules | `(tactic| walk_at "compareOp NotEq ref ref") => `(tactic| k_extra "ne")
theorem words_some {i k : Nat} (h : decide (dueOf i k = []) = false) : (!decide (wordsOf i k = dueOf i k)) = false := by
  have h := of_decide_eq_false h
  have e : wordsOf i k = dueOf i k := by unfold wordsOf; rw [if_neg h]
  rw [e]; simp
theorem words_none {i k : Nat} (h : decide (dueOf i k = []) = true) : (!decide (wordsOf i k = [Str.ofString "0x0"])) = false := by
  have h := of_decide_eq_true h
  have e : wordsOf i k = [Str.ofString "0x0"] := by unfold wordsOf; rw [if_pos h]
  rw [e]; simp
theorem zero_ok : ∀ x ∈ [Str.ofString "0x0"], PyData.strOk x = true := fun x h => by
  rw [List.mem_singleton.mp h]; decide +kernel
theorem stIfWords (w : World) (mean : ExcName → Option Value) (mg mb : Str → Option Value) (h₀ : Heap) (L fa : Addr) (cd : Value) (B : Below callerA h₀ [] h₀) (X : (hd.heap_39 w.params).In h₀)
   (T : Top hd.view_39 (looseW hd.view_39 [Str.ofString "COMPILER_FLAG_NAMES"]) mean mg mb h₀) (m : Str → Option Value) (led : List (Addr × Obj)) (s : Shared) (Q : Flow → Shared → Prop) (E : Value → Shared → Prop)
   (i k : Nat) (hk : k < 30) (hi : i < 16) (dw dd : Addr) (cw : Nat) (ws ys : List Value) (hW : StrsAre ws (wordsOf i k)) (hD : StrsAre ys (dueOf i k))
   (F : Fr h₀ L s.heap (wi "due" (.ref dd) (wi "words" (.ref dw) m))) (N : News h₀ L s.heap ((dd, LCg.lst ys) :: (dw, listOf ws.toArray cw) :: led))
   (hQ : ∀ h' tk', Fr h₀ L h' (wi "due" (.ref dd) (wi "words" (.ref dw) m)) → News h₀ L h' ((dd, LCg.lst ys) :: (dw, listOf ws.toArray cw) :: led) → Q .next { s with heap := h', toks := tk' }) :
   wpAny (model Challenge.rw_pe0009_01.row.prog w) (callerA.deeper (envOfC (Str.ofString "law") lawScope L fa cd)) (exec (stOf 2) (envOfC (Str.ofString "law") lawScope L fa cd)) Q E s := by
  revert X
  k_fill
  w_top off
  intro X
  conv =>
    pattern stOf _
    whnf
  conv =>
    pattern (occs := *) lawScope
    all_goals whnf
  have hMk : KstMark := kstMark
  have hnil : IntsAre ([] : List Value) ([] : List Int) := .nil
  k_with_none
  k_with "ne" => first
    | ((rename Fr _ _ _ _ => lF); (rename News _ _ _ _ => lN); (refine ne_strsK (News.isList lN (by k_mem)) hD (News.isList lN (by k_mem)) StrsAre.nil (by ktr_units) (due_ok hi hk) nil_ok ?_))
    | ((rename Fr _ _ _ _ => lF); (rename News _ _ _ _ => lN); (refine ne_strsK (News.isList lN (by k_mem)) hW (News.isList lN (by k_mem)) hD (by ktr_units) (words_ok hi hk) (due_ok hi hk) ?_); (rw [words_some (by assumption)]))
    | ((rename Fr _ _ _ _ => lF); (rename News _ _ _ _ => lN); (refine ne_strsK (ms := [Str.ofString "0x0"]) (News.isList lN (by k_mem)) hW (News.isList lN (by k_mem)) (.cons _ _ .nil) (by ktr_units) (words_ok hi hk) zero_ok ?_); (rw [words_none (by assumption)]))
  k_steps
  all_goals exact hQ _ _ (by assumption) (news_sub (by assumption) (fun p hp => by simp only [List.mem_cons] at hp ⊢; rcases hp with h | h | h <;> simp [h]))
end Mine
namespace Mine
set_option maxRecDepth 100000
set_option maxHeartbeats 1000000
open PySem PySem.W PySem.Calls PyProof.Rows
theorem TellTop.use {w : World} {d : Nat} {f : Addr} {args : List Value} {led : List (Addr × Obj)} {post : Value → List (Addr × Obj) → Prop} (C : TellTop w d f args led post)
    {mean : ExcName → Option Value} {mg mb : Str → Option Value} {dp un : Nat} {gd : Option (List Code)} {cn : Str} {cs : Scope} {a : Addr} {ccd : Value} {cl : List (Str × Addr)} {A₀ : Around} {h₀ : Heap} {L : Addr} {m : Str → Option Value} {s : Shared} {Q E : Value → Shared → Prop}
    (B : Below A₀ h₀ [] h₀) (F : Fr h₀ L s.heap m) (X : (hd.heap_39 w.params).In h₀) (N : News h₀ L s.heap led) (T : Top hd.view_39 (looseW hd.view_39 [Str.ofString "COMPILER_FLAG_NAMES"]) mean mg mb h₀) (hk : cs.kind = .function)
    (hdp : dp + d < recursionLimit) (hun : un + 100 * d < cLine)
    (ret : ∀ v made h' tk', post v made → (∀ p ∈ led, ∀ q ∈ made, p.1 < q.1) → Fr h₀ L h' m → News h₀ L h' (made ++ led) → Q v { s with heap := h', toks := tk' }) :
    wpAny (model Challenge.rw_pe0009_01.row.prog w) (ktrTop dp un gd cn cs L a ccd cl []) (call (.ref f) args) Q E s :=
  C mean mg mb dp un gd cn cs a ccd cl A₀ h₀ L m s Q E B F X N T hk hdp hun ret
theorem in_words {i k j : Nat} {x : Int} (hi : i < 16) (hk : k < 30) (hj : j < 4) (hx : x = ((k + j : Nat) : Int)) : isIn (wordsOf i k) x = bitOf i j := by
  rw [hx]; exact in_all i hi k hk j hj
/-- the row of octets for a choice -/
def octs (n0 n1 n2 n3 n4 : Int) (i : Nat) : List Int := [octOf n0 (bitOf i 0), octOf n1 (bitOf i 1), octOf n2 (bitOf i 2), octOf n3 (bitOf i 3), octOf n4 false]
theorem octs_is {n0 n1 n2 n3 n4 : Int} {i k : Nat} {vs : List Value} (hi : i < 16) (hk : k < 30)
    (h : IntsAre vs [octOf n0 (isIn (wordsOf i k) ((k : Int) + 0)), octOf n1 (isIn (wordsOf i k) ((k : Int) + 1)), octOf n2 (isIn (wordsOf i k) ((k : Int) + 2)), octOf n3 (isIn (wordsOf i k) ((k : Int) + 3)), octOf n4 false]) : IntsAre vs (octs n0 n1 n2 n3 n4 i) := by
  rw [in_words (j := 0) hi hk (by decide) (by simp), in_words (j := 1) hi hk (by decide) (by simp), in_words (j := 2) hi hk (by decide) (by simp), in_words (j := 3) hi hk (by decide) (by simp)] at h
  exact h
theorem octs_bound {n0 n1 n2 n3 n4 : Int} {i : Nat} (b0 : 0 ≤ n0 ∧ n0 < 1073741824) (b1 : 0 ≤ n1 ∧ n1 < 1073741824) (b2 : 0 ≤ n2 ∧ n2 < 1073741824) (b3 : 0 ≤ n3 ∧ n3 < 1073741824) (b4 : 0 ≤ n4 ∧ n4 < 1073741824) : ∀ b ∈ octs n0 n1 n2 n3 n4 i, 0 ≤ b ∧ b < 256 := by
  intro b hb
  simp only [octs, List.mem_cons, List.not_mem_nil, or_false] at hb
  rcases hb with rfl | rfl | rfl | rfl | rfl
  · exact oct_bound b0.1
  · exact oct_bound b1.1
  · exact oct_bound b2.1
  · exact oct_bound b3.1
  · exact oct_bound b4.1
theorem octs_read {n0 n1 n2 n3 n4 : Int} {i : Nat} (hi : i < 16) (b0 : 0 ≤ n0 ∧ n0 < 1073741824) (b1 : 0 ≤ n1 ∧ n1 < 1073741824) (b2 : 0 ≤ n2 ∧ n2 < 1073741824) (b3 : 0 ≤ n3 ∧ n3 < 1073741824) (b4 : 0 ≤ n4 ∧ n4 < 1073741824) :
    readN 5 (octs n0 n1 n2 n3 n4 i) = rows16 (n0.fmod 64) (n1.fmod 64) (n2.fmod 64) (n3.fmod 64) (n4.fmod 64) i := read16 b0.1 b1.1 b2.1 b3.1 b4.1 hi
theorem mod_bound {n : Int} : 0 ≤ n.fmod 64 ∧ n.fmod 64 < 64 := by
  rw [Int.fmod_eq_emod_of_nonneg _ (by decide)]
  exact ⟨Int.emod_nonneg _ (by decide), Int.emod_lt_of_pos _ (by decide)⟩
theorem whole_bound {d0 d1 d2 d3 d4 : Int} (h0 : 0 ≤ d0 ∧ d0 < 64) (h1 : 0 ≤ d1 ∧ d1 < 64) (h2 : 0 ≤ d2 ∧ d2 < 64) (h3 : 0 ≤ d3 ∧ d3 < 64) (h4 : 0 ≤ d4 ∧ d4 < 64) : 0 ≤ wholeOf d0 d1 d2 d3 d4 ∧ wholeOf d0 d1 d2 d3 d4 < 1073741824 := by
  unfold wholeOf; omega
theorem rows_bound {d0 d1 d2 d3 d4 : Int} (h0 : 0 ≤ d0 ∧ d0 < 64) (h1 : 0 ≤ d1 ∧ d1 < 64) (h2 : 0 ≤ d2 ∧ d2 < 64) (h3 : 0 ≤ d3 ∧ d3 < 64) (h4 : 0 ≤ d4 ∧ d4 < 64) (i : Nat) : ∀ v ∈ rows16 d0 d1 d2 d3 d4 i, 0 ≤ v ∧ v < 1073741824 := by
  intro v hv
  unfold rows16 at hv
  split at hv <;> simp only [List.mem_cons, List.not_mem_nil, or_false] at hv <;> omega
theorem rows_len {d0 d1 d2 d3 d4 : Int} (i : Nat) : (rows16 d0 d1 d2 d3 d4 i).length ≤ 5 := by
  unfold rows16
  split <;> simp
end Mine
namespace Mine
set_option maxRecDepth 100000
set_option maxHeartbeats 4000000
local macro_rules | `(tactic| walk_at "nothing of the kind") => `(tactic| fail)
open PySem PySem.W PySem.Calls PyProof.Rows
local macro_rules | `(tactic| walk_at "call ref") => `(tactic| k_extra "call")
theorem stRow (w : World) (mean : ExcName → Option Value) (mg mb : Str → Option Value) (h₀ : Heap) (L fa : Addr) (cd : Value) (B : Below callerA h₀ [] h₀) (X : (hd.heap_39 w.params).In h₀)
   (T : Top hd.view_39 (looseW hd.view_39 [Str.ofString "COMPILER_FLAG_NAMES"]) mean mg mb h₀) (m : Str → Option Value) (led : List (Addr × Obj)) (s : Shared) (Q : Flow → Shared → Prop) (E : Value → Shared → Prop)
   (i k : Nat) (hk : k < 30) (hi : i < 16) (nm dw : Addr) (cn cw : Nat) (ws : List Value) (hW : StrsAre ws (wordsOf i k)) (tsh : Tok) (oS : Obj) (hS : oS.data = .cell (some (.int (k : Int) tsh))) (n0 n1 n2 n3 n4 n5 : Int) (u0 u1 u2 u3 u4 u5 : Tok) (b0 : 0 ≤ n0 ∧ n0 < 1073741824) (b1 : 0 ≤ n1 ∧ n1 < 1073741824) (b2 : 0 ≤ n2 ∧ n2 < 1073741824) (b3 : 0 ≤ n3 ∧ n3 < 1073741824) (b4 : 0 ≤ n4 ∧ n4 < 1073741824)
   (F : Fr h₀ L s.heap (wi "words" (.ref dw) (wi "numbers" (.ref nm) m))) (N : News h₀ L s.heap ((nm, listOf [Value.int n0 u0, .int n1 u1, .int n2 u2, .int n3 u3, .int n4 u4, .int n5 u5].toArray cn) :: (dw, listOf ws.toArray cw) :: (L + 1 + 1, oS) :: led))
   (hQ : ∀ a us c h' tk', IntsAre us (rows16 (n0.fmod 64) (n1.fmod 64) (n2.fmod 64) (n3.fmod 64) (n4.fmod 64) i) → Fr h₀ L h' (wi "row" (.ref a) (wi "words" (.ref dw) (wi "numbers" (.ref nm) m))) → News h₀ L h' ((a, listOf us.toArray c) :: (nm, listOf [Value.int n0 u0, .int n1 u1, .int n2 u2, .int n3 u3, .int n4 u4, .int n5 u5].toArray cn) :: (dw, listOf ws.toArray cw) :: (L + 1 + 1, oS) :: led) → (∀ p ∈ (nm, listOf [Value.int n0 u0, .int n1 u1, .int n2 u2, .int n3 u3, .int n4 u4, .int n5 u5].toArray cn) :: (dw, listOf ws.toArray cw) :: (L + 1 + 1, oS) :: led, p.1 < a) → Q .next { s with heap := h', toks := tk' }) :
   wpAny (model Challenge.rw_pe0009_01.row.prog w) (callerA.deeper (envOfC (Str.ofString "law") lawScope L fa cd)) (exec (stOf 3) (envOfC (Str.ofString "law") lawScope L fa cd)) Q E s := by
  revert X
  k_fill
  w_top off
  intro X
  conv =>
    pattern stOf _
    whnf
  conv =>
    pattern (occs := *) lawScope
    all_goals whnf
  have hMk : KstMark := kstMark
  have hnil : IntsAre ([] : List Value) ([] : List Int) := .nil
  k_with_none
  have hsh : 0 ≤ (k : Int) ∧ (k : Int) < 30 := by omega
  k_with "call" => first
    | ((with_reducible show wpAny _ _ (call (Value.ref 50) _) _ _ _); (k_dflt (refine' (octets_tells w _ nm dw n0 n1 n2 n3 n4 n5 (k : Int) u0 u1 u2 u3 u4 u5 _ cn cw ws (wordsOf i k) hW b0 b1 b2 b3 b4 hsh).use ?k1 ?k2 ?k3 ?k4 ?k5 ?kK ?kd ?ku ?_)); (case k1 => k_asm); (case k2 => k_asm); (case k3 => k_asm); (case k4 => k_asm); (case k5 => k_asm); (case kK => first | exact rfl | assumption); (case kd => ktr_room); (case ku => ktr_units); (rintro v9 made9 h9 tk9 ⟨l9, vs9, c9, rfl, rfl, hI9⟩ lt9 F9 N9); (simp only [List.cons_append, List.nil_append] at N9); (have hO9 := octs_is hi hk hI9); clear hI9; (try k_fold))
    | ((with_reducible show wpAny _ _ (call (Value.ref 57) _) _ _ _); (k_dflt (refine' (read_tells w _ _ _ _ _ hO9 (octs_bound b0 b1 b2 b3 b4) (by simp [octs]) (ends16 b4.1)).use ?k1 ?k2 ?k3 ?k4 ?k5 ?kK ?kd ?ku ?_)); (case k1 => k_asm); (case k2 => k_asm); (case k3 => k_asm); (case k4 => k_asm); (case k5 => k_asm); (case kK => first | exact rfl | assumption); (case kd => ktr_room); (case ku => ktr_units); (rintro v8 made8 h8 tk8 ⟨l8, vs8, c8, rfl, rfl, hI8⟩ lt8 F8 N8); (simp only [List.cons_append, List.nil_append] at N8); (rw [octs_read hi b0 b1 b2 b3 b4] at hI8); (try k_fold))
  k_steps
  exact hQ _ _ c8 _ _ hI8 (by assumption) (news_sub (by assumption) (fun p hp => by simp only [List.mem_cons] at hp ⊢; rcases hp with h | h | h | h | h <;> simp [h])) (fun p hp => lt8 p (.tail _ hp) _ (.head _))
end Mine
namespace Mine
set_option maxRecDepth 100000
set_option maxHeartbeats 4000000
local macro_rules | `(tactic| walk_at "nothing of the kind") => `(tactic| fail)
open PySem PySem.W PySem.Calls PyProof.Rows
local macro_rules | `(tactic| walk_at "call ref") => `(tactic| k_extra "call")
local macro_rules | `(tactic| walk_at "compareOp NotEq ref ref") => `(tactic| k_extra "ne")
theorem ne_same {a : List Int} : (!decide (a = a)) = false := by simp
theorem stIfRow (w : World) (mean : ExcName → Option Value) (mg mb : Str → Option Value) (h₀ : Heap) (L fa : Addr) (cd : Value) (B : Below callerA h₀ [] h₀) (X : (hd.heap_39 w.params).In h₀)
   (T : Top hd.view_39 (looseW hd.view_39 [Str.ofString "COMPILER_FLAG_NAMES"]) mean mg mb h₀) (m : Str → Option Value) (led : List (Addr × Obj)) (s : Shared) (Q : Flow → Shared → Prop) (E : Value → Shared → Prop)
   (i : Nat) (hi : i < 16) (a : Addr) (c : Nat) (us : List Value) (n0 n1 n2 n3 n4 : Int) (hR : IntsAre us (rows16 (n0.fmod 64) (n1.fmod 64) (n2.fmod 64) (n3.fmod 64) (n4.fmod 64) i)) (ti tW : Tok) (oM : Obj) (hM : oM.data = .cell (some (.int (i : Int) ti)))
   (F : Fr h₀ L s.heap (wi "row" (.ref a) (wi "whole" (.int (wholeOf (n0.fmod 64) (n1.fmod 64) (n2.fmod 64) (n3.fmod 64) (n4.fmod 64)) tW) m))) (N : News h₀ L s.heap ((a, listOf us.toArray c) :: (L + 1 + 1 + 1, oM) :: led))
   (hQ : ∀ h' tk', Fr h₀ L h' (wi "row" (.ref a) (wi "whole" (.int (wholeOf (n0.fmod 64) (n1.fmod 64) (n2.fmod 64) (n3.fmod 64) (n4.fmod 64)) tW) m)) → News h₀ L h' ((a, listOf us.toArray c) :: (L + 1 + 1 + 1, oM) :: led) → Q .next { s with heap := h', toks := tk' }) :
   wpAny (model Challenge.rw_pe0009_01.row.prog w) (callerA.deeper (envOfC (Str.ofString "law") lawScope L fa cd)) (exec (stOf 4) (envOfC (Str.ofString "law") lawScope L fa cd)) Q E s := by
  revert X
  k_fill
  w_top off
  intro X
  conv =>
    pattern stOf _
    whnf
  conv =>
    pattern (occs := *) lawScope
    all_goals whnf
  have hMk : KstMark := kstMark
  have hnil : IntsAre ([] : List Value) ([] : List Int) := .nil
  k_with_none
  have hwb := whole_bound (mod_bound (n := n0)) (mod_bound (n := n1)) (mod_bound (n := n2)) (mod_bound (n := n3)) (mod_bound (n := n4))
  have hib : 0 ≤ (i : Int) ∧ (i : Int) < 16 := by omega
  k_with "call" => ((with_reducible show wpAny _ _ (call (Value.ref 64) _) _ _ _); (k_dflt (refine' (cut_tells w _ _ _ _ _ hwb hib).use ?k1 ?k2 ?k3 ?k4 ?k5 ?kK ?kd ?ku ?_)); (case k1 => k_asm); (case k2 => k_asm); (case k3 => k_asm); (case k4 => k_asm); (case k5 => k_asm); (case kK => first | exact rfl | assumption); (case kd => ktr_room); (case ku => ktr_units); (rintro v9 made9 h9 tk9 ⟨l9, vs9, c9, rfl, rfl, hI9⟩ lt9 F9 N9); (simp only [List.cons_append, List.nil_append] at N9); (rw [cut16 (mod_bound (n := n0)) (mod_bound (n := n1)) (mod_bound (n := n2)) (mod_bound (n := n3)) (mod_bound (n := n4)) hi] at hI9); (try k_fold))
  k_with "ne" => ((rename Fr _ _ _ _ => lF); (rename News _ _ _ _ => lN); (refine ne_intsK (News.isList lN (by k_mem)) hR (News.isList lN (by k_mem)) hI9 (by ktr_units) ?_); (rw [ne_same]))
  k_steps
  all_goals exact hQ _ _ (by assumption) (news_sub (by assumption) (fun p hp => .tail _ hp))
end Mine
namespace Mine
set_option maxRecDepth 100000
set_option maxHeartbeats 4000000
open PySem PySem.W PySem.Calls PyProof.Rows
theorem blank_is {i : Nat} : ((i : Int).fmod 2 == 1) = bitOf i 0 := by
  have h := bit_int (i := i) (j := 0) (x := 0) rfl
  rw [show (2 : Int) ^ Int.toNat 0 = 1 from rfl, Int.fdiv_one] at h
  rw [h]
  cases bitOf i 0 <;> simp
theorem stBlank (w : World) (mean : ExcName → Option Value) (mg mb : Str → Option Value) (h₀ : Heap) (L fa : Addr) (cd : Value) (B : Below callerA h₀ [] h₀) (X : (hd.heap_39 w.params).In h₀)
   (T : Top hd.view_39 (looseW hd.view_39 [Str.ofString "COMPILER_FLAG_NAMES"]) mean mg mb h₀) (m : Str → Option Value) (led : List (Addr × Obj)) (s : Shared) (Q : Flow → Shared → Prop) (E : Value → Shared → Prop)
   (i : Nat) (hi : i < 16) (ti : Tok) (oM : Obj) (hM : oM.data = .cell (some (.int (i : Int) ti)))
   (F : Fr h₀ L s.heap m) (N : News h₀ L s.heap ((L + 1 + 1 + 1, oM) :: led))
   (hQ : ∀ h' tk', Fr h₀ L h' (wi "blank" (.bool (bitOf i 0)) m) → News h₀ L h' ((L + 1 + 1 + 1, oM) :: led) → Q .next { s with heap := h', toks := tk' }) :
   wpAny (model Challenge.rw_pe0009_01.row.prog w) (callerA.deeper (envOfC (Str.ofString "law") lawScope L fa cd)) (exec (stOf 5) (envOfC (Str.ofString "law") lawScope L fa cd)) Q E s := by
  revert X
  k_fill
  w_top off
  intro X
  conv =>
    pattern stOf _
    whnf
  conv =>
    pattern (occs := *) lawScope
    all_goals whnf
  have hMk : KstMark := kstMark
  have hnil : IntsAre ([] : List Value) ([] : List Int) := .nil
  k_with_none
  k_steps
  (rename Fr _ _ _ _ => lF)
  rw [blank_is] at lF
  exact hQ _ _ lF (by assumption)
end Mine
namespace Mine
set_option maxRecDepth 100000
set_option maxHeartbeats 4000000
open PySem PySem.W PySem.Calls PyProof.Rows
theorem stLines (w : World) (mean : ExcName → Option Value) (mg mb : Str → Option Value) (h₀ : Heap) (L fa : Addr) (cd : Value) (B : Below callerA h₀ [] h₀) (X : (hd.heap_39 w.params).In h₀)
   (T : Top hd.view_39 (looseW hd.view_39 [Str.ofString "COMPILER_FLAG_NAMES"]) mean mg mb h₀) (m : Str → Option Value) (led : List (Addr × Obj)) (s : Shared) (Q : Flow → Shared → Prop) (E : Value → Shared → Prop)
   (a : Addr) (c : Nat) (us : List Value) (hus : us.length ≤ 5) (b : Bool)
   (F : Fr h₀ L s.heap (wi "blank" (.bool b) (wi "row" (.ref a) m))) (N : News h₀ L s.heap ((a, listOf us.toArray c) :: led))
   (hQ : ∀ ln ls cl h' tk', ls = us ++ (if b = true then [Value.none] else []) → Fr h₀ L h' (wi "lines" (.ref ln) (wi "blank" (.bool b) (wi "row" (.ref a) m))) → News h₀ L h' ((ln, listOf ls.toArray cl) :: (a, listOf us.toArray c) :: led) → Q .next { s with heap := h', toks := tk' }) :
   wpAny (model Challenge.rw_pe0009_01.row.prog w) (callerA.deeper (envOfC (Str.ofString "law") lawScope L fa cd)) (exec (stOf 6) (envOfC (Str.ofString "law") lawScope L fa cd)) Q E s := by
  revert X
  k_fill
  w_top off
  intro X
  conv =>
    pattern stOf _
    whnf
  conv =>
    pattern (occs := *) lawScope
    all_goals whnf
  have hMk : KstMark := kstMark
  have hnil : IntsAre ([] : List Value) ([] : List Int) := .nil
  k_with_none
  k_steps
  all_goals subst b
  · exact hQ _ (us ++ [Value.none]) 0 _ _ (by simp) (by assumption) (news_sub (by assumption) (fun p hp => by simp only [List.mem_cons] at hp ⊢; rcases hp with h | h | h <;> simp [h]))
  · exact hQ _ us c _ _ (by simp) (by assumption) (news_sub (by assumption) (fun p hp => by simp only [List.mem_cons] at hp ⊢; rcases hp with h | h | h <;> simp [h]))
end Mine
namespace Mine
set_option maxRecDepth 100000
set_option maxHeartbeats 1000000
open PySem PySem.W PySem.Calls PyProof.Rows PyProof.Rows.LCg PySem.Spec
/-- the pairs of places and values -/
def ekv : Nat → List Value → List (Int × Value)
  | _, [] => []
  | a, v :: r => ((a : Int), v) :: ekv (a + 1) r
theorem ekv_snoc : ∀ (xs : List Value) (a : Nat) (v : Value), ekv a (xs ++ [v]) = ekv a xs ++ [(((a + xs.length : Nat) : Int), v)]
  | [], a, v => by simp [ekv]
  | x :: r, a, v => by
    have := ekv_snoc r (a + 1) v
    simp only [List.cons_append, ekv, this, List.length_cons]
    rw [show a + 1 + r.length = a + (r.length + 1) by omega]
theorem ekv_keys : ∀ (xs : List Value) (a : Nat), ∀ p ∈ ekv a xs, ∃ j : Nat, p.1 = (j : Int) ∧ a ≤ j ∧ j < a + xs.length
  | [], _, p, h => nomatch h
  | x :: r, a, p, h => by
    rcases List.mem_cons.mp h with rfl | h
    · exact ⟨a, rfl, Nat.le_refl _, by simp⟩
    · obtain ⟨j, e, h1, h2⟩ := ekv_keys r (a + 1) p h
      exact ⟨j, e, by omega, by simp only [List.length_cons]; omega⟩
theorem ekv_stored (xs : List Value) (v : Value) : stored (ekv 0 xs) ((xs.length : Nat) : Int) v = ekv 0 (xs ++ [v]) := by
  unfold stored
  rw [if_neg, ekv_snoc, Nat.zero_add]
  intro h
  obtain ⟨p, hp, e⟩ := List.any_eq_true.mp h
  obtain ⟨j, e1, _, h2⟩ := ekv_keys xs 0 p hp
  have e2 := of_decide_eq_true e
  rw [e1] at e2
  omega
theorem ekv_length : ∀ (xs : List Value) (a : Nat), (ekv a xs).length = xs.length
  | [], _ => rfl
  | _ :: r, a => by simp [ekv, ekv_length r (a + 1)]
theorem ekv_mem : ∀ (xs : List Value) (a : Nat) (v : Value), (∃ k, (k, v) ∈ ekv a xs) ↔ v ∈ xs
  | [], _, v => by simp [ekv]
  | x :: r, a, v => by
    have := ekv_mem r (a + 1) v
    constructor
    · rintro ⟨k, h⟩
      rcases List.mem_cons.mp h with h | h
      · cases h; exact .head _
      · exact .tail _ (this.mp ⟨k, h⟩)
    · intro h
      rcases List.mem_cons.mp h with rfl | h
      · exact ⟨_, .head _⟩
      · obtain ⟨k, q⟩ := this.mpr h
        exact ⟨k, .tail _ q⟩
section
variable {prog : Program} {w : World} {A : Around} {E : Value → Shared → Prop} {s : Shared} {h₀ : Heap} {L : Addr} {m : Str → Option Value} {env : Env}
theorem kcd_loop {kx vx target iter : PySem.Expr} {scope : Scope} {pos : Pos} {it : Value} {D : Addr} {env : Env} {R : Result → Shared → Prop} (I : Nat → Shared → Prop)
    (turn : ∀ n s, I n s → wpAny (model prog w) A (pyNext it) (fun r s₁ => match r with
      | none => R (.ok .next) s₁
      | some v => wpAny (model prog w) A (letOwnedTupleGo target it v) (fun _ s₀ => wpAny (model prog w) A (assign target env v) (fun _ s₂ =>
          wpAny (model prog w) A (eval kx env) (fun kv s₄ => wpAny (model prog w) A (eval vx env) (fun vv s₅ =>
            wpAny (model prog w) A (dictSet D kv vv) (fun _ s₆ => ∃ m, m < n ∧ I m s₆) (notedBy (model prog w) A env fun e s' => R (.error e) s') s₅) (notedBy (model prog w) A env fun e s' => R (.error e) s') s₄) (notedBy (model prog w) A env fun e s' => R (.error e) s') s₂)
          (notedBy (model prog w) A env fun e s' => R (.error e) s') s₀) (notedBy (model prog w) A env fun e s' => R (.error e) s') s₁) (notedBy (model prog w) A env fun e s' => R (.error e) s') s)
    (n : Nat) (h : I n s) : codeAny (model prog w) A (.compLoop (.DictComp kx vx [⟨target, iter, [], 0⟩] scope pos) 0 it (.ref D) env) R s := by
  refine codeAny_loop rfl I (fun n s hI => ?_) n h
  show wpAny _ A ((compTurn (.DictComp kx vx [⟨target, iter, [], 0⟩] scope pos) 0 it (.ref D) env).onRaise (fun x => do noteFrame x env; theTreesLotGoes x)) _ _ s
  refine wpAny_noted ?_
  rw [compTurn_dict]
  refine wpAny_bind (wpAny_standAt (wpAny_bind (wpAny_mono (turn n s hI) (fun r s₁ h₁ => ?_) fun _ _ h' => h')))
  cases r with
  | none => exact wpAny_pure h₁
  | some v =>
    refine wpAny_bind (wpAny_mono h₁ (fun _ s₀ h₀' => ?_) fun _ _ h' => h')
    refine wpAny_bind (wpAny_mono h₀' (fun _ s₂ h₂ => ?_) fun _ _ h' => h')
    refine wpAny_bind (wpAny_tests_nil ?_)
    exact wpAny_bind (wpAny_bind (wpAny_mono h₂ (fun kv s₄ h₄ => wpAny_bind (wpAny_holding (wpAny_mono h₄ (fun vv s₅ h₅ => wpAny_bind (wpAny_standAt (wpAny_holding (wpAny_mono h₅ (fun _ s₆ h₆ => wpAny_pure ⟨rfl, h₆⟩) fun _ _ h' => h')))) fun _ _ h' => h'))) fun _ _ h' => h'))
theorem name_comp {a : Str} {pa : Pos} {scope : Scope} {cl : List (Str × Addr)} {C : Addr} {s₁ : Shared} {m₂ : Str → Option Value} {v : Value} {Q : Value → Shared → Prop} (hd : (a == ("__debug__" : Str)) = false) (hkind : scope.kind = .function) (hxa : scope.names.lookup a = some .local)
    (hn : s₁.heap.Ns C m₂) (hv : m₂ a = some v) (h : Q v s₁) : wpAny (model prog w) A (eval (.Name a pa) (compEnvC scope cl C env)) Q E s₁ := by
  rw [eval_Name (hd := hd)]
  refine wpAny_bind (wpAny_standAt ?_)
  exact wpAny_loadName_local (by simp [compEnvC, relabel, hkind]) (lookup_relabel_local hxa) hn hv h
theorem block_D {iter : PySem.Expr} {a b : Str} {pa pb pa' pb' tp : Pos} {kk : Nat} {scope : Scope} {cl : List (Str × Addr)} {pos : Pos} {s₂ : Shared} {e it l : Addr} {vs : List Value} {news : List (Addr × Obj)}
    {RR : Value → Addr → Result → Shared → Prop} (hh : A.handled = none) (hsz : vs.length ≤ sizeLine)
    (hcell : ∀ y ∈ scope.names, y.2 ≠ .cell) (hkind : scope.kind = .function) (hxa : scope.names.lookup a = some .local) (hxb : scope.names.lookup b = some .local) (hab : ¬ a = b) (hda : (a == ("__debug__" : Str)) = false) (hdb : (b == ("__debug__" : Str)) = false)
    (S : ESrc h₀ L m s₂.heap e it l vs news)
    (hRR : ∀ D C h tk m' oD, Fr h₀ L h m → News h₀ L h ((D, oD) :: news) → oD.IsDictOf (intKind prog w) (ekv 0 vs) → h.Ns C m' → h₀.get? C = none → C ≠ L → D ≠ L → C ≠ D → (∀ p ∈ news, p.1 ≠ C) → (∀ p ∈ news, p.1 < D) → L < D → RR (.ref D) C (.ok .next) { s₂ with heap := h, toks := tk }) :
    wpAny (model prog w) A newDict (fun acc s₃ => wpAny (model prog w) A (newFunctionEnv scope env.globals cl [] env.qual none .none (some env)) (fun cenv s₄ =>
      codeAny (model prog w) A (.compStart (.DictComp (.Name a pa') (.Name b pb') [⟨.Tuple [.Name a pa, .Name b pb] kk tp, iter, [], 0⟩] scope pos) 0 (.ref e) acc { cenv with scope := relabel scope env }) (RR acc cenv.locals) s₄) E s₃) E s₂ := by
  obtain ⟨hei, hle, hli, he, hit, hl, he₀, hi₀, hl₀, heL, hiL, hlL, offe, offi, F, N⟩ := S
  refine wpAny_newObj_type (wpAny_newFunctionEnv hcell (by intro y hy; simp at hy) (fun h₁ hns₁ hsb₁ => ?_) hkind)
  dsimp only at hns₁ hsb₁ ⊢
  have hnew : (s₂.heap.push { cls := .type "dict", dict := none, data := .dict #[] }).DictOf (intKind prog w) s₂.heap.objs.size [] := Heap.DictOf.new s₂.heap
  generalize hH2 : s₂.heap.push { cls := .type "dict", dict := none, data := .dict #[] } = H2 at hns₁ hsb₁ hnew ⊢
  have hC : H2.objs.size = s₂.heap.objs.size + 1 := by rw [← hH2, Heap.size_push]
  have hDC : s₂.heap.objs.size ≠ H2.objs.size := by rw [hC]; exact Nat.ne_of_lt (Nat.lt_succ_self _)
  have below : ∀ b, b < s₂.heap.objs.size → b ≠ H2.objs.size ∧ b ≠ s₂.heap.objs.size := fun b hb => ⟨by rw [hC]; exact Nat.ne_of_lt (Nat.lt_succ_of_lt hb), Nat.ne_of_lt hb⟩
  have helt : e < s₂.heap.objs.size := Heap.lt_size he
  have hilt : it < s₂.heap.objs.size := by obtain ⟨_, x, _⟩ := hit; exact Heap.lt_size x
  have hllt : l < s₂.heap.objs.size := by obtain ⟨_, x, _⟩ := hl; exact Heap.lt_size x
  have old : ∀ b o, s₂.heap.get? b = some o → h₁.get? b = some o := fun b o e => hsb₁.extBut b o (below b (Heap.lt_size e)).1 (Heap.get?_push_of_some _ (hH2 ▸ Heap.get?_push_of_some _ e))
  have hacc : h₁.DictOf (intKind prog w) s₂.heap.objs.size (ekv 0 ([] : List Value)) := hnew.at fun o e => hsb₁.extBut _ _ hDC (Heap.get?_push_of_some _ e)
  have fresh : ∀ a, s₂.heap.objs.size ≤ a → s₂.heap.get? a = none := fun a ha => by
    cases e : s₂.heap.get? a with
    | none => rfl
    | some o' => exact absurd (Heap.lt_size e) (Nat.not_lt.mpr ha)
  have fresh₀ : ∀ a, s₂.heap.objs.size ≤ a → h₀.get? a = none := fun a ha => by
    cases e : h₀.get? a with
    | none => rfl
    | some o' => have := F.keep a o' e; rw [fresh a ha] at this; cases this
  have hD₀ : h₀.get? s₂.heap.objs.size = none := fresh₀ _ (Nat.le_refl _)
  have hC₀ : h₀.get? H2.objs.size = none := fresh₀ _ (by rw [hC]; exact Nat.le_succ _)
  have hLlt : L < s₂.heap.objs.size := F.ns.lt
  have hDL : s₂.heap.objs.size ≠ L := Ne.symm (below L hLlt).2
  have hCL : H2.objs.size ≠ L := Ne.symm (below L hLlt).1
  have newsC : ∀ p ∈ news, p.1 ≠ H2.objs.size := fun p hp => (below _ (Heap.lt_size (N p hp).1)).1
  have newsD : ∀ p ∈ news, p.1 ≠ s₂.heap.objs.size := fun p hp => (below _ (Heap.lt_size (N p hp).1)).2
  have W := KTurns.ofWalksU (elts := [.Name a pa, .Name b pb]) (k := kk) (pos := tp) (WalksT.enumerate (prog := prog) (w := w) (A := A) hh e it l hei hle hli vs.toArray).toU
  have loop : ∀ s₃ : Shared, s₃ = { s₂ with heap := h₁, toks := s₂.toks + ([] : List (Str × Value)).length } →
      codeAny (model prog w) A (.compLoop (.DictComp (.Name a pa') (.Name b pb') [⟨.Tuple [.Name a pa, .Name b pb] kk tp, iter, [], 0⟩] scope pos) 0 (.ref e) (.ref s₂.heap.objs.size) (compEnvC scope cl H2.objs.size env))
        (RR (.ref s₂.heap.objs.size) H2.objs.size) s₃ := by
    rintro s₃ rfl
    refine kcd_loop
      (fun k s' => ∃ h' tk i m', s' = { s₂ with heap := h', toks := tk } ∧ i ≤ vs.length ∧ k = vs.length + 1 - i ∧ ((∃ old, IsEnum h' e it (i : Nat) old) ∧ h'.IsListIter it l i ∧ h'.IsList l vs.toArray) ∧ Fr h₀ L h' m ∧ h'.Ns H2.objs.size m' ∧
        News h₀ L h' news ∧ h'.DictOf (intKind prog w) s₂.heap.objs.size (ekv 0 (vs.take i))) ?_ (vs.length + 1)
      ⟨h₁, _, 0, _, rfl, Nat.zero_le _, rfl, ⟨⟨.none, old _ _ he⟩, hit.at fun o x => old _ o x, hl.at fun o x => old _ o x⟩, F.keeps old, hns₁, fun p hp => ⟨old _ _ (N p hp).1, (N p hp).2⟩, by rw [List.take_zero]; exact hacc⟩
    · rintro k s' ⟨h', tk, i, m', rfl, hi, rfl, hst', F', hn', N', D'⟩
      by_cases hlt : i < vs.length
      · refine W.item i _ _ _ (by simpa using hlt) hst' fun v h₂ tk₂ hMd hk₂ => ?_
        refine W.go i v _ _ _ hMd fun h₃ hP hst₃ hk₃ => ?_
        obtain ⟨T, vals, rfl, ⟨t, x, hx, rfl⟩, hT⟩ := hP
        have hx' : vs[i] = x := by
          have q : vs[i]? = some x := by simpa using hx
          rw [List.getElem?_eq_getElem hlt] at q
          exact Option.some.inj q
        have up₃ : ∀ c o, c ≠ e → c ≠ it → h'.get? c = some o → h₃.get? c = some o := fun c o h1 h2 q => hk₃ c o (by simp [h1, h2]) (hk₂ c o (by simp [h1, h2]) q)
        refine kcp_assign (env := compEnvC scope cl H2.objs.size env) hh hT (lookup_relabel_local hxa) (lookup_relabel_local hxb) (by simp [compEnvC, relabel, hkind]) (hn'.at' fun o q => up₃ _ o (Ne.symm (below e helt).1) (Ne.symm (below it hilt).1) q) fun h₄ tk₄ hn₄ hs₄ => ?_
        have up : ∀ c o, c ≠ e → c ≠ it → c ≠ H2.objs.size → h'.get? c = some o → h₄.get? c = some o := fun c o h1 h2 h3 q => hs₄ c o h3 (up₃ c o h1 h2 q)
        have three : ∀ c, c ∈ [e, it, l] → c ≠ H2.objs.size ∧ c ≠ s₂.heap.objs.size := fun c hc => by
          have hc' : c = e ∨ c = it ∨ c = l := by simpa using hc
          rcases hc' with rfl | rfl | rfl
          · exact below _ helt
          · exact below _ hilt
          · exact below _ hllt
        have hst₄ : (∃ old, IsEnum h₄ e it ((i + 1 : Nat) : Int) old) ∧ h₄.IsListIter it l (i + 1) ∧ h₄.IsList l vs.toArray := W.frame _ _ _ hst₃ fun c hc o q => hs₄ c o (three c hc).1 q
        refine name_comp hda hkind hxa hn₄ (v := .int (i : Int) t) (by simp [hab]) ?_
        refine name_comp hdb hkind hxb hn₄ (v := x) (by simp) ?_
        refine wpAny_dictSet_pairs (knd := intKind prog w) (hsz := by rw [ekv_length, List.length_take]; omega) (intKind_is _ _ _ _) (D'.at fun o q => up _ o (Nat.ne_of_gt helt) (Nat.ne_of_gt hilt) hDC q) fun h₆ hD₆ hs₆ => ?_
        have hlen : (vs.take i).length = i := by rw [List.length_take]; omega
        have hD₇ : h₆.DictOf (intKind prog w) s₂.heap.objs.size (ekv 0 (vs.take (i + 1))) := by
          have q := ekv_stored (vs.take i) x
          rw [hlen] at q
          rw [q] at hD₆
          have tk : vs.take (i + 1) = vs.take i ++ [x] := by rw [List.take_succ, List.getElem?_eq_getElem hlt, hx']; rfl
          rw [tk]
          exact hD₆
        have F₆ : Fr h₀ L h₆ m := ⟨F'.ns.at' fun o q => hs₆.extBut _ o (Ne.symm hDL) (up _ o (Ne.symm heL) (Ne.symm hiL) (Ne.symm hCL) q), fun c o q => hs₆.extBut c o (fun z => by rw [z, hD₀] at q; cases q) (up c o (fun z => by rw [z, he₀] at q; cases q) (fun z => by rw [z, hi₀] at q; cases q) (fun z => by rw [z, hC₀] at q; cases q) (F'.keep c o q)), F'.above⟩
        refine ⟨vs.length + 1 - (i + 1), by omega, h₆, _, i + 1, _, rfl, hlt, rfl, W.frame _ _ _ hst₄ fun c hc o q => hs₆.extBut c o (three c hc).2 q, F₆, hn₄.sameBut hs₆ (Ne.symm hDC), fun q hq => ?_, hD₇⟩
        exact ⟨hs₆.extBut _ _ (newsD q hq) (up _ _ (offe q hq) (offi q hq) (newsC q hq) (N' q hq).1), (N' q hq).2⟩
      · have hin : i = vs.length := Nat.le_antisymm hi (Nat.not_lt.mp hlt)
        subst hin
        refine W.done _ _ _ (by simpa using hst') fun h₂ tk₂ hk₂ => ?_
        have up₂ : ∀ c o, c ≠ e → c ≠ it → h'.get? c = some o → h₂.get? c = some o := fun c o h1 h2 q => hk₂ c o (by simp [h1, h2]) q
        rw [List.take_length] at D'
        obtain ⟨oD, hoD, hdD⟩ := Heap.dictOf_iff.mp (D'.at fun o q => up₂ _ o (Nat.ne_of_gt helt) (Nat.ne_of_gt hilt) q)
        refine hRR _ _ h₂ tk₂ _ oD ⟨F'.ns.at' fun o q => up₂ _ o (Ne.symm heL) (Ne.symm hiL) q, fun c o q => up₂ c o (fun z => by rw [z, he₀] at q; cases q) (fun z => by rw [z, hi₀] at q; cases q) (F'.keep c o q), F'.above⟩ (fun q hq => ?_) hdD
          (hn'.at' fun o q => up₂ _ o (Ne.symm (below e helt).1) (Ne.symm (below it hilt).1) q) hC₀ hCL hDL (Ne.symm hDC) newsC (fun p hp => Heap.lt_size (N p hp).1) hLlt
        rcases List.mem_cons.mp hq with rfl | hq
        · exact ⟨hoD, hDL, hD₀⟩
        · exact ⟨up₂ _ _ (offe q hq) (offi q hq) (N' _ hq).1, (N' _ hq).2⟩
  exact codeAny_compStart_dict (loop _ rfl) (wpAny_pyIter_enum (old _ _ he) (loop _ rfl))
theorem low_of {h₀ : Heap} {L D : Addr} (hb : h₀.NoLimit) (h1 : h₀.objs.size ≤ L) (h2 : L < D) : (D == sysModules) = false := by
  have h0 := modules_low hb
  have : D ≠ sysModules := fun e => by
    rw [e] at h2
    exact absurd (Nat.lt_of_lt_of_le (Nat.lt_of_lt_of_le h0 h1) (Nat.le_of_lt h2)) (Nat.lt_irrefl _)
  simpa using this
def DSrcV (prog : Program) (w : World) (A : Around) (h₀ : Heap) (L : Addr) (m : Str → Option Value) (Q : Value → Shared → Prop) (xv : Value) (s₁ : Shared) : Prop :=
  ∃ (e it l : Addr) (vs : List Value) (news : List (Addr × Obj)), xv = .ref e ∧ A.handled = none ∧ vs.length ≤ sizeLine ∧ ESrc h₀ L m s₁.heap e it l vs news ∧
    Hold (∀ D h tk oD, Fr h₀ L h m → News h₀ L h ((D, oD) :: news) → oD.IsDictOf (intKind prog w) (ekv 0 vs) → (∀ p ∈ news, p.1 < D) → (D == sysModules) = false → Q (.ref D) { s₁ with heap := h, toks := tk })
theorem DictComp_E {iter : PySem.Expr} {a b : Str} {pa pb pa' pb' tp : Pos} {kk : Nat} {scope : Scope} {cl : List (Str × Addr)} {pos : Pos} {Q : Value → Shared → Prop} (_F₀ : Fr h₀ L s.heap m)
    (hbig : h₀.NoLimit) (hclos : closureFor scope env = pure cl) (hcell : ∀ z ∈ scope.names, z.2 ≠ .cell) (hkind : scope.kind = .function)
    (hnames : ∀ z ∈ scope.names, z.2 = .local → scope.names.lookup z.1 = some .local) (hxa : scope.names.lookup a = some .local) (hxb : scope.names.lookup b = some .local) (hab : ¬ a = b) (hda : (a == ("__debug__" : Str)) = false) (hdb : (b == ("__debug__" : Str)) = false)
    (h : wpAny (model prog w) A (eval iter env) (DSrcV prog w A h₀ L m Q) E s)
    (hs : ∀ x, foldedSetIterable iter env x = pure x := by intro _; rfl) :
    wpAny (model prog w) A (eval (.DictComp (.Name a pa') (.Name b pb') [⟨.Tuple [.Name a pa, .Name b pb] kk tp, iter, [], 0⟩] scope pos) env) Q E s := by
  rw [arm_eval_DictComp]
  refine wpAny_comprehension_free (use := none) rfl hs hclos hkind hnames (wpAny_mono h (fun xv s₁ h₁ => ?_) fun _ _ e => e)
  obtain ⟨e, it, l, vs, news, rfl, hh, hsz, S, fin⟩ := h₁
  refine wpAny_pyIter_enum S.he ?_
  refine block_D hh hsz hcell hkind hxa hxb hab hda hdb S ?_
  intro D C h' tk m' oD F' N' hd hn hC₀ hCL hDL hCD offC lt hLD
  refine ⟨m', hn, fun h'' hs'' => fin.out D h'' tk oD (F'.change hs'' hCL hC₀) (fun p hp => ?_) hd lt (low_of hbig F'.above hLD)⟩
  refine ⟨hs''.extBut _ _ ?_ (N' p hp).1, (N' p hp).2⟩
  rcases List.mem_cons.mp hp with rfl | hp
  · exact Ne.symm hCD
  · exact offC p hp
end
end Mine
namespace Mine
set_option maxRecDepth 100000
set_option maxHeartbeats 1000000
open PySem PySem.W PySem.Calls PyProof.Rows
theorem ints_vals : ∀ {us : List Value} {ns : List Int}, IntsAre us ns → (∀ v ∈ us, ∃ x t, v = .int x t ∧ x ∈ ns) ∧ (∀ x ∈ ns, ∃ t, Value.int x t ∈ us)
  | _, _, .nil => ⟨fun _ h => absurd h (by simp), fun _ h => absurd h (by simp)⟩
  | _, _, .cons k t r => by
    obtain ⟨h1, h2⟩ := ints_vals r
    refine ⟨fun v hv => ?_, fun x hx => ?_⟩
    · rcases List.mem_cons.mp hv with rfl | hv
      · exact ⟨k, t, rfl, .head _⟩
      · obtain ⟨x, t', e, m⟩ := h1 v hv
        exact ⟨x, t', e, .tail _ m⟩
    · rcases List.mem_cons.mp hx with rfl | hx
      · exact ⟨t, .head _⟩
      · obtain ⟨t', m⟩ := h2 x hx
        exact ⟨t', .tail _ m⟩
/-- the lines of a row: its numbers, and a place without a line where the lowest flag is chosen -/
def linesOf (us : List Value) (b : Bool) : List Value := us ++ (if b = true then [Value.none] else [])
theorem mem_lines {us : List Value} {b : Bool} {v : Value} (h : v ∈ linesOf us b) : v ∈ us ∨ (b = true ∧ v = .none) := by
  unfold linesOf at h
  rcases List.mem_append.mp h with h | h
  · exact .inl h
  · by_cases q : b = true
    · rw [if_pos q] at h; exact .inr ⟨q, List.mem_singleton.mp h⟩
    · rw [if_neg q] at h; exact nomatch h
theorem lines_line {us : List Value} {ns : List Int} {b : Bool} (hI : IntsAre us ns) : ∀ p ∈ ekv 0 (linesOf us b), LineV p.2 := by
  rintro ⟨k, v⟩ hp
  have hv := (ekv_mem (linesOf us b) 0 v).mp ⟨k, hp⟩
  rcases mem_lines hv with h | ⟨_, h⟩
  · obtain ⟨x, t, e, _⟩ := (ints_vals hI).1 v h
    rw [e]; trivial
  · rw [h]; trivial
theorem lines_ints {us : List Value} {ns : List Int} {b : Bool} (hI : IntsAre us ns) (x : Int) (_h : x ≠ 0) : (∃ k t, (k, Value.int x t) ∈ ekv 0 (linesOf us b)) ↔ x ∈ ns := by
  constructor
  · rintro ⟨k, t, hp⟩
    have hv := (ekv_mem (linesOf us b) 0 _).mp ⟨k, hp⟩
    rcases mem_lines hv with h | ⟨_, h⟩
    · obtain ⟨x', t', e, m⟩ := (ints_vals hI).1 _ h
      cases e; exact m
    · cases h
  · intro h
    obtain ⟨t, m⟩ := (ints_vals hI).2 x h
    obtain ⟨k, q⟩ := (ekv_mem (linesOf us b) 0 _).mpr (show Value.int x t ∈ linesOf us b from List.mem_append_left _ m)
    exact ⟨k, t, q⟩
theorem lines_none {us : List Value} {ns : List Int} {b : Bool} (hI : IntsAre us ns) : ((ekv 0 (linesOf us b)).any fun p => isNoneV p.2) = b := by
  cases b with
  | true =>
    obtain ⟨k, q⟩ := (ekv_mem (linesOf us true) 0 .none).mpr (by unfold linesOf; simp)
    exact List.any_eq_true.mpr ⟨_, q, rfl⟩
  | false =>
    rw [Bool.eq_false_iff]
    intro h
    obtain ⟨⟨k, v⟩, hp, hv⟩ := List.any_eq_true.mp h
    have hm := (ekv_mem (linesOf us false) 0 v).mp ⟨k, hp⟩
    rcases mem_lines hm with h | ⟨h, _⟩
    · obtain ⟨x, t, e, _⟩ := (ints_vals hI).1 v h
      subst e
      exact nomatch hv
    · exact nomatch h
theorem lines_len {us : List Value} {ns : List Int} {b : Bool} (hI : IntsAre us ns) (h : ns.length ≤ 5) : (linesOf us b).length ≤ sizeLine := by
  have := hI.length
  unfold linesOf
  rw [List.length_append, sizeLine_eq]
  cases b <;> simp <;> omega
end Mine
namespace Mine
set_option maxRecDepth 100000
set_option maxHeartbeats 4000000
open PySem PySem.W PySem.Calls PyProof.Rows
local macro_rules | `(tactic| walk_at "call ref") => `(tactic| k_extra "call")
local macro_rules | `(tactic| walk_at "eval DictComp") => `(tactic| k_extra "dict")
local macro_rules | `(tactic| walk_at "call type:enumerate") => `(tactic| k_extra "enum")
theorem stopHere {p : Prop} (h : Hold p) : p := h.out
theorem stIfLines (w : World) (mean : ExcName → Option Value) (mg mb : Str → Option Value) (h₀ : Heap) (L fa : Addr) (cd : Value) (B : Below callerA h₀ [] h₀) (X : (hd.heap_39 w.params).In h₀)
   (T : Top hd.view_39 (looseW hd.view_39 [Str.ofString "COMPILER_FLAG_NAMES"]) mean mg mb h₀) (m : Str → Option Value) (led : List (Addr × Obj)) (s : Shared) (Q : Flow → Shared → Prop) (E : Value → Shared → Prop)
   (a ln : Addr) (c cl : Nat) (us : List Value) (ns : List Int) (b : Bool) (hI : IntsAre us ns) (hb : ∀ v ∈ ns, 0 ≤ v ∧ v < 1073741824) (h5 : ns.length ≤ 5)
   (F : Fr h₀ L s.heap (wi "lines" (.ref ln) (wi "blank" (.bool b) (wi "row" (.ref a) m)))) (N : News h₀ L s.heap ((ln, listOf (linesOf us b).toArray cl) :: (a, listOf us.toArray c) :: led))
   (hQ : ∀ h' tk', Fr h₀ L h' (wi "lines" (.ref ln) (wi "blank" (.bool b) (wi "row" (.ref a) m))) → News h₀ L h' ((a, listOf us.toArray c) :: led) → Q .next { s with heap := h', toks := tk' }) :
   wpAny (model Challenge.rw_pe0009_01.row.prog w) (callerA.deeper (envOfC (Str.ofString "law") lawScope L fa cd)) (exec (stOf 7) (envOfC (Str.ofString "law") lawScope L fa cd)) Q E s := by
  revert X
  k_fill
  w_top off
  intro X
  conv =>
    pattern stOf _
    whnf
  conv =>
    pattern (occs := *) lawScope
    all_goals whnf
  have hMk : KstMark := kstMark
  have hnil : IntsAre ([] : List Value) ([] : List Int) := .nil
  k_with_none
  k_with "dict" => (k_dflt (refine DictComp_E (by k_asm) (TopRead.nolimit (by k_asm)) (by with_unfolding_all rfl) (by decide) (by rfl) (by decide) (by rfl) (by rfl) (by decide) (by decide) (by decide) ?_))
  k_with "enum" => ((rename Fr _ _ _ _ => lF); (rename News _ _ _ _ => lN); (refine call_enumE lF lN (News.isList lN (.head _)) (lN _ (.head _)).2.2 ?_); (intro hE eE iE SE); (refine ⟨eE, iE, _, _, _, rfl, by rfl, lines_len hI h5, SE, ⟨?_⟩⟩); (intro D9 h9 tk9 oD9 F9 N9 hD9 lt9 lo9))
  k_with "call" => first
    | ((with_reducible show wpAny _ _ (call (Value.ref 36) _) _ _ _); (k_dflt (refine' (lineno_tells w _ D9 oD9 _ ns b hD9 (lines_line hI) (lines_ints hI) hb lo9 (lines_none hI)).use ?k1 ?k2 ?k3 ?k4 ?k5 ?kK ?kd ?ku ?_)); (case k1 => k_asm); (case k2 => k_asm); (case k3 => k_asm); (case k4 => k_asm); (case k5 => k_asm); (case kK => first | exact rfl | assumption); (case kd => ktr_room); (case ku => ktr_units); (rintro v8 made8 h8 tk8 ⟨rfl, x8, t8, rfl, wx8⟩ lt8 F8 N8); (simp only [List.nil_append] at N8); (try k_fold))
    | ((with_reducible show wpAny _ _ (call (Value.ref 69) _) _ _ _); refine stopHere ?_)
  k_steps
  refine ⟨?_⟩
  k_dflt (refine' (width_tells w led a us ns c b hI hb h5).use ?k1 ?k2 ?k3 ?k4 ?k5 ?kK ?kd ?ku ?_)
  (case k1 => k_asm); (case k2 => k_asm); (case k3 => k_asm)
  (case k4 => (rename News _ _ _ _ => lN; exact news_sub lN (fun p hp => .tail _ (.tail _ hp))))
  (case k5 => k_asm); (case kK => first | exact rfl | assumption); (case kd => ktr_room); (case ku => ktr_units)
  rintro v7 made7 h7 tk7 ⟨rfl, x7, t7, rfl, wx7⟩ lt7 F7 N7
  simp only [List.nil_append] at N7
  have e7 := width_unique wx8 wx7
  subst e7
  try k_fold
  k_steps
  all_goals first
    | exact hQ _ _ F7 N7
    | exact absurd rfl ‹_ ≠ _›
    | exact absurd rfl (by assumption)
    | (exfalso; omega)
    | (exfalso; simp_all; done)
end Mine
namespace Mine
set_option maxRecDepth 100000
set_option maxHeartbeats 4000000
open PySem PySem.W PySem.Calls PyProof.Rows
local macro_rules | `(tactic| walk_at "call builtin:list.append") => `(tactic| k_extra "app")
theorem append_own {prog : Program} {w : World} {A : Around} {E : Value → Shared → Prop} {s : Shared} {h₀ : Heap} {L D : Addr} {m : Str → Option Value} {rest : List (Addr × Obj)} {its : List Value} {c : Nat} {x : Value} {Q : Value → Shared → Prop}
    (F : Fr h₀ L s.heap m) (N : News h₀ L s.heap ((D, listOf its.toArray c) :: rest)) (off : ∀ p ∈ rest, p.1 ≠ D) (hl : its.length ≤ 100)
    (h : ∀ h', Fr h₀ L h' m → News h₀ L h' ((D, listOf (its ++ [x]).toArray (c + 1)) :: rest) → Q .none { s with heap := h' }) :
    wpAny (model prog w) A (call (.builtin "list.append") [.ref D, x]) Q E s := by
  have hm := N _ (.head _)
  refine append_at (hsz := by rw [List.size_toArray, sizeLine_eq]; omega) hm.1 fun h' hs hD => h h' (F.change hs hm.2.1 hm.2.2) fun p hp => ?_
  rcases List.mem_cons.mp hp with rfl | hp
  · exact ⟨by rw [List.push_toArray] at hD; exact hD, hm.2⟩
  · exact ⟨hs.extBut _ _ (off p hp) (N p (.tail _ hp)).1, (N p (.tail _ hp)).2⟩
theorem stAppend (w : World) (mean : ExcName → Option Value) (mg mb : Str → Option Value) (h₀ : Heap) (L fa : Addr) (cd : Value) (B : Below callerA h₀ [] h₀) (X : (hd.heap_39 w.params).In h₀)
   (T : Top hd.view_39 (looseW hd.view_39 [Str.ofString "COMPILER_FLAG_NAMES"]) mean mg mb h₀) (m : Str → Option Value) (led : List (Addr × Obj)) (s : Shared) (Q : Flow → Shared → Prop) (E : Value → Shared → Prop)
   (a rw : Addr) (c : Nat) (rs : List Value) (hl : rs.length ≤ 16) (off : ∀ p ∈ led, p.1 ≠ rw)
   (F : Fr h₀ L s.heap (wi "row" (.ref a) (wi "rows" (.ref rw) m))) (N : News h₀ L s.heap ((rw, listOf rs.toArray c) :: led))
   (hQ : ∀ h' tk', Fr h₀ L h' (wi "row" (.ref a) (wi "rows" (.ref rw) m)) → News h₀ L h' ((rw, listOf (rs ++ [Value.ref a]).toArray (c + 1)) :: led) → Q .next { s with heap := h', toks := tk' }) :
   wpAny (model Challenge.rw_pe0009_01.row.prog w) (callerA.deeper (envOfC (Str.ofString "law") lawScope L fa cd)) (exec (stOf 8) (envOfC (Str.ofString "law") lawScope L fa cd)) Q E s := by
  revert X
  k_fill
  w_top off
  intro X
  conv =>
    pattern stOf _
    whnf
  conv =>
    pattern (occs := *) lawScope
    all_goals whnf
  have hMk : KstMark := kstMark
  have hnil : IntsAre ([] : List Value) ([] : List Int) := .nil
  k_with_none
  k_with "app" => ((rename Fr _ _ _ _ => lF); (rename News _ _ _ _ => lN); (refine append_own lF lN off (by omega) ?_); (intro h9 F9 N9))
  k_steps
  exact hQ _ _ F9 N9
end Mine
namespace Mine
set_option maxRecDepth 100000
set_option maxHeartbeats 1000000
open PySem PySem.W PySem.Calls PyProof.Rows
section
variable {a b c d e f g x y : Addr × Obj} {t : List (Addr × Obj)}
theorem pmA : ∀ p ∈ e :: f :: a :: b :: c :: d :: g :: t, p ∈ a :: b :: c :: d :: e :: f :: g :: t := fun p h => by
  simp only [List.mem_cons] at h ⊢; rcases h with h | h | h | h | h | h | h | h <;> simp [h]
theorem pmB : ∀ p ∈ b :: c :: a :: t, p ∈ a :: b :: c :: t := fun p h => by
  simp only [List.mem_cons] at h ⊢; rcases h with h | h | h | h <;> simp [h]
theorem pmC : ∀ p ∈ a :: d :: b :: c :: t, p ∈ a :: b :: c :: d :: t := fun p h => by
  simp only [List.mem_cons] at h ⊢; rcases h with h | h | h | h | h <;> simp [h]
/-- D W M S I rw dg nm T : nm W S M I rw dg T -/
theorem pmD : ∀ p ∈ x :: b :: d :: c :: e :: f :: g :: y :: t, p ∈ a :: b :: c :: d :: e :: f :: g :: x :: y :: t := fun p h => by
  simp only [List.mem_cons] at h ⊢; rcases h with h | h | h | h | h | h | h | h | h <;> simp [h]
/-- R nm W S M I rw dg T : R M nm S I rw dg T -/
theorem pmE : ∀ p ∈ a :: e :: b :: d :: f :: g :: x :: y :: t, p ∈ a :: b :: c :: d :: e :: f :: g :: x :: y :: t := fun p h => by
  simp only [List.mem_cons] at h ⊢; rcases h with h | h | h | h | h | h | h | h | h <;> simp [h]
theorem pmF : ∀ p ∈ b :: a :: t, p ∈ a :: b :: t := fun p h => by
  simp only [List.mem_cons] at h ⊢; rcases h with h | h | h <;> simp [h]
/-- R M nm S I rw dg T : rw R M nm S I dg T -/
theorem pmG : ∀ p ∈ f :: a :: b :: c :: d :: e :: t, p ∈ a :: b :: c :: d :: e :: f :: t := fun p h => by
  simp only [List.mem_cons] at h ⊢; rcases h with h | h | h | h | h | h | h <;> simp [h]
/-- rw R M nm S I dg T : I rw dg nm M S T R -/
theorem pmH : ∀ p ∈ f :: a :: g :: d :: c :: e :: x :: b :: t, p ∈ a :: b :: c :: d :: e :: f :: g :: x :: t := fun p h => by
  simp only [List.mem_cons] at h ⊢; rcases h with h | h | h | h | h | h | h | h | h <;> simp [h]
end
theorem law_turn (w : World) (mean : ExcName → Option Value) (mg mb : Str → Option Value) (h₀ : Heap) (L fa : Addr) (cd : Value) (B : Below callerA h₀ [] h₀) (X : (hd.heap_39 w.params).In h₀)
   (T : Top hd.view_39 (looseW hd.view_39 [Str.ofString "COMPILER_FLAG_NAMES"]) mean mg mb h₀)
   (nm dg rw I : Addr) (n0 n1 n2 n3 n4 n5 : Int) (u0 u1 u2 u3 u4 u5 : Tok) (cn cdg c k i : Nat) (tsh tW ti : Tok) (ds rs : List Value) (oM oS oT oI : Obj) (x0 : Option Value) (u : Str → Option Value) (rl : List (Addr × Obj))
   (b0 : 0 ≤ n0 ∧ n0 < 1073741824) (b1 : 0 ≤ n1 ∧ n1 < 1073741824) (b2 : 0 ≤ n2 ∧ n2 < 1073741824) (b3 : 0 ≤ n3 ∧ n3 < 1073741824) (b4 : 0 ≤ n4 ∧ n4 < 1073741824) (hk : k < 30) (hi : i < 16)
   (hS : oS.data = .cell (some (.int (k : Int) tsh))) (hM : oM.data = .cell x0) (hR : RowsAre (rows16 (n0.fmod 64) (n1.fmod 64) (n2.fmod 64) (n3.fmod 64) (n4.fmod 64)) i rs rl) (hrl : ∀ p ∈ rl, rw < p.1)
   (hlt : (@LT.lt Nat _ (L + 1 + 1 + 1) rw) ∧ (@LT.lt Nat _ nm rw) ∧ (@LT.lt Nat _ dg rw) ∧ (@LT.lt Nat _ rw I) ∧ (@Ne Nat nm (L + 1 + 1 + 1)) ∧ (@Ne Nat dg (L + 1 + 1 + 1))) (off : ∀ p ∈ rl, p.1 ≠ I)
   (s : Shared) (Q : Flow → Shared → Prop) (E : Value → Shared → Prop)
   (F : Fr h₀ L s.heap (mLaw nm dg rw (wholeOf (n0.fmod 64) (n1.fmod 64) (n2.fmod 64) (n3.fmod 64) (n4.fmod 64)) tW u))
   (N : News h₀ L s.heap ((I, oI) :: (rw, listOf rs.toArray c) :: (dg, listOf ds.toArray cdg) :: (nm, listOf [Value.int n0 u0, .int n1 u1, .int n2 u2, .int n3 u3, .int n4 u4, .int n5 u5].toArray cn) :: (L + 1 + 1 + 1, oM) :: (L + 1 + 1, oS) :: (L + 1, oT) :: rl)) :
   wpAny (model Challenge.rw_pe0009_01.row.prog w) (callerA.deeper (envOfC (Str.ofString "law") lawScope L fa cd)) (assign turnTarget (envOfC (Str.ofString "law") lawScope L fa cd) (.int (i : Int) ti)) (fun _ s₂ =>
     wpAny (model Challenge.rw_pe0009_01.row.prog w) (callerA.deeper (envOfC (Str.ofString "law") lawScope L fa cd)) (execs turnBody (envOfC (Str.ofString "law") lawScope L fa cd))
      (RangePost h₀ L I oI (LawJ L nm dg rw [Value.int n0 u0, .int n1 u1, .int n2 u2, .int n3 u3, .int n4 u4, .int n5 u5] ds cn cdg (wholeOf (n0.fmod 64) (n1.fmod 64) (n2.fmod 64) (n3.fmod 64) (n4.fmod 64)) (rows16 (n0.fmod 64) (n1.fmod 64) (n2.fmod 64) (n3.fmod 64) (n4.fmod 64)) oS oT (i + 1)) s Q) E s₂) E s := by
  obtain ⟨l1, l2, l3, l4, l5, l6⟩ := hlt
  have hm3 : ∀ p ∈ (L + 1 + 1, oS) :: (L + 1, oT) :: rl, p.1 ≠ L + 1 + 1 + 1 := fun p hp => by
    rcases List.mem_cons.mp hp with rfl | hp
    · exact neN (by omega)
    · rcases List.mem_cons.mp hp with rfl | hp
      · exact neN (by omega)
      · exact neN (by have := ltN (hrl p hp); omega)
  have U := UpdF.tail (p := (I, oI)) (neN (by omega)) (UpdF.tail (p := (rw, listOf rs.toArray c)) (neN (by omega)) (UpdF.tail (p := (dg, listOf ds.toArray cdg)) (neN (by omega)) (UpdF.tail (p := (nm, listOf [Value.int n0 u0, .int n1 u1, .int n2 u2, .int n3 u3, .int n4 u4, .int n5 u5].toArray cn)) (neN (by omega)) (UpdF.head (o := oM) hm3))))
  refine wpAny_assign_Name (x := Str.ofString "mask") ?_
  refine storeX_C F N (by exact rfl) U hM ?_ (by exact rfl) (by exact rfl)
  clear F N U hM hm3
  intro h1 oM' F N hM
  rw [turn_sts]
  -- words
  refine wpAny_execs_cons (stWords w mean mg mb h₀ L fa cd B X T _ _ _ _ _ i k hk hi tsh ti oM' oS hS hM F (news_sub N pmA) ?_)
  clear F N
  intro dw ws h2 tk2 hW F N lW
  dsimp only
  -- due
  refine wpAny_execs_cons (stDue w mean mg mb h₀ L fa cd B X T _ _ _ _ _ i k hk hi tsh ti oM' oS hS hM F (news_sub N pmB) ?_)
  clear F N lW
  intro dd ys h3 tk3 hD F N oD
  dsimp only
  -- if words
  refine wpAny_execs_cons (stIfWords w mean mg mb h₀ L fa cd B X T _ _ _ _ _ i k hk hi dw dd _ ws ys hW hD F (news_sub N pmC) ?_)
  clear F N oD hD
  intro h4 tk4 F N
  dsimp only
  -- row
  refine wpAny_execs_cons (stRow w mean mg mb h₀ L fa cd B X T _ _ _ _ _ i k hk hi nm dw cn _ ws hW tsh oS hS n0 n1 n2 n3 n4 n5 u0 u1 u2 u3 u4 u5 b0 b1 b2 b3 b4 (fr_as (x := "words") (fr_as (x := "numbers") F (by rfl)) (by rfl)) (news_sub N pmD) ?_)
  clear F N
  intro a us cr h5 tk5 hI F N lR
  dsimp only
  -- if row
  refine wpAny_execs_cons (stIfRow w mean mg mb h₀ L fa cd B X T _ _ _ _ _ i hi a cr us n0 n1 n2 n3 n4 hI ti tW oM' hM (fr_as (x := "row") (fr_as (x := "whole") F (by rfl)) (by rfl)) (news_sub N pmE) ?_)
  clear F N
  intro h6 tk6 F N
  dsimp only
  -- blank
  refine wpAny_execs_cons (stBlank w mean mg mb h₀ L fa cd B X T _ _ _ _ _ i hi ti oM' hM F (news_sub N pmF) ?_)
  clear F N
  intro h7 tk7 F N
  dsimp only
  -- lines
  refine wpAny_execs_cons (stLines w mean mg mb h₀ L fa cd B X T _ _ _ _ _ a cr us ?_ (bitOf i 0) (fr_as (x := "blank") (fr_as (x := "row") F (by rfl)) (by rfl)) (news_sub N pmF) ?_)
  · rw [hI.length]; exact rows_len i
  clear F N
  intro ln ls cl h8 tk8 hls F N
  dsimp only
  subst hls
  -- if lines
  refine wpAny_execs_cons (stIfLines w mean mg mb h₀ L fa cd B X T _ _ _ _ _ a ln cr cl us _ (bitOf i 0) hI (rows_bound mod_bound mod_bound mod_bound mod_bound mod_bound i) (rows_len i) F N ?_)
  clear F N
  intro h9 tk9 F N
  dsimp only
  -- append
  have lr : ∀ p, p ∈ (nm, listOf [Value.int n0 u0, .int n1 u1, .int n2 u2, .int n3 u3, .int n4 u4, .int n5 u5].toArray cn) :: (dw, listOf ws.toArray _) :: (L + 1 + 1, oS) :: (L + 1 + 1 + 1, oM') :: (I, oI) :: (rw, listOf rs.toArray c) :: (dg, listOf ds.toArray cdg) :: (L + 1, oT) :: rl → p.1 < a := lR
  have lI : @LT.lt Nat _ I a := ltN (lr (I, oI) (by simp))
  refine wpAny_execs_cons (stAppend w mean mg mb h₀ L fa cd B X T _ _ _ _ _ a rw c rs (by rw [hR.length]; omega) ?_ (fr_as (x := "row") (fr_as (x := "rows") F (by rfl)) (by rfl)) (news_sub N pmG) ?_)
  · intro p hp
    simp only [List.mem_cons] at hp
    rcases hp with rfl | rfl | rfl | rfl | rfl | rfl | rfl | hp
    · exact neN (by omega)
    · exact neN (by omega)
    · exact neN (by omega)
    · exact neN (by omega)
    · exact neN (by omega)
    · exact neN (by omega)
    · exact neN (by omega)
    · exact neN (by have := ltN (hrl p hp); omega)
  clear F N
  intro h10 tk10 F N
  dsimp only
  refine wpAny_execs_nil ?_
  refine RangeTurn.intro F (news_sub N pmH) (fun p hp => hp) ?_ ⟨tW, _, oM', _, rs ++ [.ref a], c + 1, (a, listOf us.toArray cr) :: rl, mLaw_of (by rfl) (by rfl) (by rfl) (by rfl), hM, .snoc a us cr hR hI, ?_, rfl⟩
  · intro p hp
    simp only [List.mem_cons] at hp
    rcases hp with rfl | rfl | rfl | rfl | rfl | rfl | rfl | hp
    · exact neN (by omega)
    · exact neN (by omega)
    · exact neN (by omega)
    · exact neN (by omega)
    · exact neN (by omega)
    · exact neN (by omega)
    · exact neN (by omega)
    · exact off p hp
  · intro p hp
    rcases List.mem_cons.mp hp with rfl | hp
    · show @LT.lt Nat _ rw a
      omega
    · exact hrl p hp
end Mine
namespace Mine
set_option maxRecDepth 100000
set_option maxHeartbeats 1000000
open PySem PySem.W PySem.Calls PyProof.Rows
def enOf (j : Nat) : Stmt := (defBody lawDef).getD (8 + j) (.Pass ⟨0, 0, 0, 0⟩)
def reOf (j : Nat) : Stmt := (defBody lawDef).getD (2 + j) (.Pass ⟨0, 0, 0, 0⟩)
theorem rest_sts : restBody = reOf 0 :: reOf 1 :: reOf 2 :: reOf 3 :: reOf 4 :: reOf 5 :: endBody := by rfl
theorem end_sts : endBody = [enOf 0, enOf 1, enOf 2] := by rfl
theorem news_more {h₀ h : Heap} {L : Addr} {l : List (Addr × Obj)} {p : Addr × Obj} (N : News h₀ L h l) (hp : p ∈ l) : News h₀ L h (p :: l) := fun q hq => by
  rcases List.mem_cons.mp hq with rfl | hq
  · exact N _ hp
  · exact N _ hq
theorem map_snoc {f : Nat → Int} {j : Nat} {ys : List Value} {t : Tok} {x : Int} (h : IntsAre ys ((List.range j).map f)) (e : x = f j) : IntsAre (ys ++ [Value.int x t]) ((List.range (j + 1)).map f) := by
  rw [List.range_succ, List.map_append, e]
  exact IntsAre.append h (.cons _ _ .nil)
theorem neg_pow (n : Nat) : (-1 : Int) ^ n = 1 ∨ (-1 : Int) ^ n = -1 := by
  induction n with
  | zero => left; rfl
  | succ n ih => rw [Int.pow_succ]; rcases ih with h | h <;> rw [h] <;> simp
theorem range16 : List.range 16 = all16 := by decide
end Mine
namespace Mine
set_option maxRecDepth 100000
set_option maxHeartbeats 4000000
open PySem PySem.W PySem.Calls PyProof.Rows
local macro_rules | `(tactic| walk_at "call ref") => `(tactic| k_extra "call")
local macro_rules | `(tactic| walk_at "eval ListComp") => `(tactic| k_extra "comp")
local macro_rules | `(tactic| walk_at "CompSrc") => `(tactic| k_extra "src")
local macro_rules | `(tactic| walk_at "call builtin:sum") => `(tactic| k_extra "sum")
theorem enProd (w : World) (mean : ExcName → Option Value) (mg mb : Str → Option Value) (h₀ : Heap) (L fa : Addr) (cd : Value) (B : Below callerA h₀ [] h₀) (X : (hd.heap_39 w.params).In h₀)
   (T : Top hd.view_39 (looseW hd.view_39 [Str.ofString "COMPILER_FLAG_NAMES"]) mean mg mb h₀) (m : Str → Option Value) (led : List (Addr × Obj)) (s : Shared) (Q : Flow → Shared → Prop) (E : Value → Shared → Prop)
   (d0 d1 d2 d3 d4 : Int) (t0 t1 t2 t3 t4 : Tok) (rw dg : Addr) (c cdg : Nat) (rs : List Value) (rl : List (Addr × Obj)) (hR : RowsAre (rows16 d0 d1 d2 d3 d4) 16 rs rl) (hrl : ∀ p ∈ rl, p ∈ led)
   (b0 : 0 ≤ d0 ∧ d0 < 64) (b1 : 0 ≤ d1 ∧ d1 < 64) (b2 : 0 ≤ d2 ∧ d2 < 64) (b3 : 0 ≤ d3 ∧ d3 < 64) (b4 : 0 ≤ d4 ∧ d4 < 64)
   (F : Fr h₀ L s.heap (wi "rows" (.ref rw) (wi "digits" (.ref dg) m))) (N : News h₀ L s.heap ((rw, listOf rs.toArray c) :: (dg, listOf [Value.int d0 t0, .int d1 t1, .int d2 t2, .int d3 t3, .int d4 t4].toArray cdg) :: led))
   (hQ : ∀ h' tk', Fr h₀ L h' (wi "rows" (.ref rw) (wi "digits" (.ref dg) m)) → News h₀ L h' ((rw, listOf rs.toArray c) :: (dg, listOf [Value.int d0 t0, .int d1 t1, .int d2 t2, .int d3 t3, .int d4 t4].toArray cdg) :: led) → Q .next { s with heap := h', toks := tk' }) :
   wpAny (model Challenge.rw_pe0009_01.row.prog w) (callerA.deeper (envOfC (Str.ofString "law") lawScope L fa cd)) (exec (enOf 0) (envOfC (Str.ofString "law") lawScope L fa cd)) Q E s := by
  revert X
  k_fill
  w_top off
  intro X
  conv =>
    pattern enOf _
    whnf
  conv =>
    pattern (occs := *) lawScope
    all_goals whnf
  have hMk : KstMark := kstMark
  have hnil : IntsAre ([] : List Value) ([] : List Int) := .nil
  k_with_none
  have hds : IntsAre [Value.int d0 t0, .int d1 t1, .int d2 t2, .int d3 t3, .int d4 t4] [d0, d1, d2, d3, d4] := .cons _ _ (.cons _ _ (.cons _ _ (.cons _ _ (.cons _ _ .nil))))
  have hdb : ∀ v ∈ [d0, d1, d2, d3, d4], 0 ≤ v ∧ v < 64 := fun v hv => by
    simp only [List.mem_cons, List.not_mem_nil, or_false] at hv
    rcases hv with rfl | rfl | rfl | rfl | rfl <;> assumption
  have hrb := rows_bound b0 b1 b2 b3 b4
  k_with "comp" => (k_dflt (refine LCg.ListComp_U (F₀ := by k_asm) (by with_unfolding_all rfl) (by decide) (by rfl) (by decide) (by rfl) ?_))
  k_with "src" => ((rename Fr _ _ _ _ => lF); (rename News _ _ _ _ => lN); (refine LCg.CompSrc.ledger (by rfl) lF lN (by k_mem) (by rw [List.size_toArray, hR.length]; exact Nat.le_of_ble_eq_true rfl) ?_); (intro g'); (rw [List.size_toArray, hR.length]); (obtain ⟨led0, hled0⟩ := newsIs lN); (clear lF lN); (refine rest_inv (n := 16) (fun j ys nx => nx = led0 ∧ IntsAre ys ((List.range j).map (fun m => prodL ((rows16 d0 d1 d2 d3 d4) m)))) ?cT ?cF 16 0 [] _ (by rfl) ⟨hled0.symm, .nil⟩); (case' cT => rintro j ys nx v I' oI' C' oC' D' m' h' tk' E' hj ⟨rfl, hSy⟩ hv9 hC' hx' F' N' off' ne'; (obtain ⟨a9, us9, k9, ev9, hm9, hI9⟩ := hR.get j v (by simpa using hv9)); subst ev9; clear hv9; subst hled0; simp only [LCg.Off3, and_true] at off'; (replace N' := news_more N' (.tail _ (.tail _ (.tail _ (.tail _ (.tail _ (hrl _ hm9)))))))); (case' cF => rintro ys nx ⟨rfl, hSy⟩; subst hled0; (rw [range16] at hSy)))
  k_with "call" => first
    | ((with_reducible show wpAny _ _ (call (Value.ref 76) _) _ _ _); (k_dflt (refine' (product_tells w _ a9 us9 _ k9 hI9 (hrb j)).use ?k1 ?k2 ?k3 ?k4 ?k5 ?kK ?kd ?ku ?_)); (case k1 => k_asm); (case k2 => k_asm); (case k3 => k_asm); (case k4 => k_asm); (case k5 => k_asm); (case kK => first | exact rfl | assumption); (case kd => ktr_room); (case ku => ktr_units); (rintro v9 made9 h9 tk9 ⟨rfl, t9, rfl⟩ lt9 F9 N9); (simp only [List.nil_append] at N9); (try k_fold))
    | ((with_reducible show wpAny _ _ (call (Value.ref 83) _) _ _ _); (k_dflt (refine' (walk_tells w ((rw, listOf rs.toArray c) :: led) dg [Value.int d0 t0, .int d1 t1, .int d2 t2, .int d3 t3, .int d4 t4] [d0, d1, d2, d3, d4] cdg (1) _ hds hdb (Or.inl rfl)).use ?k1 ?k2 ?k3 ?k4 ?k5 ?kK ?kd ?ku ?_)); (case k1 => k_asm); (case k2 => k_asm); (case k3 => k_asm); (case k4 => (rename News _ _ _ _ => lN; exact news_sub lN (fun p hp => by simp only [List.mem_cons] at hp ⊢; rcases hp with h | h | h <;> simp [h]))); (case k5 => k_asm); (case kK => first | exact rfl | assumption); (case kd => ktr_room); (case ku => ktr_units); (rintro v8 made8 h8 tk8 ⟨rfl, t8, rfl⟩ lt8 F8 N8); (simp only [List.nil_append] at N8); (try k_fold))
  k_with "sum" => ((rename Fr _ _ _ _ => lF); (rename News _ _ _ _ => lN); (refine LSm.sum_ints lF lN (by rfl) (News.isList lN (by k_mem)) hSy ?_); (intro h7 tk7 t7 F7 N7); (rw [prods]))
  k_steps
  all_goals first
    | exact absurd (prods ..) (by assumption)
    | exact hQ _ _ (by assumption) (news_sub (by assumption) (fun p hp => by simp only [List.mem_cons] at hp ⊢; rcases hp with h | h | h <;> simp [h]))
    | exact LCg.CompEnd.intro (by assumption) (by assumption) _ (fun p hp => .tail _ hp) (by simp only [LCg.Off3, and_true]; exact off') (.inr ⟨_, .head _, rfl, _, rfl⟩) ⟨rfl, map_snoc hSy (by first | rfl | assumption)⟩
end Mine
namespace Mine
set_option maxRecDepth 100000
set_option maxHeartbeats 4000000
open PySem PySem.W PySem.Calls PyProof.Rows
local macro_rules | `(tactic| walk_at "call ref") => `(tactic| k_extra "call")
local macro_rules | `(tactic| walk_at "eval ListComp") => `(tactic| k_extra "comp")
local macro_rules | `(tactic| walk_at "CompSrc") => `(tactic| k_extra "src")
local macro_rules | `(tactic| walk_at "call builtin:sum") => `(tactic| k_extra "sum")
local macro_rules | `(tactic| walk_at "call builtin:len") => `(tactic| k_extra "len")
theorem len_row {prog : Program} {w : World} {A : Around} {E : Value → Shared → Prop} {s : Shared} {l : Addr} {us : List Value} {ns : List Int} {Q : Value → Shared → Prop} (hl : s.heap.IsList l us.toArray) (hi : IntsAre us ns) (h5 : ns.length ≤ 5)
    (h : Q (.int ns.length (s.toks + 1)) { s with toks := s.toks + 1 + 1 }) : wpAny (model prog w) A (call (.builtin "len") [.ref l]) Q E s := by
  have e : us.toArray.size = ns.length := by rw [List.size_toArray, hi.length]
  refine len_list hl (by rw [e]; omega) ?_
  rw [e]; exact h
theorem row_small {l : List Int} (h : l.length ≤ 5) : (l.length : Int) ≤ 1000000 := by omega
theorem neg_ok (p : Int) (n : Nat) : IntMulOk p ((-1) ^ n) := by
  refine IntMulOk.of_right (PySem.intBits_le_64 ?_ ?_) <;> rcases neg_pow n with h | h <;> rw [h] <;> omega
theorem enNeg (w : World) (mean : ExcName → Option Value) (mg mb : Str → Option Value) (h₀ : Heap) (L fa : Addr) (cd : Value) (B : Below callerA h₀ [] h₀) (X : (hd.heap_39 w.params).In h₀)
   (T : Top hd.view_39 (looseW hd.view_39 [Str.ofString "COMPILER_FLAG_NAMES"]) mean mg mb h₀) (m : Str → Option Value) (led : List (Addr × Obj)) (s : Shared) (Q : Flow → Shared → Prop) (E : Value → Shared → Prop)
   (d0 d1 d2 d3 d4 : Int) (t0 t1 t2 t3 t4 : Tok) (rw dg : Addr) (c cdg : Nat) (rs : List Value) (rl : List (Addr × Obj)) (hR : RowsAre (rows16 d0 d1 d2 d3 d4) 16 rs rl) (hrl : ∀ p ∈ rl, p ∈ led)
   (b0 : 0 ≤ d0 ∧ d0 < 64) (b1 : 0 ≤ d1 ∧ d1 < 64) (b2 : 0 ≤ d2 ∧ d2 < 64) (b3 : 0 ≤ d3 ∧ d3 < 64) (b4 : 0 ≤ d4 ∧ d4 < 64)
   (F : Fr h₀ L s.heap (wi "rows" (.ref rw) (wi "digits" (.ref dg) m))) (N : News h₀ L s.heap ((rw, listOf rs.toArray c) :: (dg, listOf [Value.int d0 t0, .int d1 t1, .int d2 t2, .int d3 t3, .int d4 t4].toArray cdg) :: led))
   (hQ : ∀ h' tk', Fr h₀ L h' (wi "rows" (.ref rw) (wi "digits" (.ref dg) m)) → News h₀ L h' ((rw, listOf rs.toArray c) :: (dg, listOf [Value.int d0 t0, .int d1 t1, .int d2 t2, .int d3 t3, .int d4 t4].toArray cdg) :: led) → Q .next { s with heap := h', toks := tk' }) :
   wpAny (model Challenge.rw_pe0009_01.row.prog w) (callerA.deeper (envOfC (Str.ofString "law") lawScope L fa cd)) (exec (enOf 1) (envOfC (Str.ofString "law") lawScope L fa cd)) Q E s := by
  revert X
  k_fill
  w_top off
  intro X
  conv =>
    pattern enOf _
    whnf
  conv =>
    pattern (occs := *) lawScope
    all_goals whnf
  have hMk : KstMark := kstMark
  have hnil : IntsAre ([] : List Value) ([] : List Int) := .nil
  k_with_none
  have hds : IntsAre [Value.int d0 t0, .int d1 t1, .int d2 t2, .int d3 t3, .int d4 t4] [d0, d1, d2, d3, d4] := .cons _ _ (.cons _ _ (.cons _ _ (.cons _ _ (.cons _ _ .nil))))
  have hdb : ∀ v ∈ [d0, d1, d2, d3, d4], 0 ≤ v ∧ v < 64 := fun v hv => by
    simp only [List.mem_cons, List.not_mem_nil, or_false] at hv
    rcases hv with rfl | rfl | rfl | rfl | rfl <;> assumption
  have hrb := rows_bound b0 b1 b2 b3 b4
  k_with "comp" => (k_dflt (refine LCg.ListComp_U (F₀ := by k_asm) (by with_unfolding_all rfl) (by decide) (by rfl) (by decide) (by rfl) ?_))
  k_with "src" => ((rename Fr _ _ _ _ => lF); (rename News _ _ _ _ => lN); (refine LCg.CompSrc.ledger (by rfl) lF lN (by k_mem) (by rw [List.size_toArray, hR.length]; exact Nat.le_of_ble_eq_true rfl) ?_); (intro g'); (rw [List.size_toArray, hR.length]); (obtain ⟨led0, hled0⟩ := newsIs lN); (clear lF lN); (refine rest_inv (n := 16) (fun j ys nx => nx = led0 ∧ IntsAre ys ((List.range j).map (fun m => prodL ((rows16 d0 d1 d2 d3 d4) m) * (-1) ^ ((rows16 d0 d1 d2 d3 d4) m).length))) ?cT ?cF 16 0 [] _ (by rfl) ⟨hled0.symm, .nil⟩); (case' cT => rintro j ys nx v I' oI' C' oC' D' m' h' tk' E' hj ⟨rfl, hSy⟩ hv9 hC' hx' F' N' off' ne'; (obtain ⟨a9, us9, k9, ev9, hm9, hI9⟩ := hR.get j v (by simpa using hv9)); subst ev9; clear hv9; subst hled0; simp only [LCg.Off3, and_true] at off'; (replace N' := news_more N' (.tail _ (.tail _ (.tail _ (.tail _ (.tail _ (hrl _ hm9)))))))); (case' cF => rintro ys nx ⟨rfl, hSy⟩; subst hled0; (rw [range16] at hSy)))
  k_with "call" => first
    | ((with_reducible show wpAny _ _ (call (Value.ref 76) _) _ _ _); (k_dflt (refine' (product_tells w _ a9 us9 _ k9 hI9 (hrb j)).use ?k1 ?k2 ?k3 ?k4 ?k5 ?kK ?kd ?ku ?_)); (case k1 => k_asm); (case k2 => k_asm); (case k3 => k_asm); (case k4 => k_asm); (case k5 => k_asm); (case kK => first | exact rfl | assumption); (case kd => ktr_room); (case ku => ktr_units); (rintro v9 made9 h9 tk9 ⟨rfl, t9, rfl⟩ lt9 F9 N9); (simp only [List.nil_append] at N9); (try k_fold))
    | ((with_reducible show wpAny _ _ (call (Value.ref 83) _) _ _ _); (k_dflt (refine' (walk_tells w ((rw, listOf rs.toArray c) :: led) dg [Value.int d0 t0, .int d1 t1, .int d2 t2, .int d3 t3, .int d4 t4] [d0, d1, d2, d3, d4] cdg (-1) _ hds hdb (Or.inr rfl)).use ?k1 ?k2 ?k3 ?k4 ?k5 ?kK ?kd ?ku ?_)); (case k1 => k_asm); (case k2 => k_asm); (case k3 => k_asm); (case k4 => (rename News _ _ _ _ => lN; exact news_sub lN (fun p hp => by simp only [List.mem_cons] at hp ⊢; rcases hp with h | h | h <;> simp [h]))); (case k5 => k_asm); (case kK => first | exact rfl | assumption); (case kd => ktr_room); (case ku => ktr_units); (rintro v8 made8 h8 tk8 ⟨rfl, t8, rfl⟩ lt8 F8 N8); (simp only [List.nil_append] at N8); (try k_fold))
  k_with "sum" => ((rename Fr _ _ _ _ => lF); (rename News _ _ _ _ => lN); (refine LSm.sum_ints lF lN (by rfl) (News.isList lN (by k_mem)) hSy ?_); (intro h7 tk7 t7 F7 N7); (rw [prodsM]))
  k_with "len" => ((rename News _ _ _ _ => lN); (refine len_row (News.isList lN (.head _)) hI9 (rows_len j) ?_))
  k_with "binaryOp Pow int int" => ((refine pow_int_small (Int.natCast_nonneg _) (row_small (rows_len j)) (by decide) ?_); (rw [Int.toNat_natCast]))
  k_with "binaryOp Mult int int" => (refine mul_int ?_ (neg_ok _ _))
  k_steps
  all_goals first
    | exact absurd (prodsM ..) (by assumption)
    | exact hQ _ _ (by assumption) (news_sub (by assumption) (fun p hp => by simp only [List.mem_cons] at hp ⊢; rcases hp with h | h | h <;> simp [h]))
    | exact LCg.CompEnd.intro (by assumption) (by assumption) _ (fun p hp => .tail _ hp) (by simp only [LCg.Off3, and_true]; exact off') (.inr ⟨_, .head _, rfl, _, rfl⟩) ⟨rfl, map_snoc hSy (by first | rfl | assumption)⟩
end Mine
namespace Mine
set_option maxRecDepth 100000
set_option maxHeartbeats 4000000
open PySem PySem.W PySem.Calls PyProof.Rows
local macro_rules | `(tactic| walk_at "call ref") => `(tactic| k_extra "call")
local macro_rules | `(tactic| walk_at "eval ListComp") => `(tactic| k_extra "comp")
local macro_rules | `(tactic| walk_at "CompSrc") => `(tactic| k_extra "src")
local macro_rules | `(tactic| walk_at "call builtin:sum") => `(tactic| k_extra "sum")
theorem enRet (w : World) (mean : ExcName → Option Value) (mg mb : Str → Option Value) (h₀ : Heap) (L fa : Addr) (cd : Value) (B : Below callerA h₀ [] h₀) (X : (hd.heap_39 w.params).In h₀)
   (T : Top hd.view_39 (looseW hd.view_39 [Str.ofString "COMPILER_FLAG_NAMES"]) mean mg mb h₀) (m : Str → Option Value) (led : List (Addr × Obj)) (s : Shared) (Q : Flow → Shared → Prop) (E : Value → Shared → Prop)
   (d0 d1 d2 d3 d4 : Int) (t0 t1 t2 t3 t4 : Tok) (rw dg : Addr) (c cdg : Nat) (rs : List Value) (rl : List (Addr × Obj)) (hR : RowsAre (rows16 d0 d1 d2 d3 d4) 16 rs rl) (hrl : ∀ p ∈ rl, p ∈ led)
   (b0 : 0 ≤ d0 ∧ d0 < 64) (b1 : 0 ≤ d1 ∧ d1 < 64) (b2 : 0 ≤ d2 ∧ d2 < 64) (b3 : 0 ≤ d3 ∧ d3 < 64) (b4 : 0 ≤ d4 ∧ d4 < 64)
   (F : Fr h₀ L s.heap (wi "rows" (.ref rw) (wi "digits" (.ref dg) m))) (N : News h₀ L s.heap ((rw, listOf rs.toArray c) :: (dg, listOf [Value.int d0 t0, .int d1 t1, .int d2 t2, .int d3 t3, .int d4 t4].toArray cdg) :: led))
   (hQ : ∀ h' tk' m', Fr h₀ L h' m' → Q (.ret (.bool true)) { s with heap := h', toks := tk' }) :
   wpAny (model Challenge.rw_pe0009_01.row.prog w) (callerA.deeper (envOfC (Str.ofString "law") lawScope L fa cd)) (exec (enOf 2) (envOfC (Str.ofString "law") lawScope L fa cd)) Q E s := by
  revert X
  k_fill
  w_top off
  intro X
  conv =>
    pattern enOf _
    whnf
  conv =>
    pattern (occs := *) lawScope
    all_goals whnf
  have hMk : KstMark := kstMark
  have hnil : IntsAre ([] : List Value) ([] : List Int) := .nil
  k_with_none
  have hds : IntsAre [Value.int d0 t0, .int d1 t1, .int d2 t2, .int d3 t3, .int d4 t4] [d0, d1, d2, d3, d4] := .cons _ _ (.cons _ _ (.cons _ _ (.cons _ _ (.cons _ _ .nil))))
  have hdb : ∀ v ∈ [d0, d1, d2, d3, d4], 0 ≤ v ∧ v < 64 := fun v hv => by
    simp only [List.mem_cons, List.not_mem_nil, or_false] at hv
    rcases hv with rfl | rfl | rfl | rfl | rfl <;> assumption
  have hrb := rows_bound b0 b1 b2 b3 b4
  k_with "comp" => (k_dflt (refine LCg.ListComp_U (F₀ := by k_asm) (by with_unfolding_all rfl) (by decide) (by rfl) (by decide) (by rfl) ?_))
  k_with "src" => ((rename Fr _ _ _ _ => lF); (rename News _ _ _ _ => lN); (refine LCg.CompSrc.ledger (by rfl) lF lN (by k_mem) (by rw [List.size_toArray, hR.length]; exact Nat.le_of_ble_eq_true rfl) ?_); (intro g'); (rw [List.size_toArray, hR.length]); (obtain ⟨led0, hled0⟩ := newsIs lN); (clear lF lN); (refine rest_inv (n := 16) (fun j ys nx => nx = led0 ∧ IntsAre ys ((List.range j).map (fun m => ((rows16 d0 d1 d2 d3 d4) m).sum))) ?cT ?cF 16 0 [] _ (by rfl) ⟨hled0.symm, .nil⟩); (case' cT => rintro j ys nx v I' oI' C' oC' D' m' h' tk' E' hj ⟨rfl, hSy⟩ hv9 hC' hx' F' N' off' ne'; (obtain ⟨a9, us9, k9, ev9, hm9, hI9⟩ := hR.get j v (by simpa using hv9)); subst ev9; clear hv9; subst hled0; simp only [LCg.Off3, and_true] at off'; (replace N' := news_more N' (.tail _ (.tail _ (.tail _ (.tail _ (.tail _ (hrl _ hm9)))))))); (case' cF => rintro ys nx ⟨rfl, hSy⟩; subst hled0; (rw [range16] at hSy)))
  k_with "call" => ((with_reducible show wpAny _ _ (call (Value.ref 90) _) _ _ _); (k_dflt (refine' (all_tells w ((rw, listOf rs.toArray c) :: led) dg d0 d1 d2 d3 d4 t0 t1 t2 t3 t4 cdg b0 b1 b2 b3 b4).use ?k1 ?k2 ?k3 ?k4 ?k5 ?kK ?kd ?ku ?_)); (case k1 => k_asm); (case k2 => k_asm); (case k3 => k_asm); (case k4 => (rename News _ _ _ _ => lN; exact news_sub lN (fun p hp => by simp only [List.mem_cons] at hp ⊢; rcases hp with h | h | h <;> simp [h]))); (case k5 => k_asm); (case kK => first | exact rfl | assumption); (case kd => ktr_room); (case ku => ktr_units); (rintro v8 made8 h8 tk8 ⟨rfl, t8, rfl⟩ lt8 F8 N8); (simp only [List.nil_append] at N8); (try k_fold))
  k_with "sum" => first
    | ((rename Fr _ _ _ _ => lF); (rename News _ _ _ _ => lN); (refine LSm.sum_ints lF lN (by rfl) (News.isList lN (by k_mem)) hI9 ?_); (intro h7 tk7 t7 F7 N7))
    | ((rename Fr _ _ _ _ => lF); (rename News _ _ _ _ => lN); (refine LSm.sum_ints lF lN (by rfl) (News.isList lN (by k_mem)) hSy ?_); (intro h7 tk7 t7 F7 N7); (rw [alls]))
  k_steps
  all_goals first
    | (rw [alls, beq_self_eq_true]; exact hQ _ _ _ (by assumption))
    | exact hQ _ _ _ (by assumption)
    | exact LCg.CompEnd.intro (by assumption) (by assumption) _ (fun p hp => .tail _ hp) (by simp only [LCg.Off3, and_true]; exact off') (.inr ⟨_, .head _, rfl, _, rfl⟩) ⟨rfl, map_snoc hSy rfl⟩
end Mine
namespace Mine
set_option maxRecDepth 100000
set_option maxHeartbeats 4000000
open PySem PySem.W PySem.Calls PyProof.Rows
local macro_rules | `(tactic| walk_at "exec Assign cons ListComp") => `(tactic| k_extra "comp")
local macro_rules | `(tactic| walk_at "CompSrc") => `(tactic| k_extra "src")
theorem int_at : ∀ {vs : List Value} {ns : List Int}, IntsAre vs ns → ∀ {i : Nat} {v : Value}, vs[i]? = some v → ∃ x t, v = .int x t ∧ ns[i]? = some x
  | _, _, .nil, _, _, h => by simp at h
  | _, _, .cons k t r, 0, v, h => ⟨k, t, by simpa using h.symm, rfl⟩
  | _, _, .cons k t r, i + 1, v, h => by simpa using int_at r (by simpa using h)
theorem take_snoc {ns : List Int} {j : Nat} {f : Int → Int} {ys : List Value} {x : Int} {t : Tok} (h : IntsAre ys ((ns.take j).map f)) (hx : ns[j]? = some x) : IntsAre (ys ++ [Value.int (f x) t]) ((ns.take (j + 1)).map f) := by
  rw [List.take_add_one, hx, List.map_append]
  exact IntsAre.append h (.cons _ _ .nil)
theorem pmDrop {a b c : Addr × Obj} {t : List (Addr × Obj)} : ∀ p ∈ a :: c :: t, p ∈ a :: b :: c :: t := fun p h => by
  simp only [List.mem_cons] at h ⊢; rcases h with h | h | h <;> simp [h]
theorem reDigits (w : World) (mean : ExcName → Option Value) (mg mb : Str → Option Value) (h₀ : Heap) (L fa : Addr) (cd : Value) (B : Below callerA h₀ [] h₀) (X : (hd.heap_39 w.params).In h₀)
   (T : Top hd.view_39 (looseW hd.view_39 [Str.ofString "COMPILER_FLAG_NAMES"]) mean mg mb h₀) (m : Str → Option Value) (led : List (Addr × Obj)) (s : Shared) (Q : Flow → Shared → Prop) (E : Value → Shared → Prop)
   (nm : Addr) (cn : Nat) (n0 n1 n2 n3 n4 n5 : Int) (u0 u1 u2 u3 u4 u5 : Tok)
   (F : Fr h₀ L s.heap (wi "numbers" (.ref nm) m)) (N : News h₀ L s.heap ((nm, listOf [Value.int n0 u0, .int n1 u1, .int n2 u2, .int n3 u3, .int n4 u4, .int n5 u5].toArray cn) :: led))
   (hQ : ∀ D t0 t1 t2 t3 t4 c h' tk', Fr h₀ L h' (wi "digits" (.ref D) (wi "numbers" (.ref nm) m)) → News h₀ L h' ((D, listOf [Value.int (n0.fmod 64) t0, .int (n1.fmod 64) t1, .int (n2.fmod 64) t2, .int (n3.fmod 64) t3, .int (n4.fmod 64) t4].toArray c) :: (nm, listOf [Value.int n0 u0, .int n1 u1, .int n2 u2, .int n3 u3, .int n4 u4, .int n5 u5].toArray cn) :: led) → LCg.Off1 D ((nm, listOf [Value.int n0 u0, .int n1 u1, .int n2 u2, .int n3 u3, .int n4 u4, .int n5 u5].toArray cn) :: led) → Q .next { s with heap := h', toks := tk' }) :
   wpAny (model Challenge.rw_pe0009_01.row.prog w) (callerA.deeper (envOfC (Str.ofString "law") lawScope L fa cd)) (exec (reOf 0) (envOfC (Str.ofString "law") lawScope L fa cd)) Q E s := by
  revert X
  k_fill
  w_top off
  intro X
  conv =>
    pattern reOf _
    whnf
  conv =>
    pattern (occs := *) lawScope
    all_goals whnf
  have hMk : KstMark := kstMark
  have hnil : IntsAre ([] : List Value) ([] : List Int) := .nil
  k_with_none
  have hn5 : IntsAre [Value.int n0 u0, .int n1 u1, .int n2 u2, .int n3 u3, .int n4 u4] [n0, n1, n2, n3, n4] := .cons _ _ (.cons _ _ (.cons _ _ (.cons _ _ (.cons _ _ .nil))))
  have hn6 : IntsAre [Value.int n0 u0, .int n1 u1, .int n2 u2, .int n3 u3, .int n4 u4, .int n5 u5] [n0, n1, n2, n3, n4, n5] := .cons _ _ (.cons _ _ (.cons _ _ (.cons _ _ (.cons _ _ (.cons _ _ .nil)))))
  k_with "comp" => (k_dflt (refine LCg.Assign_ListComp_U (F₀ := by k_asm) (by rfl) (by with_unfolding_all rfl) (by with_unfolding_all rfl) (by decide) (by rfl) (by decide) (by rfl) (by rfl) (by rfl) ?_))
  k_with "src" => (refine stopHere ?_)
  k_steps
  refine ⟨?_⟩
  (rename Fr _ _ _ _ => lF); (rename News _ _ _ _ => lN)
  refine LCg.CompSrc.ledger (by rfl) lF lN (by k_mem) (by exact Nat.le_of_ble_eq_true rfl) ?_
  intro g'
  obtain ⟨led0, hled0⟩ := newsIs lN
  clear lF lN
  refine rest_inv (n := 5) (fun j ys nx => nx = led0 ∧ IntsAre ys (([n0, n1, n2, n3, n4].take j).map (fun n => n.fmod 64))) ?cT ?cF 5 0 [] _ (by rfl) ⟨hled0.symm, .nil⟩
  (case' cT => rintro j ys nx v I' oI' C' oC' D' m' h' tk' E' hj ⟨rfl, hSy⟩ hv9 hC' hx' F' N' off' ne'; (obtain ⟨x9, t9, ev9, hx9⟩ := int_at hn5 (show [Value.int n0 u0, .int n1 u1, .int n2 u2, .int n3 u3, .int n4 u4][j]? = some v by simpa using hv9)); subst ev9; clear hv9; subst hled0; simp only [LCg.Off3, and_true] at off')
  (case' cF => rintro ys nx ⟨rfl, hSy⟩; subst hled0)
  k_steps
  all_goals first
    | exact LCg.CompEnd.intro (by assumption) (by assumption) _ (fun p hp => hp) (by simp only [LCg.Off3, and_true]; exact off') (.inr ⟨_, .head _, rfl, _, rfl⟩) ⟨rfl, take_snoc hSy hx9⟩
    | skip
  obtain ⟨t0, t1, t2, t3, t4, rfl⟩ := five_is hSy
  (rename Fr _ _ _ _ => lF); (rename News _ _ _ _ => lN)
  (rename _ ∧ _ => o9)
  exact hQ _ t0 t1 t2 t3 t4 _ _ _ lF (news_sub lN pmDrop) o9.2
end Mine
namespace Mine
set_option maxRecDepth 100000
set_option maxHeartbeats 4000000
open PySem PySem.W PySem.Calls PyProof.Rows
theorem shift_is (n : Int) : ∃ k : Nat, k < 30 ∧ n.fmod 30 = (k : Int) := by
  rw [Int.fmod_eq_emod_of_nonneg _ (by decide)]
  exact ⟨(n % 30).toNat, by omega, by omega⟩
theorem reShift (w : World) (mean : ExcName → Option Value) (mg mb : Str → Option Value) (h₀ : Heap) (L fa : Addr) (cd : Value) (B : Below callerA h₀ [] h₀) (X : (hd.heap_39 w.params).In h₀)
   (T : Top hd.view_39 (looseW hd.view_39 [Str.ofString "COMPILER_FLAG_NAMES"]) mean mg mb h₀) (m : Str → Option Value) (led : List (Addr × Obj)) (s : Shared) (Q : Flow → Shared → Prop) (E : Value → Shared → Prop)
   (nm : Addr) (cn : Nat) (n0 n1 n2 n3 n4 n5 : Int) (u0 u1 u2 u3 u4 u5 : Tok) (oS : Obj) (xS : Option Value) (hxS : oS.data = .cell xS) (hnm : @Ne Nat nm (L + 1 + 1)) (off : ∀ p ∈ led, p.1 ≠ L + 1 + 1)
   (F : Fr h₀ L s.heap (wi "numbers" (.ref nm) m)) (N : News h₀ L s.heap ((nm, listOf [Value.int n0 u0, .int n1 u1, .int n2 u2, .int n3 u3, .int n4 u4, .int n5 u5].toArray cn) :: (L + 1 + 1, oS) :: led))
   (hQ : ∀ (k : Nat) tsh oS' h' tk', k < 30 → oS'.data = .cell (some (.int (k : Int) tsh)) → Fr h₀ L h' (wi "numbers" (.ref nm) m) → News h₀ L h' ((nm, listOf [Value.int n0 u0, .int n1 u1, .int n2 u2, .int n3 u3, .int n4 u4, .int n5 u5].toArray cn) :: (L + 1 + 1, oS') :: led) → Q .next { s with heap := h', toks := tk' }) :
   wpAny (model Challenge.rw_pe0009_01.row.prog w) (callerA.deeper (envOfC (Str.ofString "law") lawScope L fa cd)) (exec (reOf 1) (envOfC (Str.ofString "law") lawScope L fa cd)) Q E s := by
  revert X
  k_fill
  w_top off
  intro X
  conv =>
    pattern reOf _
    whnf
  conv =>
    pattern (occs := *) lawScope
    all_goals whnf
  have hMk : KstMark := kstMark
  have hnil : IntsAre ([] : List Value) ([] : List Int) := .nil
  k_with_none
  have hn6 : IntsAre [Value.int n0 u0, .int n1 u1, .int n2 u2, .int n3 u3, .int n4 u4, .int n5 u5] [n0, n1, n2, n3, n4, n5] := .cons _ _ (.cons _ _ (.cons _ _ (.cons _ _ (.cons _ _ (.cons _ _ .nil)))))
  have U := UpdF.tail (p := (nm, listOf [Value.int n0 u0, .int n1 u1, .int n2 u2, .int n3 u3, .int n4 u4, .int n5 u5].toArray cn)) (neN hnm) (UpdF.head (o := oS) off)
  obtain ⟨k, hk, ek⟩ := shift_is n5
  k_with "storeName" => ((rename Fr _ _ _ _ => lF); (rename News _ _ _ _ => lN); (refine storeX_C lF lN (by exact rfl) U hxS ?_ (by exact rfl) (by exact rfl)); (intro h9 oS9 F9 N9 hS9))
  k_steps
  have e9 : ([n0, n1, n2, n3, n4, n5].getD (Int.toNat 5) 0).fmod 30 = (k : Int) := ek
  exact hQ k _ _ _ _ hk (by rw [hS9, e9]) F9 N9
end Mine
namespace Mine
set_option maxRecDepth 100000
set_option maxHeartbeats 4000000
open PySem PySem.W PySem.Calls PyProof.Rows
theorem reWhole (w : World) (mean : ExcName → Option Value) (mg mb : Str → Option Value) (h₀ : Heap) (L fa : Addr) (cd : Value) (B : Below callerA h₀ [] h₀) (X : (hd.heap_39 w.params).In h₀)
   (T : Top hd.view_39 (looseW hd.view_39 [Str.ofString "COMPILER_FLAG_NAMES"]) mean mg mb h₀) (m : Str → Option Value) (led : List (Addr × Obj)) (s : Shared) (Q : Flow → Shared → Prop) (E : Value → Shared → Prop)
   (F : Fr h₀ L s.heap m) (N : News h₀ L s.heap led)
   (hQ : ∀ t h' tk', Fr h₀ L h' (wi "whole" (.int 0 t) m) → News h₀ L h' led → Q .next { s with heap := h', toks := tk' }) :
   wpAny (model Challenge.rw_pe0009_01.row.prog w) (callerA.deeper (envOfC (Str.ofString "law") lawScope L fa cd)) (exec (reOf 2) (envOfC (Str.ofString "law") lawScope L fa cd)) Q E s := by
  revert X
  k_fill
  w_top off
  intro X
  conv =>
    pattern reOf _
    whnf
  conv =>
    pattern (occs := *) lawScope
    all_goals whnf
  have hMk : KstMark := kstMark
  have hnil : IntsAre ([] : List Value) ([] : List Int) := .nil
  k_with_none
  k_steps
  exact hQ _ _ _ (by assumption) (by assumption)
end Mine
namespace Mine
set_option maxRecDepth 100000
set_option maxHeartbeats 4000000
open PySem PySem.W PySem.Calls PyProof.Rows
theorem reLoop (w : World) (mean : ExcName → Option Value) (mg mb : Str → Option Value) (h₀ : Heap) (L fa : Addr) (cd : Value) (B : Below callerA h₀ [] h₀) (X : (hd.heap_39 w.params).In h₀)
   (T : Top hd.view_39 (looseW hd.view_39 [Str.ofString "COMPILER_FLAG_NAMES"]) mean mg mb h₀) (m : Str → Option Value) (led : List (Addr × Obj)) (s : Shared) (Q : Flow → Shared → Prop) (E : Value → Shared → Prop)
   (hE : PassesOwn (model Challenge.rw_pe0009_01.row.prog w) (callerA.deeper (envOfC (Str.ofString "law") lawScope L fa cd)) (envOfC (Str.ofString "law") lawScope L fa cd) E) (d0 d1 d2 d3 d4 : Int) (t0 t1 t2 t3 t4 tW : Tok) (dg : Addr) (cdg : Nat) (b0 : 0 ≤ d0 ∧ d0 < 64) (b1 : 0 ≤ d1 ∧ d1 < 64) (b2 : 0 ≤ d2 ∧ d2 < 64) (b3 : 0 ≤ d3 ∧ d3 < 64) (b4 : 0 ≤ d4 ∧ d4 < 64)
   (F : Fr h₀ L s.heap (wi "whole" (.int 0 tW) (wi "digits" (.ref dg) m))) (N : News h₀ L s.heap ((dg, listOf [Value.int d0 t0, .int d1 t1, .int d2 t2, .int d3 t3, .int d4 t4].toArray cdg) :: led))
   (hQ : ∀ tW' u h' tk', u (Str.ofString "digits") = some (.ref dg) → u (Str.ofString "numbers") = m (Str.ofString "numbers") → Fr h₀ L h' (wi "whole" (.int (wholeOf d0 d1 d2 d3 d4) tW') u) → News h₀ L h' ((dg, listOf [Value.int d0 t0, .int d1 t1, .int d2 t2, .int d3 t3, .int d4 t4].toArray cdg) :: led) → Q .next { s with heap := h', toks := tk' }) :
   wpAny (model Challenge.rw_pe0009_01.row.prog w) (callerA.deeper (envOfC (Str.ofString "law") lawScope L fa cd)) (exec (reOf 3) (envOfC (Str.ofString "law") lawScope L fa cd)) Q E s := by
  revert X
  k_fill
  w_top off
  intro X
  conv =>
    pattern reOf _
    whnf
  conv =>
    pattern (occs := *) lawScope
    all_goals whnf
  have hMk : KstMark := kstMark
  have hnil : IntsAre ([] : List Value) ([] : List Int) := .nil
  k_with_none
  have hds : IntsAre [Value.int d0 t0, .int d1 t1, .int d2 t2, .int d3 t3, .int d4 t4] [d0, d1, d2, d3, d4] := .cons _ _ (.cons _ _ (.cons _ _ (.cons _ _ (.cons _ _ .nil))))
  k_steps
  (rename Fr _ _ _ _ => lF); (rename News _ _ _ _ => lN)
  exact hQ _ _ _ _ (by rfl) (by rfl) (fr_as (x := "whole") lF (by rfl)) lN
end Mine
namespace Mine
set_option maxRecDepth 100000
set_option maxHeartbeats 4000000
open PySem PySem.W PySem.Calls PyProof.Rows
theorem reRows (w : World) (mean : ExcName → Option Value) (mg mb : Str → Option Value) (h₀ : Heap) (L fa : Addr) (cd : Value) (B : Below callerA h₀ [] h₀) (X : (hd.heap_39 w.params).In h₀)
   (T : Top hd.view_39 (looseW hd.view_39 [Str.ofString "COMPILER_FLAG_NAMES"]) mean mg mb h₀) (m : Str → Option Value) (led : List (Addr × Obj)) (s : Shared) (Q : Flow → Shared → Prop) (E : Value → Shared → Prop)
   (F : Fr h₀ L s.heap m) (N : News h₀ L s.heap led)
   (hQ : ∀ D c h' tk', Fr h₀ L h' (wi "rows" (.ref D) m) → News h₀ L h' ((D, listOf ([] : List Value).toArray c) :: led) → (∀ p ∈ led, p.1 < D) → Q .next { s with heap := h', toks := tk' }) :
   wpAny (model Challenge.rw_pe0009_01.row.prog w) (callerA.deeper (envOfC (Str.ofString "law") lawScope L fa cd)) (exec (reOf 4) (envOfC (Str.ofString "law") lawScope L fa cd)) Q E s := by
  revert X
  k_fill
  w_top off
  intro X
  conv =>
    pattern reOf _
    whnf
  conv =>
    pattern (occs := *) lawScope
    all_goals whnf
  have hMk : KstMark := kstMark
  have hnil : IntsAre ([] : List Value) ([] : List Int) := .nil
  k_with_none
  k_steps
  exact hQ _ _ _ _ (by assumption) (by assumption) (by assumption)
end Mine
namespace Mine
set_option maxRecDepth 100000
set_option maxHeartbeats 4000000
open PySem PySem.W PySem.Calls PyProof.Rows
theorem reFor (w : World) (mean : ExcName → Option Value) (mg mb : Str → Option Value) (h₀ : Heap) (L fa : Addr) (cd : Value) (B : Below callerA h₀ [] h₀) (X : (hd.heap_39 w.params).In h₀)
   (T : Top hd.view_39 (looseW hd.view_39 [Str.ofString "COMPILER_FLAG_NAMES"]) mean mg mb h₀) (m : Str → Option Value) (led : List (Addr × Obj)) (s : Shared) (Q : Flow → Shared → Prop) (E : Value → Shared → Prop)
   (hE : PassesOwn (model Challenge.rw_pe0009_01.row.prog w) (callerA.deeper (envOfC (Str.ofString "law") lawScope L fa cd)) (envOfC (Str.ofString "law") lawScope L fa cd) E) (nm dg rw : Addr) (n0 n1 n2 n3 n4 n5 : Int) (u0 u1 u2 u3 u4 u5 : Tok) (b0 : 0 ≤ n0 ∧ n0 < 1073741824) (b1 : 0 ≤ n1 ∧ n1 < 1073741824) (b2 : 0 ≤ n2 ∧ n2 < 1073741824) (b3 : 0 ≤ n3 ∧ n3 < 1073741824) (b4 : 0 ≤ n4 ∧ n4 < 1073741824) (cn cdg c k : Nat) (tsh tW : Tok) (ds : List Value) (oM oS oT : Obj) (x0 : Option Value) (hk : k < 30)
   (hS : oS.data = .cell (some (.int (k : Int) tsh))) (hM : oM.data = .cell x0)
   (hlt : (@LT.lt Nat _ (L + 1 + 1 + 1) rw) ∧ (@LT.lt Nat _ nm rw) ∧ (@LT.lt Nat _ dg rw) ∧ (@Ne Nat nm (L + 1 + 1 + 1)) ∧ (@Ne Nat dg (L + 1 + 1 + 1)))
   (F : Fr h₀ L s.heap (mLaw nm dg rw (wholeOf (n0.fmod 64) (n1.fmod 64) (n2.fmod 64) (n3.fmod 64) (n4.fmod 64)) tW m)) (N : News h₀ L s.heap ((rw, listOf ([] : List Value).toArray c) :: (dg, listOf ds.toArray cdg) :: (nm, listOf [Value.int n0 u0, .int n1 u1, .int n2 u2, .int n3 u3, .int n4 u4, .int n5 u5].toArray cn) :: (L + 1 + 1 + 1, oM) :: (L + 1 + 1, oS) :: (L + 1, oT) :: []))
   (hQ : ∀ oM x0 rs c rl tW u h' tk', oM.data = .cell x0 → RowsAre (rows16 (n0.fmod 64) (n1.fmod 64) (n2.fmod 64) (n3.fmod 64) (n4.fmod 64)) 16 rs rl → Fr h₀ L h' (mLaw nm dg rw (wholeOf (n0.fmod 64) (n1.fmod 64) (n2.fmod 64) (n3.fmod 64) (n4.fmod 64)) tW u) → News h₀ L h' ((rw, listOf rs.toArray c) :: (dg, listOf ds.toArray cdg) :: (nm, listOf [Value.int n0 u0, .int n1 u1, .int n2 u2, .int n3 u3, .int n4 u4, .int n5 u5].toArray cn) :: (L + 1 + 1 + 1, oM) :: (L + 1 + 1, oS) :: (L + 1, oT) :: rl) → Q .next { s with heap := h', toks := tk' }) :
   wpAny (model Challenge.rw_pe0009_01.row.prog w) (callerA.deeper (envOfC (Str.ofString "law") lawScope L fa cd)) (exec (reOf 5) (envOfC (Str.ofString "law") lawScope L fa cd)) Q E s := by
  revert X
  k_fill
  w_top off
  intro X
  conv =>
    pattern reOf _
    whnf
  conv =>
    pattern (occs := *) lawScope
    all_goals whnf
  have hMk : KstMark := kstMark
  have hnil : IntsAre ([] : List Value) ([] : List Int) := .nil
  k_with_none
  refine wpAny_For ?_ (by intro _; rfl)
  k_steps
  (rename IsRange _ _ _ _ _ _ _ _ => rgX); (rename Fr _ _ _ _ => lF); (rename News _ _ _ _ => lN)
  refine for_range_iter (n := 16) (LawJ L nm dg rw [Value.int n0 u0, .int n1 u1, .int n2 u2, .int n3 u3, .int n4 u4, .int n5 u5] ds cn cdg (wholeOf (n0.fmod 64) (n1.fmod 64) (n2.fmod 64) (n3.fmod 64) (n4.fmod 64)) (rows16 (n0.fmod 64) (n1.fmod 64) (n2.fmod 64) (n3.fmod 64) (n4.fmod 64)) oS oT) (by rfl) rgX (by decide) (by decide) lF lN ⟨tW, _, oM, x0, [], c, [], mLaw_of (by rfl) (by rfl) (by rfl) (by rfl), hM, .nil, fun _ h => absurd h (by simp), rfl⟩ ?turn ?done (hE := hE)
  case done =>
    rintro m1 nx h1 tk1 ⟨tW1, v1, oM1, x1, rs, c1, rl, rfl, hM1, hR1, hrl1, rfl⟩ F1 N1
    exact wpAny_execs_nil (hQ _ _ _ _ _ _ _ _ _ hM1 hR1 F1 N1)
  case turn =>
    rintro I i m1 nx h1 tk1 ti hlI hi ⟨tW1, v1, oM1, x1, rs, c1, rl, rfl, hM1, hR1, hrl1, rfl⟩ offI F1 N1
    rw [Int.zero_add] at N1 ⊢
    have lI := ltN (hlI _ (.head _))
    exact law_turn w mean mg mb h₀ L fa cd B X T nm dg rw I n0 n1 n2 n3 n4 n5 u0 u1 u2 u3 u4 u5 cn cdg c1 k i tsh tW1 ti ds rs oM1 oS oT _ x1 v1 rl b0 b1 b2 b3 b4 hk hi hS hM1 hR1 hrl1 ⟨hlt.1, hlt.2.1, hlt.2.2.1, lI, hlt.2.2.2.1, hlt.2.2.2.2⟩ (fun p hp => offI p (.tail _ (.tail _ (.tail _ (.tail _ (.tail _ (.tail _ hp))))))) _ Q E F1 N1
end Mine
namespace Mine
set_option maxRecDepth 100000
set_option maxHeartbeats 1000000
open PySem PySem.W PySem.Calls PyProof.Rows
section
variable {a b c d e f g : Addr × Obj} {t : List (Addr × Obj)}
/-- dg nm M S T : nm S dg M T -/
theorem pmI : ∀ p ∈ b :: d :: a :: c :: e :: t, p ∈ a :: b :: c :: d :: e :: t := fun p h => by
  simp only [List.mem_cons] at h ⊢; rcases h with h | h | h | h | h | h <;> simp [h]
/-- nm S dg M T : dg nm M S T -/
theorem pmJ : ∀ p ∈ c :: a :: d :: b :: e :: t, p ∈ a :: b :: c :: d :: e :: t := fun p h => by
  simp only [List.mem_cons] at h ⊢; rcases h with h | h | h | h | h | h <;> simp [h]
end
theorem law_rest (w : World) (mean : ExcName → Option Value) (mg mb : Str → Option Value) (h₀ : Heap) (L fa : Addr) (cd : Value) (B : Below callerA h₀ [] h₀) (X : (hd.heap_39 w.params).In h₀)
   (T : Top hd.view_39 (looseW hd.view_39 [Str.ofString "COMPILER_FLAG_NAMES"]) mean mg mb h₀) (m : Str → Option Value) (s : Shared) (Q : Flow → Shared → Prop) (E : Value → Shared → Prop)
   (hE : PassesOwn (model Challenge.rw_pe0009_01.row.prog w) (callerA.deeper (envOfC (Str.ofString "law") lawScope L fa cd)) (envOfC (Str.ofString "law") lawScope L fa cd) E)
   (nm : Addr) (n0 n1 n2 n3 n4 n5 : Int) (u0 u1 u2 u3 u4 u5 : Tok) (cn : Nat) (oM oS oT : Obj) (xM xS : Option Value)
   (b0 : 0 ≤ n0 ∧ n0 < 1073741824) (b1 : 0 ≤ n1 ∧ n1 < 1073741824) (b2 : 0 ≤ n2 ∧ n2 < 1073741824) (b3 : 0 ≤ n3 ∧ n3 < 1073741824) (b4 : 0 ≤ n4 ∧ n4 < 1073741824)
   (hM : oM.data = .cell xM) (hS : oS.data = .cell xS) (hnm : @LT.lt Nat _ (L + 1 + 1 + 1) nm)
   (F : Fr h₀ L s.heap (wi "numbers" (.ref nm) m)) (N : News h₀ L s.heap ((nm, listOf [Value.int n0 u0, .int n1 u1, .int n2 u2, .int n3 u3, .int n4 u4, .int n5 u5].toArray cn) :: (L + 1 + 1 + 1, oM) :: (L + 1 + 1, oS) :: (L + 1, oT) :: []))
   (hQ : ∀ h' tk' m', Fr h₀ L h' m' → Q (.ret (.bool true)) { s with heap := h', toks := tk' }) :
   wpAny (model Challenge.rw_pe0009_01.row.prog w) (callerA.deeper (envOfC (Str.ofString "law") lawScope L fa cd)) (execs restBody (envOfC (Str.ofString "law") lawScope L fa cd)) Q E s := by
  rw [rest_sts, end_sts]
  -- digits
  refine wpAny_execs_cons (reDigits w mean mg mb h₀ L fa cd B X T _ _ _ _ _ nm cn n0 n1 n2 n3 n4 n5 u0 u1 u2 u3 u4 u5 F N ?_)
  clear F N
  intro dg t0 t1 t2 t3 t4 cdg h1 tk1 F N oD
  dsimp only
  simp only [LCg.Off1, and_true] at oD
  obtain ⟨o1, o2, o3, o4⟩ := oD
  -- shift
  refine wpAny_execs_cons (reShift w mean mg mb h₀ L fa cd B X T _ _ _ _ _ nm cn n0 n1 n2 n3 n4 n5 u0 u1 u2 u3 u4 u5 oS xS hS (neN (by omega)) ?_ (fr_as (x := "numbers") F (by rfl)) (news_sub N pmI) ?_)
  · intro p hp
    simp only [List.mem_cons, List.not_mem_nil, or_false] at hp
    rcases hp with rfl | rfl | rfl
    · exact Ne.symm o3
    · exact neN (by omega)
    · exact neN (by omega)
  clear F N hS
  intro k tsh oS' h2 tk2 hk hS F N
  dsimp only
  -- whole
  refine wpAny_execs_cons (reWhole w mean mg mb h₀ L fa cd B X T _ _ _ _ _ F N ?_)
  clear F N
  intro tW h3 tk3 F N
  dsimp only
  -- the loop over the digits
  refine wpAny_execs_cons (reLoop w mean mg mb h₀ L fa cd B X T _ _ _ _ _ hE _ _ _ _ _ t0 t1 t2 t3 t4 tW dg cdg mod_bound mod_bound mod_bound mod_bound mod_bound (fr_as (x := "whole") (fr_as (x := "digits") F (by rfl)) (by rfl)) (news_sub N pmJ) ?_)
  clear F N
  intro tW2 u h4 tk4 e1 e2 F N
  dsimp only
  -- rows
  refine wpAny_execs_cons (reRows w mean mg mb h₀ L fa cd B X T _ _ _ _ _ F N ?_)
  clear F N
  intro rw c h5 tk5 F N lt
  dsimp only
  have l1 := ltN (lt _ (.head _))
  have l2 := ltN (lt _ (.tail _ (.head _)))
  have l3 := ltN (lt _ (.tail _ (.tail _ (.head _))))
  -- the loop over the choices
  refine wpAny_execs_cons (reFor w mean mg mb h₀ L fa cd B X T _ [] _ _ _ hE nm dg rw n0 n1 n2 n3 n4 n5 u0 u1 u2 u3 u4 u5 b0 b1 b2 b3 b4 cn cdg c k tsh tW2 _ oM oS' oT xM hk hS hM ⟨l3, l2, l1, Nat.ne_of_gt hnm, Ne.symm o2⟩
    (fr_as (x := "rows") (fr_as (x := "whole") (fr_as (x := "digits") (fr_as (x := "numbers") F ?e2) ?e1) (by rfl)) (by rfl)) N ?_)
  case e2 => exact e2
  case e1 => exact e1
  clear F N
  intro oM2 x2 rs c2 rl tW3 v h6 tk6 hM2 hR F N
  dsimp only
  have hrl : ∀ p ∈ rl, p ∈ (nm, listOf [Value.int n0 u0, .int n1 u1, .int n2 u2, .int n3 u3, .int n4 u4, .int n5 u5].toArray cn) :: (L + 1 + 1 + 1, oM2) :: (L + 1 + 1, oS') :: (L + 1, oT) :: rl := fun p hp => .tail _ (.tail _ (.tail _ (.tail _ hp)))
  -- the end
  refine wpAny_execs_cons (enProd w mean mg mb h₀ L fa cd B X T _ _ _ _ _ _ _ _ _ _ t0 t1 t2 t3 t4 rw dg c2 cdg rs rl hR hrl mod_bound mod_bound mod_bound mod_bound mod_bound (fr_as (x := "rows") (fr_as (x := "digits") F (by rfl)) (by rfl)) N ?_)
  clear F N
  intro h7 tk7 F N
  dsimp only
  refine wpAny_execs_cons (enNeg w mean mg mb h₀ L fa cd B X T _ _ _ _ _ _ _ _ _ _ t0 t1 t2 t3 t4 rw dg c2 cdg rs rl hR hrl mod_bound mod_bound mod_bound mod_bound mod_bound F N ?_)
  clear F N
  intro h8 tk8 F N
  dsimp only
  refine wpAny_execs_cons (enRet w mean mg mb h₀ L fa cd B X T _ _ _ _ _ _ _ _ _ _ t0 t1 t2 t3 t4 rw dg c2 cdg rs rl hR hrl mod_bound mod_bound mod_bound mod_bound mod_bound F N ?_)
  intro h9 tk9 m9 F
  exact hQ h9 tk9 m9 F
end Mine
namespace Mine
set_option maxRecDepth 100000
set_option maxHeartbeats 4000000
open PySem PySem.W PySem.Calls PyProof.Rows
local macro_rules | `(tactic| walk_at "exec Assign cons ListComp") => `(tactic| k_extra "numbers")
local macro_rules | `(tactic| walk_at "call builtin:sum") => `(tactic| k_extra "sum")
local macro_rules | `(tactic| walk_at "call type:enumerate") => `(tactic| k_extra "enum")
theorem pmK {a b c d e f g : Addr × Obj} {t : List (Addr × Obj)} : ∀ p ∈ a :: e :: f :: g :: t, p ∈ a :: b :: c :: d :: e :: f :: g :: t := fun p h => by
  simp only [List.mem_cons] at h ⊢; rcases h with h | h | h | h | h <;> simp [h]
theorem law0 : PySem.Challenge.rw_pe0009_01.Holds := Mine.hd (by
  w_top off
  k_go0
  w_top off
  all_goals try k_fold
  have hMk : KstMark := kstMark
  have hnil : IntsAre ([] : List Value) ([] : List Int) := .nil
  k_with_none
  k_with "numbers" => ((with_reducible show wpAny _ _ (exec (Stmt.Assign [Expr.Name (Str.ofString "numbers") _] _ _) _) _ _ _); k_dflt (refine Assign_E (by k_asm) (by rfl) (by with_unfolding_all rfl) (by with_unfolding_all rfl) (by decide) (by rfl) (by decide) (by rfl) (by rfl) (by decide) (by rfl) (by rfl) ?_))
  k_with "enum" => ((rename Fr _ _ _ _ => lF); (rename News _ _ _ _ => lN); (refine call_enumE lF lN (News.isList lN (.head _)) (lN _ (.head _)).2.2 ?_); clear lF lN; intro hE eE iE SE; (refine ⟨eE, iE, _, _, _, NumV, rfl, by rfl, Nat.le_of_ble_eq_true rfl, SE, ?numT, ?numF⟩))
  k_steps
  case' numT =>
    intro i v t C oC m₂ h tk own E' hv hC ha hb F N
    obtain ⟨i6, x0, t0, rfl, x1, x2⟩ := six_v hv
    simp only [List.cons_append, List.nil_append] at N ⊢
    (rename IntsAre _ (List.map _ (List.take 63 _)) => hI8)
    obtain ⟨ps, hpk, hp0, hp1⟩ := taken_facts hI8 (i : Int)
    k_with "sum" => ((rename Fr _ _ _ _ => lF); (rename News _ _ _ _ => lN); (refine sum_arr lF lN (by rfl) (News.isList lN (.head _)) hpk ?_); clear lF lN; intro hS tS uS FS NS)
    k_steps
    · (with_reducible assumption)
    · exact news_sub (by assumption) (fun p hp => by simp only [List.mem_cons] at hp ⊢; rcases hp with h | h | h | h | h | h | h <;> simp [h])
    · exact ⟨_, _, rfl, by omega, by omega⟩
  case' numF =>
    refine ⟨?_⟩
    intro D h tk ys F N lt hyl hG
    obtain ⟨n0, n1, n2, n3, n4, n5, u0, u1, u2, u3, u4, u5, rfl, b0, b1, b2, b3, b4, b5⟩ := six_ys hyl hG
    clear hG hyl
    k_lt lt
    (rename Top _ _ _ _ _ _ => hT); (rename Frag.In _ _ => hX)
    show wpAny _ _ (execs restBody (envOfC (Str.ofString "law") lawScope _ _ _)) _ _ _
    refine law_rest _ _ _ _ _ _ _ _ (below_caller _) hX hT _ _ _ _ PassesOwn.leaving D n0 n1 n2 n3 n4 n5 u0 u1 u2 u3 u4 u5 _ _ _ _ _ _ b0 b1 b2 b3 b4 (by assumption) (by assumption) ?_ F (news_sub N pmK) ?_
    · exact ltN lt.2.2.2.1
    · intro h9 tk9 m9 F9
      k_steps)

end Mine
theorem PySem.Challenge.cw_pe0009_01_holds : PySem.Challenge.rw_pe0009_01.Holds :=
  Mine.law0
