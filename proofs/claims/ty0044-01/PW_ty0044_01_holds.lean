import PyProof.Rows.All
import Wide.All
import OpenK.AllK
import Wide.FinOn
import PyProof.ListNew
import Lean
import PySem.Challenge.RW_ty0044_01
open PySem PySem.W PyProof.Rows
set_option Elab.async false
set_option compiler.extract_closed false
set_option maxRecDepth 100000
set_option maxHeartbeats 0
set_option linter.all false
noncomputable section
-- HD
namespace Mine
abbrev pr0 : Program := PySem.Challenge.rw_ty0044_01.row.prog
def vw : Program := { pr0 with main := { pr0.main with body := [0, 2, 3, 4, 5, 6, 8, 9, 10, 12, 13, 14, 15, 17, 18, 19, 20, 21, 22, 23, 24, 25, 26, 27].filterMap fun i => pr0.main.body[i]? } }
def lo0 : List Str := [Str.ofString "COMPILER_FLAG_NAMES", Str.ofString "_Accumulator"]
theorem said_ok : OpenLaw.wellSaid PySem.Challenge.rw_ty0044_01 = true := by
  rw [PySem.W.Fast.te9446332074065402090]
  kernel_rfl
local macro_rules | `(tactic| o_law) => `(tactic| refine holds_law Mine.said_ok fun said => ?_)
local macro_rules
  | `(tactic| o_head (kHook $K $as $e)) => do
    let hl := Lean.mkIdent `hl
    let hw := Lean.mkIdent `hw
    let hc := Lean.mkIdent `hc
    `(tactic| (refine holds_open (q := Mine.vw) (loose := Mine.lo0) (Xt := fun s => xlAt Mine.vw [] s && recOk (RowW.records PySem.Challenge.rw_ty0044_01.row.toRowW) s) (XP := XL Mine.vw []) (Yf := Hook.obs (kmHook $K $as $e [169, 176])) (Ya := Hook.val (kmHook $K $as $e [169, 176])) (YP := Hook.says (kmHook $K $as $e [169, 176])) (N := 3536) ?$hl (Hook.of _) (Hook.keeps _) (fun s e => xl_of s (Bool.and_eq_true_iff.mp e).1) XL.keeps (by rfl) (by rfl) (by rfl) (fun s e => recFacts_of (Bool.and_eq_true_iff.mp e).2) (by rfl) (by first | assumption | decide +kernel) (by decide +kernel) ⟨rfl, rfl, rfl, rfl, rfl, by decide +kernel⟩ ?$hw ?$hc; (case hl => exact LeftO.of_split "special-get-raises" (by intro w; unfold fencedOpening topFrom; simp only [PySem.W.Fast.te14082659384304107361, PySem.W.Fast.te10274390034422433532, PySem.W.Fast.te14289696077712309145, PySem.W.Fast.te4187177175401517315, PySem.W.Fast.te1435165496053646825, PySem.W.Fast.te5923862056798008813, PySem.W.Fast.te14364793385576792824]; kernel_rfl))))
open_top hd for PySem.Challenge.rw_ty0044_01
end Mine
-- TX
namespace Mine
def chr1 (c : Nat) : Str := ⟨#[c]⟩
def blk (p q c : Nat) : Str := ⟨(List.replicate p 32 ++ List.replicate q c).toArray⟩
theorem blk_len (p q c : Nat) : (blk p q c).length = p + q := by simp [blk, Str.length]
theorem chr1_len (c : Nat) : (chr1 c).length = 1 := rfl
theorem pick_range (l : List Nat) (a n : Nat) (h : a + n ≤ l.length) : ((List.range n).map fun k => a + k).filterMap (fun i => l[i]?) = (l.drop a).take n := by
  induction n generalizing a with
  | zero => simp
  | succ n ih =>
    rw [List.range_succ_eq_map]
    simp only [List.map_cons, List.map_map, List.filterMap_cons, Nat.add_zero]
    have h1 : a < l.length := by omega
    rw [List.getElem?_eq_getElem h1]
    have e : (List.map ((fun k => a + k) ∘ Nat.succ) (List.range n)) = (List.range n).map fun k => (a + 1) + k := by
      apply List.map_congr_left
      intro k _
      simp only [Function.comp]; omega
    rw [e, ih (a + 1) (by omega)]
    rw [List.drop_eq_getElem_cons h1]
    rfl
theorem idx_of (x : Str) (l u : Option Int) (a b : Nat) (hb : b ≤ x.length) (hab : a ≤ b)
    (e : Builtin.Str.strSliceIndices l u 1 x.length = (List.range (b - a)).map fun k => a + k) :
    Txt.slice x l u = ⟨((x.cps.toList.drop a).take (b - a)).toArray⟩ := by
  unfold Txt.slice
  rw [e]
  have hl : x.cps.toList.length = x.length := by simp [Str.length]
  have key := pick_range x.cps.toList a (b - a) (by rw [hl]; omega)
  have key' : ((List.range (b - a)).map fun k => a + k).filterMap (fun i => x.cps[i]?) = (x.cps.toList.drop a).take (b - a) := by
    rw [← key]; congr 1; funext i; simp
  split
  · rename_i hc
    simp only [List.length_map, List.length_range, Bool.and_eq_true, beq_iff_eq] at hc
    have hc2 := hc.2
    have ha : a = 0 := by omega
    have hb' : b = x.length := by omega
    subst ha
    rw [hb', ← hl, Nat.sub_zero, List.drop_zero, List.take_length]
  · rw [key']
theorem min_nat (a b : Nat) : ((min a b : Nat) : Int) = min (a : Int) (b : Int) := by
  rcases Nat.le_total a b with h | h
  · rw [Nat.min_eq_left h, Int.min_eq_left (Int.ofNat_le.mpr h)]
  · rw [Nat.min_eq_right h, Int.min_eq_right (Int.ofNat_le.mpr h)]
theorem up1 {a n : Nat} : (((a : Int)) + 1 * ((n : Nat) : Int)).toNat = a + n := by rw [Int.one_mul, ← Int.natCast_add, Int.toNat_natCast]
theorem div1 {a b : Nat} (h : a ≤ b) : ((b : Int) - (a : Int) + 1 - 1) / 1 = ((b - a : Nat) : Int) := by rw [Int.ediv_one, Int.add_sub_cancel, Int.ofNat_sub h]
/-- the indices of a slice from a to b -/
theorem range1 {a b : Nat} (h : a ≤ b) : sliceRange (a : Int) (b : Int) 1 = (List.range (b - a)).map fun k => a + k := by
  simp only [sliceRange, show (1 : Int) > 0 by decide, if_true]
  by_cases hl : (a : Int) < (b : Int)
  · rw [if_pos hl, div1 h, Int.toNat_natCast]
    exact List.map_congr_left fun k _ => up1
  · have e : b - a = 0 := Nat.sub_eq_zero_of_le (Int.ofNat_le.mp (Int.not_lt.mp hl))
    rw [if_neg hl, e]; rfl
theorem len_list (x : Str) : x.cps.toList.length = x.length := by simp [Str.length]
theorem slice_none (x : Str) : Txt.slice x none none = x := by
  have := idx_of x none none 0 x.length (Nat.le_refl _) (Nat.zero_le _) (by
    simp only [Builtin.Str.strSliceIndices, show (1 : Int) > 0 by decide, if_true]
    exact range1 (a := 0) (Nat.zero_le _))
  rw [this, ← len_list, Nat.sub_zero, List.drop_zero, List.take_length]
theorem slice_from (x : Str) (i : Int) (h0 : 0 ≤ i) : Txt.slice x (some i) none = ⟨(x.cps.toList.drop i.toNat).toArray⟩ := by
  obtain ⟨k, rfl⟩ := Int.eq_ofNat_of_zero_le h0
  have := idx_of x (some (k : Int)) none (min k x.length) x.length (Nat.le_refl _) (Nat.min_le_right _ _) (by
    simp only [Builtin.Str.strSliceIndices, show (1 : Int) > 0 by decide, if_true]
    have e0 : max 0 (min (k : Int) (x.length : Int)) = ((min k x.length : Nat) : Int) := by
      rw [← min_nat]; exact Int.max_eq_right (Int.natCast_nonneg _)
    rw [if_neg (Int.not_lt.mpr h0), e0]
    exact range1 (Nat.min_le_right _ _))
  rw [this, Int.toNat_natCast]
  congr 2
  rw [List.take_of_length_le (by rw [List.length_drop, len_list]; exact Nat.le_refl _)]
  by_cases h : k ≤ x.length
  · rw [Nat.min_eq_left h]
  · have h' := Nat.le_of_not_le h
    rw [Nat.min_eq_right h', List.drop_eq_nil_of_le (by rw [len_list]; exact Nat.le_refl _), List.drop_eq_nil_of_le (by rw [len_list]; exact h')]
theorem neg_nat {i : Int} (h0 : i < 0) : ∃ k : Nat, i = -(k : Int) ∧ 0 < k ∧ (-i).toNat = k := by
  refine ⟨(-i).toNat, ?_, ?_, rfl⟩
  · rw [Int.toNat_of_nonneg (Int.neg_nonneg_of_nonpos (Int.le_of_lt h0)), Int.neg_neg]
  · exact Int.lt_toNat.mpr (Int.neg_pos_of_neg h0)
theorem neg_up {k n : Nat} : max 0 (min (-(k : Int) + (n : Int)) (n : Int)) = ((n - k : Nat) : Int) := by
  rw [Int.min_eq_left (Int.add_le_of_le_sub_right (by rw [Int.sub_self]; exact Int.neg_nonpos_of_nonneg (Int.natCast_nonneg k)))]
  rcases Nat.le_total k n with h | h
  · rw [Int.ofNat_sub h, Int.add_comm, ← Int.sub_eq_add_neg]
    exact Int.max_eq_right (Int.sub_nonneg_of_le (Int.ofNat_le.mpr h))
  · rw [Nat.sub_eq_zero_of_le h]
    refine Int.max_eq_left ?_
    rw [Int.add_comm, ← Int.sub_eq_add_neg]
    exact Int.sub_nonpos_of_le (Int.ofNat_le.mpr h)
theorem slice_upto_neg (x : Str) (i : Int) (h0 : i < 0) : Txt.slice x none (some i) = ⟨(x.cps.toList.take (x.length - (-i).toNat)).toArray⟩ := by
  obtain ⟨k, rfl, -, e⟩ := neg_nat h0
  rw [e]
  have := idx_of x none (some (-(k : Int))) 0 (x.length - k) (Nat.sub_le _ _) (Nat.zero_le _) (by
    simp only [Builtin.Str.strSliceIndices, show (1 : Int) > 0 by decide, if_true]
    rw [if_pos h0, neg_up]
    exact range1 (a := 0) (Nat.zero_le _))
  rw [this]
  simp
theorem blk_from (p q c : Nat) (i : Int) (h0 : 0 ≤ i) : Txt.slice (blk p q c) (some i) none = blk (p - i.toNat) (q - (i.toNat - p)) c := by
  rw [slice_from _ _ h0]
  simp [blk, List.drop_append, List.drop_replicate]
theorem cut_len {p q k : Nat} : min (p + q - k) p = p - (k - q) ∧ min (p + q - k - p) q = q - k := by
  rcases Nat.le_total k q with h | h
  · rw [Nat.add_sub_assoc h, Nat.sub_eq_zero_of_le h, Nat.min_eq_right (Nat.le_add_right _ _), Nat.add_sub_cancel_left, Nat.min_eq_left (Nat.sub_le _ _)]
    exact ⟨rfl, rfl⟩
  · obtain ⟨d, rfl⟩ := Nat.exists_eq_add_of_le h
    rw [Nat.add_comm q d, Nat.add_sub_add_right, Nat.add_sub_cancel, Nat.min_eq_left (Nat.sub_le _ _), Nat.sub_eq_zero_of_le (Nat.sub_le _ _), Nat.zero_min, Nat.sub_eq_zero_of_le (Nat.le_add_left _ _)]
    exact ⟨rfl, rfl⟩
theorem blk_upto (p q c : Nat) (i : Int) (h0 : i < 0) (h1 : (-i).toNat ≤ p + q) : Txt.slice (blk p q c) none (some i) = blk (p - ((-i).toNat - q)) (q - (-i).toNat) c := by
  rw [slice_upto_neg _ _ h0, blk_len]
  simp only [blk, List.take_append, List.take_replicate, List.length_replicate, cut_len.1, cut_len.2]
theorem charAt_nat (x : Str) (i : Int) (h0 : 0 ≤ i) (h1 : i < x.length) : Txt.charAt x i = x.cps[i.toNat]? := by
  unfold Txt.charAt seqIndex?
  have h2 : ¬ i < 0 := by omega
  simp only [if_neg h2, h0, h1, decide_true, Bool.and_self, if_true, Option.bind_some]
theorem charAt_neg (x : Str) (i : Int) (h0 : i < 0) (h1 : (-i).toNat ≤ x.length) : Txt.charAt x i = x.cps[x.length - (-i).toNat]? := by
  unfold Txt.charAt seqIndex?
  obtain ⟨k, rfl, hk, e1⟩ := neg_nat h0
  rw [e1] at h1 ⊢
  have e : -(k : Int) + (x.length : Int) = ((x.length - k : Nat) : Int) := by rw [Int.ofNat_sub h1, Int.add_comm, ← Int.sub_eq_add_neg]
  have h2 : (0 : Int) ≤ ((x.length - k : Nat) : Int) := Int.natCast_nonneg _
  have h3 : ((x.length - k : Nat) : Int) < (x.length : Int) := Int.ofNat_lt.mpr (Nat.sub_lt (Nat.lt_of_lt_of_le hk h1) hk)
  simp only [if_pos h0, e, h2, h3, decide_true, Bool.and_self, if_true, Option.bind_some, Int.toNat_natCast]
theorem blk_at (p q c j : Nat) (h : j < p + q) : (blk p q c).cps[j]? = some (if j < p then 32 else c) := by
  have : (blk p q c).cps[j]? = (List.replicate p 32 ++ List.replicate q c)[j]? := by simp [blk]
  rw [this, List.getElem?_append, List.length_replicate]
  by_cases h1 : j < p
  · rw [if_pos h1, if_pos h1, List.getElem?_replicate, if_pos h1]
  · rw [if_neg h1, if_neg h1, List.getElem?_replicate, if_pos (by omega)]
theorem blk_item (p q c : Nat) (i : Int) (h0 : 0 ≤ i) (h1 : i < ((p + q : Nat) : Int)) : Txt.item (blk p q c) i = chr1 (if i.toNat < p then 32 else c) := by
  unfold Txt.item
  rw [charAt_nat _ _ h0 (by rw [blk_len]; exact h1), blk_at _ _ _ _ (by omega)]
  rfl
theorem blk_item_neg (p q c : Nat) (i : Int) (h0 : i < 0) (h1 : (-i).toNat ≤ p + q) : Txt.item (blk p q c) i = chr1 (if (-i).toNat ≤ q then c else 32) := by
  unfold Txt.item
  rw [charAt_neg _ _ h0 (by rw [blk_len]; exact h1), blk_len, blk_at _ _ _ _ (by omega)]
  by_cases h : (-i).toNat ≤ q
  · rw [if_pos h, if_neg (by omega)]; rfl
  · rw [if_neg h, if_pos (by omega)]; rfl
theorem ofList_inj {a b : List Nat} : ((⟨a.toArray⟩ : Str) = ⟨b.toArray⟩) ↔ a = b := by
  constructor
  · intro h
    have := congrArg (fun x : Str => x.cps.toList) h
    simpa using this
  · rintro rfl; rfl
theorem chr1_eq (a b : Nat) : (chr1 a == chr1 b) = (a == b) := by
  rw [Bool.eq_iff_iff, beq_iff_eq, beq_iff_eq]
  constructor
  · intro h
    have := (ofList_inj (a := [a]) (b := [b])).mp h
    simpa using this
  · rintro rfl; rfl
theorem blk_eq (p q p' q' c : Nat) (hc : c ≠ 32) : (blk p q c == blk p' q' c) = (decide (p = p') && decide (q = q')) := by
  rw [Bool.eq_iff_iff, beq_iff_eq, Bool.and_eq_true, decide_eq_true_eq, decide_eq_true_eq]
  constructor
  · intro h
    have h1 := ofList_inj.mp h
    have h2 := congrArg (List.count 32) h1
    have h3 := congrArg List.length h1
    simp only [List.count_append, List.count_replicate, List.length_append, List.length_replicate, beq_self_eq_true, if_true] at h2 h3
    have hc' : (c == 32) = false := by simpa using hc
    rw [hc'] at h2
    simp only [Bool.false_eq_true, if_false, Nat.add_zero] at h2
    omega
  · rintro ⟨rfl, rfl⟩; rfl
theorem foldl_rep (l : List Nat) (n : Nat) (acc : Array Nat) : List.foldl (fun (x1 x2 : Array Nat) => x1 ++ x2) acc (List.replicate n #[l.headD 0]) = acc ++ (List.replicate n (l.headD 0)).toArray := by
  induction n generalizing acc with
  | zero => simp
  | succ n ih => rw [List.replicate_succ, List.foldl_cons, ih, List.replicate_succ]; apply Array.toList_inj.mp; simp
theorem mul_chr1 (c : Nat) (n : Int) : Txt.mul (chr1 c) n = ⟨(List.replicate n.toNat c).toArray⟩ := by
  unfold Txt.mul
  by_cases h : n < 1
  · rw [if_pos h]
    have : n.toNat = 0 := by omega
    rw [this]; rfl
  · rw [if_neg h]
    split
    · rename_i h1
      have h1' : n = 1 := by
        simp only [chr1_len, Bool.or_eq_true, beq_iff_eq] at h1
        rcases h1 with h1 | h1
        · exact h1
        · exact absurd h1 (by decide)
      subst h1'; rfl
    · have := foldl_rep [c] n.toNat #[]
      simp only [List.headD_cons] at this
      show (⟨List.foldl (fun x1 x2 => x1 ++ x2) #[] (List.replicate n.toNat #[c])⟩ : Str) = _
      rw [this]; simp
theorem mul_blank (c : Nat) (n : Int) : Txt.mul (chr1 32) n = blk n.toNat 0 c := by
  rw [mul_chr1]; simp [blk]
theorem mul_sign (c : Nat) (n : Int) : Txt.mul (chr1 c) n = blk 0 n.toNat c := by
  rw [mul_chr1]; simp [blk]
theorem blk_append (p q c : Nat) : blk p 0 c ++ blk 0 q c = blk p q c := by
  show Str.append _ _ = _
  simp [Str.append, blk]
theorem blank_is : Str.ofString " " = chr1 32 := by decide +kernel
end Mine
-- CT
theorem Mine.top_offCT : True := by
  w_top off
  exact trivial
namespace Mine
noncomputable abbrev PG : Program := PySem.Challenge.rw_ty0044_01.row.prog
/-- a call out of a def's frame: what stands stays, the answer and the new objects are as told -/
def Ct (w : World) (k : Nat) (f : Addr) (vs : List Value) (news : List (Addr × Obj)) (post : Value → List (Addr × Obj) → Prop) : Prop :=
  ∀ (p₉ : Program) (lo₉ : List Str) (mean : ExcName → Option Value) (mg mb : Str → Option Value) (dp un : Nat) (gd : Option (List Code)) (cn : Str) (cs : Scope) (a : Addr) (ccd : Value) (cl : List (Str × Addr)) (outer : List Env) (A₀ : Around) (base h₀ : Heap) (L : Addr) (m : Str → Option Value) (hp9 : Heap) (gs9 : Array GenState) (dr9 : Drawn) (tk9 : Nat) (os9 : OsState) (Q E : Value → Shared → Prop),
    Below A₀ base outer h₀ → Fr h₀ L hp9 m → (hd.heap_1 w.params).In h₀ → News h₀ L hp9 news → Top p₉ lo₉ mean mg mb h₀ → cs.kind = .function → dp + k < recursionLimit → un + 10 * k < cLine →
    (∀ r tl h' tk', Fr h₀ L h' m → News h₀ L h' (tl ++ news) → post r tl → Q r ⟨h', gs9, dr9, tk', os9⟩) →
    wpAny (model PG w) (ktrTop dp un gd cn cs L a ccd cl outer) (call (.ref f) vs) Q E ⟨hp9, gs9, dr9, tk9, os9⟩
/-- the frame's surroundings get a name -/
theorem set_e {M : Model} {A : Around} {e : Env} {b : List Stmt} {Q : Flow → Shared → Prop} {E : Value → Shared → Prop} {s : Shared}
    (k : let e9 := e; let A9 := A.deeper e9; wpAny M A9 (execs b e9) Q E s) : wpAny M (A.deeper e) (execs b e) Q E s := k
theorem abs_nat (x : Int) : (if x < 0 then -x else x) = (x.natAbs : Int) := by split <;> omega
def hexn (x y : Int) : Int := max (max (x.natAbs : Int) (y.natAbs : Int)) ((x + y).natAbs : Int)
section
variable {prog : Program} {w : World} {A : Around} {E : Value → Shared → Prop} {s : Shared} {h₀ : Heap} {L : Addr} {m : Str → Option Value} {news : List (Addr × Obj)}
theorem max3_N {a b c : Int} {t u x : Tok} {Q : Value → Shared → Prop} (hh : A.handled = none) (F : Fr h₀ L s.heap m) (N : News h₀ L s.heap news)
    (h : ∀ h' tk t', Fr h₀ L h' m → News h₀ L h' news → Q (.int (max (max a b) c) t') { s with heap := h', toks := tk }) :
    wpAny (model prog w) A (call (.builtin "max") [.int a t, .int b u, .int c x]) Q E s :=
  max_three_ints hh fun h' tk hk => by
    have := fun t' => h h' tk t' (F.grownK hk) (N.grown hk)
    by_cases h1 : b > a
    · by_cases h2 : c > b
      · rw [if_pos h1, if_pos h2]; have e : max (max a b) c = c := by omega
        rw [e] at this; exact this _
      · rw [if_pos h1, if_neg h2]; have e : max (max a b) c = b := by omega
        rw [e] at this; exact this _
    · by_cases h2 : c > a
      · rw [if_neg h1, if_pos h2]; have e : max (max a b) c = c := by omega
        rw [e] at this; exact this _
      · rw [if_neg h1, if_neg h2]; have e : max (max a b) c = a := by omega
        rw [e] at this; exact this _
end
theorem steps_ct {w : World} (x y : Int) (tx ty : Tok) (news : List (Addr × Obj)) :
    Ct w 2 240 [.int x tx, .int y ty] news (fun r tl => tl = [] ∧ ∃ t, r = .int (hexn x y) t) := by
  unfold Ct
  intro p₉ lo₉ mean mg mb dp un gd cn cs a ccd cl outer A₀ base h₀ L m hp9 gs9 dr9 tk9 os9 Q E B F X N T hk hd hu hret
  refine wpAny_call ?_
  k_dflt cell_enter
  refine set_e ?_
  intro e9 A9
  have qd9 : A9.depth = dp + 1 := rfl
  have qu9 : A9.units = un + 3 := rfl
  repeat' (first | (((with_reducible show wpAny _ _ (call (Value.builtin _) [Value.int _ _, Value.int _ _, Value.int _ _]) _ _ _); (with_unfolding_all (with_reducible refine' max3_N ?k1 ?k2 ?k3 ?_)); (case k1 => with_unfolding_all rfl); (case k2 => k_asm); (case k3 => k_asm); intro h' tk' t' F' N')) | (k_unfold; (try dsimp only)) | (k_end; wrow_close) | walk1 | (dsimp only; walk1) | (leave1; try dsimp only))
  refine hret _ [] _ _ (by k_asm) (by k_asm) ⟨rfl, ktn_int ?_⟩
  unfold hexn
  rw [abs_nat, abs_nat, abs_nat]
end Mine
-- CO
namespace Mine
section
variable (M : Model) (A : Around) (e : Env)
/-- what follows a part, as a word: a proof's text stays short -/
def seqQ (b : List Stmt) (Q : Flow → Shared → Prop) (E : Value → Shared → Prop) (f : Flow) (s : Shared) : Prop :=
  match f with
  | .next => wpAny M A (execs b e) Q E s
  | f => Q f s
def binR (op : Operator) (l : Value) (Q E : Value → Shared → Prop) (r : Value) (s : Shared) : Prop := wpAny M A (binaryOp op l r) Q E s
def binQ (op : Operator) (r : PySem.Expr) (Q E : Value → Shared → Prop) (l : Value) (s : Shared) : Prop := wpAny M A (eval r e) (binR M A op l Q E) E s
def cmpR (op : CmpOp) (l : Value) (Q E : Value → Shared → Prop) (r : Value) (s : Shared) : Prop := wpAny M A (compareOp op l r) Q E s
def cmpQ (op : CmpOp) (r : PySem.Expr) (Q E : Value → Shared → Prop) (l : Value) (s : Shared) : Prop := wpAny M A (eval r e) (cmpR M A op l Q E) E s
def subR (v c : PySem.Expr) (o : Value) (Q E : Value → Shared → Prop) (i : Value) (s : Shared) : Prop := wpAny M A (subscriptTail v c o i) Q E s
def subQ (v c : PySem.Expr) (Q E : Value → Shared → Prop) (o : Value) (s : Shared) : Prop := wpAny M A (eval c e) (subR M A v c o Q E) E s
def trQ (Q : Bool → Shared → Prop) (E : Value → Shared → Prop) (v : Value) (s : Shared) : Prop := wpAny M A (truthy v) Q E s
def ifQ (b o : List Stmt) (Q : Flow → Shared → Prop) (E : Value → Shared → Prop) (c : Bool) (s : Shared) : Prop := if c = true then wpAny M A (execs b e) Q E s else wpAny M A (execs o e) Q E s
def asgQ (x : Str) (Q : Flow → Shared → Prop) (E : Value → Shared → Prop) (v : Value) (s : Shared) : Prop := wpAny M A (storeName e x v) (fun _ => Q .next) E s
def augR (x : Str) (op : Operator) (old : Value) (Q : Flow → Shared → Prop) (E : Value → Shared → Prop) (v : Value) (s : Shared) : Prop := wpAny M A (inplaceOp op old v) (asgQ M A e x Q E) E s
def augQ (x : Str) (op : Operator) (r : PySem.Expr) (Q : Flow → Shared → Prop) (E : Value → Shared → Prop) (old : Value) (s : Shared) : Prop := wpAny M A (eval r e) (augR M A e x op old Q E) E s
def locB (x : Str) : Bool := e.scope.kind == .function && e.kindOf x == some .local && !(x == ("__debug__" : Str))
end
section
variable {M : Model} {A : Around} {e : Env} {E : Value → Shared → Prop} {s : Shared} {g h : Heap} {L : Addr} {m : Str → Option Value} {gs : Array GenState} {dr : Drawn} {tk : Nat} {os : OsState} {pos px : Pos} {x : Str} {v l r : Value} {el er : PySem.Expr} {nx : List (Addr × Obj)}
theorem locB_kind (hb : locB e x = true) : e.scope.kind = .function ∧ e.kindOf x = some .local ∧ (x == ("__debug__" : Str)) = false := by
  unfold locB at hb
  simp only [Bool.and_eq_true, Bool.not_eq_true', beq_iff_eq] at hb
  exact ⟨hb.1.1, hb.1.2, hb.2⟩
section
variable {st : Stmt} {b o : List Stmt} {Q : Flow → Shared → Prop}
theorem Jr (F : Fr g L h m)
    (k : let m9 := m; Fr g L h m9 → let E9 := E; let Q9 := seqQ M A e b Q E9; ∀ tk9 : Nat, wpAny M A (exec st e) Q9 E9 ⟨h, gs, dr, tk9, os⟩) : wpAny M A (execs (st :: b) e) Q E ⟨h, gs, dr, tk, os⟩ :=
  wpAny_execs_cons (wpAny_mono (k F tk) (fun f s hq => by cases f <;> exact hq) fun _ _ x => x)
theorem Jc (k : wpAny M A (execs b e) Q E s) : seqQ M A e b Q E .next s := k
theorem Ja (k : Q .next s) : seqQ M A e [] Q E .next s := wpAny_execs_nil k
theorem Jb (k : Q (.ret v) s) : seqQ M A e b Q E (.ret v) s := k
theorem Jd (k : Q .brk s) : seqQ M A e b Q E .brk s := k
theorem Je (k : Q .cont s) : seqQ M A e b Q E .cont s := k
theorem if_ {t : PySem.Expr} (k : wpAny M A (isTrue t e (eval t e)) (ifQ M A e b o Q E) E s) : wpAny M A (exec (.If t b o pos) e) Q E s := wpAny_If k
theorem Jl (k : wpAny M A (execs b e) Q E s) : ifQ M A e b o Q E true s := k
theorem Jm (k : wpAny M A (execs o e) Q E s) : ifQ M A e b o Q E false s := k
theorem Jn {c : Bool} (k : if c = true then wpAny M A (execs b e) Q E s else wpAny M A (execs o e) Q E s) : ifQ M A e b o Q E c s := k
theorem asg_ (k : wpAny M A (eval er e) (asgQ M A e x Q E) E s) (hs : swapsWith er (some (.Name x px)) pos.line e = pure false := by with_unfolding_all rfl) : wpAny M A (exec (.Assign [.Name x px] er pos) e) Q E s := wpAny_Assign_Name k hs
theorem Jt (k : wpAny M A (storeName e x v) (fun _ => Q .next) E s) : asgQ M A e x Q E v s := k
theorem Js (F : Fr g L h m) (N : News g L h nx) (hL : e.locals = L) (hb : locB e x = true)
    (k : ∀ h', Fr g L h' (fun y => if y = x then some v else m y) → News g L h' nx → Q .next ⟨h', gs, dr, tk + 1, os⟩) : asgQ M A e x Q E v ⟨h, gs, dr, tk, os⟩ := by
  subst hL
  have H := locB_kind hb
  exact wpAny_storeName_local H.2.1 F.ns (fun h' hn hs => k h' (F.set hn hs) (N.set hs)) (by rw [H.1]; rfl)
theorem aug_ {op : Operator} (F : Fr g L s.heap m) (hv : m x = some v) (hL : e.locals = L) (hb : locB e x = true) (k : wpAny M A (eval er e) (augR M A e x op v Q E) E s) : wpAny M A (exec (.AugAssign (.Name x px) op er pos) e) Q E s := by
  subst hL
  have H := locB_kind hb
  exact wpAny_AugAssign_Name (wpAny_loadName_local H.1 H.2.1 F.ns hv k)
theorem Jq {op : Operator} (k : wpAny M A (inplaceOp op l v) (asgQ M A e x Q E) E s) : augR M A e x op l Q E v s := k
end
section
variable {Q : Value → Shared → Prop}
theorem ld_ (F : Fr g L s.heap m) (hv : m x = some v) (hL : e.locals = L) (hb : locB e x = true) (k : Q v s) : wpAny M A (eval (.Name x pos) e) Q E s := by
  subst hL
  have H := locB_kind hb
  exact wpAny_Name (wpAny_loadName_local H.1 H.2.1 F.ns hv k) H.2.2
theorem ci_ {i : Int} {n : Nat} (k : Q (.int i tk) ⟨h, gs, dr, tk + 1, os⟩) : wpAny M A (eval (.Constant (.int i) n pos) e) Q E ⟨h, gs, dr, tk, os⟩ := wpAny_Constant_int k
theorem cs_ {i : Str} {n : Nat} (k : Q (.str i tk) ⟨h, gs, dr, tk + 1, os⟩) : wpAny M A (eval (.Constant (.str i) n pos) e) Q E ⟨h, gs, dr, tk, os⟩ := Calls.Constant_str k
theorem bin_ {op : Operator} (k : wpAny M A (eval el e) (binQ M A e op er Q E) E s) : wpAny M A (eval (.BinOp el op er pos) e) Q E s := wpAny_BinOp k
theorem Jf {op : Operator} (k : wpAny M A (eval er e) (binR M A op l Q E) E s) : binQ M A e op er Q E l s := k
theorem Jg {op : Operator} (k : wpAny M A (binaryOp op l r) Q E s) : binR M A op l Q E r s := k
theorem Jh {op : CmpOp} (k : wpAny M A (eval er e) (cmpR M A op l Q E) E s) : cmpQ M A e op er Q E l s := k
theorem Ji {op : CmpOp} (k : wpAny M A (compareOp op l r) Q E s) : cmpR M A op l Q E r s := k
theorem sub_ (k : wpAny M A (eval el e) (subQ M A e el er Q E) E s) : wpAny M A (eval (.Subscript el er pos) e) Q E s := Subscript_ k
theorem Jo (k : wpAny M A (eval er e) (subR M A el er l Q E) E s) : subQ M A e el er Q E l s := k
theorem Jp (k : wpAny M A (subscriptTail el er l r) Q E s) : subR M A el er l Q E r s := k
end
section
variable {Q : Bool → Shared → Prop}
theorem cmp_ {op : CmpOp} {whole : Sem Value} (k : wpAny M A (eval el e) (cmpQ M A e op er (trQ M A Q E) E) E s) (hm : behindInMarks op er = false := by with_unfolding_all rfl) : wpAny M A (isTrue (.Compare el [op] [er] pos) e whole) Q E s := wpAny_isTrue_Compare1 k hm
theorem Jj {c : Bool} (k : Q c s) : trQ M A Q E (.bool c) s := wpAny_truthy_bool k
theorem Jk (k : wpAny M A (truthy v) Q E s) : trQ M A Q E v s := k
theorem pl_ {t : PySem.Expr} {whole : Sem Value} (k : wpAny M A whole (trQ M A Q E) E s) (he : isTrue t e whole = (do let v ← whole; standAt t.pos; holding [v] (truthy v)) := by with_unfolding_all rfl) : wpAny M A (isTrue t e whole) Q E s := isTrue_plain k he
end
end
end Mine
-- RU
namespace Mine
/-- a frame's map with one name bound anew -/
abbrev bnd (m : Str → Option Value) (x : Str) (v : Value) : Str → Option Value := fun y => if y = x then some v else m y
theorem bnd_bnd (m : Str → Option Value) (x : Str) (u v : Value) : bnd (bnd m x u) x v = bnd m x v := by
  funext y
  by_cases h : y = x
  · simp only [bnd, if_pos h]
  · simp only [bnd, if_neg h]
theorem bnd_swap (m : Str → Option Value) (x y : Str) (u v : Value) (h : x ≠ y) : bnd (bnd m x u) y v = bnd (bnd m y v) x u := by
  funext z
  by_cases h1 : z = x
  · subst h1; simp only [bnd, if_neg h, if_true]
  · by_cases h2 : z = y
    · subst h2; simp only [bnd, if_true, if_neg h1]
    · simp only [bnd, if_neg h1, if_neg h2]
/-- a frame's map out of a list, over what else may stand -/
noncomputable def bndU (u : Str → Option Value) : List (Str × Value) → Str → Option Value
  | [] => u
  | (k, v) :: r => bnd (bndU u r) k v
noncomputable abbrev bndL : List (Str × Value) → Str → Option Value := bndU fun _ => none
noncomputable def setL (x : Str) (v : Value) : List (Str × Value) → List (Str × Value)
  | [] => [(x, v)]
  | (k, u) :: r => if k = x then (x, v) :: r else (k, u) :: setL x v r
theorem bndL_lookup : ∀ l : List (Str × Value), (fun y => List.lookup y l) = bndL l
  | [] => rfl
  | (k, v) :: r => by
    funext y
    have ih := congrFun (bndL_lookup r) y
    simp only [bndU, bnd, List.lookup_cons]
    by_cases h : y = k
    · subst h; simp
    · have : (y == k) = false := by simpa using h
      rw [this, if_neg h]
      exact ih
theorem bndU_set (m : Str → Option Value) (x : Str) (v : Value) : ∀ l : List (Str × Value), bnd (bndU m l) x v = bndU m (setL x v l)
  | [] => rfl
  | (k, u) :: r => by
    unfold setL
    by_cases h : k = x
    · rw [if_pos h]
      show bnd (bnd (bndU m r) k u) x v = bnd (bndU m r) x v
      rw [h, bnd_bnd]
    · rw [if_neg h]
      show bnd (bnd (bndU m r) k u) x v = bnd (bndU m (setL x v r)) k u
      rw [← bndU_set m x v r, bnd_swap _ _ _ _ _ h]
theorem bndU_app (m : Str → Option Value) (l' : List (Str × Value)) : ∀ l : List (Str × Value), bndU m (l ++ l') = bndU (bndU m l') l
  | [] => rfl
  | (k, u) :: r => by
    show bnd (bndU m (r ++ l')) k u = bnd (bndU (bndU m l') r) k u
    rw [bndU_app m l' r]
theorem fr_clean {g h : Heap} {L : Addr} {l : List (Str × Value)} (F : Fr g L h (fun y => List.lookup y l)) : Fr g L h (bndL l) := by
  rw [bndL_lookup] at F; exact F
theorem fr_set {g h : Heap} {L : Addr} {u : Str → Option Value} {l : List (Str × Value)} {x : Str} {v : Value} (F : Fr g L h (fun y => if y = x then some v else bndU u l y)) : Fr g L h (bndU u (setL x v l)) := by
  rw [← bndU_set]; exact F
/-- the first n of the names stay, the others are forgotten -/
theorem fr_keep {g h : Heap} {L : Addr} {u : Str → Option Value} {l : List (Str × Value)} (n : Nat) (F : Fr g L h (bndU u l)) : Fr g L h (bndU (bndU u (l.drop n)) (l.take n)) := by
  rw [← bndU_app, List.take_append_drop]; exact F
/-- what stands behind a loop -/
def Ends (h₀ : Heap) (L : Addr) (s : Shared) (P : (Str → Option Value) → List (Addr × Obj) → Prop) (s₂ : Shared) : Prop :=
  ∃ h' tk m' nx, s₂ = { s with heap := h', toks := tk } ∧ Fr h₀ L h' m' ∧ News h₀ L h' nx ∧ P m' nx
section
variable {prog : Program} {w : World} {A : Around} {E : Value → Shared → Prop} {Q : Flow → Shared → Prop} {s : Shared} {env : Env} {h₀ : Heap} {L : Addr}
theorem While_inv3 {test : Expr} {body : List Stmt} {pos : Pos} {m : Str → Option Value} {news : List (Addr × Obj)} (J : Nat → (Str → Option Value) → List (Addr × Obj) → Prop) (n₀ : Nat) (P : (Str → Option Value) → List (Addr × Obj) → Prop)
    (F : Fr h₀ L s.heap m) (N : News h₀ L s.heap news) (hJ : J n₀ m news)
    (turn : ∀ n m₁ news₁ h₁ tk₁, Fr h₀ L h₁ m₁ → News h₀ L h₁ news₁ → J n m₁ news₁ →
      wpAny (model prog w) A (isTrue test env (eval test env)) (fun b s₂ =>
        if b = true then wpAny (model prog w) A (execs body env) (WhileStep2 h₀ L s J Q n) E s₂ else Ends h₀ L s P s₂) E { s with heap := h₁, toks := tk₁ })
    (done : ∀ h₁ tk₁ m₁ nx, Fr h₀ L h₁ m₁ → News h₀ L h₁ nx → P m₁ nx → Q .next { s with heap := h₁, toks := tk₁ })
    (hE : PassesOwn (model prog w) A env E := by passes_own) :
    wpAny (model prog w) A (exec (.While test body [] pos) env) Q E s := by
  refine While_inv2 J (n₀ := n₀) F N hJ (fun n m₁ news₁ h₁ tk₁ F₁ N₁ J₁ => wpAny_mono (turn n m₁ news₁ h₁ tk₁ F₁ N₁ J₁) (fun b s₂ h₂ => ?_) fun _ _ x => x) hE
  cases b with
  | true => simpa using h₂
  | false =>
    simp only [Bool.false_eq_true, if_false] at h₂ ⊢
    obtain ⟨h', tk, m', nx, rfl, F', N', p⟩ := h₂
    exact done h' tk m' nx F' N' p
theorem ws_next {gs : Array GenState} {dr : Drawn} {os : OsState} {h₁ h' : Heap} {t₁ tk n n' : Nat} {m₂ : Str → Option Value} {nx : List (Addr × Obj)} {J : Nat → (Str → Option Value) → List (Addr × Obj) → Prop} (F : Fr h₀ L h' m₂) (N : News h₀ L h' nx) (hn : n' < n) (hJ : J n' m₂ nx) :
    WhileStep2 h₀ L ⟨h₁, gs, dr, t₁, os⟩ J Q n .next ⟨h', gs, dr, tk, os⟩ := ⟨h', tk, m₂, nx, n', rfl, F, N, hn, hJ⟩
theorem ws_end {gs : Array GenState} {dr : Drawn} {os : OsState} {h₁ h' : Heap} {t₁ tk : Nat} {m₂ : Str → Option Value} {nx : List (Addr × Obj)} {P : (Str → Option Value) → List (Addr × Obj) → Prop} (F : Fr h₀ L h' m₂) (N : News h₀ L h' nx) (hP : P m₂ nx) :
    Ends h₀ L ⟨h₁, gs, dr, t₁, os⟩ P ⟨h', gs, dr, tk, os⟩ := ⟨h', tk, m₂, nx, rfl, F, N, hP⟩
end
section
variable {prog : Program} {w : World} {A : Around} {E : Value → Shared → Prop} {s : Shared} {value slice : Expr} {p q c : Nat} {t : Tok} {h₀ : Heap} {L : Addr} {m : Str → Option Value} {news : List (Addr × Obj)} {Q : Value → Shared → Prop}
theorem small_line {n : Nat} (h : n ≤ 4000) : n ≤ sizeLine := by unfold sizeLine; omega
theorem slice_blk_sn {i : Int} {ui : Tok} (hF : Fr h₀ L s.heap m) (hN : News h₀ L s.heap news) (h0 : 0 ≤ i) (hz : p + q ≤ 4000)
    (h : ∀ h' t' k, Fr h₀ L h' m → News h₀ L h' news → Q (.str (blk (p - i.toNat) (q - (i.toNat - p)) c) t') { s with heap := h', toks := k })
    (hs : subscripted slice false (.str (blk p q c) t) (.ref s.heap.objs.size) = operate [.ref s.heap.objs.size, .str (blk p q c) t] (getItem (.str (blk p q c) t) (.ref s.heap.objs.size)) := by with_unfolding_all rfl)
    (ht : ∀ r, letTemporaryGo value (.str (blk p q c) t) r = pure () := by intro _; with_unfolding_all rfl) :
    wpAny (model prog w) A (subscriptTail value slice (.str (blk p q c) t) (.ref s.heap.objs.size)) Q E { s with heap := s.heap.push { cls := .type "slice", data := .fields #[.int i ui, .none, .none] } } :=
  slice_strN_sn hF hN (fun h' t' k F N => by rw [blk_from _ _ _ _ h0]; exact h h' t' k F N) hs ht (by rw [blk_len]; exact small_line hz)
theorem slice_blk_ns {i : Int} {ui : Tok} (hF : Fr h₀ L s.heap m) (hN : News h₀ L s.heap news) (h0 : i < 0) (h1 : (-i).toNat ≤ p + q) (hz : p + q ≤ 4000)
    (h : ∀ h' t' k, Fr h₀ L h' m → News h₀ L h' news → Q (.str (blk (p - ((-i).toNat - q)) (q - (-i).toNat) c) t') { s with heap := h', toks := k })
    (hs : subscripted slice false (.str (blk p q c) t) (.ref s.heap.objs.size) = operate [.ref s.heap.objs.size, .str (blk p q c) t] (getItem (.str (blk p q c) t) (.ref s.heap.objs.size)) := by with_unfolding_all rfl)
    (ht : ∀ r, letTemporaryGo value (.str (blk p q c) t) r = pure () := by intro _; with_unfolding_all rfl) :
    wpAny (model prog w) A (subscriptTail value slice (.str (blk p q c) t) (.ref s.heap.objs.size)) Q E { s with heap := s.heap.push { cls := .type "slice", data := .fields #[.none, .int i ui, .none] } } :=
  slice_strN_ns hF hN (fun h' t' k F N => by rw [blk_upto _ _ _ _ h0 h1]; exact h h' t' k F N) hs ht (by rw [blk_len]; exact small_line hz)
theorem slice_blk_nn (hF : Fr h₀ L s.heap m) (hN : News h₀ L s.heap news) (hz : p + q ≤ 4000)
    (h : ∀ h' t' k, Fr h₀ L h' m → News h₀ L h' news → Q (.str (blk p q c) t') { s with heap := h', toks := k })
    (hs : subscripted slice false (.str (blk p q c) t) (.ref s.heap.objs.size) = operate [.ref s.heap.objs.size, .str (blk p q c) t] (getItem (.str (blk p q c) t) (.ref s.heap.objs.size)) := by with_unfolding_all rfl)
    (ht : ∀ r, letTemporaryGo value (.str (blk p q c) t) r = pure () := by intro _; with_unfolding_all rfl) :
    wpAny (model prog w) A (subscriptTail value slice (.str (blk p q c) t) (.ref s.heap.objs.size)) Q E { s with heap := s.heap.push { cls := .type "slice", data := .fields #[.none, .none, .none] } } :=
  slice_strN_nn hF hN (fun h' t' k F N => by rw [slice_none]; exact h h' t' k F N) hs ht (by rw [blk_len]; exact small_line hz)
theorem item_blk {i : Int} {u : Tok} (h0 : 0 ≤ i) (h1 : i < ((p + q : Nat) : Int)) (hz : p + q ≤ 4000)
    (h : Q (.str (chr1 (if i.toNat < p then 32 else c)) s.toks) { s with toks := s.toks + 1 })
    (hs : subscripted slice false (.str (blk p q c) t) (.int i u) = operate [.str (blk p q c) t, .int i u] (getItem (.str (blk p q c) t) (.int i u)) := by with_unfolding_all rfl)
    (ht : ∀ r, letTemporaryGo value (.str (blk p q c) t) r = pure () := by intro _; with_unfolding_all rfl) :
    wpAny (model prog w) A (subscriptTail value slice (.str (blk p q c) t) (.int i u)) Q E s :=
  item_str (fitsSsize_of (N := 9223372036854775808) (by omega) (by omega) (Int.le_refl _)) (by rw [blk_len]; omega) (by rw [blk_len]; omega) (fun _ => by rw [blk_item _ _ _ _ h0 h1]; exact h) hs ht
theorem item_blk_neg {i : Int} {u : Tok} (h0 : i < 0) (h1 : (-i).toNat ≤ p + q) (hz : p + q ≤ 4000)
    (h : Q (.str (chr1 (if (-i).toNat ≤ q then c else 32)) s.toks) { s with toks := s.toks + 1 })
    (hs : subscripted slice false (.str (blk p q c) t) (.int i u) = operate [.str (blk p q c) t, .int i u] (getItem (.str (blk p q c) t) (.int i u)) := by with_unfolding_all rfl)
    (ht : ∀ r, letTemporaryGo value (.str (blk p q c) t) r = pure () := by intro _; with_unfolding_all rfl) :
    wpAny (model prog w) A (subscriptTail value slice (.str (blk p q c) t) (.int i u)) Q E s :=
  item_str (fitsSsize_of (N := 9223372036854775808) (by omega) (by omega) (Int.le_refl _)) (by rw [blk_len]; omega) (by rw [blk_len]; omega) (fun _ => by rw [blk_item_neg _ _ _ _ h0 h1]; exact h) hs ht
theorem truthy_blk {Q : Bool → Shared → Prop} (hz : p + q ≤ 4000) (h : Q (decide (0 < p + q)) { s with toks := s.toks + 1 + 1 }) : wpAny (model prog w) A (truthy (.str (blk p q c) t)) Q E s :=
  P.truthy_str (by rw [blk_len]; omega) (by
    have e : (((blk p q c).length : Int) != 0) = decide (0 < p + q) := by
      rw [blk_len, Bool.eq_iff_iff, bne_iff_ne, decide_eq_true_eq]; omega
    rw [e]; exact h)
end
end Mine
namespace Mine
section
variable {prog : Program} {w : World} {A : Around} {E : Value → Shared → Prop} {Q : Flow → Shared → Prop} {s : Shared} {env : Env} {h₀ : Heap} {L : Addr}
/-- a statement that goes on, cut by what holds behind it -/
theorem exec_cut {st : Stmt} {m₀ : Str → Option Value} (_F : Fr h₀ L s.heap m₀) (P : (Str → Option Value) → List (Addr × Obj) → Prop) (h1 : wpAny (model prog w) A (exec st env) (fun f s₂ => f = .next ∧ Ends h₀ L s P s₂) E s)
    (h2 : ∀ h₁ tk₁ m₁ nx, Fr h₀ L h₁ m₁ → News h₀ L h₁ nx → P m₁ nx → Q .next { s with heap := h₁, toks := tk₁ }) : wpAny (model prog w) A (exec st env) Q E s :=
  wpAny_mono h1 (fun f s₂ h => by
    obtain ⟨rfl, h', tk, m', nx, rfl, F', N', p⟩ := h
    exact h2 h' tk m' nx F' N' p) fun _ _ x => x
end
end Mine
namespace Mine
theorem fr_set2 {g h : Heap} {L : Addr} {u : Str → Option Value} {l : List (Str × Value)} {x1 x2 : Str} {v1 v2 : Value} (F : Fr g L h (fun y => if y = x2 then some v2 else if y = x1 then some v1 else bndU u l y)) : Fr g L h (bndU u (setL x2 v2 (setL x1 v1 l))) := by
  have e : (fun y => if y = x1 then some v1 else bndU u l y) = bndU u (setL x1 v1 l) := bndU_set u x1 v1 l
  refine fr_set (l := setL x1 v1 l) ?_
  rw [← e]
  exact F
theorem fr_set3 {g h : Heap} {L : Addr} {u : Str → Option Value} {l : List (Str × Value)} {x1 x2 x3 : Str} {v1 v2 v3 : Value} (F : Fr g L h (fun y => if y = x3 then some v3 else if y = x2 then some v2 else if y = x1 then some v1 else bndU u l y)) : Fr g L h (bndU u (setL x3 v3 (setL x2 v2 (setL x1 v1 l)))) := by
  have e : (fun y => if y = x1 then some v1 else bndU u l y) = bndU u (setL x1 v1 l) := bndU_set u x1 v1 l
  refine fr_set2 (l := setL x1 v1 l) ?_
  rw [← e]
  exact F
end Mine
namespace Mine
section
variable {prog : Program} {w : World} {A : Around} {E : Value → Shared → Prop} {s : Shared} {i : Int} {t : Tok} {Q : Bool → Shared → Prop}
theorem truthy_int_T (h0 : i ≠ 0) (h : Q true s) : wpAny (model prog w) A (truthy (.int i t)) Q E s :=
  PyProof.Rows.truthy_int (by rw [show (i != 0) = true by simpa using h0]; exact h)
theorem truthy_int_F (h0 : i = 0) (h : Q false s) : wpAny (model prog w) A (truthy (.int i t)) Q E s :=
  PyProof.Rows.truthy_int (by rw [show (i != 0) = false by simpa using h0]; exact h)
theorem truthy_blk_T {p q c : Nat} {t : Tok} (hz : p + q ≤ 4000) (h0 : 0 < p + q) (h : Q true { s with toks := s.toks + 1 + 1 }) : wpAny (model prog w) A (truthy (.str (blk p q c) t)) Q E s :=
  truthy_blk hz (by rw [show decide (0 < p + q) = true by simpa using h0]; exact h)
theorem truthy_blk_F {p q c : Nat} {t : Tok} (h0 : p + q = 0) (h : Q false { s with toks := s.toks + 1 + 1 }) : wpAny (model prog w) A (truthy (.str (blk p q c) t)) Q E s :=
  truthy_blk (by omega) (by rw [show decide (0 < p + q) = false by simp; omega]; exact h)
end
end Mine
namespace Mine
section
variable {prog : Program} {w : World} {A : Around} {E : Value → Shared → Prop} {s : Shared} {p q c : Nat} {t : Tok} {Q : Value → Shared → Prop}
theorem len_blk (hz : p + q ≤ 4000) (h : Q (.int ((p + q : Nat) : Int) (s.toks + 1)) { s with toks := s.toks + 1 + 1 }) : wpAny (model prog w) A (call (.builtin "len") [.str (blk p q c) t]) Q E s :=
  P.len_str (by rw [blk_len]; omega) (by rw [blk_len]; exact h)
end
theorem blk_blank (p c : Nat) : blk p 0 c = blk 0 p 32 := by simp [blk]
end Mine
namespace Mine
section
variable {prog : Program} {w : World} {A : Around} {E : Value → Shared → Prop} {s : Shared} {h₀ : Heap} {L : Addr} {m : Str → Option Value} {news : List (Addr × Obj)} {Q : Value → Shared → Prop}
theorem intsAre_items {a c : Int} {n : Nat} {acc : Array Value} (h : ItemsOf (fun i v => ∃ t, v = .int (a + i * c) t) acc n) : IntsAre acc.toList (rangeInts a c n) := by
  obtain ⟨size, item⟩ := h
  refine .ofCarried (carriedAll_of_get _ _ ?_ fun j v e => ?_)
  · simp [size, rangeInts_length]
  · rw [Array.getElem?_toList] at e
    obtain ⟨t, rfl⟩ := item j v e
    have lt : j < n := size ▸ (Array.getElem?_eq_some_iff.mp e).1
    exact ⟨_, by rw [List.getElem?_map, rangeInts_get lt]; rfl, .int _ t⟩
theorem fresh_K (F : Fr h₀ L s.heap m) : s.heap.objs.size ≠ L ∧ h₀.get? s.heap.objs.size = none := by
  constructor
  · intro e
    exact absurd F.ns.lt (by rw [← e]; exact Nat.lt_irrefl _)
  · cases e : h₀.get? s.heap.objs.size with
    | none => rfl
    | some o => exact absurd (Heap.lt_size (F.keep _ _ e)) (Nat.lt_irrefl _)
theorem list_rangeN {r : Addr} {a b c : Int} {t u v : Tok} {n : Nat} (hh : A.handled = none) (F : Fr h₀ L s.heap m) (N : News h₀ L s.heap news)
    (hr : IsRange s.heap r a b c t u v) (hsmall : Builtin.Range.small a b c = true) (hn : Builtin.Range.rangeSize a b c = (n : Int)) (hlen : n ≤ 2 ^ 24)
    (hQ : ∀ l h' tk vs c', Fr h₀ L h' m → News h₀ L h' ((l, listOf (List.toArray vs) c') :: news) → IntsAre vs (rangeInts a c n) → (∀ p ∈ news, p.1 < l) → Q (.ref l) { s with heap := h', toks := tk }) :
    wpAny (model prog w) A (call (.type "list") [.ref r]) Q E s :=
  call_list_range hh hr hsmall hn hlen fun h' tk acc' c' hk hS' hacc => by
    refine hQ s.heap.objs.size h' tk acc'.toList c' (F.grownK hk) (fun p hp => ?_) (intsAre_items hacc) (fun p hp => Heap.lt_size (N p hp).1)
    rcases List.mem_cons.mp hp with rfl | hp
    · exact ⟨by simpa using hS', (fresh_K F).1, (fresh_K F).2⟩
    · exact ⟨hk _ _ (N p hp).1, (N p hp).2⟩
end
section
variable {prog : Program} {w : World} {A : Around} {E : Value → Shared → Prop} {s : Shared} {env : Env} {h₀ : Heap} {x : Str} {body : List Stmt} {Q : Flow → Shared → Prop}
theorem For_range0 {r : Addr} {a₀ b₀ : Int} {t₀ u₀ v₀ : Tok} {n : Nat} {m₀ : Str → Option Value} {news : List (Addr × Obj)} (J : Nat → (Str → Option Value) → List (Addr × Obj) → Prop)
    (hh : A.handled = none) (F : Fr h₀ env.locals s.heap m₀) (N : News h₀ env.locals s.heap news) (hr : IsRange s.heap r a₀ b₀ 1 t₀ u₀ v₀) (hsmall : Builtin.Range.small a₀ b₀ 1 = true) (hn : Builtin.Range.rangeSize a₀ b₀ 1 = (n : Int)) (hj : J 0 m₀ news)
    (turn : ∀ i t m₁ news₁ h tk own, i < n → news₁.map (·.1) = news.map (·.1) → OwnOff own (news.map (·.1)) → J i m₁ news₁ → Fr h₀ env.locals h (fun y => if y = x then some (.int (a₀ + (i : Int)) t) else m₁ y) → News h₀ env.locals h (news₁ ++ own) →
      wpAny (model prog w) A (execs body env) (InvPostN h₀ env.locals (J (i + 1)) own (news.map (·.1)) { s with heap := h, toks := tk } Q) E { s with heap := h, toks := tk })
    (done : ∀ m₁ news₁ h tk, J n m₁ news₁ → Fr h₀ env.locals h m₁ → News h₀ env.locals h news₁ → Q .next { s with heap := h, toks := tk }) :
    wpAny (model prog w) A (pyIter (.ref r)) (fun it s₂ => LoopAtV prog w A h₀ env x body Q E it s₂) E s := by
  have off : ∀ {b : Addr} {o : Obj}, s.heap.get? b = some o → b ∉ [s.heap.objs.size] := fun e q => by
    rw [List.mem_singleton] at q
    exact Nat.ne_of_lt (Heap.lt_size e) q
  have N' : ∀ o, News h₀ env.locals (s.heap.push o) news := fun o p hp => ⟨Heap.get?_push_of_some _ (N p hp).1, (N p hp).2⟩
  have hL := F.ns.choose_spec.choose_spec.choose_spec.1
  refine wpAny_pyIter_range hr hsmall (loop_invN J (Walks.range hh _ a₀ 1 n) (off hL) (fun b q => ?_) (fun p hp => off (N p hp).1) (fun p hp => off (N p hp).1) ?_ (F.push _) (N' _) hj (fun i v m₁ l h tk own hi hv => ?_) done)
  · rw [List.mem_singleton.mp q]; exact next_is_new F
  · show IsRangeIter _ _ _ _ _
    rw [hn]
    simpa using Heap.get?_push_size _ rfl
  · obtain ⟨t, rfl⟩ := hv
    rw [Int.mul_one]
    exact turn i t m₁ l h tk own hi
theorem For_range {L : Addr} {r : Addr} {a₀ b₀ : Int} {t₀ u₀ v₀ : Tok} {n : Nat} {m₀ : Str → Option Value} {news : List (Addr × Obj)} (J : Nat → (Str → Option Value) → List (Addr × Obj) → Prop)
    (hh : A.handled = none) (F : Fr h₀ L s.heap m₀) (N : News h₀ L s.heap news) (hL : env.locals = L) (hr : IsRange s.heap r a₀ b₀ 1 t₀ u₀ v₀) (hsmall : Builtin.Range.small a₀ b₀ 1 = true) (hn : Builtin.Range.rangeSize a₀ b₀ 1 = (n : Int)) (hj : J 0 m₀ news)
    (turn : ∀ i t m₁ news₁ h tk own, i < n → news₁.map (·.1) = news.map (·.1) → OwnOff own (news.map (·.1)) → J i m₁ news₁ → Fr h₀ L h (fun y => if y = x then some (.int (a₀ + (i : Int)) t) else m₁ y) → News h₀ L h (news₁ ++ own) →
      wpAny (model prog w) A (execs body env) (InvPostN h₀ L (J (i + 1)) own (news.map (·.1)) { s with heap := h, toks := tk } Q) E { s with heap := h, toks := tk })
    (done : ∀ m₁ news₁ h tk, J n m₁ news₁ → Fr h₀ L h m₁ → News h₀ L h news₁ → Q .next { s with heap := h, toks := tk }) :
    wpAny (model prog w) A (pyIter (.ref r)) (fun it s₂ => LoopAtV prog w A h₀ env x body Q E it s₂) E s := by
  subst hL
  exact For_range0 J hh F N hr hsmall hn hj turn done
end
section
variable {prog : Program} {w : World} {A : Around} {E : Value → Shared → Prop} {s : Shared} {value slice : Expr} {q c : Nat} {t : Tok} {Q : Value → Shared → Prop}
theorem item_blk0 {i : Int} {u : Tok} (h0 : 0 ≤ i) (h1 : i < ((0 + q : Nat) : Int)) (hz : 0 + q ≤ 4000)
    (h : Q (.str (chr1 c) s.toks) { s with toks := s.toks + 1 })
    (hs : subscripted slice false (.str (blk 0 q c) t) (.int i u) = operate [.str (blk 0 q c) t, .int i u] (getItem (.str (blk 0 q c) t) (.int i u)) := by with_unfolding_all rfl)
    (ht : ∀ r, letTemporaryGo value (.str (blk 0 q c) t) r = pure () := by intro _; with_unfolding_all rfl) :
    wpAny (model prog w) A (subscriptTail value slice (.str (blk 0 q c) t) (.int i u)) Q E s :=
  item_blk h0 h1 hz (by rw [if_neg (by omega)]; exact h) hs ht
end
theorem low_ne (c : Nat) (hc : 65 ≤ c ∧ c ≤ 90) : (Txt.lower (chr1 32) == Txt.lower (chr1 c)) = false ∧ (Txt.lower (chr1 c) == Txt.lower (chr1 32)) = false := by
  have key : ∀ k : Fin 26, (Txt.lower (chr1 32) == Txt.lower (chr1 (65 + k.val))) = false ∧ (Txt.lower (chr1 (65 + k.val)) == Txt.lower (chr1 32)) = false := by decide +kernel
  have := key ⟨c - 65, by omega⟩
  have e : 65 + (c - 65) = c := by omega
  simp only [e] at this
  exact this
end Mine
namespace Mine
theorem rng2 (M : Nat) (h : M ≤ 30) : Builtin.Range.small 2 (2 * (((0 + M : Nat) : Int) + 1)) 2 = true ∧ Builtin.Range.rangeSize 2 (2 * (((0 + M : Nat) : Int) + 1)) 2 = (M : Int) := by
  have key : ∀ k : Fin 31, Builtin.Range.small 2 (2 * (((0 + k.val : Nat) : Int) + 1)) 2 = true ∧ Builtin.Range.rangeSize 2 (2 * (((0 + k.val : Nat) : Int) + 1)) 2 = (k.val : Int) := by decide +kernel
  exact key ⟨M, by omega⟩
theorem rng1 (N : Nat) (h : N ≤ 4000) : Builtin.Range.small 0 ((0 + N : Nat) : Int) 1 = true ∧ Builtin.Range.rangeSize 0 ((0 + N : Nat) : Int) 1 = (N : Int) := by
  constructor
  · exact small_one (by omega) (by omega) (by omega) (by omega)
  · simp only [Builtin.Range.rangeSize]
    split
    · split
      · rw [Int.ediv_one]; omega
      · omega
    · omega
section
variable {h₀ h' : Heap} {L a : Addr} {o o₀ : Obj} {R own : List (Addr × Obj)} {J : (Str → Option Value) → List (Addr × Obj) → Prop} {m' : Str → Option Value} {gs : Array GenState} {dr : Drawn} {os : OsState} {h₁ : Heap} {t₁ tk : Nat} {Q : Flow → Shared → Prop}
theorem inv_end1 (F : Fr h₀ L h' m') (N : News h₀ L h' ((a, o) :: (R ++ own))) (hJ : J m' ((a, o) :: R)) : InvEndN h₀ L J own (((a, o₀) :: R).map (·.1)) ⟨h₁, gs, dr, t₁, os⟩ ⟨h', gs, dr, tk, os⟩ :=
  InvEndN.intro F N hJ rfl (fun p hp => by
    rcases List.mem_cons.mp hp with rfl | hp
    · exact .head _
    · exact .tail _ (List.mem_append.mpr (.inl hp))) (fun p hp => .tail _ (List.mem_append.mpr (.inr hp)))
end
end Mine
namespace Mine
theorem Ct.use {w : World} {k : Nat} {f : Addr} {vs : List Value} {news : List (Addr × Obj)} {post : Value → List (Addr × Obj) → Prop} (C : Ct w k f vs news post)
    {p₉ : Program} {lo₉ : List Str} {mean : ExcName → Option Value} {mg mb : Str → Option Value} {dp un : Nat} {gd : Option (List Code)} {cn : Str} {cs : Scope} {a : Addr} {ccd : Value} {cl : List (Str × Addr)} {outer : List Env} {A₀ : Around} {base h₀ : Heap} {L : Addr} {m : Str → Option Value} {s : Shared} {Q E : Value → Shared → Prop}
    (B : Below A₀ base outer h₀) (F : Fr h₀ L s.heap m) (X : (hd.heap_1 w.params).In h₀) (N : News h₀ L s.heap news) (T : Top p₉ lo₉ mean mg mb h₀) (hk : cs.kind = .function) (hd : dp + k < recursionLimit) (hu : un + 10 * k < cLine)
    (ret : ∀ r tl h' tk', post r tl → Fr h₀ L h' m → News h₀ L h' (tl ++ news) → Q r { s with heap := h', toks := tk' }) :
    wpAny (model PG w) (ktrTop dp un gd cn cs L a ccd cl outer) (call (.ref f) vs) Q E s :=
  C p₉ lo₉ mean mg mb dp un gd cn cs a ccd cl outer A₀ base h₀ L m s.heap s.gens s.drawn s.toks s.os Q E B F X N T hk hd hu fun r tl h' tk' F' N' p => ret r tl h' tk' p F' N'
end Mine
namespace Mine
theorem Ct.useI {w : World} {k : Nat} {f : Addr} {vs : List Value} {news : List (Addr × Obj)} {n : Int} (C : Ct w k f vs news (fun r tl => tl = [] ∧ ∃ t, r = .int n t))
    {p₉ : Program} {lo₉ : List Str} {mean : ExcName → Option Value} {mg mb : Str → Option Value} {dp un : Nat} {gd : Option (List Code)} {cn : Str} {cs : Scope} {a : Addr} {ccd : Value} {cl : List (Str × Addr)} {outer : List Env} {A₀ : Around} {base h₀ : Heap} {L : Addr} {m : Str → Option Value} {s : Shared} {Q E : Value → Shared → Prop}
    (B : Below A₀ base outer h₀) (F : Fr h₀ L s.heap m) (X : (hd.heap_1 w.params).In h₀) (N : News h₀ L s.heap news) (T : Top p₉ lo₉ mean mg mb h₀) (hk : cs.kind = .function) (hd : dp + k < recursionLimit) (hu : un + 10 * k < cLine)
    (ret : ∀ t h' tk', Fr h₀ L h' m → News h₀ L h' news → Q (.int n t) { s with heap := h', toks := tk' }) :
    wpAny (model PG w) (ktrTop dp un gd cn cs L a ccd cl outer) (call (.ref f) vs) Q E s :=
  C.use B F X N T hk hd hu fun r tl h' tk' p F' N' => by
    obtain ⟨rfl, t, rfl⟩ := p
    exact ret t h' tk' F' N'
end Mine
namespace Mine
theorem mine_all {news : List (Addr × Obj)} {d e : Nat} (h : ∀ p ∈ news, p.1 < d) (hde : d ≤ e) : ∀ p ∈ news, p.1 ≠ e := fun p hp he =>
  Nat.lt_irrefl _ (Nat.lt_of_lt_of_le (by rw [← he]; exact h p hp) hde)
theorem mine_allLt {news : List (Addr × Obj)} {d e : Nat} (h : AllLt d news) (hde : d ≤ e) : ∀ p ∈ news, p.1 ≠ e := mine_all (ktn_ltOf h) hde
end Mine
namespace Mine
section
variable {h₀ h : Heap} {L : Addr} {p q q' : Addr × Obj} {r : List (Addr × Obj)}
theorem news_drop2 (N : News h₀ L h (p :: q :: r)) : News h₀ L h (p :: r) := fun x hx => by
  rcases List.mem_cons.mp hx with rfl | hx
  · exact N _ (.head _)
  · exact N _ (.tail _ (.tail _ hx))
end
theorem off1_all {D : Nat} : ∀ {l : List (Addr × Obj)}, LCg.Off1 D l → ∀ p ∈ l, p.1 ≠ D
  | [], _, _, hp => nomatch hp
  | _ :: _, h, p, hp => by
    rcases List.mem_cons.mp hp with rfl | hp
    · exact h.1
    · exact off1_all h.2 p hp
end Mine
namespace Mine
/-- what a frame tells of some names -/
noncomputable def Has (m : Str → Option Value) : List (Str × Value) → Prop
  | [] => True
  | p :: l => m p.1 = some p.2 ∧ Has m l
theorem bndU_own (m : Str → Option Value) : ∀ l : List (Str × Value), Has m l → bndU m l = m
  | [], _ => rfl
  | (x, v) :: l, h => by
    show bnd (bndU m l) x v = m
    rw [bndU_own m l h.2]
    funext y
    show (if y = x then some v else m y) = m y
    split
    · subst y; exact h.1.symm
    · rfl
theorem fr_own {g h : Heap} {L : Addr} {m : Str → Option Value} (l : List (Str × Value)) (F : Fr g L h m) (H : Has m l) : Fr g L h (bndU m l) := by rw [bndU_own m l H]; exact F
/-- frame, post and token get a name: the proof's text stays short -/
theorem set_f {α : Type} {M : Model} {A : Around} {t : Sem α} {Q : α → Shared → Prop} {E : Value → Shared → Prop} {g h : Heap} {L : Addr} {m : Str → Option Value} {gs : Array GenState} {dr : Drawn} {tk : Nat} {os : OsState} (F : Fr g L h m)
    (k : let m9 := m; Fr g L h m9 → let Q9 := Q; let E9 := E; ∀ tk9 : Nat, wpAny M A t Q9 E9 ⟨h, gs, dr, tk9, os⟩) : wpAny M A t Q E ⟨h, gs, dr, tk, os⟩ := k F tk
theorem set_q {α : Type} {M : Model} {A : Around} {t : Sem α} {Q : α → Shared → Prop} {E : Value → Shared → Prop} {s : Shared}
    (k : let Q9 := Q; wpAny M A t Q9 E s) : wpAny M A t Q E s := k
theorem roomA {d k n M : Nat} (h : d + n < M) (e : k + 1 ≤ n) : d + 1 + k < M := Nat.lt_of_le_of_lt (by rw [Nat.add_assoc, Nat.add_comm 1]; exact Nat.add_le_add_left e d) h
theorem unitA {u k n M : Nat} (h : u + n < M) (e : k + 3 ≤ n) : u + 3 + k < M := Nat.lt_of_le_of_lt (by rw [Nat.add_assoc, Nat.add_comm 3]; exact Nat.add_le_add_left e u) h
theorem bits3 {r : Int} (hr : r = 1 ∨ r = 2 ∨ r = 3) : Builtin.Int.intBits (3 * r + 2) ≤ 64 ∧ Builtin.Int.intBits (3 * r) ≤ 64 := by rcases hr with rfl | rfl | rfl <;> decide +kernel
/-- what the contracts answer -/
inductive TupP (news : List (Addr × Obj)) (x y : Int) : Value → List (Addr × Obj) → Prop
  | mk (a : Addr) (t1 t2 : Tok) (h : ∀ p ∈ news, p.1 < a) : TupP news x y (.ref a) [(a, { cls := .type "tuple", data := .seq #[.int x t1, .int y t2] })]
inductive IntsP (news : List (Addr × Obj)) (D : List Int) : Value → List (Addr × Obj) → Prop
  | mk (l : Addr) (vs : List Value) (hI : IntsAre vs D) (h : ∀ p ∈ news, p.1 ≠ l) : IntsP news D (.ref l) [(l, LCg.lst vs)]
inductive ValP (mk : Tok → Value) : Value → List (Addr × Obj) → Prop
  | of (t : Tok) : ValP mk (mk t) []
/-- a fact laid aside: the arithmetic does not look at it -/
structure Kept (p : Prop) : Prop where
  v : p
end Mine
-- FE
section
open PySem PySem.W PyProof.Rows PySem.Spec
namespace Mine
section
variable {prog : Program} {w : World} {A : Around} {E : Value → Shared → Prop} {s : Shared} {env : Env} {h₀ : Heap} {L : Addr} {x : Str} {px : Pos} {body orelse : List Stmt} {Q : Flow → Shared → Prop}
/-- a loop by an invariant, with what stands behind its 'else' -/
def ElseAt (prog : Program) (w : World) (A : Around) (env : Env) (x : Str) (px : Pos) (body orelse : List Stmt) (Q : Flow → Shared → Prop) (E : Value → Shared → Prop) (it : Value) (s₂ : Shared) : Prop :=
  codeAny (model prog w) A (.forLoop (.Name x px) it body orelse env) (fun r s' => match r with | .ok f => Q f s' | .error e => cameBackBy (model prog w) A env E e s') s₂
theorem For_else {iter : Expr} {pos : Pos} (h : wpAny (model prog w) A (eval iter env) (fun xv s₁ => wpAny (model prog w) A (pyIter xv) (fun it s₂ => ElseAt prog w A env x px body orelse Q E it s₂) E s₁) E s)
    (hs : ∀ x, foldedSetIterable iter env x = pure x := by intro _; rfl) :
    wpAny (model prog w) A (exec (.For (.Name x px) iter body orelse pos) env) Q E s := wpAny_For h hs
end
end Mine
end
-- FG
section
open PySem PySem.W PyProof.Rows PySem.Spec
namespace Mine
section
variable {prog : Program} {w : World} {A : Around} {E : Value → Shared → Prop} {s : Shared} {env : Env} {h₀ : Heap} {L : Addr} {x : Str} {px : Pos} {body orelse : List Stmt} {Q : Flow → Shared → Prop}
def GrowEnd (h₀ : Heap) (L I : Addr) (o : Obj) (J : (Str → Option Value) → List (Addr × Obj) → Prop) (s₁ s₂ : Shared) : Prop :=
  ∃ h' tk m' news' nx, s₂ = { s₁ with heap := h', toks := tk } ∧ Fr h₀ L h' m' ∧ News h₀ L h' news' ∧ (∀ p ∈ nx, p ∈ news') ∧ (I, o) ∈ news' ∧ (∀ q ∈ nx, q.1 ≠ I) ∧ J m' nx
def GrowPost (h₀ : Heap) (L I : Addr) (o : Obj) (J : (Str → Option Value) → List (Addr × Obj) → Prop) (s₁ : Shared) (Q : Flow → Shared → Prop) (f : Flow) (s₂ : Shared) : Prop :=
  match f with
  | .ret v => Q (.ret v) s₂
  | .brk => Q .next s₂
  | _ => GrowEnd h₀ L I o J s₁ s₂
inductive GrI (h₀ : Heap) (L I : Addr) (n : Nat) (St : Nat → Heap → Prop) (J : Nat → (Str → Option Value) → List (Addr × Obj) → Prop) (s : Shared) (k : Nat) (s' : Shared) : Prop
  | mk (h' : Heap) (tk : Nat) (m' : Str → Option Value) (nx : List (Addr × Obj)) (i : Nat) (e : s' = { s with heap := h', toks := tk }) (hst : St i h') (F : Fr h₀ L h' m') (N : News h₀ L h' nx) (hne : ∀ q ∈ nx, q.1 ≠ I) (hJ : J i m' nx) (hi : i ≤ n) (hk : k = n + 1 - i) : GrI h₀ L I n St J s k s'
/-- a loop whose turns may lay new objects onto the ledger; what it walks over may lie there -/
theorem else_gen {I : Addr} {U : List Addr} {n : Nat} {P : Nat → Value → Prop} {St : Nat → Heap → Prop} {m₀ : Str → Option Value} {news : List (Addr × Obj)} (J : Nat → (Str → Option Value) → List (Addr × Obj) → Prop)
    (W : Walks prog w A I U [I] n P St) (hU : ∀ b ∈ U, b = I ∨ ∃ lo, ∀ i m nx, J i m nx → (b, lo) ∈ nx) (hex : ∀ i h, St i h → ∃ o, h.get? I = some o) (F : Fr h₀ L s.heap m₀) (N : News h₀ L s.heap news) (hL : env.locals = L) (hIL : I ≠ L) (hI0 : h₀.get? I = none) (hIn : ∀ q ∈ news, q.1 ≠ I) (hst : St 0 s.heap) (hj : J 0 m₀ news)
    (turn : ∀ i v m₁ nx h tk o, i < n → P i v → (∀ q ∈ nx, q.1 ≠ I) → J i m₁ nx → Fr h₀ L h (fun y => if y = x then some v else m₁ y) → News h₀ L h ((I, o) :: nx) →
      wpAny (model prog w) A (execs body env) (GrowPost h₀ L I o (J (i + 1)) { s with heap := h, toks := tk } Q) E { s with heap := h, toks := tk })
    (done : ∀ m₁ nx h tk, J n m₁ nx → Fr h₀ L h m₁ → News h₀ L h nx → wpAny (model prog w) A (execs orelse env) Q E { s with heap := h, toks := tk })
    (hx : env.kindOf x = some .local) (hp : (env.scope.kind == .class || (env.scope.kind == .module && env.locals != env.globals)) = false)
    (hE : PassesOwn (model prog w) A env E) :
    ElseAt prog w A env x px body orelse Q E (.ref I) s := by
  subst hL
  refine codeAny_forLoop (GrI h₀ env.locals I n St J s) ?_ (n + 1) (.mk s.heap s.toks m₀ news 0 rfl hst F N hIn hj (Nat.zero_le _) rfl)
  intro k s' hG
  cases hG with | mk h' tk m' nx i e hst' F' N' hnx hJ hi hk =>
  subst e
  subst hk
  have next : ∀ h₁ : Heap, (∀ b o, b ∉ [I] → h'.get? b = some o → h₁.get? b = some o) → Fr h₀ env.locals h₁ m' ∧ News h₀ env.locals h₁ nx := fun h₁ hk₁ => by
    refine ⟨⟨F'.ns.at' fun o e => hk₁ _ o (fun q => hIL (List.mem_singleton.mp q).symm) e, fun b o e => hk₁ b o ?_ (F'.keep b o e), F'.above⟩, fun p hp => ⟨hk₁ _ _ (fun q => hnx p hp (List.mem_singleton.mp q)) (N' p hp).1, (N' p hp).2⟩⟩
    intro hb
    rw [List.mem_singleton.mp hb, hI0] at e
    cases e
  by_cases hlt : i < n
  · refine W.item i _ _ _ hlt hst' fun v h₁ tk₁ hP hst₁ hk₁ => ?_
    have F₁ := (next h₁ hk₁).1
    have N₁ := (next h₁ hk₁).2
    refine wpAny_assign_Name (wpAny_storeName_local hx F₁.ns (fun h₂ hn₂ hs₂ => ?_) hp)
    have F₂ := F₁.set hn₂ hs₂
    have N₂ := N₁.set hs₂
    obtain ⟨o, ho⟩ := hex _ _ hst₁
    have ho₂ : h₂.get? I = some o := (hs₂.2 I hIL).trans ho
    refine wpAny_mono (wpAny_passesOwn hE (turn i v m' nx h₂ _ o hlt hP hnx hJ F₂ (fun p hp => (List.mem_cons.mp hp).elim (fun e => by rw [e]; exact ⟨ho₂, hIL, hI0⟩) (N₂ p)))) (fun f s₃ h₃ => ?_) fun _ _ e => e
    have fin : GrowEnd h₀ env.locals I o (J (i + 1)) { s with heap := h₂, toks := tk₁ + 1 } s₃ → ∃ k, k < n + 1 - i ∧ GrI h₀ env.locals I n St J s k s₃ := by
      rintro ⟨h₃', tk₃, m₂, news', nx₂, rfl, F₃, N₃, hn, hIo, ha, hJ₃⟩
      refine ⟨n + 1 - (i + 1), by omega, .mk h₃' tk₃ m₂ nx₂ (i + 1) rfl ?_ F₃ (fun p hp => N₃ p (hn p hp)) ha hJ₃ hlt rfl⟩
      refine W.frame _ _ _ hst₁ fun b hb o' e => ?_
      rcases hU b hb with rfl | ⟨lo, hlo⟩
      · rw [ho] at e
        cases e
        exact (N₃ _ hIo).1
      · have z := (N₁ _ (hlo _ _ _ hJ)).1
        dsimp only at z
        rw [z] at e
        cases e
        exact (N₃ _ (hn _ (hlo _ _ _ hJ₃))).1
    cases f with
    | ret v => exact h₃
    | brk => exact h₃
    | next => exact fin h₃
    | cont => exact fin h₃
  · obtain rfl : i = n := Nat.le_antisymm hi (Nat.le_of_not_lt hlt)
    refine W.done _ _ _ hst' fun h₁ tk₁ hk₁ => ?_
    exact wpAny_passesOwn hE (done m' nx h₁ tk₁ hJ (next h₁ hk₁).1 (next h₁ hk₁).2)
theorem else_grow {I : Addr} {n : Nat} {P : Nat → Value → Prop} {St : Nat → Heap → Prop} {m₀ : Str → Option Value} {news : List (Addr × Obj)} (J : Nat → (Str → Option Value) → List (Addr × Obj) → Prop)
    (W : Walks prog w A I [I] [I] n P St) (hex : ∀ i h, St i h → ∃ o, h.get? I = some o) (F : Fr h₀ L s.heap m₀) (N : News h₀ L s.heap news) (hL : env.locals = L) (hIL : I ≠ L) (hI0 : h₀.get? I = none) (hIn : ∀ q ∈ news, q.1 ≠ I) (hst : St 0 s.heap) (hj : J 0 m₀ news)
    (turn : ∀ i v m₁ nx h tk o, i < n → P i v → (∀ q ∈ nx, q.1 ≠ I) → J i m₁ nx → Fr h₀ L h (fun y => if y = x then some v else m₁ y) → News h₀ L h ((I, o) :: nx) →
      wpAny (model prog w) A (execs body env) (GrowPost h₀ L I o (J (i + 1)) { s with heap := h, toks := tk } Q) E { s with heap := h, toks := tk })
    (done : ∀ m₁ nx h tk, J n m₁ nx → Fr h₀ L h m₁ → News h₀ L h nx → wpAny (model prog w) A (execs orelse env) Q E { s with heap := h, toks := tk })
    (hx : env.kindOf x = some .local) (hp : (env.scope.kind == .class || (env.scope.kind == .module && env.locals != env.globals)) = false)
    (hE : PassesOwn (model prog w) A env E) :
    ElseAt prog w A env x px body orelse Q E (.ref I) s :=
  else_gen J W (fun b hb => .inl (List.mem_singleton.mp hb)) hex F N hL hIL hI0 hIn hst hj turn done hx hp hE
theorem Grow_range {r : Addr} {a₀ b₀ : Int} {t₀ u₀ v₀ : Tok} {n : Nat} {m₀ : Str → Option Value} {news : List (Addr × Obj)} (J : Nat → (Str → Option Value) → List (Addr × Obj) → Prop)
    (hh : A.handled = none) (F : Fr h₀ L s.heap m₀) (N : News h₀ L s.heap news) (hL : env.locals = L) (hr : IsRange s.heap r a₀ b₀ 1 t₀ u₀ v₀) (hsmall : Builtin.Range.small a₀ b₀ 1 = true) (hn : Builtin.Range.rangeSize a₀ b₀ 1 = (n : Int)) (hj : J 0 m₀ news)
    (hx : env.kindOf x = some .local) (hp : (env.scope.kind == .class || (env.scope.kind == .module && env.locals != env.globals)) = false)
    (turn : ∀ i t m₁ nx h tk I o, i < n → (∀ q ∈ nx, q.1 ≠ I) → J i m₁ nx → Fr h₀ L h (fun y => if y = x then some (.int (a₀ + (i : Int)) t) else m₁ y) → News h₀ L h ((I, o) :: nx) →
      wpAny (model prog w) A (execs body env) (GrowPost h₀ L I o (J (i + 1)) { s with heap := h, toks := tk } Q) E { s with heap := h, toks := tk })
    (done : ∀ m₁ nx h tk, J n m₁ nx → Fr h₀ L h m₁ → News h₀ L h nx → wpAny (model prog w) A (execs orelse env) Q E { s with heap := h, toks := tk })
    (hE : PassesOwn (model prog w) A env E) :
    wpAny (model prog w) A (pyIter (.ref r)) (fun it s₂ => ElseAt prog w A env x px body orelse Q E it s₂) E s := by
  obtain ⟨new, none⟩ := fresh_K F
  have N' : ∀ o, News h₀ L (s.heap.push o) news := fun o p hp => ⟨Heap.get?_push_of_some _ (N p hp).1, (N p hp).2⟩
  refine wpAny_pyIter_range hr hsmall (else_grow (s := { s with heap := s.heap.push _ }) J (Walks.range hh _ a₀ 1 n) (fun _ _ e => ⟨_, e⟩) (F.push _) (N' _) hL new none (fun q hq => Nat.ne_of_lt (Heap.lt_size (N q hq).1)) ?_ hj (fun i v m₁ nx h tk o hi hv => ?_) done hx hp hE)
  · show IsRangeIter _ _ _ _ _
    rw [hn]
    simpa using Heap.get?_push_size _ rfl
  · obtain ⟨t, rfl⟩ := hv
    rw [Int.mul_one]
    exact turn i t m₁ nx h tk _ o hi
theorem grow_end {I : Addr} {o : Obj} {J : (Str → Option Value) → List (Addr × Obj) → Prop} {h' : Heap} {tk : Nat} {m' : Str → Option Value} {news' nx : List (Addr × Obj)} {gs : Array GenState} {dr : Drawn} {os : OsState} {h₁ : Heap} {t₁ : Nat} (F : Fr h₀ L h' m') (N : News h₀ L h' news') (hn : ∀ p ∈ nx, p ∈ news') (hI : (I, o) ∈ news') (ho : ∀ q ∈ nx, q.1 ≠ I) (hJ : J m' nx) :
    GrowEnd h₀ L I o J ⟨h₁, gs, dr, t₁, os⟩ ⟨h', gs, dr, tk, os⟩ := ⟨h', tk, m', news', nx, rfl, F, N, hn, hI, ho, hJ⟩
end
end Mine
end
-- EN
section
open PySem PySem.W PyProof.Rows PySem.Calls PySem.Spec
namespace Mine
open Builtin
theorem row_ascii (x : Str) (t u : Tok) : «str.encode» ⟨[.str x t, .str (Str.ofString "ascii") u], []⟩ = (_codecs.encodeRoad "str.encode" (.str x t) x (Str.ofString "ascii") none >>= fun v => ret v) := by
  kernel_rfl
theorem road_ascii (id : String) (self : Value) (x : Str) : _codecs.encodeRoad id self x (Str.ofString "ascii") none = (_codecs.encodeNarrow id _codecs.asciiCodec none self x >>= fun b => mkBytes b) := by
  kernel_rfl
theorem fold_bytes (l : List Nat) : ∀ a : Array UInt8, l.foldl (fun acc y => acc ++ (_codecs.asciiCodec.bytesOf y).toArray) a = a ++ (l.map (·.toUInt8)).toArray := by
  induction l with
  | nil => intro a; simp
  | cons y l ih => intro a; rw [List.foldl_cons, ih]; simp [_codecs.asciiCodec]
theorem loop2 {σ : Type} (n : Nat) (f : Nat → σ → Sem (ForInStep σ)) (a b : σ) (hn : 0 < n) (h1 : f 0 a = pure (.yield b)) (h2 : ∀ i, f i b = pure (.done b)) : forIn (List.range' 0 n 1) a f = (pure b : Sem σ) := by
  obtain ⟨m, rfl⟩ : ∃ m, n = m + 1 := ⟨n - 1, by omega⟩
  rw [List.range'_succ, List.forIn_cons, h1, pure_bind]
  cases m with
  | zero => rfl
  | succ m =>
    show forIn (List.range' (0 + 1) (m + 1) 1) b f = _
    rw [List.range'_succ, List.forIn_cons, h2, pure_bind]
theorem narrow_ascii (id : String) (self : Value) (x : Str) (h0 : 0 < x.length) (hz : x.length ≤ 4000) (ha : ∀ c ∈ x.cps, c < 128) : _codecs.encodeNarrow id _codecs.asciiCodec none self x = pure (x.cps.map (·.toUInt8)) := by
  have hb : x.cps.findIdx? _codecs.asciiCodec.bad = none := by
    rw [Array.findIdx?_eq_none_iff]
    intro c hc
    have := ha c hc
    simp [_codecs.asciiCodec]; omega
  obtain ⟨xs⟩ := x
  have h0' : 0 < xs.size := h0
  have hz' : xs.size ≤ 4000 := hz
  obtain ⟨c, hc⟩ : ∃ c, xs[0]? = some c := ⟨xs[0], by simp [h0']⟩
  have hcl : c < 128 := ha c (by rw [Array.getElem?_eq_some_iff] at hc; obtain ⟨_, rfl⟩ := hc; exact Array.getElem_mem _)
  have hbc : _codecs.asciiCodec.bad c = false := by simp [_codecs.asciiCodec]; omega
  have hb' : xs.findIdx? _codecs.asciiCodec.bad = none := hb
  have e2 : xs.extract 0 xs.size = xs := by simp
  have e4 : ¬ ((#[] : Array UInt8).size > sizeLine) := by simp
  have e5 : (Array.foldl (fun acc y => acc ++ (_codecs.asciiCodec.bytesOf y).toArray) #[] xs) = xs.map (·.toUInt8) := by
    rw [← Array.foldl_toList, fold_bytes]; apply Array.ext'; simp
  have e6 : ¬ ((xs.map (·.toUInt8)).size > sizeLine) := by rw [Array.size_map]; unfold sizeLine; omega
  have e7 : xs[xs.size]? = none := by simp
  unfold _codecs.encodeNarrow
  dsimp only
  rw [KPc.range_list]
  refine (congrArg (· >>= _) (loop2 _ _ _ (xs.size, xs.map (·.toUInt8), ({} : _codecs.Faults)) h0' ?_ ?_)).trans ?_
  · dsimp only
    simp only [if_neg e4, hc, hbc, Bool.not_false, if_true, e2, hb', Option.getD_none, e5, Nat.zero_add]
  · intro i
    dsimp only
    simp only [if_neg e6, e7]
  · exact pure_bind _ _
theorem meets_ascii {x : Str} {t u : Tok} : Meets («str.encode» ⟨[.str x t, .str (Str.ofString "ascii") u], []⟩) (fun _ R s => (0 < x.length ∧ x.length ≤ 4000 ∧ ∀ c ∈ x.cps, c < 128) ∧ ∀ t' k, R (.ok (.ret (.bytes (x.cps.map (·.toUInt8)) t'))) { s with toks := k }) := by
  refine .of_wp fun prog w A R s hS => ?_
  obtain ⟨⟨h0, h1, h2⟩, h⟩ := hS
  rw [row_ascii, road_ascii, narrow_ascii _ _ _ h0 h1 h2]
  refine wpAny_bind (wpAny_bind (wpAny_pure ?_))
  exact wpAny_mkBytes (wpAny_pure ⟨_, rfl, h _ _⟩) (by rw [Array.size_map]; unfold sizeLine; unfold Str.length at h1; omega)
section
variable {prog : Program} {w : World} {A : Around} {E : Value → Shared → Prop} {s : Shared} {t u : Tok} {x : Str}
theorem encode_call {Q : Value → Shared → Prop} (hx : 0 < x.length ∧ x.length ≤ 4000 ∧ ∀ c ∈ x.cps, c < 128) (h : ∀ t' k, Q (.bytes (x.cps.map (·.toUInt8)) t') { s with toks := k }) :
    wpAny (model prog w) A (call (.builtin "str.encode") [.str x t, .str (Str.ofString "ascii") u]) Q E s :=
  call_meets PySem.F.slot_str_encode (typeIs_str _ _ _) PySem.F.entry_str_encode (PySem.F.args_str_encode_2 _ _) meets_ascii ⟨hx, h⟩
theorem encode_method {M : Model} {pl : Sem Bool} {Q : Value × List Value → Shared → Prop} (h : Q (.builtin "str.encode", [.str x t]) s) : wpAny M A (getMethod (.str x t) "encode" pl) Q E s := by
  with_reducible exact getMethod_builtin (typeIs_str _ _ _) PySem.F.plainAttrs_str PySem.F.slot_str_encode PySem.F.type_str_encode (fun a e => nomatch e) h
def BytesIt (o : Obj) (b : Array UInt8) (t : Tok) (i : Nat) : Prop := o.cls = .type "bytes_iterator" ∧ o.data = .fields #[.bytes b t, .int i 0]
variable {h₀ : Heap} {L it : Addr} {m : Str → Option Value} {news : List (Addr × Obj)} {g : Obj → List (Addr × Obj)} {b : Array UInt8} {io : Obj} {i : Nat} {c : UInt8}
theorem iter_bytes {Q : Value → Shared → Prop} (F : Fr h₀ L s.heap m) (N : News h₀ L s.heap news)
    (h : ∀ (I : Addr) h' oI, Fr h₀ L h' m → News h₀ L h' ((I, oI) :: news) → (∀ p ∈ news, p.1 < I) → BytesIt oI b t 0 → Q (.ref I) { s with heap := h' }) :
    wpAny (model prog w) A (call (.builtin "iter") [.bytes b t]) Q E s := by
  have args : someArgs "iter" 1 2 ⟨[.bytes b t], []⟩ = pure [.bytes b t] := by first | rfl | kernel_rfl!
  have back := h s.heap.objs.size _ _ (F.push _) (News.push F N { cls := .type "bytes_iterator", data := .fields #[.bytes b t, rawInt 0] } rfl) (fun p hp => Heap.lt_size (N p hp).1) ⟨rfl, rfl⟩
  refine call_function_entry (by decide +kernel) (by decide +kernel) kdk_entry_iter (kdk_args_iter _) ?_
  unfold Builtin.«iter»
  repeat (first | with_reducible refine wpAny_of_eq args ?_ | with_reducible refine KBw.pyIter_bytes ?_ | with_reducible refine wpAny_bind ?_ | with_reducible refine wpAny_pure ?_ | dsimp only)
  exact wpAny_pure ⟨_, rfl, back⟩
theorem next_one {Q : Value → Shared → Prop} (F : Fr h₀ L s.heap m) (N : News h₀ L s.heap news) (U : UpdF it io news g) (hi : BytesIt io b t i) (hx : b[i]? = some c)
    (h : ∀ h' o' k t', Fr h₀ L h' m → News h₀ L h' (g o') → BytesIt o' b t (i + 1) → Q (.int (c.toNat : Int) t') { s with heap := h', toks := k }) :
    wpAny (model prog w) A (call (.builtin "next") [.ref it]) Q E s := by
  obtain ⟨pre, post, hl, hg, a, b'⟩ := U.split
  have hmem : (it, io) ∈ news := by rw [hl]; exact List.mem_append_right _ (.head _)
  have hm := N (it, io) hmem
  have hit : KBw.IsBytesIter s.heap it b t i := ⟨io, hm.1, hi.1, hi.2⟩
  obtain ⟨o, ho, hc, hd⟩ := id hit
  refine call_function_entry (by decide +kernel) (by decide +kernel) kdk_entry_next (kdk_args_next _) ?_
  unfold Builtin.«next»
  refine wpAny_bind (m := someArgs "next" 1 2 _) (wpAny_of_eq (a := [Value.ref it]) (by first | rfl | kernel_rfl!) ?_)
  dsimp only
  refine wpAny_bind (wpAny_specialOf (name := Str.ofString "__next__") (KBw.iter_typeIs hit) KBw.slot_next.lookup ?_)
  refine wpAny_ite_split (fun hab => absurd hab (by decide)) (fun _ => ?_)
  refine wpAny_bind (wpAny_callSpecial?_slot (name := Str.ofString "__next__") (KBw.iter_typeIs hit) KBw.slot_next
    (wpAny_call_entry KBw.slot_next (KBw.iter_typeIs hit) KBw.entry_next ?_ (KBw.args_next _)))
  show wpAny _ _ (field (.ref it) 0 >>= _) _ _ s
  refine wpAny_bind (wpAny_field ho hd (x := .bytes b t) rfl ?_)
  show wpAny _ _ (if (Value.bytes b t == Value.none) = true then _ else _) _ _ s
  rw [if_neg (show ¬ ((Value.bytes b t == Value.none) = true) from Bool.false_ne_true)]
  show wpAny _ _ (field (.ref it) 1 >>= _) _ _ s
  refine wpAny_bind (wpAny_field ho hd (x := .int i 0) rfl ?_)
  refine wpAny_bind (wpAny_of_eq (a := b) rfl ?_)
  simp only [Int.toNat_natCast, hx]
  refine wpAny_bind (wpAny_setField ho hd (by simp) (wpAny_bind (wpAny_mkInt (wpAny_pure ⟨_, rfl, ?_⟩))))
  refine wpAny_pure ⟨_, rfl, ?_⟩
  have ho' : (s.heap.update it (Obj.mapFields (·.setIfInBounds 1 (rawInt ((i : Int) + 1))))).get? it = some _ := Heap.get?_update_self _ ho (Obj.isFreed_of_fields (Obj.data_mapFields hd _))
  exact h _ _ _ _ (F.change (Heap.SameBut.update ..) hm.2.1 hm.2.2) (hg _ ▸ (show News h₀ L s.heap (pre ++ (it, io) :: post) from hl ▸ N).setIn a b' (Heap.SameBut.update ..) ho') ⟨(Obj.cls_mapFields ..).trans hc, by rw [Obj.data_mapFields hd]; simp [rawInt]⟩
theorem next_stop {Q : Value → Shared → Prop} (hh : A.handled = none) (F : Fr h₀ L s.heap m) (N : News h₀ L s.heap news) (U : UpdF it io news g) (hi : BytesIt io b t i) (hx : b[i]? = none)
    (h : ∀ h₁ h' o' e, Fr h₀ L h₁ m → News h₀ L h₁ (g o') → Heap.MadeExc h₁ h' e "StopIteration" [] → E (.ref e) { s with heap := h' }) :
    wpAny (model prog w) A (call (.builtin "next") [.ref it]) Q E s := by
  obtain ⟨pre, post, hl, hg, a, b'⟩ := U.split
  have hmem : (it, io) ∈ news := by rw [hl]; exact List.mem_append_right _ (.head _)
  have hm := N (it, io) hmem
  have hit : KBw.IsBytesIter s.heap it b t i := ⟨io, hm.1, hi.1, hi.2⟩
  obtain ⟨o, ho, hc, hd⟩ := id hit
  refine call_function_entry (by decide +kernel) (by decide +kernel) kdk_entry_next (kdk_args_next _) ?_
  unfold Builtin.«next»
  refine wpAny_bind (m := someArgs "next" 1 2 _) (wpAny_of_eq (a := [Value.ref it]) (by first | rfl | kernel_rfl!) ?_)
  dsimp only
  refine wpAny_bind (wpAny_specialOf (name := Str.ofString "__next__") (KBw.iter_typeIs hit) KBw.slot_next.lookup ?_)
  refine wpAny_ite_split (fun hab => absurd hab (by decide)) (fun _ => ?_)
  refine wpAny_bind (wpAny_callSpecial?_slot (name := Str.ofString "__next__") (KBw.iter_typeIs hit) KBw.slot_next
    (wpAny_call_entry KBw.slot_next (KBw.iter_typeIs hit) KBw.entry_next ?_ (KBw.args_next _)))
  show wpAny _ _ (field (.ref it) 0 >>= _) _ _ s
  refine wpAny_bind (wpAny_field ho hd (x := .bytes b t) rfl ?_)
  show wpAny _ _ (if (Value.bytes b t == Value.none) = true then _ else _) _ _ s
  rw [if_neg (show ¬ ((Value.bytes b t == Value.none) = true) from Bool.false_ne_true)]
  show wpAny _ _ (field (.ref it) 1 >>= _) _ _ s
  refine wpAny_bind (wpAny_field ho hd (x := .int i 0) rfl ?_)
  refine wpAny_bind (wpAny_of_eq (a := b) rfl ?_)
  simp only [Int.toNat_natCast, hx]
  refine wpAny_bind (wpAny_rule (wpAny_bind (wpAny_setField ho hd (by simp) ?_)))
  show wpAny _ _ (newExc (.type "StopIteration") [] >>= _) _ _ _
  refine wpAny_bind ?_
  have ho' : (s.heap.update it (Obj.mapFields (·.setIfInBounds 0 .none))).get? it = some _ := Heap.get?_update_self _ ho (Obj.isFreed_of_fields (Obj.data_mapFields hd _))
  have F₁ := F.change (Heap.SameBut.update (f := Obj.mapFields (·.setIfInBounds 0 .none)) ..) hm.2.1 hm.2.2
  have N₁ := hg _ ▸ (show News h₀ L s.heap (pre ++ (it, io) :: post) from hl ▸ N).setIn a b' (Heap.SameBut.update ..) ho'
  simp only [newExc, newTuple]
  refine wpAny_bind (wpAny_newObj_type ?_ (by size_fits))
  refine wpAny_bind (m := firstArgMember _ _) (wpAny_of_eq (a := Value.none) (by first | rfl | (simp only [firstArgMember]; rfl)) ?_)
  refine wpAny_newObj_type ?_ (by size_fits)
  refine wpAny_raiseNew_none hh (h _ _ _ _ F₁ N₁ ⟨fun b o hb => Heap.get?_push_of_some _ (Heap.get?_push_of_some _ hb), Heap.get?_none_of_le (by simp), _, ?_, Heap.get?_none_of_le (Nat.le_refl _), ?_⟩)
  · exact Heap.get?_push_size _ rfl
  · exact Heap.get?_push_of_some _ (Heap.get?_push_size _ rfl)
end
end Mine
end
-- TK
section
open PySem PySem.W PyProof.Rows PySem.Calls PySem.Spec
set_option exponentiation.threshold 800
namespace Mine
abbrev rowO (p : Int) (t1 : Tok) (q : Int) (t2 : Tok) (x : Str) (t3 : Tok) : Obj := { cls := .type "tuple", data := .seq #[.int p t1, .int q t2, .str x t3] }
/-- what the reader finds: a blank, or a run of q signs c with the line's end -/
inductive Tk | bl | wd (q c : Nat)
def Tk.enc : Tk → List Nat | .bl => [32] | .wd q c => List.replicate q c ++ [10]
def Tk.ok : Tk → Prop | .bl => True | .wd q c => 1 ≤ q ∧ q ≤ 100 ∧ 65 ≤ c ∧ c ≤ 90
def encs (ts : List Tk) : List Nat := ts.flatMap Tk.enc
def stepT (s : List (Nat × Nat × Nat) × Nat) : Tk → List (Nat × Nat × Nat) × Nat
  | .bl => (s.1, s.2 + 1)
  | .wd q c => (s.1 ++ [(s.2, q, c)], 0)
noncomputable def geo (v : Int) : Nat → Int | 0 => 0 | n + 1 => geo v n * 64 + v
def ByteAt (b : Array UInt8) (i : Nat) (z : Int) : Prop := ∃ c, b[i]? = some c ∧ (c.toNat : Int) = z
def bytesOf (x : Str) : Array UInt8 := x.cps.map (·.toUInt8)
theorem byteAt_of {x : Str} {pre suf : List Nat} {c : Nat} (h : x.cps.toList = pre ++ c :: suf) (hc : c < 256) : ByteAt (bytesOf x) pre.length (c : Int) := by
  refine ⟨c.toUInt8, ?_, ?_⟩
  · unfold bytesOf
    rw [Array.getElem?_map, ← Array.getElem?_toList, h]
    simp
  · simp [Nat.toUInt8]; omega
theorem byteEnd {x : Str} {n : Nat} (h : x.cps.toList.length = n) : (bytesOf x)[n]? = none := by
  unfold bytesOf
  rw [Array.getElem?_eq_none]
  rw [Array.size_map, ← Array.length_toList]; omega
/-- what the bits of a big number need -/
def VB (V : Int) : Prop := 0 ≤ V ∧ V.natAbs < 2 ^ 700
theorem geo_nonneg {v : Int} (hv : 0 ≤ v) : ∀ n, 0 ≤ geo v n
  | 0 => Int.le_refl _
  | n + 1 => by have := geo_nonneg hv n; unfold geo; omega
theorem geo_lt {v : Int} (hv : v < 64) (n : Nat) : geo v n < 64 ^ n := by
  induction n with
  | zero => show (0 : Int) < 1; decide
  | succ n ih => unfold geo; rw [Int.pow_succ]; omega
theorem vb_of {V : Int} {n : Nat} (h0 : 0 ≤ V) (h : V < 64 ^ n) (hn : n ≤ 110) : VB V := by
  refine ⟨h0, ?_⟩
  have e : ((V.natAbs : Nat) : Int) = V := by omega
  have h1 : ((V.natAbs : Nat) : Int) < ((64 ^ n : Nat) : Int) := by rw [e]; simpa using h
  have h2 : V.natAbs < 64 ^ n := by exact_mod_cast h1
  have h3 : 64 ^ n ≤ 64 ^ 110 := Nat.pow_le_pow_right (by decide) hn
  have h4 : 64 ^ 110 < 2 ^ 700 := by decide
  omega
theorem geo_vb {v : Int} (h0 : 0 ≤ v) (h1 : v < 64) {n : Nat} (hn : n ≤ 110) : VB (geo v n) := vb_of (geo_nonneg h0 n) (geo_lt h1 n) hn
theorem geo_div {v : Int} (h0 : 0 ≤ v) (h1 : v < 64) (n : Nat) : (geo v (n + 1)).fdiv 64 = geo v n := by
  rw [Int.fdiv_eq_ediv_of_nonneg _ (by decide)]; show (geo v n * 64 + v) / 64 = _; omega
theorem geo_mod {v : Int} (h0 : 0 ≤ v) (h1 : v < 64) (n : Nat) : (geo v (n + 1)).fmod 64 = v := by
  rw [Int.fmod_eq_emod_of_nonneg _ (by decide)]; show (geo v n * 64 + v) % 64 = _; omega
theorem geo_big {v : Int} (h0 : 1 ≤ v) (h1 : v < 64) (n : Nat) : 63 < geo v (n + 2) := by
  have : 0 ≤ geo v n := geo_nonneg (by omega) n
  show 63 < (geo v n * 64 + v) * 64 + v
  omega
/-- the number a word stands for, after k divisions -/
noncomputable def numT (v : Int) (q k : Nat) : Int := if k = 0 then geo v q * 64 + 10 else geo v (q + 1 - k)
theorem numT_zero (v : Int) (q : Nat) : numT v q 0 = geo v q * 64 + 10 := rfl
theorem numT_vb {v : Int} (h0 : 1 ≤ v) (h1 : v < 64) {q k : Nat} (hq : q ≤ 100) : VB (numT v q k) := by
  unfold numT
  split
  · have := geo_nonneg (v := v) (by omega) q
    have := geo_lt h1 q
    refine vb_of (n := q + 1) (by omega) ?_ (by omega)
    rw [Int.pow_succ]; omega
  · exact geo_vb (by omega) h1 (by omega)
theorem numT_div {v : Int} (h0 : 1 ≤ v) (h1 : v < 64) {q k : Nat} (hk : k < q) : (numT v q k).fdiv 64 = numT v q (k + 1) := by
  unfold numT
  rw [if_neg (Nat.succ_ne_zero k)]
  split
  · subst k; rw [Int.fdiv_eq_ediv_of_nonneg _ (by decide), Nat.add_sub_cancel]; omega
  · obtain ⟨r, hr⟩ : ∃ r, q + 1 - k = r + 1 := ⟨q - k, by omega⟩
    rw [hr, show q + 1 - (k + 1) = r by omega]; exact geo_div (by omega) h1 r
theorem numT_go {v : Int} (h0 : 1 ≤ v) (h1 : v < 64) {q k : Nat} (hk : k < q) : 63 < numT v q k := by
  unfold numT
  split
  · obtain ⟨r, rfl⟩ : ∃ r, q = r + 1 := ⟨q - 1, by omega⟩
    have := geo_nonneg (v := v) (by omega) r
    show 63 < (geo v r * 64 + v) * 64 + 10
    omega
  · obtain ⟨r, hr⟩ : ∃ r, q + 1 - k = r + 2 := ⟨q - 1 - k, by omega⟩
    rw [hr]; exact geo_big h0 h1 r
theorem numT_stop {v : Int} (h1 : v < 64) {q : Nat} (hq : 1 ≤ q) : numT v q q ≤ 63 := by
  unfold numT
  rw [if_neg (by omega), show q + 1 - q = 1 by omega]
  show 0 * 64 + v ≤ 63
  omega
theorem numT_sign {v : Int} (h0 : 1 ≤ v) (h1 : v < 64) {q : Nat} (hq : 1 ≤ q) : ((numT v q 0).fdiv 64).fmod 64 = v := by
  rw [numT_div h0 h1 (by omega)]
  obtain ⟨r, rfl⟩ : ∃ r, q = r + 1 := ⟨q - 1, by omega⟩
  show (numT v (r + 1) 1).fmod 64 = v
  unfold numT
  rw [if_neg (by decide), show r + 1 + 1 - 1 = r + 1 by omega]
  exact geo_mod (by omega) h1 r
theorem numT_ne {v : Int} (h0 : 1 ≤ v) (h1 : v < 64) {q : Nat} (hq : 1 ≤ q) : numT v q 0 ≠ 32 := by
  have := numT_go h0 h1 (q := q) (k := 0) (by omega); omega
theorem band64 {c : Nat} (h0 : 65 ≤ c) (h1 : c ≤ 90) : Builtin.bitAnd (c : Int) 64 = 64 := by
  obtain ⟨k, rfl⟩ : ∃ k : Fin 26, c = 65 + k := ⟨⟨c - 65, by omega⟩, by simp; omega⟩
  revert k; decide +kernel
theorem bor_low {V r : Int} (h0 : 0 ≤ V) (hr : 0 ≤ r ∧ r < 64) : Builtin.bitOr (V * 64) r = V * 64 + r := by
  obtain ⟨a, rfl⟩ := Int.eq_ofNat_of_zero_le h0
  obtain ⟨b, rfl⟩ := Int.eq_ofNat_of_zero_le hr.1
  have e : Builtin.bitAnd ((a : Int) * 64) (b : Int) = 0 := by
    unfold Builtin.bitAnd
    rw [decide_eq_true (by omega : 0 ≤ (a : Int) * 64), decide_eq_true (by omega : 0 ≤ (b : Int))]
    have e1 : ((a : Int) * 64).toNat = a * 64 := by omega
    have e2 : ((b : Int)).toNat = b := by omega
    show ((((a : Int) * 64).toNat &&& ((b : Int)).toNat : Nat) : Int) = 0
    rw [e1, e2]
    have : a * 64 &&& b = 0 := by
      apply Nat.eq_of_testBit_eq
      intro i
      rw [Nat.testBit_and, Nat.zero_testBit]
      by_cases hi : i < 6
      · rw [show a * 64 = 2 ^ 6 * a by omega, Nat.testBit_two_pow_mul, decide_eq_false (by omega)]; simp
      · rw [Nat.testBit_lt_two_pow (x := b) (by have : 2 ^ 6 ≤ 2 ^ i := Nat.pow_le_pow_right (by decide) (by omega); omega)]; simp
    rw [this]; rfl
  rw [bitOr_and, e]; omega
section
variable {prog : Program} {w : World} {A : Around} {E : Value → Shared → Prop} {s : Shared} {V r z : Int} {t u : Tok} {Q : Value → Shared → Prop}
theorem shl6 (hV : VB V) (h : Q (.int (V * 64) s.toks) { s with toks := s.toks + 1 }) : wpAny (model prog w) A (inplaceOp .LShift (.int V t) (.int 6 u)) Q E s := by
  refine ilshift_int (by decide) ?_ h
  have := intBits_le_iff.mpr hV.2
  omega
theorem or64 (hV : VB V) (hr : 0 ≤ r ∧ r < 64) (h : Q (.int (V * 64 + r) s.toks) { s with toks := s.toks + 1 }) : wpAny (model prog w) A (inplaceOp .BitOr (.int (V * 64) t) (.int r u)) Q E s :=
  ior_int (by rw [bor_low hV.1 hr]; exact h)
theorem and_to {a : Int} (e : Builtin.bitAnd z a = r) (h : Q (.int r s.toks) { s with toks := s.toks + 1 }) : wpAny (model prog w) A (binaryOp .BitAnd (.int z t) (.int a u)) Q E s :=
  and_int (by rw [e]; exact h)
theorem idiv64 (hV : VB V) (e : V.fdiv 64 = r) (h : Q (.int r s.toks) { s with toks := s.toks + 1 }) : wpAny (model prog w) A (inplaceOp .FloorDiv (.int V t) (.int 64 u)) Q E s :=
  ifloordiv_int (by decide) (by rw [e]; exact h)
theorem div64 (hV : VB V) (h : Q (.int (V.fdiv 64) s.toks) { s with toks := s.toks + 1 }) : wpAny (model prog w) A (binaryOp .FloorDiv (.int V t) (.int 64 u)) Q E s :=
  floordiv_int (by decide) h
theorem mod64 {a : Int} (e : a.fmod 64 = r) (h : Q (.int r s.toks) { s with toks := s.toks + 1 }) : wpAny (model prog w) A (binaryOp .Mod (.int a t) (.int 64 u)) Q E s :=
  mod_int (by decide) (by rw [e]; exact h)
end
end Mine
end
-- CS
section
open PySem PySem.W PyProof.Rows PySem.Calls PySem.Spec
namespace Mine
theorem mem_fs {env : Env} {L b : Addr} {outer : List Env} (hf : env.frame = some L) (hm : b ∈ (env :: outer).filterMap (·.frame)) : b = L ∨ b ∈ outer.filterMap (·.frame) := by
  rw [List.filterMap_cons_some hf] at hm
  exact List.mem_cons.mp hm
/-- what a call's end leaves is new to the caller too: what the caller had stands, slots apart -/
theorem news_back {fs : List Addr} {h₀ g g' H : Heap} {L L' : Addr} {oL : Obj} {l : List (Addr × Obj)} (T : KtsTurn fs g g') (st : ∀ b o, h₀.get? b = some o → g.get? b = some o) (hL : g.get? L = some oL) (N : News g' L' H l) : News h₀ L H l := fun p hp => by
  have old : ∀ b o, g.get? b = some o → p.1 ≠ b := fun b o e q => by
    obtain ⟨sl, z⟩ := T.up e
    rw [← q, (N p hp).2.2] at z
    cases z
  exact ⟨(N p hp).1, old L oL hL, Option.eq_none_iff_forall_ne_some.mpr fun o e => old _ o (st _ o e) rfl⟩
/-- the ledger, seen from the heap that the callee starts from -/
theorem news_deep {h₀ H h₁ : Heap} {L L' : Addr} {news : List (Addr × Obj)} (N : News h₀ L H news) (k : ∀ b o, H.get? b = some o → h₁.get? b = some o) (hL' : L' = H.objs.size) : News (hideAll H (news.map (·.1))) L' h₁ news := fun p hp =>
  ⟨k _ _ (N p hp).1, fun q => Nat.ne_of_lt (Heap.lt_size (N p hp).1) (q.trans hL'), hideAll_none _ (List.mem_map_of_mem hp)⟩
section
variable {prog : Program} {w : World} {A₀ A : Around} {s : Shared} {base h₀ : Heap} {outer : List Env} {env : Env} {L : Addr} {m : Str → Option Value} {news : List (Addr × Obj)} {K : Frag} {p : Program} {loose : List Str} {mean : ExcName → Option Value} {mg mb : Str → Option Value}
    {R : Result → Shared → Prop} {name qual : Str} {params : Arguments} {body : List Stmt} {scope : Scope} {dV kV doc pm cdv ct oc : Value} {an od : Option Addr} {osl : Array (Option Value)} {f : Addr} {args : Args} {binds : List (Str × Value)}
theorem dicts_in {g : Heap} (F : Fr h₀ L g m) (D : KtsDicts (outer.filterMap (·.frame)) h₀) (hf : env.frame = some L) : KtsDicts ((env :: outer).filterMap (·.frame)) g := fun b hb => by
  obtain ⟨o, es, n, ho, hd, _⟩ := F.ns
  rcases mem_fs hf hb with rfl | hb
  · exact ⟨o, es, n, ho, hd⟩
  · obtain ⟨o, es, n, ho, hd⟩ := D b hb
    exact ⟨o, es, n, F.keep _ _ ho, hd⟩
/-- the return of a call in which the frames below have turned -/
theorem back_turned {g g' H : Heap} {L' : Addr} {m' : Str → Option Value} {l : List (Addr × Obj)} (B : Below A₀ base outer h₀) (F : Fr h₀ L g m) (XB : K.In base) (TB : Top p loose mean mg mb base) (D : KtsDicts (outer.filterMap (·.frame)) h₀) (hf : env.frame = some L)
    (T : KtsTurn ((env :: outer).filterMap (·.frame)) g g') (F' : Fr g' L' H m') (N' : News g' L' H l) :
    ∃ h₀', KtsTurn (outer.filterMap (·.frame)) h₀ h₀' ∧ Fr h₀' L H m ∧ News h₀' L H l ∧ Below A₀ base outer h₀' ∧ K.In h₀' ∧ Top p loose mean mg mb h₀' ∧ KtsDicts (outer.filterMap (·.frame)) h₀' := by
  obtain ⟨oL, es, n, hL, hd, hk, hh⟩ := F.ns
  obtain ⟨sL, eL⟩ := T.up hL
  have up : ∀ b o, h₀.get? b = some o → ∃ sl, H.get? b = some { o with slots := sl } := fun b o e => (T.up (F.keep b o e)).imp fun _ z => F'.keep _ _ z
  have same : ∀ b o, h₀.get? b = some o → b ∉ outer.filterMap (·.frame) → H.get? b = some o := fun b o e q =>
    F'.keep b o (T.other b o (F.keep b o e) fun z => (mem_fs hf z).elim (fun z => by rw [z, kts_self F] at e; cases e) q)
  obtain ⟨T₁, S₁⟩ := kts_turn_at (fun b hb => (B.frames.mem hb).2.imp fun _ z => z.1) same fun b o e _ => up b o e
  have N₁ := news_back T F.keep hL N'
  have B₁ : Below A₀ base outer (ktsHeap H (outer.filterMap (·.frame)) h₀) := by
    refine ⟨B.stack, fun b o e => T₁.other b o (B.stays b o e) fun q => (nomatch (B.frames.mem q).1.symm.trans e), B.frames.of_keeps fun b o e _ => ?_⟩
    exact (T₁.up e).elim fun _ z => ⟨_, z, rfl⟩
  exact ⟨_, T₁, ⟨⟨_, es, n, F'.keep _ _ eL, hd, hk, hh⟩, S₁, T₁.size ▸ F.above⟩, fun p hp => ⟨(N₁ p hp).1, (N₁ p hp).2.1, T₁.none_ _ (N₁ p hp).2.2⟩, B₁, XB.keeps B₁.stays, TB.keeps B₁.stays, D.turn T₁⟩
/-- a call whose body may catch: the frames below may have turned -/
theorem enterS (B : Below A₀ base outer h₀) (F : Fr h₀ L s.heap m) (X₀ : K.In h₀) (N : News h₀ L s.heap news) (T : Top p loose mean mg mb h₀) (XB : K.In base) (TB : Top p loose mean mg mb base) (D : KtsDicts (outer.filterMap (·.frame)) h₀)
    (hA : A.frames = some (env :: outer)) (hf : env.frame = some L) (hke : env.scope.kind = .function)
    (ho : K.lookup f = some ⟨oc, od, .func (fnOf name qual params body scope dV kV doc pm an cdv ct), osl⟩) (hcd : codeIn K cdv qual = true) (hroom : A.depth < recursionLimit)
    (hbind : BindsTo s (fnOf name qual params body scope dV kV doc pm an cdv ct) args binds) (hloc : ∀ y ∈ binds, scope.names.lookup y.1 = some .local)
    (h : ∀ g L' h₁, Fr h₀ L g m → Fr g L' h₁ (fun y => binds.reverse.lookup y) → News g L' h₁ news → Below A base (env :: outer) g → K.In g → Top p loose mean mg mb g → KtsDicts ((env :: outer).filterMap (·.frame)) g →
      wpAny (model prog w) (A.deeper (envOf qual scope L' f cdv)) (execs body (envOf qual scope L' f cdv))
        (fun fl s' => LeaveS ((env :: outer).filterMap (·.frame)) A₀ base outer K p loose mean mg mb h₀ h₀ L m g R (match fl with | .ret v => v | _ => .none) s')
        (fun e s' => wpAny (model prog w) (A.deeper (envOf qual scope L' f cdv)) (leaving (envOf qual scope L' f cdv) e) (fun _ s'' => R (.error e) s'') (fun e' s'' => R (.error e') s'') s')
        { s with heap := h₁, toks := s.toks + binds.length })
    (hco : scope.isCoroutine = false) (hgen : scope.isGenerator = false) (hk : scope.kind = .function)
    (hcell : ∀ x ∈ scope.names, x.2 ≠ .cell) : codeAny (model prog w) A (.call (.ref f) args) R s := by
  have X := X₀.keeps F.keep
  obtain ⟨FG, BG, st, back⟩ := groundX (R := R) B F N hA hf hke
  refine codeAny_call_def (fd := fnOf name qual params body scope dV kV doc pm an cdv ct) hroom (X _ _ ho) rfl (T.nolimit.keeps F.keep) (codeRec_of X hcd) rfl hbind hcell hloc (fun h₁ ns keep => ?_) hco hgen hk
  refine wpAny_mono (h _ _ h₁ FG ⟨ns, fun b o e => keep b o (of_hideAll _ e), ?_⟩ (news_deep N keep rfl) BG (X₀.keeps st) (T.keeps st) (dicts_in FG D hf)) (fun fl s' hl => ?_) fun _ _ y => y
  · rw [hideAll_size]; exact Nat.le_refl _
  rcases hl with hl | ⟨g', L', m', l, T', F', N', k⟩
  · exact back _ _ hl
  · obtain ⟨h₀', a1, a2, a3, a4, a5, a6, a7⟩ := back_turned B FG XB TB D hf T' F' N'
    exact k h₀' a1 a2 a3 a4 a5 a6 a7
end
end Mine
namespace Mine
/-- a contract for a function that catches: the frames below may have turned at its return -/
def CtS (w : World) (k : Nat) (f : Addr) (vs : List Value) (news : List (Addr × Obj)) (post : Value → List (Addr × Obj) → Prop) : Prop :=
  ∀ (p₉ : Program) (lo₉ : List Str) (mean : ExcName → Option Value) (mg mb : Str → Option Value) (dp un : Nat) (gd : Option (List Code)) (cn : Str) (cs : Scope) (a : Addr) (ccd : Value) (cl : List (Str × Addr)) (outer : List Env) (A₀ : Around) (base h₀ : Heap) (L : Addr) (m : Str → Option Value) (hp9 : Heap) (gs9 : Array GenState) (dr9 : Drawn) (tk9 : Nat) (os9 : OsState) (Q E : Value → Shared → Prop),
    Below A₀ base outer h₀ → Fr h₀ L hp9 m → (hd.heap_1 w.params).In h₀ → News h₀ L hp9 news → Top p₉ lo₉ mean mg mb h₀ → (hd.heap_1 w.params).In base → Top p₉ lo₉ mean mg mb base → KtsDicts (outer.filterMap (·.frame)) h₀ →
    cs.kind = .function → dp + k < recursionLimit → un + 10 * k < cLine →
    (∀ r tl h' tk' h₀', KtsTurn (outer.filterMap (·.frame)) h₀ h₀' → Fr h₀' L h' m → News h₀' L h' (tl ++ news) → Below A₀ base outer h₀' → (hd.heap_1 w.params).In h₀' → Top p₉ lo₉ mean mg mb h₀' → KtsDicts (outer.filterMap (·.frame)) h₀' → post r tl → Q r ⟨h', gs9, dr9, tk', os9⟩) →
    wpAny (model PG w) (ktrTop dp un gd cn cs L a ccd cl outer) (call (.ref f) vs) Q E ⟨hp9, gs9, dr9, tk9, os9⟩
end Mine
end
-- LA
namespace Mine
def cpre (p q p' q' : Nat) : Nat := if p = p' then p + min q q' else min p p'
theorem cpre_go {p q p' q' k : Nat} (h : k < cpre p q p' q') : k < p + q ∧ k < p' + q' ∧ (k < p ↔ k < p') := by
  unfold cpre at h
  split at h
  · next e => subst e; exact ⟨by omega, by omega, Iff.rfl⟩
  · exact ⟨by omega, by omega, ⟨fun _ => by omega, fun _ => by omega⟩⟩
theorem cpre_stop {p q p' q' : Nat} (h1 : cpre p q p' q' < p + q) (h2 : cpre p q p' q' < p' + q') : ¬(cpre p q p' q' < p ↔ cpre p q p' q' < p') := by
  unfold cpre at h1 h2 ⊢
  split at h1
  · next e => subst e; rw [if_pos rfl] at h2; omega
  · next e => rw [if_neg e]; omega
theorem ch_eq {c : Nat} {P R : Prop} [Decidable P] [Decidable R] (hc : 65 ≤ c) : ((P ↔ R) → (chr1 (if P then 32 else c) == chr1 (if R then 32 else c)) = true) ∧ (¬(P ↔ R) → (chr1 (if P then 32 else c) == chr1 (if R then 32 else c)) = false) := by
  rw [chr1_eq]
  have h : c ≠ 32 := fun e => absurd (e ▸ hc) (by decide)
  by_cases hP : P <;> by_cases hR : R <;> simp [hP, hR, h, Ne.symm h]
theorem ch_eq' {c : Nat} {P R : Prop} [Decidable P] [Decidable R] (hc : 65 ≤ c) : ((P ↔ R) → (chr1 (if P then c else 32) == chr1 (if R then c else 32)) = true) ∧ (¬(P ↔ R) → (chr1 (if P then c else 32) == chr1 (if R then c else 32)) = false) := by
  rw [chr1_eq]
  have h : c ≠ 32 := fun e => absurd (e ▸ hc) (by decide)
  by_cases hP : P <;> by_cases hR : R <;> simp [hP, hR, h, Ne.symm h]
/-- the ways of a turn -/
theorem ways {K A B : Nat} {e : Bool} {k : Nat} (hk : k ≤ K) (go : k < K → k < A ∧ k < B ∧ e = true) (stop : k = K → k < A → k < B → e = false) :
    (¬ k < A ∧ k = K) ∨ (k < A ∧ ((¬ k < B ∧ k = K) ∨ (k < B ∧ ((e = false ∧ k = K) ∨ (e = true ∧ k < K))))) := by
  rcases Nat.lt_or_eq_of_le hk with h | h
  · exact .inr ⟨(go h).1, .inr ⟨(go h).2.1, .inr ⟨(go h).2.2, h⟩⟩⟩
  · by_cases h1 : k < A
    · by_cases h2 : k < B
      · exact .inr ⟨h1, .inr ⟨h2, .inl ⟨stop h h1 h2, h⟩⟩⟩
      · exact .inr ⟨h1, .inl ⟨h2, h⟩⟩
    · exact .inl ⟨h1, h⟩
theorem ways1 {p q p' q' c k : Nat} (hk : k ≤ cpre p q p' q') (hc : 65 ≤ c) : (¬ k < p + q ∧ k = cpre p q p' q') ∨ (k < p + q ∧ ((¬ k < p' + q' ∧ k = cpre p q p' q') ∨ (k < p' + q' ∧ (((chr1 (if k < p then 32 else c) == chr1 (if k < p' then 32 else c)) = false ∧ k = cpre p q p' q') ∨ ((chr1 (if k < p then 32 else c) == chr1 (if k < p' then 32 else c)) = true ∧ k < cpre p q p' q'))))) :=
  ways hk (fun h => ⟨(cpre_go h).1, (cpre_go h).2.1, (ch_eq hc).1 (cpre_go h).2.2⟩) fun e h1 h2 => (ch_eq hc).2 (by subst e; exact cpre_stop h1 h2)
theorem ways2 {p q p' q' c k : Nat} (hk : k ≤ min q q') (hc : 65 ≤ c) (h0 : p = 0 ∨ p' = 0) : (¬ k < p + q ∧ k = min q q') ∨ (k < p + q ∧ ((¬ k < p' + q' ∧ k = min q q') ∨ (k < p' + q' ∧ (((chr1 (if k + 1 ≤ q then c else 32) == chr1 (if k + 1 ≤ q' then c else 32)) = false ∧ k = min q q') ∨ ((chr1 (if k + 1 ≤ q then c else 32) == chr1 (if k + 1 ≤ q' then c else 32)) = true ∧ k < min q q'))))) := by
  refine ways hk (fun h => ?_) fun e h1 h2 => (ch_eq' hc).2 ?_
  · have h1 := Nat.lt_of_lt_of_le h (Nat.min_le_left _ _)
    have h2 := Nat.lt_of_lt_of_le h (Nat.min_le_right _ _)
    exact ⟨Nat.lt_of_lt_of_le h1 (Nat.le_add_left _ _), Nat.lt_of_lt_of_le h2 (Nat.le_add_left _ _), (ch_eq' hc).1 ⟨fun _ => h2, fun _ => h1⟩⟩
  · clear hk hc; omega
def cutL (p q k c : Nat) : Str := blk (p - k) (q - (k - p)) c
def cutR (p q k c : Nat) : Str := blk (p - (k - q)) (q - k) c
theorem cutL_len (p q k : Nat) : (p - k) + (q - (k - p)) = p + q - k := by
  rcases Nat.le_total k p with h | h
  · rw [Nat.sub_eq_zero_of_le h, Nat.sub_zero, Nat.sub_add_comm h]
  · rw [Nat.sub_eq_zero_of_le h, Nat.zero_add, Nat.sub_sub_right q h, Nat.add_comm]
theorem cutR_len (p q k : Nat) : (p - (k - q)) + (q - k) = p + q - k := by
  rw [Nat.add_comm p q, Nat.add_comm (p - (k - q))]
  exact cutL_len q p k
section
variable {prog : Program} {w : World} {A : Around} {E : Value → Shared → Prop} {s : Shared} {value slice : Expr} {p q c k : Nat} {t ui : Tok} {i : Int} {h₀ : Heap} {L : Addr} {m : Str → Option Value} {news : List (Addr × Obj)} {Q : Value → Shared → Prop} {R : Bool → Shared → Prop}
theorem sl_pre (hi : i = (k : Int)) (hF : Fr h₀ L s.heap m) (hN : News h₀ L s.heap news) (hz : p + q ≤ 4000)
    (h : ∀ h' t' k', Fr h₀ L h' m → News h₀ L h' news → Q (.str (cutL p q k c) t') { s with heap := h', toks := k' })
    (hs : subscripted slice false (.str (blk p q c) t) (.ref s.heap.objs.size) = operate [.ref s.heap.objs.size, .str (blk p q c) t] (getItem (.str (blk p q c) t) (.ref s.heap.objs.size)) := by with_unfolding_all rfl)
    (ht : ∀ r, letTemporaryGo value (.str (blk p q c) t) r = pure () := by intro _; with_unfolding_all rfl) :
    wpAny (model prog w) A (subscriptTail value slice (.str (blk p q c) t) (.ref s.heap.objs.size)) Q E { s with heap := s.heap.push { cls := .type "slice", data := .fields #[.int i ui, .none, .none] } } := by
  subst hi
  exact slice_blk_sn hF hN (Int.natCast_nonneg k) hz h hs ht
theorem sl_post (hi : i = -(k : Int)) (h0 : i ≠ 0) (hk : k ≤ p + q) (hF : Fr h₀ L s.heap m) (hN : News h₀ L s.heap news) (hz : p + q ≤ 4000)
    (h : ∀ h' t' k', Fr h₀ L h' m → News h₀ L h' news → Q (.str (cutR p q k c) t') { s with heap := h', toks := k' })
    (hs : subscripted slice false (.str (blk p q c) t) (.ref s.heap.objs.size) = operate [.ref s.heap.objs.size, .str (blk p q c) t] (getItem (.str (blk p q c) t) (.ref s.heap.objs.size)) := by with_unfolding_all rfl)
    (ht : ∀ r, letTemporaryGo value (.str (blk p q c) t) r = pure () := by intro _; with_unfolding_all rfl) :
    wpAny (model prog w) A (subscriptTail value slice (.str (blk p q c) t) (.ref s.heap.objs.size)) Q E { s with heap := s.heap.push { cls := .type "slice", data := .fields #[.none, .int i ui, .none] } } := by
  have e : (-i).toNat = k := by subst hi; rw [Int.neg_neg, Int.toNat_natCast]
  refine slice_blk_ns hF hN (by subst hi; omega) (by rw [e]; exact hk) hz ?_ hs ht
  rw [e]; exact h
theorem sl_none (hi : i = -(k : Int)) (h0 : i = 0) (hF : Fr h₀ L s.heap m) (hN : News h₀ L s.heap news) (hz : p + q ≤ 4000)
    (h : ∀ h' t' k', Fr h₀ L h' m → News h₀ L h' news → Q (.str (cutR p q k c) t') { s with heap := h', toks := k' })
    (hs : subscripted slice false (.str (blk p q c) t) (.ref s.heap.objs.size) = operate [.ref s.heap.objs.size, .str (blk p q c) t] (getItem (.str (blk p q c) t) (.ref s.heap.objs.size)) := by with_unfolding_all rfl)
    (ht : ∀ r, letTemporaryGo value (.str (blk p q c) t) r = pure () := by intro _; with_unfolding_all rfl) :
    wpAny (model prog w) A (subscriptTail value slice (.str (blk p q c) t) (.ref s.heap.objs.size)) Q E { s with heap := s.heap.push { cls := .type "slice", data := .fields #[.none, .none, .none] } } := by
  obtain rfl : k = 0 := by subst hi; omega
  have e : cutR p q 0 c = blk p q c := by unfold cutR; rw [Nat.zero_sub, Nat.sub_zero, Nat.sub_zero]
  rw [e] at h
  exact slice_blk_nn hF hN hz h hs ht
theorem it_pre {u : Tok} (hi : i = (k : Int)) (h1 : k < p + q) (hz : p + q ≤ 4000) (h : ∀ t' k', Q (.str (chr1 (if k < p then 32 else c)) t') { s with toks := k' })
    (hs : subscripted slice false (.str (blk p q c) t) (.int i u) = operate [.str (blk p q c) t, .int i u] (getItem (.str (blk p q c) t) (.int i u)) := by with_unfolding_all rfl)
    (ht : ∀ r, letTemporaryGo value (.str (blk p q c) t) r = pure () := by intro _; with_unfolding_all rfl) :
    wpAny (model prog w) A (subscriptTail value slice (.str (blk p q c) t) (.int i u)) Q E s := by
  subst hi
  exact item_blk (Int.natCast_nonneg k) (Int.ofNat_lt.mpr h1) hz (h _ _) hs ht
theorem it_post {u : Tok} (hi : i = -(k : Int)) (h1 : k < p + q) (hz : p + q ≤ 4000) (h : ∀ t' k', Q (.str (chr1 (if k + 1 ≤ q then c else 32)) t') { s with toks := k' })
    (hs : subscripted slice false (.str (blk p q c) t) (.int (i - 1) u) = operate [.str (blk p q c) t, .int (i - 1) u] (getItem (.str (blk p q c) t) (.int (i - 1) u)) := by with_unfolding_all rfl)
    (ht : ∀ r, letTemporaryGo value (.str (blk p q c) t) r = pure () := by intro _; with_unfolding_all rfl) :
    wpAny (model prog w) A (subscriptTail value slice (.str (blk p q c) t) (.int (i - 1) u)) Q E s := by
  have e : (-(i - 1)).toNat = k + 1 := by subst hi; omega
  refine item_blk_neg (by subst hi; omega) (by rw [e]; exact h1) hz ?_ hs ht
  rw [e]; exact h _ _
theorem tr_L (h1 : k < p + q) (hz : p + q ≤ 4000) (h : ∀ k', R true { s with toks := k' }) : wpAny (model prog w) A (truthy (.str (cutL p q k c) t)) R E s :=
  truthy_blk_T (by rw [cutL_len]; omega) (by rw [cutL_len]; omega) (h _)
theorem tr_L' (h1 : ¬ k < p + q) (h : ∀ k', R false { s with toks := k' }) : wpAny (model prog w) A (truthy (.str (cutL p q k c) t)) R E s :=
  truthy_blk_F (by rw [cutL_len]; omega) (h _)
theorem tr_R (h1 : k < p + q) (hz : p + q ≤ 4000) (h : ∀ k', R true { s with toks := k' }) : wpAny (model prog w) A (truthy (.str (cutR p q k c) t)) R E s :=
  truthy_blk_T (by rw [cutR_len]; omega) (by rw [cutR_len]; omega) (h _)
theorem tr_R' (h1 : ¬ k < p + q) (h : ∀ k', R false { s with toks := k' }) : wpAny (model prog w) A (truthy (.str (cutR p q k c) t)) R E s :=
  truthy_blk_F (by rw [cutR_len]; omega) (h _)
end
/-- behind the first loop -/
theorem cut1_ways {p q p' q' : Nat} (hp : p + q ≤ 200) (hp' : p' + q' ≤ 200) :
    ∃ p1 q1 p1' q1' : Nat, (∀ c, cutL p q (cpre p q p' q') c = blk p1 q1 c) ∧ (∀ c, cutL p' q' (cpre p q p' q') c = blk p1' q1' c) ∧ (p1 = 0 ∨ p1' = 0) ∧ (p1 = 0 → p1' = 0 → q1 = 0 ∨ q1' = 0) ∧ (p1 : Int) - (p1' : Int) = (p : Int) - p' ∧ (q1 : Int) - (q1' : Int) = (q : Int) - q' ∧ p1 + q1 ≤ 200 ∧ p1' + q1' ≤ 200 := by
  refine ⟨_, _, _, _, fun _ => rfl, fun _ => rfl, ?_⟩
  unfold cpre
  split
  · next e =>
    subst e
    rw [Nat.sub_eq_zero_of_le (Nat.le_add_right _ _), Nat.add_sub_cancel_left]
    rcases Nat.le_total q q' with h | h
    · rw [Nat.min_eq_left h, Nat.sub_self]
      refine ⟨.inl rfl, fun _ _ => .inl rfl, (Int.sub_self _).symm, ?_, Nat.zero_le _, ?_⟩ <;> omega
    · rw [Nat.min_eq_right h, Nat.sub_self]
      refine ⟨.inl rfl, fun _ _ => .inr rfl, (Int.sub_self _).symm, ?_, ?_, Nat.zero_le _⟩ <;> omega
  · next e =>
    rcases Nat.lt_or_gt_of_ne e with h | h
    · rw [Nat.min_eq_left (Nat.le_of_lt h), Nat.sub_self, Nat.sub_zero, Nat.sub_eq_zero_of_le (Nat.le_of_lt h), Nat.sub_zero]
      refine ⟨.inl rfl, fun _ _ => ?_, ?_, rfl, ?_, ?_⟩ <;> omega
    · rw [Nat.min_eq_right (Nat.le_of_lt h), Nat.sub_self, Nat.sub_zero, Nat.sub_eq_zero_of_le (Nat.le_of_lt h), Nat.sub_zero]
      refine ⟨.inr rfl, fun _ _ => ?_, ?_, rfl, ?_, ?_⟩ <;> omega
theorem cut2_ways {p q p' q' : Nat} (hp : p + q ≤ 200) (hp' : p' + q' ≤ 200) :
    ∃ q2 q2' : Nat, (∀ c, cutR p q (min q q') c = blk p q2 c) ∧ (∀ c, cutR p' q' (min q q') c = blk p' q2' c) ∧ (q2 = 0 ∨ q2' = 0) ∧ (q2 : Int) - (q2' : Int) = (q : Int) - q' ∧ p + q2 ≤ 200 ∧ p' + q2' ≤ 200 := by
  refine ⟨q - min q q', q' - min q q', fun _ => ?_, fun _ => ?_, ?_⟩
  · unfold cutR; rw [Nat.sub_eq_zero_of_le (Nat.min_le_left _ _), Nat.sub_zero]
  · unfold cutR; rw [Nat.sub_eq_zero_of_le (Nat.min_le_right _ _), Nat.sub_zero]
  · rcases Nat.le_total q q' with h | h
    · rw [Nat.min_eq_left h, Nat.sub_self]
      refine ⟨.inl rfl, ?_, ?_, ?_⟩ <;> omega
    · rw [Nat.min_eq_right h, Nat.sub_self]
      refine ⟨.inr rfl, ?_, ?_, ?_⟩ <;> omega
end Mine
-- LV3
theorem Mine.top_offLV3 : True := by
  w_top off
  exact trivial
namespace Mine
theorem cost_ct {w : World} (u v : Str) (tx ty : Tok) (news : List (Addr × Obj)) (h1 : (u == v) = false) (h2 : (Txt.lower u == Txt.lower v) = false) (l1 : u.length = 1) (l2 : v.length = 1) :
    Ct w 2 28 [.str u tx, .str v ty] news (fun r tl => tl = [] ∧ ∃ t, r = .int 2 t) := by
  unfold Ct
  intro p₉ lo₉ mean mg mb dp un gd cn cs a ccd cl outer A₀ base h₀ L m hp9 gs9 dr9 tk9 os9 Q E B F X N T hk hd hu hret
  refine wpAny_call ?_
  k_dflt cell_enter
  refine set_e ?_
  intro e9 A9
  have qd9 : A9.depth = dp + 1 := rfl
  have qu9 : A9.units = un + 3 := rfl
  repeat' (first | ((with_reducible refine Jb ?_); (try dsimp only)) | (with_reducible first | refine Jc ?_ | refine Jh ?_ | refine Ji ?_ | refine Jj ?_ | refine Jn ?_) | ((with_reducible refine' ld_ ?zF ?zv ?zl ?zb ?_); (case zl | zb => exact rfl); (case zF => assumption); (case zv => exact rfl)) | (with_reducible first | refine if_ ?_ | refine cmp_ ?_) | ((with_reducible refine Jr (by with_reducible assumption) ?_); intro mC FC EC QC tC) | (k_unfold; (try dsimp only)) | walk1)
  refine hret _ [] _ _ (by k_asm) (by k_asm) ⟨rfl, _, rfl⟩
/-- the row of the table behind i turns; within a turn, behind j places -/
def rowL (M i : Nat) : List Int := (List.range M).map fun (j : Nat) => 2 * max (i : Int) ((j : Int) + 1)
def rowM (M i j : Nat) : List Int := (List.range M).map fun (l : Nat) => if l < j then 2 * max ((i : Int) + 1) ((l : Int) + 1) else 2 * max (i : Int) ((l : Int) + 1)
theorem rowL_zero (M : Nat) : rowL M 0 = rangeInts 2 2 M := by
  unfold rowL rangeInts
  apply List.map_congr_left
  intro j _; omega
theorem rowM_zero (M i : Nat) : rowM M i 0 = rowL M i := by
  unfold rowL rowM
  apply List.map_congr_left
  intro j _; rw [if_neg (Nat.not_lt_zero _)]
theorem rowM_last (M i : Nat) : rowM M i M = rowL M (i + 1) := by
  unfold rowL rowM
  apply List.map_congr_left
  intro j hj; rw [if_pos (List.mem_range.mp hj)]; rfl
theorem rowM_len (M i j : Nat) : (rowM M i j).length = M := by simp [rowM]
theorem rowM_at (M i j : Nat) (h : j < M) : (rowM M i j).getD j 0 = 2 * max (i : Int) ((j : Int) + 1) := by
  simp [rowM, List.getD_eq_getElem?_getD, h]
theorem rowM_set (M i j : Nat) (_h : j < M) : (rowM M i j).set j (2 * max ((i : Int) + 1) ((j : Int) + 1)) = rowM M i (j + 1) := by
  apply List.ext_getElem
  · simp [rowM]
  · intro l h1 h2
    simp only [rowM, List.getElem_set, List.getElem_map, List.getElem_range]
    by_cases hl : j = l
    · subst hl; rw [if_pos rfl, if_pos (Nat.lt_succ_self _)]
    · rw [if_neg hl]
      by_cases h3 : l < j
      · rw [if_pos h3, if_pos (Nat.lt_succ_of_lt h3)]
      · rw [if_neg h3, if_neg (by omega)]
section
variable {prog : Program} {w : World} {A : Around} {E : Value → Shared → Prop} {s : Shared} {h₀ : Heap} {L row : Addr} {m : Str → Option Value} {nx : List (Addr × Obj)} {vs : List Value} {M i j c4 : Nat} {x a b v : Int} {t u : Tok}
theorem row_get {value slice : PySem.Expr} {Q : Value → Shared → Prop} (N : News h₀ L s.heap ((row, listOf vs.toArray c4) :: nx)) (hI : IntsAre vs (rowM M i j)) (hj : j < M) (hM : M ≤ 30) (h : ∀ t, Q (.int (2 * max (i : Int) ((j : Int) + 1)) t) s)
    (hs : subscripted slice false (.ref row) (.int (0 + (j : Int)) u) = operate [.ref row, .int (0 + (j : Int)) u] (getItem (.ref row) (.int (0 + (j : Int)) u)) := by with_unfolding_all rfl) :
    wpAny (model prog w) A (subscriptTail value slice (.ref row) (.int (0 + (j : Int)) u)) Q E s := by
  have hj0 : (0 + (j : Int)).toNat = j := by rw [Int.zero_add, Int.toNat_natCast]
  refine ksa_sub N (.head _) hI (by omega) (by rw [rowM_len]; omega) (by omega) (fun t => ?_) hs
  rw [hj0, rowM_at M i j hj]
  exact h t
theorem row_set {Q : Unit → Shared → Prop} (F : Fr h₀ L s.heap m) (N : News h₀ L s.heap ((row, listOf vs.toArray c4) :: nx)) (hI : IntsAre vs (rowM M i j)) (hj : j < M) (hM : M ≤ 30) (hr : ∀ p ∈ nx, p.1 ≠ row)
    (h : ∀ h' vs', Fr h₀ L h' m → News h₀ L h' ((row, listOf vs'.toArray c4) :: nx) → IntsAre vs' (rowM M i (j + 1)) → Q () { s with heap := h' }) :
    wpAny (model prog w) A (setItem (.ref row) (.int (0 + (j : Int)) t) (.int (2 * max ((i : Int) + 1) ((j : Int) + 1)) u)) Q E s := by
  have hj0 : (0 + (j : Int)).toNat = j := by rw [Int.zero_add, Int.toNat_natCast]
  refine ksa_set F N (.head hr) hI (by omega) (by rw [rowM_len]; omega) (by omega) fun h' F' N' hi' _ _ => h h' _ F' N' ?_
  rw [hj0, rowM_set M i j hj] at hi'
  rw [hj0]
  exact hi'
theorem min_two {Q : Value → Shared → Prop} (hh : A.handled = none) (F : Fr h₀ L s.heap m) (N : News h₀ L s.heap nx) (hv : (if b < a then b else a) = v)
    (h : ∀ h' tk t', Fr h₀ L h' m → News h₀ L h' nx → Q (.int v t') { s with heap := h', toks := tk }) :
    wpAny (model prog w) A (call (.builtin "min") [.int a t, .int b u]) Q E s :=
  min_two_N hh F N fun h' tk F' N' => by rw [hv]; exact h h' tk _ F' N'
end
theorem cellM {d m : Int} (h : d ≤ m) : (if d + 2 < m + 2 then d + 2 else m + 2) = d + 2 := by
  split
  · rfl
  · next h' => exact congrArg (· + 2) (Int.le_antisymm (Int.le_of_add_le_add_right (Int.not_lt.mp h')) h)
theorem cellG {d x r : Int} (hx : d ≤ x) (hr : d ≤ r) : (if d + 2 < (if x < r then x else r) + 2 then d + 2 else (if x < r then x else r) + 2) = d + 2 := cellM (by split <;> assumption)
theorem max_up (i j : Int) : max (i + 1) (j + 1) = max i j + 1 := by
  rcases Int.le_total i j with h | h
  · rw [Int.max_eq_right h, Int.max_eq_right (Int.add_le_add_right h 1)]
  · rw [Int.max_eq_left h, Int.max_eq_left (Int.add_le_add_right h 1)]
theorem two_le {a b : Int} (h : a ≤ b) : 2 * a ≤ 2 * b := Int.mul_le_mul_of_nonneg_left h (by decide)
theorem up_le (j : Int) : j ≤ j + 1 := Int.le_of_lt (Int.lt_succ j)
theorem cellV {i j : Nat} {r d : Int} (hr : r = if j = 0 then 2 * (i : Int) else 2 * max ((i : Int) + 1) j) (hd : d = 2 * max (i : Int) j) :
    (if d + 2 < (if 2 * max (i : Int) ((j : Int) + 1) < r then 2 * max (i : Int) ((j : Int) + 1) else r) + 2 then d + 2 else (if 2 * max (i : Int) ((j : Int) + 1) < r then 2 * max (i : Int) ((j : Int) + 1) else r) + 2) = 2 * max ((i : Int) + 1) ((j : Int) + 1) := by
  have h1 : d ≤ 2 * max (i : Int) ((j : Int) + 1) := hd ▸ two_le (Int.max_le.mpr ⟨Int.le_max_left _ _, Int.le_trans (up_le _) (Int.le_max_right _ _)⟩)
  have h2 : d ≤ r := by
    rw [hd, hr]
    split
    · next h => rw [h]; exact two_le (Int.max_le.mpr ⟨Int.le_refl _, Int.natCast_nonneg i⟩)
    · exact two_le (Int.max_le.mpr ⟨Int.le_trans (up_le _) (Int.le_max_left _ _), Int.le_max_right _ _⟩)
  rw [cellG h1 h2, hd, max_up, Int.mul_add]; rfl
theorem minT {i j : Nat} {mn : Int} (hm : mn = if j = 0 then 9223372036854775807 else 2 * ((i : Int) + 1)) (h : 2 * max ((i : Int) + 1) ((j : Int) + 1) < mn) : 2 * max ((i : Int) + 1) ((j : Int) + 1) = if j + 1 = 0 then 9223372036854775807 else 2 * ((i : Int) + 1) := by
  rw [if_neg (Nat.succ_ne_zero _)]
  by_cases h0 : j = 0
  · subst h0; omega
  · rw [if_neg h0] at hm; omega
theorem minF {i j : Nat} {mn : Int} (hi : i ≤ 30) (hj : j ≤ 30) (hm : mn = if j = 0 then 9223372036854775807 else 2 * ((i : Int) + 1)) (h : ¬ 2 * max ((i : Int) + 1) ((j : Int) + 1) < mn) : mn = if j + 1 = 0 then 9223372036854775807 else 2 * ((i : Int) + 1) := by
  rw [if_neg (Nat.succ_ne_zero _)]
  by_cases h0 : j = 0
  · subst h0; rw [if_pos rfl] at hm; omega
  · rw [if_neg h0] at hm; exact hm
theorem resN (i j : Nat) : 2 * max ((i : Int) + 1) ((j : Int) + 1) = if j + 1 = 0 then 2 * (i : Int) else 2 * max ((i : Int) + 1) ((j + 1 : Nat) : Int) := by
  rw [if_neg (Nat.succ_ne_zero _)]; rfl
theorem ans_eq {v n D : Int} (e : v = D) : (D ≤ n → v = D) ∧ (n < D → n < v) := ⟨fun _ => e, fun h => e ▸ h⟩
theorem ans_gt {n D : Int} (h : n < D) : (D ≤ n → n + 1 = D) ∧ (n < D → n < n + 1) := ⟨fun e => absurd h (Int.not_lt.mpr e), fun _ => Int.lt_succ n⟩
theorem nat_abs (a : Nat) : ((a : Int).natAbs : Int) = a := by rw [Int.natAbs_natCast]
theorem hx_pp (a b : Nat) : hexn (a : Int) (b : Int) = (a : Int) + b := by
  unfold hexn
  rw [← Int.natCast_add, nat_abs, nat_abs, nat_abs, Int.natCast_add]
  exact Int.max_eq_right (Int.max_le.mpr ⟨Int.le_add_of_nonneg_right (Int.natCast_nonneg b), Int.le_add_of_nonneg_left (Int.natCast_nonneg a)⟩)
theorem hx_neg (x y : Int) : hexn (-x) (-y) = hexn x y := by
  unfold hexn
  rw [← Int.neg_add, Int.natAbs_neg, Int.natAbs_neg, Int.natAbs_neg]
theorem hx_pn (a b : Nat) : hexn (a : Int) (-(b : Int)) = max (a : Int) b := by
  unfold hexn
  rw [Int.natAbs_neg, nat_abs, nat_abs]
  exact Int.max_eq_left (by
    rcases Nat.le_total a b with h | h
    · have : ((a : Int) + -(b : Int)).natAbs = b - a := by rw [← Int.sub_eq_add_neg, ← Int.neg_sub, ← Int.ofNat_sub h, Int.natAbs_neg, Int.natAbs_natCast]
      rw [this]; exact Int.le_trans (Int.ofNat_le.mpr (Nat.sub_le _ _)) (Int.le_max_right _ _)
    · have : ((a : Int) + -(b : Int)).natAbs = a - b := by rw [← Int.sub_eq_add_neg, ← Int.ofNat_sub h, Int.natAbs_natCast]
      rw [this]; exact Int.le_trans (Int.ofNat_le.mpr (Nat.sub_le _ _)) (Int.le_max_left _ _))
theorem hx_np (a b : Nat) : hexn (-(a : Int)) (b : Int) = max (b : Int) a := by
  have := hx_neg (a : Int) (-(b : Int))
  rw [Int.neg_neg] at this
  rw [this, hx_pn, Int.max_comm]
theorem two_zero {p q : Nat} (h : p + q = 0) : p = 0 ∧ q = 0 := ⟨Nat.eq_zero_of_add_eq_zero_right h, Nat.eq_zero_of_add_eq_zero_left h⟩
theorem emp_hex {p q p' q' : Nat} (h : p + q = 0 ∨ p' + q' = 0) : 2 * (((p + q : Nat) : Int) + ((p' + q' : Nat) : Int)) = 2 * hexn ((p : Int) - p') ((q : Int) - q') := by
  rcases h with h | h
  · obtain ⟨rfl, rfl⟩ := two_zero h
    show 2 * (((0 : Nat) : Int) + _) = _
    rw [Int.natCast_zero, Int.zero_sub, Int.zero_sub, hx_neg, hx_pp, Int.zero_add, Int.natCast_add]
  · obtain ⟨rfl, rfl⟩ := two_zero h
    rw [Int.natCast_zero, Int.sub_zero, Int.sub_zero, hx_pp, Int.add_zero, Int.natCast_add]
theorem up30 {a : Nat} (h : (a : Int) - ((0 : Nat) : Int) ≤ 30) : a ≤ 30 := by rw [Int.natCast_zero, Int.sub_zero] at h; exact Int.ofNat_le.mp h
theorem lo30 {a : Nat} (h : -30 ≤ ((0 : Nat) : Int) - (a : Int)) : a ≤ 30 := by omega
theorem mk_ways {p q p' q' c : Nat} (h1 : p = 0 ∨ p' = 0) (h2 : q = 0 ∨ q' = 0) (ha : 0 < p + q) (hb : 0 < p' + q') (x1 : (p : Int) - p' ≤ 30) (x2 : -30 ≤ (p : Int) - p') (y1 : (q : Int) - q' ≤ 30) (y2 : -30 ≤ (q : Int) - q') :
    ∃ (M0 N0 c1 c2 : Nat), blk p q c = blk 0 M0 c1 ∧ blk p' q' c = blk 0 N0 c2 ∧ 0 < M0 ∧ 0 < N0 ∧ M0 ≤ 30 ∧ N0 ≤ 30 ∧ (c1 = 32 ∧ c2 = c ∨ c1 = c ∧ c2 = 32) ∧ 2 * hexn ((p : Int) - p') ((q : Int) - q') = 2 * max (M0 : Int) N0 := by
  by_cases h0 : p = 0
  · subst h0
    rw [Nat.zero_add] at ha
    obtain rfl : q' = 0 := h2.resolve_left (Nat.ne_of_gt ha)
    rw [Nat.add_zero] at hb
    exact ⟨q, p', c, 32, rfl, blk_blank _ _, ha, hb, up30 y1, lo30 x2, .inr ⟨rfl, rfl⟩, by rw [Int.natCast_zero, Int.zero_sub, Int.sub_zero, hx_np]⟩
  · obtain rfl : p' = 0 := h1.resolve_left h0
    rw [Nat.zero_add] at hb
    obtain rfl : q = 0 := h2.resolve_right (Nat.ne_of_gt hb)
    rw [Nat.add_zero] at ha
    exact ⟨p, q', 32, c, blk_blank _ _, rfl, ha, hb, up30 x1, lo30 y2, .inl ⟨rfl, rfl⟩, by rw [Int.natCast_zero, Int.zero_sub, Int.sub_zero, hx_pn]⟩
theorem lev_pre {p q p' q' c : Nat} (hc : 65 ≤ c ∧ c ≤ 90) (hp : p ≤ 100) (hq : q ≤ 100) (hp' : p' ≤ 100) (hq' : q' ≤ 100)
   (hx : p ≤ p' + 30) (hx' : p' ≤ p + 30) (hy : q ≤ q' + 30) (hy' : q' ≤ q + 30) :
   p + q ≤ 200 ∧ p' + q' ≤ 200 ∧ (p : Int) - p' ≤ 30 ∧ -30 ≤ (p : Int) - p' ∧ (q : Int) - q' ≤ 30 ∧ -30 ≤ (q : Int) - q' ∧ (¬(p = p' ∧ q = q') → (blk p q c == blk p' q' c) = false) := by
  refine ⟨by omega, by omega, by omega, by omega, by omega, by omega, fun h => ?_⟩
  rw [blk_eq _ _ _ _ _ (by omega)]; simp; omega
theorem negS {k : Nat} {z : Int} (h : z = -(k : Int)) : z - 1 = -((k + 1 : Nat) : Int) := by omega
theorem posS {k : Nat} {z : Int} (h : z = (k : Int)) : z + 1 = ((k + 1 : Nat) : Int) := by omega
theorem sub_lt {K k : Nat} (h : k < K) : K - (k + 1) < K - k := Nat.sub_lt_sub_left h (Nat.lt_succ_self _)
theorem hb4 {k : Nat} (h : k ≤ 200) : k ≤ 4000 := Nat.le_trans h (by decide)
theorem hb3 {k : Nat} (h : k ≤ 30) : 0 + k ≤ 4000 := by omega
theorem zadd {k : Nat} (h : 0 < k) : 0 < 0 + k := by omega
theorem big_n {k : Nat} (h : k ≤ 30) : ¬ (((0 + k : Nat) : Int) > 40) := by omega
theorem swp {M N : Nat} : (((0 + N : Nat) : Int) < ((0 + M : Nat) : Int)) ↔ N < M := by omega
theorem maxL {M N : Nat} (h : N < M) : (M : Int) = max (M : Int) N := by omega
theorem maxR {M N : Nat} (h : ¬ N < M) : (N : Int) = max (M : Int) N := by omega
theorem dfL {M N : Nat} {n : Int} (h : n < (((0 + N : Nat) : Int) - ((0 + M : Nat) : Int)) * 2) : n < 2 * (N : Int) := by omega
theorem idx {i N : Nat} (h : i < N) : 0 ≤ 0 + (i : Int) ∧ 0 + (i : Int) < ((0 + N : Nat) : Int) := by omega
theorem res0 (i : Nat) : (0 + (i : Int)) * 2 = if 0 = 0 then 2 * (i : Int) else 2 * max ((i : Int) + 1) ((0 : Nat) : Int) := by rw [if_pos rfl]; omega
theorem dis0 (i : Nat) : (0 + (i : Int)) * 2 = 2 * max (i : Int) ((0 : Nat) : Int) := by omega
theorem big2 {i N : Nat} {n mn : Int} (h : n < mn) (hm : mn = 2 * ((i : Int) + 1)) (hi : i < N) : n < 2 * (N : Int) := by omega
inductive LevP (D n : Int) : Value → List (Addr × Obj) → Prop
  | mk (v : Int) (t : Tok) (h1 : D ≤ n → v = D) (h2 : n < D → n < v) : LevP D n (.int v t) []
section
variable (news : List (Addr × Obj)) (n : Int) (tn tx ty : Tok) (p q p' q' c : Nat)
inductive LPre (j : Nat) : (Str → Option Value) → List (Addr × Obj) → Prop
  | mk (u : Str → Option Value) (k : Nat) (z : Int) (t : Tok) (hz : z = (k : Int)) (hk : k ≤ cpre p q p' q') (hj : j = cpre p q p' q' - k) : LPre j (bndU u [(Str.ofString "max_cost", .int n tn), (Str.ofString "b", .str (blk p' q' c) ty), (Str.ofString "a", .str (blk p q c) tx), (Str.ofString "pre", .int z t)]) news
inductive LPreE : (Str → Option Value) → List (Addr × Obj) → Prop
  | mk (u : Str → Option Value) (z : Int) (t : Tok) (hz : z = (cpre p q p' q' : Int)) : LPreE (bndU u [(Str.ofString "max_cost", .int n tn), (Str.ofString "b", .str (blk p' q' c) ty), (Str.ofString "a", .str (blk p q c) tx), (Str.ofString "pre", .int z t)]) news
inductive LPost (j : Nat) : (Str → Option Value) → List (Addr × Obj) → Prop
  | mk (u : Str → Option Value) (k : Nat) (z : Int) (t : Tok) (hz : z = -(k : Int)) (hk : k ≤ min q q') (hj : j = min q q' - k) : LPost j (bndU u [(Str.ofString "max_cost", .int n tn), (Str.ofString "b", .str (blk p' q' c) ty), (Str.ofString "a", .str (blk p q c) tx), (Str.ofString "post", .int z t)]) news
inductive LPostE : (Str → Option Value) → List (Addr × Obj) → Prop
  | mk (u : Str → Option Value) (z : Int) (t : Tok) (hz : z = -((min q q' : Nat) : Int)) : LPostE (bndU u [(Str.ofString "max_cost", .int n tn), (Str.ofString "b", .str (blk p' q' c) ty), (Str.ofString "a", .str (blk p q c) tx), (Str.ofString "post", .int z t)]) news
inductive LCutA (z : Int) : (Str → Option Value) → List (Addr × Obj) → Prop
  | mk (u : Str → Option Value) (t tx : Tok) : LCutA z (bndU u [(Str.ofString "max_cost", .int n tn), (Str.ofString "b", .str (blk p' q' c) ty), (Str.ofString "a", .str (blk p q c) tx), (Str.ofString "post", .int z t)]) news
inductive LCutB : (Str → Option Value) → List (Addr × Obj) → Prop
  | mk (u : Str → Option Value) (ty : Tok) : LCutB (bndU u [(Str.ofString "max_cost", .int n tn), (Str.ofString "b", .str (blk p' q' c) ty), (Str.ofString "a", .str (blk p q c) tx)]) news
inductive LSwap (D : Int) : (Str → Option Value) → List (Addr × Obj) → Prop
  | mk (M N c1 c2 : Nat) (u : Str → Option Value) (ta tb : Tok) (h1 : 0 < M) (h2 : M ≤ N) (h3 : N ≤ 30) (h4 : 2 * (N : Int) = D) (h5 : c1 = 32 ∧ c2 = c ∨ c1 = c ∧ c2 = 32) : LSwap D (bndU u [(Str.ofString "max_cost", .int n tn), (Str.ofString "b", .str (blk 0 N c2) tb), (Str.ofString "a", .str (blk 0 M c1) ta)]) news
inductive LOut (row : Addr) (ta tb : Tok) (M N c1 c2 i : Nat) : (Str → Option Value) → List (Addr × Obj) → Prop
  | mk (vs : List Value) (c4 : Nat) (u : Str → Option Value) (res : Int) (tr : Tok) (hI : IntsAre vs (rowL M i)) (hr : res = if i = 0 then 0 else 2 * max (i : Int) M) : LOut row ta tb M N c1 c2 i (bndU u [(Str.ofString "max_cost", .int n tn), (Str.ofString "b", .str (blk 0 N c2) tb), (Str.ofString "a", .str (blk 0 M c1) ta), (Str.ofString "row", .ref row), (Str.ofString "result", .int res tr)]) ((row, listOf vs.toArray c4) :: news)
inductive LIn (row : Addr) (ta tb : Tok) (M N c1 c2 i j : Nat) : (Str → Option Value) → List (Addr × Obj) → Prop
  | mk (vs : List Value) (c4 : Nat) (u : Str → Option Value) (r d mn : Int) (tr td tm tc t8 : Tok) (hI : IntsAre vs (rowM M i j)) (hr : r = if j = 0 then 2 * (i : Int) else 2 * max ((i : Int) + 1) j) (hd : d = 2 * max (i : Int) j) (hm : mn = if j = 0 then 9223372036854775807 else 2 * ((i : Int) + 1)) :
    LIn row ta tb M N c1 c2 i j (bndU u [(Str.ofString "max_cost", .int n tn), (Str.ofString "b", .str (blk 0 N c2) tb), (Str.ofString "a", .str (blk 0 M c1) ta), (Str.ofString "row", .ref row), (Str.ofString "result", .int r tr), (Str.ofString "bindex", .int (0 + (i : Int)) t8), (Str.ofString "bchar", .str (chr1 c2) tc), (Str.ofString "distance", .int d td), (Str.ofString "minimum", .int mn tm)]) ((row, listOf vs.toArray c4) :: news)
end
--BEGIN WALK
theorem lev_ct {w : World} (p q p' q' c : Nat) (n : Int) (tx ty tn : Tok) (news : List (Addr × Obj)) (hc : 65 ≤ c ∧ c ≤ 90) (hp : p ≤ 100) (hq : q ≤ 100) (hp' : p' ≤ 100) (hq' : q' ≤ 100)
   (hx : p ≤ p' + 30) (hx' : p' ≤ p + 30) (hy : q ≤ q' + 30) (hy' : q' ≤ q + 30) (hn : 0 ≤ n) (hn' : n ≤ 1000) :
    Ct w 6 35 [.str (blk p q c) tx, .str (blk p' q' c) ty, .int n tn] news (LevP (2 * hexn ((p : Int) - p') ((q : Int) - q')) n) := by
  unfold Ct
  intro p₉ lo₉ mean mg mb dp un gd cn cs a ccd cl outer A₀ base h₀ L m hp9 gs9 dr9 tk9 os9 Q E B F X N T hk hd hu hret
  have hre : ∀ v t h' tk', Fr h₀ L h' m → News h₀ L h' news → (2 * hexn ((p : Int) - p') ((q : Int) - q') ≤ n → v = 2 * hexn ((p : Int) - p') ((q : Int) - q')) ∧ (n < 2 * hexn ((p : Int) - p') ((q : Int) - q') → n < v) → Q (.int v t) ⟨h', gs9, dr9, tk', os9⟩ := fun v t h' tk' F N h => hret _ [] h' tk' F N (.mk v t h.1 h.2)
  obtain ⟨hb, hb', x1, x2, y1, y2, hne⟩ := lev_pre hc hp hq hp' hq' hx hx' hy hy'
  clear hret hp hq hp' hq' hx hx' hy hy'
  have hc65 := hc.1
  generalize hD : 2 * hexn ((p : Int) - p') ((q : Int) - q') = D at hre
  refine wpAny_call ?_
  k_dflt cell_enter
  refine set_e ?_
  intro e9 A9
  have qd9 : A9.depth = dp + 1 := rfl
  have qu9 : A9.units = un + 3 := rfl
  by_cases he : p = p' ∧ q = q'
  · obtain ⟨rfl, rfl⟩ := he
    have hbe : (blk p q c == blk p q c) = true := by simp
    have hD0 : 0 = D := by rw [← hD, Int.sub_self, Int.sub_self]; rfl
    repeat' (first | ((with_reducible refine ite_pos ?i1 ?_; (case i1 => assumption))) | ((with_reducible refine Jb ?_); (try dsimp only)) | (with_reducible first | refine Jh ?_ | refine Ji ?_ | refine Jj ?_ | refine Jn ?_ | refine ci_ ?_) | ((with_reducible refine' ld_ ?zF ?zv ?zl ?zb ?_); (case zl | zb => exact rfl); (case zF => assumption); (case zv => exact rfl)) | (with_reducible first | refine if_ ?_ | refine cmp_ ?_) | ((with_reducible refine Jr (by with_reducible assumption) ?_); intro mC FC EC QC tC) | (k_unfold; (try dsimp only)) | walk1)
    exact hre _ _ _ _ (by k_asm) (by k_asm) (ans_eq hD0)
  · have hbe := hne he
    clear hne he
    have hz := hb4 hb
    have hz' := hb4 hb'
    repeat' ((fail_if_success (with_reducible show wpAny _ _ (exec (.While _ _ _ _) _) _ _ _)); first | (with_reducible first | refine Jc ?_ | refine Jh ?_ | refine Ji ?_ | refine Jj ?_ | refine Jn ?_) | ((with_reducible refine' Js ?zF ?zN ?zl ?zb ?_); (case zl | zb => exact rfl); (case zF | zN => assumption); intro h' F' N'; (try k_sweep)) | with_reducible refine ci_ ?_ | ((with_reducible refine' ld_ ?zF ?zv ?zl ?zb ?_); (case zl | zb => exact rfl); (case zF => assumption); (case zv => exact rfl)) | (with_reducible first | refine if_ ?_ | refine asg_ ?_ | refine cmp_ ?_) | ((with_reducible refine Jr (by with_reducible assumption) ?_); intro mC FC EC QC tC) | walk1)
    obtain ⟨u, t, F1⟩ : ∃ u t, Fr _ _ _ (bndU u [(Str.ofString "max_cost", .int n tn), (Str.ofString "b", .str (blk p' q' c) ty), (Str.ofString "a", .str (blk p q c) tx), (Str.ofString "pre", .int 0 t)]) := ⟨_, _, (fr_own _ (by assumption) (by exact ⟨rfl, rfl, rfl, rfl, trivial⟩))⟩
    rename News _ _ _ _ => N1
    refine While_inv3 (LPre news n tn tx ty p q p' q' c) (cpre p q p' q')
      (LPreE news n tn tx ty p q p' q' c) F1 N1 (.mk u 0 0 _ rfl (Nat.zero_le _) rfl) ?turn ?done ?pass
    case pass => passes_own
    case turn =>
      clear F1 N1
      intro j m₁ nx h₁ tk₁ F2 N2 hJ
      revert F2 N2
      refine LPre.casesOn hJ ?_
      rintro u k z t hk0 hk1 rfl F2 N2
      clear hJ
      dsimp only
      rcases ways1 hk1 hc65 with ⟨g1, rfl⟩ | ⟨g1, ⟨g2, rfl⟩ | ⟨g2, ⟨g3, rfl⟩ | ⟨g3, g4⟩⟩⟩
      all_goals repeat' (first | (((with_reducible show wpAny _ _ (subscriptTail _ (Expr.Slice (some _) none none _) (Value.str (blk _ _ _) _) (Value.ref _)) _ _ _); (with_reducible rename Fr _ _ _ _ => F'); (with_reducible rename News _ _ _ _ => N'); ((with_reducible refine' sl_pre (s := ⟨_, _, _, _, _⟩) ?k0 F' N' ?kz ?_)); (case k0 => with_reducible assumption); (case kz => with_reducible assumption); (try dsimp only); intro h' t' k' F' N'; (try dsimp only))) | (((fail_if_success (with_reducible show wpAny _ _ (subscriptTail _ _ (Value.str (blk _ _ _) _) (Value.int (_ - _) _)) _ _ _)); ((with_reducible show wpAny _ _ (subscriptTail _ _ (Value.str (blk _ _ _) _) (Value.int _ _)) _ _ _); ((with_reducible refine' it_pre ?k0 ?k1 ?kz ?_)); (case k0 => with_reducible assumption); (case k1 => with_reducible assumption); (case kz => with_reducible assumption); intro t' k'; (try dsimp only)))) | (((with_reducible show wpAny _ _ (truthy (Value.str (cutL _ _ _ _) _)) _ _ _); first | (((with_reducible refine tr_L ?k1 ?k2 ?_)); (case k1 => with_reducible assumption); (case k2 => with_reducible assumption); skip) | (((with_reducible refine tr_L' ?k1 ?_)); (case k1 => with_reducible assumption); skip); intro k'; (try dsimp only))) | ((with_reducible refine ite_pos ?i1 ?_; (case i1 => assumption))) | (((with_reducible show ite _ _ _); k_closed; with_reducible first | (with_reducible refine ite_pos (by decide) ?_) | (with_reducible refine ite_neg (by decide) ?_))) | ((with_reducible refine Ja ?_); (try dsimp only)) | (with_reducible first | refine Jh ?_ | refine Ji ?_ | refine Jj ?_ | refine Jo ?_ | refine Jp ?_ | refine Jq ?_) | ((with_reducible refine' Js ?zF ?zN ?zl ?zb ?_); (case zl | zb => exact rfl); (case zF | zN => assumption); intro h' F' N'; (try k_sweep)) | (with_reducible first | refine ci_ ?_ | refine sub_ ?_) | ((with_reducible refine' ld_ ?zF ?zv ?zl ?zb ?_); (case zl | zb => exact rfl); (case zF => assumption); (case zv => exact rfl)) | ((with_reducible refine' aug_ ?zF ?zv ?zl ?zb ?_); (case zl | zb => exact rfl); (case zF => assumption); (case zv => exact rfl)) | with_reducible refine cmp_ ?_ | ((with_reducible refine Jr (by with_reducible assumption) ?_); intro mC FC EC QC tC) | walk1)
      · exact ws_end (by assumption) (by assumption) (.mk _ _ _ hk0)
      · exact ws_end (by assumption) (by assumption) (.mk _ _ _ hk0)
      · exact ws_end (by assumption) (by assumption) (.mk _ _ _ hk0)
      · exact ws_next ((fr_own _ (by assumption) (by exact ⟨rfl, rfl, rfl, rfl, trivial⟩))) (by assumption) (sub_lt g4) (.mk _ (k + 1) _ _ (posS hk0) g4 rfl)
    case done =>
      intro h₁ tk₁ m₁ nx F2 N2 hJ
      revert F2 N2
      refine LPreE.casesOn hJ ?_
      intro u z t hk0 F2 N2
      clear hJ
      clear F1 N1
      dsimp only
      repeat' ((fail_if_success (with_reducible show wpAny _ _ (exec (.While _ _ _ _) _) _ _ _)); first | (((with_reducible show wpAny _ _ (subscriptTail _ (Expr.Slice (some _) none none _) (Value.str (blk _ _ _) _) (Value.ref _)) _ _ _); (with_reducible rename Fr _ _ _ _ => F'); (with_reducible rename News _ _ _ _ => N'); ((with_reducible refine' sl_pre (s := ⟨_, _, _, _, _⟩) ?k0 F' N' ?kz ?_)); (case k0 => with_reducible assumption); (case kz => with_reducible assumption); (try dsimp only); intro h' t' k' F' N'; (try dsimp only))) | (with_reducible first | refine Jc ?_ | refine Jo ?_ | refine Jp ?_) | ((with_reducible refine' Js ?zF ?zN ?zl ?zb ?_); (case zl | zb => exact rfl); (case zF | zN => assumption); intro h' F' N'; (try k_sweep)) | (with_reducible first | refine ci_ ?_ | refine sub_ ?_) | ((with_reducible refine' ld_ ?zF ?zv ?zl ?zb ?_); (case zl | zb => exact rfl); (case zF => assumption); (case zv => exact rfl)) | with_reducible refine asg_ ?_ | ((with_reducible refine Jr (by with_reducible assumption) ?_); intro mC FC EC QC tC) | walk1)
      rename Fr _ _ _ _ => F3
      rename News _ _ _ _ => N3
      obtain ⟨p1, q1, p1', q1', e1, e1', hf1, hf2, hf3, hf4, hb1, hb1'⟩ := cut1_ways hb hb'
      obtain ⟨u, ta, tb, t, F3⟩ : ∃ u ta tb t, Fr _ _ _ (bndU u [(Str.ofString "max_cost", .int n tn), (Str.ofString "b", .str (blk p1' q1' c) tb), (Str.ofString "a", .str (blk p1 q1 c) ta), (Str.ofString "post", .int 0 t)]) := ⟨_, _, _, _, by rw [← e1 c, ← e1' c]; exact (fr_own _ F3 (by exact ⟨rfl, rfl, rfl, rfl, trivial⟩))⟩
      rw [← hf3, ← hf4] at hD
      rw [← hf3] at x1 x2
      rw [← hf4] at y1 y2
      clear hbe hb hb' hz hz' e1 e1' hf3 hf4 hk0
      have hz := hb4 hb1
      have hz' := hb4 hb1'
      refine While_inv3 (LPost news n tn ta tb p1 q1 p1' q1' c) (min q1 q1')
        (LPostE news n tn ta tb p1 q1 p1' q1' c) F3 N3
         (.mk _ 0 0 _ rfl (Nat.zero_le _) rfl) ?turn ?done ?pass
      case pass => passes_own
      case turn =>
        clear F3 N3
        intro j m₁ nx h₁ tk₁ F2 N2 hJ
        revert F2 N2
        refine LPost.casesOn hJ ?_
        rintro u k z2 t2 hz2 hk1 rfl F2 N2
        clear hJ
        dsimp only
        have hka : k ≤ p1 + q1 := Nat.le_trans hk1 (Nat.le_trans (Nat.min_le_left _ _) (Nat.le_add_left _ _))
        have hkb : k ≤ p1' + q1' := Nat.le_trans hk1 (Nat.le_trans (Nat.min_le_right _ _) (Nat.le_add_left _ _))
        by_cases hz0 : z2 = 0
        all_goals (rcases ways2 hk1 hc65 hf1 with ⟨g1, rfl⟩ | ⟨g1, ⟨g2, rfl⟩ | ⟨g2, ⟨g3, rfl⟩ | ⟨g3, g4⟩⟩⟩)
        all_goals repeat' (first | (((with_reducible show wpAny _ _ (subscriptTail _ (Expr.Slice none (some _) none _) (Value.str (blk _ _ _) _) (Value.ref _)) _ _ ⟨Heap.push _ { cls := _, data := .fields #[.none, .none, .none] }, _, _, _, _⟩); (with_reducible rename Fr _ _ _ _ => F'); (with_reducible rename News _ _ _ _ => N'); ((with_reducible refine' sl_none (s := ⟨_, _, _, _, _⟩) ?k0 ?k1 F' N' ?kz ?_)); (case k0 => with_reducible assumption); (case k1 => with_reducible assumption); (case kz => with_reducible assumption); (try dsimp only); intro h' t' k' F' N'; (try dsimp only))) | (((with_reducible show wpAny _ _ (subscriptTail _ (Expr.Slice none (some _) none _) (Value.str (blk _ _ _) _) (Value.ref _)) _ _ ⟨Heap.push _ { cls := _, data := .fields #[.none, .int _ _, .none] }, _, _, _, _⟩); (with_reducible rename Fr _ _ _ _ => F'); (with_reducible rename News _ _ _ _ => N'); ((with_reducible refine' sl_post (s := ⟨_, _, _, _, _⟩) ?k0 ?k1 ?k2 F' N' ?kz ?_)); (case k0 => with_reducible assumption); (case k1 => with_reducible assumption); (case k2 => with_reducible assumption); (case kz => with_reducible assumption); (try dsimp only); intro h' t' k' F' N'; (try dsimp only))) | (((with_reducible show wpAny _ _ (subscriptTail _ _ (Value.str (blk _ _ _) _) (Value.int (_ - 1) _)) _ _ _); ((with_reducible refine' it_post ?k0 ?k1 ?kz ?_)); (case k0 => with_reducible assumption); (case k1 => with_reducible assumption); (case kz => with_reducible assumption); intro t' k'; (try dsimp only))) | (((with_reducible show wpAny _ _ (truthy (Value.str (cutR _ _ _ _) _)) _ _ _); first | (((with_reducible refine tr_R ?k1 ?k2 ?_)); (case k1 => with_reducible assumption); (case k2 => with_reducible assumption); skip) | (((with_reducible refine tr_R' ?k1 ?_)); (case k1 => with_reducible assumption); skip); intro k'; (try dsimp only))) | (((with_reducible show wpAny _ _ (truthy (Value.int _ _)) _ _ _); first | (((with_reducible refine truthy_int_T ?k0 ?_)); (case k0 => with_reducible assumption); skip) | (((with_reducible refine truthy_int_F ?k0 ?_)); (case k0 => with_reducible assumption); skip))) | ((with_reducible refine ite_pos ?i1 ?_; (case i1 => assumption))) | (((with_reducible show ite _ _ _); k_closed; with_reducible first | (with_reducible refine ite_pos (by decide) ?_) | (with_reducible refine ite_neg (by decide) ?_))) | ((with_reducible refine Ja ?_); (try dsimp only)) | (with_reducible first | refine Jf ?_ | refine Jg ?_ | refine Jh ?_ | refine Ji ?_ | refine Jj ?_ | refine Jo ?_ | refine Jp ?_ | refine Jq ?_) | ((with_reducible refine' Js ?zF ?zN ?zl ?zb ?_); (case zl | zb => exact rfl); (case zF | zN => assumption); intro h' F' N'; (try k_sweep)) | (with_reducible first | refine ci_ ?_ | refine bin_ ?_ | refine sub_ ?_) | ((with_reducible refine' ld_ ?zF ?zv ?zl ?zb ?_); (case zl | zb => exact rfl); (case zF => assumption); (case zv => exact rfl)) | ((with_reducible refine' aug_ ?zF ?zv ?zl ?zb ?_); (case zl | zb => exact rfl); (case zF => assumption); (case zv => exact rfl)) | with_reducible refine cmp_ ?_ | ((with_reducible refine Jr (by with_reducible assumption) ?_); intro mC FC EC QC tC) | walk1)
        all_goals first
          | exact ws_end (by assumption) (by assumption) (.mk _ _ _ hz2)
          | exact ws_next ((fr_own _ (by assumption) (by exact ⟨rfl, rfl, rfl, rfl, trivial⟩))) (by assumption) (sub_lt g4) (.mk _ (k + 1) _ _ (negS hz2) g4 rfl)
      case done =>
        intro h₁ tk₁ m₁ nx F2 N2 hJ
        revert F2 N2
        refine LPostE.casesOn hJ ?_
        intro u z2 t2 hz2 F2 N2
        clear hJ
        dsimp only
        clear F3 N3
        have hka : min q1 q1' ≤ p1 + q1 := Nat.le_trans (Nat.min_le_left _ _) (Nat.le_add_left _ _)
        have hkb : min q1 q1' ≤ p1' + q1' := Nat.le_trans (Nat.min_le_right _ _) (Nat.le_add_left _ _)
        obtain ⟨q2, q2', e1, e1', hg1, hg2, hb2, hb2'⟩ := cut2_ways hb1 hb1'
        rw [← hg2] at hD y1 y2
        refine wpAny_execs_cons (exec_cut F2 (LCutA news n tn tb p1 q2 p1' q1' c z2) ?cut1 ?cut2)
        case cut1 =>
          clear hD hre hf1 hf2 hg1 hg2 x1 x2 y1 y2 e1' hc hc65
          by_cases hz0 : z2 = 0
          all_goals repeat' (first | (((with_reducible show wpAny _ _ (subscriptTail _ (Expr.Slice none (some _) none _) (Value.str (blk _ _ _) _) (Value.ref _)) _ _ ⟨Heap.push _ { cls := _, data := .fields #[.none, .none, .none] }, _, _, _, _⟩); (with_reducible rename Fr _ _ _ _ => F'); (with_reducible rename News _ _ _ _ => N'); ((with_reducible refine' sl_none (s := ⟨_, _, _, _, _⟩) ?k0 ?k1 F' N' ?kz ?_)); (case k0 => with_reducible assumption); (case k1 => with_reducible assumption); (case kz => with_reducible assumption); (try dsimp only); intro h' t' k' F' N'; (try dsimp only))) | (((with_reducible show wpAny _ _ (subscriptTail _ (Expr.Slice none (some _) none _) (Value.str (blk _ _ _) _) (Value.ref _)) _ _ ⟨Heap.push _ { cls := _, data := .fields #[.none, .int _ _, .none] }, _, _, _, _⟩); (with_reducible rename Fr _ _ _ _ => F'); (with_reducible rename News _ _ _ _ => N'); ((with_reducible refine' sl_post (s := ⟨_, _, _, _, _⟩) ?k0 ?k1 ?k2 F' N' ?kz ?_)); (case k0 => with_reducible assumption); (case k1 => with_reducible assumption); (case k2 => with_reducible assumption); (case kz => with_reducible assumption); (try dsimp only); intro h' t' k' F' N'; (try dsimp only))) | (((with_reducible show wpAny _ _ (truthy (Value.int _ _)) _ _ _); first | (((with_reducible refine truthy_int_T ?k0 ?_)); (case k0 => with_reducible assumption); skip) | (((with_reducible refine truthy_int_F ?k0 ?_)); (case k0 => with_reducible assumption); skip))) | (((with_reducible show ite _ _ _); k_closed; with_reducible first | (with_reducible refine ite_pos (by decide) ?_) | (with_reducible refine ite_neg (by decide) ?_))) | (with_reducible first | refine Jo ?_ | refine Jp ?_) | ((with_reducible refine' Js ?zF ?zN ?zl ?zb ?_); (case zl | zb => exact rfl); (case zF | zN => assumption); intro h' F' N'; (try k_sweep)) | with_reducible refine sub_ ?_ | ((with_reducible refine' ld_ ?zF ?zv ?zl ?zb ?_); (case zl | zb => exact rfl); (case zF => assumption); (case zv => exact rfl)) | with_reducible refine asg_ ?_ | walk1)
          all_goals exact ws_end (by rw [← e1 c]; exact (fr_own _ (by assumption) (by exact ⟨rfl, rfl, rfl, rfl, trivial⟩))) (by assumption) (.mk _ _ _)
        clear F2 N2 ta u t2
        intro h₁ tk₁ m₁ nx F2 N2 hJ
        revert F2 N2
        refine LCutA.casesOn hJ ?_
        intro u t2 ta F2 N2
        clear hJ
        dsimp only
        refine wpAny_execs_cons (exec_cut F2 (LCutB news n tn ta p1 q2 p1' q2' c) ?cut3 ?cut4)
        case cut3 =>
          clear hD hre hf1 hf2 hg1 hg2 x1 x2 y1 y2 e1 hc hc65
          by_cases hz0 : z2 = 0
          all_goals repeat' (first | (((with_reducible show wpAny _ _ (subscriptTail _ (Expr.Slice none (some _) none _) (Value.str (blk _ _ _) _) (Value.ref _)) _ _ ⟨Heap.push _ { cls := _, data := .fields #[.none, .none, .none] }, _, _, _, _⟩); (with_reducible rename Fr _ _ _ _ => F'); (with_reducible rename News _ _ _ _ => N'); ((with_reducible refine' sl_none (s := ⟨_, _, _, _, _⟩) ?k0 ?k1 F' N' ?kz ?_)); (case k0 => with_reducible assumption); (case k1 => with_reducible assumption); (case kz => with_reducible assumption); (try dsimp only); intro h' t' k' F' N'; (try dsimp only))) | (((with_reducible show wpAny _ _ (subscriptTail _ (Expr.Slice none (some _) none _) (Value.str (blk _ _ _) _) (Value.ref _)) _ _ ⟨Heap.push _ { cls := _, data := .fields #[.none, .int _ _, .none] }, _, _, _, _⟩); (with_reducible rename Fr _ _ _ _ => F'); (with_reducible rename News _ _ _ _ => N'); ((with_reducible refine' sl_post (s := ⟨_, _, _, _, _⟩) ?k0 ?k1 ?k2 F' N' ?kz ?_)); (case k0 => with_reducible assumption); (case k1 => with_reducible assumption); (case k2 => with_reducible assumption); (case kz => with_reducible assumption); (try dsimp only); intro h' t' k' F' N'; (try dsimp only))) | (((with_reducible show wpAny _ _ (truthy (Value.int _ _)) _ _ _); first | (((with_reducible refine truthy_int_T ?k0 ?_)); (case k0 => with_reducible assumption); skip) | (((with_reducible refine truthy_int_F ?k0 ?_)); (case k0 => with_reducible assumption); skip))) | (((with_reducible show ite _ _ _); k_closed; with_reducible first | (with_reducible refine ite_pos (by decide) ?_) | (with_reducible refine ite_neg (by decide) ?_))) | (with_reducible first | refine Jo ?_ | refine Jp ?_) | ((with_reducible refine' Js ?zF ?zN ?zl ?zb ?_); (case zl | zb => exact rfl); (case zF | zN => assumption); intro h' F' N'; (try k_sweep)) | with_reducible refine sub_ ?_ | ((with_reducible refine' ld_ ?zF ?zv ?zl ?zb ?_); (case zl | zb => exact rfl); (case zF => assumption); (case zv => exact rfl)) | with_reducible refine asg_ ?_ | walk1)
          all_goals exact ws_end (by rw [← e1' c]; exact (fr_own _ (by assumption) (by exact ⟨rfl, rfl, rfl, trivial⟩))) (by assumption) (.mk _ _)
        clear F2 N2 tb u e1 e1' hb1 hb1' hz hz' hz2 hka hkb hf2 hg2
        intro h₁ tk₁ m₁ nx F2 N2 hJ
        revert F2 N2
        refine LCutB.casesOn hJ ?_
        intro u tb F2 N2
        clear hJ
        dsimp only
        have hz := hb4 hb2
        have hz' := hb4 hb2'
        by_cases hea : p1 + q2 = 0
        · --[ empty
          have hD := hD.symm.trans (emp_hex (.inl hea)).symm
          clear hf1 hg1 x1 x2 y1 y2
          repeat' (first | (((with_reducible show wpAny _ _ (truthy (Value.str (blk _ _ _) _)) _ _ _); first | (((with_reducible refine' truthy_blk_T ?kz ?k0 ?_)); (case kz => with_reducible assumption); (case k0 => with_reducible assumption); (try dsimp only)) | (((with_reducible refine' truthy_blk_F ?k0 ?_)); (case k0 => with_reducible assumption); (try dsimp only)))) | (((with_reducible show wpAny _ _ (call (Value.builtin "len") [Value.str (blk _ _ _) _]) _ _ _); ((with_reducible refine' len_blk ?kz ?_)); (case kz => with_reducible assumption); (try dsimp only))) | (((with_reducible show ite _ _ _); k_closed; with_reducible first | (with_reducible refine ite_pos (by decide) ?_) | (with_reducible refine ite_neg (by decide) ?_))) | ((with_reducible refine Jb ?_); (try dsimp only)) | (with_reducible first | refine Jf ?_ | refine Jg ?_ | refine Jk ?_ | refine Jl ?_ | refine bin_ ?_) | ((with_reducible refine' ld_ ?zF ?zv ?zl ?zb ?_); (case zl | zb => exact rfl); (case zF => assumption); (case zv => exact rfl)) | with_reducible refine if_ ?_ | ((with_reducible show wpAny _ _ (isTrue (PySem.Expr.Name _ _) _ _) _ _ _); with_reducible refine pl_ ?_) | ((with_reducible refine Jr (by with_reducible assumption) ?_); intro mC FC EC QC tC) | (k_unfold; (try dsimp only)) | walk1)
          exact hre _ _ _ _ (by k_asm) (by k_asm) (ans_eq hD.symm)
        have hea := Nat.pos_of_ne_zero hea
        by_cases heb : p1' + q2' = 0
        · --[ emptyb
          have hD := hD.symm.trans (emp_hex (.inr heb)).symm
          clear hf1 hg1 x1 x2 y1 y2
          repeat' (first | (((with_reducible show wpAny _ _ (truthy (Value.str (blk _ _ _) _)) _ _ _); first | (((with_reducible refine' truthy_blk_T ?kz ?k0 ?_)); (case kz => with_reducible assumption); (case k0 => with_reducible assumption); (try dsimp only)) | (((with_reducible refine' truthy_blk_F ?k0 ?_)); (case k0 => with_reducible assumption); (try dsimp only)))) | (((with_reducible show wpAny _ _ (call (Value.builtin "len") [Value.str (blk _ _ _) _]) _ _ _); ((with_reducible refine' len_blk ?kz ?_)); (case kz => with_reducible assumption); (try dsimp only))) | (((with_reducible show ite _ _ _); k_closed; with_reducible first | (with_reducible refine ite_pos (by decide) ?_) | (with_reducible refine ite_neg (by decide) ?_))) | ((with_reducible refine Jb ?_); (try dsimp only)) | (with_reducible first | refine Jf ?_ | refine Jg ?_ | refine Jk ?_ | refine Jl ?_ | refine bin_ ?_) | ((with_reducible refine' ld_ ?zF ?zv ?zl ?zb ?_); (case zl | zb => exact rfl); (case zF => assumption); (case zv => exact rfl)) | with_reducible refine if_ ?_ | ((with_reducible show wpAny _ _ (isTrue (PySem.Expr.Name _ _) _ _) _ _ _); with_reducible refine pl_ ?_) | ((with_reducible refine Jr (by with_reducible assumption) ?_); intro mC FC EC QC tC) | (k_unfold; (try dsimp only)) | walk1)
          exact hre _ _ _ _ (by k_asm) (by k_asm) (ans_eq hD.symm)
        have heb := Nat.pos_of_ne_zero heb
        obtain ⟨M0, N0, c1, c2, hba, hbb, hM, hN, hM', hN', hcc, hD'⟩ := mk_ways (c := c) hf1 hg1 hea heb x1 x2 y1 y2
        rw [hba, hbb] at F2
        rw [hD'] at hD
        clear hba hbb hea heb x1 x2 y1 y2 hf1 hg1 hD' hb2 hb2' hz hz'
        have hz := hb3 hM'
        have hz' := hb3 hN'
        have ha := zadd hM
        have hb := zadd hN
        have hga := big_n hM'
        have hgb := big_n hN'
        repeat' ((fail_if_success (with_reducible show wpAny _ _ (exec (Stmt.If (Expr.Compare _ [CmpOp.Lt] _ _) _ _ _) _) _ _ _)); first | (((with_reducible show wpAny _ _ (truthy (Value.str (blk _ _ _) _)) _ _ _); first | (((with_reducible refine' truthy_blk_T ?kz ?k0 ?_)); (case kz => with_reducible assumption); (case k0 => with_reducible assumption); (try dsimp only)) | (((with_reducible refine' truthy_blk_F ?k0 ?_)); (case k0 => with_reducible assumption); (try dsimp only)))) | (((with_reducible show wpAny _ _ (call (Value.builtin "len") [Value.str (blk _ _ _) _]) _ _ _); ((with_reducible refine' len_blk ?kz ?_)); (case kz => with_reducible assumption); (try dsimp only))) | (((with_reducible show ite _ _ _); k_closed; with_reducible first | (with_reducible refine ite_pos (by decide) ?_) | (with_reducible refine ite_neg (by decide) ?_))) | (with_reducible first | refine Jc ?_ | refine Jh ?_ | refine Ji ?_ | refine Jj ?_ | refine Jk ?_ | refine Jm ?_) | ((with_reducible refine' ld_ ?zF ?zv ?zl ?zb ?_); (case zl | zb => exact rfl); (case zF => assumption); (case zv => exact rfl)) | (with_reducible first | refine if_ ?_ | refine cmp_ ?_) | ((with_reducible show wpAny _ _ (isTrue (PySem.Expr.Name _ _) _ _) _ _ _); with_reducible refine pl_ ?_) | ((with_reducible refine Jr (by with_reducible assumption) ?_); intro mC FC EC QC tC) | walk1)
        refine exec_cut (by assumption) (LSwap news n tn c D) ?cut5 ?cut6
        case cut5 =>
          by_cases hsw : N0 < M0
          · have hs1 := swp.mpr hsw
            repeat' (first | (((with_reducible show wpAny _ _ (call (Value.builtin "len") [Value.str (blk _ _ _) _]) _ _ _); ((with_reducible refine' len_blk ?kz ?_)); (case kz => with_reducible assumption); (try dsimp only))) | ((with_reducible refine Ja ?_); (try dsimp only)) | (with_reducible first | refine Jh ?_ | refine Ji ?_ | refine Jj ?_ | refine Jn ?_) | ((with_reducible refine' ld_ ?zF ?zv ?zl ?zb ?_); (case zl | zb => exact rfl); (case zF => assumption); (case zv => exact rfl)) | (with_reducible first | refine if_ ?_ | refine cmp_ ?_) | ((with_reducible refine Jr (by with_reducible assumption) ?_); intro mC FC EC QC tC) | walk1)
            exact ws_end ((fr_own _ (by assumption) (by exact ⟨rfl, rfl, rfl, trivial⟩))) (News.tail' (by assumption)) (.mk N0 M0 c2 c1 _ _ _ hN (Nat.le_of_lt hsw) hM' ((congrArg (2 * ·) (maxL hsw)).trans hD) (hcc.symm.imp And.symm And.symm))
          · have hs1 := mt swp.mp hsw
            repeat' (first | (((with_reducible show wpAny _ _ (call (Value.builtin "len") [Value.str (blk _ _ _) _]) _ _ _); ((with_reducible refine' len_blk ?kz ?_)); (case kz => with_reducible assumption); (try dsimp only))) | (with_reducible first | refine Jh ?_ | refine Ji ?_ | refine Jj ?_ | refine Jn ?_) | ((with_reducible refine' ld_ ?zF ?zv ?zl ?zb ?_); (case zl | zb => exact rfl); (case zF => assumption); (case zv => exact rfl)) | (with_reducible first | refine if_ ?_ | refine cmp_ ?_) | walk1)
            exact ws_end ((fr_own _ (by assumption) (by exact ⟨rfl, rfl, rfl, trivial⟩))) (by assumption) (.mk M0 N0 c1 c2 _ _ _ hM (Nat.le_of_not_lt hsw) hN' ((congrArg (2 * ·) (maxR hsw)).trans hD) hcc)
        clear hcc hz hz' ha hb hga hgb hD hM hN hM' hN'
        intro h₁ tk₁ m₁ nx F2 N2 hJ
        revert F2 N2
        refine LSwap.casesOn hJ ?_
        intro M N c1 c2 u ta tb hM1 hMN hN1 hD hcc F2 N2
        clear hJ
        dsimp only
        have hM30 := Nat.le_trans hMN hN1
        have hz := hb3 hM30
        have hz' := hb3 hN1
        by_cases hdf : (((0 + N : Nat) : Int) - ((0 + M : Nat) : Int)) * 2 > n
        · --[ diff
          repeat' (first | (((with_reducible show wpAny _ _ (call (Value.builtin "len") [Value.str (blk _ _ _) _]) _ _ _); ((with_reducible refine' len_blk ?kz ?_)); (case kz => with_reducible assumption); (try dsimp only))) | ((with_reducible refine Jb ?_); (try dsimp only)) | (with_reducible first | refine Jc ?_ | refine Jf ?_ | refine Jg ?_ | refine Jh ?_ | refine Ji ?_ | refine Jj ?_ | refine Jn ?_ | refine ci_ ?_ | refine bin_ ?_) | ((with_reducible refine' ld_ ?zF ?zv ?zl ?zb ?_); (case zl | zb => exact rfl); (case zF => assumption); (case zv => exact rfl)) | (with_reducible first | refine if_ ?_ | refine cmp_ ?_) | ((with_reducible refine Jr (by with_reducible assumption) ?_); intro mC FC EC QC tC) | (k_unfold; (try dsimp only)) | walk1)
          exact hre _ _ _ _ (by k_asm) (by k_asm) (ans_gt (hD ▸ dfL hdf))
        · repeat' ((fail_if_success (with_reducible show wpAny _ _ (call (Value.type _) [Value.ref _]) _ _ _)); first | (((with_reducible show wpAny _ _ (call (Value.builtin "len") [Value.str (blk _ _ _) _]) _ _ _); ((with_reducible refine' len_blk ?kz ?_)); (case kz => with_reducible assumption); (try dsimp only))) | (with_reducible first | refine Jc ?_ | refine Jf ?_ | refine Jg ?_ | refine Jh ?_ | refine Ji ?_ | refine Jj ?_ | refine Jn ?_ | refine ci_ ?_ | refine bin_ ?_) | ((with_reducible refine' ld_ ?zF ?zv ?zl ?zb ?_); (case zl | zb => exact rfl); (case zF => assumption); (case zv => exact rfl)) | (with_reducible first | refine if_ ?_ | refine asg_ ?_ | refine cmp_ ?_) | ((with_reducible refine Jr (by with_reducible assumption) ?_); intro mC FC EC QC tC) | walk1)
          rename IsRange _ _ _ _ _ _ _ _ => hR
          rename Fr _ _ _ _ => F3
          rename News _ _ _ _ => N3
          refine list_rangeN (n := M) rfl F3 N3 hR ?sm ?rs (Nat.le_trans hM30 (by decide)) ?_
          case sm => exact (rng2 M hM30).1
          case rs => exact (rng2 M hM30).2
          clear hR
          intro row h4 tk4 vs c4 F4 N4 hI hlt
          obtain ⟨u, F4⟩ : ∃ u, Fr _ _ _ (bndU u [(Str.ofString "max_cost", .int n tn), (Str.ofString "b", .str (blk 0 N c2) tb), (Str.ofString "a", .str (blk 0 M c1) ta)]) := ⟨_, (fr_own _ F4 (by exact ⟨rfl, rfl, rfl, trivial⟩))⟩
          clear hdf
          dsimp only
          repeat' ((fail_if_success (with_reducible show wpAny _ _ (pyIter (Value.ref _)) (fun it s₂ => LoopAtV _ _ _ _ _ _ _ _ _ it s₂) _ _)); first | (((with_reducible show wpAny _ _ (call (Value.builtin "len") [Value.str (blk _ _ _) _]) _ _ _); ((with_reducible refine' len_blk ?kz ?_)); (case kz => with_reducible assumption); (try dsimp only))) | with_reducible refine Jc ?_ | ((with_reducible refine' Js ?zF ?zN ?zl ?zb ?_); (case zl | zb => exact rfl); (case zF | zN => assumption); intro h' F' N'; (try k_sweep)) | with_reducible refine ci_ ?_ | ((with_reducible refine' ld_ ?zF ?zv ?zl ?zb ?_); (case zl | zb => exact rfl); (case zF => assumption); (case zv => exact rfl)) | with_reducible refine asg_ ?_ | ((with_reducible refine Jr (by with_reducible assumption) ?_); intro mC FC EC QC tC) | walk1)
          rename IsRange _ _ _ _ _ _ _ _ => hR
          rename Fr _ _ _ _ => F5
          rename News _ _ _ _ => N5
          obtain ⟨u, tr, F5⟩ : ∃ u tr, Fr _ _ _ (bndU u [(Str.ofString "max_cost", .int n tn), (Str.ofString "b", .str (blk 0 N c2) tb), (Str.ofString "a", .str (blk 0 M c1) ta), (Str.ofString "row", .ref row), (Str.ofString "result", .int 0 tr)]) := ⟨_, _, (fr_own _ F5 (by exact ⟨rfl, rfl, rfl, rfl, rfl, trivial⟩))⟩
          refine For_range (n := N) (LOut news n tn row ta tb M N c1 c2)
              rfl F5 N5 rfl hR (rng1 N (Nat.le_trans hN1 (by decide))).1 (rng1 N (Nat.le_trans hN1 (by decide))).2 ?j0 ?turn ?done
          case j0 => exact .mk vs c4 _ 0 _ (by rw [rowL_zero]; exact hI) rfl
          case turn =>
            have hch : (chr1 c2 == chr1 c1) = false ∧ (Txt.lower (chr1 c2) == Txt.lower (chr1 c1)) = false := by
              rw [chr1_eq, beq_eq_false_iff_ne, ne_eq]
              rcases hcc with ⟨rfl, rfl⟩ | ⟨rfl, rfl⟩
              · exact ⟨fun e => absurd (e ▸ hc65) (by decide), (low_ne c2 hc).2⟩
              · exact ⟨fun e => absurd (e ▸ hc65) (by decide), (low_ne c1 hc).1⟩
            obtain ⟨hch1, hch2⟩ := hch
            clear hR F5 N5 hcc hc hc65 hI
            intro i t m₁ nx h tk own hi hadr hoff hJ
            clear hadr
            refine LOut.casesOn hJ ?_
            intro vs c4 u res tr hI hres F6 N6
            clear hJ
            obtain ⟨hi1, hi2⟩ := idx hi
            dsimp only
            repeat' ((fail_if_success (with_reducible show wpAny _ _ (pyIter (Value.ref _)) (fun it s₂ => LoopAtV _ _ _ _ _ _ _ _ _ it s₂) _ _)); first | (((with_reducible show wpAny _ _ (subscriptTail _ _ (Value.str (blk 0 _ _) _) (Value.int _ _)) _ _ _); ((with_reducible refine' item_blk0 ?k0 ?k1 ?kz ?_)); (case k0 => with_reducible assumption); (case k1 => with_reducible assumption); (case kz => with_reducible assumption); (try dsimp only))) | (((with_reducible show wpAny _ _ (call (Value.builtin "len") [Value.str (blk _ _ _) _]) _ _ _); ((with_reducible refine' len_blk ?kz ?_)); (case kz => with_reducible assumption); (try dsimp only))) | (with_reducible first | refine Jc ?_ | refine Jf ?_ | refine Jg ?_ | refine Jo ?_ | refine Jp ?_) | ((with_reducible refine' Js ?zF ?zN ?zl ?zb ?_); (case zl | zb => exact rfl); (case zF | zN => assumption); intro h' F' N'; (try k_sweep)) | (with_reducible first | refine ci_ ?_ | refine bin_ ?_ | refine sub_ ?_) | ((with_reducible refine' ld_ ?zF ?zv ?zl ?zb ?_); (case zl | zb => exact rfl); (case zF => assumption); (case zv => exact rfl)) | with_reducible refine asg_ ?_ | ((with_reducible refine Jr (by with_reducible assumption) ?_); intro mC FC EC QC tC) | walk1)
            rename IsRange _ _ _ _ _ _ _ _ => hR2
            rename Fr _ _ _ _ => F7
            rename News _ _ _ _ => N7
            have hRn : ∀ p ∈ news ++ own, p.1 ≠ row := by
              intro p hp
              rcases List.mem_append.mp hp with hp | hp
              · exact Nat.ne_of_lt (hlt p hp)
              · exact hoff p hp row (.head _)
            clear hoff
            obtain ⟨u, tr, td, tm, tc, t8, F7⟩ : ∃ u tr td tm tc t8, Fr _ _ _ (bndU u [(Str.ofString "max_cost", .int n tn), (Str.ofString "b", .str (blk 0 N c2) tb), (Str.ofString "a", .str (blk 0 M c1) ta), (Str.ofString "row", .ref row), (Str.ofString "result", .int ((0 + (i : Int)) * 2) tr), (Str.ofString "bindex", .int (0 + (i : Int)) t8), (Str.ofString "bchar", .str (chr1 c2) tc), (Str.ofString "distance", .int ((0 + (i : Int)) * 2) td), (Str.ofString "minimum", .int 9223372036854775807 tm)]) := ⟨_, _, _, _, _, _, (fr_own _ F7 (by exact ⟨rfl, rfl, rfl, rfl, rfl, rfl, rfl, rfl, rfl, trivial⟩))⟩
            refine For_range (n := M) (LIn (news ++ own) n tn row ta tb M N c1 c2 i)
                rfl F7 N7 rfl hR2 (rng1 M (Nat.le_trans hM30 (by decide))).1 (rng1 M (Nat.le_trans hM30 (by decide))).2 ?j0 ?iturn ?idone
            case j0 => exact .mk vs c4 _ _ _ _ _ _ _ _ _ (by rw [rowM_zero]; exact hI) (res0 i) (dis0 i) rfl
            case iturn =>
              clear hR2 N7 hI F7 hD
              intro j tj m₁ nx h tk own2 hj hadr2 hoff2 hJ
              clear hadr2
              refine LIn.casesOn hJ ?_
              intro vs c4 u r d mn tr td tm tc t8 hI hr hd hmn F8 N8
              clear hJ
              have hRm : ∀ p ∈ (news ++ own) ++ own2, p.1 ≠ row := by
                intro p hp
                rcases List.mem_append.mp hp with hp | hp
                · exact hRn p hp
                · exact hoff2 p hp row (.head _)
              have N9 : News _ _ h ((row, listOf vs.toArray c4) :: ((news ++ own) ++ own2)) := N8
              obtain ⟨hj1, hj2⟩ := idx hj
              have hV := cellV hr hd
              generalize hm1 : (if 2 * max (i : Int) ((j : Int) + 1) < r then 2 * max (i : Int) ((j : Int) + 1) else r) = m1 at hV
              clear N8 hoff2 hRn hlt
              dsimp only
              by_cases hmn9 : 2 * max ((i : Int) + 1) ((j : Int) + 1) < mn
              all_goals repeat' (first | (((with_reducible show wpAny _ _ (subscriptTail _ _ (Value.str (blk 0 _ _) _) (Value.int _ _)) _ _ _); ((with_reducible refine' item_blk0 ?k0 ?k1 ?kz ?_)); (case k0 => with_reducible assumption); (case k1 => with_reducible assumption); (case kz => with_reducible assumption); (try dsimp only))) | (((with_reducible show wpAny _ _ (subscriptTail _ _ (Value.ref _) (Value.int _ _)) _ _ _); ((with_reducible refine' row_get ?k0 ?k1 ?k2 ?k3 ?_)); (case k0 => with_reducible assumption); (case k1 => with_reducible assumption); (case k2 => with_reducible assumption); (case k3 => with_reducible assumption); intro t'; (try dsimp only))) | (((with_reducible show wpAny _ _ (setItem (Value.ref _) (Value.int _ _) (Value.int _ _)) _ _ _); ((with_reducible refine' row_set ?k4 ?k0 ?k1 ?k2 ?k3 ?k5 ?_)); (case k4 => with_reducible assumption); (case k0 => with_reducible assumption); (case k1 => with_reducible assumption); (case k2 => with_reducible assumption); (case k3 => with_reducible assumption); (case k5 => with_reducible assumption); intro h' vs' F' N' hi'; (try dsimp only))) | (((with_reducible show wpAny _ _ (call (Value.builtin "min") [Value.int _ _, Value.int _ _]) _ _ _); ((with_reducible refine' min_two (by with_unfolding_all rfl) ?k0 ?k1 ?k2 ?_)); (case k0 => with_reducible assumption); (case k1 => with_reducible assumption); (case k2 => with_reducible assumption); intro h' k' t' F' N'; (try dsimp only))) | (((with_reducible show wpAny _ _ (call (Value.ref 28) _) _ _ _); (refine' Ct.useI (cost_ct _ _ _ _ _ ?h1 ?h2 rfl rfl) ?B ?F ?X ?N ?T rfl ?hd ?hu ?_; (case h1 => assumption); (case h2 => assumption); (case B => k_asm); (case F => k_asm); (case X => k_asm); (case N => k_asm); (case T => k_asm); (case hd => ktr_room); (case hu => ktr_units)); intro t' h' tk' F' N'; (try dsimp only))) | ((with_reducible refine Ja ?_); (try dsimp only)) | (with_reducible first | refine Jc ?_ | refine Jf ?_ | refine Jg ?_ | refine Jh ?_ | refine Ji ?_ | refine Jj ?_ | refine Jn ?_ | refine Jo ?_ | refine Jp ?_) | ((with_reducible refine' Js ?zF ?zN ?zl ?zb ?_); (case zl | zb => exact rfl); (case zF | zN => assumption); intro h' F' N'; (try k_sweep)) | (with_reducible first | refine bin_ ?_ | refine sub_ ?_) | ((with_reducible refine' ld_ ?zF ?zv ?zl ?zb ?_); (case zl | zb => exact rfl); (case zF => assumption); (case zv => exact rfl)) | (with_reducible first | refine if_ ?_ | refine asg_ ?_ | refine cmp_ ?_) | ((with_reducible refine Jr (by with_reducible assumption) ?_); intro mC FC EC QC tC) | walk1)
              all_goals rename IntsAre _ (rowM _ _ (_ + 1)) => hi9
              · exact inv_end1 ((fr_own _ (by assumption) (by exact ⟨rfl, rfl, rfl, rfl, rfl, rfl, rfl, rfl, rfl, trivial⟩))) (by assumption) (.mk _ _ _ _ _ _ _ _ _ _ _ hi9 (resN i j) rfl (minT hmn hmn9))
              · exact inv_end1 ((fr_own _ (by assumption) (by exact ⟨rfl, rfl, rfl, rfl, rfl, rfl, rfl, rfl, rfl, trivial⟩))) (by assumption) (.mk _ _ _ _ _ _ _ _ _ _ _ hi9 (resN i j) rfl (minF (Nat.le_of_lt (Nat.lt_of_lt_of_le hi hN1)) (Nat.le_of_lt (Nat.lt_of_lt_of_le hj hM30)) hmn hmn9))
            case idone =>
              clear hR2 N7 hI F7 hRn hch1 hch2
              intro m₁ nx h tk hJ
              refine LIn.casesOn hJ ?_
              intro vs c4 u r d mn tr td tm tc t8 hI hr hd hmn F8 N8
              clear hJ
              rw [rowM_last] at hI
              rw [if_neg (Nat.ne_of_gt hM1)] at hr hmn
              dsimp only
              by_cases hmx : mn > n
              · repeat' (first | ((with_reducible refine Jb ?_); (try dsimp only)) | (with_reducible first | refine Jc ?_ | refine Jf ?_ | refine Jg ?_ | refine Jh ?_ | refine Ji ?_ | refine Jj ?_ | refine Jn ?_ | refine ci_ ?_ | refine bin_ ?_) | ((with_reducible refine' ld_ ?zF ?zv ?zl ?zb ?_); (case zl | zb => exact rfl); (case zF => assumption); (case zv => exact rfl)) | (with_reducible first | refine if_ ?_ | refine cmp_ ?_) | ((with_reducible refine Jr (by with_reducible assumption) ?_); intro mC FC EC QC tC) | (k_unfold; (try dsimp only)) | walk1)
                exact hre _ _ _ _ (by k_asm) (by first | k_asm | exact cb_drop (by assumption) (fun p hp => by first | exact .tail _ (List.mem_append.mpr (.inl hp)) | exact .tail _ (.tail _ (List.mem_append.mpr (.inl hp))))) (ans_gt (hD ▸ big2 hmx hmn hi))
              · repeat' (first | ((with_reducible refine Ja ?_); (try dsimp only)) | (with_reducible first | refine Jc ?_ | refine Jh ?_ | refine Ji ?_ | refine Jj ?_ | refine Jn ?_) | ((with_reducible refine' ld_ ?zF ?zv ?zl ?zb ?_); (case zl | zb => exact rfl); (case zF => assumption); (case zv => exact rfl)) | (with_reducible first | refine if_ ?_ | refine cmp_ ?_) | ((with_reducible refine Jr (by with_reducible assumption) ?_); intro mC FC EC QC tC) | walk1)
                exact inv_end1 ((fr_own _ (by assumption) (by exact ⟨rfl, rfl, rfl, rfl, rfl, trivial⟩))) (by assumption) (.mk _ _ _ _ _ hI (by rw [if_neg (Nat.succ_ne_zero _)]; exact hr))
          case done =>
            clear hR N5 hI F5
            intro m₁ nx h tk hJ
            refine LOut.casesOn hJ ?_
            intro vs c4 u res tr hI hres F8 N8
            clear hJ
            rw [if_neg (Nat.ne_of_gt (Nat.lt_of_lt_of_le hM1 hMN))] at hres
            dsimp only
            repeat' (first | ((with_reducible refine Jb ?_); (try dsimp only)) | with_reducible refine Jc ?_ | ((with_reducible refine' ld_ ?zF ?zv ?zl ?zb ?_); (case zl | zb => exact rfl); (case zF => assumption); (case zv => exact rfl)) | ((with_reducible refine Jr (by with_reducible assumption) ?_); intro mC FC EC QC tC) | (k_unfold; (try dsimp only)) | walk1)
            exact hre _ _ _ _ (by k_asm) (by first | k_asm | exact News.tail' (by assumption)) (ans_eq (hres.trans ((congrArg (2 * ·) (Int.max_eq_left (Int.ofNat_le.mpr hMN))).trans hD)))
end Mine
-- AC
section
open PySem PySem.W PyProof.Rows PySem.Calls PySem.Spec Builtin Builtin.ObjectAttr Builtin.Getset_descriptor
namespace Mine
/-- a class whose line is itself, list, object -/
def lplain (K : Frag) (C : Addr) : Bool := (clsIn K C).any fun cd => cd.mro == [.ref C, .type "list", .type "object"]
/-- such a class, made by list.__new__, called by type.__call__ -/
def lmakesIn (K : Frag) (C : Addr) : Bool := lplain K C && (clsIn K C).any (fun cd => !(cd.abstract || cd.hasDel)) && (K.lookup C).any (fun o => (o.slots.toList[4]?).join == some (.builtin "list.__new__")) &&
  specialIn K (.ref C) "__call__" == some (some (.builtin "type.__call__")) && instIn K (.ref C) (.type "type") == some true
abbrev accO (C dx : Addr) (its : Array Value) (n : Nat) : Obj := { cls := .ref C, dict := some dx, data := .seq its n }
theorem ln_kind : builtinKind "list.__new__" = some .builtinFn := by decide +kernel
theorem ln_split : splitId "list.__new__" = some ("list", "__new__") := by decide +kernel
theorem lcls_obj {K : Frag} {C : Addr} {cd : ClassData} (hc : clsIn K C = some cd) : ∃ o, K.lookup C = some o ∧ o.data = .cls cd := by
  unfold clsIn at hc
  split at hc
  · rename_i e; cases hc; exact ⟨_, e, rfl⟩
  · cases hc
section
variable {prog : Program} {w : World} {A : Around} {K : Frag} {C : Addr} {R : Result → Shared → Prop} {h : Heap} {g : Array GenState} {d : Drawn} {t : Nat} {os : OsState}
theorem lmadeBy {M : Model} {oC : Obj} {l : List Value} {id : String} (hC : h.get? C = some oC) (hm : Looks M h (mroOf (.ref C)) (.ref C :: l)) (h4 : (oC.slots.toList[4]?).join = some (.builtin id)) : Looks M h (Bind.madeBy (.ref C)) (some id) := by
  intro A Q E s k q
  have K1 := hm.keeps k
  have hC' := k _ _ hC
  rw [Array.getElem?_toList] at h4
  unfold Bind.madeBy
  repeat (first
    | with_reducible apply Looks.at K1
    | with_reducible refine wpAny_loadPart hC' ?_
    | simp only [List.forIn_cons, h4]
    | with_reducible refine wpAny_bind ?_
    | with_reducible refine wpAny_pure ?_
    | wp_step
    | dsimp only)
  exact q
theorem lstatic {M : Model} {l : List Value} {id : String} (hm : Looks M h (mroOf (.ref C)) (.ref C :: l)) (hb : Looks M h (Bind.madeBy (.ref C)) (some id)) : Looks M h (Bind.staticBase (.ref C)) (.ref C) := by
  intro A Q E s k q
  have K1 := hm.keeps k
  have K2 := hb.keeps k
  unfold Bind.staticBase
  repeat (first
    | with_reducible apply Looks.at K1
    | with_reducible apply Looks.at K2
    | simp only [List.forIn_cons, Option.isSome_some, if_true]
    | with_reducible refine wpAny_bind ?_
    | with_reducible refine wpAny_pure ?_
    | wp_step
    | dsimp only)
  exact q
/-- what a walk reads of such a class -/
structure LCls (M : Model) (h : Heap) (C : Addr) : Prop where
  obj : ∃ o cd, h.get? C = some o ∧ o.data = .cls cd ∧ cd.mro = [.ref C, .type "list", .type "object"] ∧ cd.abstract = false ∧ cd.hasDel = false
  sup : ∀ b, Looks M h (isSubtype (.ref C) b) ([.ref C, .type "list", .type "object"].contains b)
  made : Looks M h (Bind.madeBy (.ref C)) (some "list.__new__")
  base : Looks M h (Bind.staticBase (.ref C)) (.ref C)
  call : Looks M h (specialOf (.ref C) "__call__") (some (.builtin "type.__call__"))
  typ : Looks M h (isInstance (.ref C) (.type "type")) true
theorem lcls_of {M : Model} (X : K.In h) (e : lmakesIn K C = true) : LCls M h C := by
  simp only [lmakesIn, Bool.and_eq_true, beq_iff_eq] at e
  obtain ⟨cd, hc, hm⟩ := any_some e.1.1.1.1
  obtain ⟨o, ho, hd⟩ := lcls_obj hc
  have hm := beq_iff_eq.mp hm
  have a := e.1.1.1.2
  have b := e.1.1.2
  simp only [hc, ho, Option.any_some, Bool.not_eq_true', Bool.or_eq_false_iff, beq_iff_eq] at a b
  have hl : Looks M h (mroOf (.ref C)) [.ref C, .type "list", .type "object"] := hm ▸ (looks_clsIn X hc).andThen .now
  have made := lmadeBy (X _ _ ho) hl b
  exact ⟨⟨o, cd, X _ _ ho, hd, hm, a.1, a.2⟩, fun b => looks_mroIn X (by simp [mroIn, hc, hm]), made, lstatic hl made, looks_specialIn X e.1.2, looks_instIn X e.2⟩
/-- list.__new__ of such a class: a dict, then the list -/
theorem lnew_K {rest : List Value} (Y : LCls (model prog w) h C)
    (hq : R (.ok (.ret (.ref (h.objs.size + 1)))) ⟨(h.push emptyDict).push (accO C h.objs.size #[] 0), g, d, t, os⟩) :
    codeAny (model prog w) A (.call (.builtin "list.__new__") ⟨.ref C :: rest, []⟩) R ⟨h, g, d, t, os⟩ := by
  obtain ⟨⟨o, cd, hC, hd, hm, ha, hx⟩, sup, made, base, call, typ⟩ := Y
  have isC : Looks (model prog w) h (isType (.ref C)) true := fun A Q E s k q => ks_wpAny_isType_cls (k _ _ hC) hd q
  have sub := sup (.type "list")
  have own := owner_list_new
  have sig : Manifest.signature? "list.__new__" = some ⟨.any, "list", "list", .cls, [⟨"args", .varPos, false⟩, ⟨"kwargs", .varKw, false⟩]⟩ := by kernel_rfl
  have args : Bind.checkArgs "list.__new__" ⟨.any, "list", "list", .cls, [⟨"args", .varPos, false⟩, ⟨"kwargs", .varKw, false⟩]⟩ ⟨.ref C :: rest, []⟩ = pure () := by kernel_rfl
  have hC1 : (h.push emptyDict).get? C = some o := Heap.get?_push_of_some _ hC
  have hC2 : ((h.push emptyDict).push (accO C h.objs.size #[] 0)).get? C = some o := Heap.get?_push_of_some _ hC1
  refine codeAny_of_tree ?_
  show wpAny _ A.in1 (do checkBuiltinCall "list.__new__" ⟨.ref C :: rest, []⟩; again (.builtin "list.__new__" ⟨.ref C :: rest, []⟩)) _ _ _
  simp only [checkBuiltinCall, ln_kind, ln_split, sig, args]
  repeat lk
  refine ⟨plainId_quiet PySem.F.plain_list_new _, codeAny_builtin_stack PySem.F.entry_list_new rfl fun p st => ?_⟩
  rw [Around.under_plainId PySem.F.plain_list_new _]
  simp only [own]
  repeat lk
  rw [hd]
  dsimp only
  rw [hx]
  repeat lk
  rw [Heap.size_push]
  exact hq
/-- the class called: type.__call__, its own list.__new__, then __init__ -/
theorem lmake {rest : List Value} {f : Addr} (X : K.In h) (e : lmakesIn K C = true) (hi : findIn K (.ref C) "__init__" = some (some (.ref f))) (hf : isFn K (.ref f) = true)
    (hq : codeAny (model prog w) (A.under (.builtin "type.__call__" ⟨.ref C :: rest, []⟩)) (.call (.ref f) ⟨.ref (h.objs.size + 1) :: rest, []⟩) (InitBack (h.objs.size + 1) R) ⟨(h.push emptyDict).push (accO C h.objs.size #[] 0), g, d, t, os⟩) :
    codeAny (model prog w) A (.call (.ref C) ⟨rest, []⟩) R ⟨h, g, d, t, os⟩ := by
  have Y := lcls_of (M := model prog w) X e
  have Y' := Y
  obtain ⟨⟨o, cd, hC, hd, hm, ha, hx⟩, sup, made, base, call, typ⟩ := Y
  have bind := tc_bind (.ref C)
  have line : Looks (model prog w) h (mroOf (.ref C)) [.ref C, .type "list", .type "object"] := by
    intro A Q E s k q
    have hC' := k _ _ hC
    unfold mroOf
    repeat (first | with_reducible refine wpAny_loadPart hC' ?_ | simp only [hd, hm] | wp_step | dsimp only)
    exact q
  have keep : ∀ b o, h.get? b = some o → ((h.push emptyDict).push (accO C h.objs.size #[] 0)).get? b = some o := fun b o e => Heap.get?_push_of_some _ (Heap.get?_push_of_some _ e)
  have new : ((h.push emptyDict).push (accO C h.objs.size #[] 0)).get? (h.objs.size + 1) = some (accO C h.objs.size #[] 0) := by heap_get
  have sup' := (sup (.ref C)).keeps keep
  have hi' := (looks_findIn (M := model prog w) X hi).keeps keep
  have hf' := (bind_fn (M := model prog w) X (.ref (h.objs.size + 1)) (beq_iff_eq.mp hf)).keeps keep
  refine codeAny_of_tree ?_
  show wpAny _ _ (callAny (.ref C) _) _ _ _
  unfold callAny
  repeat (first
    | lk
    | simp only [hd, bind])
  refine ⟨rfl, ?_⟩
  dsimp only [List.cons_append, List.nil_append]
  with_reducible refine codeAny_call_builtin_at (Code.quiet_builtin _ (by decide +kernel)) entry_typeCall (check_slot tc_kind tc_split typ (tc_args _ _ _) ?_)
  unfold Builtin.«type.__call__»
  repeat (first
    | with_reducible refine wpAny_call (lnew_K Y' ?_)
    | with_reducible refine wpAny_call ?_
    | lk
    | simp only [List.contains_cons, beq_self_eq_true, Bool.true_or, Bool.not_true, List.isEmpty_cons, Bool.false_eq_true, if_false])
  refine codeAny_mono hq fun r s' z => ?_
  match r, z with
  | .error _, z => exact z
  | .ok (.ret _), ⟨hv, z⟩ =>
    subst hv
    repeat (first | wp_step | dsimp only)
    exact z
end
section
variable {prog : Program} {w : World} {A : Around} {E : Value → Shared → Prop} {K : Frag} {C x : Addr} {s : Shared} {h₀ : Heap} {L : Addr} {m : Str → Option Value} {news : List (Addr × Obj)} {R : Result → Shared → Prop} {Q : Value → Shared → Prop}
theorem lcall_cls {rest : List Value} {fI : Addr} (F : Fr h₀ L s.heap m) (X₀ : K.In h₀) (N : News h₀ L s.heap news) (hm : lmakesIn K C = true)
    (hi : findIn K (.ref C) "__init__" = some (some (.ref fI))) (hf : isFn K (.ref fI) = true)
    (h : ∀ x dx h', Fr h₀ L h' m → News h₀ L h' ((x, accO C dx #[] 0) :: (dx, dictOf [] 0) :: news) → (∀ p ∈ news, p.1 < dx) → dx < x →
      codeAny (model prog w) (A.under (.builtin "type.__call__" ⟨.ref C :: rest, []⟩)) (.call (.ref fI) ⟨.ref x :: rest, []⟩) (InitBack x fun r s' => match r with | .ok (.ret v) => Q v s' | .ok _ => False | .error e => E e s') { s with heap := h' }) :
    wpAny (model prog w) A (call (.ref C) rest) Q E s := by
  have X := X₀.keeps F.keep
  obtain ⟨hh, g, d, t, os⟩ := s
  refine wpAny_call (lmake X hm hi hf (h _ hh.objs.size _ ((F.push _).push _) ?_ (fun p hp => Heap.lt_size (N p hp).1) (Nat.lt_succ_self _)))
  have := (N.push F emptyDict).push (F.push _) (accO C hh.objs.size #[] 0)
  rwa [Heap.size_push] at this
end
theorem md_slot : Slot "method_descriptor" "__get__" "method_descriptor.__get__" := .of (owner := "method_descriptor") (n := "__get__") (by rw [typeLookup_type, builtinLookup_eq_fast]; kernel_rfl) (by decide +kernel) (by decide +kernel) (by decide +kernel)
  (by first | exact .inl (by decide +kernel) | exact .inr (by decide +kernel)) (by rw [isSubtype_type]; kernel_rfl)
theorem wd_slot : Slot "wrapper_descriptor" "__get__" "wrapper_descriptor.__get__" := .of (owner := "wrapper_descriptor") (n := "__get__") (by rw [typeLookup_type, builtinLookup_eq_fast]; kernel_rfl) (by decide +kernel) (by decide +kernel) (by decide +kernel)
  (by first | exact .inl (by decide +kernel) | exact .inr (by decide +kernel)) (by rw [isSubtype_type]; kernel_rfl)
theorem md_entry : entryFor table "method_descriptor.__get__" = some Builtin.«method_descriptor.__get__» := entryFor_of_tree (by kernel_rfl)
theorem wd_entry : entryFor table "wrapper_descriptor.__get__" = some Builtin.«wrapper_descriptor.__get__» := entryFor_of_tree (by kernel_rfl)
theorem md_args (a b c : Value) : argsOk "method_descriptor.__get__" ⟨[a, b, c], []⟩ := by unfold argsOk; kernel_rfl
theorem wd_args (a b c : Value) : argsOk "wrapper_descriptor.__get__" ⟨[a, b, c], []⟩ := by unfold argsOk; kernel_rfl
theorem ty_of {i : String} {v : Value} (e : pureOf (fastBuiltinType i) = some v) : typeOf (.builtin i) = pure v := (congrFun builtinType_eq_fast i).trans (of_pureOf e)
theorem ty_len : typeOf (.builtin "list.__len__") = pure (.type "wrapper_descriptor") := ty_of (by kernel_rfl)
theorem ty_init : typeOf (.builtin "list.__init__") = pure (.type "wrapper_descriptor") := ty_of (by kernel_rfl)
abbrev boundO (bt id : String) (x : Addr) : Obj := { cls := .type bt, dict := none, data := .fields #[.builtin id, .ref x], slots := #[] }
theorem ow_pop : ".".intercalate ("list.pop".cutAt '.').dropLast = "list" := by decide +kernel
theorem ow_len : ".".intercalate ("list.__len__".cutAt '.').dropLast = "list" := by decide +kernel
theorem ow_init : ".".intercalate ("list.__init__".cutAt '.').dropLast = "list" := by decide +kernel
/-- what binds the name of a built-in to an object -/
structure BoundBy (name : Str) (id T gid bt : String) : Prop where
  own : builtinOwn "list" name = some (.builtin id)
  ty : typeOf (.builtin id) = pure (.type T)
  slot : Slot T "__get__" gid
  run : ∀ (A : Around) (x C : Addr) (h : Heap) (g : Array GenState) (d : Drawn) (t : Nat) (os : OsState) (Q : Value → Shared → Prop) (E : Value → Shared → Prop) (prog : Program) (w : World), Looks (model prog w) h (typeOf (.ref x)) (.ref C) → Looks (model prog w) h (isSubtype (.ref C) (.type "list")) true →
    Q (.ref h.objs.size) ⟨h.push (boundO bt id x), g, d, t, os⟩ → wpAny (model prog w) A (call (.builtin gid) [.builtin id, .ref x, .ref C]) Q E ⟨h, g, d, t, os⟩
theorem bound_pop : BoundBy "pop" "list.pop" "method_descriptor" "method_descriptor.__get__" "builtin_function_or_method" := by
  refine ⟨by kernel_rfl, PySem.F.type_list_pop, md_slot, fun A x C h g d t os Q E prog w ht hi hq => ?_⟩
  refine wpAny_call_entry md_slot PySem.F.type_list_pop md_entry ?_ (md_args _ _ _)
  unfold Builtin.«method_descriptor.__get__»
  have e := ow_pop
  repeat (first | rw [e] | unfold isInstance | lk)
  exact ⟨_, rfl, hq⟩
theorem bound_len : BoundBy "__len__" "list.__len__" "wrapper_descriptor" "wrapper_descriptor.__get__" "method-wrapper" := by
  refine ⟨by kernel_rfl, ty_len, wd_slot, fun A x C h g d t os Q E prog w ht hi hq => ?_⟩
  refine wpAny_call_entry wd_slot ty_len wd_entry ?_ (wd_args _ _ _)
  unfold Builtin.«wrapper_descriptor.__get__»
  have e := ow_len
  repeat (first | rw [e] | unfold isInstance | lk)
  exact ⟨_, rfl, hq⟩
theorem bound_init : BoundBy "__init__" "list.__init__" "wrapper_descriptor" "wrapper_descriptor.__get__" "method-wrapper" := by
  refine ⟨by kernel_rfl, ty_init, wd_slot, fun A x C h g d t os Q E prog w ht hi hq => ?_⟩
  refine wpAny_call_entry wd_slot ty_init wd_entry ?_ (wd_args _ _ _)
  unfold Builtin.«wrapper_descriptor.__get__»
  have e := ow_init
  repeat (first | rw [e] | unfold isInstance | lk)
  exact ⟨_, rfl, hq⟩
section
variable {prog : Program} {w : World} {A : Around} {E : Value → Shared → Prop} {h : Heap} {g : Array GenState} {d : Drawn} {t : Nat} {os : OsState}
/-- super(C, x) over such a class asks list: a bound method of list is made -/
theorem lsuper_ga {so x C : Addr} {id T gid bt : String} {name : Str} {tk : Tok} {Q : Fin → Shared → Prop} (hB : BoundBy name id T gid bt) (hn : (name == ("__class__" : Str)) = false)
    (hso : h.get? so = some (ks_superObj C x C)) (hno : Looks (model prog w) h (opaqueClassAbove (.ref C)) none) (hC : Looks (model prog w) h (mroOf (.ref C)) [.ref C, .type "list", .type "object"])
    (ht : Looks (model prog w) h (typeOf (.ref x)) (.ref C)) (hi : Looks (model prog w) h (isSubtype (.ref C) (.type "list")) true) (hxC : x ≠ C)
    (hq : Q (.done (.ret (.ref h.objs.size))) ⟨h.push (boundO bt id x), g, d, t, os⟩) :
    wpAny (model prog w) A (Builtin.«super.__getattribute__» ⟨[.ref so, .str name tk], []⟩) Q E ⟨h, g, d, t, os⟩ := by
  have hlk := hB.slot.lookup
  have hTy := hB.ty
  have hne : (Value.ref x == Value.ref C) = false := beq_eq_false_iff_ne.mpr fun q => hxC (Value.ref.inj q)
  have hown : classOwn (.type "list") name = pure (some (.builtin id)) := congrArg pure hB.own
  unfold Builtin.«super.__getattribute__»
  repeat (first
    | with_reducible refine wpAny_of_eq hown ?_
    | with_reducible refine wpAny_of_eq hTy ?_
    | with_reducible refine wpAny_of_eq hlk ?_
    | with_reducible refine hB.run _ _ _ _ _ _ _ _ _ _ _ _ ht hi ?_
    | lk
    | simp only [List.getElem_toArray, List.getElem_cons_succ, List.getElem_cons_zero]
    | simp only [hn, hne, List.forIn_cons, List.dropWhile_cons, List.drop_succ_cons, List.drop_zero, bne_self_eq_false, Bool.or_false, Bool.false_eq_true, if_false])
  exact hq
end
section
variable {prog : Program} {w : World} {A : Around} {E : Value → Shared → Prop} {s : Shared} {h₀ : Heap} {L : Addr} {m : Str → Option Value} {news : List (Addr × Obj)} {K : Frag} {x C so : Addr} {ox : Obj} {odx : Option Obj}
/-- super().name in a method of such a class, where list alone has the name -/
theorem lsuper_method {id T gid bt : String} {name : Str} {pl : Sem Bool} {Q : Value × List Value → Shared → Prop} (hB : BoundBy name id T gid bt) (hn : (name == ("__class__" : Str)) = false) (F : Fr h₀ L s.heap m) (X₀ : K.In h₀) (N : News h₀ L s.heap news)
    (hso : (so, ks_superObj C x C) ∈ news) (I : InstAt s.heap x ox C odx) (ho : nsIn K cStatics "thirdparty.any" = some none) (hp : lplain K C = true)
    (h : ∀ q h', Fr h₀ L h' m → News h₀ L h' ((q, boundO bt id x) :: news) → (∀ p ∈ news, p.1 < q) → Q (.ref q, []) { s with heap := h', toks := s.toks + 1 }) : wpAny (model prog w) A (getMethod (.ref so) name pl) Q E s := by
  have X : K.In s.heap := X₀.keeps F.keep
  obtain ⟨hh, g, d, t, os⟩ := s
  obtain ⟨cd, hc, hl⟩ := any_some hp
  have hC : Looks (model prog w) hh (mroOf (.ref C)) [.ref C, .type "list", .type "object"] := beq_iff_eq.mp hl ▸ (looks_clsIn X hc).andThen .now
  have hi : Looks (model prog w) hh (isSubtype (.ref C) (.type "list")) true := looks_mroIn X (by simp [mroIn, hc, beq_iff_eq.mp hl])
  have hno := looks_opaque (M := model prog w) (C := C) X ho
  have hat := (N _ hso).1
  have hT : (⟨hh, g, d, t + 1, os⟩ : Shared).TypeIs (.ref so) "super" := ⟨_, hat, rfl⟩
  have hlk := PySem.F.ks_slot_super_ga.lookup
  have hbd := PySem.F.ks_slot_super_ga.bind (.ref so)
  have hcan := PySem.F.ks_canon_super_ga
  have new : wpAny (model prog w) A (call (.builtin "super.__getattribute__") ([.ref so] ++ [.str name t])) (fun v s' => v = .ref hh.objs.size ∧ s' = ⟨hh.push (boundO bt id x), g, d, t + 1, os⟩) (fun _ _ => False) ⟨hh, g, d, t + 1, os⟩ :=
    wpAny_call_entry PySem.F.ks_slot_super_ga hT PySem.F.ks_entry_super_ga (lsuper_ga hB hn hat hno hC I.type hi (ks_ne X I hc) ⟨_, rfl, rfl, rfl⟩) (PySem.F.ks_gaArgs_super _ _)
  unfold getMethod
  repeat (first
    | with_reducible refine wpAny_of_eq hlk ?_
    | with_reducible refine wpAny_of_eq hbd ?_
    | with_reducible refine wpAny_mkText ?_
    | with_reducible refine wpAny_attempt ?_
    | with_reducible refine wpAny_mono new ?_ fun _ _ z => z.elim
    | rw [if_pos hcan]
    | lk)
  intro v s' e
  obtain ⟨F', N', l⟩ := ks_newsPush (s := ⟨hh, g, d, t, os⟩) (o := boundO bt id x) F N rfl (Heap.get?_push_at rfl rfl) fun b o e => Heap.get?_push_of_some _ e
  rw [e.1, e.2]
  exact wpAny_pure (wpAny_pure (h _ _ F' N' l))
end
end Mine
end
-- AL
section
open PySem PySem.W PyProof.Rows PySem.Calls PySem.Spec Builtin Builtin.ObjectAttr Builtin.Getset_descriptor
namespace Mine
def SeqAt (h : Heap) (l : Addr) (items : Array Value) : Prop := ∃ o n, h.get? l = some o ∧ o.data = .seq items n
theorem SeqAt.at' {h h' : Heap} {l : Addr} {items : Array Value} (x : SeqAt h l items) (hk : ∀ o, h.get? l = some o → h'.get? l = some o) : SeqAt h' l items := let ⟨o, n, a, b⟩ := x; ⟨o, n, hk _ a, b⟩
section
variable {prog : Program} {w : World} {A : Around} {E : Value → Shared → Prop} {s : Shared}
theorem acc_next_item {it l : Addr} {i : Nat} {items} {x : Value} {Q : Option Value → Shared → Prop} (hit : s.heap.IsListIter it l i)
    (hl : SeqAt s.heap l items) (hx : items[i]? = some x)
    (hQ : ∀ h', h'.IsListIter it l (i + 1) → Heap.SameBut it s.heap h' → Q (some x) { s with heap := h' }) :
    wpAny (model prog w) A (pyNext (.ref it)) Q E s := by
  have ⟨o, ho, hc, hd⟩ := hit
  have ⟨ol, nl, hol, hdl⟩ := hl
  have n0 : (Value.ref l == Value.none) = false := rfl
  unfold pyNext
  refine wpAny_bind (wpAny_attempt (wpAny_callSpecial?_slot (name := Str.ofString "__next__") hit.typeIs slot_listiter_next (wpAny_call_entry slot_listiter_next hit.typeIs entry_listiter_next ?_ (args_listiter_next _))))
  unfold Builtin.«list_iterator.__next__»
  repeat (first
    | with_reducible refine wpAny_field ho hd (x := .ref l) rfl ?_
    | with_reducible refine wpAny_field ho hd (x := .int i 0) rfl ?_
    | with_reducible refine wpAny_seqItems hol hdl ?_
    | with_reducible refine wpAny_setField ho hd (by simp) ?_
    | simp only [n0, Bool.false_eq_true, if_false, Int.toNat_natCast, hx]
    | wp_step
    | dsimp only)
  have hd' := Obj.data_mapFields hd fun x => x.setIfInBounds 1 (rawInt (i + 1))
  exact ⟨x, rfl, wpAny_pure (hQ _ ⟨_, Heap.get?_update_self _ ho (Obj.isFreed_of_fields hd'), (Obj.cls_mapFields ..).trans hc, by rw [hd']; simp [rawInt]⟩ (Heap.SameBut.update ..))⟩
theorem acc_next_end {it l : Addr} {i : Nat} {items} {Q : Option Value → Shared → Prop} (hh : A.handled = none)
    (hit : s.heap.IsListIter it l i) (hl : SeqAt s.heap l items) (hx : items[i]? = none)
    (hQ : ∀ h', Heap.ExtBut it s.heap h' → Q none { s with heap := h' }) : wpAny (model prog w) A (pyNext (.ref it)) Q E s := by
  have ⟨o, ho, hc, hd⟩ := hit
  have ⟨ol, nl, hol, hdl⟩ := hl
  have n0 : (Value.ref l == Value.none) = false := rfl
  unfold pyNext
  refine wpAny_bind (wpAny_attempt (wpAny_callSpecial?_slot (name := Str.ofString "__next__") hit.typeIs slot_listiter_next (wpAny_call_entry slot_listiter_next hit.typeIs entry_listiter_next ?_ (args_listiter_next _))))
  unfold Builtin.«list_iterator.__next__»
  repeat (first
    | with_reducible refine wpAny_field ho hd (x := .ref l) rfl ?_
    | with_reducible refine wpAny_field ho hd (x := .int i 0) rfl ?_
    | with_reducible refine wpAny_seqItems hol hdl ?_
    | with_reducible refine wpAny_setField ho hd (by simp) ?_
    | simp only [n0, Bool.false_eq_true, if_false, Int.toNat_natCast, hx]
    | wp_step
    | dsimp only)
  unfold raiseNew
  repeat (first
    | with_reducible refine wpAny_handled ?_
    | simp only [hh, isSubtype_stop, if_true]
    | wp_step
    | dsimp only)
  exact hQ _ (((Heap.SameBut.update ..).extBut.push _).push _)
end
abbrev pairO (f : Str) (t1 : Tok) (p : Str) (t2 : Tok) : Obj := { cls := .type "tuple", data := .seq #[.str f t1, .str p t2] }
/-- the tuples of a list -/
def TupsAt (h : Heap) (items : Array Value) (ps : List (Str × Str)) : Prop :=
  items.size = ps.length ∧ ∀ i (hi : i < items.size), ∃ T f p t1 t2, items[i]? = some (.ref T) ∧ ps[i]? = some (f, p) ∧ h.get? T = some (pairO f t1 p t2)
def PairP (ps : List (Str × Str)) (i : Nat) (vals : Array Value) : Prop := ∃ f p t1 t2, ps[i]? = some (f, p) ∧ vals = #[.str f t1, .str p t2]
def AccSt (I a : Addr) (items : Array Value) (ps : List (Str × Str)) (fs : List Addr) (i : Nat) (h : Heap) : Prop := h.IsListIter I a i ∧ SeqAt h a items ∧ (TupsAt h items ps ∧ I ∉ fs ∧ ∀ v ∈ items, ∃ T ∈ fs, v = .ref T)
theorem walksU_acc {prog : Program} {w : World} {A : Around} (hh : A.handled = none) (I a : Addr) (hne : a ≠ I) (items : Array Value) (ps : List (Str × Str)) (fs : List Addr) :
    WalksU prog w A I (I :: a :: fs) [I] items.size (PairP ps) (AccSt I a items ps fs) (fun i T h => AccSt I a items ps fs (i + 1) h ∧ T ≠ I) where
  sub := fun b hb => by rw [List.mem_singleton.mp hb]; exact .head _
  frame := fun i h h' st hk => by
    refine ⟨st.1.at fun o e => hk I (.head _) o e, st.2.1.at' fun o e => hk a (.tail _ (.head _)) o e, ⟨st.2.2.1.1, fun i hi => ?_⟩, st.2.2.2.1, st.2.2.2.2⟩
    obtain ⟨T, f, p, t1, t2, e1, e2, e3⟩ := st.2.2.1.2 i hi
    refine ⟨T, f, p, t1, t2, e1, e2, hk T ?_ _ e3⟩
    obtain ⟨T', hT', e⟩ := st.2.2.2.2 (.ref T) (by obtain ⟨_, e⟩ := Array.getElem?_eq_some_iff.mp e1; exact e ▸ Array.getElem_mem _)
    cases e
    exact .tail _ (.tail _ hT')
  item := fun i s Q E hi st hQ => by
    obtain ⟨T, f, p, t1, t2, e1, e2, e3⟩ := st.2.2.1.2 i hi
    obtain ⟨T', hT', e⟩ := st.2.2.2.2 (.ref T) (by obtain ⟨_, e⟩ := Array.getElem?_eq_some_iff.mp e1; exact e ▸ Array.getElem_mem _)
    cases e
    have hTI : T ≠ I := fun e => st.2.2.2.1 (e ▸ hT')
    refine acc_next_item st.1 st.2.1 e1 fun h' hit' hs' => ?_
    refine hQ T #[.str f t1, .str p t2] h' s.toks ⟨f, p, t1, t2, e2, rfl⟩ ⟨_, hs'.extBut T _ hTI e3, rfl, 0, rfl⟩ ⟨⟨hit', st.2.1.at' fun o e => hs'.extBut a o hne e, ⟨st.2.2.1.1, fun j hj => ?_⟩, st.2.2.2.1, st.2.2.2.2⟩, hTI⟩ fun b o hb e => hs'.extBut b o (fun h => hb (by simp [h])) e
    obtain ⟨T₂, f, p, t1, t2, e1, e2, e3⟩ := st.2.2.1.2 j hj
    obtain ⟨T', hT', e⟩ := st.2.2.2.2 (.ref T₂) (by obtain ⟨_, e⟩ := Array.getElem?_eq_some_iff.mp e1; exact e ▸ Array.getElem_mem _)
    cases e
    exact ⟨T₂, f, p, t1, t2, e1, e2, hs'.extBut T₂ _ (fun e => st.2.2.2.1 (e ▸ hT')) e3⟩
  go := fun elts k pos i T s Q E hm hQ => by
    obtain ⟨o, ho, hc, hd⟩ := id hm.1.1
    unfold letOwnedTupleGo
    dsimp only
    refine wpAny_bind (wpAny_load ho ?_)
    rw [hc, hd]
    exact wpAny_pure (hQ s.heap hm.1 fun _ _ _ e => e)
  apart := fun i T h hm hT => hm.2 (List.mem_singleton.mp hT)
  done := fun s Q E st hQ => acc_next_end hh st.1 st.2.1 (by simp) fun h' he' => hQ h' s.toks fun b o hb e => he' b o (fun h => hb (by simp [h])) e
  self := fun _ _ _ _ st hQ => wpAny_pyIter_listiter st.1 hQ
section
variable {prog : Program} {w : World} {A : Around} {E : Value → Shared → Prop} {s : Shared}
theorem lcheck {M : Model} {i n : String} {self : Value} {rest : List Value} {Q : Unit → Shared → Prop}
    (hk : builtinKind i = some .slot ∨ builtinKind i = some .method) (hs : splitId i = some ("list", n)) (hi : Looks M s.heap (isInstance self (.type "list")) true) (ha : argsOk i ⟨self :: rest, []⟩) (q : Q () s) :
    wpAny M A (checkBuiltinCall i ⟨self :: rest, []⟩) Q E s := by
  refine hk.elim (fun hk => check_slot hk hs hi ha q) fun hk => ?_
  obtain ⟨hh, g, d, tk, os⟩ := s
  simp only [checkBuiltinCall, hk, hs]
  unfold argsOk at ha
  cases e : Manifest.signature? i
  all_goals rw [e] at ha
  all_goals repeat (first | with_reducible refine wpAny_of_eq ha ?_ | simp only [Bool.not_true, Bool.false_eq_true, if_false] | lk)
  all_goals exact q
theorem lcall {id n : String} {B : Builtin} {self : Value} {rest : List Value} {Q : Value → Shared → Prop} (hk : builtinKind id = some .slot ∨ builtinKind id = some .method) (hs : splitId id = some ("list", n)) (pl : plainId id = true)
    (en : entryFor table id = some B) (ar : argsOk id ⟨self :: rest, []⟩) (hi : Looks (model prog w) s.heap (isInstance self (.type "list")) true)
    (h : wpAny (model prog w) A.in1 (B ⟨self :: rest, []⟩) (fun fin s' => ∃ v, fin = .done (.ret v) ∧ Q v s') E s) : wpAny (model prog w) A (call (.builtin id) (self :: rest)) Q E s := by
  refine wpAny_call (codeAny_call_builtin pl en (lcheck hk hs hi ar (wpAny_mono h (fun fin s' h' => ?_) fun _ _ h' => h')))
  obtain ⟨v, rfl, hv⟩ := h'
  exact hv
theorem InstAt.lst {M : Model} {K : Frag} {h : Heap} {x C : Addr} {ox : Obj} {od : Option Obj} (X : K.In h) (I : InstAt h x ox C od) (hl : mroIn K C (.type "list") = some true) : Looks M h (isInstance (.ref x) (.type "list")) true :=
  I.type.andThen (looks_mroIn X hl)
theorem li_bind (self : Value) : bindSpecial (.builtin "list.__iter__") self = pure (.builtin "list.__iter__", [self]) := slot_list_iter.bind self
theorem pyIter_acc {K : Frag} {x C : Addr} {ox : Obj} {od : Option Obj} {Q : Value → Shared → Prop} (X : K.In s.heap) (I : InstAt s.heap x ox C od) (hl : mroIn K C (.type "list") = some true)
    (hs : findIn K (.ref C) "__iter__" = some (some (.builtin "list.__iter__"))) (h : Q (.ref s.heap.objs.size) { s with heap := s.heap.push { cls := .type "list_iterator", data := .fields #[.ref x, .int 0 0] } }) :
    wpAny (model prog w) A (pyIter (.ref x)) Q E s := by
  unfold pyIter
  refine wpAny_bind (wpAny_bind (I.type.here ((looks_findIn X hs).here ?_)))
  show wpAny _ A (callSpecialIfBoundUnlessNone? (.ref x) "__iter__" _ >>= _) Q E s
  unfold callSpecialIfBoundUnlessNone? bindSpecialIfBound?
  have X' := X
  have I' := I
  have hi := InstAt.lst (M := model prog w) X I hl
  have fin : wpAny (model prog w) A (call (.builtin "list.__iter__") [.ref x]) (fun it s' => wpAny (model prog w) A (specialOf it (Str.ofString "__next__")) (fun r s'' => r.isSome = true ∧ Q it s'') E s') E s := by
    refine lcall (.inl (by decide +kernel)) (n := "__iter__") (by decide +kernel) (by decide +kernel) entry_list_iter (args_list_iter _) hi ?_
    show wpAny _ _ (do ret (← newFields "list_iterator" [.ref x, rawInt 0])) _ _ s
    refine wpAny_bind (wpAny_newObj_type (wpAny_pure ⟨_, rfl, ?_⟩))
    exact wpAny_specialOf (T := "list_iterator") ⟨_, Heap.get?_push_size _ rfl, rfl⟩ slot_listiter_next.lookup ⟨rfl, h⟩
  refine wpAny_bind (wpAny_holding (wpAny_bind (wpAny_bind (wpAny_bind (I.type.here ((looks_findIn X hs).here ?_))))))
  dsimp only
  rw [li_bind]
  refine wpAny_bind (wpAny_askSetting ?_)
  split
  · refine wpAny_bind (wpAny_pure (wpAny_pure ?_))
    dsimp only
    rw [if_neg (by simp)]
    refine wpAny_bind (wpAny_mono fin (fun it s' h' => wpAny_pure ?_) fun _ _ e => e)
    refine wpAny_bind (wpAny_mono h' (fun r s'' h'' => ?_) fun _ _ e => e)
    cases r with
    | none => exact absurd h''.1 (by decide)
    | some v => exact wpAny_pure h''.2
  · refine wpAny_tryCatch (wpAny_bind (wpAny_pure (wpAny_pure ?_)))
    dsimp only
    rw [if_neg (by simp)]
    refine wpAny_bind (wpAny_mono fin (fun it s' h' => wpAny_pure ?_) fun _ _ e => e)
    refine wpAny_bind (wpAny_mono h' (fun r s'' h'' => ?_) fun _ _ e => e)
    cases r with
    | none => exact absurd h''.1 (by decide)
    | some v => exact wpAny_pure h''.2
theorem lget_value {K : Frag} {x C : Addr} {ox : Obj} {od : Option Obj} {name : Str} {expr : Bool} {v : Value} {Q : Value → Shared → Prop} (X : K.In s.heap) (I : InstAt s.heap x ox C od) (hl : mroIn K C (.type "list") = some true)
    (hga : findIn K (.ref C) "__getattribute__" = some (some (.builtin "list.__getattribute__"))) (hk : findIn K (.ref C) "__getattr__" = some none) (hf : findObj K C od name = some (.value v)) (hh : handedIn v = true) (h : Q v { s with toks := s.toks + 1 }) :
    wpAny (model prog w) A (getAttr (.ref x) name expr) Q E s := by
  have hi := InstAt.lst (M := model prog w) X I hl
  obtain ⟨hp, g, d, t, os⟩ := s
  have L0 := I.type (M := model prog w)
  have L1 := looks_findIn (M := model prog w) X hga
  have L2 := looks_findIn (M := model prog w) X hk
  have L3 := looks_find (M := model prog w) X I hf
  unfold getAttr getAttrBy
  refine wpAny_bind (wpAny_mkText (wpAny_holding (wpAny_bind (L0.at (wpAny_bind (L1.at ?_))))))
  show wpAny _ _ (getAttrByItsOwn (.ref x) (.str name _) (.ref C) (.builtin "list.__getattribute__") true expr) _ _ _
  unfold getAttrByItsOwn hookBefore
  refine wpAny_bind (L2.at ?_)
  refine wpAny_bind (wpAny_attempt (wpAny_holding ?_))
  unfold callGetattribute
  rw [if_neg (by cases expr <;> simp [onTheHeap])]
  unfold boundAndCalled
  rw [PySem.F.slot_list_getattribute.bind]
  refine wpAny_bind (wpAny_pure ?_)
  refine lcall (n := "__getattribute__") (.inl (by decide +kernel)) (by decide +kernel) (by decide +kernel) am_entry_list_getattribute (PySem.F.args_list_getattribute_2 _ _) (fun A Q E s' k q => hi A Q E s' (fun b o e => k b o e) q) ?_
  unfold Builtin.«object.__getattribute__»
  repeat lk
  refine ⟨v, rfl, ?_⟩
  rw [handedOut_of hh]
  exact wpAny_pure h
theorem lget_own {K : Frag} {x C L : Addr} {ox : Obj} {es : List DictEntry} {n : Nat} {name : Str} {expr : Bool} {v : Value} {attr : Option Value} {h₀ : Heap} {m : Str → Option Value} {Q : Value → Shared → Prop} (F : Fr h₀ L s.heap m) (X₀ : K.In h₀) (I : InstAt s.heap x ox C (some (dictOf es n))) (hl : mroIn K C (.type "list") = some true)
    (hga : findIn K (.ref C) "__getattribute__" = some (some (.builtin "list.__getattribute__"))) (hk : findIn K (.ref C) "__getattr__" = some none) (hd : hasDictIn K C = true) (ha : findIn K (.ref C) name = some attr) (hn : noGet K attr = true) (hg : getL name es = some (some v)) (hh : handedIn v = true) (h : Q v { s with toks := s.toks + 1 }) :
    wpAny (model prog w) A (getAttr (.ref x) name expr) Q E s :=
  lget_value (X₀.keeps F.keep) I hl hga hk (findObj_own hd ha hn hg) hh h
end
end Mine
end
-- AQ
section
open PySem PySem.W PyProof.Rows PySem.Calls PySem.Spec
namespace Mine
section
variable {prog : Program} {w : World} {A : Around} {E : Value → Shared → Prop} {s : Shared} {env : Env} {m mg mb : Str → Option Value}
theorem nm_loc {x : Str} {pos : Pos} {v : Value} {Q : Value → Shared → Prop} (hk : env.scope.kind = .function) (hl : env.kindOf x = some .local) (hn : s.heap.Ns env.locals m) (hv : m x = some v) (h : Q v s) (hd : (x == ("__debug__" : Str)) = false := by decide) :
    wpAny (model prog w) A (eval (.Name x pos) env) Q E s := wpAny_Name (wpAny_loadName_local hk hl hn hv h) hd
theorem nm_blt {x : Str} {pos : Pos} {v : Value} {Q : Value → Shared → Prop} (hk : env.scope.kind = .function) (hl : env.kindOf x = some .globalImplicit) (hg : s.heap.Ns env.globals mg) (hm : mg x = none) (hb : s.heap.Ns env.builtins mb) (hv : mb x = some v) (h : Q v s) (hd : (x == ("__debug__" : Str)) = false := by decide) :
    wpAny (model prog w) A (eval (.Name x pos) env) Q E s := wpAny_Name (ks_loadName_global hk hl (loadGlobal_builtin hg hm hb hv h)) hd
theorem nm_glb {x : Str} {pos : Pos} {v : Value} {Q : Value → Shared → Prop} (hk : env.scope.kind = .function) (hl : env.kindOf x = some .globalImplicit) (hg : s.heap.Ns env.globals mg) (hm : mg x = some v) (h : Q v s) (hd : (x == ("__debug__" : Str)) = false := by decide) :
    wpAny (model prog w) A (eval (.Name x pos) env) Q E s := wpAny_Name (ks_loadName_global hk hl (loadGlobal_global hg hm h)) hd
theorem len_of {x f : Str} {p1 p2 p3 : Pos} {y : Str} {t : Tok} {Q : Value → Shared → Prop} (hk : env.scope.kind = .function) (hl : env.kindOf "len" = some .globalImplicit) (hg : s.heap.Ns env.globals mg) (hm : mg "len" = none) (hb : s.heap.Ns env.builtins mb) (hv : mb "len" = some (.builtin "len"))
    (hx : env.kindOf x = some .local) (hn : s.heap.Ns env.locals m) (hmx : m x = some (.str y t)) (hy : y.length ≤ 4000) (h : Q (.int y.length (s.toks + 1)) { s with toks := s.toks + 1 + 1 }) (hd : (x == ("__debug__" : Str)) = false := by decide) :
    wpAny (model prog w) A (eval (.Call (.Name "len" p1) [.Name x p2] [] p3) env) Q E s := by
  refine wpAny_Call_NameR (nm_blt hk hl hg hm hb hv ?_)
  repeat' ((fail_if_success (with_reducible show wpAny _ _ (eval (PySem.Expr.Name _ _) _) _ _ _)); first | (k_unfold; (try dsimp only)) | walk1 | (dsimp only; walk1))
  refine nm_loc hk hx hn hmx ?_ hd
  k_steps
  exact h
end
section
variable {prog : Program} {w : World}
theorem range_one {C : Nat} {b : Addr} (h : b < C) : b ∈ List.range C := List.mem_range.mpr h
theorem quiet_len {cenv : Env} {mg mb : Str → Option Value} {href : Heap} {C I : Addr} {ps : List (Str × Str)} {p1 p2 p3 p4 p5 p6 p7 : Pos} (hk : cenv.scope.kind = .function) (hL : cenv.locals = C)
    (hl : cenv.kindOf "len" = some .globalImplicit) (h1 : cenv.kindOf "fws" = some .local) (h2 : cenv.kindOf "part" = some .local)
    (hg : href.Ns cenv.globals mg) (hb : href.Ns cenv.builtins mb) (hgC : cenv.globals < C) (hbC : cenv.builtins < C) (hgI : cenv.globals ≠ I) (hbI : cenv.builtins ≠ I)
    (hm : mg "len" = none) (hv : mb "len" = some (.builtin "len")) (hz : ∀ q ∈ ps, q.1.length ≤ 4000 ∧ q.2.length ≤ 4000) :
    QuietGenT prog w cenv "fws" "part" [] (.BinOp (.Call (.Name "len" p1) [.Name "fws" p2] [] p3) .Add (.Call (.Name "len" p4) [.Name "part" p5] [] p6) p7) (List.range C) [I] (PairP ps) (fun _ => true)
      (fun i y => ∃ f p t, ps[i]? = some (f, p) ∧ y = .int ((f.length : Int) + (p.length : Int)) t) href where
  tests := fun A' E' i va vb s₂ m₂ hh hP hn _ _ hkp => by
    rw [List.forIn_nil]
    exact wpAny_pure ⟨rfl, _, _, rfl, fun _ _ e => e⟩
  elt := fun A' E' i va vb s₂ m₂ hh hP _ hn ha hb' hkp => by
    obtain ⟨f, p, t1, t2, hps, e⟩ := hP
    cases e
    have hg' : s₂.heap.Ns cenv.globals mg := hg.at' fun o e => hkp _ (range_one hgC) (by simpa using hgI) o e
    have hbn : s₂.heap.Ns cenv.builtins mb := hb.at' fun o e => hkp _ (range_one hbC) (by simpa using hbI) o e
    have hzz := hz (f, p) (List.mem_of_getElem? hps)
    refine wpAny_BinOp (len_of (f := f) hk hl hg' hm hbn hv h1 hn ha hzz.1 (len_of (f := f) hk hl hg' hm hbn hv h2 hn hb' hzz.2 ?_))
    refine wpAny_add_int ?_
    exact ⟨⟨f, p, _, hps, rfl⟩, _, _, rfl, fun _ _ e => e⟩
end
end Mine
end
-- AR
section
open PySem PySem.W PyProof.Rows PySem.Calls PySem.Spec
namespace Mine
theorem len_e : (Str.ofString "").length = 0 := by decide
theorem join2 (f p : Str) : Txt.join (Str.ofString "") [f, p] = f ++ p := by
  show f ++ (Str.ofString "") ++ p = f ++ p
  have e : f ++ Str.ofString "" = f := by
    show (⟨f.cps ++ (Str.ofString "").cps⟩ : Str) = f
    have e0 : (Str.ofString "").cps = #[] := by decide
    rw [e0, Array.append_empty]
  rw [e]
section
variable {prog : Program} {w : World} {A : Around} {E : Value → Shared → Prop} {s : Shared} {env : Env} {m mg mb : Str → Option Value}
theorem join_of {f p : Str} {t te tp : Tok} {Q : Value → Shared → Prop} (hk : env.scope.kind = .function) (hl : env.kindOf "EMPTYSTRING" = some .globalImplicit) (hg : s.heap.Ns env.globals mg) (hm : mg "EMPTYSTRING" = some (.str (Str.ofString "") te))
    (hx1 : env.kindOf "fws" = some .local) (hx2 : env.kindOf "part" = some .local) (hn : s.heap.Ns env.locals m) (hm1 : m "fws" = some (.str f t)) (hm2 : m "part" = some (.str p tp)) (hz : f.length ≤ 4000 ∧ p.length ≤ 4000)
    (h : ∀ h' t' k, (∀ b o, s.heap.get? b = some o → h'.get? b = some o) → Q (.str (f ++ p) t') { s with heap := h', toks := k }) :
    wpAny (model prog w) A (eval (.Call (.Attribute (.Name "EMPTYSTRING" ⟨166, 33, 166, 44⟩) "join" ⟨166, 33, 166, 49⟩) [.Tuple [.Name "fws" ⟨166, 51, 166, 54⟩, .Name "part" ⟨166, 56, 166, 60⟩] 0 ⟨166, 50, 166, 61⟩] [] ⟨166, 33, 166, 62⟩) env) Q E s := by
  have hn' := hn
  repeat' ((fail_if_success (with_reducible show wpAny _ _ (eval (PySem.Expr.Name _ _) _) _ _ _)); first | (k_unfold; (try dsimp only)) | walk1 | (dsimp only; walk1))
  refine nm_glb hk hl hg hm ?_
  repeat' ((fail_if_success (with_reducible show wpAny _ _ (eval (PySem.Expr.Name _ _) _) _ _ _)); first | (k_unfold; (try dsimp only)) | walk1 | (dsimp only; walk1))
  refine nm_loc hk hx1 hn hm1 ?_
  repeat' ((fail_if_success (with_reducible show wpAny _ _ (eval (PySem.Expr.Name _ _) _) _ _ _)); first | (k_unfold; (try dsimp only)) | walk1 | (dsimp only; walk1))
  refine nm_loc hk hx2 hn hm2 ?_
  k_steps
  refine wpAny_newObj_type ?_ (by size_fits)
  k_steps
  refine join_tuple (ys := [f, p]) ⟨_, Heap.get?_push_size _ rfl, rfl, 0, rfl⟩ (.cons _ _ (.cons _ _ .nil)) (by simp [len_e]; omega) fun t' k => ?_
  rw [join2]
  exact h _ _ _ fun b o e => Heap.get?_push_of_some _ e
theorem quiet_str {cenv : Env} {mg : Str → Option Value} {href : Heap} {C I : Addr} {ps : List (Str × Str)} {te : Tok} (hk : cenv.scope.kind = .function)
    (hl : cenv.kindOf "EMPTYSTRING" = some .globalImplicit) (h1 : cenv.kindOf "fws" = some .local) (h2 : cenv.kindOf "part" = some .local)
    (hg : href.Ns cenv.globals mg) (hgC : cenv.globals < C) (hgI : cenv.globals ≠ I)
    (hm : mg "EMPTYSTRING" = some (.str (Str.ofString "") te)) (hz : ∀ q ∈ ps, q.1.length ≤ 4000 ∧ q.2.length ≤ 4000) :
    QuietGenT prog w cenv "fws" "part" [] (.Call (.Attribute (.Name "EMPTYSTRING" ⟨166, 33, 166, 44⟩) "join" ⟨166, 33, 166, 49⟩) [.Tuple [.Name "fws" ⟨166, 51, 166, 54⟩, .Name "part" ⟨166, 56, 166, 60⟩] 0 ⟨166, 50, 166, 61⟩] [] ⟨166, 33, 166, 62⟩) (List.range C) [I] (PairP ps) (fun _ => true)
      (fun i y => ∃ f p t, ps[i]? = some (f, p) ∧ y = .str (f ++ p) t) href where
  tests := fun A' E' i va vb s₂ m₂ hh hP hn _ _ hkp => by
    rw [List.forIn_nil]
    exact wpAny_pure ⟨rfl, _, _, rfl, fun _ _ e => e⟩
  elt := fun A' E' i va vb s₂ m₂ hh hP _ hn ha hb' hkp => by
    obtain ⟨f, p, t1, t2, hps, e⟩ := hP
    cases e
    have hg' : s₂.heap.Ns cenv.globals mg := hg.at' fun o e => hkp _ (range_one hgC) (by simpa using hgI) o e
    have hzz := hz (f, p) (List.mem_of_getElem? hps)
    exact join_of hk hl hg' hm h1 h2 hn ha hb' hzz fun h' t' k hk' => ⟨⟨f, p, _, hps, rfl⟩, _, _, rfl, hk'⟩
end
end Mine
end
-- AG
section
open PySem PySem.W PyProof.Rows PySem.Calls PySem.Spec
namespace Mine
theorem passing_all (n : Nat) : passing (fun _ => true) n 0 = List.range n := by
  unfold passing
  rw [List.drop_zero, List.filter_eq_self.mpr (fun _ _ => rfl)]
/-- a generator that has not been asked yet, apart from the frame and the ledger -/
def GenN (prog : Program) (w : World) (A : Around) (h₀ : Heap) (L : Addr) (news : List (Addr × Obj)) (a : Addr) (n : Nat) (P : Nat → Value → Prop) (s : Shared) : Prop :=
  ∃ fp wr g St, WalksS prog w A.in4 a fp wr (GenOnlyQ g) n P St ∧ St 0 s ∧ (∀ i s', St i s' → s'.TypeIs (.ref a) "generator") ∧ a ∈ fp ∧ (∀ b ∈ fp, b < s.heap.objs.size) ∧
    ∀ b ∈ wr, h₀.get? b = none ∧ b ≠ L ∧ ∀ p ∈ news, p.1 ≠ b
theorem bare_moved {g : Nat} {a b : Array GenState} (h : GenOnlyQ g a b) (G : AllBare a) : AllBare b := by
  rcases h with rfl | ⟨⟨hs, hk⟩, hb⟩
  · exact G
  · intro y hy
    obtain ⟨i, hi, rfl⟩ := Array.mem_iff_getElem.mp hy
    have e : b[i]? = some b[i] := Array.getElem?_eq_getElem hi
    by_cases hg : i = g
    · subst hg; exact hb _ e
    · rw [hk i hg] at e
      exact G _ (Array.mem_of_getElem? e)
section
variable {prog : Program} {w : World} {A : Around} {h₀ : Heap} {L : Addr} {m : Str → Option Value} {news : List (Addr × Obj)} {wr : List Addr} {g : Nat} {s s' : Shared}
theorem moved_all (M : Moved wr (GenOnlyQ g) s s') (hw : ∀ b ∈ wr, h₀.get? b = none ∧ b ≠ L ∧ ∀ p ∈ news, p.1 ≠ b) (F : Fr h₀ L s.heap m) (N : News h₀ L s.heap news) (G : AllBare s.gens) :
    Fr h₀ L s'.heap m ∧ News h₀ L s'.heap news ∧ AllBare s'.gens ∧ ∃ h' tk gs, s' = { s with heap := h', toks := tk, gens := gs } := by
  refine ⟨⟨F.ns.at' fun o e => M.heap L o (fun hm => (hw L hm).2.1 rfl) e, fun b o e => M.heap b o (fun hm => ?_) (F.keep b o e), F.above⟩, fun p hp => ⟨M.heap _ _ (fun hm => (hw _ hm).2.2 p hp rfl) (N p hp).1, (N p hp).2⟩, bare_moved M.gens G, ?_⟩
  · have := (hw b hm).1
    rw [e] at this; cases this
  · obtain ⟨h, gs, d, t, os⟩ := s
    obtain ⟨h', gs', d', t', os'⟩ := s'
    have e1 : d' = d := M.drawn
    have e2 : os' = os := M.os
    subst e1 e2
    exact ⟨h', t', gs', rfl⟩
end
section
variable {w : World} {A : Around} {E : Value → Shared → Prop} {s : Shared} {h₀ : Heap} {L : Addr} {m mg mb : Str → Option Value} {news : List (Addr × Obj)} {K : Frag} {p : Program} {prog : Program} {loose : List Str} {mean : ExcName → Option Value} {a dx C c P : Addr} {its : Array Value} {n : Nat} {pl : Array Value} {g : Obj → List (Addr × Obj)} {od : Option Obj} {ps : List (Str × Str)} {fs : List Addr} {env : Env}
/-- what stands behind the code of a generator expression over an accumulator -/
theorem gen_acc {elt : Expr} {pa pb pt pi : Pos} {scope : Scope} {pos : Pos} {xs : Str} {Q : Value → Shared → Prop} {Fv : Nat → Value → Prop}
    (F : Fr h₀ L s.heap m) (N : News h₀ L s.heap news) (X₀ : K.In h₀) (T : Top p loose mean mg mb h₀) (G : AllBare s.gens) (hh : A.handled = none) (hroom : A.depth < recursionLimit)
    (hC : CodeHd h₀ c P) (hcd : env.code = .ref c) (U : UpdF P (tabObj pl) news g) (ht : TriplesOk pl.toList) (hmem : (a, accO C dx its n) ∈ news) (I : InstAt s.heap a (accO C dx its n) C od)
    (hl : mroIn K C (.type "list") = some true) (hs : findIn K (.ref C) "__iter__" = some (some (.builtin "list.__iter__"))) (hT : TupsAt s.heap its ps) (hfs : ∀ v ∈ its, ∃ T ∈ fs, v = .ref T) (hfl : ∀ t ∈ fs, t < s.heap.objs.size)
    (hk : env.scope.kind = .function) (hself : env.kindOf xs = some .local) (hL : env.locals = L) (hv : m xs = some (.ref a)) (hdb : (xs == ("__debug__" : Str)) = false) (hgl : env.globals = mainGlobals)
    (hco : scope.isCoroutine = false) (hclos : closureFor scope env = pure []) (hcell : ∀ y ∈ scope.names, y.2 ≠ .cell) (h0 : scope.names.lookup (".0" : Str) = some NameKind.local)
    (hxa : scope.names.lookup ("fws" : Str) = some NameKind.local) (hxb : scope.names.lookup ("part" : Str) = some NameKind.local) (hkind : scope.kind = .function)
    (hq : ∀ (Cn : Addr) (code : Value) (href : Heap), s.heap.objs.size < Cn → (∀ b o, h₀.get? b = some o → href.get? b = some o) →
      QuietGenT prog w (genEnv scope [] Cn code builtinsNs env) "fws" "part" [] elt (List.range Cn) [s.heap.objs.size] (PairP ps) (fun _ => true) Fv href)
    (hQ : ∀ ga h' tk gs pl', TriplesOk pl'.toList → Fr h₀ L h' m → News h₀ L h' (g (tabObj pl')) → AllBare gs → GenN prog w A h₀ L (g (tabObj pl')) ga its.size Fv { s with heap := h', toks := tk, gens := gs } → Q (.ref ga) { s with heap := h', toks := tk, gens := gs })
    (hsf : ∀ x, genFold (.Name xs pi) env x = pure x) :
    wpAny (model prog w) A (eval (.GeneratorExp elt [⟨.Tuple [.Name "fws" pa, .Name "part" pb] 0 pt, .Name xs pi, [], 0⟩] scope pos) env) Q E s := by
  obtain ⟨pre, post, hn, hg, u1, u2⟩ := U.split
  have hPm : (P, tabObj pl) ∈ news := by rw [hn]; exact List.mem_append_right _ (.head _)
  have hP := N _ hPm
  have ha := N _ hmem
  have haP : a ≠ P := fun e => by
    have h1 := hP.1
    rw [← e, ha.1] at h1
    cases h1
  have hlt : ∀ b o, h₀.get? b = some o → b < s.heap.objs.size := fun b o e => Heap.lt_size (F.keep b o e)
  have hLlt : L < s.heap.objs.size := F.ns.lt
  generalize hI : s.heap.objs.size = I₀ at *
  have tail : ∀ (code : Value) (h₃ : Heap) (tk : Nat) (pl' : Array Value), (∀ b o, b ≠ P → s.heap.get? b = some o → h₃.get? b = some o) → h₃.IsListIter I₀ a 0 → I₀ < h₃.objs.size → h₃.get? P = some (tabObj pl') → TriplesOk pl'.toList →
      wpAny (model prog w) A (builtinsFor env.globals env.builtins) (fun bi s₄ => ∃ I fp wr n₀ Pt St₀ Mid pz F, (Value.ref I₀) = .ref I ∧ (∀ A' : Around, A'.handled = none → WalksU prog w A' I fp wr n₀ Pt St₀ Mid) ∧ (∀ i vals, Pt i vals → ∃ va vb, vals = #[va, vb]) ∧ St₀ 0 s₄.heap ∧ (∀ b ∈ fp, b < s₄.heap.objs.size) ∧ s₄.heap.NoLimit ∧ cStatics ∉ wr ∧
          (∀ href : Heap, (∀ b o, s₄.heap.get? b = some o → href.get? b = some o) →
            QuietGenT prog w (genEnv scope [] s₄.heap.objs.size code bi env) "fws" "part" [] elt (List.range s₄.heap.objs.size) wr Pt pz F href) ∧
          (∀ a h₅ tk gs, gs.bare = true → s₄.heap.objs.size < a → h₅.objs.size = a + 1 → (∀ b o, s₄.heap.get? b = some o → h₅.get? b = some o) →
            WalksS prog w A.in4 a (a :: s₄.heap.objs.size :: List.range s₄.heap.objs.size) (s₄.heap.objs.size :: wr) (GenOnlyQ s₄.gens.size) (passing pz n₀ 0).length
              (fun j y => ∃ i, (passing pz n₀ 0)[j]? = some i ∧ F i y) (GenAt prog w A.in4 a s₄.gens.size s₄.heap.objs.size (List.range s₄.heap.objs.size) wr pz n₀ F) →
            GenAt prog w A.in4 a s₄.gens.size s₄.heap.objs.size (List.range s₄.heap.objs.size) wr pz n₀ F 0 { s₄ with gens := s₄.gens.push gs, toks := tk, heap := h₅ } →
            Q (.ref a) { s₄ with gens := s₄.gens.push gs, toks := tk, heap := h₅ })) E { s with heap := h₃, toks := tk } := by
    intro code h₃ tk pl' hx hit hIlt hP' ht'
    have up : ∀ b o, h₀.get? b = some o → h₃.get? b = some o := fun b o e => hx b o (fun q => by rw [q, hP.2.2] at e; cases e) (F.keep b o e)
    obtain ⟨bm, ob, b1, b2, b3, b4, b5, b6⟩ := T.bmain
    rw [hgl]
    refine wpAny_builtinsFor (s := { s with heap := h₃, toks := tk }) (T.g.keeps up) b1 b2 (up _ _ b3) b4 b5 b6 ?_
    have hIfs : I₀ ∉ fs := fun h => Nat.lt_irrefl _ (hfl _ h)
    have hneP : ∀ T' f t1 p t2, s.heap.get? T' = some (pairO f t1 p t2) → T' ≠ P := fun T' f t1 p t2 e q => by
      have h1 := hP.1
      rw [← q, e] at h1
      cases h1
    refine ⟨I₀, I₀ :: a :: fs, [I₀], its.size, PairP ps, AccSt I₀ a its ps fs, _, fun _ => true, Fv, rfl, fun A' hA => walksU_acc hA _ a (by have h := Heap.lt_size ha.1; rw [hI] at h; exact Nat.ne_of_lt h) its ps fs, ?_, ?_, ?_, ?_, ?_, ?_, ?_⟩
    · rintro i vals ⟨f, p, t1, t2, _, rfl⟩
      exact ⟨_, _, rfl⟩
    · refine ⟨hit, ⟨_, n, hx a _ haP ha.1, rfl⟩, ⟨hT.1, fun i hi => ?_⟩, hIfs, hfs⟩
      obtain ⟨T', f, p, t1, t2, e1, e2, e3⟩ := hT.2 i hi
      exact ⟨T', f, p, t1, t2, e1, e2, hx _ _ (hneP _ _ _ _ _ e3) e3⟩
    · intro b hb
      rcases List.mem_cons.mp hb with rfl | hb
      · exact hIlt
      · rcases List.mem_cons.mp hb with rfl | hb
        · exact Heap.lt_size (hx _ _ haP ha.1)
        · exact Nat.lt_trans (hfl _ hb) hIlt
    · obtain ⟨mc, h1, h2⟩ := T.nolimit
      exact ⟨mc, h1.keeps up, h2⟩
    · obtain ⟨mc, ⟨o, _, _, h1, _⟩, h2⟩ := T.nolimit
      intro hm
      have := hlt _ _ h1
      rw [List.mem_singleton.mp hm] at this
      exact Nat.lt_irrefl _ this
    · intro href hk'
      exact hq _ _ href hIlt fun b o e => hk' b o (up b o e)
    · intro ga h₅ tk gs hbare h1 h2 hk₅ W hat
      have el : (passing (fun _ => true) its.size 0).length = its.size := by rw [passing_all, List.length_range]
      refine hQ ga h₅ tk _ pl' ht' ⟨F.ns.at' fun o e => hk₅ _ _ (hx _ _ (fun q => hP.2.1 q.symm) e), fun b o e => hk₅ _ _ (up b o e), F.above⟩ ?_ (G.push hbare) ?_
      · rw [hg]
        intro q hq'
        rcases List.mem_append.mp hq' with hq' | hq'
        · have z := N q (by rw [hn]; exact List.mem_append_left _ hq')
          exact ⟨hk₅ _ _ (hx _ _ (u1 q hq') z.1), z.2⟩
        · rcases List.mem_cons.mp hq' with rfl | hq'
          · exact ⟨hk₅ _ _ hP', hP.2⟩
          · have z := N q (by rw [hn]; exact List.mem_append_right _ (.tail _ hq'))
            exact ⟨hk₅ _ _ (hx _ _ (u2 q hq') z.1), z.2⟩
      · rw [el] at W
        refine ⟨_, _, _, _, W.imp fun j y => ?_, hat, fun i s' st => st.1.typeIs, .head _, ?_, ?_⟩
        · rintro ⟨i, e, hy⟩
          rw [passing_all] at e
          obtain ⟨hj, e⟩ := List.getElem?_eq_some_iff.mp e
          rw [List.getElem_range] at e
          subst e
          exact hy
        · intro b hb
          show b < h₅.objs.size
          rw [h2]
          rcases List.mem_cons.mp hb with rfl | hb
          · exact Nat.lt_succ_self _
          · rcases List.mem_cons.mp hb with rfl | hb
            · exact Nat.lt_succ_of_lt h1
            · exact Nat.lt_succ_of_lt (Nat.lt_trans (List.mem_range.mp hb) h1)
        · intro b hb
          have hge : I₀ ≤ b := by
            rcases List.mem_cons.mp hb with rfl | hb
            · exact Nat.le_of_lt hIlt
            · rw [List.mem_singleton.mp hb]; exact Nat.le_refl _
          refine ⟨?_, fun e => Nat.lt_irrefl _ (Nat.lt_of_lt_of_le (e ▸ hLlt) hge), fun q hq' e => ?_⟩
          · cases e : h₀.get? b with
            | none => rfl
            | some o => exact absurd (hlt b o e) (Nat.not_lt.mpr hge)
          · have : q.1 < I₀ := by
              rw [hg] at hq'
              rw [← hI]
              rcases List.mem_append.mp hq' with hq' | hq'
              · exact Heap.lt_size (N q (by rw [hn]; exact List.mem_append_left _ hq')).1
              · rcases List.mem_cons.mp hq' with rfl | hq'
                · exact Heap.lt_size hP.1
                · exact Heap.lt_size (N q (by rw [hn]; exact List.mem_append_right _ (.tail _ hq'))).1
            rw [e] at this
            exact Nat.lt_irrefl _ (Nat.lt_of_lt_of_le this hge)
  refine wpAny_GeneratorExp_walksQT (cl := []) hh hco hclos hcell h0 hxa hxb (by decide) hkind hroom (nm_loc hk hself (hL ▸ F.ns) hv (pyIter_acc (X₀.keeps F.keep) I hl hs ?_) hdb) hsf
  have upk : ∀ b o, s.heap.get? b = some o → (s.heap.push { cls := .type "list_iterator", data := .fields #[.ref a, .int 0 0] }).get? b = some o := fun b o e => Heap.get?_push_of_some _ e
  have hit : (s.heap.push { cls := .type "list_iterator", data := .fields #[.ref a, .int 0 0] }).IsListIter I₀ a 0 := ⟨_, by rw [← hI]; exact Heap.get?_push_size _ rfl, rfl, rfl⟩
  have hPp := upk _ _ hP.1
  have hCp := hC.keeps fun b o e => upk b o (F.keep b o e)
  have hIp : I₀ ≠ P := fun e => Nat.lt_irrefl I₀ (by
    have := Heap.lt_size hP.1
    rw [hI, ← e] at this
    exact this)
  rw [hI]
  refine ⟨?_, ?_⟩
  · obtain ⟨mc, h1, h2⟩ := T.nolimit
    exact ⟨mc, h1.keeps fun b o e => upk b o (F.keep b o e), h2⟩
  cases hnf : codeAmong pos pl.toList with
  | some cv =>
    refine wpAny_genexprCode_hit hcd (hCp.code hPp ht) hnf ?_
    exact tail cv _ _ pl (fun b o _ e => upk b o e) hit (by rw [Heap.size_push, hI]; exact Nat.lt_succ_self _) hPp ht
  | none =>
    refine wpAny_genexprCodeX hcd (hCp.code hPp ht) (hCp.tab hPp) hnf fun c' h' tk hx hge hlt' hcode' _ htab' _ => ?_
    refine tail _ h' tk _ (fun b o hb e => hx b o hb (upk b o e)) ?_ ?_ htab'.2 ?_
    · obtain ⟨o, e, r⟩ := hit
      exact ⟨o, hx _ _ hIp e, r⟩
    · have : s.heap.objs.size + 1 ≤ c' := by rw [← Heap.size_push]; exact hge
      rw [hI] at this
      exact Nat.lt_of_lt_of_le (Nat.lt_of_lt_of_le (Nat.lt_succ_self _) this) (Nat.le_of_lt hlt')
    · rw [Array.toList_append]
      exact TriplesOk_snoc _ _ _ _ ht
end
end Mine
end
-- AS
section
open PySem PySem.W PyProof.Rows PySem.Calls PySem.Spec
namespace Mine
theorem small_line' {n : Nat} (h : n ≤ 1000) : n ≤ sizeLine := by unfold sizeLine; omega
theorem args_sum2 (a b : Value) : argsOk "sum" ⟨[a, b], []⟩ := by unfold argsOk; kernel_rfl
section
variable {prog : Program} {w : World} {A : Around} {E : Value → Shared → Prop} {s : Shared} {h₀ : Heap} {L ga : Addr} {m : Str → Option Value} {news : List (Addr × Obj)} {n : Nat} {P : Nat → Value → Prop} {t : Tok}
theorem GenN.up {h' : Heap} {gs : Array GenState} {tk tk' : Nat} (X : GenN prog w A h₀ L news ga n P { s with heap := h', toks := tk, gens := gs }) (hle : tk ≤ tk') : GenN prog w A h₀ L news ga n P { s with heap := h', toks := tk', gens := gs } := by
  obtain ⟨fp, wr, g, St, W, hst, r⟩ := X
  exact ⟨fp, wr, g, St, W, W.frame 0 _ h' tk' hst hle (fun _ _ _ e => e), r⟩
theorem sum_gen0 {Q : Value → Shared → Prop} (F : Fr h₀ L s.heap m) (N : News h₀ L s.heap news) (G : AllBare s.gens) (X : GenN prog w A h₀ L news ga n P s) (val : Nat → Int) (hval : ∀ i v, P i v → ∃ t, v = .int (val i) t)
    (h : ∀ h' tk gs t', Fr h₀ L h' m → News h₀ L h' news → AllBare gs → Q (.int (preSum val n) t') { s with heap := h', toks := tk, gens := gs }) : wpAny (model prog w) A (call (.builtin "sum") [.ref ga, .int 0 t]) Q E s := by
  obtain ⟨fp, wr, g, St, W, hst, hty, hga, hfp, hwr⟩ := X
  refine call_function_tree PySem.F.kind_sum PySem.F.plain_sum PySem.F.entry_sum (args_sum2 _ _) ?_
  unfold Builtin.«sum»
  simp only [List.length_cons, List.length_nil]
  rw [if_neg (by decide)]
  refine wpAny_bind (wpAny_of_eq (show Builtin.Builtins.bindParams "sum" ["start"] 0 ⟨[.int 0 t], []⟩ = pure [some (.int 0 t)] from rfl) ?_)
  refine wpAny_bind (W.in4_1.self 0 s _ _ hst ?_)
  dsimp only
  rw [if_pos (by rfl)]
  refine wpAny_bind (wpAny_rule (wpAny_bind (wpAny_mkInt (wpAny_bind (wpAny_pure ?_)))))
  simp only [List.forIn_cons, List.forIn_nil]
  refine wpAny_bind (wpAny_bind (wpAny_bind (wpAny_isInstance (T := "int") (b := false) (typeIs_int _ _ _) PySem.sub_int_str ?_)))
  simp only [Bool.false_eq_true, if_false]
  refine wpAny_pure (wpAny_bind (wpAny_bind (wpAny_isInstance (T := "int") (b := false) (typeIs_int _ _ _) PySem.sub_int_bytes ?_)))
  simp only [Bool.false_eq_true, if_false]
  refine wpAny_pure (wpAny_bind (wpAny_bind (wpAny_isInstance (T := "int") (b := false) (typeIs_int _ _ _) PySem.sub_int_bytearray ?_)))
  simp only [Bool.false_eq_true, if_false]
  refine wpAny_pure (wpAny_pure ?_)
  refine wpAny_bind (wpAny_newObj_type ?_)
  have hSf : s.heap.objs.size ∉ fp := fun hm => Nat.lt_irrefl _ (hfp _ hm)
  refine wpAny_pure ⟨plainId_quiet PySem.F.plain_sum_loop _, codeAny_sum_loopAnyS W.in4_1 val hval s.heap.objs.size hSf n 0 _ s.toks 0 0 (.inl rfl) rfl (Nat.zero_le _)
    (W.frame 0 s _ _ hst (Nat.le_succ _) fun b _ o e => Heap.get?_push_of_some _ e) (Heap.get?_push_size _ rfl) fun s' t' hm => ?_⟩
  obtain ⟨F', N', G', h', tk, gs, rfl⟩ := moved_all (hm.drop_new (Nat.le_succ _)) hwr F N G
  exact h h' tk gs t' F' N' G'
theorem join_gen {x : Str} {Q : Value → Shared → Prop} (F : Fr h₀ L s.heap m) (N : News h₀ L s.heap news) (G : AllBare s.gens) (X : GenN prog w A h₀ L news ga n P s) (ys : List Str) (hy : ys.length = n) (hval : ∀ i v, P i v → ∃ y t, ys[i]? = some y ∧ v = .str y t)
    (hok : JoinOk x ys = true) (hz : n ≤ 1000)
    (h : ∀ h' tk gs t', Fr h₀ L h' m → News h₀ L h' news → AllBare gs → Q (.str (Txt.join x ys) t') { s with heap := h', toks := tk, gens := gs }) : wpAny (model prog w) A (call (.builtin "str.join") [.str x t, .ref ga]) Q E s := by
  obtain ⟨fp, wr, g, St, W, hst, hty, hga, hfp, hwr⟩ := X
  refine SC.joinGen W.in4_2 hty hst hfp hga (fun i v hv => ?_) (fun s' l hm hi => ?_) (small_line' hz)
  · obtain ⟨y, u, _, e⟩ := hval i v hv
    exact ⟨y, u, e⟩
  · have e : l.map (·.1) = ys := by
      apply List.ext_getElem?
      intro i
      have h1 : (strValues l).toArray.size = n := hi.1
      have h2 : l.length = n := by
        rw [List.size_toArray] at h1
        rw [← h1]; simp [strValues]
      by_cases hlt : i < n
      · obtain ⟨q, hq⟩ : ∃ q, l[i]? = some q := ⟨l[i]'(by omega), List.getElem?_eq_getElem (by omega)⟩
        have h3 : (strValues l).toArray[i]? = some (.str q.1 q.2) := by simp [strValues, hq]
        obtain ⟨y, u, hy1, hy2⟩ := hval i _ (hi.2 i _ h3)
        cases hy2
        rw [hy1, List.getElem?_map, hq]; rfl
      · rw [List.getElem?_eq_none (by rw [List.length_map]; omega), List.getElem?_eq_none (by omega)]
    rw [e]
    refine ⟨hok, fun t' k => ?_⟩
    obtain ⟨F', N', G', h', tk, gs, rfl⟩ := moved_all hm hwr F N G
    exact h h' k gs t' F' N' G'
end
end Mine
end
-- AM
section
open PySem PySem.W PyProof.Rows PySem.Calls PySem.Spec Builtin Builtin.ObjectAttr Builtin.Getset_descriptor
namespace Mine
theorem lrefuse (self : Value) (C : Addr) : refuseLoop self "__setattr__" [.ref C, .type "list", .type "object"] = pure () := by
  rw [refuseLoop_ref]; kernel_rfl
section
variable {prog : Program} {w : World} {A : Around} {E : Value → Shared → Prop} {s : Shared} {K : Frag} {x C L dx : Addr} {h₀ : Heap} {m : Str → Option Value} {ox : Obj} {od : Option Obj} {name : Str} {news news' : List (Addr × Obj)} {es es' : List DictEntry} {n n' : Nat} {v : Value} {R : Result → Shared → Prop}
theorem losa {tk : Tok} {r : Option Value} (X : K.In s.heap) (I : InstAt s.heap x ox C od) (hp : lplain K C = true) (ht : takerIn K C name = some r)
    (h : ∀ b, wpAny (model prog w) A.in1 (match r with | some a => setByDescriptor a (.ref x) v | none => storeInOwnDict (.ref x) (.ref C) (.str name tk) name v b)
      (fun fin s' => match fin with | .done f => R (.ok f) s' | .again c' => c'.quiet = true ∧ codeAny (model prog w) A c' R s') (fun e s' => R (.error e) s') s) :
    codeAny (model prog w) A (.call (.builtin "object.__setattr__") ⟨[.ref x, .str name tk, v], []⟩) R s := by
  obtain ⟨cd, hc, ho⟩ := any_some hp
  have hmro : cd.mro = [.ref C, .type "list", .type "object"] := by simpa using ho
  have SF := PySem.F.store_object
  have K1 : Looks (model prog w) s.heap (isInstance (.ref x) (.type "object")) true := I.type.andThen (looks_mroIn X (by unfold mroIn; rw [hc, Option.bind_some, hmro, if_neg (by simp)]; simp))
  have K2 : Looks (model prog w) s.heap (mroOf (.ref C)) cd.mro := (looks_clsIn X hc).andThen .now
  obtain ⟨attr, ha, hr⟩ := Option.bind_eq_some_iff.mp ht
  have K3 := looks_findIn (M := model prog w) X ha
  have K4 : Looks (model prog w) s.heap (storeTaker? attr) r := by
    rcases attr with _ | a
    · cases hr; exact .now
    · obtain ⟨b, hb, rfl⟩ := Option.map_eq_some_iff.mp hr
      exact (looks_takesIn X hb).andThen (by cases b <;> exact .now)
  refine codeAny_call_builtin SF.slot.plain SF.entry (@check_slot (model prog w) _ _ s "object.__setattr__" "object" "__setattr__" (.ref x) [.str name tk, v] [] _ SF.kind SF.split K1 (SF.args (.ref x) (.str name tk) v) ?_)
  rw [osa_eq]
  repeat (first
    | with_reducible refine I.type.here ?_
    | with_reducible refine K2.here ?_
    | with_reducible refine K3.here ?_
    | with_reducible refine K4.here ?_
    | simp only [refuse_eq, hmro, lrefuse]
    | with_reducible refine wpAny_bind ?_
    | with_reducible refine wpAny_pure ?_
    | dsimp only)
  exact h _
theorem told_apart {name : Str} {o : Obj} (hl : (lookIn name o).isSome = true) : ∃ es n, o.data = .dict es n ∧ aRefKeyMayBeTheName name es = false := by
  unfold lookIn at hl
  cases hd : o.data with
  | dict es n =>
    simp only [hd] at hl
    refine ⟨es, n, rfl, ?_⟩
    rw [aRefKeyMayBeTheName_at]
    simp only [← Array.any_toList] at hl ⊢
    cases hf : es.toList.find? fun y => y.key.isStr name with
    | some y =>
      have hy : (es.toList.any fun y : DictEntry => y.key.isStr name) = true := List.any_eq_true.mpr ⟨y, List.mem_of_find?_eq_some hf, List.find?_some (p := fun y : DictEntry => y.key.isStr name) hf⟩
      simp [hy]
    | none =>
      rw [hf] at hl
      cases hr : es.toList.any fun y => y.refKey with
      | true => simp [hr] at hl
      | false => rw [Bool.and_false]
  | _ => simp [hd] at hl
theorem losa_dict {od od' : Obj} {tk : Tok} {pre post : List (Addr × Obj)} (F : Fr h₀ L s.heap m) (N : News h₀ L s.heap (pre ++ (dx, od) :: post)) (X : K.In s.heap)
    (I : InstAt s.heap x ox C (some od)) (hd : ox.dict = some dx) (hp : lplain K C = true) (ht : takerIn K C name = some none) (hh : (clsIn K C).any (·.hasDict) = true)
    (hl : (lookIn name od).isSome = true) (h1 : ∀ p ∈ pre, p.1 ≠ dx) (h2 : ∀ p ∈ post, p.1 ≠ dx)
    (e : Obj.putName name (PyData.keyHash w.params name) (.str name s.toks) v od = od') (e' : od'.data = .dict es.toArray n) (hz : es.length ≤ 1000)
    (h : ∀ h', Fr h₀ L h' m → News h₀ L h' (pre ++ (dx, od') :: post) → R (.ok (.ret .none)) { s with heap := h', toks := s.toks + 1 }) :
    codeAny (model prog w) A (.call (.builtin "object.__setattr__") ⟨[.ref x, .str name tk, v], []⟩) R s := by
  obtain ⟨cd, hc, hd'⟩ := any_some hh
  have U := news_upd (f := Obj.putName name (PyData.keyHash w.params name) (.str name s.toks) v) F N h1 h2 e (by obtain ⟨_, _, dd, _⟩ := od'; cases e'; rfl)
  have D := (N (dx, od) (by simp)).1
  have D' := (U.2 (dx, od') (by simp)).1
  have hp' : od'.data.pastItsLine = none := by rw [e']; exact pastItsLine_dict (by rw [List.size_toArray, sizeLine_eq]; omega)
  have K1 := looks_clsIn (M := model prog w) X hc
  have hI := I.at_
  have hcl := I.cls
  obtain ⟨es₀, n₀, q, c⟩ := told_apart hl
  refine losa X I hp ht fun b => ?_
  dsimp only
  unfold storeInOwnDict
  repeat (first
    | with_reducible refine K1.here ?_
    | with_reducible refine wpAny_loadPart hI ?_
    | with_reducible refine wpAny_loadPart D ?_
    | with_reducible refine wpAny_askSetting ?_
    | with_reducible refine wpAny_updatePart D ?_
    | simp only [hd', hd, hcl, q, c, hp', Bool.false_eq_true, if_false]
    | wp_step
    | dsimp only)
  exact h _ U.1 U.2
theorem lset_dict {Q : Unit → Shared → Prop} (F : Fr h₀ L s.heap m) (X₀ : K.In h₀) (N : News h₀ L s.heap news) (I : InstAt s.heap x ox C (some (dictOf es n))) (hd : ox.dict = some dx)
    (hs : findIn K (.ref C) "__setattr__" = some (some (.builtin "object.__setattr__"))) (hp : lplain K C = true) (ht : takerIn K C name = some none) (hh : hasDictIn K C = true) (hl : (getL name es).isSome = true)
    (e : (putL name (PyData.keyHash w.params name) (.str name (s.toks + 1)) v es, putN name es n) = (es', n')) (U : Upd dx (dictOf es n) (dictOf es' n') news news') (hz : es'.length ≤ 1000)
    (h : ∀ h', Fr h₀ L h' m → News h₀ L h' news' → Q () { s with heap := h', toks := s.toks + 2 }) :
    wpAny (model prog w) A (setAttr (.ref x) name v) Q E s := by
  have X := X₀.keeps F.keep
  have put := putName_dict name (PyData.keyHash w.params name) (.str name (s.toks + 1)) v es n
  rw [show putL _ _ _ _ es = es' from congrArg Prod.fst e, show putN name es n = n' from congrArg Prod.snd e] at put
  refine U.split.elim fun pre ⟨post, hn, hn', a, b⟩ => ?_
  rw [hn] at N
  rw [hn'] at h
  exact set_plain X I hs (losa_dict (s := { s with toks := s.toks + 1 }) F N X I hd hp ht hh hl a b put rfl hz h)
/-- a method of such a class, called on an object that has no own value under the name -/
theorem lmethod {f tf : Value} {o : Obj} {pl : Sem Bool} {Q : Value × List Value → Shared → Prop} (F : Fr h₀ L s.heap m) (X₀ : K.In h₀) (I : InstAt s.heap x ox C (some o)) (hd : ox.dict = some dx) (hga : findIn K (.ref C) "__getattribute__" = some (some (.builtin "list.__getattribute__"))) (hk : findIn K (.ref C) "__getattr__" = some none)
    (hf : findIn K (.ref C) name = some (some f)) (ht : typeIn K f = some tf) (htf : tf = .type "function" ∨ tf = .type "method_descriptor") (hs : lookIn name o = some none) (h : Q (f, [.ref x]) s) :
    wpAny (model prog w) A (getMethod (.ref x) name pl) Q E s := by
  have X := X₀.keeps F.keep
  have hcan := canon_list_getattribute
  have K0 := I.type (M := model prog w)
  have K1 := looks_findIn (M := model prog w) X hga
  have K2 := looks_findIn (M := model prog w) X hk
  have K3 := looks_findIn (M := model prog w) X hf
  have K4 := looks_typeIn (M := model prog w) X ht
  have hat := I.at_
  have hdx : s.heap.get? dx = some o := by have q := I.dict; rw [hd] at q; exact q
  have own := nsLook_of hs
  have two : (tf != .type "function" && tf != .type "method_descriptor" && tf != .type "wrapper_descriptor") = false := by rcases htf with rfl | rfl <;> decide +kernel
  obtain ⟨hh, g, d, tk, os⟩ := s
  unfold getMethod
  repeat (first
    | with_reducible refine wpAny_of_eq own ?_
    | simp only [hcan, bne_self_eq_false, Option.isSome_none, hd, two, Bool.false_eq_true, if_false]
    | lk)
  exact h
/-- an accumulator's items change -/
theorem acc_turn {h : Heap} {pre post : List (Addr × Obj)} {its its' : Array Value} (f : Array Value → Array Value) (N : News h₀ L h (pre ++ (x, accO C dx its n) :: post)) (a : ∀ p ∈ pre, p.1 ≠ x) (b : ∀ p ∈ post, p.1 ≠ x) (he : f its = its') :
    News h₀ L (h.update x (Obj.mapSeq f)) (pre ++ (x, accO C dx its' (if its'.size == its.size then n else n + 1)) :: post) := by
  refine news_set N a b (Heap.SameBut.update ..) ?_
  have z := Heap.get?_update_self (Obj.mapSeq f) (N (x, accO C dx its n) (List.mem_append.mpr (.inr (.head _)))).1 rfl
  rw [z]
  subst he
  rfl
theorem lappend {its its' : Array Value} {Q : Value → Shared → Prop} (F : Fr h₀ L s.heap m) (X₀ : K.In h₀) (N : News h₀ L s.heap news) (I : InstAt s.heap x (accO C dx its n) C od) (hl : mroIn K C (.type "list") = some true) (he : its.push v = its') (hz : its.size ≤ 1000)
    (U : Upd x (accO C dx its n) (accO C dx its' (n + 1)) news news') (h : ∀ h', Fr h₀ L h' m → News h₀ L h' news' → Q .none { s with heap := h' }) : wpAny (model prog w) A (call (.builtin "list.append") [.ref x, v]) Q E s := by
  have hi := InstAt.lst (M := model prog w) (X₀.keeps F.keep) I hl
  obtain ⟨pre, post, rfl, rfl, a, b⟩ := U.split
  have z := N (x, accO C dx its n) (List.mem_append.mpr (.inr (.head _)))
  have N' := acc_turn (·.push v) N a b he
  subst he
  rw [if_neg (by simp)] at N'
  obtain ⟨hp, g, d, tk, os⟩ := s
  have hl' := z.1
  refine lcall (n := "append") (.inr (by decide +kernel)) (by decide +kernel) (by decide +kernel) PySem.F.entry_list_append (PySem.F.args_list_append_2 _ _) hi ?_
  have hz1 : its.size ≤ sizeLine := by unfold sizeLine; omega
  have hz' : (its.push v).size ≤ sizeLine + 1 := by rw [Array.size_push]; omega
  unfold Builtin.«list.append»
  wp_walk using (wpAny_updateSeq hl' rfl (hz := hz1) (_hz' := hz'))
  exact ⟨_, rfl, h _ (F.change (Heap.SameBut.update ..) z.2.1 z.2.2) N'⟩
theorem lbound {id bt : String} {q : Addr} {B : Builtin} {args : List Value} {Q : Value → Shared → Prop} (hb : s.heap.get? q = some (boundO bt id x)) (hbt : bt = "builtin_function_or_method" ∨ bt = "method-wrapper") (pl : plainId id = true) (en : entryFor table id = some B)
    (hc : ∀ (A' : Around) (Q' : Unit → Shared → Prop) (E' : Value → Shared → Prop), Q' () s → wpAny (model prog w) A' (checkBoundCall id ⟨.ref x :: args, []⟩) Q' E' s)
    (h : wpAny (model prog w) A.in1 (B ⟨.ref x :: args, []⟩) (fun fin s' => ∃ v, fin = .done (.ret v) ∧ Q v s') E s) : wpAny (model prog w) A (call (.ref q) args) Q E s := by
  refine wpAny_call (codeAny_of_tree ?_)
  show wpAny _ A.in1 (callAny (.ref q) _) _ _ _
  unfold callAny
  refine wpAny_bind (wpAny_load hb ?_)
  have e1 : ((Value.type bt == .type "method") || (Value.type bt == .type "builtin_function_or_method") || (Value.type bt == .type "method-wrapper")) = true := by rcases hbt with rfl | rfl <;> decide
  have e2 : (Value.type bt != .type "method") = true := by rcases hbt with rfl | rfl <;> decide
  dsimp only
  rw [if_pos e1]
  show wpAny _ _ (if (Value.type bt != .type "method") = true then _ else _) _ _ _
  rw [if_pos e2]
  refine wpAny_bind (hc _ _ _ (wpAny_pure ⟨plainId_quiet pl _, codeAny_builtin en ?_⟩))
  rw [Around.under_plainId pl _]
  refine wpAny_mono h (fun fin s' h' => ?_) fun _ _ e => e
  obtain ⟨v, rfl, hv⟩ := h'
  exact hv
theorem chk_len (x : Addr) : checkBoundCall "list.__len__" ⟨[.ref x], []⟩ = pure () := by kernel_rfl
theorem chk_init (x : Addr) : checkBoundCall "list.__init__" ⟨[.ref x], []⟩ = pure () := by kernel_rfl
theorem llen {q : Addr} {its : Array Value} {Q : Value → Shared → Prop} (N : News h₀ L s.heap news) (hq : (q, boundO "method-wrapper" "list.__len__" x) ∈ news) (hx : (x, accO C dx its n) ∈ news)
    (h : ∀ t k, Q (.int its.size t) { s with toks := k }) : wpAny (model prog w) A (call (.ref q) []) Q E s := by
  obtain ⟨hp, g, d, tk, os⟩ := s
  have hl' := (N _ hx).1
  refine lbound (N _ hq).1 (.inr rfl) (by decide +kernel) PySem.F.entry_list_len (fun A' Q' E' q => ?_) ?_
  · rw [chk_len]; exact wpAny_pure q
  unfold Builtin.«list.__len__»
  wp_walk using wpAny_loadPart' hl'
  exact ⟨_, rfl, h _ _⟩
theorem linit {q : Addr} {Q : Value → Shared → Prop} (F : Fr h₀ L s.heap m) (N : News h₀ L s.heap news) (hq : (q, boundO "method-wrapper" "list.__init__" x) ∈ news) (U : Upd x (accO C dx #[] n) (accO C dx #[] n) news news')
    (h : ∀ h', Fr h₀ L h' m → News h₀ L h' news' → Q .none { s with heap := h' }) : wpAny (model prog w) A (call (.ref q) []) Q E s := by
  obtain ⟨pre, post, rfl, rfl, a, b⟩ := U.split
  have z := N (x, accO C dx #[] n) (List.mem_append.mpr (.inr (.head _)))
  have N' := acc_turn (fun _ => #[]) N a b rfl
  rw [if_pos (by simp)] at N'
  obtain ⟨hp, g, d, tk, os⟩ := s
  have hl' := z.1
  have hz1 : (#[] : Array Value).size ≤ sizeLine := Nat.zero_le _
  have hz' : (#[] : Array Value).size ≤ sizeLine + 1 := Nat.zero_le _
  refine lbound (N _ hq).1 (.inr rfl) (by decide +kernel) PySem.F.entry_list_init (fun A' Q' E' q => ?_) ?_
  · rw [chk_init]; exact wpAny_pure q
  unfold Builtin.«list.__init__»
  wp_walk using wpAny_loadPart' hl', (wpAny_updateSeq hl' rfl (hz := hz1) (_hz' := hz'))
  exact ⟨_, rfl, h _ (F.change (Heap.SameBut.update ..) z.2.1 z.2.2) N'⟩
def namedIn (K : Frag) (C : Addr) : Bool := (clsIn K C).any fun cd => cd.qualname == Str.ofString "_Accumulator"
theorem chk_pop {M : Model} {Q' : Unit → Shared → Prop} {E' : Value → Shared → Prop} {A' : Around} (X : K.In s.heap) (I : InstAt s.heap x ox C od) (hm : mroIn K C (.type "module") = some false) (hc : namedIn K C = true) (ht : typeIn K (.ref C) = some (.type "type")) (h : Q' () s) :
    wpAny M A' (checkBoundCall "list.pop" ⟨[.ref x], []⟩) Q' E' s := by
  obtain ⟨cd, hc, hqn⟩ := any_some hc
  have hqn : cd.qualname = Str.ofString "_Accumulator" := by simpa using hqn
  have L0 := I.type (M := M)
  have L1 : Looks M s.heap (isInstance (.ref x) (.type "module")) false := I.type.andThen (looks_mroIn X hm)
  have L2 : Looks M s.heap (isType (.ref x)) false := fun A Q E s' k q => by
    refine ks_wpAny_isType_inst (k _ _ I.at_) (fun c e => ?_) q
    have := I.no
    unfold notCls at this
    rw [e] at this
    exact Bool.noConfusion this
  have L3 := looks_clsIn (M := M) X hc
  have L4 := looks_typeIn (M := M) X ht
  obtain ⟨hp, g, d, tk, os⟩ := s
  have hk : builtinKind "list.pop" = some .method := by decide +kernel
  have hsig : Manifest.signature? "list.pop" = some ⟨.positional, "list.pop", "pop", .self, [⟨"index", .posOnly, false⟩]⟩ := by kernel_rfl
  have args : Bind.checkArgs "list.pop" ⟨.positional, toString (Str.ofString "_Accumulator").toString ++ toString "." ++ toString (Bind.lastOf "list.pop"), "pop", .self, [⟨"index", .posOnly, false⟩]⟩ ⟨[.ref x], []⟩ = pure () := by kernel_rfl
  unfold checkBoundCall
  rw [hsig, hk]
  dsimp only
  rw [if_neg (by decide)]
  refine wpAny_bind (L1.at ?_)
  rw [if_neg (by decide +kernel)]
  repeat (first | rw [args] | rw [hqn] | simp only [Bool.false_eq_true, if_false] | lk)
  exact h
theorem lpopG {q : Addr} {its its' : Array Value} {Q : Value → Shared → Prop} (F : Fr h₀ L s.heap m) (X₀ : K.In h₀) (N : News h₀ L s.heap news) (I : InstAt s.heap x (accO C dx its n) C od) (hm : mroIn K C (.type "module") = some false) (hc : namedIn K C = true) (ht : typeIn K (.ref C) = some (.type "type"))
    (hy : its[its.size - 1]? = some v) (he : its.eraseIdxIfInBounds (its.size - 1) = its') (hs1 : its.size ≤ sizeLine) (hne' : its'.size ≠ its.size)
    (hq : (q, boundO "builtin_function_or_method" "list.pop" x) ∈ news) (U : Upd x (accO C dx its n) (accO C dx its' (n + 1)) news news')
    (h : ∀ h', Fr h₀ L h' m → News h₀ L h' news' → Q v { s with heap := h' }) : wpAny (model prog w) A (call (.ref q) []) Q E s := by
  have X := X₀.keeps F.keep
  obtain ⟨pre, post, rfl, rfl, a, b⟩ := U.split
  have z := N (x, accO C dx its n) (List.mem_append.mpr (.inr (.head _)))
  have N' := acc_turn (·.eraseIdxIfInBounds (its.size - 1)) N a b he
  rw [if_neg (by simpa using hne')] at N'
  refine lbound (N _ hq).1 (.inl rfl) (by decide +kernel) PySem.F.entry_list_pop (fun A' Q' E' q => chk_pop X I hm hc ht q) ?_
  obtain ⟨hp, g, d, tk, os⟩ := s
  have hl' : hp.get? x = some (accO C dx its n) := z.1
  have hpos : 0 < its.size := by
    rcases Nat.eq_zero_or_pos its.size with h0 | h0
    · simp [h0] at hy
    · exact h0
  have hne : ¬ its.isEmpty = true := by
    intro he; have : its.size = 0 := by simpa using he
    omega
  have hk : seqIndex? (-1) its.size = some (its.size - 1) := by
    rw [seqIndex_neg (by omega) (by omega)]; congr 1; omega
  have hz' : (its.eraseIdxIfInBounds (its.size - 1)).size ≤ sizeLine + 1 := Nat.le_trans (MeetsSeq.size_erased its _) (Nat.le_succ_of_le hs1)
  unfold Builtin.«list.pop»
  wp_walk using wpAny_loadPart' hl'
  simp only [hk, hy, Option.bind_some, Option.map_some]
  wp_walk using (wpAny_updateSeq hl' rfl (hz := hs1) (_hz' := hz')), wpAny_loadPart' hl'
  exact ⟨_, rfl, h _ (F.change (Heap.SameBut.update ..) z.2.1 z.2.2) N'⟩
theorem lpop {q : Addr} {Q : Value → Shared → Prop} (F : Fr h₀ L s.heap m) (X₀ : K.In h₀) (N : News h₀ L s.heap news) (I : InstAt s.heap x (accO C dx #[v] n) C od) (hm : mroIn K C (.type "module") = some false) (hc : namedIn K C = true) (ht : typeIn K (.ref C) = some (.type "type"))
    (hq : (q, boundO "builtin_function_or_method" "list.pop" x) ∈ news) (U : Upd x (accO C dx #[v] n) (accO C dx #[] (n + 1)) news news')
    (h : ∀ h', Fr h₀ L h' m → News h₀ L h' news' → Q v { s with heap := h' }) : wpAny (model prog w) A (call (.ref q) []) Q E s :=
  lpopG F X₀ N I hm hc ht rfl (kl_erase [] [] v) (by unfold sizeLine; simp) (by simp) hq U h
theorem lkeeper {M : Model} {q : Addr} {h : Heap} {id bt : String} (hb : h.get? q = some (boundO bt id x)) (hbt : bt = "builtin_function_or_method" ∨ bt = "method-wrapper") : Looks M h (keeperOf (.ref q)) .machine := by
  refine (Looks.ld (part := none) hb).andThen ?_
  dsimp only
  rw [if_pos (by rcases hbt with rfl | rfl <;> decide), if_pos (by rcases hbt with rfl | rfl <;> decide)]
  exact .now
theorem lcallWith0 {q : Addr} {id bt : String} {pos : Pos} {env : Env} {Q : Value → Shared → Prop} (N : News h₀ L s.heap news) (hq : (q, boundO bt id x) ∈ news) (hbt : bt = "builtin_function_or_method" ∨ bt = "method-wrapper")
    (h : wpAny (model prog w) A (call (.ref q) []) Q E s) : wpAny (model prog w) A (callWith pos (.ref q) [] (backTo pos (starEach [] env)) []) Q E s := by
  have L := lkeeper (M := model prog w) (N _ hq).1 hbt
  unfold callWith
  refine wpAny_bind (wpAny_holding (evalArgs_nil3 (wpAny_bind (wpAny_standAt ?_))))
  refine wpAny_bind (L.here ?_)
  refine wpAny_bind (wpAny_mono h (fun r s₂ hr => wpAny_bind (wpAny_holding (wpAny_point (wpAny_pure hr)))) fun _ _ y => y)
theorem llenN {q : Addr} {its : Array Value} {c : Int} {Q : Value → Shared → Prop} (N : News h₀ L s.heap news) (hq : (q, boundO "method-wrapper" "list.__len__" x) ∈ news) (hx : (x, accO C dx its n) ∈ news) (hc : (its.size : Int) = c)
    (h : ∀ t k, Q (.int c t) { s with toks := k }) : wpAny (model prog w) A (call (.ref q) []) Q E s := llen N hq hx (by rw [hc]; exact h)
theorem lappend0 {Q : Value → Shared → Prop} (F : Fr h₀ L s.heap m) (X₀ : K.In h₀) (N : News h₀ L s.heap news) (I : InstAt s.heap x (accO C dx #[] n) C od) (hl : mroIn K C (.type "list") = some true)
    (U : Upd x (accO C dx #[] n) (accO C dx #[v] (n + 1)) news news') (h : ∀ h', Fr h₀ L h' m → News h₀ L h' news' → Q .none { s with heap := h' }) : wpAny (model prog w) A (call (.builtin "list.append") [.ref x, v]) Q E s :=
  lappend F X₀ N I hl (its' := #[v]) rfl (by simp) U h
theorem lappend1 {u : Value} {Q : Value → Shared → Prop} (F : Fr h₀ L s.heap m) (X₀ : K.In h₀) (N : News h₀ L s.heap news) (I : InstAt s.heap x (accO C dx #[u] n) C od) (hl : mroIn K C (.type "list") = some true)
    (U : Upd x (accO C dx #[u] n) (accO C dx #[u, v] (n + 1)) news news') (h : ∀ h', Fr h₀ L h' m → News h₀ L h' news' → Q .none { s with heap := h' }) : wpAny (model prog w) A (call (.builtin "list.append") [.ref x, v]) Q E s :=
  lappend F X₀ N I hl (its' := #[u, v]) rfl (by simp) U h
theorem llen_one {q : Addr} {u : Value} {Q : Value → Shared → Prop} (N : News h₀ L s.heap news) (hq : (q, boundO "method-wrapper" "list.__len__" x) ∈ news) (hx : (x, accO C dx #[u] n) ∈ news)
    (h : ∀ t k, Q (.int 1 t) { s with toks := k }) : wpAny (model prog w) A (call (.ref q) []) Q E s := llenN N hq hx rfl h
theorem llen_two {q : Addr} {u v : Value} {Q : Value → Shared → Prop} (N : News h₀ L s.heap news) (hq : (q, boundO "method-wrapper" "list.__len__" x) ∈ news) (hx : (x, accO C dx #[u, v] n) ∈ news)
    (h : ∀ t k, Q (.int 2 t) { s with toks := k }) : wpAny (model prog w) A (call (.ref q) []) Q E s := llenN N hq hx rfl h
end
end Mine
end
-- AN
section
open PySem PySem.W PyProof.Rows PySem.Calls PySem.Spec Builtin Builtin.List
namespace Mine
section
variable {prog : Program} {w : World} {A : Around} {E : Value → Shared → Prop} {s : Shared} {K : Frag} {x C L dx : Addr} {h₀ : Heap} {m : Str → Option Value} {ox : Obj} {od : Option Obj} {news news' : List (Addr × Obj)} {n : Nat} {u v : Value}
theorem lgi_bind (self : Value) : bindSpecial (.builtin "list.__getitem__") self = pure (.builtin "list.__getitem__", [self]) := slot_list_getitem.bind self
theorem lsi_bind (self : Value) : bindSpecial (.builtin "list.__setitem__") self = pure (.builtin "list.__setitem__", [self]) := slot_list_setitem.bind self
theorem lgetItem {i : Value} {Q : Value → Shared → Prop} (X : K.In s.heap) (I : InstAt s.heap x ox C od) (hq : noSeq K C = true) (hs : findIn K (.ref C) "__getitem__" = some (some (.builtin "list.__getitem__")))
    (h : wpAny (model prog w) A (call (.builtin "list.__getitem__") [.ref x, i]) Q E s) : wpAny (model prog w) A (getItem (.ref x) i) Q E s := by
  unfold getItem sequenceKey
  refine wpAny_holding (wpAny_bind (wpAny_bind (I.type.here ?_)))
  refine wpAny_bind ((anyM_none X hq).here ?_)
  rw [if_pos (show (!false) = true from rfl)]
  refine wpAny_pure (wpAny_bind ?_)
  unfold callSpecial? specialOf
  refine wpAny_bind (wpAny_bind (I.type.here ((looks_findIn X hs).here ?_)))
  refine wpAny_holding (wpAny_bind ?_)
  rw [lgi_bind]
  refine wpAny_pure (wpAny_bind (wpAny_mono h (fun r s' h' => wpAny_pure (wpAny_pure h')) fun _ _ e => e))
theorem lsetItem {i v : Value} {Q : Unit → Shared → Prop} (X : K.In s.heap) (I : InstAt s.heap x ox C od) (hq : noSeq K C = true) (hs : findIn K (.ref C) "__setitem__" = some (some (.builtin "list.__setitem__")))
    (h : wpAny (model prog w) A (call (.builtin "list.__setitem__") [.ref x, i, v]) (fun _ => Q ()) E s) : wpAny (model prog w) A (setItem (.ref x) i v) Q E s := by
  unfold setItem sequenceKey
  refine wpAny_holding (wpAny_bind (wpAny_bind (I.type.here ?_)))
  refine wpAny_bind ((anyM_none X hq).here ?_)
  rw [if_pos (show (!false) = true from rfl)]
  refine wpAny_pure (wpAny_bind ?_)
  unfold callSpecial? specialOf
  refine wpAny_bind (wpAny_bind (I.type.here ((looks_findIn X hs).here ?_)))
  refine wpAny_holding (wpAny_bind ?_)
  rw [lsi_bind]
  refine wpAny_pure (wpAny_bind (wpAny_mono h (fun r s' h' => wpAny_pure (wpAny_pure h')) fun _ _ e => e))
theorem lsubTail {value slice : PySem.Expr} {i : Value} {ws : List Value} {Q : Value → Shared → Prop} (X : K.In s.heap) (I : InstAt s.heap x ox C od) (hs : findIn K (.ref C) "__getitem__" = some (some (.builtin "list.__getitem__")))
    (h : wpAny (model prog w) A (getItem (.ref x) i) Q E s) (hsl : subscripted slice false (.ref x) i = operate ws (getItem (.ref x) i)) : wpAny (model prog w) A (subscriptTail value slice (.ref x) i) Q E s := by
  unfold subscriptTail getitemInPython
  refine wpAny_bind (wpAny_bind (wpAny_bind (I.type.here ((looks_findIn X hs).here ?_))))
  refine wpAny_pure ?_
  rw [hsl]
  refine wpAny_bind (wpAny_operateT (wpAny_mono h (fun r s' h' => ?_) fun _ _ e => e))
  show wpAny (model prog w) A (letTemporaryGo value (.ref x) r >>= fun _ => pure r) Q E s'
  exact wpAny_bind (wpAny_letTemporaryGo (wpAny_pure h'))
/-- acc[k] -/
theorem lgetN {its : Array Value} {k : Int} {t : Tok} {Q : Value → Shared → Prop} (hi : Looks (model prog w) s.heap (isInstance (.ref x) (.type "list")) true) (ho : s.heap.get? x = some (accO C dx its n)) (h0 : 0 ≤ k) (hfit : k < 2 ^ 63) (hx : its[k.toNat]? = some v) (h : Q v s) :
    wpAny (model prog w) A (call (.builtin "list.__getitem__") [.ref x, .int k t]) Q E s := by
  refine lcall (n := "__getitem__") (.inr (by decide +kernel)) (by decide +kernel) (by decide +kernel) entry_list_getitem (args_list_getitem _ _) hi ?_
  show wpAny _ _ (Builtin.List.listSubscript? (.int k t) >>= _) _ _ s
  refine wpAny_bind (wpAny_listSubscript_int (fitsIndex_of h0 hfit) ?_)
  clear hfit
  obtain ⟨j, rfl⟩ := Int.eq_ofNat_of_zero_le h0
  have hx' : its[j]? = some v := hx
  show wpAny _ _ ((seqItemAt x j >>= fun r => pure (r.map (j, ·))) >>= _) _ _ s
  refine wpAny_bind (wpAny_bind (wpAny_seqItemAt ho rfl (wpAny_pure ?_)))
  rw [hx']
  exact wpAny_pure ⟨v, rfl, h⟩
abbrev slO (a b : Value) : Obj := { cls := .type "slice", data := .fields #[a, b, .none] }
theorem lparts {M : Model} {sl : Addr} {a b : Value} {lo hi : Option Int} {Q : Value × Value × Value → Shared → Prop} (hsl : s.heap.get? sl = some (slO a b)) (pl : IsPart a lo) (pu : IsPart b hi) (h : Q (rawPart lo, rawPart hi, rawPart none) s) :
    wpAny M A (listSliceParts (.ref sl)) Q E s := by
  rw [listSliceParts_eq]
  refine wpAny_bind (wpAny_field hsl rfl (x := .none) rfl (wpAny_bind (wpAny_listPart .none ?_)))
  rw [if_neg (show ¬ ((rawPart none == rawInt 0) = true) from Bool.false_ne_true)]
  exact wpAny_bind (wpAny_field hsl rfl (x := a) rfl (wpAny_bind (wpAny_listPart pl (wpAny_bind (wpAny_field hsl rfl (x := b) rfl (wpAny_bind (wpAny_listPart pu (wpAny_pure h))))))))
theorem lsub_none {M : Model} {sl : Addr} {a b : Value} {Q : Option Int → Shared → Prop} (hsl : s.heap.get? sl = some (slO a b)) (h : Q none s) : wpAny M A (listSubscript? (.ref sl)) Q E s := by
  unfold listSubscript?
  refine wpAny_bind (wpAny_specialOf (T := "slice") ⟨_, hsl, rfl⟩ slice_no_index ?_)
  simp only [Option.isNone_none, if_true]
  exact wpAny_pure h
/-- a slice of an accumulator -/
theorem lslice {sl : Addr} {its its' : Array Value} {a b : Value} {lo hi : Option Int} {Q : Value → Shared → Prop} (hii : Looks (model prog w) s.heap (isInstance (.ref x) (.type "list")) true) (hx : s.heap.get? x = some (accO C dx its n)) (hsl : s.heap.get? sl = some (slO a b)) (pl : IsPart a lo) (pu : IsPart b hi)
    (e : slicePick its lo hi none = its') (hz : its.size ≤ 1000)
    (h : Q (.ref s.heap.objs.size) { s with heap := s.heap.push (listOf its' 0) }) :
    wpAny (model prog w) A (call (.builtin "list.__getitem__") [.ref x, .ref sl]) Q E s := by
  subst e
  refine lcall (n := "__getitem__") (.inr (by decide +kernel)) (by decide +kernel) (by decide +kernel) entry_list_getitem (args_list_getitem _ _) hii ?_
  show wpAny _ _ (Builtin.List.listSubscript? (.ref sl) >>= _) _ _ s
  refine wpAny_bind (lsub_none hsl ?_)
  show wpAny _ _ (typeOf (.ref sl) >>= _) _ _ s
  refine wpAny_bind (wpAny_typeOf (T := "slice") ⟨_, hsl, rfl⟩ ?_)
  rw [if_neg (by decide)]
  refine wpAny_bind (lparts hsl pl pu ?_)
  refine wpAny_bind (m := Builtin.List.listItems (.ref x)) ?_
  unfold Builtin.List.listItems
  refine wpAny_bind (wpAny_seqItems hx rfl (wpAny_pure ?_))
  refine wpAny_bind (wpAny_of_eq (sliceIndices_raw lo hi none its.size (by simp)) ?_)
  exact wpAny_bind (wpAny_newObj_type (wpAny_pure ⟨_, rfl, h⟩) (Nat.le_trans (slicePick_size_le its lo hi none) (by unfold sizeLine; omega)))
theorem lsetSlice {sl r : Addr} {its its' new : Array Value} {nr : Nat} {a b : Value} {lo hi : Option Int} {Q : Value → Shared → Prop} (F : Fr h₀ L s.heap m) (hii : Looks (model prog w) s.heap (isInstance (.ref x) (.type "list")) true) (N : News h₀ L s.heap news) (hsl : s.heap.get? sl = some (slO a b)) (hr : s.heap.get? r = some (listOf new nr)) (pl : IsPart a lo) (pu : IsPart b hi)
    (e : its.extract 0 (sliceBounds lo hi none its.size).1.toNat ++ new ++ its.extract (max (sliceBounds lo hi none its.size).1 (sliceBounds lo hi none its.size).2.1).toNat its.size = its') (hz : its.size ≤ 1000 ∧ new.size ≤ 1000 ∧ its'.size ≤ 1000)
    (U : Upd x (accO C dx its n) (accO C dx its' (if its'.size == its.size then n else n + 1)) news news')
    (h : ∀ h', Fr h₀ L h' m → News h₀ L h' news' → Q .none { s with heap := h' }) :
    wpAny (model prog w) A (call (.builtin "list.__setitem__") [.ref x, .ref sl, .ref r]) Q E s := by
  obtain ⟨pre, post, rfl, rfl, u1, u2⟩ := U.split
  have z := N (x, accO C dx its n) (List.mem_append.mpr (.inr (.head _)))
  have N' := acc_turn (fun xs => xs.extract 0 (sliceBounds lo hi none its.size).1.toNat ++ new ++ xs.extract (max (sliceBounds lo hi none its.size).1 (sliceBounds lo hi none its.size).2.1).toNat xs.size) N u1 u2 e
  have hx : s.heap.get? x = some (accO C dx its n) := z.1
  have hxr : x ≠ r := fun e => by rw [← e, hx] at hr; cases hr
  refine lcall (n := "__setitem__") (.inl (by decide +kernel)) (by decide +kernel) (by decide +kernel) entry_list_setitem (args_list_setitem _ _ _) hii ?_
  show wpAny _ _ (Builtin.List.listSubscript? (.ref sl) >>= _) _ _ s
  refine wpAny_bind (lsub_none hsl ?_)
  show wpAny _ _ (typeOf (.ref sl) >>= _) _ _ s
  refine wpAny_bind (wpAny_typeOf (T := "slice") ⟨_, hsl, rfl⟩ ?_)
  rw [if_neg (by decide)]
  refine wpAny_bind (lparts hsl pl pu ?_)
  dsimp only
  rw [if_neg (by simp [listSameRef, hxr])]
  have hz1 : its.size ≤ sizeLine := by unfold sizeLine; omega
  refine wpAny_bind (m := listAllItems (.ref r) _) ?_
  unfold listAllItems
  refine wpAny_bind (wpAny_typeOf (T := "list") ⟨_, hr, rfl⟩ ?_)
  rw [if_pos (by decide)]
  unfold listItems
  refine wpAny_bind (wpAny_seqItems hr rfl (wpAny_pure ?_))
  refine wpAny_bind (wpAny_bind (wpAny_seqItems hx rfl (wpAny_pure ?_)))
  refine wpAny_bind (wpAny_of_eq (sliceIndices_raw lo hi none its.size (by simp)) ?_)
  have hst : (sliceBounds lo hi none its.size).2.2 = 1 := rfl
  rw [if_pos (by rw [hst]; rfl)]
  refine wpAny_bind (wpAny_rule ?_)
  rw [if_neg (by unfold listTooLong sizeLine; simp; omega)]
  refine wpAny_bind (wpAny_updateSeq hx rfl (hz := hz1) (_hz' := by rw [e]; unfold sizeLine; omega) ?_)
  refine wpAny_bind (wpAny_letGo ?_)
  exact wpAny_pure ⟨_, rfl, h _ (F.change (Heap.SameBut.update ..) z.2.1 z.2.2) N'⟩
/-- the forms that the page's walk meets -/
theorem lw_get {value slice : PySem.Expr} {t : Tok} {ws : List Value} {Q : Value → Shared → Prop} (F : Fr h₀ L s.heap m) (X₀ : K.In h₀) (N : News h₀ L s.heap news) (I : InstAt s.heap x (accO C dx #[u, v] n) C od) (hl : mroIn K C (.type "list") = some true) (hs : findIn K (.ref C) "__getitem__" = some (some (.builtin "list.__getitem__"))) (hq : noSeq K C = true)
    (h : Q v s) (hsl : subscripted slice false (.ref x) (.int 1 t) = operate ws (getItem (.ref x) (.int 1 t))) : wpAny (model prog w) A (subscriptTail value slice (.ref x) (.int 1 t)) Q E s :=
  lsubTail (X₀.keeps F.keep) I hs (lgetItem (X₀.keeps F.keep) I hq hs (lgetN (InstAt.lst (X₀.keeps F.keep) I hl) I.at_ (by decide) (by decide) rfl h)) hsl
theorem inst_push {K : Frag} {h : Heap} {o : Obj} (I : InstAt h x ox C od) : InstAt (h.push o) x ox C od := by
  obtain ⟨a, b, c, d⟩ := I
  refine ⟨Heap.get?_push_of_some _ a, b, c, ?_⟩
  cases e1 : ox.dict with
  | none => rw [e1] at d; cases od with | none => trivial | some o => exact d.elim
  | some dd => rw [e1] at d; cases od with | none => exact d.elim | some o => exact Heap.get?_push_of_some _ d
theorem lw_slice {value slice : PySem.Expr} {t : Tok} {ws : List Value} {Q : Value → Shared → Prop} (F : Fr h₀ L s.heap m) (X₀ : K.In h₀) (N : News h₀ L s.heap news) (I : InstAt s.heap x (accO C dx #[u, v] n) C od) (hl : mroIn K C (.type "list") = some true) (hs : findIn K (.ref C) "__getitem__" = some (some (.builtin "list.__getitem__"))) (hq : noSeq K C = true)
    (h : ∀ D h', Fr h₀ L h' m → News h₀ L h' ((D, listOf #[v] 0) :: news) → (∀ p ∈ news, p.1 < D) → Q (.ref D) { s with heap := h' })
    (hsl : subscripted slice false (.ref x) (.ref s.heap.objs.size) = operate ws (getItem (.ref x) (.ref s.heap.objs.size))) :
    wpAny (model prog w) A (subscriptTail value slice (.ref x) (.ref s.heap.objs.size)) Q E { s with heap := s.heap.push (slO (.int 1 t) .none) } := by
  have X : K.In (s.heap.push (slO (.int 1 t) .none)) := fun a o e => Heap.get?_push_of_some _ (X₀.keeps F.keep a o e)
  have I' : InstAt (s.heap.push (slO (.int 1 t) .none)) x (accO C dx #[u, v] n) C od := inst_push (K := K) I
  have F' := (F.push (slO (.int 1 t) .none))
  have N' : News h₀ L (s.heap.push (slO (.int 1 t) .none)) news := fun p hp => ⟨Heap.get?_push_of_some _ (N p hp).1, (N p hp).2⟩
  refine lsubTail X I' hs (lgetItem X I' hq hs (lslice (InstAt.lst X I' hl) I'.at_ (Heap.get?_push_size _ rfl) (.int 1 t) .none (its' := #[v]) (by kernel_rfl) (by simp) ?_)) hsl
  obtain ⟨F2, N2, l2⟩ := ks_newsPush (s := { s with heap := s.heap.push (slO (.int 1 t) .none) }) F' N' rfl (Heap.get?_push_at rfl rfl) (fun b o e => Heap.get?_push_of_some (listOf #[v] 0) e)
  exact h _ _ F2 N2 l2
theorem lw_cut {r : Addr} {nr : Nat} {t : Tok} {Q : Unit → Shared → Prop} (F : Fr h₀ L s.heap m) (X₀ : K.In h₀) (N : News h₀ L s.heap news) (I : InstAt s.heap x (accO C dx #[u, v] n) C od) (hl : mroIn K C (.type "list") = some true) (hs : findIn K (.ref C) "__setitem__" = some (some (.builtin "list.__setitem__"))) (hq : noSeq K C = true)
    (hr : (r, listOf #[] nr) ∈ news) (U : Upd x (accO C dx #[u, v] n) (accO C dx #[u] (n + 1)) news news')
    (h : ∀ h', Fr h₀ L h' m → News h₀ L h' news' → Q () { s with heap := h' }) :
    wpAny (model prog w) A (setItem (.ref x) (.ref s.heap.objs.size) (.ref r)) Q E { s with heap := s.heap.push (slO (.int 1 t) .none) } := by
  have X : K.In (s.heap.push (slO (.int 1 t) .none)) := fun a o e => Heap.get?_push_of_some _ (X₀.keeps F.keep a o e)
  have I' : InstAt (s.heap.push (slO (.int 1 t) .none)) x (accO C dx #[u, v] n) C od := inst_push (K := K) I
  have F' := (F.push (slO (.int 1 t) .none))
  have N' : News h₀ L (s.heap.push (slO (.int 1 t) .none)) news := fun p hp => ⟨Heap.get?_push_of_some _ (N p hp).1, (N p hp).2⟩
  exact lsetItem X I' hq hs (lsetSlice (its' := #[u]) (new := #[]) (s := { s with heap := s.heap.push (slO (.int 1 t) .none) }) F' (InstAt.lst X I' hl) N' (Heap.get?_push_size _ rfl) (N' _ hr).1 (.int 1 t) .none (by kernel_rfl) (by simp) U fun h' F2 N2 => h h' F2 N2)
theorem lw_all {r : Addr} {nr : Nat} {its new : Array Value} {Q : Unit → Shared → Prop} (F : Fr h₀ L s.heap m) (X₀ : K.In h₀) (N : News h₀ L s.heap news) (I : InstAt s.heap x (accO C dx its n) C od) (hl : mroIn K C (.type "list") = some true) (hs : findIn K (.ref C) "__setitem__" = some (some (.builtin "list.__setitem__"))) (hq : noSeq K C = true)
    (hr : (r, listOf new nr) ∈ news) (e : its.extract 0 (sliceBounds none none none its.size).1.toNat ++ new ++ its.extract (max (sliceBounds none none none its.size).1 (sliceBounds none none none its.size).2.1).toNat its.size = new) (hz : its.size ≤ 1000 ∧ new.size ≤ 1000 ∧ new.size ≤ 1000)
    (U : Upd x (accO C dx its n) (accO C dx new (if new.size == its.size then n else n + 1)) news news')
    (h : ∀ h', Fr h₀ L h' m → News h₀ L h' news' → Q () { s with heap := h' }) :
    wpAny (model prog w) A (setItem (.ref x) (.ref s.heap.objs.size) (.ref r)) Q E { s with heap := s.heap.push (slO .none .none) } := by
  have X : K.In (s.heap.push (slO .none .none)) := fun a o e => Heap.get?_push_of_some _ (X₀.keeps F.keep a o e)
  have I' : InstAt (s.heap.push (slO .none .none)) x (accO C dx its n) C od := inst_push (K := K) I
  have F' := (F.push (slO .none .none))
  have N' : News h₀ L (s.heap.push (slO .none .none)) news := fun p hp => ⟨Heap.get?_push_of_some _ (N p hp).1, (N p hp).2⟩
  exact lsetItem X I' hq hs (lsetSlice (its' := new) (new := new) (s := { s with heap := s.heap.push (slO .none .none) }) F' (InstAt.lst X I' hl) N' (Heap.get?_push_size _ rfl) (N' _ hr).1 .none .none e hz U fun h' F2 N2 => h h' F2 N2)
/-- acc[:] = [w] and acc[:] = [], of one -/
theorem lw_all1 {r : Addr} {nr : Nat} {w' : Value} {Q : Unit → Shared → Prop} (F : Fr h₀ L s.heap m) (X₀ : K.In h₀) (N : News h₀ L s.heap news) (I : InstAt s.heap x (accO C dx #[u] n) C od) (hl : mroIn K C (.type "list") = some true) (hs : findIn K (.ref C) "__setitem__" = some (some (.builtin "list.__setitem__"))) (hq : noSeq K C = true)
    (hr : (r, listOf #[w'] nr) ∈ news) (U : Upd x (accO C dx #[u] n) (accO C dx #[w'] n) news news') (h : ∀ h', Fr h₀ L h' m → News h₀ L h' news' → Q () { s with heap := h' }) :
    wpAny (model prog w) A (setItem (.ref x) (.ref s.heap.objs.size) (.ref r)) Q E { s with heap := s.heap.push (slO .none .none) } :=
  lw_all F X₀ N I hl hs hq hr (by kernel_rfl) (by simp) U h
theorem lw_all0 {r : Addr} {nr : Nat} {Q : Unit → Shared → Prop} (F : Fr h₀ L s.heap m) (X₀ : K.In h₀) (N : News h₀ L s.heap news) (I : InstAt s.heap x (accO C dx #[u] n) C od) (hl : mroIn K C (.type "list") = some true) (hs : findIn K (.ref C) "__setitem__" = some (some (.builtin "list.__setitem__"))) (hq : noSeq K C = true)
    (hr : (r, listOf #[] nr) ∈ news) (U : Upd x (accO C dx #[u] n) (accO C dx #[] (n + 1)) news news') (h : ∀ h', Fr h₀ L h' m → News h₀ L h' news' → Q () { s with heap := h' }) :
    wpAny (model prog w) A (setItem (.ref x) (.ref s.heap.objs.size) (.ref r)) Q E { s with heap := s.heap.push (slO .none .none) } :=
  lw_all F X₀ N I hl hs hq hr (by kernel_rfl) (by simp) U h
end
end Mine
end
-- MU
namespace Mine
theorem rep_fold (c : Nat) : ∀ (n : Nat) (a : Array Nat), (List.replicate n (#[c] : Array Nat)).foldl (· ++ ·) a = a ++ (List.replicate n c).toArray
  | 0, a => by simp
  | n + 1, a => by
    rw [List.replicate_succ, List.foldl_cons, rep_fold c n, List.replicate_succ]
    apply Array.toList_inj.mp
    simp
theorem mul_chr {c : Nat} {n : Int} (h0 : 0 ≤ n) : Txt.mul (chr1 c) n = ⟨(List.replicate n.toNat c).toArray⟩ := by
  unfold Txt.mul
  by_cases h1 : n < 1
  · rw [if_pos h1]
    have : n.toNat = 0 := by omega
    rw [this]; rfl
  · rw [if_neg h1]
    by_cases h2 : n = 1
    · subst h2
      rw [if_pos (by simp)]; rfl
    · rw [if_neg (by simp [h2, chr1_len])]
      show (⟨(List.replicate n.toNat (#[c] : Array Nat)).foldl (· ++ ·) #[]⟩ : Str) = _
      rw [rep_fold]; simp
theorem mul_ok {x : Str} {n : Int} (hx : x.length = 1) (h0 : 0 ≤ n ∧ n ≤ 4000) : MulOk x n := by
  refine ⟨?_, fun h1 _ => ?_, fun h1 _ => ?_⟩
  · rw [Bool.or_eq_false_iff, decide_eq_false_iff_not, decide_eq_false_iff_not]
    exact ⟨by omega, by omega⟩
  · rw [hx]
    have : (1 : Int) ≤ (2 ^ 63 - 1) / n := Int.le_ediv_of_mul_le (by omega) (by omega)
    omega
  · rw [hx]
    unfold Builtin.Str.tooLong sizeLine
    rw [decide_eq_false_iff_not]
    omega
section
variable {prog : Program} {w : World} {A : Around} {E : Value → Shared → Prop} {s : Shared} {t u : Tok} {Q : Value → Shared → Prop} {n : Int} {c : Nat}
theorem mul_sp (h0 : 0 ≤ n ∧ n ≤ 4000) (h : ∀ t' k, Q (.str (blk n.toNat 0 0) t') { s with toks := k }) : wpAny (model prog w) A (binaryOp .Mult (.str (Str.ofString " ") t) (.int n u)) Q E s := by
  have e : Str.ofString " " = chr1 32 := by decide
  rw [e]
  refine SB.mul (mul_ok (chr1_len _) h0) fun t' k => ?_
  rw [mul_chr h0.1]
  have := h t' k
  unfold blk at this
  rw [List.replicate_zero, List.append_nil] at this
  exact this
theorem mul_c (h0 : 0 ≤ n ∧ n ≤ 4000) (h : ∀ t' k, Q (.str (blk 0 n.toNat c) t') { s with toks := k }) : wpAny (model prog w) A (binaryOp .Mult (.str (chr1 c) t) (.int n u)) Q E s := by
  refine SB.mul (mul_ok (chr1_len _) h0) fun t' k => ?_
  rw [mul_chr h0.1]
  have := h t' k
  unfold blk at this
  rw [List.replicate_zero, List.nil_append] at this
  exact this
end
end Mine
-- FL
section
open PySem PySem.W PyProof.Rows PySem.Spec
namespace Mine
section
variable {prog : Program} {w : World} {A : Around} {E : Value → Shared → Prop} {s : Shared} {env : Env} {h₀ : Heap} {L : Addr} {body : List Stmt} {Q : Flow → Shared → Prop}
def GrowEndG (h₀ : Heap) (L I : Addr) (o : Obj) (J : (Str → Option Value) → List (Addr × Obj) → Prop) (s₁ s₂ : Shared) : Prop :=
  ∃ h' tk gs m' news' nx, s₂ = { s₁ with heap := h', toks := tk, gens := gs } ∧ AllBare gs ∧ Fr h₀ L h' m' ∧ News h₀ L h' news' ∧ (∀ p ∈ nx, p ∈ news') ∧ (I, o) ∈ news' ∧ (∀ q ∈ nx, q.1 ≠ I) ∧ J m' nx
def GrowPostG (h₀ : Heap) (L I : Addr) (o : Obj) (J : (Str → Option Value) → List (Addr × Obj) → Prop) (s₁ : Shared) (Q : Flow → Shared → Prop) (f : Flow) (s₂ : Shared) : Prop :=
  match f with
  | .ret v => Q (.ret v) s₂
  | .brk => Q .next s₂
  | _ => GrowEndG h₀ L I o J s₁ s₂
/-- a loop over a list of the ledger, its rows unpacked, whose turns may make objects and generators -/
theorem For_rows {elts : List Expr} {x1} {tpos fpos npos : Pos} {rn : Str} {lr : Addr} {its : Array Value} {n0 : Nat} {m₀ : Str → Option Value} {news : List (Addr × Obj)} (J : Nat → (Str → Option Value) → List (Addr × Obj) → Prop)
    (hh : A.handled = none) (F : Fr h₀ L s.heap m₀) (N : News h₀ L s.heap news) (G : AllBare s.gens) (hL : env.locals = L) (hk : env.scope.kind = .function) (hrn : env.kindOf rn = some .local) (hv : m₀ rn = some (.ref lr)) (hrefs : ∀ (i : Nat) (v : Value), its[i]? = some v → ∃ T, v = Value.ref T)
    (hmem : ∀ i m nx, J i m nx → (lr, listOf its n0) ∈ nx) (hj : J 0 m₀ news)
    (turn : ∀ (i : Nat) (v : Value) m₁ nx h tk gs I o, its[i]? = some v → (∀ q ∈ nx, q.1 ≠ I) → J i m₁ nx → AllBare gs → Fr h₀ L h m₁ → News h₀ L h ((I, o) :: nx) → (∀ q ∈ news, q.1 < I) →
      wpAny (model prog w) A (assign (.Tuple elts x1 tpos) env v) (fun _ s₂ => wpAny (model prog w) A (execs body env) (GrowPostG h₀ L I o (J (i + 1)) { s with heap := h, toks := tk, gens := gs } Q) E s₂) E { s with heap := h, toks := tk, gens := gs })
    (done : ∀ m₁ nx h tk gs, J its.size m₁ nx → AllBare gs → Fr h₀ L h m₁ → News h₀ L h nx → Q .next { s with heap := h, toks := tk, gens := gs })
    (hE : PassesOwn (model prog w) A env E) (hd : (rn == ("__debug__" : Str)) = false) (hs : ∀ x, foldedSetIterable (.Name rn npos) env x = pure x) :
    wpAny (model prog w) A (exec (.For (.Tuple elts x1 tpos) (.Name rn npos) body [] fpos) env) Q E s := by
  subst hL
  refine wpAny_For (wpAny_Name (wpAny_loadName_local hk hrn F.ns hv ?_) hd) hs
  have hl0 := (N _ (hmem _ _ _ hj)).1
  have hIL0 : s.heap.IsList lr its := ⟨_, hl0, rfl, n0, rfl⟩
  refine wpAny_pyIter_list hIL0 ?_
  have hf := fresh_K F
  generalize hI : s.heap.objs.size = I at *
  have hnew : ∀ q ∈ news, q.1 < I := fun q hq => by rw [← hI]; exact Heap.lt_size (N q hq).1
  have hIo : (s.heap.push { cls := .type "list_iterator", data := .fields #[.ref lr, .int 0 0] }).IsListIter I lr 0 := ⟨_, by rw [← hI]; exact Heap.get?_push_size _ rfl, rfl, rfl⟩
  refine codeAny_forLoop_any (fun k s' => ∃ h' tk gs m' nx i, s' = { s with heap := h', toks := tk, gens := gs } ∧ AllBare gs ∧ h'.IsListIter I lr i ∧ Fr h₀ env.locals h' m' ∧ News h₀ env.locals h' nx ∧ (∀ q ∈ nx, q.1 ≠ I) ∧ J i m' nx ∧ i ≤ its.size ∧ k = its.size + 1 - i) ?_ (its.size + 1)
    ⟨_, s.toks, s.gens, m₀, news, 0, rfl, G, hIo, F.push _, (fun p hp => ⟨Heap.get?_push_of_some _ (N p hp).1, (N p hp).2⟩), (fun q hq => Nat.ne_of_lt (hnew q hq)), hj, Nat.zero_le _, rfl⟩
  rintro k s' ⟨h', tk, gs, m', nx, i, rfl, G', hit, F', N', hnx, hJ, hi, rfl⟩
  have hl := (N' _ (hmem _ _ _ hJ)).1
  have hIL : h'.IsList lr its := ⟨_, hl, rfl, n0, rfl⟩
  have hlrI : lr ≠ I := hnx _ (hmem _ _ _ hJ)
  have next : ∀ h₁ : Heap, (∀ b o, b ≠ I → h'.get? b = some o → h₁.get? b = some o) → Fr h₀ env.locals h₁ m' ∧ News h₀ env.locals h₁ nx := fun h₁ hk₁ => by
    refine ⟨⟨F'.ns.at' fun o e => hk₁ _ o hf.1.symm e, fun b o e => hk₁ b o ?_ (F'.keep b o e), F'.above⟩, fun p hp => ⟨hk₁ _ _ (hnx p hp) (N' p hp).1, (N' p hp).2⟩⟩
    intro hb
    rw [hb, hf.2] at e
    cases e
  by_cases hlt : i < its.size
  · obtain ⟨T, hT⟩ := hrefs i _ (Array.getElem?_eq_getElem hlt)
    refine wpAny_pyNext_list_item (s := { s with heap := h', toks := tk, gens := gs }) hit hIL (Array.getElem?_eq_getElem hlt) fun h₁ hit₁ hs₁ => ?_
    obtain ⟨F₁, N₁⟩ := next h₁ fun b o hb e => hs₁.extBut b o hb e
    dsimp only
    rw [hT]
    refine wpAny_letOwnedTupleGo_listiter (s := { s with heap := h₁, toks := tk, gens := gs }) hit₁ ?_
    obtain ⟨o, ho, r⟩ := id hit₁
    have NI : News h₀ env.locals h₁ ((I, o) :: nx) := fun p hp => (List.mem_cons.mp hp).elim (fun e => by rw [e]; exact ⟨ho, hf.1, hf.2⟩) (N₁ p)
    refine wpAny_mono (wpAny_passesOwn hE (turn i _ m' nx h₁ tk gs I o (by rw [← hT]; exact Array.getElem?_eq_getElem hlt) hnx hJ G' F₁ NI hnew)) (fun _ s₂ h₂ => wpAny_mono (wpAny_passesOwn hE h₂) (fun f s₃ h₃ => ?_) fun _ _ e => e) fun _ _ e => e
    have fin : GrowEndG h₀ env.locals I o (J (i + 1)) { s with heap := h₁, toks := tk, gens := gs } s₃ → ∃ k, k < its.size + 1 - i ∧ ∃ h' tk gs m' nx i, s₃ = { s with heap := h', toks := tk, gens := gs } ∧ AllBare gs ∧ h'.IsListIter I lr i ∧ Fr h₀ env.locals h' m' ∧ News h₀ env.locals h' nx ∧ (∀ q ∈ nx, q.1 ≠ I) ∧ J i m' nx ∧ i ≤ its.size ∧ k = its.size + 1 - i := by
      rintro ⟨h₃', tk₃, gs₃, m₂, news', nx₂, rfl, G₃, F₃, N₃, hn, hIo, ha, hJ₃⟩
      exact ⟨its.size + 1 - (i + 1), by omega, h₃', tk₃, gs₃, m₂, nx₂, i + 1, rfl, G₃, ⟨o, (N₃ _ hIo).1, r⟩, F₃, fun p hp => N₃ p (hn p hp), ha, hJ₃, hlt, rfl⟩
    cases f with
    | ret v => exact h₃
    | brk => exact h₃
    | next => exact fin h₃
    | cont => exact fin h₃
  · have hin : i = its.size := by omega
    subst hin
    refine wpAny_pyNext_list_end (s := { s with heap := h', toks := tk, gens := gs }) hh hit hIL (by simp) fun h₁ he₁ => ?_
    obtain ⟨F₁, N₁⟩ := next h₁ fun b o hb e => he₁ b o hb e
    dsimp only
    refine wpAny_execs_nil ?_
    exact done m' nx h₁ tk gs hJ G' F₁ N₁
theorem growG_end {I : Addr} {o : Obj} {J : (Str → Option Value) → List (Addr × Obj) → Prop} {h' : Heap} {tk : Nat} {gs : Array GenState} {m' : Str → Option Value} {news' nx : List (Addr × Obj)} {g₁ : Array GenState} {dr : Drawn} {os : OsState} {h₁ : Heap} {t₁ : Nat} (G : AllBare gs) (F : Fr h₀ L h' m') (N : News h₀ L h' news') (hn : ∀ p ∈ nx, p ∈ news') (hI : (I, o) ∈ news') (ho : ∀ q ∈ nx, q.1 ≠ I) (hJ : J m' nx) :
    GrowEndG h₀ L I o J ⟨h₁, g₁, dr, t₁, os⟩ ⟨h', gs, dr, tk, os⟩ := ⟨h', tk, gs, m', news', nx, rfl, G, F, N, hn, hI, ho, hJ⟩
end
end Mine
end
-- FM
section
open PySem PySem.W PyProof.Rows PySem.Spec
namespace Mine
section
variable {prog : Program} {w : World} {A : Around} {E : Value → Shared → Prop} {s : Shared} {env : Env} {h₀ : Heap} {L : Addr} {x : Str} {px : Pos} {body orelse : List Stmt} {Q : Flow → Shared → Prop}
/-- what may stand behind the one turn of a loop over one sign -/
def OnceS (prog : Program) (w : World) (A : Around) (E : Value → Shared → Prop) (h₀ : Heap) (env : Env) (orelse : List Stmt) (Q : Flow → Shared → Prop) (s : Shared) (I : Addr) (o : Obj) (s₁ : Shared) (f : Flow) (s₂ : Shared) : Prop :=
  match f with
  | .ret v => Q (.ret v) s₂
  | .brk => Q .next s₂
  | _ => ∃ h' tk m' news' nx, s₂ = { s₁ with heap := h', toks := tk } ∧ Fr h₀ env.locals h' m' ∧ News h₀ env.locals h' news' ∧ (∀ p ∈ nx, p ∈ news') ∧ (I, o) ∈ news' ∧ (∀ q ∈ nx, q.1 ≠ I) ∧
      ∀ h tk, Fr h₀ env.locals h m' → News h₀ env.locals h nx → wpAny (model prog w) A (execs orelse env) Q E { s with heap := h, toks := tk }
theorem Sign_once {t : Tok} {m₀ : Str → Option Value} {news : List (Addr × Obj)} (hh : A.handled = none) (F : Fr h₀ env.locals s.heap m₀) (N : News h₀ env.locals s.heap news)
    (hx : env.kindOf x = some .local) (hp : (env.scope.kind == .class || (env.scope.kind == .module && env.locals != env.globals)) = false)
    (turn : ∀ t' h tk I o, (∀ q ∈ news, q.1 < I) → Fr h₀ env.locals h (fun y => if y = x then some (.str (Str.ofString " ") t') else m₀ y) → News h₀ env.locals h ((I, o) :: news) →
      wpAny (model prog w) A (execs body env) (OnceS prog w A E h₀ env orelse Q s I o { s with heap := h, toks := tk }) E { s with heap := h, toks := tk })
    (hE : PassesOwn (model prog w) A env E) :
    wpAny (model prog w) A (pyIter (.str (Str.ofString " ") t)) (fun it s₂ => ElseAt prog w A env x px body orelse Q E it s₂) E s := by
  refine wpAny_pyIter_ascii (by decide +kernel) ?_
  have hf := fresh_K F
  have hnew : ∀ q ∈ news, q.1 < s.heap.objs.size := fun q hq => Heap.lt_size (N q hq).1
  refine else_grow (s := { s with heap := s.heap.push _ }) (fun i m nx => (i = 0 → m = m₀ ∧ nx = news) ∧ (i = 1 → ∀ h tk, Fr h₀ env.locals h m → News h₀ env.locals h nx → wpAny (model prog w) A (execs orelse env) Q E { s with heap := h, toks := tk }))
    (Walks.strAscii hh s.heap.objs.size (Str.ofString " ") t) (fun i h ⟨o, e, _⟩ => ⟨o, e⟩) (F.push _) (fun p hp => ⟨Heap.get?_push_of_some _ (N p hp).1, (N p hp).2⟩) rfl hf.1 hf.2 (fun q hq => Nat.ne_of_lt (hnew q hq)) ⟨_, Heap.get?_push_size _ rfl, rfl, rfl⟩ ⟨fun _ => ⟨rfl, rfl⟩, fun h => absurd h (by decide)⟩ ?_ ?_ hx hp hE
  · intro i v m₁ nx h tk o hi hP hoff hJ F₁ N₁
    have hi0 : i = 0 := Nat.lt_one_iff.mp hi
    subst hi0
    obtain ⟨rfl, rfl⟩ := hJ.1 rfl
    obtain ⟨c, u, hc, rfl⟩ := hP
    have ec : (⟨#[c]⟩ : Str) = Str.ofString " " := by
      have : c = 32 := (Option.some.inj hc).symm
      rw [this]; decide
    rw [ec] at F₁
    refine wpAny_mono (turn u h tk _ o hnew F₁ N₁) (fun f s₂ h₂ => ?_) fun _ _ e => e
    cases f with
    | ret v => exact h₂
    | brk => exact h₂
    | next =>
      obtain ⟨h', tk', m', news', nx, e, F', N', a, b, c, d⟩ := h₂
      exact ⟨h', tk', m', news', nx, e, F', N', a, b, c, ⟨fun h => absurd h (by decide), fun _ => d⟩⟩
    | cont =>
      obtain ⟨h', tk', m', news', nx, e, F', N', a, b, c, d⟩ := h₂
      exact ⟨h', tk', m', news', nx, e, F', N', a, b, c, ⟨fun h => absurd h (by decide), fun _ => d⟩⟩
  · intro m₁ nx h tk hJ F₁ N₁
    exact hJ.2 rfl h tk F₁ N₁
variable {r : Addr} {t₀ u₀ v₀ : Tok}
theorem Range_none {m₀ : Str → Option Value} {news : List (Addr × Obj)} (hh : A.handled = none) (F : Fr h₀ env.locals s.heap m₀) (N : News h₀ env.locals s.heap news) (hr : IsRange s.heap r 0 0 (-1) t₀ u₀ v₀)
    (hx : env.kindOf x = some .local) (hp : (env.scope.kind == .class || (env.scope.kind == .module && env.locals != env.globals)) = false)
    (done : ∀ h tk, Fr h₀ env.locals h m₀ → News h₀ env.locals h news → wpAny (model prog w) A (execs orelse env) Q E { s with heap := h, toks := tk })
    (hE : PassesOwn (model prog w) A env E) :
    wpAny (model prog w) A (pyIter (.ref r)) (fun it s₂ => ElseAt prog w A env x px body orelse Q E it s₂) E s := by
  refine wpAny_pyIter_range hr (by decide) ?_
  have hf := fresh_K F
  refine else_grow (s := { s with heap := s.heap.push _ }) (fun _ m nx => m = m₀ ∧ nx = news) (Walks.range hh s.heap.objs.size 0 (-1) 0) (fun i h e => ⟨_, e⟩) (F.push _) (fun p hp => ⟨Heap.get?_push_of_some _ (N p hp).1, (N p hp).2⟩) rfl hf.1 hf.2
    (fun q hq => Nat.ne_of_lt (Heap.lt_size (N q hq).1)) (by show IsRangeIter _ _ _ _ _; exact Heap.get?_push_size _ rfl) ⟨rfl, rfl⟩ (fun i v m₁ nx h tk o hi => absurd hi (Nat.not_lt_zero _)) ?_ hx hp hE
  rintro m₁ nx h tk ⟨rfl, rfl⟩ F₁ N₁
  exact done h tk F₁ N₁
theorem Range_brk {m₀ : Str → Option Value} {news : List (Addr × Obj)} (hh : A.handled = none) (F : Fr h₀ env.locals s.heap m₀) (N : News h₀ env.locals s.heap news) (hr : IsRange s.heap r 1 0 (-1) t₀ u₀ v₀)
    (hx : env.kindOf x = some .local) (hp : (env.scope.kind == .class || (env.scope.kind == .module && env.locals != env.globals)) = false)
    (turn : ∀ t' h tk I o, (∀ q ∈ news, q.1 < I) → Fr h₀ env.locals h (fun y => if y = x then some (.int 1 t') else m₀ y) → News h₀ env.locals h ((I, o) :: news) →
      wpAny (model prog w) A (execs body env) (fun f s₂ => match f with | .ret v => Q (.ret v) s₂ | .brk => Q .next s₂ | _ => False) E { s with heap := h, toks := tk })
    (hE : PassesOwn (model prog w) A env E) :
    wpAny (model prog w) A (pyIter (.ref r)) (fun it s₂ => ElseAt prog w A env x px body orelse Q E it s₂) E s := by
  refine wpAny_pyIter_range hr (by decide) ?_
  have hf := fresh_K F
  have hnew : ∀ q ∈ news, q.1 < s.heap.objs.size := fun q hq => Heap.lt_size (N q hq).1
  refine else_grow (s := { s with heap := s.heap.push _ }) (fun i m nx => i = 0 ∧ m = m₀ ∧ nx = news) (Walks.range hh s.heap.objs.size 1 (-1) 1) (fun i h e => ⟨_, e⟩) (F.push _) (fun p hp => ⟨Heap.get?_push_of_some _ (N p hp).1, (N p hp).2⟩) rfl hf.1 hf.2
    (fun q hq => Nat.ne_of_lt (hnew q hq)) (by show IsRangeIter _ _ _ _ _; exact Heap.get?_push_size _ rfl) ⟨rfl, rfl, rfl⟩ ?_ ?_ hx hp hE
  · rintro i v m₁ nx h tk o hi ⟨t', rfl⟩ hoff ⟨rfl, rfl, rfl⟩ F₁ N₁
    refine wpAny_mono (turn t' h tk _ o hnew F₁ N₁) (fun f s₂ h₂ => ?_) fun _ _ e => e
    cases f with
    | ret v => exact h₂
    | brk => exact h₂
    | next => exact h₂.elim
    | cont => exact h₂.elim
  · rintro m₁ nx h tk ⟨h1, _⟩
    cases h1
theorem growG_top {I : Addr} {o : Obj} {J : (Str → Option Value) → List (Addr × Obj) → Prop} {h' : Heap} {tk : Nat} {gs : Array GenState} {m' : Str → Option Value} {t : Addr × Obj} {rest old : List (Addr × Obj)} {g₁ : Array GenState} {dr : Drawn} {os : OsState} {h₁ : Heap} {t₁ : Nat} (G : AllBare gs) (F : Fr h₀ L h' m') (N : News h₀ L h' (t :: (I, o) :: rest))
    (hne : ∀ q ∈ old, q.1 ≠ I) (hm : rest.map (·.1) = old.map (·.1)) (ht : @Ne Nat t.1 I) (hJ : J m' ([t] ++ rest)) :
    GrowEndG h₀ L I o J ⟨h₁, g₁, dr, t₁, os⟩ ⟨h', gs, dr, tk, os⟩ :=
  growG_end G F N (fun p hp => (List.mem_cons.mp hp).elim (fun e => e ▸ .head _) fun h => .tail _ (.tail _ h)) (.tail _ (.head _)) (fun q hq => (List.mem_cons.mp hq).elim (fun e => e ▸ ht) fun h => by
    have h1 : q.1 ∈ rest.map (·.1) := List.mem_map_of_mem h
    rw [hm] at h1
    obtain ⟨r, hr, e⟩ := List.mem_map.mp h1
    rw [← e]
    exact hne r hr) hJ
theorem drop5 {h' : Heap} {t a b c d e : Addr × Obj} {r : List (Addr × Obj)} (N : News h₀ L h' (t :: a :: b :: c :: d :: e :: r)) : News h₀ L h' (t :: r) := fun p hp => N p ((List.mem_cons.mp hp).elim (fun e => e ▸ .head _) fun h => .tail _ (.tail _ (.tail _ (.tail _ (.tail _ (.tail _ h))))))
end
end Mine
end
-- FB
namespace Mine
/-- the number that the flags from i on, n of them, stand for -/
noncomputable def fl (P : Nat → Bool) : Nat → Nat → Nat
  | _, 0 => 0
  | i, n + 1 => (if P i then 2 ^ i else 0) + fl P (i + 1) n
theorem fl_dvd (P : Nat → Bool) : ∀ n i, ∃ r, fl P i n = 2 ^ i * r
  | 0, i => ⟨0, by simp [fl]⟩
  | n + 1, i => by
    obtain ⟨r, hr⟩ := fl_dvd P n (i + 1)
    refine ⟨(if P i then 1 else 0) + 2 * r, ?_⟩
    unfold fl
    rw [hr, Nat.mul_add, Nat.pow_succ]
    split <;> simp [Nat.mul_assoc]
theorem fl_lt (P : Nat → Bool) : ∀ n i, fl P i n < 2 ^ (i + n)
  | 0, i => by simp [fl]; exact Nat.pow_pos (by decide)
  | n + 1, i => by
    unfold fl
    have h := fl_dvd P n (i + 1)
    obtain ⟨r, hr⟩ := h
    have h1 := fl_lt P n (i + 1)
    rw [hr] at h1 ⊢
    have e : 2 ^ (i + 1 + n) = 2 ^ (i + 1) * 2 ^ n := Nat.pow_add ..
    have e' : 2 ^ (i + (n + 1)) = 2 ^ (i + 1) * 2 ^ n := by rw [← e]; congr 1; omega
    rw [e] at h1
    rw [e']
    have h2 : r < 2 ^ n := Nat.lt_of_mul_lt_mul_left h1
    have h3 : 2 ^ (i + 1) * (r + 1) ≤ 2 ^ (i + 1) * 2 ^ n := Nat.mul_le_mul_left _ h2
    have h4 : (2 : Nat) ^ i < 2 ^ (i + 1) := Nat.pow_lt_pow_right (by decide) (Nat.lt_succ_self _)
    rw [Nat.mul_add] at h3
    split <;> omega
theorem fl_and (P : Nat → Bool) (n i : Nat) : fl P i (n + 1) &&& 2 ^ i = if P i then 2 ^ i else 0 := by
  obtain ⟨r, hr⟩ := fl_dvd P n (i + 1)
  have e : fl P i (n + 1) = 2 ^ i * ((if P i then 1 else 0) + 2 * r) := by
    unfold fl
    rw [hr, Nat.mul_add, Nat.pow_succ]
    split <;> simp [Nat.mul_assoc]
  have hb : (fl P i (n + 1)).testBit i = P i := by
    rw [e, Nat.testBit_eq_decide_div_mod_eq, Nat.mul_div_cancel_left _ (Nat.pow_pos (by decide))]
    cases hp : P i
    · have : (0 + 2 * r) % 2 = 0 := by omega
      simp
    · have : (1 + 2 * r) % 2 = 1 := by omega
      simp [this]
  apply Nat.eq_of_testBit_eq
  intro j
  rw [Nat.testBit_and, Nat.testBit_two_pow]
  by_cases hj : i = j
  · subst hj
    rw [hb]
    cases hp : P i <;> simp [Nat.testBit_two_pow]
  · rw [decide_eq_false hj, Bool.and_false]
    split
    · rw [Nat.testBit_two_pow, decide_eq_false hj]
    · rw [Nat.zero_testBit]
theorem band_nat (a b : Nat) : Builtin.bitAnd (a : Int) (b : Int) = ((a &&& b : Nat) : Int) := by
  unfold Builtin.bitAnd
  rw [decide_eq_true (by omega : 0 ≤ (a : Int)), decide_eq_true (by omega : 0 ≤ (b : Int))]
  show (((a : Int).toNat &&& (b : Int).toNat : Nat) : Int) = _
  rw [Int.toNat_natCast, Int.toNat_natCast]
theorem fl_band (P : Nat → Bool) (n i : Nat) : Builtin.bitAnd ((fl P i (n + 1) : Nat) : Int) (2 ^ i) = if P i then 2 ^ i else 0 := by
  have e : (2 ^ i : Int) = ((2 ^ i : Nat) : Int) := by simp
  rw [e, band_nat, fl_and]
  split <;> rfl
theorem fl_bxor (P : Nat → Bool) (n i : Nat) (h : P i = true) : Builtin.bitXor ((fl P i (n + 1) : Nat) : Int) (2 ^ i) = ((fl P (i + 1) n : Nat) : Int) := by
  have e := fl_band P n i
  rw [if_pos h] at e
  have e2 : (2 ^ i : Int) = ((2 ^ i : Nat) : Int) := by simp
  unfold Builtin.bitXor
  rw [bitOr_and, e]
  have e3 : fl P i (n + 1) = 2 ^ i + fl P (i + 1) n := by
    show (if P i then 2 ^ i else 0) + _ = _
    rw [if_pos h]
  rw [e3, e2]
  omega
theorem fl_skip (P : Nat → Bool) (n i : Nat) (h : P i = false) : fl P i (n + 1) = fl P (i + 1) n := by
  show (if P i then 2 ^ i else 0) + _ = _
  rw [if_neg (by rw [h]; decide), Nat.zero_add]
theorem fl_none (P : Nat → Bool) : ∀ n i, fl P i n = 0 → ∀ k, i ≤ k → k < i + n → P k = false
  | 0, i, _, k, h1, h2 => by omega
  | n + 1, i, h, k, h1, h2 => by
    have h' : (if P i then 2 ^ i else 0) + fl P (i + 1) n = 0 := h
    have hi : P i = false := by
      by_cases hp : P i = true
      · rw [if_pos hp] at h'
        have : 0 < 2 ^ i := Nat.pow_pos (by decide)
        omega
      · simpa using hp
    by_cases hk : k = i
    · rw [hk]; exact hi
    · exact fl_none P n (i + 1) (by omega) k (by omega) (by omega)
def flagNames : List Str := [Str.ofString "OPTIMIZED", Str.ofString "NEWLOCALS", Str.ofString "VARARGS", Str.ofString "VARKEYWORDS", Str.ofString "NESTED", Str.ofString "GENERATOR", Str.ofString "NOFREE", Str.ofString "COROUTINE", Str.ofString "ITERABLE_COROUTINE", Str.ofString "ASYNC_GENERATOR"]
def hexT (i : Int) : Str := baseText "0x" 16 i
def nameOf (k : Nat) : Str := (flagNames[k]?).getD (hexT (2 ^ k))
/-- the names of the flags below i -/
noncomputable def namesTo (P : Nat → Bool) : Nat → List Str
  | 0 => []
  | i + 1 => namesTo P i ++ (if P i then [nameOf i] else [])
noncomputable def wordsOf (P : Nat → Bool) : List Str := namesTo P 32 ++ (if fl P 32 5 = 0 then [] else [hexT ((fl P 32 5 : Nat) : Int)])
theorem namesTo_len (P : Nat → Bool) : ∀ i, (namesTo P i).length ≤ i
  | 0 => Nat.le_refl _
  | i + 1 => by
    have := namesTo_len P i
    unfold namesTo
    rw [List.length_append]
    split <;> simp <;> omega
theorem namesTo_stop (P : Nat → Bool) (i : Nat) : ∀ n, (∀ k, i ≤ k → k < i + n → P k = false) → namesTo P (i + n) = namesTo P i
  | 0, _ => rfl
  | n + 1, h => by
    show namesTo P (i + n) ++ _ = _
    have hp : P (i.add n) = false := h (i + n) (by omega) (by omega)
    rw [if_neg (by rw [hp]; decide), List.append_nil]
    exact namesTo_stop P i n fun k h1 h2 => h k h1 (by omega)
theorem wordsOf_stop (P : Nat → Bool) (i : Nat) (hi : i ≤ 32) (h : fl P i (37 - i) = 0) : wordsOf P = namesTo P i := by
  have hn := fl_none P _ i h
  have h32 : fl P 32 5 = 0 := by
    unfold fl fl fl fl fl fl
    rw [hn 32 (by omega) (by omega), hn 33 (by omega) (by omega), hn 34 (by omega) (by omega), hn 35 (by omega) (by omega), hn 36 (by omega) (by omega)]
    rfl
  unfold wordsOf
  rw [if_pos h32, List.append_nil]
  obtain ⟨n, hn'⟩ : ∃ n, 32 = i + n := ⟨32 - i, by omega⟩
  rw [hn']
  exact namesTo_stop P i n fun k h1 h2 => hn k h1 (by omega)
theorem nameOf_len (k : Nat) (hk : k < 37) : (nameOf k).length ≤ 20 := by
  have key : ∀ j : Fin 37, (nameOf j.val).length ≤ 20 := by decide +kernel
  exact key ⟨k, hk⟩
theorem namesTo_mem (P : Nat → Bool) : ∀ i, i ≤ 37 → ∀ x ∈ namesTo P i, x.length ≤ 20
  | 0, _, x, hx => nomatch hx
  | i + 1, hi, x, hx => by
    rcases List.mem_append.mp hx with hx | hx
    · exact namesTo_mem P i (by omega) x hx
    · split at hx
      · rw [List.mem_singleton.mp hx]; exact nameOf_len i (by omega)
      · cases hx
theorem hexT_top (j : Nat) (hj : j < 32) : (hexT ((2 ^ 32 * j : Nat) : Int)).length ≤ 20 := by
  have key : ∀ j : _root_.Fin 32, (hexT ((2 ^ 32 * j.val : Nat) : Int)).length ≤ 20 := by decide +kernel
  exact key ⟨j, hj⟩
theorem wordsOf_mem (P : Nat → Bool) : ∀ x ∈ wordsOf P, x.length ≤ 40 := fun x hx => by
  rcases List.mem_append.mp hx with hx | hx
  · exact Nat.le_trans (namesTo_mem P 32 (by decide) x hx) (by decide)
  · split at hx
    · cases hx
    · obtain ⟨r, hr⟩ := fl_dvd P 5 32
      have h := fl_lt P 5 32
      rw [List.mem_singleton.mp hx, hr]
      exact Nat.le_trans (hexT_top r (by rw [hr] at h; omega)) (by decide)
theorem wordsOf_len (P : Nat → Bool) : (wordsOf P).length ≤ 33 := by
  unfold wordsOf
  rw [List.length_append]
  have := namesTo_len P 32
  split <;> simp <;> omega
end Mine
-- TP
section
open PySem PySem.W PyProof.Rows PySem.StrLaws Builtin Builtin.Str
namespace Mine
noncomputable def posN : List Nat → Nat → List Nat
  | [], _ => []
  | c :: r, i => if c = 10 then i :: posN r (i + 1) else posN r (i + 1)
theorem subAt_one (x : Str) (pre suf : List Nat) (c : Nat) (h : x.cps.toList = pre ++ c :: suf) : subAt x (chr1 10) pre.length = (c == 10) := by
  unfold subAt
  have e : x.cps.extract pre.length (pre.length + (chr1 10).length) = #[c] := by
    apply Array.toList_inj.mp
    rw [Array.toList_extract, h]
    simp [chr1, Str.length]
  rw [e]
  show (#[c] == #[10]) = _
  rw [Bool.eq_iff_iff, beq_iff_eq, beq_iff_eq]
  simp
theorem occ_fold (x : Str) (limit : Nat) (hlim : x.length < limit) : ∀ (suf pre : List Nat) (st : Array Nat × Nat), x.cps.toList = pre ++ suf → st.1.size ≤ pre.length → st.2 ≤ pre.length →
    (forIn (List.range' pre.length (suf.length + 1)) st (occBody x (chr1 10) x.length limit)).run.fst.toList = st.1.toList ++ posN suf pre.length
  | [], pre, st, h, h1, h2 => by
    have hl : x.length = pre.length := by
      have := congrArg List.length h
      simpa [Str.length] using this
    simp only [List.length_nil, Nat.zero_add, List.range'_one, List.forIn_cons]
    unfold occBody
    rw [if_neg (by rintro ⟨⟨_, h9⟩, _⟩; rw [hl, chr1_len] at h9; omega)]
    simp [posN]
  | c :: suf, pre, st, h, h1, h2 => by
    have hl : x.length = pre.length + (suf.length + 1) := by
      have := congrArg List.length h
      simpa [Str.length] using this
    have hs := subAt_one x pre suf c h
    have ih := fun st' => occ_fold x limit hlim suf (pre ++ [c]) st' (by simpa using h)
    rw [List.length_append, List.length_singleton] at ih
    simp only [List.length_cons]
    rw [List.range'_succ, List.forIn_cons]
    unfold occBody
    rw [hs]
    by_cases hc : c = 10
    · rw [if_pos (by simp [hc, chr1_len]; omega)]
      show (forIn (List.range' (pre.length + 1) (suf.length + 1)) (st.1.push pre.length, pre.length + (chr1 10).length) (occBody x (chr1 10) x.length limit)).run.fst.toList = _
      rw [ih _ (by simp; omega) (by simp [chr1_len])]
      simp [posN, hc]
    · rw [if_neg (by simp [hc])]
      show (forIn (List.range' (pre.length + 1) (suf.length + 1)) (st.1, st.2) (occBody x (chr1 10) x.length limit)).run.fst.toList = _
      rw [ih _ (by simp; omega) (by simp; omega)]
      simp [posN, hc]
theorem occ_pos (x : Str) : occurrences x (chr1 10) 0 x.length (x.length + 1) = posN x.cps.toList 0 := by
  rw [occ_eq]
  have h := occ_fold x (x.length + 1) (Nat.lt_succ_self _) x.cps.toList [] (#[], 0) rfl (Nat.le_refl _) (Nat.le_refl _)
  have e : x.cps.toList.length = x.length := by simp [Str.length]
  rw [e] at h
  simpa using h
theorem posN_no : ∀ (l : List Nat) (i : Nat), 10 ∉ l → posN l i = []
  | [], _, _ => rfl
  | c :: l, i, h => by
    have h1 : c ≠ 10 := fun e => h (e ▸ .head _)
    show (if c = 10 then _ else _) = _
    rw [if_neg h1]
    exact posN_no l (i + 1) fun hm => h (.tail _ hm)
theorem posN_cut : ∀ (l r : List Nat) (i : Nat), 10 ∉ l → posN (l ++ 10 :: r) i = (i + l.length) :: posN r (i + l.length + 1)
  | [], r, i, _ => by show (if (10 : Nat) = 10 then _ else _) = _; rw [if_pos rfl]; rfl
  | c :: l, r, i, h => by
    have h1 : c ≠ 10 := fun e => h (e ▸ .head _)
    show (if c = 10 then _ else posN (l ++ 10 :: r) (i + 1)) = _
    rw [if_neg h1, posN_cut l r (i + 1) fun hm => h (.tail _ hm), List.length_cons]
    rw [show i + 1 + l.length = i + (l.length + 1) by omega]
theorem take_at (l r : List Nat) (n : Nat) (h : n = l.length) : (l ++ r).take n = l := by subst h; exact List.take_left
theorem nl_is : Str.ofString "\n" = chr1 10 := by decide +kernel
theorem split_three (a b c : List Nat) (ha : 10 ∉ a) (hb : 10 ∉ b) (hc : 10 ∉ c) (x : Str) (hx : x.cps.toList = a ++ 10 :: (b ++ 10 :: c)) :
    Txt.split x (Str.ofString "\n") = [⟨a.toArray⟩, ⟨b.toArray⟩, ⟨c.toArray⟩] := by
  have hlen : x.length = a.length + (b.length + (c.length + 1) + 1) := by
    have := congrArg List.length hx
    simpa [Str.length] using this
  have hocc : occurrences x (chr1 10) 0 x.length (x.length + 1) = [a.length, a.length + 1 + b.length] := by
    rw [occ_pos, hx, posN_cut _ _ _ ha, posN_cut _ _ _ hb, posN_no _ _ hc]
    simp
  have hk : Builtin.Str.strKind (chr1 10) = 1 := by decide +kernel
  have hk2 : 1 ≤ Builtin.Str.strKind x := by unfold Builtin.Str.strKind; split; exact Nat.le_refl _; split <;> decide
  unfold Txt.split
  rw [nl_is, if_neg (by simp [hk, chr1_len]; omega), hocc, if_neg (by simp), partsBetween_eq]
  show [strSub x 0 a.length, strSub x (a.length + 1) (a.length + 1 + b.length), strSub x (a.length + 1 + b.length + 1) x.length] = _
  rw [PyProof.Rows.strSub_mk, PyProof.Rows.strSub_mk, PyProof.Rows.strSub_mk, hx, hlen]
  have e1 : ((a ++ 10 :: (b ++ 10 :: c)).drop 0).take (a.length - 0) = a := by simp
  have e2 : ((a ++ 10 :: (b ++ 10 :: c)).drop (a.length + 1)).take (a.length + 1 + b.length - (a.length + 1)) = b := by
    rw [show a ++ 10 :: (b ++ 10 :: c) = (a ++ [10]) ++ (b ++ 10 :: c) by simp, show a.length + 1 = (a ++ [10]).length by simp, List.drop_left]
    exact take_at _ _ _ (by simp)
  have e3 : ((a ++ 10 :: (b ++ 10 :: c)).drop (a.length + 1 + b.length + 1)).take (a.length + (b.length + (c.length + 1) + 1) - (a.length + 1 + b.length + 1)) = c := by
    rw [show a ++ 10 :: (b ++ 10 :: c) = (a ++ [10] ++ b ++ [10]) ++ c by simp, show a.length + 1 + b.length + 1 = (a ++ [10] ++ b ++ [10]).length by simp; omega, List.drop_left]
    exact List.take_of_length_le (by simp; omega)
  rw [e1, e2, e3]
/-- the page's text -/
theorem page_cps (a b c : Str) : (Str.join (Str.ofString "\n") [a, b, c]).cps.toList = a.cps.toList ++ 10 :: (b.cps.toList ++ 10 :: c.cps.toList) := by
  rw [nl_is]
  show (((a ++ chr1 10) ++ ((b ++ chr1 10) ++ c)).cps).toList = _
  show ((a.cps ++ #[10]) ++ ((b.cps ++ #[10]) ++ c.cps)).toList = _
  simp
theorem blk_cps (p q c : Nat) : (blk p q c).cps.toList = List.replicate p 32 ++ List.replicate q c := by simp [blk]
theorem blk_no (p q c : Nat) (hc : 65 ≤ c ∧ c ≤ 90) : 10 ∉ (blk p q c).cps.toList := by
  rw [blk_cps, List.mem_append, List.mem_replicate, List.mem_replicate]
  rintro (⟨_, h⟩ | ⟨_, h⟩) <;> omega
theorem split_page (p1 q1 c1 p2 q2 c2 p3 q3 c3 : Nat) (h1 : 65 ≤ c1 ∧ c1 ≤ 90) (h2 : 65 ≤ c2 ∧ c2 ≤ 90) (h3 : 65 ≤ c3 ∧ c3 ≤ 90) :
    Txt.split (Str.join (Str.ofString "\n") [blk p1 q1 c1, blk p2 q2 c2, blk p3 q3 c3]) (Str.ofString "\n") = [blk p1 q1 c1, blk p2 q2 c2, blk p3 q3 c3] :=
  split_three _ _ _ (blk_no p1 q1 c1 h1) (blk_no p2 q2 c2 h2) (blk_no p3 q3 c3 h3) _ (page_cps _ _ _)
def tksOf (p q c : Nat) : List Tk := List.replicate p Tk.bl ++ [Tk.wd q c]
theorem encs_bl : ∀ p : Nat, encs (List.replicate p Tk.bl) = List.replicate p 32
  | 0 => rfl
  | p + 1 => by
    rw [List.replicate_succ, List.replicate_succ]
    show [32] ++ encs (List.replicate p Tk.bl) = _
    rw [encs_bl p]; rfl
theorem encs_tks (p q c : Nat) : encs (tksOf p q c) = (blk p q c).cps.toList ++ [10] := by
  unfold tksOf
  rw [show encs (List.replicate p Tk.bl ++ [Tk.wd q c]) = encs (List.replicate p Tk.bl) ++ encs [Tk.wd q c] from List.flatMap_append, encs_bl, blk_cps]
  show _ ++ (List.replicate q c ++ [10] ++ []) = _
  simp
theorem page_encs (p1 q1 c1 p2 q2 c2 p3 q3 c3 : Nat) : (Str.join (Str.ofString "\n") [blk p1 q1 c1, blk p2 q2 c2, blk p3 q3 c3] ++ Str.ofString "\n").cps.toList = encs (tksOf p1 q1 c1 ++ (tksOf p2 q2 c2 ++ tksOf p3 q3 c3)) := by
  rw [nl_is]
  show ((Str.join (chr1 10) [blk p1 q1 c1, blk p2 q2 c2, blk p3 q3 c3]).cps ++ #[10]).toList = _
  rw [← nl_is, Array.toList_append, page_cps]
  rw [show encs (tksOf p1 q1 c1 ++ (tksOf p2 q2 c2 ++ tksOf p3 q3 c3)) = encs (tksOf p1 q1 c1) ++ encs (tksOf p2 q2 c2 ++ tksOf p3 q3 c3) from List.flatMap_append, show encs (tksOf p2 q2 c2 ++ tksOf p3 q3 c3) = encs (tksOf p2 q2 c2) ++ encs (tksOf p3 q3 c3) from List.flatMap_append, encs_tks, encs_tks, encs_tks]
  simp
theorem fold_bl (rs : List (Nat × Nat × Nat)) : ∀ p n : Nat, (List.replicate p Tk.bl).foldl stepT (rs, n) = (rs, n + p)
  | 0, _ => rfl
  | p + 1, n => by
    rw [List.replicate_succ, List.foldl_cons]
    show (List.replicate p Tk.bl).foldl stepT (rs, n + 1) = _
    rw [fold_bl rs p (n + 1), show n + 1 + p = n + (p + 1) by omega]
theorem fold_tks (rs : List (Nat × Nat × Nat)) (p q c : Nat) : (tksOf p q c).foldl stepT (rs, 0) = (rs ++ [(p, q, c)], 0) := by
  unfold tksOf
  rw [List.foldl_append, fold_bl, Nat.zero_add]
  rfl
theorem fold_page (p1 q1 c1 p2 q2 c2 p3 q3 c3 : Nat) : ((tksOf p1 q1 c1 ++ (tksOf p2 q2 c2 ++ tksOf p3 q3 c3)).foldl stepT ([], 0)).1 = [(p1, q1, c1), (p2, q2, c2), (p3, q3, c3)] := by
  rw [List.foldl_append, List.foldl_append, fold_tks, fold_tks, fold_tks]; rfl
theorem tks_ok {p q c : Nat} (hq : 1 ≤ q ∧ q ≤ 100) (hc : 65 ≤ c ∧ c ≤ 90) : ∀ k ∈ tksOf p q c, k.ok := fun k hk => by
  rcases List.mem_append.mp hk with h | h
  · rw [(List.mem_replicate.mp h).2]; trivial
  · rw [List.mem_singleton.mp h]; exact ⟨hq.1, hq.2, hc.1, hc.2⟩
theorem tks_len (p q c : Nat) : (tksOf p q c).length = p + 1 := by simp [tksOf]
theorem blk_ascii {p q c : Nat} (hc : 65 ≤ c ∧ c ≤ 90) : ∀ x ∈ (blk p q c).cps.toList, x < 128 := fun x hx => by
  rw [blk_cps, List.mem_append, List.mem_replicate, List.mem_replicate] at hx
  rcases hx with ⟨_, h⟩ | ⟨_, h⟩ <;> omega
theorem page_ok {p1 q1 c1 p2 q2 c2 p3 q3 c3 : Nat} (h1 : p1 ≤ 50 ∧ q1 ≤ 50) (h2 : p2 ≤ 50 ∧ q2 ≤ 50) (h3 : p3 ≤ 50 ∧ q3 ≤ 50) (k1 : 65 ≤ c1 ∧ c1 ≤ 90) (k2 : 65 ≤ c2 ∧ c2 ≤ 90) (k3 : 65 ≤ c3 ∧ c3 ≤ 90) (x : Str)
    (hx : x = Str.join (Str.ofString "\n") [blk p1 q1 c1, blk p2 q2 c2, blk p3 q3 c3] ++ Str.ofString "\n") : 0 < x.length ∧ x.length ≤ 4000 ∧ ∀ c ∈ x.cps, c < 128 := by
  have e : x.cps.toList = (blk p1 q1 c1).cps.toList ++ 10 :: ((blk p2 q2 c2).cps.toList ++ 10 :: ((blk p3 q3 c3).cps.toList ++ [10])) := by
    rw [hx, page_encs]
    rw [show encs (tksOf p1 q1 c1 ++ (tksOf p2 q2 c2 ++ tksOf p3 q3 c3)) = encs (tksOf p1 q1 c1) ++ encs (tksOf p2 q2 c2 ++ tksOf p3 q3 c3) from List.flatMap_append, show encs (tksOf p2 q2 c2 ++ tksOf p3 q3 c3) = encs (tksOf p2 q2 c2) ++ encs (tksOf p3 q3 c3) from List.flatMap_append, encs_tks, encs_tks, encs_tks]
    simp
  have hl : x.length = p1 + q1 + (p2 + q2) + (p3 + q3) + 3 := by
    have := congrArg List.length e
    rw [blk_cps, blk_cps, blk_cps] at this
    simp at this
    show x.cps.size = _
    omega
  refine ⟨by omega, by omega, fun c hc => ?_⟩
  have hc' : c ∈ x.cps.toList := Array.mem_toList_iff.mpr hc
  rw [e] at hc'
  simp only [List.mem_append, List.mem_cons, List.not_mem_nil, or_false] at hc'
  rcases hc' with h | h | h | h | h | h
  · exact blk_ascii k1 c h
  · omega
  · exact blk_ascii k2 c h
  · omega
  · exact blk_ascii k3 c h
  · omega
end Mine
end
-- FN
section
open PySem PySem.W PyProof.Rows PySem.Spec
namespace Mine
section
variable {prog : Program} {w : World} {A : Around} {E : Value → Shared → Prop} {s : Shared} {env : Env} {h₀ : Heap} {L : Addr} {x : Str} {px : Pos} {body orelse : List Stmt} {Q : Flow → Shared → Prop}
theorem Led_list {ax : Addr} {its : Array Value} {n0 : Nat} {m₀ : Str → Option Value} {news : List (Addr × Obj)} (J : Nat → (Str → Option Value) → List (Addr × Obj) → Prop)
    (hh : A.handled = none) (F : Fr h₀ L s.heap m₀) (N : News h₀ L s.heap news) (hL : env.locals = L) (hj : J 0 m₀ news) (hmem : ∀ i m nx, J i m nx → (ax, listOf its n0) ∈ nx)
    (hx : env.kindOf x = some .local) (hp : (env.scope.kind == .class || (env.scope.kind == .module && env.locals != env.globals)) = false)
    (turn : ∀ i v m₁ nx h tk I o, its[i]? = some v → (∀ q ∈ nx, q.1 ≠ I) → J i m₁ nx → Fr h₀ L h (fun y => if y = x then some v else m₁ y) → News h₀ L h ((I, o) :: nx) →
      wpAny (model prog w) A (execs body env) (GrowPost h₀ L I o (J (i + 1)) { s with heap := h, toks := tk } Q) E { s with heap := h, toks := tk })
    (done : ∀ m₁ nx h tk, J its.size m₁ nx → Fr h₀ L h m₁ → News h₀ L h nx → wpAny (model prog w) A (execs orelse env) Q E { s with heap := h, toks := tk })
    (hE : PassesOwn (model prog w) A env E) :
    wpAny (model prog w) A (pyIter (.ref ax)) (fun it s₂ => ElseAt prog w A env x px body orelse Q E it s₂) E s := by
  have hl0 := (N _ (hmem _ _ _ hj)).1
  have hl : s.heap.IsList ax its := ⟨_, hl0, rfl, n0, rfl⟩
  refine wpAny_pyIter_list hl ?_
  have hf := fresh_K F
  have up : ∀ b o, s.heap.get? b = some o → (s.heap.push { cls := .type "list_iterator", data := .fields #[.ref ax, .int 0 0] }).get? b = some o := fun b o e => Heap.get?_push_of_some _ e
  exact else_gen (s := { s with heap := s.heap.push _ }) J (Walks.list hh s.heap.objs.size ax (Nat.ne_of_lt (Heap.lt_size hl0)) its) (fun b hb => (List.mem_cons.mp hb).imp id fun hb => ⟨listOf its n0, by rw [List.mem_singleton.mp hb]; exact hmem⟩) (fun i h st => by obtain ⟨o, e, _⟩ := st.1; exact ⟨o, e⟩) (F.push _) (fun p hp => ⟨up _ _ (N p hp).1, (N p hp).2⟩) hL hf.1 hf.2
    (fun q hq => Nat.ne_of_lt (Heap.lt_size (N q hq).1)) ⟨⟨_, Heap.get?_push_size _ rfl, rfl, rfl⟩, hl.push _⟩ hj (fun i v m₁ nx h tk o hi hP hoff hJ F₁ N₁ => turn i v m₁ nx h tk _ o hP hoff hJ F₁ N₁) done hx hp hE
end
end Mine
end
-- CS2
section
open PySem PySem.W PyProof.Rows PySem.Calls PySem.Spec
namespace Mine
section
variable {prog : Program} {w : World} {A₀ A : Around} {s : Shared} {base h₀ : Heap} {outer : List Env} {env : Env} {L : Addr} {m : Str → Option Value} {news : List (Addr × Obj)} {K : Frag} {p : Program} {loose : List Str} {mean : ExcName → Option Value} {mg mb : Str → Option Value}
    {R : Result → Shared → Prop} {name qual : Str} {params : Arguments} {body : List Stmt} {scope : Scope} {dV kV doc pm cdv ct oc : Value} {an od : Option Addr} {osl : Array (Option Value)} {f : Addr} {args : Args} {binds : List (Str × Value)}
theorem enterSC (B : Below A₀ base outer h₀) (F : Fr h₀ L s.heap m) (X₀ : K.In h₀) (N : News h₀ L s.heap news) (T : Top p loose mean mg mb h₀) (XB : K.In base) (TB : Top p loose mean mg mb base) (D : KtsDicts (outer.filterMap (·.frame)) h₀)
    (hA : A.frames = some (env :: outer)) (hf : env.frame = some L) (hke : env.scope.kind = .function)
    (ho : K.lookup f = some ⟨oc, od, .func (fnOf name qual params body scope dV kV doc pm an cdv ct), osl⟩) (hcd : codeIn K cdv qual = true) (hroom : A.depth < recursionLimit)
    (hbind : BindsTo s (fnOf name qual params body scope dV kV doc pm an cdv ct) args binds) (hkind : (binds.all fun y => scope.names.lookup y.1 == some .local || scope.names.lookup y.1 == some .cell) = true)
    (hnd : ((cellsFrom 0 scope.names []).map (·.1)).Nodup)
    (h : ∀ g L' h₁ tk cells, Fr h₀ L g m → Fr g L' h₁ (bindL (envOfC qual scope L' f cdv).kindOf binds fun _ => none) → News g L' h₁ (cells ++ news) →
      CellsAre (bindC (envOfC qual scope L' f cdv).kindOf binds fun _ => none) (cellsFrom (L' + 1) scope.names []) cells → Below A base (env :: outer) g → K.In g → Top p loose mean mg mb g → KtsDicts ((env :: outer).filterMap (·.frame)) g → (∀ p ∈ news, p.1 < L') →
      wpAny (model prog w) (A.deeper (envOfC qual scope L' f cdv)) (execs body (envOfC qual scope L' f cdv))
        (fun fl s' => LeaveS ((env :: outer).filterMap (·.frame)) A₀ base outer K p loose mean mg mb h₀ h₀ L m g R (match fl with | .ret v => v | _ => .none) s')
        (fun e s' => wpAny (model prog w) (A.deeper (envOfC qual scope L' f cdv)) (leaving (envOfC qual scope L' f cdv) e) (fun _ s'' => R (.error e) s'') (fun e' s'' => R (.error e') s'') s')
        { s with heap := h₁, toks := tk })
    (hco : scope.isCoroutine = false) (hgen : scope.isGenerator = false) (hk : scope.kind = .function) : codeAny (model prog w) A (.call (.ref f) args) R s := by
  have X := X₀.keeps F.keep
  obtain ⟨FG, BG, st, back⟩ := groundX (R := R) B F N hA hf hke
  refine codeAny_call_function hroom (X _ _ ho) rfl hco hgen rfl (codeRec_of X hcd) (hbind _ _ _ _ ?_)
  refine wpAny_newFunctionEnv_cells hk (kindsX hkind _) fun env' he s' x => ?_
  subst he
  have keep := x.toInCall.keep
  obtain ⟨h₁, tk, rfl, _⟩ := x.done
  obtain ⟨cells, NC, Y⟩ := Cl.news (h₀ := s.heap) (Nat.le_refl _) fun n c hm => ⟨x.cell n c (lookup_of_mem_nodup (cellsFrom_names scope.names 0 (s.heap.objs.size + 1) [] [] rfl ▸ hnd) hm), x.above n c hm⟩
  have ledger : News (hideAll s.heap (news.map (·.1))) s.heap.objs.size h₁ (cells ++ news) := fun p hp => by
    rcases List.mem_append.mp hp with hp | hp
    · refine ⟨(NC p hp).1, (NC p hp).2.1, Option.eq_none_iff_forall_ne_some.mpr fun o e => ?_⟩
      have e := of_hideAll _ e
      rw [(NC p hp).2.2] at e
      cases e
    · exact news_deep N keep rfl p hp
  refine ⟨(T.nolimit.keeps F.keep).keeps keep, codeAny_func ?_⟩
  refine wpAny_mono (h _ _ h₁ tk cells FG ⟨x.toInCall.ns, fun b o e => keep b o (of_hideAll _ e), ?_⟩ ledger Y BG (X₀.keeps st) (T.keeps st) (dicts_in FG D hf) fun p hp => Heap.lt_size (N p hp).1) (fun fl s' hl => ?_) fun _ _ y => y
  · rw [hideAll_size]; exact Nat.le_refl _
  rcases hl with hl | ⟨g', L', m', l, T', F', N', k⟩
  · exact back _ _ hl
  · obtain ⟨h₀', a1, a2, a3, a4, a5, a6, a7⟩ := back_turned B FG XB TB D hf T' F' N'
    exact k h₀' a1 a2 a3 a4 a5 a6 a7
end
end Mine
end
local macro_rules | `(tactic| k_ne) => `(tactic| (refine neN ?_; (try dsimp only); first | exact Nat.ne_of_lt (by with_reducible assumption) | exact Nat.ne_of_gt (by with_reducible assumption) | (apply Nat.ne_of_lt; with_reducible (apply And.left; iterate 13 (try (first | assumption | apply And.right)); done)) | (apply Nat.ne_of_gt; with_reducible (apply And.left; iterate 13 (try (first | assumption | apply And.right)); done)) | decide | omega))
local macro_rules | `(tactic| k_lt $h) => `(tactic| (replace $h := allLt_of $h; dsimp only [AllLt] at $h:ident))
local macro_rules | `(tactic| k_room) => `(tactic| ktr_room)
local macro_rules | `(tactic| k_all) => `(tactic| first | assumption | exact Mine.mine_all (by assumption) (by omega) | exact Mine.mine_allLt (by assumption) (by omega))
-- AT
theorem Mine.top_offAT : True := by
  w_top off
  exact trivial
namespace Mine
/-- a contract for a function that makes generators and changes the ledger -/
def CtG (w : World) (k : Nat) (f : Addr) (vs : List Value) (news : List (Addr × Obj)) (post : Value → List (Addr × Obj) → Prop) : Prop :=
  ∀ (p₉ : Program) (lo₉ : List Str) (mean : ExcName → Option Value) (mg mb : Str → Option Value) (dp un : Nat) (gd : Option (List Code)) (cn : Str) (cs : Scope) (a : Addr) (ccd : Value) (cl : List (Str × Addr)) (outer : List Env) (A₀ : Around) (base h₀ : Heap) (L : Addr) (m : Str → Option Value) (hp9 : Heap) (gs9 : Array GenState) (dr9 : Drawn) (tk9 : Nat) (os9 : OsState) (Q E : Value → Shared → Prop),
    Below A₀ base outer h₀ → Fr h₀ L hp9 m → (hd.heap_1 w.params).In h₀ → News h₀ L hp9 news → Top p₉ lo₉ mean mg mb h₀ → cs.kind = .function → dp + k < recursionLimit → un + 10 * k < cLine → AllBare gs9 →
    (∀ r nx h' tk' gs, Fr h₀ L h' m → News h₀ L h' nx → AllBare gs → post r nx → Q r ⟨h', gs, dr9, tk', os9⟩) →
    wpAny (model PG w) (ktrTop dp un gd cn cs L a ccd cl outer) (call (.ref f) vs) Q E ⟨hp9, gs9, dr9, tk9, os9⟩
inductive TabV (g : Obj → List (Addr × Obj)) (mk : Tok → Value) : Value → List (Addr × Obj) → Prop
  | mk (pl : Array Value) (t : Tok) (h : TriplesOk pl.toList) : TabV g mk (mk t) (g (tabObj pl))
abbrev iniD (w : World) (tk ti : Tok) (ne : Nat) : Obj := dictOf [{ hash := PyData.keyHash w.params (Str.ofString "_initial_size"), key := .str (Str.ofString "_initial_size") tk, val := .int 0 ti }] ne
theorem code_len {w : World} {h : Heap} (X : (hd.heap_1 w.params).In h) : CodeHd h 173 169 := by
  refine ⟨_, _, _, _, _, _, _, _, _, X 173 _ (by k_is), rfl, rfl, rfl, rfl, rfl, rfl, rfl, rfl, by decide⟩
theorem updF_mem {d : Addr} {o o' : Obj} {l : List (Addr × Obj)} {g : Obj → List (Addr × Obj)} (U : UpdF d o l g) {p : Addr × Obj} (h : p ∈ l) (hne : p.1 ≠ d) : p ∈ g o' := by
  obtain ⟨pre, post, hn, hg, _, _⟩ := U.split
  rw [hg]
  rw [hn] at h
  rcases List.mem_append.mp h with h | h
  · exact List.mem_append_left _ h
  · rcases List.mem_cons.mp h with rfl | h
    · exact absurd rfl hne
    · exact List.mem_append_right _ (.tail _ h)
theorem updF_here {d : Addr} {o : Obj} {l : List (Addr × Obj)} {g : Obj → List (Addr × Obj)} (U : UpdF d o l g) : (d, o) ∈ l := by
  obtain ⟨pre, post, hn, hg, _, _⟩ := U.split
  rw [hn]
  exact List.mem_append_right _ (.head _)
theorem inst_acc {h₀ h : Heap} {L x C dx : Addr} {its : Array Value} {n : Nat} {news : List (Addr × Obj)} {od : Obj} (N : News h₀ L h news) (h1 : (x, accO C dx its n) ∈ news) (h2 : (dx, od) ∈ news) :
    InstAt h x (accO C dx its n) C (some od) := ⟨(N _ h1).1, rfl, rfl, (N _ h2).1⟩
/-- the tuples of a list lie on the ledger -/
def TupsN (news : List (Addr × Obj)) (its : Array Value) (ps : List (Str × Str)) : Prop :=
  its.size = ps.length ∧ ∀ i, i < its.size → ∃ T f p t1 t2, its[i]? = some (.ref T) ∧ ps[i]? = some (f, p) ∧ (T, pairO f t1 p t2) ∈ news
section
variable {h₀ h : Heap} {L : Addr} {news : List (Addr × Obj)} {its : Array Value} {ps : List (Str × Str)}
theorem TupsN.inh (x : TupsN news its ps) (N : News h₀ L h news) : TupsAt h its ps := ⟨x.1, fun i hi => by
  obtain ⟨T, f, p, t1, t2, a, b, c⟩ := x.2 i hi
  exact ⟨T, f, p, t1, t2, a, b, (N _ c).1⟩⟩
theorem TupsN.adr (x : TupsN news its ps) : ∀ v ∈ its, ∃ T ∈ news.map (·.1), v = .ref T := fun v hv => by
  obtain ⟨i, hi, rfl⟩ := Array.mem_iff_getElem.mp hv
  obtain ⟨T, f, p, t1, t2, a, b, c⟩ := x.2 i hi
  rw [Array.getElem?_eq_getElem hi] at a
  exact ⟨T, List.mem_map_of_mem c, Option.some.inj a⟩
theorem news_lt (N : News h₀ L h news) : ∀ t ∈ news.map (·.1), t < h.objs.size := fun t ht => by
  obtain ⟨p, hp, rfl⟩ := List.mem_map.mp ht
  exact Heap.lt_size (N p hp).1
theorem ns_get {a : Addr} {mm : Str → Option Value} (x : h.Ns a mm) : ∃ o, h.get? a = some o := let ⟨o, _, _, e, _⟩ := x; ⟨o, e⟩
theorem ne_tab {x P : Addr} {o : Obj} {pl : Array Value} (N : News h₀ L h news) (h1 : (x, o) ∈ news) (h2 : (P, tabObj pl) ∈ news) (hc : o.cls ≠ .none) : x ≠ P := fun e => by
  have a := (N _ h1).1
  have b := (N _ h2).1
  dsimp only at a b
  rw [e, b] at a
  cases a
  exact hc rfl
end
local macro_rules | `(tactic| k_mem) => `(tactic| assumption)
local macro_rules | `(tactic| k_inst) => `(tactic| (refine' inst_acc ?N ?h1 ?h2; (case N => k_asm); (case h1 => k_mem); (case h2 => k_mem)))
theorem len_ct {w : World} {ax dx : Addr} {its : Array Value} {n : Nat} {tk ti : Tok} {ne : Nat} {news : List (Addr × Obj)} {pl : Array Value} {g : Obj → List (Addr × Obj)} {ps : List (Str × Str)} (hmem : (ax, accO 207 dx its n) ∈ news) (hdm : (dx, iniD w tk ti ne) ∈ news) (U : UpdF 169 (tabObj pl) news g) (ht : TriplesOk pl.toList)
    (hT : TupsN news its ps) (hz : ∀ q ∈ ps, q.1.length ≤ 4000 ∧ q.2.length ≤ 4000) :
    CtG w 3 174 [.ref ax] news (TabV g (.int (preSum (fun i => match ps[i]? with | some q => (q.1.length : Int) + q.2.length | none => 0) its.size))) := by
  unfold CtG
  intro p₉ lo₉ mean mg mb dp un gd cn cs a ccd cl outer A₀ base h₀ L m hp9 gs9 dr9 tk9 os9 Q E B F X N T hk hd hu GB hret
  refine wpAny_call ?_
  k_dflt (first
  | cell_enter
  | (refine' code_defC ?k1 ?k2 ?k3 ?k4 ?k5 ?kA ?kF ?kK ?k6 ?k7 ?k8 ?k9 ?kB ?kD ?_ ?c2 ?c3 ?c4; (case kA => exact rfl); (case kF => exact rfl); (case kK => assumption); (case k1 => k_asm); (case k2 => k_asm); (case k3 => k_asm); (case k4 => k_asm); (case k5 => k_asm); (case k6 => k_is); (case k7 => k_is); (case k8 => ktr_room); (case k9 => exact BindsTo.of_eq rfl); (case kB => exact rfl); (case kD => decide +kernel); (case c2 => exact rfl); (case c3 => exact rfl); (case c4 => exact rfl); k_whole; intro g' L' h' tk' cells' FG' F' N' Y' B' X' T' l1; k_cells Y'; (try simp only [List.cons_append, List.nil_append] at N'); (try dsimp only); (try k_lift B'); (try k_fold)))
  refine set_e ?_
  intro e9 A9
  have qd9 : A9.depth = dp + 1 := rfl
  have qu9 : A9.units = un + 3 := rfl
  have nax := ne_tab N hmem (updF_here U) (by nofun)
  have ndx := ne_tab N hdm (updF_here U) (by nofun)
  repeat' (first | ((with_reducible refine Jr (by with_reducible assumption) ?_); intro mC FC EC QC tC) | walk1)
  rename Fr _ _ _ _ => F1
  rename News _ _ _ _ => N1
  rename Frag.In _ _ => X1
  rename Top _ _ _ _ _ _ => T1
  refine gen_acc (K := Mine.hd.heap_1 w.params) (c := 173) (P := 169) (C := 207) (fs := news.map (·.1)) (Fv := fun i y => ∃ f p t, ps[i]? = some (f, p) ∧ y = .int ((f.length : Int) + (p.length : Int)) t) F1 N1 X1 T1 GB rfl (by ktr_room) (code_len X1) rfl U ht hmem (inst_acc N1 hmem hdm) (by k_is) (by k_is) (hT.inh N1) hT.adr (news_lt N1) rfl rfl rfl rfl (by decide) rfl rfl rfl (by decide) rfl rfl rfl rfl
    (fun Cn code href h1 h2 => ?_) (fun ga h' tk' gs' pl' ht' F2 N2 G2 X2 => ?_) (fun _ => rfl)
  · refine quiet_len (mg := mg) (mb := mb) rfl rfl rfl rfl rfl (T1.g.keeps h2) (T1.b.keeps h2) ?_ ?_ ?_ ?_ (mg_none_of X1 T1.g (by k_is)) ((T1.builtins _ (by decide +kernel)).trans (by first | boot_by_name | rfl | kernel_rfl)) hz
    · exact Nat.lt_trans (Heap.lt_size (F1.keep _ _ (ns_get T1.g).choose_spec)) h1
    · exact Nat.lt_trans (Heap.lt_size (F1.keep _ _ (ns_get T1.b).choose_spec)) h1
    · exact Nat.ne_of_lt (Heap.lt_size (F1.keep _ _ (ns_get T1.g).choose_spec))
    · exact Nat.ne_of_lt (Heap.lt_size (F1.keep _ _ (ns_get T1.b).choose_spec))
  have hmem := updF_mem (o' := tabObj pl') U hmem nax
  have hdm := updF_mem (o' := tabObj pl') U hdm ndx
  repeat' (first | (((with_reducible show wpAny _ _ (getAttr (Value.ref _) _ _) _ _ _); (k_dflt ((with_reducible refine' lget_own ?k1 ?k2 ?k3 ?kl ?ka ?kb ?k5 ?k6 ?k7 ?k8 ?k9 ?_); (case k1 => k_asm); (case k2 => k_asm); (case k3 => k_inst); (case kl => k_is); (case ka => k_is); (case kb => k_is); (case k5 => k_is); (case k6 => k_is); (case k7 => k_is); (case k8 => k_get); (case k9 => k_handed); k_whole)))) | ((with_reducible refine' ld_ ?zF ?zv ?zl ?zb ?_); (case zl | zb => exact rfl); (case zF => assumption); (case zv => exact rfl)) | walk1)
  refine sum_gen0 F2 N2 G2 (X2.up (Nat.le_succ _)) (fun i => match ps[i]? with | some q => (q.1.length : Int) + q.2.length | none => 0) ?_ (fun h3 tk3 gs3 t3 F3 N3 G3 => ?_)
  · rintro i v ⟨f, p, t, e, rfl⟩
    exact ⟨t, by rw [e]⟩
  repeat' (first | ((with_reducible refine Jb ?_); (try dsimp only)) | (k_unfold; (try dsimp only)) | walk1)
  exact hret _ _ _ _ _ (by k_asm) (by k_asm) G3 (.mk pl' t3 ht')
theorem code_str {w : World} {h : Heap} (X : (hd.heap_1 w.params).In h) : CodeHd h 180 176 := by
  refine ⟨_, _, _, _, _, _, _, _, _, X 180 _ (by k_is), rfl, rfl, rfl, rfl, rfl, rfl, rfl, rfl, by decide⟩
theorem str_ct {w : World} {ax dx ta : Addr} {n : Nat} {tk ti : Tok} {ne : Nat} {news : List (Addr × Obj)} {pl : Array Value} {g : Obj → List (Addr × Obj)} {f p : Str} {t1 t2 : Tok} (hmem : (ax, accO 207 dx #[.ref ta] n) ∈ news) (hdm : (dx, iniD w tk ti ne) ∈ news) (U : UpdF 176 (tabObj pl) news g) (ht : TriplesOk pl.toList)
    (hT : (ta, pairO f t1 p t2) ∈ news) (hz : f.length ≤ 4000 ∧ p.length ≤ 4000) :
    CtG w 3 181 [.ref ax] news (TabV g (.str (f ++ p))) := by
  unfold CtG
  intro p₉ lo₉ mean mg mb dp un gd cn cs a ccd cl outer A₀ base h₀ L m hp9 gs9 dr9 tk9 os9 Q E B F X N T hk hd hu GB hret
  refine wpAny_call ?_
  k_dflt (first
  | cell_enter
  | (refine' code_defC ?k1 ?k2 ?k3 ?k4 ?k5 ?kA ?kF ?kK ?k6 ?k7 ?k8 ?k9 ?kB ?kD ?_ ?c2 ?c3 ?c4; (case kA => exact rfl); (case kF => exact rfl); (case kK => assumption); (case k1 => k_asm); (case k2 => k_asm); (case k3 => k_asm); (case k4 => k_asm); (case k5 => k_asm); (case k6 => k_is); (case k7 => k_is); (case k8 => ktr_room); (case k9 => exact BindsTo.of_eq rfl); (case kB => exact rfl); (case kD => decide +kernel); (case c2 => exact rfl); (case c3 => exact rfl); (case c4 => exact rfl); k_whole; intro g' L' h' tk' cells' FG' F' N' Y' B' X' T' l1; k_cells Y'; (try simp only [List.cons_append, List.nil_append] at N'); (try dsimp only); (try k_lift B'); (try k_fold)))
  refine set_e ?_
  intro e9 A9
  have qd9 : A9.depth = dp + 1 := rfl
  have qu9 : A9.units = un + 3 := rfl
  have nax := ne_tab N hmem (updF_here U) (by nofun)
  have ndx := ne_tab N hdm (updF_here U) (by nofun)
  have hTN : TupsN news #[.ref ta] [(f, p)] := ⟨rfl, fun i hi => by
    have : i = 0 := Nat.lt_one_iff.mp hi
    subst this
    exact ⟨ta, f, p, t1, t2, rfl, rfl, hT⟩⟩
  have hz' : ∀ q ∈ [(f, p)], q.1.length ≤ 4000 ∧ q.2.length ≤ 4000 := fun q hq => by rw [List.mem_singleton.mp hq]; exact hz
  repeat' (first | ((with_reducible refine Jr (by with_reducible assumption) ?_); intro mC FC EC QC tC) | walk1)
  rename Fr _ _ _ _ => F1
  rename News _ _ _ _ => N1
  rename Frag.In _ _ => X1
  rename Top _ _ _ _ _ _ => T1
  refine gen_acc (K := Mine.hd.heap_1 w.params) (c := 180) (P := 176) (C := 207) (fs := news.map (·.1)) (Fv := fun i y => ∃ f' p' t, [(f, p)][i]? = some (f', p') ∧ y = .str (f' ++ p') t) F1 N1 X1 T1 GB rfl (by ktr_room) (code_str X1) rfl U ht hmem (inst_acc N1 hmem hdm) (by k_is) (by k_is) (hTN.inh N1) hTN.adr (news_lt N1) rfl rfl rfl rfl (by decide) rfl rfl rfl (by decide) rfl rfl rfl rfl
    (fun Cn code href h1 h2 => ?_) (fun ga h' tk' gs' pl' ht' F2 N2 G2 X2 => ?_) (fun _ => rfl)
  · refine quiet_str (mg := mg) rfl rfl rfl rfl (T1.g.keeps h2) ?_ ?_ (mg_of X1 T1.g (by k_is)) hz'
    · exact Nat.lt_trans (Heap.lt_size (F1.keep _ _ (ns_get T1.g).choose_spec)) h1
    · exact Nat.ne_of_lt (Heap.lt_size (F1.keep _ _ (ns_get T1.g).choose_spec))
  have hmem := updF_mem (o' := tabObj pl') U hmem nax
  have hdm := updF_mem (o' := tabObj pl') U hdm ndx
  repeat' (walk1)
  refine join_gen F2 N2 G2 X2 [f ++ p] rfl ?_ ?_ (show 1 ≤ 1000 by decide) (fun h3 tk3 gs3 t3 F3 N3 G3 => ?_)
  · rintro i v ⟨f', p', t, e, rfl⟩
    cases i with
    | zero => cases e; exact ⟨_, _, rfl, rfl⟩
    | succ i => cases e
  · refine joinOk_of ?_
    rw [List.map_cons, List.map_nil, List.sum_cons, List.sum_nil, List.length_cons, List.length_nil, len_e]
    have : (f ++ p).length = f.length + p.length := Array.size_append
    omega
  repeat' (first | ((with_reducible refine Jb ?_); (try dsimp only)) | (k_unfold; (try dsimp only)) | walk1)
  exact hret _ _ _ _ _ (by k_asm) (by k_asm) G3 (.mk pl' t3 ht')
theorem CtG.use {w : World} {k : Nat} {f : Addr} {vs : List Value} {news : List (Addr × Obj)} {post : Value → List (Addr × Obj) → Prop} (C : CtG w k f vs news post)
    {p₉ : Program} {lo₉ : List Str} {mean : ExcName → Option Value} {mg mb : Str → Option Value} {dp un : Nat} {gd : Option (List Code)} {cn : Str} {cs : Scope} {a : Addr} {ccd : Value} {cl : List (Str × Addr)} {outer : List Env} {A₀ : Around} {base h₀ : Heap} {L : Addr} {m : Str → Option Value} {s : Shared} {Q E : Value → Shared → Prop}
    (B : Below A₀ base outer h₀) (F : Fr h₀ L s.heap m) (X : (hd.heap_1 w.params).In h₀) (N : News h₀ L s.heap news) (T : Top p₉ lo₉ mean mg mb h₀) (hk : cs.kind = .function) (hd : dp + k < recursionLimit) (hu : un + 10 * k < cLine) (GB : AllBare s.gens)
    (ret : ∀ r nx h' tk' gs, post r nx → Fr h₀ L h' m → News h₀ L h' nx → AllBare gs → Q r { s with heap := h', toks := tk', gens := gs }) :
    wpAny (model PG w) (ktrTop dp un gd cn cs L a ccd cl outer) (call (.ref f) vs) Q E s :=
  C p₉ lo₉ mean mg mb dp un gd cn cs a ccd cl outer A₀ base h₀ L m s.heap s.gens s.drawn s.toks s.os Q E B F X N T hk hd hu GB fun r nx h' tk' gs F' N' G' p => ret r nx h' tk' gs p F' N' G'
theorem tups1 {news : List (Addr × Obj)} {ta : Addr} {f p : Str} {t1 t2 : Tok} (h : (ta, pairO f t1 p t2) ∈ news) : TupsN news #[.ref ta] [(f, p)] := ⟨rfl, fun i hi => by
    have : i = 0 := Nat.lt_one_iff.mp hi
    subst this
    exact ⟨ta, f, p, t1, t2, rfl, rfl, h⟩⟩
theorem tups2 {news : List (Addr × Obj)} {ta tb : Addr} {f p f' p' : Str} {t1 t2 t3 t4 : Tok} (h : (ta, pairO f t1 p t2) ∈ news) (h' : (tb, pairO f' t3 p' t4) ∈ news) : TupsN news #[.ref ta, .ref tb] [(f, p), (f', p')] := ⟨rfl, fun i hi => by
    match i, hi with
    | 0, _ => exact ⟨ta, f, p, t1, t2, rfl, rfl, h⟩
    | 1, _ => exact ⟨tb, f', p', t3, t4, rfl, rfl, h'⟩
    | i + 2, hi => exact absurd hi (by simp)⟩
section
variable {w : World} {ax dx ta tb : Addr} {n : Nat} {tk ti : Tok} {ne : Nat} {news : List (Addr × Obj)} {pl : Array Value} {g : Obj → List (Addr × Obj)} {p q c p' q' c' : Nat} {t1 t2 t3 t4 : Tok}
theorem len1_ct (hmem : (ax, accO 207 dx #[.ref ta] n) ∈ news) (hdm : (dx, iniD w tk ti ne) ∈ news) (U : UpdF 169 (tabObj pl) news g) (ht : TriplesOk pl.toList)
    (hT : (ta, pairO (blk p 0 0) t1 (blk 0 q c) t2) ∈ news) (hz : p ≤ 4000 ∧ q ≤ 4000) :
    CtG w 3 174 [.ref ax] news (TabV g (.int ((p + q : Nat) : Int))) := by
  refine Eq.mp (congrArg (fun v => CtG w 3 174 [.ref ax] news (TabV g (.int v))) ?e) (len_ct hmem hdm U ht (tups1 hT) (fun x hx => ?_))
  case e =>
    show 0 + (((blk p 0 0).length : Int) + ((blk 0 q c).length : Int)) = _
    rw [blk_len, blk_len]
    omega
  · rw [List.mem_singleton.mp hx]
    exact ⟨by rw [blk_len]; omega, by rw [blk_len]; omega⟩
theorem len2_ct (hmem : (ax, accO 207 dx #[.ref ta, .ref tb] n) ∈ news) (hdm : (dx, iniD w tk ti ne) ∈ news) (U : UpdF 169 (tabObj pl) news g) (ht : TriplesOk pl.toList)
    (hT : (ta, pairO (blk p 0 0) t1 (blk 0 q c) t2) ∈ news) (hT' : (tb, pairO (blk p' 0 0) t3 (blk 0 q' c') t4) ∈ news) (hz : p ≤ 4000 ∧ q ≤ 4000) (hz' : p' ≤ 4000 ∧ q' ≤ 4000) :
    CtG w 3 174 [.ref ax] news (TabV g (.int ((p + q + (p' + q') : Nat) : Int))) := by
  refine Eq.mp (congrArg (fun v => CtG w 3 174 [.ref ax] news (TabV g (.int v))) ?e) (len_ct hmem hdm U ht (tups2 hT hT') (fun x hx => ?_))
  case e =>
    show 0 + (((blk p 0 0).length : Int) + ((blk 0 q c).length : Int)) + (((blk p' 0 0).length : Int) + ((blk 0 q' c').length : Int)) = _
    rw [blk_len, blk_len, blk_len, blk_len]
    omega
  · rcases List.mem_cons.mp hx with rfl | hx
    · exact ⟨by rw [blk_len]; omega, by rw [blk_len]; omega⟩
    · rw [List.mem_singleton.mp hx]
      exact ⟨by rw [blk_len]; omega, by rw [blk_len]; omega⟩
theorem blk_cat (p q c : Nat) : blk p 0 0 ++ blk 0 q c = blk p q c := by
  show (⟨(blk p 0 0).cps ++ (blk 0 q c).cps⟩ : Str) = _
  unfold blk
  simp
theorem str1_ct (hmem : (ax, accO 207 dx #[.ref ta] n) ∈ news) (hdm : (dx, iniD w tk ti ne) ∈ news) (U : UpdF 176 (tabObj pl) news g) (ht : TriplesOk pl.toList)
    (hT : (ta, pairO (blk p 0 0) t1 (blk 0 q c) t2) ∈ news) (hz : p ≤ 4000 ∧ q ≤ 4000) :
    CtG w 3 181 [.ref ax] news (TabV g (.str (blk p q c))) := by
  refine Eq.mp (congrArg (fun v => CtG w 3 181 [.ref ax] news (TabV g (.str v))) (blk_cat p q c)) (str_ct hmem hdm U ht hT ⟨by rw [blk_len]; omega, by rw [blk_len]; omega⟩)
end
end Mine
-- BM
section
open PySem PySem.W PyProof.Rows PySem.Calls PySem.Spec Builtin Builtin.ObjectAttr
namespace Mine
section
variable {prog : Program} {w : World} {A : Around} {E : Value → Shared → Prop} {s : Shared}
theorem lget_bound {K : Frag} {x C f L : Addr} {ox : Obj} {es : List DictEntry} {n : Nat} {name : Str} {expr : Bool} {h₀ : Heap} {m : Str → Option Value} {news : List (Addr × Obj)} {Q : Value → Shared → Prop} (F : Fr h₀ L s.heap m) (X₀ : K.In h₀) (N : News h₀ L s.heap news) (I : InstAt s.heap x ox C (some (dictOf es n))) (hl : mroIn K C (.type "list") = some true)
    (hga : findIn K (.ref C) "__getattribute__" = some (some (.builtin "list.__getattribute__"))) (hk : findIn K (.ref C) "__getattr__" = some none) (hh : hasDictIn K C = true) (ha : findIn K (.ref C) name = some (some (.ref f))) (hf : isFn K (.ref f) = true)
    (hgf : specialIn K (.ref f) "__get__" = some (some (.builtin "function.__get__"))) (ht : takesIn K (.ref f) = some false) (hc : copiedNames.contains name = false) (hg : getL name es = some none)
    (h : ∀ q h', Fr h₀ L h' m → News h₀ L h' ((q, methodObj (.ref f) (.ref x)) :: news) → (∀ p ∈ news, p.1 < q) → Q (.ref q) { s with heap := h', toks := s.toks + 1 }) :
    wpAny (model prog w) A (getAttr (.ref x) name expr) Q E s := by
  have X := X₀.keeps F.keep
  have hfo := findObj_fn hh ha hgf ht hc (by show lookIn name (dictOf es n) = _; rw [lookIn_dict, hg])
  have fin := h s.heap.objs.size _ (F.push _) (N.push F _) fun p hp => Heap.lt_size (N p hp).1
  clear h
  have hi := InstAt.lst (M := model prog w) X I hl
  obtain ⟨hp, g, d, t, os⟩ := s
  have L0 := I.type (M := model prog w)
  have L1 := looks_findIn (M := model prog w) X hga
  have L2 := looks_findIn (M := model prog w) X hk
  have L3 := looks_find (M := model prog w) X I hfo
  unfold getAttr getAttrBy
  refine wpAny_bind (wpAny_mkText (wpAny_holding (wpAny_bind (L0.at (wpAny_bind (L1.at ?_))))))
  show wpAny _ _ (getAttrByItsOwn (.ref x) (.str name _) (.ref C) (.builtin "list.__getattribute__") true expr) _ _ _
  unfold getAttrByItsOwn hookBefore
  refine wpAny_bind (L2.at ?_)
  refine wpAny_bind (wpAny_attempt (wpAny_holding ?_))
  unfold callGetattribute
  rw [if_neg (by cases expr <;> simp [onTheHeap])]
  unfold boundAndCalled
  rw [PySem.F.slot_list_getattribute.bind]
  refine wpAny_bind (wpAny_pure ?_)
  refine lcall (n := "__getattribute__") (.inl (by decide +kernel)) (by decide +kernel) (by decide +kernel) am_entry_list_getattribute (PySem.F.args_list_getattribute_2 _ _) (fun A Q E s' k q => hi A Q E s' (fun b o e => k b o e) q) ?_
  unfold Builtin.«object.__getattribute__»
  repeat (first | with_reducible refine wpAny_call ?_ | lk)
  refine fn_get X (beq_iff_eq.mp hf) ?_
  refine wpAny_pure ?_
  refine ⟨_, rfl, ?_⟩
  rw [handedOut_of rfl]
  exact wpAny_pure fin
theorem methodStar {M : Model} {env : Env} {o e : Expr} {name : Str} {apos pos sp : Pos} {Q : Value → Shared → Prop}
    (h : wpAny M A (eval o env) (fun ov s₁ => wpAny M A (getAttr ov name true) (fun f s₂ => wpAny M A (callWith pos f [] (backTo pos (starEach [.Starred e sp] env)) []) Q E s₂) E s₁) E s)
    (he : eval (.Call (.Attribute o name apos) [.Starred e sp] [] pos) env = (do
      let ov ← eval o env
      standAt apos.atName
      let (f, first) ← holding [ov] (do pure (← getAttr ov name true, []))
      let cp ← (pure pos : Sem Pos)
      callWith cp f first (backTo pos (starEach [.Starred e sp] env)) []) := by rfl) :
    wpAny M A (eval (.Call (.Attribute o name apos) [.Starred e sp] [] pos) env) Q E s := by
  rw [he]
  exact wpAny_bind (wpAny_mono h (fun ov s₁ h₁ => wpAny_bind (wpAny_standAt (wpAny_bind (wpAny_holding (wpAny_bind (wpAny_mono h₁ (fun f s₂ h₂ => wpAny_pure (wpAny_bind (wpAny_pure h₂))) fun _ _ x => x)))))) fun _ _ x => x)
theorem callWith_SM {K : Frag} {env : Env} {pos p : Pos} {M : Model} {h₀ : Heap} {L : Addr} {news : List (Addr × Obj)} {q g : Addr} {self : Value} {e : Expr} {Q : Value → Shared → Prop} (_X : K.In h₀) (_N : News h₀ L s.heap news) (_q : (q, methodObj (.ref g) self) ∈ news) (hf : fnIn K g = true)
    (h : wpAny M A (eval e env) (fun v s₁ => StarOf M A E v (fun vs s₂ => MethP K q g self s₂.heap ∧ wpAny M A (call (.ref q) ([] ++ vs)) Q E s₂) s₁) E s)
    (he : starEach [.Starred e p] env = [(true, eval e env)] := by rfl) :
    wpAny M A (callWith pos (.ref q) [] (backTo pos (starEach [.Starred e p] env)) []) Q E s := by
  rw [he]
  exact ks_call rfl (keeps_M hf) (ks_lone h)
theorem truthy_KL {K : Frag} {x C L f : Addr} {h₀ : Heap} {m : Str → Option Value} {ox : Obj} {od : Option Obj} {Q : Bool → Shared → Prop} (F : Fr h₀ L s.heap m) (X₀ : K.In h₀) (I : InstAt s.heap x ox C od) (hs : findIn K (.ref C) "__bool__" = some none) (hl : findIn K (.ref C) "__len__" = some (some (.ref f))) (hf : isFn K (.ref f) = true)
    (h : wpAny (model prog w) A.in1 (call (.ref f) [.ref x]) (PySem.W.LenBack fun v s' => match v with | .int n _ => n ≠ 0 ∧ Q true s' | _ => False) E s) : wpAny (model prog w) A (truthy (.ref x)) Q E s := by
  have X := X₀.keeps F.keep
  have K0 := I.type (M := model prog w)
  have K1 := looks_findIn (M := model prog w) X hs
  have K2 := looks_findIn (M := model prog w) X hl
  have K3 := bind_fn (M := model prog w) X (.ref x) (beq_iff_eq.mp hf)
  have arg : oneArg "len" ⟨[.ref x], []⟩ = pure (.ref x) := rfl
  obtain ⟨hh, g, d, tk, os⟩ := s
  unfold truthy
  have back : wpAny (model prog w) (A.under (.builtin "len" ⟨[.ref x], []⟩)) (call (.ref f) ([.ref x] ++ [])) _ E ⟨hh, g, d, tk, os⟩ := h
  repeat (first
    | with_reducible refine wpAny_runValue (codeAny_builtin entry_len ?_)
    | with_reducible refine wpAny_of_eq arg ?_
    | with_reducible refine wpAny_mono back ?_ fun _ _ z => z
    | lk)
  rintro v s' r
  cases v with
  | int n u =>
    obtain ⟨⟨h0, h1⟩, hn, hq⟩ := r
    have e : (n != 0) = true := bne_iff_ne.mpr hn
    repeat (first
      | rw [if_neg (show ¬ n < 0 by omega)]
      | rw [if_neg (show ¬ n ≥ 2 ^ 63 by omega)]
      | lk)
    rw [e]
    exact hq
  | _ => exact r.elim
end
end Mine
namespace Mine
theorem blk_nospace {p q c : Nat} (hq : 0 < q) (hc : 65 ≤ c ∧ c ≤ 90) : Txt.isspace (blk p q c) = false := by
  have key : ∀ k : Fin 26, Unicode.isSpace (65 + k.val) = false := by decide +kernel
  have hk := key ⟨c - 65, by omega⟩
  have e : 65 + (c - 65) = c := by omega
  simp only [e] at hk
  unfold Txt.isspace
  rw [Bool.and_eq_false_iff]
  right
  unfold blk
  rw [List.all_toArray, Bool.eq_false_iff]
  intro h
  have := List.all_eq_true.mp h c (List.mem_append_right _ (List.mem_replicate.mpr ⟨by omega, rfl⟩))
  rw [hk] at this
  cases this
section
variable {prog : Program} {w : World} {A : Around} {E : Value → Shared → Prop} {s : Shared} {h₀ : Heap} {L D : Addr} {news : List (Addr × Obj)} {Q : Value → Shared → Prop}
theorem join3 {a b c : Str} {t t1 t2 t3 : Tok} {its : Array Value} {n : Nat} (N : News h₀ L s.heap news) (hm : (D, listOf its n) ∈ news) (hi : its = #[.str a t1, .str b t2, .str c t3]) (la : a.length ≤ 4000 ∧ b.length ≤ 4000 ∧ c.length ≤ 4000)
    (h : ∀ t' k, Q (.str (Str.join (Str.ofString "\n") [a, b, c]) t') { s with toks := k }) : wpAny (model prog w) A (call (.builtin "str.join") [.str (Str.ofString "\n") t, .ref D]) Q E s := by
  subst hi
  refine SC.join (l := [(a, t1), (b, t2), (c, t3)]) (texts := [a, b, c]) ⟨_, (N _ hm).1, rfl, n, rfl⟩ rfl (joinOk_of ?_) (fun t' k => ?_)
  rotate_left
  · rw [show Txt.join (Str.ofString "\n") [a, b, c] = Str.join (Str.ofString "\n") [a, b, c] from StrLaws.glued_eq_join _ _]
    exact h t' k
  rw [List.map_cons, List.map_cons, List.map_cons, List.map_nil, List.sum_cons, List.sum_cons, List.sum_cons, List.sum_nil, List.length_cons, List.length_cons, List.length_cons, List.length_nil]
  have : (Str.ofString "\n").length = 1 := by decide +kernel
  omega
end
end Mine
end
-- PGY
theorem Mine.top_offPGY : True := by
  w_top off
  exact trivial
namespace Mine
theorem put_ini {w : World} {t tk t' ti : Tok} {ne : Nat} : (putL (Str.ofString "_initial_size") (PyData.keyHash w.params (Str.ofString "_initial_size")) (.str (Str.ofString "_initial_size") t) (.int 0 t') [{ hash := PyData.keyHash w.params (Str.ofString "_initial_size"), key := .str (Str.ofString "_initial_size") tk, val := .int 0 ti }], putN (Str.ofString "_initial_size") [{ hash := PyData.keyHash w.params (Str.ofString "_initial_size"), key := .str (Str.ofString "_initial_size") tk, val := .int 0 ti }] ne)
    = ([{ hash := PyData.keyHash w.params (Str.ofString "_initial_size"), key := .str (Str.ofString "_initial_size") tk, val := .int 0 t' }], ne) := rfl
theorem room_of {x d n j M : Nat} (h : d + n < M) (e : x = d + j) (hj : j ≤ n) : x < M := by omega
theorem room_eq {a b c : Nat} (e : a = b) (h : b ≤ c) : a ≤ c := e ▸ h
theorem room_eqk {a b c k : Nat} (e : a = b) (h : b + k ≤ c) : a + k ≤ c := e ▸ h
theorem room_of2 {x d n M : Nat} (h : d + n < M) (hj : x ≤ d + n) : x < M := by omega
theorem acc_makes (P : Params) : lmakesIn (hd.heap_1 P) 207 = true := by kernel_rfl
theorem acc_plain (P : Params) : lplain (hd.heap_1 P) 207 = true := by kernel_rfl
theorem acc_named (P : Params) : namedIn (hd.heap_1 P) 207 = true := by kernel_rfl
local macro_rules | `(tactic| k_in) => `(tactic| first | with_reducible assumption | exact Frag.In.keeps (by with_reducible assumption) (Fr.keep (by with_reducible assumption)))
local macro_rules | `(tactic| ktr_room) => `(tactic| (first
  | exact room_of (j := 0) (by assumption) rfl (by decide) | exact room_of (j := 1) (by assumption) rfl (by decide) | exact room_of (j := 2) (by assumption) rfl (by decide) | exact room_of (j := 3) (by assumption) rfl (by decide)
  | exact room_of (j := 4) (by assumption) rfl (by decide) | exact room_of (j := 5) (by assumption) rfl (by decide) | exact room_of (j := 6) (by assumption) rfl (by decide)
  | ((with_reducible refine room_of2 (by assumption) ?_); (simp only [depth_under_make, depth_under_kw, depth_in1, depth_deeper, depth_caller, units_in1, units_deeper, Around.mark_units, units_caller, ktrTop, Nat.add_assoc, Nat.reduceAdd, Nat.reduceMul, Nat.add_le_add_iff_left, Nat.reduceLeDiff]); (first | done | ((with_reducible refine room_eq ?e ?_); (case e => assumption); exact Nat.add_le_add_left (by decide) _) | ((with_reducible refine room_eqk ?e ?_); (case e => assumption); exact Nat.add_le_add_left (by decide) _)))))
local macro_rules | `(tactic| k_inst) => `(tactic| (refine' inst_acc ?N ?h1 ?h2; (case N => k_asm); (case h1 => k_mem); (case h2 => k_mem)))
local macro_rules | `(tactic| ktr_units) => `(tactic| ktr_room)
local macro_rules | `(tactic| k_units) => `(tactic| ktr_room)
theorem strOk_blk (p q c : Nat) (hc : c < 1114112) : PyData.strOk (blk p q c) = true := by
  unfold PyData.strOk blk
  simp only [List.all_toArray, List.all_eq_true, decide_eq_true_eq, List.mem_append, List.mem_replicate]
  rintro x (⟨_, rfl⟩ | ⟨_, rfl⟩) <;> omega
section
variable {prog : Program} {w : World} {A : Around} {E : Value → Shared → Prop} {s : Shared} {p : Nat} {t u : Tok} {value slice : PySem.Expr} {Q : Value → Shared → Prop}
theorem ne_pair {a b : Addr} {h₀ : Heap} {L : Addr} {news : List (Addr × Obj)} {q c : Nat} {x1 x2 x3 x4 : Tok} (N : News h₀ L s.heap news) (h1 : (a, pairO (blk p 0 0) x1 (blk 0 q c) x2) ∈ news) (h2 : (b, ({ cls := .type "tuple", data := .seq #[.str (Str.ofString " ") x3, .str (Str.ofString "") x4] } : Obj)) ∈ news)
    (hp : 2 ≤ p) (hc : c < 1114112) (hu : A.units + 64 < cLine) (h : Q (.bool true) s) : wpAny (model prog w) A (compareOp .NotEq (.ref a) (.ref b)) Q E s :=
  ne_dataH (da := .tuple [.str (blk p 0 0), .str (blk 0 q c)]) (db := .tuple [.str (Str.ofString " "), .str (Str.ofString "")]) (reads_tuple_at (N.get h1) rfl rfl (.cons (.str _ _) (.cons (.str _ _) .nil))) (reads_tuple_at (N.get h2) rfl rfl (.cons (.str _ _) (.cons (.str _ _) .nil))) (by
      have e1 := strOk_blk p 0 0 (by decide)
      have e2 := strOk_blk 0 q c hc
      simp [SeqAt.shaped, PyData.canLay0, PyData.depth, PyData.canLayAll0, PyData.depthAll, e1, e2]) (by decide +kernel) hu (by
    have e : (blk p 0 0 == Str.ofString " ") = false := by
      rw [Bool.eq_false_iff]
      intro e
      have e1 := congrArg Str.length (eq_of_beq e)
      rw [blk_len] at e1
      have e2 : (Str.ofString " ").length = 1 := by decide +kernel
      omega
    simp only [PyData.eqv, PyData.eqvAll, e, Bool.false_and, Bool.not_false]
    exact h)
theorem item_sp (hp : 1 ≤ p ∧ p ≤ 4000) (h : ∀ t' k, Q (.str (Str.ofString " ") t') { s with toks := k })
    (hs : subscripted slice false (.str (blk p 0 0) t) (.int 0 u) = operate [.str (blk p 0 0) t, .int 0 u] (getItem (.str (blk p 0 0) t) (.int 0 u)) := by with_unfolding_all rfl)
    (ht : ∀ r, letTemporaryGo value (.str (blk p 0 0) t) r = pure () := by intro _; with_unfolding_all rfl) :
    wpAny (model prog w) A (subscriptTail value slice (.str (blk p 0 0) t) (.int 0 u)) Q E s :=
  item_blk (by decide) (by omega) (by omega) (by
    have e : (if (0 : Int).toNat < p then 32 else 0) = 32 := if_pos (show (0 : Int).toNat < p by simp; omega)
    rw [e, ← blank_is]
    exact h _ _) hs ht
end
section
variable {prog : Program} {w : World} {A₀ A : Around} {s : Shared} {base h₀ : Heap} {outer : List Env} {env : Env} {L : Addr} {m : Str → Option Value} {news : List (Addr × Obj)} {K : Frag} {p : Program} {loose : List Str} {mean : ExcName → Option Value} {mg mb : Str → Option Value}
    {R : Result → Shared → Prop} {name qual : Str} {params : Arguments} {body : List Stmt} {scope : Scope} {dV kV doc pm cdv ct oc : Value} {an od : Option Addr} {osl : Array (Option Value)} {f : Addr} {args : Args} {binds : List (Str × Value)}
/-- a call that takes a part of the ledger along; the rest stands still -/
theorem enterP {rest : List (Addr × Obj)} (B : Below A₀ base outer h₀) (F : Fr h₀ L s.heap m) (X₀ : K.In h₀) (N : News h₀ L s.heap news) (NR : News h₀ L s.heap rest) (hdis : ∀ p ∈ rest, p.1 ∉ news.map (·.1)) (T : Top p loose mean mg mb h₀)
    (hA : A.frames = some (env :: outer)) (hf : env.frame = some L) (hke : env.scope.kind = .function)
    (ho : K.lookup f = some ⟨oc, od, .func (fnOf name qual params body scope dV kV doc pm an cdv ct), osl⟩) (hcd : codeIn K cdv qual = true) (hroom : A.depth < recursionLimit)
    (hbind : BindsTo s (fnOf name qual params body scope dV kV doc pm an cdv ct) args binds) (hloc : ∀ y ∈ binds, scope.names.lookup y.1 = some .local)
    (h : ∀ g L' h₁, Fr h₀ L g m → Fr g L' h₁ (fun y => binds.reverse.lookup y) → News g L' h₁ news → Below A base (env :: outer) g → K.In g → Top p loose mean mg mb g → (∀ q ∈ news, q.1 < L') → (∀ x ∈ rest, g.get? x.1 = some x.2) →
      wpAny (model prog w) (A.deeper (envOf qual scope L' f cdv)) (execs body (envOf qual scope L' f cdv))
        (fun fl s' => LeaveK h₀ L m g (fun r s' => News h₀ L s'.heap rest → R r s') (match fl with | .ret v => v | _ => .none) s')
        (fun e s' => wpAny (model prog w) (A.deeper (envOf qual scope L' f cdv)) (leaving (envOf qual scope L' f cdv) e) (fun _ s'' => R (.error e) s'') (fun e' s'' => R (.error e') s'') s')
        { s with heap := h₁, toks := s.toks + binds.length })
    (hco : scope.isCoroutine = false) (hgen : scope.isGenerator = false) (hk : scope.kind = .function)
    (hcell : ∀ x ∈ scope.names, x.2 ≠ .cell) : codeAny (model prog w) A (.call (.ref f) args) R s := by
  have X := X₀.keeps F.keep
  obtain ⟨FG, BG, st, back⟩ := groundX (R := R) B F N hA hf hke
  have stay : ∀ x ∈ rest, (hideAll s.heap (news.map (·.1))).get? x.1 = some x.2 := fun x hx => hideAll_get _ (NR x hx).1 (hdis x hx)
  refine codeAny_call_def (fd := fnOf name qual params body scope dV kV doc pm an cdv ct) hroom (X _ _ ho) rfl (T.nolimit.keeps F.keep) (codeRec_of X hcd) rfl hbind hcell hloc (fun h₁ ns keep => ?_) hco hgen hk
  refine wpAny_mono (h _ _ h₁ FG ⟨ns, fun b o e => keep b o (of_hideAll _ e), ?_⟩ (news_deep N keep rfl) BG (X₀.keeps st) (T.keeps st) (fun q hq => Heap.lt_size (N q hq).1) stay) (fun fl s' hl => ?_) fun _ _ y => y
  · rw [hideAll_size]; exact Nat.le_refl _
  obtain ⟨L', m', l, F', N', k⟩ := hl
  exact back _ _ ⟨L', m', l, F', N', fun F'' N'' => k F'' N'' fun q hq => ⟨F'.keep _ _ (stay q hq), (NR q hq).2⟩⟩
end
abbrev pageD (w : World) (k1 k2 k3 k4 k5 k6 tw u2 u3 u4 : Tok) (width : Int) (ll ax : Addr) (n : Nat) : Obj := dictOf [
  { hash := PyData.keyHash w.params (Str.ofString "_maxlen"), key := .str (Str.ofString "_maxlen") k1, val := .int width tw },
  { hash := PyData.keyHash w.params (Str.ofString "_continuation_ws"), key := .str (Str.ofString "_continuation_ws") k2, val := .str (Str.ofString " ") u2 },
  { hash := PyData.keyHash w.params (Str.ofString "_continuation_ws_len"), key := .str (Str.ofString "_continuation_ws_len") k3, val := .int 1 u3 },
  { hash := PyData.keyHash w.params (Str.ofString "_splitchars"), key := .str (Str.ofString "_splitchars") k4, val := .str (Str.ofString " ") u4 },
  { hash := PyData.keyHash w.params (Str.ofString "_lines"), key := .str (Str.ofString "_lines") k5, val := .ref ll },
  { hash := PyData.keyHash w.params (Str.ofString "_current_line"), key := .str (Str.ofString "_current_line") k6, val := .ref ax }] n
theorem len_fits {k : Nat} (h : k ≤ 8000) : (0 : Int) ≤ (k : Int) ∧ (k : Int) < 2 ^ 63 := by omega
noncomputable def AllIn : List (Addr × Obj) → List (Addr × Obj) → Prop
  | [], _ => True
  | x :: r, l => x ∈ l ∧ AllIn r l
theorem news_of {h₀ h : Heap} {L : Addr} {l rest : List (Addr × Obj)} (N : News h₀ L h l) (NR : News h₀ L h rest) : ∀ {l' : List (Addr × Obj)}, AllIn l' l → News h₀ L h (l' ++ rest)
  | [], _ => NR
  | _ :: _, H => fun p hp => by
    rcases List.mem_cons.mp hp with rfl | hp
    · exact N _ H.1
    · exact news_of N NR H.2 p hp
theorem news_in {h₀ h : Heap} {L : Addr} {l : List (Addr × Obj)} (N : News h₀ L h l) : ∀ {l' : List (Addr × Obj)}, AllIn l' l → News h₀ L h l'
  | [], _ => fun _ h => nomatch h
  | _ :: _, H => fun p hp => by
    rcases List.mem_cons.mp hp with rfl | hp
    · exact N _ H.1
    · exact news_in N H.2 p hp
theorem rest_ne {g h : Heap} {L ta : Addr} {o : Obj} {l rest : List (Addr × Obj)} (N : News g L h l) (hm : (ta, o) ∈ l) (hr : ∀ x ∈ rest, g.get? x.1 = some x.2) : ∀ x ∈ rest, x.1 ≠ ta := fun x hx e => by
  have h1 := hr x hx
  rw [e, (N _ hm).2.2] at h1
  cases h1
inductive Chain5 (t1 t2 dxo xo ll dxa ax : Nat) : Prop
  | mk (d1 : t1 < xo) (d2 : t1 < ll) (d3 : t1 < dxa) (d4 : t1 < ax) (d5 : t2 < xo) (d6 : t2 < ll) (d7 : t2 < dxa) (d8 : t2 < ax) (e1 : dxo < ll) (e2 : dxo < dxa) (e3 : dxo < ax) (e4 : xo < dxa) (e5 : xo < ax) (e6 : ll < ax) : Chain5 t1 t2 dxo xo ll dxa ax
theorem chain5 {t1 t2 dxo xo ll dxa ax : Nat} (b5 : t1 < dxo) (c1 : t2 < dxo) (b1 : dxo < xo) (b2 : xo < ll) (b3 : ll < dxa) (b4 : dxa < ax) : Chain5 t1 t2 dxo xo ll dxa ax :=
  have a := Nat.lt_trans b1 b2
  have b := Nat.lt_trans a b3
  have c := Nat.lt_trans b2 b3
  have d := Nat.lt_trans b b4
  .mk (Nat.lt_trans b5 b1) (Nat.lt_trans b5 a) (Nat.lt_trans b5 b) (Nat.lt_trans b5 d) (Nat.lt_trans c1 b1) (Nat.lt_trans c1 a) (Nat.lt_trans c1 b) (Nat.lt_trans c1 d) a b d c (Nat.lt_trans c b4) (Nat.lt_trans b3 b4)
inductive ChainT (t1 t2 dxo xo ll dxa ta : Nat) : Prop
  | mk (f1 : t1 < ta) (f2 : t2 < ta) (f3 : dxo < ta) (f4 : xo < ta) (f5 : ll < ta) (f6 : dxa < ta) : ChainT t1 t2 dxo xo ll dxa ta
theorem chain_ta {t1 t2 dxo xo ll dxa ax ta : Nat} (d4 : t1 < ax) (d8 : t2 < ax) (e3 : dxo < ax) (e5 : xo < ax) (e6 : ll < ax) (b4 : dxa < ax) (b6 : ax < ta) : ChainT t1 t2 dxo xo ll dxa ta :=
  .mk (Nat.lt_trans d4 b6) (Nat.lt_trans d8 b6) (Nat.lt_trans e3 b6) (Nat.lt_trans e5 b6) (Nat.lt_trans e6 b6) (Nat.lt_trans b4 b6)
inductive ChunkF (p q : Nat) : Prop
  | mk (hz : p ≤ 4000 ∧ q ≤ 4000) (hz8 : p + q ≤ 8000) (hz1 : p + 0 ≤ 4000) (hz2 : 0 < p + 0) (hz3 : 0 + q ≤ 4000) (hz4 : 0 < 0 + q) (hz5 : 1 ≤ p ∧ p ≤ 4000) (hne : ((p + q : Nat) : Int) ≠ 0) : ChunkF p q
theorem chunk_facts {p q : Nat} (hp : 3 ≤ p ∧ p ≤ 50) (hq : 3 ≤ q ∧ q ≤ 50) : ChunkF p q := by
  obtain ⟨h1, h2⟩ := hp
  obtain ⟨h3, h4⟩ := hq
  have h5 : p ≤ 4000 := Nat.le_trans h2 (by decide)
  have h6 : q ≤ 4000 := Nat.le_trans h4 (by decide)
  have h7 : 0 < p := Nat.lt_of_lt_of_le (by decide) h1
  exact .mk ⟨h5, h6⟩ (Nat.add_le_add h5 h6) h5 h7 (by rw [Nat.zero_add]; exact h6) (by rw [Nat.zero_add]; exact Nat.lt_of_lt_of_le (by decide) h3) ⟨h7, h5⟩ fun e => Nat.ne_of_gt (Nat.lt_of_lt_of_le h7 (Nat.le_add_right p q)) (Int.ofNat.inj e)
theorem chunk_two {p q p' q' : Nat} {width : Int} (hp : 3 ≤ p ∧ p ≤ 50) (hq : 3 ≤ q ∧ q ≤ 50) (hp' : 3 ≤ p' ∧ p' ≤ 50) (hq' : 3 ≤ q' ∧ q' ≤ 50) (h1 : 11 ≤ p + q) (h2 : 11 ≤ p' + q') (hw : width ≤ 21) : p + q + (p' + q') ≤ 8000 ∧ ((p + q + (p' + q') : Nat) : Int) > width := by omega
--BEGIN CHUNK
inductive ChunkP (w : World) (ax dxa ll xo dxo : Addr) (k1 k2 k3 k4 k5 k6 tw u2 u3 u4 : Tok) (width : Int) (np : Nat) (rest : List (Addr × Obj)) (p q c : Nat) (lns : Tok → Array Value) : Value → List (Addr × Obj) → Prop
  | mk (ta : Addr) (y y1 y2 tk ti : Tok) (na ne nl : Nat) (pl1 pl2 : Array Value) (h1 : TriplesOk pl1.toList) (h2 : TriplesOk pl2.toList) (h3 : @LT.lt Nat _ ax ta) (h4 : ∀ x ∈ rest, x.1 ≠ ta) : ChunkP w ax dxa ll xo dxo k1 k2 k3 k4 k5 k6 tw u2 u3 u4 width np rest p q c lns .none ([(ta, pairO (blk p 0 0) y1 (blk 0 q c) y2), (ax, accO 207 dxa #[.ref ta] na), (dxa, iniD w tk ti ne), (ll, listOf (lns y) nl), (xo, instObj 123 dxo), (dxo, pageD w k1 k2 k3 k4 k5 k6 tw u2 u3 u4 width ll ax np), (169, tabObj pl1), (176, tabObj pl2)] ++ rest)
inductive PstrP (s : Str) (top rest : List (Addr × Obj)) : Value → List (Addr × Obj) → Prop
  | mk (t : Tok) (pl1 pl2 : Array Value) (h1 : TriplesOk pl1.toList) (h2 : TriplesOk pl2.toList) : PstrP s top rest (.str s t) ((top ++ [(169, tabObj pl1), (176, tabObj pl2)]) ++ rest)
theorem chunkA_ct {w : World} {ax dxa ll xo dxo : Addr} {k1 k2 k3 k4 k5 k6 tw u2 u3 u4 tk ti : Tok} {width : Int} {np na nl ne : Nat} {pl1 pl2 : Array Value} {rest : List (Addr × Obj)} (b5 : @LT.lt Nat _ 176 dxo) (b1 : @LT.lt Nat _ dxo xo) (b2 : @LT.lt Nat _ xo ll) (b3 : @LT.lt Nat _ ll dxa) (b4 : @LT.lt Nat _ dxa ax) (ht1 : TriplesOk pl1.toList) (ht2 : TriplesOk pl2.toList) {p q c : Nat} {y1 y2 : Tok} (hp : 3 ≤ p ∧ p ≤ 50) (hq : 3 ≤ q ∧ q ≤ 50)
    (hdis : ∀ x ∈ rest, x.1 ∉ ([(ax, accO 207 dxa #[] na), (dxa, iniD w tk ti ne), (ll, listOf #[] nl), (xo, instObj 123 dxo), (dxo, pageD w k1 k2 k3 k4 k5 k6 tw u2 u3 u4 width ll ax np), (169, tabObj pl1), (176, tabObj pl2)] : List (Addr × Obj)).map (·.1)) :
    CtG w 10 120 [.ref xo, .str (blk p 0 0) y1, .str (blk 0 q c) y2] ([(ax, accO 207 dxa #[] na), (dxa, iniD w tk ti ne), (ll, listOf #[] nl), (xo, instObj 123 dxo), (dxo, pageD w k1 k2 k3 k4 k5 k6 tw u2 u3 u4 width ll ax np), (169, tabObj pl1), (176, tabObj pl2)] ++ rest)
      (ChunkP w ax dxa ll xo dxo k1 k2 k3 k4 k5 k6 tw u2 u3 u4 width np rest p q c fun _ => #[]) := by
  refine ChunkF.casesOn (chunk_facts hp hq) ?_
  intro hz hz8 hz1 hz2 hz3 hz4 hz5 hne
  have cc1 : @LT.lt Nat _ 169 dxo := Nat.lt_trans (show 169 < 176 by decide) b5
  refine Chain5.casesOn (chain5 b5 cc1 b1 b2 b3 b4) ?_
  intro dd1 dd2 dd3 dd4 dd5 dd6 dd7 dd8 ee1 ee2 ee3 ee4 ee5 ee6
  unfold CtG
  intro p₉ lo₉ mean mg mb dp un gd cn cs a ccd cl outer A₀ base h₀ L m hp9 gs9 dr9 tk9 os9 Q E B F X N T hk hd hu GB hret
  refine wpAny_call ?_
  have N6 : News h₀ L hp9 [(ax, accO 207 dxa #[] na), (dxa, iniD w tk ti ne), (ll, listOf #[] nl), (xo, instObj 123 dxo), (dxo, pageD w k1 k2 k3 k4 k5 k6 tw u2 u3 u4 width ll ax np), (169, tabObj pl1), (176, tabObj pl2)] := fun q hq => N q (List.mem_append_left _ hq)
  have NR : News h₀ L hp9 rest := fun q hq => N q (List.mem_append_right _ hq)
  replace hdis := Kept.mk hdis
  k_dflt (refine' enterP B F X N6 NR hdis.v T ?kA ?kF ?kK ?k6 ?k7 ?k8 ?k9 ?kB ?_ ?c2 ?c3 ?c4 ?c5; (case kA => exact rfl); (case kF => exact rfl); (case kK => assumption); (case k6 => k_is); (case k7 => k_is); (case k8 => ktr_room); (case k9 => exact BindsTo.of_eq rfl); (case c5 => decide); (case kB => exact locs rfl); (case c2 => exact rfl); (case c3 => exact rfl); (case c4 => exact rfl); k_whole; intro g' L' h' FG' F' N' B' X' T' l1 hrs; (try k_lt l1); (try dsimp only); (try k_lift B'); (try k_fold))
  let oP : Obj := pageD w k1 k2 k3 k4 k5 k6 tw u2 u3 u4 width ll ax np
  let oI : Obj := iniD w tk ti ne
  let oX : Obj := instObj 123 dxo
  replace N' : News g' L' h' [(ax, accO 207 dxa #[] na), (dxa, oI), (ll, listOf #[] nl), (xo, oX), (dxo, oP), (169, tabObj pl1), (176, tabObj pl2)] := N'
  refine set_e ?_
  intro e9 A9
  have qd9 : A9.depth = dp + 1 := rfl
  have qu9 : A9.units = un + 3 := rfl
  clear hp hq
  by_cases hlen : ((p + q : Nat) : Int) > width
  · skip
    repeat' ((fail_if_success (with_reducible show wpAny _ _ (exec (.For _ _ _ _ _) _) _ _ _)); first | (((with_reducible show wpAny _ _ (call (Value.ref 174) _) _ _ _); k_dflt ((refine' CtG.use (len1_ct ?hm ?hdm ?hU ?ht ?hT ?hz) ?B ?F ?X ?N ?T rfl ?hd ?hu ?GB ?_; (case F => k_asm); (case N => k_asm); (case B => k_asm); (case X => k_asm); (case T => k_asm); (case hm => k_mem); (case hdm => k_mem); (case hU => k_updF); (case ht => first | assumption | trivial); (case hT => k_mem); (case hz => assumption); (case hd => ktr_room); (case hu => ktr_units); (case GB => assumption))); intro r' nx' h' tk' gs' hp'; (with_reducible refine TabV.casesOn hp' ?_); clear hp'; intro pl' t' ht' F' N' G'; (try dsimp only at N'); (try dsimp only [PySem.W.LenBack]); (try (refine ⟨len_fits (by assumption), ?_⟩)))) | (((with_reducible show wpAny _ _ (call (Value.builtin "list.append") [Value.ref _, _]) _ _ _); k_dflt (first | ((with_reducible refine' lappend0 ?k1 ?kx ?k2 ?ki ?kl ?ku ?_); (case k1 => k_asm); (case kx => k_asm); (case k2 => k_asm); (case ki => k_inst); (case kl => k_is); (case ku => k_upd); k_whole; intro h' F' N') | ((with_reducible refine' lappend1 ?k1 ?kx ?k2 ?ki ?kl ?ku ?_); (case k1 => k_asm); (case kx => k_asm); (case k2 => k_asm); (case ki => k_inst); (case kl => k_is); (case ku => k_upd); k_whole; intro h' F' N')))) | (((with_reducible show wpAny _ _ (getMethod (Value.ref _) _ _) _ _ _); k_dflt ((with_reducible refine' lmethod ?k1 ?k2 ?k3 ?kd ?k4 ?k5 ?k6 ?k7 ?k8 ?k9 ?_); (case k1 => k_asm); (case k2 => k_asm); (case k3 => k_inst); (case kd => exact rfl); (case k4 => k_is); (case k5 => k_is); (case k6 => k_is); (case k7 => k_is); (case k8 => first | exact .inl rfl | exact .inr rfl); (case k9 => rfl); k_whole))) | ((with_reducible show wpAny _ _ (execs (_ :: _) _) _ _ _); (with_reducible refine set_f (by assumption) ?_); intro mC FC QC EC tC; walk1) | (k_unfold; (try dsimp only)) | walk1)
    k_dflt (refine For_else ?_ (by intro _; with_unfolding_all rfl))
    repeat' ((fail_if_success (with_reducible show wpAny _ _ (pyIter _) _ _ _)); walk1)
    rename Fr _ _ _ _ => F4
    rename News _ _ _ _ => N4
    refine Sign_once rfl F4 N4 rfl rfl ?_ (by passes_own)
    intro t' h' tk' I' o' hI' F5 N5
    have hI2 := hI'
    (try k_lt hI2)
    repeat' ((fail_if_success (with_reducible show wpAny _ _ (exec (.For _ _ _ _ _) _) _ _ _)); ((with_reducible show wpAny _ _ (execs (_ :: _) _) _ _ _); (with_reducible refine set_f (by assumption) ?_); intro mC FC QC EC tC; walk1))
    k_dflt (refine For_else ?_ (by intro _; with_unfolding_all rfl))
    repeat' ((fail_if_success (with_reducible show wpAny _ _ (pyIter _) _ _ _)); first | (((with_reducible show _root_.PySem.wpAt _ _ _ _ _ _ _); first | ((with_reducible refine ks_wpAt_MethodCall ?_ (by with_unfolding_all exact rfl))) | ((with_reducible refine ks_wpAt_Expr_any ?_ (by with_unfolding_all exact rfl) (by k_dflt kernel_rfl))) | (dsimp only; (with_reducible refine ks_wpAt_execs_cons ?_)))) | (((with_reducible show wpAny _ _ (callWith _ (Value.ref _) _ (backTo _ (starEach [] _)) []) _ _ _); k_dflt (first | ((with_reducible refine' lcallWith0 (bt := "builtin_function_or_method") ?k1 ?k2 (.inl rfl) ?_); (case k1 => k_asm); (case k2 => k_mem); k_whole) | ((with_reducible refine' lcallWith0 (bt := "method-wrapper") ?k1 ?k2 (.inr rfl) ?_); (case k1 => k_asm); (case k2 => k_mem); k_whole)))) | (((with_reducible show wpAny _ _ (call (Value.ref _) []) _ _ _); k_dflt (first | ((with_reducible refine' linit ?k1 ?k2 ?k3 ?k4 ?_); (case k1 => k_asm); (case k2 => k_asm); (case k3 => k_mem); (case k4 => k_upd); k_whole; intro h' F' N') | ((with_reducible refine' llen_one ?k2 ?k3 ?k4 ?_); (case k2 => k_asm); (case k3 => k_mem); (case k4 => k_mem); k_whole; intro t' k') | ((with_reducible refine' llen_two ?k2 ?k3 ?k4 ?_); (case k2 => k_asm); (case k3 => k_mem); (case k4 => k_mem); k_whole; intro t' k') | ((with_reducible refine' lpop ?k1 ?kx ?k2 ?ki ?km ?kc ?kt ?k3 ?k4 ?_); (case k1 => k_asm); (case kx => k_asm); (case k2 => k_asm); (case ki => k_inst); (case km => k_is); (case kc => exact acc_named _); (case kt => k_is); (case k3 => k_mem); (case k4 => k_upd); k_whole; intro h' F' N')))) | (((with_reducible show wpAny _ _ (getMethod (Value.ref _) _ _) _ _ _); k_dflt (first | ((with_reducible show wpAny _ _ (getMethod (Value.ref _) (PySem.Str.ofString "pop") _) _ _ _); (with_reducible refine' lsuper_method bound_pop ?k9 ?k1 ?k2 ?k3 ?k4 ?k5 ?k6 ?k7 ?_); (case k1 => k_asm); (case k2 => k_asm); (case k3 => k_asm); (case k4 => k_mem); (case k5 => k_inst); (case k6 => k_is); (case k7 => exact acc_plain _); (case k9 => decide); intro q' h' F' N' l1; (try k_lt l1)) | ((with_reducible show wpAny _ _ (getMethod (Value.ref _) (PySem.Str.ofString "__len__") _) _ _ _); (with_reducible refine' lsuper_method bound_len ?k9 ?k1 ?k2 ?k3 ?k4 ?k5 ?k6 ?k7 ?_); (case k1 => k_asm); (case k2 => k_asm); (case k3 => k_asm); (case k4 => k_mem); (case k5 => k_inst); (case k6 => k_is); (case k7 => exact acc_plain _); (case k9 => decide); intro q' h' F' N' l1; (try k_lt l1)) | ((with_reducible show wpAny _ _ (getMethod (Value.ref _) (PySem.Str.ofString "__init__") _) _ _ _); (with_reducible refine' lsuper_method bound_init ?k9 ?k1 ?k2 ?k3 ?k4 ?k5 ?k6 ?k7 ?_); (case k1 => k_asm); (case k2 => k_asm); (case k3 => k_asm); (case k4 => k_mem); (case k5 => k_inst); (case k6 => k_is); (case k7 => exact acc_plain _); (case k9 => decide); intro q' h' F' N' l1; (try k_lt l1))))) | (((with_reducible show wpAny _ _ (getMethod (Value.ref _) _ _) _ _ _); k_dflt ((with_reducible refine' lmethod ?k1 ?k2 ?k3 ?kd ?k4 ?k5 ?k6 ?k7 ?k8 ?k9 ?_); (case k1 => k_asm); (case k2 => k_asm); (case k3 => k_inst); (case kd => exact rfl); (case k4 => k_is); (case k5 => k_is); (case k6 => k_is); (case k7 => k_is); (case k8 => first | exact .inl rfl | exact .inr rfl); (case k9 => rfl); k_whole))) | walk1)
    rename IsRange _ _ _ _ _ _ _ _ => hR
    rename Fr _ _ _ _ => F6
    rename News _ _ _ _ => N6
    have hR0 : IsRange _ _ 0 0 (-1) _ _ _ := hR
    refine Range_none rfl F6 N6 hR0 rfl rfl ?_ (by passes_own)
    intro h7 tk7 F7 N7
    clear hR hR0 N4
    dsimp only
    repeat' (first | ((with_reducible show wpAny _ _ (execs (_ :: _) _) _ _ _); (with_reducible refine set_f (by assumption) ?_); intro mC FC QC EC tC; walk1) | walk1)
    refine ⟨_, _, _, _, _, rfl, F7, N7, fun p hp => .tail _ (.tail _ (.tail _ hp)), .tail _ (.tail _ (.head _)), fun q hq => Nat.ne_of_lt (hI' q hq), fun h8 tk8 F8 N8 => ?_⟩
    clear F7 N7 N5 hI'
    dsimp only
    repeat' (first | (((with_reducible show _root_.PySem.wpAt _ _ _ _ _ _ _); first | ((with_reducible refine ks_wpAt_MethodCall ?_ (by with_unfolding_all exact rfl))) | ((with_reducible refine ks_wpAt_Expr_any ?_ (by with_unfolding_all exact rfl) (by k_dflt kernel_rfl))) | (dsimp only; (with_reducible refine ks_wpAt_execs_cons ?_)))) | (((with_reducible show wpAny _ _ (callWith _ (Value.ref _) _ (backTo _ (starEach [] _)) []) _ _ _); k_dflt (first | ((with_reducible refine' lcallWith0 (bt := "builtin_function_or_method") ?k1 ?k2 (.inl rfl) ?_); (case k1 => k_asm); (case k2 => k_mem); k_whole) | ((with_reducible refine' lcallWith0 (bt := "method-wrapper") ?k1 ?k2 (.inr rfl) ?_); (case k1 => k_asm); (case k2 => k_mem); k_whole)))) | (((with_reducible show wpAny _ _ (call (Value.builtin "list.append") [Value.ref _, _]) _ _ _); k_dflt (first | ((with_reducible refine' lappend0 ?k1 ?kx ?k2 ?ki ?kl ?ku ?_); (case k1 => k_asm); (case kx => k_asm); (case k2 => k_asm); (case ki => k_inst); (case kl => k_is); (case ku => k_upd); k_whole; intro h' F' N') | ((with_reducible refine' lappend1 ?k1 ?kx ?k2 ?ki ?kl ?ku ?_); (case k1 => k_asm); (case kx => k_asm); (case k2 => k_asm); (case ki => k_inst); (case kl => k_is); (case ku => k_upd); k_whole; intro h' F' N')))) | (((with_reducible show wpAny _ _ (call (Value.ref _) []) _ _ _); k_dflt (first | ((with_reducible refine' linit ?k1 ?k2 ?k3 ?k4 ?_); (case k1 => k_asm); (case k2 => k_asm); (case k3 => k_mem); (case k4 => k_upd); k_whole; intro h' F' N') | ((with_reducible refine' llen_one ?k2 ?k3 ?k4 ?_); (case k2 => k_asm); (case k3 => k_mem); (case k4 => k_mem); k_whole; intro t' k') | ((with_reducible refine' llen_two ?k2 ?k3 ?k4 ?_); (case k2 => k_asm); (case k3 => k_mem); (case k4 => k_mem); k_whole; intro t' k') | ((with_reducible refine' lpop ?k1 ?kx ?k2 ?ki ?km ?kc ?kt ?k3 ?k4 ?_); (case k1 => k_asm); (case kx => k_asm); (case k2 => k_asm); (case ki => k_inst); (case km => k_is); (case kc => exact acc_named _); (case kt => k_is); (case k3 => k_mem); (case k4 => k_upd); k_whole; intro h' F' N')))) | (((with_reducible show wpAny _ _ (getMethod (Value.ref _) _ _) _ _ _); k_dflt (first | ((with_reducible show wpAny _ _ (getMethod (Value.ref _) (PySem.Str.ofString "pop") _) _ _ _); (with_reducible refine' lsuper_method bound_pop ?k9 ?k1 ?k2 ?k3 ?k4 ?k5 ?k6 ?k7 ?_); (case k1 => k_asm); (case k2 => k_asm); (case k3 => k_asm); (case k4 => k_mem); (case k5 => k_inst); (case k6 => k_is); (case k7 => exact acc_plain _); (case k9 => decide); intro q' h' F' N' l1; (try k_lt l1)) | ((with_reducible show wpAny _ _ (getMethod (Value.ref _) (PySem.Str.ofString "__len__") _) _ _ _); (with_reducible refine' lsuper_method bound_len ?k9 ?k1 ?k2 ?k3 ?k4 ?k5 ?k6 ?k7 ?_); (case k1 => k_asm); (case k2 => k_asm); (case k3 => k_asm); (case k4 => k_mem); (case k5 => k_inst); (case k6 => k_is); (case k7 => exact acc_plain _); (case k9 => decide); intro q' h' F' N' l1; (try k_lt l1)) | ((with_reducible show wpAny _ _ (getMethod (Value.ref _) (PySem.Str.ofString "__init__") _) _ _ _); (with_reducible refine' lsuper_method bound_init ?k9 ?k1 ?k2 ?k3 ?k4 ?k5 ?k6 ?k7 ?_); (case k1 => k_asm); (case k2 => k_asm); (case k3 => k_asm); (case k4 => k_mem); (case k5 => k_inst); (case k6 => k_is); (case k7 => exact acc_plain _); (case k9 => decide); intro q' h' F' N' l1; (try k_lt l1))))) | (((with_reducible show wpAny _ _ (getMethod (Value.ref _) _ _) _ _ _); k_dflt ((with_reducible refine' lmethod ?k1 ?k2 ?k3 ?kd ?k4 ?k5 ?k6 ?k7 ?k8 ?k9 ?_); (case k1 => k_asm); (case k2 => k_asm); (case k3 => k_inst); (case kd => exact rfl); (case k4 => k_is); (case k5 => k_is); (case k6 => k_is); (case k7 => k_is); (case k8 => first | exact .inl rfl | exact .inr rfl); (case k9 => rfl); k_whole))) | (((with_reducible show wpAny _ _ (getAttr (Value.ref _) _ _) _ _ _); k_dflt ((with_reducible refine' lget_own ?k1 ?k2 ?k3 ?kl ?ka ?kb ?k5 ?k6 ?k7 ?k8 ?k9 ?_); (case k1 => k_asm); (case k2 => k_asm); (case k3 => k_inst); (case kl => k_is); (case ka => k_is); (case kb => k_is); (case k5 => k_is); (case k6 => k_is); (case k7 => k_is); (case k8 => k_get); (case k9 => k_handed); k_whole))) | ((with_reducible show wpAny _ _ (execs (_ :: _) _) _ _ _); (with_reducible refine set_f (by assumption) ?_); intro mC FC QC EC tC; walk1) | (k_unfold; (try dsimp only)) | walk1)
    rename News h₀ L _ rest => NR9
    rename News h₀ L _ (_ :: _) => N9
    rename News g' L' _ (_ :: _) => Ng
    exact hret _ _ _ _ _ (by k_asm) (news_of N9 NR9 (by exact ⟨(by repeat (first | exact List.Mem.head _ | refine List.Mem.tail _ ?_)), (by repeat (first | exact List.Mem.head _ | refine List.Mem.tail _ ?_)), (by repeat (first | exact List.Mem.head _ | refine List.Mem.tail _ ?_)), (by repeat (first | exact List.Mem.head _ | refine List.Mem.tail _ ?_)), (by repeat (first | exact List.Mem.head _ | refine List.Mem.tail _ ?_)), (by repeat (first | exact List.Mem.head _ | refine List.Mem.tail _ ?_)), (by repeat (first | exact List.Mem.head _ | refine List.Mem.tail _ ?_)), (by repeat (first | exact List.Mem.head _ | refine List.Mem.tail _ ?_)), trivial⟩)) (by assumption) (.mk _ y1 _ _ _ _ _ _ _ _ _ (by assumption) (by assumption) (by first | assumption | exact And.left (by with_reducible assumption) | exact And.left (And.right (by with_reducible assumption)) | exact And.left (And.right (And.right (by with_reducible assumption))) | exact And.left (And.right (And.right (And.right (by with_reducible assumption)))) | exact And.left (And.right (And.right (And.right (And.right (by with_reducible assumption))))) | exact And.left (And.right (And.right (And.right (And.right (And.right (by with_reducible assumption)))))) | exact And.left (And.right (And.right (And.right (And.right (And.right (And.right (by with_reducible assumption))))))) | exact And.left (And.right (And.right (And.right (And.right (And.right (And.right (And.right (by with_reducible assumption)))))))) | exact And.left (And.right (And.right (And.right (And.right (And.right (And.right (And.right (And.right (by with_reducible assumption))))))))) | exact And.left (And.right (And.right (And.right (And.right (And.right (And.right (And.right (And.right (And.right (by with_reducible assumption)))))))))) | exact And.left (And.right (And.right (And.right (And.right (And.right (And.right (And.right (And.right (And.right (And.right (by with_reducible assumption))))))))))) | exact And.left (And.right (And.right (And.right (And.right (And.right (And.right (And.right (And.right (And.right (And.right (And.right (by with_reducible assumption))))))))))))) (rest_ne Ng (by repeat (first | exact List.Mem.head _ | refine List.Mem.tail _ ?_)) hrs))
  · skip
    repeat' (first | (((with_reducible show wpAny _ _ (call (Value.ref 174) _) _ _ _); k_dflt ((refine' CtG.use (len1_ct ?hm ?hdm ?hU ?ht ?hT ?hz) ?B ?F ?X ?N ?T rfl ?hd ?hu ?GB ?_; (case F => k_asm); (case N => k_asm); (case B => k_asm); (case X => k_asm); (case T => k_asm); (case hm => k_mem); (case hdm => k_mem); (case hU => k_updF); (case ht => first | assumption | trivial); (case hT => k_mem); (case hz => assumption); (case hd => ktr_room); (case hu => ktr_units); (case GB => assumption))); intro r' nx' h' tk' gs' hp'; (with_reducible refine TabV.casesOn hp' ?_); clear hp'; intro pl' t' ht' F' N' G'; (try dsimp only at N'); (try dsimp only [PySem.W.LenBack]); (try (refine ⟨len_fits (by assumption), ?_⟩)))) | (((with_reducible show wpAny _ _ (call (Value.builtin "list.append") [Value.ref _, _]) _ _ _); k_dflt (first | ((with_reducible refine' lappend0 ?k1 ?kx ?k2 ?ki ?kl ?ku ?_); (case k1 => k_asm); (case kx => k_asm); (case k2 => k_asm); (case ki => k_inst); (case kl => k_is); (case ku => k_upd); k_whole; intro h' F' N') | ((with_reducible refine' lappend1 ?k1 ?kx ?k2 ?ki ?kl ?ku ?_); (case k1 => k_asm); (case kx => k_asm); (case k2 => k_asm); (case ki => k_inst); (case kl => k_is); (case ku => k_upd); k_whole; intro h' F' N')))) | (((with_reducible show wpAny _ _ (getMethod (Value.ref _) _ _) _ _ _); k_dflt ((with_reducible refine' lmethod ?k1 ?k2 ?k3 ?kd ?k4 ?k5 ?k6 ?k7 ?k8 ?k9 ?_); (case k1 => k_asm); (case k2 => k_asm); (case k3 => k_inst); (case kd => exact rfl); (case k4 => k_is); (case k5 => k_is); (case k6 => k_is); (case k7 => k_is); (case k8 => first | exact .inl rfl | exact .inr rfl); (case k9 => rfl); k_whole))) | ((with_reducible show wpAny _ _ (execs (_ :: _) _) _ _ _); (with_reducible refine set_f (by assumption) ?_); intro mC FC QC EC tC; walk1) | (k_unfold; (try dsimp only)) | walk1)
    rename News h₀ L _ rest => NR9
    rename News h₀ L _ (_ :: _) => N9
    rename News g' L' _ (_ :: _) => Ng
    exact hret _ _ _ _ _ (by k_asm) (news_of N9 NR9 (by exact ⟨(by repeat (first | exact List.Mem.head _ | refine List.Mem.tail _ ?_)), (by repeat (first | exact List.Mem.head _ | refine List.Mem.tail _ ?_)), (by repeat (first | exact List.Mem.head _ | refine List.Mem.tail _ ?_)), (by repeat (first | exact List.Mem.head _ | refine List.Mem.tail _ ?_)), (by repeat (first | exact List.Mem.head _ | refine List.Mem.tail _ ?_)), (by repeat (first | exact List.Mem.head _ | refine List.Mem.tail _ ?_)), (by repeat (first | exact List.Mem.head _ | refine List.Mem.tail _ ?_)), (by repeat (first | exact List.Mem.head _ | refine List.Mem.tail _ ?_)), trivial⟩)) (by assumption) (.mk _ y1 _ _ _ _ _ _ _ _ _ (by assumption) (by assumption) (by first | assumption | exact And.left (by with_reducible assumption) | exact And.left (And.right (by with_reducible assumption)) | exact And.left (And.right (And.right (by with_reducible assumption))) | exact And.left (And.right (And.right (And.right (by with_reducible assumption)))) | exact And.left (And.right (And.right (And.right (And.right (by with_reducible assumption))))) | exact And.left (And.right (And.right (And.right (And.right (And.right (by with_reducible assumption)))))) | exact And.left (And.right (And.right (And.right (And.right (And.right (And.right (by with_reducible assumption))))))) | exact And.left (And.right (And.right (And.right (And.right (And.right (And.right (And.right (by with_reducible assumption)))))))) | exact And.left (And.right (And.right (And.right (And.right (And.right (And.right (And.right (And.right (by with_reducible assumption))))))))) | exact And.left (And.right (And.right (And.right (And.right (And.right (And.right (And.right (And.right (And.right (by with_reducible assumption)))))))))) | exact And.left (And.right (And.right (And.right (And.right (And.right (And.right (And.right (And.right (And.right (And.right (by with_reducible assumption))))))))))) | exact And.left (And.right (And.right (And.right (And.right (And.right (And.right (And.right (And.right (And.right (And.right (And.right (by with_reducible assumption))))))))))))) (rest_ne Ng (by repeat (first | exact List.Mem.head _ | refine List.Mem.tail _ ?_)) hrs))
theorem chunkB_ct {w : World} {ax dxa ll xo dxo : Addr} {k1 k2 k3 k4 k5 k6 tw u2 u3 u4 tk ti : Tok} {width : Int} {np na nl ne : Nat} {pl1 pl2 : Array Value} {rest : List (Addr × Obj)} (b5 : @LT.lt Nat _ 176 dxo) (b1 : @LT.lt Nat _ dxo xo) (b2 : @LT.lt Nat _ xo ll) (b3 : @LT.lt Nat _ ll dxa) (b4 : @LT.lt Nat _ dxa ax) (ht1 : TriplesOk pl1.toList) (ht2 : TriplesOk pl2.toList) {lns : Array Value} {ta : Addr} {p q c p' q' c' : Nat} {x1 x2 y1 y2 : Tok} (b6 : @LT.lt Nat _ ax ta) (hp : 3 ≤ p ∧ p ≤ 50) (hq : 3 ≤ q ∧ q ≤ 50) (hp' : 3 ≤ p' ∧ p' ≤ 50) (hq' : 3 ≤ q' ∧ q' ≤ 50) (h1 : 11 ≤ p + q) (h2 : 11 ≤ p' + q') (hw : width ≤ 21) (hlz : lns.size ≤ sizeLine)
    (hdis : ∀ x ∈ rest, x.1 ∉ ([(ta, pairO (blk p 0 0) x1 (blk 0 q c) x2), (ax, accO 207 dxa #[.ref ta] na), (dxa, iniD w tk ti ne), (ll, listOf lns nl), (xo, instObj 123 dxo), (dxo, pageD w k1 k2 k3 k4 k5 k6 tw u2 u3 u4 width ll ax np), (169, tabObj pl1), (176, tabObj pl2)] : List (Addr × Obj)).map (·.1)) :
    CtG w 10 120 [.ref xo, .str (blk p' 0 0) y1, .str (blk 0 q' c') y2] ([(ta, pairO (blk p 0 0) x1 (blk 0 q c) x2), (ax, accO 207 dxa #[.ref ta] na), (dxa, iniD w tk ti ne), (ll, listOf lns nl), (xo, instObj 123 dxo), (dxo, pageD w k1 k2 k3 k4 k5 k6 tw u2 u3 u4 width ll ax np), (169, tabObj pl1), (176, tabObj pl2)] ++ rest)
      (ChunkP w ax dxa ll xo dxo k1 k2 k3 k4 k5 k6 tw u2 u3 u4 width np rest p' q' c' fun y => lns.push (.str (blk p q c) y)) := by
  refine ChunkF.casesOn (chunk_facts hp hq) ?_
  intro hz hz8 hz1 hz2 hz3 hz4 hz5 hne
  refine ChunkF.casesOn (chunk_facts hp' hq') ?_
  intro gz gz8 gz1 gz2 gz3 gz4 gz5 gne
  have hz9 := (chunk_two hp hq hp' hq' h1 h2 hw).1
  have hlen := (chunk_two hp hq hp' hq' h1 h2 hw).2
  have cc1 : @LT.lt Nat _ 169 dxo := Nat.lt_trans (show 169 < 176 by decide) b5
  refine Chain5.casesOn (chain5 b5 cc1 b1 b2 b3 b4) ?_
  intro dd1 dd2 dd3 dd4 dd5 dd6 dd7 dd8 ee1 ee2 ee3 ee4 ee5 ee6
  refine ChainT.casesOn (chain_ta dd4 dd8 ee3 ee5 ee6 b4 b6) ?_
  intro f1 f2 f3 f4 f5 f6
  unfold CtG
  intro p₉ lo₉ mean mg mb dp un gd cn cs a ccd cl outer A₀ base h₀ L m hp9 gs9 dr9 tk9 os9 Q E B F X N T hk hd hu GB hret
  refine wpAny_call ?_
  have N6 : News h₀ L hp9 [(ta, pairO (blk p 0 0) x1 (blk 0 q c) x2), (ax, accO 207 dxa #[.ref ta] na), (dxa, iniD w tk ti ne), (ll, listOf lns nl), (xo, instObj 123 dxo), (dxo, pageD w k1 k2 k3 k4 k5 k6 tw u2 u3 u4 width ll ax np), (169, tabObj pl1), (176, tabObj pl2)] := fun q hq => N q (List.mem_append_left _ hq)
  have NR : News h₀ L hp9 rest := fun q hq => N q (List.mem_append_right _ hq)
  replace hdis := Kept.mk hdis
  k_dflt (refine' enterP B F X N6 NR hdis.v T ?kA ?kF ?kK ?k6 ?k7 ?k8 ?k9 ?kB ?_ ?c2 ?c3 ?c4 ?c5; (case kA => exact rfl); (case kF => exact rfl); (case kK => assumption); (case k6 => k_is); (case k7 => k_is); (case k8 => ktr_room); (case k9 => exact BindsTo.of_eq rfl); (case c5 => decide); (case kB => exact locs rfl); (case c2 => exact rfl); (case c3 => exact rfl); (case c4 => exact rfl); k_whole; intro g' L' h' FG' F' N' B' X' T' l1 hrs; (try k_lt l1); (try dsimp only); (try k_lift B'); (try k_fold))
  let oP : Obj := pageD w k1 k2 k3 k4 k5 k6 tw u2 u3 u4 width ll ax np
  let oI : Obj := iniD w tk ti ne
  let oX : Obj := instObj 123 dxo
  replace N' : News g' L' h' [(ta, pairO (blk p 0 0) x1 (blk 0 q c) x2), (ax, accO 207 dxa #[.ref ta] na), (dxa, oI), (ll, listOf lns nl), (xo, oX), (dxo, oP), (169, tabObj pl1), (176, tabObj pl2)] := N'
  refine set_e ?_
  intro e9 A9
  have qd9 : A9.depth = dp + 1 := rfl
  have qu9 : A9.units = un + 3 := rfl
  clear hp hq hp' hq' h1 h2 hw
  repeat' ((fail_if_success (with_reducible show wpAny _ _ (exec (.For _ _ _ _ _) _) _ _ _)); first | (((with_reducible show wpAny _ _ (call (Value.ref 174) _) _ _ _); k_dflt ((refine' CtG.use (len2_ct ?hm ?hdm ?hU ?ht ?hT ?hT' ?hz ?hz') ?B ?F ?X ?N ?T rfl ?hd ?hu ?GB ?_; (case F => k_asm); (case N => k_asm); (case B => k_asm); (case X => k_asm); (case T => k_asm); (case hm => k_mem); (case hdm => k_mem); (case hU => k_updF); (case ht => first | assumption | trivial); (case hT => k_mem); (case hz => assumption); (case hT' => k_mem); (case hz' => assumption); (case hd => ktr_room); (case hu => ktr_units); (case GB => assumption))); intro r' nx' h' tk' gs' hp'; (with_reducible refine TabV.casesOn hp' ?_); clear hp'; intro pl' t' ht' F' N' G'; (try dsimp only at N'); (try dsimp only [PySem.W.LenBack]); (try (refine ⟨len_fits (by assumption), ?_⟩)))) | (((with_reducible show wpAny _ _ (call (Value.builtin "list.append") [Value.ref _, _]) _ _ _); k_dflt (first | ((with_reducible refine' lappend0 ?k1 ?kx ?k2 ?ki ?kl ?ku ?_); (case k1 => k_asm); (case kx => k_asm); (case k2 => k_asm); (case ki => k_inst); (case kl => k_is); (case ku => k_upd); k_whole; intro h' F' N') | ((with_reducible refine' lappend1 ?k1 ?kx ?k2 ?ki ?kl ?ku ?_); (case k1 => k_asm); (case kx => k_asm); (case k2 => k_asm); (case ki => k_inst); (case kl => k_is); (case ku => k_upd); k_whole; intro h' F' N')))) | (((with_reducible show wpAny _ _ (getMethod (Value.ref _) _ _) _ _ _); k_dflt ((with_reducible refine' lmethod ?k1 ?k2 ?k3 ?kd ?k4 ?k5 ?k6 ?k7 ?k8 ?k9 ?_); (case k1 => k_asm); (case k2 => k_asm); (case k3 => k_inst); (case kd => exact rfl); (case k4 => k_is); (case k5 => k_is); (case k6 => k_is); (case k7 => k_is); (case k8 => first | exact .inl rfl | exact .inr rfl); (case k9 => rfl); k_whole))) | ((with_reducible show wpAny _ _ (execs (_ :: _) _) _ _ _); (with_reducible refine set_f (by assumption) ?_); intro mC FC QC EC tC; walk1) | (k_unfold; (try dsimp only)) | walk1)
  k_dflt (refine For_else ?_ (by intro _; with_unfolding_all rfl))
  repeat' ((fail_if_success (with_reducible show wpAny _ _ (pyIter _) _ _ _)); walk1)
  rename Fr _ _ _ _ => F4
  rename News _ _ _ _ => N4
  refine Sign_once rfl F4 N4 rfl rfl ?_ (by passes_own)
  intro t' h' tk' I' o' hI2 F5 N5
  (try k_lt hI2)
  repeat' ((fail_if_success (with_reducible show wpAny _ _ (exec (.For _ _ _ _ _) _) _ _ _)); ((with_reducible show wpAny _ _ (execs (_ :: _) _) _ _ _); (with_reducible refine set_f (by assumption) ?_); intro mC FC QC EC tC; walk1))
  k_dflt (refine For_else ?_ (by intro _; with_unfolding_all rfl))
  repeat' ((fail_if_success (with_reducible show wpAny _ _ (pyIter _) _ _ _)); first | (((with_reducible show _root_.PySem.wpAt _ _ _ _ _ _ _); first | ((with_reducible refine ks_wpAt_MethodCall ?_ (by with_unfolding_all exact rfl))) | ((with_reducible refine ks_wpAt_Expr_any ?_ (by with_unfolding_all exact rfl) (by k_dflt kernel_rfl))) | (dsimp only; (with_reducible refine ks_wpAt_execs_cons ?_)))) | (((with_reducible show wpAny _ _ (callWith _ (Value.ref _) _ (backTo _ (starEach [] _)) []) _ _ _); k_dflt (first | ((with_reducible refine' lcallWith0 (bt := "builtin_function_or_method") ?k1 ?k2 (.inl rfl) ?_); (case k1 => k_asm); (case k2 => k_mem); k_whole) | ((with_reducible refine' lcallWith0 (bt := "method-wrapper") ?k1 ?k2 (.inr rfl) ?_); (case k1 => k_asm); (case k2 => k_mem); k_whole)))) | (((with_reducible show wpAny _ _ (call (Value.ref _) []) _ _ _); k_dflt (first | ((with_reducible refine' linit ?k1 ?k2 ?k3 ?k4 ?_); (case k1 => k_asm); (case k2 => k_asm); (case k3 => k_mem); (case k4 => k_upd); k_whole; intro h' F' N') | ((with_reducible refine' llen_one ?k2 ?k3 ?k4 ?_); (case k2 => k_asm); (case k3 => k_mem); (case k4 => k_mem); k_whole; intro t' k') | ((with_reducible refine' llen_two ?k2 ?k3 ?k4 ?_); (case k2 => k_asm); (case k3 => k_mem); (case k4 => k_mem); k_whole; intro t' k') | ((with_reducible refine' lpop ?k1 ?kx ?k2 ?ki ?km ?kc ?kt ?k3 ?k4 ?_); (case k1 => k_asm); (case kx => k_asm); (case k2 => k_asm); (case ki => k_inst); (case km => k_is); (case kc => exact acc_named _); (case kt => k_is); (case k3 => k_mem); (case k4 => k_upd); k_whole; intro h' F' N')))) | (((with_reducible show wpAny _ _ (getMethod (Value.ref _) _ _) _ _ _); k_dflt (first | ((with_reducible show wpAny _ _ (getMethod (Value.ref _) (PySem.Str.ofString "pop") _) _ _ _); (with_reducible refine' lsuper_method bound_pop ?k9 ?k1 ?k2 ?k3 ?k4 ?k5 ?k6 ?k7 ?_); (case k1 => k_asm); (case k2 => k_asm); (case k3 => k_asm); (case k4 => k_mem); (case k5 => k_inst); (case k6 => k_is); (case k7 => exact acc_plain _); (case k9 => decide); intro q' h' F' N' l1; (try k_lt l1)) | ((with_reducible show wpAny _ _ (getMethod (Value.ref _) (PySem.Str.ofString "__len__") _) _ _ _); (with_reducible refine' lsuper_method bound_len ?k9 ?k1 ?k2 ?k3 ?k4 ?k5 ?k6 ?k7 ?_); (case k1 => k_asm); (case k2 => k_asm); (case k3 => k_asm); (case k4 => k_mem); (case k5 => k_inst); (case k6 => k_is); (case k7 => exact acc_plain _); (case k9 => decide); intro q' h' F' N' l1; (try k_lt l1)) | ((with_reducible show wpAny _ _ (getMethod (Value.ref _) (PySem.Str.ofString "__init__") _) _ _ _); (with_reducible refine' lsuper_method bound_init ?k9 ?k1 ?k2 ?k3 ?k4 ?k5 ?k6 ?k7 ?_); (case k1 => k_asm); (case k2 => k_asm); (case k3 => k_asm); (case k4 => k_mem); (case k5 => k_inst); (case k6 => k_is); (case k7 => exact acc_plain _); (case k9 => decide); intro q' h' F' N' l1; (try k_lt l1))))) | (((with_reducible show wpAny _ _ (getMethod (Value.ref _) _ _) _ _ _); k_dflt ((with_reducible refine' lmethod ?k1 ?k2 ?k3 ?kd ?k4 ?k5 ?k6 ?k7 ?k8 ?k9 ?_); (case k1 => k_asm); (case k2 => k_asm); (case k3 => k_inst); (case kd => exact rfl); (case k4 => k_is); (case k5 => k_is); (case k6 => k_is); (case k7 => k_is); (case k8 => first | exact .inl rfl | exact .inr rfl); (case k9 => rfl); k_whole))) | walk1)
  rename IsRange _ _ _ _ _ _ _ _ => hR
  rename Fr _ _ _ _ => F6
  rename News _ _ _ _ => N6
  have hR0 : IsRange _ _ 1 0 (-1) _ _ _ := hR
  refine Range_brk rfl F6 N6 hR0 rfl rfl ?_ (by passes_own)
  intro t7 h7 tk7 I7 o7 hI8 F7 N7
  (try k_lt hI8)
  clear hR hR0 N4 N5
  dsimp only
  repeat' (first | (((with_reducible show OnceS _ _ _ _ _ _ _ _ _ _ _ _ Flow.brk _); dsimp only [OnceS])) | (((with_reducible show wpAny _ _ (truthy (Value.str (blk _ _ _) _)) _ _ _); (with_reducible refine' truthy_blk_T ?kz ?k0 ?_); (case kz => assumption); (case k0 => assumption); (try dsimp only))) | (((with_reducible show wpAny _ _ (setItem (Value.ref _) (Value.ref _) (Value.ref _)) _ _ _); (with_reducible rename Fr _ _ _ _ => F'); (with_reducible rename News _ _ _ _ => N'); k_dflt (first | ((with_reducible refine' lw_cut (s := ⟨_, _, _, _, _⟩) F' ?kx N' ?ki ?kl ?ks ?kq ?kr ?ku ?_); (case kx => k_asm); (case ki => k_inst); (case kl => k_is); (case ks => k_is); (case kq => k_is); (case kr => k_mem); (case ku => k_upd); k_whole; intro h' F' N') | ((with_reducible refine' lw_all1 (s := ⟨_, _, _, _, _⟩) F' ?kx N' ?ki ?kl ?ks ?kq ?kr ?ku ?_); (case kx => k_asm); (case ki => k_inst); (case kl => k_is); (case ks => k_is); (case kq => k_is); (case kr => k_mem); (case ku => k_upd); k_whole; intro h' F' N') | ((with_reducible refine' lw_all0 (s := ⟨_, _, _, _, _⟩) F' ?kx N' ?ki ?kl ?ks ?kq ?kr ?ku ?_); (case kx => k_asm); (case ki => k_inst); (case kl => k_is); (case ks => k_is); (case kq => k_is); (case kr => k_mem); (case ku => k_upd); k_whole; intro h' F' N')))) | (((with_reducible show wpAny _ _ (subscriptTail _ (Expr.Slice _ _ _ _) (Value.ref _) (Value.ref _)) _ _ _); (with_reducible rename Fr _ _ _ _ => F'); (with_reducible rename News _ _ _ _ => N'); k_dflt ((with_reducible refine' lw_slice (s := ⟨_, _, _, _, _⟩) F' ?kx N' ?ki ?kl ?ks ?kq ?_ ?kh); (case kx => k_asm); (case ki => k_inst); (case kl => k_is); (case ks => k_is); (case kq => k_is); (case kh => with_unfolding_all rfl); k_whole; intro D' h' F' N' l1; (try k_lt l1)))) | (((with_reducible show wpAny _ _ (subscriptTail _ _ (Value.ref _) (Value.int 1 _)) _ _ _); k_dflt ((with_reducible refine' lw_get ?k1 ?kx ?k2 ?ki ?kl ?ks ?kq ?_ ?kh); (case k1 => k_asm); (case kx => k_asm); (case k2 => k_asm); (case ki => k_inst); (case kl => k_is); (case ks => k_is); (case kq => k_is); (case kh => with_unfolding_all rfl); k_whole))) | (((with_reducible show wpAny _ _ (call (Value.ref 181) _) _ _ _); k_dflt ((refine' CtG.use (str1_ct ?hm ?hdm ?hU ?ht ?hT ?hz) ?B ?F ?X ?N ?T rfl ?hd ?hu ?GB ?_; (case F => k_asm); (case N => k_asm); (case B => k_asm); (case X => k_asm); (case T => k_asm); (case hm => k_mem); (case hdm => k_mem); (case hU => k_updF); (case ht => first | assumption | trivial); (case hT => k_mem); (case hz => assumption); (case hd => ktr_room); (case hu => ktr_units); (case GB => assumption))); intro r' nx' h' tk' gs' hp'; (with_reducible refine TabV.casesOn hp' ?_); clear hp'; intro pl' t' ht' F' N' G'; (try dsimp only at N'); (try dsimp only [PySem.W.StrBack]))) | (((with_reducible show wpAny _ _ (subscriptTail _ _ (Value.str (blk _ 0 0) _) (Value.int 0 _)) _ _ _); k_dflt ((with_reducible refine' item_sp ?kz ?_ (by with_unfolding_all rfl) (by k_dflt (intro _); with_unfolding_all rfl)); (case kz => assumption); intro t' k'); (try dsimp only))) | (((with_reducible show wpAny _ _ (call (Value.type "str") [Value.ref _]) _ _ _); k_dflt ((with_reducible refine' kso_call ?k1 ?k2 ?k3 ?k4 ?k5 ?_); (case k1 => ktr_units); (case k2 => k_in); (case k3 => k_inst); (case k4 => k_is); (case k5 => k_is); k_whole))) | (((with_reducible show wpAny _ _ (getMethod (Value.ref _) _ _) _ _ _); k_dflt ((with_reducible refine' lmethod ?k1 ?k2 ?k3 ?kd ?k4 ?k5 ?k6 ?k7 ?k8 ?k9 ?_); (case k1 => k_asm); (case k2 => k_asm); (case k3 => k_inst); (case kd => exact rfl); (case k4 => k_is); (case k5 => k_is); (case k6 => k_is); (case k7 => k_is); (case k8 => first | exact .inl rfl | exact .inr rfl); (case k9 => rfl); k_whole))) | (((with_reducible show wpAny _ _ (setAttr (Value.ref _) _ _) _ _ _); (try dsimp only); k_dflt ((with_reducible refine' lset_dict ?k1 ?k2 ?k3 ?k4 ?k5 ?k6 ?k7 ?k8 ?k9 ?k10 ?k11 ?k12 ?k13 ?_); (case k1 => k_asm); (case k2 => k_asm); (case k3 => k_asm); (case k4 => k_inst); (case k5 => exact rfl); (case k6 => k_is); (case k7 => exact acc_plain _); (case k8 => k_is); (case k9 => k_is); (case k10 => k_get); (case k11 => first | k_put | exact put_ini); (case k12 => k_upd); (case k13 => exact Nat.le_of_ble_eq_true rfl); k_whole; intro h' F' N'; (try k_sweep)))) | ((with_reducible show wpAny _ _ (execs (_ :: _) _) _ _ _); (with_reducible refine set_f (by assumption) ?_); intro mC FC QC EC tC; walk1) | (k_unfold; (try dsimp only)) | walk1)
  rename News h₀ L _ rest => NR9
  rename News h₀ L _ (_ :: _) => N9
  rename News g' L' _ (_ :: _) => Ng
  exact hret _ _ _ _ _ (by k_asm) (news_of N9 NR9 (by exact ⟨(by repeat (first | exact List.Mem.head _ | refine List.Mem.tail _ ?_)), (by repeat (first | exact List.Mem.head _ | refine List.Mem.tail _ ?_)), (by repeat (first | exact List.Mem.head _ | refine List.Mem.tail _ ?_)), (by repeat (first | exact List.Mem.head _ | refine List.Mem.tail _ ?_)), (by repeat (first | exact List.Mem.head _ | refine List.Mem.tail _ ?_)), (by repeat (first | exact List.Mem.head _ | refine List.Mem.tail _ ?_)), (by repeat (first | exact List.Mem.head _ | refine List.Mem.tail _ ?_)), (by repeat (first | exact List.Mem.head _ | refine List.Mem.tail _ ?_)), trivial⟩)) (by assumption) (.mk _ _ _ _ _ _ _ _ _ _ _ (by assumption) (by assumption) (by first | assumption | exact And.left (by with_reducible assumption) | exact And.left (And.right (by with_reducible assumption)) | exact And.left (And.right (And.right (by with_reducible assumption))) | exact And.left (And.right (And.right (And.right (by with_reducible assumption)))) | exact And.left (And.right (And.right (And.right (And.right (by with_reducible assumption))))) | exact And.left (And.right (And.right (And.right (And.right (And.right (by with_reducible assumption)))))) | exact And.left (And.right (And.right (And.right (And.right (And.right (And.right (by with_reducible assumption))))))) | exact And.left (And.right (And.right (And.right (And.right (And.right (And.right (And.right (by with_reducible assumption)))))))) | exact And.left (And.right (And.right (And.right (And.right (And.right (And.right (And.right (And.right (by with_reducible assumption))))))))) | exact And.left (And.right (And.right (And.right (And.right (And.right (And.right (And.right (And.right (And.right (by with_reducible assumption)))))))))) | exact And.left (And.right (And.right (And.right (And.right (And.right (And.right (And.right (And.right (And.right (And.right (by with_reducible assumption))))))))))) | exact And.left (And.right (And.right (And.right (And.right (And.right (And.right (And.right (And.right (And.right (And.right (And.right (by with_reducible assumption))))))))))))) (rest_ne Ng (by repeat (first | exact List.Mem.head _ | refine List.Mem.tail _ ?_)) hrs))
theorem pstr_ct {w : World} {ax dxa ll xo dxo : Addr} {k1 k2 k3 k4 k5 k6 tw u2 u3 u4 tk ti : Tok} {width : Int} {np na nl ne : Nat} {pl1 pl2 : Array Value} {rest : List (Addr × Obj)} (b5 : @LT.lt Nat _ 176 dxo) (b1 : @LT.lt Nat _ dxo xo) (b2 : @LT.lt Nat _ xo ll) (b3 : @LT.lt Nat _ ll dxa) (b4 : @LT.lt Nat _ dxa ax) (ht1 : TriplesOk pl1.toList) (ht2 : TriplesOk pl2.toList) {ta : Addr} {p q c p1 q1 c1 p2 q2 c2 : Nat} {x1 x2 z1 z2 t9 : Tok} (b6 : @LT.lt Nat _ ax ta) (hp : 3 ≤ p ∧ p ≤ 50) (hq : 3 ≤ q ∧ q ≤ 50) (hc : 65 ≤ c ∧ c ≤ 90) (hj : p1 + q1 ≤ 4000 ∧ p2 + q2 ≤ 4000 ∧ p + q ≤ 4000)
    (hdis : ∀ x ∈ rest, x.1 ∉ ([(ta, pairO (blk p 0 0) x1 (blk 0 q c) x2), (ax, accO 207 dxa #[.ref ta] na), (dxa, iniD w tk ti ne), (ll, listOf #[.str (blk p1 q1 c1) z1, .str (blk p2 q2 c2) z2] nl), (xo, instObj 123 dxo), (dxo, pageD w k1 k2 k3 k4 k5 k6 tw u2 u3 u4 width ll ax np), (169, tabObj pl1), (176, tabObj pl2)] : List (Addr × Obj)).map (·.1)) :
    CtG w 10 71 [.ref xo, .str (Str.ofString "\n") t9] ([(ta, pairO (blk p 0 0) x1 (blk 0 q c) x2), (ax, accO 207 dxa #[.ref ta] na), (dxa, iniD w tk ti ne), (ll, listOf #[.str (blk p1 q1 c1) z1, .str (blk p2 q2 c2) z2] nl), (xo, instObj 123 dxo), (dxo, pageD w k1 k2 k3 k4 k5 k6 tw u2 u3 u4 width ll ax np), (169, tabObj pl1), (176, tabObj pl2)] ++ rest)
      (PstrP (Str.join (Str.ofString "\n") [blk p1 q1 c1, blk p2 q2 c2, blk p q c]) [] rest) := by
  refine ChunkF.casesOn (chunk_facts hp hq) ?_
  intro hz hz8 hz1 hz2 hz3 hz4 hz5 hne
  have cc1 : @LT.lt Nat _ 169 dxo := Nat.lt_trans (show 169 < 176 by decide) b5
  refine Chain5.casesOn (chain5 b5 cc1 b1 b2 b3 b4) ?_
  intro dd1 dd2 dd3 dd4 dd5 dd6 dd7 dd8 ee1 ee2 ee3 ee4 ee5 ee6
  refine ChainT.casesOn (chain_ta dd4 dd8 ee3 ee5 ee6 b4 b6) ?_
  intro f1 f2 f3 f4 f5 f6
  unfold CtG
  intro p₉ lo₉ mean mg mb dp un gd cn cs a ccd cl outer A₀ base h₀ L m hp9 gs9 dr9 tk9 os9 Q E B F X N T hk hd hu GB hret
  refine wpAny_call ?_
  have N6 : News h₀ L hp9 [(ta, pairO (blk p 0 0) x1 (blk 0 q c) x2), (ax, accO 207 dxa #[.ref ta] na), (dxa, iniD w tk ti ne), (ll, listOf #[.str (blk p1 q1 c1) z1, .str (blk p2 q2 c2) z2] nl), (xo, instObj 123 dxo), (dxo, pageD w k1 k2 k3 k4 k5 k6 tw u2 u3 u4 width ll ax np), (169, tabObj pl1), (176, tabObj pl2)] := fun q hq => N q (List.mem_append_left _ hq)
  have NR : News h₀ L hp9 rest := fun q hq => N q (List.mem_append_right _ hq)
  replace hdis := Kept.mk hdis
  k_dflt (refine' enterP B F X N6 NR hdis.v T ?kA ?kF ?kK ?k6 ?k7 ?k8 ?k9 ?kB ?_ ?c2 ?c3 ?c4 ?c5; (case kA => exact rfl); (case kF => exact rfl); (case kK => assumption); (case k6 => k_is); (case k7 => k_is); (case k8 => ktr_room); (case k9 => exact BindsTo.of_eq rfl); (case c5 => decide); (case kB => exact locs rfl); (case c2 => exact rfl); (case c3 => exact rfl); (case c4 => exact rfl); k_whole; intro g' L' h' FG' F' N' B' X' T' l1 hrs; (try k_lt l1); (try dsimp only); (try k_lift B'); (try k_fold))
  let oP : Obj := pageD w k1 k2 k3 k4 k5 k6 tw u2 u3 u4 width ll ax np
  let oI : Obj := iniD w tk ti ne
  let oX : Obj := instObj 123 dxo
  replace N' : News g' L' h' [(ta, pairO (blk p 0 0) x1 (blk 0 q c) x2), (ax, accO 207 dxa #[.ref ta] na), (dxa, oI), (ll, listOf #[.str (blk p1 q1 c1) z1, .str (blk p2 q2 c2) z2] nl), (xo, oX), (dxo, oP), (169, tabObj pl1), (176, tabObj pl2)] := N'
  have hq0 : 0 < q := Nat.lt_of_lt_of_le (by decide) hq.1
  have hp2 : 2 ≤ p := Nat.le_trans (by decide) hp.1
  have hc9 : c < 1114112 := Nat.lt_of_le_of_lt hc.2 (by decide)
  clear hp hq
  repeat' (first | (((with_reducible show _root_.PySem.wpAt _ _ _ _ _ _ _); first | ((with_reducible refine ks_wpAt_MethodCall ?_ (by with_unfolding_all exact rfl))) | ((with_reducible refine ks_wpAt_Expr_any ?_ (by with_unfolding_all exact rfl) (by k_dflt kernel_rfl))) | (dsimp only; (with_reducible refine ks_wpAt_execs_cons ?_)))) | (((with_reducible show ((_ : Int) ≠ 0) ∧ _); refine ⟨by assumption, ?_⟩; try dsimp only)) | (((with_reducible show wpAny _ _ (setItem (Value.ref _) (Value.ref _) (Value.ref _)) _ _ _); (with_reducible rename Fr _ _ _ _ => F'); (with_reducible rename News _ _ _ _ => N'); k_dflt (first | ((with_reducible refine' lw_cut (s := ⟨_, _, _, _, _⟩) F' ?kx N' ?ki ?kl ?ks ?kq ?kr ?ku ?_); (case kx => k_asm); (case ki => k_inst); (case kl => k_is); (case ks => k_is); (case kq => k_is); (case kr => k_mem); (case ku => k_upd); k_whole; intro h' F' N') | ((with_reducible refine' lw_all1 (s := ⟨_, _, _, _, _⟩) F' ?kx N' ?ki ?kl ?ks ?kq ?kr ?ku ?_); (case kx => k_asm); (case ki => k_inst); (case kl => k_is); (case ks => k_is); (case kq => k_is); (case kr => k_mem); (case ku => k_upd); k_whole; intro h' F' N') | ((with_reducible refine' lw_all0 (s := ⟨_, _, _, _, _⟩) F' ?kx N' ?ki ?kl ?ks ?kq ?kr ?ku ?_); (case kx => k_asm); (case ki => k_inst); (case kl => k_is); (case ks => k_is); (case kq => k_is); (case kr => k_mem); (case ku => k_upd); k_whole; intro h' F' N')))) | (((with_reducible show wpAny _ _ (call (Value.ref 181) _) _ _ _); k_dflt ((refine' CtG.use (str1_ct ?hm ?hdm ?hU ?ht ?hT ?hz) ?B ?F ?X ?N ?T rfl ?hd ?hu ?GB ?_; (case F => k_asm); (case N => k_asm); (case B => k_asm); (case X => k_asm); (case T => k_asm); (case hm => k_mem); (case hdm => k_mem); (case hU => k_updF); (case ht => first | assumption | trivial); (case hT => k_mem); (case hz => assumption); (case hd => ktr_room); (case hu => ktr_units); (case GB => assumption))); intro r' nx' h' tk' gs' hp'; (with_reducible refine TabV.casesOn hp' ?_); clear hp'; intro pl' t' ht' F' N' G'; (try dsimp only at N'); (try dsimp only [PySem.W.StrBack]))) | (((with_reducible show wpAny _ _ (call (Value.ref 174) _) _ _ _); k_dflt ((refine' CtG.use (len1_ct ?hm ?hdm ?hU ?ht ?hT ?hz) ?B ?F ?X ?N ?T rfl ?hd ?hu ?GB ?_; (case F => k_asm); (case N => k_asm); (case B => k_asm); (case X => k_asm); (case T => k_asm); (case hm => k_mem); (case hdm => k_mem); (case hU => k_updF); (case ht => first | assumption | trivial); (case hT => k_mem); (case hz => assumption); (case hd => ktr_room); (case hu => ktr_units); (case GB => assumption))); intro r' nx' h' tk' gs' hp'; (with_reducible refine TabV.casesOn hp' ?_); clear hp'; intro pl' t' ht' F' N' G'; (try dsimp only at N'); (try dsimp only [PySem.W.LenBack]); (try (refine ⟨len_fits (by assumption), ?_⟩)))) | (((with_reducible show wpAny _ _ (call (Value.type "str") [Value.ref _]) _ _ _); k_dflt ((with_reducible refine' kso_call ?k1 ?k2 ?k3 ?k4 ?k5 ?_); (case k1 => ktr_units); (case k2 => k_in); (case k3 => k_inst); (case k4 => k_is); (case k5 => k_is); k_whole))) | (((with_reducible show wpAny _ _ (compareOp CmpOp.NotEq (Value.ref _) (Value.ref _)) _ _ _); k_dflt ((with_reducible refine' ne_pair ?N ?m1 ?m2 ?hp ?hc ?hu ?_); (case N => k_asm); (case m1 => k_mem); (case m2 => k_mem); (case hp => assumption); (case hc => assumption); (case hu => ktr_room)); (try dsimp only))) | (((with_reducible show wpAny _ _ (callWith _ (Value.ref _) _ (backTo _ (starEach [Expr.Starred _ _] _)) []) _ _ _); k_dflt (refine' callWith_SM ?k1 ?k2 ?k3 ?k4 ?_; (case k1 => k_asm); (case k2 => k_asm); (case k3 => k_mem); (case k4 => k_is); k_whole))) | (((with_reducible show wpAny _ _ (getAttr (Value.ref _) (PySem.Str.ofString "push") _) _ _ _); k_dflt ((with_reducible refine' lget_bound ?k1 ?k2 ?k3 ?k4 ?kl ?ka ?kb ?k5 ?k6 ?k7 ?k8 ?k9 ?k10 ?k11 ?_); (case k1 => k_asm); (case k2 => k_asm); (case k3 => k_asm); (case k4 => k_inst); (case kl => k_is); (case ka => k_is); (case kb => k_is); (case k5 => k_is); (case k6 => k_is); (case k7 => k_is); (case k8 => k_is); (case k9 => k_is); (case k10 => decide +kernel); (case k11 => k_get); k_whole; intro q' h' F' N' l1; (try k_lt l1)))) | (((with_reducible show wpAny _ _ (eval (Expr.Call (Expr.Attribute _ _ _) [Expr.Starred _ _] _ _) _) _ _ _); k_dflt (refine methodStar ?_))) | (((with_reducible show wpAny _ _ (truthy (Value.ref _)) _ _ _); k_dflt ((with_reducible refine' truthy_KL ?k1 ?k2 ?k3 ?k4 ?k5 ?k6 ?_); (case k1 => k_asm); (case k2 => k_asm); (case k3 => k_inst); (case k4 => k_is); (case k5 => k_is); (case k6 => k_is); k_whole))) | (((with_reducible show wpAny _ _ (call (Value.builtin "str.join") [Value.str _ _, Value.ref _]) _ _ _); k_dflt ((with_reducible refine join3 (by k_dflt k_asm) (by k_dflt k_mem) rfl (by k_dflt (simp only [blk_len]); assumption) ?_)); intro t' k')) | (((with_reducible show wpAny _ _ (call (Value.builtin "str.isspace") [Value.str (blk _ _ _) _]) _ _ _); k_dflt ((with_reducible refine KXw.isspace (blk_nospace (by k_dflt assumption) (by k_dflt assumption)) ?_)))) | (((with_reducible show wpAny _ _ (callWith _ (Value.ref _) _ (backTo _ (starEach [] _)) []) _ _ _); k_dflt (first | ((with_reducible refine' lcallWith0 (bt := "builtin_function_or_method") ?k1 ?k2 (.inl rfl) ?_); (case k1 => k_asm); (case k2 => k_mem); k_whole) | ((with_reducible refine' lcallWith0 (bt := "method-wrapper") ?k1 ?k2 (.inr rfl) ?_); (case k1 => k_asm); (case k2 => k_mem); k_whole)))) | (((with_reducible show wpAny _ _ (call (Value.builtin "list.append") [Value.ref _, _]) _ _ _); k_dflt (first | ((with_reducible refine' lappend0 ?k1 ?kx ?k2 ?ki ?kl ?ku ?_); (case k1 => k_asm); (case kx => k_asm); (case k2 => k_asm); (case ki => k_inst); (case kl => k_is); (case ku => k_upd); k_whole; intro h' F' N') | ((with_reducible refine' lappend1 ?k1 ?kx ?k2 ?ki ?kl ?ku ?_); (case k1 => k_asm); (case kx => k_asm); (case k2 => k_asm); (case ki => k_inst); (case kl => k_is); (case ku => k_upd); k_whole; intro h' F' N')))) | (((with_reducible show wpAny _ _ (call (Value.ref _) []) _ _ _); k_dflt (first | ((with_reducible refine' linit ?k1 ?k2 ?k3 ?k4 ?_); (case k1 => k_asm); (case k2 => k_asm); (case k3 => k_mem); (case k4 => k_upd); k_whole; intro h' F' N') | ((with_reducible refine' llen_one ?k2 ?k3 ?k4 ?_); (case k2 => k_asm); (case k3 => k_mem); (case k4 => k_mem); k_whole; intro t' k') | ((with_reducible refine' llen_two ?k2 ?k3 ?k4 ?_); (case k2 => k_asm); (case k3 => k_mem); (case k4 => k_mem); k_whole; intro t' k') | ((with_reducible refine' lpop ?k1 ?kx ?k2 ?ki ?km ?kc ?kt ?k3 ?k4 ?_); (case k1 => k_asm); (case kx => k_asm); (case k2 => k_asm); (case ki => k_inst); (case km => k_is); (case kc => exact acc_named _); (case kt => k_is); (case k3 => k_mem); (case k4 => k_upd); k_whole; intro h' F' N')))) | (((with_reducible show wpAny _ _ (getMethod (Value.ref _) _ _) _ _ _); k_dflt (first | ((with_reducible show wpAny _ _ (getMethod (Value.ref _) (PySem.Str.ofString "pop") _) _ _ _); (with_reducible refine' lsuper_method bound_pop ?k9 ?k1 ?k2 ?k3 ?k4 ?k5 ?k6 ?k7 ?_); (case k1 => k_asm); (case k2 => k_asm); (case k3 => k_asm); (case k4 => k_mem); (case k5 => k_inst); (case k6 => k_is); (case k7 => exact acc_plain _); (case k9 => decide); intro q' h' F' N' l1; (try k_lt l1)) | ((with_reducible show wpAny _ _ (getMethod (Value.ref _) (PySem.Str.ofString "__len__") _) _ _ _); (with_reducible refine' lsuper_method bound_len ?k9 ?k1 ?k2 ?k3 ?k4 ?k5 ?k6 ?k7 ?_); (case k1 => k_asm); (case k2 => k_asm); (case k3 => k_asm); (case k4 => k_mem); (case k5 => k_inst); (case k6 => k_is); (case k7 => exact acc_plain _); (case k9 => decide); intro q' h' F' N' l1; (try k_lt l1)) | ((with_reducible show wpAny _ _ (getMethod (Value.ref _) (PySem.Str.ofString "__init__") _) _ _ _); (with_reducible refine' lsuper_method bound_init ?k9 ?k1 ?k2 ?k3 ?k4 ?k5 ?k6 ?k7 ?_); (case k1 => k_asm); (case k2 => k_asm); (case k3 => k_asm); (case k4 => k_mem); (case k5 => k_inst); (case k6 => k_is); (case k7 => exact acc_plain _); (case k9 => decide); intro q' h' F' N' l1; (try k_lt l1))))) | (((with_reducible show wpAny _ _ (getMethod (Value.ref _) _ _) _ _ _); k_dflt ((with_reducible refine' lmethod ?k1 ?k2 ?k3 ?kd ?k4 ?k5 ?k6 ?k7 ?k8 ?k9 ?_); (case k1 => k_asm); (case k2 => k_asm); (case k3 => k_inst); (case kd => exact rfl); (case k4 => k_is); (case k5 => k_is); (case k6 => k_is); (case k7 => k_is); (case k8 => first | exact .inl rfl | exact .inr rfl); (case k9 => rfl); k_whole))) | (((with_reducible show wpAny _ _ (getAttr (Value.ref _) _ _) _ _ _); k_dflt ((with_reducible refine' lget_own ?k1 ?k2 ?k3 ?kl ?ka ?kb ?k5 ?k6 ?k7 ?k8 ?k9 ?_); (case k1 => k_asm); (case k2 => k_asm); (case k3 => k_inst); (case kl => k_is); (case ka => k_is); (case kb => k_is); (case k5 => k_is); (case k6 => k_is); (case k7 => k_is); (case k8 => k_get); (case k9 => k_handed); k_whole))) | (((with_reducible show wpAny _ _ (setAttr (Value.ref _) _ _) _ _ _); (try dsimp only); k_dflt ((with_reducible refine' lset_dict ?k1 ?k2 ?k3 ?k4 ?k5 ?k6 ?k7 ?k8 ?k9 ?k10 ?k11 ?k12 ?k13 ?_); (case k1 => k_asm); (case k2 => k_asm); (case k3 => k_asm); (case k4 => k_inst); (case k5 => exact rfl); (case k6 => k_is); (case k7 => exact acc_plain _); (case k8 => k_is); (case k9 => k_is); (case k10 => k_get); (case k11 => first | k_put | exact put_ini); (case k12 => k_upd); (case k13 => exact Nat.le_of_ble_eq_true rfl); k_whole; intro h' F' N'; (try k_sweep)))) | ((with_reducible show wpAny _ _ (execs (_ :: _) _) _ _ _); (with_reducible refine set_f (by assumption) ?_); intro mC FC QC EC tC; walk1) | (k_unfold; (try dsimp only)) | walk1)
  rename News h₀ L _ rest => NR9
  rename News h₀ L _ (_ :: _) => N9
  rename News g' L' _ (_ :: _) => Ng
  exact hret _ _ _ _ _ (by k_asm) (news_of N9 NR9 (by exact ⟨(by repeat (first | exact List.Mem.head _ | refine List.Mem.tail _ ?_)), (by repeat (first | exact List.Mem.head _ | refine List.Mem.tail _ ?_)), trivial⟩)) (by assumption) (.mk _ _ _ (by assumption) (by assumption))
--BEGIN MAIN
inductive PgS (w : World) (ax dxa ll xo dxo : Addr) (k1 k2 k3 k4 k5 k6 tw u2 u3 u4 : Tok) (width : Int) (np : Nat) (lr : Addr) (rows top : List (Addr × Obj)) (its lns : Array Value) : (Str → Option Value) → List (Addr × Obj) → Prop
  | mk (u : Str → Option Value) (tp tk ti : Tok) (na ne nl : Nat) (pl1 pl2 : Array Value) (h1 : TriplesOk pl1.toList) (h2 : TriplesOk pl2.toList) : PgS w ax dxa ll xo dxo k1 k2 k3 k4 k5 k6 tw u2 u3 u4 width np lr rows top its lns (bndU u [(Str.ofString "width", .int width tp), (Str.ofString "rows", .ref lr), (Str.ofString "page", .ref xo)]) (top ++ ([(ax, accO 207 dxa its na), (dxa, iniD w tk ti ne), (ll, listOf lns nl), (xo, instObj 123 dxo), (dxo, pageD w k1 k2 k3 k4 k5 k6 tw u2 u3 u4 width ll ax np), (169, tabObj pl1), (176, tabObj pl2)] ++ rows))
theorem PgS.mem {w : World} {ax dxa ll xo dxo : Addr} {k1 k2 k3 k4 k5 k6 tw u2 u3 u4 : Tok} {width : Int} {np : Nat} {lr : Addr} {rows top : List (Addr × Obj)} {its lns : Array Value} {m : Str → Option Value} {nx : List (Addr × Obj)} (h : PgS w ax dxa ll xo dxo k1 k2 k3 k4 k5 k6 tw u2 u3 u4 width np lr rows top its lns m nx) {x : Addr × Obj} (hx : x ∈ rows) : x ∈ nx := by
  refine PgS.casesOn h ?_
  intros
  exact List.mem_append_right _ (List.mem_append_right _ hx)
theorem own_ok {ax dxa ll xo dxo : Addr} {o1 o2 o3 o4 o5 o6 o7 : Obj} (b1 : @LT.lt Nat _ dxo xo) (b2 : @LT.lt Nat _ xo ll) (b3 : @LT.lt Nat _ ll dxa) (b4 : @LT.lt Nat _ dxa ax) : ∀ q ∈ [(ax, o1), (dxa, o2), (ll, o3), (xo, o4), (dxo, o5), (169, o6), (176, o7)], @LE.le Nat _ dxo q.1 ∨ @LE.le Nat _ q.1 176 := by
  have c2 := Nat.lt_trans b1 b2
  have c3 := Nat.lt_trans c2 b3
  have c4 := Nat.lt_trans c3 b4
  exact List.forall_mem_cons.mpr ⟨.inl (Nat.le_of_lt c4), List.forall_mem_cons.mpr ⟨.inl (Nat.le_of_lt c3), List.forall_mem_cons.mpr ⟨.inl (Nat.le_of_lt c2), List.forall_mem_cons.mpr ⟨.inl (Nat.le_of_lt b1), List.forall_mem_cons.mpr ⟨.inl (Nat.le_refl _), List.forall_mem_cons.mpr ⟨.inr (show 169 ≤ 176 by decide), List.forall_mem_cons.mpr ⟨.inr (Nat.le_refl _), fun _ h => nomatch h⟩⟩⟩⟩⟩⟩⟩
theorem own_ta {ax dxo ta : Addr} {t : Obj} {own : List (Addr × Obj)} (h : ∀ q ∈ own, @LE.le Nat _ dxo q.1 ∨ @LE.le Nat _ q.1 176) (c : @LT.lt Nat _ dxo ax) (b6 : @LT.lt Nat _ ax ta) : ∀ q ∈ (ta, t) :: own, @LE.le Nat _ dxo q.1 ∨ @LE.le Nat _ q.1 176 :=
  List.forall_mem_cons.mpr ⟨.inl (Nat.le_of_lt (Nat.lt_trans c b6)), h⟩
theorem dis_page {dxo : Addr} {own rows : List (Addr × Obj)} (hr : ∀ x ∈ rows, @LT.lt Nat _ 176 x.1 ∧ @LT.lt Nat _ x.1 dxo) (ho : ∀ q ∈ own, @LE.le Nat _ dxo q.1 ∨ @LE.le Nat _ q.1 176) : ∀ x ∈ rows, x.1 ∉ own.map (·.1) := fun x hx hm => by
  obtain ⟨q, hq, e⟩ := List.mem_map.mp hm
  have e : q.1 = x.1 := e
  have h1 := hr x hx
  have h2 := ho q hq
  rw [e] at h2
  exact h2.elim (fun h => Nat.lt_irrefl _ (Nat.lt_of_lt_of_le h1.2 h)) fun h => Nat.lt_irrefl _ (Nat.lt_of_lt_of_le h1.1 h)
theorem dis_pageI {I dxo : Addr} {o : Obj} {own rows : List (Addr × Obj)} (hne : ∀ q ∈ own ++ rows, q.1 ≠ I) (hr : ∀ x ∈ rows, @LT.lt Nat _ 176 x.1 ∧ @LT.lt Nat _ x.1 dxo) (ho : ∀ q ∈ own, @LE.le Nat _ dxo q.1 ∨ @LE.le Nat _ q.1 176) : ∀ x ∈ (I, o) :: rows, x.1 ∉ own.map (·.1) := fun x hx hm => by
  rcases List.mem_cons.mp hx with rfl | hx
  · obtain ⟨q, hq, e⟩ := List.mem_map.mp hm
    exact hne q (List.mem_append_left _ hq) e
  · exact dis_page hr ho x hx hm
theorem ne_turn {I ta : Addr} {t o : Obj} {own own' rows : List (Addr × Obj)} (hne : ∀ q ∈ own ++ rows, q.1 ≠ I) (hm : own'.map (·.1) = own.map (·.1)) (ht : ∀ x ∈ (I, o) :: rows, x.1 ≠ ta) : ∀ q ∈ [(ta, t)] ++ (own' ++ rows), q.1 ≠ I := fun q hq => by
  rcases List.mem_append.mp hq with hq | hq
  · rw [List.mem_singleton.mp hq]; exact fun e => ht _ (.head _) e.symm
  · rcases List.mem_append.mp hq with hq | hq
    · have h1 : q.1 ∈ own'.map (·.1) := List.mem_map_of_mem hq
      rw [hm] at h1
      obtain ⟨r, hr, e⟩ := List.mem_map.mp h1
      rw [← e]
      exact hne r (List.mem_append_left _ hr)
    · exact hne q (List.mem_append_right _ hq)
theorem sub_turn {I ta : Addr} {t o : Obj} {own rows : List (Addr × Obj)} : ∀ p ∈ [(ta, t)] ++ (own ++ rows), p ∈ ((ta, t) :: own) ++ (I, o) :: rows := fun p hp => by
  rcases List.mem_append.mp hp with hp | hp
  · rw [List.mem_singleton.mp hp]; exact .head _
  · rcases List.mem_append.mp hp with hp | hp
    · exact List.mem_append_left _ (.tail _ hp)
    · exact List.mem_append_right _ (.tail _ hp)
theorem mul4 {p : Nat} (h : 3 ≤ p ∧ p ≤ 50) : (0 : Int) ≤ (p : Int) ∧ (p : Int) ≤ 4000 := by omega
inductive PgJ1 (w : World) (ax dxa ll xo dxo : Addr) (k1 k2 k3 k4 k5 k6 tw u2 u3 u4 : Tok) (width : Int) (np : Nat) (lr : Addr) (rows : List (Addr × Obj)) (p1 q1 c1 : Nat) (m : Str → Option Value) (nx : List (Addr × Obj)) : Prop
  | mk (ta : Addr) (x1 x2 : Tok) (b : @LT.lt Nat _ ax ta) (h : PgS w ax dxa ll xo dxo k1 k2 k3 k4 k5 k6 tw u2 u3 u4 width np lr rows [(ta, pairO (blk p1 0 0) x1 (blk 0 q1 c1) x2)] #[.ref ta] #[] m nx) : PgJ1 w ax dxa ll xo dxo k1 k2 k3 k4 k5 k6 tw u2 u3 u4 width np lr rows p1 q1 c1 m nx
inductive PgJ2 (w : World) (ax dxa ll xo dxo : Addr) (k1 k2 k3 k4 k5 k6 tw u2 u3 u4 : Tok) (width : Int) (np : Nat) (lr : Addr) (rows : List (Addr × Obj)) (p1 q1 c1 p2 q2 c2 : Nat) (m : Str → Option Value) (nx : List (Addr × Obj)) : Prop
  | mk (ta : Addr) (x1 x2 y1 : Tok) (b : @LT.lt Nat _ ax ta) (h : PgS w ax dxa ll xo dxo k1 k2 k3 k4 k5 k6 tw u2 u3 u4 width np lr rows [(ta, pairO (blk p2 0 0) x1 (blk 0 q2 c2) x2)] #[.ref ta] #[.str (blk p1 q1 c1) y1] m nx) : PgJ2 w ax dxa ll xo dxo k1 k2 k3 k4 k5 k6 tw u2 u3 u4 width np lr rows p1 q1 c1 p2 q2 c2 m nx
inductive PgJ3 (w : World) (ax dxa ll xo dxo : Addr) (k1 k2 k3 k4 k5 k6 tw u2 u3 u4 : Tok) (width : Int) (np : Nat) (lr : Addr) (rows : List (Addr × Obj)) (p1 q1 c1 p2 q2 c2 p3 q3 c3 : Nat) (m : Str → Option Value) (nx : List (Addr × Obj)) : Prop
  | mk (ta : Addr) (x1 x2 y1 y2 : Tok) (b : @LT.lt Nat _ ax ta) (h : PgS w ax dxa ll xo dxo k1 k2 k3 k4 k5 k6 tw u2 u3 u4 width np lr rows [(ta, pairO (blk p3 0 0) x1 (blk 0 q3 c3) x2)] #[.ref ta] #[.str (blk p1 q1 c1) y1, .str (blk p2 q2 c2) y2] m nx) : PgJ3 w ax dxa ll xo dxo k1 k2 k3 k4 k5 k6 tw u2 u3 u4 width np lr rows p1 q1 c1 p2 q2 c2 p3 q3 c3 m nx
def pgJ (w : World) (ax dxa ll xo dxo : Addr) (k1 k2 k3 k4 k5 k6 tw u2 u3 u4 : Tok) (width : Int) (np : Nat) (lr : Addr) (rows : List (Addr × Obj)) (p1 q1 c1 p2 q2 c2 p3 q3 c3 : Nat) : Nat → (Str → Option Value) → List (Addr × Obj) → Prop
  | 0, m, nx => PgS w ax dxa ll xo dxo k1 k2 k3 k4 k5 k6 tw u2 u3 u4 width np lr rows [] #[] #[] m nx
  | 1, m, nx => PgJ1 w ax dxa ll xo dxo k1 k2 k3 k4 k5 k6 tw u2 u3 u4 width np lr rows p1 q1 c1 m nx
  | 2, m, nx => PgJ2 w ax dxa ll xo dxo k1 k2 k3 k4 k5 k6 tw u2 u3 u4 width np lr rows p1 q1 c1 p2 q2 c2 m nx
  | 3, m, nx => PgJ3 w ax dxa ll xo dxo k1 k2 k3 k4 k5 k6 tw u2 u3 u4 width np lr rows p1 q1 c1 p2 q2 c2 p3 q3 c3 m nx
  | _ + 4, _, _ => False
inductive PgA (w : World) (lr a1 a2 a3 : Addr) (width : Int) (pl1 pl2 : Array Value) (rows : List (Addr × Obj)) (g : Heap) (L : Addr) (h : Heap) : Prop
  | mk (u : Str → Option Value) (ax dxa ll xo dxo : Addr) (k1 k2 k3 k4 k5 k6 tw u2 u3 u4 tk ti tp : Tok) (np na ne nl : Nat) (N2 : News g L h ([(ax, accO 207 dxa #[] na), (dxa, iniD w tk ti ne), (ll, listOf #[] nl), (xo, instObj 123 dxo), (dxo, pageD w k1 k2 k3 k4 k5 k6 tw u2 u3 u4 width ll ax np), (169, tabObj pl1), (176, tabObj pl2)] ++ rows)) (F2 : Fr g L h (bndU u [(Str.ofString "width", .int width tp), (Str.ofString "rows", .ref lr), (Str.ofString "page", .ref xo)]))
      (b5 : @LT.lt Nat _ 176 dxo) (b1 : @LT.lt Nat _ dxo xo) (b2 : @LT.lt Nat _ xo ll) (b3 : @LT.lt Nat _ ll dxa) (b4 : @LT.lt Nat _ dxa ax) (br : @LT.lt Nat _ lr dxo ∧ @LT.lt Nat _ a1 dxo ∧ @LT.lt Nat _ a2 dxo ∧ @LT.lt Nat _ a3 dxo) : PgA w lr a1 a2 a3 width pl1 pl2 rows g L h
inductive PgB (w : World) (ax dxa ll xo dxo : Addr) (k1 k2 k3 k4 k5 k6 tw u2 u3 u4 : Tok) (width : Int) (np : Nat) (lr : Addr) (rows : List (Addr × Obj)) (p1 q1 c1 p2 q2 c2 p3 q3 c3 i : Nat) (m : Str → Option Value) (nx : List (Addr × Obj)) : Value → Prop
  | mk (ar : Addr) (lns : Array Value) (ta : Addr) (x1 x2 : Tok) (p q c p' q' c' : Nat) (r1 r2 r3 : Tok) (b6 : @LT.lt Nat _ ax ta) (hP : PgS w ax dxa ll xo dxo k1 k2 k3 k4 k5 k6 tw u2 u3 u4 width np lr rows [(ta, pairO (blk p 0 0) x1 (blk 0 q c) x2)] #[.ref ta] lns m nx)
      (hs1 : 3 ≤ p ∧ p ≤ 50) (hs1' : 3 ≤ q ∧ q ≤ 50) (hs2 : 3 ≤ p' ∧ p' ≤ 50) (hs2' : 3 ≤ q' ∧ q' ≤ 50) (hs3 : 11 ≤ p + q) (hs3' : 11 ≤ p' + q') (hmr0 : (ar, rowO p' r1 q' r2 (chr1 c') r3) ∈ rows)
      (hnext : ∀ m nx ta' x1' x2' y, @LT.lt Nat _ ax ta' → PgS w ax dxa ll xo dxo k1 k2 k3 k4 k5 k6 tw u2 u3 u4 width np lr rows [(ta', pairO (blk p' 0 0) x1' (blk 0 q' c') x2')] #[.ref ta'] (lns.push (.str (blk p q c) y)) m nx → pgJ w ax dxa ll xo dxo k1 k2 k3 k4 k5 k6 tw u2 u3 u4 width np lr rows p1 q1 c1 p2 q2 c2 p3 q3 c3 (i + 1 + 1) m nx) (hlz : lns.size ≤ sizeLine) : PgB w ax dxa ll xo dxo k1 k2 k3 k4 k5 k6 tw u2 u3 u4 width np lr rows p1 q1 c1 p2 q2 c2 p3 q3 c3 i m nx (.ref ar)
theorem page_ct {w : World} (width : Int) (tw : Tok) (a1 a2 a3 lr : Addr) (p1 q1 c1 p2 q2 c2 p3 q3 c3 : Nat) (t1 t2 t3 t4 t5 t6 t7 t8 t9 : Tok) (n0 : Nat) (pl1 pl2 : Array Value) (rest : List (Addr × Obj)) (hpl1 : TriplesOk pl1.toList) (hpl2 : TriplesOk pl2.toList) (hw : 0 ≤ width ∧ width ≤ 21) (hp1 : 3 ≤ p1 ∧ p1 ≤ 50)  (hp2 : 3 ≤ p2 ∧ p2 ≤ 50)  (hp3 : 3 ≤ p3 ∧ p3 ≤ 50) (hq1 : 3 ≤ q1 ∧ q1 ≤ 50)  (hq2 : 3 ≤ q2 ∧ q2 ≤ 50)  (hq3 : 3 ≤ q3 ∧ q3 ≤ 50) (h1 : 11 ≤ p1 + q1) (h2 : 11 ≤ p2 + q2)  (h3 : 11 ≤ p3 + q3) (hc1 : 65 ≤ c1 ∧ c1 ≤ 90) (hc2 : 65 ≤ c2 ∧ c2 ≤ 90) (hc3 : 65 ≤ c3 ∧ c3 ≤ 90)
    (hlr : @LT.lt Nat _ 176 lr ∧ @LT.lt Nat _ 176 a1 ∧ @LT.lt Nat _ 176 a2 ∧ @LT.lt Nat _ 176 a3) (hdis : ∀ p ∈ rest, p.1 ∉ ([(lr, listOf #[.ref a1, .ref a2, .ref a3] n0), (a1, rowO p1 t1 q1 t2 (chr1 c1) t3), (a2, rowO p2 t4 q2 t5 (chr1 c2) t6), (a3, rowO p3 t7 q3 t8 (chr1 c3) t9), (169, tabObj pl1), (176, tabObj pl2)] : List (Addr × Obj)).map (·.1)) :
    CtG w 14 254 [.ref lr, .int width tw] ([(lr, listOf #[.ref a1, .ref a2, .ref a3] n0), (a1, rowO p1 t1 q1 t2 (chr1 c1) t3), (a2, rowO p2 t4 q2 t5 (chr1 c2) t6), (a3, rowO p3 t7 q3 t8 (chr1 c3) t9), (169, tabObj pl1), (176, tabObj pl2)] ++ rest)
      (PstrP (Str.join (Str.ofString "\n") [blk p1 q1 c1, blk p2 q2 c2, blk p3 q3 c3]) [(lr, listOf #[.ref a1, .ref a2, .ref a3] n0), (a1, rowO p1 t1 q1 t2 (chr1 c1) t3), (a2, rowO p2 t4 q2 t5 (chr1 c2) t6), (a3, rowO p3 t7 q3 t8 (chr1 c3) t9)] rest) := by
  unfold CtG
  intro p₉ lo₉ mean mg mb dp un gd cn cs a ccd cl outer A₀ base h₀ L m hp9 gs9 dr9 tk9 os9 Q E B F X N T hk hd hu GB hret
  refine wpAny_call ?_
  have N6 : News h₀ L hp9 [(lr, listOf #[.ref a1, .ref a2, .ref a3] n0), (a1, rowO p1 t1 q1 t2 (chr1 c1) t3), (a2, rowO p2 t4 q2 t5 (chr1 c2) t6), (a3, rowO p3 t7 q3 t8 (chr1 c3) t9), (169, tabObj pl1), (176, tabObj pl2)] := fun q hq => N q (List.mem_append_left _ hq)
  have NR : News h₀ L hp9 rest := fun q hq => N q (List.mem_append_right _ hq)
  replace hdis := Kept.mk hdis
  k_dflt (refine' enterP B F X N6 NR hdis.v T ?kA ?kF ?kK ?k6 ?k7 ?k8 ?k9 ?kB ?_ ?c2 ?c3 ?c4 ?c5; (case kA => exact rfl); (case kF => exact rfl); (case kK => assumption); (case k6 => k_is); (case k7 => k_is); (case k8 => ktr_room); (case k9 => exact BindsTo.of_eq rfl); (case c5 => decide); (case kB => exact locs rfl); (case c2 => exact rfl); (case c3 => exact rfl); (case c4 => exact rfl); k_whole; intro g' L' h' FG' F' N' B' X' T' l1 hrs; (try k_lt l1); (try dsimp only); (try k_lift B'); (try k_fold))
  repeat' ((fail_if_success (with_reducible show wpAny _ _ (exec (.For _ _ _ _ _) _) _ _ _)); first | (((with_reducible show wpAny _ _ (call (Value.ref 207) _) _ _ _); k_dflt ((with_reducible refine' lcall_cls ?k1 ?k2 ?k3 ?k4 ?k5 ?k6 ?_); (case k1 => k_asm); (case k2 => k_asm); (case k3 => k_asm); (case k4 => exact acc_makes _); (case k5 => k_is); (case k6 => k_is); intro x' d' h' F' N' l1 l2; (try k_lt l1); (try k_lt2 l2); ((with_reducible refine' ks_code_super ?k1 ?k2 ?k3 ?k4 ?k5 ?kA ?kF ?kK ?k6 ?k7 ?k8 ?k9 ?kB ?_ ?c1 ?c2 ?c3 ?c4); (case kA => exact rfl); (case kF => exact rfl); (case kK => first | exact rfl | assumption); (case k1 => k_asm); (case k2 => k_asm); (case k3 => k_asm); (case k4 => k_asm); (case k5 => k_asm); (case k6 => k_is); (case k7 => k_is); (case k8 => ktr_room); (case k9 => first | exact binds_K (by k_in) rfl (by k_is) rfl rfl rfl | exact BindsTo.of_eq rfl); (case kB => exact locs rfl); (case c1 => decide); (case c2 => exact rfl); (case c3 => exact rfl); (case c4 => exact rfl); intro g' L' h' FG' F' N' B' X' T' l1; (try k_lt l1); (try dsimp only); (try k_lift B'))))) | (((with_reducible show _root_.PySem.wpAt _ _ _ _ _ _ _); first | ((with_reducible refine ks_wpAt_MethodCall ?_ (by with_unfolding_all exact rfl))) | ((with_reducible refine ks_wpAt_Expr_any ?_ (by with_unfolding_all exact rfl) (by k_dflt kernel_rfl))) | (dsimp only; (with_reducible refine ks_wpAt_execs_cons ?_)))) | (((with_reducible show wpAny _ _ (callWith _ (Value.ref _) _ (backTo _ (starEach [] _)) []) _ _ _); k_dflt (first | ((with_reducible refine' lcallWith0 (bt := "builtin_function_or_method") ?k1 ?k2 (.inl rfl) ?_); (case k1 => k_asm); (case k2 => k_mem); k_whole) | ((with_reducible refine' lcallWith0 (bt := "method-wrapper") ?k1 ?k2 (.inr rfl) ?_); (case k1 => k_asm); (case k2 => k_mem); k_whole)))) | (((with_reducible show wpAny _ _ (call (Value.ref _) []) _ _ _); k_dflt (first | ((with_reducible refine' linit ?k1 ?k2 ?k3 ?k4 ?_); (case k1 => k_asm); (case k2 => k_asm); (case k3 => k_mem); (case k4 => k_upd); k_whole; intro h' F' N') | ((with_reducible refine' llen_one ?k2 ?k3 ?k4 ?_); (case k2 => k_asm); (case k3 => k_mem); (case k4 => k_mem); k_whole; intro t' k') | ((with_reducible refine' llen_two ?k2 ?k3 ?k4 ?_); (case k2 => k_asm); (case k3 => k_mem); (case k4 => k_mem); k_whole; intro t' k') | ((with_reducible refine' lpop ?k1 ?kx ?k2 ?ki ?km ?kc ?kt ?k3 ?k4 ?_); (case k1 => k_asm); (case kx => k_asm); (case k2 => k_asm); (case ki => k_inst); (case km => k_is); (case kc => exact acc_named _); (case kt => k_is); (case k3 => k_mem); (case k4 => k_upd); k_whole; intro h' F' N')))) | (((with_reducible show wpAny _ _ (getMethod (Value.ref _) _ _) _ _ _); k_dflt (first | ((with_reducible show wpAny _ _ (getMethod (Value.ref _) (PySem.Str.ofString "pop") _) _ _ _); (with_reducible refine' lsuper_method bound_pop ?k9 ?k1 ?k2 ?k3 ?k4 ?k5 ?k6 ?k7 ?_); (case k1 => k_asm); (case k2 => k_asm); (case k3 => k_asm); (case k4 => k_mem); (case k5 => k_inst); (case k6 => k_is); (case k7 => exact acc_plain _); (case k9 => decide); intro q' h' F' N' l1; (try k_lt l1)) | ((with_reducible show wpAny _ _ (getMethod (Value.ref _) (PySem.Str.ofString "__len__") _) _ _ _); (with_reducible refine' lsuper_method bound_len ?k9 ?k1 ?k2 ?k3 ?k4 ?k5 ?k6 ?k7 ?_); (case k1 => k_asm); (case k2 => k_asm); (case k3 => k_asm); (case k4 => k_mem); (case k5 => k_inst); (case k6 => k_is); (case k7 => exact acc_plain _); (case k9 => decide); intro q' h' F' N' l1; (try k_lt l1)) | ((with_reducible show wpAny _ _ (getMethod (Value.ref _) (PySem.Str.ofString "__init__") _) _ _ _); (with_reducible refine' lsuper_method bound_init ?k9 ?k1 ?k2 ?k3 ?k4 ?k5 ?k6 ?k7 ?_); (case k1 => k_asm); (case k2 => k_asm); (case k3 => k_asm); (case k4 => k_mem); (case k5 => k_inst); (case k6 => k_is); (case k7 => exact acc_plain _); (case k9 => decide); intro q' h' F' N' l1; (try k_lt l1))))) | (((with_reducible show wpAny _ _ (setAttr (Value.ref _) _ _) _ _ _); (try dsimp only); k_dflt ((with_reducible refine' lset_dict ?k1 ?k2 ?k3 ?k4 ?k5 ?k6 ?k7 ?k8 ?k9 ?k10 ?k11 ?k12 ?k13 ?_); (case k1 => k_asm); (case k2 => k_asm); (case k3 => k_asm); (case k4 => k_inst); (case k5 => exact rfl); (case k6 => k_is); (case k7 => exact acc_plain _); (case k8 => k_is); (case k9 => k_is); (case k10 => k_get); (case k11 => first | k_put | exact put_ini); (case k12 => k_upd); (case k13 => exact Nat.le_of_ble_eq_true rfl); k_whole; intro h' F' N'; (try k_sweep)))) | ((with_reducible show wpAny _ _ (execs (_ :: _) _) _ _ _); (with_reducible refine set_f (by assumption) ?_); intro mC FC QC EC tC; walk1) | (k_unfold; (try dsimp only)) | walk1)
  rename Fr _ _ _ _ => F1
  rename News _ _ _ _ => N1
  refine PgA.casesOn (w := w) (lr := lr) (a1 := a1) (a2 := a2) (a3 := a3) (width := width) (pl1 := pl1) (pl2 := pl2) (rows := [(lr, listOf #[.ref a1, .ref a2, .ref a3] n0), (a1, rowO p1 t1 q1 t2 (chr1 c1) t3), (a2, rowO p2 t4 q2 t5 (chr1 c2) t6), (a3, rowO p3 t7 q3 t8 (chr1 c3) t9)]) (.mk _ _ _ _ _ _ _ _ _ _ _ _ _ _ _ _ _ _ _ _ _ _ _ (news_in N1 (by exact ⟨(by repeat (first | exact List.Mem.head _ | refine List.Mem.tail _ ?_)), (by repeat (first | exact List.Mem.head _ | refine List.Mem.tail _ ?_)), (by repeat (first | exact List.Mem.head _ | refine List.Mem.tail _ ?_)), (by repeat (first | exact List.Mem.head _ | refine List.Mem.tail _ ?_)), (by repeat (first | exact List.Mem.head _ | refine List.Mem.tail _ ?_)), (by repeat (first | exact List.Mem.head _ | refine List.Mem.tail _ ?_)), (by repeat (first | exact List.Mem.head _ | refine List.Mem.tail _ ?_)), (by repeat (first | exact List.Mem.head _ | refine List.Mem.tail _ ?_)), (by repeat (first | exact List.Mem.head _ | refine List.Mem.tail _ ?_)), (by repeat (first | exact List.Mem.head _ | refine List.Mem.tail _ ?_)), (by repeat (first | exact List.Mem.head _ | refine List.Mem.tail _ ?_)), trivial⟩)) ((fr_own _ F1 (by exact ⟨rfl, rfl, rfl, trivial⟩))) (by omega) (by omega) (by omega) (by omega) (by omega) ⟨by omega, by omega, by omega, by omega⟩) ?_
  intro u ax dxa ll xo dxo k1 k2 k3 k4 k5 k6 tw u2 u3 u4 tk ti tp np na ne nl N2 F2 b5 b1 b2 b3 b4 br
  clear F1 N1
  have hr : ∀ x ∈ [(lr, listOf #[.ref a1, .ref a2, .ref a3] n0), (a1, rowO p1 t1 q1 t2 (chr1 c1) t3), (a2, rowO p2 t4 q2 t5 (chr1 c2) t6), (a3, rowO p3 t7 q3 t8 (chr1 c3) t9)], @LT.lt Nat _ 176 x.1 ∧ @LT.lt Nat _ x.1 dxo := List.forall_mem_cons.mpr ⟨⟨hlr.1, br.1⟩, List.forall_mem_cons.mpr ⟨⟨hlr.2.1, br.2.1⟩, List.forall_mem_cons.mpr ⟨⟨hlr.2.2.1, br.2.2.1⟩, List.forall_mem_cons.mpr ⟨⟨hlr.2.2.2, br.2.2.2⟩, fun _ h => nomatch h⟩⟩⟩⟩
  replace hr := Kept.mk hr
  have hxa : @LT.lt Nat _ dxo ax := Nat.lt_trans (Nat.lt_trans (Nat.lt_trans b1 b2) b3) b4
  refine For_rows (its := #[.ref a1, .ref a2, .ref a3]) (n0 := n0) (pgJ w ax dxa ll xo dxo k1 k2 k3 k4 k5 k6 tw u2 u3 u4 width np lr [(lr, listOf #[.ref a1, .ref a2, .ref a3] n0), (a1, rowO p1 t1 q1 t2 (chr1 c1) t3), (a2, rowO p2 t4 q2 t5 (chr1 c2) t6), (a3, rowO p3 t7 q3 t8 (chr1 c3) t9)] p1 q1 c1 p2 q2 c2 p3 q3 c3) rfl F2 N2 GB rfl rfl rfl rfl ?frefs ?fmem ?fj ?turn ?done ?fE (by decide) (fun _ => rfl)
  case frefs =>
    intro i v hv
    match i, hv with
    | 0, hv => exact ⟨_, (Option.some.inj hv).symm⟩
    | 1, hv => exact ⟨_, (Option.some.inj hv).symm⟩
    | 2, hv => exact ⟨_, (Option.some.inj hv).symm⟩
    | i + 3, hv => cases hv
  case fmem =>
    intro i m nx hJ
    match i, hJ with
    | 0, h => exact h.mem (.head _)
    | 1, .mk _ _ _ _ h => exact h.mem (.head _)
    | 2, .mk _ _ _ _ _ h => exact h.mem (.head _)
    | 3, .mk _ _ _ _ _ _ h => exact h.mem (.head _)
    | i + 4, hJ => exact hJ.elim
  case fj => exact PgS.mk _ _ _ _ _ _ _ _ _ hpl1 hpl2
  case fE => passes_own
  case turn =>
    clear F2 N2 hret
    intro i v m₁ nx h₁ tk₁ gs I o hv hne hJ
    match i, hv, hJ with
    | 0, hv, hJ =>
      obtain rfl : v = Value.ref a1 := (Option.some.inj hv).symm
      revert hne
      refine PgS.casesOn (show PgS w ax dxa ll xo dxo k1 k2 k3 k4 k5 k6 tw u2 u3 u4 width np lr [(lr, listOf #[.ref a1, .ref a2, .ref a3] n0), (a1, rowO p1 t1 q1 t2 (chr1 c1) t3), (a2, rowO p2 t4 q2 t5 (chr1 c2) t6), (a3, rowO p3 t7 q3 t8 (chr1 c3) t9)] [] #[] #[] m₁ nx from hJ) ?_
      intro u tp tk ti na ne nl pl1 pl2 ht1 ht2 hne G1 F3 N3 hnI
      clear hnI hJ
      have hdis := Kept.mk (dis_pageI (o := o) (own := [(ax, accO 207 dxa #[] na), (dxa, iniD w tk ti ne), (ll, listOf #[] nl), (xo, instObj 123 dxo), (dxo, pageD w k1 k2 k3 k4 k5 k6 tw u2 u3 u4 width ll ax np), (169, tabObj pl1), (176, tabObj pl2)]) hne hr.v (own_ok b1 b2 b3 b4))
      replace hne : Kept (∀ q ∈ [(ax, accO 207 dxa #[] na), (dxa, iniD w tk ti ne), (ll, listOf #[] nl), (xo, instObj 123 dxo), (dxo, pageD w k1 k2 k3 k4 k5 k6 tw u2 u3 u4 width ll ax np), (169, tabObj pl1), (176, tabObj pl2)] ++ [(lr, listOf #[.ref a1, .ref a2, .ref a3] n0), (a1, rowO p1 t1 q1 t2 (chr1 c1) t3), (a2, rowO p2 t4 q2 t5 (chr1 c2) t6), (a3, rowO p3 t7 q3 t8 (chr1 c3) t9)], q.1 ≠ I) := Kept.mk hne
      have hm1 := mul4 hp1
      have hm2 := mul4 hq1
      dsimp only [List.nil_append, List.cons_append] at N3 ⊢
      repeat' ((fail_if_success (with_reducible show wpAny _ _ (call (Value.ref _) _) _ _ _)); first | (((with_reducible show wpAny _ _ (binaryOp PySem.Operator.Mult (Value.str _ _) (Value.int _ _)) _ _ _); k_dflt (first | ((with_reducible show wpAny _ _ (binaryOp _ (Value.str (chr1 _) _) (Value.int _ _)) _ _ _); (with_reducible refine' mul_c ?z ?_); (case z => assumption); intro t' k') | ((with_reducible show wpAny _ _ (binaryOp _ (Value.str (PySem.Str.ofString _) _) (Value.int _ _)) _ _ _); (with_reducible refine' mul_sp ?z ?_); (case z => assumption); intro t' k')); (try simp only [Int.toNat_natCast]))) | ((with_reducible show wpAny _ _ (execs (_ :: _) _) _ _ _); (with_reducible refine set_f (by assumption) ?_); intro mC FC QC EC tC; walk1) | walk1)
      refine' CtG.use (chunkA_ct (rest := (I, o) :: [(lr, listOf #[.ref a1, .ref a2, .ref a3] n0), (a1, rowO p1 t1 q1 t2 (chr1 c1) t3), (a2, rowO p2 t4 q2 t5 (chr1 c2) t6), (a3, rowO p3 t7 q3 t8 (chr1 c3) t9)]) b5 b1 b2 b3 b4 ht1 ht2 hp1 hq1 hdis.v) ?B ?F ?X ?N ?T rfl ?hd ?hu ?GB ?_
      case F => k_asm
      case N => exact news_in (by k_asm) (by exact ⟨(by repeat (first | exact List.Mem.head _ | refine List.Mem.tail _ ?_)), (by repeat (first | exact List.Mem.head _ | refine List.Mem.tail _ ?_)), (by repeat (first | exact List.Mem.head _ | refine List.Mem.tail _ ?_)), (by repeat (first | exact List.Mem.head _ | refine List.Mem.tail _ ?_)), (by repeat (first | exact List.Mem.head _ | refine List.Mem.tail _ ?_)), (by repeat (first | exact List.Mem.head _ | refine List.Mem.tail _ ?_)), (by repeat (first | exact List.Mem.head _ | refine List.Mem.tail _ ?_)), (by repeat (first | exact List.Mem.head _ | refine List.Mem.tail _ ?_)), (by repeat (first | exact List.Mem.head _ | refine List.Mem.tail _ ?_)), (by repeat (first | exact List.Mem.head _ | refine List.Mem.tail _ ?_)), (by repeat (first | exact List.Mem.head _ | refine List.Mem.tail _ ?_)), (by repeat (first | exact List.Mem.head _ | refine List.Mem.tail _ ?_)), trivial⟩)
      case B => k_asm
      case X => k_asm
      case T => k_asm
      case hd => ktr_room
      case hu => ktr_units
      case GB => assumption
      intro r nx' h' tk' gs' hP
      refine ChunkP.casesOn hP ?_
      clear hP
      intro ta y y1 y2 tk ti na ne nl pl1 pl2 ht1 ht2 b6 hta F9 N9 G9
      dsimp only
      repeat' ((fail_if_success (with_reducible show wpAny _ _ (call (Value.ref _) _) _ _ _)); first | (k_unfold; (try dsimp only)) | walk1)
      refine growG_end G9 ((fr_own _ (by assumption) (by exact ⟨rfl, rfl, rfl, trivial⟩))) N9 (sub_turn) (List.mem_append_right _ (.head _)) (ne_turn hne.v rfl hta) (PgJ1.mk ta _ _ b6 (PgS.mk _ _ _ _ _ _ _ _ _ ht1 ht2))
    | i + 1, hv, hJ =>
      have hB : PgB w ax dxa ll xo dxo k1 k2 k3 k4 k5 k6 tw u2 u3 u4 width np lr [(lr, listOf #[.ref a1, .ref a2, .ref a3] n0), (a1, rowO p1 t1 q1 t2 (chr1 c1) t3), (a2, rowO p2 t4 q2 t5 (chr1 c2) t6), (a3, rowO p3 t7 q3 t8 (chr1 c3) t9)] p1 q1 c1 p2 q2 c2 p3 q3 c3 i m₁ nx v := by
        match i, hv, hJ with
        | 0, hv, .mk ta x1 x2 b6 hP => rw [← Option.some.inj hv]; exact .mk a2 #[] ta x1 x2 p1 q1 c1 p2 q2 c2 t4 t5 t6 b6 hP hp1 hq1 hp2 hq2 h1 h2 (.tail _ (.tail _ (.head _))) (fun m nx ta' x1' x2' y b h => PgJ2.mk ta' x1' x2' y b h) (Nat.zero_le _)
        | 1, hv, .mk ta x1 x2 y1 b6 hP => rw [← Option.some.inj hv]; exact .mk a3 #[.str (blk p1 q1 c1) y1] ta x1 x2 p2 q2 c2 p3 q3 c3 t7 t8 t9 b6 hP hp2 hq2 hp3 hq3 h2 h3 (.tail _ (.tail _ (.tail _ (.head _)))) (fun m nx ta' x1' x2' y b h => PgJ3.mk ta' x1' x2' y1 y b h) (by unfold sizeLine; simp)
        | i + 2, hv, _ => exact absurd hv (by simp)
      clear hv hJ
      refine PgB.casesOn hB ?_
      clear hB
      intro ar lns ta x1 x2 p q c p' q' c' r1 r2 r3 b6 hP hs1 hs1' hs2 hs2' hs3 hs3' hmr0 hnext hlz
      revert hne
      refine PgS.casesOn hP ?_
      clear hP
      intro u tp tk ti na ne nl pl1 pl2 ht1 ht2 hne G1 F3 N3 hnI
      clear hnI
      have hdis := Kept.mk (dis_pageI (o := o) (own := [(ta, pairO (blk p 0 0) x1 (blk 0 q c) x2), (ax, accO 207 dxa #[.ref ta] na), (dxa, iniD w tk ti ne), (ll, listOf lns nl), (xo, instObj 123 dxo), (dxo, pageD w k1 k2 k3 k4 k5 k6 tw u2 u3 u4 width ll ax np), (169, tabObj pl1), (176, tabObj pl2)]) hne hr.v (own_ta (own_ok b1 b2 b3 b4) hxa b6))
      replace hne : Kept (∀ q ∈ [(ax, accO 207 dxa #[.ref ta] na), (dxa, iniD w tk ti ne), (ll, listOf lns nl), (xo, instObj 123 dxo), (dxo, pageD w k1 k2 k3 k4 k5 k6 tw u2 u3 u4 width ll ax np), (169, tabObj pl1), (176, tabObj pl2)] ++ [(lr, listOf #[.ref a1, .ref a2, .ref a3] n0), (a1, rowO p1 t1 q1 t2 (chr1 c1) t3), (a2, rowO p2 t4 q2 t5 (chr1 c2) t6), (a3, rowO p3 t7 q3 t8 (chr1 c3) t9)], q.1 ≠ I) := Kept.mk (fun q hq => hne q (.tail _ hq))
      replace hnext := Kept.mk hnext
      have hm1 := mul4 hs2
      have hm2 := mul4 hs2'
      dsimp only [List.nil_append, List.cons_append] at N3 ⊢
      have N4 : News _ _ h₁ ((ar, rowO p' r1 q' r2 (chr1 c') r3) :: (I, o) :: [(ta, pairO (blk p 0 0) x1 (blk 0 q c) x2), (ax, accO 207 dxa #[.ref ta] na), (dxa, iniD w tk ti ne), (ll, listOf lns nl), (xo, instObj 123 dxo), (dxo, pageD w k1 k2 k3 k4 k5 k6 tw u2 u3 u4 width ll ax np), (169, tabObj pl1), (176, tabObj pl2), (lr, listOf #[.ref a1, .ref a2, .ref a3] n0), (a1, rowO p1 t1 q1 t2 (chr1 c1) t3), (a2, rowO p2 t4 q2 t5 (chr1 c2) t6), (a3, rowO p3 t7 q3 t8 (chr1 c3) t9)]) := fun x hx => by
        rcases List.mem_cons.mp hx with rfl | hx
        · exact N3 _ (.tail _ (.tail _ (.tail _ (.tail _ (.tail _ (.tail _ (.tail _ (.tail _ (.tail _ hmr0)))))))))
        · exact N3 x hx
      clear N3
      repeat' ((fail_if_success (with_reducible show wpAny _ _ (call (Value.ref _) _) _ _ _)); first | (((with_reducible show wpAny _ _ (binaryOp PySem.Operator.Mult (Value.str _ _) (Value.int _ _)) _ _ _); k_dflt (first | ((with_reducible show wpAny _ _ (binaryOp _ (Value.str (chr1 _) _) (Value.int _ _)) _ _ _); (with_reducible refine' mul_c ?z ?_); (case z => assumption); intro t' k') | ((with_reducible show wpAny _ _ (binaryOp _ (Value.str (PySem.Str.ofString _) _) (Value.int _ _)) _ _ _); (with_reducible refine' mul_sp ?z ?_); (case z => assumption); intro t' k')); (try simp only [Int.toNat_natCast]))) | ((with_reducible show wpAny _ _ (execs (_ :: _) _) _ _ _); (with_reducible refine set_f (by assumption) ?_); intro mC FC QC EC tC; walk1) | walk1)
      refine' CtG.use (chunkB_ct (rest := (I, o) :: [(lr, listOf #[.ref a1, .ref a2, .ref a3] n0), (a1, rowO p1 t1 q1 t2 (chr1 c1) t3), (a2, rowO p2 t4 q2 t5 (chr1 c2) t6), (a3, rowO p3 t7 q3 t8 (chr1 c3) t9)]) b5 b1 b2 b3 b4 ht1 ht2 b6 hs1 hs1' hs2 hs2' hs3 hs3' hw.2 hlz hdis.v) ?B ?F ?X ?N ?T rfl ?hd ?hu ?GB ?_
      case F => k_asm
      case N => exact news_in (by k_asm) (by exact ⟨(by repeat (first | exact List.Mem.head _ | refine List.Mem.tail _ ?_)), (by repeat (first | exact List.Mem.head _ | refine List.Mem.tail _ ?_)), (by repeat (first | exact List.Mem.head _ | refine List.Mem.tail _ ?_)), (by repeat (first | exact List.Mem.head _ | refine List.Mem.tail _ ?_)), (by repeat (first | exact List.Mem.head _ | refine List.Mem.tail _ ?_)), (by repeat (first | exact List.Mem.head _ | refine List.Mem.tail _ ?_)), (by repeat (first | exact List.Mem.head _ | refine List.Mem.tail _ ?_)), (by repeat (first | exact List.Mem.head _ | refine List.Mem.tail _ ?_)), (by repeat (first | exact List.Mem.head _ | refine List.Mem.tail _ ?_)), (by repeat (first | exact List.Mem.head _ | refine List.Mem.tail _ ?_)), (by repeat (first | exact List.Mem.head _ | refine List.Mem.tail _ ?_)), (by repeat (first | exact List.Mem.head _ | refine List.Mem.tail _ ?_)), (by repeat (first | exact List.Mem.head _ | refine List.Mem.tail _ ?_)), trivial⟩)
      case B => k_asm
      case X => k_asm
      case T => k_asm
      case hd => ktr_room
      case hu => ktr_units
      case GB => assumption
      intro r nx' h' tk' gs' hP
      refine ChunkP.casesOn hP ?_
      clear hP
      intro ta' y y1 y2 tk ti na ne nl pl1 pl2 ht1 ht2 b6' hta F9 N9 G9
      dsimp only
      repeat' ((fail_if_success (with_reducible show wpAny _ _ (call (Value.ref _) _) _ _ _)); first | (k_unfold; (try dsimp only)) | walk1)
      refine growG_end G9 ((fr_own _ (by assumption) (by exact ⟨rfl, rfl, rfl, trivial⟩))) N9 (sub_turn) (List.mem_append_right _ (.head _)) (ne_turn hne.v rfl hta) (hnext.v _ _ _ _ _ _ b6' (PgS.mk _ _ _ _ _ _ _ _ _ ht1 ht2))
  case done =>
    clear F2 N2
    intro m₁ nx h₃ tk₃ gs hJ
    refine PgJ3.casesOn hJ ?_
    clear hJ
    intro ta x1 x2 y1 y2 b6 hP
    refine PgS.casesOn hP ?_
    clear hP
    intro u tp tk ti na ne nl pl1 pl2 ht1 ht2 G3 F3 N3
    have hdis9 := Kept.mk (dis_page (own := [(ta, pairO (blk p3 0 0) x1 (blk 0 q3 c3) x2), (ax, accO 207 dxa #[.ref ta] na), (dxa, iniD w tk ti ne), (ll, listOf #[.str (blk p1 q1 c1) y1, .str (blk p2 q2 c2) y2] nl), (xo, instObj 123 dxo), (dxo, pageD w k1 k2 k3 k4 k5 k6 tw u2 u3 u4 width ll ax np), (169, tabObj pl1), (176, tabObj pl2)]) hr.v (own_ta (own_ok b1 b2 b3 b4) hxa b6))
    have hj : p1 + q1 ≤ 4000 ∧ p2 + q2 ≤ 4000 ∧ p3 + q3 ≤ 4000 := by omega
    dsimp only [List.nil_append, List.cons_append] at N3 ⊢
    repeat' ((fail_if_success (with_reducible show wpAny _ _ (call (Value.ref _) _) _ _ _)); first | ((with_reducible show wpAny _ _ (execs (_ :: _) _) _ _ _); (with_reducible refine set_f (by assumption) ?_); intro mC FC QC EC tC; walk1) | walk1)
    refine' CtG.use (pstr_ct (rest := [(lr, listOf #[.ref a1, .ref a2, .ref a3] n0), (a1, rowO p1 t1 q1 t2 (chr1 c1) t3), (a2, rowO p2 t4 q2 t5 (chr1 c2) t6), (a3, rowO p3 t7 q3 t8 (chr1 c3) t9)]) b5 b1 b2 b3 b4 ht1 ht2 b6 hp3 hq3 hc3 hj hdis9.v) ?B ?F ?X ?N ?T rfl ?hd ?hu ?GB ?_
    case F => k_asm
    case N => exact news_in (by k_asm) (by exact ⟨(by repeat (first | exact List.Mem.head _ | refine List.Mem.tail _ ?_)), (by repeat (first | exact List.Mem.head _ | refine List.Mem.tail _ ?_)), (by repeat (first | exact List.Mem.head _ | refine List.Mem.tail _ ?_)), (by repeat (first | exact List.Mem.head _ | refine List.Mem.tail _ ?_)), (by repeat (first | exact List.Mem.head _ | refine List.Mem.tail _ ?_)), (by repeat (first | exact List.Mem.head _ | refine List.Mem.tail _ ?_)), (by repeat (first | exact List.Mem.head _ | refine List.Mem.tail _ ?_)), (by repeat (first | exact List.Mem.head _ | refine List.Mem.tail _ ?_)), (by repeat (first | exact List.Mem.head _ | refine List.Mem.tail _ ?_)), (by repeat (first | exact List.Mem.head _ | refine List.Mem.tail _ ?_)), (by repeat (first | exact List.Mem.head _ | refine List.Mem.tail _ ?_)), (by repeat (first | exact List.Mem.head _ | refine List.Mem.tail _ ?_)), trivial⟩)
    case B => k_asm
    case X => k_asm
    case T => k_asm
    case hd => ktr_room
    case hu => ktr_units
    case GB => assumption
    intro r nx' h' tk' gs' hP
    refine PstrP.casesOn hP ?_
    clear hP
    intro t pa pb ht1 ht2 F9 N9 G9
    dsimp only [List.nil_append, List.cons_append] at N9 ⊢
    repeat' ((fail_if_success (with_reducible show wpAny _ _ (call (Value.ref _) _) _ _ _)); first | (k_unfold; (try dsimp only)) | walk1)
    rename News h₀ L _ rest => NR9
    rename News h₀ L _ (_ :: _) => N9
    exact hret _ _ _ _ _ (by k_asm) (news_of N9 NR9 (by exact ⟨(by repeat (first | exact List.Mem.head _ | refine List.Mem.tail _ ?_)), (by repeat (first | exact List.Mem.head _ | refine List.Mem.tail _ ?_)), (by repeat (first | exact List.Mem.head _ | refine List.Mem.tail _ ?_)), (by repeat (first | exact List.Mem.head _ | refine List.Mem.tail _ ?_)), (by repeat (first | exact List.Mem.head _ | refine List.Mem.tail _ ?_)), (by repeat (first | exact List.Mem.head _ | refine List.Mem.tail _ ?_)), trivial⟩)) (by assumption) (.mk _ _ _ ht1 ht2)
end Mine
-- S1
theorem Mine.top_offS1 : True := by
  w_top off
  exact trivial
namespace Mine
theorem pow6_ne (k : Nat) : (6 : Int) ^ k ≠ 0 := Int.ne_of_gt (Int.pow_pos (by decide))
theorem pow6_small {k : Int} (h0 : 0 ≤ k) (h1 : k ≤ 6) : ((6 : Int) ^ k.toNat).natAbs < 1073741824 := by
  have key : ∀ j : Fin 7, ((6 : Int) ^ j.val).natAbs < 1073741824 := by decide +kernel
  exact key ⟨k.toNat, by omega⟩
theorem fdiv5_small {n : Int} (hn : 0 ≤ n ∧ n ≤ 2000000) : 0 ≤ n.fdiv 5 ∧ n.fdiv 5 ≤ 400000 := by
  rw [Int.fdiv_eq_ediv_of_nonneg _ (by decide)]; omega
/-- the faults of a number -/
def faultsL (n : Int) : List Int := (rangeKs 0 (((n.fdiv 5).fmod 6 - 0).toNat)).map fun k => ((n.fdiv 5).fdiv (6 ^ (k + 1).toNat)).fmod 6
theorem faults_ct {w : World} (n : Int) (tn : Tok) (news : List (Addr × Obj)) (hn : 0 ≤ n ∧ n ≤ 2000000) :
    Ct w 3 228 [.int n tn] news (IntsP news (faultsL n)) := by
  unfold Ct
  intro p₉ lo₉ mean mg mb dp un gd cn cs a ccd cl outer A₀ base h₀ L m hp9 gs9 dr9 tk9 os9 Q E B F X N T hk hd hu hret
  refine wpAny_call ?_
  k_dflt (first
  | cell_enter
  | (refine' code_defC ?k1 ?k2 ?k3 ?k4 ?k5 ?kA ?kF ?kK ?k6 ?k7 ?k8 ?k9 ?kB ?kD ?_ ?c2 ?c3 ?c4; (case kA => exact rfl); (case kF => exact rfl); (case kK => assumption); (case k1 => k_asm); (case k2 => k_asm); (case k3 => k_asm); (case k4 => k_asm); (case k5 => k_asm); (case k6 => k_is); (case k7 => k_is); (case k8 => ktr_room); (case k9 => exact BindsTo.of_eq rfl); (case kB => exact rfl); (case kD => decide +kernel); (case c2 => exact rfl); (case c3 => exact rfl); (case c4 => exact rfl); k_whole; intro g' L' h' tk' cells' FG' F' N' Y' B' X' T' l1; k_cells Y'; (try simp only [List.cons_append, List.nil_append] at N'); (try dsimp only); (try k_lift B'); (try k_fold)))
  refine set_e ?_
  intro e9 A9
  have qd9 : A9.depth = dp + 1 := rfl
  have qu9 : A9.units = un + 3 := rfl
  have h5 := fdiv5_small hn
  repeat' (first | (((with_reducible show wpAny _ _ (binaryOp _ (Value.int _ _) (Value.int (6 ^ _) _)) _ _ _); (with_reducible refine floordiv_int (pow6_ne _) ?_ (Or.inl (PyProof.noPylong_small (pow6_small (by omega) (by omega))))))) | ((with_reducible refine Jb ?_); (try dsimp only)) | (with_reducible first | refine Jc ?_ | refine Jf ?_ | refine Jg ?_ | refine Jt ?_ | refine ci_ ?_ | refine bin_ ?_) | ((with_reducible refine' ld_ ?zF ?zv ?zl ?zb ?_); (case zl | zb => exact rfl); (case zF => assumption); (case zv => exact rfl)) | with_reducible refine asg_ ?_ | ((with_reducible refine Jr (by with_reducible assumption) ?_); intro mC FC EC QC tC) | (k_unfold; (try dsimp only)) | walk1)
  rename (_ ∧ LCg.Off1 _ news) => ho
  rename IntsAre _ (List.map _ _) => hI
  exact hret _ [(_, LCg.lst _)] _ _ (by k_asm) (news_drop2 (by k_asm)) (.mk _ _ hI (off1_all ho.2))
end Mine
-- S2
theorem Mine.top_offS2 : True := by
  w_top off
  exact trivial
namespace Mine
def sel6 {α : Type} (k : Int) (a0 a1 a2 a3 a4 a5 : α) : α := if k = 0 then a0 else if k = 1 then a1 else if k = 2 then a2 else if k = 3 then a3 else if k = 4 then a4 else a5
def dxF (k : Int) : Int := sel6 k 1 0 (-1) (-1) 0 1
def dyF (k : Int) : Int := sel6 k 0 1 1 0 (-1) (-1)
theorem mem_rng {fs : List Int} {k : Int} (hf : ∀ f ∈ fs, 0 ≤ f ∧ f ≤ 5) (hk : k ∈ fs) : 0 ≤ k ∧ k ≤ 5 := hf k hk
section
variable {prog : Program} {w : World} {A : Around} {E : Value → Shared → Prop} {s : Shared} {h₀ : Heap} {L : Addr} {news : List (Addr × Obj)} {value slice : Expr} {l a0 a1 a2 a3 a4 a5 : Addr} {n : Nat} {k : Int} {u t0 u0 t1 u1 t2 u2 t3 u3 t4 u4 t5 u5 : Tok} {Q : Value → Shared → Prop}
theorem sel_item (N : News h₀ L s.heap news) (hm : (l, listOf #[.ref a0, .ref a1, .ref a2, .ref a3, .ref a4, .ref a5] n) ∈ news) (hk : 0 ≤ k ∧ k ≤ 5) (h : ∀ a, a = sel6 k a0 a1 a2 a3 a4 a5 → Q (.ref a) s)
    (hs : subscripted slice false (.ref l) (.int k u) = operate [.ref l, .int k u] (getItem (.ref l) (.int k u)) := by with_unfolding_all rfl) (hg : ∀ r, letTemporaryGo value (.ref l) r = pure () := by intro _; with_unfolding_all rfl) :
    wpAny (model prog w) A (subscriptTail value slice (.ref l) (.int k u)) Q E s := by
  refine kim_list (l := [.ref a0, .ref a1, .ref a2, .ref a3, .ref a4, .ref a5]) N hm rfl rfl hk.1 (by omega) ?_ (h _ rfl) hs hg
  have hc : k = 0 ∨ k = 1 ∨ k = 2 ∨ k = 3 ∨ k = 4 ∨ k = 5 := by omega
  rcases hc with rfl | rfl | rfl | rfl | rfl | rfl <;> rfl
theorem sel_x {a : Addr} (ha : a = sel6 k a0 a1 a2 a3 a4 a5) (N : News h₀ L s.heap news) (m0 : (a0, ({ cls := .type "tuple", data := .seq #[.int 1 t0, .int 0 u0] } : Obj)) ∈ news)
    (m1 : (a1, ({ cls := .type "tuple", data := .seq #[.int 0 t1, .int 1 u1] } : Obj)) ∈ news)
    (m2 : (a2, ({ cls := .type "tuple", data := .seq #[.int (-1) t2, .int 1 u2] } : Obj)) ∈ news)
    (m3 : (a3, ({ cls := .type "tuple", data := .seq #[.int (-1) t3, .int 0 u3] } : Obj)) ∈ news)
    (m4 : (a4, ({ cls := .type "tuple", data := .seq #[.int 0 t4, .int (-1) u4] } : Obj)) ∈ news)
    (m5 : (a5, ({ cls := .type "tuple", data := .seq #[.int 1 t5, .int (-1) u5] } : Obj)) ∈ news)
    (hk : 0 ≤ k ∧ k ≤ 5) (h : ∀ t, Q (.int (dxF k) t) s)
    (hs : subscripted slice false (.ref a) (.int 0 u) = operate [.ref a, .int 0 u] (getItem (.ref a) (.int 0 u)) := by with_unfolding_all rfl) (hg : ∀ r, letTemporaryGo value (.ref a) r = pure () := by intro _; with_unfolding_all rfl) :
    wpAny (model prog w) A (subscriptTail value slice (.ref a) (.int 0 u)) Q E s := by
  have hc : k = 0 ∨ k = 1 ∨ k = 2 ∨ k = 3 ∨ k = 4 ∨ k = 5 := by omega
  rcases hc with rfl | rfl | rfl | rfl | rfl | rfl
  · obtain rfl : a = a0 := ha
    exact kim_tup (j := 0) (l := [.int (1) t0, .int (0) u0]) N m0 rfl rfl (by decide) (by decide) rfl rfl (h _) hs hg
  · obtain rfl : a = a1 := ha
    exact kim_tup (j := 0) (l := [.int (0) t1, .int (1) u1]) N m1 rfl rfl (by decide) (by decide) rfl rfl (h _) hs hg
  · obtain rfl : a = a2 := ha
    exact kim_tup (j := 0) (l := [.int (-1) t2, .int (1) u2]) N m2 rfl rfl (by decide) (by decide) rfl rfl (h _) hs hg
  · obtain rfl : a = a3 := ha
    exact kim_tup (j := 0) (l := [.int (-1) t3, .int (0) u3]) N m3 rfl rfl (by decide) (by decide) rfl rfl (h _) hs hg
  · obtain rfl : a = a4 := ha
    exact kim_tup (j := 0) (l := [.int (0) t4, .int (-1) u4]) N m4 rfl rfl (by decide) (by decide) rfl rfl (h _) hs hg
  · obtain rfl : a = a5 := ha
    exact kim_tup (j := 0) (l := [.int (1) t5, .int (-1) u5]) N m5 rfl rfl (by decide) (by decide) rfl rfl (h _) hs hg
theorem sel_y {a : Addr} (ha : a = sel6 k a0 a1 a2 a3 a4 a5) (N : News h₀ L s.heap news) (m0 : (a0, ({ cls := .type "tuple", data := .seq #[.int 1 t0, .int 0 u0] } : Obj)) ∈ news)
    (m1 : (a1, ({ cls := .type "tuple", data := .seq #[.int 0 t1, .int 1 u1] } : Obj)) ∈ news)
    (m2 : (a2, ({ cls := .type "tuple", data := .seq #[.int (-1) t2, .int 1 u2] } : Obj)) ∈ news)
    (m3 : (a3, ({ cls := .type "tuple", data := .seq #[.int (-1) t3, .int 0 u3] } : Obj)) ∈ news)
    (m4 : (a4, ({ cls := .type "tuple", data := .seq #[.int 0 t4, .int (-1) u4] } : Obj)) ∈ news)
    (m5 : (a5, ({ cls := .type "tuple", data := .seq #[.int 1 t5, .int (-1) u5] } : Obj)) ∈ news)
    (hk : 0 ≤ k ∧ k ≤ 5) (h : ∀ t, Q (.int (dyF k) t) s)
    (hs : subscripted slice false (.ref a) (.int 1 u) = operate [.ref a, .int 1 u] (getItem (.ref a) (.int 1 u)) := by with_unfolding_all rfl) (hg : ∀ r, letTemporaryGo value (.ref a) r = pure () := by intro _; with_unfolding_all rfl) :
    wpAny (model prog w) A (subscriptTail value slice (.ref a) (.int 1 u)) Q E s := by
  have hc : k = 0 ∨ k = 1 ∨ k = 2 ∨ k = 3 ∨ k = 4 ∨ k = 5 := by omega
  rcases hc with rfl | rfl | rfl | rfl | rfl | rfl
  · obtain rfl : a = a0 := ha
    exact kim_tup (j := 1) (l := [.int (1) t0, .int (0) u0]) N m0 rfl rfl (by decide) (by decide) rfl rfl (h _) hs hg
  · obtain rfl : a = a1 := ha
    exact kim_tup (j := 1) (l := [.int (0) t1, .int (1) u1]) N m1 rfl rfl (by decide) (by decide) rfl rfl (h _) hs hg
  · obtain rfl : a = a2 := ha
    exact kim_tup (j := 1) (l := [.int (-1) t2, .int (1) u2]) N m2 rfl rfl (by decide) (by decide) rfl rfl (h _) hs hg
  · obtain rfl : a = a3 := ha
    exact kim_tup (j := 1) (l := [.int (-1) t3, .int (0) u3]) N m3 rfl rfl (by decide) (by decide) rfl rfl (h _) hs hg
  · obtain rfl : a = a4 := ha
    exact kim_tup (j := 1) (l := [.int (0) t4, .int (-1) u4]) N m4 rfl rfl (by decide) (by decide) rfl rfl (h _) hs hg
  · obtain rfl : a = a5 := ha
    exact kim_tup (j := 1) (l := [.int (1) t5, .int (-1) u5]) N m5 rfl rfl (by decide) (by decide) rfl rfl (h _) hs hg
end
theorem shift_ct {w : World} (l : Addr) (vs : List Value) (c : Nat) (fs : List Int) (news : List (Addr × Obj)) (hI : IntsAre vs fs) (hf : ∀ f ∈ fs, 0 ≤ f ∧ f ≤ 5) (hlen : fs.length ≤ 5) :
    Ct w 3 233 [.ref l] ((l, listOf vs.toArray c) :: news) (TupP news (fs.map dxF).sum (fs.map dyF).sum) := by
  unfold Ct
  intro p₉ lo₉ mean mg mb dp un gd cn cs a ccd cl outer A₀ base h₀ L m hp9 gs9 dr9 tk9 os9 Q E B F X N T hk hd hu hret
  refine wpAny_call ?_
  k_dflt (first
  | cell_enter
  | (refine' code_defC ?k1 ?k2 ?k3 ?k4 ?k5 ?kA ?kF ?kK ?k6 ?k7 ?k8 ?k9 ?kB ?kD ?_ ?c2 ?c3 ?c4; (case kA => exact rfl); (case kF => exact rfl); (case kK => assumption); (case k1 => k_asm); (case k2 => k_asm); (case k3 => k_asm); (case k4 => k_asm); (case k5 => k_asm); (case k6 => k_is); (case k7 => k_is); (case k8 => ktr_room); (case k9 => exact BindsTo.of_eq rfl); (case kB => exact rfl); (case kD => decide +kernel); (case c2 => exact rfl); (case c3 => exact rfl); (case c4 => exact rfl); k_whole; intro g' L' h' tk' cells' FG' F' N' Y' B' X' T' l1; k_cells Y'; (try simp only [List.cons_append, List.nil_append] at N'); (try dsimp only); (try k_lift B'); (try k_fold)))
  refine set_e ?_
  intro e9 A9
  have qd9 : A9.depth = dp + 1 := rfl
  have qu9 : A9.units = un + 3 := rfl
  repeat' (first | (((with_reducible show wpAny _ _ (subscriptTail _ _ (Value.ref _) (Value.int 1 _)) _ _ _); (with_reducible rename (_ = sel6 _ _ _ _ _ _ _) => hsel); k_dflt ((with_reducible refine' sel_y hsel ?N ?m0 ?m1 ?m2 ?m3 ?m4 ?m5 ?k ?_); (case N => k_asm); (case m0 => k_mem); (case m1 => k_mem); (case m2 => k_mem); (case m3 => k_mem); (case m4 => k_mem); (case m5 => k_mem); (case k => exact mem_rng (by assumption) (by assumption)); k_whole); intro t')) | (((with_reducible show wpAny _ _ (subscriptTail _ _ (Value.ref _) (Value.int 0 _)) _ _ _); (with_reducible rename (_ = sel6 _ _ _ _ _ _ _) => hsel); k_dflt ((with_reducible refine' sel_x hsel ?N ?m0 ?m1 ?m2 ?m3 ?m4 ?m5 ?k ?_); (case N => k_asm); (case m0 => k_mem); (case m1 => k_mem); (case m2 => k_mem); (case m3 => k_mem); (case m4 => k_mem); (case m5 => k_mem); (case k => exact mem_rng (by assumption) (by assumption)); k_whole); intro t')) | (((with_reducible show wpAny _ _ (subscriptTail _ _ (Value.ref _) (Value.int _ _)) _ _ _); k_dflt ((with_reducible refine' sel_item ?N ?m ?k ?_); (case N => k_asm); (case m => k_mem); (case k => exact mem_rng (by assumption) (by assumption)); k_whole); intro a' ha')) | ((with_reducible refine Jb ?_); (try dsimp only)) | (with_reducible first | refine Jc ?_ | refine Jo ?_ | refine Jp ?_ | refine Jt ?_ | refine ci_ ?_ | refine sub_ ?_) | ((with_reducible refine' ld_ ?zF ?zv ?zl ?zb ?_); (case zl | zb => exact rfl); (case zF => assumption); (case zv => exact rfl)) | with_reducible refine asg_ ?_ | ((with_reducible refine Jr (by with_reducible assumption) ?_); intro mC FC EC QC tC) | (k_unfold; (try dsimp only)) | walk1)
  have hlt : ∀ {d : Nat}, AllLt d news → ∀ p ∈ news, p.1 < d := fun h => ktn_ltOf h
  exact hret _ [(_, _)] _ _ (by k_asm) (cb_drop (by k_asm) (fun p hp => by
    rcases List.mem_cons.mp hp with rfl | hp
    · exact .head _
    · (repeat (first | exact hp | refine List.Mem.tail _ ?_)))) (.mk _ _ _ (hlt (by first | with_reducible assumption | exact (by with_reducible assumption : _ ∧ AllLt _ _).2 | exact (by with_reducible assumption : _ ∧ _ ∧ AllLt _ _).2.2 | exact (by with_reducible assumption : _ ∧ _ ∧ _ ∧ AllLt _ _).2.2.2 | exact (by with_reducible assumption : _ ∧ _ ∧ _ ∧ _ ∧ AllLt _ _).2.2.2.2 | exact (by with_reducible assumption : _ ∧ _ ∧ _ ∧ _ ∧ _ ∧ AllLt _ _).2.2.2.2.2 | exact (by with_reducible assumption : _ ∧ _ ∧ _ ∧ _ ∧ _ ∧ _ ∧ AllLt _ _).2.2.2.2.2.2 | exact (by with_reducible assumption : _ ∧ _ ∧ _ ∧ _ ∧ _ ∧ _ ∧ _ ∧ AllLt _ _).2.2.2.2.2.2.2 | exact (by with_reducible assumption : _ ∧ _ ∧ _ ∧ _ ∧ _ ∧ _ ∧ _ ∧ _ ∧ AllLt _ _).2.2.2.2.2.2.2.2 | exact (by with_reducible assumption : _ ∧ _ ∧ _ ∧ _ ∧ _ ∧ _ ∧ _ ∧ _ ∧ _ ∧ AllLt _ _).2.2.2.2.2.2.2.2.2 | exact (by with_reducible assumption : _ ∧ _ ∧ _ ∧ _ ∧ _ ∧ _ ∧ _ ∧ _ ∧ _ ∧ _ ∧ AllLt _ _).2.2.2.2.2.2.2.2.2.2 | exact (by with_reducible assumption : _ ∧ _ ∧ _ ∧ _ ∧ _ ∧ _ ∧ _ ∧ _ ∧ _ ∧ _ ∧ _ ∧ AllLt _ _).2.2.2.2.2.2.2.2.2.2.2 | exact (by with_reducible assumption : _ ∧ _ ∧ _ ∧ _ ∧ _ ∧ _ ∧ _ ∧ _ ∧ _ ∧ _ ∧ _ ∧ _ ∧ AllLt _ _).2.2.2.2.2.2.2.2.2.2.2.2 | exact (by with_reducible assumption : _ ∧ _ ∧ _ ∧ _ ∧ _ ∧ _ ∧ _ ∧ _ ∧ _ ∧ _ ∧ _ ∧ _ ∧ _ ∧ AllLt _ _).2.2.2.2.2.2.2.2.2.2.2.2.2)))
end Mine
-- S3
theorem Mine.top_offS3 : True := by
  w_top off
  exact trivial
namespace Mine
def sentL (n : Int) : Int := 8 + n.fmod 5
def sentB (n r : Int) : Int := 8 + (-(3 * r + 2) * sentL n - 8).fmod (3 * r * (r + 1) + 1)
theorem sent_ct {w : World} (n r : Int) (tn tr : Tok) (news : List (Addr × Obj)) (hn : 0 ≤ n ∧ n ≤ 2000000) (hr : r = 1 ∨ r = 2 ∨ r = 3) :
    Ct w 3 223 [.int n tn, .int r tr] news (TupP news (sentB n r) (sentL n)) := by
  unfold Ct
  intro p₉ lo₉ mean mg mb dp un gd cn cs a ccd cl outer A₀ base h₀ L m hp9 gs9 dr9 tk9 os9 Q E B F X N T hk hd hu hret
  refine wpAny_call ?_
  k_dflt (first
  | cell_enter
  | (refine' code_defC ?k1 ?k2 ?k3 ?k4 ?k5 ?kA ?kF ?kK ?k6 ?k7 ?k8 ?k9 ?kB ?kD ?_ ?c2 ?c3 ?c4; (case kA => exact rfl); (case kF => exact rfl); (case kK => assumption); (case k1 => k_asm); (case k2 => k_asm); (case k3 => k_asm); (case k4 => k_asm); (case k5 => k_asm); (case k6 => k_is); (case k7 => k_is); (case k8 => ktr_room); (case k9 => exact BindsTo.of_eq rfl); (case kB => exact rfl); (case kD => decide +kernel); (case c2 => exact rfl); (case c3 => exact rfl); (case c4 => exact rfl); k_whole; intro g' L' h' tk' cells' FG' F' N' Y' B' X' T' l1; k_cells Y'; (try simp only [List.cons_append, List.nil_append] at N'); (try dsimp only); (try k_lift B'); (try k_fold)))
  refine set_e ?_
  intro e9 A9
  have qd9 : A9.depth = dp + 1 := rfl
  have qu9 : A9.units = un + 3 := rfl
  repeat' (first | ((with_reducible refine Jb ?_); (try dsimp only)) | (with_reducible first | refine Jc ?_ | refine Jf ?_ | refine Jg ?_) | ((with_reducible refine' Js ?zF ?zN ?zl ?zb ?_); (case zl | zb => exact rfl); (case zF | zN => assumption); intro h' F' N'; (try k_sweep)) | (with_reducible first | refine ci_ ?_ | refine bin_ ?_) | ((with_reducible refine' ld_ ?zF ?zv ?zl ?zb ?_); (case zl | zb => exact rfl); (case zF => assumption); (case zv => exact rfl)) | with_reducible refine asg_ ?_ | ((with_reducible refine Jr (by with_reducible assumption) ?_); intro mC FC EC QC tC) | (k_unfold; (try dsimp only)) | walk1)
  · exfalso
    rename (_ = 0) => h0
    rcases hr with rfl | rfl | rfl <;> omega
  · exact hret _ [(_, _)] _ _ (by k_asm) (by k_asm) (.mk _ _ _ (by assumption))
end Mine
-- S4
theorem Mine.top_offS4 : True := by
  w_top off
  exact trivial
namespace Mine
abbrev tupO (x : Int) (t1 : Tok) (y : Int) (t2 : Tok) : Obj := { cls := .type "tuple", data := .seq #[.int x t1, .int y t2] }
def putP (D : List (Int × Int × Int)) (k x y : Int) : List (Int × Int × Int) := if D.any (fun e => e.1 = k) then D.map (fun e => if e.1 = k then (e.1, x, y) else e) else D ++ [(k, x, y)]
def lotKey (r x y : Int) : Int := (x + (3 * r + 2) * y).fmod (3 * r * (r + 1) + 1)
def turnD (r : Int) (D : List (Int × Int × Int)) (x y : Int) : List (Int × Int × Int) := if hexn x y ≤ r then putP D (lotKey r x y) x y else D
def rowD (r : Int) (D : List (Int × Int × Int)) (x : Int) (j : Nat) : List (Int × Int × Int) := (List.range j).foldl (fun D (l : Nat) => turnD r D x (-r + (l : Int))) D
def lotsAt (r : Int) (n i : Nat) : List (Int × Int × Int) := (List.range i).foldl (fun D (l : Nat) => rowD r D (-r + (l : Int)) n) []
theorem rowD_succ (r : Int) (D : List (Int × Int × Int)) (x : Int) (j : Nat) : rowD r D x (j + 1) = turnD r (rowD r D x j) x (-r + (j : Int)) := by
  unfold rowD; rw [List.range_succ, List.foldl_append]; rfl
theorem lotsAt_succ (r : Int) (n i : Nat) : lotsAt r n (i + 1) = rowD r (lotsAt r n i) (-r + (i : Int)) n := by
  unfold lotsAt; rw [List.range_succ, List.foldl_append]; rfl
theorem putP_len (D : List (Int × Int × Int)) (k x y : Int) : (putP D k x y).length ≤ D.length + 1 := by
  unfold putP; split <;> simp
theorem turnD_len (r : Int) (D : List (Int × Int × Int)) (x y : Int) : (turnD r D x y).length ≤ D.length + 1 := by
  unfold turnD; split
  · exact putP_len _ _ _ _
  · omega
theorem rowD_len (r : Int) (D : List (Int × Int × Int)) (x : Int) (j : Nat) : (rowD r D x j).length ≤ D.length + j := by
  induction j with
  | zero => exact Nat.le_refl _
  | succ j ih => rw [rowD_succ]; have := turnD_len r (rowD r D x j) x (-r + (j : Int)); omega
theorem lotsAt_len (r : Int) (n i : Nat) : (lotsAt r n i).length ≤ i * n := by
  induction i with
  | zero => simp [lotsAt]
  | succ i ih => rw [lotsAt_succ]; have := rowD_len r (lotsAt r n i) (-r + (i : Int)) n; rw [Nat.succ_mul]; omega
/-- the dict's pairs stand for the list's triples, their tuples lie on the ledger -/
inductive RelD (tl : List (Addr × Obj)) : List (Int × Value) → List (Int × Int × Int) → Prop
  | nil : RelD tl [] []
  | cons {k x y : Int} {a : Addr} {t1 t2 : Tok} {kvs : List (Int × Value)} {D : List (Int × Int × Int)} : (a, tupO x t1 y t2) ∈ tl → RelD tl kvs D → RelD tl ((k, .ref a) :: kvs) ((k, x, y) :: D)
theorem RelD.mono {tl tl' : List (Addr × Obj)} {kvs : List (Int × Value)} {D : List (Int × Int × Int)} (h : RelD tl kvs D) (hs : ∀ p ∈ tl, p ∈ tl') : RelD tl' kvs D := by
  induction h with
  | nil => exact .nil
  | cons hm _ ih => exact .cons (hs _ hm) ih
theorem RelD.len {tl : List (Addr × Obj)} {kvs : List (Int × Value)} {D : List (Int × Int × Int)} (h : RelD tl kvs D) : kvs.length = D.length := by
  induction h with
  | nil => rfl
  | cons _ _ ih => simp [ih]
theorem RelD.any {tl : List (Addr × Obj)} {kvs : List (Int × Value)} {D : List (Int × Int × Int)} (h : RelD tl kvs D) (k : Int) : kvs.any (fun kv => kv.1 = k) = D.any (fun e => e.1 = k) := by
  induction h with
  | nil => rfl
  | cons _ _ ih => simp only [List.any_cons, ih]
theorem RelD.map {tl : List (Addr × Obj)} {kvs : List (Int × Value)} {D : List (Int × Int × Int)} (h : RelD tl kvs D) {k x y : Int} {a : Addr} {t1 t2 : Tok} (hm : (a, tupO x t1 y t2) ∈ tl) :
    RelD tl (kvs.map fun kv => if kv.1 = k then (kv.1, .ref a) else kv) (D.map fun e => if e.1 = k then (e.1, x, y) else e) := by
  induction h with
  | nil => exact .nil
  | @cons k' x' y' a' u1 u2 kvs' D' hm' _ ih =>
    simp only [List.map_cons]
    by_cases hk : k' = k
    · rw [if_pos hk, if_pos hk]; exact .cons hm ih
    · rw [if_neg hk, if_neg hk]; exact .cons hm' ih
theorem RelD.app {tl : List (Addr × Obj)} {kvs : List (Int × Value)} {D : List (Int × Int × Int)} (h : RelD tl kvs D) {k x y : Int} {a : Addr} {t1 t2 : Tok} (hm : (a, tupO x t1 y t2) ∈ tl) :
    RelD tl (kvs ++ [(k, .ref a)]) (D ++ [(k, x, y)]) := by
  induction h with
  | nil => exact .cons hm .nil
  | cons hm' _ ih => exact .cons hm' ih
theorem RelD.put {tl : List (Addr × Obj)} {kvs : List (Int × Value)} {D : List (Int × Int × Int)} (h : RelD tl kvs D) {k x y : Int} {a : Addr} {t1 t2 : Tok} (hm : (a, tupO x t1 y t2) ∈ tl) :
    RelD tl (stored kvs k (.ref a)) (putP D k x y) := by
  unfold stored putP
  rw [h.any]
  split
  · exact h.map hm
  · exact h.app hm
theorem RelD.find {tl : List (Addr × Obj)} {kvs : List (Int × Value)} {D : List (Int × Int × Int)} (h : RelD tl kvs D) {k : Int} {e : Int × Int × Int} (he : D.find? (fun e => e.1 = k) = some e) :
    ∃ a t1 t2, valueAt kvs k = some (.ref a) ∧ (a, tupO e.2.1 t1 e.2.2 t2) ∈ tl := by
  induction h with
  | nil => cases he
  | @cons k' x' y' a' u1 u2 kvs' D' hm' _ ih =>
    by_cases hk : k' = k
    · simp only [List.find?_cons, hk, decide_true] at he
      cases he
      exact ⟨a', u1, u2, by simp [valueAt, List.find?_cons, hk], hm'⟩
    · simp only [List.find?_cons, hk, decide_false] at he
      obtain ⟨a, t1, t2, h1, h2⟩ := ih he
      exact ⟨a, t1, t2, by rw [← h1]; simp [valueAt, List.find?_cons, hk], h2⟩
theorem rngS (r : Int) (hr : r = 1 ∨ r = 2 ∨ r = 3) : Builtin.Range.small (-r) (r + 1) 1 = true ∧ Builtin.Range.rangeSize (-r) (r + 1) 1 = (((2 * r + 1).toNat : Nat) : Int) := by
  rcases hr with rfl | rfl | rfl <;> exact ⟨by decide +kernel, by decide +kernel⟩
inductive LotJ (w : World) (r : Int) (n : Nat) (news : List (Addr × Obj)) (i : Nat) : (Str → Option Value) → List (Addr × Obj) → Prop
  | mk (d : Addr) (o : Obj) (kvs : List (Int × Value)) (tl : List (Addr × Obj)) (u : Str → Option Value) (t1 : Tok) (hD : o.IsDictOf (PySem.intKind PG w) kvs) (hrel : RelD tl kvs (lotsAt r n i)) (hne : ∀ p ∈ tl ++ news, p.1 ≠ d) : LotJ w r n news i (bndU u [(Str.ofString "reach", .int r t1), (Str.ofString "lots", .ref d)]) ((d, o) :: (tl ++ news))
inductive LotK (w : World) (r : Int) (n : Nat) (news : List (Addr × Obj)) (I1 d : Addr) (o1 : Obj) (i j : Nat) : (Str → Option Value) → List (Addr × Obj) → Prop
  | mk (o : Obj) (kvs : List (Int × Value)) (tl : List (Addr × Obj)) (u : Str → Option Value) (t1 t2 : Tok) (hD : o.IsDictOf (PySem.intKind PG w) kvs) (hrel : RelD tl kvs (rowD r (lotsAt r n i) (-r + (i : Int)) j)) (hne : ∀ p ∈ tl ++ news, p.1 ≠ d) (hnI : ∀ p ∈ tl ++ news, p.1 ≠ I1) : LotK w r n news I1 d o1 i j (bndU u [(Str.ofString "reach", .int r t1), (Str.ofString "lots", .ref d), (Str.ofString "x", .int (-r + (i : Int)) t2)]) ((I1, o1) :: (d, o) :: (tl ++ news))
inductive LotsP (w : World) (r : Int) (news : List (Addr × Obj)) : Value → List (Addr × Obj) → Prop
  | mk (d : Addr) (o : Obj) (kvs : List (Int × Value)) (tl₀ : List (Addr × Obj)) (hD : o.IsDictOf (PySem.intKind PG w) kvs) (hR : RelD tl₀ kvs (lotsAt r (2 * r + 1).toNat (2 * r + 1).toNat)) (hne : ∀ p ∈ tl₀ ++ news, p.1 ≠ d) : LotsP w r news (.ref d) ((d, o) :: tl₀)
theorem lots_end {w : World} {r : Int} {n i j : Nat} {h₀ h' : Heap} {L d D' I1 I2 : Addr} {o o1 o2 o3 : Obj} {t1 t2 t3 t4 : Tok} {u : Str → Option Value} {tk : Nat} {gs : Array GenState} {dr : Drawn} {os : OsState} {h₁ : Heap} {t₁ : Nat} {tl news : List (Addr × Obj)} {kvs : List (Int × Value)}
    (F9 : Fr h₀ L h' (bndU u [(Str.ofString "reach", .int r t1), (Str.ofString "lots", .ref d), (Str.ofString "x", .int (-r + (i : Int)) t2)]))
    (N9 : News h₀ L h' ((D', tupO (-r + (i : Int)) t3 (-r + (j : Int)) t4) :: (I2, o2) :: (I1, o1) :: (d, o) :: (tl ++ news)))
    (hlt : @LT.lt Nat _ I2 D' ∧ @LT.lt Nat _ I1 D' ∧ @LT.lt Nat _ d D' ∧ AllLt D' (tl ++ news)) (hII : @Ne Nat I1 I2) (hdI2 : @Ne Nat d I2) (hI2 : ∀ q ∈ (I1, o1) :: (d, o3) :: (tl ++ news), q.1 ≠ I2)
    (hD9 : o.IsDictOf (PySem.intKind PG w) (stored kvs ((-r + (i : Int) + (3 * r + 2) * (-r + (j : Int))).fmod (3 * r * (r + 1) + 1)) (.ref D'))) (hrel : RelD tl kvs (rowD r (lotsAt r n i) (-r + (i : Int)) j)) (hle : hexn (-r + (i : Int)) (-r + (j : Int)) ≤ r)
    (hne : ∀ p ∈ tl ++ news, p.1 ≠ d) (hnI : ∀ p ∈ tl ++ news, p.1 ≠ I1) :
    GrowEnd h₀ L I2 o2 (LotK w r n news I1 d o1 i (j + 1))
      ⟨h₁, gs, dr, t₁, os⟩ ⟨h', gs, dr, tk, os⟩ := by
  obtain ⟨q1, q2, q3, q4⟩ := hlt
  have q5 := ktn_ltOf q4
  have hT : rowD r (lotsAt r n i) (-r + (i : Int)) (j + 1) = putP (rowD r (lotsAt r n i) (-r + (i : Int)) j) (lotKey r (-r + (i : Int)) (-r + (j : Int))) (-r + (i : Int)) (-r + (j : Int)) := by
    rw [rowD_succ]; unfold turnD; rw [if_pos hle]
  have hR9 : RelD ((D', tupO (-r + (i : Int)) t3 (-r + (j : Int)) t4) :: tl) (stored kvs (lotKey r (-r + (i : Int)) (-r + (j : Int))) (.ref D')) (rowD r (lotsAt r n i) (-r + (i : Int)) (j + 1)) := by
    rw [hT]
    exact (hrel.mono (fun p hp => List.mem_cons_of_mem _ hp)).put (List.mem_cons_self ..)
  refine grow_end (nx := (I1, o1) :: (d, o) :: (((D', tupO (-r + (i : Int)) t3 (-r + (j : Int)) t4) :: tl) ++ news)) F9 N9 (fun p hp => ?_) (.tail _ (.head _)) (fun q hq => ?_) (.mk o _ _ u t1 t2 hD9 hR9 (fun p hp => ?_) fun p hp => ?_)
  · rcases List.mem_cons.mp hp with rfl | hp
    · exact .tail _ (.tail _ (.head _))
    · rcases List.mem_cons.mp hp with rfl | hp
      · exact .tail _ (.tail _ (.tail _ (.head _)))
      · rcases List.mem_cons.mp hp with rfl | hp
        · exact .head _
        · exact .tail _ (.tail _ (.tail _ (.tail _ hp)))
  · rcases List.mem_cons.mp hq with rfl | hq
    · exact hII
    · rcases List.mem_cons.mp hq with rfl | hq
      · exact hdI2
      · rcases List.mem_cons.mp hq with rfl | hq
        · exact Nat.ne_of_gt q1
        · exact hI2 q (.tail _ (.tail _ hq))
  · rcases List.mem_cons.mp hp with rfl | hp
    · exact Nat.ne_of_gt q3
    · exact hne p hp
  · rcases List.mem_cons.mp hp with rfl | hp
    · exact Nat.ne_of_gt q2
    · exact hnI p hp
theorem lots_ct {w : World} (r : Int) (tr : Tok) (news : List (Addr × Obj)) (hr : r = 1 ∨ r = 2 ∨ r = 3) :
    Ct w 5 247 [.int r tr] news (LotsP w r news) := by
  unfold Ct
  intro p₉ lo₉ mean mg mb dp un gd cn cs a ccd cl outer A₀ base h₀ L m hp9 gs9 dr9 tk9 os9 Q E B F X N T hk hd hu hret
  refine wpAny_call ?_
  k_dflt (first
  | cell_enter
  | (refine' code_defC ?k1 ?k2 ?k3 ?k4 ?k5 ?kA ?kF ?kK ?k6 ?k7 ?k8 ?k9 ?kB ?kD ?_ ?c2 ?c3 ?c4; (case kA => exact rfl); (case kF => exact rfl); (case kK => assumption); (case k1 => k_asm); (case k2 => k_asm); (case k3 => k_asm); (case k4 => k_asm); (case k5 => k_asm); (case k6 => k_is); (case k7 => k_is); (case k8 => ktr_room); (case k9 => exact BindsTo.of_eq rfl); (case kB => exact rfl); (case kD => decide +kernel); (case c2 => exact rfl); (case c3 => exact rfl); (case c4 => exact rfl); k_whole; intro g' L' h' tk' cells' FG' F' N' Y' B' X' T' l1; k_cells Y'; (try simp only [List.cons_append, List.nil_append] at N'); (try dsimp only); (try k_lift B'); (try k_fold)))
  refine set_e ?_
  intro e9 A9
  have qd9 : A9.depth = dp + 1 := rfl
  have qu9 : A9.units = un + 3 := rfl
  have hbt := (bits3 hr).1
  have hbs := (bits3 hr).2
  have hsz : 3 * r * (r + 1) + 1 ≠ 0 := by rcases hr with rfl | rfl | rfl <;> decide
  rename Fr _ _ _ _ => F0
  replace F0 := fr_clean (l := [(Str.ofString "reach", .int r tr)]) F0
  repeat' ((fail_if_success (with_reducible show wpAny _ _ (pyIter (Value.ref _)) (fun it s₂ => ElseAt _ _ _ _ _ _ _ _ _ _ it s₂) _ _)); first | (((with_reducible show wpAny _ _ (exec (Stmt.For _ _ _ _ _) _) _ _ _); (k_dflt (refine For_else ?_)))) | (with_reducible first | refine Jc ?_ | refine Jf ?_ | refine Jg ?_) | ((with_reducible refine' Js ?zF ?zN ?zl ?zb ?_); (case zl | zb => exact rfl); (case zF | zN => assumption); intro h' F' N'; (try k_sweep)) | (with_reducible first | refine ci_ ?_ | refine bin_ ?_) | ((with_reducible refine' ld_ ?zF ?zv ?zl ?zb ?_); (case zl | zb => exact rfl); (case zF => assumption); (case zv => exact rfl)) | with_reducible refine asg_ ?_ | ((with_reducible refine Jr (by with_reducible assumption) ?_); intro mC FC EC QC tC) | walk1)
  rename IsRange _ _ _ _ _ _ _ _ => hR
  rename Fr _ _ _ _ => F1
  rename News _ _ _ _ => N1
  rename Obj.IsDictOf (PySem.intKind _ _) _ _ => hD
  rename (∀ p ∈ news, p.1 < _) => hlt
  obtain ⟨n, hn⟩ : ∃ n, n = (2 * r + 1).toNat := ⟨_, rfl⟩
  have hn7 : n ≤ 7 := by omega
  replace F1 := fr_set F1
  have hsm := rngS r hr
  rw [← hn] at hsm
  refine Grow_range (n := n) (LotJ w r n news)
    rfl F1 N1 rfl hR hsm.1 hsm.2 ?j0 rfl rfl ?turn ?done (by passes_own)
  case j0 => exact .mk _ _ [] [] (fun _ => none) tr hD .nil fun p hp => Nat.ne_of_lt (hlt p hp)
  case done =>
    intro m₁ nx h tk hJ
    refine LotJ.casesOn hJ ?_
    intro d o kvs tl u t1 hD2 hrel hne F2 N2
    dsimp only
    repeat' (first | ((with_reducible refine Jb ?_); (try dsimp only)) | with_reducible refine Jc ?_ | ((with_reducible refine' ld_ ?zF ?zv ?zl ?zb ?_); (case zl | zb => exact rfl); (case zF => assumption); (case zv => exact rfl)) | ((with_reducible refine Jr (by with_reducible assumption) ?_); intro mC FC EC QC tC) | (k_unfold; (try dsimp only)) | walk1)
    rw [hn] at hrel
    exact hret _ ((d, o) :: tl) _ _ (by k_asm) (by k_asm) (.mk d o kvs tl hD2 hrel hne)
  case turn =>
    clear F1 N1 hR hD hlt hret
    intro i t m₁ nx h tk I1 o1 hi hI1 hJ
    revert hI1
    refine LotJ.casesOn hJ ?_
    intro d o kvs tl u t1 hD2 hrel hne hI1 F2 N2
    replace F2 := fr_set F2
    dsimp only
    repeat' ((fail_if_success (with_reducible show wpAny _ _ (pyIter (Value.ref _)) (fun it s₂ => ElseAt _ _ _ _ _ _ _ _ _ _ it s₂) _ _)); first | (((with_reducible show wpAny _ _ (exec (Stmt.For _ _ _ _ _) _) _ _ _); (k_dflt (refine For_else ?_)))) | (with_reducible first | refine Jf ?_ | refine Jg ?_ | refine ci_ ?_ | refine bin_ ?_) | ((with_reducible refine' ld_ ?zF ?zv ?zl ?zb ?_); (case zl | zb => exact rfl); (case zF => assumption); (case zv => exact rfl)) | ((with_reducible refine Jr (by with_reducible assumption) ?_); intro mC FC EC QC tC) | walk1)
    rename IsRange _ _ _ _ _ _ _ _ => hR2
    rename Fr _ _ _ _ => F3
    rename News _ _ _ _ => N3
    have hdI : @Ne Nat d I1 := hI1 _ (.head _)
    refine Grow_range (n := n) (LotK w r n news I1 d o1 i)
      rfl F3 N3 rfl hR2 hsm.1 hsm.2 ?j1 rfl rfl ?iturn ?idone (by passes_own)
    case j1 => exact .mk o kvs tl u t1 t hD2 hrel hne fun p hp => hI1 p (.tail _ hp)
    case idone =>
      intro m₁ nx h tk hJ
      refine LotK.casesOn hJ ?_
      intro o kvs tl u t1 t2 hD3 hrel3 hne3 hnI3 F4 N4
      dsimp only
      repeat' (first | ((with_reducible refine Ja ?_); (try dsimp only)) | walk1)
      rw [← lotsAt_succ] at hrel3
      refine grow_end (nx := (d, o) :: (tl ++ news)) (fr_keep 2 F4) N4 (fun p hp => .tail _ hp) (.head _) (fun q hq => ?_) (.mk d o kvs tl _ _ hD3 hrel3 hne3)
      rcases List.mem_cons.mp hq with rfl | hq
      · exact hdI
      · exact hnI3 q hq
    case iturn =>
      intro j ty m₁ nx h tk I2 o2 hj hI2 hJ
      revert hI2
      refine LotK.casesOn hJ ?_
      intro o kvs tl u t1 t2 hD3 hrel3 hne3 hnI3 hI2 F4 N4
      replace F4 := fr_set F4
      have hdI2 : @Ne Nat d I2 := hI2 _ (.tail _ (.head _))
      have hII : @Ne Nat I1 I2 := hI2 _ (.head _)
      have hkl : kvs.length ≤ sizeLine := by
        rw [hrel3.len]
        have h1 := rowD_len r (lotsAt r n i) (-r + (i : Int)) j
        have h2 := lotsAt_len r n i
        have h3 : i * n ≤ 7 * 7 := Nat.mul_le_mul (by omega) hn7
        exact small_line (by omega)
      dsimp only
      repeat' ((fail_if_success (with_reducible show wpAny _ _ (setItem _ _ _) _ _ _)); first | (((with_reducible show wpAny _ _ (newTuple _) _ _ _); (k_dflt ((with_reducible refine' kup_newTuple ?F ?N ?_ ?z); (case F => k_asm); (case N => k_asm); (case z => kmk_size)); intro D' h' F' N' l1; (try k_lt l1)))) | (((with_reducible show wpAny _ _ (binaryOp PySem.Operator.Mod (Value.int _ _) (Value.int _ _)) _ _ _); (k_dflt ((with_reducible refine mod_int (by k_dflt assumption) ?_))))) | (((with_reducible show wpAny _ _ (binaryOp PySem.Operator.Mult (Value.int _ _) (Value.int _ _)) _ _ _); (k_dflt ((with_reducible refine mul_int ?_ (IntMulOk.of_left (by with_reducible assumption))))))) | (((with_reducible show wpAny _ _ (call (Value.ref 240) [Value.int _ _, Value.int _ _]) _ _ _); k_dflt (refine' Ct.useI (steps_ct _ _ _ _ _) ?B ?F ?X ?N ?T rfl ?hd ?hu ?_; (case B => k_asm); (case F => k_asm); (case X => k_asm); (case N => k_asm); (case T => k_asm); (case hd => ktr_room); (case hu => ktr_units)); intro t' h' tk' F' N'; (try dsimp only))) | ((with_reducible refine Ja ?_); (try dsimp only)) | (with_reducible first | refine Jf ?_ | refine Jg ?_ | refine Jh ?_ | refine Ji ?_ | refine Jj ?_ | refine Jn ?_ | refine ci_ ?_ | refine bin_ ?_) | ((with_reducible refine' ld_ ?zF ?zv ?zl ?zb ?_); (case zl | zb => exact rfl); (case zF => assumption); (case zv => exact rfl)) | (with_reducible first | refine if_ ?_ | refine cmp_ ?_) | ((with_reducible refine Jr (by with_reducible assumption) ?_); intro mC FC EC QC tC) | walk1)
      · dsimp only
        k_dflt (refine' kda_set (knd := PySem.intKind _ _) ?F ?N ?U ?d (intKind_is _ _ _ _) ?z ?_)
        case F => k_asm
        case N => k_asm
        case U => k_updF
        case d => k_asm
        case z => assumption
        intro h' o' F' N' hd'
        dsimp only at N' ⊢
        repeat' (((with_reducible refine Ja ?_); (try dsimp only)))
        rename (_ < _ ∧ _ < _ ∧ _) => hlt9
        rename (hexn _ _ ≤ r) => hle
        exact lots_end (fr_keep 3 F') N' hlt9 hII hdI2 hI2 hd' hrel3 hle hne3 hnI3
      · rename (¬ hexn _ _ ≤ r) => hle
        rename Fr _ _ _ _ => F9
        rename News _ _ _ _ => N9
        have hT : rowD r (lotsAt r n i) (-r + (i : Int)) (j + 1) = rowD r (lotsAt r n i) (-r + (i : Int)) j := by
          rw [rowD_succ]; unfold turnD; rw [if_neg hle]
        rw [← hT] at hrel3
        exact grow_end (fr_keep 3 F9) N9 (fun p hp => .tail _ hp) (.head _) hI2 (.mk o kvs tl _ _ _ hD3 hrel3 hne3 hnI3)
end Mine
-- RD
theorem Mine.top_offRD : True := by
  w_top off
  exact trivial
namespace Mine
theorem next_at {prog : Program} {w : World} {A : Around} {E : Value → Shared → Prop} {s : Shared} {t : Tok} {h₀ : Heap} {L it : Addr} {m : Str → Option Value} {news : List (Addr × Obj)} {g : Obj → List (Addr × Obj)} {b : Array UInt8} {io : Obj} {i : Nat} {z : Int} {Q : Value → Shared → Prop}
    (F : Fr h₀ L s.heap m) (N : News h₀ L s.heap news) (U : UpdF it io news g) (hi : BytesIt io b t i) (hx : ByteAt b i z)
    (h : ∀ h' o' k t', Fr h₀ L h' m → News h₀ L h' (g o') → BytesIt o' b t (i + 1) → Q (.int z t') { s with heap := h', toks := k }) :
    wpAny (model prog w) A (call (.builtin "next") [.ref it]) Q E s := by
  obtain ⟨c, hc, rfl⟩ := hx
  exact next_one F N U hi hc h
/-- the list's values stand for the rows, their tuples lie on the ledger -/
inductive RowsAre (tl : List (Addr × Obj)) : List Value → List (Nat × Nat × Nat) → Prop
  | nil : RowsAre tl [] []
  | cons {p q c : Nat} {a : Addr} {t1 t2 t3 : Tok} {vs : List Value} {rs : List (Nat × Nat × Nat)} : (a, rowO p t1 q t2 (chr1 c) t3) ∈ tl → RowsAre tl vs rs → RowsAre tl (.ref a :: vs) ((p, q, c) :: rs)
theorem RowsAre.mono {tl tl' : List (Addr × Obj)} {vs : List Value} {rs : List (Nat × Nat × Nat)} (h : RowsAre tl vs rs) (hs : ∀ p ∈ tl, p ∈ tl') : RowsAre tl' vs rs := by
  induction h with
  | nil => exact .nil
  | cons hm _ ih => exact .cons (hs _ hm) ih
theorem RowsAre.app {tl : List (Addr × Obj)} {vs : List Value} {rs : List (Nat × Nat × Nat)} (h : RowsAre tl vs rs) {p q c : Nat} {a : Addr} {t1 t2 t3 : Tok} (hm : (a, rowO p t1 q t2 (chr1 c) t3) ∈ tl) : RowsAre tl (vs ++ [.ref a]) (rs ++ [(p, q, c)]) := by
  induction h with
  | nil => exact .cons hm .nil
  | cons hm' _ ih => exact .cons hm' ih
theorem RowsAre.len {tl : List (Addr × Obj)} {vs : List Value} {rs : List (Nat × Nat × Nat)} (h : RowsAre tl vs rs) : vs.length = rs.length := by
  induction h with
  | nil => rfl
  | cons _ _ ih => simp [ih]
theorem rows_len : ∀ (ts : List Tk) (s : List (Nat × Nat × Nat) × Nat), (ts.foldl stepT s).1.length ≤ s.1.length + ts.length
  | [], s => by simp
  | k :: ts, s => by
    rw [List.foldl_cons]
    have := rows_len ts (stepT s k)
    have h : (stepT s k).1.length ≤ s.1.length + 1 := by cases k <;> simp [stepT]
    simp only [List.length_cons]; omega
theorem encs_app (a b : List Tk) : encs (a ++ b) = encs a ++ encs b := List.flatMap_append ..
inductive rowsJ (x : Str) (ts : List Tk) (news : List (Addr × Obj)) (n : Nat) : (Str → Option Value) → List (Addr × Obj) → Prop
  | mk (I l : Addr) (tb : Tok) (done rest : List Tk) (o : Obj) (vs : List Value) (c : Nat) (tl : List (Addr × Obj)) (u : Str → Option Value) (t1 t2 : Tok) (hIl : @Ne Nat I l) (hsp : ts = done ++ rest) (hn : n = rest.length) (hB : BytesIt o (bytesOf x) tb (encs done).length)
    (hR : RowsAre tl vs (done.foldl stepT ([], 0)).1) (h1 : ∀ p ∈ tl ++ news, p.1 ≠ I) (h2 : ∀ p ∈ tl ++ news, p.1 ≠ l) : rowsJ x ts news n (bndU u [(Str.ofString "text", .str x t1), (Str.ofString "octets", .ref I), (Str.ofString "rows", .ref l), (Str.ofString "blanks", .int (((done.foldl stepT ([], 0)).2 : Nat) : Int) t2)]) ((l, listOf vs.toArray c) :: (I, o) :: (tl ++ news))
inductive RowsP (news : List (Addr × Obj)) (D : List (Nat × Nat × Nat)) : Value → List (Addr × Obj) → Prop
  | mk (l : Addr) (vs : List Value) (c : Nat) (tl₀ : List (Addr × Obj)) (hR : RowsAre tl₀ vs D) (hne : ∀ p ∈ tl₀ ++ news, p.1 ≠ l) : RowsP news D (.ref l) ((l, listOf vs.toArray c) :: tl₀)
theorem rowsJ_bl {x : Str} {ts done rest : List Tk} {news tl : List (Addr × Obj)} {I l : Addr} {tb t1 t2 : Tok} {o : Obj} {vs : List Value} {c : Nat} {u : Str → Option Value}
    (hIl : @Ne Nat I l) (hsp : ts = done ++ Tk.bl :: rest) (hB : BytesIt o (bytesOf x) tb ((encs done).length + 1)) (hR : RowsAre tl vs (done.foldl stepT ([], 0)).1) (h1 : ∀ p ∈ tl ++ news, p.1 ≠ I) (h2 : ∀ p ∈ tl ++ news, p.1 ≠ l) :
    rowsJ x ts news rest.length (bndU u [(Str.ofString "text", .str x t1), (Str.ofString "octets", .ref I), (Str.ofString "rows", .ref l), (Str.ofString "blanks", .int ((((done.foldl stepT ([], 0)).2 : Nat) : Int) + 1) t2)]) ((l, listOf vs.toArray c) :: (I, o) :: (tl ++ news)) := by
  have e : (((done ++ [Tk.bl]).foldl stepT ([], 0)).2 : Nat) = (done.foldl stepT ([], 0)).2 + 1 := by rw [List.foldl_append]; rfl
  have K := rowsJ.mk (x := x) (ts := ts) (news := news) (n := rest.length) I l tb (done ++ [Tk.bl]) rest o vs c tl u t1 t2 hIl (by rw [hsp]; simp) rfl ?_ ?_ h1 h2
  · rw [e] at K; exact K
  · rw [encs_app, List.length_append]; exact hB
  · rw [List.foldl_append]; exact hR
theorem rowsJ_wd {x : Str} {ts done rest : List Tk} {news tl : List (Addr × Obj)} {I l D : Addr} {tb t1 t2 t3 t4 t5 : Tok} {o : Obj} {vs : List Value} {c q cc : Nat} {u : Str → Option Value}
    (hIl : @Ne Nat I l) (hsp : ts = done ++ Tk.wd q cc :: rest) (hB : BytesIt o (bytesOf x) tb ((encs done).length + q + 1)) (hR : RowsAre tl vs (done.foldl stepT ([], 0)).1) (h1 : ∀ p ∈ tl ++ news, p.1 ≠ I) (h2 : ∀ p ∈ tl ++ news, p.1 ≠ l) (hD1 : l < D) (hD2 : I < D) :
    rowsJ x ts news rest.length (bndU u [(Str.ofString "text", .str x t1), (Str.ofString "octets", .ref I), (Str.ofString "rows", .ref l), (Str.ofString "blanks", .int 0 t2)])
      ((l, listOf (vs.toArray.push (.ref D)) (c + 1)) :: (I, o) :: (((D, rowO (((done.foldl stepT ([], 0)).2 : Nat) : Int) t3 (q : Int) t4 (chr1 cc) t5) :: tl) ++ news)) := by
  have e : (((done ++ [Tk.wd q cc]).foldl stepT ([], 0)).2 : Nat) = 0 := by rw [List.foldl_append]; rfl
  have K := rowsJ.mk (x := x) (ts := ts) (news := news) (n := rest.length) I l tb (done ++ [Tk.wd q cc]) rest o (vs ++ [.ref D]) (c + 1) ((D, rowO (((done.foldl stepT ([], 0)).2 : Nat) : Int) t3 (q : Int) t4 (chr1 cc) t5) :: tl) u t1 t2 hIl (by rw [hsp]; simp) rfl ?_ ?_ ?_ ?_
  · rw [e, show (vs ++ [Value.ref D]).toArray = vs.toArray.push (.ref D) by simp] at K; exact K
  · rw [encs_app, List.length_append]
    have e : (encs [Tk.wd q cc]).length = q + 1 := by simp [encs, Tk.enc]
    rw [e, ← Nat.add_assoc]; exact hB
  · rw [List.foldl_append]
    exact (hR.mono fun p hp => .tail _ hp).app (.head _)
  · intro p hp
    rcases List.mem_cons.mp hp with rfl | hp
    · exact (Nat.ne_of_lt hD2).symm
    · exact h1 p hp
  · intro p hp
    rcases List.mem_cons.mp hp with rfl | hp
    · exact (Nat.ne_of_lt hD1).symm
    · exact h2 p hp
inductive vJ (x : Str) (tb : Tok) (I l : Addr) (ol : Obj) (R : List (Addr × Obj)) (i0 q cc : Nat) (v : Int) (n : Nat) : (Str → Option Value) → List (Addr × Obj) → Prop
  | go (o : Obj) (u : Str → Option Value) (t1 t2 : Tok) (j : Nat) (h1 : 1 ≤ j) (h2 : j ≤ q) (hn : n = q - j + 1) (hB : BytesIt o (bytesOf x) tb (i0 + j)) : vJ x tb I l ol R i0 q cc v n (bndU u [(Str.ofString "iterator", .ref I), (Str.ofString "b", .int (cc : Int) t1), (Str.ofString "val", .int (geo v j) t2)]) ((l, ol) :: (I, o) :: R)
  | stop (o : Obj) (u : Str → Option Value) (t1 t2 : Tok) (hn : n = 0) (hB : BytesIt o (bytesOf x) tb (i0 + q + 1)) : vJ x tb I l ol R i0 q cc v n (bndU u [(Str.ofString "iterator", .ref I), (Str.ofString "b", .int 10 t1), (Str.ofString "val", .int (numT v q 0) t2)]) ((l, ol) :: (I, o) :: R)
theorem vJ_one {x : Str} {tb t1 t2 : Tok} {I l : Addr} {ol o : Obj} {R : List (Addr × Obj)} {i0 q cc : Nat} {v v' : Int} {u : Str → Option Value} (e : geo v 1 = v') (hq : 1 ≤ q) (hB : BytesIt o (bytesOf x) tb (i0 + 1)) :
    vJ x tb I l ol R i0 q cc v q (bndU u [(Str.ofString "iterator", .ref I), (Str.ofString "b", .int (cc : Int) t1), (Str.ofString "val", .int v' t2)]) ((l, ol) :: (I, o) :: R) := e ▸ .go o u t1 t2 1 (Nat.le_refl _) hq (Nat.sub_add_cancel hq).symm hB
inductive vP (x : Str) (tb : Tok) (I l : Addr) (ol : Obj) (R : List (Addr × Obj)) (i0 q : Nat) (v : Int) : (Str → Option Value) → List (Addr × Obj) → Prop
  | mk (o : Obj) (u : Str → Option Value) (t1 t2 : Tok) (hB : BytesIt o (bytesOf x) tb (i0 + q + 1)) : vP x tb I l ol R i0 q v (bndU u [(Str.ofString "iterator", .ref I), (Str.ofString "b", .int 10 t1), (Str.ofString "val", .int (numT v q 0) t2)]) ((l, ol) :: (I, o) :: R)
inductive nJ (x : Str) (I l : Addr) (done : List Tk) (cc q : Nat) (v : Int) (nx : List (Addr × Obj)) (n : Nat) : (Str → Option Value) → List (Addr × Obj) → Prop
  | mk (k : Nat) (u : Str → Option Value) (t1 t2 t3 t4 t5 : Tok) (hk : k ≤ q) (hn : n = q - k) : nJ x I l done cc q v nx n (bndU u [(Str.ofString "text", .str x t1), (Str.ofString "octets", .ref I), (Str.ofString "rows", .ref l), (Str.ofString "blanks", .int (((done.foldl stepT ([], 0)).2 : Nat) : Int) t2), (Str.ofString "number", .int (numT v q k) t3), (Str.ofString "sign", .str (chr1 cc) t4), (Str.ofString "letters", .int (k : Nat) t5)]) nx
inductive nP (x : Str) (I l : Addr) (done : List Tk) (cc q : Nat) (v : Int) (nx : List (Addr × Obj)) : (Str → Option Value) → List (Addr × Obj) → Prop
  | mk (u : Str → Option Value) (t1 t2 t3 t4 t5 : Tok) : nP x I l done cc q v nx (bndU u [(Str.ofString "text", .str x t1), (Str.ofString "octets", .ref I), (Str.ofString "rows", .ref l), (Str.ofString "blanks", .int (((done.foldl stepT ([], 0)).2 : Nat) : Int) t2), (Str.ofString "number", .int (numT v q q) t3), (Str.ofString "sign", .str (chr1 cc) t4), (Str.ofString "letters", .int (q : Nat) t5)]) nx
theorem word_at {x : Str} {ts done rest : List Tk} {q cc j : Nat} (hts : x.cps.toList = encs ts) (hsp : ts = done ++ Tk.wd q cc :: rest) (hj : j < q) (hc : cc < 256) : ByteAt (bytesOf x) ((encs done).length + j) (cc : Int) := by
  obtain ⟨d, rfl⟩ : ∃ d, q = j + (d + 1) := ⟨q - j - 1, by omega⟩
  have h := byteAt_of (x := x) (pre := encs done ++ List.replicate j cc) (suf := List.replicate d cc ++ [10] ++ encs rest) (c := cc) (by rw [hts, hsp, encs_app]; simp [encs, Tk.enc, List.replicate_succ, ← List.replicate_append_replicate]) hc
  rwa [List.length_append, List.length_replicate] at h
theorem word_end {x : Str} {ts done rest : List Tk} {q cc : Nat} (hts : x.cps.toList = encs ts) (hsp : ts = done ++ Tk.wd q cc :: rest) : ByteAt (bytesOf x) ((encs done).length + q) 10 := by
  have h := byteAt_of (x := x) (pre := encs done ++ List.replicate q cc) (suf := encs rest) (c := 10) (by rw [hts, hsp, encs_app]; simp [encs, Tk.enc]) (by decide)
  rwa [List.length_append, List.length_replicate] at h
theorem fr_set2c {g h : Heap} {L : Addr} {l : List (Str × Value)} {x1 x2 : Str} {v1 v2 : Value} (F : Fr g L h (fun y => if y = x2 then some v2 else if y = x1 then some v1 else List.lookup y l)) : Fr g L h (bndL (setL x2 v2 (setL x1 v1 l))) := by
  simp only [show ∀ y, List.lookup y l = bndL l y from fun y => congrFun (bndL_lookup l) y] at F
  exact fr_set2 F
theorem read_ct {w : World} (x : Str) (tx : Tok) (ts : List Tk) (news : List (Addr × Obj)) (hts : x.cps.toList = encs ts) (hok : ∀ k ∈ ts, k.ok) (hlen : ts.length ≤ 3000) (hx : 0 < x.length ∧ x.length ≤ 4000 ∧ ∀ c ∈ x.cps, c < 128) :
    CtS w 4 261 [.str x tx] news (RowsP news (ts.foldl stepT ([], 0)).1) := by
  unfold CtS
  intro p₉ lo₉ mean mg mb dp un gd cn cs a ccd cl outer A₀ base h₀ L m hp9 gs9 dr9 tk9 os9 Q E B F X N T XB TB D hk hd hu hret
  refine wpAny_call ?_
  k_dflt ((refine' enterS ?k1 ?k2 ?k3 ?k4 ?k5 ?XB ?TB ?D ?kA ?kF ?kK ?k6 ?k7 ?k8 ?k9 ?kB ?_ ?c2 ?c3 ?c4 ?c5; (case kA => exact rfl); (case kF => exact rfl); (case kK => assumption); (case k2 => k_asm); (case k1 => k_asm); (case XB => assumption); (case TB => assumption); (case D => assumption); (case k3 => k_asm); (case k4 => k_asm); (case k5 => k_asm); (case k6 => k_is); (case k7 => k_is); (case k8 => ktr_room); (case k9 => exact BindsTo.of_eq rfl); (case c5 => decide); (case kB => exact locs rfl); (case c2 => exact rfl); (case c3 => exact rfl); (case c4 => exact rfl); k_whole; intro g' L' h' FG' F' N' B' X' T' D'; (try dsimp only); (try k_lift B'); (try k_fold)))
  refine set_e ?_
  intro e9 A9
  have qd9 : A9.depth = dp + 1 := rfl
  have qu9 : A9.units = un + 3 := rfl
  rename Fr _ _ _ _ => F0
  replace F0 := fr_clean (l := [(Str.ofString "text", .str x tx)]) F0
  repeat' ((fail_if_success (with_reducible show wpAny _ _ (exec (.While _ _ _ _) _) _ _ _)); first | (((with_reducible show wpAny _ _ (call (Value.builtin "iter") [Value.bytes _ _]) _ _ _); k_dflt ((with_reducible refine iter_bytes (by k_dflt k_asm) (by k_dflt k_asm) ?_)); intro D' h' o' F' N' l1 hi'; (try k_lt l1))) | (((with_reducible show wpAny _ _ (call (Value.builtin "str.encode") _) _ _ _); (k_dflt ((with_reducible refine encode_call (by k_dflt assumption) ?_)); intro t' k'))) | (((with_reducible show wpAny _ _ (getMethod (Value.str _ _) "encode" _) _ _ _); k_dflt ((with_reducible refine encode_method ?_)))) | with_reducible refine Jc ?_ | ((with_reducible refine' Js ?zF ?zN ?zl ?zb ?_); (case zl | zb => exact rfl); (case zF | zN => assumption); intro h' F' N'; (try k_sweep)) | (with_reducible first | refine ci_ ?_ | refine cs_ ?_) | ((with_reducible refine' ld_ ?zF ?zv ?zl ?zb ?_); (case zl | zb => exact rfl); (case zF => assumption); (case zv => exact rfl)) | with_reducible refine asg_ ?_ | ((with_reducible refine Jr (by with_reducible assumption) ?_); intro mC FC EC QC tC) | walk1)
  rename Fr _ _ _ _ => F1
  rename News _ _ _ _ => N1
  rename BytesIt _ _ _ _ => hI
  rename (∀ p ∈ news, p.1 < _) => hlt
  rename (_ < _ ∧ AllLt _ _) => hlt2
  obtain ⟨hIl, hlt2⟩ := hlt2
  have hlt3 := ktn_ltOf hlt2
  have F2 := fr_set3 F1
  refine While_inv3 (rowsJ x ts news) ts.length (fun _ _ => False) F2 N1 ?j0 ?turn ?done
  case j0 => exact .mk _ _ _ [] ts _ [] _ [] _ _ _ (Nat.ne_of_lt hIl) rfl rfl hI .nil (fun p hp => Nat.ne_of_lt (hlt p hp)) fun p hp => Nat.ne_of_lt (hlt3 p hp)
  case done => exact fun _ _ _ _ _ _ h => h.elim
  case turn =>
    intro n m₁ nx h₁ tk₁ F3 N3 hJ
    revert F3 N3
    refine rowsJ.casesOn hJ ?_
    intro I l tb done rest o vs c tl u t1 t2 hIl' hsp hn hB hR hne1 hne2 F3 N3
    clear hJ
    clear F1 F2 N1 hI
    clear hIl hlt hlt2 hlt3
    cases rest with
    | nil =>
      have hend : (bytesOf x)[(encs done).length]? = none := byteEnd (by rw [hts, hsp, List.append_nil])
      dsimp only
      repeat' (first | (((with_reducible show wpAny _ _ (call (Value.builtin "next") [Value.ref _]) _ _ _); k_dflt (first | ((with_reducible refine' next_at ?F ?N ?U ?i ?x ?_); (case F => k_asm); (case N => k_asm); (case i => assumption); (case U => k_updF); (case x => assumption); intro h' o' k' t' F' N' hi'; (try dsimp only at N')) | ((with_reducible refine' next_stop ?H ?F ?N ?U ?i ?x ?_); (case H => rfl); (case F => k_asm); (case N => k_asm); (case i => assumption); (case U => k_updF); (case x => assumption); intro h₁ h' o' e' F' N' hx'; (try dsimp only at N'))))) | ((with_reducible refine Jb ?_); (try dsimp only)) | ((with_reducible refine' ld_ ?zF ?zv ?zl ?zb ?_); (case zl | zb => exact rfl); (case zF => assumption); (case zv => exact rfl)) | with_reducible refine asg_ ?_ | ((with_reducible refine Jr (by with_reducible assumption) ?_); intro mC FC EC QC tC) | (k_unfold; (try dsimp only)) | walk1)
      rw [List.append_nil] at hsp
      subst hsp
      rename News _ _ _ _ => kN9
      refine hret _ ((l, listOf vs.toArray c) :: tl) _ _ _ ?_ ?_ (fun p hp => kN9 p ((List.mem_cons.mp hp).elim (fun e => by rw [e]; exact .head _) (fun hp => .tail _ (.tail _ hp)))) ?_ ?_ ?_ ?_ (.mk l vs c tl hR hne2)
      all_goals assumption
    | cons k rest =>
      have hko := hok k (by rw [hsp]; exact List.mem_append_right _ (.head _))
      cases k with
      | bl =>
        have hat : ByteAt (bytesOf x) (encs done).length ((32 : Nat) : Int) := byteAt_of (suf := encs rest) (by rw [hts, hsp, encs_app]; rfl) (by decide)
        replace hat : ByteAt (bytesOf x) (encs done).length 32 := hat
        have hb1 : Builtin.bitAnd 32 63 = 32 := by decide
        have hb2 : Builtin.bitAnd 32 64 = 0 := by decide
        dsimp only
        repeat' (first | (((with_reducible show wpAny _ _ (truthy (Value.int _ _)) _ _ _); (k_dflt (first | (with_reducible refine truthy_int_T (by decide) ?_) | (with_reducible refine truthy_int_F rfl ?_))))) | (((with_reducible show wpAny _ _ (binaryOp PySem.Operator.BitAnd (Value.int _ _) (Value.int _ _)) _ _ _); (k_dflt ((with_reducible refine and_to (by k_dflt assumption) ?_))))) | (((with_reducible show wpAny _ _ (call (Value.builtin "next") [Value.ref _]) _ _ _); k_dflt (first | ((with_reducible refine' next_at ?F ?N ?U ?i ?x ?_); (case F => k_asm); (case N => k_asm); (case i => assumption); (case U => k_updF); (case x => assumption); intro h' o' k' t' F' N' hi'; (try dsimp only at N')) | ((with_reducible refine' next_stop ?H ?F ?N ?U ?i ?x ?_); (case H => rfl); (case F => k_asm); (case N => k_asm); (case i => assumption); (case U => k_updF); (case x => assumption); intro h₁ h' o' e' F' N' hx'; (try dsimp only at N'))))) | ((with_reducible refine Ja ?_); (try dsimp only)) | ((with_reducible refine Jb ?_); (try dsimp only)) | (with_reducible first | refine Jc ?_ | refine Jf ?_ | refine Jg ?_ | refine Jh ?_ | refine Ji ?_ | refine Jj ?_ | refine Jn ?_ | refine Jq ?_) | ((with_reducible refine' Js ?zF ?zN ?zl ?zb ?_); (case zl | zb => exact rfl); (case zF | zN => assumption); intro h' F' N'; (try k_sweep)) | (with_reducible first | refine ci_ ?_ | refine bin_ ?_) | ((with_reducible refine' ld_ ?zF ?zv ?zl ?zb ?_); (case zl | zb => exact rfl); (case zF => assumption); (case zv => exact rfl)) | (with_reducible first | refine if_ ?_ | refine asg_ ?_) | ((with_reducible refine' aug_ ?zF ?zv ?zl ?zb ?_); (case zl | zb => exact rfl); (case zF => assumption); (case zv => exact rfl)) | with_reducible refine cmp_ ?_ | ((with_reducible refine Jr (by with_reducible assumption) ?_); intro mC FC EC QC tC) | (k_unfold; (try dsimp only)) | walk1)
        rename Fr _ _ _ _ => F9
        rename News _ _ _ _ => N9
        clear hB
        rename BytesIt _ _ _ _ => hB9
        exact ws_next (fr_keep 4 (fr_set2 F9)) N9 (by rw [hn]; exact Nat.lt_succ_self _) (rowsJ_bl hIl' hsp hB9 hR hne1 hne2)
      | wd q cc =>
        obtain ⟨hq1, hq2, hc1, hc2⟩ := hko
        obtain ⟨v, hv⟩ : ∃ v : Int, v = (cc : Int) - 64 := ⟨_, rfl⟩
        have hat : ByteAt (bytesOf x) (encs done).length (cc : Int) := by
          obtain ⟨q', rfl⟩ : ∃ q', q = q' + 1 := ⟨q - 1, by omega⟩
          exact byteAt_of (suf := List.replicate q' cc ++ [10] ++ encs rest) (by rw [hts, hsp, encs_app]; simp [encs, Tk.enc, List.replicate_succ]) (by omega)
        have hb1 : Builtin.bitAnd (cc : Int) 63 = v := by rw [bitAnd_m6]; omega
        have hb2 : Builtin.bitAnd (cc : Int) 64 = 64 := band64 hc1 hc2
        have hb3 : Builtin.bitAnd 10 64 = 0 := by decide
        have hb4 : Builtin.bitAnd 10 63 = 10 := by decide
        dsimp only
        repeat' ((fail_if_success (with_reducible show wpAny _ _ (exec (.While _ _ _ _) _) _ _ _)); first | (((with_reducible show wpAny _ _ (binaryOp PySem.Operator.BitAnd (Value.int _ _) (Value.int _ _)) _ _ _); (k_dflt ((with_reducible refine and_to (by k_dflt assumption) ?_))))) | (((with_reducible show wpAny _ _ (call (Value.builtin "next") [Value.ref _]) _ _ _); k_dflt (first | ((with_reducible refine' next_at ?F ?N ?U ?i ?x ?_); (case F => k_asm); (case N => k_asm); (case i => assumption); (case U => k_updF); (case x => assumption); intro h' o' k' t' F' N' hi'; (try dsimp only at N')) | ((with_reducible refine' next_stop ?H ?F ?N ?U ?i ?x ?_); (case H => rfl); (case F => k_asm); (case N => k_asm); (case i => assumption); (case U => k_updF); (case x => assumption); intro h₁ h' o' e' F' N' hx'; (try dsimp only at N'))))) | (with_reducible first | refine Jc ?_ | refine Jf ?_ | refine Jg ?_) | ((with_reducible refine' Js ?zF ?zN ?zl ?zb ?_); (case zl | zb => exact rfl); (case zF | zN => assumption); intro h' F' N'; (try k_sweep)) | (with_reducible first | refine ci_ ?_ | refine bin_ ?_) | ((with_reducible refine' ld_ ?zF ?zv ?zl ?zb ?_); (case zl | zb => exact rfl); (case zF => assumption); (case zv => exact rfl)) | with_reducible refine asg_ ?_ | ((with_reducible refine Jr (by with_reducible assumption) ?_); intro mC FC EC QC tC) | walk1)
        rename Fr _ _ _ _ => F4
        rename News _ _ _ _ => N4
        clear hB
        rename BytesIt _ _ _ _ => hB4
        have F5 := fr_set2c F4
        have hv0 : 1 ≤ v := by omega
        have hv1 : v < 64 := by omega
        have hr : 0 ≤ v ∧ v < 64 := by omega
        have hr10 : (0 : Int) ≤ 10 ∧ (10 : Int) < 64 := by decide
        have geo1 : geo v 1 = v := by show 0 * 64 + v = v; omega
        refine While_inv3 (vJ x tb I l (listOf vs.toArray c) (tl ++ news) (encs done).length q cc v) q (vP x tb I l (listOf vs.toArray c) (tl ++ news) (encs done).length q v) F5 N4 ?i0 ?iturn ?idone
        case i0 => exact vJ_one geo1 hq1 hB4
        case iturn =>
          clear F4 F5 N4 hB4 hret
          intro n m₁ nx h₁ tk₁ F6 N6 hJ
          revert F6 N6
          refine vJ.casesOn hJ ?_ ?_
          · intro o u t1 t2 j hj1 hj2 hn hB6 F6 N6
            clear hJ
            have hVB : VB (geo v j) := geo_vb (by omega) hv1 (by omega)
            by_cases hj : j < q
            · have hat6 : ByteAt (bytesOf x) ((encs done).length + j) (cc : Int) := word_at hts hsp hj (by omega)
              dsimp only
              repeat' (first | (((with_reducible show wpAny _ _ (truthy (Value.int _ _)) _ _ _); (k_dflt (first | (with_reducible refine truthy_int_T (by decide) ?_) | (with_reducible refine truthy_int_F rfl ?_))))) | (((with_reducible show wpAny _ _ (inplaceOp PySem.Operator.BitOr (Value.int _ _) (Value.int _ _)) _ _ _); (k_dflt ((with_reducible refine or64 (by k_dflt assumption) (by k_dflt assumption) ?_))))) | (((with_reducible show wpAny _ _ (inplaceOp PySem.Operator.LShift (Value.int _ _) (Value.int _ _)) _ _ _); (k_dflt ((with_reducible refine shl6 (by k_dflt assumption) ?_))))) | (((with_reducible show wpAny _ _ (binaryOp PySem.Operator.BitAnd (Value.int _ _) (Value.int _ _)) _ _ _); (k_dflt ((with_reducible refine and_to (by k_dflt assumption) ?_))))) | (((with_reducible show wpAny _ _ (call (Value.builtin "next") [Value.ref _]) _ _ _); k_dflt (first | ((with_reducible refine' next_at ?F ?N ?U ?i ?x ?_); (case F => k_asm); (case N => k_asm); (case i => assumption); (case U => k_updF); (case x => assumption); intro h' o' k' t' F' N' hi'; (try dsimp only at N')) | ((with_reducible refine' next_stop ?H ?F ?N ?U ?i ?x ?_); (case H => rfl); (case F => k_asm); (case N => k_asm); (case i => assumption); (case U => k_updF); (case x => assumption); intro h₁ h' o' e' F' N' hx'; (try dsimp only at N'))))) | ((with_reducible refine Ja ?_); (try dsimp only)) | (with_reducible first | refine Jc ?_ | refine Jf ?_ | refine Jg ?_ | refine Jq ?_) | ((with_reducible refine' Js ?zF ?zN ?zl ?zb ?_); (case zl | zb => exact rfl); (case zF | zN => assumption); intro h' F' N'; (try k_sweep)) | (with_reducible first | refine ci_ ?_ | refine bin_ ?_) | ((with_reducible refine' ld_ ?zF ?zv ?zl ?zb ?_); (case zl | zb => exact rfl); (case zF => assumption); (case zv => exact rfl)) | with_reducible refine asg_ ?_ | ((with_reducible refine' aug_ ?zF ?zv ?zl ?zb ?_); (case zl | zb => exact rfl); (case zF => assumption); (case zv => exact rfl)) | ((with_reducible refine Jr (by with_reducible assumption) ?_); intro mC FC EC QC tC) | walk1)
              rename Fr _ _ _ _ => F9
              rename News _ _ _ _ => N9
              clear hB6
              rename BytesIt _ _ _ _ => hB9
              have F10 := fr_keep 3 (fr_set3 F9)
              exact ws_next (n' := q - (j + 1) + 1) F10 N9 (by omega) (.go _ _ _ _ (j + 1) (by omega) (by omega) rfl hB9)
            · have hat6 : ByteAt (bytesOf x) ((encs done).length + j) 10 := by
                obtain rfl : j = q := by omega
                exact word_end hts hsp
              dsimp only
              repeat' (first | (((with_reducible show wpAny _ _ (truthy (Value.int _ _)) _ _ _); (k_dflt (first | (with_reducible refine truthy_int_T (by decide) ?_) | (with_reducible refine truthy_int_F rfl ?_))))) | (((with_reducible show wpAny _ _ (inplaceOp PySem.Operator.BitOr (Value.int _ _) (Value.int _ _)) _ _ _); (k_dflt ((with_reducible refine or64 (by k_dflt assumption) (by k_dflt assumption) ?_))))) | (((with_reducible show wpAny _ _ (inplaceOp PySem.Operator.LShift (Value.int _ _) (Value.int _ _)) _ _ _); (k_dflt ((with_reducible refine shl6 (by k_dflt assumption) ?_))))) | (((with_reducible show wpAny _ _ (binaryOp PySem.Operator.BitAnd (Value.int _ _) (Value.int _ _)) _ _ _); (k_dflt ((with_reducible refine and_to (by k_dflt assumption) ?_))))) | (((with_reducible show wpAny _ _ (call (Value.builtin "next") [Value.ref _]) _ _ _); k_dflt (first | ((with_reducible refine' next_at ?F ?N ?U ?i ?x ?_); (case F => k_asm); (case N => k_asm); (case i => assumption); (case U => k_updF); (case x => assumption); intro h' o' k' t' F' N' hi'; (try dsimp only at N')) | ((with_reducible refine' next_stop ?H ?F ?N ?U ?i ?x ?_); (case H => rfl); (case F => k_asm); (case N => k_asm); (case i => assumption); (case U => k_updF); (case x => assumption); intro h₁ h' o' e' F' N' hx'; (try dsimp only at N'))))) | ((with_reducible refine Ja ?_); (try dsimp only)) | (with_reducible first | refine Jc ?_ | refine Jf ?_ | refine Jg ?_ | refine Jq ?_) | ((with_reducible refine' Js ?zF ?zN ?zl ?zb ?_); (case zl | zb => exact rfl); (case zF | zN => assumption); intro h' F' N'; (try k_sweep)) | (with_reducible first | refine ci_ ?_ | refine bin_ ?_) | ((with_reducible refine' ld_ ?zF ?zv ?zl ?zb ?_); (case zl | zb => exact rfl); (case zF => assumption); (case zv => exact rfl)) | with_reducible refine asg_ ?_ | ((with_reducible refine' aug_ ?zF ?zv ?zl ?zb ?_); (case zl | zb => exact rfl); (case zF => assumption); (case zv => exact rfl)) | ((with_reducible refine Jr (by with_reducible assumption) ?_); intro mC FC EC QC tC) | walk1)
              rename Fr _ _ _ _ => F9
              rename News _ _ _ _ => N9
              clear hB6
              rename BytesIt _ _ _ _ => hB9
              obtain rfl : j = q := by omega
              have F10 := fr_keep 3 (fr_set3 F9)
              exact ws_next (n' := 0) F10 N9 (by omega) (.stop _ _ _ _ rfl hB9)
          · --[ w3
            intro o u t1 t2 hn hB6 F6 N6
            clear hJ
            dsimp only
            repeat' (first | (((with_reducible show wpAny _ _ (truthy (Value.int _ _)) _ _ _); (k_dflt (first | (with_reducible refine truthy_int_T (by decide) ?_) | (with_reducible refine truthy_int_F rfl ?_))))) | (((with_reducible show wpAny _ _ (binaryOp PySem.Operator.BitAnd (Value.int _ _) (Value.int _ _)) _ _ _); (k_dflt ((with_reducible refine and_to (by k_dflt assumption) ?_))))) | (with_reducible first | refine Jf ?_ | refine Jg ?_ | refine ci_ ?_ | refine bin_ ?_) | ((with_reducible refine' ld_ ?zF ?zv ?zl ?zb ?_); (case zl | zb => exact rfl); (case zF => assumption); (case zv => exact rfl)) | walk1)
            rename Fr _ _ _ _ => F9
            rename News _ _ _ _ => N9
            exact ws_end F9 N9 (.mk _ _ _ _ hB6)
        case idone =>
          clear F4 F5 N4 hB4
          intro h₁ tk₁ m₁ nx F6 N6 hJ
          revert F6 N6
          refine vP.casesOn hJ ?_
          intro o u t1 t2 hB6 F6 N6
          clear hJ
          have hsg := numT_sign hv0 hv1 hq1
          have hVB := numT_vb hv0 hv1 (k := 0) hq2
          have hne32 := numT_ne hv0 hv1 hq1
          dsimp only
          repeat' ((fail_if_success (with_reducible show wpAny _ _ (exec (.While _ _ _ _) _) _ _ _)); first | (((with_reducible show wpAny _ _ (binaryOp PySem.Operator.Mod (Value.int _ _) (Value.int _ _)) _ _ _); (k_dflt ((with_reducible refine mod64 (by k_dflt assumption) ?_))))) | (((with_reducible show wpAny _ _ (binaryOp PySem.Operator.FloorDiv (Value.int _ _) (Value.int _ _)) _ _ _); (k_dflt ((with_reducible refine div64 (by k_dflt assumption) ?_))))) | ((with_reducible refine Ja ?_); (try dsimp only)) | ((with_reducible refine Jb ?_); (try dsimp only)) | (with_reducible first | refine Jc ?_ | refine Jf ?_ | refine Jg ?_ | refine Jh ?_ | refine Ji ?_ | refine Jj ?_ | refine Jn ?_ | refine Jq ?_) | ((with_reducible refine' Js ?zF ?zN ?zl ?zb ?_); (case zl | zb => exact rfl); (case zF | zN => assumption); intro h' F' N'; (try k_sweep)) | (with_reducible first | refine ci_ ?_ | refine bin_ ?_) | ((with_reducible refine' ld_ ?zF ?zv ?zl ?zb ?_); (case zl | zb => exact rfl); (case zF => assumption); (case zv => exact rfl)) | (with_reducible first | refine if_ ?_ | refine asg_ ?_) | ((with_reducible refine' aug_ ?zF ?zv ?zl ?zb ?_); (case zl | zb => exact rfl); (case zF => assumption); (case zv => exact rfl)) | with_reducible refine cmp_ ?_ | ((with_reducible refine Jr (by with_reducible assumption) ?_); intro mC FC EC QC tC) | (k_unfold; (try dsimp only)) | walk1)
          · exact absurd (by assumption) hne32
          · rename Fr _ _ _ _ => F7
            rename News _ _ _ _ => N7
            have F8 := fr_set3 F7
            have hch : chr1 cc = ⟨#[(64 + v).toNat]⟩ := by unfold chr1; rw [show (64 + v).toNat = cc by omega]
            rw [← hch] at F8
            refine While_inv3 (nJ x I l done cc q v ((l, listOf vs.toArray c) :: (I, o) :: (tl ++ news))) q (nP x I l done cc q v ((l, listOf vs.toArray c) :: (I, o) :: (tl ++ news))) F8 N7 ?n0 ?nturn ?ndone
            case n0 => exact .mk 0 _ _ _ _ _ _ (Nat.zero_le _) rfl
            case nturn =>
              clear F6 N6 F7 N7 F8
              intro n m₁ nx h₁ tk₁ F9 N9 hJ
              revert F9 N9
              refine nJ.casesOn hJ ?_
              intro k u t1 t2 t3 t4 t5 hk hn F9 N9
              clear hJ
              by_cases hlt : k < q
              · have hgo := numT_go hv0 hv1 hlt
                have hdv := numT_div hv0 hv1 hlt
                have hVk := numT_vb hv0 hv1 (k := k) hq2
                dsimp only
                repeat' (first | (((with_reducible show wpAny _ _ (inplaceOp PySem.Operator.FloorDiv (Value.int _ _) (Value.int _ _)) _ _ _); (k_dflt ((with_reducible refine idiv64 (by k_dflt assumption) (by k_dflt assumption) ?_))))) | ((with_reducible refine Ja ?_); (try dsimp only)) | (with_reducible first | refine Jc ?_ | refine Jh ?_ | refine Ji ?_ | refine Jj ?_ | refine Jq ?_) | ((with_reducible refine' Js ?zF ?zN ?zl ?zb ?_); (case zl | zb => exact rfl); (case zF | zN => assumption); intro h' F' N'; (try k_sweep)) | with_reducible refine ci_ ?_ | ((with_reducible refine' ld_ ?zF ?zv ?zl ?zb ?_); (case zl | zb => exact rfl); (case zF => assumption); (case zv => exact rfl)) | ((with_reducible refine' aug_ ?zF ?zv ?zl ?zb ?_); (case zl | zb => exact rfl); (case zF => assumption); (case zv => exact rfl)) | with_reducible refine cmp_ ?_ | ((with_reducible refine Jr (by with_reducible assumption) ?_); intro mC FC EC QC tC) | walk1)
                rename Fr _ _ _ _ => F9
                rename News _ _ _ _ => N9
                have F10 := fr_keep 7 (fr_set2 F9)
                exact ws_next (n' := q - (k + 1)) F10 N9 (by omega) (.mk (k + 1) _ _ _ _ _ _ hlt rfl)
              · obtain rfl : k = q := by omega
                have hst := numT_stop hv1 hq1
                dsimp only
                repeat' (first | (with_reducible first | refine Jh ?_ | refine Ji ?_ | refine Jj ?_ | refine ci_ ?_) | ((with_reducible refine' ld_ ?zF ?zv ?zl ?zb ?_); (case zl | zb => exact rfl); (case zF => assumption); (case zv => exact rfl)) | with_reducible refine cmp_ ?_ | walk1)
                rename Fr _ _ _ _ => F9
                rename News _ _ _ _ => N9
                exact ws_end F9 N9 (.mk _ _ _ _ _ _)
            case ndone =>
              clear F6 N6 F7 N7 F8
              intro h₁ tk₁ m₁ nx F9 N9 hJ
              revert F9 N9
              refine nP.casesOn hJ ?_
              intro u t1 t2 t3 t4 t5 F9 N9
              clear hJ
              have hz : vs.toArray.size ≤ sizeLine := by
                rw [List.size_toArray, hR.len]
                have h1 := rows_len done ([], 0)
                have h2 : done.length ≤ ts.length := by rw [hsp, List.length_append]; omega
                have h4 : (done.foldl stepT ([], 0)).1.length ≤ 0 + done.length := h1
                exact small_line (by omega)
              dsimp only
              repeat' (first | (((with_reducible show wpAny _ _ (call (Value.builtin _) [Value.ref _, _]) _ _ _); k_dflt ((with_reducible refine' append_K ?k1 ?k2 ?k3 ?_ ?z); (case k1 => k_asm); (case k2 => k_asm); (case k3 => k_upd); (case z => assumption); k_whole); intro h' F' N')) | ((with_reducible refine Ja ?_); (try dsimp only)) | with_reducible refine Jc ?_ | ((with_reducible refine' Js ?zF ?zN ?zl ?zb ?_); (case zl | zb => exact rfl); (case zF | zN => assumption); intro h' F' N'; (try k_sweep)) | with_reducible refine ci_ ?_ | ((with_reducible refine' ld_ ?zF ?zv ?zl ?zb ?_); (case zl | zb => exact rfl); (case zF => assumption); (case zv => exact rfl)) | with_reducible refine asg_ ?_ | ((with_reducible refine Jr (by with_reducible assumption) ?_); intro mC FC EC QC tC) | walk1)
              rename Fr _ _ _ _ => F10
              rename News _ _ _ _ => N10
              rename (_ < _ ∧ _ < _ ∧ AllLt _ _) => hlt
              have F11 := fr_keep 4 (fr_set F10)
              exact ws_next (n' := rest.length) F11 (fun p hp => N10 p (by
                rcases List.mem_cons.mp hp with rfl | hp
                · exact .tail _ (.head _)
                · rcases List.mem_cons.mp hp with rfl | hp
                  · exact .tail _ (.tail _ (.head _))
                  · rcases List.mem_cons.mp hp with rfl | hp
                    · exact .head _
                    · exact .tail _ (.tail _ (.tail _ hp)))) (by rw [hn]; exact Nat.lt_succ_self _) (rowsJ_wd hIl' hsp hB6 hR hne1 hne2 hlt.1 hlt.2.1)
end Mine
-- PF
theorem Mine.top_offPF : True := by
  w_top off
  exact trivial
namespace Mine
def strsOf (l : List (Str × Tok)) : Array Value := (strValues l).toArray
theorem strsOf_push (l : List (Str × Tok)) (x : Str) (t : Tok) : (strsOf l).push (.str x t) = strsOf (l ++ [(x, t)]) := by
  unfold strsOf strValues
  simp
theorem strsOf_size (l : List (Str × Tok)) : (strsOf l).size = l.length := by unfold strsOf strValues; simp
section
variable {w : World} {A : Around} {E : Value → Shared → Prop} {s : Shared} {h₀ : Heap} {L : Addr} {m : Str → Option Value} {news : List (Addr × Obj)} {t u u2 : Tok}
def keyI (e : DictEntry) : Int := match e.key with | .int k _ => k | _ => 0
def flagLs : List DictEntry := [{ hash := 1, key := .int 1 232, val := .str (Str.ofString "OPTIMIZED") 233 }, { hash := 2, key := .int 2 234, val := .str (Str.ofString "NEWLOCALS") 235 }, { hash := 4, key := .int 4 236, val := .str (Str.ofString "VARARGS") 237 }, { hash := 8, key := .int 8 238, val := .str (Str.ofString "VARKEYWORDS") 239 }, { hash := 16, key := .int 16 240, val := .str (Str.ofString "NESTED") 241 }, { hash := 32, key := .int 32 242, val := .str (Str.ofString "GENERATOR") 243 }, { hash := 64, key := .int 64 244, val := .str (Str.ofString "NOFREE") 245 }, { hash := 128, key := .int 128 246, val := .str (Str.ofString "COROUTINE") 247 }, { hash := 256, key := .int 256 248, val := .str (Str.ofString "ITERABLE_COROUTINE") 249 }, { hash := 512, key := .int 512 250, val := .str (Str.ofString "ASYNC_GENERATOR") 251 }]
def flagEs : Array DictEntry := flagLs.toArray
theorem flag_find (u : Tok) : ∀ i : _root_.Fin 37, ∃ t, (findBy Value.isInt flagEs (2 ^ i.val)).getD (.str (hexT (2 ^ i.val)) u) = .str (nameOf i.val) t
  | ⟨0, _⟩ => ⟨233, by kernel_rfl⟩
  | ⟨1, _⟩ => ⟨235, by kernel_rfl⟩
  | ⟨2, _⟩ => ⟨237, by kernel_rfl⟩
  | ⟨3, _⟩ => ⟨239, by kernel_rfl⟩
  | ⟨4, _⟩ => ⟨241, by kernel_rfl⟩
  | ⟨5, _⟩ => ⟨243, by kernel_rfl⟩
  | ⟨6, _⟩ => ⟨245, by kernel_rfl⟩
  | ⟨7, _⟩ => ⟨247, by kernel_rfl⟩
  | ⟨8, _⟩ => ⟨249, by kernel_rfl⟩
  | ⟨9, _⟩ => ⟨251, by kernel_rfl⟩
  | ⟨10, _⟩ => ⟨u, by kernel_rfl⟩
  | ⟨11, _⟩ => ⟨u, by kernel_rfl⟩
  | ⟨12, _⟩ => ⟨u, by kernel_rfl⟩
  | ⟨13, _⟩ => ⟨u, by kernel_rfl⟩
  | ⟨14, _⟩ => ⟨u, by kernel_rfl⟩
  | ⟨15, _⟩ => ⟨u, by kernel_rfl⟩
  | ⟨16, _⟩ => ⟨u, by kernel_rfl⟩
  | ⟨17, _⟩ => ⟨u, by kernel_rfl⟩
  | ⟨18, _⟩ => ⟨u, by kernel_rfl⟩
  | ⟨19, _⟩ => ⟨u, by kernel_rfl⟩
  | ⟨20, _⟩ => ⟨u, by kernel_rfl⟩
  | ⟨21, _⟩ => ⟨u, by kernel_rfl⟩
  | ⟨22, _⟩ => ⟨u, by kernel_rfl⟩
  | ⟨23, _⟩ => ⟨u, by kernel_rfl⟩
  | ⟨24, _⟩ => ⟨u, by kernel_rfl⟩
  | ⟨25, _⟩ => ⟨u, by kernel_rfl⟩
  | ⟨26, _⟩ => ⟨u, by kernel_rfl⟩
  | ⟨27, _⟩ => ⟨u, by kernel_rfl⟩
  | ⟨28, _⟩ => ⟨u, by kernel_rfl⟩
  | ⟨29, _⟩ => ⟨u, by kernel_rfl⟩
  | ⟨30, _⟩ => ⟨u, by kernel_rfl⟩
  | ⟨31, _⟩ => ⟨u, by kernel_rfl⟩
  | ⟨32, _⟩ => ⟨u, by kernel_rfl⟩
  | ⟨33, _⟩ => ⟨u, by kernel_rfl⟩
  | ⟨34, _⟩ => ⟨u, by kernel_rfl⟩
  | ⟨35, _⟩ => ⟨u, by kernel_rfl⟩
  | ⟨36, _⟩ => ⟨u, by kernel_rfl⟩
  | ⟨_ + 37, h⟩ => absurd h (by omega)
theorem flags_map {h : Heap} (X : (hd.heap_1 w.params).In h) : h.MapOf (intKind PG w) 36 (fun x => findBy Value.isInt flagEs x) := by
  refine ⟨_, _, _, X 36 _ (by k_is), ⟨rfl, rfl, rfl⟩, rfl, ?_, fun k => rfl⟩
  intro e he
  refine ⟨keyI e, ?_⟩
  rw [← Array.mem_toList_iff] at he
  replace he : e ∈ flagLs := he
  simp only [flagLs, List.mem_cons, List.not_mem_nil, or_false] at he
  rcases he with rfl | rfl | rfl | rfl | rfl | rfl | rfl | rfl | rfl | rfl <;> exact ⟨by kernel_rfl, by kernel_rfl⟩
theorem flags_method {pl : Sem Bool} {Q : Value × List Value → Shared → Prop} (F : Fr h₀ L s.heap m) (X₀ : (hd.heap_1 w.params).In h₀) (h : Q (.builtin "dict.get", [.ref 36]) s) : wpAny (model PG w) A (getMethod (.ref 36) (Str.ofString "get") pl) Q E s :=
  have hm := flags_map (X₀.keeps F.keep)
  getMethod_builtin hm.typeIs PySem.F.plainAttrs_dict PySem.F.slot_dict_get PySem.F.type_dict_get hm.noDict h
@[irreducible] def flI (P : Nat → Bool) (i n : Nat) : Int := ((fl P i n : Nat) : Int)
@[irreducible] def p2I (i : Nat) : Int := 2 ^ i
@[irreducible] def hexV (x : Int) : Str := hexT x
@[irreducible] def nmI (i : Nat) : Str := nameOf i
theorem flags_get {i : Nat} {Q : Value → Shared → Prop} (hi : i < 37) (F : Fr h₀ L s.heap m) (X₀ : (hd.heap_1 w.params).In h₀) (h : ∀ t' k, Q (.str (nmI i) t') { s with toks := k }) :
    wpAny (model PG w) A (call (.builtin "dict.get") [.ref 36, .int (p2I i) t, .str (hexV (p2I i)) u]) Q E s := by
  unfold p2I hexV
  unfold nmI at h
  exact
  have hm := flags_map (X₀.keeps F.keep)
  call_meetsIn PySem.F.slot_dict_get hm.typeIs PySem.F.entry_dict_get (PySem.F.args_dict_get_3 _ _ _) (meets_dict_get_default (intKind PG w) 36 (intKind_is _ _ _ _) (by decide) _) ⟨_, hm, by
    obtain ⟨t', e⟩ := flag_find u ⟨i, hi⟩
    rw [show (findBy Value.isInt flagEs (2 ^ i)).getD (.str (hexT (2 ^ i)) u) = .str (nameOf i) t' from e]
    exact h _ _⟩
theorem hexT_len (i : Nat) (hi : i < 37) : (hexT (2 ^ i)).length ≤ 4000 := by
  have key : ∀ j : _root_.Fin 37, (hexT (2 ^ j.val)).length ≤ 4000 := by decide +kernel
  exact key ⟨i, hi⟩
theorem hexV_len (P : Nat → Bool) : (hexV (flI P 32 (37 - 32))).length ≤ 4000 := by
  have key : ∀ j : _root_.Fin 32, (hexT ((2 ^ 32 * j.val : Nat) : Int)).length ≤ 4000 := by decide +kernel
  obtain ⟨r, hr⟩ := fl_dvd P 5 32
  have h := fl_lt P 5 32
  unfold hexV flI
  rw [show 37 - 32 = 5 from rfl, hr]
  exact key ⟨r, by rw [hr] at h; omega⟩
theorem shl_one {i : Nat} {Q : Value → Shared → Prop} (hi : i < 64) (h : Q (.int (p2I i) s.toks) { s with toks := s.toks + 1 }) : wpAny (model PG w) A (binaryOp .LShift (.int 1 t) (.int (0 + (i : Int)) u)) Q E s := by
  unfold p2I at h
  exact lshift_int_small (by omega) (by omega) (by decide) (by
    have e : (0 + (i : Int)).toNat = i := by omega
    rw [e, Int.one_mul]
    exact h)
theorem ixor_to {x a r : Int} {Q : Value → Shared → Prop} (e : Builtin.bitXor x a = r) (h : Q (.int r s.toks) { s with toks := s.toks + 1 }) : wpAny (model PG w) A (inplaceOp .BitXor (.int x t) (.int a u)) Q E s :=
  ixor_int (by rw [e]; exact h)
theorem hex_fit {x : Int} {Q : Value → Shared → Prop} (e : (hexV x).length ≤ 4000) (h : Q (.str (hexV x) s.toks) { s with toks := s.toks + 1 }) : wpAny (model PG w) A (call (.builtin "hex") [.int x t]) Q E s := by
  unfold hexV at e h
  exact P.hex_of_int h (small_line e)
theorem join_names {l : List (Str × Tok)} {c : Nat} {D : Addr} {Q : Value → Shared → Prop} (N : News h₀ L s.heap news) (hm : (D, listOf (strsOf l) c) ∈ news) (hl : l.length ≤ 40) (hx : ∀ x ∈ l.map (·.1), x.length ≤ 40)
    (h : ∀ t' k, Q (.str (Str.join (Str.ofString ", ") (l.map (·.1))) t') { s with toks := k }) : wpAny (model PG w) A (call (.builtin "str.join") [.str (Str.ofString ", ") t, .ref D]) Q E s := by
  refine SC.join (l := l) (texts := l.map (·.1)) ⟨_, (N _ hm).1, rfl, c, rfl⟩ rfl ?_ (fun t' k => ?_)
  rotate_left
  · rw [show Txt.join (Str.ofString ", ") (l.map (·.1)) = Str.join (Str.ofString ", ") (l.map (·.1)) from StrLaws.glued_eq_join _ _]
    exact h t' k
  · have hj := StrLaws.joinFits (sep := Str.ofString ", ") (texts := l.map (·.1)) (B := 40) hx (by
      have e : (Str.ofString ", ").length = 2 := by decide +kernel
      rw [e, List.length_map]; omega)
    first | exact hj | (unfold JoinOk; rw [hj]; rfl)
end
theorem pf_ex {i n' : Nat} (h : n' = 37 - i) (hi : i < 32) : ∃ n, n' = n + 1 := ⟨36 - i, h.trans (Nat.succ_sub (Nat.le_of_lt (Nat.lt_trans hi (by decide))))⟩
theorem pf_n {i n : Nat} (h : n + 1 = 37 - i) : n = 37 - (i + 1) := by rw [← Nat.sub_sub, ← h]; rfl
inductive PrJ (P : Nat → Bool) (news : List (Addr × Obj)) (i : Nat) : (Str → Option Value) → List (Addr × Obj) → Prop
  | mk (ln : Addr) (l : List (Str × Tok)) (c n : Nat) (u : Str → Option Value) (t1 : Tok) (hl : l.map (·.1) = namesTo P i) (hn : n = 37 - i) (hne : fl P i n ≠ 0) (hnl : ∀ p ∈ news, p.1 ≠ ln) : PrJ P news i (bndU u [(Str.ofString "flags", .int (flI P i n) t1), (Str.ofString "names", .ref ln)]) ((ln, listOf (strsOf l) c) :: news)
theorem pretty_ct {w : World} (P : Nat → Bool) (tf : Tok) (news : List (Addr × Obj)) (hP : fl P 0 37 ≠ 0) :
    Ct w 3 43 [.int (flI P 0 37) tf] news (ValP (.str (Str.join (Str.ofString ", ") (wordsOf P)))) := by
  unfold Ct
  intro p₉ lo₉ mean mg mb dp un gd cn cs a ccd cl outer A₀ base h₀ L m hp9 gs9 dr9 tk9 os9 Q E B F X N T hk hd hu hret
  refine wpAny_call ?_
  k_dflt (first
  | cell_enter
  | (refine' code_defC ?k1 ?k2 ?k3 ?k4 ?k5 ?kA ?kF ?kK ?k6 ?k7 ?k8 ?k9 ?kB ?kD ?_ ?c2 ?c3 ?c4; (case kA => exact rfl); (case kF => exact rfl); (case kK => assumption); (case k1 => k_asm); (case k2 => k_asm); (case k3 => k_asm); (case k4 => k_asm); (case k5 => k_asm); (case k6 => k_is); (case k7 => k_is); (case k8 => ktr_room); (case k9 => exact BindsTo.of_eq rfl); (case kB => exact rfl); (case kD => decide +kernel); (case c2 => exact rfl); (case c3 => exact rfl); (case c4 => exact rfl); k_whole; intro g' L' h' tk' cells' FG' F' N' Y' B' X' T' l1; k_cells Y'; (try simp only [List.cons_append, List.nil_append] at N'); (try dsimp only); (try k_lift B'); (try k_fold)))
  refine set_e ?_
  intro e9 A9
  have qd9 : A9.depth = dp + 1 := rfl
  have qu9 : A9.units = un + 3 := rfl
  rename Fr _ _ _ _ => F0
  replace F0 := fr_clean (l := [(Str.ofString "flags", .int (flI P 0 37) tf)]) F0
  repeat' ((fail_if_success (with_reducible show wpAny _ _ (pyIter (Value.ref _)) (fun it s₂ => ElseAt _ _ _ _ _ _ _ _ _ _ it s₂) _ _)); first | (((with_reducible show wpAny _ _ (exec (Stmt.For _ _ _ _ _) _) _ _ _); (k_dflt ((with_reducible refine For_else ?_ (by k_dflt (intro _); with_unfolding_all rfl)))))) | with_reducible refine Jc ?_ | ((with_reducible refine' Js ?zF ?zN ?zl ?zb ?_); (case zl | zb => exact rfl); (case zF | zN => assumption); intro h' F' N'; (try k_sweep)) | (with_reducible first | refine ci_ ?_ | refine asg_ ?_) | ((with_reducible refine Jr (by with_reducible assumption) ?_); intro mC FC EC QC tC) | walk1)
  rename IsRange _ _ _ _ _ _ _ _ => hR
  rename Fr _ _ _ _ => F1
  rename News _ _ _ _ => N1
  replace F1 := fr_set F1
  refine Grow_range (n := 32) (PrJ P news)
    rfl F1 N1 rfl hR (by decide) (by decide) ?j0 rfl rfl ?turn ?done (by passes_own)
  case j0 =>
    rename (∀ p ∈ news, p.1 < _) => hlt
    exact .mk _ [] 0 37 (fun _ => none) tf rfl rfl hP fun p hp => Nat.ne_of_lt (hlt p hp)
  case done =>
    clear F1 N1 hR
    intro m₁ nx h tk hJ
    refine PrJ.casesOn hJ ?_
    clear hJ
    rintro ln l c n u t1 hl rfl hne hnl F2 N2
    have hlen : l.length ≤ 32 := by rw [← List.length_map (f := (·.1)), hl]; exact namesTo_len P 32
    have hsz : (strsOf l).size ≤ sizeLine := by rw [strsOf_size]; exact small_line (Nat.le_trans hlen (by decide))
    have hhex : (hexV (flI P 32 (37 - 32))).length ≤ 4000 := hexV_len P
    dsimp only at F2 ⊢
    repeat' (first | (((with_reducible show wpAny _ _ (call (Value.builtin _) [Value.ref _, _]) _ _ _); k_dflt ((with_reducible refine' append_K ?k1 ?k2 ?k3 ?_ ?z); (case k1 => k_asm); (case k2 => k_asm); (case k3 => k_upd); (case z => with_reducible assumption); k_whole); intro h' F' N')) | (((with_reducible show wpAny _ _ (call (Value.builtin "hex") _) _ _ _); (k_dflt ((with_reducible refine hex_fit (by with_reducible assumption) ?_))))) | ((with_reducible refine Ja ?_); (try dsimp only)) | (with_reducible first | refine Jc ?_ | refine cs_ ?_) | ((with_reducible refine' ld_ ?zF ?zv ?zl ?zb ?_); (case zl | zb => exact rfl); (case zF => assumption); (case zv => exact rfl)) | ((with_reducible refine Jr (by with_reducible assumption) ?_); intro mC FC EC QC tC) | walk1)
    rename News _ _ _ _ => N9
    rw [strsOf_push] at N9
    have hw : ∀ tk9 : Tok, (l ++ [(hexV (flI P 32 (37 - 32)), tk9)]).map (·.1) = wordsOf P := by
      intro tk9
      rw [List.map_append, hl]
      unfold wordsOf
      rw [if_neg hne]
      unfold hexV flI
      rfl
    k_dflt (refine' join_names ?N (.head _) ?_ ?_ ?_; (case N => exact N9))
    · rw [List.length_append]
      exact Nat.le_trans (Nat.succ_le_succ hlen) (by decide)
    · rw [hw]; exact wordsOf_mem P
    intro t' k'
    rw [hw]
    repeat' (first | ((with_reducible refine Jb ?_); (try dsimp only)) | (k_unfold; (try dsimp only)) | walk1)
    exact hret _ [] _ _ (by k_asm) (fun p hp => (by k_asm : News h₀ L _ _) p (.tail _ hp)) (.of t')
  case turn =>
    clear F1 N1 hR
    intro i t m₁ nx h tk I o hi hI hJ
    revert hI
    refine PrJ.casesOn hJ ?_
    clear hJ
    intro ln l c n' u t1 hl hn' hne hnl hI F2 N2
    replace F2 := fr_set F2
    have hlI : @Ne Nat ln I := hI _ (.head _)
    have hlen : l.length ≤ 32 := by rw [← List.length_map (f := (·.1)), hl]; exact Nat.le_trans (namesTo_len P i) (Nat.le_of_lt hi)
    obtain ⟨n, rfl⟩ := pf_ex hn' hi
    have hn9 := pf_n hn'
    cases hp : P i
    ·
      have hband : Builtin.bitAnd (flI P i (n + 1)) (p2I i) = 0 := by unfold flI p2I; rw [fl_band, if_neg (by rw [hp]; decide)]
      repeat' (first | (((with_reducible show wpAny _ _ (truthy (Value.int _ _)) _ _ _); (k_dflt (first | (with_reducible refine truthy_int_T (by with_reducible assumption) ?_) | (with_reducible refine truthy_int_F (by with_reducible assumption) ?_) | (with_reducible refine truthy_int_F rfl ?_))))) | (((with_reducible show wpAny _ _ (binaryOp PySem.Operator.BitAnd (Value.int _ _) (Value.int _ _)) _ _ _); (k_dflt ((with_reducible refine and_to (by with_reducible assumption) ?_))))) | (((with_reducible show wpAny _ _ (binaryOp PySem.Operator.LShift (Value.int _ _) (Value.int _ _)) _ _ _); (k_dflt ((with_reducible refine shl_one (by omega) ?_))))) | ((with_reducible refine Ja ?_); (try dsimp only)) | (with_reducible first | refine Jc ?_ | refine Jf ?_ | refine Jg ?_ | refine Jm ?_) | ((with_reducible refine' Js ?zF ?zN ?zl ?zb ?_); (case zl | zb => exact rfl); (case zF | zN => assumption); intro h' F' N'; (try k_sweep)) | (with_reducible first | refine ci_ ?_ | refine bin_ ?_) | ((with_reducible refine' ld_ ?zF ?zv ?zl ?zb ?_); (case zl | zb => exact rfl); (case zF => assumption); (case zv => exact rfl)) | (with_reducible first | refine if_ ?_ | refine asg_ ?_) | ((with_reducible refine Jr (by with_reducible assumption) ?_); intro mC FC EC QC tC) | walk1)
      rename Fr _ _ _ _ => F9
      rename News _ _ _ _ => N9
      have F10 := fr_keep 2 (fr_set F9)
      have e : flI P i (n + 1) = flI P (i + 1) n := by unfold flI; rw [fl_skip P n i hp]
      rw [e] at F10
      refine grow_end F10 N9 (fun p hp => .tail _ hp) (.head _) hI (.mk ln l c n _ t1 ?_ hn9 ?_ hnl)
      · show _ = namesTo P i ++ _
        rw [if_neg (by rw [hp]; decide), List.append_nil]
        exact hl
      · rw [← fl_skip P n i hp]; exact hne
    ·
      have hband : Builtin.bitAnd (flI P i (n + 1)) (p2I i) = p2I i := by unfold flI p2I; rw [fl_band, if_pos hp]
      have hbx : Builtin.bitXor (flI P i (n + 1)) (p2I i) = flI P (i + 1) n := by unfold flI p2I; exact fl_bxor P n i hp
      have hpow : p2I i ≠ 0 := by unfold p2I; exact Int.ne_of_gt (Int.pow_pos (by decide))
      have hi37 : i < 37 := Nat.lt_trans hi (by decide)
      have hhex : (hexV (p2I i)).length ≤ 4000 := by unfold hexV p2I; exact hexT_len i hi37
      have hsz : (strsOf l).size ≤ sizeLine := by rw [strsOf_size]; exact small_line (Nat.le_trans hlen (by decide))
      by_cases hz : fl P (i + 1) n = 0
      ·
        have hz' : flI P (i + 1) n = 0 := by unfold flI; rw [hz]; rfl
        repeat' (first | (((with_reducible show wpAny _ _ (call (Value.builtin _) [Value.ref _, _]) _ _ _); k_dflt ((with_reducible refine' append_K ?k1 ?k2 ?k3 ?_ ?z); (case k1 => k_asm); (case k2 => k_asm); (case k3 => k_upd); (case z => with_reducible assumption); k_whole); intro h' F' N')) | (((with_reducible show wpAny _ _ (call (Value.builtin "dict.get") _) _ _ _); (k_dflt ((with_reducible refine flags_get (by with_reducible assumption) (by k_dflt k_asm) (by k_dflt k_asm) ?_); intro t' k')))) | (((with_reducible show wpAny _ _ (call (Value.builtin "hex") _) _ _ _); (k_dflt ((with_reducible refine hex_fit (by with_reducible assumption) ?_))))) | (((with_reducible show wpAny _ _ (getMethod (Value.ref 36) _ _) _ _ _); k_dflt ((with_reducible refine flags_method (by k_dflt k_asm) (by k_dflt k_asm) ?_)))) | (((with_reducible show wpAny _ _ (truthy (Value.int _ _)) _ _ _); (k_dflt (first | (with_reducible refine truthy_int_T (by with_reducible assumption) ?_) | (with_reducible refine truthy_int_F (by with_reducible assumption) ?_) | (with_reducible refine truthy_int_F rfl ?_))))) | (((with_reducible show wpAny _ _ (inplaceOp PySem.Operator.BitXor (Value.int _ _) (Value.int _ _)) _ _ _); (k_dflt ((with_reducible refine ixor_to (by with_reducible assumption) ?_))))) | (((with_reducible show wpAny _ _ (binaryOp PySem.Operator.BitAnd (Value.int _ _) (Value.int _ _)) _ _ _); (k_dflt ((with_reducible refine and_to (by with_reducible assumption) ?_))))) | (((with_reducible show wpAny _ _ (binaryOp PySem.Operator.LShift (Value.int _ _) (Value.int _ _)) _ _ _); (k_dflt ((with_reducible refine shl_one (by omega) ?_))))) | (((with_reducible show GrowPost _ _ _ _ _ _ _ Flow.brk _); dsimp only [GrowPost])) | (with_reducible first | refine Jc ?_ | refine Jd ?_ | refine Jf ?_ | refine Jg ?_ | refine Jk ?_ | refine Jl ?_ | refine Jn ?_ | refine Jq ?_) | ((with_reducible refine' Js ?zF ?zN ?zl ?zb ?_); (case zl | zb => exact rfl); (case zF | zN => assumption); intro h' F' N'; (try k_sweep)) | (with_reducible first | refine ci_ ?_ | refine cs_ ?_ | refine bin_ ?_) | ((with_reducible refine' ld_ ?zF ?zv ?zl ?zb ?_); (case zl | zb => exact rfl); (case zF => assumption); (case zv => exact rfl)) | (with_reducible first | refine if_ ?_ | refine asg_ ?_) | ((with_reducible refine' aug_ ?zF ?zv ?zl ?zb ?_); (case zl | zb => exact rfl); (case zF => assumption); (case zv => exact rfl)) | ((with_reducible show wpAny _ _ (isTrue (PySem.Expr.Name _ _) _ _) _ _ _); with_reducible refine pl_ ?_) | ((with_reducible refine Jr (by with_reducible assumption) ?_); intro mC FC EC QC tC) | walk1)
        skip
        rename News _ _ _ _ => N9
        rw [strsOf_push] at N9
        have hw : ∀ tk9 : Tok, (l ++ [(nmI i, tk9)]).map (·.1) = wordsOf P := by
          intro tk9
          rw [List.map_append, hl, wordsOf_stop P (i + 1) hi (by rw [← hn9]; exact hz)]
          show _ = namesTo P i ++ _
          rw [if_pos hp]
          unfold nmI
          rfl
        k_dflt (refine' join_names ?N (.tail _ (.head _)) ?_ ?_ ?_; (case N => exact N9))
        · rw [List.length_append]
          exact Nat.le_trans (Nat.succ_le_succ hlen) (by decide)
        · rw [hw]; exact wordsOf_mem P
        intro t' k'
        rw [hw]
        repeat' (first | ((with_reducible refine Jb ?_); (try dsimp only)) | (k_unfold; (try dsimp only)) | walk1)
        exact hret _ [] _ _ (by k_asm) (fun p hp => (by k_asm : News h₀ L _ _) p (.tail _ (.tail _ hp))) (.of t')
      ·
        have hz' : flI P (i + 1) n ≠ 0 := by unfold flI; first | exact fun e => hz (Int.ofNat_eq_zero.mp e) | omega
        repeat' (first | (((with_reducible show wpAny _ _ (call (Value.builtin _) [Value.ref _, _]) _ _ _); k_dflt ((with_reducible refine' append_K ?k1 ?k2 ?k3 ?_ ?z); (case k1 => k_asm); (case k2 => k_asm); (case k3 => k_upd); (case z => with_reducible assumption); k_whole); intro h' F' N')) | (((with_reducible show wpAny _ _ (call (Value.builtin "dict.get") _) _ _ _); (k_dflt ((with_reducible refine flags_get (by with_reducible assumption) (by k_dflt k_asm) (by k_dflt k_asm) ?_); intro t' k')))) | (((with_reducible show wpAny _ _ (call (Value.builtin "hex") _) _ _ _); (k_dflt ((with_reducible refine hex_fit (by with_reducible assumption) ?_))))) | (((with_reducible show wpAny _ _ (getMethod (Value.ref 36) _ _) _ _ _); k_dflt ((with_reducible refine flags_method (by k_dflt k_asm) (by k_dflt k_asm) ?_)))) | (((with_reducible show wpAny _ _ (truthy (Value.int _ _)) _ _ _); (k_dflt (first | (with_reducible refine truthy_int_T (by with_reducible assumption) ?_) | (with_reducible refine truthy_int_F (by with_reducible assumption) ?_) | (with_reducible refine truthy_int_F rfl ?_))))) | (((with_reducible show wpAny _ _ (inplaceOp PySem.Operator.BitXor (Value.int _ _) (Value.int _ _)) _ _ _); (k_dflt ((with_reducible refine ixor_to (by with_reducible assumption) ?_))))) | (((with_reducible show wpAny _ _ (binaryOp PySem.Operator.BitAnd (Value.int _ _) (Value.int _ _)) _ _ _); (k_dflt ((with_reducible refine and_to (by with_reducible assumption) ?_))))) | (((with_reducible show wpAny _ _ (binaryOp PySem.Operator.LShift (Value.int _ _) (Value.int _ _)) _ _ _); (k_dflt ((with_reducible refine shl_one (by omega) ?_))))) | ((with_reducible refine Ja ?_); (try dsimp only)) | (with_reducible first | refine Jc ?_ | refine Jf ?_ | refine Jg ?_ | refine Jk ?_ | refine Jl ?_ | refine Jn ?_ | refine Jq ?_) | ((with_reducible refine' Js ?zF ?zN ?zl ?zb ?_); (case zl | zb => exact rfl); (case zF | zN => assumption); intro h' F' N'; (try k_sweep)) | (with_reducible first | refine ci_ ?_ | refine bin_ ?_) | ((with_reducible refine' ld_ ?zF ?zv ?zl ?zb ?_); (case zl | zb => exact rfl); (case zF => assumption); (case zv => exact rfl)) | (with_reducible first | refine if_ ?_ | refine asg_ ?_) | ((with_reducible refine' aug_ ?zF ?zv ?zl ?zb ?_); (case zl | zb => exact rfl); (case zF => assumption); (case zv => exact rfl)) | ((with_reducible show wpAny _ _ (isTrue (PySem.Expr.Name _ _) _ _) _ _ _); with_reducible refine pl_ ?_) | ((with_reducible refine Jr (by with_reducible assumption) ?_); intro mC FC EC QC tC) | walk1)
        rename Fr _ _ _ _ => F9
        rename News _ _ _ _ => N9
        rw [strsOf_push] at N9
        refine grow_end (fr_keep 2 (fr_set2 F9)) N9 (fun p hp => .tail _ hp) (.head _) ?_ (.mk ln (l ++ [_]) _ n _ _ ?_ hn9 hz hnl)
        · intro q hq
          rcases List.mem_cons.mp hq with rfl | hq
          · exact hlI
          · exact hI q (.tail _ hq)
        · rw [List.map_append, hl]
          show _ = namesTo P i ++ _
          rw [if_pos hp]
          unfold nmI
          rfl
end Mine
-- CI
section
open PySem PySem.W PyProof.Rows PySem.Calls PySem.Spec
namespace Mine
section
variable {prog : Program} {w : World} {A : Around} {E : Value → Shared → Prop} {s : Shared} {h₀ : Heap} {L : Addr} {m : Str → Option Value} {env : Env} {ct elt : Expr} {x : Str} {scope : Scope} {cl : List (Str × Addr)} {S : List (Addr × Obj) → Prop} {P : Nat → Value → Prop} {Fin : List Value → List (Addr × Obj) → Prop} {news : List (Addr × Obj)}
/-- the end of a comprehension's turn, read through another law -/
theorem ce_mono {s₁ s₂ : Shared} {I C D : Addr} {oI oC oD : Obj} {U : List (Addr × Obj) → Prop} {a b : Value → List (Addr × Obj) → Prop} {y : Value} (h : ∀ nw, a y nw → b y nw) (r : LCg.CompEnd h₀ L m s₁ I oI C oC D oD U a y s₂) : LCg.CompEnd h₀ L m s₁ I oI C oC D oD U b y s₂ :=
  have ⟨h', tk, nw, e, F, N, off, u, q⟩ := r
  ⟨h', tk, nw, e, F, N, off, u, h nw q⟩
/-- a comprehension with a test, by what holds of its list -/
theorem compT_inv {n : Nat} (J : Nat → List Value → Prop) (h0 : J 0 [])
    (turn : ∀ i ys v I oI C oC D m₂ h tk (E' : Value → Shared → Prop), i < n → J i ys → P i v → LCg.NsObj oC m₂ → m₂ x = some v → Fr h₀ L h m → News h₀ L h ((I, oI) :: (C, oC) :: (D, LCg.lst ys) :: news) → LCg.Off3 I C D news → ((@Ne Nat I C) ∧ (@Ne Nat I D) ∧ (@Ne Nat C D)) →
      wpAny (model prog w) A (isTrue ct (compEnvC scope cl C env) (eval ct (compEnvC scope cl C env))) (fun b s' => if b = true then wpAny (model prog w) A (eval elt (compEnvC scope cl C env)) (LCg.CompEnd h₀ L m { s with heap := h, toks := tk } I oI C oC D (LCg.lst ys) S (fun y news' => news' = news ∧ J (i + 1) (ys ++ [y]))) E' s'
        else LCg.CompEnd h₀ L m { s with heap := h, toks := tk } I oI C oC D (LCg.lst ys) S (fun _ news' => news' = news ∧ J (i + 1) ys) Value.none s') E' { s with heap := h, toks := tk })
    (fin : ∀ ys, J n ys → Fin ys news) : LCt.CompRestT prog w A h₀ L m env ct elt x scope cl s S P Fin n 0 [] news := by
  suffices key : ∀ j i ys, i + j = n → J i ys → LCt.CompRestT prog w A h₀ L m env ct elt x scope cl s S P Fin j i ys news from key n 0 [] (Nat.zero_add n) h0
  refine fun j => Nat.rec (fun i ys e q => .zero (fin ys (by cases e; exact q))) (fun j up i ys e q => .succ fun v I oI C oC D m₂ h tk E' a b c F N o d => ?_) j
  have on : ∀ zs nw, nw = news ∧ J (i + 1) zs → LCt.CompRestT prog w A h₀ L m env ct elt x scope cl s S P Fin j (i + 1) zs nw := fun zs nw z => z.1 ▸ up (i + 1) zs (by omega) z.2
  refine wpAny_mono (turn i ys v I oI C oC D m₂ h tk E' (by omega) q a b c F N o d) (fun t s₂ r => ?_) fun _ _ z => z
  by_cases ht : t = true
  · rw [if_pos ht] at r ⊢
    exact wpAny_mono r (fun y s₃ r => ce_mono (on _) r) fun _ _ z => z
  · rw [if_neg ht] at r ⊢
    exact ce_mono (on _) r
end
/-- is k one of the three told -/
@[irreducible] def memP (a b c k : Nat) : Bool := k == a || k == b || k == c
@[irreducible] def dgI (i : Nat) : Str := Txt.item (Str.ofString "1248") ((i % 4 : Nat) : Int)
@[irreducible] def zsI (i : Nat) : Str := Txt.mul (Str.ofString "0") ((i / 4 : Nat) : Int)
@[irreducible] def hxI (i : Nat) : Str := Str.ofString "0x" ++ dgI i
theorem hxI_eq (i : Nat) (h0 : 10 ≤ i) (h1 : i < 32) : hxI i ++ zsI i = nmI i := by
  have key : ∀ j : _root_.Fin 32, 10 ≤ j.val → (Str.ofString "0x" ++ Txt.item (Str.ofString "1248") ((j.val % 4 : Nat) : Int)) ++ Txt.mul (Str.ofString "0") ((j.val / 4 : Nat) : Int) = nameOf j.val := by decide +kernel
  unfold hxI zsI nmI dgI
  exact key ⟨i, h1⟩ h0
theorem dgI_len (i : Nat) : (dgI i).length = 1 := by
  have key : ∀ j : _root_.Fin 4, (Txt.item (Str.ofString "1248") (j.val : Int)).length = 1 := by decide +kernel
  unfold dgI
  exact key ⟨i % 4, Nat.mod_lt _ (by decide)⟩
theorem hxI_len (i : Nat) : (hxI i).length = 3 := by
  unfold hxI
  rw [show (Str.ofString "0x" ++ dgI i).length = (Str.ofString "0x").length + (dgI i).length from Array.size_append, dgI_len]
  decide +kernel
theorem zsI_len (i : Nat) (h1 : i < 32) : (zsI i).length ≤ 10 := by
  have key : ∀ j : _root_.Fin 8, (Txt.mul (Str.ofString "0") (j.val : Int)).length ≤ 10 := by decide +kernel
  unfold zsI
  exact key ⟨i / 4, by omega⟩
section
variable {prog : Program} {w : World} {A : Around} {E : Value → Shared → Prop} {s : Shared} {h₀ : Heap} {L : Addr} {news : List (Addr × Obj)} {value slice : PySem.Expr} {t u : Tok} {Q : Value → Shared → Prop} {i : Nat}
theorem in_three {k : Int} {a b c : Nat} {r : Bool} {lt : Addr} {t1 t2 t3 : Tok} {n : Nat} (N : News h₀ L s.heap news) (hm : (lt, listOf #[.int a t1, .int b t2, .int c t3] n) ∈ news) (e : memP a b c i = r) (hk : k = (i : Int)) (h : Q (.bool r) s) :
    wpAny (model prog w) A (compareOp .In (.int k t) (.ref lt)) Q E s := by
  subst hk
  refine PySem.SeqInW.in_listW (fun y => match y with | .int z _ => z == (i : Int) | _ => false) (fun y hy => ?_) ⟨_, (N _ hm).1, rfl, n, rfl⟩ ?_
  · simp only [List.mem_toArray, List.mem_cons, List.not_mem_nil, or_false] at hy
    rcases hy with rfl | rfl | rfl <;> exact MeetsSeq.EqGives.int _ _ _ _
  · have e2 : (#[Value.int a t1, Value.int b t2, Value.int c t3].any fun y => match y with | .int z _ => z == (i : Int) | _ => false) = r := by
      rw [← e]
      unfold memP
      have q : ∀ x : Nat, ((x : Int) == (i : Int)) = (i == x) := fun x => by
        rw [Bool.eq_iff_iff, beq_iff_eq, beq_iff_eq]; omega
      rw [List.any_toArray]
      show (((a : Int) == (i : Int)) || (((b : Int) == (i : Int)) || (((c : Int) == (i : Int)) || false))) = _
      rw [q, q, q, Bool.or_false, Bool.or_assoc]
    rw [e2]
    exact h
theorem names_at {k : Int} {its : List Value} {n : Nat} {ln : Addr} (N : News h₀ L s.heap news) (hm : (ln, listOf its.toArray n) ∈ news) (hi : i < 10) (hk : k = (i : Int)) (hx : ∀ j, j < 10 → ∃ t', its[j]? = some (.str (nmI j) t')) (h : ∀ t', Q (.str (nmI i) t') s)
    (hs : subscripted slice false (.ref ln) (.int k u) = operate [.ref ln, .int k u] (getItem (.ref ln) (.int k u)) := by with_unfolding_all rfl) (hg : ∀ r, letTemporaryGo value (.ref ln) r = pure () := by intro _; with_unfolding_all rfl) :
    wpAny (model prog w) A (subscriptTail value slice (.ref ln) (.int k u)) Q E s := by
  obtain ⟨t', e⟩ := hx i hi
  refine kim_list (l := its) N hm rfl rfl (by omega) (by omega) (x := .str (nmI i) t') ?_ (h t') hs hg
  have : k.toNat = i := by omega
  rw [this]; exact e
theorem names_ten (t0 t1 t2 t3 t4 t5 t6 t7 t8 t9 : Tok) : ∀ j, j < 10 → ∃ t', ([Value.str (Str.ofString "OPTIMIZED") t0, Value.str (Str.ofString "NEWLOCALS") t1, Value.str (Str.ofString "VARARGS") t2, Value.str (Str.ofString "VARKEYWORDS") t3, Value.str (Str.ofString "NESTED") t4, Value.str (Str.ofString "GENERATOR") t5, Value.str (Str.ofString "NOFREE") t6, Value.str (Str.ofString "COROUTINE") t7, Value.str (Str.ofString "ITERABLE_COROUTINE") t8, Value.str (Str.ofString "ASYNC_GENERATOR") t9] : List Value)[j]? = some (.str (nmI j) t')
  | 0, _ => ⟨t0, by unfold nmI; rfl⟩
  | 1, _ => ⟨t1, by unfold nmI; rfl⟩
  | 2, _ => ⟨t2, by unfold nmI; rfl⟩
  | 3, _ => ⟨t3, by unfold nmI; rfl⟩
  | 4, _ => ⟨t4, by unfold nmI; rfl⟩
  | 5, _ => ⟨t5, by unfold nmI; rfl⟩
  | 6, _ => ⟨t6, by unfold nmI; rfl⟩
  | 7, _ => ⟨t7, by unfold nmI; rfl⟩
  | 8, _ => ⟨t8, by unfold nmI; rfl⟩
  | 9, _ => ⟨t9, by unfold nmI; rfl⟩
  | _ + 10, h => absurd h (by omega)
theorem mod_four {k : Int} (hk : k = (i : Int)) (h : Q (.int ((i % 4 : Nat) : Int) s.toks) { s with toks := s.toks + 1 }) : wpAny (model prog w) A (binaryOp .Mod (.int k t) (.int 4 u)) Q E s := by
  subst hk
  refine mod_int (by decide) ?_
  have e : (i : Int).fmod 4 = ((i % 4 : Nat) : Int) := by rw [Int.fmod_eq_emod_of_nonneg _ (by decide)]; omega
  rw [e]; exact h
theorem div_four {k : Int} (hk : k = (i : Int)) (h : Q (.int ((i / 4 : Nat) : Int) s.toks) { s with toks := s.toks + 1 }) : wpAny (model prog w) A (binaryOp .FloorDiv (.int k t) (.int 4 u)) Q E s := by
  subst hk
  refine floordiv_int (by decide) ?_
  have e : (i : Int).fdiv 4 = ((i / 4 : Nat) : Int) := by rw [Int.fdiv_eq_ediv_of_nonneg _ (by decide)]; omega
  rw [e]; exact h
theorem digit_at (h : Q (.str (dgI i) s.toks) { s with toks := s.toks + 1 })
    (hs : subscripted slice false (.str (Str.ofString "1248") t) (.int ((i % 4 : Nat) : Int) u) = operate [.str (Str.ofString "1248") t, .int ((i % 4 : Nat) : Int) u] (getItem (.str (Str.ofString "1248") t) (.int ((i % 4 : Nat) : Int) u)) := by with_unfolding_all rfl)
    (ht : ∀ r, letTemporaryGo value (.str (Str.ofString "1248") t) r = pure () := by intro _; with_unfolding_all rfl) :
    wpAny (model prog w) A (subscriptTail value slice (.str (Str.ofString "1248") t) (.int ((i % 4 : Nat) : Int) u)) Q E s := by
  have e : (Str.ofString "1248").length = 4 := by decide +kernel
  unfold dgI at h
  exact item_str (fitsSsize_of (N := 9223372036854775808) (by omega) (by omega) (Int.le_refl _)) (by rw [e]; omega) (by rw [e]; omega) (fun _ => h) hs ht
theorem zeros_mul (hi : i < 32) (h : ∀ t' k, Q (.str (zsI i) t') { s with toks := k }) : wpAny (model prog w) A (binaryOp .Mult (.str (Str.ofString "0") t) (.int ((i / 4 : Nat) : Int) u)) Q E s := by
  have e : (Str.ofString "0").length = 1 := by decide +kernel
  unfold zsI at h
  exact SB.mul (mul_ok e (by omega)) fun t' k => h t' k
theorem add_hx (h : ∀ t' k, Q (.str (hxI i) t') { s with toks := k }) : wpAny (model prog w) A (binaryOp .Add (.str (Str.ofString "0x") t) (.str (dgI i) u)) Q E s := by
  unfold hxI at h
  refine PyProof.Rows.add_str h (small_line ?_)
  have e : (Str.ofString "0x").length = 2 := by decide +kernel
  rw [e, dgI_len]; decide
theorem add_nm (h0 : 10 ≤ i) (h1 : i < 32) (h : ∀ t' k, Q (.str (nmI i) t') { s with toks := k }) : wpAny (model prog w) A (binaryOp .Add (.str (hxI i) t) (.str (zsI i) u)) Q E s := by
  refine PyProof.Rows.add_str (fun t' k => ?_) (small_line ?_)
  · rw [hxI_eq i h0 h1]; exact h t' k
  · have := zsI_len i h1; rw [hxI_len]; omega
end
theorem strValues_snoc (l : List (Str × Tok)) (x : Str) (t : Tok) : strValues l ++ [.str x t] = strValues (l ++ [(x, t)]) := by unfold strValues; simp
theorem namesTo_no {P : Nat → Bool} {i : Nat} {l : List (Str × Tok)} (h : P i = false) (hl : l.map (·.1) = namesTo P i) : l.map (·.1) = namesTo P (i + 1) := by
  show _ = namesTo P i ++ _
  rw [if_neg (by rw [h]; decide), List.append_nil]
  exact hl
theorem namesTo_yes {P : Nat → Bool} {i : Nat} {l : List (Str × Tok)} {t : Tok} (h : P i = true) (hl : l.map (·.1) = namesTo P i) : (l ++ [(nmI i, t)]).map (·.1) = namesTo P (i + 1) := by
  show _ = namesTo P i ++ _
  rw [if_pos h, List.map_append, hl]
  unfold nmI
  rfl
/-- the high bits told, below 32 + i -/
noncomputable def bitsTo (P : Nat → Bool) : Nat → List Int
  | 0 => []
  | i + 1 => bitsTo P i ++ (if P (32 + i) then [p2I (32 + i)] else [])
theorem bitsTo_sum (P : Nat → Bool) : (bitsTo P 5).sum = flI P 32 5 := by
  unfold flI
  simp only [bitsTo, fl]
  unfold p2I
  cases P 32 <;> cases P 33 <;> cases P 34 <;> cases P 35 <;> cases P 36 <;> rfl
theorem bitsTo_no {P : Nat → Bool} {i : Nat} {ys : List Value} (h : P (32 + i) = false) (hl : IntsAre ys (bitsTo P i)) : IntsAre ys (bitsTo P (i + 1)) := by
  show IntsAre _ (bitsTo P i ++ _)
  rw [if_neg (by rw [h]; decide), List.append_nil]
  exact hl
theorem bitsTo_yes {P : Nat → Bool} {i : Nat} {ys : List Value} {t : Tok} (h : P (32 + i) = true) (hl : IntsAre ys (bitsTo P i)) : IntsAre (ys ++ [.int (p2I (32 + i)) t]) (bitsTo P (i + 1)) := by
  show IntsAre _ (bitsTo P i ++ _)
  rw [if_pos h]
  exact IntsAre.append hl (.cons _ t .nil)
theorem lst_strs (l : List (Str × Tok)) : LCg.lst (strValues l) = listOf (strsOf l) l.length := by
  unfold strsOf
  show ({ cls := .type "list", data := .seq (strValues l).toArray (strValues l).length } : Obj) = { cls := .type "list", data := .seq (strValues l).toArray l.length }
  rw [show (strValues l).length = l.length by unfold strValues; simp]
section
variable {prog : Program} {w : World} {A : Around} {E : Value → Shared → Prop} {s : Shared} {h₀ : Heap} {L l : Addr} {m : Str → Option Value} {news : List (Addr × Obj)} {t u : Tok} {i : Nat}
theorem shl_hi {Q : Value → Shared → Prop} (hi : i < 5) (h : Q (.int (p2I (32 + i)) s.toks) { s with toks := s.toks + 1 }) : wpAny (model prog w) A (binaryOp .LShift (.int 1 t) (.int (32 + (i : Int)) u)) Q E s := by
  unfold p2I at h
  exact lshift_int_small (by omega) (by omega) (by decide) (by
    have e : (32 + (i : Int)).toNat = 32 + i := by omega
    rw [e, Int.one_mul]
    exact h)
theorem sum_to {vs : List Value} {ns : List Int} {z : Int} {Q : Value → Shared → Prop} (F : Fr h₀ L s.heap m) (N : News h₀ L s.heap news) (hh : A.handled = none) (hm : (l, LCg.lst vs) ∈ news) (hi : IntsAre vs ns) (e : ns.sum = z)
    (h : ∀ h' tk t', Fr h₀ L h' m → News h₀ L h' news → Q (.int z t') { s with heap := h', toks := tk }) : wpAny (model prog w) A (call (.builtin "sum") [.ref l]) Q E s :=
  LSm.sum_ints F N hh ⟨_, (N _ hm).1, rfl, _, rfl⟩ hi (by rw [e]; exact h)
end
end Mine
end
-- WD
theorem Mine.top_offWD : True := by
  w_top off
  exact trivial
namespace Mine
theorem fr_any {g h : Heap} {L : Addr} {m : Str → Option Value} (F : Fr g L h m) : ∃ m', Fr g L h m' := ⟨m, F⟩
inductive NamJ (P : Nat → Bool) (i : Nat) : List Value → Prop
  | mk (l : List (Str × Tok)) (hl : l.map (·.1) = namesTo P i) : NamJ P i (strValues l)
theorem NamJ.snoc {P : Nat → Bool} {i : Nat} {l : List (Str × Tok)} {x : Str} {t : Tok} (hl : (l ++ [(x, t)]).map (·.1) = namesTo P i) : NamJ P i (strValues l ++ [.str x t]) := by
  rw [strValues_snoc]; exact .mk _ hl
theorem words_ct {w : World} (n1 n2 n3 : Nat) (lt : Addr) (t1 t2 t3 : Tok) (n : Nat) (news : List (Addr × Obj)) (ha : n1 < 37) (hb : n2 < 37) (hc : n3 < 37) :
    Ct w 4 266 [.ref lt] ((lt, listOf #[.int n1 t1, .int n2 t2, .int n3 t3] n) :: news) (ValP (.str (Str.join (Str.ofString ", ") (wordsOf (memP n1 n2 n3))))) := by
  unfold Ct
  intro p₉ lo₉ mean mg mb dp un gd cn cs a ccd cl outer A₀ base h₀ L m hp9 gs9 dr9 tk9 os9 Q E B F X N T hk hd hu hret
  refine wpAny_call ?_
  k_dflt (first
  | cell_enter
  | (refine' code_defC ?k1 ?k2 ?k3 ?k4 ?k5 ?kA ?kF ?kK ?k6 ?k7 ?k8 ?k9 ?kB ?kD ?_ ?c2 ?c3 ?c4; (case kA => exact rfl); (case kF => exact rfl); (case kK => assumption); (case k1 => k_asm); (case k2 => k_asm); (case k3 => k_asm); (case k4 => k_asm); (case k5 => k_asm); (case k6 => k_is); (case k7 => k_is); (case k8 => ktr_room); (case k9 => exact BindsTo.of_eq rfl); (case kB => exact rfl); (case kD => decide +kernel); (case c2 => exact rfl); (case c3 => exact rfl); (case c4 => exact rfl); k_whole; intro g' L' h' tk' cells' FG' F' N' Y' B' X' T' l1; k_cells Y'; (try simp only [List.cons_append, List.nil_append] at N'); (try dsimp only); (try k_lift B'); (try k_fold)))
  refine set_e ?_
  intro e9 A9
  have qd9 : A9.depth = dp + 1 := rfl
  have qu9 : A9.units = un + 3 := rfl
  rename Fr _ _ _ _ => F0
  obtain ⟨m0, F9⟩ := fr_any F0
  clear F0
  rename (Obj.data _ = Data.cell _) => d2
  replace d2 : _ = Data.cell (some (Value.ref lt)) := d2
  repeat' ((fail_if_success (with_reducible show wpAny _ _ (exec (Stmt.Assign _ (Expr.ListComp _ _ _ _) _) _) _ _ _)); (fail_if_success (with_reducible show wpAny _ _ (eval (Expr.ListComp _ _ _ _) _) _ _ _)); walk1)
  lcg_calm
  k_dflt (refine LCt.Assign_ListComp_T (F₀ := by k_asm) (by rfl) (by with_unfolding_all rfl) (by with_unfolding_all rfl) (by decide) (by rfl) (by decide) (by rfl) (by rfl) (by rfl) ?_)
  repeat' ((fail_if_success (with_reducible show LCt.CompSrcT _ _ _ _ _ _ _ _ _ _ _ _ _ _ _)); walk1)
  k_dflt (refine LCt.CompSrcT.range (n := 32) (by rfl) (by k_asm) (by k_asm) (by assumption) (by first | decide | rfl) (by first | rfl | decide) (by first | size_fits | exact Nat.le_of_ble_eq_true rfl) ?_; intro g')
  refine compT_inv (NamJ (memP n1 n2 n3)) (.mk [] rfl) ?turn ?fin
  case turn =>
    intro i ys v I oI C oC D m₂ h tk E' hi hJ
    refine NamJ.casesOn hJ ?_
    clear hJ
    rintro l hl ⟨t, rfl⟩ hC hx F N off ne
    cases hp : memP n1 n2 n3 i
    ·
      repeat' (first | (((with_reducible show wpAny _ _ (compareOp PySem.CmpOp.In (Value.int _ _) (Value.ref _)) _ _ _); (k_dflt ((with_reducible refine in_three (by k_dflt k_asm) (by k_dflt k_mem) (by with_reducible assumption) (by omega) ?_))))) | walk1)
      exact LCg.CompEnd.intro F N _ (fun p hp => hp) off trivial ⟨rfl, .mk l (namesTo_no hp hl)⟩
    ·
      by_cases h10 : i < 10
      · repeat' (first | (((with_reducible show wpAny _ _ (subscriptTail (Expr.Name _ _) (Expr.Name _ _) (Value.ref _) (Value.int _ _)) _ _ _); (k_dflt ((with_reducible refine names_at (by k_dflt k_asm) (by k_dflt k_mem) (by with_reducible assumption) (by omega) (names_ten _ _ _ _ _ _ _ _ _ _) ?_)); intro t'))) | (((with_reducible show wpAny _ _ (compareOp PySem.CmpOp.In (Value.int _ _) (Value.ref _)) _ _ _); (k_dflt ((with_reducible refine in_three (by k_dflt k_asm) (by k_dflt k_mem) (by with_reducible assumption) (by omega) ?_))))) | walk1)
        exact LCg.CompEnd.intro F N _ (fun p hp => hp) off trivial ⟨rfl, NamJ.snoc (namesTo_yes hp hl)⟩
      ·
        repeat' (first | (((first | ((with_reducible show wpAny _ _ (binaryOp _ (Value.str (hxI _) _) _) _ _ _); k_dflt ((with_reducible refine add_nm (by omega) (by with_reducible assumption) ?_))) | ((with_reducible show wpAny _ _ (binaryOp _ _ (Value.str (dgI _) _)) _ _ _); k_dflt ((with_reducible refine add_hx ?_)))); intro t' k')) | (((with_reducible show wpAny _ _ (binaryOp PySem.Operator.Mult (Value.str _ _) (Value.int _ _)) _ _ _); (k_dflt ((with_reducible refine zeros_mul (by with_reducible assumption) ?_)); intro t' k'))) | (((with_reducible show wpAny _ _ (subscriptTail _ _ (Value.str _ _) (Value.int _ _)) _ _ _); k_dflt ((with_reducible refine digit_at ?_)))) | (((with_reducible show wpAny _ _ (binaryOp PySem.Operator.FloorDiv (Value.int _ _) (Value.int _ _)) _ _ _); (k_dflt ((with_reducible refine div_four (Int.zero_add _) ?_))))) | (((with_reducible show wpAny _ _ (binaryOp PySem.Operator.Mod (Value.int _ _) (Value.int _ _)) _ _ _); (k_dflt ((with_reducible refine mod_four (Int.zero_add _) ?_))))) | (((with_reducible show wpAny _ _ (compareOp PySem.CmpOp.In (Value.int _ _) (Value.ref _)) _ _ _); (k_dflt ((with_reducible refine in_three (by k_dflt k_asm) (by k_dflt k_mem) (by with_reducible assumption) (by omega) ?_))))) | walk1)
        exact LCg.CompEnd.intro F N _ (fun p hp => hp) off trivial ⟨rfl, NamJ.snoc (namesTo_yes hp hl)⟩
  case fin =>
    intro ys hJ
    refine NamJ.casesOn hJ ?_
    clear hJ
    intro l hl D h1 tk1 F1 N1 off1
    rw [lst_strs] at N1
    obtain ⟨m1, F2⟩ : ∃ m1 : Str → Option Value, Fr _ _ h1 (fun y => if y = Str.ofString "words" then some (Value.ref D) else m1 y) := ⟨_, F1⟩
    clear F1
    have hlen : l.length ≤ 32 := by rw [← List.length_map (f := (·.1)), hl]; exact namesTo_len _ 32
    repeat' ((fail_if_success (with_reducible show wpAny _ _ (exec (Stmt.Assign _ (Expr.ListComp _ _ _ _) _) _) _ _ _)); (fail_if_success (with_reducible show wpAny _ _ (eval (Expr.ListComp _ _ _ _) _) _ _ _)); walk1)
    lcg_calm
    k_dflt (refine LCt.ListComp_T (F₀ := by k_asm) (by with_unfolding_all rfl) (by decide) (by rfl) (by decide) (by rfl) ?_)
    repeat' ((fail_if_success (with_reducible show LCt.CompSrcT _ _ _ _ _ _ _ _ _ _ _ _ _ _ _)); walk1)
    k_dflt (refine LCt.CompSrcT.range (n := 5) (by rfl) (by k_asm) (by k_asm) (by assumption) (by first | decide | rfl) (by first | rfl | decide) (by first | size_fits | exact Nat.le_of_ble_eq_true rfl) ?_; intro g')
    refine compT_inv (fun i ys => IntsAre ys (bitsTo (memP n1 n2 n3) i)) .nil ?turn2 ?fin2
    case turn2 =>
      rintro i ys v I oI C oC D m₂ h tk E' hi hl ⟨t, rfl⟩ hC hx F N off ne
      cases hp : memP n1 n2 n3 (32 + i)
      · repeat' (first | (((with_reducible show wpAny _ _ (compareOp PySem.CmpOp.In (Value.int _ _) (Value.ref _)) _ _ _); (k_dflt ((with_reducible refine in_three (by k_dflt k_asm) (by k_dflt k_mem) (by with_reducible assumption) (by omega) ?_))))) | walk1)
        exact LCg.CompEnd.intro F N _ (fun p hp => hp) off trivial ⟨rfl, bitsTo_no hp hl⟩
      · repeat' (first | (((with_reducible show wpAny _ _ (binaryOp PySem.Operator.LShift (Value.int _ _) (Value.int _ _)) _ _ _); (k_dflt ((with_reducible refine shl_hi (by with_reducible assumption) ?_))))) | (((with_reducible show wpAny _ _ (compareOp PySem.CmpOp.In (Value.int _ _) (Value.ref _)) _ _ _); (k_dflt ((with_reducible refine in_three (by k_dflt k_asm) (by k_dflt k_mem) (by with_reducible assumption) (by omega) ?_))))) | walk1)
        exact LCg.CompEnd.intro F N _ (fun p hp => hp) off trivial ⟨rfl, bitsTo_yes hp hl⟩
    case fin2 =>
      intro ys hys D2 h2 tk2 F3 N3 off3
      have hDD : @Ne Nat D D2 := off3.1
      have hall := off1_all off1
      have hsum := bitsTo_sum (memP n1 n2 n3)
      have hsz : (strsOf l).size ≤ sizeLine := by rw [strsOf_size]; exact small_line (by omega)
      have hhex : (hexV (flI (memP n1 n2 n3) 32 5)).length ≤ 4000 := hexV_len _
      by_cases hz : fl (memP n1 n2 n3) 32 5 = 0
      ·
        have hz' : flI (memP n1 n2 n3) 32 5 = 0 := by unfold flI; omega
        have hw : l.map (·.1) = wordsOf (memP n1 n2 n3) := by
          rw [hl]; unfold wordsOf; rw [if_pos hz, List.append_nil]
        repeat' (first | (((with_reducible show wpAny _ _ (call (Value.builtin "sum") _) _ _ _); (k_dflt ((with_reducible refine sum_to (by k_dflt k_asm) (by k_dflt k_asm) (by k_dflt rfl) (by k_dflt k_mem) (by with_reducible assumption) (by with_reducible assumption) ?_)); intro h' tk' t' F' N'))) | walk1)
        rename News _ _ _ _ => N9
        k_dflt (refine' join_names ?N ?m ?_ ?_ ?_; (case N => exact N9); (case m => k_mem))
        · omega
        · rw [hw]; exact wordsOf_mem _
        intro t' k'
        rw [hw]
        repeat' (walk1)
        exact hret _ [] _ _ (by k_asm) (cb_drop (by k_asm) (fun p hp => by (repeat (first | exact hp | refine List.Mem.tail _ ?_)))) (.of t')
      ·
        have hz' : 0 < flI (memP n1 n2 n3) 32 5 := by unfold flI; omega
        have hw : ∀ tk9 : Tok, (l ++ [(hexV (flI (memP n1 n2 n3) 32 5), tk9)]).map (·.1) = wordsOf (memP n1 n2 n3) := by
          intro tk9
          rw [List.map_append, hl]
          unfold wordsOf
          rw [if_neg hz]
          unfold hexV flI
          rfl
        repeat' (first | (((with_reducible show wpAny _ _ (call (Value.builtin _) [Value.ref _, _]) _ _ _); k_dflt ((with_reducible refine' append_K ?k1 ?k2 ?k3 ?_ ?z); (case k1 => k_asm); (case k2 => k_asm); (case k3 => k_upd); (case z => with_reducible assumption); k_whole); intro h' F' N')) | (((with_reducible show wpAny _ _ (call (Value.builtin "hex") _) _ _ _); (k_dflt ((with_reducible refine hex_fit (by with_reducible assumption) ?_))))) | (((with_reducible show wpAny _ _ (call (Value.builtin "sum") _) _ _ _); (k_dflt ((with_reducible refine sum_to (by k_dflt k_asm) (by k_dflt k_asm) (by k_dflt rfl) (by k_dflt k_mem) (by with_reducible assumption) (by with_reducible assumption) ?_)); intro h' tk' t' F' N'))) | walk1)
        rename News _ _ _ _ => N9
        rw [strsOf_push] at N9
        k_dflt (refine' join_names ?N ?m ?_ ?_ ?_; (case N => exact N9); (case m => k_mem))
        · rw [List.length_append]
          show l.length + 1 ≤ 40
          omega
        · rw [hw]; exact wordsOf_mem _
        intro t' k'
        rw [hw]
        repeat' (walk1)
        exact hret _ [] _ _ (by k_asm) (cb_drop (by k_asm) (fun p hp => by (repeat (first | exact hp | refine List.Mem.tail _ ?_)))) (.of t')
end Mine
-- PU
namespace Mine
abbrev stepOf (r : Int) : Int := 3 * r + 2
abbrev sizeOf (r : Int) : Int := 3 * r * (r + 1) + 1
abbrev lotsL (r : Int) : List (Int × Int × Int) := lotsAt r (2 * r + 1).toNat (2 * r + 1).toNat
def lotOk (r : Int) (k : Int) : Bool := match (lotsL r).find? (fun e => e.1 = k) with
  | some e => decide (e.1 = k) && decide (hexn e.2.1 e.2.2 ≤ r) && decide (lotKey r e.2.1 e.2.2 = k)
  | none => false
theorem lots_all : (∀ j : _root_.Fin 7, lotOk 1 (j.val : Int) = true) ∧ (∀ j : _root_.Fin 19, lotOk 2 (j.val : Int) = true) ∧ (∀ j : _root_.Fin 37, lotOk 3 (j.val : Int) = true) := by
  refine ⟨?_, ?_, ?_⟩ <;> decide +kernel
theorem fmod_rng (x : Int) {m : Int} (h : 0 < m) : 0 ≤ x.fmod m ∧ x.fmod m < m := by
  rw [Int.fmod_eq_emod_of_nonneg _ (Int.le_of_lt h)]
  exact ⟨Int.emod_nonneg _ (Int.ne_of_gt h), Int.emod_lt_of_pos _ h⟩
theorem to_nat {v : Int} {l u : Nat} (h1 : (l : Int) ≤ v) (h2 : v ≤ (u : Int)) : (l ≤ v.toNat ∧ v.toNat ≤ u) ∧ ((v.toNat : Nat) : Int) = v :=
  have e := Int.toNat_of_nonneg (Int.le_trans (Int.natCast_nonneg l) h1)
  ⟨⟨Int.ofNat_le.mp (e.symm ▸ h1), Int.ofNat_le.mp (e.symm ▸ h2)⟩, e⟩
theorem fin6 {f : Int} (h : 0 ≤ f ∧ f ≤ 5) : ∃ k : _root_.Fin 6, f = (k.val : Int) := ⟨⟨f.toNat, (Int.toNat_lt h.1).mpr (Int.lt_add_one_of_le h.2)⟩, (Int.toNat_of_nonneg h.1).symm⟩
theorem off_nat {r x : Int} {n : Nat} (h : -r ≤ x ∧ x ≤ r) (hn : r + r < n) : (x + r).toNat < n ∧ (((x + r).toNat : Nat) : Int) - r = x := by
  have h0 : 0 ≤ x + r := by rw [← Int.sub_neg]; exact Int.sub_nonneg_of_le h.1
  exact ⟨(Int.toNat_lt h0).mpr (Int.lt_of_le_of_lt (Int.add_le_add_right h.2 r) hn), by rw [Int.toNat_of_nonneg h0, Int.add_sub_cancel]⟩
theorem size_rng {r : Int} (hr : r = 1 ∨ r = 2 ∨ r = 3) : 0 < sizeOf r ∧ sizeOf r ≤ 37 := by rcases hr with rfl | rfl | rfl <;> decide
theorem lots_find {r k : Int} (hr : r = 1 ∨ r = 2 ∨ r = 3) (h0 : 0 ≤ k) (h1 : k < sizeOf r) : ∃ x y, (lotsL r).find? (fun e => e.1 = k) = some (k, x, y) ∧ hexn x y ≤ r ∧ lotKey r x y = k := by
  have h : lotOk r k = true := by
    rcases hr with rfl | rfl | rfl
    · have := lots_all.1 ⟨k.toNat, (Int.toNat_lt h0).mpr (Int.lt_of_lt_of_le h1 (by decide))⟩
      rwa [show ((k.toNat : Nat) : Int) = k from Int.toNat_of_nonneg h0] at this
    · have := lots_all.2.1 ⟨k.toNat, (Int.toNat_lt h0).mpr (Int.lt_of_lt_of_le h1 (by decide))⟩
      rwa [show ((k.toNat : Nat) : Int) = k from Int.toNat_of_nonneg h0] at this
    · have := lots_all.2.2 ⟨k.toNat, (Int.toNat_lt h0).mpr (Int.lt_of_lt_of_le h1 (by decide))⟩
      rwa [show ((k.toNat : Nat) : Int) = k from Int.toNat_of_nonneg h0] at this
  unfold lotOk at h
  split at h
  · rename_i e he
    simp only [Bool.and_eq_true, decide_eq_true_eq] at h
    obtain ⟨k', x, y⟩ := e
    obtain ⟨⟨rfl, h2⟩, h3⟩ := h
    exact ⟨x, y, he, h2, h3⟩
  · cases h
def lotBack (r x y : Int) : Bool := !decide (hexn x y ≤ r) || (match (lotsL r).find? (fun e => e.1 = lotKey r x y) with | some e => decide (e.2.1 = x) && decide (e.2.2 = y) | none => false)
theorem lots_back_all : (∀ i j : _root_.Fin 3, lotBack 1 ((i.val : Int) - 1) ((j.val : Int) - 1) = true) ∧ (∀ i j : _root_.Fin 5, lotBack 2 ((i.val : Int) - 2) ((j.val : Int) - 2) = true) ∧ (∀ i j : _root_.Fin 7, lotBack 3 ((i.val : Int) - 3) ((j.val : Int) - 3) = true) := by
  refine ⟨?_, ?_, ?_⟩ <;> decide +kernel
theorem abs_rng {x r : Int} (h : (x.natAbs : Int) ≤ r) : -r ≤ x ∧ x ≤ r :=
  ⟨Int.neg_le_of_neg_le (Int.le_trans (Int.natAbs_neg x ▸ Int.le_natAbs (a := -x)) h), Int.le_trans Int.le_natAbs h⟩
theorem hexn_box {x y r : Int} (h : hexn x y ≤ r) : (-r ≤ x ∧ x ≤ r) ∧ (-r ≤ y ∧ y ≤ r) := by
  unfold hexn at h
  have h1 := Int.le_trans (Int.le_max_left _ _) (Int.le_trans (Int.le_max_left _ _) h)
  have h2 := Int.le_trans (Int.le_max_right _ _) (Int.le_trans (Int.le_max_left _ _) h)
  exact ⟨abs_rng h1, abs_rng h2⟩
theorem lots_back {r x y : Int} (hr : r = 1 ∨ r = 2 ∨ r = 3) (h : hexn x y ≤ r) : ∃ k, (lotsL r).find? (fun e => e.1 = lotKey r x y) = some (k, x, y) := by
  have hb := hexn_box h
  have hk : lotBack r x y = true := by
    rcases hr with rfl | rfl | rfl
    · have hX := off_nat (n := 3) hb.1 (by decide)
      have hY := off_nat (n := 3) hb.2 (by decide)
      have := lots_back_all.1 ⟨(x + 1).toNat, hX.1⟩ ⟨(y + 1).toNat, hY.1⟩
      rwa [hX.2, hY.2] at this
    · have hX := off_nat (n := 5) hb.1 (by decide)
      have hY := off_nat (n := 5) hb.2 (by decide)
      have := lots_back_all.2.1 ⟨(x + 2).toNat, hX.1⟩ ⟨(y + 2).toNat, hY.1⟩
      rwa [hX.2, hY.2] at this
    · have hX := off_nat (n := 7) hb.1 (by decide)
      have hY := off_nat (n := 7) hb.2 (by decide)
      have := lots_back_all.2.2 ⟨(x + 3).toNat, hX.1⟩ ⟨(y + 3).toNat, hY.1⟩
      rwa [hX.2, hY.2] at this
  unfold lotBack at hk
  rw [decide_eq_true h] at hk
  simp only [Bool.not_true, Bool.false_or] at hk
  split at hk
  · rename_i e he
    obtain ⟨k, x', y'⟩ := e
    simp only [Bool.and_eq_true, decide_eq_true_eq] at hk
    obtain ⟨rfl, rfl⟩ := hk
    exact ⟨k, he⟩
  · cases hk
theorem fmod_dvd {a b m : Int} (hm : 0 ≤ m) (h : m ∣ a - b) : a.fmod m = b.fmod m := by
  rw [Int.fmod_eq_emod_of_nonneg _ hm, Int.fmod_eq_emod_of_nonneg _ hm]
  exact Int.emod_eq_emod_iff_emod_sub_eq_zero.mpr (Int.emod_eq_zero_of_dvd h)
theorem pow_lot {r f : Int} (hr : r = 1 ∨ r = 2 ∨ r = 3) (hf : 0 ≤ f ∧ f ≤ 5) : sizeOf r ∣ (stepOf r) ^ f.toNat - (dxF f + stepOf r * dyF f) := by
  obtain ⟨k, rfl⟩ := fin6 hf
  rcases hr with rfl | rfl | rfl <;> (revert k; decide +kernel)
theorem code_dvd {r : Int} (hr : r = 1 ∨ r = 2 ∨ r = 3) : ∀ fs : List Int, (∀ f ∈ fs, 0 ≤ f ∧ f ≤ 5) → sizeOf r ∣ (fs.map fun f => (stepOf r) ^ f.toNat).sum - ((fs.map dxF).sum + stepOf r * (fs.map dyF).sum)
  | [], _ => ⟨0, by simp⟩
  | f :: fs, h => by
    obtain ⟨u, hu⟩ := pow_lot hr (h f (.head _))
    obtain ⟨v, hv⟩ := code_dvd hr fs fun g hg => h g (.tail _ hg)
    refine ⟨u + v, ?_⟩
    simp only [List.map_cons, List.sum_cons]
    rw [show sizeOf r * (u + v) = sizeOf r * u + sizeOf r * v from Int.mul_add .., ← hu, ← hv, show stepOf r * (dyF f + (List.map dyF fs).sum) = stepOf r * dyF f + stepOf r * (List.map dyF fs).sum from Int.mul_add ..]
    omega
theorem code_key {r : Int} (hr : r = 1 ∨ r = 2 ∨ r = 3) {fs : List Int} (h : ∀ f ∈ fs, 0 ≤ f ∧ f ≤ 5) : ((fs.map fun f => (stepOf r) ^ f.toNat).sum).fmod (sizeOf r) = lotKey r (fs.map dxF).sum (fs.map dyF).sum :=
  fmod_dvd (by rcases hr with rfl | rfl | rfl <;> decide) (code_dvd hr fs h)
theorem add4 (a b c d : Int) : a + b + (c + d) = a + c + (b + d) := by rw [Int.add_assoc, Int.add_assoc, Int.add_left_comm b]
theorem acc1 {a b n : Int} (h : -1 ≤ a ∧ a ≤ 1) (ih : -n ≤ b ∧ b ≤ n) : -(n + 1) ≤ a + b ∧ a + b ≤ n + 1 :=
  ⟨by rw [Int.neg_add, Int.add_comm]; exact Int.add_le_add h.1 ih.1, by rw [Int.add_comm]; exact Int.add_le_add ih.2 h.2⟩
theorem sums_small : ∀ fs : List Int, (∀ f ∈ fs, 0 ≤ f ∧ f ≤ 5) → (-(fs.length : Int) ≤ (fs.map dxF).sum ∧ (fs.map dxF).sum ≤ fs.length) ∧ (-(fs.length : Int) ≤ (fs.map dyF).sum ∧ (fs.map dyF).sum ≤ fs.length) ∧ (-(fs.length : Int) ≤ (fs.map dxF).sum + (fs.map dyF).sum ∧ (fs.map dxF).sum + (fs.map dyF).sum ≤ fs.length)
  | [], _ => by simp
  | f :: fs, h => by
    have ih := sums_small fs fun g hg => h g (.tail _ hg)
    have hf := h f (.head _)
    have key : (-1 ≤ dxF f ∧ dxF f ≤ 1) ∧ (-1 ≤ dyF f ∧ dyF f ≤ 1) ∧ (-1 ≤ dxF f + dyF f ∧ dxF f + dyF f ≤ 1) := by
      clear ih h
      obtain ⟨k, rfl⟩ := fin6 hf
      clear hf
      revert k; decide +kernel
    simp only [List.map_cons, List.sum_cons, List.length_cons, Int.natCast_add, Int.natCast_one]
    exact ⟨acc1 key.1 ih.1, acc1 key.2.1 ih.2.1, by rw [add4]; exact acc1 key.2.2 ih.2.2⟩
theorem faults_len (n : Int) : (faultsL n).length ≤ 5 ∧ ∀ f ∈ faultsL n, 0 ≤ f ∧ f ≤ 5 := by
  have h6 : ∀ x : Int, 0 ≤ x.fmod 6 ∧ x.fmod 6 ≤ 5 := fun x => ⟨(fmod_rng x (by decide)).1, Int.le_of_lt_add_one (fmod_rng x (by decide)).2⟩
  constructor
  · unfold faultsL
    rw [List.length_map]
    have := h6 (n.fdiv 5)
    simp [rangeKs]
    omega
  · intro f hf
    unfold faultsL at hf
    obtain ⟨k, _, rfl⟩ := List.mem_map.mp hf
    exact h6 _
/-- what a number says: the row as it comes -/
def bX (z : Int) : Int := ((faultsL z).map dxF).sum
def bY (z : Int) : Int := ((faultsL z).map dyF).sum
def rowP (z r : Int) : Nat := (sentB z r + bX z).toNat
def rowQ (z : Int) : Nat := (sentL z + bY z).toNat
def rowC (z : Int) : Nat := (65 + z.fmod 26).toNat
theorem rowC_ok (z : Int) : 65 ≤ rowC z ∧ rowC z ≤ 90 ∧ ((rowC z : Nat) : Int) = 65 + z.fmod 26 := by
  have h := fmod_rng z (m := 26) (by decide)
  have k := to_nat (l := 65) (u := 90) (v := 65 + z.fmod 26) (Int.le_add_of_nonneg_right h.1) (Int.le_trans (Int.add_le_add_left (b := 25) (Int.le_of_lt_add_one h.2) 65) (by decide))
  exact ⟨k.1.1, k.1.2, k.2⟩
theorem sent_ok (z : Int) {r : Int} (hr : r = 1 ∨ r = 2 ∨ r = 3) : (8 ≤ sentL z ∧ sentL z ≤ 12) ∧ (8 ≤ sentB z r ∧ sentB z r ≤ 44) := by
  have h := fmod_rng z (m := 5) (by decide)
  have k := fmod_rng (-(3 * r + 2) * sentL z - 8) (size_rng hr).1
  exact ⟨⟨Int.le_add_of_nonneg_right h.1, Int.le_trans (Int.add_le_add_left (b := 4) (Int.le_of_lt_add_one h.2) 8) (by decide)⟩, Int.le_add_of_nonneg_right k.1, Int.le_trans (Int.add_le_add_left (b := 36) (Int.le_of_lt_add_one (Int.lt_of_lt_of_le k.2 (size_rng hr).2)) 8) (by decide)⟩
theorem bxy_ok (z : Int) : (-5 ≤ bX z ∧ bX z ≤ 5) ∧ (-5 ≤ bY z ∧ bY z ≤ 5) ∧ (-5 ≤ bX z + bY z ∧ bX z + bY z ≤ 5) := by
  have h := faults_len z
  have h2 := sums_small _ h.2
  have h5 : ((faultsL z).length : Int) ≤ 5 := Int.ofNat_le.mpr h.1
  have k : ∀ {a : Int}, -((faultsL z).length : Int) ≤ a ∧ a ≤ (faultsL z).length → -5 ≤ a ∧ a ≤ 5 := fun q => ⟨Int.le_trans (Int.neg_le_neg h5) q.1, Int.le_trans q.2 h5⟩
  exact ⟨k h2.1, k h2.2.1, k h2.2.2⟩
theorem row_ok (z : Int) {r : Int} (hr : r = 1 ∨ r = 2 ∨ r = 3) : (3 ≤ rowP z r ∧ rowP z r ≤ 50) ∧ (3 ≤ rowQ z ∧ rowQ z ≤ 50) ∧ 11 ≤ rowP z r + rowQ z ∧ ((rowP z r : Nat) : Int) = sentB z r + bX z ∧ ((rowQ z : Nat) : Int) = sentL z + bY z := by
  have h1 := sent_ok z hr
  have h2 := bxy_ok z
  have p := to_nat (l := 3) (u := 50) (Int.add_le_add h1.2.1 h2.1.1) (Int.le_trans (Int.add_le_add h1.2.2 h2.1.2) (by decide))
  have q := to_nat (l := 3) (u := 50) (Int.add_le_add h1.1.1 h2.2.1.1) (Int.le_trans (Int.add_le_add h1.1.2 h2.2.1.2) (by decide))
  refine ⟨p.1, q.1, Int.ofNat_le.mp ?_, p.2, q.2⟩
  rw [Int.natCast_add]
  show (11 : Int) ≤ (((sentB z r + bX z).toNat : Nat) : Int) + (((sentL z + bY z).toNat : Nat) : Int)
  rw [p.2, q.2, add4]
  exact Int.add_le_add (Int.add_le_add h1.2.1 h1.1.1) h2.2.2.1
theorem row_key (z : Int) {r : Int} (hr : r = 1 ∨ r = 2 ∨ r = 3) : (((rowP z r : Nat) : Int) + stepOf r * ((rowQ z : Nat) : Int)).fmod (sizeOf r) = lotKey r (bX z) (bY z) := by
  have h := (row_ok z hr).2.2.2
  rw [h.1, h.2]
  refine fmod_dvd (by rcases hr with rfl | rfl | rfl <;> decide) ?_
  unfold sentB
  generalize sentL z = l
  generalize bX z = x
  generalize bY z = y
  rcases hr with rfl | rfl | rfl
  · rw [Int.fmod_eq_emod_of_nonneg _ (by decide)]; simp only [sizeOf, stepOf]; omega
  · rw [Int.fmod_eq_emod_of_nonneg _ (by decide)]; simp only [sizeOf, stepOf]; omega
  · rw [Int.fmod_eq_emod_of_nonneg _ (by decide)]; simp only [sizeOf, stepOf]; omega
/-- the code of a number: what its row leaves -/
def codeK (z r : Int) : Int := lotKey r (bX z) (bY z)
theorem codeK_ok (z : Int) {r : Int} (hr : r = 1 ∨ r = 2 ∨ r = 3) : 0 ≤ codeK z r ∧ codeK z r < sizeOf r ∧ codeK z r < 37 := by
  have h := fmod_rng (bX z + (3 * r + 2) * bY z) (size_rng hr).1
  exact ⟨h.1, h.2, Int.lt_of_lt_of_le h.2 (size_rng hr).2⟩
theorem code_told (z : Int) {r : Int} (hr : r = 1 ∨ r = 2 ∨ r = 3) : (((faultsL z).map fun f => (stepOf r) ^ f.toNat).sum).fmod (sizeOf r) = codeK z r := code_key hr (faults_len z).2
/-- the law of one row -/
theorem row_law (z : Int) {r : Int} (hr : r = 1 ∨ r = 2 ∨ r = 3) : ∃ x y, (lotsL r).find? (fun e => e.1 = codeK z r) = some (codeK z r, x, y) ∧ hexn x y ≤ r ∧ ((x = bX z ∧ y = bY z) ↔ hexn (bX z) (bY z) ≤ r) := by
  have hk := codeK_ok z hr
  obtain ⟨x, y, h1, h2, h3⟩ := lots_find hr hk.1 hk.2.1
  refine ⟨x, y, h1, h2, ⟨fun h => by rw [← h.1, ← h.2]; exact h2, fun h => ?_⟩⟩
  obtain ⟨k, hb⟩ := lots_back hr h
  have e : lotKey r (bX z) (bY z) = codeK z r := rfl
  rw [e, h1] at hb
  cases hb
  exact ⟨rfl, rfl⟩
theorem hexn_neg (x y : Int) : hexn (-x) (-y) = hexn x y := by
  unfold hexn
  rw [Int.natAbs_neg, Int.natAbs_neg, show -x + -y = -(x + y) by omega, Int.natAbs_neg]
end Mine
-- PB
namespace Mine
theorem fl_bit (P : Nat → Bool) (j : Nat) : ∀ n i, (fl P i n).testBit j = (decide (i ≤ j ∧ j < i + n) && P j)
  | 0, i => by
    rw [show decide (i ≤ j ∧ j < i + 0) = false from decide_eq_false (by omega)]
    simp [fl]
  | n + 1, i => by
    obtain ⟨r, hr⟩ := fl_dvd P n (i + 1)
    have ih := fl_bit P j n (i + 1)
    have e : fl P i (n + 1) = 2 ^ i * ((if P i then 1 else 0) + 2 * r) := by
      unfold fl
      rw [hr, Nat.mul_add, Nat.pow_succ]
      split <;> simp [Nat.mul_assoc]
    rw [hr, Nat.testBit_two_pow_mul] at ih
    rw [e, Nat.testBit_two_pow_mul]
    by_cases h1 : i ≤ j
    · by_cases h2 : j = i
      · subst h2
        rw [show decide (j ≤ j ∧ j < j + (n + 1)) = true from decide_eq_true (by omega), Nat.sub_self]
        cases hp : P j
        · simp [Nat.testBit_zero]
        · simp [Nat.testBit_zero]
      · obtain ⟨k, rfl⟩ : ∃ k, j = i + 1 + k := ⟨j - (i + 1), by omega⟩
        rw [show i + 1 + k - i = k + 1 by omega, Nat.testBit_succ, show ((if P i = true then 1 else 0) + 2 * r) / 2 = r by split <;> omega]
        rw [show i + 1 + k - (i + 1) = k by omega, show decide (i + 1 + k ≥ i + 1) = true from decide_eq_true (by omega), Bool.true_and] at ih
        rw [ih, show decide (i + 1 + k ≥ i) = true from decide_eq_true (by omega), Bool.true_and]
        congr 1
        rw [decide_eq_decide]; omega
    · rw [show decide (j ≥ i) = false from decide_eq_false (by omega), show decide (i ≤ j ∧ j < i + (n + 1)) = false from decide_eq_false (by omega)]
      simp
theorem fl_or (P : Nat → Bool) {c : Nat} (hc : c < 37) : fl P 0 37 ||| 2 ^ c = fl (fun k => P k || k == c) 0 37 := by
  apply Nat.eq_of_testBit_eq
  intro j
  rw [Nat.testBit_or, fl_bit, fl_bit, Nat.testBit_two_pow]
  by_cases h : j = c
  · subst h
    simp [hc]
  · have h' : (j == c) = false := by simp [h]
    have h2 : decide (c = j) = false := decide_eq_false fun e => h e.symm
    rw [h', h2]; simp
theorem fl_zero : flI (fun _ => false) 0 37 = 0 := by
  unfold flI
  rw [show fl (fun _ => false) 0 37 = 0 by decide +kernel]; rfl
theorem fl_pos {P : Nat → Bool} {c : Nat} (hc : c < 37) (h : P c = true) : fl P 0 37 ≠ 0 := fun e => by
  have := fl_bit P c 37 0
  rw [e, h, Nat.zero_testBit, show decide (0 ≤ c ∧ c < 0 + 37) = true from decide_eq_true (by omega)] at this
  exact absurd this (by decide)
theorem fl_bor (P : Nat → Bool) {c : Nat} (hc : c < 37) : Builtin.bitOr (flI P 0 37) (p2I c) = flI (fun k => P k || k == c) 0 37 := by
  unfold flI p2I
  have e2 : (2 ^ c : Int) = ((2 ^ c : Nat) : Int) := by simp
  rw [bitOr_and, e2, band_nat, ← fl_or P hc]
  have := nat_or_add_and (fl P 0 37) (2 ^ c)
  omega
/-- the codes of the first rows -/
@[irreducible] def memT (n1 n2 n3 i k : Nat) : Bool := decide (k ∈ [n1, n2, n3].take i)
theorem memT_0 {n1 n2 n3 : Nat} : memT n1 n2 n3 0 = fun _ => false := by funext k; unfold memT; rfl
theorem memT_3 {n1 n2 n3 : Nat} : memT n1 n2 n3 3 = memP n1 n2 n3 := by funext k; unfold memT memP; rw [Bool.eq_iff_iff]; simp [or_assoc]
theorem memT_succ {n1 n2 n3 i c : Nat} (h : [n1, n2, n3][i]? = some c) : (fun k => memT n1 n2 n3 i k || k == c) = memT n1 n2 n3 (i + 1) := by
  funext k
  unfold memT
  rw [List.take_add_one, h, Bool.eq_iff_iff]
  simp
theorem memP_head {n1 n2 n3 : Nat} : memP n1 n2 n3 n1 = true := by unfold memP; simp
theorem codeN {r : Int} (z : Int) (hr : r = 1 ∨ r = 2 ∨ r = 3) : ∃ n : Nat, codeK z r = (n : Int) ∧ n < 37 := by
  have h := codeK_ok z hr
  exact ⟨(codeK z r).toNat, by omega, by omega⟩
end Mine
-- PC
namespace Mine
theorem blk_inj {p q p' q' c : Nat} (hc : 65 ≤ c) (h : blk p q c = blk p' q' c) : p = p' ∧ q = q' := by
  have hl := congrArg (fun x => x.cps.toList) h
  simp only [blk_cps] at hl
  have h1 := congrArg (List.count 32) hl
  have h2 := congrArg List.length hl
  have hne : ¬ c = 32 := by omega
  simp only [List.count_append, List.count_replicate, List.length_append, List.length_replicate] at h1 h2
  simp [hne] at h1
  omega
theorem test_told {pm qm sB sL c : Nat} {x y bx b' r v : Int} (hc : 65 ≤ c) (e1 : (pm : Int) = sB + bx - x) (e2 : (qm : Int) = sL + b' - y) (hiff : (x = bx ∧ y = b') ↔ hexn bx b' ≤ r) (h3 : 2 * hexn bx b' ≤ 2 * r → v = 2 * hexn bx b') (h4 : 2 * r < 2 * hexn bx b' → 2 * r < v) :
    ((blk pm qm c == blk sB sL c) != decide (v ≤ 2 * r)) = false := by
  by_cases h : hexn bx b' ≤ r
  · obtain ⟨rfl, rfl⟩ := hiff.mpr h
    have := h3 (by omega)
    obtain rfl : pm = sB := by omega
    obtain rfl : qm = sL := by omega
    rw [decide_eq_true (by omega : v ≤ 2 * r)]
    simp
  · have := h4 (by omega)
    rw [decide_eq_false (by omega : ¬ v ≤ 2 * r)]
    have hne : ¬ blk pm qm c = blk sB sL c := fun e => h (hiff.mp (by
      obtain ⟨h5, h6⟩ := blk_inj hc e
      constructor <;> omega))
    simp [hne]
end Mine
-- HL
theorem Mine.top_offHL : True := by
  w_top off
  exact trivial
namespace Mine
local macro_rules | `(tactic| k_mem) => `(tactic| with_reducible assumption)
theorem mem_at {nx l : List (Addr × Obj)} (h : nx = l) {x : Addr × Obj} (hx : x ∈ l) : x ∈ nx := h ▸ hx
def CtH (w : World) (k : Nat) (f : Addr) (vs : List Value) (news : List (Addr × Obj)) (post : Value → List (Addr × Obj) → Prop) : Prop :=
  ∀ (p₉ : Program) (lo₉ : List Str) (mean : ExcName → Option Value) (mg mb : Str → Option Value) (dp un : Nat) (gd : Option (List Code)) (cn : Str) (cs : Scope) (a : Addr) (ccd : Value) (cl : List (Str × Addr)) (outer : List Env) (A₀ : Around) (base h₀ : Heap) (L : Addr) (m : Str → Option Value) (hp9 : Heap) (gs9 : Array GenState) (dr9 : Drawn) (tk9 : Nat) (os9 : OsState) (Q E : Value → Shared → Prop),
    Below A₀ base outer h₀ → Fr h₀ L hp9 m → (hd.heap_1 w.params).In h₀ → News h₀ L hp9 news → Top p₉ lo₉ mean mg mb h₀ → (hd.heap_1 w.params).In base → Top p₉ lo₉ mean mg mb base → KtsDicts (outer.filterMap (·.frame)) h₀ →
    cs.kind = .function → dp + k < recursionLimit → un + 10 * k < cLine → AllBare gs9 →
    (∀ r nx h' tk' gs h₀', KtsTurn (outer.filterMap (·.frame)) h₀ h₀' → Fr h₀' L h' m → News h₀' L h' nx → Below A₀ base outer h₀' → (hd.heap_1 w.params).In h₀' → Top p₉ lo₉ mean mg mb h₀' → KtsDicts (outer.filterMap (·.frame)) h₀' → AllBare gs → post r nx → Q r ⟨h', gs, dr9, tk', os9⟩) →
    wpAny (model PG w) (ktrTop dp un gd cn cs L a ccd cl outer) (call (.ref f) vs) Q E ⟨hp9, gs9, dr9, tk9, os9⟩
/-- loop over the numbers: what stands between the turns -/
inductive camJ (zs : List Int) (r width : Int) (told came d cS ln : Addr) (o oS lo : Obj) (pl1 pl2 : Array Value) (tl₁ : List (Addr × Obj)) (i : Nat) : (Str → Option Value) → List (Addr × Obj) → Prop
  | mk (u : Str → Option Value) (tp : List (Addr × Obj)) (vs ws : List Value) (c1 c2 : Nat) (t1 t2 t3 : Tok) (hR : RowsAre tp vs ((zs.take i).map fun z => (rowP z r, rowQ z, rowC z))) (hW : IntsAre ws ((zs.take i).map fun z => codeK z r)) (hlt : ∀ p ∈ tp, @LT.lt Nat _ told p.1) :
    camJ zs r width told came d cS ln o oS lo pl1 pl2 tl₁ i (bndU u [(Str.ofString "width", .int width t1), (Str.ofString "reach", .int r t2), (Str.ofString "numbers", .ref ln), (Str.ofString "size", .int (3 * r * (r + 1) + 1) t3), (Str.ofString "lots", .ref d), (Str.ofString "came", .ref came), (Str.ofString "told", .ref told)]) ((told, listOf ws.toArray c2) :: (came, listOf vs.toArray c1) :: (d, o) :: (cS, oS) :: (ln, lo) :: (169, tabObj pl1) :: (176, tabObj pl2) :: (tp ++ tl₁))
inductive HolA (r width : Int) (ln d cS : Addr) (o lo : Obj) (pl1 pl2 : Array Value) (tl₁ : List (Addr × Obj)) (g : Heap) (L : Addr) (h : Heap) : Prop
  | mk (told came : Addr) (oS : Obj) (c1 c2 : Nat) (t1 t2 t3 tS : Tok) (u : Str → Option Value) (hC : oS.data = Data.cell (some (.int (3 * r + 2) tS))) (F : Fr g L h (bndU u [(Str.ofString "width", .int width t1), (Str.ofString "reach", .int r t2), (Str.ofString "numbers", .ref ln), (Str.ofString "size", .int (3 * r * (r + 1) + 1) t3), (Str.ofString "lots", .ref d), (Str.ofString "came", .ref came), (Str.ofString "told", .ref told)])) (N : News g L h ((told, listOf #[] c2) :: (came, listOf #[] c1) :: (d, o) :: (cS, oS) :: (ln, lo) :: (169, tabObj pl1) :: (176, tabObj pl2) :: tl₁))
    (l1 : @LT.lt Nat _ came told) (l2 : @LT.lt Nat _ d came) (l3 : @LT.lt Nat _ cS came) (l4 : @LT.lt Nat _ ln came) (l5 : @LT.lt Nat _ 169 came) (l6 : @LT.lt Nat _ 176 came) (l7 : AllLt came tl₁) : HolA r width ln d cS o lo pl1 pl2 tl₁ g L h
inductive FlgJ (r width : Int) (ln d came told D9 rd : Addr) (pg : Str) (t1 t2 t3 tpg : Tok) (n1 n2 n3 : Nat) (NX : List (Addr × Obj)) (i : Nat) : (Str → Option Value) → List (Addr × Obj) → Prop
  | mk (u : Str → Option Value) (tF : Tok) : FlgJ r width ln d came told D9 rd pg t1 t2 t3 tpg n1 n2 n3 NX i (bndU u [(Str.ofString "width", .int width t1), (Str.ofString "reach", .int r t2), (Str.ofString "numbers", .ref ln), (Str.ofString "size", .int (3 * r * (r + 1) + 1) t3), (Str.ofString "lots", .ref d), (Str.ofString "came", .ref came), (Str.ofString "told", .ref told), (Str.ofString "page", .str pg tpg), (Str.ofString "lines", .ref D9), (Str.ofString "read", .ref rd), (Str.ofString "flags", .int (flI (memT n1 n2 n3 i) 0 37) tF)]) NX
inductive TurnA (r : Int) (zs ls rs : Array Value) (ns : List Nat) (nx : List (Addr × Obj)) (i : Nat) : Prop
  | mk (z : Int) (a : Addr) (n : Nat) (v1 v2 v3 sT tz : Tok) (h1 : 0 ≤ z ∧ z ≤ 2000000) (h2 : zs[i]? = some (.int z tz)) (h3 : rs[i]? = some (.ref a)) (h4 : ls[i]? = some (.str (blk (rowP z r) (rowQ z) (rowC z)) sT)) (h5 : ns[i]? = some n) (h6 : codeK z r = (n : Int)) (h7 : n < 37) (h8 : (a, rowO (rowP z r) v1 (rowQ z) v2 (chr1 (rowC z)) v3) ∈ nx) : TurnA r zs ls rs ns nx i
inductive Rows3 (tl : List (Addr × Obj)) (p1 q1 k1 p2 q2 k2 p3 q3 k3 : Nat) : List Value → Prop
  | mk (a1 a2 a3 : Addr) (s1 s2 s3 s4 s5 s6 s7 s8 s9 : Tok) (h1 : (a1, rowO p1 s1 q1 s2 (chr1 k1) s3) ∈ tl) (h2 : (a2, rowO p2 s4 q2 s5 (chr1 k2) s6) ∈ tl) (h3 : (a3, rowO p3 s7 q3 s8 (chr1 k3) s9) ∈ tl) : Rows3 tl p1 q1 k1 p2 q2 k2 p3 q3 k3 [.ref a1, .ref a2, .ref a3]
inductive Ints3 (x y z : Int) : List Value → Prop
  | mk (s1 s2 s3 : Tok) : Ints3 x y z [.int x s1, .int y s2, .int z s3]
inductive NumA (zs : List Int) (i : Nat) : Value → Prop
  | mk (z : Int) (t : Tok) (hz : zs[i]? = some z) (h : 0 ≤ z ∧ z ≤ 2000000) : NumA zs i (.int z t)
inductive IntA (ns : List Int) (i : Nat) : Value → Prop
  | mk (z : Int) (t : Tok) (hz : ns[i]? = some z) : IntA ns i (.int z t)
inductive RowLaw (z r : Int) : Prop
  | mk (x y : Int) (h1 : (lotsL r).find? (fun e => e.1 = codeK z r) = some (codeK z r, x, y)) (h2 : hexn x y ≤ r) (h3 : (x = bX z ∧ y = bY z) ↔ hexn (bX z) (bY z) ≤ r) : RowLaw z r
inductive LotAt (tl : List (Addr × Obj)) (kvs : List (Int × Value)) (k x y : Int) : Prop
  | mk (a : Addr) (t1 t2 : Tok) (h1 : valueAt kvs k = some (.ref a)) (h2 : (a, tupO x t1 y t2) ∈ tl) : LotAt tl kvs k x y
inductive CodeA (k : Int) : Prop
  | mk (n : Nat) (e : k = (n : Int)) (h : n < 37) : CodeA k
theorem abs_news {h₀ h : Heap} {L : Addr} {l : List (Addr × Obj)} {G : Prop} (N : News h₀ L h l) (k : ∀ NX, NX = l → News h₀ L h NX → G) : G := k l rfl N
theorem abs_fr {h₀ h : Heap} {L : Addr} {m : Str → Option Value} {l : List (Str × Value)} {G : Prop} (F : Fr h₀ L h (bndU m l)) (k : ∀ u, Fr h₀ L h (bndU u l) → G) : G := k m F
theorem compU_inv {prog : Program} {w : World} {A : Around} {s : Shared} {h₀ : Heap} {L : Addr} {m : Str → Option Value} {env : Env} {elt : PySem.Expr} {x : Str} {scope : Scope} {cl : List (Str × Addr)} {S : List (Addr × Obj) → Prop} {P : Nat → Value → Prop} {Fin : List Value → List (Addr × Obj) → Prop} {news : List (Addr × Obj)} {n : Nat} (J : Nat → List Value → Prop) (h0 : J 0 [])
    (turn : ∀ i ys v I oI C oC D m₂ h tk (E' : Value → Shared → Prop), i < n → J i ys → P i v → LCg.NsObj oC m₂ → m₂ x = some v → Fr h₀ L h m → News h₀ L h ((I, oI) :: (C, oC) :: (D, LCg.lst ys) :: news) → LCg.Off3 I C D news → ((@Ne Nat I C) ∧ (@Ne Nat I D) ∧ (@Ne Nat C D)) →
      wpAny (model prog w) A (eval elt (compEnvC scope cl C env)) (LCg.CompEnd h₀ L m { s with heap := h, toks := tk } I oI C oC D (LCg.lst ys) S (fun y news' => news' = news ∧ J (i + 1) (ys ++ [y]))) E' { s with heap := h, toks := tk })
    (fin : ∀ ys, J n ys → Fin ys news) : LCg.CompRest prog w A h₀ L m env elt x scope cl s S P Fin n 0 [] news := by
  suffices key : ∀ j i ys, i + j = n → J i ys → LCg.CompRest prog w A h₀ L m env elt x scope cl s S P Fin j i ys news from key n 0 [] (Nat.zero_add n) h0
  refine fun j => Nat.rec (fun i ys e q => .zero (fin ys (by cases e; exact q))) (fun j up i ys e q => .succ fun v I oI C oC D m₂ h tk E' a b c F N o d => ?_) j
  refine wpAny_mono (turn i ys v I oI C oC D m₂ h tk E' (by omega) q a b c F N o d) (fun y s₂ r => ?_) fun _ _ z => z
  exact ce_mono (a := fun y nw => nw = news ∧ J (i + 1) (ys ++ [y])) (fun nw z => z.1 ▸ up (i + 1) _ (by omega) z.2) r
theorem ints_at {vs : List Value} {ns : List Int} (h : IntsAre vs ns) {i : Nat} {v : Value} (hv : vs.toArray[i]? = some v) : IntA ns i v := by
  have hv' : vs[i]? = some v := by simpa using hv
  have hi : i < ns.length := by rw [← h.length]; exact (List.getElem?_eq_some_iff.mp hv').1
  obtain ⟨t, ht⟩ := h.get i ns[i] (List.getElem?_eq_getElem hi)
  rw [hv'] at ht
  rw [Option.some.inj ht]
  exact .mk _ t (List.getElem?_eq_getElem hi)
theorem take_map_succ {α β : Type} (g : α → β) {l : List α} {i : Nat} {a : α} (h : l[i]? = some a) : (l.take (i + 1)).map g = (l.take i).map g ++ [g a] := by
  rw [List.take_add_one, h]; simp
theorem pow_step {prog : Program} {w : World} {A : Around} {E : Value → Shared → Prop} {s : Shared} {r f : Int} {t u : Tok} {Q : Value → Shared → Prop} (hr : r = 1 ∨ r = 2 ∨ r = 3) (hf : 0 ≤ f ∧ f ≤ 5) (h : Q (.int ((3 * r + 2) ^ f.toNat) s.toks) { s with toks := s.toks + 1 }) : wpAny (model prog w) A (binaryOp .Pow (.int (3 * r + 2) t) (.int f u)) Q E s :=
  pow_int_small hf.1 (by omega) (by omega) h
theorem mod_told {prog : Program} {w : World} {A : Around} {E : Value → Shared → Prop} {s : Shared} {r a c : Int} {t u : Tok} {Q : Value → Shared → Prop} (hr : r = 1 ∨ r = 2 ∨ r = 3) (e : a.fmod (sizeOf r) = c) (h : Q (.int c s.toks) { s with toks := s.toks + 1 }) : wpAny (model prog w) A (binaryOp .Mod (.int a t) (.int (3 * r * (r + 1) + 1) u)) Q E s :=
  mod_int (by rcases hr with rfl | rfl | rfl <;> decide) (by rw [show a.fmod (3 * r * (r + 1) + 1) = c from e]; exact h)
theorem drop_told {h₀ h : Heap} {L : Addr} {x a b : Addr × Obj} {r : List (Addr × Obj)} (N : News h₀ L h (b :: a :: x :: r)) : News h₀ L h (x :: r) := fun p hp => N p (.tail _ (.tail _ hp))
theorem fr_cell {g h : Heap} {L : Addr} {m : Str → Option Value} (_ : Fr g L h m) : ∃ x : Addr, x = L + 1 := ⟨_, rfl⟩
theorem drop_two {h₀ h : Heap} {L : Addr} {x a b : Addr × Obj} {r : List (Addr × Obj)} (N : News h₀ L h (x :: b :: a :: r)) : News h₀ L h (x :: r) := fun p hp => N p (by
  rcases List.mem_cons.mp hp with rfl | hp
  · exact .head _
  · exact .tail _ (.tail _ (.tail _ hp)))
theorem cam_off {told came d cS ln : Addr} {o oS lo : Obj} {pl1 pl2 : Array Value} {tp tl₁ : List (Addr × Obj)} (hl1 : @LT.lt Nat _ came told) (hl2 : @LT.lt Nat _ d came) (hl3 : @LT.lt Nat _ cS came) (hl4 : @LT.lt Nat _ ln came) (hl5 : @LT.lt Nat _ 169 came) (hl6 : @LT.lt Nat _ 176 came) (hl7 : AllLt came tl₁) (h : ∀ p ∈ tp, @LT.lt Nat _ told p.1) :
    ∀ p ∈ (d, o) :: (cS, oS) :: (ln, lo) :: (169, tabObj pl1) :: (176, tabObj pl2) :: (tp ++ tl₁), p.1 ≠ came := fun p hp => by
  simp only [List.mem_cons, List.mem_append] at hp
  rcases hp with rfl | rfl | rfl | rfl | rfl | hp | hp
  · exact Nat.ne_of_lt hl2
  · exact Nat.ne_of_lt hl3
  · exact Nat.ne_of_lt hl4
  · exact Nat.ne_of_lt hl5
  · exact Nat.ne_of_lt hl6
  · exact Nat.ne_of_gt (Nat.lt_trans hl1 (h p hp))
  · exact Nat.ne_of_lt (ktn_ltOf hl7 p hp)
theorem told_off {told came d cS ln : Addr} {oc o oS lo : Obj} {pl1 pl2 : Array Value} {tp tl₁ : List (Addr × Obj)} (hl1 : @LT.lt Nat _ came told) (hl2 : @LT.lt Nat _ d came) (hl3 : @LT.lt Nat _ cS came) (hl4 : @LT.lt Nat _ ln came) (hl5 : @LT.lt Nat _ 169 came) (hl6 : @LT.lt Nat _ 176 came) (hl7 : AllLt came tl₁) (h : ∀ p ∈ tp, @LT.lt Nat _ told p.1) :
    ∀ p ∈ (came, oc) :: (d, o) :: (cS, oS) :: (ln, lo) :: (169, tabObj pl1) :: (176, tabObj pl2) :: (tp ++ tl₁), p.1 ≠ told := fun p hp => by
  simp only [List.mem_cons, List.mem_append] at hp
  rcases hp with rfl | rfl | rfl | rfl | rfl | rfl | hp | hp
  · exact Nat.ne_of_lt hl1
  · exact Nat.ne_of_lt (Nat.lt_trans hl2 hl1)
  · exact Nat.ne_of_lt (Nat.lt_trans hl3 hl1)
  · exact Nat.ne_of_lt (Nat.lt_trans hl4 hl1)
  · exact Nat.ne_of_lt (Nat.lt_trans hl5 hl1)
  · exact Nat.ne_of_lt (Nat.lt_trans hl6 hl1)
  · exact Nat.ne_of_gt (h p hp)
  · exact Nat.ne_of_lt (Nat.lt_trans (ktn_ltOf hl7 p hp) hl1)
theorem num_at {z1 z2 z3 : Int} {ta tb tc : Tok} {i : Nat} {v : Value} (h1 : 0 ≤ z1 ∧ z1 ≤ 2000000) (h2 : 0 ≤ z2 ∧ z2 ≤ 2000000) (h3 : 0 ≤ z3 ∧ z3 ≤ 2000000) (hv : #[Value.int z1 ta, Value.int z2 tb, Value.int z3 tc][i]? = some v) :
    NumA [z1, z2, z3] i v := by
  match i, hv with
  | 0, hv => rw [← Option.some.inj hv]; exact .mk z1 ta rfl h1
  | 1, hv => rw [← Option.some.inj hv]; exact .mk z2 tb rfl h2
  | 2, hv => rw [← Option.some.inj hv]; exact .mk z3 tc rfl h3
  | i + 3, hv => exact absurd hv (by simp)
theorem cam_next {zs : List Int} {r width : Int} {told came d cS ln D9 : Addr} {o oS lo : Obj} {pl1 pl2 : Array Value} {tp tl₁ : List (Addr × Obj)} {u : Str → Option Value} {vs ws : List Value} {c1 c2 i : Nat} {t1 t2 t3 t4 t5 t6 t7 : Tok} {z : Int} (hz : zs[i]? = some z)
    (hR : RowsAre tp vs ((zs.take i).map fun z => (rowP z r, rowQ z, rowC z))) (hW : IntsAre ws ((zs.take i).map fun z => codeK z r)) (hlt : ∀ p ∈ tp, @LT.lt Nat _ told p.1) (hD : @LT.lt Nat _ told D9) :
    camJ zs r width told came d cS ln o oS lo pl1 pl2 tl₁ (i + 1) (bndU u [(Str.ofString "width", .int width t1), (Str.ofString "reach", .int r t2), (Str.ofString "numbers", .ref ln), (Str.ofString "size", .int (3 * r * (r + 1) + 1) t3), (Str.ofString "lots", .ref d), (Str.ofString "came", .ref came), (Str.ofString "told", .ref told)])
      ((told, listOf (ws.toArray.push (.int (codeK z r) t7)) c2) :: (came, listOf (vs.toArray.push (.ref D9)) c1) :: (d, o) :: (cS, oS) :: (ln, lo) :: (169, tabObj pl1) :: (176, tabObj pl2) :: (((D9, rowO (rowP z r) t4 (rowQ z) t5 (chr1 (rowC z)) t6) :: tp) ++ tl₁)) :=
  by
    rw [List.push_toArray, List.push_toArray]
    exact .mk u ((D9, rowO (rowP z r) t4 (rowQ z) t5 (chr1 (rowC z)) t6) :: tp) (vs ++ [.ref D9]) (ws ++ [.int (codeK z r) t7]) c1 c2 t1 t2 t3 (by rw [take_map_succ _ hz]; exact (hR.mono fun p hp => .tail _ hp).app (.head _)) (by rw [take_map_succ _ hz]; exact IntsAre.append hW (.cons _ _ .nil)) fun p hp => by
      rcases List.mem_cons.mp hp with rfl | hp
      · exact hD
      · exact hlt p hp
theorem cam_mem {x0 x1 a b c d e f g : Addr × Obj} {tp tl : List (Addr × Obj)} : ∀ p ∈ a :: b :: c :: d :: e :: f :: g :: ((x0 :: tp) ++ tl), p ∈ x0 :: x1 :: a :: b :: c :: d :: e :: f :: g :: (tp ++ tl) := fun p hp => by
  simp only [List.mem_cons, List.mem_append] at hp ⊢
  rcases hp with h | h | h | h | h | h | h | (h | h) | h <;> simp [h]
theorem cam_ne {x0 a b c d e f g : Addr × Obj} {a' b' : Obj} {tp tl : List (Addr × Obj)} {I : Addr} (h0 : x0.1 ≠ I) (h : ∀ p ∈ a :: b :: c :: d :: e :: f :: g :: (tp ++ tl), p.1 ≠ I) : ∀ p ∈ (a.1, a') :: (b.1, b') :: c :: d :: e :: f :: g :: ((x0 :: tp) ++ tl), p.1 ≠ I := fun p hp => by
  simp only [List.mem_cons, List.mem_append] at hp
  rcases hp with rfl | rfl | hp | hp | hp | hp | hp | (rfl | hp) | hp
  · exact h a (.head _)
  · exact h b (.tail _ (.head _))
  all_goals first | exact h0 | exact h p (by simp [hp])
theorem CtS.use {w : World} {k : Nat} {f : Addr} {vs : List Value} {news : List (Addr × Obj)} {post : Value → List (Addr × Obj) → Prop} (C : CtS w k f vs news post)
    {p₉ : Program} {lo₉ : List Str} {mean : ExcName → Option Value} {mg mb : Str → Option Value} {dp un : Nat} {gd : Option (List Code)} {cn : Str} {cs : Scope} {a : Addr} {ccd : Value} {cl : List (Str × Addr)} {outer : List Env} {A₀ : Around} {base h₀ : Heap} {L : Addr} {m : Str → Option Value} {s : Shared} {Q E : Value → Shared → Prop}
    (B : Below A₀ base outer h₀) (F : Fr h₀ L s.heap m) (X : (hd.heap_1 w.params).In h₀) (N : News h₀ L s.heap news) (T : Top p₉ lo₉ mean mg mb h₀) (XB : (hd.heap_1 w.params).In base) (TB : Top p₉ lo₉ mean mg mb base) (D : KtsDicts (outer.filterMap (·.frame)) h₀) (hk : cs.kind = .function) (hdp : dp + k < recursionLimit) (hu : un + 10 * k < cLine)
    (ret : ∀ r tl h' tk' h₀', post r tl → KtsTurn (outer.filterMap (·.frame)) h₀ h₀' → Fr h₀' L h' m → News h₀' L h' (tl ++ news) → Below A₀ base outer h₀' → (hd.heap_1 w.params).In h₀' → Top p₉ lo₉ mean mg mb h₀' → KtsDicts (outer.filterMap (·.frame)) h₀' → Q r { s with heap := h', toks := tk' }) :
    wpAny (model PG w) (ktrTop dp un gd cn cs L a ccd cl outer) (call (.ref f) vs) Q E s :=
  C p₉ lo₉ mean mg mb dp un gd cn cs a ccd cl outer A₀ base h₀ L m s.heap s.gens s.drawn s.toks s.os Q E B F X N T XB TB D hk hdp hu fun r tl h' tk' h₀' KT F' N' B' X' T' D' p => ret r tl h' tk' h₀' p KT F' N' B' X' T' D'
def isTup (p : Addr × Obj) : Bool := match p.2.cls with | .type T => T == "tuple" | _ => false
theorem rows_three {tl : List (Addr × Obj)} {vs : List Value} {p1 q1 k1 p2 q2 k2 p3 q3 k3 : Nat} (h : RowsAre tl vs [(p1, q1, k1), (p2, q2, k2), (p3, q3, k3)]) :
    Rows3 tl p1 q1 k1 p2 q2 k2 p3 q3 k3 vs := by
  cases h with | cons m1 h =>
  cases h with | cons m2 h =>
  cases h with | cons m3 h =>
  cases h
  exact .mk _ _ _ _ _ _ _ _ _ _ _ _ m1 m2 m3
theorem ints_three {vs : List Value} {x y z : Int} (h : IntsAre vs [x, y, z]) : Ints3 x y z vs := by
  cases h with | cons _ _ h =>
  cases h with | cons _ _ h =>
  cases h with | cons _ _ h =>
  cases h
  exact .mk _ _ _
theorem cam_pick {x1 x2 x3 a b c d e f g : Addr × Obj} {tp tl : List (Addr × Obj)} (h1 : x1 ∈ tp) (h2 : x2 ∈ tp) (h3 : x3 ∈ tp) : ∀ p ∈ [b, x1, x2, x3, f, g] ++ (a :: c :: d :: e :: tl), p ∈ a :: b :: c :: d :: e :: f :: g :: (tp ++ tl) := fun p hp => by
  simp only [List.mem_cons, List.mem_append, List.not_mem_nil, or_false] at hp ⊢
  rcases hp with (h | h | h | h | h | h) | h | h | h | h | h <;> first | (simp [h]; done) | (subst h; simp [h1, h2, h3])
/-- what lies beside the page's rows is none of them -/
theorem page_dis {told came d cS ln a1 a2 a3 : Addr} {oc o1 o2 o3 ot o oS lo : Obj} {T1 T2 : Obj} {tl₁ : List (Addr × Obj)} (hl1 : @LT.lt Nat _ came told) (hl2 : @LT.lt Nat _ d came) (hl3 : @LT.lt Nat _ cS came) (hl4 : @LT.lt Nat _ ln came) (hl6 : @LT.lt Nat _ 176 came) (hl7 : AllLt came tl₁) (k1 : @LT.lt Nat _ told a1) (k2 : @LT.lt Nat _ told a2) (k3 : @LT.lt Nat _ told a3)
    (hd : ∀ p ∈ (d, o) :: (cS, oS) :: (ln, lo) :: tl₁, p.1 ≠ 169 ∧ p.1 ≠ 176) : ∀ p ∈ (told, ot) :: (d, o) :: (cS, oS) :: (ln, lo) :: tl₁, p.1 ∉ ([(came, oc), (a1, o1), (a2, o2), (a3, o3), (169, T1), (176, T2)] : List (Addr × Obj)).map (·.1) := fun p hp => by
  have key : (p.1 = told ∨ @LT.lt Nat _ p.1 came ∧ p.1 ≠ 169 ∧ p.1 ≠ 176) := by
    rcases List.mem_cons.mp hp with rfl | hp
    · exact .inl rfl
    · refine .inr ⟨?_, hd p hp⟩
      simp only [List.mem_cons] at hp
      rcases hp with rfl | rfl | rfl | hp
      · exact hl2
      · exact hl3
      · exact hl4
      · exact ktn_ltOf hl7 p hp
  have hA : @LE.le Nat _ p.1 told := by
    rcases key with h | h
    · exact Nat.le_of_eq h
    · exact Nat.le_of_lt (Nat.lt_trans h.1 hl1)
  simp only [List.map_cons, List.map_nil, List.mem_cons, List.not_mem_nil, or_false]
  rintro (h | h | h | h | h | h)
  · rcases key with e | e
    · rw [e] at h; exact absurd h (Nat.ne_of_gt hl1)
    · exact absurd h (Nat.ne_of_lt e.1)
  · exact absurd h (Nat.ne_of_lt (Nat.lt_of_le_of_lt hA k1))
  · exact absurd h (Nat.ne_of_lt (Nat.lt_of_le_of_lt hA k2))
  · exact absurd h (Nat.ne_of_lt (Nat.lt_of_le_of_lt hA k3))
  · rcases key with e | e
    · rw [e] at h; exact absurd (Nat.lt_trans hl6 hl1) (by rw [h]; exact by decide)
    · exact e.2.1 h
  · rcases key with e | e
    · rw [e] at h; exact absurd (Nat.lt_trans hl6 hl1) (by rw [h]; exact by decide)
    · exact e.2.2 h
theorem page_keep {x1 x2 x3 a b c d e f g : Addr × Obj} {tl : List (Addr × Obj)} : ∀ p ∈ a :: c :: d :: e :: f :: g :: tl, p ∈ [b, x1, x2, x3, f, g] ++ (a :: c :: d :: e :: tl) := fun p hp => by
  simp only [List.mem_cons, List.mem_append, List.not_mem_nil, or_false] at hp ⊢
  rcases hp with h | h | h | h | h | h | h <;> simp [h]
theorem page_tks {p1 q1 k1 p2 q2 k2 p3 q3 k3 : Nat} (h1 : 65 ≤ k1 ∧ k1 ≤ 90) (h2 : 65 ≤ k2 ∧ k2 ≤ 90) (h3 : 65 ≤ k3 ∧ k3 ≤ 90) (m1 : 3 ≤ q1 ∧ q1 ≤ 50) (m2 : 3 ≤ q2 ∧ q2 ≤ 50) (m3 : 3 ≤ q3 ∧ q3 ≤ 50) : ∀ k ∈ tksOf p1 q1 k1 ++ (tksOf p2 q2 k2 ++ tksOf p3 q3 k3), k.ok := fun k hk => by
  rcases List.mem_append.mp hk with h | h
  · exact tks_ok ⟨by omega, by omega⟩ h1 k h
  · rcases List.mem_append.mp h with h | h
    · exact tks_ok ⟨by omega, by omega⟩ h2 k h
    · exact tks_ok ⟨by omega, by omega⟩ h3 k h
theorem page_cnt {p1 q1 k1 p2 q2 k2 p3 q3 k3 : Nat} (m1 : 3 ≤ p1 ∧ p1 ≤ 50) (m2 : 3 ≤ p2 ∧ p2 ≤ 50) (m3 : 3 ≤ p3 ∧ p3 ≤ 50) : (tksOf p1 q1 k1 ++ (tksOf p2 q2 k2 ++ tksOf p3 q3 k3)).length ≤ 3000 := by
  rw [List.length_append, List.length_append, tks_len, tks_len, tks_len]; omega
theorem read_pick {x1 x2 x3 a : Addr × Obj} {tl news : List (Addr × Obj)} (h1 : x1 ∈ tl) (h2 : x2 ∈ tl) (h3 : x3 ∈ tl) : ∀ p ∈ a :: x1 :: x2 :: x3 :: news, p ∈ (a :: tl) ++ news := fun p hp => by
  simp only [List.mem_cons, List.mem_append] at hp ⊢
  rcases hp with h | h | h | h | h <;> first | (simp [h]; done) | (subst h; simp [h1, h2, h3])
theorem turn_pick {h₀ h : Heap} {L : Addr} {i a b : Addr × Obj} {nx : List (Addr × Obj)} (N : News h₀ L h (i :: nx)) (ha : a ∈ nx) (hb : b ∈ nx) : News h₀ L h (i :: a :: b :: nx) := fun p hp => N p (by
  simp only [List.mem_cons] at hp ⊢
  rcases hp with h | h | h | h
  · exact .inl h
  · exact .inr (h ▸ ha)
  · exact .inr (h ▸ hb)
  · exact .inr h)
theorem item_told {prog : Program} {w : World} {A : Around} {E : Value → Shared → Prop} {s : Shared} {h₀ : Heap} {L : Addr} {news : List (Addr × Obj)} {value slice : PySem.Expr} {ax : Addr} {its : Array Value} {n0 i : Nat} {u : Tok} {v : Value} {Q : Value → Shared → Prop} (N : News h₀ L s.heap news) (hm : (ax, listOf its n0) ∈ news) (hi : i < 3) (hx : its[i]? = some v) (h : Q v s)
    (hs : subscripted slice false (.ref ax) (.int (0 + (i : Int)) u) = operate [.ref ax, .int (0 + (i : Int)) u] (getItem (.ref ax) (.int (0 + (i : Int)) u))) (hg : ∀ r, letTemporaryGo value (.ref ax) r = pure ()) :
    wpAny (model prog w) A (subscriptTail value slice (.ref ax) (.int (0 + (i : Int)) u)) Q E s :=
  item_list ⟨_, (N _ hm).1, rfl, n0, rfl⟩ (by omega) (by omega) (by rw [show (0 + (i : Int)).toNat = i by omega]; exact hx) h hs hg
theorem shl_told {w : World} {A : Around} {E : Value → Shared → Prop} {s : Shared} {z r : Int} {n : Nat} {t u : Tok} {Q : Value → Shared → Prop} (e : codeK z r = (n : Int)) (hn : n < 37) (h : ∀ t' k', Q (.int (p2I n) t') { s with toks := k' }) : wpAny (model PG w) A (binaryOp .LShift (.int 1 t) (.int (codeK z r) u)) Q E s := by
  rw [show codeK z r = 0 + (n : Int) by rw [e, Int.zero_add]]
  with_reducible exact shl_one (by k_dflt omega) (h _ _)
theorem ior_told {w : World} {A : Around} {E : Value → Shared → Prop} {s : Shared} {P P' : Nat → Bool} {n : Nat} {t u : Tok} {Q : Value → Shared → Prop} (e : (fun k => P k || k == n) = P') (hn : n < 37) (h : ∀ t' k', Q (.int (flI P' 0 37) t') { s with toks := k' }) : wpAny (model PG w) A (inplaceOp .BitOr (.int (flI P 0 37) t) (.int (p2I n) u)) Q E s :=
  ior_int (by rw [fl_bor P hn, e]; exact h _ _)
theorem mod_any {prog : Program} {w : World} {A : Around} {E : Value → Shared → Prop} {s : Shared} {r a c : Int} {t u : Tok} {Q : Value → Shared → Prop} (hr : r = 1 ∨ r = 2 ∨ r = 3) (e : a.fmod (sizeOf r) = c) (h : ∀ t' k', Q (.int c t') { s with toks := k' }) : wpAny (model prog w) A (binaryOp .Mod (.int a t) (.int (3 * r * (r + 1) + 1) u)) Q E s := mod_told hr e (h _ _)
theorem mulsp_told {prog : Program} {w : World} {A : Around} {E : Value → Shared → Prop} {s : Shared} {n : Int} {k : Nat} {t u : Tok} {Q : Value → Shared → Prop} (e : n = (k : Int)) (hk : k ≤ 4000) (h : ∀ t' k', Q (.str (blk k 0 0) t') { s with toks := k' }) : wpAny (model prog w) A (binaryOp .Mult (.str (Str.ofString " ") t) (.int n u)) Q E s :=
  mul_sp (by omega) (by rw [e, Int.toNat_natCast]; exact h)
theorem mulc_told {prog : Program} {w : World} {A : Around} {E : Value → Shared → Prop} {s : Shared} {n : Int} {k c : Nat} {t u : Tok} {Q : Value → Shared → Prop} (e : n = (k : Int)) (hk : k ≤ 4000) (h : ∀ t' k', Q (.str (blk 0 k c) t') { s with toks := k' }) : wpAny (model prog w) A (binaryOp .Mult (.str (chr1 c) t) (.int n u)) Q E s :=
  mul_c (by omega) (by rw [e, Int.toNat_natCast]; exact h)
theorem addblk_told {prog : Program} {w : World} {A : Around} {E : Value → Shared → Prop} {s : Shared} {k q c : Nat} {t u : Tok} {Q : Value → Shared → Prop} (hk : k + q ≤ 4000) (h : ∀ t' k', Q (.str (blk k q c) t') { s with toks := k' }) : wpAny (model prog w) A (binaryOp .Add (.str (blk k 0 0) t) (.str (blk 0 q c) u)) Q E s :=
  PyProof.Rows.add_str (by rw [blk_cat]; exact h) (small_line (by rw [blk_len, blk_len]; omega))
theorem abs5 {x : Int} (h : -5 ≤ x ∧ x ≤ 5) : (x.natAbs : Int) ≤ 5 := by omega
theorem hexn_small {x y : Int} (h : (-5 ≤ x ∧ x ≤ 5) ∧ (-5 ≤ y ∧ y ≤ 5) ∧ (-5 ≤ x + y ∧ x + y ≤ 5)) : 2 * hexn x y ≤ 99 :=
  Int.le_trans (Int.mul_le_mul_of_nonneg_left (Int.max_le.mpr ⟨Int.max_le.mpr ⟨abs5 h.1, abs5 h.2.1⟩, abs5 h.2.2⟩) (by decide : (0 : Int) ≤ 2)) (by decide)
def LevOk (p q p' q' : Nat) (n : Int) : Prop := p ≤ 100 ∧ q ≤ 100 ∧ p' ≤ 100 ∧ q' ≤ 100 ∧ p ≤ p' + 30 ∧ p' ≤ p + 30 ∧ q ≤ q' + 30 ∧ q' ≤ q + 30 ∧ 0 ≤ n ∧ n ≤ 1000
theorem lev_at {w : World} {p q p' q' c : Nat} {n : Int} {tx ty tn : Tok} {news : List (Addr × Obj)} (hc : 65 ≤ c ∧ c ≤ 90) (h : LevOk p q p' q' n) : Ct w 6 35 [.str (blk p q c) tx, .str (blk p' q' c) ty, .int n tn] news (LevP (2 * hexn ((p : Int) - p') ((q : Int) - q')) n) :=
  lev_ct (w := w) p q p' q' c n tx ty tn news hc h.1 h.2.1 h.2.2.1 h.2.2.2.1 h.2.2.2.2.1 h.2.2.2.2.2.1 h.2.2.2.2.2.2.1 h.2.2.2.2.2.2.2.1 h.2.2.2.2.2.2.2.2.1 h.2.2.2.2.2.2.2.2.2
theorem near {a : Nat} {x r : Int} (h : 3 ≤ a ∧ a ≤ 50) (hx : -r ≤ x ∧ x ≤ r) (hr : r ≤ 3) : ∃ b : Nat, (a : Int) - x = b ∧ b ≤ 53 ∧ b ≤ a + 30 ∧ a ≤ b + 30 ∧ (b : Int) - a = -x := ⟨((a : Int) - x).toNat, by omega, by omega, by omega, by omega, by omega⟩
theorem r123 {r : Int} (hr : r = 1 ∨ r = 2 ∨ r = 3) : r ≤ 3 ∧ 0 ≤ 2 * r ∧ 2 * r ≤ 1000 := by omega
theorem le4 {a b k : Nat} (h : a ≤ k) (h2 : b ≤ k) (hk : k + k ≤ 4000) : a + b ≤ 4000 := Nat.le_trans (Nat.add_le_add h h2) hk
inductive ToldF (z r x y : Int) : Prop
  | mk (pm qm : Nat) (h1 : ((rowP z r : Nat) : Int) - x = pm) (h2 : ((rowQ z : Nat) : Int) - y = qm) (h3 : pm ≤ 4000) (h4 : qm ≤ 4000) (h5 : pm + qm ≤ 4000) (h6 : LevOk pm qm (rowP z r) (rowQ z) (2 * r)) (h7 : (pm : Int) - ((rowP z r : Nat) : Int) = -x) (h8 : (qm : Int) - ((rowQ z : Nat) : Int) = -y) (h9 : 2 * hexn x y ≤ 2 * r) : ToldF z r x y
theorem told_facts (z : Int) {r x y : Int} (hr : r = 1 ∨ r = 2 ∨ r = 3) (hle : hexn x y ≤ r) : ToldF z r x y := by
  have R := row_ok z hr
  have H := hexn_box hle
  have r3 := r123 hr
  obtain ⟨pm, e1, b1, b2, b3, b4⟩ := near R.1 H.1 r3.1
  obtain ⟨qm, f1, g1, g2, g3, g4⟩ := near R.2.1 H.2 r3.1
  exact .mk pm qm e1 f1 (Nat.le_trans b1 (by decide)) (Nat.le_trans g1 (by decide)) (le4 b1 g1 (by decide)) ⟨Nat.le_trans b1 (by decide), Nat.le_trans g1 (by decide), Nat.le_trans R.1.2 (by decide), Nat.le_trans R.2.1.2 (by decide), b2, b3, g2, g3, r3.2⟩ b4 g4 (Int.mul_le_mul_of_nonneg_left hle (by decide))
theorem nearS {a : Nat} {s b : Int} (h : 3 ≤ a ∧ a ≤ 50) (e : (a : Int) = s + b) (hs : 8 ≤ s ∧ s ≤ 44) (hb : -5 ≤ b ∧ b ≤ 5) : ∃ c : Nat, s = c ∧ c ≤ 53 ∧ a ≤ c + 30 ∧ c ≤ a + 30 ∧ (a : Int) - (c : Int) = b := ⟨s.toNat, by omega, by omega, by omega, by omega, by omega⟩
inductive SentF (z r : Int) : Prop
  | mk (sB sL : Nat) (h1 : sentB z r = sB) (h2 : sentL z = sL) (h3 : sB ≤ 4000) (h4 : sL ≤ 4000) (h5 : sB + sL ≤ 4000) (h6 : ((rowP z r : Nat) : Int) - (sB : Int) = bX z) (h7 : ((rowQ z : Nat) : Int) - (sL : Int) = bY z) (h8 : LevOk (rowP z r) (rowQ z) sB sL 99) (h9 : LevOk (rowP z r) (rowQ z) sB sL (2 * r)) : SentF z r
theorem sent_facts (z : Int) {r : Int} (hr : r = 1 ∨ r = 2 ∨ r = 3) : SentF z r := by
  have R := row_ok z hr
  have S := sent_ok z hr
  have X := bxy_ok z
  have r3 := r123 hr
  obtain ⟨sB, e1, b1, b2, b3, b4⟩ := nearS R.1 R.2.2.2.1 S.2 X.1
  obtain ⟨sL, f1, g1, g2, g3, g4⟩ := nearS R.2.1 R.2.2.2.2 ⟨S.1.1, Int.le_trans S.1.2 (by decide)⟩ X.2.1
  have K : ∀ n : Int, 0 ≤ n ∧ n ≤ 1000 → LevOk (rowP z r) (rowQ z) sB sL n := fun n hn => ⟨Nat.le_trans R.1.2 (by decide), Nat.le_trans R.2.1.2 (by decide), Nat.le_trans b1 (by decide), Nat.le_trans g1 (by decide), b2, b3, g2, g3, hn⟩
  exact .mk sB sL e1 f1 (Nat.le_trans b1 (by decide)) (Nat.le_trans g1 (by decide)) (le4 b1 g1 (by decide)) b4 g4 (K 99 (by decide)) (K _ r3.2)
theorem tt1 {a b c x p : Int} (h : a - b = c) (e : a - x = p) : p = b + c - x := by omega
local macro_rules | `(tactic| k_mem) => `(tactic| ((repeat (first | with_reducible exact List.Mem.head _ | ((show (_ : Addr × Obj) ∈ (_ : List (Addr × Obj))); with_reducible assumption) | refine List.Mem.tail _ ?_)); done))
theorem three_at {i : Nat} (hi : i < 3) {P : Nat → Prop} (h0 : P 0) (h1 : P 1) (h2 : P 2) : P i := by
  match i, hi with
  | 0, _ => exact h0
  | 1, _ => exact h1
  | 2, _ => exact h2
theorem ar0 {α : Type} {a b c : α} : #[a, b, c][0]? = some a := rfl
theorem ar1 {α : Type} {a b c : α} : #[a, b, c][1]? = some b := rfl
theorem ar2 {α : Type} {a b c : α} : #[a, b, c][2]? = some c := rfl
theorem li0 {α : Type} {a b c : α} : [a, b, c][0]? = some a := rfl
theorem li1 {α : Type} {a b c : α} : [a, b, c][1]? = some b := rfl
theorem li2 {α : Type} {a b c : α} : [a, b, c][2]? = some c := rfl
theorem tab_off {h₀ h : Heap} {L d cS ln : Addr} {o oS lo : Obj} {pl1 pl2 : Array Value} {w : World} {kvs : List (Int × Value)} {v9 : Value} {D : Obj → Prop} {tl₁ tl news : List (Addr × Obj)} (N : News h₀ L h news) (h1 : (169, tabObj pl1) ∈ news) (h2 : (176, tabObj pl2) ∈ news) (hcS : (cS, oS) ∈ news) (hC : oS.data = Data.cell (some v9)) (hd1 : (169 : Nat) ≠ d ∧ (176 : Nat) ≠ d) (hln : @LT.lt Nat _ 176 ln) (ht : tl.filter isTup = tl₁) (hs : ∀ p ∈ tl₁, p ∈ news) :
    ∀ p ∈ (d, o) :: (cS, oS) :: (ln, lo) :: tl₁, p.1 ≠ 169 ∧ p.1 ≠ 176 := fun p hp => by
  have one : ∀ {x : Addr} {oo : Obj} {P : Addr} {pl : Array Value}, (x, oo) ∈ news → (P, tabObj pl) ∈ news → oo ≠ tabObj pl → x ≠ P := fun m1 m2 hne e => by
    subst e
    exact hne (Option.some.inj ((N _ m1).1.symm.trans (N _ m2).1))
  simp only [List.mem_cons] at hp
  rcases hp with rfl | rfl | rfl | hp
  · exact ⟨fun e => hd1.1 e.symm, fun e => hd1.2 e.symm⟩
  · refine ⟨one hcS h1 fun e => ?_, one hcS h2 fun e => ?_⟩ <;> (rw [e] at hC; cases hC)
  · exact ⟨Nat.ne_of_gt (Nat.lt_trans (by decide) hln), Nat.ne_of_gt hln⟩
  · have hm := hs p hp
    rw [← ht] at hp
    have hT := (List.mem_filter.mp hp).2
    refine ⟨one (oo := p.2) hm h1 fun e => ?_, one (oo := p.2) hm h2 fun e => ?_⟩ <;> (unfold isTup at hT; rw [e] at hT; exact absurd hT Bool.false_ne_true)
theorem page_split {prog : Program} {w : World} {A : Around} {E : Value → Shared → Prop} {s : Shared} {h₀ : Heap} {L : Addr} {m : Str → Option Value} {news : List (Addr × Obj)} {x a b c : Str} {t u : Tok} {Q : Value → Shared → Prop} (e : Txt.split x (Str.ofString "\n") = [a, b, c]) (hx : x.length ≤ 4000) (F : Fr h₀ L s.heap m) (N : News h₀ L s.heap news)
    (h : ∀ D t1 t2 t3 h' k, Fr h₀ L h' m → News h₀ L h' ((D, listOf #[.str a t1, .str b t2, .str c t3] 0) :: news) → (∀ p ∈ news, p.1 < D) → Q (.ref D) { s with heap := h', toks := k }) :
    wpAny (model prog w) A (call (.builtin "str.split") [.str x t, .str (Str.ofString "\n") u]) Q E s := by
  refine KSpl.split1 F N (by decide +kernel) (fun D l h' k hl _ F' N' hlt => ?_) (by unfold sizeLine; omega)
  rw [e] at hl
  obtain ⟨t1, l1, rfl, e1⟩ := KSpl.cons_of hl
  obtain ⟨t2, l2, rfl, e2⟩ := KSpl.cons_of e1
  obtain ⟨t3, l3, rfl, e3⟩ := KSpl.cons_of e2
  cases KSpl.nil_of e3
  exact h D t1 t2 t3 h' k F' N' hlt
theorem tabs_in {t d c l a b : Addr × Obj} {r : List (Addr × Obj)} : ∀ p ∈ [a, b], p ∈ t :: d :: c :: l :: a :: b :: r := fun p hp => .tail _ (.tail _ (.tail _ (.tail _ (by
  rcases List.mem_cons.mp hp with rfl | hp
  · exact .head _
  · exact .tail _ (List.mem_singleton.mp hp ▸ .head _)))))
theorem told_front {h₀ h : Heap} {L : Addr} {a b c d e t : Addr × Obj} {r : List (Addr × Obj)} (N : News h₀ L h (a :: b :: c :: d :: e :: t :: r)) : News h₀ L h (t :: r) := fun p hp => N p (.tail _ (.tail _ (.tail _ (.tail _ (.tail _ hp)))))
theorem code_n {r : Int} (z : Int) (hr : r = 1 ∨ r = 2 ∨ r = 3) : CodeA (codeK z r) := by
  obtain ⟨n, e, h⟩ := codeN z hr
  exact .mk n e h
theorem row_lawI (z : Int) {r : Int} (hr : r = 1 ∨ r = 2 ∨ r = 3) : RowLaw z r := by
  obtain ⟨x, y, h1, h2, h3⟩ := row_law z hr
  exact .mk x y h1 h2 h3
theorem lot_at {tl : List (Addr × Obj)} {kvs : List (Int × Value)} {D : List (Int × Int × Int)} (h : RelD tl kvs D) {k x y : Int} (he : D.find? (fun e => e.1 = k) = some (k, x, y)) : LotAt tl kvs k x y := by
  obtain ⟨a, t1, t2, h1, h2⟩ := h.find he
  exact .mk a t1 t2 h1 h2
theorem mem_told {x a0 a1 a2 a3 a4 a5 a6 a7 a8 a9 b0 : Addr × Obj} {tl : List (Addr × Obj)} (h : x ∈ tl) : x ∈ a0 :: a1 :: a2 :: a3 :: a4 :: a5 :: a6 :: a7 :: a8 :: a9 :: b0 :: tl := List.mem_append_right [a0, a1, a2, a3, a4, a5, a6, a7, a8, a9, b0] h
theorem RelD.tups {tl : List (Addr × Obj)} {kvs : List (Int × Value)} {D : List (Int × Int × Int)} (h : RelD tl kvs D) : RelD (tl.filter isTup) kvs D := by
  induction h with
  | nil => exact .nil
  | cons hm _ ih => exact .cons (List.mem_filter.mpr ⟨hm, rfl⟩) ih
theorem pick_lots {h₀ h : Heap} {L : Addr} {d : Addr} {o : Obj} {tl₀ news : List (Addr × Obj)} (N : News h₀ L h ((d, o) :: (tl₀ ++ news))) : News h₀ L h ((d, o) :: (news ++ tl₀.filter isTup)) := fun p hp => N p (by
  rcases List.mem_cons.mp hp with rfl | hp
  · exact .head _
  · rcases List.mem_append.mp hp with hp | hp
    · exact .tail _ (List.mem_append_right _ hp)
    · exact .tail _ (List.mem_append_left _ (List.mem_filter.mp hp).1))
theorem holds_ct {w : World} (z1 z2 z3 r width : Int) (ln : Addr) (ta tb tc tn tr tw : Tok) (n0 : Nat) (pl1 pl2 : Array Value) (hpl1 : TriplesOk pl1.toList) (hpl2 : TriplesOk pl2.toList) (h1 : 0 ≤ z1 ∧ z1 ≤ 2000000) (h2 : 0 ≤ z2 ∧ z2 ≤ 2000000) (h3 : 0 ≤ z3 ∧ z3 ≤ 2000000) (hr : r = 1 ∨ r = 2 ∨ r = 3) (hw : 0 ≤ width ∧ width ≤ 21) (hln : @LT.lt Nat _ 176 ln) :
    CtH w 20 271 [.ref ln, .int r tr, .int width tw] [(ln, listOf #[.int z1 ta, .int z2 tb, .int z3 tc] n0), (169, tabObj pl1), (176, tabObj pl2)]
      (fun v nx => v = .bool true ∧ ∃ pl1' pl2', TriplesOk pl1'.toList ∧ TriplesOk pl2'.toList ∧ nx = [(169, tabObj pl1'), (176, tabObj pl2')]) := by
  unfold CtH
  intro p₉ lo₉ mean mg mb dp un gd cn cs a ccd cl outer A₀ base h₀ L m hp9 gs9 dr9 tk9 os9 Q E B F X N T XB TB D hk hd hu GB hret
  refine wpAny_call ?_
  k_dflt ((refine' enterSC ?k1 ?k2 ?k3 ?k4 ?k5 ?XB ?TB ?D ?kA ?kF ?kK ?k6 ?k7 ?k8 ?k9 ?kB ?kD ?_ ?c2 ?c3 ?c4; (case kA => exact rfl); (case kF => exact rfl); (case kK => assumption); (case k2 => k_asm); (case k1 => k_asm); (case XB => assumption); (case TB => assumption); (case D => assumption); (case k3 => k_asm); (case k4 => k_asm); (case k5 => k_asm); (case k6 => k_is); (case k7 => k_is); (case k8 => ktr_room); (case k9 => exact BindsTo.of_eq rfl); (case kB => exact rfl); (case kD => decide +kernel); (case c2 => exact rfl); (case c3 => exact rfl); (case c4 => exact rfl); k_whole; intro g' L' h' tk' cells' FG' F' N' Y' B' X' T' D' l1; k_cells Y'; (try simp only [List.cons_append, List.nil_append] at N'); (try dsimp only); (try k_lift B'); (try k_fold)))
  refine set_e ?_
  intro e9 A9
  have qd9 : A9.depth = dp + 1 := rfl
  have qu9 : A9.units = un + 3 := rfl
  have hbt := (bits3 hr).1
  rename Fr _ _ _ _ => F0
  obtain ⟨u0, F1⟩ : ∃ u0 : Str → Option Value, Fr _ _ _ (bndU u0 [(Str.ofString "width", .int width tw), (Str.ofString "reach", .int r tr), (Str.ofString "numbers", .ref ln)]) := ⟨fun _ => none, F0⟩
  clear F0
  obtain ⟨cS, hcS⟩ := fr_cell F1
  repeat' ((fail_if_success (with_reducible show wpAny _ _ (call (Value.ref _) _) _ _ _)); first | (with_reducible first | refine Jc ?_ | refine Jf ?_ | refine Jg ?_) | ((with_reducible refine' Js ?zF ?zN ?zl ?zb ?_); (case zl | zb => exact rfl); (case zF | zN => assumption); intro h' F' N'; (try k_sweep)) | (with_reducible first | refine Jt ?_ | refine ci_ ?_ | refine bin_ ?_) | ((with_reducible refine' ld_ ?zF ?zv ?zl ?zb ?_); (case zl | zb => exact rfl); (case zF => assumption); (case zv => exact rfl)) | with_reducible refine asg_ ?_ | ((with_reducible refine Jr (by with_reducible assumption) ?_); intro mC FC EC QC tC) | walk1)
  k_dflt (refine' Ct.use (lots_ct r tr _ hr) ?B1 ?F1 ?X1 ?N1 ?T1 rfl ?hd1 ?hu1 ?_)
  case B1 => k_asm
  case F1 => k_asm
  case X1 => k_asm
  case N1 => k_asm
  case T1 => k_asm
  case hd1 => first | exact roomA hd (by decide) | ktr_room
  case hu1 => first | exact unitA hu (by decide) | ktr_units
  intro v tl hA tk1 hP
  refine LotsP.casesOn hP ?_
  clear hP
  intro d o kvs tl₀ hD hR hne F2 N2
  replace N2 := pick_lots N2
  replace hR := hR.tups
  generalize htl : tl₀.filter isTup = tl₁ at N2 hR
  dsimp only [List.cons_append, List.nil_append] at N2 ⊢
  repeat' ((fail_if_success (with_reducible show wpAny _ _ (exec (.For _ _ _ _ _) _) _ _ _)); first | with_reducible refine Jc ?_ | ((with_reducible refine' Js ?zF ?zN ?zl ?zb ?_); (case zl | zb => exact rfl); (case zF | zN => assumption); intro h' F' N'; (try k_sweep)) | with_reducible refine asg_ ?_ | ((with_reducible refine Jr (by with_reducible assumption) ?_); intro mC FC EC QC tC) | walk1)
  k_dflt (refine For_else ?_ (by intro _; with_unfolding_all rfl))
  repeat' ((fail_if_success (with_reducible show wpAny _ _ (pyIter (Value.ref _)) (fun it s₂ => ElseAt _ _ _ _ _ _ _ _ _ _ it s₂) _ _)); ((with_reducible refine' ld_ ?zF ?zv ?zl ?zb ?_); (case zl | zb => exact rfl); (case zF => assumption); (case zv => exact rfl)))
  rename Fr _ _ _ _ => F3
  rename News _ _ _ _ => N3
  rename (Obj.data _ = Data.cell _) => dC
  refine HolA.casesOn (r := r) (width := width) (ln := ln) (d := d) (cS := cS) (o := o) (lo := listOf #[.int z1 ta, .int z2 tb, .int z3 tc] n0) (pl1 := pl1) (pl2 := pl2) (tl₁ := tl₁) (.mk _ _ _ _ _ _ _ _ _ _ dC (fr_own _ F3 (by exact ⟨rfl, rfl, rfl, rfl, rfl, rfl, rfl, trivial⟩)) (by rw [hcS]; exact N3) (by omega) (by omega) (by rw [hcS]; omega) (by omega) (by omega) (by omega) (by rename (_ < _ ∧ _ < _ ∧ _ < _ ∧ _ < _ ∧ _ < _ ∧ AllLt _ tl₁) => hh; exact hh.2.2.2.2.2)) ?_
  clear F3 N3 dC
  intro told came oS c1 c2 t1 t2 t3 tS u1 hC F4 N4 hl1 hl2 hl3 hl4 hl5 hl6 hl7
  refine Led_list (its := #[.int z1 ta, .int z2 tb, .int z3 tc]) (n0 := n0) (camJ [z1, z2, z3] r width told came d cS ln o oS (listOf #[.int z1 ta, .int z2 tb, .int z3 tc] n0) pl1 pl2 tl₁)
    rfl F4 N4 rfl ?j0 ?hmem rfl rfl ?turn ?done (by passes_own)
  case j0 => exact camJ.mk _ [] [] [] _ _ _ _ _ .nil .nil (fun p hp => (nomatch hp))
  case hmem =>
    intro i m nx hJ
    refine camJ.casesOn hJ ?_
    intros
    exact .tail _ (.tail _ (.tail _ (.tail _ (.head _))))
  case turn =>
    --[ tn
    clear F4 N4 hret hne
    subst hcS
    intro i v m₁ nx h tk I oI hv hI hJ
    revert hI
    refine camJ.casesOn hJ ?_
    clear hJ
    intro u tp vs ws c1 c2 t1 t2 t3 hR9 hW9 hlt9 hI
    refine NumA.casesOn (num_at h1 h2 h3 hv) ?_
    clear hv
    intro z tz hz hz9 F N
    have hIt : @Ne Nat told I := hI _ (.head _)
    have hIc : @Ne Nat came I := hI _ (.tail _ (.head _))
    repeat' ((fail_if_success (with_reducible show wpAny _ _ (call (Value.ref _) _) _ _ _)); first | ((with_reducible refine' ld_ ?zF ?zv ?zl ?zb ?_); (case zl | zb => exact rfl); (case zF => assumption); (case zv => exact rfl)) | ((with_reducible refine Jr (by with_reducible assumption) ?_); intro mC FC EC QC tC) | walk1)
    k_dflt (refine' Ct.use (sent_ct z r _ _ _ hz9 hr) ?B1 ?F1 ?X1 ?N1 ?T1 rfl ?hd1 ?hu1 ?_)
    case B1 => k_asm
    case F1 => k_asm
    case X1 => k_asm
    case N1 => k_asm
    case T1 => k_asm
    case hd1 => first | exact roomA hd (by decide) | ktr_room
    case hu1 => first | exact unitA hu (by decide) | ktr_units
    intro v9 tl9 hA tkA hP
    refine TupP.casesOn hP ?_
    clear hP
    intro a9 s1 s2 hlA F1 N1
    k_lt hlA
    dsimp only [List.cons_append, List.nil_append] at N1 ⊢
    repeat' ((fail_if_success (with_reducible show wpAny _ _ (call (Value.ref _) _) _ _ _)); first | with_reducible refine Jc ?_ | ((with_reducible refine' ld_ ?zF ?zv ?zl ?zb ?_); (case zl | zb => exact rfl); (case zF => assumption); (case zv => exact rfl)) | ((with_reducible refine Jr (by with_reducible assumption) ?_); intro mC FC EC QC tC) | walk1)
    k_dflt (refine' Ct.use (faults_ct z _ _ hz9) ?B1 ?F1 ?X1 ?N1 ?T1 rfl ?hd1 ?hu1 ?_)
    case B1 => k_asm
    case F1 => k_asm
    case X1 => k_asm
    case N1 => k_asm
    case T1 => k_asm
    case hd1 => first | exact roomA hd (by decide) | ktr_room
    case hu1 => first | exact unitA hu (by decide) | ktr_units
    intro v9 tl9 hA tkA hP
    refine IntsP.casesOn hP ?_
    clear hP
    intro l9 fs9 hI9 hnB F2 N2
    dsimp only [List.cons_append, List.nil_append] at N2 ⊢
    have hlt : @Ne Nat told l9 := hnB _ (.tail _ (.tail _ (.head _)))
    have hlc : @Ne Nat came l9 := hnB _ (.tail _ (.tail _ (.tail _ (.head _))))
    repeat' ((fail_if_success (with_reducible show wpAny _ _ (call (Value.ref _) _) _ _ _)); walk1)
    k_dflt (refine' Ct.use (shift_ct l9 fs9 fs9.length (faultsL z) _ hI9 (faults_len z).2 (faults_len z).1) ?B1 ?F1 ?X1 ?N1 ?T1 rfl ?hd1 ?hu1 ?_)
    case B1 => k_asm
    case F1 => k_asm
    case X1 => k_asm
    case N1 => k_asm
    case T1 => k_asm
    case hd1 => first | exact roomA hd (by decide) | ktr_room
    case hu1 => first | exact unitA hu (by decide) | ktr_units
    intro v9 tl9 hA tkA hP
    refine TupP.casesOn hP ?_
    clear hP
    intro b9 s3 s4 hlB F3 N3
    dsimp only [List.cons_append, List.nil_append] at N3 ⊢
    change Fr _ _ _ _ at F3
    rw [show (List.map dxF (faultsL z)).sum = bX z from rfl, show (List.map dyF (faultsL z)).sum = bY z from rfl] at N3
    replace N3 := news_drop2 N3
    k_lt hlB
    have hP := (row_ok z hr).2.2.2
    repeat' ((fail_if_success (with_reducible show wpAny _ _ (call (Value.builtin "list.append") _) _ _ _)); (fail_if_success (with_reducible show wpAny _ _ (call (Value.ref _) _) _ _ _)); first | (with_reducible first | refine Jc ?_ | refine Jf ?_ | refine Jg ?_ | refine ci_ ?_ | refine bin_ ?_) | ((with_reducible refine' ld_ ?zF ?zv ?zl ?zb ?_); (case zl | zb => exact rfl); (case zF => assumption); (case zv => exact rfl)) | ((with_reducible refine Jr (by with_reducible assumption) ?_); intro mC FC EC QC tC) | walk1)
    rename_i D9 h9 F9 N9 lD
    have N5 := drop_two N9
    rw [← hP.1, ← hP.2] at N5
    have hi3 : i < 3 := by
      have := (List.getElem?_eq_some_iff.mp hz).1
      simpa using this
    have hvl : vs.length ≤ 3 := by rw [hR9.len]; simp; omega
    have hwl : ws.length ≤ 3 := by rw [hW9.length]; simp; omega
    have hallc : ∀ p ∈ (d, o) :: (_, oS) :: (ln, listOf #[.int z1 ta, .int z2 tb, .int z3 tc] n0) :: (169, tabObj pl1) :: (176, tabObj pl2) :: (tp ++ tl₁), p.1 ≠ came := cam_off hl1 hl2 hl3 hl4 hl5 hl6 hl7 hlt9
    k_dflt (refine' append_K (s := ⟨_, _, _, _, _⟩) F9 N5 (.tail ?e1 (.tail ?e2 (.tail ?e3 (.head hallc)))) ?_ ?z)
    case e1 => exact Nat.ne_of_gt lD.2.2.2.2.1
    case e2 => exact hIc.symm
    case e3 => exact Nat.ne_of_gt hl1
    case z => rw [List.size_toArray]; exact small_line (by omega)
    intro hB F6 N6
    clear N5 N9 F9 hlB hnB hI9 hlt hlc
    repeat' ((fail_if_success (with_reducible show wpAny _ _ (eval (PySem.Expr.ListComp _ _ _ _) _) _ _ _)); first | (with_reducible first | refine Jc ?_ | refine bin_ ?_) | ((with_reducible refine' ld_ ?zF ?zv ?zl ?zb ?_); (case zl | zb => exact rfl); (case zF => assumption); (case zv => exact rfl)) | walk1)
    lcg_calm
    k_dflt (refine LCg.ListComp_U (F₀ := by k_asm) (by with_unfolding_all rfl) (by decide) (by rfl) (by decide) (by rfl) ?_)
    repeat' ((fail_if_success (with_reducible show wpAny _ _ (call (Value.ref _) _) _ _ _)); first | ((with_reducible refine' ld_ ?zF ?zv ?zl ?zb ?_); (case zl | zb => exact rfl); (case zF => assumption); (case zv => exact rfl)) | walk1)
    k_dflt (refine' Ct.use (faults_ct z _ _ hz9) ?B1 ?F1 ?X1 ?N1 ?T1 rfl ?hd1 ?hu1 ?_)
    case B1 => k_asm
    case F1 => k_asm
    case X1 => k_asm
    case N1 => k_asm
    case T1 => k_asm
    case hd1 => first | exact roomA hd (by decide) | ktr_room
    case hu1 => first | exact unitA hu (by decide) | ktr_units
    intro v9 tl9 hA tkA hP
    refine IntsP.casesOn hP ?_
    clear hP
    intro l9 fs9 hI9 hnB F7 N7
    dsimp only [List.cons_append, List.nil_append] at N7 ⊢
    have hDl : @Ne Nat D9 l9 := hnB _ (.head _)
    have hIl : @Ne Nat I l9 := hnB _ (.tail _ (.head _))
    have hlt : @Ne Nat told l9 := hnB _ (.tail _ (.tail _ (.head _)))
    have hlc : @Ne Nat came l9 := hnB _ (.tail _ (.tail _ (.tail _ (.head _))))
    have hfl := faults_len z
    k_dflt (refine' LCg.CompSrc.ledger ?c1 ?c2 ?c3 (.head _) ?c5 ?_)
    case c1 => rfl
    case c2 => exact F7
    case c3 => exact N7
    case c5 => rw [List.size_toArray, hI9.length]; exact small_line (by omega)
    intro g9
    refine compU_inv (fun i ys => IntsAre ys (((faultsL z).take i).map fun f => (3 * r + 2) ^ f.toNat)) .nil ?t1 ?f1
    case t1 =>
      --[ c1
      intro j ys v I2 o2 C2 oC2 D2 m₂ h tk E' hj hl hv hC2
      refine IntA.casesOn (ints_at hI9 hv) ?_
      clear hv
      intro f tf hf hx F N off ne
      have hf5 := hfl.2 f (List.mem_of_getElem? hf)
      repeat' (first | (((with_reducible show wpAny _ _ (binaryOp PySem.Operator.Pow _ _) _ _ _); (with_reducible refine pow_step hr hf5 ?_))) | (with_reducible first | refine Jf ?_ | refine Jg ?_ | refine bin_ ?_) | walk1)
      exact LCg.CompEnd.intro F N _ (fun p hp => hp) off (.inr ⟨_, .head _, rfl, _, rfl⟩) ⟨rfl, by rw [take_map_succ _ hf]; exact IntsAre.append hl (.cons _ _ .nil)⟩
      --] c1
    case f1 =>
      --[ c2
      intro ys hys D2 hB tkB F8 N8 off2
      rw [List.size_toArray, hI9.length, List.take_length] at hys
      have hsum : ((faultsL z).map fun f => (3 * r + 2) ^ f.toNat).sum = ((faultsL z).map fun f => (3 * r + 2) ^ f.toNat).sum := rfl
      have hmod := code_told z hr
      repeat' ((fail_if_success (with_reducible show wpAny _ _ (binaryOp PySem.Operator.Mod _ _) _ _ _)); first | (((with_reducible show wpAny _ _ (call (Value.builtin "sum") _) _ _ _); k_dflt ((with_reducible refine sum_to (by k_dflt k_asm) (by k_dflt k_asm) (by k_dflt rfl) (by k_dflt k_mem) (by with_reducible assumption) (by with_reducible assumption) ?_)); intro h' tk' t' F' N')) | (with_reducible first | refine Jf ?_ | refine Jg ?_) | ((with_reducible refine' ld_ ?zF ?zv ?zl ?zb ?_); (case zl | zb => exact rfl); (case zF => assumption); (case zv => exact rfl)) | walk1)
      with_reducible refine mod_told hr hmod ?_
      repeat' ((fail_if_success (with_reducible show wpAny _ _ (call (Value.builtin "list.append") _) _ _ _)); (fail_if_success (with_reducible show wpAny _ _ (call (Value.ref _) _) _ _ _)); walk1)
      rename Fr _ _ _ _ => F9
      rename News _ _ _ _ => N9
      have N5 := drop_told N9
      have hallt := told_off (oc := listOf (vs.toArray.push (Value.ref D9)) (c1 + 1)) (o := o) (oS := oS) (lo := listOf #[.int z1 ta, .int z2 tb, .int z3 tc] n0) (pl1 := pl1) (pl2 := pl2) hl1 hl2 hl3 hl4 hl5 hl6 hl7 hlt9
      k_dflt (refine' append_K (s := ⟨_, _, _, _, _⟩) F9 N5 (.tail ?e1 (.tail ?e2 (.head hallt))) ?_ ?z)
      case e1 => exact Nat.ne_of_gt lD.2.2.2.1
      case e2 => exact hIt.symm
      case z => rw [List.size_toArray]; exact small_line (by omega)
      intro hE F6 N6
      clear N5 N9 F9
      repeat' (walk1)
      exact grow_end (fr_own _ F6 (by exact ⟨rfl, rfl, rfl, rfl, rfl, rfl, rfl, trivial⟩)) N6 cam_mem (.tail _ (.head _)) (cam_ne (Nat.ne_of_gt lD.2.2.1) hI) (cam_next hz hR9 hW9 hlt9 lD.2.2.2.1)
      --] c2
    --] tn
  case done =>
    --[ dn
    clear F4 N4
    have hC0 := hC
    subst hcS
    intro m₁ nx h tk hJ
    refine camJ.casesOn hJ ?_
    clear hJ
    intro u tp vs ws c1 c2 t1 t2 t3 hR9 hW9 hlt9
    refine Rows3.casesOn (rows_three (show RowsAre tp vs [(rowP z1 r, rowQ z1, rowC z1), (rowP z2 r, rowQ z2, rowC z2), (rowP z3 r, rowQ z3, rowC z3)] from hR9)) ?_
    intro a1 a2 a3 s1 s2 s3 s4 s5 s6 s7 s8 s9 hm1 hm2 hm3
    refine Ints3.casesOn (ints_three (show IntsAre ws [codeK z1 r, codeK z2 r, codeK z3 r] from hW9)) ?_
    intro w1 w2 w3 F N
    have hk1 := hlt9 _ hm1
    have hk2 := hlt9 _ hm2
    have hk3 := hlt9 _ hm3
    have hoff := tab_off (lo := listOf #[.int z1 ta, .int z2 tb, .int z3 tc] n0) (o := o) (w := w) (D := fun _ => True) (kvs := []) (pl1 := pl1) (pl2 := pl2) N (by simp) (by simp) (.tail _ (.tail _ (.tail _ (.head _)))) hC0 ⟨hne (169, tabObj pl1) (by simp), hne (176, tabObj pl2) (by simp)⟩ hln htl (fun p hp => by simp [hp])
    have N2 := fun p hp => N p (cam_pick hm1 hm2 hm3 p hp)
    have hdis := page_dis (oc := listOf #[.ref a1, .ref a2, .ref a3] c1) (ot := listOf #[.int (codeK z1 r) w1, .int (codeK z2 r) w2, .int (codeK z3 r) w3] c2) (o1 := rowO (rowP z1 r) s1 (rowQ z1) s2 (chr1 (rowC z1)) s3) (o2 := rowO (rowP z2 r) s4 (rowQ z2) s5 (chr1 (rowC z2)) s6) (o3 := rowO (rowP z3 r) s7 (rowQ z3) s8 (chr1 (rowC z3)) s9) (T1 := tabObj pl1) (T2 := tabObj pl2) hl1 hl2 hl3 hl4 hl6 hl7 hk1 hk2 hk3 hoff
    have R1 := row_ok z1 hr
    have R2 := row_ok z2 hr
    have R3 := row_ok z3 hr
    have K1 := rowC_ok z1
    have K2 := rowC_ok z2
    have K3 := rowC_ok z3
    clear hoff hR9 hW9 hlt9 hm1 hm2 hm3 N
    repeat' ((fail_if_success (with_reducible show wpAny _ _ (call (Value.ref _) _) _ _ _)); first | with_reducible refine Jc ?_ | ((with_reducible refine' ld_ ?zF ?zv ?zl ?zb ?_); (case zl | zb => exact rfl); (case zF => assumption); (case zv => exact rfl)) | with_reducible refine asg_ ?_ | ((with_reducible refine Jr (by with_reducible assumption) ?_); intro mC FC EC QC tC) | walk1)
    k_dflt (refine' CtG.use (page_ct width _ a1 a2 a3 came (rowP z1 r) (rowQ z1) (rowC z1) (rowP z2 r) (rowQ z2) (rowC z2) (rowP z3 r) (rowQ z3) (rowC z3) _ _ _ _ _ _ _ _ _ _ pl1 pl2 _ hpl1 hpl2 hw R1.1 R2.1 R3.1 R1.2.1 R2.2.1 R3.2.1 R1.2.2.1 R2.2.2.1 R3.2.2.1 ⟨K1.1, K1.2.1⟩ ⟨K2.1, K2.2.1⟩ ⟨K3.1, K3.2.1⟩ ⟨hl6, Nat.lt_trans (Nat.lt_trans hl6 hl1) hk1, Nat.lt_trans (Nat.lt_trans hl6 hl1) hk2, Nat.lt_trans (Nat.lt_trans hl6 hl1) hk3⟩ hdis) ?B1 ?F1 ?X1 ?N1 ?T1 rfl ?hd1 ?hu1 ?GB1 ?_)
    case B1 => k_asm
    case F1 => k_asm
    case X1 => k_asm
    case N1 => k_asm
    case T1 => k_asm
    case hd1 => first | exact roomA hd (by decide) | ktr_room
    case hu1 => first | exact unitA hu (by decide) | ktr_units
    case GB1 => assumption
    intro v9 nx9 hA tkA gsA hP
    refine PstrP.casesOn hP ?_
    clear hP
    intro tpg pl1' pl2' hpl1' hpl2' F2 N3 GBA
    have hpgok := page_ok ⟨R1.1.2, R1.2.1.2⟩ ⟨R2.1.2, R2.2.1.2⟩ ⟨R3.1.2, R3.2.1.2⟩ ⟨K1.1, K1.2.1⟩ ⟨K2.1, K2.2.1⟩ ⟨K3.1, K3.2.1⟩ _ rfl
    have hpgen := page_encs (rowP z1 r) (rowQ z1) (rowC z1) (rowP z2 r) (rowQ z2) (rowC z2) (rowP z3 r) (rowQ z3) (rowC z3)
    have hspl := split_page (rowP z1 r) (rowQ z1) (rowC z1) (rowP z2 r) (rowQ z2) (rowC z2) (rowP z3 r) (rowQ z3) (rowC z3) ⟨K1.1, K1.2.1⟩ ⟨K2.1, K2.2.1⟩ ⟨K3.1, K3.2.1⟩
    generalize Str.join (Str.ofString "\n") [blk (rowP z1 r) (rowQ z1) (rowC z1), blk (rowP z2 r) (rowQ z2) (rowC z2), blk (rowP z3 r) (rowQ z3) (rowC z3)] = pg at hpgok hpgen hspl ⊢
    have hpl : pg.length ≤ 4000 := by
      have := hpgok.2.1
      rw [show (pg ++ Str.ofString "\n").length = pg.length + 1 by show (pg.cps ++ _).size = pg.cps.size + 1; rw [Array.size_append]; congr 1] at this
      omega
    have N4 : News _ _ _ ((told, listOf #[.int (codeK z1 r) w1, .int (codeK z2 r) w2, .int (codeK z3 r) w3] c2) :: (d, o) :: (_, oS) :: (ln, listOf #[.int z1 ta, .int z2 tb, .int z3 tc] n0) :: (169, tabObj pl1') :: (176, tabObj pl2') :: tl₁) := fun p hp => N3 p (page_keep p hp)
    clear N3 hdis hk1 hk2 hk3 hl7 N2
    repeat' ((fail_if_success (with_reducible show wpAny _ _ (call (Value.builtin "str.split") _) _ _ _)); first | with_reducible refine Jc ?_ | ((with_reducible refine' Js ?zF ?zN ?zl ?zb ?_); (case zl | zb => exact rfl); (case zF | zN => assumption); intro h' F' N'; (try k_sweep)) | with_reducible refine cs_ ?_ | ((with_reducible refine' ld_ ?zF ?zv ?zl ?zb ?_); (case zl | zb => exact rfl); (case zF => assumption); (case zv => exact rfl)) | with_reducible refine asg_ ?_ | walk1)
    k_dflt (refine' page_split hspl hpl ?F9 ?N9 ?_)
    case F9 => k_asm
    case N9 => k_asm
    intro D9 s1 s2 s3 h9 k9 F5 N5 lD9
    k_lt lD9
    repeat' ((fail_if_success (with_reducible show wpAny _ _ (call (Value.ref _) _) _ _ _)); first | (with_reducible first | refine Jf ?_ | refine Jg ?_) | ((with_reducible refine' Js ?zF ?zN ?zl ?zb ?_); (case zl | zb => exact rfl); (case zF | zN => assumption); intro h' F' N'; (try k_sweep)) | (with_reducible first | refine cs_ ?_ | refine bin_ ?_) | ((with_reducible refine' ld_ ?zF ?zv ?zl ?zb ?_); (case zl | zb => exact rfl); (case zF => assumption); (case zv => exact rfl)) | with_reducible refine asg_ ?_ | ((with_reducible refine Jr (by with_reducible assumption) ?_); intro mC FC EC QC tC) | walk1)
    k_dflt (refine' CtS.use (read_ct (pg ++ Str.ofString "\n") _ (tksOf (rowP z1 r) (rowQ z1) (rowC z1) ++ (tksOf (rowP z2 r) (rowQ z2) (rowC z2) ++ tksOf (rowP z3 r) (rowQ z3) (rowC z3))) _ hpgen (page_tks ⟨K1.1, K1.2.1⟩ ⟨K2.1, K2.2.1⟩ ⟨K3.1, K3.2.1⟩ R1.2.1 R2.2.1 R3.2.1) (page_cnt R1.1 R2.1 R3.1) hpgok) ?B1 ?F1 ?X1 ?N1 ?T1 ?XB1 ?TB1 ?D1 rfl ?hd1 ?hu1 ?_)
    case B1 => k_asm
    case F1 => k_asm
    case X1 => k_asm
    case N1 => k_asm
    case T1 => k_asm
    case XB1 => k_asm
    case TB1 => k_asm
    case D1 => k_asm
    case hd1 => first | exact roomA hd (by decide) | ktr_room
    case hu1 => first | exact unitA hu (by decide) | ktr_units
    intro v9 tl9 hA tkB g2 hP
    refine RowsP.casesOn hP ?_
    clear hP
    intro rd vs9 c3 tl3 hR3 hrn
    rw [fold_page] at hR3
    refine Rows3.casesOn (rows_three hR3) ?_
    intro a1 a2 a3 y1 y2 y3 y4 y5 y6 y7 y8 y9 hm1 hm2 hm3 KT F6 N6 B2 X2 T2 D2
    clear hspl hpl hpgok hpgen hR3
    replace N6 := fun p hp => N6 p (read_pick hm1 hm2 hm3 p hp)
    clear hm1 hm2 hm3 hrn tl3
    repeat' ((fail_if_success (with_reducible show wpAny _ _ (exec (.For _ _ _ _ _) _) _ _ _)); first | (with_reducible first | refine Jc ?_ | refine Jh ?_ | refine Ji ?_ | refine Jj ?_ | refine Jm ?_) | ((with_reducible refine' Js ?zF ?zN ?zl ?zb ?_); (case zl | zb => exact rfl); (case zF | zN => assumption); intro h' F' N'; (try k_sweep)) | with_reducible refine ci_ ?_ | ((with_reducible refine' ld_ ?zF ?zv ?zl ?zb ?_); (case zl | zb => exact rfl); (case zF => assumption); (case zv => exact rfl)) | (with_reducible first | refine if_ ?_ | refine asg_ ?_ | refine cmp_ ?_) | ((with_reducible refine Jr (by with_reducible assumption) ?_); intro mC FC EC QC tC) | walk1)
    rename Fr _ _ _ _ => F7
    rename News _ _ _ _ => N7
    refine CodeA.casesOn (code_n z1 hr) ?_
    intro n1 e1 hn1
    refine CodeA.casesOn (code_n z2 hr) ?_
    intro n2 e2 hn2
    refine CodeA.casesOn (code_n z3 hr) ?_
    intro n3 e3 hn3
    rw [e1, e2, e3] at N7
    refine abs_news N7 ?_
    clear N7
    intro NX hNX N8
    refine abs_fr (l := [(Str.ofString "width", .int width t1), (Str.ofString "reach", .int r t2), (Str.ofString "numbers", .ref ln), (Str.ofString "size", .int (3 * r * (r + 1) + 1) t3), (Str.ofString "lots", .ref d), (Str.ofString "came", .ref came), (Str.ofString "told", .ref told), (Str.ofString "page", .str pg tpg), (Str.ofString "lines", .ref D9), (Str.ofString "read", .ref rd), (Str.ofString "flags", .int (flI (memT n1 n2 n3 0) 0 37) _)]) (by rw [memT_0, fl_zero]; exact fr_own _ F7 (by exact ⟨rfl, rfl, rfl, rfl, rfl, rfl, rfl, rfl, rfl, rfl, rfl, trivial⟩)) ?_
    clear F7
    intro u F8
    have N9 := N8
    rw [hNX] at N9
    k_dflt (refine For_else ?_ (by intro _; with_unfolding_all rfl))
    repeat' ((fail_if_success (with_reducible show wpAny _ _ (pyIter (Value.ref _)) (fun it s₂ => ElseAt _ _ _ _ _ _ _ _ _ _ it s₂) _ _)); first | ((with_reducible refine' ld_ ?zF ?zv ?zl ?zb ?_); (case zl | zb => exact rfl); (case zF => assumption); (case zv => exact rfl)) | walk1)
    rename IsRange _ _ _ _ _ _ _ _ => hRg
    rename Fr _ _ _ _ => F9
    rename News _ _ _ _ => N9
    rw [← hNX] at N9
    refine Grow_range (n := 3) (FlgJ r width ln d came told D9 rd pg t1 t2 t3 tpg n1 n2 n3 NX)
      rfl F9 N9 rfl hRg (by decide) (by decide) ?k0 rfl rfl ?kturn ?kdone (by passes_own)
    case k0 => exact FlgJ.mk _ _
    case kdone =>
      --[ kd
      clear F9 N9 hRg
      intro m₁ nx h tk hJ
      refine FlgJ.casesOn hJ ?_
      clear hJ
      intro u tF F N
      rw [memT_3] at F
      rw [hNX] at N
      repeat' ((fail_if_success (with_reducible show wpAny _ _ (call (Value.ref _) _) _ _ _)); first | with_reducible refine Jc ?_ | ((with_reducible refine' ld_ ?zF ?zv ?zl ?zb ?_); (case zl | zb => exact rfl); (case zF => assumption); (case zv => exact rfl)) | ((with_reducible refine Jr (by with_reducible assumption) ?_); intro mC FC EC QC tC) | walk1)
      k_dflt (refine' Ct.use (pretty_ct (memP n1 n2 n3) _ _ (fl_pos hn1 memP_head)) ?B1 ?F1 ?X1 ?N1 ?T1 rfl ?hd1 ?hu1 ?_)
      case B1 => k_asm
      case F1 => k_asm
      case X1 => k_asm
      case N1 => k_asm
      case T1 => k_asm
      case hd1 => first | exact roomA hd (by decide) | ktr_room
      case hu1 => first | exact unitA hu (by decide) | ktr_units
      intro v9 tl9 hA tkA hP
      refine ValP.casesOn hP ?_
      clear hP
      intro tW F2 N2
      dsimp only [List.nil_append] at N2
      have N3 := told_front N2
      repeat' ((fail_if_success (with_reducible show wpAny _ _ (call (Value.ref _) _) _ _ _)); first | ((with_reducible refine' ld_ ?zF ?zv ?zl ?zb ?_); (case zl | zb => exact rfl); (case zF => assumption); (case zv => exact rfl)) | walk1)
      k_dflt (refine' Ct.use (words_ct n1 n2 n3 told _ _ _ _ _ hn1 hn2 hn3) ?B1 ?F1 ?X1 ?N1 ?T1 rfl ?hd1 ?hu1 ?_)
      case B1 => k_asm
      case F1 => k_asm
      case X1 => k_asm
      case N1 => exact N3
      case T1 => k_asm
      case hd1 => first | exact roomA hd (by decide) | ktr_room
      case hu1 => first | exact unitA hu (by decide) | ktr_units
      intro v9 tl9 hA tkB hP
      refine ValP.casesOn hP ?_
      clear hP
      intro tV F3 N3
      dsimp only [List.nil_append] at N3
      repeat' (first | ((with_reducible refine Jb ?_); (try dsimp only)) | walk1)
      rename KtsTurn _ _ _ => kT9
      rename Fr _ _ _ _ => kF9
      rename News _ _ _ _ => kN9
      rename Below _ _ _ _ => kB9
      rename Frag.In _ _ => kX9
      rename Top _ _ _ _ _ _ => kP9
      rename KtsDicts _ _ => kD9
      exact hret _ [(169, tabObj pl1'), (176, tabObj pl2')] _ _ _ _ kT9 kF9 (fun p hp => kN9 p (tabs_in p hp)) kB9 kX9 kP9 kD9 GBA ⟨congrArg Value.bool (beq_self_eq_true _), pl1', pl2', hpl1', hpl2', rfl⟩
      --] kd
    case kturn =>
      --[ kt
      clear F9 N9 hRg
      intro i tk9 m₁ nx h tk I oI hi hI hJ
      revert hI
      refine FlgJ.casesOn hJ ?_
      clear hJ nx
      intro u tF hI F N
      have hmrd := mem_at hNX (.head _)
      have hmD := mem_at hNX (.tail _ (.tail _ (.tail _ (.tail _ (.head _)))))
      have hmd := mem_at hNX (.tail _ (.tail _ (.tail _ (.tail _ (.tail _ (.tail _ (.head _)))))))
      have hmc := mem_at hNX (.tail _ (.tail _ (.tail _ (.tail _ (.tail _ (.tail _ (.tail _ (.head _))))))))
      have hmn := mem_at hNX (.tail _ (.tail _ (.tail _ (.tail _ (.tail _ (.tail _ (.tail _ (.tail _ (.head _)))))))))
      refine TurnA.casesOn (three_at hi (P := TurnA r #[.int z1 ta, .int z2 tb, .int z3 tc] #[.str (blk (rowP z1 r) (rowQ z1) (rowC z1)) s1, .str (blk (rowP z2 r) (rowQ z2) (rowC z2)) s2, .str (blk (rowP z3 r) (rowQ z3) (rowC z3)) s3] #[.ref a1, .ref a2, .ref a3] [n1, n2, n3] NX)
        (.mk z1 a1 n1 y1 y2 y3 s1 ta h1 ar0 ar0 ar0 li0 e1 hn1 (mem_at hNX (.tail _ (.head _)))) (.mk z2 a2 n2 y4 y5 y6 s2 tb h2 ar1 ar1 ar1 li1 e2 hn2 (mem_at hNX (.tail _ (.tail _ (.head _))))) (.mk z3 a3 n3 y7 y8 y9 s3 tc h3 ar2 ar2 ar2 li2 e3 hn3 (mem_at hNX (.tail _ (.tail _ (.tail _ (.head _))))))) ?_
      intro z a n v1 v2 v3 sT tz hz9 hzv hrv hlv hnv hnK hn37 hmr
      refine RowLaw.casesOn (row_lawI z hr) ?_
      intro x y hfind hle hiff
      refine LotAt.casesOn (lot_at hR hfind) ?_
      intro b b1 b2 hval hmb
      have hmb' : (b, tupO x b1 y b2) ∈ NX := by rw [hNX]; exact mem_told hmb
      have N9 : News _ _ _ ((I, oI) :: (a, rowO (rowP z r) v1 (rowQ z) v2 (chr1 (rowC z)) v3) :: (b, tupO x b1 y b2) :: NX) := turn_pick N hmr hmb'
      clear N
      repeat' ((fail_if_success (with_reducible show wpAny _ _ (subscriptTail _ _ _ _) _ _ _)); (fail_if_success (with_reducible show wpAny _ _ (call (Value.ref _) _) _ _ _)); (fail_if_success (with_reducible show wpAny _ _ (binaryOp PySem.Operator.Mod _ _) _ _ _)); (fail_if_success (with_reducible show wpAny _ _ (binaryOp PySem.Operator.LShift _ _) _ _ _)); (fail_if_success (with_reducible show wpAny _ _ (inplaceOp _ _ _) _ _ _)); (fail_if_success (with_reducible show wpAny _ _ (binaryOp PySem.Operator.Mult (Value.str _ _) _) _ _ _)); first | ((with_reducible refine Ja ?_); (try dsimp only)) | ((with_reducible refine Jb ?_); (try dsimp only)) | (with_reducible first | refine Jc ?_ | refine Jd ?_ | refine Je ?_ | refine Jf ?_ | refine Jg ?_ | refine Jh ?_ | refine Ji ?_ | refine Jj ?_ | refine Jk ?_ | refine Jl ?_ | refine Jm ?_ | refine Jn ?_ | refine Jo ?_ | refine Jp ?_ | refine Jq ?_) | ((with_reducible refine' Js ?zF ?zN ?zl ?zb ?_); (case zl | zb => exact rfl); (case zF | zN => assumption); intro h' F' N'; (try k_sweep)) | (with_reducible first | refine Jt ?_ | refine ci_ ?_ | refine cs_ ?_ | refine bin_ ?_ | refine sub_ ?_) | ((with_reducible refine' ld_ ?zF ?zv ?zl ?zb ?_); (case zl | zb => exact rfl); (case zF => assumption); (case zv => exact rfl)) | (with_reducible first | refine if_ ?_ | refine asg_ ?_) | ((with_reducible refine' aug_ ?zF ?zv ?zl ?zb ?_); (case zl | zb => exact rfl); (case zF => assumption); (case zv => exact rfl)) | with_reducible refine cmp_ ?_ | ((with_reducible show wpAny _ _ (isTrue (PySem.Expr.Name _ _) _ _) _ _ _); with_reducible refine pl_ ?_) | ((with_reducible show wpAny _ _ (isTrue (PySem.Expr.Call _ _ _ _) _ _) _ _ _); with_reducible refine pl_ ?_) | ((with_reducible refine Jr (by with_reducible assumption) ?_); intro mC FC EC QC tC) | (k_unfold; (try dsimp only)) | (k_end; wrow_close) | walk1 | (dsimp only; walk1) | (leave1; try dsimp only))
      k_dflt (refine' item_told (hx := hrv) (n0 := c3) ?N1 ?m1 hi ?_ ?s1 ?s2)
      case N1 => k_asm
      case m1 => k_mem
      case s1 => with_unfolding_all rfl
      case s2 => intro _; with_unfolding_all rfl
      have hkey := row_key z hr
      rw [show lotKey r (bX z) (bY z) = codeK z r from rfl] at hkey
      repeat' ((fail_if_success (with_reducible show wpAny _ _ (subscriptTail _ _ _ _) _ _ _)); (fail_if_success (with_reducible show wpAny _ _ (call (Value.ref _) _) _ _ _)); (fail_if_success (with_reducible show wpAny _ _ (binaryOp PySem.Operator.Mod _ _) _ _ _)); (fail_if_success (with_reducible show wpAny _ _ (binaryOp PySem.Operator.LShift _ _) _ _ _)); (fail_if_success (with_reducible show wpAny _ _ (inplaceOp _ _ _) _ _ _)); (fail_if_success (with_reducible show wpAny _ _ (binaryOp PySem.Operator.Mult (Value.str _ _) _) _ _ _)); first | ((with_reducible refine Ja ?_); (try dsimp only)) | ((with_reducible refine Jb ?_); (try dsimp only)) | (with_reducible first | refine Jc ?_ | refine Jd ?_ | refine Je ?_ | refine Jf ?_ | refine Jg ?_ | refine Jh ?_ | refine Ji ?_ | refine Jj ?_ | refine Jk ?_ | refine Jl ?_ | refine Jm ?_ | refine Jn ?_ | refine Jo ?_ | refine Jp ?_ | refine Jq ?_) | ((with_reducible refine' Js ?zF ?zN ?zl ?zb ?_); (case zl | zb => exact rfl); (case zF | zN => assumption); intro h' F' N'; (try k_sweep)) | (with_reducible first | refine Jt ?_ | refine ci_ ?_ | refine cs_ ?_ | refine bin_ ?_ | refine sub_ ?_) | ((with_reducible refine' ld_ ?zF ?zv ?zl ?zb ?_); (case zl | zb => exact rfl); (case zF => assumption); (case zv => exact rfl)) | (with_reducible first | refine if_ ?_ | refine asg_ ?_) | ((with_reducible refine' aug_ ?zF ?zv ?zl ?zb ?_); (case zl | zb => exact rfl); (case zF => assumption); (case zv => exact rfl)) | with_reducible refine cmp_ ?_ | ((with_reducible show wpAny _ _ (isTrue (PySem.Expr.Name _ _) _ _) _ _ _); with_reducible refine pl_ ?_) | ((with_reducible show wpAny _ _ (isTrue (PySem.Expr.Call _ _ _ _) _ _) _ _ _); with_reducible refine pl_ ?_) | ((with_reducible refine Jr (by with_reducible assumption) ?_); intro mC FC EC QC tC) | (k_unfold; (try dsimp only)) | (k_end; wrow_close) | walk1 | (dsimp only; walk1) | (leave1; try dsimp only))
      with_reducible refine mod_any hr hkey ?_
      intro tk7 kk7
      (try dsimp only)
      repeat' ((fail_if_success (with_reducible show wpAny _ _ (subscriptTail _ _ _ _) _ _ _)); (fail_if_success (with_reducible show wpAny _ _ (call (Value.ref _) _) _ _ _)); (fail_if_success (with_reducible show wpAny _ _ (binaryOp PySem.Operator.Mod _ _) _ _ _)); (fail_if_success (with_reducible show wpAny _ _ (binaryOp PySem.Operator.LShift _ _) _ _ _)); (fail_if_success (with_reducible show wpAny _ _ (inplaceOp _ _ _) _ _ _)); (fail_if_success (with_reducible show wpAny _ _ (binaryOp PySem.Operator.Mult (Value.str _ _) _) _ _ _)); first | ((with_reducible refine Ja ?_); (try dsimp only)) | ((with_reducible refine Jb ?_); (try dsimp only)) | (with_reducible first | refine Jc ?_ | refine Jd ?_ | refine Je ?_ | refine Jf ?_ | refine Jg ?_ | refine Jh ?_ | refine Ji ?_ | refine Jj ?_ | refine Jk ?_ | refine Jl ?_ | refine Jm ?_ | refine Jn ?_ | refine Jo ?_ | refine Jp ?_ | refine Jq ?_) | ((with_reducible refine' Js ?zF ?zN ?zl ?zb ?_); (case zl | zb => exact rfl); (case zF | zN => assumption); intro h' F' N'; (try k_sweep)) | (with_reducible first | refine Jt ?_ | refine ci_ ?_ | refine cs_ ?_ | refine bin_ ?_ | refine sub_ ?_) | ((with_reducible refine' ld_ ?zF ?zv ?zl ?zb ?_); (case zl | zb => exact rfl); (case zF => assumption); (case zv => exact rfl)) | (with_reducible first | refine if_ ?_ | refine asg_ ?_) | ((with_reducible refine' aug_ ?zF ?zv ?zl ?zb ?_); (case zl | zb => exact rfl); (case zF => assumption); (case zv => exact rfl)) | with_reducible refine cmp_ ?_ | ((with_reducible show wpAny _ _ (isTrue (PySem.Expr.Name _ _) _ _) _ _ _); with_reducible refine pl_ ?_) | ((with_reducible show wpAny _ _ (isTrue (PySem.Expr.Call _ _ _ _) _ _) _ _ _); with_reducible refine pl_ ?_) | ((with_reducible refine Jr (by with_reducible assumption) ?_); intro mC FC EC QC tC) | (k_unfold; (try dsimp only)) | (k_end; wrow_close) | walk1 | (dsimp only; walk1) | (leave1; try dsimp only))
      with_reducible refine shl_told hnK hn37 ?_
      intro tk8 kk8
      (try dsimp only)
      repeat' ((fail_if_success (with_reducible show wpAny _ _ (subscriptTail _ _ _ _) _ _ _)); (fail_if_success (with_reducible show wpAny _ _ (call (Value.ref _) _) _ _ _)); (fail_if_success (with_reducible show wpAny _ _ (binaryOp PySem.Operator.Mod _ _) _ _ _)); (fail_if_success (with_reducible show wpAny _ _ (binaryOp PySem.Operator.LShift _ _) _ _ _)); (fail_if_success (with_reducible show wpAny _ _ (inplaceOp _ _ _) _ _ _)); (fail_if_success (with_reducible show wpAny _ _ (binaryOp PySem.Operator.Mult (Value.str _ _) _) _ _ _)); first | ((with_reducible refine Ja ?_); (try dsimp only)) | ((with_reducible refine Jb ?_); (try dsimp only)) | (with_reducible first | refine Jc ?_ | refine Jd ?_ | refine Je ?_ | refine Jf ?_ | refine Jg ?_ | refine Jh ?_ | refine Ji ?_ | refine Jj ?_ | refine Jk ?_ | refine Jl ?_ | refine Jm ?_ | refine Jn ?_ | refine Jo ?_ | refine Jp ?_ | refine Jq ?_) | ((with_reducible refine' Js ?zF ?zN ?zl ?zb ?_); (case zl | zb => exact rfl); (case zF | zN => assumption); intro h' F' N'; (try k_sweep)) | (with_reducible first | refine Jt ?_ | refine ci_ ?_ | refine cs_ ?_ | refine bin_ ?_ | refine sub_ ?_) | ((with_reducible refine' ld_ ?zF ?zv ?zl ?zb ?_); (case zl | zb => exact rfl); (case zF => assumption); (case zv => exact rfl)) | (with_reducible first | refine if_ ?_ | refine asg_ ?_) | ((with_reducible refine' aug_ ?zF ?zv ?zl ?zb ?_); (case zl | zb => exact rfl); (case zF => assumption); (case zv => exact rfl)) | with_reducible refine cmp_ ?_ | ((with_reducible show wpAny _ _ (isTrue (PySem.Expr.Name _ _) _ _) _ _ _); with_reducible refine pl_ ?_) | ((with_reducible show wpAny _ _ (isTrue (PySem.Expr.Call _ _ _ _) _ _) _ _ _); with_reducible refine pl_ ?_) | ((with_reducible refine Jr (by with_reducible assumption) ?_); intro mC FC EC QC tC) | (k_unfold; (try dsimp only)) | (k_end; wrow_close) | walk1 | (dsimp only; walk1) | (leave1; try dsimp only))
      with_reducible refine ior_told (memT_succ hnv) hn37 ?_
      intro tk9 kk9
      (try dsimp only)
      repeat' ((fail_if_success (with_reducible show wpAny _ _ (subscriptTail _ _ _ _) _ _ _)); (fail_if_success (with_reducible show wpAny _ _ (call (Value.ref _) _) _ _ _)); (fail_if_success (with_reducible show wpAny _ _ (binaryOp PySem.Operator.Mod _ _) _ _ _)); (fail_if_success (with_reducible show wpAny _ _ (binaryOp PySem.Operator.LShift _ _) _ _ _)); (fail_if_success (with_reducible show wpAny _ _ (inplaceOp _ _ _) _ _ _)); (fail_if_success (with_reducible show wpAny _ _ (binaryOp PySem.Operator.Mult (Value.str _ _) _) _ _ _)); first | ((with_reducible refine Ja ?_); (try dsimp only)) | ((with_reducible refine Jb ?_); (try dsimp only)) | (with_reducible first | refine Jc ?_ | refine Jd ?_ | refine Je ?_ | refine Jf ?_ | refine Jg ?_ | refine Jh ?_ | refine Ji ?_ | refine Jj ?_ | refine Jk ?_ | refine Jl ?_ | refine Jm ?_ | refine Jn ?_ | refine Jo ?_ | refine Jp ?_ | refine Jq ?_) | ((with_reducible refine' Js ?zF ?zN ?zl ?zb ?_); (case zl | zb => exact rfl); (case zF | zN => assumption); intro h' F' N'; (try k_sweep)) | (with_reducible first | refine Jt ?_ | refine ci_ ?_ | refine cs_ ?_ | refine bin_ ?_ | refine sub_ ?_) | ((with_reducible refine' ld_ ?zF ?zv ?zl ?zb ?_); (case zl | zb => exact rfl); (case zF => assumption); (case zv => exact rfl)) | (with_reducible first | refine if_ ?_ | refine asg_ ?_) | ((with_reducible refine' aug_ ?zF ?zv ?zl ?zb ?_); (case zl | zb => exact rfl); (case zF => assumption); (case zv => exact rfl)) | with_reducible refine cmp_ ?_ | ((with_reducible show wpAny _ _ (isTrue (PySem.Expr.Name _ _) _ _) _ _ _); with_reducible refine pl_ ?_) | ((with_reducible show wpAny _ _ (isTrue (PySem.Expr.Call _ _ _ _) _ _) _ _ _); with_reducible refine pl_ ?_) | ((with_reducible refine Jr (by with_reducible assumption) ?_); intro mC FC EC QC tC) | (k_unfold; (try dsimp only)) | (k_end; wrow_close) | walk1 | (dsimp only; walk1) | (leave1; try dsimp only))
      k_dflt (refine' kda_item (v := .ref b) (knd := PySem.intKind PG w) (k := codeK z r) ?N1 ?m1 hD ?ky hval ?_ ?s1 ?s2)
      case N1 => k_asm
      case m1 => k_mem
      case ky => exact intKind_is _ _ _ _
      case s1 => with_unfolding_all rfl
      case s2 => intro _; with_unfolding_all rfl
      have Kz := rowC_ok z
      refine ToldF.casesOn (told_facts z hr hle) ?_
      intro pm qm hpm hqm hpm4 hqm4 hpq4 hLev1 hx1 hy1 hhex2
      repeat' ((fail_if_success (with_reducible show wpAny _ _ (subscriptTail _ _ _ _) _ _ _)); (fail_if_success (with_reducible show wpAny _ _ (call (Value.ref _) _) _ _ _)); (fail_if_success (with_reducible show wpAny _ _ (binaryOp PySem.Operator.Mod _ _) _ _ _)); (fail_if_success (with_reducible show wpAny _ _ (binaryOp PySem.Operator.LShift _ _) _ _ _)); (fail_if_success (with_reducible show wpAny _ _ (inplaceOp _ _ _) _ _ _)); (fail_if_success (with_reducible show wpAny _ _ (binaryOp PySem.Operator.Mult (Value.str _ _) _) _ _ _)); first | ((with_reducible refine Ja ?_); (try dsimp only)) | ((with_reducible refine Jb ?_); (try dsimp only)) | (with_reducible first | refine Jc ?_ | refine Jd ?_ | refine Je ?_ | refine Jf ?_ | refine Jg ?_ | refine Jh ?_ | refine Ji ?_ | refine Jj ?_ | refine Jk ?_ | refine Jl ?_ | refine Jm ?_ | refine Jn ?_ | refine Jo ?_ | refine Jp ?_ | refine Jq ?_) | ((with_reducible refine' Js ?zF ?zN ?zl ?zb ?_); (case zl | zb => exact rfl); (case zF | zN => assumption); intro h' F' N'; (try k_sweep)) | (with_reducible first | refine Jt ?_ | refine ci_ ?_ | refine cs_ ?_ | refine bin_ ?_ | refine sub_ ?_) | ((with_reducible refine' ld_ ?zF ?zv ?zl ?zb ?_); (case zl | zb => exact rfl); (case zF => assumption); (case zv => exact rfl)) | (with_reducible first | refine if_ ?_ | refine asg_ ?_) | ((with_reducible refine' aug_ ?zF ?zv ?zl ?zb ?_); (case zl | zb => exact rfl); (case zF => assumption); (case zv => exact rfl)) | with_reducible refine cmp_ ?_ | ((with_reducible show wpAny _ _ (isTrue (PySem.Expr.Name _ _) _ _) _ _ _); with_reducible refine pl_ ?_) | ((with_reducible show wpAny _ _ (isTrue (PySem.Expr.Call _ _ _ _) _ _) _ _ _); with_reducible refine pl_ ?_) | ((with_reducible refine Jr (by with_reducible assumption) ?_); intro mC FC EC QC tC) | (k_unfold; (try dsimp only)) | (k_end; wrow_close) | walk1 | (dsimp only; walk1) | (leave1; try dsimp only))
      with_reducible refine mulsp_told hpm hpm4 ?_
      intro tk1 kk1
      (try dsimp only)
      repeat' ((fail_if_success (with_reducible show wpAny _ _ (subscriptTail _ _ _ _) _ _ _)); (fail_if_success (with_reducible show wpAny _ _ (call (Value.ref _) _) _ _ _)); (fail_if_success (with_reducible show wpAny _ _ (binaryOp PySem.Operator.Mod _ _) _ _ _)); (fail_if_success (with_reducible show wpAny _ _ (binaryOp PySem.Operator.LShift _ _) _ _ _)); (fail_if_success (with_reducible show wpAny _ _ (inplaceOp _ _ _) _ _ _)); (fail_if_success (with_reducible show wpAny _ _ (binaryOp PySem.Operator.Mult (Value.str _ _) _) _ _ _)); first | ((with_reducible refine Ja ?_); (try dsimp only)) | ((with_reducible refine Jb ?_); (try dsimp only)) | (with_reducible first | refine Jc ?_ | refine Jd ?_ | refine Je ?_ | refine Jf ?_ | refine Jg ?_ | refine Jh ?_ | refine Ji ?_ | refine Jj ?_ | refine Jk ?_ | refine Jl ?_ | refine Jm ?_ | refine Jn ?_ | refine Jo ?_ | refine Jp ?_ | refine Jq ?_) | ((with_reducible refine' Js ?zF ?zN ?zl ?zb ?_); (case zl | zb => exact rfl); (case zF | zN => assumption); intro h' F' N'; (try k_sweep)) | (with_reducible first | refine Jt ?_ | refine ci_ ?_ | refine cs_ ?_ | refine bin_ ?_ | refine sub_ ?_) | ((with_reducible refine' ld_ ?zF ?zv ?zl ?zb ?_); (case zl | zb => exact rfl); (case zF => assumption); (case zv => exact rfl)) | (with_reducible first | refine if_ ?_ | refine asg_ ?_) | ((with_reducible refine' aug_ ?zF ?zv ?zl ?zb ?_); (case zl | zb => exact rfl); (case zF => assumption); (case zv => exact rfl)) | with_reducible refine cmp_ ?_ | ((with_reducible show wpAny _ _ (isTrue (PySem.Expr.Name _ _) _ _) _ _ _); with_reducible refine pl_ ?_) | ((with_reducible show wpAny _ _ (isTrue (PySem.Expr.Call _ _ _ _) _ _) _ _ _); with_reducible refine pl_ ?_) | ((with_reducible refine Jr (by with_reducible assumption) ?_); intro mC FC EC QC tC) | (k_unfold; (try dsimp only)) | (k_end; wrow_close) | walk1 | (dsimp only; walk1) | (leave1; try dsimp only))
      with_reducible refine mulc_told hqm hqm4 ?_
      intro tk2 kk2
      (try dsimp only)
      repeat' ((fail_if_success (with_reducible show wpAny _ _ (subscriptTail _ _ _ _) _ _ _)); (fail_if_success (with_reducible show wpAny _ _ (call (Value.ref _) _) _ _ _)); (fail_if_success (with_reducible show wpAny _ _ (binaryOp PySem.Operator.Mod _ _) _ _ _)); (fail_if_success (with_reducible show wpAny _ _ (binaryOp PySem.Operator.LShift _ _) _ _ _)); (fail_if_success (with_reducible show wpAny _ _ (inplaceOp _ _ _) _ _ _)); (fail_if_success (with_reducible show wpAny _ _ (binaryOp PySem.Operator.Mult (Value.str _ _) _) _ _ _)); first | ((with_reducible refine Ja ?_); (try dsimp only)) | ((with_reducible refine Jb ?_); (try dsimp only)) | (with_reducible first | refine Jc ?_ | refine Jd ?_ | refine Je ?_ | refine Jf ?_ | refine Jg ?_ | refine Jh ?_ | refine Ji ?_ | refine Jj ?_ | refine Jk ?_ | refine Jl ?_ | refine Jm ?_ | refine Jn ?_ | refine Jo ?_ | refine Jp ?_ | refine Jq ?_) | ((with_reducible refine' Js ?zF ?zN ?zl ?zb ?_); (case zl | zb => exact rfl); (case zF | zN => assumption); intro h' F' N'; (try k_sweep)) | (with_reducible first | refine Jt ?_ | refine ci_ ?_ | refine cs_ ?_ | refine bin_ ?_ | refine sub_ ?_) | ((with_reducible refine' ld_ ?zF ?zv ?zl ?zb ?_); (case zl | zb => exact rfl); (case zF => assumption); (case zv => exact rfl)) | (with_reducible first | refine if_ ?_ | refine asg_ ?_) | ((with_reducible refine' aug_ ?zF ?zv ?zl ?zb ?_); (case zl | zb => exact rfl); (case zF => assumption); (case zv => exact rfl)) | with_reducible refine cmp_ ?_ | ((with_reducible show wpAny _ _ (isTrue (PySem.Expr.Name _ _) _ _) _ _ _); with_reducible refine pl_ ?_) | ((with_reducible show wpAny _ _ (isTrue (PySem.Expr.Call _ _ _ _) _ _) _ _ _); with_reducible refine pl_ ?_) | ((with_reducible refine Jr (by with_reducible assumption) ?_); intro mC FC EC QC tC) | (k_unfold; (try dsimp only)) | (k_end; wrow_close) | walk1 | (dsimp only; walk1) | (leave1; try dsimp only))
      with_reducible refine addblk_told hpq4 ?_
      intro tk3 kk3
      (try dsimp only)
      repeat' ((fail_if_success (with_reducible show wpAny _ _ (subscriptTail _ _ _ _) _ _ _)); (fail_if_success (with_reducible show wpAny _ _ (call (Value.ref _) _) _ _ _)); (fail_if_success (with_reducible show wpAny _ _ (binaryOp PySem.Operator.Mod _ _) _ _ _)); (fail_if_success (with_reducible show wpAny _ _ (binaryOp PySem.Operator.LShift _ _) _ _ _)); (fail_if_success (with_reducible show wpAny _ _ (inplaceOp _ _ _) _ _ _)); (fail_if_success (with_reducible show wpAny _ _ (binaryOp PySem.Operator.Mult (Value.str _ _) _) _ _ _)); first | ((with_reducible refine Ja ?_); (try dsimp only)) | ((with_reducible refine Jb ?_); (try dsimp only)) | (with_reducible first | refine Jc ?_ | refine Jd ?_ | refine Je ?_ | refine Jf ?_ | refine Jg ?_ | refine Jh ?_ | refine Ji ?_ | refine Jj ?_ | refine Jk ?_ | refine Jl ?_ | refine Jm ?_ | refine Jn ?_ | refine Jo ?_ | refine Jp ?_ | refine Jq ?_) | ((with_reducible refine' Js ?zF ?zN ?zl ?zb ?_); (case zl | zb => exact rfl); (case zF | zN => assumption); intro h' F' N'; (try k_sweep)) | (with_reducible first | refine Jt ?_ | refine ci_ ?_ | refine cs_ ?_ | refine bin_ ?_ | refine sub_ ?_) | ((with_reducible refine' ld_ ?zF ?zv ?zl ?zb ?_); (case zl | zb => exact rfl); (case zF => assumption); (case zv => exact rfl)) | (with_reducible first | refine if_ ?_ | refine asg_ ?_) | ((with_reducible refine' aug_ ?zF ?zv ?zl ?zb ?_); (case zl | zb => exact rfl); (case zF => assumption); (case zv => exact rfl)) | with_reducible refine cmp_ ?_ | ((with_reducible show wpAny _ _ (isTrue (PySem.Expr.Name _ _) _ _) _ _ _); with_reducible refine pl_ ?_) | ((with_reducible show wpAny _ _ (isTrue (PySem.Expr.Call _ _ _ _) _ _) _ _ _); with_reducible refine pl_ ?_) | ((with_reducible refine Jr (by with_reducible assumption) ?_); intro mC FC EC QC tC) | (k_unfold; (try dsimp only)) | (k_end; wrow_close) | walk1 | (dsimp only; walk1) | (leave1; try dsimp only))
      k_dflt (refine' item_told (hx := hlv) (n0 := 0) ?N1 ?m1 hi ?_ ?s1 ?s2)
      case N1 => k_asm
      case m1 => k_mem
      case s1 => with_unfolding_all rfl
      case s2 => intro _; with_unfolding_all rfl
      repeat' ((fail_if_success (with_reducible show wpAny _ _ (subscriptTail _ _ _ _) _ _ _)); (fail_if_success (with_reducible show wpAny _ _ (call (Value.ref _) _) _ _ _)); (fail_if_success (with_reducible show wpAny _ _ (binaryOp PySem.Operator.Mod _ _) _ _ _)); (fail_if_success (with_reducible show wpAny _ _ (binaryOp PySem.Operator.LShift _ _) _ _ _)); (fail_if_success (with_reducible show wpAny _ _ (inplaceOp _ _ _) _ _ _)); (fail_if_success (with_reducible show wpAny _ _ (binaryOp PySem.Operator.Mult (Value.str _ _) _) _ _ _)); first | ((with_reducible refine Ja ?_); (try dsimp only)) | ((with_reducible refine Jb ?_); (try dsimp only)) | (with_reducible first | refine Jc ?_ | refine Jd ?_ | refine Je ?_ | refine Jf ?_ | refine Jg ?_ | refine Jh ?_ | refine Ji ?_ | refine Jj ?_ | refine Jk ?_ | refine Jl ?_ | refine Jm ?_ | refine Jn ?_ | refine Jo ?_ | refine Jp ?_ | refine Jq ?_) | ((with_reducible refine' Js ?zF ?zN ?zl ?zb ?_); (case zl | zb => exact rfl); (case zF | zN => assumption); intro h' F' N'; (try k_sweep)) | (with_reducible first | refine Jt ?_ | refine ci_ ?_ | refine cs_ ?_ | refine bin_ ?_ | refine sub_ ?_) | ((with_reducible refine' ld_ ?zF ?zv ?zl ?zb ?_); (case zl | zb => exact rfl); (case zF => assumption); (case zv => exact rfl)) | (with_reducible first | refine if_ ?_ | refine asg_ ?_) | ((with_reducible refine' aug_ ?zF ?zv ?zl ?zb ?_); (case zl | zb => exact rfl); (case zF => assumption); (case zv => exact rfl)) | with_reducible refine cmp_ ?_ | ((with_reducible show wpAny _ _ (isTrue (PySem.Expr.Name _ _) _ _) _ _ _); with_reducible refine pl_ ?_) | ((with_reducible show wpAny _ _ (isTrue (PySem.Expr.Call _ _ _ _) _ _) _ _ _); with_reducible refine pl_ ?_) | ((with_reducible refine Jr (by with_reducible assumption) ?_); intro mC FC EC QC tC) | (k_unfold; (try dsimp only)) | (k_end; wrow_close) | walk1 | (dsimp only; walk1) | (leave1; try dsimp only))
      k_dflt (refine' Ct.use (lev_at ⟨Kz.1, Kz.2.1⟩ hLev1) ?B1 ?F1 ?X1 ?N1 ?T1 rfl ?hd1 ?hu1 ?_)
      case B1 => k_asm
      case F1 => k_asm
      case X1 => k_asm
      case N1 => k_asm
      case T1 => k_asm
      case hd1 => first | exact roomA hd (by decide) | ktr_room
      case hu1 => first | exact unitA hu (by decide) | ktr_units
      intro v9 tl9 hA tkC hP
      refine LevP.casesOn hP ?_
      clear hP
      intro lv1 tL1 hlv1 hlv0
      clear hlv0
      rw [hx1, hy1, hexn_neg] at hlv1
      replace hlv1 := hlv1 hhex2
      subst hlv1
      intro F6 N6
      dsimp only [List.nil_append] at N6
      repeat' ((fail_if_success (with_reducible show wpAny _ _ (subscriptTail _ _ _ _) _ _ _)); (fail_if_success (with_reducible show wpAny _ _ (call (Value.ref _) _) _ _ _)); (fail_if_success (with_reducible show wpAny _ _ (binaryOp PySem.Operator.LShift _ _) _ _ _)); (fail_if_success (with_reducible show wpAny _ _ (inplaceOp _ _ _) _ _ _)); (fail_if_success (with_reducible show wpAny _ _ (binaryOp PySem.Operator.Mult (Value.str _ _) _) _ _ _)); first | ((with_reducible refine Ja ?_); (try dsimp only)) | ((with_reducible refine Jb ?_); (try dsimp only)) | (with_reducible first | refine Jc ?_ | refine Jd ?_ | refine Je ?_ | refine Jf ?_ | refine Jg ?_ | refine Jh ?_ | refine Ji ?_ | refine Jj ?_ | refine Jk ?_ | refine Jl ?_ | refine Jm ?_ | refine Jn ?_ | refine Jo ?_ | refine Jp ?_ | refine Jq ?_) | ((with_reducible refine' Js ?zF ?zN ?zl ?zb ?_); (case zl | zb => exact rfl); (case zF | zN => assumption); intro h' F' N'; (try k_sweep)) | (with_reducible first | refine Jt ?_ | refine ci_ ?_ | refine cs_ ?_ | refine bin_ ?_ | refine sub_ ?_) | ((with_reducible refine' ld_ ?zF ?zv ?zl ?zb ?_); (case zl | zb => exact rfl); (case zF => assumption); (case zv => exact rfl)) | (with_reducible first | refine if_ ?_ | refine asg_ ?_) | ((with_reducible refine' aug_ ?zF ?zv ?zl ?zb ?_); (case zl | zb => exact rfl); (case zF => assumption); (case zv => exact rfl)) | with_reducible refine cmp_ ?_ | ((with_reducible show wpAny _ _ (isTrue (PySem.Expr.Name _ _) _ _) _ _ _); with_reducible refine pl_ ?_) | ((with_reducible show wpAny _ _ (isTrue (PySem.Expr.Call _ _ _ _) _ _) _ _ _); with_reducible refine pl_ ?_) | ((with_reducible refine Jr (by with_reducible assumption) ?_); intro mC FC EC QC tC) | (k_unfold; (try dsimp only)) | (k_end; wrow_close) | walk1 | (dsimp only; walk1) | (leave1; try dsimp only))
      k_dflt (refine' Ct.useI (steps_ct x y _ _ _) ?B1 ?F1 ?X1 ?N1 ?T1 rfl ?hd1 ?hu1 ?_)
      case B1 => k_asm
      case F1 => k_asm
      case X1 => k_asm
      case N1 => k_asm
      case T1 => k_asm
      case hd1 => first | exact roomA hd (by decide) | ktr_room
      case hu1 => first | exact unitA hu (by decide) | ktr_units
      intro tS1 hA tkD F7 N7
      repeat' ((fail_if_success (with_reducible show wpAny _ _ (subscriptTail _ _ _ _) _ _ _)); (fail_if_success (with_reducible show wpAny _ _ (call (Value.ref _) _) _ _ _)); (fail_if_success (with_reducible show wpAny _ _ (binaryOp PySem.Operator.LShift _ _) _ _ _)); (fail_if_success (with_reducible show wpAny _ _ (inplaceOp _ _ _) _ _ _)); (fail_if_success (with_reducible show wpAny _ _ (binaryOp PySem.Operator.Mult (Value.str _ _) _) _ _ _)); first | ((with_reducible refine Ja ?_); (try dsimp only)) | ((with_reducible refine Jb ?_); (try dsimp only)) | (with_reducible first | refine Jc ?_ | refine Jd ?_ | refine Je ?_ | refine Jf ?_ | refine Jg ?_ | refine Jh ?_ | refine Ji ?_ | refine Jj ?_ | refine Jk ?_ | refine Jl ?_ | refine Jm ?_ | refine Jn ?_ | refine Jo ?_ | refine Jp ?_ | refine Jq ?_) | ((with_reducible refine' Js ?zF ?zN ?zl ?zb ?_); (case zl | zb => exact rfl); (case zF | zN => assumption); intro h' F' N'; (try k_sweep)) | (with_reducible first | refine Jt ?_ | refine ci_ ?_ | refine cs_ ?_ | refine bin_ ?_ | refine sub_ ?_) | ((with_reducible refine' ld_ ?zF ?zv ?zl ?zb ?_); (case zl | zb => exact rfl); (case zF => assumption); (case zv => exact rfl)) | (with_reducible first | refine if_ ?_ | refine asg_ ?_) | ((with_reducible refine' aug_ ?zF ?zv ?zl ?zb ?_); (case zl | zb => exact rfl); (case zF => assumption); (case zv => exact rfl)) | with_reducible refine cmp_ ?_ | ((with_reducible show wpAny _ _ (isTrue (PySem.Expr.Name _ _) _ _) _ _ _); with_reducible refine pl_ ?_) | ((with_reducible show wpAny _ _ (isTrue (PySem.Expr.Call _ _ _ _) _ _) _ _ _); with_reducible refine pl_ ?_) | ((with_reducible refine Jr (by with_reducible assumption) ?_); intro mC FC EC QC tC) | (k_unfold; (try dsimp only)) | (k_end; wrow_close) | walk1 | (dsimp only; walk1) | (leave1; try dsimp only))
      · first | contradiction | (exfalso; omega)
      k_dflt (refine' item_told (hx := hzv) (n0 := n0) ?N1 ?m1 hi ?_ ?s1 ?s2)
      case N1 => k_asm
      case m1 => k_mem
      case s1 => with_unfolding_all rfl
      case s2 => intro _; with_unfolding_all rfl
      repeat' ((fail_if_success (with_reducible show wpAny _ _ (subscriptTail _ _ _ _) _ _ _)); (fail_if_success (with_reducible show wpAny _ _ (call (Value.ref _) _) _ _ _)); (fail_if_success (with_reducible show wpAny _ _ (binaryOp PySem.Operator.LShift _ _) _ _ _)); (fail_if_success (with_reducible show wpAny _ _ (inplaceOp _ _ _) _ _ _)); (fail_if_success (with_reducible show wpAny _ _ (binaryOp PySem.Operator.Mult (Value.str _ _) _) _ _ _)); first | ((with_reducible refine Ja ?_); (try dsimp only)) | ((with_reducible refine Jb ?_); (try dsimp only)) | (with_reducible first | refine Jc ?_ | refine Jd ?_ | refine Je ?_ | refine Jf ?_ | refine Jg ?_ | refine Jh ?_ | refine Ji ?_ | refine Jj ?_ | refine Jk ?_ | refine Jl ?_ | refine Jm ?_ | refine Jn ?_ | refine Jo ?_ | refine Jp ?_ | refine Jq ?_) | ((with_reducible refine' Js ?zF ?zN ?zl ?zb ?_); (case zl | zb => exact rfl); (case zF | zN => assumption); intro h' F' N'; (try k_sweep)) | (with_reducible first | refine Jt ?_ | refine ci_ ?_ | refine cs_ ?_ | refine bin_ ?_ | refine sub_ ?_) | ((with_reducible refine' ld_ ?zF ?zv ?zl ?zb ?_); (case zl | zb => exact rfl); (case zF => assumption); (case zv => exact rfl)) | (with_reducible first | refine if_ ?_ | refine asg_ ?_) | ((with_reducible refine' aug_ ?zF ?zv ?zl ?zb ?_); (case zl | zb => exact rfl); (case zF => assumption); (case zv => exact rfl)) | with_reducible refine cmp_ ?_ | ((with_reducible show wpAny _ _ (isTrue (PySem.Expr.Name _ _) _ _) _ _ _); with_reducible refine pl_ ?_) | ((with_reducible show wpAny _ _ (isTrue (PySem.Expr.Call _ _ _ _) _ _) _ _ _); with_reducible refine pl_ ?_) | ((with_reducible refine Jr (by with_reducible assumption) ?_); intro mC FC EC QC tC) | (k_unfold; (try dsimp only)) | (k_end; wrow_close) | walk1 | (dsimp only; walk1) | (leave1; try dsimp only))
      k_dflt (refine' Ct.use (sent_ct z r _ _ _ hz9 hr) ?B1 ?F1 ?X1 ?N1 ?T1 rfl ?hd1 ?hu1 ?_)
      case B1 => k_asm
      case F1 => k_asm
      case X1 => k_asm
      case N1 => k_asm
      case T1 => k_asm
      case hd1 => first | exact roomA hd (by decide) | ktr_room
      case hu1 => first | exact unitA hu (by decide) | ktr_units
      intro v9 tl9 hA tkE hP
      refine TupP.casesOn hP ?_
      clear hP
      intro aS tS2 tS3 hlS F8 N8
      k_lt hlS
      dsimp only [List.cons_append, List.nil_append] at N8 ⊢
      refine SentF.casesOn (sent_facts z hr) ?_
      intro sB sL hsB hsL hsB4 hsL4 hsBL4 hx2 hy2 hLev2 hLev3
      repeat' ((fail_if_success (with_reducible show wpAny _ _ (subscriptTail _ _ _ _) _ _ _)); (fail_if_success (with_reducible show wpAny _ _ (call (Value.ref _) _) _ _ _)); (fail_if_success (with_reducible show wpAny _ _ (binaryOp PySem.Operator.LShift _ _) _ _ _)); (fail_if_success (with_reducible show wpAny _ _ (inplaceOp _ _ _) _ _ _)); (fail_if_success (with_reducible show wpAny _ _ (binaryOp PySem.Operator.Mult (Value.str _ _) _) _ _ _)); first | ((with_reducible refine Ja ?_); (try dsimp only)) | ((with_reducible refine Jb ?_); (try dsimp only)) | (with_reducible first | refine Jc ?_ | refine Jd ?_ | refine Je ?_ | refine Jf ?_ | refine Jg ?_ | refine Jh ?_ | refine Ji ?_ | refine Jj ?_ | refine Jk ?_ | refine Jl ?_ | refine Jm ?_ | refine Jn ?_ | refine Jo ?_ | refine Jp ?_ | refine Jq ?_) | ((with_reducible refine' Js ?zF ?zN ?zl ?zb ?_); (case zl | zb => exact rfl); (case zF | zN => assumption); intro h' F' N'; (try k_sweep)) | (with_reducible first | refine Jt ?_ | refine ci_ ?_ | refine cs_ ?_ | refine bin_ ?_ | refine sub_ ?_) | ((with_reducible refine' ld_ ?zF ?zv ?zl ?zb ?_); (case zl | zb => exact rfl); (case zF => assumption); (case zv => exact rfl)) | (with_reducible first | refine if_ ?_ | refine asg_ ?_) | ((with_reducible refine' aug_ ?zF ?zv ?zl ?zb ?_); (case zl | zb => exact rfl); (case zF => assumption); (case zv => exact rfl)) | with_reducible refine cmp_ ?_ | ((with_reducible show wpAny _ _ (isTrue (PySem.Expr.Name _ _) _ _) _ _ _); with_reducible refine pl_ ?_) | ((with_reducible show wpAny _ _ (isTrue (PySem.Expr.Call _ _ _ _) _ _) _ _ _); with_reducible refine pl_ ?_) | ((with_reducible refine Jr (by with_reducible assumption) ?_); intro mC FC EC QC tC) | (k_unfold; (try dsimp only)) | (k_end; wrow_close) | walk1 | (dsimp only; walk1) | (leave1; try dsimp only))
      with_reducible refine mulsp_told hsB hsB4 ?_
      intro tk4 kk4
      (try dsimp only)
      repeat' ((fail_if_success (with_reducible show wpAny _ _ (subscriptTail _ _ _ _) _ _ _)); (fail_if_success (with_reducible show wpAny _ _ (call (Value.ref _) _) _ _ _)); (fail_if_success (with_reducible show wpAny _ _ (binaryOp PySem.Operator.LShift _ _) _ _ _)); (fail_if_success (with_reducible show wpAny _ _ (inplaceOp _ _ _) _ _ _)); (fail_if_success (with_reducible show wpAny _ _ (binaryOp PySem.Operator.Mult (Value.str _ _) _) _ _ _)); first | ((with_reducible refine Ja ?_); (try dsimp only)) | ((with_reducible refine Jb ?_); (try dsimp only)) | (with_reducible first | refine Jc ?_ | refine Jd ?_ | refine Je ?_ | refine Jf ?_ | refine Jg ?_ | refine Jh ?_ | refine Ji ?_ | refine Jj ?_ | refine Jk ?_ | refine Jl ?_ | refine Jm ?_ | refine Jn ?_ | refine Jo ?_ | refine Jp ?_ | refine Jq ?_) | ((with_reducible refine' Js ?zF ?zN ?zl ?zb ?_); (case zl | zb => exact rfl); (case zF | zN => assumption); intro h' F' N'; (try k_sweep)) | (with_reducible first | refine Jt ?_ | refine ci_ ?_ | refine cs_ ?_ | refine bin_ ?_ | refine sub_ ?_) | ((with_reducible refine' ld_ ?zF ?zv ?zl ?zb ?_); (case zl | zb => exact rfl); (case zF => assumption); (case zv => exact rfl)) | (with_reducible first | refine if_ ?_ | refine asg_ ?_) | ((with_reducible refine' aug_ ?zF ?zv ?zl ?zb ?_); (case zl | zb => exact rfl); (case zF => assumption); (case zv => exact rfl)) | with_reducible refine cmp_ ?_ | ((with_reducible show wpAny _ _ (isTrue (PySem.Expr.Name _ _) _ _) _ _ _); with_reducible refine pl_ ?_) | ((with_reducible show wpAny _ _ (isTrue (PySem.Expr.Call _ _ _ _) _ _) _ _ _); with_reducible refine pl_ ?_) | ((with_reducible refine Jr (by with_reducible assumption) ?_); intro mC FC EC QC tC) | (k_unfold; (try dsimp only)) | (k_end; wrow_close) | walk1 | (dsimp only; walk1) | (leave1; try dsimp only))
      k_dflt (refine' item_told (hx := hzv) (n0 := n0) ?N1 ?m1 hi ?_ ?s1 ?s2)
      case N1 => k_asm
      case m1 => k_mem
      case s1 => with_unfolding_all rfl
      case s2 => intro _; with_unfolding_all rfl
      repeat' ((fail_if_success (with_reducible show wpAny _ _ (subscriptTail _ _ _ _) _ _ _)); (fail_if_success (with_reducible show wpAny _ _ (call (Value.ref _) _) _ _ _)); (fail_if_success (with_reducible show wpAny _ _ (binaryOp PySem.Operator.LShift _ _) _ _ _)); (fail_if_success (with_reducible show wpAny _ _ (inplaceOp _ _ _) _ _ _)); (fail_if_success (with_reducible show wpAny _ _ (binaryOp PySem.Operator.Mult (Value.str _ _) _) _ _ _)); first | ((with_reducible refine Ja ?_); (try dsimp only)) | ((with_reducible refine Jb ?_); (try dsimp only)) | (with_reducible first | refine Jc ?_ | refine Jd ?_ | refine Je ?_ | refine Jf ?_ | refine Jg ?_ | refine Jh ?_ | refine Ji ?_ | refine Jj ?_ | refine Jk ?_ | refine Jl ?_ | refine Jm ?_ | refine Jn ?_ | refine Jo ?_ | refine Jp ?_ | refine Jq ?_) | ((with_reducible refine' Js ?zF ?zN ?zl ?zb ?_); (case zl | zb => exact rfl); (case zF | zN => assumption); intro h' F' N'; (try k_sweep)) | (with_reducible first | refine Jt ?_ | refine ci_ ?_ | refine cs_ ?_ | refine bin_ ?_ | refine sub_ ?_) | ((with_reducible refine' ld_ ?zF ?zv ?zl ?zb ?_); (case zl | zb => exact rfl); (case zF => assumption); (case zv => exact rfl)) | (with_reducible first | refine if_ ?_ | refine asg_ ?_) | ((with_reducible refine' aug_ ?zF ?zv ?zl ?zb ?_); (case zl | zb => exact rfl); (case zF => assumption); (case zv => exact rfl)) | with_reducible refine cmp_ ?_ | ((with_reducible show wpAny _ _ (isTrue (PySem.Expr.Name _ _) _ _) _ _ _); with_reducible refine pl_ ?_) | ((with_reducible show wpAny _ _ (isTrue (PySem.Expr.Call _ _ _ _) _ _) _ _ _); with_reducible refine pl_ ?_) | ((with_reducible refine Jr (by with_reducible assumption) ?_); intro mC FC EC QC tC) | (k_unfold; (try dsimp only)) | (k_end; wrow_close) | walk1 | (dsimp only; walk1) | (leave1; try dsimp only))
      k_dflt (refine mulc_told (c := rowC z) hsL hsL4 ?_)
      intro tk5 kk5
      (try dsimp only)
      repeat' ((fail_if_success (with_reducible show wpAny _ _ (subscriptTail _ _ _ _) _ _ _)); (fail_if_success (with_reducible show wpAny _ _ (call (Value.ref _) _) _ _ _)); (fail_if_success (with_reducible show wpAny _ _ (binaryOp PySem.Operator.LShift _ _) _ _ _)); (fail_if_success (with_reducible show wpAny _ _ (inplaceOp _ _ _) _ _ _)); (fail_if_success (with_reducible show wpAny _ _ (binaryOp PySem.Operator.Mult (Value.str _ _) _) _ _ _)); first | ((with_reducible refine Ja ?_); (try dsimp only)) | ((with_reducible refine Jb ?_); (try dsimp only)) | (with_reducible first | refine Jc ?_ | refine Jd ?_ | refine Je ?_ | refine Jf ?_ | refine Jg ?_ | refine Jh ?_ | refine Ji ?_ | refine Jj ?_ | refine Jk ?_ | refine Jl ?_ | refine Jm ?_ | refine Jn ?_ | refine Jo ?_ | refine Jp ?_ | refine Jq ?_) | ((with_reducible refine' Js ?zF ?zN ?zl ?zb ?_); (case zl | zb => exact rfl); (case zF | zN => assumption); intro h' F' N'; (try k_sweep)) | (with_reducible first | refine Jt ?_ | refine ci_ ?_ | refine cs_ ?_ | refine bin_ ?_ | refine sub_ ?_) | ((with_reducible refine' ld_ ?zF ?zv ?zl ?zb ?_); (case zl | zb => exact rfl); (case zF => assumption); (case zv => exact rfl)) | (with_reducible first | refine if_ ?_ | refine asg_ ?_) | ((with_reducible refine' aug_ ?zF ?zv ?zl ?zb ?_); (case zl | zb => exact rfl); (case zF => assumption); (case zv => exact rfl)) | with_reducible refine cmp_ ?_ | ((with_reducible show wpAny _ _ (isTrue (PySem.Expr.Name _ _) _ _) _ _ _); with_reducible refine pl_ ?_) | ((with_reducible show wpAny _ _ (isTrue (PySem.Expr.Call _ _ _ _) _ _) _ _ _); with_reducible refine pl_ ?_) | ((with_reducible refine Jr (by with_reducible assumption) ?_); intro mC FC EC QC tC) | (k_unfold; (try dsimp only)) | (k_end; wrow_close) | walk1 | (dsimp only; walk1) | (leave1; try dsimp only))
      with_reducible refine addblk_told hsBL4 ?_
      intro tk6 kk6
      (try dsimp only)
      repeat' ((fail_if_success (with_reducible show wpAny _ _ (subscriptTail _ _ _ _) _ _ _)); (fail_if_success (with_reducible show wpAny _ _ (call (Value.ref _) _) _ _ _)); (fail_if_success (with_reducible show wpAny _ _ (binaryOp PySem.Operator.LShift _ _) _ _ _)); (fail_if_success (with_reducible show wpAny _ _ (inplaceOp _ _ _) _ _ _)); (fail_if_success (with_reducible show wpAny _ _ (binaryOp PySem.Operator.Mult (Value.str _ _) _) _ _ _)); first | ((with_reducible refine Ja ?_); (try dsimp only)) | ((with_reducible refine Jb ?_); (try dsimp only)) | (with_reducible first | refine Jc ?_ | refine Jd ?_ | refine Je ?_ | refine Jf ?_ | refine Jg ?_ | refine Jh ?_ | refine Ji ?_ | refine Jj ?_ | refine Jk ?_ | refine Jl ?_ | refine Jm ?_ | refine Jn ?_ | refine Jo ?_ | refine Jp ?_ | refine Jq ?_) | ((with_reducible refine' Js ?zF ?zN ?zl ?zb ?_); (case zl | zb => exact rfl); (case zF | zN => assumption); intro h' F' N'; (try k_sweep)) | (with_reducible first | refine Jt ?_ | refine ci_ ?_ | refine cs_ ?_ | refine bin_ ?_ | refine sub_ ?_) | ((with_reducible refine' ld_ ?zF ?zv ?zl ?zb ?_); (case zl | zb => exact rfl); (case zF => assumption); (case zv => exact rfl)) | (with_reducible first | refine if_ ?_ | refine asg_ ?_) | ((with_reducible refine' aug_ ?zF ?zv ?zl ?zb ?_); (case zl | zb => exact rfl); (case zF => assumption); (case zv => exact rfl)) | with_reducible refine cmp_ ?_ | ((with_reducible show wpAny _ _ (isTrue (PySem.Expr.Name _ _) _ _) _ _ _); with_reducible refine pl_ ?_) | ((with_reducible show wpAny _ _ (isTrue (PySem.Expr.Call _ _ _ _) _ _) _ _ _); with_reducible refine pl_ ?_) | ((with_reducible refine Jr (by with_reducible assumption) ?_); intro mC FC EC QC tC) | (k_unfold; (try dsimp only)) | (k_end; wrow_close) | walk1 | (dsimp only; walk1) | (leave1; try dsimp only))
      k_dflt (refine' item_told (hx := hzv) (n0 := n0) ?N1 ?m1 hi ?_ ?s1 ?s2)
      case N1 => k_asm
      case m1 => k_mem
      case s1 => with_unfolding_all rfl
      case s2 => intro _; with_unfolding_all rfl
      repeat' ((fail_if_success (with_reducible show wpAny _ _ (subscriptTail _ _ _ _) _ _ _)); (fail_if_success (with_reducible show wpAny _ _ (call (Value.ref _) _) _ _ _)); (fail_if_success (with_reducible show wpAny _ _ (binaryOp PySem.Operator.LShift _ _) _ _ _)); (fail_if_success (with_reducible show wpAny _ _ (inplaceOp _ _ _) _ _ _)); (fail_if_success (with_reducible show wpAny _ _ (binaryOp PySem.Operator.Mult (Value.str _ _) _) _ _ _)); first | ((with_reducible refine Ja ?_); (try dsimp only)) | ((with_reducible refine Jb ?_); (try dsimp only)) | (with_reducible first | refine Jc ?_ | refine Jd ?_ | refine Je ?_ | refine Jf ?_ | refine Jg ?_ | refine Jh ?_ | refine Ji ?_ | refine Jj ?_ | refine Jk ?_ | refine Jl ?_ | refine Jm ?_ | refine Jn ?_ | refine Jo ?_ | refine Jp ?_ | refine Jq ?_) | ((with_reducible refine' Js ?zF ?zN ?zl ?zb ?_); (case zl | zb => exact rfl); (case zF | zN => assumption); intro h' F' N'; (try k_sweep)) | (with_reducible first | refine Jt ?_ | refine ci_ ?_ | refine cs_ ?_ | refine bin_ ?_ | refine sub_ ?_) | ((with_reducible refine' ld_ ?zF ?zv ?zl ?zb ?_); (case zl | zb => exact rfl); (case zF => assumption); (case zv => exact rfl)) | (with_reducible first | refine if_ ?_ | refine asg_ ?_) | ((with_reducible refine' aug_ ?zF ?zv ?zl ?zb ?_); (case zl | zb => exact rfl); (case zF => assumption); (case zv => exact rfl)) | with_reducible refine cmp_ ?_ | ((with_reducible show wpAny _ _ (isTrue (PySem.Expr.Name _ _) _ _) _ _ _); with_reducible refine pl_ ?_) | ((with_reducible show wpAny _ _ (isTrue (PySem.Expr.Call _ _ _ _) _ _) _ _ _); with_reducible refine pl_ ?_) | ((with_reducible refine Jr (by with_reducible assumption) ?_); intro mC FC EC QC tC) | (k_unfold; (try dsimp only)) | (k_end; wrow_close) | walk1 | (dsimp only; walk1) | (leave1; try dsimp only))
      k_dflt (refine' Ct.use (faults_ct z _ _ hz9) ?B1 ?F1 ?X1 ?N1 ?T1 rfl ?hd1 ?hu1 ?_)
      case B1 => k_asm
      case F1 => k_asm
      case X1 => k_asm
      case N1 => k_asm
      case T1 => k_asm
      case hd1 => first | exact roomA hd (by decide) | ktr_room
      case hu1 => first | exact unitA hu (by decide) | ktr_units
      intro v9 tl9 hA tkG hP
      refine IntsP.casesOn hP ?_
      clear hP
      intro l9 fs9 hI9 hnB F2 N2
      dsimp only [List.cons_append, List.nil_append] at N2 ⊢
      repeat' ((fail_if_success (with_reducible show wpAny _ _ (subscriptTail _ _ _ _) _ _ _)); (fail_if_success (with_reducible show wpAny _ _ (call (Value.ref _) _) _ _ _)); (fail_if_success (with_reducible show wpAny _ _ (binaryOp PySem.Operator.LShift _ _) _ _ _)); (fail_if_success (with_reducible show wpAny _ _ (inplaceOp _ _ _) _ _ _)); (fail_if_success (with_reducible show wpAny _ _ (binaryOp PySem.Operator.Mult (Value.str _ _) _) _ _ _)); first | ((with_reducible refine Ja ?_); (try dsimp only)) | ((with_reducible refine Jb ?_); (try dsimp only)) | (with_reducible first | refine Jc ?_ | refine Jd ?_ | refine Je ?_ | refine Jf ?_ | refine Jg ?_ | refine Jh ?_ | refine Ji ?_ | refine Jj ?_ | refine Jk ?_ | refine Jl ?_ | refine Jm ?_ | refine Jn ?_ | refine Jo ?_ | refine Jp ?_ | refine Jq ?_) | ((with_reducible refine' Js ?zF ?zN ?zl ?zb ?_); (case zl | zb => exact rfl); (case zF | zN => assumption); intro h' F' N'; (try k_sweep)) | (with_reducible first | refine Jt ?_ | refine ci_ ?_ | refine cs_ ?_ | refine bin_ ?_ | refine sub_ ?_) | ((with_reducible refine' ld_ ?zF ?zv ?zl ?zb ?_); (case zl | zb => exact rfl); (case zF => assumption); (case zv => exact rfl)) | (with_reducible first | refine if_ ?_ | refine asg_ ?_) | ((with_reducible refine' aug_ ?zF ?zv ?zl ?zb ?_); (case zl | zb => exact rfl); (case zF => assumption); (case zv => exact rfl)) | with_reducible refine cmp_ ?_ | ((with_reducible show wpAny _ _ (isTrue (PySem.Expr.Name _ _) _ _) _ _ _); with_reducible refine pl_ ?_) | ((with_reducible show wpAny _ _ (isTrue (PySem.Expr.Call _ _ _ _) _ _) _ _ _); with_reducible refine pl_ ?_) | ((with_reducible refine Jr (by with_reducible assumption) ?_); intro mC FC EC QC tC) | (k_unfold; (try dsimp only)) | (k_end; wrow_close) | walk1 | (dsimp only; walk1) | (leave1; try dsimp only))
      k_dflt (refine' Ct.use (shift_ct l9 fs9 fs9.length (faultsL z) _ hI9 (faults_len z).2 (faults_len z).1) ?B1 ?F1 ?X1 ?N1 ?T1 rfl ?hd1 ?hu1 ?_)
      case B1 => k_asm
      case F1 => k_asm
      case X1 => k_asm
      case N1 => k_asm
      case T1 => k_asm
      case hd1 => first | exact roomA hd (by decide) | ktr_room
      case hu1 => first | exact unitA hu (by decide) | ktr_units
      intro v9 tl9 hA tkH hP
      refine TupP.casesOn hP ?_
      clear hP
      intro b9 s5 s6 hlB F3 N3
      dsimp only [List.cons_append, List.nil_append] at N3 ⊢
      rw [show (List.map dxF (faultsL z)).sum = bX z from rfl, show (List.map dyF (faultsL z)).sum = bY z from rfl] at N3
      replace N3 := news_drop2 N3
      k_lt hlB
      repeat' ((fail_if_success (with_reducible show wpAny _ _ (subscriptTail _ _ _ _) _ _ _)); (fail_if_success (with_reducible show wpAny _ _ (call (Value.ref _) _) _ _ _)); (fail_if_success (with_reducible show wpAny _ _ (binaryOp PySem.Operator.LShift _ _) _ _ _)); (fail_if_success (with_reducible show wpAny _ _ (inplaceOp _ _ _) _ _ _)); (fail_if_success (with_reducible show wpAny _ _ (binaryOp PySem.Operator.Mult (Value.str _ _) _) _ _ _)); first | ((with_reducible refine Ja ?_); (try dsimp only)) | ((with_reducible refine Jb ?_); (try dsimp only)) | (with_reducible first | refine Jc ?_ | refine Jd ?_ | refine Je ?_ | refine Jf ?_ | refine Jg ?_ | refine Jh ?_ | refine Ji ?_ | refine Jj ?_ | refine Jk ?_ | refine Jl ?_ | refine Jm ?_ | refine Jn ?_ | refine Jo ?_ | refine Jp ?_ | refine Jq ?_) | ((with_reducible refine' Js ?zF ?zN ?zl ?zb ?_); (case zl | zb => exact rfl); (case zF | zN => assumption); intro h' F' N'; (try k_sweep)) | (with_reducible first | refine Jt ?_ | refine ci_ ?_ | refine cs_ ?_ | refine bin_ ?_ | refine sub_ ?_) | ((with_reducible refine' ld_ ?zF ?zv ?zl ?zb ?_); (case zl | zb => exact rfl); (case zF => assumption); (case zv => exact rfl)) | (with_reducible first | refine if_ ?_ | refine asg_ ?_) | ((with_reducible refine' aug_ ?zF ?zv ?zl ?zb ?_); (case zl | zb => exact rfl); (case zF => assumption); (case zv => exact rfl)) | with_reducible refine cmp_ ?_ | ((with_reducible show wpAny _ _ (isTrue (PySem.Expr.Name _ _) _ _) _ _ _); with_reducible refine pl_ ?_) | ((with_reducible show wpAny _ _ (isTrue (PySem.Expr.Call _ _ _ _) _ _) _ _ _); with_reducible refine pl_ ?_) | ((with_reducible refine Jr (by with_reducible assumption) ?_); intro mC FC EC QC tC) | (k_unfold; (try dsimp only)) | (k_end; wrow_close) | walk1 | (dsimp only; walk1) | (leave1; try dsimp only))
      k_dflt (refine' item_told (hx := hlv) (n0 := 0) ?N1 ?m1 hi ?_ ?s1 ?s2)
      case N1 => k_asm
      case m1 => k_mem
      case s1 => with_unfolding_all rfl
      case s2 => intro _; with_unfolding_all rfl
      repeat' ((fail_if_success (with_reducible show wpAny _ _ (subscriptTail _ _ _ _) _ _ _)); (fail_if_success (with_reducible show wpAny _ _ (call (Value.ref _) _) _ _ _)); (fail_if_success (with_reducible show wpAny _ _ (binaryOp PySem.Operator.LShift _ _) _ _ _)); (fail_if_success (with_reducible show wpAny _ _ (inplaceOp _ _ _) _ _ _)); (fail_if_success (with_reducible show wpAny _ _ (binaryOp PySem.Operator.Mult (Value.str _ _) _) _ _ _)); first | ((with_reducible refine Ja ?_); (try dsimp only)) | ((with_reducible refine Jb ?_); (try dsimp only)) | (with_reducible first | refine Jc ?_ | refine Jd ?_ | refine Je ?_ | refine Jf ?_ | refine Jg ?_ | refine Jh ?_ | refine Ji ?_ | refine Jj ?_ | refine Jk ?_ | refine Jl ?_ | refine Jm ?_ | refine Jn ?_ | refine Jo ?_ | refine Jp ?_ | refine Jq ?_) | ((with_reducible refine' Js ?zF ?zN ?zl ?zb ?_); (case zl | zb => exact rfl); (case zF | zN => assumption); intro h' F' N'; (try k_sweep)) | (with_reducible first | refine Jt ?_ | refine ci_ ?_ | refine cs_ ?_ | refine bin_ ?_ | refine sub_ ?_) | ((with_reducible refine' ld_ ?zF ?zv ?zl ?zb ?_); (case zl | zb => exact rfl); (case zF => assumption); (case zv => exact rfl)) | (with_reducible first | refine if_ ?_ | refine asg_ ?_) | ((with_reducible refine' aug_ ?zF ?zv ?zl ?zb ?_); (case zl | zb => exact rfl); (case zF => assumption); (case zv => exact rfl)) | with_reducible refine cmp_ ?_ | ((with_reducible show wpAny _ _ (isTrue (PySem.Expr.Name _ _) _ _) _ _ _); with_reducible refine pl_ ?_) | ((with_reducible show wpAny _ _ (isTrue (PySem.Expr.Call _ _ _ _) _ _) _ _ _); with_reducible refine pl_ ?_) | ((with_reducible refine Jr (by with_reducible assumption) ?_); intro mC FC EC QC tC) | (k_unfold; (try dsimp only)) | (k_end; wrow_close) | walk1 | (dsimp only; walk1) | (leave1; try dsimp only))
      k_dflt (refine' Ct.use (lev_at ⟨Kz.1, Kz.2.1⟩ hLev2) ?B1 ?F1 ?X1 ?N1 ?T1 rfl ?hd1 ?hu1 ?_)
      case B1 => k_asm
      case F1 => k_asm
      case X1 => k_asm
      case N1 => k_asm
      case T1 => k_asm
      case hd1 => first | exact roomA hd (by decide) | ktr_room
      case hu1 => first | exact unitA hu (by decide) | ktr_units
      intro v9 tl9 hA tkI hP
      refine LevP.casesOn hP ?_
      clear hP
      intro lv2 tL2 hlv2 hlv0
      clear hlv0
      rw [hx2, hy2] at hlv2
      replace hlv2 := hlv2 (hexn_small (bxy_ok z))
      subst hlv2
      intro F6 N6
      dsimp only [List.nil_append] at N6
      repeat' ((fail_if_success (with_reducible show wpAny _ _ (subscriptTail _ _ _ _) _ _ _)); (fail_if_success (with_reducible show wpAny _ _ (call (Value.ref _) _) _ _ _)); (fail_if_success (with_reducible show wpAny _ _ (binaryOp PySem.Operator.LShift _ _) _ _ _)); (fail_if_success (with_reducible show wpAny _ _ (inplaceOp _ _ _) _ _ _)); (fail_if_success (with_reducible show wpAny _ _ (binaryOp PySem.Operator.Mult (Value.str _ _) _) _ _ _)); first | ((with_reducible refine Ja ?_); (try dsimp only)) | ((with_reducible refine Jb ?_); (try dsimp only)) | (with_reducible first | refine Jc ?_ | refine Jd ?_ | refine Je ?_ | refine Jf ?_ | refine Jg ?_ | refine Jh ?_ | refine Ji ?_ | refine Jj ?_ | refine Jk ?_ | refine Jl ?_ | refine Jm ?_ | refine Jn ?_ | refine Jo ?_ | refine Jp ?_ | refine Jq ?_) | ((with_reducible refine' Js ?zF ?zN ?zl ?zb ?_); (case zl | zb => exact rfl); (case zF | zN => assumption); intro h' F' N'; (try k_sweep)) | (with_reducible first | refine Jt ?_ | refine ci_ ?_ | refine cs_ ?_ | refine bin_ ?_ | refine sub_ ?_) | ((with_reducible refine' ld_ ?zF ?zv ?zl ?zb ?_); (case zl | zb => exact rfl); (case zF => assumption); (case zv => exact rfl)) | (with_reducible first | refine if_ ?_ | refine asg_ ?_) | ((with_reducible refine' aug_ ?zF ?zv ?zl ?zb ?_); (case zl | zb => exact rfl); (case zF => assumption); (case zv => exact rfl)) | with_reducible refine cmp_ ?_ | ((with_reducible show wpAny _ _ (isTrue (PySem.Expr.Name _ _) _ _) _ _ _); with_reducible refine pl_ ?_) | ((with_reducible show wpAny _ _ (isTrue (PySem.Expr.Call _ _ _ _) _ _) _ _ _); with_reducible refine pl_ ?_) | ((with_reducible refine Jr (by with_reducible assumption) ?_); intro mC FC EC QC tC) | (k_unfold; (try dsimp only)) | (k_end; wrow_close) | walk1 | (dsimp only; walk1) | (leave1; try dsimp only))
      k_dflt (refine' Ct.useI (steps_ct (bX z) (bY z) _ _ _) ?B1 ?F1 ?X1 ?N1 ?T1 rfl ?hd1 ?hu1 ?_)
      case B1 => k_asm
      case F1 => k_asm
      case X1 => k_asm
      case N1 => k_asm
      case T1 => k_asm
      case hd1 => first | exact roomA hd (by decide) | ktr_room
      case hu1 => first | exact unitA hu (by decide) | ktr_units
      intro tS4 hA tkJ F7 N7
      repeat' ((fail_if_success (with_reducible show wpAny _ _ (subscriptTail _ _ _ _) _ _ _)); (fail_if_success (with_reducible show wpAny _ _ (call (Value.ref _) _) _ _ _)); (fail_if_success (with_reducible show wpAny _ _ (binaryOp PySem.Operator.LShift _ _) _ _ _)); (fail_if_success (with_reducible show wpAny _ _ (inplaceOp _ _ _) _ _ _)); (fail_if_success (with_reducible show wpAny _ _ (binaryOp PySem.Operator.Mult (Value.str _ _) _) _ _ _)); first | ((with_reducible refine Ja ?_); (try dsimp only)) | ((with_reducible refine Jb ?_); (try dsimp only)) | (with_reducible first | refine Jc ?_ | refine Jd ?_ | refine Je ?_ | refine Jf ?_ | refine Jg ?_ | refine Jh ?_ | refine Ji ?_ | refine Jj ?_ | refine Jk ?_ | refine Jl ?_ | refine Jm ?_ | refine Jn ?_ | refine Jo ?_ | refine Jp ?_ | refine Jq ?_) | ((with_reducible refine' Js ?zF ?zN ?zl ?zb ?_); (case zl | zb => exact rfl); (case zF | zN => assumption); intro h' F' N'; (try k_sweep)) | (with_reducible first | refine Jt ?_ | refine ci_ ?_ | refine cs_ ?_ | refine bin_ ?_ | refine sub_ ?_) | ((with_reducible refine' ld_ ?zF ?zv ?zl ?zb ?_); (case zl | zb => exact rfl); (case zF => assumption); (case zv => exact rfl)) | (with_reducible first | refine if_ ?_ | refine asg_ ?_) | ((with_reducible refine' aug_ ?zF ?zv ?zl ?zb ?_); (case zl | zb => exact rfl); (case zF => assumption); (case zv => exact rfl)) | with_reducible refine cmp_ ?_ | ((with_reducible show wpAny _ _ (isTrue (PySem.Expr.Name _ _) _ _) _ _ _); with_reducible refine pl_ ?_) | ((with_reducible show wpAny _ _ (isTrue (PySem.Expr.Call _ _ _ _) _ _) _ _ _); with_reducible refine pl_ ?_) | ((with_reducible refine Jr (by with_reducible assumption) ?_); intro mC FC EC QC tC) | (k_unfold; (try dsimp only)) | (k_end; wrow_close) | walk1 | (dsimp only; walk1) | (leave1; try dsimp only))
      · first | contradiction | (exfalso; omega)
      k_dflt (refine' item_told (hx := hlv) (n0 := 0) ?N1 ?m1 hi ?_ ?s1 ?s2)
      case N1 => k_asm
      case m1 => k_mem
      case s1 => with_unfolding_all rfl
      case s2 => intro _; with_unfolding_all rfl
      repeat' ((fail_if_success (with_reducible show wpAny _ _ (subscriptTail _ _ _ _) _ _ _)); (fail_if_success (with_reducible show wpAny _ _ (call (Value.ref _) _) _ _ _)); (fail_if_success (with_reducible show wpAny _ _ (binaryOp PySem.Operator.LShift _ _) _ _ _)); (fail_if_success (with_reducible show wpAny _ _ (inplaceOp _ _ _) _ _ _)); (fail_if_success (with_reducible show wpAny _ _ (binaryOp PySem.Operator.Mult (Value.str _ _) _) _ _ _)); first | ((with_reducible refine Ja ?_); (try dsimp only)) | ((with_reducible refine Jb ?_); (try dsimp only)) | (with_reducible first | refine Jc ?_ | refine Jd ?_ | refine Je ?_ | refine Jf ?_ | refine Jg ?_ | refine Jh ?_ | refine Ji ?_ | refine Jj ?_ | refine Jk ?_ | refine Jl ?_ | refine Jm ?_ | refine Jn ?_ | refine Jo ?_ | refine Jp ?_ | refine Jq ?_) | ((with_reducible refine' Js ?zF ?zN ?zl ?zb ?_); (case zl | zb => exact rfl); (case zF | zN => assumption); intro h' F' N'; (try k_sweep)) | (with_reducible first | refine Jt ?_ | refine ci_ ?_ | refine cs_ ?_ | refine bin_ ?_ | refine sub_ ?_) | ((with_reducible refine' ld_ ?zF ?zv ?zl ?zb ?_); (case zl | zb => exact rfl); (case zF => assumption); (case zv => exact rfl)) | (with_reducible first | refine if_ ?_ | refine asg_ ?_) | ((with_reducible refine' aug_ ?zF ?zv ?zl ?zb ?_); (case zl | zb => exact rfl); (case zF => assumption); (case zv => exact rfl)) | with_reducible refine cmp_ ?_ | ((with_reducible show wpAny _ _ (isTrue (PySem.Expr.Name _ _) _ _) _ _ _); with_reducible refine pl_ ?_) | ((with_reducible show wpAny _ _ (isTrue (PySem.Expr.Call _ _ _ _) _ _) _ _ _); with_reducible refine pl_ ?_) | ((with_reducible refine Jr (by with_reducible assumption) ?_); intro mC FC EC QC tC) | (k_unfold; (try dsimp only)) | (k_end; wrow_close) | walk1 | (dsimp only; walk1) | (leave1; try dsimp only))
      k_dflt (refine' Ct.use (lev_at ⟨Kz.1, Kz.2.1⟩ hLev3) ?B1 ?F1 ?X1 ?N1 ?T1 rfl ?hd1 ?hu1 ?_)
      case B1 => k_asm
      case F1 => k_asm
      case X1 => k_asm
      case N1 => k_asm
      case T1 => k_asm
      case hd1 => first | exact roomA hd (by decide) | ktr_room
      case hu1 => first | exact unitA hu (by decide) | ktr_units
      intro v9 tl9 hA tkK hP
      refine LevP.casesOn hP ?_
      clear hP
      intro lv3 tL3 hlv3 hlv4 F6 N6
      rw [hx2, hy2] at hlv3 hlv4
      dsimp only [List.nil_append] at N6
      have ht := test_told (x := x) (y := y) (v := lv3) Kz.1 (tt1 hx2 hpm) (tt1 hy2 hqm) hiff hlv3 hlv4
      repeat' ((fail_if_success (with_reducible show wpAny _ _ (subscriptTail _ _ _ _) _ _ _)); (fail_if_success (with_reducible show wpAny _ _ (call (Value.ref _) _) _ _ _)); (fail_if_success (with_reducible show wpAny _ _ (binaryOp PySem.Operator.LShift _ _) _ _ _)); (fail_if_success (with_reducible show wpAny _ _ (inplaceOp _ _ _) _ _ _)); (fail_if_success (with_reducible show wpAny _ _ (binaryOp PySem.Operator.Mult (Value.str _ _) _) _ _ _)); first | ((with_reducible refine Ja ?_); (try dsimp only)) | ((with_reducible refine Jb ?_); (try dsimp only)) | (with_reducible first | refine Jc ?_ | refine Jd ?_ | refine Je ?_ | refine Jf ?_ | refine Jg ?_ | refine Jh ?_ | refine Ji ?_ | refine Jj ?_ | refine Jk ?_ | refine Jl ?_ | refine Jm ?_ | refine Jn ?_ | refine Jo ?_ | refine Jp ?_ | refine Jq ?_) | ((with_reducible refine' Js ?zF ?zN ?zl ?zb ?_); (case zl | zb => exact rfl); (case zF | zN => assumption); intro h' F' N'; (try k_sweep)) | (with_reducible first | refine Jt ?_ | refine ci_ ?_ | refine cs_ ?_ | refine bin_ ?_ | refine sub_ ?_) | ((with_reducible refine' ld_ ?zF ?zv ?zl ?zb ?_); (case zl | zb => exact rfl); (case zF => assumption); (case zv => exact rfl)) | (with_reducible first | refine if_ ?_ | refine asg_ ?_) | ((with_reducible refine' aug_ ?zF ?zv ?zl ?zb ?_); (case zl | zb => exact rfl); (case zF => assumption); (case zv => exact rfl)) | with_reducible refine cmp_ ?_ | ((with_reducible show wpAny _ _ (isTrue (PySem.Expr.Name _ _) _ _) _ _ _); with_reducible refine pl_ ?_) | ((with_reducible show wpAny _ _ (isTrue (PySem.Expr.Call _ _ _ _) _ _) _ _ _); with_reducible refine pl_ ?_) | ((with_reducible refine Jr (by with_reducible assumption) ?_); intro mC FC EC QC tC) | (k_unfold; (try dsimp only)) | (k_end; wrow_close) | walk1 | (dsimp only; walk1) | (leave1; try dsimp only))
      rename Fr _ _ _ _ => F9
      rename News _ _ _ _ => N9
      dsimp only [GrowPost]
      refine grow_end (fr_own [(Str.ofString "width", .int width t1), (Str.ofString "reach", .int r t2), (Str.ofString "numbers", .ref ln), (Str.ofString "size", .int (3 * r * (r + 1) + 1) t3), (Str.ofString "lots", .ref d), (Str.ofString "came", .ref came), (Str.ofString "told", .ref told), (Str.ofString "page", .str pg tpg), (Str.ofString "lines", .ref D9), (Str.ofString "read", .ref rd), (Str.ofString "flags", .int (flI (memT n1 n2 n3 (i + 1)) 0 37) _)] F9 (by exact ⟨rfl, rfl, rfl, rfl, rfl, rfl, rfl, rfl, rfl, rfl, rfl, trivial⟩)) N9 ?e1 ?e2 hI ?e3
      case e1 => exact fun p hp => .tail _ (.tail _ (.tail _ (.tail _ (.tail _ hp))))
      case e2 => exact .tail _ (.tail _ (.head _))
      case e3 =>
        exact FlgJ.mk _ tk9
      --] kt
    --] dn
end Mine
-- LW
theorem Mine.top_offLW : True := by
  w_top off
  exact trivial
namespace Mine
def GoodWH (c : ClaimW) (cl : Str → Option Addr) (mean : ExcName → Option Value) (args : List WData) (s₁ : Shared) (res : Result) (s' : Shared) : Prop :=
  (∃ v d as, res = .ok (.ret v) ∧ (∀ cls, c.raises args cls = false) ∧ ReadsW c.records cl s'.heap v d as ∧ c.post args d args = true ∧
      (c.unshared = true → as.Nodup ∧ ∀ a ∈ as, s₁.heap.get? a = none)) ∧
  (∀ b o, s₁.heap.get? b = some o → s'.heap.get? b = some o) ∧ s'.os = s₁.os ∧ AllBare s'.gens
/-- what stood ahead of a call: it stands, or it was one of the empty tables, and has grown -/
theorem tab_or {tabs : List (Addr × Addr)} {h h' : Heap} (hT : TabsAt tabs h) (keep : ∀ b o, (ghostOf h tabs).get? b = some o → h'.get? b = some o) (hg : GrownAll tabs h') {b : Addr} {o : Obj} (e : h.get? b = some o) :
    ((ghostOf h tabs).get? b = some o ∧ h'.get? b = some o) ∨ (isCodeTable h b ∧ o = tabObj #[] ∧ ∃ ps, h'.get? b = some (tabObj ps)) := by
  by_cases hb : ∃ q ∈ tabs, q.2 = b
  · obtain ⟨q, hq, rfl⟩ := hb
    obtain ⟨c, t⟩ := hT q hq
    exact .inr ⟨(c.tab t).isCodeTable, Option.some.inj (e.symm.trans t), hg.get q hq⟩
  · have g := ghost_ne e fun z => hb (List.mem_map.mp z)
    exact .inl ⟨g, keep b o g⟩
theorem post_gens {M : Model} {A : Around} {cd : Code} {s s₁ : Shared} {cw : ClaimW} {cl : Str → Option Addr} {mean : ExcName → Option Value} {args : List WData} {tabs : List (Addr × Addr)} (hT : TabsAt tabs s₁.heap)
    (h : codeAny M A cd (fun r s' => GoodWH cw cl mean args { s₁ with heap := ghostOf s₁.heap tabs } r s' ∧ GrownAll tabs s'.heap) s) : codeAny M A cd (GoodWG cw cl mean args s₁) s := by
  refine codeAny_mono h fun r s' z => ?_
  obtain ⟨⟨⟨v, d, as, a1, a2, a3, a4, a5⟩, keep, os, bare⟩, grown⟩ := z
  refine ⟨.inl ⟨v, d, as, a1, a2, a3, a4, fun u => ⟨(a5 u).1, fun a ha => Option.eq_none_iff_forall_ne_some.mpr fun o e => ?_⟩⟩, ⟨fun b o e => ?_, fun b o e => ?_⟩, os, bare⟩
  all_goals rcases tab_or hT keep grown e with ⟨g, k⟩ | ⟨c, n, ps, k⟩
  · have f := (a5 u).2 a ha
    rw [show (ghostOf s₁.heap tabs).get? a = some o from g] at f
    cases f
  · exact readsW_apart k rfl a3 ha
  · exact .inl k
  · subst n
    exact .inr (.inl ⟨c, rfl, #[], ps, rfl, by rwa [Array.empty_append]⟩)
  · exact ⟨o, k⟩
  · exact ⟨_, k⟩
theorem lt63 {k : Int} (h : k < 0 + ((Int.toNat (4 - 0) : Nat) : Int)) : k < 2 ^ 63 := Int.lt_trans h (by decide)
theorem lt4 {k : Int} (h : k < 0 + ((Int.toNat (4 - 0) : Nat) : Int)) : k < ((1 + 1 + 1 + 1 : Nat) : Int) := Int.lt_of_lt_of_le h (by decide)
def numK (js : List Int) (k' : Int) : Int := if k' < ((List.take 4 js).length : Int) then [34, 66, 198, 34040].getD k'.toNat 0 + ((List.take 4 js).getD k'.toNat 0).fmod 1000000 else [34, 66, 198, 34040].getD k'.toNat 0 + 0
theorem numK_ok (js : List Int) (k : Nat) (hk : k < 4) : 0 ≤ numK js k ∧ numK js k ≤ 2000000 := by
  have hs : 0 ≤ [34, 66, 198, 34040].getD k (0 : Int) ∧ [34, 66, 198, 34040].getD k (0 : Int) ≤ 34040 := by
    match k, hk with
    | 0, _ => decide
    | 1, _ => decide
    | 2, _ => decide
    | 3, _ => decide
  have hm : 0 ≤ ((List.take 4 js).getD k 0).fmod 1000000 ∧ ((List.take 4 js).getD k 0).fmod 1000000 < 1000000 := by
    rw [Int.fmod_eq_emod_of_nonneg _ (by decide)]; omega
  unfold numK
  rw [Int.toNat_natCast]
  split <;> omega
theorem reach_ok {z : Int} : z.fmod 3 + 1 = 1 ∨ z.fmod 3 + 1 = 2 ∨ z.fmod 3 + 1 = 3 := by
  rw [Int.fmod_eq_emod_of_nonneg _ (by decide)]; omega
theorem width_ok {z : Int} : 0 ≤ (z.fdiv 3).fmod 22 ∧ (z.fdiv 3).fmod 22 ≤ 21 := by
  rw [Int.fmod_eq_emod_of_nonneg _ (by decide)]; omega
theorem keep_turn {h₀ h₀' h : Heap} {L : Addr} {m : Str → Option Value} (T : KtsTurn [] h₀ h₀') (F : Fr h₀' L h m) : ∀ b o, h₀.get? b = some o → h.get? b = some o := fun b o e => F.keep b o (T.other b o e (fun q => nomatch q))
theorem CtH.use {w : World} {k : Nat} {f : Addr} {vs : List Value} {news : List (Addr × Obj)} {post : Value → List (Addr × Obj) → Prop} (C : CtH w k f vs news post)
    {p₉ : Program} {lo₉ : List Str} {mean : ExcName → Option Value} {mg mb : Str → Option Value} {dp un : Nat} {gd : Option (List Code)} {cn : Str} {cs : Scope} {a : Addr} {ccd : Value} {cl : List (Str × Addr)} {outer : List Env} {A₀ : Around} {base h₀ : Heap} {L : Addr} {m : Str → Option Value} {s : Shared} {Q E : Value → Shared → Prop}
    (B : Below A₀ base outer h₀) (F : Fr h₀ L s.heap m) (X : (hd.heap_1 w.params).In h₀) (N : News h₀ L s.heap news) (T : Top p₉ lo₉ mean mg mb h₀) (XB : (hd.heap_1 w.params).In base) (TB : Top p₉ lo₉ mean mg mb base) (D : KtsDicts (outer.filterMap (·.frame)) h₀) (hk : cs.kind = .function) (hdp : dp + k < recursionLimit) (hu : un + 10 * k < cLine) (GB : AllBare s.gens)
    (ret : ∀ r nx h' tk' gs h₀', post r nx → KtsTurn (outer.filterMap (·.frame)) h₀ h₀' → Fr h₀' L h' m → News h₀' L h' nx → AllBare gs → Q r { s with heap := h', toks := tk', gens := gs }) :
    wpAny (model PG w) (ktrTop dp un gd cn cs L a ccd cl outer) (call (.ref f) vs) Q E s :=
  C p₉ lo₉ mean mg mb dp un gd cn cs a ccd cl outer A₀ base h₀ L m s.heap s.gens s.drawn s.toks s.os Q E B F X N T XB TB D hk hdp hu GB fun r nx h' tk' gs h₀' KT F' N' _ _ _ _ G' p => ret r nx h' tk' gs h₀' p KT F' N' G'
theorem law_pick {a b c d e f x y : Addr × Obj} : ∀ p ∈ [a, x, y], p ∈ a :: b :: c :: d :: e :: f :: x :: y :: [] := fun p hp => by
  simp only [List.mem_cons, List.not_mem_nil, or_false] at hp ⊢
  rcases hp with h | h | h <;> simp [h]
theorem law_ok : PySem.Challenge.rw_ty0044_01.Holds := hd (by
  k_fill
  intro w s₀ s₁ mg mb G Y fa o pm cd doc dV kV ho hd hcd hD hmg hg args vals as hpre hlay hrd hwl hlo
  have KX := km_in_of Y
  have hT8 := km_tabs_of Y
  have X := (Ground.X G).1
  have V := (Ground.X G).2
  refine Ground.open G ?_
  intro T B D TE TW
  try (refine guard_noD D (by decide +kernel) ?_; clear D)
  have hT9 : TabsAt ([(173, 169), (180, 176)] : List (Addr × Addr)) s₁.heap := List.forall_mem_cons.mpr ⟨⟨codeHd_of_K (c := 173) (P := 169) KX (by kernel_rfl), hT8 169 (.head _)⟩, List.forall_mem_cons.mpr ⟨⟨codeHd_of_K (c := 180) (P := 176) KX (by kernel_rfl), hT8 176 (.tail _ (.head _))⟩, fun _ h => nomatch h⟩⟩
  clear hmg
  wrow_args hpre hlay hrd hwl hlo
  all_goals (first | refine callC_kw (enter_call ?_) | refine enter_call ?_)
  w_top on
  refine post_gens hT9 ?_
  w_call any ho hd hcd hD T F
  clear hd
  kn_ghosts F T
  k_drop
  clear T V B TE TW hT8 G Y ho hD
  (try k_fold)
  repeat' ((fail_if_success (with_reducible show wpAny _ _ (call (Value.ref 271) _) _ _ _)); first | (((with_reducible show wpAny _ _ (subscriptTail _ _ (Value.ref _) (Value.int _ _)) _ _ _); (rename (_ < 0 + ((Int.toNat _ : Nat) : Int)) => hk9); (with_reducible refine item_list_ints (by k_dflt first | assumption | exact News.isList (by k_dflt assumption) (by k_dflt (repeat (first | exact List.Mem.head _ | refine List.Mem.tail _ ?_)))) (by k_dflt first | with_reducible assumption | exact .cons _ _ (.cons _ _ (.cons _ _ (.cons _ _ .nil)))) (by with_reducible assumption) (by k_dflt first | exact lt4 hk9 | omega | (simp_all; done)) (lt63 hk9) ?_); intro _)) | (k_unfold; (try dsimp only)) | walk1)
  rename (IntsAre _ (List.drop 1 _)) => hI9
  obtain ⟨v1, v2, v3⟩ := ints_three (x := numK _ 1) (y := numK _ 2) (z := numK _ 3) hI9
  rename News _ _ _ _ => N9
  rename Fr _ _ _ _ => F9
  have N8 := fun p hp => N9 p (law_pick p hp)
  (first
  | (rename (_ < _ ∧ _ < _ ∧ _ < _ ∧ _ < _ ∧ _ < _ ∧ _ < _ ∧ _ < _ ∧ True) => l8; have l9 := l8.2.2.2.2.2.2.1)
  | (rename (_ < _ ∧ _ < _ ∧ _ < _ ∧ _ < _ ∧ _ < _ ∧ _ < _ ∧ _ < _) => l8; have l9 := l8.2.2.2.2.2.2))
  k_dflt (refine' CtH.use (holds_ct (numK _ 1) (numK _ 2) (numK _ 3) _ _ _ v1 v2 v3 v1 _ _ 0 #[] #[] trivial trivial (numK_ok _ 1 (by decide)) (numK_ok _ 2 (by decide)) (numK_ok _ 3 (by decide)) reach_ok width_ok l9) ?B1 F9 ?X1 N8 ?T1 ?XB1 ?TB1 ?D1 rfl ?hd1 ?hu1 (AllBare.of_eq hg) ?_)
  case B1 => k_asm
  case X1 => k_asm
  case T1 => k_asm
  case XB1 => k_asm
  case TB1 => k_asm
  case D1 => exact fun b hb => nomatch hb
  case hd1 => ktr_room
  case hu1 => ktr_units
  rintro v nx h' tk' gs h₀' ⟨rfl, pl1, pl2, -, -, rfl⟩ KT F8 N7 GB
  refine ⟨⟨⟨_, .bool true, [], rfl, fun cls => rfl, .bool true, ?_, unshared_nil⟩, keep_turn KT F8, rfl, GB⟩, GrownAt.of N7 (.head _), GrownAt.of N7 (.tail _ (.head _)), trivial⟩
  exact postW_of (by wrow_shape) (by wtm_val) (by str_meet; first | done | w_fin))
end Mine
end
theorem PySem.Challenge.cw_ty0044_01_holds : PySem.Challenge.rw_ty0044_01.Holds :=
  Mine.law_ok
