import PyProof.Rows.All
import Wide.All
import OpenK.AllK
import Wide.FinOn
import PySem.Challenge.RW_pe0102_01
set_option Elab.async false
section -- Hd
open PySem PySem.W PyProof.Rows
namespace Mine
set_option maxRecDepth 100000 in
set_option maxHeartbeats 8000000 in
open_top hd for PySem.Challenge.rw_pe0102_01
end Mine
end
section -- Base
open PySem PySem.W PyProof.Rows
namespace Mine

def Runs (w : World) (mean : ExcName → Option Value) (mg mb : Str → Option Value) (f : Addr) (vs : List Value) (news : List (Addr × Obj)) (dd uu : Nat) (Post : List (Addr × Obj) → Value → Prop) : Prop :=
  ∀ (dp un : Nat) (gd : Option (List Code)) (cn : Str) (cs : Scope) (a : Addr) (ccd : Value) (cl : List (Str × Addr)) (outer : List Env) (A₀ : Around) (base h₀ : Heap) (L : Addr) (m : Str → Option Value) (s : Shared)
    (Q E : Value → Shared → Prop),
    Below A₀ base outer h₀ → Fr h₀ L s.heap m → (hd.heap_39 w.params).In h₀ → News h₀ L s.heap news → Top hd.view_39 (looseW hd.view_39 []) mean mg mb h₀ → cs.kind = .function → dp + dd < recursionLimit → un + uu < cLine →
    (∀ r tl h' tk', Fr h₀ L h' m → News h₀ L h' (tl ++ news) → (∀ q ∈ news, ∀ p ∈ tl, q.1 < p.1) → Post tl r → Q r { s with heap := h', toks := tk' }) →
    wpAny (model PySem.Challenge.rw_pe0102_01.row.toRowW.prog w) (ktrTop dp un gd cn cs L a ccd cl outer) (call (.ref f) vs) Q E s

theorem Runs.use {w : World} {mean : ExcName → Option Value} {mg mb : Str → Option Value} {f : Addr} {vs : List Value} {news : List (Addr × Obj)} {dd uu : Nat} {Post : List (Addr × Obj) → Value → Prop} (R : Runs w mean mg mb f vs news dd uu Post)
    {dp un : Nat} {gd : Option (List Code)} {cn : Str} {cs : Scope} {a : Addr} {ccd : Value} {cl : List (Str × Addr)} {outer : List Env} {A₀ : Around} {base h₀ : Heap} {L : Addr} {m : Str → Option Value} {s : Shared}
    {Q E : Value → Shared → Prop} (B : Below A₀ base outer h₀) (F : Fr h₀ L s.heap m) (X : (hd.heap_39 w.params).In h₀) (N : News h₀ L s.heap news) (T : Top hd.view_39 (looseW hd.view_39 []) mean mg mb h₀) (hk : cs.kind = .function)
    (h1 : dp + dd < recursionLimit) (h2 : un + uu < cLine)
    (hret : ∀ r tl h' tk', Fr h₀ L h' m → News h₀ L h' (tl ++ news) → (∀ q ∈ news, ∀ p ∈ tl, q.1 < p.1) → Post tl r → Q r { s with heap := h', toks := tk' }) :
    wpAny (model PySem.Challenge.rw_pe0102_01.row.toRowW.prog w) (ktrTop dp un gd cn cs L a ccd cl outer) (call (.ref f) vs) Q E s := R _ _ _ _ _ _ _ _ _ _ _ _ _ _ _ _ _ B F X N T hk h1 h2 hret

def blk (p : Int × Int) : Dat := Dat.tuple [Dat.int p.1, Dat.int p.2]
def IsBlocks (l : List (Int × Int)) (nw : List (Addr × Obj)) (r : Value) : Prop := ∃ a n vs, r = .ref a ∧ (a, listOf (List.toArray vs) n) ∈ nw ∧ DatAll nw vs (l.map blk)

theorem IsBlocks.mono {l : List (Int × Int)} {nw nw' : List (Addr × Obj)} {r : Value} (h : IsBlocks l nw r) (hs : ∀ p ∈ nw, p ∈ nw') : IsBlocks l nw' r := by
  obtain ⟨a, n, vs, h1, h2, h3⟩ := h
  exact ⟨a, n, vs, h1, hs _ h2, h3.mono hs⟩

noncomputable def dueL (a b : Int) : Nat → Int → List (Int × Int)
  | 0, node => if a ≤ node ∧ node + 1 ≤ b then [(node, 1)] else []
  | k + 1, node => if a ≤ node ∧ node + 2 ^ (k + 1) ≤ b then [(node, 2 ^ (k + 1))] else if node + 2 ^ (k + 1) ≤ a ∨ b ≤ node then [] else dueL a b k node ++ dueL a b k (node + 2 ^ k)

theorem half_pow (k : Nat) : Int.fdiv (2 ^ (k + 1)) 2 = 2 ^ k := by
  rw [Int.fdiv_eq_ediv_of_nonneg _ (by decide), Int.pow_succ, Int.mul_ediv_cancel _ (by decide)]

section
variable {a : Addr} {o : Obj} {news tl tl' : List (Addr × Obj)}
theorem ord_nil : ∀ q ∈ news, ∀ p ∈ ([] : List (Addr × Obj)), q.1 < p.1 := fun _ _ _ h => nomatch h
theorem ord_cons (h : ∀ q ∈ news, q.1 < a) (k : ∀ q ∈ news, ∀ p ∈ tl, q.1 < p.1) : ∀ q ∈ news, ∀ p ∈ (a, o) :: tl, q.1 < p.1 := by
  intro q hq p hp
  rcases List.mem_cons.mp hp with rfl | hp
  · exact h q hq
  · exact k q hq p hp
theorem ord_app (h : ∀ q ∈ news, ∀ p ∈ tl, q.1 < p.1) (k : ∀ q ∈ news, ∀ p ∈ tl', q.1 < p.1) : ∀ q ∈ news, ∀ p ∈ tl ++ tl', q.1 < p.1 := by
  intro q hq p hp
  rcases List.mem_append.mp hp with hp | hp
  · exact h q hq p hp
  · exact k q hq p hp
theorem ord_sub (h : ∀ q ∈ tl ++ news, ∀ p ∈ tl', q.1 < p.1) : ∀ q ∈ news, ∀ p ∈ tl', q.1 < p.1 := fun q hq => h q (List.mem_append.mpr (.inr hq))
theorem lt_of_all (h : AllLt a news) : ∀ q ∈ news, q.1 < a := ktn_ltOf h
end
end Mine
end
section -- PM
open PySem PySem.W PyProof.Rows
namespace Mine
def lowK (f : Int) : Nat := if f % 32 = 0 then 5 else if f % 16 = 0 then 4 else if f % 8 = 0 then 3 else if f % 4 = 0 then 2 else if f % 2 = 0 then 1 else 0
noncomputable def fitK (f e : Int) : Nat → Nat
  | 0 => 0
  | k + 1 => if e < f + 2 ^ (k + 1) then fitK f e k else k + 1
noncomputable def stepK (f e : Int) : Nat := fitK f e (lowK f)
noncomputable def blkL (e : Int) : Nat → Int → List (Int × Int)
  | 0, _ => []
  | n + 1, f => if f < e then (f, 2 ^ stepK f e) :: blkL e n (f + 2 ^ stepK f e) else []
theorem low_eq : ∀ i : Fin 64, Builtin.bitAnd (Builtin.bitOr (i.val : Int) 32) (-(Builtin.bitOr (i.val : Int) 32)) = 2 ^ lowK (i.val : Int) := by decide +kernel
theorem low_int {f : Int} (h0 : 0 ≤ f) (h1 : f < 64) : Builtin.bitAnd (Builtin.bitOr f 32) (-(Builtin.bitOr f 32)) = 2 ^ lowK f := by
  have := low_eq ⟨f.toNat, by omega⟩
  simpa [Int.toNat_of_nonneg h0] using this
theorem fit_zero (f e : Int) : fitK f e 0 = 0 := rfl
theorem fit_go {f e : Int} {k : Nat} (h : e < f + 2 ^ (k + 1)) : fitK f e (k + 1) = fitK f e k := by rw [fitK, if_pos h]
theorem fit_stop {f e : Int} {k : Nat} (h : ¬ e < f + 2 ^ k) : fitK f e k = k := by
  cases k with
  | zero => rfl
  | succ k => rw [fitK, if_neg h]
theorem low_le (f : Int) : lowK f ≤ 5 := by unfold lowK; split <;> (try split) <;> (try split) <;> (try split) <;> (try split) <;> omega
theorem fit_le (f e : Int) (k : Nat) : fitK f e k ≤ k := by
  induction k with
  | zero => exact Nat.le_refl _
  | succ k ih => rw [fitK]; split <;> omega
theorem pow_pos' (k : Nat) : (0 : Int) < 2 ^ k := Int.pow_pos (by decide)
theorem shift_one (k : Nat) : Int.fdiv (2 ^ (k + 1)) (2 ^ Int.toNat 1) = 2 ^ k := by
  rw [show (2 : Int) ^ Int.toNat 1 = 2 from rfl]; exact half_pow k
theorem blk_stop {e f : Int} (n : Nat) (h : ¬ f < e) : blkL e n f = [] := by
  cases n with
  | zero => rfl
  | succ n => rw [blkL, if_neg h]
theorem blk_go {e f : Int} {n : Nat} (h : f < e) : blkL e (n + 1) f = (f, 2 ^ stepK f e) :: blkL e n (f + 2 ^ stepK f e) := by rw [blkL, if_pos h]
theorem blk_len (e : Int) (n : Nat) : ∀ f, (blkL e n f).length ≤ n := by
  induction n with
  | zero => intro f; exact Nat.le_refl _
  | succ n ih =>
    intro f
    rw [blkL]
    split
    · have := ih (f + 2 ^ stepK f e)
      simp only [List.length_cons]; omega
    · simp
def piece (f w : Int) : Str := if Builtin.bitAnd f w = 0 then Str.ofString "/a" else Str.ofString "/ab"
def wid (n : Nat) : Int := Int.fdiv 16 (2 ^ n)
noncomputable def pth (f : Int) : Nat → Str
  | 0 => Str.ofString ""
  | n + 1 => pth f n ++ piece f (wid n)
theorem wid_next : ∀ n : Fin 6, Int.fdiv (wid n.val) (2 ^ Int.toNat 1) = wid (n.val + 1) := by decide +kernel
theorem wid_ge : ∀ n : Fin 6, ∀ k : Fin 6, (wid n.val ≥ 2 ^ k.val) ↔ n.val + k.val ≤ 4 := by decide +kernel
theorem piece_len (f w : Int) : (piece f w).length ≤ 3 := by unfold piece; split <;> decide
theorem pth_len (f : Int) (n : Nat) : (pth f n).length ≤ 3 * n := by
  induction n with
  | zero => rw [pth]; decide
  | succ n ih => rw [pth, Str.length_append]; have := piece_len f (wid n); omega
def hostOf (f : Int) : Str := if Builtin.bitAnd f 32 = 0 then Str.ofString "h" else Str.ofString "g"
noncomputable def adrD (f : Int) (k : Nat) (tail : Str) : Dat := Dat.tuple [Dat.str (hostOf f), Dat.str (pth f (5 - k) ++ tail)]
def lvl (z : Int) : Nat := if z = 1 then 0 else if z = 2 then 1 else if z = 4 then 2 else if z = 8 then 3 else if z = 16 then 4 else 5
noncomputable def adrB (tail : Str) (p : Int × Int) : Dat := adrD p.1 (lvl p.2) tail
theorem lvl_eq : ∀ k : Fin 6, lvl (2 ^ k.val) = k.val := by decide +kernel
theorem lvl_pow {k : Nat} (h : k ≤ 5) : lvl (2 ^ k) = k := lvl_eq ⟨k, by omega⟩
def tailOf (tot : Int) : Str := if Int.fmod tot 2 = 1 then Str.ofString "/" else Str.ofString ""
def subS (sa pa sb pb : Str) : Bool := if sa = sb ∧ pa = pb then true else if (sa != sb) = true then false else if (Txt.slice pa (some (-1)) none != Str.ofString "/") = true then Txt.startswith pb (pa ++ Str.ofString "/") else Txt.startswith pb pa
/-- of two blocks, one near and one far, what the law's inner turn appends -/
noncomputable def meet (tail : Str) (a b : Int × Int) : List (Int × Int) :=
  if subS (hostOf a.1) (pth a.1 (5 - lvl a.2) ++ Str.ofString "") (hostOf b.1) (pth b.1 (5 - lvl b.2) ++ tail) = true then [b]
  else if subS (hostOf b.1) (pth b.1 (5 - lvl b.2) ++ tail) (hostOf a.1) (pth a.1 (5 - lvl a.2) ++ Str.ofString "") = true then [a] else []
theorem ok_append {x y : Str} (h1 : PyData.strOk x = true) (h2 : PyData.strOk y = true) : PyData.strOk (x ++ y) = true := by
  unfold PyData.strOk at *
  rw [Str.cps_append, Array.all_append, h1, h2]; rfl
theorem ok_piece (f w : Int) : PyData.strOk (piece f w) = true := by unfold piece; split <;> decide +kernel
theorem ok_host (f : Int) : PyData.strOk (hostOf f) = true := by unfold hostOf; split <;> decide +kernel
theorem ok_pth (f : Int) (n : Nat) : PyData.strOk (pth f n) = true := by
  induction n with
  | zero => rw [pth]; decide +kernel
  | succ n ih => rw [pth]; exact ok_append ih (ok_piece _ _)
theorem ok_tail (t : Int) : PyData.strOk (tailOf t) = true := by unfold tailOf; split <;> decide +kernel
theorem len_tail (t : Int) : (tailOf t).length ≤ 5 := by unfold tailOf; split <;> decide
theorem len_adr (f : Int) (k : Nat) {tail : Str} (h : tail.length ≤ 5) : (pth f (5 - k) ++ tail).length ≤ 32 := by
  rw [Str.length_append]; have := pth_len f (5 - k); omega
theorem meet_len (tail : Str) (a b : Int × Int) : (meet tail a b).length ≤ 1 := by unfold meet; split <;> (try split) <;> simp
theorem flat_len {α β : Type} (f : α → List β) (c : Nat) (h : ∀ a, (f a).length ≤ c) (l : List α) : (l.flatMap f).length ≤ c * l.length := by
  induction l with
  | nil => simp
  | cons a l ih =>
    rw [List.flatMap_cons, List.length_append, List.length_cons, Nat.mul_succ]
    have := h a
    omega
/-- what is_suburi says of a near block and an asked number -/
noncomputable def cov (x : Int) (bh : Str) (p : Int × Int) : Bool := subS (hostOf p.1) (pth p.1 (5 - lvl p.2) ++ Str.ofString "") (hostOf x) (pth x (5 - 0) ++ bh)
def inB (x : Int) (p : Int × Int) : Bool := decide (p.1 ≤ x) && decide (x < p.1 + p.2)
theorem wid_nx {n : Nat} (h : n ≤ 5) : Int.fdiv (wid n) (2 ^ Int.toNat 1) = wid (n + 1) := wid_next ⟨n, by omega⟩
theorem wid_test {n k : Nat} (hn : n ≤ 5) (hk : k ≤ 5) : ((2 : Int) ^ k ≤ wid n) ↔ n + k ≤ 4 := wid_ge ⟨n, by omega⟩ ⟨k, by omega⟩
theorem pth_a {f : Int} {n : Nat} (h : Builtin.bitAnd f (wid n) = 0) : pth f n ++ Str.ofString "/a" = pth f (n + 1) := by rw [pth, piece, if_pos h]
theorem pth_ab {f : Int} {n : Nat} (h : Builtin.bitAnd f (wid n) ≠ 0) : pth f n ++ Str.ofString "/ab" = pth f (n + 1) := by rw [pth, piece, if_neg h]
theorem upd_swap2 {m : Str → Option Value} {x y : Str} (hy : x ≠ y) (a b c d : Option Value) :
    (fun z => if z = x then a else if z = y then b else if z = x then c else if z = y then d else m z) = (fun z => if z = x then a else if z = y then b else m z) := by
  funext z
  by_cases e : z = x
  · rw [if_pos e, if_pos e]
  · by_cases e2 : z = y
    · simp only [if_neg e, if_pos e2]
    · simp only [if_neg e, if_neg e2]
theorem upd_back1 {m : Str → Option Value} {x y : Str} (hy : x ≠ y) (a b d : Option Value) :
    (fun z => if z = x then a else if z = y then b else if z = x then d else m z) = (fun z => if z = y then b else if z = x then a else m z) := by
  funext z
  by_cases e : z = x
  · subst e; rw [if_pos rfl, if_neg hy, if_pos rfl]
  · simp only [if_neg e]
theorem upd_self {m : Str → Option Value} {x : Str} {v : Option Value} (h : m x = v) : (fun z => if z = x then v else m z) = m := by
  funext z
  by_cases e : z = x
  · rw [if_pos e, e, h]
  · rw [if_neg e]
theorem frMore {h₀ h : Heap} {L : Addr} {m : Str → Option Value} (F : Fr h₀ L h m) (x : Str) (v : Option Value) (e : m x = v) : Fr h₀ L h (fun z => if z = x then v else m z) := (upd_self e).symm ▸ F
theorem upd_twice {m : Str → Option Value} (x : Str) (a b : Option Value) : (fun z => if z = x then a else if z = x then b else m z) = (fun z => if z = x then a else m z) := by
  funext z
  by_cases e : z = x
  · rw [if_pos e, if_pos e]
  · simp only [if_neg e]
theorem upd_back {m : Str → Option Value} {x y u : Str} (hy : x ≠ y) (hu : x ≠ u) (a b c d : Option Value) :
    (fun z => if z = x then a else if z = y then b else if z = u then c else if z = x then d else m z) = (fun z => if z = y then b else if z = u then c else if z = x then a else m z) := by
  funext z
  by_cases e : z = x
  · subst e; rw [if_pos rfl, if_neg hy, if_neg hu, if_pos rfl]
  · simp only [if_neg e]
theorem look_ne {z a : Str} {v : Value} {l : List (Str × Value)} (h : z ≠ a) : List.lookup z ((a, v) :: l) = List.lookup z l := by
  rw [List.lookup_cons, show (z == a) = false from by simpa using h]
end Mine
end
section -- Has
set_option maxRecDepth 100000
namespace Mine
open PySem
open Sem (wp)
theorem lk_getitem : typeLookup (.type "str") "__getitem__" = pure (some (.builtin "str.__getitem__")) := by rw [typeLookup_type, builtinLookup_eq_fast]; kernel_rfl
theorem ty_getitem : typeOf (.builtin "str.__getitem__") = pure (.type "wrapper_descriptor") := by kernel_rfl
theorem slot_wd_get : Slot "wrapper_descriptor" "__get__" "wrapper_descriptor.__get__" :=
  .of (owner := "wrapper_descriptor") (n := "__get__") (by rw [typeLookup_type, builtinLookup_eq_fast]; kernel_rfl) (by decide +kernel) (by decide +kernel) (by decide +kernel)
    (by first | exact .inl (by decide +kernel) | exact .inr (by decide +kernel)) (by rw [isSubtype_type]; kernel_rfl)
theorem wd_set : typeLookup (.type "wrapper_descriptor") "__set__" = pure none := by rw [typeLookup_type, builtinLookup_eq_fast]; kernel_rfl
theorem wd_del : typeLookup (.type "wrapper_descriptor") "__delete__" = pure none := by rw [typeLookup_type, builtinLookup_eq_fast]; kernel_rfl
theorem entry_wd_get : entryFor table "wrapper_descriptor.__get__" = some Builtin.«wrapper_descriptor.__get__» := entryFor_of_tree (by kernel_rfl)
theorem args_wd_get (a b c : Value) : argsOk "wrapper_descriptor.__get__" ⟨[a, b, c], []⟩ := by unfold argsOk; kernel_rfl
theorem owner_getitem : (".".intercalate ("str.__getitem__".cutAt '.').dropLast) = "str" := by
  have e0 : "str.__getitem__".cutAt '.' = ["str", "__getitem__"] := by first | rfl | decide +kernel
  rw [e0]; decide +kernel
theorem sub_owner : isSubtype (.type "str") (.type (".".intercalate ("str.__getitem__".cutAt '.').dropLast)) = pure true := by
  rw [owner_getitem, isSubtype_type]; kernel_rfl
theorem entry_hasattr : entryFor table "hasattr" = some Builtin.«hasattr» := entryFor_of_tree (by kernel_rfl)
theorem kind_hasattr : builtinKind "hasattr" = none := by decide +kernel
theorem plain_hasattr : plainId "hasattr" = true := by decide +kernel
theorem args_hasattr (a b : Value) : argsOk "hasattr" ⟨[a, b], []⟩ := by unfold argsOk; kernel_rfl
section
variable {prog : Program} {w : World} {A : Around} {E : Value → Shared → Prop} {h : Heap} {g : Array GenState} {d : Drawn} {t : Nat} {os : OsState} {x : Str} {u : Tok}
def mwObj (x : Str) (u : Tok) : Obj := { cls := .type "method-wrapper", data := .fields #[.builtin "str.__getitem__", .str x u] }
theorem gi_get_str {R : Result → Shared → Prop} (hq : R (.ok (.ret (.ref h.objs.size))) ⟨h.push (mwObj x u), g, d, t, os⟩) :
    codeAny (model prog w) A (.call (.builtin "wrapper_descriptor.__get__") ⟨[.builtin "str.__getitem__", .str x u, .type "str"], []⟩) R ⟨h, g, d, t, os⟩ := by
  have hT : (⟨h, g, d, t, os⟩ : Shared).TypeIs (.str x u) "str" := rfl
  have hT5 : (⟨h, g, d, t, os⟩ : Shared).TypeIs (.builtin "str.__getitem__") "wrapper_descriptor" := ty_getitem
  have f8 := sub_owner
  refine codeAny_call_builtin slot_wd_get.plain entry_wd_get (slot_wd_get.check _ _ _ _ _ _ _ _ hT5 (args_wd_get _ _ _) ?_)
  repeat (any_goals (first | assumption | wp_step))
theorem gi_entry_str {tk : Tok} {Q : Fin → Shared → Prop} (hq : Q (.done (.ret (.ref h.objs.size))) ⟨h.push (mwObj x u), g, d, t, os⟩) :
    wpAny (model prog w) A (Builtin.«object.__getattribute__» ⟨[.str x u, .str "__getitem__" tk], []⟩) Q E ⟨h, g, d, t, os⟩ := by
  have hT : (⟨h, g, d, t, os⟩ : Shared).TypeIs (.str x u) "str" := rfl
  have hT5 : (⟨h, g, d, t, os⟩ : Shared).TypeIs (.builtin "str.__getitem__") "wrapper_descriptor" := ty_getitem
  have f4 := lk_getitem
  have f5 := ty_getitem
  have f6 := slot_wd_get.lookup
  have f7 := wd_set
  have f8 := wd_del
  repeat (any_goals (first | assumption | wp_step))
  refine gi_get_str ?_
  repeat (any_goals (first | assumption | wp_step))

theorem gi_call_str {tk : Tok} {R : Result → Shared → Prop} (hq : R (.ok (.ret (.ref h.objs.size))) ⟨h.push (mwObj x u), g, d, t, os⟩) :
    codeAny (model prog w) A (.call (.builtin "object.__getattribute__") ⟨[.str x u, .str "__getitem__" tk], []⟩) R ⟨h, g, d, t, os⟩ :=
  codeAny_call_builtin F.slot_str_getattribute.plain F.entry_object_getattribute (F.slot_str_getattribute.check _ _ _ _ _ _ _ _ (show (⟨h, g, d, t, os⟩ : Shared).TypeIs (.str x u) "str" from rfl) (F.args_object_getattribute_2 _ _) (gi_entry_str hq))

theorem gi_by_str {tk : Tok} {Q : Value → Shared → Prop} (hq : Q (.ref h.objs.size) ⟨h.push (mwObj x u), g, d, t, os⟩) : wpAny (model prog w) A (getAttrBy (.str x u) (.str "__getitem__" tk) false) Q E ⟨h, g, d, t, os⟩ := by
  have hT : (⟨h, g, d, t, os⟩ : Shared).TypeIs (.str x u) "str" := rfl
  have f2 := F.slot_str_getattribute.lookup
  have f3 := F.slot_str_getattribute.bind (.str x u)
  repeat (any_goals (first | assumption | wp_step))
  refine gi_call_str ?_
  repeat (any_goals (first | assumption | wp_step))

theorem gi_attr_str {tk : Tok} {Q : Option Value → Shared → Prop} (hq : Q (some (.ref h.objs.size)) ⟨h.push (mwObj x u), g, d, t, os⟩) : wpAny (model prog w) A (getAttrBy? (.str x u) (.str "__getitem__" tk)) Q E ⟨h, g, d, t, os⟩ := by
  unfold getAttrBy?
  repeat (any_goals (first | assumption | with_reducible apply gi_by_str | wp_step))

end
end Mine
end
section -- Has2
set_option maxRecDepth 100000
namespace Mine
open PySem
open Sem (wp)
section
variable {prog : Program} {w : World} {A : Around} {E : Value → Shared → Prop} {h : Heap} {g : Array GenState} {d : Drawn} {t : Nat} {os : OsState} {x : Str} {u : Tok}
theorem hasattr_body {tk : Tok} {Q : Fin → Shared → Prop} (hq : Q (.done (.ret (.bool true))) ⟨h.push (mwObj x u), g, d, t, os⟩) :
    wpAny (model prog w) A (Builtin.«hasattr» ⟨[.str x u, .str "__getitem__" tk], []⟩) Q E ⟨h, g, d, t, os⟩ := by
  unfold Builtin.«hasattr»
  refine wpAny_bind (wpAny_of_eq (a := [.str x u, .str "__getitem__" tk]) (by first | rfl | kernel_rfl) ?_)
  dsimp only
  refine wpAny_bind (wpAny_of_eq (a := ()) (by first | rfl | kernel_rfl) ?_)
  rw [if_neg (show ¬ (Value.str x u == Value.builtin "__main__.__loader__#opaque") = true from Bool.false_ne_true)]
  refine wpAny_bind (wpAny_of_eq (a := .type "str") rfl ?_)
  dsimp only
  refine wpAny_bind (wpAny_of_eq (a := some (Str.ofString "__getitem__")) rfl ?_)
  dsimp only
  refine wpAny_bind (wpAny_of_eq lk_getitem ?_)
  dsimp only
  refine wpAny_bind (wpAny_of_eq F.slot_str_getattribute.lookup ?_)
  rw [if_neg (by decide +kernel)]
  refine wpAny_bind (wpAny_of_eq (a := 0) rfl ?_)
  rw [if_neg (by decide)]
  refine wpAny_bind (gi_attr_str ?_)
  rw [if_neg (by simp)]
  exact wpAny_pure hq
theorem hasattr_str {tk : Tok} {s : Shared} {Q : Value → Shared → Prop} (hq : Q (.bool true) { s with heap := s.heap.push (mwObj x u) }) :
    wpAny (model prog w) A (call (.builtin "hasattr") [.str x u, .str "__getitem__" tk]) Q E s :=
  Calls.call_function_entry kind_hasattr plain_hasattr entry_hasattr (args_hasattr _ _) (hasattr_body ⟨_, rfl, hq⟩)
open PySem.W PyProof.Rows in
theorem hasattr_K {h₀ : Heap} {L : Addr} {m : Str → Option Value} {news : List (Addr × Obj)} {tk : Tok} {s : Shared} {Q : Value → Shared → Prop} (F : Fr h₀ L s.heap m) (N : News h₀ L s.heap news)
    (hq : ∀ h', Fr h₀ L h' m → News h₀ L h' news → Q (.bool true) { s with heap := h' }) :
    wpAny (model prog w) A (call (.builtin "hasattr") [.str x u, .str (Str.ofString "__getitem__") tk]) Q E s :=
  hasattr_str (hq _ (F.push _) (fun p hp => (N.push F _) p (List.mem_cons_of_mem _ hp)))
end
end Mine
end
section -- Due
open PySem PySem.W PyProof.Rows
namespace Mine
theorem due_in {x y n z : Int} {k : Nat} (hz : z = 2 ^ (k + 1)) (h1 : x ≤ n) (h2 : n + z ≤ y) : dueL x y (k + 1) n = [(n, z)] := by
  rw [dueL, if_pos (by rw [← hz]; exact ⟨h1, h2⟩), ← hz]
theorem due_out {x y n z : Int} {k : Nat} (hz : z = 2 ^ (k + 1)) (h1 : ¬ (x ≤ n ∧ n + z ≤ y)) (h2 : n + z ≤ x ∨ y ≤ n) : dueL x y (k + 1) n = [] := by
  rw [dueL, if_neg (by rw [← hz]; exact h1), if_pos (by rw [← hz]; exact h2)]
theorem due_two {x y n z : Int} {k : Nat} (hz : z = 2 ^ (k + 1)) (h1 : ¬ (x ≤ n ∧ n + z ≤ y)) (h2 : ¬ (n + z ≤ x ∨ y ≤ n)) : dueL x y (k + 1) n = dueL x y k n ++ dueL x y k (n + Int.fdiv z 2) := by
  rw [dueL, if_neg (by rw [← hz]; exact h1), if_neg (by rw [← hz]; exact h2), hz, half_pow]
theorem due_len (x y : Int) (k : Nat) : ∀ n, (dueL x y k n).length ≤ 2 ^ k := by
  induction k with
  | zero => intro n; rw [dueL]; split <;> simp
  | succ k ih =>
    intro n
    rw [dueL]
    have := Nat.one_le_two_pow (n := k)
    split
    · simp; omega
    · split
      · simp
      · rw [List.length_append, Nat.pow_succ]
        have := ih n
        have := ih (n + 2 ^ k)
        omega
theorem pow_small {k : Nat} (h : k + 1 ≤ 5) : 2 ^ k ≤ 16 := by
  have : 2 ^ k ≤ 2 ^ 4 := Nat.pow_le_pow_right (by decide) (by omega)
  omega
set_option maxRecDepth 100000 in
set_option maxHeartbeats 8000000 in
theorem due_call (w mean mg mb) (k : Nat) : ∀ (x y n z : Int) (t1 t2 t3 t4 : Tok) (news), k ≤ 5 → z = 2 ^ k → Runs w mean mg mb 169 [.int x t1, .int y t2, .int n t3, .int z t4] news (k + 1) (8 * (k + 1)) (IsBlocks (dueL x y k n)) := by
  induction k with
  | zero =>
    intro x y n z t1 t2 t3 t4 news _ hz
    have hz : z = 1 := by simpa using hz
    subst hz
    unfold Runs
    w_top off
    k_fill
    intro dp un gd cn cs a ccd cl outer A₀ base h₀ L m s Q E B F X N T hk hd hu hret
    refine wpAny_call ?_
    k_dflt ktr_enter
    k_steps
    · rename_i l1 _ _ _ _ l2 _ _ _ _ 
      refine hret _ [_, _] _ _ (by k_asm) (by k_asm) (ord_cons (lt_of_all l2.2) (ord_cons l1 ord_nil)) ⟨_, _, _, rfl, List.Mem.head _, ?_⟩
      rw [dueL, if_pos (by omega)]
      exact .cons (.tuple (.tail _ (.head _)) (.cons (.int _ _) (.cons (.int _ _) .nil))) .nil
    · rename_i l1 _ _ _ _
      refine hret _ [_] _ _ (by k_asm) (by k_asm) (ord_cons l1 ord_nil) ⟨_, _, [], rfl, List.Mem.head _, ?_⟩
      rw [dueL, if_neg (by omega)]
      exact .nil
    · rename_i l1 _ _ _ _
      refine hret _ [_] _ _ (by k_asm) (by k_asm) (ord_cons l1 ord_nil) ⟨_, _, [], rfl, List.Mem.head _, ?_⟩
      rw [dueL, if_neg (by omega)]
      exact .nil
  | succ k ih =>
    intro x y n z t1 t2 t3 t4 news hk5 hz
    unfold Runs
    w_top off
    k_fill
    intro dp un gd cn cs a ccd cl outer A₀ base h₀ L m s Q E B F X N T hk hd hu hret
    refine wpAny_call ?_
    k_dflt ktr_enter
    k_steps
    · rename_i l1 _ _ _ _ l2 _ _ _ _ 
      refine hret _ [_, _] _ _ (by k_asm) (by k_asm) (ord_cons (lt_of_all l2.2) (ord_cons l1 ord_nil)) ⟨_, _, _, rfl, List.Mem.head _, ?_⟩
      rw [due_in hz (by assumption) (by assumption)]
      exact .cons (.tuple (.tail _ (.head _)) (.cons (.int _ _) (.cons (.int _ _) .nil))) .nil
    · rename_i l1 _ _ _ _
      refine hret _ [_] _ _ (by k_asm) (by k_asm) (ord_cons l1 ord_nil) ⟨_, _, [], rfl, List.Mem.head _, ?_⟩
      rw [due_out hz (by omega) (by omega)]
      exact .nil
    · rename_i l1 _ _ _ _
      refine hret _ [_] _ _ (by k_asm) (by k_asm) (ord_cons l1 ord_nil) ⟨_, _, [], rfl, List.Mem.head _, ?_⟩
      rw [due_out hz (by omega) (by omega)]
      exact .nil
    · have e := due_two (x := x) (y := y) (n := n) hz (by omega) (by omega)
      refine (ih x y n _ _ _ _ _ news (by omega) (by rw [hz, half_pow])).use (by k_asm) (by k_asm) (by k_asm) (by k_asm) (by k_asm) rfl (by dsimp only at *; omega) (by dsimp only at *; omega) ?_
      intro r1 tl1 h1 tk1 F1 N1 o1 p1
      obtain ⟨a1, n1, vs1, rfl, m1, d1⟩ := p1
      k_steps
      refine (ih x y _ _ _ _ _ _ _ (by omega) (by rw [hz, half_pow])).use (by k_asm) (by k_asm) (by k_asm) (by k_asm) (by k_asm) rfl (by dsimp only at *; omega) (by dsimp only at *; omega) ?_
      intro r2 tl2 h2 tk2 F2 N2 o2 p2
      obtain ⟨a2, n2, vs2, rfl, m2, d2⟩ := p2
      have d1' := d1.mono (fun p hp => List.mem_append.mpr (Or.inr (a := p ∈ tl2) hp))
      have d2' := d2.mono (fun p hp => List.mem_append.mpr (Or.inl (b := p ∈ tl1) hp))
      refine kmk_add_lit (zs := vs1 ++ vs2) F2 N2 ⟨_, N2.get (List.mem_append.mpr (.inr (List.mem_append.mpr (.inl m1)))), rfl, n1, rfl⟩ ⟨_, N2.get (List.mem_append.mpr (.inl m2)), rfl, n2, rfl⟩ rfl ?_ ?_
      · intro D h3 F3 N3 l3
        k_steps
        refine hret _ ((D, W.listOf (List.toArray (vs1 ++ vs2)) 0) :: (tl2 ++ tl1)) _ _ (by k_asm) ?_ (ord_cons (fun q hq => l3 q (List.mem_append.mpr (.inr (List.mem_append.mpr (.inr hq))))) (ord_app (ord_sub o2) o1)) ⟨_, _, _, rfl, List.Mem.head _, ?_⟩
        · rw [List.cons_append, List.append_assoc]; k_asm
        · rw [e, List.map_append]
          exact (DatAll.append d1' d2').mono (fun p hp => List.mem_cons_of_mem _ hp)
      · have e1 := d1.length
        have e2 := d2.length
        rw [List.length_map] at e1 e2
        have b1 := due_len x y k n
        have b2 := due_len x y k (n + Int.fdiv z 2)
        have b3 := pow_small hk5
        simp only [List.toList_toArray, sizeLine_eq]
        omega
    · rename_i l1 _ _ _ _
      refine hret _ [_] _ _ (by k_asm) (by k_asm) (ord_cons l1 ord_nil) ⟨_, _, [], rfl, List.Mem.head _, ?_⟩
      rw [due_out hz (by omega) (by omega)]
      exact .nil
    · rename_i l1 _ _ _ _
      refine hret _ [_] _ _ (by k_asm) (by k_asm) (ord_cons l1 ord_nil) ⟨_, _, [], rfl, List.Mem.head _, ?_⟩
      rw [due_out hz (by omega) (by omega)]
      exact .nil
    · have e := due_two (x := x) (y := y) (n := n) hz (by omega) (by omega)
      refine (ih x y n _ _ _ _ _ news (by omega) (by rw [hz, half_pow])).use (by k_asm) (by k_asm) (by k_asm) (by k_asm) (by k_asm) rfl (by dsimp only at *; omega) (by dsimp only at *; omega) ?_
      intro r1 tl1 h1 tk1 F1 N1 o1 p1
      obtain ⟨a1, n1, vs1, rfl, m1, d1⟩ := p1
      k_steps
      refine (ih x y _ _ _ _ _ _ _ (by omega) (by rw [hz, half_pow])).use (by k_asm) (by k_asm) (by k_asm) (by k_asm) (by k_asm) rfl (by dsimp only at *; omega) (by dsimp only at *; omega) ?_
      intro r2 tl2 h2 tk2 F2 N2 o2 p2
      obtain ⟨a2, n2, vs2, rfl, m2, d2⟩ := p2
      have d1' := d1.mono (fun p hp => List.mem_append.mpr (Or.inr (a := p ∈ tl2) hp))
      have d2' := d2.mono (fun p hp => List.mem_append.mpr (Or.inl (b := p ∈ tl1) hp))
      refine kmk_add_lit (zs := vs1 ++ vs2) F2 N2 ⟨_, N2.get (List.mem_append.mpr (.inr (List.mem_append.mpr (.inl m1)))), rfl, n1, rfl⟩ ⟨_, N2.get (List.mem_append.mpr (.inl m2)), rfl, n2, rfl⟩ rfl ?_ ?_
      · intro D h3 F3 N3 l3
        k_steps
        refine hret _ ((D, W.listOf (List.toArray (vs1 ++ vs2)) 0) :: (tl2 ++ tl1)) _ _ (by k_asm) ?_ (ord_cons (fun q hq => l3 q (List.mem_append.mpr (.inr (List.mem_append.mpr (.inr hq))))) (ord_app (ord_sub o2) o1)) ⟨_, _, _, rfl, List.Mem.head _, ?_⟩
        · rw [List.cons_append, List.append_assoc]; k_asm
        · rw [e, List.map_append]
          exact (DatAll.append d1' d2').mono (fun p hp => List.mem_cons_of_mem _ hp)
      · have e1 := d1.length
        have e2 := d2.length
        rw [List.length_map] at e1 e2
        have b1 := due_len x y k n
        have b2 := due_len x y k (n + Int.fdiv z 2)
        have b3 := pow_small hk5
        simp only [List.toList_toArray, sizeLine_eq]
        omega
end Mine
end
section -- Blk
open PySem PySem.W PyProof.Rows
namespace Mine
local macro_rules | `(tactic| walk_at "call ref") => `(tactic| (k_here; k_dflt (refine wpAny_call ?_; (refine' code_def ?k1 ?k2 ?k3 ?k4 ?k5 ?kA ?kF ?kK ?k6 ?k7 ?k8 ?k9 ?kB ?_ ?c2 ?c3 ?c4 ?c5; (case kA => exact rfl); (case kF => exact rfl); (case kK => first | exact rfl | assumption); (case k1 => k_asm); (case k2 => k_asm); (case k3 => k_asm); (case k4 => k_asm); (case k5 => k_asm); (case k6 => k_is); (case k7 => k_is); (case k8 => ktr_room); (case k9 => exact BindsTo.of_eq rfl); (case c5 => decide); (case kB => exact locs rfl); (case c2 => exact rfl); (case c3 => exact rfl); (case c4 => exact rfl); k_whole; intro g' L' h' FG' F' N' B' X' T'; (try dsimp only); (try k_fold)))))
local macro_rules | `(tactic| ktn_open) => `(tactic| repeat' (first | ((fail_if_success (with_reducible show wpAny _ _ (exec (Stmt.While _ _ _ _) _) _ _ _)); first | (k_unfold; (try dsimp only)) | (k_end; wrow_close) | walk1 | (dsimp only; walk1) | (leave1; walk_say "STEP leave1"; try dsimp only) | fail "no step")))
set_option maxRecDepth 100000 in
set_option maxHeartbeats 8000000 in
theorem blocks_call (w mean mg mb) (x y : Int) (t1 t2 : Tok) (news) (h0 : 0 ≤ x) (h1 : x ≤ 64) (h2 : 0 ≤ y) (h3 : y ≤ 64) : Runs w mean mg mb 155 [.int x t1, .int y t2] news 5 40 (IsBlocks (blkL y 64 x)) := by
  unfold Runs
  w_top off
  k_fill
  intro dp un gd cn cs a ccd cl outer A₀ base h₀ L m s Q E B F X N T hk hd hu hret
  refine wpAny_call ?_
  k_dflt ktr_enter
  ktn_open
  rename_i g' L' _ FG' B' X' T' tk l' _ l1 h' F' N'
  have e0 : (fun z => if z = Str.ofString "blocks" then some (Value.ref l') else List.lookup z [(Str.ofString "end", Value.int y t2), (Str.ofString "first", Value.int x t1)]) = (fun z => if z = Str.ofString "size" then none else if z = Str.ofString "marked" then none else if z = Str.ofString "first" then some (.int x t1) else if z = Str.ofString "blocks" then some (.ref l') else if z = Str.ofString "end" then some (.int y t2) else none) := by
    funext z
    by_cases e1 : z = Str.ofString "size"
    · subst e1; rfl
    by_cases e2 : z = Str.ofString "marked"
    · subst e2; rfl
    by_cases e3 : z = Str.ofString "first"
    · subst e3; rfl
    by_cases e4 : z = Str.ofString "blocks"
    · subst e4; rfl
    by_cases e5 : z = Str.ofString "end"
    · subst e5; rfl
    rw [if_neg e4, look_ne e5, look_ne e3, if_neg e1, if_neg e2, if_neg e3, if_neg e4, if_neg e5]; rfl
  replace F' : Fr g' L' h' (fun z => if z = Str.ofString "size" then none else if z = Str.ofString "marked" then none else if z = Str.ofString "first" then some (.int x t1) else if z = Str.ofString "blocks" then some (.ref l') else if z = Str.ofString "end" then some (.int y t2) else none) := e0 ▸ F'
  refine While_inv (fun n m1 nw => ∃ (sz mk : Option Value) (f : Int) (tf : Tok) (done : List (Int × Int)) (vs : List Value) (c : Nat) (tl : List (Addr × Obj)),
     m1 = (fun z => if z = Str.ofString "size" then sz else if z = Str.ofString "marked" then mk else if z = Str.ofString "first" then some (.int f tf) else if z = Str.ofString "blocks" then some (.ref l') else if z = Str.ofString "end" then some (.int y t2) else none) ∧
     nw = (l', W.listOf (List.toArray vs) c) :: (tl ++ news) ∧ (∀ p ∈ tl, l' < p.1) ∧ DatAll tl vs (done.map blk) ∧ done ++ blkL y n f = blkL y 64 x ∧ 0 ≤ f ∧ f ≤ 64 ∧ y - f ≤ (n : Int) ∧ n ≤ 64) (n₀ := 64) F' N' 
     ⟨none, none, x, t1, [], [], 0, [], rfl, rfl, (fun _ h => nomatch h), .nil, rfl, h0, h1, by omega, Nat.le_refl _⟩ ?_ (by first | passes_own | with_unfolding_all passes_own)
  rintro n m1 nw h1' tk1 F1 N1 ⟨sz, mk, f, tf, done, vs, c, tl, rfl, rfl, off, D, eq, hf0, hf1, hn, hn64⟩
  ktn_open
  · rename Fr g' L' _ _ => F2
    rename News g' L' _ _ => N2
    have hlt : f < y := by assumption
    rw [low_int hf0 (by omega)] at F2
    have em : ∀ (sv mv : Value), (fun z => if z = Str.ofString "size" then some sv else if z = Str.ofString "marked" then some mv else if z = Str.ofString "size" then sz else if z = Str.ofString "marked" then mk else if z = Str.ofString "first" then some (.int f tf) else if z = Str.ofString "blocks" then some (.ref l') else if z = Str.ofString "end" then some (.int y t2) else none) = (fun z => if z = Str.ofString "size" then some sv else if z = Str.ofString "marked" then some mv else if z = Str.ofString "first" then some (.int f tf) else if z = Str.ofString "blocks" then some (.ref l') else if z = Str.ofString "end" then some (.int y t2) else none) := by
      intro sv mv
      funext z
      by_cases e1 : z = Str.ofString "size"
      · rw [if_pos e1, if_pos e1]
      by_cases e2 : z = Str.ofString "marked"
      · rw [if_neg e1, if_pos e2, if_neg e1, if_pos e2]
      simp only [if_neg e1, if_neg e2]
    rw [em] at F2
    refine While_inv (fun k m1 nw => ∃ (tz : Tok),
     m1 = (fun z => if z = Str.ofString "size" then some (.int (2 ^ k) tz) else if z = Str.ofString "marked" then some _ else if z = Str.ofString "first" then some (.int f tf) else if z = Str.ofString "blocks" then some (.ref l') else if z = Str.ofString "end" then some (.int y t2) else none) ∧
     nw = (l', W.listOf (List.toArray vs) c) :: (tl ++ news) ∧ fitK f y k = stepK f y ∧ k ≤ 5) (n₀ := lowK f) F2 N2 ⟨_, rfl, rfl, rfl, low_le f⟩ ?_ (by first | passes_own | with_unfolding_all passes_own)
    rintro k m3 nw3 h3' tk3 F3 N3 ⟨tz, rfl, rfl, hfit, hk5⟩
    ktn_open
    · rename Fr g' L' _ _ => F4
      rename News g' L' _ _ => N4
      have hgt : y < f + 2 ^ k := by assumption
      obtain ⟨k', rfl⟩ : ∃ k', k = k' + 1 := by
        cases k with
        | zero => exfalso; simp at hgt; omega
        | succ k => exact ⟨k, rfl⟩
      rw [shift_one, upd_twice] at F4
      exact WhileStep.intro F4 N4 (Nat.lt_succ_self k') ⟨_, rfl, rfl, (fit_go hgt).symm.trans hfit, by omega⟩
    · rename Fr g' L' _ _ => F4
      rename News g' L' _ _ => N4
      rename (l' < _ ∧ _) => lD
      rename Addr => DD
      have hle : ¬ y < f + 2 ^ k := by assumption
      have hks : stepK f y = k := hfit.symm.trans (fit_stop hle)
      have hoff : ∀ p ∈ tl ++ news, p.1 ≠ l' := fun p hp => (List.mem_append.mp hp).elim (fun h => Nat.ne_of_gt (off p h)) fun h => Nat.ne_of_lt (l1 p h)
      have hlen := D.length
      rw [List.length_map] at hlen
      have hle64 : done.length ≤ 64 := by
        have e := congrArg List.length eq
        have e2 := blk_len y 64 x
        rw [List.length_append] at e
        omega
      refine append_K F4 N4 (Upd.tail (Nat.ne_of_gt lD.1) (Upd.head hoff)) ?_ (by rw [List.size_toArray, sizeLine_eq]; omega)
      intro h5 F5 N5
      ktn_open
      rename Fr g' L' _ _ => F6
      rename News g' L' _ _ => N6
      rw [upd_back (by decide) (by decide)] at F6
      obtain ⟨n', rfl⟩ : ∃ n', n = n' + 1 := ⟨n - 1, by omega⟩
      have hp := pow_pos' k
      rw [blk_go hlt, hks] at eq
      refine WhileStep.intro (news₂ := (l', W.listOf (List.toArray (vs ++ [.ref DD])) (c + 1)) :: (((DD, { cls := .type "tuple", data := .seq (List.toArray [.int f tf, .int (2 ^ k) tz]) }) :: tl) ++ news)) F6 ?_ (Nat.lt_succ_self n') ⟨_, _, _, _, done ++ [(f, 2 ^ k)], _, _, _, rfl, rfl, ?_, ?_, ?_, by omega, by omega, by omega, by omega⟩
      · intro p hp
        refine N6 p ?_
        rw [List.push_toArray]
        rcases List.mem_cons.mp hp with rfl | hp
        · exact .tail _ (.head _)
        · rcases List.mem_cons.mp hp with rfl | hp
          · exact .head _
          · exact .tail _ (.tail _ hp)
      · intro p hp
        rcases List.mem_cons.mp hp with rfl | hp
        · exact lD.1
        · exact off p hp
      · rw [List.map_append]
        exact (D.mono fun p hp => List.mem_cons_of_mem _ hp).append (.cons (.tuple (.head _) (.cons (.int _ _) (.cons (.int _ _) .nil))) .nil)
      · rw [List.append_assoc]; exact eq
  · rw [blk_stop _ (by assumption), List.append_nil] at eq
    refine hret _ ((l', W.listOf (List.toArray vs) c) :: tl) _ _ (by k_asm) (by k_asm) (ord_cons l1 (fun q hq p hp => Nat.lt_trans (l1 q hq) (off p hp))) ⟨_, _, _, rfl, .head _, ?_⟩
    rw [← eq]
    exact D.mono fun p hp => List.mem_cons_of_mem _ hp
end Mine
end
section -- Adr
open PySem PySem.W PyProof.Rows
namespace Mine
local macro_rules | `(tactic| walk_at "call ref") => `(tactic| (k_here; k_dflt (refine wpAny_call ?_; (refine' code_def ?k1 ?k2 ?k3 ?k4 ?k5 ?kA ?kF ?kK ?k6 ?k7 ?k8 ?k9 ?kB ?_ ?c2 ?c3 ?c4 ?c5; (case kA => exact rfl); (case kF => exact rfl); (case kK => first | exact rfl | assumption); (case k1 => k_asm); (case k2 => k_asm); (case k3 => k_asm); (case k4 => k_asm); (case k5 => k_asm); (case k6 => k_is); (case k7 => k_is); (case k8 => ktr_room); (case k9 => exact BindsTo.of_eq rfl); (case c5 => decide); (case kB => exact locs rfl); (case c2 => exact rfl); (case c3 => exact rfl); (case c4 => exact rfl); k_whole; intro g' L' h' FG' F' N' B' X' T'; (try dsimp only); (try k_fold)))))
local macro_rules | `(tactic| ktn_open) => `(tactic| repeat' (first | ((fail_if_success (with_reducible show wpAny _ _ (exec (Stmt.While _ _ _ _) _) _ _ _)); first | (k_unfold; (try dsimp only)) | (k_end; wrow_close) | walk1 | (dsimp only; walk1) | (leave1; walk_say "STEP leave1"; try dsimp only) | fail "no step")))
local macro_rules | `(tactic| walk_at "call builtin:hasattr") => `(tactic| (k_here; k_dflt (refine' hasattr_K ?F ?N ?_; (case F => k_asm); (case N => k_asm)); intro h' F' N'; (try k_sweep)))
set_option maxRecDepth 100000 in
set_option maxHeartbeats 8000000 in
theorem addr_call (w mean mg mb) (b : Addr) (f zz : Int) (k c : Nat) (t1 t2 tt : Tok) (tail : Str) (news) (hb : (b, ({ cls := .type "tuple", data := .seq (List.toArray [.int f t1, .int zz t2]) c } : Obj)) ∈ news) (hz : zz = 2 ^ k) (hk5 : k ≤ 5) (ht : tail.length ≤ 5) : Runs w mean mg mb 162 [.ref b, .str tail tt] news 5 40 (fun nw r => DatIn nw r (adrD f k tail)) := by
  unfold Runs
  w_top off
  k_fill
  intro dp un gd cn cs a ccd cl outer A₀ base h₀ L m s Q E B F X N T hk hd hu hret
  refine wpAny_call ?_
  k_dflt ktr_enter
  ktn_open
  rename_i g' L' _ FG' B' X' T' _ _ _ _ h' F' N'
  have e0 : ∀ (v1 v2 v3 v4 : Option Value), (fun z => if z = Str.ofString "width" then v1 else if z = Str.ofString "path" then v2 else if z = Str.ofString "size" then v3 else if z = Str.ofString "first" then v4 else List.lookup z [(Str.ofString "tail", Value.str tail tt), (Str.ofString "block", Value.ref b)]) = (fun z => if z = Str.ofString "width" then v1 else if z = Str.ofString "path" then v2 else if z = Str.ofString "size" then v3 else if z = Str.ofString "first" then v4 else if z = Str.ofString "tail" then some (Value.str tail tt) else if z = Str.ofString "block" then some (Value.ref b) else none) := by
    intro v1 v2 v3 v4
    funext z
    by_cases e1 : z = Str.ofString "tail"
    · subst e1; rfl
    by_cases e2 : z = Str.ofString "block"
    · subst e2; rfl
    rw [look_ne e1, look_ne e2, if_neg e1, if_neg e2]; rfl
  replace F' : Fr g' L' h' _ := (e0 _ _ _ _) ▸ F'
  refine While_inv (fun q m1 nw => ∃ (n : Nat) (tw tp : Tok), n + q = 5 ∧ n + k ≤ 5 ∧
     m1 = (fun z => if z = Str.ofString "width" then some (.int (wid n) tw) else if z = Str.ofString "path" then some (.str (pth f n) tp) else if z = Str.ofString "size" then some (.int zz t2) else if z = Str.ofString "first" then some (.int f t1) else if z = Str.ofString "tail" then some (Value.str tail tt) else if z = Str.ofString "block" then some (Value.ref b) else none) ∧
     nw = news) (n₀ := 5) F' N' ⟨0, _, _, rfl, by omega, rfl, rfl⟩ ?_ (by first | passes_own | with_unfolding_all passes_own)
  rintro q m1 nw h1' tk1 F1 N1 ⟨n, tw, tp, hn5, hnk, rfl, rfl⟩
  have hpl := pth_len f n
  ktn_open
  · rename Fr g' L' _ _ => F2
    rename News g' L' _ _ => N2
    rw [pth_a (by assumption), wid_nx (by omega), upd_swap2 (by decide)] at F2
    have hlt : zz ≤ wid n := by assumption
    have h4 := (wid_test (by omega) hk5).mp (hz ▸ hlt)
    exact WhileStep.intro F2 N2 (n' := q - 1) (by omega) ⟨n + 1, _, _, by omega, by omega, rfl, rfl⟩
  · rename Fr g' L' _ _ => F2
    rename News g' L' _ _ => N2
    rw [pth_ab (by assumption), wid_nx (by omega), upd_swap2 (by decide)] at F2
    have hlt : zz ≤ wid n := by assumption
    have h4 := (wid_test (by omega) hk5).mp (hz ▸ hlt)
    exact WhileStep.intro F2 N2 (n' := q - 1) (by omega) ⟨n + 1, _, _, by omega, by omega, rfl, rfl⟩
  · rename_i l1 _ _ _ _
    have hlt : ¬ zz ≤ wid n := by assumption
    have h4 := mt (wid_test (by omega) hk5).mpr (hz ▸ hlt)
    obtain rfl : n = 5 - k := by omega
    refine hret _ [_] _ _ (by k_asm) (by k_asm) (ord_cons l1 ord_nil) (.tuple (.head _) (.cons ?_ (.cons (.str _ _) .nil)))
    rw [hostOf, if_pos (by assumption)]; exact .str _ _
  · rename_i l1 _ _ _ _
    have hlt : ¬ zz ≤ wid n := by assumption
    have h4 := mt (wid_test (by omega) hk5).mpr (hz ▸ hlt)
    obtain rfl : n = 5 - k := by omega
    refine hret _ [_] _ _ (by k_asm) (by k_asm) (ord_cons l1 ord_nil) (.tuple (.head _) (.cons ?_ (.cons (.str _ _) .nil)))
    rw [hostOf, if_neg (by assumption)]; exact .str _ _
end Mine
end
section -- Sub
open PySem PySem.W PyProof.Rows
namespace Mine
local macro_rules | `(tactic| walk_at "call ref") => `(tactic| (k_here; k_dflt (refine wpAny_call ?_; (refine' code_def ?k1 ?k2 ?k3 ?k4 ?k5 ?kA ?kF ?kK ?k6 ?k7 ?k8 ?k9 ?kB ?_ ?c2 ?c3 ?c4 ?c5; (case kA => exact rfl); (case kF => exact rfl); (case kK => first | exact rfl | assumption); (case k1 => k_asm); (case k2 => k_asm); (case k3 => k_asm); (case k4 => k_asm); (case k5 => k_asm); (case k6 => k_is); (case k7 => k_is); (case k8 => ktr_room); (case k9 => exact BindsTo.of_eq rfl); (case c5 => decide); (case kB => exact locs rfl); (case c2 => exact rfl); (case c3 => exact rfl); (case c4 => exact rfl); k_whole; intro g' L' h' FG' F' N' B' X' T'; (try dsimp only); (try k_fold)))))
theorem eq_pair {prog : Program} {w : World} {A : Around} {E : Value → Shared → Prop} {s : Shared} {h₀ : Heap} {L b t : Addr} {news : List (Addr × Obj)} {c1 c2 : Nat} {sa sb pa pb : Str} {u1 u2 u3 u4 : Tok} {Q : Value → Shared → Prop}
    (N : News h₀ L s.heap news) (hb : (b, ({ cls := .type "tuple", data := .seq (List.toArray [.str sa u1, .str pa u2]) c1 } : Obj)) ∈ news) (ht : (t, ({ cls := .type "tuple", data := .seq (List.toArray [.str sb u3, .str pb u4]) c2 } : Obj)) ∈ news)
    (k1 : PyData.strOk sa = true) (k2 : PyData.strOk sb = true) (k3 : PyData.strOk pa = true) (k4 : PyData.strOk pb = true) (hu : A.units + 64 < cLine)
    (h : Q (.bool (decide (sa = sb ∧ pa = pb))) s) : wpAny (model prog w) A (compareOp .Eq (.ref b) (.ref t)) Q E s := by
  refine eq_dataH (reads_tuple_at (N.get hb) rfl rfl (ReadsAll.cons (Reads.str sa u1) (ReadsAll.cons (Reads.str pa u2) ReadsAll.nil))) (reads_tuple_at (N.get ht) rfl rfl (ReadsAll.cons (Reads.str sb u3) (ReadsAll.cons (Reads.str pb u4) ReadsAll.nil))) ?_ ?_ hu ?_
  · simp [SeqAt.shaped, PyData.canLay0, PyData.canLayAll0, PyData.depth, PyData.depthAll, k1, k3]
  · simp [SeqAt.shaped, PyData.canLay0, PyData.canLayAll0, PyData.depth, PyData.depthAll, k2, k4]
  · have e : PyData.eqv (.tuple [.str sa, .str pa]) (.tuple [.str sb, .str pb]) = decide (sa = sb ∧ pa = pb) := by
      simp only [PyData.eqv, PyData.eqvAll, Bool.and_true]
      by_cases e1 : sa = sb <;> by_cases e2 : pa = pb <;> simp [e1, e2]
    rw [e]; exact h
set_option maxRecDepth 100000 in
set_option maxHeartbeats 8000000 in
theorem sub_call (w mean mg mb) (me : Value) (b t : Addr) (c1 c2 : Nat) (sa sb pa pb : Str) (u1 u2 u3 u4 : Tok) (news) (hb : (b, ({ cls := .type "tuple", data := .seq (List.toArray [.str sa u1, .str pa u2]) c1 } : Obj)) ∈ news)
   (ht : (t, ({ cls := .type "tuple", data := .seq (List.toArray [.str sb u3, .str pb u4]) c2 } : Obj)) ∈ news) (k1 : PyData.strOk sa = true) (k2 : PyData.strOk sb = true) (k3 : PyData.strOk pa = true) (k4 : PyData.strOk pb = true) (l1 : pa.length ≤ 32) : Runs w mean mg mb 64 [me, .ref b, .ref t] news 5 100 (fun _ r => r = .bool (subS sa pa sb pb)) := by
  unfold Runs
  w_top off
  k_fill
  intro dp un gd cn cs a ccd cl outer A₀ base h₀ L m s Q E B F X N T hk hd hu hret
  refine wpAny_call ?_
  k_dflt ktr_enter
  k_steps
  refine eq_pair (by k_asm) hb ht k1 k2 k3 k4 (by ktr_units) ?_
  k_steps
  · refine hret _ [] _ _ (by k_asm) (by k_asm) ord_nil ?_
    show _ = _
    rw [subS, if_pos (by assumption)]
  · refine hret _ [] _ _ (by k_asm) (by k_asm) ord_nil ?_
    show _ = _
    rw [subS, if_neg (by assumption), if_pos (by assumption)]
  · refine hret _ [] _ _ (by k_asm) (by k_asm) ord_nil ?_
    show _ = _
    rw [subS, if_neg (by assumption), if_neg (Bool.eq_false_iff.mp (by assumption)), if_pos (by assumption)]
  · refine hret _ [] _ _ (by k_asm) (by k_asm) ord_nil ?_
    show _ = _
    rw [subS, if_neg (by assumption), if_neg (Bool.eq_false_iff.mp (by assumption)), if_neg (Bool.eq_false_iff.mp (by assumption))]
end Mine
end
section -- Cnt
open PySem PySem.W PyProof.Rows
namespace Mine
local macro_rules | `(tactic| walk_at "no such key") => `(tactic| fail "none")
local macro_rules | `(tactic| walk_at "call ref") => `(tactic| (k_here; k_dflt (refine wpAny_call ?_; (refine' code_def ?k1 ?k2 ?k3 ?k4 ?k5 ?kA ?kF ?kK ?k6 ?k7 ?k8 ?k9 ?kB ?_ ?c2 ?c3 ?c4 ?c5; (case kA => exact rfl); (case kF => exact rfl); (case kK => first | exact rfl | assumption); (case k1 => k_asm); (case k2 => k_asm); (case k3 => k_asm); (case k4 => k_asm); (case k5 => k_asm); (case k6 => k_is); (case k7 => k_is); (case k8 => ktr_room); (case k9 => exact BindsTo.of_eq rfl); (case c5 => decide); (case kB => exact locs rfl); (case c2 => exact rfl); (case c3 => exact rfl); (case c4 => exact rfl); k_whole; intro g' L' h' FG' F' N' B' X' T'; (try dsimp only); (try k_fold)))))
local macro_rules | `(tactic| ktn_open) => `(tactic| repeat' (first | ((fail_if_success (with_reducible show wpAny _ _ (exec (Stmt.While _ _ _ _) _) _ _ _)); (fail_if_success (with_reducible show wpAny _ _ (pyIter _) _ _ _)); first | (k_unfold; (try dsimp only)) | (k_end; wrow_close) | walk1 | (dsimp only; walk1) | (leave1; walk_say "STEP leave1"; try dsimp only) | fail "no step")))
set_option maxRecDepth 100000 in
set_option maxHeartbeats 8000000 in
theorem count_call (w mean mg mb) (l : Addr) (c : Nat) (bs : List Bool) (news) (hl : (l, W.listOf (List.toArray (bs.map Value.bool)) c) ∈ news) : Runs w mean mg mb 148 [.ref l, .bool false] news 5 100 (fun _ r => ∃ t, r = .int ((bs.filter (· = false)).length : Nat) t) := by
  unfold Runs
  w_top off
  k_fill
  intro dp un gd cn cs a ccd cl outer A₀ base h₀ L m s Q E B F X N T hk hd hu hret
  refine wpAny_call ?_
  k_dflt ktr_enter
  ktn_open
  rename_i g' L' _ FG' B' X' T' h' F' N'
  (with_unfolding_all refine' For_invVF F' ?k1 ?k2 ?_; (case k1 => exact rfl); (case k2 => exact rfl))
  ktn_open
  have e0 : ∀ (v1 : Option Value), (fun z => if z = Str.ofString "count" then v1 else List.lookup z [(Str.ofString "b", Value.bool false), (Str.ofString "a", Value.ref l)]) = (fun z => if z = Str.ofString "i" then none else if z = Str.ofString "count" then v1 else if z = Str.ofString "b" then some (Value.bool false) else if z = Str.ofString "a" then some (Value.ref l) else none) := by
    intro v1
    funext z
    by_cases e0 : z = Str.ofString "i"
    · subst e0; rfl
    by_cases e3 : z = Str.ofString "count"
    · subst e3; rfl
    by_cases e1 : z = Str.ofString "b"
    · subst e1; rfl
    by_cases e2 : z = Str.ofString "a"
    · subst e2; rfl
    rw [look_ne e1, look_ne e2, if_neg e0, if_neg e1, if_neg e2]; rfl
  replace F' : Fr g' L' h' _ := (e0 _) ▸ F'
  refine kdl_iter (fun i m1 nw => ∃ (iv : Option Value) (t : Tok), m1 = (fun z => if z = Str.ofString "i" then iv else if z = Str.ofString "count" then some (.int (((bs.take i).filter (· = false)).length : Nat) t) else if z = Str.ofString "b" then some (Value.bool false) else if z = Str.ofString "a" then some (Value.ref l) else none) ∧ nw = news) rfl hl F' N' ⟨none, _, rfl, rfl⟩ ?_ ?_
  · rintro i v m1 nw h1 tk1 own hv hown hmem ⟨iv, t, rfl, rfl⟩ F1 N1
    replace F1 : Fr g' L' h1 _ := F1
    replace N1 : News g' L' h1 _ := N1
    simp only [upd_twice] at F1
    rw [List.getElem?_map] at hv
    obtain ⟨b, hb, rfl⟩ : ∃ b, bs[i]? = some b ∧ v = .bool b := by
      cases e : bs[i]? with
      | none => rw [e] at hv; cases hv
      | some b => rw [e] at hv; cases hv; exact ⟨b, rfl, rfl⟩
    have hcnt : (((bs.take (i + 1)).filter (· = false)).length : Nat) = ((bs.take i).filter (· = false)).length + (if b = false then 1 else 0) := by
      rw [List.take_add_one, hb, List.filter_append, List.length_append]
      cases b <;> rfl
    cases b
    · k_steps
      rename Fr g' L' _ _ => F2
      rename News g' L' _ _ => N2
      have hc : ((((bs.take i).filter (· = false)).length : Nat) : Int) + 1 = ((((bs.take (i + 1)).filter (· = false)).length : Nat) : Int) := by rw [hcnt]; rfl
      rw [upd_back1 (by decide), hc] at F2
      refine InvEndG.intro (nx := nw) F2 N2 ⟨hl, _, _, rfl, rfl⟩ hown (fun p hp => List.mem_append.mpr (.inl hp)) (fun p hp => List.mem_append.mpr (.inr hp))
    · k_steps
      have hc : ((bs.take i).filter (· = false)).length = ((bs.take (i + 1)).filter (· = false)).length := by rw [hcnt]; rfl
      rw [hc] at F1
      refine InvEndG.intro (nx := nw) F1 N1 ⟨hl, _, _, rfl, rfl⟩ hown (fun p hp => List.mem_append.mpr (.inl hp)) (fun p hp => List.mem_append.mpr (.inr hp))
  · rintro m1 nw h1 tk1 ⟨iv, t, rfl, rfl⟩ F1 N1
    replace F1 : Fr g' L' h1 _ := F1
    replace N1 : News g' L' h1 _ := N1
    rw [List.length_map, List.take_length] at F1
    dsimp only
    k_steps
    exact hret _ [] _ _ (by k_asm) (by k_asm) ord_nil ⟨_, rfl⟩
end Mine
end
section -- L0
open PySem PySem.W PyProof.Rows
namespace Mine
def recOf {q : Program} {loose : List Str} {XP : (Str → Option Value) → Heap → Prop} {YP : World → Heap → Prop} {r : RowW} {d : DefRec} {kwd : List (Str × PySem.Expr)} {run : Value → List Value → Sem Value} {P : Prop} (_ : WalkO q loose XP YP r d kwd run → P) : DefRec := d
noncomputable def lawD : DefRec := recOf hd
/-- the law's statements from number i on -/
def LW (w : World) (fa : Addr) (cd : Value) (L : Addr) (i : Nat) (Q : Flow → Shared → Prop) (s : Shared) : Prop :=
  wpAny (model PySem.Challenge.rw_pe0102_01.row.toRowW.prog w) (callerA.deeper (envOfC lawD.name lawD.scope L fa cd)) (execs (lawD.body.drop i) (envOfC lawD.name lawD.scope L fa cd)) Q (fun _ _ => False) s
/-- none of these lies at a cell of the law's frame -/
abbrev OffC (L : Addr) (TL : List (Addr × Obj)) : Prop := ∀ p ∈ TL, (@Ne Nat p.1 (L+1)) ∧ (@Ne Nat p.1 (L+1+1)) ∧ (@Ne Nat p.1 (L+1+1+1)) ∧ (@Ne Nat p.1 (L+1+1+1+1)) ∧ (@Ne Nat p.1 (L+1+1+1+1+1))
theorem OffC.app {L : Addr} {a b : List (Addr × Obj)} (ha : OffC L a) (hb : OffC L b) : OffC L (a ++ b) := fun p hp => (List.mem_append.mp hp).elim (ha p) (hb p)
theorem OffC.cons {L : Addr} {q : Addr × Obj} {b : List (Addr × Obj)} (ha : (@Ne Nat q.1 (L+1)) ∧ (@Ne Nat q.1 (L+1+1)) ∧ (@Ne Nat q.1 (L+1+1+1)) ∧ (@Ne Nat q.1 (L+1+1+1+1)) ∧ (@Ne Nat q.1 (L+1+1+1+1+1))) (hb : OffC L b) : OffC L (q :: b) := fun p hp => by
  rcases List.mem_cons.mp hp with rfl | hp
  · exact ha
  · exact hb p hp
theorem offC_lt {L : Addr} {tl : List (Addr × Obj)} (h : ∀ p ∈ tl, @LT.lt Nat _ (L+1+1+1+1+1) p.1) : OffC L tl := fun p hp => by
  have := h p hp
  refine ⟨?_, ?_, ?_, ?_, ?_⟩ <;> omega
theorem drop_split {α : Type} (l : List α) (i k : Nat) : l.drop i = (l.drop i).take k ++ l.drop (i + k) := by
  rw [← List.drop_drop, List.take_append_drop]
/-- what stands for the law's call: the top, the text's own objects, the caller -/
structure Ctx0 (w : World) (mean : ExcName → Option Value) (mg mb : Str → Option Value) (base h₀ : Heap) : Prop where
  T : Top hd.view_39 (looseW hd.view_39 []) mean mg mb h₀
  X : (hd.heap_39 w.params).In h₀
  B : Below callerA base [] h₀
end Mine
end
section -- Lib
open PySem PySem.W PyProof.Rows
namespace Mine
theorem blk_inv {nw : List (Addr × Obj)} {v : Value} {p : Int × Int} (h : DatIn nw v (blk p)) : ∃ b t1 t2 c, v = .ref b ∧ (b, ({ cls := .type "tuple", data := .seq (List.toArray [.int p.1 t1, .int p.2 t2]) c } : Obj)) ∈ nw := by
  cases h with
  | tuple hm r =>
    cases r with
    | cons h1 r =>
      cases r with
      | cons h2 r =>
        cases r
        cases h1
        cases h2
        exact ⟨_, _, _, _, rfl, hm⟩
theorem adr_inv {nw : List (Addr × Obj)} {v : Value} {f : Int} {k : Nat} {tail : Str} (h : DatIn nw v (adrD f k tail)) : ∃ b t1 t2 c, v = .ref b ∧ (b, ({ cls := .type "tuple", data := .seq (List.toArray [.str (hostOf f) t1, .str (pth f (5 - k) ++ tail) t2]) c } : Obj)) ∈ nw := by
  cases h with
  | tuple hm r =>
    cases r with
    | cons h1 r =>
      cases r with
      | cons h2 r =>
        cases r
        cases h1
        cases h2
        exact ⟨_, _, _, _, rfl, hm⟩
/-- an item of a list of data -/
theorem dat_at {nw : List (Addr × Obj)} {vs : List Value} {α : Type} {l : List α} {g : α → Dat} (h : DatAll nw vs (l.map g)) {i : Nat} {v : Value} (hv : vs[i]? = some v) : ∃ a, l[i]? = some a ∧ DatIn nw v (g a) := by
  have hl := h.length
  rw [List.length_map] at hl
  obtain ⟨hi, _⟩ := List.getElem?_eq_some_iff.mp hv
  obtain ⟨v', e, d⟩ := h.get (k := i) (by rw [List.length_map]; omega)
  rw [hv] at e
  cases e
  refine ⟨l[i]'(by omega), List.getElem?_eq_getElem _, ?_⟩
  rw [List.getElem_map] at d
  exact d
theorem dat_get {nw : List (Addr × Obj)} {vs : List Value} {α : Type} {l : List α} {g : α → Dat} (h : DatAll nw vs (l.map g)) {i : Nat} (hi : i < l.length) : ∃ v, vs[i]? = some v ∧ DatIn nw v (g l[i]) := by
  obtain ⟨v, e, d⟩ := h.get (k := i) (by rw [List.length_map]; exact hi)
  rw [List.getElem_map] at d
  exact ⟨v, e, d⟩
section
variable {prog : Program} {w : World} {A : Around} {E : Value → Shared → Prop} {s : Shared} {h₀ : Heap} {L : Addr} {news : List (Addr × Obj)} {value slice : PySem.Expr} {l : Addr} {vs : List Value} {n : Nat} {k : Int} {u : Tok} {v : Value} {Q : Value → Shared → Prop}
theorem item_L (N : News h₀ L s.heap news) (hm : (l, W.listOf (List.toArray vs) n) ∈ news) (h0 : 0 ≤ k) (hhi : k < 2 ^ 63) (hx : vs[k.toNat]? = some v) (h : Q v s)
    (hs : subscripted slice false (.ref l) (.int k u) = operate [.ref l, .int k u] (getItem (.ref l) (.int k u)) := by with_unfolding_all rfl) :
    wpAny (model prog w) A (subscriptTail value slice (.ref l) (.int k u)) Q E s :=
  have hl : s.heap.IsList l vs.toArray := ⟨_, N.get hm, rfl, n, rfl⟩
  tail_any hl.typeIs slot_list_getitem.lookup (wpAny_getItem_list hl h0 hhi (by simpa using hx) h) hs
theorem item_Ln {i : Nat} (N : News h₀ L s.heap news) (hm : (l, W.listOf (List.toArray vs) n) ∈ news) (hi : i ≤ 1000) (hx : vs[i]? = some v) (h : Q v s)
    (hs : subscripted slice false (.ref l) (.int (i : Int) u) = operate [.ref l, .int (i : Int) u] (getItem (.ref l) (.int (i : Int) u)) := by with_unfolding_all rfl) :
    wpAny (model prog w) A (subscriptTail value slice (.ref l) (.int (i : Int) u)) Q E s :=
  item_L N hm (by omega) (Int.lt_of_le_of_lt (b := 1000) (by omega) (by decide)) (by simpa using hx) h hs
theorem len_L (N : News h₀ L s.heap news) (hm : (l, W.listOf (List.toArray vs) n) ∈ news) (hf : vs.length ≤ 1000) (h : Q (.int (vs.length : Nat) (s.toks + 1)) { s with toks := s.toks + 1 + 1 }) :
    wpAny (model prog w) A (call (.builtin "len") [.ref l]) Q E s := by
  have hl : s.heap.IsList l vs.toArray := ⟨_, N.get hm, rfl, n, rfl⟩
  refine len_list hl ?_ ?_
  · rw [List.size_toArray]; omega
  · rw [List.size_toArray]; exact h
end
theorem reads_bools (h : Heap) (bs : List Bool) : ∃ as, ReadsAll h (bs.map Value.bool) (bs.map PyData.bool) as := by
  induction bs with
  | nil => exact ⟨_, ReadsAll.nil⟩
  | cons b bs ih =>
    obtain ⟨as, r⟩ := ih
    exact ⟨_, ReadsAll.cons (Reads.bool b) r⟩
theorem lay_bools (bs : List Bool) : PyData.canLayAll0 (bs.map PyData.bool) = true ∧ PyData.depthAll (bs.map PyData.bool) ≤ 1 := by
  induction bs with
  | nil => simp [PyData.canLayAll0, PyData.depthAll]
  | cons b bs ih => simp [PyData.canLayAll0, PyData.depthAll, PyData.canLay0, PyData.depth, ih.1, ih.2]
theorem eqv_bools (bs cs : List Bool) : PyData.eqvAll (bs.map PyData.bool) (cs.map PyData.bool) = decide (bs = cs) := by
  induction bs generalizing cs with
  | nil => cases cs <;> simp [PyData.eqvAll]
  | cons b bs ih =>
    cases cs with
    | nil => simp [PyData.eqvAll]
    | cons c cs =>
      simp only [List.map_cons, PyData.eqvAll, PyData.eqv, ih]
      by_cases e : b = c <;> by_cases e2 : bs = cs <;> simp [e, e2]
theorem ne_bools {prog : Program} {w : World} {A : Around} {E : Value → Shared → Prop} {s : Shared} {h₀ : Heap} {L a b : Addr} {news : List (Addr × Obj)} {bs cs : List Bool} {n1 n2 : Nat} {Q : Value → Shared → Prop}
    (N : News h₀ L s.heap news) (ma : (a, W.listOf (List.toArray (bs.map Value.bool)) n1) ∈ news) (mb : (b, W.listOf (List.toArray (cs.map Value.bool)) n2) ∈ news) (hu : A.units + 64 < cLine) (h : Q (.bool (!decide (bs = cs))) s) :
    wpAny (model prog w) A (compareOp .NotEq (.ref a) (.ref b)) Q E s := by
  obtain ⟨as, ra⟩ := reads_bools s.heap bs
  obtain ⟨bs', rb⟩ := reads_bools s.heap cs
  refine ne_dataH (reads_list_at (N.get ma) rfl rfl ra) (reads_list_at (N.get mb) rfl rfl rb) ?_ ?_ hu ?_
  · have l := lay_bools bs
    unfold SeqAt.shaped
    simp only [PyData.canLay0, PyData.depth, l.1, Bool.true_and]
    exact decide_eq_true (by have := l.2; omega)
  · have l := lay_bools cs
    unfold SeqAt.shaped
    simp only [PyData.canLay0, PyData.depth, l.1, Bool.true_and]
    exact decide_eq_true (by have := l.2; omega)
  · have e : PyData.eqv (.list (bs.map PyData.bool)) (.list (cs.map PyData.bool)) = decide (bs = cs) := by rw [PyData.eqv, eqv_bools]
    rw [e]; exact h
end Mine
end
section -- SumL
open PySem PySem.W PyProof.Rows
namespace Mine
section
variable {prog : Program} {w : World} {A : Around} {E : Value → Shared → Prop} {s : Shared} {h₀ : Heap} {L t : Addr} {m : Str → Option Value} {news : List (Addr × Obj)}
theorem sum_L {its : Array Value} {k : Nat} {ns : List Int} {Q : Value → Shared → Prop} (hh : A.handled = none) (F : Fr h₀ L s.heap m) (N : News h₀ L s.heap news) (hm : (t, ({ cls := .type "list", data := .seq its k } : Obj)) ∈ news) (hi : IntsAre its.toList ns)
    (h : ∀ h' tk t', Fr h₀ L h' m → News h₀ L h' news → Q (.int ns.sum t') { s with heap := h', toks := tk }) :
    wpAny (model prog w) A (call (.builtin "sum") [.ref t]) Q E s := by
  have hl : s.heap.IsList t its := ⟨_, (N _ hm).1, rfl, k, rfl⟩
  obtain ⟨xs, hx⟩ := hi.allInts.items
  have hn : numsOf its.toList = ns := hi.numsOf
  rw [show its.toList.toArray = its from Array.toArray_toList] at hx
  rw [hx] at hl hn
  rw [nums_intItems] at hn
  refine sum_intListG hh hl fun h' tk t' hk => ?_
  have e := h h' tk t' (F.keeps hk) (fun p hp => ⟨hk _ _ (N p hp).1, (N p hp).2⟩)
  rw [preSum_eq, List.take_of_length_le (by simp), hn]; exact e
end
end Mine
end
section -- Cmp
open PySem PySem.W PyProof.Rows PyProof.Rows.LCg
namespace Mine
section
variable {prog : Program} {w : World} {A : Around} {s : Shared} {h₀ : Heap} {L : Addr} {m : Str → Option Value} {env : Env}
/-- one turn's end: what the element is, and what it made -/
def ElEnd (h₀ : Heap) (L : Addr) (m : Str → Option Value) (s₁ : Shared) (all news : List (Addr × Obj)) (J : Value → List (Addr × Obj) → Prop) (y : Value) (s₂ : Shared) : Prop :=
  ∃ h' tk tl, s₂ = { s₁ with heap := h', toks := tk } ∧ Fr h₀ L h' m ∧ News h₀ L h' (tl ++ all) ∧ (∀ q ∈ all, ∀ p ∈ tl, q.1 < p.1) ∧ J y (tl ++ news)
theorem ElEnd.intro {h₀ : Heap} {L : Addr} {m : Str → Option Value} {s₁ : Shared} {all news : List (Addr × Obj)} {J : Value → List (Addr × Obj) → Prop} {y : Value} {h' : Heap} {tk : Nat} (tl : List (Addr × Obj)) (F : Fr h₀ L h' m) (N : News h₀ L h' (tl ++ all)) (o : ∀ q ∈ all, ∀ p ∈ tl, q.1 < p.1) (j : J y (tl ++ news)) :
    ElEnd h₀ L m s₁ all news J y { s₁ with heap := h', toks := tk } := ⟨h', tk, tl, rfl, F, N, o, j⟩
theorem off3_app {I C D : Addr} {tl news : List (Addr × Obj)} (h1 : ∀ p ∈ tl, p.1 ≠ I ∧ p.1 ≠ C ∧ p.1 ≠ D) (h2 : Off3 I C D news) : Off3 I C D (tl ++ news) := by
  refine Off3.of fun p hp => ?_
  rcases List.mem_append.mp hp with hp | hp
  · exact h1 p hp
  · exact h2.mem p hp
theorem comp_ind {elt : PySem.Expr} {x : Str} {scope : Scope} {cl : List (Str × Addr)} {ax : Addr} {its : Array Value} {Fin : List Value → List (Addr × Obj) → Prop} (J : Nat → List Value → List (Addr × Obj) → Prop)
    (step : ∀ i v I oI C oC D m₂ h tk (E' : Value → Shared → Prop) ys news, its[i]? = some v → J i ys news → NsObj oC m₂ → m₂ x = some v → Fr h₀ L h m → News h₀ L h ((I, oI) :: (C, oC) :: (D, lst ys) :: news) → Off3 I C D news → ((@Ne Nat I C) ∧ (@Ne Nat I D) ∧ (@Ne Nat C D)) →
      wpAny (model prog w) A (eval elt (compEnvC scope cl C env)) (ElEnd h₀ L m { s with heap := h, toks := tk } ((I, oI) :: (C, oC) :: (D, lst ys) :: news) news (fun y nw => J (i + 1) (ys ++ [y]) nw)) E' { s with heap := h, toks := tk })
    (fin : ∀ ys news, J its.size ys news → Fin ys news) :
    ∀ k i ys news, i + k = its.size → SrcAt h₀ ax its news → J i ys news → CompRest prog w A h₀ L m env elt x scope cl s (SrcAt h₀ ax its) (fun i v => its[i]? = some v) Fin k i ys news := by
  intro k
  induction k with
  | zero =>
    intro i ys news hi _ hj
    exact CompRest.zero (fin _ _ (by rw [← hi]; exact hj))
  | succ k ih =>
    intro i ys news hi hs hj
    refine CompRest.succ ?_
    intro v I oI C oC D m₂ h tk E' hv hC hx F N off ne
    refine wpAny_mono (step i v I oI C oC D m₂ h tk E' ys news hv hj hC hx F N off ne) (fun y s₂ hy => ?_) fun _ _ e => e
    obtain ⟨h', tk', tl, rfl, F', N', o', j'⟩ := hy
    have hs' : SrcAt h₀ ax its (tl ++ news) := by
      rcases hs with hs | ⟨o, hm, r⟩
      · exact .inl hs
      · exact .inr ⟨o, List.mem_append.mpr (.inr hm), r⟩
    refine CompEnd.intro F' N' (tl ++ news) (fun p hp => ?_) (off3_app (fun p hp => ⟨Nat.ne_of_gt (o' _ (.head _) p hp), Nat.ne_of_gt (o' _ (.tail _ (.head _)) p hp), Nat.ne_of_gt (o' _ (.tail _ (.tail _ (.head _))) p hp)⟩) off) hs' (ih (i + 1) _ _ (by omega) hs' j')
    rcases List.mem_cons.mp hp with rfl | hp
    · exact List.mem_append.mpr (.inr (.head _))
    · rcases List.mem_cons.mp hp with rfl | hp
      · exact List.mem_append.mpr (.inr (.tail _ (.head _)))
      · rcases List.mem_cons.mp hp with rfl | hp
        · exact List.mem_append.mpr (.inr (.tail _ (.tail _ (.head _))))
        · rcases List.mem_append.mp hp with hp | hp
          · exact List.mem_append.mpr (.inl hp)
          · exact List.mem_append.mpr (.inr (.tail _ (.tail _ (.tail _ hp))))
end
theorem off1_mem {D : Addr} : ∀ {l : List (Addr × Obj)}, Off1 D l → ∀ p ∈ l, p.1 ≠ D
  | [], _, _, h => nomatch h
  | _ :: _, x, p, h => by
    rcases List.mem_cons.mp h with rfl | h
    · exact x.1
    · exact off1_mem x.2 p h
theorem off1_cells {L D : Addr} {o o1 o2 o3 o4 o5 : Obj} {tl TL : List (Addr × Obj)} (h : Off1 D (tl ++ ((L+1+1+1+1+1,o5) :: (L+1+1+1+1,o4) :: (L+1+1+1,o3) :: (L+1+1,o2) :: (L+1,o1) :: TL))) :
    (@Ne Nat (D, o).1 (L+1)) ∧ (@Ne Nat (D, o).1 (L+1+1)) ∧ (@Ne Nat (D, o).1 (L+1+1+1)) ∧ (@Ne Nat (D, o).1 (L+1+1+1+1)) ∧ (@Ne Nat (D, o).1 (L+1+1+1+1+1)) := by
  have g := off1_mem h
  have g5 := g (L+1+1+1+1+1, o5) (List.mem_append.mpr (.inr (.head _)))
  have g4 := g (L+1+1+1+1, o4) (List.mem_append.mpr (.inr (.tail _ (.head _))))
  have g3 := g (L+1+1+1, o3) (List.mem_append.mpr (.inr (.tail _ (.tail _ (.head _)))))
  have g2 := g (L+1+1, o2) (List.mem_append.mpr (.inr (.tail _ (.tail _ (.tail _ (.head _))))))
  have g1 := g (L+1, o1) (List.mem_append.mpr (.inr (.tail _ (.tail _ (.tail _ (.tail _ (.head _)))))))
  exact ⟨Ne.symm g1, Ne.symm g2, Ne.symm g3, Ne.symm g4, Ne.symm g5⟩
theorem led_F {h₀ h : Heap} {L : Addr} {d x4 x5 x6 x7 x8 : Addr × Obj} {tl TL : List (Addr × Obj)} (N : News h₀ L h (d :: (tl ++ (x4 :: x5 :: x6 :: x7 :: x8 :: TL)))) : News h₀ L h (x4 :: x5 :: x6 :: x7 :: x8 :: d :: (tl ++ TL)) := fun p hp => N p (by
  simp only [List.mem_cons, List.mem_append] at hp ⊢
  rcases hp with h | h | h | h | h | h | h | h <;> simp only [h, true_or, or_true])
end Mine
end
section -- Rng
open PySem PySem.W PySem.Calls PyProof.Rows PyProof.V PySem.Spec
namespace Mine
section
variable {prog : Program} {w : World} {A : Around} {E : Value → Shared → Prop} {s : Shared} {env : Env} {h₀ : Heap} {x : Str} {body : List Stmt} {Q : Flow → Shared → Prop}
set_option maxHeartbeats 3200000 in
theorem rng_iter {r : Addr} {b₀ : Int} {t₀ u₀ v₀ : Tok} {n : Nat} {m₀ : Str → Option Value} {news : List (Addr × Obj)} (J : Nat → (Str → Option Value) → List (Addr × Obj) → Prop)
    (hh : A.handled = none) (hr : IsRange s.heap r 0 b₀ 1 t₀ u₀ v₀) (hb : b₀ = (n : Int)) (hsmall : n ≤ 1000) (F : Fr h₀ env.locals s.heap m₀) (N : News h₀ env.locals s.heap news) (hj : J 0 m₀ news)
    (turn : ∀ (i : Nat) t m₁ nx h tk own, i < n → OwnOff own (nx.map (·.1)) → J i m₁ nx → Fr h₀ env.locals h (fun y => if y = x then some (.int (i : Int) t) else m₁ y) → News h₀ env.locals h (nx ++ own) →
      wpAny (model prog w) A (execs body env) (InvPostG h₀ env.locals (J (i + 1)) own { s with heap := h, toks := tk } Q) E { s with heap := h, toks := tk })
    (done : ∀ m₁ nx h tk, J n m₁ nx → Fr h₀ env.locals h m₁ → News h₀ env.locals h nx → Q .next { s with heap := h, toks := tk }) :
    wpAny (model prog w) A (pyIter (.ref r)) (fun it s₂ => LoopAtV prog w A h₀ env x body Q E it s₂) E s := by
  subst hb
  have hsm : Builtin.Range.small 0 (n : Int) 1 = true := small_one (by omega) (by omega) (by omega) (by omega)
  have hsz : Builtin.Range.rangeSize 0 (n : Int) 1 = (n : Int) := by
    unfold Builtin.Range.rangeSize
    by_cases h : 0 < (n : Int)
    · rw [if_pos (by decide), if_pos h]; omega
    · rw [if_pos (by decide), if_neg h]; omega
  refine wpAny_pyIter_range hr hsm ?_
  have W : Walks prog w A s.heap.objs.size [s.heap.objs.size] [s.heap.objs.size] n (fun i v => i < n ∧ ∃ t, v = .int (0 + i * 1) t)
      (fun i h => IsRangeIter h s.heap.objs.size (0 + (i : Nat) * 1) ((n : Int) - (i : Nat)) 1) := (Walks.range hh _ 0 1 n).bound
  refine kdr_loop J W (fun _ h => h) (fun _ h => h) ?_ ?_ ?_ ?_ (by show IsRangeIter _ _ _ _ _; rw [hsz]; simpa using Heap.get?_push_size _ rfl) (F.push _) (fun p hp => ⟨Heap.get?_push_of_some _ (N p hp).1, (N p hp).2⟩) hj ?_ ?_
  · intro i h hi b hb
    rw [List.mem_singleton.mp hb]
    exact ⟨_, hi⟩
  · intro hm
    exact absurd F.ns.lt ((List.mem_singleton.mp hm) ▸ Nat.lt_irrefl _)
  · intro b hb
    rw [List.mem_singleton.mp hb]
    exact next_is_new F
  · intro p hp hI
    exact absurd (Heap.lt_size (N p hp).1) ((List.mem_singleton.mp hI) ▸ Nat.lt_irrefl _)
  · rintro i v m₁ nx h tk own hi ⟨_, t, rfl⟩ hoff hJ F₁ N₁
    have e1 : (0 : Int) + (i : Int) * 1 = (i : Int) := by omega
    rw [e1] at F₁
    exact turn i t m₁ nx h tk own hi hoff hJ F₁ N₁
  · rintro m₁ nx h tk hJ F₁ N₁
    exact done m₁ nx h tk hJ F₁ N₁
end
end Mine
end
section -- ForC
open PySem PySem.W PySem.Calls PyProof.Rows PyProof.V PySem.Spec
namespace Mine
section
variable {prog : Program} {w : World} {A : Around} {s : Shared} {env : Env} {h₀ : Heap}
/-- a for over a made list, whatever its name's kind: the turn begins with the name's store -/
def LoopN (prog : Program) (w : World) (A : Around) (h₀ : Heap) (env : Env) (x : Str) (body : List Stmt) (Q : Flow → Shared → Prop) (xv : Value) (s₁ : Shared) : Prop :=
  ∃ (l : Addr) (vs : List Value) (nn : Nat) (m : Str → Option Value) (news : List (Addr × Obj)) (J : Nat → (Str → Option Value) → List (Addr × Obj) → Prop),
    xv = .ref l ∧ A.handled = none ∧ Fr h₀ env.locals s₁.heap m ∧ News h₀ env.locals s₁.heap ((l, W.listOf vs.toArray nn) :: news) ∧ (∀ p ∈ news, p.1 ≠ l) ∧ J 0 m news ∧
    (∀ i v m₁ news₁ h tk own, vs[i]? = some v → OwnOff own (news₁.map (·.1)) → J i m₁ news₁ → Fr h₀ env.locals h m₁ → News h₀ env.locals h (news₁ ++ own) →
      wpAny (model prog w) A (storeName env x v) (fun _ s' => wpAny (model prog w) A (execs body env) (InvPostG h₀ env.locals (J (i + 1)) own { s₁ with heap := h, toks := tk } Q) (fun _ _ => False) s') (fun _ _ => False) { s₁ with heap := h, toks := tk }) ∧
    (∀ m₁ news₁ h tk, J vs.length m₁ news₁ → Fr h₀ env.locals h m₁ → News h₀ env.locals h news₁ → Q .next { s₁ with heap := h, toks := tk })
set_option maxHeartbeats 3200000 in
theorem For_any {Q : Flow → Shared → Prop} {x : Str} {px pos : Pos} {iter : PySem.Expr} {body : List Stmt}
    (h : wpAny (model prog w) A (eval iter env) (LoopN prog w A h₀ env x body Q) (fun _ _ => False) s)
    (hs : ∀ x, foldedSetIterable iter env x = pure x := by intro _; rfl) :
    wpAny (model prog w) A (exec (.For (.Name x px) iter body [] pos) env) Q (fun _ _ => False) s := by
  refine wpAny_For (wpAny_mono h (fun xv s₁ h₁ => ?_) fun _ _ e => e) hs
  obtain ⟨l, vs, nn, m, news, J, rfl, hh, F, N, hnl, hj, turn, done⟩ := h₁
  have hol : s₁.heap.get? l = some (W.listOf vs.toArray nn) := (N _ (.head _)).1
  have hls : s₁.heap.IsList l vs.toArray := ⟨_, hol, rfl, nn, rfl⟩
  have hne : l ≠ s₁.heap.objs.size := Nat.ne_of_lt (Heap.lt_size hol)
  refine wpAny_pyIter_list hls ?_
  have W := Walks.list (prog := prog) (w := w) hh s₁.heap.objs.size l hne vs.toArray
  have hlen : vs.toArray.size = vs.length := by simp
  rw [hlen] at W
  have hl0 : h₀.get? l = none := (N _ (.head _)).2.2
  have hI0 : h₀.get? s₁.heap.objs.size = none := next_is_new F
  have hLf : env.locals ∉ [s₁.heap.objs.size, l] := by
    intro hm
    rcases List.mem_cons.mp hm with e | hm
    · exact absurd F.ns.lt (e ▸ Nat.lt_irrefl _)
    · exact (N _ (.head _)).2.1 ((List.mem_singleton.mp hm).symm)
  have old : ∀ b o, h₀.get? b = some o → b ∉ [s₁.heap.objs.size] := fun b o e hb => by rw [List.mem_singleton.mp hb, hI0] at e; cases e
  have hLw : env.locals ∉ [s₁.heap.objs.size] := fun h => hLf (W.sub _ h)
  have up : ∀ b o, s₁.heap.get? b = some o → (s₁.heap.push { cls := .type "list_iterator", data := .fields #[.ref l, .int 0 0] }).get? b = some o := fun b o e => Heap.get?_push_of_some _ e
  refine codeAny_forLoop
    (fun k s' => ∃ h' tk m' news' i, s' = { s₁ with heap := h', toks := tk } ∧ (h'.IsListIter s₁.heap.objs.size l i ∧ h'.IsList l vs.toArray) ∧ Fr h₀ env.locals h' m' ∧ News h₀ env.locals h' news' ∧ (∀ p ∈ news', p.1 ∉ [s₁.heap.objs.size, l]) ∧ J i m' news' ∧ i ≤ vs.length ∧ k = vs.length + 1 - i) ?_ (vs.length + 1)
    ⟨_, _, m, news, 0, rfl, ⟨⟨_, Heap.get?_push_size _ rfl, rfl, rfl⟩, hls.at fun o e => up _ _ e⟩, F.push _, (fun p hp => ⟨up _ _ (N p (.tail _ hp)).1, (N p (.tail _ hp)).2⟩), (fun p hp hm => ?_), hj, Nat.zero_le _, rfl⟩
  · rintro k s' ⟨h', tk, m', news', i, rfl, hst', F', N', hnw', hJ, hi, rfl⟩
    have next : ∀ h₁ : Heap, (∀ b o, b ∉ [s₁.heap.objs.size] → h'.get? b = some o → h₁.get? b = some o) → Fr h₀ env.locals h₁ m' ∧ News h₀ env.locals h₁ news' := fun h₁ hk₁ =>
      ⟨⟨F'.ns.at' fun o e => hk₁ _ o hLw e, fun b o e => hk₁ b o (old b o e) (F'.keep b o e), F'.above⟩, fun p hp => ⟨hk₁ _ _ (fun hm => hnw' p hp (W.sub _ hm)) (N' p hp).1, (N' p hp).2⟩⟩
    by_cases hlt : i < vs.length
    · refine W.item i _ _ _ hlt hst' fun v h₁ tk₁ hP hst₁ hk₁ => ?_
      obtain ⟨F₁, N₁⟩ := next h₁ hk₁
      have Nown : News h₀ env.locals h₁ (ownOf h₀ [s₁.heap.objs.size, l] h₁) := news_ownOf hLf
      have hoff : OwnOff (ownOf h₀ [s₁.heap.objs.size, l] h₁) (news'.map (·.1)) := by
        intro p hp b hb e
        obtain ⟨q, hq, rfl⟩ := List.mem_map.mp hb
        exact hnw' q hq (e ▸ ownOf_sub p hp)
      have N₂ : News h₀ env.locals h₁ (news' ++ ownOf h₀ [s₁.heap.objs.size, l] h₁) := fun p hp => (List.mem_append.mp hp).elim (N₁ p) (Nown p)
      refine wpAny_assign_Name (wpAny_mono (turn i v m' news' h₁ tk₁ _ (by simpa using hP) hoff hJ F₁ N₂) (fun _ s₂ h₂ => wpAny_mono h₂ (fun f s₃ h₃ => ?_) fun _ _ e => e.elim) fun _ _ e => e.elim)
      have fin : InvEndG h₀ env.locals (J (i + 1)) (ownOf h₀ [s₁.heap.objs.size, l] h₁) { s₁ with heap := h₁, toks := tk₁ } s₃ →
          ∃ k', k' < vs.length + 1 - i ∧ ∃ h' tk m' news' i', s₃ = { s₁ with heap := h', toks := tk } ∧ (h'.IsListIter s₁.heap.objs.size l i' ∧ h'.IsList l vs.toArray) ∧ Fr h₀ env.locals h' m' ∧ News h₀ env.locals h' news' ∧ (∀ p ∈ news', p.1 ∉ [s₁.heap.objs.size, l]) ∧ J i' m' news' ∧ i' ≤ vs.length ∧ k' = vs.length + 1 - i' := by
        rintro ⟨h₃', tk₃, m₂, all, nx, rfl, F₃, N₃, hn, ho, ha, hJ₃⟩
        refine ⟨vs.length + 1 - (i + 1), by omega, h₃', tk₃, m₂, nx, i + 1, rfl, ?_, F₃, fun p hp => N₃ p (hn p hp), ?_, hJ₃, hlt, rfl⟩
        · refine W.frame _ _ _ hst₁ fun b hb o e => ?_
          have hb0 : h₀.get? b = none := by
            rcases List.mem_cons.mp hb with rfl | hb
            · exact hI0
            · rw [List.mem_singleton.mp hb]; exact hl0
          exact (N₃ _ (ho _ (mem_ownOf hb hb0 e))).1
        · intro p hp hm
          obtain ⟨⟨oI, hoI, _⟩, ⟨oL, hoL, _⟩⟩ := id hst₁
          rcases List.mem_cons.mp hm with e | hm
          · exact ha _ (mem_ownOf (List.mem_cons.mpr (.inl rfl)) hI0 hoI) p.1 (List.mem_map.mpr ⟨p, hp, rfl⟩) e.symm
          · exact ha _ (mem_ownOf (List.mem_cons.mpr (.inr (List.mem_singleton.mpr rfl))) hl0 hoL) p.1 (List.mem_map.mpr ⟨p, hp, rfl⟩) ((List.mem_singleton.mp hm).symm)
      cases f with
      | ret v => exact h₃
      | brk => exact h₃
      | cont => exact fin h₃
      | next => exact fin h₃
    · have hin : i = vs.length := by omega
      subst hin
      refine W.done _ _ _ hst' fun h₁ tk₁ hk₁ => wpAny_execs_nil ?_
      obtain ⟨F₁, N₁⟩ := next h₁ hk₁
      exact done m' news' h₁ tk₁ hJ F₁ N₁
  · rcases List.mem_cons.mp hm with e | hm
    · exact absurd (Heap.lt_size (N p (.tail _ hp)).1) (e ▸ Nat.lt_irrefl _)
    · exact hnl p hp (List.mem_singleton.mp hm)
end
end Mine
end
section -- M1
namespace Mine
open PySem PySem.W PyProof.Rows
theorem step_fit {f e : Int} (h : f < e) : f + 2 ^ stepK f e ≤ e := by
  unfold stepK
  generalize lowK f = k
  induction k with
  | zero => simp [fitK]; omega
  | succ k ih =>
    rw [fitK]
    split
    · exact ih
    · omega
theorem cnt_blk {e x : Int} (n : Nat) : ∀ f : Int, f ≤ e → e - f ≤ (n : Int) → ((((blkL e n f).map (inB x)).filter (· = false)).length : Int) = ((blkL e n f).length : Int) - (if f ≤ x ∧ x < e then 1 else 0) := by
  induction n with
  | zero =>
    intro f h1 h2
    rw [blkL, if_neg (by omega)]; rfl
  | succ n ih =>
    intro f h1 h2
    by_cases hlt : f < e
    · have hs := step_fit hlt
      have hp := pow_pos' (stepK f e)
      rw [blk_go hlt]
      have h := ih (f + 2 ^ stepK f e) hs (by omega)
      rw [List.map_cons, List.length_cons]
      by_cases hin : f ≤ x ∧ x < f + 2 ^ stepK f e
      · have hb : inB x (f, 2 ^ stepK f e) = true := by simp [inB, hin.1, hin.2]
        rw [hb, List.filter_cons_of_neg (by simp), h, if_neg (by omega), if_pos (by omega)]
        push_cast
        omega
      · have hb : inB x (f, 2 ^ stepK f e) = false := by
          rw [inB, Bool.and_eq_false_iff, decide_eq_false_iff_not, decide_eq_false_iff_not]
          dsimp only
          omega
        rw [hb, List.filter_cons_of_pos (by simp), List.length_cons]
        push_cast
        rw [h]
        have : (f + 2 ^ stepK f e ≤ x ∧ x < e) ↔ (f ≤ x ∧ x < e) := by omega
        by_cases hx : f ≤ x ∧ x < e
        · rw [if_pos hx, if_pos (this.mpr hx)]; omega
        · rw [if_neg hx, if_neg (fun h => hx (this.mp h))]; omega
    · rw [blk_stop _ hlt, if_neg (by omega)]; rfl
theorem cnt_inB {x0 x1 x : Int} (q1 : 0 ≤ x0) (q2 : x0 ≤ x1) (q3 : x1 ≤ 64) :
   ((((blkL x1 64 x0).map (inB x)).filter (· = false)).length : Int) = ((blkL x1 64 x0).length : Int) - (if x0 ≤ x ∧ x < x1 then 1 else 0) := cnt_blk 64 x0 q2 (by omega)
end Mine
end
section -- M2
namespace Mine
open PySem PySem.W PyProof.Rows
theorem pow_step (k : Nat) : (2 : Int) ^ (k + 1) = 2 ^ k + 2 ^ k := by rw [Int.pow_succ]; omega
theorem due_left {a b : Int} (k : Nat) : ∀ n, n + 2 ^ k ≤ a → dueL a b k n = [] := by
  intro n h
  have hp := pow_pos' k
  cases k with
  | zero => rw [dueL, if_neg (by simp at h; omega)]
  | succ k => rw [dueL, if_neg (by omega), if_pos (by omega)]
theorem due_right {a b : Int} (k : Nat) : ∀ n, b ≤ n → dueL a b k n = [] := by
  intro n h
  have hp := pow_pos' k
  cases k with
  | zero => rw [dueL, if_neg (by omega)]
  | succ k => rw [dueL, if_neg (by omega), if_pos (by omega)]
theorem due_split {a b n : Int} {k : Nat} (h : ¬ (a ≤ n ∧ n + 2 ^ (k + 1) ≤ b)) : dueL a b (k + 1) n = dueL a b k n ++ dueL a b k (n + 2 ^ k) := by
  have hp := pow_pos' k
  have hq := pow_step k
  rw [dueL, if_neg h]
  split
  · rename_i ho
    rcases ho with ho | ho
    · rw [due_left k n (by omega), due_left k _ (by omega)]; rfl
    · rw [due_right k n ho, due_right k _ (by omega)]; rfl
  · rfl
theorem due_empty {a b : Int} (h : b ≤ a) (k : Nat) : ∀ n, dueL a b k n = [] := by
  induction k with
  | zero => intro n; rw [dueL, if_neg (by omega)]
  | succ k ih =>
    intro n
    have hp := pow_pos' (k + 1)
    rw [due_split (by omega), ih, ih]; rfl
theorem due_shift {a a' b : Int} (k : Nat) : ∀ n, a ≤ n → a' ≤ n → dueL a b k n = dueL a' b k n := by
  induction k with
  | zero =>
    intro n h1 h2
    rw [dueL, dueL]
    by_cases hb : n + 1 ≤ b
    · rw [if_pos ⟨h1, hb⟩, if_pos ⟨h2, hb⟩]
    · rw [if_neg (by omega), if_neg (by omega)]
  | succ k ih =>
    intro n h1 h2
    have hp := pow_pos' k
    by_cases hb : n + 2 ^ (k + 1) ≤ b
    · rw [dueL, dueL, if_pos ⟨h1, hb⟩, if_pos ⟨h2, hb⟩]
    · rw [due_split (by omega), due_split (by omega), ih n h1 h2, ih _ (by omega) (by omega)]
theorem dvd_gap {s : Nat} {f m : Int} (h1 : (2 : Int) ^ s ∣ f) (h2 : (2 : Int) ^ s ∣ m) (h : f < m) : f + 2 ^ s ≤ m := by
  have hd : (2 : Int) ^ s ∣ m - f := Int.dvd_sub h2 h1
  have := Int.le_of_dvd (by omega) hd
  omega
theorem pow_dvd {s k : Nat} (h : s ≤ k) : (2 : Int) ^ s ∣ 2 ^ k := ⟨2 ^ (k - s), by rw [← Int.pow_add]; congr 1; omega⟩
theorem due_first {f e : Int} {s : Nat} (hs : (2 : Int) ^ s ∣ f) (he : f + 2 ^ s ≤ e) (hm : (s < 5 → ¬ (2 : Int) ^ (s + 1) ∣ f) ∨ e < f + 2 ^ (s + 1)) (k : Nat) :
    k ≤ 5 → s ≤ k → ∀ n : Int, (2 : Int) ^ k ∣ n → n ≤ f → f + 2 ^ s ≤ n + 2 ^ k → dueL f e k n = (f, 2 ^ s) :: dueL (f + 2 ^ s) e k n := by
  induction k with
  | zero =>
    intro _ hk n hn h1 h2
    obtain rfl : s = 0 := by omega
    have hfn : f = n := by omega
    subst hfn
    rw [due_left 0 f (Int.le_refl _), dueL, if_pos (by simp at he; omega)]; rfl
  | succ k ih =>
    intro hk5 hk n hn h1 h2
    have hp := pow_pos' k
    have hq := pow_step k
    have hps := pow_pos' s
    by_cases hsk : s = k + 1
    · have hfn : f = n := by rw [hsk] at h2; omega
      subst hfn
      rw [hsk] at he ⊢
      rw [due_left (k + 1) f (Int.le_refl _), dueL, if_pos ⟨Int.le_refl _, he⟩]
    · have hle : s ≤ k := by omega
      have hin : ¬ (f ≤ n ∧ n + 2 ^ (k + 1) ≤ e) := by
        rintro ⟨a1, a2⟩
        have hfn : f = n := by omega
        subst hfn
        rcases hm with hm | hm
        · exact hm (by omega) (Int.dvd_trans (pow_dvd (by omega)) hn)
        · have : (2 : Int) ^ (s + 1) ≤ 2 ^ (k + 1) := Int.le_of_dvd (pow_pos' _) (pow_dvd (by omega))
          omega
      rw [due_split hin, due_split (a := f + 2 ^ s) (by omega)]
      have hmid : (2 : Int) ^ k ∣ n + 2 ^ k := Int.dvd_add (Int.dvd_trans (pow_dvd (by omega)) hn) (Int.dvd_refl _)
      by_cases hf : f < n + 2 ^ k
      · have hg := dvd_gap hs (Int.dvd_trans (pow_dvd hle) hmid) hf
        rw [ih (by omega) hle n (Int.dvd_trans (pow_dvd (by omega)) hn) h1 hg, due_shift k (n + 2 ^ k) (a := f) (a' := f + 2 ^ s) (by omega) hg]; rfl
      · rw [due_left k n (a := f) (by omega), due_left k n (a := f + 2 ^ s) (by omega), ih (by omega) hle _ hmid (by omega) (by omega)]; rfl
theorem low_dvd (f : Int) : (2 : Int) ^ lowK f ∣ f := by
  unfold lowK
  split
  · exact Int.dvd_of_emod_eq_zero (by simpa using ‹_›)
  · split
    · exact Int.dvd_of_emod_eq_zero (by simpa using ‹f % 16 = 0›)
    · split
      · exact Int.dvd_of_emod_eq_zero (by simpa using ‹f % 8 = 0›)
      · split
        · exact Int.dvd_of_emod_eq_zero (by simpa using ‹f % 4 = 0›)
        · split
          · exact Int.dvd_of_emod_eq_zero (by simpa using ‹f % 2 = 0›)
          · exact Int.dvd_of_emod_eq_zero (by simp)
theorem low_max (f : Int) (h : lowK f < 5) : ¬ (2 : Int) ^ (lowK f + 1) ∣ f := by
  intro hd
  have hz := Int.emod_eq_zero_of_dvd hd
  revert h hz
  unfold lowK
  split
  · intro h; omega
  · split
    · intro _ hz; simp at hz; omega
    · split
      · intro _ hz; simp at hz; omega
      · split
        · intro _ hz; simp at hz; omega
        · split
          · intro _ hz; simp at hz; omega
          · intro _ hz; simp at hz; omega
theorem fit_max (f e : Int) (k : Nat) : fitK f e k = k ∨ e < f + 2 ^ (fitK f e k + 1) := by
  induction k with
  | zero => exact .inl rfl
  | succ k ih =>
    rw [fitK]
    split
    · rename_i h
      rcases ih with ih | ih
      · right; rw [ih]; exact h
      · exact .inr ih
    · exact .inl rfl
theorem step_max (f e : Int) : (stepK f e < 5 → ¬ (2 : Int) ^ (stepK f e + 1) ∣ f) ∨ e < f + 2 ^ (stepK f e + 1) := by
  rcases fit_max f e (lowK f) with h | h
  · left; intro h5; unfold stepK at h5 ⊢; rw [h] at h5 ⊢; exact low_max f h5
  · exact .inr h
theorem step_le (f e : Int) : stepK f e ≤ 5 := Nat.le_trans (fit_le _ _ _) (low_le f)
theorem step_dvd (f e : Int) : (2 : Int) ^ stepK f e ∣ f := Int.dvd_trans (pow_dvd (fit_le f e _)) (low_dvd f)
noncomputable def DUE (a b : Int) : List (Int × Int) := dueL a b 5 0 ++ dueL a b 5 32
theorem DUE_first {f e : Int} (h0 : 0 ≤ f) (h1 : e ≤ 64) (hlt : f < e) : DUE f e = (f, 2 ^ stepK f e) :: DUE (f + 2 ^ stepK f e) e := by
  have hs := step_fit hlt
  have hd := step_dvd f e
  have h32 : (2 : Int) ^ stepK f e ∣ 32 := pow_dvd (k := 5) (step_le f e)
  have h64 : (2 : Int) ^ stepK f e ∣ 64 := Int.dvd_trans h32 ⟨2, rfl⟩
  have hp := pow_pos' (stepK f e)
  unfold DUE
  by_cases hf : f < 32
  · have hg := dvd_gap hd h32 hf
    rw [due_first hd hs (step_max f e) 5 (Nat.le_refl _) (step_le f e) 0 (Int.dvd_zero _) h0 (by simpa using hg), due_shift 5 32 (a := f) (a' := f + 2 ^ stepK f e) (by omega) hg]; rfl
  · have hg := dvd_gap hd h64 (by omega)
    rw [due_left 5 0 (a := f) (by simp; omega), due_left 5 0 (a := f + 2 ^ stepK f e) (by simp; omega), due_first hd hs (step_max f e) 5 (Nat.le_refl _) (step_le f e) 32 ⟨1, rfl⟩ (by omega) (by simpa using hg)]; rfl
theorem blk_DUE {e : Int} (h1 : e ≤ 64) (n : Nat) : ∀ f : Int, 0 ≤ f → e - f ≤ (n : Int) → blkL e n f = DUE f e := by
  induction n with
  | zero =>
    intro f h0 h
    rw [blkL, DUE, due_empty (by omega), due_empty (by omega)]; rfl
  | succ n ih =>
    intro f h0 h
    by_cases hlt : f < e
    · have hp := pow_pos' (stepK f e)
      rw [blk_go hlt, DUE_first h0 h1 hlt, ih _ (by omega) (by omega)]
    · rw [blk_stop _ hlt, DUE, due_empty (by omega), due_empty (by omega)]; rfl
theorem blk_due {p q : Int} (h0 : 0 ≤ p) (h3 : q ≤ 64) : blkL q 64 p = dueL p q 5 0 ++ dueL p q 5 32 := blk_DUE h3 64 p h0 (by omega)
end Mine
end
section -- M3
namespace Mine
open PySem PySem.W PyProof.Rows
def pc (b : Bool) : List Nat := if b then [47, 97] else [47, 97, 98]
noncomputable def enc : List Bool → List Nat
  | [] => []
  | b :: bs => pc b ++ enc bs
theorem enc_app (xs ys : List Bool) : enc (xs ++ ys) = enc xs ++ enc ys := by
  induction xs with
  | nil => rfl
  | cons b xs ih => rw [List.cons_append, enc, enc, ih, List.append_assoc]
def zb (f : Int) (j : Nat) : Bool := decide (Builtin.bitAnd f (wid j) = 0)
def bits (f : Int) (n : Nat) : List Bool := (List.range n).map (zb f)
theorem bits_len (f : Int) (n : Nat) : (bits f n).length = n := by simp [bits]
theorem cps_a : (Str.ofString "/a").cps.toList = [47, 97] := by decide +kernel
theorem cps_ab : (Str.ofString "/ab").cps.toList = [47, 97, 98] := by decide +kernel
theorem cps_nil : (Str.ofString "").cps.toList = [] := by decide +kernel
theorem cps_sl : (Str.ofString "/").cps.toList = [47] := by decide +kernel
theorem pth_enc (f : Int) (n : Nat) : (pth f n).cps.toList = enc (bits f n) := by
  induction n with
  | zero => rw [pth, cps_nil]; rfl
  | succ n ih =>
    have hb : bits f (n + 1) = bits f n ++ [zb f n] := by simp [bits, List.range_succ]
    rw [pth, Str.cps_append, Array.toList_append, ih, hb, enc_app]
    congr 1
    show (piece f (wid n)).cps.toList = enc [zb f n]
    unfold piece zb
    by_cases h : Builtin.bitAnd f (wid n) = 0
    · rw [if_pos h, cps_a, decide_eq_true h]; rfl
    · rw [if_neg h, cps_ab, decide_eq_false h]; rfl
theorem str_eq {x y : Str} : x = y ↔ x.cps.toList = y.cps.toList := by
  constructor
  · rintro rfl; rfl
  · intro h; cases x; cases y; congr; exact Array.toList_inj.mp h
theorem starts_iff (x y : Str) : Txt.startswith x y = true ↔ y.cps.toList <+: x.cps.toList := by
  unfold Txt.startswith
  rw [Bool.and_eq_true, decide_eq_true_eq, StrLaws.subAt_eq, beq_iff_eq, List.drop_zero]
  have hl : y.length = y.cps.toList.length := by simp [Str.length]
  constructor
  · rintro ⟨_, h⟩
    rw [← h]; exact List.take_prefix _ _
  · intro h
    refine ⟨?_, ?_⟩
    · have := h.length_le
      simp [Str.length] at this ⊢; omega
    · rw [hl]; exact (List.prefix_iff_eq_take.mp h).symm
theorem slice_last (x : Str) : (Txt.slice x (some (-1)) none).cps.toList = x.cps.toList.drop (x.length - 1) := by
  by_cases h : x.length = 0
  · have hx : x.cps.toList = [] := by simpa [Str.length] using h
    have := Txt.slice_le x (some (-1)) none
    rw [h] at this
    have h2 : (Txt.slice x (some (-1)) none).cps.toList = [] := by
      have : (Txt.slice x (some (-1)) none).length = 0 := by omega
      simpa [Str.length] using this
    rw [h2, hx, List.drop_nil]
  · have e : Txt.slice x (some (-1)) none = Txt.slice x (some ((x.length : Int) - 1)) none := by
      unfold Txt.slice
      have : Builtin.Str.strSliceIndices (some (-1)) none 1 x.length = Builtin.Str.strSliceIndices (some ((x.length : Int) - 1)) none 1 x.length := by
        unfold Builtin.Str.strSliceIndices
        simp only []
        rw [if_pos (by decide), if_neg (show ¬ ((x.length : Int) - 1 < 0) by omega)]
        congr 2
      rw [this]
    rw [e, slice_from_eq (by omega) (by omega) rfl]
    have e2 : ((x.length : Int) - 1).toNat = x.length - 1 := by omega
    have e3 : ((x.length : Int) - ((x.length : Int) - 1)).toNat = 1 := by omega
    rw [e2, e3]
    simp only []
    apply List.take_of_length_le
    rw [List.length_drop]
    simp [Str.length]; omega
theorem enc_head (bs : List Bool) (t : List Nat) (ht : t = [] ∨ ∃ r, t = 47 :: r) : enc bs ++ t = [] ∨ ∃ r, enc bs ++ t = 47 :: r := by
  cases bs with
  | nil => exact ht
  | cons b bs => right; cases b <;> exact ⟨_, rfl⟩
theorem enc_last (bs : List Bool) : (enc bs).drop ((enc bs).length - 1) ≠ [47] := by
  rcases List.eq_nil_or_concat bs with rfl | ⟨cs, b, rfl⟩
  · decide
  · rw [List.concat_eq_append, enc_app]
    cases b
    · have : enc [false] = [47, 97, 98] := rfl
      rw [this, List.length_append, show (enc cs).length + [47, 97, 98].length - 1 = (enc cs).length + 2 from rfl, List.drop_append, List.drop_eq_nil_of_le (by omega), Nat.add_sub_cancel_left]
      decide
    · have : enc [true] = [47, 97] := rfl
      rw [this, List.length_append, show (enc cs).length + [47, 97].length - 1 = (enc cs).length + 1 from rfl, List.drop_append, List.drop_eq_nil_of_le (by omega), Nat.add_sub_cancel_left]
      decide
theorem enc_pre (bs : List Bool) : ∀ (cs : List Bool) (t : List Nat), (t = [] ∨ ∃ r, t = 47 :: r) → (bs.length ≤ cs.length ∨ t = [] ∨ t = [47]) → ((enc bs ++ [47]) <+: (enc cs ++ t) ↔ bs <+: cs ∧ (bs.length < cs.length ∨ t ≠ [])) := by
  induction bs with
  | nil =>
    intro cs t ht _
    cases cs with
    | nil =>
      rcases ht with rfl | ⟨r, rfl⟩
      · simp [enc]
      · simp [enc]
    | cons c cs => cases c <;> simp [enc, pc]
  | cons b bs ih =>
    intro cs t ht hl
    cases cs with
    | nil =>
      have hno : ¬ ((enc (b :: bs) ++ [47]) <+: (enc [] ++ t)) := by
        rcases hl with hl | rfl | rfl
        · simp at hl
        · intro h; have := h.length_le; simp [enc] at this
        · intro h; have := h.length_le
          cases b <;> simp [enc, pc] at this
      constructor
      · intro h; exact absurd h hno
      · rintro ⟨h, _⟩; simp at h
    | cons c cs =>
      have hl' : bs.length ≤ cs.length ∨ t = [] ∨ t = [47] := by
        rcases hl with hl | hl
        · left; simpa using hl
        · exact .inr hl
      have hih := ih cs t ht hl'
      by_cases hbc : b = c
      · subst hbc
        rw [enc, enc, List.append_assoc, List.append_assoc, List.prefix_append_right_inj, hih]
        simp
      · have hno : ¬ ((enc (b :: bs) ++ [47]) <+: (enc (c :: cs) ++ t)) := by
          intro h
          rw [enc, enc, List.append_assoc, List.append_assoc] at h
          have h1 := enc_head bs [47] (.inr ⟨[], rfl⟩)
          have h2 := enc_head cs t ht
          cases b <;> cases c
          · exact hbc rfl
          · -- 47,97,98.. against 47,97,(rest)
            have h' : [98] ++ (enc bs ++ [47]) <+: enc cs ++ t := by simpa [pc] using h
            rcases h2 with h2 | ⟨r, h2⟩
            · rw [h2] at h'; simp at h'
            · rw [h2] at h'; simp at h'
          · have h' : enc bs ++ [47] <+: [98] ++ (enc cs ++ t) := by simpa [pc] using h
            rcases h1 with h1 | ⟨r, h1⟩
            · simp at h1
            · rw [h1] at h'; simp at h'
          · exact hbc rfl
        constructor
        · intro h; exact absurd h hno
        · rintro ⟨h, _⟩
          exact absurd (List.cons_prefix_cons.mp h).1 hbc
end Mine
end
section -- M4
namespace Mine
open PySem PySem.W PyProof.Rows
theorem near_list (f : Int) (n : Nat) (t : Str) : (pth f n ++ t).cps.toList = enc (bits f n) ++ t.cps.toList := by
  rw [Str.cps_append, Array.toList_append, pth_enc]
theorem near_noslash (f : Int) (n : Nat) {t : Str} (ht : t.cps.toList = []) : (Txt.slice (pth f n ++ t) (some (-1)) none != Str.ofString "/") = true := by
  rw [bne_iff_ne]
  intro h
  rw [str_eq, slice_last, cps_sl, near_list, ht, List.append_nil] at h
  have hl : (pth f n ++ t).length = (enc (bits f n)).length := by
    have := congrArg List.length (near_list f n t)
    rw [ht, List.append_nil] at this
    simpa [Str.length] using this
  rw [hl] at h
  exact enc_last _ h
theorem far_slash (f : Int) (n : Nat) {t : Str} (ht : t.cps.toList = [47]) : ¬ (Txt.slice (pth f n ++ t) (some (-1)) none != Str.ofString "/") = true := by
  intro h
  rw [bne_iff_ne] at h
  apply h
  rw [str_eq, slice_last, cps_sl, near_list, ht]
  have hl : (pth f n ++ t).length = (enc (bits f n)).length + 1 := by
    have := congrArg List.length (near_list f n t)
    rw [ht, List.length_append] at this
    simpa [Str.length] using this
  rw [hl, Nat.add_sub_cancel, List.drop_left]
/-- a base without a slash at its end -/
theorem sub_plain {f g : Int} {n m : Nat} {u t : Str} (hu : u.cps.toList = []) (ht : t.cps.toList = [] ∨ ∃ r, t.cps.toList = 47 :: r) (hnm : n ≤ m) :
    subS (hostOf f) (pth f n ++ u) (hostOf g) (pth g m ++ t) = true ↔ hostOf f = hostOf g ∧ bits f n <+: bits g m := by
  have hpre : ∀ t' : List Nat, (t' = [] ∨ ∃ r, t' = 47 :: r) → ((enc (bits f n) ++ [47]) <+: (enc (bits g m) ++ t') ↔ bits f n <+: bits g m ∧ ((bits f n).length < (bits g m).length ∨ t' ≠ [])) :=
    fun t' h => enc_pre _ _ _ h (.inl (by rw [bits_len, bits_len]; exact hnm))
  have hst : Txt.startswith (pth g m ++ t) (pth f n ++ u ++ Str.ofString "/") = true ↔ bits f n <+: bits g m ∧ ((bits f n).length < (bits g m).length ∨ t.cps.toList ≠ []) := by
    rw [starts_iff, Str.cps_append, Array.toList_append, near_list, near_list, hu, List.append_nil, cps_sl]
    exact hpre _ ht
  unfold subS
  by_cases he : hostOf f = hostOf g ∧ pth f n ++ u = pth g m ++ t
  · rw [if_pos he]
    refine ⟨fun _ => ⟨he.1, ?_⟩, fun _ => rfl⟩
    have e := str_eq.mp he.2
    rw [near_list, near_list, hu, List.append_nil] at e
    refine ((hpre (t.cps.toList ++ [47]) ?_).mp ?_).1
    · right
      rcases ht with ht | ⟨r, ht⟩
      · exact ⟨[], by rw [ht]; rfl⟩
      · exact ⟨r ++ [47], by rw [ht]; rfl⟩
    · rw [e, List.append_assoc]; exact List.prefix_refl _
  · rw [if_neg he]
    by_cases hh : hostOf f = hostOf g
    · rw [if_neg (by simp [hh]), if_pos (near_noslash f n hu), hst]
      refine ⟨fun h => ⟨hh, h.1⟩, fun h => ⟨h.2, ?_⟩⟩
      by_cases hlt : n < m
      · left; rw [bits_len, bits_len]; exact hlt
      · right
        intro htn
        apply he
        refine ⟨hh, str_eq.mpr ?_⟩
        rw [near_list, near_list, hu, htn, List.append_nil, List.append_nil, h.2.eq_of_length (by rw [bits_len, bits_len]; omega)]
    · rw [if_pos (by simp [hh])]
      simp [hh]
theorem sub_plain_gt {f g : Int} {n m : Nat} {u t : Str} (hu : u.cps.toList = []) (ht : t.cps.toList = [] ∨ t.cps.toList = [47]) (hnm : m < n) :
    subS (hostOf f) (pth f n ++ u) (hostOf g) (pth g m ++ t) = false := by
  have hnp : ¬ bits f n <+: bits g m := by
    intro h
    have := h.length_le
    rw [bits_len, bits_len] at this
    omega
  have ht' : t.cps.toList = [] ∨ ∃ r, t.cps.toList = 47 :: r := ht.imp id fun h => ⟨[], h⟩
  unfold subS
  rw [if_neg]
  · by_cases hh : hostOf f = hostOf g
    · rw [if_neg (by simp [hh]), if_pos (near_noslash f n hu), ← Bool.not_eq_true, starts_iff, Str.cps_append, Array.toList_append, near_list, near_list, hu, List.append_nil, cps_sl, enc_pre _ _ _ ht' (.inr ht)]
      exact fun h => hnp h.1
    · rw [if_pos (by simp [hh])]
  · rintro ⟨_, e⟩
    have e := str_eq.mp e
    rw [near_list, near_list, hu, List.append_nil] at e
    rcases ht with ht | ht
    · rw [ht, List.append_nil] at e
      refine hnp ((enc_pre _ (bits g m) [47] (.inr ⟨[], rfl⟩) (.inr (.inr rfl))).mp ?_).1
      rw [e]; exact List.prefix_refl _
    · refine enc_last (bits f n) ?_
      rw [e, ht, List.length_append, List.length_singleton, Nat.add_sub_cancel, List.drop_left]
/-- a base with a slash at its end -/
theorem sub_slash {f g : Int} {n m : Nat} {u t : Str} (ht : t.cps.toList = [47]) (hu : u.cps.toList = []) :
    subS (hostOf g) (pth g m ++ t) (hostOf f) (pth f n ++ u) = true ↔ hostOf g = hostOf f ∧ bits g m <+: bits f n ∧ m < n := by
  unfold subS
  rw [if_neg]
  · by_cases hh : hostOf g = hostOf f
    · rw [if_neg (by simp [hh]), if_neg (far_slash g m ht), starts_iff, near_list, near_list, hu, ht, enc_pre _ _ _ (.inl rfl) (.inr (.inl rfl)), bits_len, bits_len]
      simp [hh]
    · rw [if_pos (by simp [hh])]
      simp [hh]
  · rintro ⟨_, e⟩
    have e := str_eq.mp e
    rw [near_list, near_list, hu, List.append_nil, ht] at e
    refine enc_last (bits f n) ?_
    rw [← e, List.length_append, List.length_singleton, Nat.add_sub_cancel, List.drop_left]
end Mine
end
section -- M5
namespace Mine
open PySem PySem.W PyProof.Rows
theorem zb_fin : ∀ i : Fin 64, ∀ j : Fin 5, zb (i.val : Int) j.val = decide (((i.val : Int) / 2 ^ (4 - j.val)) % 2 = 0) := by decide +kernel
theorem hb_fin : ∀ i : Fin 64, decide (Builtin.bitAnd (i.val : Int) 32 = 0) = decide ((i.val : Int) < 32) := by decide +kernel
theorem zb_eq {f : Int} (h0 : 0 ≤ f) (h1 : f < 64) {j : Nat} (hj : j < 5) : zb f j = decide ((f / 2 ^ (4 - j)) % 2 = 0) := by
  have := zb_fin ⟨f.toNat, by omega⟩ ⟨j, hj⟩
  simpa [Int.toNat_of_nonneg h0] using this
theorem zb_same {f g : Int} (h0 : 0 ≤ f) (h1 : f < 64) (g0 : 0 ≤ g) (g1 : g < 64) {j : Nat} (hj : j < 5) : zb f j = zb g j ↔ (f / 2 ^ (4 - j)) % 2 = (g / 2 ^ (4 - j)) % 2 := by
  rw [zb_eq h0 h1 hj, zb_eq g0 g1 hj, decide_eq_decide]
  omega
theorem hg_ne : Str.ofString "h" ≠ Str.ofString "g" := by decide +kernel
theorem host_same {f g : Int} (h0 : 0 ≤ f) (h1 : f < 64) (g0 : 0 ≤ g) (g1 : g < 64) : hostOf f = hostOf g ↔ f / 32 = g / 32 := by
  have e : ∀ x : Int, 0 ≤ x → x < 64 → (Builtin.bitAnd x 32 = 0 ↔ x < 32) := by
    intro x a b
    have := hb_fin ⟨x.toNat, by omega⟩
    simpa [Int.toNat_of_nonneg a] using this
  have ef := e f h0 h1
  have eg := e g g0 g1
  unfold hostOf
  by_cases a : f < 32 <;> by_cases b : g < 32
  · rw [if_pos (ef.mpr a), if_pos (eg.mpr b)]; simp; omega
  · rw [if_pos (ef.mpr a), if_neg (fun h => b (eg.mp h))]
    exact ⟨fun h => absurd h hg_ne, fun h => by omega⟩
  · rw [if_neg (fun h => a (ef.mp h)), if_pos (eg.mpr b)]
    exact ⟨fun h => absurd h.symm hg_ne, fun h => by omega⟩
  · rw [if_neg (fun h => a (ef.mp h)), if_neg (fun h => b (eg.mp h))]; simp; omega
theorem bits_pre {f g : Int} {n m : Nat} (h : n ≤ m) : bits f n <+: bits g m ↔ ∀ j, j < n → zb f j = zb g j := by
  have e : (bits g m).take n = bits g n := by
    rw [bits, bits, ← List.map_take, List.take_range, Nat.min_eq_left h]
  rw [List.prefix_iff_eq_take, bits_len, e, bits, bits, List.map_inj_left]
  simp
theorem half_iff (a b : Int) : (a / 2 = b / 2 ∧ a % 2 = b % 2) ↔ a = b := by omega
theorem top_down {f g : Int} (h0 : 0 ≤ f) (h1 : f < 64) (g0 : 0 ≤ g) (g1 : g < 64) (n : Nat) : n ≤ 5 → ((hostOf f = hostOf g ∧ ∀ j, j < n → zb f j = zb g j) ↔ f / 2 ^ (5 - n) = g / 2 ^ (5 - n)) := by
  induction n with
  | zero => exact fun _ => ⟨fun h => (host_same h0 h1 g0 g1).mp h.1, fun h => ⟨(host_same h0 h1 g0 g1).mpr h, fun j hj => absurd hj (Nat.not_lt_zero j)⟩⟩
  | succ n ih =>
    intro hn
    have e : (2 : Int) ^ (5 - n) = 2 ^ (4 - n) * 2 := by rw [show 5 - n = (4 - n) + 1 by omega, Int.pow_succ]
    have p : (0 : Int) ≤ 2 ^ (4 - n) := Int.le_of_lt (pow_pos' (4 - n))
    have i1 := ih (by omega)
    rw [e, ← Int.ediv_ediv_of_nonneg p, ← Int.ediv_ediv_of_nonneg p] at i1
    rw [show 5 - (n + 1) = 4 - n by omega, ← half_iff, ← i1, ← zb_same h0 h1 g0 g1 (j := n) (by omega)]
    constructor
    · exact fun ⟨h, z⟩ => ⟨⟨h, fun j hj => z j (by omega)⟩, z n (Nat.lt_succ_self n)⟩
    · rintro ⟨⟨h, z⟩, zn⟩
      refine ⟨h, fun j hj => ?_⟩
      rcases Nat.lt_succ_iff_lt_or_eq.mp hj with hj | rfl
      · exact z j hj
      · exact zn
theorem top_iff {f g : Int} (h0 : 0 ≤ f) (h1 : f < 64) (g0 : 0 ≤ g) (g1 : g < 64) {k : Nat} (hk : k ≤ 5) : (hostOf f = hostOf g ∧ ∀ j, j < 5 - k → zb f j = zb g j) ↔ f / 2 ^ k = g / 2 ^ k := by
  rw [top_down h0 h1 g0 g1 (5 - k) (Nat.sub_le 5 k), show 5 - (5 - k) = k by omega]
/-- a block of the tree: a number, its size a power of two, aligned -/
structure Bk (p : Int × Int) (k : Nat) : Prop where
  k5 : k ≤ 5
  sz : p.2 = 2 ^ k
  al : (2 : Int) ^ k ∣ p.1
  lo : 0 ≤ p.1
  hi : p.1 + p.2 ≤ 64
/-- one block covers another -/
abbrev cvr (a b : Int × Int) : Prop := a.1 ≤ b.1 ∧ b.1 + b.2 ≤ a.1 + a.2
theorem div_same {a b A : Int} (hA : 0 < A) (ha : A ∣ a) : a / A = b / A ↔ a ≤ b ∧ b < a + A := by
  have e : A * (a / A) = a := Int.mul_ediv_cancel' ha
  constructor
  · intro h
    have := (Int.ediv_emod_unique (a := b) (r := b % A) (q := b / A) hA).mp ⟨rfl, rfl⟩
    rw [← h, e] at this
    omega
  · rintro ⟨h1, h2⟩
    exact ((Int.ediv_emod_unique (a := b) (r := b - a) (q := a / A) hA).mpr ⟨by rw [e]; omega, by omega, by omega⟩).1.symm
theorem cvr_iff {a b : Int × Int} {k l : Nat} (ha : Bk a k) (hb : Bk b l) : (hostOf a.1 = hostOf b.1 ∧ l ≤ k ∧ ∀ j, j < 5 - k → zb a.1 j = zb b.1 j) ↔ cvr a b := by
  have pa := pow_pos' k
  have pb := pow_pos' l
  obtain ⟨k5, sa, ala, loa, hia⟩ := ha
  obtain ⟨l5, sb, alb, lob, hib⟩ := hb
  have t := top_iff (f := a.1) (g := b.1) loa (by omega) lob (by omega) k5
  rw [div_same pa ala] at t
  rw [cvr, sa, sb]
  constructor
  · rintro ⟨x, y, z⟩
    have := t.mp ⟨x, z⟩
    exact ⟨this.1, dvd_gap alb (Int.dvd_add (Int.dvd_trans (pow_dvd y) ala) (pow_dvd y)) this.2⟩
  · rintro ⟨x, y⟩
    have := t.mpr ⟨x, by omega⟩
    refine ⟨this.1, Nat.le_of_not_lt fun h => ?_, this.2⟩
    have q := Int.le_of_dvd pb (pow_dvd (s := k + 1) h)
    rw [pow_step] at q
    omega
end Mine
end
section -- M6
namespace Mine
open PySem PySem.W PyProof.Rows
theorem sub_cvr {a b : Int × Int} {k l : Nat} {u t : Str} (ha : Bk a k) (hb : Bk b l) (hu : u.cps.toList = []) (ht : t.cps.toList = [] ∨ t.cps.toList = [47]) :
    subS (hostOf a.1) (pth a.1 (5 - k) ++ u) (hostOf b.1) (pth b.1 (5 - l) ++ t) = true ↔ cvr a b := by
  have hk := ha.k5
  have hl := hb.k5
  rw [← cvr_iff ha hb]
  by_cases h : l ≤ k
  · rw [sub_plain hu (ht.imp id fun h => ⟨[], h⟩) (by omega), bits_pre (by omega)]
    exact ⟨fun ⟨x, y⟩ => ⟨x, h, y⟩, fun ⟨x, _, y⟩ => ⟨x, y⟩⟩
  · rw [sub_plain_gt hu ht (by omega)]
    exact ⟨fun h => Bool.noConfusion h, fun ⟨_, y, _⟩ => absurd y h⟩
def mt (a b : Int × Int) : List (Int × Int) := if cvr a b then [b] else if cvr b a then [a] else []
theorem tail_cases (tot : Int) : (tailOf tot).cps.toList = [] ∨ (tailOf tot).cps.toList = [47] := by
  unfold tailOf
  split
  · exact .inr cps_sl
  · exact .inl cps_nil
theorem meet_mt {a b : Int × Int} {k l : Nat} (ha : Bk a k) (hb : Bk b l) (tot : Int) : meet (tailOf tot) a b = mt a b := by
  have hk := ha.k5
  have hl := hb.k5
  have la : lvl a.2 = k := by rw [ha.sz, lvl_pow hk]
  have lb : lvl b.2 = l := by rw [hb.sz, lvl_pow hl]
  unfold meet mt
  rw [la, lb]
  have h1 := sub_cvr (u := Str.ofString "") (t := tailOf tot) ha hb cps_nil (tail_cases tot)
  by_cases hc : cvr a b
  · rw [if_pos (h1.mpr hc), if_pos hc]
  · rw [if_neg (fun h => hc (h1.mp h)), if_neg hc]
    have h2 : subS (hostOf b.1) (pth b.1 (5 - l) ++ tailOf tot) (hostOf a.1) (pth a.1 (5 - k) ++ Str.ofString "") = true ↔ cvr b a := by
      rcases tail_cases tot with ht | ht
      · exact sub_cvr hb ha ht (.inl cps_nil)
      · rw [sub_slash ht cps_nil, ← cvr_iff hb ha]
        constructor
        · rintro ⟨x, y, z⟩
          exact ⟨x, by omega, (bits_pre (by omega)).mp y⟩
        · rintro ⟨x, y, z⟩
          have hne : k ≠ l := by
            rintro rfl
            apply hc
            rw [← cvr_iff ha hb]
            exact ⟨x.symm, Nat.le_refl _, fun j hj => (z j hj).symm⟩
          exact ⟨x, (bits_pre (by omega)).mpr z, by omega⟩
    by_cases hd : cvr b a
    · rw [if_pos (h2.mpr hd), if_pos hd]
    · rw [if_neg (fun h => hd (h2.mp h)), if_neg hd]
theorem blk_bk {e : Int} (he : e ≤ 64) (n : Nat) : ∀ f : Int, 0 ≤ f → ∀ p ∈ blkL e n f, ∃ k, Bk p k := by
  induction n with
  | zero => intro f _ p hp; cases hp
  | succ n ih =>
    intro f h0 p hp
    rw [blkL] at hp
    split at hp
    · rename_i hlt
      have hs := step_fit hlt
      have hp' := pow_pos' (stepK f e)
      rcases List.mem_cons.mp hp with rfl | hp
      · exact ⟨stepK f e, step_le f e, rfl, step_dvd f e, h0, by dsimp only; omega⟩
      · exact ih _ (by omega) p hp
    · cases hp
theorem cov_inB {x0 x1 x : Int} {bh : Str} (q1 : 0 ≤ x0) (q3 : x1 ≤ 64) (h0 : 0 ≤ x) (h1 : x < 64) (hbh : bh = Str.ofString "" ∨ bh = Str.ofString "/" ∨ bh = Str.ofString "/x" ∨ bh = Str.ofString "/ab/a") :
   ∀ p ∈ blkL x1 64 x0, cov x bh p = inB x p := by
  intro p hp
  obtain ⟨k, hb⟩ := blk_bk q3 64 x0 q1 p hp
  have hk := hb.k5
  have hx : Bk (x, 1) 0 := ⟨by omega, by simp, by simp, h0, by dsimp only; omega⟩
  have hbl : bh.cps.toList = [] ∨ ∃ r, bh.cps.toList = 47 :: r := by
    rcases hbh with rfl | rfl | rfl | rfl
    · exact .inl cps_nil
    · exact .inr ⟨_, cps_sl⟩
    · exact .inr ⟨[120], by decide +kernel⟩
    · exact .inr ⟨[97, 98, 47, 97], by decide +kernel⟩
  have lp : lvl p.2 = k := by rw [hb.sz, lvl_pow hk]
  unfold cov inB
  rw [lp, Bool.eq_iff_iff, sub_plain cps_nil hbl (by omega), bits_pre (by omega), Bool.and_eq_true, decide_eq_true_eq, decide_eq_true_eq]
  have := cvr_iff hb hx
  dsimp only at this
  constructor
  · rintro ⟨a, b⟩
    have := this.mp ⟨a, by omega, b⟩
    dsimp only [cvr] at this
    omega
  · rintro ⟨a, b⟩
    have := this.mpr ⟨a, by dsimp only; omega⟩
    exact ⟨this.1, this.2.2⟩
end Mine
end
section -- M7
namespace Mine
open PySem PySem.W PyProof.Rows
def mtL (A B : List (Int × Int)) : List (Int × Int) := A.flatMap fun a => B.flatMap (mt a)
theorem due_in_node {a b : Int} (k : Nat) : ∀ n, ∀ p ∈ dueL a b k n, n ≤ p.1 ∧ p.1 + p.2 ≤ n + 2 ^ k ∧ 0 < p.2 := by
  induction k with
  | zero =>
    intro n p hp
    rw [dueL] at hp
    split at hp
    · rw [List.mem_singleton.mp hp]; simp
    · cases hp
  | succ k ih =>
    intro n p hp
    have hq := pow_step k
    have hpos := pow_pos' k
    by_cases hin : a ≤ n ∧ n + 2 ^ (k + 1) ≤ b
    · rw [dueL, if_pos hin] at hp
      rw [List.mem_singleton.mp hp]
      dsimp only
      omega
    · rw [due_split hin] at hp
      rcases List.mem_append.mp hp with hp | hp
      · have := ih n p hp; omega
      · have := ih _ p hp; omega
theorem due_cover {a b n : Int} {k : Nat} (h : a ≤ n ∧ n + 2 ^ k ≤ b) : dueL a b k n = [(n, 2 ^ k)] := by
  cases k with
  | zero => rw [dueL, if_pos (by simpa using h)]; rfl
  | succ k => rw [dueL, if_pos h]
theorem due_inter {x0 x1 y0 y1 : Int} (k : Nat) : ∀ n, x0 ≤ n → n + 2 ^ k ≤ x1 → dueL (max x0 y0) (min x1 y1) k n = dueL y0 y1 k n := by
  induction k with
  | zero =>
    intro n h1 h2
    rw [dueL, dueL]
    by_cases h : y0 ≤ n ∧ n + 1 ≤ y1
    · rw [if_pos h, if_pos (by simp at h2; omega)]
    · rw [if_neg h, if_neg (by omega)]
  | succ k ih =>
    intro n h1 h2
    have hq := pow_step k
    have hpos := pow_pos' k
    by_cases h : y0 ≤ n ∧ n + 2 ^ (k + 1) ≤ y1
    · rw [due_cover h, due_cover (by omega)]
    · rw [due_split h, due_split (by omega), ih n h1 (by omega), ih _ (by omega) (by omega)]
theorem mt_apart {a b : Int × Int} (ha : 0 < a.2) (hb : 0 < b.2) (h : a.1 + a.2 ≤ b.1 ∨ b.1 + b.2 ≤ a.1) : mt a b = [] := by
  rw [mt, if_neg (by omega), if_neg (by omega)]
theorem mtL_app {A1 A2 B1 B2 : List (Int × Int)} (h12 : ∀ a ∈ A1, ∀ b ∈ B2, mt a b = []) (h21 : ∀ a ∈ A2, ∀ b ∈ B1, mt a b = []) : mtL (A1 ++ A2) (B1 ++ B2) = mtL A1 B1 ++ mtL A2 B2 := by
  have z : ∀ (a : Int × Int) (B : List (Int × Int)), (∀ b ∈ B, mt a b = []) → B.flatMap (mt a) = [] := by
    intro a B h
    rw [List.flatMap_eq_nil_iff]; exact h
  have g : ∀ (A : List (Int × Int)) (f g : Int × Int → List (Int × Int)), (∀ a ∈ A, f a = g a) → A.flatMap f = A.flatMap g := by
    intro A f g h
    rw [List.flatMap_def, List.flatMap_def, List.map_congr_left h]
  unfold mtL
  rw [List.flatMap_append]
  congr 1
  · exact g _ _ _ fun a ha => by rw [List.flatMap_append, z a B2 (h12 a ha), List.append_nil]
  · exact g _ _ _ fun a ha => by rw [List.flatMap_append, z a B1 (h21 a ha), List.nil_append]
theorem flat_self (l : List (Int × Int)) (f : Int × Int → List (Int × Int)) (h : ∀ p ∈ l, f p = [p]) : l.flatMap f = l := by
  induction l with
  | nil => rfl
  | cons p l ih => rw [List.flatMap_cons, h p (.head _), ih (fun q hq => h q (.tail _ hq))]; rfl
theorem mt_due {x0 x1 y0 y1 : Int} (k : Nat) : ∀ n, mtL (dueL x0 x1 k n) (dueL y0 y1 k n) = dueL (max x0 y0) (min x1 y1) k n := by
  have cover : ∀ (k : Nat) (n : Int), (x0 ≤ n ∧ n + 2 ^ k ≤ x1) ∨ (y0 ≤ n ∧ n + 2 ^ k ≤ y1) → mtL (dueL x0 x1 k n) (dueL y0 y1 k n) = dueL (max x0 y0) (min x1 y1) k n := by
    intro k n h
    rcases h with h | h
    · rw [due_cover h, due_inter k n h.1 h.2, mtL, List.flatMap_singleton]
      refine flat_self _ _ fun p hp => ?_
      have := due_in_node k n p hp
      rw [mt, if_pos (by dsimp only [cvr]; omega)]
    · rw [due_cover h, Int.max_comm, Int.min_comm, due_inter k n h.1 h.2, mtL]
      refine flat_self _ _ fun p hp => ?_
      have := due_in_node k n p hp
      rw [List.flatMap_singleton, mt]
      by_cases hc : cvr p (n, 2 ^ k)
      · rw [if_pos hc]
        dsimp only [cvr] at hc
        have : p = (n, 2 ^ k) := Prod.ext (by dsimp only; omega) (by dsimp only; omega)
        rw [this]
      · rw [if_neg hc, if_pos (by dsimp only [cvr]; omega)]
  induction k with
  | zero =>
    intro n
    by_cases h : (x0 ≤ n ∧ n + 2 ^ 0 ≤ x1) ∨ (y0 ≤ n ∧ n + 2 ^ 0 ≤ y1)
    · exact cover 0 n h
    · have e : (2 : Int) ^ 0 = 1 := rfl
      rw [e] at h
      rw [dueL, if_neg (by omega), dueL, if_neg (by omega), dueL, if_neg (by omega)]; rfl
  | succ k ih =>
    intro n
    by_cases h : (x0 ≤ n ∧ n + 2 ^ (k + 1) ≤ x1) ∨ (y0 ≤ n ∧ n + 2 ^ (k + 1) ≤ y1)
    · exact cover (k + 1) n h
    · rw [due_split (a := x0) (b := x1) (by omega), due_split (a := y0) (b := y1) (by omega), due_split (a := max x0 y0) (b := min x1 y1) (by omega), mtL_app, ih, ih]
      · intro a ha b hb
        have h1 := due_in_node k _ a ha
        have h2 := due_in_node k _ b hb
        exact mt_apart h1.2.2 h2.2.2 (by omega)
      · intro a ha b hb
        have h1 := due_in_node k _ a ha
        have h2 := due_in_node k _ b hb
        exact mt_apart h1.2.2 h2.2.2 (by omega)
theorem mt_DUE {x0 x1 y0 y1 : Int} : mtL (DUE x0 x1) (DUE y0 y1) = DUE (max x0 y0) (min x1 y1) := by
  unfold DUE
  rw [mtL_app, mt_due, mt_due]
  · intro a ha b hb
    have h1 := due_in_node 5 _ a ha
    have h2 := due_in_node 5 _ b hb
    simp at h1 h2
    exact mt_apart h1.2.2 h2.2.2 (by omega)
  · intro a ha b hb
    have h1 := due_in_node 5 _ a ha
    have h2 := due_in_node 5 _ b hb
    simp at h1 h2
    exact mt_apart h1.2.2 h2.2.2 (by omega)
theorem meet_due {x0 x1 y0 y1 tot : Int} (q1 : 0 ≤ x0) (q3 : x1 ≤ 64) (q4 : 0 ≤ y0) (q6 : y1 ≤ 64) :
   ((blkL x1 64 x0).flatMap fun a => (blkL y1 64 y0).flatMap (meet (tailOf tot) a)) = blkL (min x1 y1) 64 (max x0 y0) := by
  have e : ((blkL x1 64 x0).flatMap fun a => (blkL y1 64 y0).flatMap (meet (tailOf tot) a)) = mtL (blkL x1 64 x0) (blkL y1 64 y0) := by
    unfold mtL
    rw [List.flatMap_def, List.flatMap_def]
    congr 1
    refine List.map_congr_left fun a ha => ?_
    rw [List.flatMap_def, List.flatMap_def]
    congr 1
    refine List.map_congr_left fun b hb => ?_
    obtain ⟨k, hk⟩ := blk_bk q3 64 x0 q1 a ha
    obtain ⟨l, hl⟩ := blk_bk q6 64 y0 q4 b hb
    exact meet_mt hk hl tot
  rw [e, blk_DUE q3 64 x0 q1 (by omega), blk_DUE q6 64 y0 q4 (by omega), blk_DUE (e := min x1 y1) (by omega) 64 (max x0 y0) (by omega) (by omega), mt_DUE]
end Mine
end
section -- P1
open PySem PySem.W PyProof.Rows
namespace Mine
local macro_rules | `(tactic| ktn_open) => `(tactic| repeat' (first | ((fail_if_success (with_reducible show wpAny _ _ (exec (Stmt.While _ _ _ _) _) _ _ _)); (fail_if_success (with_reducible show wpAny _ _ (exec (Stmt.For _ _ _ _ _) _) _ _ _)); first | (k_unfold; (try dsimp only)) | (k_end; wrow_close) | walk1 | (dsimp only; walk1) | (leave1; walk_say "STEP leave1"; try dsimp only) | fail "no step")))
local macro_rules | `(tactic| walk_at "call builtin:sum") => `(tactic| (k_here; (with_reducible show wpAny _ _ (call (Value.builtin "sum") [Value.ref _]) _ _ _); (k_dflt (refine' sum_L ?k0 ?k1 ?k2 ?k3 ?k4 ?_; (case k0 => rfl); (case k1 => k_asm); (case k2 => k_asm); (case k3 => k_mem); (case k4 => exact IntsAre.pick (by assumption) _ _ _); k_whole)); intro h' tk' t' F' N'))
theorem ints4 {ys : List Value} {g : Int → Int} (h : IntsAre ys ((rangeKs 0 (Int.toNat (4 - 0))).map g)) : ∃ t0 t1 t2 t3, ys = [.int (g 0) t0, .int (g 1) t1, .int (g 2) t2, .int (g 3) t3] := by
  have e : (rangeKs 0 (Int.toNat (4 - 0))).map g = [g 0, g 1, g 2, g 3] := rfl
  rw [e] at h
  cases h with
  | cons _ _ h => cases h with
    | cons _ _ h => cases h with
      | cons _ _ h => cases h with
        | cons _ _ h => cases h with
          | nil => exact ⟨_, _, _, _, rfl⟩
set_option maxRecDepth 100000 in
set_option maxHeartbeats 8000000 in
theorem stA (w : World) (mean mg mb) (base h₀ : Heap) (L fa la : Addr) (cd : Value) (vals : List Value) (ns : List Int) (s : Shared) (o1 o2 o3 o4 o5 : Obj) (Q : Flow → Shared → Prop)
   (C : Ctx0 w mean mg mb base h₀) (hl : h₀.IsList la vals.toArray) (hi : IntsAre vals ns) (hlen : ns.length ≤ 63)
   (F : Fr h₀ L s.heap (fun _ => none)) (N : News h₀ L s.heap [(L+1+1+1+1+1,o5),(L+1+1+1+1,o4),(L+1+1+1,o3),(L+1+1,o2),(L+1,o1)])
   (d1 : o1.data = .cell (some (.ref la)))
   (hQ : ∀ (a b c d : Int) (t0 t1 t2 t3 : Tok) (D : Addr) (h' : Heap) (tk' : Nat), Fr h₀ L h' (fun z => if z = Str.ofString "sums" then some (.ref D) else none) →
     News h₀ L h' [(D, W.listOf (List.toArray [.int a t0, .int b t1, .int c t2, .int d t3]) 4), (L+1+1+1+1+1,o5),(L+1+1+1+1,o4),(L+1+1+1,o3),(L+1+1,o2),(L+1,o1)] → ((@Ne Nat (L+1+1+1+1+1) D) ∧ (@Ne Nat (L+1+1+1+1) D) ∧ (@Ne Nat (L+1+1+1) D) ∧ (@Ne Nat (L+1+1) D) ∧ (@Ne Nat (L+1) D)) → LW w fa cd L 1 Q { s with heap := h', toks := tk' }) : LW w fa cd L 0 Q s := by
  obtain ⟨T, X, B⟩ := C
  revert X
  unfold LW at hQ ⊢
  w_top off
  k_fill
  intro X
  rw [drop_split lawD.body 0 1]
  generalize lawD.body.drop (0 + 1) = rest at hQ ⊢
  unfold lawD recOf at hQ ⊢
  dsimp only [List.drop, List.take, List.cons_append, List.nil_append] at hQ ⊢
  ktn_open
  rename_i hI8 _ D h' tk' F' N' o1'
  obtain ⟨t0, t1, t2, t3, rfl⟩ := ints4 hI8
  exact hQ _ _ _ _ _ _ _ _ D _ _ F' N' o1'
end Mine
end
section -- P2
open PySem PySem.W PyProof.Rows
namespace Mine
local macro_rules | `(tactic| ktn_open) => `(tactic| repeat' (first | ((fail_if_success (with_reducible show wpAny _ _ (exec (Stmt.While _ _ _ _) _) _ _ _)); (fail_if_success (with_reducible show wpAny _ _ (exec (Stmt.For _ _ _ _ _) _) _ _ _)); first | (k_unfold; (try dsimp only)) | (k_end; wrow_close) | walk1 | (dsimp only; walk1) | (leave1; walk_say "STEP leave1"; try dsimp only) | fail "no step")))
theorem two_ints {vs : List Value} {ns : List Int} (h : IntsAre vs ns) (hl : ns.length = 0 + 1 + 1) : ∃ t0 t1, vs = [.int (ns.getD (Int.toNat 0) 0) t0, .int (ns.getD (Int.toNat 1) 0) t1] := by
  cases h with
  | nil => simp at hl
  | cons _ _ h => cases h with
    | nil => simp at hl
    | cons _ _ h => cases h with
      | nil => exact ⟨_, _, rfl⟩
      | cons _ _ _ => simp at hl
theorem led_B {h₀ h : Heap} {L : Addr} {x1 x2 x3 x4 x5 x6 x7 x8 x9 x10 x11 : Addr × Obj} (N : News h₀ L h [x1, x2, x3, x4, x5, x6, x7, x8, x9, x10, x11]) : News h₀ L h [x1, x2, x4, x7, x8, x9, x10, x11] := fun p hp => N p (by
  simp only [List.mem_cons, List.not_mem_nil, or_false] at hp ⊢
  rcases hp with h | h | h | h | h | h | h | h <;> simp only [h, true_or, or_true])
theorem if_max {x y : Int} : (if y > x then y else x) = max x y := by rw [Int.max_def]; split <;> split <;> omega
theorem if_min {x y : Int} : (if y < x then y else x) = min x y := by rw [Int.min_def]; split <;> split <;> omega
theorem fmod65 (x : Int) : 0 ≤ Int.fmod x 65 ∧ Int.fmod x 65 ≤ 64 := by
  rw [Int.fmod_eq_emod_of_nonneg _ (by decide)]
  omega
set_option maxRecDepth 100000 in
set_option maxHeartbeats 8000000 in
theorem stB (w : World) (mean mg mb) (base h₀ : Heap) (L fa : Addr) (cd : Value) (s : Shared) (o1 o2 o3 o4 o5 : Obj) (Q : Flow → Shared → Prop)
   (C : Ctx0 w mean mg mb base h₀) 
   (a b c d : Int) (t0 t1 t2 t3 : Tok) (D : Addr)
   (F : Fr h₀ L s.heap (fun z => if z = Str.ofString "sums" then some (.ref D) else none))
   (N : News h₀ L s.heap [(D, W.listOf (List.toArray [.int a t0, .int b t1, .int c t2, .int d t3]) 4), (L+1+1+1+1+1,o5),(L+1+1+1+1,o4),(L+1+1+1,o3),(L+1+1,o2),(L+1,o1)])
   (hD : ((@Ne Nat (L+1+1+1+1+1) D) ∧ (@Ne Nat (L+1+1+1+1) D) ∧ (@Ne Nat (L+1+1+1) D) ∧ (@Ne Nat (L+1+1) D) ∧ (@Ne Nat (L+1) D)))
   (d2 : o2.data = .cell none)
   (hQ : ∀ (x0 x1 y0 y1 : Int) (u0 u1 u2 u3 u4 u5 u6 : Tok) (c1 c2 : Nat) (he th sh : Addr) (o2 : Obj) (h' : Heap) (tk' : Nat), 0 ≤ x0 → x0 ≤ x1 → x1 ≤ 64 → 0 ≤ y0 → y0 ≤ y1 → y1 ≤ 64 → o2.data = .cell (some (.int (a + b + c + d) u6)) →
      Fr h₀ L h' (fun z => if z = Str.ofString "shared" then some (.ref sh) else if z = Str.ofString "there" then some (.ref th) else if z = Str.ofString "here" then some (.ref he) else if z = Str.ofString "sums" then some (.ref D) else none) →
      News h₀ L h' [(sh, W.listOf (List.toArray [.int (max x0 y0) u4, .int (min x1 y1) u5]) 0), (th, W.listOf (List.toArray [.int y0 u2, .int y1 u3]) c2), (he, W.listOf (List.toArray [.int x0 u0, .int x1 u1]) c1), (L+1+1+1+1+1,o5),(L+1+1+1+1,o4),(L+1+1+1,o3),(L+1+1,o2),(L+1,o1)] →
      ((@LT.lt Nat _ (L+1+1+1+1+1) he) ∧ (@LT.lt Nat _ he th) ∧ (@LT.lt Nat _ th sh)) → LW w fa cd L 5 Q { s with heap := h', toks := tk' }) : LW w fa cd L 1 Q s := by
  obtain ⟨T, X, B⟩ := C
  revert X
  unfold LW at hQ ⊢
  w_top off
  k_fill
  intro X
  rw [drop_split lawD.body 1 4]
  generalize lawD.body.drop (1 + 4) = rest at hQ ⊢
  unfold lawD recOf at hQ ⊢
  dsimp only [List.drop, List.take, List.cons_append, List.nil_append] at hQ ⊢
  ktn_open
  rename_i _ _ t' _ o2' d2' _ _ _ _ _ lt0 D1 v1 n1 c1 _ i1 e1 _ _ _ lt1 b1 s1 q1 _ _ _ _ _ _ _ D2 v2 n2 c2 _ i2 e2 _ _ _ lt2 b2 s2 q2 _ _ _ _ _ _ _ _ _ D3 _ lt3 h' F' N'
  obtain ⟨r0, r1, rfl⟩ := two_ints i1 e1
  obtain ⟨r2, r3, rfl⟩ := two_ints i2 e2
  rw [if_max, if_min] at N'
  have f1 := fmod65 (List.getD [a, b, c, d] (Int.toNat 0) 0 + 5)
  have f2 := fmod65 (List.getD [a, b, c, d] (Int.toNat 1) 0 + 59)
  have f3 := fmod65 (List.getD [a, b, c, d] (Int.toNat 2) 0 + 22)
  have f4 := fmod65 (List.getD [a, b, c, d] (Int.toNat 3) 0 + 64)
  generalize n1.getD (Int.toNat 0) 0 = x0 at *
  generalize n1.getD (Int.toNat 1) 0 = x1 at *
  generalize n2.getD (Int.toNat 0) 0 = y0 at *
  generalize n2.getD (Int.toNat 1) 0 = y1 at *
  refine hQ x0 x1 y0 y1 _ _ _ _ _ _ t' c1 c2 D1 D2 D3 o2' _ _ (by omega) s1 (by omega) (by omega) s2 (by omega) ?_ F' (led_B N') (by omega)
  rw [d2']; congr 3; omega
end Mine
end
section -- P3
open PySem PySem.W PyProof.Rows
namespace Mine
local macro_rules | `(tactic| ktn_open) => `(tactic| repeat' (first | ((fail_if_success (with_reducible show wpAny _ _ (exec (Stmt.While _ _ _ _) _) _ _ _)); (fail_if_success (with_reducible show wpAny _ _ (exec (Stmt.For _ _ _ _ _) _) _ _ _)); (fail_if_success (with_reducible show wpAny _ _ (pyIter _) _ _ _)); (fail_if_success (with_reducible show wpAny _ _ (call (Value.ref _) _ _) _ _ _)); first | (k_unfold; (try dsimp only)) | (k_end; wrow_close) | walk1 | (dsimp only; walk1) | (leave1; walk_say "STEP leave1"; try dsimp only) | fail "no step")))
local macro_rules | `(tactic| walk_at "subscriptTail") => `(tactic| (k_here; (with_reducible show wpAny _ _ (subscriptTail _ _ (Value.ref _) (Value.int _ _)) _ _ _); k_dflt (refine' item_L ?N ?m ?a ?b ?x ?_ ?s; (case N => k_asm); (case m => k_mem); (case a => decide); (case b => decide); (case x => rfl); (case s => with_unfolding_all rfl); k_whole)))
set_option maxRecDepth 100000 in
set_option maxHeartbeats 8000000 in
theorem stC (w : World) (mean mg mb) (base h₀ : Heap) (L fa : Addr) (cd : Value) (s : Shared) (o1 o2 o3 o4 o5 : Obj) (Q : Flow → Shared → Prop)
   (C : Ctx0 w mean mg mb base h₀) 
   (x0 x1 y0 y1 : Int) (u0 u1 u2 u3 u4 u5 : Tok) (c1 c2 : Nat) (he th sh D : Addr) (q1 : 0 ≤ x0) (q2 : x0 ≤ x1) (q3 : x1 ≤ 64) (q4 : 0 ≤ y0) (q5 : y0 ≤ y1) (q6 : y1 ≤ 64)
   (F : Fr h₀ L s.heap (fun z => if z = Str.ofString "shared" then some (.ref sh) else if z = Str.ofString "there" then some (.ref th) else if z = Str.ofString "here" then some (.ref he) else if z = Str.ofString "sums" then some (.ref D) else none))
   (N : News h₀ L s.heap [(sh, W.listOf (List.toArray [.int (max x0 y0) u4, .int (min x1 y1) u5]) 0), (th, W.listOf (List.toArray [.int y0 u2, .int y1 u3]) c2), (he, W.listOf (List.toArray [.int x0 u0, .int x1 u1]) c1), (L+1+1+1+1+1,o5),(L+1+1+1+1,o4),(L+1+1+1,o3),(L+1+1,o2),(L+1,o1)])
   (hD : ((@LT.lt Nat _ (L+1+1+1+1+1) he) ∧ (@LT.lt Nat _ he th) ∧ (@LT.lt Nat _ th sh)))
   (hQ : ∀ (ev dv : Option Value) (h' : Heap) (tk' : Nat),
      Fr h₀ L h' (fun z => if z = Str.ofString "due" then dv else if z = Str.ofString "ends" then ev else if z = Str.ofString "shared" then some (.ref sh) else if z = Str.ofString "there" then some (.ref th) else if z = Str.ofString "here" then some (.ref he) else if z = Str.ofString "sums" then some (.ref D) else none) →
      News h₀ L h' [(sh, W.listOf (List.toArray [.int (max x0 y0) u4, .int (min x1 y1) u5]) 0), (th, W.listOf (List.toArray [.int y0 u2, .int y1 u3]) c2), (he, W.listOf (List.toArray [.int x0 u0, .int x1 u1]) c1), (L+1+1+1+1+1,o5),(L+1+1+1+1,o4),(L+1+1+1,o3),(L+1+1,o2),(L+1,o1)] →
      LW w fa cd L 6 Q { s with heap := h', toks := tk' }) : LW w fa cd L 5 Q s := by
  obtain ⟨T, X, B⟩ := C
  revert X
  unfold LW at hQ ⊢
  w_top off
  k_fill
  intro X
  rw [drop_split lawD.body 5 1]
  generalize lawD.body.drop (5 + 1) = rest at hQ ⊢
  unfold lawD recOf at hQ ⊢
  dsimp only [List.drop, List.take, List.cons_append, List.nil_append] at hQ ⊢
  ktn_open
  (with_unfolding_all refine' For_invVF F ?k1 ?k2 ?_; (case k1 => exact rfl); (case k2 => exact rfl))
  ktn_open
  rename_i l' h' F' N' l1
  replace F' := frMore (frMore F' (Str.ofString "ends") none rfl) (Str.ofString "due") none rfl
  refine kdl_iter (fun i m1 nw => ∃ (ev dv : Option Value), m1 = (fun z => if z = Str.ofString "due" then dv else if z = Str.ofString "ends" then ev else if z = Str.ofString "shared" then some (.ref sh) else if z = Str.ofString "there" then some (.ref th) else if z = Str.ofString "here" then some (.ref he) else if z = Str.ofString "sums" then some (.ref D) else none) ∧ nw = _) rfl (.head _) F' N' ⟨none, none, rfl, rfl⟩ ?_ ?_
  · rintro i v m1 nw h1 tk1 own hv hown hmem ⟨ev, dv, rfl, hnw⟩ F1 N1
    obtain ⟨e, p, q, c, r1, r2, rfl, he', hp0, hp1, hq0, hq1⟩ : ∃ e p q c r1 r2, v = .ref e ∧ (e, W.listOf (List.toArray [.int p r1, .int q r2]) c) ∈ nw ∧ 0 ≤ p ∧ p ≤ 64 ∧ 0 ≤ q ∧ q ≤ 64 := by
      subst hnw
      match i, hv with
      | 0, hv => cases hv; exact ⟨_, _, _, _, _, _, rfl, .tail _ (.tail _ (.tail _ (.head _))), by omega, by omega, by omega, by omega⟩
      | 1, hv => cases hv; exact ⟨_, _, _, _, _, _, rfl, .tail _ (.tail _ (.head _)), by omega, by omega, by omega, by omega⟩
      | 2, hv => cases hv; exact ⟨_, _, _, _, _, _, rfl, .tail _ (.head _), by omega, by omega, by omega, by omega⟩
    replace F1 : Fr h₀ L h1 _ := F1
    replace N1 : News h₀ L h1 _ := N1
    dsimp only at F1
    ktn_open
    refine (due_call w mean mg mb 5 p q 0 32 _ _ _ _ _ (by decide) (by decide)).use B F1 X N1 T rfl (by decide) (by decide) ?_
    intro ra tla ha tka Fa Na oa pa
    obtain ⟨aa, na, va, rfl, ma, da⟩ := pa
    ktn_open
    refine (due_call w mean mg mb 5 p q 32 32 _ _ _ _ _ (by decide) (by decide)).use B Fa X Na T rfl (by decide) (by decide) ?_
    intro rb tlb hb tkb Fb Nb ob pb
    obtain ⟨ab, nb, vb, rfl, mb', db⟩ := pb
    have da' := da.mono (fun p hp => List.mem_append.mpr (Or.inr (a := p ∈ tlb) (List.mem_append.mpr (Or.inl (b := p ∈ nw ++ own) hp))))
    have db' := db.mono (fun p hp => List.mem_append.mpr (Or.inl (b := p ∈ tla ++ (nw ++ own)) hp))
    refine kmk_add_lit (zs := va ++ vb) Fb Nb ⟨_, Nb.get (List.mem_append.mpr (.inr (List.mem_append.mpr (.inl ma)))), rfl, na, rfl⟩ ⟨_, Nb.get (List.mem_append.mpr (.inl mb')), rfl, nb, rfl⟩ rfl ?_ ?_
    · intro Dc hc Fc Nc lc
      have dc := (DatAll.append da' db').mono (fun p hp => List.mem_cons_of_mem (Dc, W.listOf (List.toArray (va ++ vb)) 0) hp)
      rw [← List.map_append, ← blk_due hp0 hq1] at dc
      have hee : (e, W.listOf (List.toArray [.int p r1, .int q r2]) c) ∈ (Dc, W.listOf (List.toArray (va ++ vb)) 0) :: (tlb ++ (tla ++ (nw ++ own))) := List.mem_cons_of_mem _ (List.mem_append.mpr (.inr (List.mem_append.mpr (.inr (List.mem_append.mpr (.inl he'))))))
      ktn_open
      rename Fr h₀ L _ _ => Fd
      rename News h₀ L _ _ => Nd
      refine (blocks_call w mean mg mb p q _ _ _ hp0 hp1 hq0 hq1).use B Fd X Nd T rfl (by decide) (by decide) ?_
      intro re tle he2 tke Fe Ne oe pe
      obtain ⟨ae, ne, ve, rfl, me, de⟩ := pe
      ktn_open
      rename Fr h₀ L _ _ => Ff
      rename News h₀ L _ _ => Nf
      rw [upd_swap2 (by decide)] at Ff
      refine InvEndG.intro (nx := nw) Ff Nf ⟨hmem, _, _, rfl, hnw⟩ hown (fun p hp => ?_) (fun p hp => ?_)
      · exact List.mem_append.mpr (.inr (List.mem_cons_of_mem _ (List.mem_append.mpr (.inr (List.mem_append.mpr (.inr (List.mem_append.mpr (.inl hp))))))))
      · exact List.mem_append.mpr (.inr (List.mem_cons_of_mem _ (List.mem_append.mpr (.inr (List.mem_append.mpr (.inr (List.mem_append.mpr (.inr hp))))))))
    · have e1 := da.length
      have e2 := db.length
      rw [List.length_map] at e1 e2
      have b1 := due_len p q 5 0
      have b2 := due_len p q 5 32
      simp only [sizeLine_eq]
      omega
  · rintro m1 nw h1 tk1 ⟨ev, dv, rfl, rfl⟩ F1 N1
    replace F1 : Fr h₀ L h1 _ := F1
    replace N1 : News h₀ L h1 _ := N1
    exact hQ ev dv h1 tk1 F1 (fun p hp => N1 p (.tail _ hp))
end Mine
end
section -- P4
open PySem PySem.W PyProof.Rows
namespace Mine
local macro_rules | `(tactic| walk_at "no such key") => `(tactic| fail "none")
local macro_rules | `(tactic| ktn_open) => `(tactic| repeat' (first | ((fail_if_success (with_reducible show wpAny _ _ (exec (Stmt.While _ _ _ _) _) _ _ _)); (fail_if_success (with_reducible show wpAny _ _ (exec (Stmt.For _ _ _ _ _) _) _ _ _)); (fail_if_success (with_reducible show wpAny _ _ (pyIter _) _ _ _)); (fail_if_success (with_reducible show wpAny _ _ (call (Value.ref _) _ _) _ _ _)); first | (k_unfold; (try dsimp only)) | (k_end; wrow_close) | walk1 | (dsimp only; walk1) | (leave1; walk_say "STEP leave1"; try dsimp only) | fail "no step")))
local macro_rules | `(tactic| walk_at "subscriptTail") => `(tactic| (k_here; (with_reducible show wpAny _ _ (subscriptTail _ _ (Value.ref _) (Value.int _ _)) _ _ _); k_dflt (refine' item_L ?N ?m ?a ?b ?x ?_ ?s; (case N => k_asm); (case m => k_mem); (case a => decide); (case b => decide); (case x => rfl); (case s => with_unfolding_all rfl); k_whole)))
theorem led_D {h₀ h : Heap} {L : Addr} {x1 x2 x3 x4 x5 x6 x7 x8 : Addr × Obj} {tl : List (Addr × Obj)} (N : News h₀ L h (tl ++ [x1, x2, x3, x4, x5, x6, x7, x8])) : News h₀ L h (x4 :: x5 :: x6 :: x7 :: x8 :: (tl ++ [x1, x2, x3])) := fun p hp => N p (by
  simp only [List.mem_cons, List.mem_append, List.not_mem_nil, or_false] at hp ⊢
  rcases hp with h | h | h | h | h | h | h | h | h <;> simp only [h, true_or, or_true])
set_option maxRecDepth 100000 in
set_option maxHeartbeats 8000000 in
theorem stD (w : World) (mean mg mb) (base h₀ : Heap) (L fa : Addr) (cd : Value) (s : Shared) (o1 o2 o3 o4 o5 : Obj) (Q : Flow → Shared → Prop)
   (C : Ctx0 w mean mg mb base h₀) 
   (x0 x1 y0 y1 : Int) (u0 u1 u2 u3 u4 u5 : Tok) (c1 c2 : Nat) (he th sh D : Addr) (q1 : 0 ≤ x0) (q2 : x0 ≤ x1) (q3 : x1 ≤ 64) (q4 : 0 ≤ y0) (q5 : y0 ≤ y1) (q6 : y1 ≤ 64) (ev dv : Option Value)
   (F : Fr h₀ L s.heap (fun z => if z = Str.ofString "due" then dv else if z = Str.ofString "ends" then ev else if z = Str.ofString "shared" then some (.ref sh) else if z = Str.ofString "there" then some (.ref th) else if z = Str.ofString "here" then some (.ref he) else if z = Str.ofString "sums" then some (.ref D) else none))
   (N : News h₀ L s.heap [(sh, W.listOf (List.toArray [.int (max x0 y0) u4, .int (min x1 y1) u5]) 0), (th, W.listOf (List.toArray [.int y0 u2, .int y1 u3]) c2), (he, W.listOf (List.toArray [.int x0 u0, .int x1 u1]) c1), (L+1+1+1+1+1,o5),(L+1+1+1+1,o4),(L+1+1+1,o3),(L+1+1,o2),(L+1,o1)])
   (hD : ((@LT.lt Nat _ (L+1+1+1+1+1) he) ∧ (@LT.lt Nat _ he th) ∧ (@LT.lt Nat _ th sh)))
   (hQ : ∀ (TL : List (Addr × Obj)) (ao ab : Addr) (no nb : Nat) (vo vb : List Value) (h' : Heap) (tk' : Nat),
      Fr h₀ L h' (fun z => if z = Str.ofString "others" then some (.ref ab) else if z = Str.ofString "ones" then some (.ref ao) else if z = Str.ofString "due" then dv else if z = Str.ofString "ends" then ev else if z = Str.ofString "shared" then some (.ref sh) else if z = Str.ofString "there" then some (.ref th) else if z = Str.ofString "here" then some (.ref he) else if z = Str.ofString "sums" then some (.ref D) else none) →
      News h₀ L h' ((L+1+1+1+1+1,o5) :: (L+1+1+1+1,o4) :: (L+1+1+1,o3) :: (L+1+1,o2) :: (L+1,o1) :: TL) → OffC L TL →
      (sh, W.listOf (List.toArray [.int (max x0 y0) u4, .int (min x1 y1) u5]) 0) ∈ TL → (th, W.listOf (List.toArray [.int y0 u2, .int y1 u3]) c2) ∈ TL → (he, W.listOf (List.toArray [.int x0 u0, .int x1 u1]) c1) ∈ TL →
      (ao, W.listOf (List.toArray vo) no) ∈ TL → DatAll TL vo ((blkL x1 64 x0).map blk) → (ab, W.listOf (List.toArray vb) nb) ∈ TL → DatAll TL vb ((blkL y1 64 y0).map blk) →
      LW w fa cd L 8 Q { s with heap := h', toks := tk' }) : LW w fa cd L 6 Q s := by
  obtain ⟨T, X, B⟩ := C
  revert X
  unfold LW at hQ ⊢
  w_top off
  k_fill
  intro X
  rw [drop_split lawD.body 6 2]
  generalize lawD.body.drop (6 + 2) = rest at hQ ⊢
  unfold lawD recOf at hQ ⊢
  dsimp only [List.drop, List.take, List.cons_append, List.nil_append] at hQ ⊢
  ktn_open
  refine (blocks_call w mean mg mb x0 x1 _ _ _ q1 (by omega) (by omega) q3).use B (by k_asm) X N T rfl (by decide) (by decide) ?_
  intro ra tla ha tka Fa Na oa pa
  obtain ⟨aa, na, va, rfl, ma, da⟩ := pa
  have hth : (th, W.listOf (List.toArray [.int y0 u2, .int y1 u3]) c2) ∈ tla ++ [(sh, W.listOf (List.toArray [.int (max x0 y0) u4, .int (min x1 y1) u5]) 0), (th, W.listOf (List.toArray [.int y0 u2, .int y1 u3]) c2), (he, W.listOf (List.toArray [.int x0 u0, .int x1 u1]) c1), (L+1+1+1+1+1,o5),(L+1+1+1+1,o4),(L+1+1+1,o3),(L+1+1,o2),(L+1,o1)] := List.mem_append.mpr (.inr (.tail _ (.head _)))
  ktn_open
  rename Fr h₀ L _ _ => Fb
  rename News h₀ L _ _ => Nb
  refine (blocks_call w mean mg mb y0 y1 _ _ _ q4 (by omega) (by omega) q6).use B Fb X Nb T rfl (by decide) (by decide) ?_
  intro rb tlb hb tkb Fc Nc ob pb
  obtain ⟨ab, nb, vb, rfl, mb', db⟩ := pb
  ktn_open
  rename Fr h₀ L _ _ => Fd
  rename News h₀ L _ _ => Nd
  rw [← List.append_assoc] at Nd
  refine hQ _ aa ab na nb va vb _ _ Fd (led_D Nd) ?_ ?_ ?_ ?_ ?_ ?_ ?_ ?_
  · refine offC_lt ?_
    intro p hp
    rcases List.mem_append.mp hp with hp | hp
    · rcases List.mem_append.mp hp with hp | hp
      · exact ob (L+1+1+1+1+1, o5) (List.mem_append.mpr (.inr (.tail _ (.tail _ (.tail _ (.head _)))))) p hp
      · exact oa (L+1+1+1+1+1, o5) (.tail _ (.tail _ (.tail _ (.head _)))) p hp
    · simp only [List.mem_cons, List.not_mem_nil, or_false] at hp
      rcases hp with h | h | h <;> (subst h; dsimp only; omega)
  · exact List.mem_append.mpr (.inr (.head _))
  · exact List.mem_append.mpr (.inr (.tail _ (.head _)))
  · exact List.mem_append.mpr (.inr (.tail _ (.tail _ (.head _))))
  · exact List.mem_append.mpr (.inl (List.mem_append.mpr (.inr ma)))
  · exact da.mono fun p hp => List.mem_append.mpr (.inl (List.mem_append.mpr (.inr hp)))
  · exact List.mem_append.mpr (.inl (List.mem_append.mpr (.inl mb')))
  · exact db.mono fun p hp => List.mem_append.mpr (.inl (List.mem_append.mpr (.inl hp)))
end Mine
end
section -- P5
open PySem PySem.W PyProof.Rows
namespace Mine
local macro_rules | `(tactic| ktn_open) => `(tactic| repeat' (first | ((fail_if_success (with_reducible show wpAny _ _ (exec (Stmt.While _ _ _ _) _) _ _ _)); (fail_if_success (with_reducible show wpAny _ _ (exec (Stmt.For _ _ _ _ _) _) _ _ _)); (fail_if_success (with_reducible show wpAny _ _ (pyIter _) _ _ _)); first | (k_unfold; (try dsimp only)) | (k_end; wrow_close) | walk1 | (dsimp only; walk1) | (leave1; walk_say "STEP leave1"; try dsimp only) | fail "no step")))
local macro_rules | `(tactic| k_all) => `(tactic| (intro p9 h9; (have h9' := (by assumption : OffC _ _) p9 h9); refine neN ?_; omega))
theorem led_E {h₀ h : Heap} {L : Addr} {y1 y2 y3 x4 x5 x6 x7 x8 : Addr × Obj} {tl : List (Addr × Obj)} (N : News h₀ L h (y1 :: y2 :: y3 :: x4 :: x5 :: x6 :: x7 :: x8 :: tl)) : News h₀ L h (x4 :: x5 :: x6 :: x7 :: x8 :: y2 :: y3 :: tl) := fun p hp => N p (by
  simp only [List.mem_cons] at hp ⊢
  rcases hp with h | h | h | h | h | h | h | h <;> simp only [h, true_or, or_true])
set_option maxRecDepth 100000 in
set_option maxHeartbeats 8000000 in
theorem stE (w : World) (mean mg mb) (base h₀ : Heap) (L fa : Addr) (cd : Value) (s : Shared) (o1 o2 o3 o4 o5 : Obj) (Q : Flow → Shared → Prop)
   (C : Ctx0 w mean mg mb base h₀) (m : Str → Option Value) (TL : List (Addr × Obj)) (F : Fr h₀ L s.heap m) (N : News h₀ L s.heap ((L+1+1+1+1+1,o5) :: (L+1+1+1+1,o4) :: (L+1+1+1,o3) :: (L+1+1,o2) :: (L+1,o1) :: TL)) (hTL : OffC L TL)
   (d3 : o3.data = .cell none)
   (hQ : ∀ (mgr dx dd : Addr) (kh : Int) (t9 : Tok) (o3 : Obj) (h' : Heap) (tk' : Nat), o3.data = .cell (some (.ref mgr)) → Fr h₀ L h' m →
      News h₀ L h' ((L+1+1+1+1+1,o5) :: (L+1+1+1+1,o4) :: (L+1+1+1,o3) :: (L+1+1,o2) :: (L+1,o1) :: (mgr, instObj 67 dx) :: (dx, dictOf [⟨kh, .str (Str.ofString "passwd") t9, .ref dd⟩] 1) :: TL) →
      OffC L ((mgr, instObj 67 dx) :: (dx, dictOf [⟨kh, .str (Str.ofString "passwd") t9, .ref dd⟩] 1) :: TL) → LW w fa cd L 9 Q { s with heap := h', toks := tk' }) : LW w fa cd L 8 Q s := by
  obtain ⟨T, X, B⟩ := C
  revert X
  unfold LW at hQ ⊢
  w_top off
  k_fill
  intro X
  rw [drop_split lawD.body 8 1]
  generalize lawD.body.drop (8 + 1) = rest at hQ ⊢
  unfold lawD recOf at hQ ⊢
  dsimp only [List.drop, List.take, List.cons_append, List.nil_append] at hQ ⊢
  ktn_open
  rename_i x' dx _ l1 l2 _ _ _ _ _ _ _ _ _ _ _ _ _ _ _ _ _ _ _ _ _ o' F' N' d'
  exact hQ x' dx _ _ _ o' _ _ d' F' (led_E N') (OffC.cons (by dsimp only; omega) (OffC.cons (by dsimp only; omega) hTL))
end Mine
end
section -- P6
open PySem PySem.W PyProof.Rows PyProof.Rows.LCg
namespace Mine
local macro_rules | `(tactic| ktn_open) => `(tactic| repeat' (first | ((fail_if_success (with_reducible show wpAny _ _ (exec (Stmt.While _ _ _ _) _) _ _ _)); (fail_if_success (with_reducible show wpAny _ _ (exec (Stmt.For _ _ _ _ _) _) _ _ _)); (fail_if_success (with_reducible show wpAny _ _ (pyIter _) _ _ _)); (fail_if_success (with_reducible show CompSrc _ _ _ _ _ _ _ _ _ _ _ _ _ _)); (fail_if_success (with_reducible show wpAny _ _ (call (Value.ref _) _ _) _ _ _)); first | (k_unfold; (try dsimp only)) | (k_end; wrow_close) | walk1 | (dsimp only; walk1) | (leave1; walk_say "STEP leave1"; try dsimp only) | fail "no step")))
local macro_rules | `(tactic| walk_at "eval Name") => `(tactic| (k_here; (with_reducible show wpAny _ _ (eval (PySem.Expr.Name _ _) (envOfC _ _ _ _ _)) _ _ _); k_dflt (refine' nameX_L ?F ?v ?_ ?a ?b; (case F => k_asm); (case a => rfl); (case b => rfl); (case v => assumption); k_whole)))
local macro_rules | `(tactic| k_all) => `(tactic| (intro p9 h9; (have h9' := (by assumption : OffC _ _) p9 h9); refine neN ?_; omega))
local macro_rules | `(tactic| walk_at "exec Assign cons ListComp") => `(tactic| (k_here; k_dflt (refine LCg.Assign_ListComp_U (F₀ := by k_asm) (by rfl) (by with_unfolding_all rfl) (by with_unfolding_all rfl) (by decide) (by rfl) (by decide) (by rfl) (by rfl) (by rfl) ?_)))
local macro_rules | `(tactic| walk_at "eval ListComp") => `(tactic| (k_here; k_dflt (refine LCg.ListComp_U (F₀ := by k_asm) (by with_unfolding_all rfl) (by decide) (by rfl) (by decide) (by rfl) ?_)))
set_option maxRecDepth 100000 in
set_option maxHeartbeats 8000000 in
theorem stF (w : World) (mean mg mb) (base h₀ : Heap) (L fa : Addr) (cd : Value) (s : Shared) (o1 o2 o3 o4 o5 : Obj) (Q : Flow → Shared → Prop)
   (C : Ctx0 w mean mg mb base h₀) (m : Str → Option Value) (TL : List (Addr × Obj)) (F : Fr h₀ L s.heap m) (N : News h₀ L s.heap ((L+1+1+1+1+1,o5) :: (L+1+1+1+1,o4) :: (L+1+1+1,o3) :: (L+1+1,o2) :: (L+1,o1) :: TL)) (hTL : OffC L TL)
   (ao : Addr) (no : Nat) (vo : List Value) (l : List (Int × Int)) (hm : m (Str.ofString "ones") = some (.ref ao)) (hao : (ao, W.listOf (List.toArray vo) no) ∈ TL) (dao : DatAll TL vo (l.map blk)) (hl : l.length ≤ 64) (hk : ∀ p ∈ l, ∃ k, k ≤ 5 ∧ p.2 = 2 ^ k)
   (hQ : ∀ (TL' : List (Addr × Obj)) (an : Addr) (nn : Nat) (vn : List Value) (h' : Heap) (tk' : Nat), Fr h₀ L h' (fun z => if z = Str.ofString "near" then some (.ref an) else m z) →
      News h₀ L h' ((L+1+1+1+1+1,o5) :: (L+1+1+1+1,o4) :: (L+1+1+1,o3) :: (L+1+1,o2) :: (L+1,o1) :: TL') → OffC L TL' → (∀ p ∈ TL, p ∈ TL') →
      (an, W.listOf (List.toArray vn) nn) ∈ TL' → DatAll TL' vn (l.map (adrB (Str.ofString ""))) → LW w fa cd L 10 Q { s with heap := h', toks := tk' }) : LW w fa cd L 9 Q s := by
  obtain ⟨T, X, B⟩ := C
  revert X
  unfold LW at hQ ⊢
  w_top off
  k_fill
  intro X
  rw [drop_split lawD.body 9 1]
  generalize lawD.body.drop (9 + 1) = rest at hQ ⊢
  unfold lawD recOf at hQ ⊢
  dsimp only [List.drop, List.take, List.cons_append, List.nil_append] at hQ ⊢
  ktn_open
  have hlv := dao.length
  rw [List.length_map] at hlv
  refine CompSrc.ledger (news := (L+1+1+1+1+1,o5) :: (L+1+1+1+1,o4) :: (L+1+1+1,o3) :: (L+1+1,o2) :: (L+1,o1) :: TL) rfl F N (.tail _ (.tail _ (.tail _ (.tail _ (.tail _ hao))))) (by rw [List.size_toArray, sizeLine_eq]; omega) ?_
  intro g
  refine comp_ind (fun i ys nw => ∃ tl, nw = tl ++ ((L+1+1+1+1+1,o5) :: (L+1+1+1+1,o4) :: (L+1+1+1,o3) :: (L+1+1,o2) :: (L+1,o1) :: TL) ∧ OffC L tl ∧ DatAll tl ys ((l.take i).map (adrB (Str.ofString "")))) ?_ ?_ _ 0 [] _ (by rw [Nat.zero_add]) (.inr ⟨_, .tail _ (.tail _ (.tail _ (.tail _ (.tail _ hao)))), rfl, _, rfl⟩) ⟨[], rfl, (fun _ h => nomatch h), .nil⟩
  · rintro i v I oI CC oC DD m₂ h tk E' ys nw hv ⟨tl, rfl, htl, dtl⟩ hC hx F1 N1 off ne
    obtain ⟨p, hp, dp⟩ := dat_at dao (by simpa using hv)
    obtain ⟨b, t1, t2, c, rfl, hb⟩ := blk_inv dp
    obtain ⟨k, hk5, hz⟩ := hk p (List.mem_of_getElem? hp)
    have hb' : (b, ({ cls := .type "tuple", data := .seq (List.toArray [.int p.1 t1, .int p.2 t2]) c } : Obj)) ∈ (I, oI) :: (CC, oC) :: (DD, LCg.lst ys) :: (tl ++ ((L+1+1+1+1+1,o5) :: (L+1+1+1+1,o4) :: (L+1+1+1,o3) :: (L+1+1,o2) :: (L+1,o1) :: TL)) :=
      .tail _ (.tail _ (.tail _ (List.mem_append.mpr (.inr (.tail _ (.tail _ (.tail _ (.tail _ (.tail _ hb)))))))))
    ktn_open
    refine (addr_call w mean mg mb b p.1 p.2 k c t1 t2 _ _ _ hb' hz hk5 (by decide)).use B F1 X N1 T rfl (by decide) (by decide) ?_
    intro r tl1 h1 tk1 F2 N2 o2' d2'
    k_unfold
    refine ElEnd.intro tl1 F2 N2 o2' ⟨tl1 ++ tl, by rw [List.append_assoc], ?_, ?_⟩
    · exact OffC.app (offC_lt fun q hq => o2' (L+1+1+1+1+1, o5) (.tail _ (.tail _ (.tail _ (List.mem_append.mpr (.inr (.head _)))))) q hq) htl
    · rw [List.take_add_one, hp, List.map_append]
      refine (dtl.mono fun q hq => List.mem_append.mpr (.inr hq)).append (.cons ?_ .nil)
      rw [adrB, hz, lvl_pow hk5]
      exact d2'.mono fun q hq => List.mem_append.mpr (.inl hq)
  · rintro ys nw ⟨tl, rfl, htl, dtl⟩
    intro D h tk F1 N1 off
    rw [List.size_toArray, hlv, List.take_length] at dtl
    refine hQ ((D, LCg.lst ys) :: (tl ++ TL)) D ys.length ys h tk F1 (led_F N1) (OffC.cons (off1_cells off) (OffC.app htl hTL)) (fun p hp => .tail _ (List.mem_append.mpr (.inr hp))) (.head _) (dtl.mono fun q hq => .tail _ (List.mem_append.mpr (.inl hq)))
end Mine
end
section -- P7
open PySem PySem.W PyProof.Rows PyProof.Rows.LCg
namespace Mine
local macro_rules | `(tactic| ktn_open) => `(tactic| repeat' (first | ((fail_if_success (with_reducible show wpAny _ _ (exec (Stmt.While _ _ _ _) _) _ _ _)); (fail_if_success (with_reducible show wpAny _ _ (exec (Stmt.For _ _ _ _ _) _) _ _ _)); (fail_if_success (with_reducible show wpAny _ _ (pyIter _) _ _ _)); (fail_if_success (with_reducible show CompSrc _ _ _ _ _ _ _ _ _ _ _ _ _ _)); (fail_if_success (with_reducible show wpAny _ _ (call (Value.ref _) _ _) _ _ _)); first | (k_unfold; (try dsimp only)) | (k_end; wrow_close) | walk1 | (dsimp only; walk1) | (leave1; walk_say "STEP leave1"; try dsimp only) | fail "no step")))
local macro_rules | `(tactic| walk_at "eval Name") => `(tactic| (k_here; (with_reducible show wpAny _ _ (eval (PySem.Expr.Name _ _) (envOfC _ _ _ _ _)) _ _ _); k_dflt (refine' nameX_L ?F ?v ?_ ?a ?b; (case F => k_asm); (case a => rfl); (case b => rfl); (case v => assumption); k_whole)))
local macro_rules | `(tactic| walk_at "eval Name") => `(tactic| (k_here; (with_reducible show wpAny _ _ (eval (PySem.Expr.Name _ _) (compEnvC _ _ _ _)) _ _ _); k_dflt (refine' kcf_cell ?N ?c ?m ?d ?_ ?k ?x; (case k => rfl); (case x => rfl); (case c => rfl); (case N => k_asm); (case m => assumption); (case d => assumption))))
local macro_rules | `(tactic| k_all) => `(tactic| (intro p9 h9; (have h9' := (by assumption : OffC _ _) p9 h9); refine neN ?_; omega))
local macro_rules | `(tactic| walk_at "exec Assign cons ListComp") => `(tactic| (k_here; k_dflt (refine LCg.Assign_ListComp_U (F₀ := by k_asm) (by rfl) (by with_unfolding_all rfl) (by with_unfolding_all rfl) (by decide) (by rfl) (by decide) (by rfl) (by rfl) (by rfl) ?_)))
local macro_rules | `(tactic| walk_at "eval ListComp") => `(tactic| (k_here; k_dflt (refine LCg.ListComp_U (F₀ := by k_asm) (by with_unfolding_all rfl) (by decide) (by rfl) (by decide) (by rfl) ?_)))
set_option maxRecDepth 100000 in
set_option maxHeartbeats 8000000 in
theorem stG (w : World) (mean mg mb) (base h₀ : Heap) (L fa : Addr) (cd : Value) (s : Shared) (o1 o2 o3 o4 o5 : Obj) (Q : Flow → Shared → Prop)
   (C : Ctx0 w mean mg mb base h₀) (m : Str → Option Value) (TL : List (Addr × Obj)) (F : Fr h₀ L s.heap m) (N : News h₀ L s.heap ((L+1+1+1+1+1,o5) :: (L+1+1+1+1,o4) :: (L+1+1+1,o3) :: (L+1+1,o2) :: (L+1,o1) :: TL)) (hTL : OffC L TL)
   (tot : Int) (t9 : Tok) (d2 : o2.data = .cell (some (.int tot t9))) (ao : Addr) (no : Nat) (vo : List Value) (l : List (Int × Int)) (hm : m (Str.ofString "others") = some (.ref ao)) (hao : (ao, W.listOf (List.toArray vo) no) ∈ TL) (dao : DatAll TL vo (l.map blk)) (hl : l.length ≤ 64) (hk : ∀ p ∈ l, ∃ k, k ≤ 5 ∧ p.2 = 2 ^ k)
   (hQ : ∀ (TL' : List (Addr × Obj)) (an : Addr) (nn : Nat) (vn : List Value) (h' : Heap) (tk' : Nat), Fr h₀ L h' (fun z => if z = Str.ofString "far" then some (.ref an) else m z) →
      News h₀ L h' ((L+1+1+1+1+1,o5) :: (L+1+1+1+1,o4) :: (L+1+1+1,o3) :: (L+1+1,o2) :: (L+1,o1) :: TL') → OffC L TL' → (∀ p ∈ TL, p ∈ TL') →
      (an, W.listOf (List.toArray vn) nn) ∈ TL' → DatAll TL' vn (l.map (adrB (tailOf tot))) → LW w fa cd L 11 Q { s with heap := h', toks := tk' }) : LW w fa cd L 10 Q s := by
  obtain ⟨T, X, B⟩ := C
  revert X
  unfold LW at hQ ⊢
  w_top off
  k_fill
  intro X
  rw [drop_split lawD.body 10 1]
  generalize lawD.body.drop (10 + 1) = rest at hQ ⊢
  unfold lawD recOf at hQ ⊢
  dsimp only [List.drop, List.take, List.cons_append, List.nil_append] at hQ ⊢
  ktn_open
  have hlv := dao.length
  rw [List.length_map] at hlv
  refine CompSrc.ledger (news := (L+1+1+1+1+1,o5) :: (L+1+1+1+1,o4) :: (L+1+1+1,o3) :: (L+1+1,o2) :: (L+1,o1) :: TL) rfl F N (.tail _ (.tail _ (.tail _ (.tail _ (.tail _ hao))))) (by rw [List.size_toArray, sizeLine_eq]; omega) ?_
  intro g
  refine comp_ind (fun i ys nw => ∃ tl, nw = tl ++ ((L+1+1+1+1+1,o5) :: (L+1+1+1+1,o4) :: (L+1+1+1,o3) :: (L+1+1,o2) :: (L+1,o1) :: TL) ∧ OffC L tl ∧ DatAll tl ys ((l.take i).map (adrB (tailOf tot)))) ?_ ?_ _ 0 [] _ (by rw [Nat.zero_add]) (.inr ⟨_, .tail _ (.tail _ (.tail _ (.tail _ (.tail _ hao)))), rfl, _, rfl⟩) ⟨[], rfl, (fun _ h => nomatch h), .nil⟩
  · rintro i v I oI CC oC DD m₂ h tk E' ys nw hv ⟨tl, rfl, htl, dtl⟩ hC hx F1 N1 off ne
    obtain ⟨p, hp, dp⟩ := dat_at dao (by simpa using hv)
    obtain ⟨b, t1, t2, c, rfl, hb⟩ := blk_inv dp
    obtain ⟨k, hk5, hz⟩ := hk p (List.mem_of_getElem? hp)
    have hb' : (b, ({ cls := .type "tuple", data := .seq (List.toArray [.int p.1 t1, .int p.2 t2]) c } : Obj)) ∈ (I, oI) :: (CC, oC) :: (DD, LCg.lst ys) :: (tl ++ ((L+1+1+1+1+1,o5) :: (L+1+1+1+1,o4) :: (L+1+1+1,o3) :: (L+1+1,o2) :: (L+1,o1) :: TL)) :=
      .tail _ (.tail _ (.tail _ (List.mem_append.mpr (.inr (.tail _ (.tail _ (.tail _ (.tail _ (.tail _ hb)))))))))
    have hcc : (L+1+1, o2) ∈ (I, oI) :: (CC, oC) :: (DD, LCg.lst ys) :: (tl ++ ((L+1+1+1+1+1,o5) :: (L+1+1+1+1,o4) :: (L+1+1+1,o3) :: (L+1+1,o2) :: (L+1,o1) :: TL)) := .tail _ (.tail _ (.tail _ (List.mem_append.mpr (.inr (.tail _ (.tail _ (.tail _ (.head _))))))))
    ktn_open
    · have ht : Str.ofString "/" = tailOf tot := by rw [tailOf, if_pos (by assumption)]
      rw [ht]
      refine (addr_call w mean mg mb b p.1 p.2 k c t1 t2 _ _ _ hb' hz hk5 (by unfold tailOf; split <;> decide)).use B F1 X N1 T rfl (by decide) (by decide) ?_
      intro r tl1 h1 tk1 F2 N2 o2' d2'
      k_unfold
      refine ElEnd.intro tl1 F2 N2 o2' ⟨tl1 ++ tl, by rw [List.append_assoc], ?_, ?_⟩
      · exact OffC.app (offC_lt fun q hq => o2' (L+1+1+1+1+1, o5) (.tail _ (.tail _ (.tail _ (List.mem_append.mpr (.inr (.head _)))))) q hq) htl
      · rw [List.take_add_one, hp, List.map_append]
        refine (dtl.mono fun q hq => List.mem_append.mpr (.inr hq)).append (.cons ?_ .nil)
        rw [adrB, hz, lvl_pow hk5]
        exact d2'.mono fun q hq => List.mem_append.mpr (.inl hq)
    · have ht : Str.ofString "" = tailOf tot := by rw [tailOf, if_neg (by assumption)]
      rw [ht]
      refine (addr_call w mean mg mb b p.1 p.2 k c t1 t2 _ _ _ hb' hz hk5 (by unfold tailOf; split <;> decide)).use B F1 X N1 T rfl (by decide) (by decide) ?_
      intro r tl1 h1 tk1 F2 N2 o2' d2'
      k_unfold
      refine ElEnd.intro tl1 F2 N2 o2' ⟨tl1 ++ tl, by rw [List.append_assoc], ?_, ?_⟩
      · exact OffC.app (offC_lt fun q hq => o2' (L+1+1+1+1+1, o5) (.tail _ (.tail _ (.tail _ (List.mem_append.mpr (.inr (.head _)))))) q hq) htl
      · rw [List.take_add_one, hp, List.map_append]
        refine (dtl.mono fun q hq => List.mem_append.mpr (.inr hq)).append (.cons ?_ .nil)
        rw [adrB, hz, lvl_pow hk5]
        exact d2'.mono fun q hq => List.mem_append.mpr (.inl hq)
  · rintro ys nw ⟨tl, rfl, htl, dtl⟩
    intro D h tk F1 N1 off
    rw [List.size_toArray, hlv, List.take_length] at dtl
    refine hQ ((D, LCg.lst ys) :: (tl ++ TL)) D ys.length ys h tk F1 (led_F N1) (OffC.cons (off1_cells off) (OffC.app htl hTL)) (fun p hp => .tail _ (List.mem_append.mpr (.inr hp))) (.head _) (dtl.mono fun q hq => .tail _ (List.mem_append.mpr (.inl hq)))
end Mine
end
section -- P8
open PySem PySem.W PyProof.Rows PyProof.Rows.LCg
namespace Mine
local macro_rules | `(tactic| ktn_open) => `(tactic| repeat' (first | ((fail_if_success (with_reducible show wpAny _ _ (exec (Stmt.While _ _ _ _) _) _ _ _)); (fail_if_success (with_reducible show wpAny _ _ (exec (Stmt.For _ _ _ _ _) _) _ _ _)); (fail_if_success (with_reducible show wpAny _ _ (pyIter _) _ _ _)); (fail_if_success (with_reducible show wpAny _ _ (call (Value.ref _) _ _) _ _ _)); first | (k_unfold; (try dsimp only)) | (k_end; wrow_close) | walk1 | (dsimp only; walk1) | (leave1; walk_say "STEP leave1"; try dsimp only) | fail "no step")))
local macro_rules | `(tactic| walk_at "eval Name") => `(tactic| (k_here; (with_reducible show wpAny _ _ (eval (PySem.Expr.Name _ _) (envOfC _ _ _ _ _)) _ _ _); k_dflt (refine' nameX_L ?F ?v ?_ ?a ?b; (case F => k_asm); (case a => rfl); (case b => rfl); (case v => assumption); k_whole)))
local macro_rules | `(tactic| k_mem) => `(tactic| assumption)
local macro_rules | `(tactic| size_fits) => `(tactic| assumption)
local macro_rules | `(tactic| k_all) => `(tactic| (intro p9 h9; (have h9' := (by assumption : OffC _ _) p9 h9); refine neN ?_; omega))
local macro_rules | `(tactic| k_all) => `(tactic| assumption)
local macro_rules | `(tactic| walk_at "call builtin:len") => `(tactic| (k_here; (with_reducible show wpAny _ _ (call (Value.builtin "len") [Value.ref _]) _ _ _); k_dflt (refine' len_L ?N ?m ?f ?_; (case N => k_asm); (case m => k_mem); (case f => omega); k_whole)))
local macro_rules | `(tactic| walk_at "subscriptTail") => `(tactic| (k_here; (with_reducible show wpAny _ _ (subscriptTail _ _ (Value.ref _) (Value.int (Nat.cast _) _)) _ _ _); k_dflt (refine' item_Ln ?N ?m ?a ?x ?_ ?s; (case N => k_asm); (case m => k_mem); (case x => assumption); (case a => omega); (case s => with_unfolding_all rfl); k_whole)))
set_option maxRecDepth 100000 in
set_option maxHeartbeats 8000000 in
theorem stH (w : World) (mean mg mb) (base h₀ : Heap) (L fa : Addr) (cd : Value) (s : Shared) (o1 o2 o3 o4 o5 : Obj) (Q : Flow → Shared → Prop)
   (C : Ctx0 w mean mg mb base h₀) (m : Str → Option Value) (TL : List (Addr × Obj)) (F : Fr h₀ L s.heap m) (N : News h₀ L s.heap ((L+1+1+1+1+1,o5) :: (L+1+1+1+1,o4) :: (L+1+1+1,o3) :: (L+1+1,o2) :: (L+1,o1) :: TL)) (hTL : OffC L TL)
   (mgr dx dd : Addr) (kh : Int) (t9 : Tok) (d3 : o3.data = .cell (some (.ref mgr))) (hmg : (mgr, instObj 67 dx) ∈ TL) (hdx : (dx, dictOf [⟨kh, .str (Str.ofString "passwd") t9, .ref dd⟩] 1) ∈ TL)
   (ao ab an af : Addr) (no nb nn nf : Nat) (vo vb vn vf : List Value) (l1 l2 : List (Int × Int)) (tail : Str) (hok : PyData.strOk tail = true) (htl : tail.length ≤ 5) (hl1 : l1.length ≤ 64) (hl2 : l2.length ≤ 64)
   (m1 : m (Str.ofString "ones") = some (.ref ao)) (m2 : m (Str.ofString "others") = some (.ref ab)) (m3 : m (Str.ofString "near") = some (.ref an)) (m4 : m (Str.ofString "far") = some (.ref af))
   (hao : (ao, W.listOf (List.toArray vo) no) ∈ TL) (dao : DatAll TL vo (l1.map blk)) (hab : (ab, W.listOf (List.toArray vb) nb) ∈ TL) (dab : DatAll TL vb (l2.map blk))
   (han : (an, W.listOf (List.toArray vn) nn) ∈ TL) (dan : DatAll TL vn (l1.map (adrB (Str.ofString "")))) (haf : (af, W.listOf (List.toArray vf) nf) ∈ TL) (daf : DatAll TL vf (l2.map (adrB tail)))
   (hQ : ∀ (iv jv : Option Value) (am : Addr) (nm : Nat) (vm : List Value) (h' : Heap) (tk' : Nat), Fr h₀ L h' (fun z => if z = Str.ofString "j" then jv else if z = Str.ofString "i" then iv else if z = Str.ofString "met" then some (.ref am) else m z) →
      News h₀ L h' ((L+1+1+1+1+1,o5) :: (L+1+1+1+1,o4) :: (L+1+1+1,o3) :: (L+1+1,o2) :: (L+1,o1) :: (am, W.listOf (List.toArray vm) nm) :: TL) → OffC L ((am, W.listOf (List.toArray vm) nm) :: TL) →
      DatAll TL vm ((l1.flatMap fun a => l2.flatMap (meet tail a)).map blk) → LW w fa cd L 13 Q { s with heap := h', toks := tk' }) : LW w fa cd L 11 Q s := by
  obtain ⟨T, X, B⟩ := C
  revert X
  unfold LW at hQ ⊢
  w_top off
  k_fill
  intro X
  rw [drop_split lawD.body 11 2]
  generalize lawD.body.drop (11 + 2) = rest at hQ ⊢
  unfold lawD recOf at hQ ⊢
  dsimp only [List.drop, List.take, List.cons_append, List.nil_append] at hQ ⊢
  have hlo := dao.length
  have hlb := dab.length
  rw [List.length_map] at hlo hlb
  ktn_open
  rename_i am _ lam _ F1 N1
  (with_unfolding_all refine' For_invVF F1 ?k1 ?k2 ?_; (case k1 => exact rfl); (case k2 => exact rfl))
  ktn_open
  rename IsRange _ _ _ _ _ _ _ _ => hR1
  rename Fr h₀ L _ _ => F2
  rename News h₀ L _ _ => N2
  have hoffam : ∀ p ∈ (L+1+1+1+1+1,o5) :: (L+1+1+1+1,o4) :: (L+1+1+1,o3) :: (L+1+1,o2) :: (L+1,o1) :: TL, p.1 ≠ am := by
    intro p hp
    refine Nat.ne_of_lt ?_
    simp only [List.mem_cons] at hp
    rcases hp with h | h | h | h | h | h
    · subst h; exact lam.1
    · subst h; exact lam.2.1
    · subst h; exact lam.2.2.1
    · subst h; exact lam.2.2.2.1
    · subst h; exact lam.2.2.2.2.1
    · exact ktn_ltOf lam.2.2.2.2.2 p h
  replace F2 := frMore (frMore F2 (Str.ofString "i") (m (Str.ofString "i")) rfl) (Str.ofString "j") (m (Str.ofString "j")) rfl
  obtain ⟨R0, hR0⟩ : ∃ R0, R0 = (L+1+1+1+1+1,o5) :: (L+1+1+1+1,o4) :: (L+1+1+1,o3) :: (L+1+1,o2) :: (L+1,o1) :: TL := ⟨_, rfl⟩
  have hTR : ∀ p ∈ TL, p ∈ R0 := fun p hp => by rw [hR0]; exact .tail _ (.tail _ (.tail _ (.tail _ (.tail _ hp))))
  have h3R : (L+1+1+1, o3) ∈ R0 := by rw [hR0]; exact .tail _ (.tail _ (.head _))
  rw [← hR0] at hoffam N2
  refine rng_iter (n := l1.length) (fun i m1 nw => ∃ (iv jv : Option Value) (vm : List Value) (nm : Nat), m1 = (fun z => if z = Str.ofString "j" then jv else if z = Str.ofString "i" then iv else if z = Str.ofString "met" then some (.ref am) else m z) ∧ nw = (am, W.listOf (List.toArray vm) nm) :: R0 ∧ DatAll TL vm (((l1.take i).flatMap fun a => l2.flatMap (meet tail a)).map blk)) rfl hR1 (by rw [hlo]) (by omega) F2 N2 ⟨_, _, [], 0, rfl, rfl, .nil⟩ ?_ ?_
  · rintro i ti mm nw hh tkh own hi hown ⟨iv, jv, vm, nm, rfl, rfl, dvm⟩ F3 N3
    replace F3 : Fr h₀ L hh _ := F3
    replace N3 : News h₀ L hh _ := N3
    dsimp only at F3
    rw [upd_back1 (by decide)] at F3
    rw [List.cons_append] at N3
    have hab1 : (ab, W.listOf (List.toArray vb) nb) ∈ R0 ++ own := List.mem_append.mpr (.inl (hTR _ hab))
    obtain ⟨v1, hv1, dv1⟩ := dat_get dan hi
    obtain ⟨e1, hve1, de1⟩ := dat_get dao hi
    obtain ⟨b1, r1, r2, c1, rfl, hb1⟩ := adr_inv dv1
    ktn_open
    (with_unfolding_all refine' For_invVF F3 ?k1 ?k2 ?_; (case k1 => exact rfl); (case k2 => exact rfl))
    ktn_open
    rename IsRange _ _ _ _ _ _ _ _ => hR2
    rename Fr h₀ L _ _ => F4
    rename News h₀ L _ _ => N4
    refine rng_iter (n := l2.length) (fun j m1 nw => ∃ (jv : Option Value) (vm : List Value) (nm : Nat), m1 = (fun z => if z = Str.ofString "j" then jv else if z = Str.ofString "i" then some (.int (i : Int) ti) else if z = Str.ofString "met" then some (.ref am) else m z) ∧ nw = (am, W.listOf (List.toArray vm) nm) :: (R0 ++ own) ∧ DatAll TL vm ((((l1.take i).flatMap fun a => l2.flatMap (meet tail a)) ++ (l2.take j).flatMap (meet tail l1[i])).map blk)) rfl hR2 (by rw [hlb]) (by omega) F4 N4 ⟨_, vm, nm, rfl, rfl, by simpa using dvm⟩ ?_ ?_
    · rintro j tj mm nw hh2 tkh2 own2 hj hown2 ⟨jv2, vm2, nm2, rfl, rfl, dvm2⟩ F5 N5
      replace F5 : Fr h₀ L hh2 _ := F5
      replace N5 : News h₀ L hh2 _ := N5
      dsimp only at F5
      rw [upd_twice] at F5
      rw [List.cons_append] at N5
      obtain ⟨R, hReq⟩ : ∃ R, R = R0 ++ own ++ own2 := ⟨_, rfl⟩
      rw [← hReq] at N5
      have hTR2 : ∀ p ∈ TL, p ∈ R := fun p hp => by rw [hReq]; exact List.mem_append.mpr (.inl (List.mem_append.mpr (.inl (hTR p hp))))
      have h3R2 : (L+1+1+1, o3) ∈ R := by rw [hReq]; exact List.mem_append.mpr (.inl (List.mem_append.mpr (.inl h3R)))
      have hoffR : ∀ p ∈ R, p.1 ≠ am := by
        intro p hp
        rw [hReq] at hp
        rcases List.mem_append.mp hp with hp | hp
        · rcases List.mem_append.mp hp with hp | hp
          · exact hoffam p hp
          · exact hown p hp am (.head _)
        · exact hown2 p hp am (.head _)
      obtain ⟨v2, hv2, dv2⟩ := dat_get daf hj
      obtain ⟨e2, hve2, de2⟩ := dat_get dab hj
      obtain ⟨b2, r3, r4, c2, rfl, hb2⟩ := adr_inv dv2
      have hmg2 := hTR2 _ hmg
      have hdx2 := hTR2 _ hdx
      have han2 := hTR2 _ han
      have haf2 := hTR2 _ haf
      have hao2 := hTR2 _ hao
      have hab2 := hTR2 _ hab
      have hb12 := hTR2 _ hb1
      have hb22 := hTR2 _ hb2
      have hvl := dvm2.length
      have hfl := flat_len (fun a => l2.flatMap (meet tail a)) 64 (fun a => Nat.le_trans (flat_len (meet tail a) 1 (meet_len tail a) l2) (by omega)) (l1.take i)
      have hfl2 := flat_len (meet tail l1[i]) 1 (meet_len tail _) (l2.take j)
      rw [List.length_map, List.length_append] at hvl
      rw [List.length_take] at hfl hfl2
      have hsz : (List.toArray vm2).size ≤ sizeLine := by
        rw [List.size_toArray, sizeLine_eq]
        have : 64 * min i l1.length ≤ 64 * 64 := Nat.mul_le_mul_left _ (by omega)
        omega
      ktn_open
      refine (sub_call w mean mg mb _ b1 b2 c1 c2 (hostOf l1[i].1) (hostOf l2[j].1) (pth l1[i].1 (5 - lvl l1[i].2) ++ Str.ofString "") (pth l2[j].1 (5 - lvl l2[j].2) ++ tail) r1 r2 r3 r4 _ (.tail _ hb12) (.tail _ hb22) (ok_host _) (ok_host _) (ok_append (ok_pth _ _) (by decide +kernel)) (ok_append (ok_pth _ _) hok) (len_adr _ _ (by decide))).use B F5 X N5 T rfl (by decide) (by decide) ?_
      intro ra tla ha tka Fa Na oa pa
      subst pa
      replace Na : News h₀ L ha ((am, W.listOf (List.toArray vm2) nm2) :: R) := fun p hp => Na p (List.mem_append.mpr (.inr hp))
      have hstep : (((l1.take i).flatMap fun a => l2.flatMap (meet tail a)) ++ (l2.take (j + 1)).flatMap (meet tail l1[i])) = (((l1.take i).flatMap fun a => l2.flatMap (meet tail a)) ++ (l2.take j).flatMap (meet tail l1[i])) ++ meet tail l1[i] l2[j] := by
        rw [List.take_add_one, List.getElem?_eq_getElem hj, List.flatMap_append, ← List.append_assoc]
        congr 1
        simp
      cases hs1 : subS (hostOf l1[i].1) (pth l1[i].1 (5 - lvl l1[i].2) ++ Str.ofString "") (hostOf l2[j].1) (pth l2[j].1 (5 - lvl l2[j].2) ++ tail)
      · ktn_open
        rename Fr h₀ L _ _ => Fb
        refine (sub_call w mean mg mb _ b2 b1 c2 c1 (hostOf l2[j].1) (hostOf l1[i].1) (pth l2[j].1 (5 - lvl l2[j].2) ++ tail) (pth l1[i].1 (5 - lvl l1[i].2) ++ Str.ofString "") r3 r4 r1 r2 _ (.tail _ hb22) (.tail _ hb12) (ok_host _) (ok_host _) (ok_append (ok_pth _ _) hok) (ok_append (ok_pth _ _) (by decide +kernel)) (len_adr _ _ htl)).use B Fb X Na T rfl (by decide) (by decide) ?_
        intro rb tlb hb tkb Fc Nc ob pb
        subst pb
        replace Nc : News h₀ L hb ((am, W.listOf (List.toArray vm2) nm2) :: R) := fun p hp => Nc p (List.mem_append.mpr (.inr hp))
        cases hs2 : subS (hostOf l2[j].1) (pth l2[j].1 (5 - lvl l2[j].2) ++ tail) (hostOf l1[i].1) (pth l1[i].1 (5 - lvl l1[i].2) ++ Str.ofString "")
        · have hmt : meet tail l1[i] l2[j] = [] := by rw [meet, if_neg (by rw [hs1]; decide), if_neg (by rw [hs2]; decide)]
          ktn_open
          rename Fr h₀ L _ _ => Fz
          rename News h₀ L _ _ => Nz
          refine InvEndG.intro (nx := (am, W.listOf (List.toArray vm2) nm2) :: (R0 ++ own)) Fz Nz ⟨_, _, _, rfl, rfl, ?_⟩ hown2 (fun p hp => ?_) (fun p hp => .tail _ (by rw [hReq]; exact List.mem_append.mpr (.inr hp)))
          · rw [hstep, hmt, List.append_nil]; exact dvm2
          · rcases List.mem_cons.mp hp with rfl | hp
            · exact .head _
            · exact .tail _ (by rw [hReq]; exact List.mem_append.mpr (.inl hp))
        · have hmt : meet tail l1[i] l2[j] = [l1[i]] := by rw [meet, if_neg (by rw [hs1]; decide), if_pos hs2]
          ktn_open
          rename Fr h₀ L _ _ => Fz
          rename News h₀ L _ _ => Nz
          refine InvEndG.intro (nx := (am, W.listOf (List.toArray (vm2 ++ [e1])) (nm2 + 1)) :: (R0 ++ own)) Fz Nz ⟨_, _, _, rfl, rfl, ?_⟩ hown2 (fun p hp => ?_) (fun p hp => .tail _ (by rw [hReq]; exact List.mem_append.mpr (.inr hp)))
          · rw [hstep, hmt, List.map_append]
            exact dvm2.append (.cons de1 .nil)
          · rcases List.mem_cons.mp hp with rfl | hp
            · rw [List.push_toArray]; exact .head _
            · exact .tail _ (by rw [hReq]; exact List.mem_append.mpr (.inl hp))
      · have hmt : meet tail l1[i] l2[j] = [l2[j]] := by rw [meet, if_pos hs1]
        ktn_open
        rename Fr h₀ L _ _ => Fz
        rename News h₀ L _ _ => Nz
        refine InvEndG.intro (nx := (am, W.listOf (List.toArray (vm2 ++ [e2])) (nm2 + 1)) :: (R0 ++ own)) Fz Nz ⟨_, _, _, rfl, rfl, ?_⟩ hown2 (fun p hp => ?_) (fun p hp => .tail _ (by rw [hReq]; exact List.mem_append.mpr (.inr hp)))
        · rw [hstep, hmt, List.map_append]
          exact dvm2.append (.cons de2 .nil)
        · rcases List.mem_cons.mp hp with rfl | hp
          · rw [List.push_toArray]; exact .head _
          · exact .tail _ (by rw [hReq]; exact List.mem_append.mpr (.inl hp))
    · rintro mm nw hh2 tkh2 ⟨jv2, vm2, nm2, rfl, rfl, dvm2⟩ F5 N5
      rw [List.take_length] at dvm2
      replace F5 : Fr h₀ L hh2 _ := F5
      replace N5 : News h₀ L hh2 _ := N5
      dsimp only
      ktn_open
      have hstep : ((l1.take (i + 1)).flatMap fun a => l2.flatMap (meet tail a)) = ((l1.take i).flatMap fun a => l2.flatMap (meet tail a)) ++ l2.flatMap (meet tail l1[i]) := by
        rw [List.take_add_one, List.getElem?_eq_getElem hi, List.flatMap_append]
        congr 1
        simp
      refine InvEndG.intro (nx := (am, W.listOf (List.toArray vm2) nm2) :: R0) F5 N5 ⟨_, _, _, _, rfl, rfl, ?_⟩ hown (fun p hp => ?_) (fun p hp => .tail _ (List.mem_append.mpr (.inr hp)))
      · rw [hstep]; exact dvm2
      · rcases List.mem_cons.mp hp with rfl | hp
        · exact .head _
        · exact .tail _ (List.mem_append.mpr (.inl hp))
  · rintro mm nw hh tkh ⟨iv, jv, vm, nm, rfl, rfl, dvm⟩ F3 N3
    rw [List.take_length] at dvm
    replace F3 : Fr h₀ L hh _ := F3
    replace N3 : News h₀ L hh _ := N3
    refine hQ iv jv am nm vm hh tkh F3 (fun p hp => N3 p ?_) (OffC.cons ?_ hTL) dvm
    · rw [hR0]
      simp only [List.mem_cons] at hp ⊢
      rcases hp with h | h | h | h | h | h | h <;> simp only [h, true_or, or_true]
    · dsimp only; omega
end Mine
end
section -- P9
open PySem PySem.W PyProof.Rows PyProof.Rows.LCg
namespace Mine
local macro_rules | `(tactic| ktn_open) => `(tactic| repeat' (first | ((fail_if_success (with_reducible show wpAny _ _ (exec (Stmt.While _ _ _ _) _) _ _ _)); (fail_if_success (with_reducible show wpAny _ _ (exec (Stmt.For _ _ _ _ _) _) _ _ _)); (fail_if_success (with_reducible show wpAny _ _ (pyIter _) _ _ _)); (fail_if_success (with_reducible show wpAny _ _ (call (Value.ref _) _ _) _ _ _)); first | (k_unfold; (try dsimp only)) | (k_end; wrow_close) | walk1 | (dsimp only; walk1) | (leave1; walk_say "STEP leave1"; try dsimp only) | fail "no step")))
local macro_rules | `(tactic| walk_at "eval Name") => `(tactic| (k_here; (with_reducible show wpAny _ _ (eval (PySem.Expr.Name _ _) (envOfC _ _ _ _ _)) _ _ _); k_dflt (refine' nameX_L ?F ?v ?_ ?a ?b; (case F => k_asm); (case a => rfl); (case b => rfl); (case v => assumption); k_whole)))
local macro_rules | `(tactic| k_mem) => `(tactic| assumption)
local macro_rules | `(tactic| walk_at "subscriptTail") => `(tactic| (k_here; (with_reducible show wpAny _ _ (subscriptTail _ _ (Value.ref _) (Value.int _ _)) _ _ _); k_dflt (refine' item_L ?N ?m ?a ?b ?x ?_ ?s; (case N => k_asm); (case m => k_mem); (case a => decide); (case b => decide); (case x => rfl); (case s => with_unfolding_all rfl); k_whole)))
set_option maxRecDepth 100000 in
set_option maxHeartbeats 8000000 in
theorem stI (w : World) (mean mg mb) (base h₀ : Heap) (L fa : Addr) (cd : Value) (s : Shared) (o1 o2 o3 o4 o5 : Obj) (Q : Flow → Shared → Prop)
   (C : Ctx0 w mean mg mb base h₀) (m : Str → Option Value) (TL : List (Addr × Obj)) (F : Fr h₀ L s.heap m) (N : News h₀ L s.heap ((L+1+1+1+1+1,o5) :: (L+1+1+1+1,o4) :: (L+1+1+1,o3) :: (L+1+1,o2) :: (L+1,o1) :: TL))
   (am sh : Addr) (nm : Nat) (vm : List Value) (g0 g1 : Int) (u4 u5 : Tok) (hg0 : 0 ≤ g0) (hg1 : g0 ≤ 64) (hg2 : 0 ≤ g1) (hg3 : g1 ≤ 64)
   (m1 : m (Str.ofString "met") = some (.ref am)) (m2 : m (Str.ofString "shared") = some (.ref sh)) (hsh : (sh, W.listOf (List.toArray [.int g0 u4, .int g1 u5]) 0) ∈ TL) (ham : (am, W.listOf (List.toArray vm) nm) ∈ TL) (dam : DatAll TL vm ((blkL g1 64 g0).map blk))
   (hQ : ∀ (h' : Heap) (tk' : Nat), Fr h₀ L h' m → News h₀ L h' ((L+1+1+1+1+1,o5) :: (L+1+1+1+1,o4) :: (L+1+1+1,o3) :: (L+1+1,o2) :: (L+1,o1) :: TL) → LW w fa cd L 14 Q { s with heap := h', toks := tk' }) : LW w fa cd L 13 Q s := by
  obtain ⟨T, X, B⟩ := C
  revert X
  unfold LW at hQ ⊢
  w_top off
  k_fill
  intro X
  rw [drop_split lawD.body 13 1]
  generalize lawD.body.drop (13 + 1) = rest at hQ ⊢
  unfold lawD recOf at hQ ⊢
  dsimp only [List.drop, List.take, List.cons_append, List.nil_append] at hQ ⊢
  ktn_open
  refine (blocks_call w mean mg mb g0 g1 _ _ _ hg0 hg1 hg2 hg3).use B (by k_asm) X (by k_asm) T rfl (by decide) (by decide) ?_
  intro re tle he2 tke Fe Ne oe pe
  obtain ⟨ae, ne, ve, rfl, me, de⟩ := pe
  have mam : (am, W.listOf (List.toArray vm) nm) ∈ tle ++ ((L+1+1+1+1+1,o5) :: (L+1+1+1+1,o4) :: (L+1+1+1,o3) :: (L+1+1,o2) :: (L+1,o1) :: TL) := List.mem_append.mpr (.inr (.tail _ (.tail _ (.tail _ (.tail _ (.tail _ ham))))))
  have mae : (ae, W.listOf (List.toArray ve) ne) ∈ tle ++ ((L+1+1+1+1+1,o5) :: (L+1+1+1+1,o4) :: (L+1+1+1,o3) :: (L+1+1,o2) :: (L+1,o1) :: TL) := List.mem_append.mpr (.inl me)
  refine kqd_ne Ne mam rfl rfl dam (fun p hp => List.mem_append.mpr (.inr (.tail _ (.tail _ (.tail _ (.tail _ (.tail _ hp))))))) mae rfl rfl de (fun p hp => List.mem_append.mpr (.inl hp)) ?_ ?_ (by ke_room) ?_
  · intro d hd
    obtain ⟨p, _, rfl⟩ := List.mem_map.mp hd
    rfl
  · intro d hd
    obtain ⟨p, _, rfl⟩ := List.mem_map.mp hd
    rfl
  · simp only [eq_self, decide_true, Bool.not_true]
    ktn_open
    exact hQ _ _ Fe (fun p hp => Ne p (List.mem_append.mpr (.inr hp)))
end Mine
end
section -- P10
open PySem PySem.W PyProof.Rows PyProof.Rows.LCg
namespace Mine
local macro_rules | `(tactic| ktn_open) => `(tactic| repeat' (first | ((fail_if_success (with_reducible show wpAny _ _ (exec (Stmt.While _ _ _ _) _) _ _ _)); (fail_if_success (with_reducible show wpAny _ _ (exec (Stmt.For _ _ _ _ _) _) _ _ _)); (fail_if_success (with_reducible show wpAny _ _ (pyIter _) _ _ _)); (fail_if_success (with_reducible show wpAny _ _ (call (Value.ref _) _ _) _ _ _)); first | (k_unfold; (try dsimp only)) | (k_end; wrow_close) | walk1 | (dsimp only; walk1) | (leave1; walk_say "STEP leave1"; try dsimp only) | fail "no step")))
local macro_rules | `(tactic| k_mem) => `(tactic| assumption)
set_option maxRecDepth 100000 in
set_option maxHeartbeats 8000000 in
theorem stJ (w : World) (mean mg mb) (base h₀ : Heap) (L fa : Addr) (cd : Value) (s : Shared) (o1 o2 o3 o4 o5 : Obj) (Q : Flow → Shared → Prop)
   (C : Ctx0 w mean mg mb base h₀) (m : Str → Option Value) (TL : List (Addr × Obj)) (F : Fr h₀ L s.heap m) (N : News h₀ L s.heap ((L+1+1+1+1+1,o5) :: (L+1+1+1+1,o4) :: (L+1+1+1,o3) :: (L+1+1,o2) :: (L+1,o1) :: TL))
   (tot : Int) (t9 : Tok) (d2 : o2.data = .cell (some (.int tot t9)))
   (hQ : ∀ (bh : Str) (tb : Tok) (h' : Heap) (tk' : Nat), (bh = Str.ofString "" ∨ bh = Str.ofString "/" ∨ bh = Str.ofString "/x" ∨ bh = Str.ofString "/ab/a") → Fr h₀ L h' (fun z => if z = Str.ofString "behind" then some (.str bh tb) else m z) →
      News h₀ L h' ((L+1+1+1+1+1,o5) :: (L+1+1+1+1,o4) :: (L+1+1+1,o3) :: (L+1+1,o2) :: (L+1,o1) :: TL) → LW w fa cd L 15 Q { s with heap := h', toks := tk' }) : LW w fa cd L 14 Q s := by
  obtain ⟨T, X, B⟩ := C
  revert X
  unfold LW at hQ ⊢
  w_top off
  k_fill
  intro X
  rw [drop_split lawD.body 14 1]
  generalize lawD.body.drop (14 + 1) = rest at hQ ⊢
  unfold lawD recOf at hQ ⊢
  dsimp only [List.drop, List.take, List.cons_append, List.nil_append] at hQ ⊢
  ktn_open
  have hk : Int.fmod (Int.fdiv tot 2) 4 = 0 ∨ Int.fmod (Int.fdiv tot 2) 4 = 1 ∨ Int.fmod (Int.fdiv tot 2) 4 = 2 ∨ Int.fmod (Int.fdiv tot 2) 4 = 3 := by
    rw [Int.fmod_eq_emod_of_nonneg _ (by decide)]
    omega
  rename News h₀ L _ _ => N1
  rcases hk with hk | hk | hk | hk
  · rw [hk]
    refine item_L N1 (.head _) (by decide) (by decide) rfl ?_
    ktn_open
    rename Fr h₀ L _ _ => F2
    rename News h₀ L _ _ => N2
    exact hQ _ _ _ _ (.inl rfl) F2 (fun p hp => N2 p (.tail _ hp))
  · rw [hk]
    refine item_L N1 (.head _) (by decide) (by decide) rfl ?_
    ktn_open
    rename Fr h₀ L _ _ => F2
    rename News h₀ L _ _ => N2
    exact hQ _ _ _ _ (.inr (.inl rfl)) F2 (fun p hp => N2 p (.tail _ hp))
  · rw [hk]
    refine item_L N1 (.head _) (by decide) (by decide) rfl ?_
    ktn_open
    rename Fr h₀ L _ _ => F2
    rename News h₀ L _ _ => N2
    exact hQ _ _ _ _ (.inr (.inr (.inl rfl))) F2 (fun p hp => N2 p (.tail _ hp))
  · rw [hk]
    refine item_L N1 (.head _) (by decide) (by decide) rfl ?_
    ktn_open
    rename Fr h₀ L _ _ => F2
    rename News h₀ L _ _ => N2
    exact hQ _ _ _ _ (.inr (.inr (.inr rfl))) F2 (fun p hp => N2 p (.tail _ hp))
end Mine
end
section -- P11
open PySem PySem.W PyProof.Rows PyProof.Rows.LCg
namespace Mine
local macro_rules | `(tactic| ktn_open) => `(tactic| repeat' (first | ((fail_if_success (with_reducible show wpAny _ _ (exec (Stmt.While _ _ _ _) _) _ _ _)); (fail_if_success (with_reducible show wpAny _ _ (exec (Stmt.For _ _ _ _ _) _) _ _ _)); (fail_if_success (with_reducible show wpAny _ _ (pyIter _) _ _ _)); (fail_if_success (with_reducible show CompSrc _ _ _ _ _ _ _ _ _ _ _ _ _ _)); (fail_if_success (with_reducible show wpAny _ _ (call (Value.ref _) _ _) _ _ _)); (fail_if_success (with_reducible show wpAny _ _ (compareOp CmpOp.NotEq (Value.ref _) (Value.ref _)) _ _ _)); first | (k_unfold; (try dsimp only)) | (k_end; wrow_close) | walk1 | (dsimp only; walk1) | (leave1; walk_say "STEP leave1"; try dsimp only) | fail "no step")))
local macro_rules | `(tactic| walk_at "eval Name") => `(tactic| (k_here; (with_reducible show wpAny _ _ (eval (PySem.Expr.Name _ _) (envOfC _ _ _ _ _)) _ _ _); k_dflt (refine' nameX_L ?F ?v ?_ ?a ?b; (case F => k_asm); (case a => rfl); (case b => rfl); (case v => assumption); k_whole)))
local macro_rules | `(tactic| walk_at "eval Name") => `(tactic| (k_here; (with_reducible show wpAny _ _ (eval (PySem.Expr.Name _ _) (compEnvC _ _ _ _)) _ _ _); k_dflt (refine' kcf_cell ?N ?c ?m ?d ?_ ?k ?x; (case k => rfl); (case x => rfl); (case c => rfl); (case N => k_asm); (case m => assumption); (case d => assumption))))
local macro_rules | `(tactic| k_mem) => `(tactic| assumption)
local macro_rules | `(tactic| k_all) => `(tactic| (intro p9 h9; (have h9' := (by assumption : OffC _ _) p9 h9); refine neN ?_; omega))
local macro_rules | `(tactic| walk_at "call builtin:len") => `(tactic| (k_here; (with_reducible show wpAny _ _ (call (Value.builtin "len") [Value.ref _]) _ _ _); k_dflt (refine' len_L ?N ?m ?f ?_; (case N => k_asm); (case m => k_mem); (case f => omega); k_whole)))
local macro_rules | `(tactic| walk_at "exec Assign cons ListComp") => `(tactic| (k_here; k_dflt (refine LCg.Assign_ListComp_U (F₀ := by k_asm) (by rfl) (by with_unfolding_all rfl) (by with_unfolding_all rfl) (by decide) (by rfl) (by decide) (by rfl) (by rfl) (by rfl) ?_)))
local macro_rules | `(tactic| walk_at "eval ListComp") => `(tactic| (k_here; k_dflt (refine LCg.ListComp_U (F₀ := by k_asm) (by with_unfolding_all rfl) (by decide) (by rfl) (by decide) (by rfl) ?_)))
local macro_rules | `(tactic| walk_at "subscriptTail") => `(tactic| (k_here; (with_reducible show wpAny _ _ (subscriptTail _ _ (Value.ref _) (Value.int _ _)) _ _ _); k_dflt (refine' item_L ?N ?m ?a ?b ?x ?_ ?s; (case N => k_asm); (case m => k_mem); (case a => decide); (case b => decide); (case x => rfl); (case s => with_unfolding_all rfl); k_whole)))
theorem led_G {h₀ h : Heap} {L : Addr} {d x4 x5 x6 x7 x8 : Addr × Obj} {tl TL : List (Addr × Obj)} (N : News h₀ L h (tl ++ (d :: x4 :: x5 :: x6 :: x7 :: x8 :: TL))) (hO : OffC L TL) (ht : ∀ p ∈ tl, @LT.lt Nat _ (L+1+1+1+1+1) p.1) (hd : @LT.lt Nat _ (L+1+1+1+1+1) d.1) :
    ∃ R2, News h₀ L h (x4 :: x5 :: x6 :: x7 :: x8 :: R2) ∧ OffC L R2 ∧ (∀ p ∈ TL, p ∈ R2) ∧ (∀ p ∈ tl, p ∈ R2) := by
  refine ⟨tl ++ (d :: TL), fun p hp => N p ?_, OffC.app (offC_lt ht) (OffC.cons ?_ hO), fun p hp => List.mem_append.mpr (.inr (.tail _ hp)), fun p hp => List.mem_append.mpr (.inl hp)⟩
  · simp only [List.mem_cons, List.mem_append] at hp ⊢
    rcases hp with h | h | h | h | h | h | h | h <;> simp only [h, true_or, or_true]
  · refine ⟨?_, ?_, ?_, ?_, ?_⟩ <;> omega
theorem led_H {h₀ h : Heap} {L D : Addr} {o o1 o2 o3 o4 o5 : Obj} {TL : List (Addr × Obj)} (N : News h₀ L h ((D, o) :: (L+1+1+1+1+1,o5) :: (L+1+1+1+1,o4) :: (L+1+1+1,o3) :: (L+1+1,o2) :: (L+1,o1) :: TL)) (hO : OffC L TL) (off : Off1 D ((L+1+1+1+1+1,o5) :: (L+1+1+1+1,o4) :: (L+1+1+1,o3) :: (L+1+1,o2) :: (L+1,o1) :: TL)) :
    ∃ R2, News h₀ L h ((L+1+1+1+1+1,o5) :: (L+1+1+1+1,o4) :: (L+1+1+1,o3) :: (L+1+1,o2) :: (L+1,o1) :: R2) ∧ OffC L R2 ∧ (∀ p ∈ TL, p ∈ R2) ∧ (D, o) ∈ R2 := by
  refine ⟨(D, o) :: TL, fun p hp => N p ?_, OffC.cons (off1_cells (tl := []) off) hO, fun p hp => .tail _ hp, .head _⟩
  simp only [List.mem_cons] at hp ⊢
  rcases hp with h | h | h | h | h | h | h <;> simp only [h, true_or, or_true]
theorem map_at {l : List (Int × Int)} {g : Int × Int → Bool} {i : Nat} {v : Value} (h : (l.map fun p => Value.bool (g p))[i]? = some v) : ∃ p, l[i]? = some p ∧ v = .bool (g p) := by
  rw [List.getElem?_map] at h
  cases e : l[i]? with
  | none => rw [e] at h; cases h
  | some p => rw [e] at h; cases h; exact ⟨p, rfl, rfl⟩
theorem six_at {a b c d e f : Int} {t1 t2 t3 t4 t5 t6 : Tok} {i : Nat} {v : Value} (h : [Value.int (Int.fmod a 64) t1, .int (Int.fmod b 64) t2, .int (Int.fmod c 64) t3, .int (Int.fmod d 64) t4, .int (Int.fmod e 64) t5, .int (Int.fmod f 64) t6][i]? = some v) : ∃ x t, v = .int x t ∧ 0 ≤ x ∧ x < 64 := by
  have g : ∀ x : Int, 0 ≤ Int.fmod x 64 ∧ Int.fmod x 64 < 64 := fun x => by
    rw [Int.fmod_eq_emod_of_nonneg _ (by decide)]; omega
  match i, h with
  | 0, h => cases h; exact ⟨_, _, rfl, g _⟩
  | 1, h => cases h; exact ⟨_, _, rfl, g _⟩
  | 2, h => cases h; exact ⟨_, _, rfl, g _⟩
  | 3, h => cases h; exact ⟨_, _, rfl, g _⟩
  | 4, h => cases h; exact ⟨_, _, rfl, g _⟩
  | 5, h => cases h; exact ⟨_, _, rfl, g _⟩
theorem ownOff_cells {L : Addr} {o1 o2 o3 o4 o5 : Obj} {own TL : List (Addr × Obj)} (h : OwnOff own (((L+1+1+1+1+1,o5) :: (L+1+1+1+1,o4) :: (L+1+1+1,o3) :: (L+1+1,o2) :: (L+1,o1) :: TL).map (·.1))) : OffC L own := by
  intro p hp
  have g := h p hp
  refine ⟨g _ ?_, g _ ?_, g _ ?_, g _ ?_, g _ ?_⟩ <;> simp
set_option maxRecDepth 100000 in
set_option maxHeartbeats 8000000 in
theorem stK (w : World) (mean mg mb) (base h₀ : Heap) (L fa : Addr) (cd : Value) (s : Shared) (o1 o2 o3 o4 o5 : Obj) (Q : Flow → Shared → Prop)
   (C : Ctx0 w mean mg mb base h₀) (m : Str → Option Value) (TL : List (Addr × Obj)) (F : Fr h₀ L s.heap m) (N : News h₀ L s.heap ((L+1+1+1+1+1,o5) :: (L+1+1+1+1,o4) :: (L+1+1+1,o3) :: (L+1+1,o2) :: (L+1,o1) :: TL)) (hTL : OffC L TL)
   (tot : Int) (t8 : Tok) (d2 : o2.data = .cell (some (.int tot t8))) (c4 c5 : Option Value) (d4 : o4.data = .cell c4) (d5 : o5.data = .cell c5)
   (mgr dx dd : Addr) (kh : Int) (t9 : Tok) (d3 : o3.data = .cell (some (.ref mgr))) (hmg : (mgr, instObj 67 dx) ∈ TL) (hdx : (dx, dictOf [⟨kh, .str (Str.ofString "passwd") t9, .ref dd⟩] 1) ∈ TL)
   (x0 x1 y0 y1 : Int) (u0 u1 u2 u3 : Tok) (c1 c2 : Nat) (he th : Addr) (q1 : 0 ≤ x0) (q2 : x0 ≤ x1) (q3 : x1 ≤ 64) (q4 : 0 ≤ y0) (q5 : y0 ≤ y1) (q6 : y1 ≤ 64)
   (ao an : Addr) (no nn : Nat) (vo vn : List Value) (l1 : List (Int × Int)) (hl1 : l1 = blkL x1 64 x0) (bh : Str) (tb : Tok) (hbh : bh = Str.ofString "" ∨ bh = Str.ofString "/" ∨ bh = Str.ofString "/x" ∨ bh = Str.ofString "/ab/a")
   (m1 : m (Str.ofString "ones") = some (.ref ao)) (m3 : m (Str.ofString "near") = some (.ref an)) (m4 : m (Str.ofString "here") = some (.ref he)) (m5 : m (Str.ofString "there") = some (.ref th)) (m6 : m (Str.ofString "behind") = some (.str bh tb))
   (hhe : (he, W.listOf (List.toArray [.int x0 u0, .int x1 u1]) c1) ∈ TL) (hth : (th, W.listOf (List.toArray [.int y0 u2, .int y1 u3]) c2) ∈ TL)
   (hao : (ao, W.listOf (List.toArray vo) no) ∈ TL) (dao : DatAll TL vo (l1.map blk)) (han : (an, W.listOf (List.toArray vn) nn) ∈ TL) (dan : DatAll TL vn (l1.map (adrB (Str.ofString ""))))
   (hQ : ∀ (m' : Str → Option Value) (h' : Heap) (tk' : Nat), Fr h₀ L h' m' → LW w fa cd L 16 Q { s with heap := h', toks := tk' }) : LW w fa cd L 15 Q s := by
  obtain ⟨T, X, B⟩ := C
  revert X
  unfold LW at hQ ⊢
  w_top off
  k_fill
  intro X
  rw [drop_split lawD.body 15 1]
  generalize lawD.body.drop (15 + 1) = rest at hQ ⊢
  unfold lawD recOf at hQ ⊢
  dsimp only [List.drop, List.take, List.cons_append, List.nil_append] at hQ ⊢
  ktn_open
  refine For_any (h₀ := h₀) ?_
  ktn_open
  rename Fr h₀ L _ _ => F1
  rename News h₀ L _ _ => N1
  rename Addr => lx
  replace F1 := frMore (frMore F1 (Str.ofString "told") _ rfl) (Str.ofString "has") _ rfl
  refine ⟨lx, _, _, _, _, fun i mm nw => ∃ (tv hv : Option Value) (o4 o5 : Obj) (c4 c5 : Option Value), mm = (fun z => if z = Str.ofString "has" then hv else if z = Str.ofString "told" then tv else m z) ∧ nw = (L+1+1+1+1+1,o5) :: (L+1+1+1+1,o4) :: (L+1+1+1,o3) :: (L+1+1,o2) :: (L+1,o1) :: TL ∧ o4.data = .cell c4 ∧ o5.data = .cell c5, rfl, rfl, F1, N1, ?_, ⟨_, _, _, _, _, _, rfl, rfl, d4, d5⟩, ?_, ?_⟩
  · rename_i lt1
    intro p hp
    refine Nat.ne_of_lt ?_
    simp only [List.mem_cons] at hp
    rcases hp with h | h | h | h | h | h
    · subst h; exact lt1.1
    · subst h; exact lt1.2.1
    · subst h; exact lt1.2.2.1
    · subst h; exact lt1.2.2.2.1
    · subst h; exact lt1.2.2.2.2.1
    · exact ktn_ltOf lt1.2.2.2.2.2 p h
  · rintro i v mm nw hh tkh own hv hown ⟨tv, hvv, o4, o5, c4, c5, rfl, rfl, d4, d5⟩ F3 N3
    obtain ⟨xv, tx, rfl, hx0, hx1⟩ := six_at hv
    clear hv
    replace F3 : Fr h₀ L hh _ := F3
    obtain ⟨R, hR⟩ : ∃ R, R = TL ++ own := ⟨_, rfl⟩
    replace N3 : News h₀ L hh ((L+1+1+1+1+1,o5) :: (L+1+1+1+1,o4) :: (L+1+1+1,o3) :: (L+1+1,o2) :: (L+1,o1) :: R) := by rw [hR]; exact N3
    have hOR : OffC L R := by rw [hR]; exact OffC.app hTL (ownOff_cells hown)
    have hTR : ∀ p ∈ TL, p ∈ R := fun p hp => by rw [hR]; exact List.mem_append.mpr (.inl hp)
    have hOw : ∀ p ∈ own, p ∈ R := fun p hp => by rw [hR]; exact List.mem_append.mpr (.inr hp)
    have hbl : bh.length ≤ 5 := by rcases hbh with rfl | rfl | rfl | rfl <;> decide
    have hbo : PyData.strOk bh = true := by rcases hbh with rfl | rfl | rfl | rfl <;> decide +kernel
    ktn_open
    rename_i o4' d4' Dt _ F4 N4 lt4
    refine (addr_call w mean mg mb Dt xv 1 0 0 _ _ _ _ _ (.head _) (by decide) (by decide) hbl).use B F4 X N4 T rfl (by decide) (by decide) ?_
    intro ra tla ha tka Fa Na oa da
    obtain ⟨ba, s1, s2, ca, rfl, hba⟩ := adr_inv da
    obtain ⟨R2, Na', hO2, hR12, hba1⟩ := led_G Na hOR (fun p hp => oa (L+1+1+1+1+1, o5) (.tail _ (.head _)) p hp) (by dsimp only; omega)
    have hba2 := hba1 _ hba
    have han2 := hR12 _ (hTR _ han)
    have hao2 := hR12 _ (hTR _ hao)
    have hmg2 := hR12 _ (hTR _ hmg)
    have hdx2 := hR12 _ (hTR _ hdx)
    ktn_open
    rename_i o5' F5 N5 d5'
    have hlo := dao.length
    have hln := dan.length
    rw [List.length_map] at hlo hln
    have hl64 : l1.length ≤ 64 := by rw [hl1]; exact blk_len _ _ _
    refine CompSrc.ledger rfl F5 N5 (.tail _ (.tail _ (.tail _ (.tail _ (.tail _ han2))))) (by rw [List.size_toArray, sizeLine_eq]; omega) ?_
    intro g1
    refine comp_ind (fun i ys nw => nw = (L+1+1+1+1+1,o5') :: (L+1+1+1+1,o4') :: (L+1+1+1,o3) :: (L+1+1,o2) :: (L+1,o1) :: R2 ∧ ys = (l1.take i).map (fun p => Value.bool (cov xv bh p))) ?_ ?_ _ 0 [] _ (by rw [Nat.zero_add]) (.inr ⟨_, .tail _ (.tail _ (.tail _ (.tail _ (.tail _ han2)))), rfl, _, rfl⟩) ⟨rfl, rfl⟩
    · rintro i v I oI CC oC DD m₂ h tk E' ys nw hv ⟨rfl, rfl⟩ hC hx F6 N6 off ne
      obtain ⟨p, hp, dp⟩ := dat_at dan (by simpa using hv)
      obtain ⟨b, t1, t2, c, rfl, hb⟩ := adr_inv dp
      have hb2 := hR12 _ (hTR _ hb)
      have h3c : (L+1+1+1, o3) ∈ (I, oI) :: (CC, oC) :: (DD, LCg.lst ((l1.take i).map (fun p => Value.bool (cov xv bh p)))) :: (L+1+1+1+1+1,o5') :: (L+1+1+1+1,o4') :: (L+1+1+1,o3) :: (L+1+1,o2) :: (L+1,o1) :: R2 := .tail _ (.tail _ (.tail _ (.tail _ (.tail _ (.head _)))))
      have h5c : (L+1+1+1+1+1, o5') ∈ (I, oI) :: (CC, oC) :: (DD, LCg.lst ((l1.take i).map (fun p => Value.bool (cov xv bh p)))) :: (L+1+1+1+1+1,o5') :: (L+1+1+1+1,o4') :: (L+1+1+1,o3) :: (L+1+1,o2) :: (L+1,o1) :: R2 := .tail _ (.tail _ (.tail _ (.head _)))
      ktn_open
      refine (sub_call w mean mg mb _ b ba c ca (hostOf p.1) (hostOf xv) (pth p.1 (5 - lvl p.2) ++ Str.ofString "") (pth xv (5 - 0) ++ bh) t1 t2 s1 s2 _ (.tail _ (.tail _ (.tail _ (.tail _ (.tail _ (.tail _ (.tail _ (.tail _ hb2)))))))) (.tail _ (.tail _ (.tail _ (.tail _ (.tail _ (.tail _ (.tail _ (.tail _ hba2)))))))) (ok_host _) (ok_host _) (ok_append (ok_pth _ _) (by decide +kernel)) (ok_append (ok_pth _ _) hbo) (len_adr _ _ (by decide))).use B F6 X N6 T rfl (by decide) (by decide) ?_
      intro r tl1 h1 tk1 F7 N7 o7 d7
      k_unfold
      subst d7
      refine ElEnd.intro [] F7 (fun q hq => N7 q (List.mem_append.mpr (.inr hq))) ord_nil ⟨rfl, ?_⟩
      rw [List.take_add_one, hp, List.map_append]; rfl
    · rintro ys nw ⟨rfl, rfl⟩
      intro D1 h6 tk6 F6 N6 off6
      rw [List.size_toArray, hln, List.take_length] at N6
      dsimp only at F6
      rw [upd_back1 (by decide)] at F6
      obtain ⟨R3, N6', hO3, hR23, hD1⟩ := led_H N6 hO2 off6
      have hao3 := hR23 _ hao2
      ktn_open
      refine CompSrc.ledger rfl F6 N6' (.tail _ (.tail _ (.tail _ (.tail _ (.tail _ hao3))))) (by rw [List.size_toArray, sizeLine_eq]; omega) ?_
      intro g2
      refine comp_ind (fun i ys nw => nw = (L+1+1+1+1+1,o5') :: (L+1+1+1+1,o4') :: (L+1+1+1,o3) :: (L+1+1,o2) :: (L+1,o1) :: R3 ∧ ys = (l1.take i).map (fun p => Value.bool (inB xv p))) ?_ ?_ _ 0 [] _ (by rw [Nat.zero_add]) (.inr ⟨_, .tail _ (.tail _ (.tail _ (.tail _ (.tail _ hao3)))), rfl, _, rfl⟩) ⟨rfl, rfl⟩
      · rintro i v I oI CC oC DD m₂ h tk E' ys nw hv ⟨rfl, rfl⟩ hC hx F7 N7 off ne
        obtain ⟨p, hp, dp⟩ := dat_at dao (by simpa using hv)
        obtain ⟨b, t1, t2, c, rfl, hb⟩ := blk_inv dp
        have hb3 := hR23 _ (hR12 _ (hTR _ hb))
        have h4c : (L+1+1+1+1, o4') ∈ (I, oI) :: (CC, oC) :: (DD, LCg.lst ((l1.take i).map (fun p => Value.bool (inB xv p)))) :: (L+1+1+1+1+1,o5') :: (L+1+1+1+1,o4') :: (L+1+1+1,o3) :: (L+1+1,o2) :: (L+1,o1) :: R3 := .tail _ (.tail _ (.tail _ (.tail _ (.head _))))
        have hbl3 : (b, ({ cls := .type "tuple", data := .seq (List.toArray [.int p.1 t1, .int p.2 t2]) c } : Obj)) ∈ (I, oI) :: (CC, oC) :: (DD, LCg.lst ((l1.take i).map (fun p => Value.bool (inB xv p)))) :: (L+1+1+1+1+1,o5') :: (L+1+1+1+1,o4') :: (L+1+1+1,o3) :: (L+1+1,o2) :: (L+1,o1) :: R3 := .tail _ (.tail _ (.tail _ (.tail _ (.tail _ (.tail _ (.tail _ (.tail _ hb3)))))))
        ktn_open
        · refine ElEnd.intro [] (by k_asm) (by k_asm) ord_nil ⟨rfl, ?_⟩
          have hle : p.1 ≤ xv := by assumption
          rw [List.take_add_one, hp, List.map_append]
          simp [inB, hle]
        · refine ElEnd.intro [] (by k_asm) (by k_asm) ord_nil ⟨rfl, ?_⟩
          have hle : ¬ p.1 ≤ xv := by assumption
          rw [List.take_add_one, hp, List.map_append]
          simp [inB, hle]
      · rintro ys nw ⟨rfl, rfl⟩
        intro D2 h7 tk7 F7 N7 off7
        rw [List.size_toArray, hlo, List.take_length] at N7
        dsimp only at F7
        rw [upd_twice] at F7
        obtain ⟨R4, N7', hO4, hR34, hD2⟩ := led_H N7 hO3 off7
        have hao4 := hR34 _ hao3
        have hD14 := hR34 _ hD1
        ktn_open
        refine CompSrc.ledger rfl F7 N7' (.tail _ (.tail _ (.tail _ (.tail _ (.tail _ hD14))))) (by rw [List.size_toArray, List.length_map, sizeLine_eq]; omega) ?_
        intro g3
        refine comp_ind (fun i ys nw => nw = (L+1+1+1+1+1,o5') :: (L+1+1+1+1,o4') :: (L+1+1+1,o3) :: (L+1+1,o2) :: (L+1,o1) :: R4 ∧ ys = (l1.take i).map (fun p => Value.bool (cov xv bh p))) ?_ ?_ _ 0 [] _ (by rw [Nat.zero_add]) (.inr ⟨_, .tail _ (.tail _ (.tail _ (.tail _ (.tail _ hD14)))), rfl, _, rfl⟩) ⟨rfl, rfl⟩
        · rintro i v I oI CC oC DD m₂ h tk E' ys nw hv ⟨rfl, rfl⟩ hC hx F8 N8 off ne
          obtain ⟨p, hp, rfl⟩ := map_at (by simpa using hv)
          cases hcv : cov xv bh p
          · rw [hcv] at hx
            ktn_open
            refine ElEnd.intro [] (by k_asm) (by k_asm) ord_nil ⟨rfl, ?_⟩
            rw [List.take_add_one, hp, List.map_append]
            simp [hcv]
          · rw [hcv] at hx
            ktn_open
            refine ElEnd.intro [] (by k_asm) (by k_asm) ord_nil ⟨rfl, ?_⟩
            rw [List.take_add_one, hp, List.map_append]
            simp [hcv]
        · rintro ys nw ⟨rfl, rfl⟩
          intro D3 h8 tk8 F8 N8 off8
          rw [List.size_toArray, List.length_map, List.take_length] at N8
          have e1 : (l1.map fun p => Value.bool (cov xv bh p)) = (l1.map (cov xv bh)).map Value.bool := by rw [List.map_map]; rfl
          have e2 : (l1.map fun p => Value.bool (inB xv p)) = (l1.map (inB xv)).map Value.bool := by rw [List.map_map]; rfl
          have e3 : l1.map (cov xv bh) = l1.map (inB xv) := List.map_congr_left (by rw [hl1]; exact cov_inB q1 q3 hx0 hx1 hbh)
          have hD24 : (D2, _) ∈ _ := List.mem_cons_of_mem (D3, LCg.lst (l1.map (fun p => Value.bool (cov xv bh p)))) (List.mem_cons_of_mem (L+1+1+1+1+1,o5') (List.mem_cons_of_mem (L+1+1+1+1,o4') (List.mem_cons_of_mem (L+1+1+1,o3) (List.mem_cons_of_mem (L+1+1,o2) (List.mem_cons_of_mem (L+1,o1) hD2)))))
          ktn_open
          rw [e1] at N8
          rw [e2] at hD2
          refine ne_bools N8 (.head _) (.tail _ (.tail _ (.tail _ (.tail _ (.tail _ (.tail _ hD2)))))) (by ke_room) ?_
          rw [e3, decide_eq_true rfl]
          replace N8 : News h₀ L h8 ((L+1+1+1+1+1,o5') :: (L+1+1+1+1,o4') :: (L+1+1+1,o3) :: (L+1+1,o2) :: (L+1,o1) :: R4) := fun p hp => N8 p (.tail _ hp)
          ktn_open
          refine CompSrc.ledger rfl F8 N8 (.tail _ (.tail _ (.tail _ (.tail _ (.tail _ hD14))))) (by rw [List.size_toArray, List.length_map, sizeLine_eq]; omega) ?_
          intro g4
          refine comp_ind (fun i ys nw => nw = (L+1+1+1+1+1,o5') :: (L+1+1+1+1,o4') :: (L+1+1+1,o3) :: (L+1+1,o2) :: (L+1,o1) :: R4 ∧ ys = (l1.take i).map (fun p => Value.bool (!cov xv bh p))) ?_ ?_ _ 0 [] _ (by rw [Nat.zero_add]) (.inr ⟨_, .tail _ (.tail _ (.tail _ (.tail _ (.tail _ hD14)))), rfl, _, rfl⟩) ⟨rfl, rfl⟩
          · rintro i v I oI CC oC DD m₂ h tk E' ys nw hv ⟨rfl, rfl⟩ hC hx F9 N9 off ne
            obtain ⟨p, hp, rfl⟩ := map_at (by simpa using hv)
            cases hcv : cov xv bh p
            · rw [hcv] at hx
              ktn_open
              refine ElEnd.intro [] (by k_asm) (by k_asm) ord_nil ⟨rfl, ?_⟩
              rw [List.take_add_one, hp, List.map_append]
              simp [hcv]
            · rw [hcv] at hx
              ktn_open
              refine ElEnd.intro [] (by k_asm) (by k_asm) ord_nil ⟨rfl, ?_⟩
              rw [List.take_add_one, hp, List.map_append]
              simp [hcv]
          · rintro ys nw ⟨rfl, rfl⟩
            intro D4 h9 tk9 F9 N9 off9
            rw [List.size_toArray, List.length_map, List.take_length] at N9
            obtain ⟨R5, N9', hO5, hR45, hD4⟩ := led_H N9 hO4 off9
            have hD25 := hR45 _ hD2
            rw [← e2] at hD25
            ktn_open
            refine CompSrc.ledger rfl F9 N9' (.tail _ (.tail _ (.tail _ (.tail _ (.tail _ hD25))))) (by rw [List.size_toArray, List.length_map, sizeLine_eq]; omega) ?_
            intro g5
            refine comp_ind (fun i ys nw => nw = (L+1+1+1+1+1,o5') :: (L+1+1+1+1,o4') :: (L+1+1+1,o3) :: (L+1+1,o2) :: (L+1,o1) :: R5 ∧ ys = (l1.take i).map (fun p => Value.bool (!inB xv p))) ?_ ?_ _ 0 [] _ (by rw [Nat.zero_add]) (.inr ⟨_, .tail _ (.tail _ (.tail _ (.tail _ (.tail _ hD25)))), rfl, _, rfl⟩) ⟨rfl, rfl⟩
            · rintro i v I oI CC oC DD m₂ h tk E' ys nw hv ⟨rfl, rfl⟩ hC hx F10 N10 off ne
              obtain ⟨p, hp, rfl⟩ := map_at (by simpa using hv)
              cases hcv : inB xv p
              · rw [hcv] at hx
                ktn_open
                refine ElEnd.intro [] (by k_asm) (by k_asm) ord_nil ⟨rfl, ?_⟩
                rw [List.take_add_one, hp, List.map_append]
                simp [hcv]
              · rw [hcv] at hx
                ktn_open
                refine ElEnd.intro [] (by k_asm) (by k_asm) ord_nil ⟨rfl, ?_⟩
                rw [List.take_add_one, hp, List.map_append]
                simp [hcv]
            · rintro ys nw ⟨rfl, rfl⟩
              intro D5 h10 tk10 F10 N10 off10
              rw [List.size_toArray, List.length_map, List.take_length] at N10
              have e4 : (l1.map fun p => Value.bool (!cov xv bh p)) = (l1.map (fun p => !inB xv p)).map Value.bool := by
                rw [List.map_map]
                refine List.map_congr_left fun p hp => ?_
                rw [Function.comp, cov_inB q1 q3 hx0 hx1 hbh p (by rw [← hl1]; exact hp)]
              have e5 : (l1.map fun p => Value.bool (!inB xv p)) = (l1.map (fun p => !inB xv p)).map Value.bool := by rw [List.map_map]; rfl
              rw [e5] at N10
              rw [e4] at hD4
              ktn_open
              refine ne_bools N10 (.tail _ (.tail _ (.tail _ (.tail _ (.tail _ (.tail _ hD4)))))) (.head _) (by ke_room) ?_
              rw [decide_eq_true rfl]
              replace N10 : News h₀ L h10 ((L+1+1+1+1+1,o5') :: (L+1+1+1+1,o4') :: (L+1+1+1,o3) :: (L+1+1,o2) :: (L+1,o1) :: R5) := fun p hp => N10 p (.tail _ hp)
              have hD15 := hR45 _ hD14
              have hao5 := hR45 _ hao4
              have hhe5 := hR45 _ (hR34 _ (hR23 _ (hR12 _ (hTR _ hhe))))
              rw [e1] at hD15
              ktn_open
              refine (count_call w mean mg mb D1 _ (l1.map (cov xv bh)) _ (.tail _ (.tail _ (.tail _ (.tail _ (.tail _ hD15)))))).use B F10 X N10 T rfl (by decide) (by decide) ?_
              intro rc tlc hc tkc Fc Nc oc pc
              obtain ⟨tc, rfl⟩ := pc
              replace Nc : News h₀ L hc ((L+1+1+1+1+1,o5') :: (L+1+1+1+1,o4') :: (L+1+1+1,o3) :: (L+1+1,o2) :: (L+1,o1) :: R5) := fun p hp => Nc p (List.mem_append.mpr (.inr hp))
              have hcnt := cnt_inB (x := xv) q1 q2 q3
              rw [← hl1, ← e3, ← hlo] at hcnt
              rw [hcnt]
              have hT5 : ∀ p ∈ TL, p ∈ R5 := fun p hp => hR45 _ (hR34 _ (hR23 _ (hR12 _ (hTR _ hp))))
              have hO5' : ∀ p ∈ own, p ∈ R5 := fun p hp => hR45 _ (hR34 _ (hR23 _ (hR12 _ (hOw _ hp))))
              have hend : ∀ tkz, InvEndG h₀ L (fun mm nw => ∃ (tv hv : Option Value) (o4 o5 : Obj) (c4 c5 : Option Value), mm = (fun z => if z = Str.ofString "has" then hv else if z = Str.ofString "told" then tv else m z) ∧ nw = (L+1+1+1+1+1,o5) :: (L+1+1+1+1,o4) :: (L+1+1+1,o3) :: (L+1+1,o2) :: (L+1,o1) :: TL ∧ o4.data = .cell c4 ∧ o5.data = .cell c5) own { s with heap := hh, toks := tkh } { s with heap := hc, toks := tkz } := by
                intro tkz
                refine InvEndG.intro (nx := (L+1+1+1+1+1,o5') :: (L+1+1+1+1,o4') :: (L+1+1+1,o3) :: (L+1+1,o2) :: (L+1,o1) :: TL) Fc Nc ⟨_, _, _, _, _, _, rfl, rfl, d4', d5'⟩ hown (fun p hp => ?_) (fun p hp => .tail _ (.tail _ (.tail _ (.tail _ (.tail _ (hO5' p hp))))))
                simp only [List.mem_cons] at hp ⊢
                rcases hp with h | h | h | h | h | h
                · simp only [h, true_or, or_true]
                · simp only [h, true_or, or_true]
                · simp only [h, true_or, or_true]
                · simp only [h, true_or, or_true]
                · simp only [h, true_or, or_true]
                · simp only [hT5 p h, or_true]
              ktn_open
              all_goals first
                | exact hend _
                | (exfalso; (rename (_ : Int) ≠ _ => hne); apply hne; split <;> omega)
  · rintro mm nw hh tkh ⟨tv, hvv, o4, o5, c4, c5, rfl, rfl, d4, d5⟩ F3 N3
    exact hQ _ _ _ F3
end Mine
end
section -- P12
open PySem PySem.W PyProof.Rows PyProof.Rows.LCg
namespace Mine
set_option maxRecDepth 100000 in
set_option maxHeartbeats 8000000 in
theorem stL (w : World) (mean mg mb) (base h₀ : Heap) (L fa : Addr) (cd : Value) (s : Shared) (Q : Flow → Shared → Prop)
   (C : Ctx0 w mean mg mb base h₀) (hQ : Q (.ret (.bool true)) s) : LW w fa cd L 16 Q s := by
  obtain ⟨T, X, B⟩ := C
  revert X
  unfold LW
  w_top off
  k_fill
  intro X
  unfold lawD recOf
  dsimp only [List.drop]
  k_steps
  exact hQ
theorem blk_pow (e : Int) (n : Nat) : ∀ f, ∀ p ∈ blkL e n f, ∃ k, k ≤ 5 ∧ p.2 = 2 ^ k := by
  induction n with
  | zero => intro f p hp; cases hp
  | succ n ih =>
    intro f p hp
    rw [blkL] at hp
    split at hp
    · rcases List.mem_cons.mp hp with rfl | hp
      · exact ⟨stepK f e, Nat.le_trans (fit_le _ _ _) (low_le f), rfl⟩
      · exact ih _ p hp
    · cases hp
theorem law_walk (w : World) (mean mg mb) (base h₀ : Heap) (L fa la : Addr) (cd : Value) (vals : List Value) (ns : List Int) (s : Shared) (o1 o2 o3 o4 o5 : Obj) (Q : Flow → Shared → Prop)
   (C : Ctx0 w mean mg mb base h₀) (hl : h₀.IsList la vals.toArray) (hi : IntsAre vals ns) (hlen : ns.length ≤ 63)
   (F : Fr h₀ L s.heap (fun _ => none)) (N : News h₀ L s.heap [(L+1+1+1+1+1,o5),(L+1+1+1+1,o4),(L+1+1+1,o3),(L+1+1,o2),(L+1,o1)])
   (d1 : o1.data = .cell (some (.ref la))) (d2 : o2.data = .cell none) (d3 : o3.data = .cell none) (d4 : o4.data = .cell none) (d5 : o5.data = .cell none)
   (hQ : ∀ m' h' tk', Fr h₀ L h' m' → Q (.ret (.bool true)) { s with heap := h', toks := tk' }) : LW w fa cd L 0 Q s := by
  refine stA w mean mg mb base h₀ L fa la cd vals ns s o1 o2 o3 o4 o5 Q C hl hi hlen F N d1 ?_
  intro a b c d t0 t1 t2 t3 D hA tkA FA NA oA
  refine stB w mean mg mb base h₀ L fa cd _ o1 o2 o3 o4 o5 Q C a b c d t0 t1 t2 t3 D FA NA oA d2 ?_
  intro x0 x1 y0 y1 u0 u1 u2 u3 u4 u5 u6 c1 c2 he th sh o2' hB tkB q1 q2 q3 q4 q5 q6 d2' FB NB oB
  refine stC w mean mg mb base h₀ L fa cd _ o1 o2' o3 o4 o5 Q C x0 x1 y0 y1 u0 u1 u2 u3 u4 u5 c1 c2 he th sh D q1 q2 q3 q4 q5 q6 FB NB oB ?_
  intro ev dv hC tkC FC NC
  refine stD w mean mg mb base h₀ L fa cd _ o1 o2' o3 o4 o5 Q C x0 x1 y0 y1 u0 u1 u2 u3 u4 u5 c1 c2 he th sh D q1 q2 q3 q4 q5 q6 ev dv FC NC oB ?_
  intro TL ao ab no nb vo vb hD tkD FD ND OD hsh hth hhe hao dao hab dab
  refine stE w mean mg mb base h₀ L fa cd _ o1 o2' o3 o4 o5 Q C _ TL FD ND OD d3 ?_
  intro mgr dx dd kh t9 o3' hE tkE d3' FE NE OE
  have s1 : ∀ p ∈ TL, p ∈ (mgr, instObj 67 dx) :: (dx, dictOf [⟨kh, .str (Str.ofString "passwd") t9, .ref dd⟩] 1) :: TL := fun p hp => .tail _ (.tail _ hp)
  refine stF w mean mg mb base h₀ L fa cd _ o1 o2' o3' o4 o5 Q C _ _ FE NE OE ao no vo (blkL x1 64 x0) rfl (s1 _ hao) (dao.mono s1) (blk_len _ _ _) (blk_pow _ _ _) ?_
  intro TL2 an nn vn hF tkF FF NF OF s2 han dan
  refine stG w mean mg mb base h₀ L fa cd _ o1 o2' o3' o4 o5 Q C _ TL2 FF NF OF _ _ d2' ab nb vb (blkL y1 64 y0) rfl (s2 _ (s1 _ hab)) ((dab.mono s1).mono s2) (blk_len _ _ _) (blk_pow _ _ _) ?_
  intro TL3 af nf vf hG tkG FG NG OG s3 haf daf
  have s13 : ∀ p ∈ TL, p ∈ TL3 := fun p hp => s3 _ (s2 _ (s1 _ hp))
  refine stH w mean mg mb base h₀ L fa cd _ o1 o2' o3' o4 o5 Q C _ TL3 FG NG OG mgr dx dd kh t9 d3' (s3 _ (s2 _ (.head _))) (s3 _ (s2 _ (.tail _ (.head _)))) ao ab an af no nb nn nf vo vb vn vf _ _ _ (ok_tail _) (len_tail _) (blk_len _ _ _) (blk_len _ _ _) rfl rfl rfl rfl (s13 _ hao) (dao.mono s13) (s13 _ hab) (dab.mono s13) (s3 _ han) (dan.mono s3) haf daf ?_
  intro iv jv am nm vm hH tkH FH NH OH dm
  rw [meet_due q1 q3 q4 q6] at dm
  have s4 : ∀ p ∈ TL3, p ∈ (am, W.listOf (List.toArray vm) nm) :: TL3 := fun p hp => .tail _ hp
  refine stI w mean mg mb base h₀ L fa cd _ o1 o2' o3' o4 o5 Q C _ _ FH NH am sh nm vm (max x0 y0) (min x1 y1) u4 u5 (by omega) (by omega) (by omega) (by omega) rfl rfl (s4 _ (s13 _ hsh)) (.head _) (dm.mono s4) ?_
  intro hI tkI FI NI
  refine stJ w mean mg mb base h₀ L fa cd _ o1 o2' o3' o4 o5 Q C _ _ FI NI _ _ d2' ?_
  intro bh tb hJ tkJ hbh FJ NJ
  refine stK w mean mg mb base h₀ L fa cd _ o1 o2' o3' o4 o5 Q C _ _ FJ NJ OH _ _ d2' _ _ d4 d5 mgr dx dd kh t9 d3' (s4 _ (s3 _ (s2 _ (.head _)))) (s4 _ (s3 _ (s2 _ (.tail _ (.head _))))) x0 x1 y0 y1 u0 u1 u2 u3 c1 c2 he th q1 q2 q3 q4 q5 q6 ao an no nn vo vn _ rfl bh tb hbh rfl rfl rfl rfl rfl (s4 _ (s13 _ hhe)) (s4 _ (s13 _ hth)) (s4 _ (s13 _ hao)) ((dao.mono s13).mono s4) (s4 _ (s3 _ han)) ((dan.mono s3).mono s4) ?_
  intro m' hK tkK FK
  exact stL w mean mg mb base h₀ L fa cd _ Q C (hQ m' hK tkK FK)
end Mine
end
section -- Fin
open PySem PySem.W PyProof.Rows
set_option maxRecDepth 100000 in
set_option maxHeartbeats 8000000 in
theorem PySem.Challenge.cw_pe0102_01_holds : PySem.Challenge.rw_pe0102_01.Holds := by
  refine Mine.hd ?_
  w_strict (k_go0)
  rename_i w s₀ s₁ mg mb G Y fa o pm doc ho hg KX X V GL T B TE TW _ _ M cdw _ hcd ns hs hlay0 hLay hr hl2 _ _ la vals _ hL ra w1 r0 hI hr2 hcond _ K0 hD h₁ tk₁ F o5 o4 o3 o2 o1 e5 e4 e3 e2 e1 N0 X0
  have F' : Fr s₁.heap s₁.heap.objs.size h₁ (fun _ => none) := F
  have d1 : o1.data = .cell (some (.ref la)) := e1
  have d2 : o2.data = .cell none := e2
  have d3 : o3.data = .cell none := e3
  have d4 : o4.data = .cell none := e4
  have d5 : o5.data = .cell none := e5
  refine wpAny_mono (Mine.law_walk w _ mg mb _ s₁.heap s₁.heap.objs.size fa la (.ref cdw) vals ns { s₁ with heap := h₁, toks := tk₁ } o1 o2 o3 o4 o5 _ ⟨T, KX, K0⟩ hL hI (by omega) F' N0 d1 d2 d3 d4 d5 ?_) (fun _ _ h => h) (fun _ _ h => h.elim)
  intro m' h' tk' Fz
  first | wrow_close | (dsimp only; wrow_close) | (show GoodW _ _ _ _ _ _ _; wrow_close)
  done
end
