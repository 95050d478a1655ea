import PyProof.Rows.All
import Wide.All
import OpenK.AllK
import Wide.FinOn
import Lean
import PySem.Challenge.RW_pe0093_01
open PySem PySem.W PyProof.Rows
set_option Elab.async false
set_option linter.all false
namespace Mine
set_option maxRecDepth 100000 in
set_option maxHeartbeats 8000000 in
open_top hd for PySem.Challenge.rw_pe0093_01
end Mine
namespace Mine
local macro_rules | `(tactic| walk_at $s:str) => `(tactic| k_extra $s)
local macro_rules | `(tactic| k_all) => `(tactic| assumption)
local macro_rules | `(tactic| k_ne) => `(tactic| k_extra "k_ne")
section
noncomputable def max3 (x y z : UInt64) : UInt64 :=
  if (Float64.cmp (if (Float64.cmp x y == some .lt) = true then y else x) z == some .lt) = true then z else (if (Float64.cmp x y == some .lt) = true then y else x)
noncomputable def min3 (x y z : UInt64) : UInt64 :=
  if (Float64.cmp z (if (Float64.cmp y x == some .lt) = true then y else x) == some .lt) = true then z else (if (Float64.cmp y x == some .lt) = true then y else x)
section
open PySem.Flt
variable {prog : Program} {w : World} {A : Around} {E : Value → Shared → Prop} {s : Shared} {Q : Value → Shared → Prop}
/-- the best of three floats, told by what is better -/
theorem pick3 (g : UInt64 → UInt64 → Bool) {bt : Nat → Nat → Bool} {v : Value} {x y z : UInt64} {t u o : Tok} (h1 : bt 1 0 = g x y) (h2 : bt 2 0 = g x z) (h3 : bt 2 1 = g y z)
    (h : (#[.float x t, .float y u, .float z o] : Array Value)[argBest bt 2]? = some v) : ∃ k, v = .float (if g (if g x y then y else x) z then z else (if g x y then y else x)) k := by
  have h : (#[.float x t, .float y u, .float z o] : Array Value)[if bt 2 (if bt 1 0 then 1 else 0) then 2 else (if bt 1 0 then 1 else 0)]? = some v := h
  rw [h1] at h
  cases e : g x y
  · cases k : g x z
    · rw [e, if_neg Bool.false_ne_true, h2, k] at h
      exact ⟨_, by rw [if_neg Bool.false_ne_true, k]; exact (Option.some.inj h).symm⟩
    · rw [e, if_neg Bool.false_ne_true, h2, k] at h
      exact ⟨_, by rw [if_neg Bool.false_ne_true, k]; exact (Option.some.inj h).symm⟩
  · cases k : g y z
    · rw [e, if_pos rfl, h3, k] at h
      exact ⟨_, by rw [if_pos rfl, k]; exact (Option.some.inj h).symm⟩
    · rw [e, if_pos rfl, h3, k] at h
      exact ⟨_, by rw [if_pos rfl, k]; exact (Option.some.inj h).symm⟩
/-- max and min of three walk the tuple that they made -/
theorem walk3 {a b c : Value} {op : CmpOp} {bt : Nat → Nat → Bool} (hh : A.handled = none) (hc : CmpOf prog w A.in1 op (fun i v => (#[a, b, c] : Array Value)[i]? = some v) bt)
    (h : ∀ v h' tk, (#[a, b, c] : Array Value)[argBest bt 2]? = some v → (∀ d o, s.heap.get? d = some o → h'.get? d = some o) → Q v { s with heap := h', toks := tk }) :
    wpAny (model prog w) A.in1 (pyIter (.ref s.heap.objs.size)) (fun it s₂ => ∃ I fp wr n P St bt, it = .ref I ∧ Walks prog w A.in1 I fp wr n P St ∧ St 0 s₂.heap ∧ (∀ b ∈ fp, b < s₂.heap.objs.size) ∧ 0 < n ∧ CmpOf prog w A.in1 op P bt ∧
      ∀ v h' tk, P (argBest bt (n - 1)) v → (∀ b o, b ∉ wr → s₂.heap.get? b = some o → h'.get? b = some o) → Q v { s₂ with heap := h', toks := tk }) E
      { s with heap := s.heap.push { cls := .type "tuple", data := .seq #[a, b, c] } } := by
  have T : (s.heap.push { cls := .type "tuple", data := .seq #[a, b, c] }).IsTuple s.heap.objs.size #[a, b, c] := ⟨_, Heap.get?_push_size _ rfl, rfl, 0, rfl⟩
  have z : (s.heap.push { cls := .type "tuple", data := .seq #[a, b, c] }).objs.size = s.heap.objs.size + 1 := Heap.size_push ..
  generalize hg : s.heap.push { cls := .type "tuple", data := .seq #[a, b, c] } = g at *
  have up : ∀ d o, s.heap.get? d = some o → g.get? d = some o := fun d o e => hg ▸ Heap.get?_push_of_some _ e
  refine wpAny_pyIter_tuple T ⟨g.objs.size, [g.objs.size, s.heap.objs.size], [g.objs.size], 3, _, _, bt, rfl, Walks.tuple (A := A.in1) hh _ _ (Nat.ne_of_lt (Nat.lt_of_lt_of_eq (Nat.lt_succ_self _) z.symm)) #[a, b, c],
    ⟨⟨_, Heap.get?_push_size _ rfl, rfl, rfl⟩, T.push _⟩, fun d hd => ?_, Nat.succ_pos 2, hc, fun v h' tk hP hk => h v h' tk hP fun d o e => hk d o (fun hm => ?_) (Heap.get?_push_of_some _ (up d o e))⟩
  · refine Nat.lt_of_le_of_lt ?_ (Nat.lt_of_lt_of_eq (Nat.lt_succ_self g.objs.size) (Heap.size_push ..).symm)
    rcases List.mem_cons.mp hd with hd | hd
    · exact Nat.le_of_eq hd
    · exact Nat.le_trans (Nat.le_of_eq (List.mem_singleton.mp hd)) (Nat.le_trans (Nat.le_succ _) (Nat.le_of_eq z.symm))
  · exact Nat.lt_irrefl _ (Nat.lt_trans (Nat.lt_of_lt_of_eq (Nat.lt_succ_self _) (z.symm.trans (List.mem_singleton.mp hm).symm)) (Heap.lt_size e))
theorem nums3 {x y z : UInt64} {t u o : Tok} : ∀ v ∈ (#[.float x t, .float y u, .float z o] : Array Value), NumV v := fun v hv => by
  rcases List.mem_cons.mp (Array.mem_toList_iff.mpr hv) with rfl | hv
  · exact .float ..
  · rcases List.mem_cons.mp hv with rfl | hv
    · exact .float ..
    · rw [List.mem_singleton.mp hv]; exact .float ..
theorem max_three_ff {x y z : UInt64} {t u v : Tok} {h₀ : Heap} {L : Addr} {m : Str → Option Value} {news : List (Addr × Obj)}
    (hh : A.handled = none) (F : Fr h₀ L s.heap m) (N : News h₀ L s.heap news)
    (h : ∀ h' tk o, Fr h₀ L h' m → News h₀ L h' news → Q (.float (max3 x y z) o) { s with heap := h', toks := tk }) :
    wpAny (model prog w) A (call (.builtin "max") [.float x t, .float y u, .float z v]) Q E s :=
  call_max_three (walk3 hh (cmpOf_gt _ nums3) fun r h' tk hP kp => by
    obtain ⟨o, rfl⟩ := pick3 (fun a b => Float64.cmp a b == some .lt) rfl rfl rfl hP
    exact h h' tk o (F.grownK kp) (N.grown kp))
theorem min_three_ff {x y z : UInt64} {t u v : Tok} {h₀ : Heap} {L : Addr} {m : Str → Option Value} {news : List (Addr × Obj)}
    (hh : A.handled = none) (F : Fr h₀ L s.heap m) (N : News h₀ L s.heap news)
    (h : ∀ h' tk o, Fr h₀ L h' m → News h₀ L h' news → Q (.float (min3 x y z) o) { s with heap := h', toks := tk }) :
    wpAny (model prog w) A (call (.builtin "min") [.float x t, .float y u, .float z v]) Q E s :=
  call_min_three (walk3 hh (cmpOf_lt _ nums3) fun r h' tk hP kp => by
    obtain ⟨o, rfl⟩ := pick3 (fun a b => Float64.cmp b a == some .lt) rfl rfl rfl hP
    exact h h' tk o (F.grownK kp) (N.grown kp))
end
end
section
noncomputable abbrev Pg : Program := PySem.Challenge.rw_pe0093_01.row.prog
noncomputable abbrev Lo : List Str := looseW hd.view_39 [Str.ofString "ONE_THIRD", Str.ofString "ONE_SIXTH", Str.ofString "TWO_THIRD"]
noncomputable abbrev Frag0 (w : World) : Frag := hd.heap_39 w.params
/-- the shape of a contract of one def -/
noncomputable abbrev Calls (w : World) (mean : ExcName → Option Value) (mg mb : Str → Option Value) (f : Addr) (news : List (Addr × Obj)) (vs : List Value) (need : Nat)
    (Ret : Heap → Addr → (Str → Option Value) → Shared → (Value → Shared → Prop) → Prop) : Prop :=
  ∀ (dp un : Nat) (gd : Option (List Code)) (cn : Str) (cs : Scope) (a : Addr) (ccd : Value) (cl : List (Str × Addr)) (outer : List Env) (A₀ : Around) (base h₀ : Heap) (L : Addr) (m : Str → Option Value) (s : Shared) (Q E : Value → Shared → Prop),
    Below A₀ base outer h₀ → Fr h₀ L s.heap m → (Frag0 w).In h₀ → News h₀ L s.heap news → Top hd.view_39 Lo mean mg mb h₀ → cs.kind = .function →
    dp + need < recursionLimit → un + 8 * need < cLine → Ret h₀ L m s Q →
      wpAny (model Pg w) (ktrTop dp un gd cn cs L a ccd cl outer) (call (.ref f) vs) Q E s
theorem Calls.use {w : World} {mean : ExcName → Option Value} {mg mb : Str → Option Value} {f : Addr} {news : List (Addr × Obj)} {vs : List Value} {need : Nat}
    {Ret : Heap → Addr → (Str → Option Value) → Shared → (Value → Shared → Prop) → Prop} (C : Calls w mean mg mb f news vs need Ret)
    {dp un : Nat} {gd : Option (List Code)} {cn : Str} {cs : Scope} {a : Addr} {ccd : Value} {cl : List (Str × Addr)} {outer : List Env} {A₀ : Around} {base h₀ : Heap} {L : Addr} {m : Str → Option Value} {s : Shared} {Q E : Value → Shared → Prop}
    (B : Below A₀ base outer h₀) (F : Fr h₀ L s.heap m) (X : (Frag0 w).In h₀) (N : News h₀ L s.heap news) (T : Top hd.view_39 Lo mean mg mb h₀) (hk : cs.kind = .function)
    (hd' : dp + need < recursionLimit) (hu : un + 8 * need < cLine) (hret : Ret h₀ L m s Q) :
    wpAny (model Pg w) (ktrTop dp un gd cn cs L a ccd cl outer) (call (.ref f) vs) Q E s := C _ _ _ _ _ _ _ _ _ _ _ _ _ _ _ _ _ B F X N T hk hd' hu hret
theorem Calls.use2 {w : World} {mean : ExcName → Option Value} {mg mb : Str → Option Value} {f : Addr} {news : List (Addr × Obj)} {vs : List Value} {need : Nat}
    {Ret : Heap → Addr → (Str → Option Value) → Shared → (Value → Shared → Prop) → Prop}
    {dp un : Nat} {gd : Option (List Code)} {cn : Str} {cs : Scope} {a : Addr} {ccd : Value} {cl : List (Str × Addr)} {outer : List Env} {A₀ : Around} {base h₀ : Heap} {L : Addr} {m : Str → Option Value} {s : Shared} {Q E : Value → Shared → Prop}
    (B : Below A₀ base outer h₀) (F : Fr h₀ L s.heap m) (X : (Frag0 w).In h₀) (N : News h₀ L s.heap news) (T : Top hd.view_39 Lo mean mg mb h₀) (hk : cs.kind = .function)
    (hd' : dp + need < recursionLimit) (hu : un + 8 * need < cLine) (C : Calls w mean mg mb f news vs need Ret) (hret : Ret h₀ L m s Q) :
    wpAny (model Pg w) (ktrTop dp un gd cn cs L a ccd cl outer) (call (.ref f) vs) Q E s := C _ _ _ _ _ _ _ _ _ _ _ _ _ _ _ _ _ B F X N T hk hd' hu hret
/-- a float comes back -/
noncomputable abbrev RetF (news : List (Addr × Obj)) (x : UInt64) (h₀ : Heap) (L : Addr) (m : Str → Option Value) (s : Shared) (Q : Value → Shared → Prop) : Prop :=
  ∀ (t : Tok) (h' : Heap) (tk' : Nat), Fr h₀ L h' m → News h₀ L h' news → Q (.float x t) { s with heap := h', toks := tk' }
/-- a new tuple of three floats comes back -/
noncomputable abbrev Ret3 (news : List (Addr × Obj)) (x : UInt64 × UInt64 × UInt64) (h₀ : Heap) (L : Addr) (m : Str → Option Value) (s : Shared) (Q : Value → Shared → Prop) : Prop :=
  ∀ (D : Addr) (t1 t2 t3 : Tok) (c : Nat) (h' : Heap) (tk' : Nat), Fr h₀ L h' m → News h₀ L h' ((D, ({ cls := .type "tuple", data := .seq #[.float x.1 t1, .float x.2.1 t2, .float x.2.2 t3] c } : Obj)) :: news) → (∀ p ∈ news, p.1 < D) →
    Q (.ref D) { s with heap := h', toks := tk' }
end
section
/-- the whole numbers of a written list -/
inductive LitsAre : List PySem.Expr → List Int → Prop
  | nil : LitsAre [] []
  | cons (i : Int) (k : Nat) (p : Pos) {r : List PySem.Expr} {ns : List Int} : LitsAre r ns → LitsAre (.Constant (.int i) k p :: r) (i :: ns)
section
variable {prog : Program} {w : World} {A : Around} {E : Value → Shared → Prop} {h₀ : Heap} {L : Addr} {m : Str → Option Value} {news : List (Addr × Obj)} {env : Env} {pos : Pos}
theorem spliced_ints {es : List PySem.Expr} {ns : List Int} (hl : LitsAre es ns) : ∀ (s : Shared) (Q : List Value → Shared → Prop),
    (∀ vs tk, IntsAre vs ns → Q vs { s with toks := tk }) → wpAny (model prog w) A (spliced (backTo pos (starEach es env))) Q E s := by
  induction hl with
  | nil => exact fun s _ k => spliced_none (k [] s.toks .nil)
  | cons i kd p _ ih => exact fun s Q k => spliced_more (wpAny_Constant_int (ih _ _ fun vs tk hv => k _ tk (.cons i _ hv)))
theorem intList {es : List PySem.Expr} {ns : List Int} {s : Shared} {Q : Value → Shared → Prop} (F : Fr h₀ L s.heap m) (N : News h₀ L s.heap news) (hl : LitsAre es ns) (hsz : ns.length ≤ 16)
    (h : ∀ l vs h' tk, IntsAre vs ns → Fr h₀ L h' m → News h₀ L h' ((l, listOf vs.toArray 0) :: news) → (∀ p ∈ news, p.1 < l) → Q (.ref l) { s with heap := h', toks := tk }) :
    wpAny (model prog w) A (eval (.List es pos) env) Q E s :=
  List_ (spliced_ints hl s _ fun vs tk hv => newList_K (s := { s with toks := tk }) F N (fun l h' F' N' g => h l vs h' tk hv F' N' g) (by rw [hv.length, sizeLine_eq]; omega))
end
end
section
/-- an expression of floats alone: names of the frame, written floats, the five operations -/
inductive PF (cn : Str) (cs : Scope) (L a : Addr) (ccd : Value) (cl : List (Str × Addr)) (m : Str → Option Value) : Expr → UInt64 → Prop
  | name {x : Str} {p : Pos} {v : UInt64} {t : Tok} : m x = some (.float v t) → (envX cn cs L a ccd cl).kindOf x = some .local → (x == Str.ofString "__debug__") = false → PF cn cs L a ccd cl m (.Name x p) v
  | cst {v : UInt64} {k : Nat} {p : Pos} : PF cn cs L a ccd cl m (.Constant (.float v) k p) v
  | add {l r : Expr} {p : Pos} {x y : UInt64} : PF cn cs L a ccd cl m l x → PF cn cs L a ccd cl m r y → PF cn cs L a ccd cl m (.BinOp l .Add r p) (Float64.add x y)
  | sub {l r : Expr} {p : Pos} {x y : UInt64} : PF cn cs L a ccd cl m l x → PF cn cs L a ccd cl m r y → PF cn cs L a ccd cl m (.BinOp l .Sub r p) (Float64.sub x y)
  | mul {l r : Expr} {p : Pos} {x y : UInt64} : PF cn cs L a ccd cl m l x → PF cn cs L a ccd cl m r y → PF cn cs L a ccd cl m (.BinOp l .Mult r p) (Float64.mul x y)
  | div {l r : Expr} {p : Pos} {x y : UInt64} : PF cn cs L a ccd cl m l x → PF cn cs L a ccd cl m r y → Float64.isZero y = false → PF cn cs L a ccd cl m (.BinOp l .Div r p) (Float64.div x y)
  | mod {l r : Expr} {p : Pos} {x y : UInt64} : PF cn cs L a ccd cl m l x → PF cn cs L a ccd cl m r y → Float64.isZero y = false → PF cn cs L a ccd cl m (.BinOp l .Mod r p) (Float64.divmod x y).2
theorem PF.eval {prog : Program} {w : World} {A : Around} {E : Value → Shared → Prop} {h₀ : Heap} {L a : Addr} {m : Str → Option Value} {cn : Str} {cs : Scope} {ccd : Value} {cl : List (Str × Addr)} {e : Expr} {v : UInt64}
    (hA : A.handled = none) (hk : cs.kind = .function) (h : PF cn cs L a ccd cl m e v) : ∀ {s : Shared} {Q : Value → Shared → Prop}, Fr h₀ L s.heap m → (∀ t tk, Q (.float v t) { s with toks := tk }) →
    wpAny (model prog w) A (PySem.eval e (envX cn cs L a ccd cl)) Q E s := by
  induction h with
  | name hm hl hd => intro s Q F hq; exact nameX_L F hm (hq _ _) hk hl hd
  | cst => intro s Q F hq; exact wpAny_Constant_float (hq _ _)
  | add _ _ i1 i2 => intro s Q F hq; exact wpAny_BinOp (i1 F fun t tk => i2 F fun u tk' => add_float (hq _ _))
  | sub _ _ i1 i2 => intro s Q F hq; exact wpAny_BinOp (i1 F fun t tk => i2 F fun u tk' => sub_float (hq _ _))
  | mul _ _ i1 i2 => intro s Q F hq; exact wpAny_BinOp (i1 F fun t tk => i2 F fun u tk' => mul_float (hq _ _))
  | div _ _ hz i1 i2 => intro s Q F hq; exact wpAny_BinOp (i1 F fun t tk => i2 F fun u tk' => truediv_float_or hA (fun z => by rw [hz] at z; cases z) fun _ => hq _ _)
  | mod _ _ hz i1 i2 => intro s Q F hq; exact wpAny_BinOp (i1 F fun t tk => i2 F fun u tk' => Flt.mod_ff hA (fun z => by rw [hz] at z; cases z) fun _ => hq _ _)
theorem PF.at {prog : Program} {w : World} {A : Around} {E : Value → Shared → Prop} {h₀ : Heap} {L a : Addr} {m : Str → Option Value} {cn : Str} {cs : Scope} {ccd : Value} {cl : List (Str × Addr)} {e : Expr} {v : UInt64} {s : Shared} {Q : Value → Shared → Prop}
    (hA : A.handled = none) (hk : cs.kind = .function) (F : Fr h₀ L s.heap m) (h : PF cn cs L a ccd cl m e v) (hq : ∀ t tk, Q (.float v t) { s with toks := tk }) :
    wpAny (model prog w) A (PySem.eval e (envX cn cs L a ccd cl)) Q E s := h.eval hA hk F hq
end
section
set_option maxRecDepth 100000
open PySem PySem.Float64
theorem exV : ∀ (k j : Nat), j ≤ 2 ^ 53 → ∃ t, V t = j * 2 ^ k
  | 0, j, h => ⟨0 * 2 ^ 52 + j, V_at (k := 0) h (.inr rfl)⟩
  | k + 1, j, h => by
    by_cases h2 : 2 ^ 52 ≤ j
    · exact ⟨_, V_at h (.inl h2)⟩
    · obtain ⟨t, ht⟩ := exV k (2 * j) (by omega)
      exact ⟨t, by rw [ht, Nat.pow_succ]; ac_rfl⟩
/-- a finite float -/
noncomputable def Fin' (x : UInt64) : Prop := ∃ a m e, decode x = .fin a m e
theorem Fin'.is {x : UInt64} (h : Fin' x) : isFinite x = true := by obtain ⟨a, m, e, h⟩ := h; unfold isFinite; rw [h]
theorem sgn_val {neg : Bool} {v : Nat} : (sgn neg v : Int) = if neg then -(v : Int) else v := rfl
theorem right_round {r : UInt64} {neg : Bool} {W D : Nat} (h : Right r neg W D) (hD : 0 < D) (hW : W ≤ D * 2 ^ 1081) :
    ∃ v : Nat, Fin' r ∧ val r = sgn neg v ∧ W ≤ D * v + D * 2 ^ 1028 ∧ D * v ≤ W + D * 2 ^ 1028 ∧ ∀ j g, j ≤ 2 ^ 53 → W = D * (j * 2 ^ g) → v = j * 2 ^ g := by
  obtain ⟨t, rfl, ht, hi, hn⟩ := h
  have hlt : t < infMag := by
    rcases Nat.lt_or_eq_of_le ht with h | h
    · exact h
    · exfalso
      have h1 := hi.mp h
      have h2 : D * ((2 ^ 54 - 1) * 2 ^ 2045) ≤ D * (2 * 2 ^ 1081) := Nat.le_trans h1 (by rw [Nat.mul_left_comm]; exact Nat.mul_le_mul_left 2 hW)
      have h3 := Nat.le_of_mul_le_mul_left h2 hD
      exact absurd h3 (by decide +kernel)
  obtain ⟨m, e, hd, hv⟩ := decode_pack neg hlt
  have hn := hn hlt
  have hp : 0 < D * 2 ^ 1028 := Nat.mul_pos hD (Nat.two_pow_pos _)
  refine ⟨V t, ⟨_, _, _, hd⟩, val_pack neg hlt, ?_⟩
  have hj : W / (D * 2 ^ 1028) ≤ 2 ^ 53 := by
    refine Nat.div_le_of_le_mul ?_
    have : D * 2 ^ 1028 * 2 ^ 53 = D * 2 ^ 1081 := by rw [Nat.mul_assoc, ← Nat.pow_add]
    rw [this]; exact hW
  obtain ⟨t', ht'⟩ := exV 1028 _ hj
  have h1 := (hn t').1
  rw [ht'] at h1
  have h2 := Nat.div_add_mod W (D * 2 ^ 1028)
  have h3 := Nat.mod_lt W hp
  have e1 : D * (W / (D * 2 ^ 1028) * 2 ^ 1028) = D * 2 ^ 1028 * (W / (D * 2 ^ 1028)) := by ac_rfl
  rw [e1] at h1
  generalize D * 2 ^ 1028 * (W / (D * 2 ^ 1028)) = A at *
  generalize W % (D * 2 ^ 1028) = B at *
  generalize D * 2 ^ 1028 = C at *
  refine ⟨by unfold dist at h1; omega, by unfold dist at h1; omega, fun j g hj hW => ?_⟩
  obtain ⟨t2, ht2⟩ := exV g j hj
  have h4 := (hn t2).1
  rw [ht2, ← hW] at h4
  have h5 : W = D * V t := by unfold dist at h4; omega
  exact Nat.eq_of_mul_eq_mul_left hD (h5.symm.trans hW)
/-- the unit of val -/
noncomputable def kap : Rat := 1 / ((2 ^ 1074 : Nat) : Rat)
theorem kap_one : ((2 ^ 1074 : Nat) : Rat) * kap = 1 := by
  unfold kap
  have : ((2 ^ 1074 : Nat) : Rat) ≠ 0 := by
    intro h
    have := Rat.natCast_inj.mp (h.trans (show (0 : Rat) = ((0 : Nat) : Rat) from rfl))
    exact absurd this (by decide +kernel)
  rw [Rat.div_def, Rat.one_mul, Rat.mul_inv_cancel _ this]
theorem kap_pos : 0 < kap := by
  have h := kap_one
  have h2 : (0 : Rat) ≤ ((2 ^ 1074 : Nat) : Rat) := Rat.natCast_nonneg
  by_cases h3 : 0 < kap
  · exact h3
  · have := Rat.mul_nonneg h2 (show 0 ≤ -kap by grind)
    grind
noncomputable def eps : Rat := 1 / 70368744177664
/-- what a float is worth -/
noncomputable def rv (x : UInt64) : Rat := (val x : Rat) * kap
theorem kap_eps : ((2 ^ 1028 : Nat) : Rat) * kap = eps := by
  have h : ((2 ^ 1074 : Nat) : Rat) = ((2 ^ 1028 : Nat) : Rat) * 70368744177664 := by
    rw [show (2 : Nat) ^ 1074 = 2 ^ 1028 * 70368744177664 by decide +kernel, Rat.natCast_mul]; rfl
  have := kap_one
  rw [h] at this
  unfold eps
  grind
theorem kap_128 : ((2 ^ 1081 : Nat) : Rat) * kap = 128 := by
  have h : ((2 ^ 1081 : Nat) : Rat) = 128 * ((2 ^ 1074 : Nat) : Rat) := by
    rw [show (2 : Nat) ^ 1081 = 128 * 2 ^ 1074 by decide +kernel, Rat.natCast_mul]; rfl
  have := kap_one
  rw [h]
  grind
theorem le_of_kap {a b : Nat} (h : (a : Rat) * kap ≤ (b : Rat) * kap) : a ≤ b := by
  rw [← Rat.natCast_le_natCast]
  exact Rat.le_of_mul_le_mul_right h kap_pos
theorem kap_le {a b : Nat} (h : a ≤ b) : (a : Rat) * kap ≤ (b : Rat) * kap :=
  Rat.mul_le_mul_of_nonneg_right (Rat.natCast_le_natCast.mpr h) (Rat.le_of_lt kap_pos)
theorem le_of_pos_mul {a b c : Rat} (h : c * a ≤ c * b) (hc : 0 < c) : a ≤ b := Rat.le_of_mul_le_mul_left h hc
theorem aux_lo {W v D C k q e : Rat} (h : W * k ≤ (D * v + D * C) * k) (he : C * k = e) (hq : D * q = W * k) : D * (q - e) ≤ D * (v * k) := by
  have : D * C * k = D * e := by rw [← he]; grind
  grind
theorem aux_hi {W v D C k q e : Rat} (h : D * v * k ≤ (W + D * C) * k) (he : C * k = e) (hq : D * q = W * k) : D * (v * k) ≤ D * (q + e) := by
  have : D * C * k = D * e := by rw [← he]; grind
  grind
theorem aux_lo' {W v D C k q e : Rat} (h : D * v * k ≤ (W + D * C) * k) (he : C * k = e) (hq : D * q = -W * k) : D * (q - e) ≤ D * (-v * k) := by
  have : D * C * k = D * e := by rw [← he]; grind
  grind
theorem aux_hi' {W v D C k q e : Rat} (h : W * k ≤ (D * v + D * C) * k) (he : C * k = e) (hq : D * q = -W * k) : D * (-v * k) ≤ D * (q + e) := by
  have : D * C * k = D * e := by rw [← he]; grind
  grind
theorem sgn_t (v : Nat) : ((sgn true v : Int) : Rat) = -(v : Rat) := by
  show ((-(v : Int) : Int) : Rat) = -(v : Rat)
  rw [Rat.intCast_neg]; rfl
theorem sgn_f (v : Nat) : ((sgn false v : Int) : Rat) = (v : Rat) := rfl
/-- the float next to an exact number -/
theorem right_rv {r : UInt64} {neg : Bool} {W D : Nat} (h : Right r neg W D) (hD : 0 < D) {q : Rat} (hq : (D : Rat) * q = ((sgn neg W : Int) : Rat) * kap) (h1 : -128 ≤ q) (h2 : q ≤ 128) :
    Fin' r ∧ q - eps ≤ rv r ∧ rv r ≤ q + eps ∧ ∀ (j : Nat) (g : Nat), j ≤ 2 ^ 53 → W = D * (j * 2 ^ g) → val r = sgn neg (j * 2 ^ g) := by
  have hDR : (0 : Rat) < (D : Rat) := by
    have := Rat.natCast_lt_natCast.mpr hD
    exact this
  have hW : W ≤ D * 2 ^ 1081 := by
    refine le_of_kap ?_
    rw [Rat.natCast_mul, Rat.mul_assoc, kap_128]
    have hle : (D : Rat) * q ≤ (D : Rat) * 128 := Rat.mul_le_mul_of_nonneg_left h2 (Rat.le_of_lt hDR)
    have hge : (D : Rat) * (-128) ≤ (D : Rat) * q := Rat.mul_le_mul_of_nonneg_left h1 (Rat.le_of_lt hDR)
    cases neg
    · rw [hq] at hle
      exact hle
    · rw [hq] at hge
      rw [sgn_t] at hge
      have hge' : -((D : Rat) * 128) ≤ -((W : Rat) * kap) := by
        rw [show -((D : Rat) * 128) = (D : Rat) * (-128) by grind, show -((W : Rat) * kap) = -(W : Rat) * kap by grind]; exact hge
      exact Rat.neg_le_neg_iff.mp hge'
  obtain ⟨v, hf, hv, ha, hb, hx⟩ := right_round h hD hW
  refine ⟨hf, ?_, ?_, fun j g hj he => by rw [hv, hx j g hj he]⟩
  all_goals
    have hak := kap_le ha
    have hbk := kap_le hb
    simp only [Rat.natCast_add, Rat.natCast_mul] at hak hbk
    have he := kap_eps
    generalize ((2 ^ 1028 : Nat) : Rat) = C at hak hbk he
    refine le_of_pos_mul ?_ hDR
    unfold rv
    rw [hv]
    cases neg
  · rw [sgn_f] at hq ⊢; exact aux_lo hak he hq
  · rw [sgn_t] at hq ⊢; exact aux_lo' hbk he hq
  · rw [sgn_f] at hq ⊢; exact aux_hi hbk he hq
  · rw [sgn_t] at hq ⊢; exact aux_hi' hak he hq
end
section
set_option maxRecDepth 100000
open PySem PySem.Float64
/-- within e of q -/
structure Ap (x : UInt64) (q e : Rat) : Prop where
  fin : Fin' x
  lo : q - e ≤ rv x
  hi : rv x ≤ q + e
theorem Ap.self {x : UInt64} (h : Fin' x) : Ap x (rv x) 0 := ⟨h, by grind, by grind⟩
theorem Ap.wide {x : UInt64} {q e f : Rat} (h : Ap x q e) (hf : e ≤ f) : Ap x q f := ⟨h.fin, by have := h.lo; grind, by have := h.hi; grind⟩
theorem Ap.at {x : UInt64} {q q' e : Rat} (h : Ap x q e) (hq : q = q') : Ap x q' e := hq ▸ h
theorem sgn_self (v : Int) : sgn (decide (v < 0)) v.natAbs = v := by
  unfold sgn
  by_cases h : v < 0 <;> simp [h] <;> omega
theorem fin_of {x : UInt64} (h : isFinite x = true) : Fin' x := by
  unfold isFinite at h
  split at h
  · exact ⟨_, _, _, by assumption⟩
  · cases h
theorem val_zero (b : Bool) : Fin' (zero b) ∧ val (zero b) = 0 := by
  cases b
  · exact ⟨fin_of (by decide +kernel), by decide +kernel⟩
  · exact ⟨fin_of (by decide +kernel), by decide +kernel⟩
theorem rv_add (x y : UInt64) : ((val x + val y : Int) : Rat) * kap = rv x + rv y := by
  unfold rv; rw [Rat.intCast_add]; grind
theorem rv_sub (x y : UInt64) : ((val x - val y : Int) : Rat) * kap = rv x - rv y := by
  unfold rv; rw [Rat.intCast_sub]; grind
theorem add_rv {x y : UInt64} (hx : Fin' x) (hy : Fin' y) (h1 : -128 ≤ rv x + rv y) (h2 : rv x + rv y ≤ 128) :
    Ap (add x y) (rv x + rv y) eps ∧ ∀ (j : Nat) (g : Nat), j ≤ 2 ^ 53 → (val x + val y).natAbs = j * 2 ^ g → val (add x y) = val x + val y := by
  obtain ⟨a, m, e, hx⟩ := hx
  obtain ⟨b, k, f, hy⟩ := hy
  obtain ⟨r0, r1⟩ := add_right hx hy
  have hs := rv_add x y
  by_cases hz : val x + val y = 0
  · rw [r0 hz, hz]
    have := val_zero (a && b)
    refine ⟨⟨this.1, ?_, ?_⟩, fun _ _ _ _ => this.2⟩
    all_goals
      rw [hz] at hs
      unfold rv at *
      rw [this.2]
      unfold eps
      have e0 : ((0 : Int) : Rat) = 0 := rfl
      rw [e0] at *
      grind
  · have hq : ((1 : Nat) : Rat) * (rv x + rv y) = ((sgn (decide (val x + val y < 0)) (val x + val y).natAbs : Int) : Rat) * kap := by
      rw [sgn_self, hs]
      have e1 : ((1 : Nat) : Rat) = 1 := rfl
      rw [e1, Rat.one_mul]
    obtain ⟨f1, f2, f3, f4⟩ := right_rv (r1 hz) (by decide) hq h1 h2
    refine ⟨⟨f1, f2, f3⟩, fun j g hj he => ?_⟩
    rw [f4 j g hj (by rw [he, Nat.one_mul]), ← he, sgn_self]
theorem sub_rv {x y : UInt64} (hx : Fin' x) (hy : Fin' y) (h1 : -128 ≤ rv x - rv y) (h2 : rv x - rv y ≤ 128) :
    Ap (sub x y) (rv x - rv y) eps ∧ ∀ (j : Nat) (g : Nat), j ≤ 2 ^ 53 → (val x - val y).natAbs = j * 2 ^ g → val (sub x y) = val x - val y := by
  obtain ⟨a, m, e, hx⟩ := hx
  obtain ⟨b, k, f, hy⟩ := hy
  obtain ⟨r0, r1⟩ := sub_right hx hy
  have hs := rv_sub x y
  by_cases hz : val x - val y = 0
  · rw [r0 hz, hz]
    have := val_zero (a && !b)
    refine ⟨⟨this.1, ?_, ?_⟩, fun _ _ _ _ => this.2⟩
    all_goals
      rw [hz] at hs
      unfold rv at *
      rw [this.2]
      unfold eps
      have e0 : ((0 : Int) : Rat) = 0 := rfl
      rw [e0] at *
      grind
  · have hq : ((1 : Nat) : Rat) * (rv x - rv y) = ((sgn (decide (val x - val y < 0)) (val x - val y).natAbs : Int) : Rat) * kap := by
      rw [sgn_self, hs]
      have e1 : ((1 : Nat) : Rat) = 1 := rfl
      rw [e1, Rat.one_mul]
    obtain ⟨f1, f2, f3, f4⟩ := right_rv (r1 hz) (by decide) hq h1 h2
    refine ⟨⟨f1, f2, f3⟩, fun j g hj he => ?_⟩
    rw [f4 j g hj (by rw [he, Nat.one_mul]), ← he, sgn_self]
theorem sgn_xor (a b : Bool) (m k : Nat) : sgn (a != b) (m * k) = sgn a m * sgn b k := by
  unfold sgn
  cases a <;> cases b <;> simp [Int.neg_mul, Int.mul_neg]
theorem val_sgn {x : UInt64} {a : Bool} {m : Nat} {e : Int} (h : decode x = .fin a m e) : val x = sgn a (val x).natAbs := by
  rw [val_natAbs h]; exact val_eq h
theorem mul_rv {x y : UInt64} (hx : Fin' x) (hy : Fin' y) (h1 : -128 ≤ rv x * rv y) (h2 : rv x * rv y ≤ 128) :
    Ap (mul x y) (rv x * rv y) eps := by
  obtain ⟨a, m, e, hx⟩ := hx
  obtain ⟨b, k, f, hy⟩ := hy
  have r := mul_right hx hy
  have hq : ((2 ^ 1074 : Nat) : Rat) * (rv x * rv y) = ((sgn (a != b) ((val x).natAbs * (val y).natAbs) : Int) : Rat) * kap := by
    rw [sgn_xor, ← val_sgn hx, ← val_sgn hy, Rat.intCast_mul]
    have := kap_one
    unfold rv
    generalize ((2 ^ 1074 : Nat) : Rat) = C at *
    calc C * ((val x : Rat) * kap * ((val y : Rat) * kap)) = (C * kap) * ((val x : Rat) * (val y : Rat) * kap) := by grind
      _ = (val x : Rat) * (val y : Rat) * kap := by rw [this, Rat.one_mul]
  obtain ⟨f1, f2, f3, f4⟩ := right_rv r (Nat.two_pow_pos _) hq h1 h2
  exact ⟨f1, f2, f3⟩
theorem rv_ne {y : UInt64} (h : rv y ≠ 0) : val y ≠ 0 := fun e => h (by unfold rv; rw [e]; exact Rat.zero_mul _)
theorem div_rv {x y : UInt64} (hx : Fin' x) (hy : Fin' y) (hn : rv y ≠ 0) {q : Rat} (hq : rv y * q = rv x) (h1 : -128 ≤ q) (h2 : q ≤ 128) :
    Ap (div x y) q eps ∧ ∀ (j : Nat) (g : Nat), j ≤ 2 ^ 53 → (val x).natAbs * 2 ^ 1074 = (val y).natAbs * (j * 2 ^ g) → (val (div x y)).natAbs = j * 2 ^ g := by
  obtain ⟨a, m, e, hx⟩ := hx
  obtain ⟨b, k, f, hy⟩ := hy
  have hv := rv_ne hn
  have hk : k ≠ 0 := by
    intro hk
    have := val_natAbs hy
    rw [hk, Nat.zero_mul] at this
    omega
  have r := div_right hx hy hk
  have hc : (val y : Rat) * q = (val x : Rat) := by
    unfold rv at hq
    have hk0 := kap_pos
    have : kap * ((val y : Rat) * q) = kap * (val x : Rat) := by grind
    refine Rat.le_antisymm (le_of_pos_mul ?_ hk0) (le_of_pos_mul ?_ hk0) <;> rw [this] <;> exact Rat.le_refl
  have hq' : (((val y).natAbs : Nat) : Rat) * q = ((sgn (a != b) ((val x).natAbs * 2 ^ 1074) : Int) : Rat) * kap := by
    have hone := kap_one
    rw [val_sgn hx, val_sgn hy] at hc
    have e2 : ((sgn (a != b) ((val x).natAbs * 2 ^ 1074) : Int) : Rat) = ((sgn (a != b) (val x).natAbs : Int) : Rat) * ((2 ^ 1074 : Nat) : Rat) := by
      rw [sgn_mul, Rat.intCast_mul]; rfl
    rw [e2, Rat.mul_assoc, hone, Rat.mul_one]
    cases a <;> cases b <;> simp only [sgn_t, sgn_f, Bool.true_bne, Bool.false_bne, Bool.not_true, Bool.not_false] at hc ⊢ <;> grind
  obtain ⟨f1, f2, f3, f4⟩ := right_rv r (by omega) hq' h1 h2
  refine ⟨⟨f1, f2, f3⟩, fun j g hj he => ?_⟩
  rw [f4 j g hj he]
  exact sgn_natAbs _ _
theorem add_ap {x y : UInt64} {p q e f : Rat} (hx : Ap x p e) (hy : Ap y q f) (h1 : -128 + e + f ≤ p + q) (h2 : p + q + e + f ≤ 128) : Ap (add x y) (p + q) (e + f + eps) := by
  obtain ⟨⟨f1, f2, f3⟩, _⟩ := add_rv hx.fin hy.fin (by have := hx.lo; have := hy.lo; grind) (by have := hx.hi; have := hy.hi; grind)
  exact ⟨f1, by have := hx.lo; have := hy.lo; grind, by have := hx.hi; have := hy.hi; grind⟩
theorem sub_ap {x y : UInt64} {p q e f : Rat} (hx : Ap x p e) (hy : Ap y q f) (h1 : -128 + e + f ≤ p - q) (h2 : p - q + e + f ≤ 128) : Ap (sub x y) (p - q) (e + f + eps) := by
  obtain ⟨⟨f1, f2, f3⟩, _⟩ := sub_rv hx.fin hy.fin (by have := hx.lo; have := hy.hi; grind) (by have := hx.hi; have := hy.lo; grind)
  exact ⟨f1, by have := hx.lo; have := hy.hi; grind, by have := hx.hi; have := hy.lo; grind⟩
end
section
noncomputable def vF (m1 m2 hue : UInt64) : UInt64 :=
  if (Float64.cmp (Float64.divmod hue 4607182418800017408).2 4595172819793696085 == some .lt) = true then
    Float64.add m1 (Float64.mul (Float64.mul (Float64.sub m2 m1) (Float64.divmod hue 4607182418800017408).2) 4618441417868443648)
  else if (Float64.cmp (Float64.divmod hue 4607182418800017408).2 4602678819172646912 == some .lt) = true then m2
  else if (Float64.cmp (Float64.divmod hue 4607182418800017408).2 4604180019048437077 == some .lt) = true then
    Float64.add m1 (Float64.mul (Float64.mul (Float64.sub m2 m1) (Float64.sub 4604180019048437077 (Float64.divmod hue 4607182418800017408).2)) 4618441417868443648)
  else m1
theorem regW10 : True := by
  k_with_none
  (k_with "eval BinOp" => (k_here; k_dflt (refine' PF.at (by rfl) (by first | exact rfl | assumption) (by k_asm) (by repeat' (first | exact PF.cst | apply PF.add | apply PF.sub | apply PF.mul | apply PF.div | apply PF.mod | exact PF.name (by first | assumption | rfl) (by rfl) (by rfl) | (show Float64.isZero _ = false; first | assumption | decide +kernel))) ?_; k_whole); intro tZ tkZ))
  trivial
set_option maxRecDepth 100000 in
set_option maxHeartbeats 8000000 in
theorem v_call (w : World) (mean : ExcName → Option Value) (mg mb : Str → Option Value) (news : List (Addr × Obj)) (m1 m2 hue : UInt64) (t1 t2 t3 : Tok) :
    Calls w mean mg mb 35 news [.float m1 t1, .float m2 t2, .float hue t3] 1 (RetF news (vF m1 m2 hue)) := by
  dsimp only [Calls, Frag0, Pg, Lo, RetF]
  k_fill
  intro dp un gd cn cs a ccd cl outer A₀ base h₀ L m s Q E B F X N T hk hd' hu hret
  unfold vF at hret
  refine wpAny_call ?_
  w_on
  w_strict (k_dflt cell_enter; k_steps)
  all_goals (simp only [*, if_true, if_false, Bool.false_eq_true] at hret; exact hret _ _ _ (by assumption) (by assumption))
end
section
noncomputable def hueF (r g b : UInt64) : UInt64 :=
  (Float64.divmod (Float64.div
    (if (Float64.cmp r (max3 r g b) == some .eq) = true then
      Float64.sub (Float64.div (Float64.sub (max3 r g b) b) (Float64.sub (max3 r g b) (min3 r g b))) (Float64.div (Float64.sub (max3 r g b) g) (Float64.sub (max3 r g b) (min3 r g b)))
    else if (Float64.cmp g (max3 r g b) == some .eq) = true then
      Float64.sub (Float64.add 4611686018427387904 (Float64.div (Float64.sub (max3 r g b) r) (Float64.sub (max3 r g b) (min3 r g b)))) (Float64.div (Float64.sub (max3 r g b) b) (Float64.sub (max3 r g b) (min3 r g b)))
    else
      Float64.sub (Float64.add 4616189618054758400 (Float64.div (Float64.sub (max3 r g b) g) (Float64.sub (max3 r g b) (min3 r g b)))) (Float64.div (Float64.sub (max3 r g b) r) (Float64.sub (max3 r g b) (min3 r g b))))
    4618441417868443648) 4607182418800017408).2
noncomputable def hsvF (r g b : UInt64) : UInt64 × UInt64 × UInt64 := (hueF r g b, Float64.div (Float64.sub (max3 r g b) (min3 r g b)) (max3 r g b), max3 r g b)
noncomputable def lF (r g b : UInt64) : UInt64 := Float64.div (Float64.add (max3 r g b) (min3 r g b)) 4611686018427387904
noncomputable def leF (x y : UInt64) : Bool := Float64.cmp x y == some .lt || Float64.cmp x y == some .eq
noncomputable def hlsF (r g b : UInt64) : UInt64 × UInt64 × UInt64 := (hueF r g b, lF r g b,
  if leF (lF r g b) 4602678819172646912 = true then Float64.div (Float64.sub (max3 r g b) (min3 r g b)) (Float64.add (max3 r g b) (min3 r g b))
  else Float64.div (Float64.sub (max3 r g b) (min3 r g b)) (Float64.sub (Float64.sub 4611686018427387904 (max3 r g b)) (min3 r g b)))
theorem regW20 : True := by
  k_with_none
  (k_with "eval BinOp" => (k_here; k_dflt (refine' PF.at (by rfl) (by first | exact rfl | assumption) (by k_asm) (by repeat' (first | exact PF.cst | apply PF.add | apply PF.sub | apply PF.mul | apply PF.div | apply PF.mod | exact PF.name (by first | assumption | rfl) (by rfl) (by rfl) | (show Float64.isZero _ = false; first | assumption | decide +kernel))) ?_; k_whole); intro tZ tkZ))
  (k_with "call builtin:max" => (k_here; (with_reducible show wpAny _ _ (call _ [Value.float _ _, Value.float _ _, Value.float _ _]) _ _ _); (rename News _ _ _ _ => N'Z); (rename Fr _ _ _ _ => F'Z); refine max_three_ff rfl F'Z N'Z ?_; clear N'Z; intro _ _ _ _ _))
  (k_with "call builtin:min" => (k_here; (with_reducible show wpAny _ _ (call _ [Value.float _ _, Value.float _ _, Value.float _ _]) _ _ _); (rename News _ _ _ _ => N'Z); (rename Fr _ _ _ _ => F'Z); refine min_three_ff rfl F'Z N'Z ?_; clear N'Z; intro _ _ _ _ _))
  trivial
set_option maxRecDepth 100000 in
set_option maxHeartbeats 8000000 in
theorem hsv_call (w : World) (mean : ExcName → Option Value) (mg mb : Str → Option Value) (news : List (Addr × Obj)) (r g b : UInt64) (t1 t2 t3 : Tok)
    (h1 : (Float64.cmp (min3 r g b) (max3 r g b) == some .eq) = false) (h2 : Float64.isZero (max3 r g b) = false) (h3 : Float64.isZero (Float64.sub (max3 r g b) (min3 r g b)) = false) :
    Calls w mean mg mb 42 news [.float r t1, .float g t2, .float b t3] 1 (Ret3 news (hsvF r g b)) := by
  dsimp only [Calls, Frag0, Pg, Lo, Ret3]
  k_fill
  intro dp un gd cn cs a ccd cl outer A₀ base h₀ L m s Q E B F X N T hk hd' hu hret
  unfold hsvF hueF at hret
  refine wpAny_call ?_
  w_on
  w_strict (k_dflt cell_enter; k_steps)
  all_goals (simp only [*, if_true, if_false, Bool.false_eq_true] at hret; exact hret _ _ _ _ _ _ _ (by assumption) (by assumption) (by assumption))
set_option maxRecDepth 100000 in
set_option maxHeartbeats 8000000 in
theorem hls_call (w : World) (mean : ExcName → Option Value) (mg mb : Str → Option Value) (news : List (Addr × Obj)) (r g b : UInt64) (t1 t2 t3 : Tok)
    (h1 : (Float64.cmp (min3 r g b) (max3 r g b) == some .eq) = false) (h2 : Float64.isZero (Float64.add (max3 r g b) (min3 r g b)) = false) (h3 : Float64.isZero (Float64.sub (max3 r g b) (min3 r g b)) = false)
    (h4 : Float64.isZero (Float64.sub (Float64.sub 4611686018427387904 (max3 r g b)) (min3 r g b)) = false) :
    Calls w mean mg mb 21 news [.float r t1, .float g t2, .float b t3] 1 (Ret3 news (hlsF r g b)) := by
  dsimp only [Calls, Frag0, Pg, Lo, Ret3]
  k_fill
  intro dp un gd cn cs a ccd cl outer A₀ base h₀ L m s Q E B F X N T hk hd' hu hret
  unfold hlsF hueF leF lF at hret
  refine wpAny_call ?_
  w_on
  w_strict (k_dflt cell_enter; k_steps)
  all_goals (simp only [*, if_true, if_false, Bool.false_eq_true] at hret; exact hret _ _ _ _ _ _ _ (by assumption) (by assumption) (by assumption))
end
section
noncomputable def iF (h : UInt64) : Int := Flt.toInt Float64.truncOf (Float64.mul h 4618441417868443648)
noncomputable def fF (h : UInt64) : UInt64 := Float64.sub (Float64.mul h 4618441417868443648) (Float64.ofInt (iF h))
noncomputable def pF (s v : UInt64) : UInt64 := Float64.mul v (Float64.sub 4607182418800017408 s)
noncomputable def qF (h s v : UInt64) : UInt64 := Float64.mul v (Float64.sub 4607182418800017408 (Float64.mul s (fF h)))
noncomputable def tF (h s v : UInt64) : UInt64 := Float64.mul v (Float64.sub 4607182418800017408 (Float64.mul s (Float64.sub 4607182418800017408 (fF h))))
noncomputable def hsvrF (h s v : UInt64) : UInt64 × UInt64 × UInt64 :=
  if (iF h).fmod 6 = 0 then (v, tF h s v, pF s v)
  else if (iF h).fmod 6 = 1 then (qF h s v, v, pF s v)
  else if (iF h).fmod 6 = 2 then (pF s v, v, tF h s v)
  else if (iF h).fmod 6 = 3 then (pF s v, qF h s v, v)
  else if (iF h).fmod 6 = 4 then (tF h s v, pF s v, v)
  else (v, pF s v, qF h s v)
theorem hsvrF_0 {h s v : UInt64} (e : (iF h).fmod 6 = 0) : hsvrF h s v = (v, tF h s v, pF s v) := by unfold hsvrF; rw [if_pos e]
theorem hsvrF_1 {h s v : UInt64} (e : (iF h).fmod 6 = 1) : hsvrF h s v = (qF h s v, v, pF s v) := by unfold hsvrF; rw [e]; rfl
theorem hsvrF_2 {h s v : UInt64} (e : (iF h).fmod 6 = 2) : hsvrF h s v = (pF s v, v, tF h s v) := by unfold hsvrF; rw [e]; rfl
theorem hsvrF_3 {h s v : UInt64} (e : (iF h).fmod 6 = 3) : hsvrF h s v = (pF s v, qF h s v, v) := by unfold hsvrF; rw [e]; rfl
theorem hsvrF_4 {h s v : UInt64} (e : (iF h).fmod 6 = 4) : hsvrF h s v = (tF h s v, pF s v, v) := by unfold hsvrF; rw [e]; rfl
theorem hsvrF_5 {h s v : UInt64} (e : (iF h).fmod 6 = 5) : hsvrF h s v = (v, pF s v, qF h s v) := by unfold hsvrF; rw [e]; rfl
theorem regW30 : True := by
  k_with_none
  (k_with "eval BinOp" => (k_here; k_dflt (refine' PF.at (by rfl) (by first | exact rfl | assumption) (by k_asm) (by repeat' (first | exact PF.cst | apply PF.add | apply PF.sub | apply PF.mul | apply PF.div | apply PF.mod | exact PF.name (by first | assumption | rfl) (by rfl) (by rfl) | (show Float64.isZero _ = false; first | assumption | decide +kernel))) ?_; k_whole); intro tZ tkZ))
  trivial
set_option maxRecDepth 100000 in
set_option maxHeartbeats 8000000 in
theorem hsvr_call (w : World) (mean : ExcName → Option Value) (mg mb : Str → Option Value) (news : List (Addr × Obj)) (h sa v : UInt64) (t1 t2 t3 : Tok) 
    (hs : (Float64.cmp sa 0 == some .eq) = false) (hf : Float64.isFinite (Float64.mul h 4618441417868443648) = true) (hi : ¬ Flt.Over (iF h)) :
    Calls w mean mg mb 49 news [.float h t1, .float sa t2, .float v t3] 1 (Ret3 news (hsvrF h sa v)) := by
  dsimp only [Calls, Frag0, Pg, Lo, Ret3]
  k_fill
  intro dp un gd cn cs a ccd cl outer A₀ base h₀ L m s Q E B F X N T hk hd' hu hret
  have h6 := Int.emod_nonneg (iF h) (show (6 : Int) ≠ 0 by decide)
  have h7 := Int.emod_lt_of_pos (iF h) (show (0 : Int) < 6 by decide)
  rw [← Int.fmod_eq_emod_of_nonneg _ (show (0 : Int) ≤ 6 by decide)] at h6 h7
  unfold iF at hi h6 h7
  refine wpAny_call ?_
  w_on
  w_strict (k_dflt cell_enter; k_steps)
  all_goals first
   | (rw [hsvrF_0 (by assumption)] at hret; exact hret _ _ _ _ _ _ _ (by assumption) (by assumption) (by assumption))
   | (rw [hsvrF_1 (by assumption)] at hret; exact hret _ _ _ _ _ _ _ (by assumption) (by assumption) (by assumption))
   | (rw [hsvrF_2 (by assumption)] at hret; exact hret _ _ _ _ _ _ _ (by assumption) (by assumption) (by assumption))
   | (rw [hsvrF_3 (by assumption)] at hret; exact hret _ _ _ _ _ _ _ (by assumption) (by assumption) (by assumption))
   | (rw [hsvrF_4 (by assumption)] at hret; exact hret _ _ _ _ _ _ _ (by assumption) (by assumption) (by assumption))
   | (rw [hsvrF_5 (by assumption)] at hret; exact hret _ _ _ _ _ _ _ (by assumption) (by assumption) (by assumption))
   | (exfalso; omega)
end
section
noncomputable def m2F (l s : UInt64) : UInt64 := if leF l 4602678819172646912 = true then Float64.mul l (Float64.add 4607182418800017408 s) else Float64.sub (Float64.add l s) (Float64.mul l s)
noncomputable def m1F (l s : UInt64) : UInt64 := Float64.sub (Float64.mul 4611686018427387904 l) (m2F l s)
noncomputable def hlsrF (h l s : UInt64) : UInt64 × UInt64 × UInt64 :=
  (vF (m1F l s) (m2F l s) (Float64.add h 4599676419421066581), vF (m1F l s) (m2F l s) h, vF (m1F l s) (m2F l s) (Float64.sub h 4599676419421066581))
theorem regW40 : True := by
  k_with_none
  (k_with "eval BinOp" => (k_here; k_dflt (refine' PF.at (by rfl) (by first | exact rfl | assumption) (by k_asm) (by repeat' (first | exact PF.cst | apply PF.add | apply PF.sub | apply PF.mul | apply PF.div | apply PF.mod | exact PF.name (by first | assumption | rfl) (by rfl) (by rfl) | (show Float64.isZero _ = false; first | assumption | decide +kernel))) ?_; k_whole); intro tZ tkZ))
  (k_with "call ref" => (k_here; (with_reducible show wpAny _ _ (call (Value.ref 35) _) _ _ _); k_dflt (refine' Calls.use2 (by k_asm) (by k_asm) (by k_asm) (by k_asm) (by k_asm) (by first | exact rfl | assumption) (by ktr_room) (by ktr_units) (v_call _ _ _ _ _ _ _ _ _ _ _) ?_; k_whole; intro t9Z h9Z tk9Z F9Z N9Z; (try dsimp only); (try k_fold))))
  trivial
set_option maxRecDepth 100000 in
set_option maxHeartbeats 8000000 in
theorem hlsr_call (w : World) (mean : ExcName → Option Value) (mg mb : Str → Option Value) (news : List (Addr × Obj)) (h l sa : UInt64) (t1 t2 t3 : Tok) 
    (hs : (Float64.cmp sa 0 == some .eq) = false) :
    Calls w mean mg mb 28 news [.float h t1, .float l t2, .float sa t3] 2 (Ret3 news (hlsrF h l sa)) := by
  dsimp only [Calls, Frag0, Pg, Lo, Ret3]
  k_fill
  intro dp un gd cn cs a ccd cl outer A₀ base h₀ L m s Q E B F X N T hk hd' hu hret
  unfold hlsrF m1F m2F leF at hret
  refine wpAny_call ?_
  w_on
  w_strict (k_dflt cell_enter; k_steps)
  all_goals first 
   | (simp only [*, if_true, if_false, Bool.false_eq_true] at hret; exact hret _ _ _ _ _ _ _ (by assumption) (by assumption) (by assumption))
end
section
/-- a new list of three ints comes back -/
noncomputable abbrev RetL (news : List (Addr × Obj)) (x : Int × Int × Int) (h₀ : Heap) (L : Addr) (m : Str → Option Value) (s : Shared) (Q : Value → Shared → Prop) : Prop :=
  ∀ (D : Addr) (t1 t2 t3 : Tok) (c : Nat) (h' : Heap) (tk' : Nat), Fr h₀ L h' m → News h₀ L h' ((D, ({ cls := .type "list", data := .seq #[.int x.1 t1, .int x.2.1 t2, .int x.2.2 t3] c } : Obj)) :: news) → (∀ p ∈ news, p.1 ≠ D) →
    Q (.ref D) { s with heap := h', toks := tk' }
noncomputable def wayI (place side corner : Int) : Int := if (corner - place).fmod (6 * side) < (place - corner).fmod (6 * side) then (corner - place).fmod (6 * side) else (place - corner).fmod (6 * side)
noncomputable def partI (place side unit white corner : Int) : Int :=
  white + unit * (if (if 2 * side - wayI place side corner > 0 then 2 * side - wayI place side corner else 0) < side then (if 2 * side - wayI place side corner > 0 then 2 * side - wayI place side corner else 0) else side)
noncomputable def colI (place side unit white : Int) : Int × Int × Int := (partI place side unit white 0, partI place side unit white (2 * side), partI place side unit white (4 * side))
theorem news_drop {h₀ h : Heap} {L : Addr} {x : Addr × Obj} {news : List (Addr × Obj)} (N : News h₀ L h (x :: news)) : News h₀ L h news := fun p hp => N p (List.Mem.tail _ hp)
theorem unrEndW_intro {h₀ : Heap} {L : Addr} {s₁ : Shared} {I : Addr} {o : Obj} {rest : (Str → Option Value) → List (Addr × Obj) → Prop} {h' : Heap} {tk : Nat} {m' : Str → Option Value} {news' : List (Addr × Obj)}
    (F : Fr h₀ L h' m') (N : News h₀ L h' ((I, o) :: news')) (off : ∀ p ∈ news', p.1 ≠ I) (r : rest m' news') : UnrEndW h₀ L s₁ [(I, o)] rest { s₁ with heap := h', toks := tk } :=
  ⟨h', tk, m', news', rfl, F, N, fun p hp q hq => by rw [List.mem_singleton.mp hq]; exact off p hp, r⟩
section
variable {prog : Program} {w : World} {A : Around} {E : Value → Shared → Prop} {h₀ : Heap} {env : Env} {target : Expr} {body : List Stmt} {Q : Flow → Shared → Prop} {s : Shared}
theorem unrPostW_mono {L : Addr} {s₁ : Shared} {its : List (Addr × Obj)} {rest rest' : (Str → Option Value) → List (Addr × Obj) → Prop} {f : Flow} {s₂ : Shared} (h : UnrPostW h₀ L s₁ its rest Q f s₂) (k : ∀ m n, rest m n → rest' m n) : UnrPostW h₀ L s₁ its rest' Q f s₂ := by
  cases f with
  | ret v => exact h
  | brk => exact h
  | next => obtain ⟨h', tk, m', news', e, F, N, o, r⟩ := h; exact ⟨h', tk, m', news', e, F, N, o, k _ _ r⟩
  | cont => obtain ⟨h', tk, m', news', e, F, N, o, r⟩ := h; exact ⟨h', tk, m', news', e, F, N, o, k _ _ r⟩
/-- a loop over a list's items by what holds between the turns and by what is still to come -/
theorem items_foldR {σ : Type} {I : Addr} {kind : String} {keep : List (Addr × Obj)} (Inv : List Value → σ → (Str → Option Value) → List (Addr × Obj) → Prop) (stp : σ → Value → σ)
    (turn : ∀ vs st v m news h tk o, Inv (v :: vs) st m news → o.cls = .type kind → Fr h₀ env.locals h m → News h₀ env.locals h ((I, o) :: news) →
      wpAny (model prog w) A (assign target env v) (fun _ s₂ => wpAny (model prog w) A (execs body env) (UnrPostW h₀ env.locals { s with heap := h, toks := tk } [(I, o)] (fun m' n' => SubL keep n' ∧ Inv vs (stp st v) m' n') Q) E s₂) E { s with heap := h, toks := tk }) :
    ∀ (vs : List Value) (st : σ) (m : Str → Option Value) (news : List (Addr × Obj)), Inv vs st m news →
      (∀ m' news', Inv [] (vs.foldl stp st) m' news' → ∀ h tk, Fr h₀ env.locals h m' → News h₀ env.locals h news' → Q .next { s with heap := h, toks := tk }) →
      ItemsRest prog w A E h₀ env target body Q s [(I, kind)] keep (vs.map .val) m news
  | [], st, m, news, hi, fin => ItemsRest.zero fun h tk F N => fin m news hi h tk F N
  | v :: vs, st, m, news, hi, fin => ItemsRest.val fun h tk F => AllObj.cons fun o ho => AllObj.nil fun N =>
      wpAny_mono (turn vs st v m news h tk o hi ho F N) (fun _ _ q => wpAny_mono q (fun _ _ r => unrPostW_mono r fun m' n' ⟨k, i⟩ => ⟨k, items_foldR Inv stp turn vs (stp st v) m' n' i fin⟩) fun _ _ e => e) fun _ _ e => e
/-- a loop over a list's items by what holds between the turns -/
theorem items_fold {σ : Type} {I : Addr} {kind : String} {keep : List (Addr × Obj)} (Inv : σ → (Str → Option Value) → List (Addr × Obj) → Prop) (stp : σ → Value → σ) (okv : Value → Prop)
    (turn : ∀ st v m news h tk o, okv v → Inv st m news → o.cls = .type kind → Fr h₀ env.locals h m → News h₀ env.locals h ((I, o) :: news) →
      wpAny (model prog w) A (assign target env v) (fun _ s₂ => wpAny (model prog w) A (execs body env) (UnrPostW h₀ env.locals { s with heap := h, toks := tk } [(I, o)] (fun m' n' => SubL keep n' ∧ Inv (stp st v) m' n') Q) E s₂) E { s with heap := h, toks := tk }) :
    ∀ (vs : List Value) (st : σ) (m : Str → Option Value) (news : List (Addr × Obj)), (∀ v ∈ vs, okv v) → Inv st m news →
      (∀ m' news', Inv (vs.foldl stp st) m' news' → ∀ h tk, Fr h₀ env.locals h m' → News h₀ env.locals h news' → Q .next { s with heap := h, toks := tk }) →
      ItemsRest prog w A E h₀ env target body Q s [(I, kind)] keep (vs.map .val) m news
  | [], st, m, news, _, hi, fin => ItemsRest.zero fun h tk F N => fin m news hi h tk F N
  | v :: vs, st, m, news, hv, hi, fin => ItemsRest.val fun h tk F => AllObj.cons fun o ho => AllObj.nil fun N =>
      wpAny_mono (turn st v m news h tk o (hv v List.mem_cons_self) hi ho F N) (fun _ _ q => wpAny_mono q (fun _ _ r => unrPostW_mono r fun m' n' ⟨k, i⟩ => ⟨k, items_fold Inv stp okv turn vs (stp st v) m' n' (fun v' h' => hv v' (List.mem_cons_of_mem _ h')) i fin⟩) fun _ _ e => e) fun _ _ e => e
end
/-- a place where the walk stands still -/
noncomputable def Halt (P : Prop) : Prop := P
theorem Halt.go {P : Prop} (h : Halt P) : P := h
theorem ints3 {ws : List Value} {p q r : Int} (h : IntsAre ws [p, q, r]) : ∃ a b c, ws = [.int p a, .int q b, .int r c] := by
  rcases h with _ | ⟨_, a, h⟩
  rcases h with _ | ⟨_, b, h⟩
  rcases h with _ | ⟨_, c, h⟩
  rcases h with _ | _
  exact ⟨a, b, c, rfl⟩
noncomputable def cornerOf : Value → Int
  | .int n _ => n
  | _ => 0
/-- the parts so far -/
noncomputable def CInv (news : List (Addr × Obj)) (P T I : Addr) (to : Obj) (pl sd un wh : Int) (t1 t2 t3 t4 : Tok) (rest : List Value) (st : List Int) (m : Str → Option Value) (led : List (Addr × Obj)) : Prop :=
  (∀ v ∈ rest, ∃ n t, v = .int n t) ∧ ∃ (ys : List Value) (k : Nat), ys.length + rest.length ≤ 3 ∧ IntsAre ys st ∧ led = (T, to) :: (P, ({ cls := .type "list", data := .seq ys.toArray k } : Obj)) :: news ∧
    m (Str.ofString "parts") = some (.ref P) ∧ m (Str.ofString "place") = some (.int pl t1) ∧ m (Str.ofString "side") = some (.int sd t2) ∧ m (Str.ofString "unit") = some (.int un t3) ∧ m (Str.ofString "white") = some (.int wh t4)
theorem regW50 : True := by
  k_with_none
  (k_with "eval Name" => (k_here; k_dflt (refine' ld (by k_asm) (by assumption) ?_; k_whole)))
  (k_with "call builtin:list.append" => (k_here; (dsimp only [List.cons_append, List.nil_append]); k_dflt (refine' append_K (by k_asm) (by k_asm) (by k_upd) ?_ (by size_fits); k_whole); intro h'Z F'Z N'Z; (try k_sweep)))
  (k_with "UnrEndW" => (k_here; refine Halt.go ?_))
  trivial
set_option maxRecDepth 100000 in
set_option maxHeartbeats 8000000 in
theorem col_call (w : World) (mean : ExcName → Option Value) (mg mb : Str → Option Value) (news : List (Addr × Obj)) (place side unit white : Int) (t1 t2 t3 t4 : Tok) 
    (hs : 0 < side) (hs8 : side ≤ 8) (hu : 0 ≤ unit) (hu2 : unit ≤ 64) :
    Calls w mean mg mb 84 news [.int place t1, .int side t2, .int unit t3, .int white t4] 1 (RetL news (colI place side unit white)) := by
  dsimp only [Calls, Frag0, Pg, Lo, RetL]
  k_fill
  intro dp un gd cn cs a ccd cl outer A₀ base h₀ L m s Q E B F X N T hk hd' hu hret
  refine wpAny_call ?_
  w_on
  w_strict (k_dflt cell_enter; k_steps)
  rename ∀ p ∈ news, p.1 < _ => hP
  rename _ ∧ AllLt _ news => hD
  obtain ⟨hPD, hD⟩ := hD
  refine iter_tupTurns rfl (by assumption) (by assumption) (by k_mem) rfl rfl (fun I hI => ?_)
  have hNP : ∀ p ∈ news, p.1 ≠ _ := fun p hp => Nat.ne_of_lt (hP p hp)
  have hNI : ∀ p ∈ news, p.1 ≠ I := fun p hp => Nat.ne_of_lt (hI p (List.Mem.tail _ (List.Mem.tail _ hp)))
  k_lt hI
  obtain ⟨hDI, hPI, hI⟩ := hI
  refine items_foldR (CInv news _ _ I _ place side unit white t1 t2 t3 t4) (fun st v => st ++ [partI place side unit white (cornerOf v)]) ?turn [.int 0 _, .int (2 * side) _, .int (4 * side) _] [] _ _ ⟨?ok, [], 0, Nat.le_refl 3, .nil, rfl, rfl, rfl, rfl, rfl, rfl⟩ ?fin
  case ok =>
    intro v hv
    simp only [List.mem_cons, List.mem_nil_iff, or_false] at hv
    rcases hv with rfl | rfl | rfl <;> exact ⟨_, _, rfl⟩
  case fin =>
    intro m' news' hi h tk F N
    obtain ⟨_, ys, k, hlen, hys, rfl, hm1, hm2, hm3, hm4, hm5⟩ := hi
    obtain ⟨a0, a1, a2, rfl⟩ := ints3 (ws := ys) (p := partI place side unit white 0) (q := partI place side unit white (2 * side)) (r := partI place side unit white (4 * side)) hys
    w_strict k_steps
    (rename Fr _ _ _ _ => F9)
    (rename News _ _ _ _ => N9)
    exact hret _ _ _ _ _ _ _ F9 (news_drop N9) (fun p hp => Nat.ne_of_lt (hP p hp))
  case turn =>
    intro vs st v m led h tk o hi ho F N
    obtain ⟨hv, ys, k, hlen, hys, rfl, hm1, hm2, hm3, hm4, hm5⟩ := hi
    obtain ⟨corner, t, rfl⟩ := hv v List.mem_cons_self
    rw [List.length_cons] at hlen
    w_strict k_steps
    unfold Halt
    (rename Fr _ _ _ _ => F9)
    (rename News _ _ _ _ => N9)
    refine unrEndW_intro F9 N9 (List.forall_mem_cons.mpr ⟨Nat.ne_of_lt hDI, List.forall_mem_cons.mpr ⟨Nat.ne_of_lt hPI, hNI⟩⟩) ⟨by k_subL, fun v hv' => hv v (List.mem_cons_of_mem _ hv'), ys ++ [_], _, ?_, IntsAre.append hys (.cons _ _ .nil), by rw [← List.push_toArray]; rfl, hm1, hm2, hm3, hm4, hm5⟩
    rw [List.length_append, List.length_singleton]
    omega
end
section
noncomputable abbrev listI (a b c : Int) (t1 t2 t3 : Tok) (n : Nat) : Obj := { cls := .type "list", data := .seq #[.int a t1, .int b t2, .int c t3] n }
/-- an int comes back -/
noncomputable abbrev RetI (news : List (Addr × Obj)) (x : Int) (h₀ : Heap) (L : Addr) (m : Str → Option Value) (s : Shared) (Q : Value → Shared → Prop) : Prop :=
  ∀ (t : Tok) (h' : Heap) (tk' : Nat), Fr h₀ L h' m → News h₀ L h' news → Q (.int x t) { s with heap := h', toks := tk' }
section
variable {prog : Program} {w : World} {A : Around} {E : Value → Shared → Prop} {s : Shared} {h₀ : Heap} {L l : Addr} {news : List (Addr × Obj)} {Q : Value → Shared → Prop}
theorem item_news {value slice : PySem.Expr} {vs : Array Value} {n : Nat} {k : Int} {u : Tok} {v : Value}
    (N : News h₀ L s.heap news) (hm : (l, ({ cls := .type "list", data := .seq vs n } : Obj)) ∈ news) (h0 : 0 ≤ k) (hhi : k < 2 ^ 63) (hx : (vs.toList.drop k.toNat).head? = some v) (h : Q v s)
    (hs : subscripted slice false (.ref l) (.int k u) = operate [.ref l, .int k u] (getItem (.ref l) (.int k u))) :
    wpAny (model prog w) A (subscriptTail value slice (.ref l) (.int k u)) Q E s :=
  have hl : s.heap.IsList l vs := ⟨_, N.get hm, rfl, n, rfl⟩
  tail_any hl.typeIs slot_list_getitem.lookup (wpAny_getItem_list hl h0 hhi (by rw [List.head?_drop] at hx; simpa using hx) h) hs
theorem small_fits {n : Int} (h : n.natAbs < 4294967296) : n.natAbs < 2 ^ 1024 - 2 ^ 970 := by
  refine Nat.lt_of_lt_of_le h ?_
  decide +kernel
theorem mul_small {n : Int} {a : UInt64} {t u : Tok} (hA : A.handled = none) (hn : n.natAbs < 4294967296) (h : Q (.float (Float64.mul (Float64.ofInt n) a) s.toks) { s with toks := s.toks + 1 }) :
    wpAny (model prog w) A (binaryOp .Mult (.int n u) (.float a t)) Q E s :=
  mul_if_sharp hA (fun hb => absurd (small_fits hn) (Nat.not_lt.mpr hb)) fun _ => h
noncomputable def fl (k : Int) : UInt64 := Float64.ofFrac (decide (k < 0) != decide ((64 : Int) < 0)) k.natAbs (Int.natAbs 64)
theorem div64 {k : Int} {t u : Tok} (hA : A.handled = none) (h0 : 0 ≤ k) (h1 : k ≤ 64) (h : Q (.float (fl k) s.toks) { s with toks := s.toks + 1 }) :
    wpAny (model prog w) A (binaryOp .Div (.int k t) (.int 64 u)) Q E s :=
  Flt.div_ii_fits hA (Nat.lt_of_lt_of_le (show k.natAbs < 128 by omega) (by decide +kernel)) (fun e => absurd e (by decide)) fun _ _ => h
noncomputable def rndF (x : UInt64) : Int := Flt.toInt Float64.nearestOf x
theorem round_fin {x : UInt64} {t : Tok} (hA : A.handled = none) (hx : Float64.isFinite x = true) (h : Q (.int (rndF x) s.toks) { s with toks := s.toks + 1 }) :
    wpAny (model prog w) A (call (.builtin "round") [.float x t]) Q E s :=
  Flt.call_round_float hA (fun e => absurd e (by rw [Flt.not_nan_of_finite hx]; decide)) (fun e => absurd e (by rw [Flt.not_inf_of_finite hx]; decide)) fun _ => h
end
theorem regW60 : True := by
  k_with_none
  (k_with "binaryOp Mult int float" => (k_here; refine mul_small rfl (by first | decide | omega) ?_; (try dsimp only)))
  trivial
set_option maxRecDepth 100000 in
set_option maxHeartbeats 8000000 in
theorem mul_if_call (w : World) (mean : ExcName → Option Value) (mg mb : Str → Option Value) (news : List (Addr × Obj)) (n : Int) (a : UInt64) (t1 t2 : Tok) (hn : n.natAbs < 4294967296) :
    Calls w mean mg mb 70 news [.int n t1, .float a t2] 1 (RetF news (Float64.mul (Float64.ofInt n) a)) := by
  dsimp only [Calls, Frag0, Pg, Lo, RetF]
  k_fill
  intro dp un gd cn cs a ccd cl outer A₀ base h₀ L m s Q E B F X N T hk hd' hu hret
  refine wpAny_call ?_
  w_on
  w_strict (k_dflt cell_enter; k_steps)
  exact hret _ _ _ (by assumption) (by assumption)
set_option maxRecDepth 100000 in
set_option maxHeartbeats 8000000 in
theorem sub_ff_call (w : World) (mean : ExcName → Option Value) (mg mb : Str → Option Value) (news : List (Addr × Obj)) (a b : UInt64) (t1 t2 : Tok) :
    Calls w mean mg mb 77 news [.float a t1, .float b t2] 1 (RetF news (Float64.sub a b)) := by
  dsimp only [Calls, Frag0, Pg, Lo, RetF]
  k_fill
  intro dp un gd cn cs a ccd cl outer A₀ base h₀ L m s Q E B F X N T hk hd' hu hret
  refine wpAny_call ?_
  w_on
  w_strict (k_dflt cell_enter; k_steps)
  exact hret _ _ _ (by assumption) (by assumption)
set_option maxRecDepth 100000 in
set_option maxHeartbeats 8000000 in
theorem add_ff_call (w : World) (mean : ExcName → Option Value) (mg mb : Str → Option Value) (news : List (Addr × Obj)) (a b : UInt64) (t1 t2 : Tok) :
    Calls w mean mg mb 56 news [.float a t1, .float b t2] 1 (RetF news (Float64.add a b)) := by
  dsimp only [Calls, Frag0, Pg, Lo, RetF]
  k_fill
  intro dp un gd cn cs a ccd cl outer A₀ base h₀ L m s Q E B F X N T hk hd' hu hret
  refine wpAny_call ?_
  w_on
  w_strict (k_dflt cell_enter; k_steps)
  exact hret _ _ _ (by assumption) (by assumption)
set_option maxRecDepth 100000 in
set_option maxHeartbeats 8000000 in
theorem add_ii_call (w : World) (mean : ExcName → Option Value) (mg mb : Str → Option Value) (news : List (Addr × Obj)) (a b : Int) (t1 t2 : Tok) :
    Calls w mean mg mb 56 news [.int a t1, .int b t2] 1 (RetI news (a + b)) := by
  dsimp only [Calls, Frag0, Pg, Lo, RetI]
  k_fill
  intro dp un gd cn cs a ccd cl outer A₀ base h₀ L m s Q E B F X N T hk hd' hu hret
  refine wpAny_call ?_
  w_on
  w_strict (k_dflt cell_enter; k_steps)
  exact hret _ _ _ (by assumption) (by assumption)
set_option maxRecDepth 100000 in
set_option maxHeartbeats 8000000 in
theorem sub_ii_call (w : World) (mean : ExcName → Option Value) (mg mb : Str → Option Value) (news : List (Addr × Obj)) (a b : Int) (t1 t2 : Tok) :
    Calls w mean mg mb 77 news [.int a t1, .int b t2] 1 (RetI news (a - b)) := by
  dsimp only [Calls, Frag0, Pg, Lo, RetI]
  k_fill
  intro dp un gd cn cs a ccd cl outer A₀ base h₀ L m s Q E B F X N T hk hd' hu hret
  refine wpAny_call ?_
  w_on
  w_strict (k_dflt cell_enter; k_steps)
  exact hret _ _ _ (by assumption) (by assumption)
end
section
/-- an item of three ints, by 64 -/
theorem div_item {prog : Program} {w : World} {A : Around} {E : Value → Shared → Prop} {s : Shared} {h₀ : Heap} {L a' : Addr} {m : Str → Option Value} {cn : Str} {cs : Scope} {ccd : Value} {cl : List (Str × Addr)} {x : Str} {i a b c : Int} {k1 k2 : Nat} {p1 p2 p3 p4 p5 : Pos} {l : Addr} {t1 t2 t3 : Tok} {n : Nat} {news : List (Addr × Obj)} {Q : Value → Shared → Prop} {v : Int} {tv : Tok}
    (hA : A.handled = none) (hk : cs.kind = .function) (F : Fr h₀ L s.heap m) (N : News h₀ L s.heap news) (hx : m x = some (.ref l)) (hm : (l, listI a b c t1 t2 t3 n) ∈ news) (hv : ((#[.int a t1, .int b t2, .int c t3] : Array Value).toList.drop i.toNat).head? = some (.int v tv))
    (h0 : 0 ≤ i) (hi : i < 2 ^ 63) (v0 : 0 ≤ v) (v1 : v ≤ 64) (hl : (envX cn cs L a' ccd cl).kindOf x = some .local) (hd : (x == Str.ofString "__debug__") = false) (hq : ∀ t tk, Q (.float (fl v) t) { s with toks := tk }) :
    wpAny (model prog w) A (PySem.eval (.BinOp (.Subscript (.Name x p1) (.Constant (.int i) k1 p2) p3) .Div (.Constant (.int 64) k2 p4) p5) (envX cn cs L a' ccd cl)) Q E s := by
  refine wpAny_BinOp (Subscript_ (nameX_L F hx (wpAny_Constant_int ?_) hk hl hd))
  exact item_news (s := { s with toks := s.toks + 1 }) N hm h0 hi hv (wpAny_Constant_int (div64 hA v0 v1 (hq _ _))) (by with_unfolding_all rfl)
section
variable (w : World) (mean : ExcName → Option Value) (mg mb : Str → Option Value) (news : List (Addr × Obj))
theorem hsv_call' (r g b : UInt64) (t1 t2 t3 : Tok) (x y z : UInt64)
    (h1 : (Float64.cmp (min3 r g b) (max3 r g b) == some .eq) = false) (h2 : Float64.isZero (max3 r g b) = false) (h3 : Float64.isZero (Float64.sub (max3 r g b) (min3 r g b)) = false) (e : hsvF r g b = (x, y, z)) :
    Calls w mean mg mb 42 news [.float r t1, .float g t2, .float b t3] 1 (Ret3 news (x, y, z)) := e ▸ hsv_call w mean mg mb news r g b t1 t2 t3 h1 h2 h3
theorem hls_call' (r g b : UInt64) (t1 t2 t3 : Tok) (x y z : UInt64)
    (h1 : (Float64.cmp (min3 r g b) (max3 r g b) == some .eq) = false) (h2 : Float64.isZero (Float64.add (max3 r g b) (min3 r g b)) = false) (h3 : Float64.isZero (Float64.sub (max3 r g b) (min3 r g b)) = false)
    (h4 : Float64.isZero (Float64.sub (Float64.sub 4611686018427387904 (max3 r g b)) (min3 r g b)) = false) (e : hlsF r g b = (x, y, z)) :
    Calls w mean mg mb 21 news [.float r t1, .float g t2, .float b t3] 1 (Ret3 news (x, y, z)) := e ▸ hls_call w mean mg mb news r g b t1 t2 t3 h1 h2 h3 h4
theorem hsvr_call' (h sa v : UInt64) (t1 t2 t3 : Tok) (x y z : UInt64)
    (hs : (Float64.cmp sa 0 == some .eq) = false) (hf : Float64.isFinite (Float64.mul h 4618441417868443648) = true) (hi : ¬ Flt.Over (iF h)) (e : hsvrF h sa v = (x, y, z)) :
    Calls w mean mg mb 49 news [.float h t1, .float sa t2, .float v t3] 1 (Ret3 news (x, y, z)) := e ▸ hsvr_call w mean mg mb news h sa v t1 t2 t3 hs hf hi
theorem hlsr_call' (h l sa : UInt64) (t1 t2 t3 : Tok) (x y z : UInt64)
    (hs : (Float64.cmp sa 0 == some .eq) = false) (e : hlsrF h l sa = (x, y, z)) :
    Calls w mean mg mb 28 news [.float h t1, .float l t2, .float sa t3] 2 (Ret3 news (x, y, z)) := e ▸ hlsr_call w mean mg mb news h l sa t1 t2 t3 hs
end
namespace LCx
open PyProof.Rows.LCg PySem.Calls
theorem tup_st {h₀ : Heap} {L ax I : Addr} {its : Array Value} {k : Nat} : ∀ i (h h' : Heap) (o : Obj) (nw : List (Addr × Obj)), (h.IsTupleIter I ax i ∧ h.IsTuple ax its) → h.get? I = some o → h'.get? I = some o → (∀ b o, h₀.get? b = some o → h'.get? b = some o) → News h₀ L h' nw → (ax, ({ cls := .type "tuple", data := .seq its k } : Obj)) ∈ nw → (h'.IsTupleIter I ax i ∧ h'.IsTuple ax its) :=
  fun i h h' o nw st e e' _ N S => ⟨by obtain ⟨o', q, r⟩ := st.1; rw [e] at q; cases q; exact ⟨o, e', r⟩, ⟨_, (N _ S).1, rfl, k, rfl⟩⟩
noncomputable def TurnEnd (h₀ : Heap) (L : Addr) (m : Str → Option Value) (s₁ : Shared) (all : List (Addr × Obj)) (z : Int) (y : Value) (s₂ : Shared) : Prop :=
  ∃ h' tk' t, y = .int z t ∧ s₂ = { s₁ with heap := h', toks := tk' } ∧ Fr h₀ L h' m ∧ News h₀ L h' all
/-- what one turn must bring -/
noncomputable def TurnI (prog : Program) (w : World) (A : Around) (h₀ : Heap) (L : Addr) (m : Str → Option Value) (env : Env) (elt : Expr) (x : Str) (scope : Scope) (cl : List (Str × Addr)) (s₁ : Shared) (news : List (Addr × Obj)) (v : Value) (z : Int) : Prop :=
  ∀ I oI C oC D m₂ ys h tk (E' : Value → Shared → Prop), NsObj oC m₂ → m₂ x = some v → Fr h₀ L h m → News h₀ L h ((I, oI) :: (C, oC) :: (D, lst ys) :: news) →
    wpAny (model prog w) A (eval elt (compEnvC scope cl C env)) (fun y s₂ => TurnEnd h₀ L m s₁ ((I, oI) :: (C, oC) :: (D, lst ys) :: news) z y s₂) E' { s₁ with heap := h, toks := tk }
noncomputable def TupSrc (prog : Program) (w : World) (A : Around) (h₀ : Heap) (L : Addr) (m : Str → Option Value) (env : Env) (elt : Expr) (x : Str) (scope : Scope) (cl : List (Str × Addr)) (Q : Value → Shared → Prop) (xv : Value) (s₁ : Shared) : Prop :=
  ∃ ax a b c k news z1 z2 z3, xv = .ref ax ∧ A.handled = none ∧ Fr h₀ L s₁.heap m ∧ News h₀ L s₁.heap news ∧ (ax, ({ cls := .type "tuple", data := .seq #[a, b, c] k } : Obj)) ∈ news ∧
    (TurnI prog w A h₀ L m env elt x scope cl s₁ news a z1 ∧ TurnI prog w A h₀ L m env elt x scope cl s₁ news b z2 ∧ TurnI prog w A h₀ L m env elt x scope cl s₁ news c z3) ∧
    (∀ D t1 t2 t3 h tk, Fr h₀ L h m → News h₀ L h ((D, ({ cls := .type "list", data := .seq #[.int z1 t1, .int z2 t2, .int z3 t3] 3 } : Obj)) :: news) → (∀ p ∈ news, p.1 ≠ D) → Q (.ref D) { s₁ with heap := h, toks := tk })
theorem TupSrc.intro {prog : Program} {w : World} {A : Around} {h₀ : Heap} {L : Addr} {m : Str → Option Value} {env : Env} {elt : Expr} {x : Str} {scope : Scope} {cl : List (Str × Addr)} {Q : Value → Shared → Prop} {s₁ : Shared}
    {ax : Addr} {a b c : Value} {k : Nat} {news : List (Addr × Obj)} {z1 z2 z3 : Int} (hh : A.handled = none) (F : Fr h₀ L s₁.heap m) (N : News h₀ L s₁.heap news) (hm : (ax, ({ cls := .type "tuple", data := .seq #[a, b, c] k } : Obj)) ∈ news)
    (ta : TurnI prog w A h₀ L m env elt x scope cl s₁ news a z1) (tb : TurnI prog w A h₀ L m env elt x scope cl s₁ news b z2) (tc : TurnI prog w A h₀ L m env elt x scope cl s₁ news c z3)
    (h : ∀ D t1 t2 t3 h tk, Fr h₀ L h m → News h₀ L h ((D, ({ cls := .type "list", data := .seq #[.int z1 t1, .int z2 t2, .int z3 t3] 3 } : Obj)) :: news) → (∀ p ∈ news, p.1 ≠ D) → Q (.ref D) { s₁ with heap := h, toks := tk }) :
    TupSrc prog w A h₀ L m env elt x scope cl Q (.ref ax) s₁ := ⟨ax, a, b, c, k, news, z1, z2, z3, rfl, hh, F, N, hm, ⟨ta, tb, tc⟩, h⟩
theorem off1_mem {D : Addr} : ∀ {l : List (Addr × Obj)}, Off1 D l → ∀ p ∈ l, p.1 ≠ D
  | [], _, _, h => nomatch h
  | _ :: _, x, p, h => by
    rcases List.mem_cons.mp h with rfl | h
    · exact x.1
    · exact off1_mem x.2 p h
theorem turn_step {prog : Program} {w : World} {A : Around} {h₀ : Heap} {L : Addr} {m : Str → Option Value} {env : Env} {elt : Expr} {x : Str} {scope : Scope} {cl : List (Str × Addr)} {s₁ : Shared} {news : List (Addr × Obj)} {v : Value} {z : Int} {i j : Nat} {its : Array Value} {ys : List Value} {S : List (Addr × Obj) → Prop}
    {Fin : List Value → List (Addr × Obj) → Prop} (hS : S news) (t : TurnI prog w A h₀ L m env elt x scope cl s₁ news v z) (hv : its[i]? = some v)
    (r : ∀ t, CompRest prog w A h₀ L m env elt x scope cl s₁ S (fun i v => its[i]? = some v) Fin j (i + 1) (ys ++ [.int z t]) news) :
    CompRest prog w A h₀ L m env elt x scope cl s₁ S (fun i v => its[i]? = some v) Fin (j + 1) i ys news := by
  refine CompRest.succ fun v' I oI C oC D m₂ h tk E' hP hC hx F N off ne => ?_
  have e : v' = v := by have := hP.symm.trans hv; exact Option.some.inj this
  subst e
  refine wpAny_mono (t I oI C oC D m₂ ys h tk E' hC hx F N) (fun y s₂ hq => ?_) fun _ _ e => e
  obtain ⟨h', tk', t', rfl, rfl, F', N'⟩ := hq
  exact ⟨h', tk', news, rfl, F', N', off, hS, r t'⟩
theorem ListComp_tup {prog : Program} {w : World} {A : Around} {E : Value → Shared → Prop} {s : Shared} {h₀ : Heap} {L : Addr} {m : Str → Option Value} {env : Env} {elt iter : Expr} {x : Str} {px : Pos} {scope : Scope} {cl : List (Str × Addr)} {pos : Pos} {Q : Value → Shared → Prop} (_F₀ : Fr h₀ L s.heap m)
    (hclos : closureFor scope env = pure cl) (hcell : ∀ y ∈ scope.names, y.2 ≠ .cell) (hkind : scope.kind = .function)
    (hnames : ∀ y ∈ scope.names, y.2 = .local → scope.names.lookup y.1 = some .local) (hx : scope.names.lookup x = some .local)
    (h : wpAny (model prog w) A (eval iter env) (fun xv s₁ => TupSrc prog w A h₀ L m env elt x scope cl Q xv s₁) E s)
    (hs : ∀ x, foldedSetIterable iter env x = pure x) :
    wpAny (model prog w) A (eval (.ListComp elt [⟨.Name x px, iter, [], 0⟩] scope pos) env) Q E s := by
  rw [eval_ListComp]
  refine wpAny_comprehension_free (use := none) rfl hs hclos hkind hnames (wpAny_mono h (fun xv s₁ h₁ => ?_) fun _ _ e => e)
  obtain ⟨ax, a, b, c, k, news, z1, z2, z3, rfl, hh, F, N, S, ⟨ta, tb, tc⟩, hQ⟩ := h₁
  have hl : s₁.heap.IsTuple ax #[a, b, c] := ⟨_, (N _ S).1, rfl, k, rfl⟩
  have hlt : ax < s₁.heap.objs.size := Heap.lt_size (N _ S).1
  refine wpAny_pyIter_tuple hl ?_
  have up : ∀ b o, s₁.heap.get? b = some o → (s₁.heap.push { cls := .type "tuple_iterator", data := .fields #[.ref ax, .int 0 0] }).get? b = some o := fun b o e => Heap.get?_push_of_some _ e
  have R : ∀ g, CompRest prog w A h₀ L m env elt x scope cl { s₁ with heap := g } (fun nw => (ax, ({ cls := .type "tuple", data := .seq #[a, b, c] k } : Obj)) ∈ nw) (fun i v => #[a, b, c][i]? = some v) (FinE h₀ L m { s₁ with heap := g } Q) 3 0 [] news := fun g =>
    turn_step S ta rfl fun t1 => turn_step S tb rfl fun t2 => turn_step S tc rfl fun t3 => CompRest.zero fun D h tk F N o => hQ D t1 t2 t3 h tk F N (off1_mem o)
  refine block_U (Walks.tuple hh s₁.heap.objs.size ax (Nat.ne_of_lt hlt) #[a, b, c]) (show 3 ≤ sizeLine by rw [sizeLine_eq]; decide) (fun i h st => by obtain ⟨o, e, _⟩ := st.1; exact ⟨o, e⟩) tup_st hcell hkind hx ⟨⟨_, Heap.get?_push_size _ rfl, rfl, rfl⟩, hl.push _⟩ (fun b hb => ?_)
    (F.keeps up) (N.grown up) (Nat.ne_of_lt F.ns.lt) (next_is_new F) (fun p hp => Nat.ne_of_lt (Heap.lt_size (N p hp).1)) S (R _) ?_
  · exact Nat.lt_of_le_of_lt ((List.mem_cons.mp hb).elim Nat.le_of_eq fun e => Nat.le_of_lt (List.mem_singleton.mp e ▸ hlt)) (Nat.lt_of_lt_of_eq (Nat.lt_succ_self _) (Heap.size_push ..).symm)
  · exact fun D C h tk m' ys nw F' N' o1 hn c1 _ c3 _ c5 off fin => ⟨m', hn, fun g hg => fin D g tk (F'.change hg c3 c1)
      (fun p hp => ⟨hg.extBut _ _ ((List.mem_cons.mp hp).elim (fun e => e ▸ Ne.symm c5) (off p)) (N' p hp).1, (N' p hp).2⟩) o1⟩
theorem TupSrc.round3 {prog : Program} {w : World} {A : Around} {h₀ : Heap} {L : Addr} {m : Str → Option Value} {env : Env} {elt : Expr} {x : Str} {scope : Scope} {cl : List (Str × Addr)} {Q : Value → Shared → Prop} {s₁ : Shared}
    {ax : Addr} {o1 o2 o3 : UInt64} {t1 t2 t3 : Tok} {k : Nat} {news : List (Addr × Obj)} (hh : A.handled = none) (F : Fr h₀ L s₁.heap m) (N : News h₀ L s₁.heap news) (hm : (ax, ({ cls := .type "tuple", data := .seq #[.float o1 t1, .float o2 t2, .float o3 t3] k } : Obj)) ∈ news)
    (f1 : Float64.isFinite (Float64.mul (Float64.ofInt 64) o1) = true) (f2 : Float64.isFinite (Float64.mul (Float64.ofInt 64) o2) = true) (f3 : Float64.isFinite (Float64.mul (Float64.ofInt 64) o3) = true)
    (tn : ∀ (o : UInt64) (t : Tok), Float64.isFinite (Float64.mul (Float64.ofInt 64) o) = true → TurnI prog w A h₀ L m env elt x scope cl s₁ news (.float o t) (rndF (Float64.mul (Float64.ofInt 64) o)))
    (h : ∀ D t1 t2 t3 h tk, Fr h₀ L h m → News h₀ L h ((D, ({ cls := .type "list", data := .seq #[.int (rndF (Float64.mul (Float64.ofInt 64) o1)) t1, .int (rndF (Float64.mul (Float64.ofInt 64) o2)) t2, .int (rndF (Float64.mul (Float64.ofInt 64) o3)) t3] 3 } : Obj)) :: news) → (∀ p ∈ news, p.1 ≠ D) → Q (.ref D) { s₁ with heap := h, toks := tk }) :
    TupSrc prog w A h₀ L m env elt x scope cl Q (.ref ax) s₁ := TupSrc.intro hh F N hm (tn _ _ f1) (tn _ _ f2) (tn _ _ f3) h
end LCx
structure Inb (a b c : Int) : Prop where
  a0 : 0 ≤ a
  a1 : a ≤ 64
  b0 : 0 ≤ b
  b1 : b ≤ 64
  c0 : 0 ≤ c
  c1 : c ≤ 64
theorem regW70 : True := by
  k_with_none
  (k_with "call ref" => (k_here; (with_reducible show wpAny _ _ (call (Value.ref 42) _) _ _ _); k_dflt (refine' Calls.use2 (by k_asm) (by k_asm) (by k_asm) (by k_asm) (by k_asm) (by first | exact rfl | assumption) (by ktr_room) (by ktr_units) (hsv_call' _ _ _ _ _ _ _ _ _ _ _ _ _ _ (by first | k_asm | decide | omega) (by first | k_asm | decide | omega) (by first | k_asm | decide | omega) (by first | k_asm | decide | omega)) ?_; k_whole; intro D9Z u9Z v9Z w9Z c9Z h9Z tk9Z F9Z N9Z l9Z; (try dsimp only); (try k_fold))))
  (k_with "call ref" => (k_here; (with_reducible show wpAny _ _ (call (Value.ref 21) _) _ _ _); k_dflt (refine' Calls.use2 (by k_asm) (by k_asm) (by k_asm) (by k_asm) (by k_asm) (by first | exact rfl | assumption) (by ktr_room) (by ktr_units) (hls_call' _ _ _ _ _ _ _ _ _ _ _ _ _ _ (by first | k_asm | decide | omega) (by first | k_asm | decide | omega) (by first | k_asm | decide | omega) (by first | k_asm | decide | omega) (by first | k_asm | decide | omega)) ?_; k_whole; intro D9Z u9Z v9Z w9Z c9Z h9Z tk9Z F9Z N9Z l9Z; (try dsimp only); (try k_fold))))
  (k_with "call ref" => (k_here; (with_reducible show wpAny _ _ (call (Value.ref 49) _) _ _ _); k_dflt (refine' Calls.use2 (by k_asm) (by k_asm) (by k_asm) (by k_asm) (by k_asm) (by first | exact rfl | assumption) (by ktr_room) (by ktr_units) (hsvr_call' _ _ _ _ _ _ _ _ _ _ _ _ _ _ (by first | k_asm | decide | omega) (by first | k_asm | decide | omega) (by first | k_asm | decide | omega) (by first | k_asm | decide | omega)) ?_; k_whole; intro D9Z u9Z v9Z w9Z c9Z h9Z tk9Z F9Z N9Z l9Z; (try dsimp only); (try k_fold))))
  (k_with "call ref" => (k_here; (with_reducible show wpAny _ _ (call (Value.ref 28) _) _ _ _); k_dflt (refine' Calls.use2 (by k_asm) (by k_asm) (by k_asm) (by k_asm) (by k_asm) (by first | exact rfl | assumption) (by ktr_room) (by ktr_units) (hlsr_call' _ _ _ _ _ _ _ _ _ _ _ _ _ _ (by first | k_asm | decide | omega) (by first | k_asm | decide | omega)) ?_; k_whole; intro D9Z u9Z v9Z w9Z c9Z h9Z tk9Z F9Z N9Z l9Z; (try dsimp only); (try k_fold))))
  (k_with "call ref" => (k_here; (with_reducible show wpAny _ _ (call (Value.ref 70) _) _ _ _); k_dflt (refine' Calls.use2 (by k_asm) (by k_asm) (by k_asm) (by k_asm) (by k_asm) (by first | exact rfl | assumption) (by ktr_room) (by ktr_units) (mul_if_call _ _ _ _ _ _ _ _ _ (by first | k_asm | decide | omega)) ?_; k_whole; intro t9Z h9Z tk9Z F9Z N9Z; (try dsimp only); (try k_fold))))
  (k_with "call ref" => (k_here; (with_reducible show wpAny _ _ (call (Value.ref 77) _) _ _ _); k_dflt (refine' Calls.use2 (by k_asm) (by k_asm) (by k_asm) (by k_asm) (by k_asm) (by first | exact rfl | assumption) (by ktr_room) (by ktr_units) (sub_ff_call _ _ _ _ _ _ _ _ _ ) ?_; k_whole; intro t9Z h9Z tk9Z F9Z N9Z; (try dsimp only); (try k_fold))))
  (k_with "call ref" => (k_here; (with_reducible show wpAny _ _ (call (Value.ref 56) _) _ _ _); k_dflt (refine' Calls.use2 (by k_asm) (by k_asm) (by k_asm) (by k_asm) (by k_asm) (by first | exact rfl | assumption) (by ktr_room) (by ktr_units) (add_ff_call _ _ _ _ _ _ _ _ _ ) ?_; k_whole; intro t9Z h9Z tk9Z F9Z N9Z; (try dsimp only); (try k_fold))))
  (k_with "subscriptTail" => (k_here; (with_reducible show wpAny _ _ (subscriptTail _ _ (Value.ref _) (Value.int _ _)) _ _ _); (with_unfolding_all refine' item_news (by k_asm) (by kcf_m) (by decide) (by decide) (by rfl) ?_ (by with_unfolding_all rfl); k_whole)))
  (k_with "subscriptTail Name Constant ref int" => (k_here; (with_reducible show wpAny _ _ (subscriptTail _ _ (Value.ref _) (Value.int _ _)) _ _ _); (with_unfolding_all refine' item_news (by k_asm) (by kcf_m) (by decide) (by decide) (by rfl) ?_ (by with_unfolding_all rfl); k_whole)))
  (k_with "subscriptTail Name Name ref int" => (k_here; (with_reducible show wpAny _ _ (subscriptTail _ _ (Value.ref _) (Value.int _ _)) _ _ _); (with_unfolding_all refine' item_news (by k_asm) (by kcf_m) (by decide) (by decide) (by rfl) ?_ (by with_unfolding_all rfl); k_whole)))
  (k_with "subscriptTail Subscript Constant ref int" => (k_here; (with_reducible show wpAny _ _ (subscriptTail _ _ (Value.ref _) (Value.int _ _)) _ _ _); (with_unfolding_all refine' item_news (by k_asm) (by kcf_m) (by decide) (by decide) (by rfl) ?_ (by with_unfolding_all rfl); k_whole)))
  (k_with "subscriptTail Name BinOp ref int" => (k_here; (with_reducible show wpAny _ _ (subscriptTail _ _ (Value.ref _) (Value.int _ _)) _ _ _); (with_unfolding_all refine' item_news (by k_asm) (by kcf_m) (by decide) (by decide) (by rfl) ?_ (by with_unfolding_all rfl); k_whole)))
  (k_with "subscriptTail Call Constant ref int" => (k_here; (with_reducible show wpAny _ _ (subscriptTail _ _ (Value.ref _) (Value.int _ _)) _ _ _); (with_unfolding_all refine' item_news (by k_asm) (by kcf_m) (by decide) (by decide) (by rfl) ?_ (by with_unfolding_all rfl); k_whole)))
  (k_with "subscriptTail Subscript Name ref int" => (k_here; (with_reducible show wpAny _ _ (subscriptTail _ _ (Value.ref _) (Value.int _ _)) _ _ _); (with_unfolding_all refine' item_news (by k_asm) (by kcf_m) (by decide) (by decide) (by rfl) ?_ (by with_unfolding_all rfl); k_whole)))
  (k_with "binaryOp Mult int float" => (k_here; refine mul_small rfl (by first | decide | omega) ?_; (try dsimp only)))
  (k_with "binaryOp Div int int" => (k_here; refine div64 rfl (by first | assumption | omega) (by first | assumption | omega) ?_; (try dsimp only); (try simp only [*])))
  (k_with "call builtin:round" => (k_here; refine round_fin rfl (by assumption) ?_; (try dsimp only)))
  (k_with "eval ListComp" => (k_here; k_dflt (refine LCx.ListComp_tup (by assumption) (by with_unfolding_all rfl) (by decide) (by rfl) (by decide) (by rfl) ?_ (fun _ => rfl))))
  (k_with "eval BinOp" => (k_here; k_dflt (refine' div_item (by rfl) (by first | exact rfl | assumption) (by k_asm) (by k_asm) (by first | assumption | rfl) (by kcf_m) (by rfl) (by decide) (by decide) (by assumption) (by assumption) (by rfl) (by rfl) ?_; k_whole); intro tZ tkZ))
  trivial
set_option maxRecDepth 100000 in
set_option maxHeartbeats 1000000 in
theorem mirV_call (w : World) (mean : ExcName → Option Value) (mg mb : Str → Option Value) (news : List (Addr × Obj)) (x1 x2 x3 y1 y2 y3 : Int) (Bl Ab : Addr) (t1 t2 t3 u1 u2 u3 : Tok) (c d : Nat)
    (r1 r2 r3 q1 q2 q3 gh gs gv bh bs bv o1 o2 o3 : UInt64)
    (hB : (Bl, listI x1 x2 x3 t1 t2 t3 c) ∈ news) (hA : (Ab, listI y1 y2 y3 u1 u2 u3 d) ∈ news) (hx : Inb x1 x2 x3) (hy : Inb y1 y2 y3)
    (er1 : fl x1 = r1) (er2 : fl x2 = r2) (er3 : fl x3 = r3) (eq1 : fl y1 = q1) (eq2 : fl y2 = q2) (eq3 : fl y3 = q3)
    (g1 : (Float64.cmp (min3 r1 r2 r3) (max3 r1 r2 r3) == some .eq) = false) (g2 : Float64.isZero (max3 r1 r2 r3) = false) (g3 : Float64.isZero (Float64.sub (max3 r1 r2 r3) (min3 r1 r2 r3)) = false)
    (k1 : (Float64.cmp (min3 q1 q2 q3) (max3 q1 q2 q3) == some .eq) = false) (k2 : Float64.isZero (max3 q1 q2 q3) = false) (k3 : Float64.isZero (Float64.sub (max3 q1 q2 q3) (min3 q1 q2 q3)) = false)
    (eb : hsvF r1 r2 r3 = (bh, bs, bv)) (eg : hsvF q1 q2 q3 = (gh, gs, gv))
    (hs : (Float64.cmp bs 0 == some .eq) = false)
    (hf : Float64.isFinite (Float64.mul (Float64.add (Float64.sub (Float64.mul (Float64.ofInt 2) gh) bh) 4607182418800017408) 4618441417868443648) = true)
    (hi : ¬ Flt.Over (iF (Float64.add (Float64.sub (Float64.mul (Float64.ofInt 2) gh) bh) 4607182418800017408)))
    (eo : hsvrF (Float64.add (Float64.sub (Float64.mul (Float64.ofInt 2) gh) bh) 4607182418800017408) bs bv = (o1, o2, o3))
    (f1 : Float64.isFinite (Float64.mul (Float64.ofInt 64) o1) = true) (f2 : Float64.isFinite (Float64.mul (Float64.ofInt 64) o2) = true) (f3 : Float64.isFinite (Float64.mul (Float64.ofInt 64) o3) = true) :
    Calls w mean mg mb 89 news [.ref Bl, .ref Ab, .bool false] 3 (RetL news (rndF (Float64.mul (Float64.ofInt 64) o1), rndF (Float64.mul (Float64.ofInt 64) o2), rndF (Float64.mul (Float64.ofInt 64) o3))) := by
  dsimp only [Calls, Frag0, Pg, Lo, RetL]
  k_fill
  intro dp un gd cn cs a ccd cl outer A₀ base h₀ L m s Q E B F X N T hk hd' hu hret
  obtain ⟨hx1, hx2, hx3, hx4, hx5, hx6⟩ := hx
  obtain ⟨hy1, hy2, hy3, hy4, hy5, hy6⟩ := hy
  subst er1 er2 er3 eq1 eq2 eq3
  refine wpAny_call ?_
  w_on
  w_strict (k_dflt cell_enter; k_steps)
  refine LCx.TupSrc.round3 rfl (by assumption) (by assumption) (List.Mem.head _) f1 f2 f3 (fun o t fo => ?tn) ?fin
  case tn =>
    unfold LCx.TurnI
    intro I oI C oC D m₂ ys h tk E' hC hx F N
    w_strict k_steps
    exact ⟨_, _, _, rfl, rfl, by assumption, by assumption⟩
  intro D t1 t2 t3 h tk F N off
  w_strict k_steps
  rename News h₀ L _ _ => kN
  exact hret _ _ _ _ _ _ _ (by assumption) (fun p hp => kN p (by rcases List.mem_cons.mp hp with rfl | hp <;> kcf_m)) (fun p hp => off p (by kcf_m))
set_option maxRecDepth 100000 in
set_option maxHeartbeats 1000000 in
theorem mirL_call (w : World) (mean : ExcName → Option Value) (mg mb : Str → Option Value) (news : List (Addr × Obj)) (x1 x2 x3 y1 y2 y3 : Int) (Bl Ab : Addr) (t1 t2 t3 u1 u2 u3 : Tok) (c d : Nat)
    (r1 r2 r3 q1 q2 q3 gh gs gv bh bs bv o1 o2 o3 : UInt64)
    (hB : (Bl, listI x1 x2 x3 t1 t2 t3 c) ∈ news) (hA : (Ab, listI y1 y2 y3 u1 u2 u3 d) ∈ news) (hx : Inb x1 x2 x3) (hy : Inb y1 y2 y3)
    (er1 : fl x1 = r1) (er2 : fl x2 = r2) (er3 : fl x3 = r3) (eq1 : fl y1 = q1) (eq2 : fl y2 = q2) (eq3 : fl y3 = q3)
    (g1 : (Float64.cmp (min3 r1 r2 r3) (max3 r1 r2 r3) == some .eq) = false) (g2 : Float64.isZero (Float64.add (max3 r1 r2 r3) (min3 r1 r2 r3)) = false) (g4 : Float64.isZero (Float64.sub (Float64.sub 4611686018427387904 (max3 r1 r2 r3)) (min3 r1 r2 r3)) = false) (g3 : Float64.isZero (Float64.sub (max3 r1 r2 r3) (min3 r1 r2 r3)) = false)
    (k1 : (Float64.cmp (min3 q1 q2 q3) (max3 q1 q2 q3) == some .eq) = false) (k2 : Float64.isZero (Float64.add (max3 q1 q2 q3) (min3 q1 q2 q3)) = false) (k4 : Float64.isZero (Float64.sub (Float64.sub 4611686018427387904 (max3 q1 q2 q3)) (min3 q1 q2 q3)) = false) (k3 : Float64.isZero (Float64.sub (max3 q1 q2 q3) (min3 q1 q2 q3)) = false)
    (eb : hlsF r1 r2 r3 = (bh, bv, bs)) (eg : hlsF q1 q2 q3 = (gh, gv, gs))
    (hs : (Float64.cmp bs 0 == some .eq) = false)
    (eo : hlsrF (Float64.sub (Float64.mul (Float64.ofInt 2) gh) bh) bv bs = (o1, o2, o3))
    (f1 : Float64.isFinite (Float64.mul (Float64.ofInt 64) o1) = true) (f2 : Float64.isFinite (Float64.mul (Float64.ofInt 64) o2) = true) (f3 : Float64.isFinite (Float64.mul (Float64.ofInt 64) o3) = true) :
    Calls w mean mg mb 89 news [.ref Bl, .ref Ab, .bool true] 3 (RetL news (rndF (Float64.mul (Float64.ofInt 64) o1), rndF (Float64.mul (Float64.ofInt 64) o2), rndF (Float64.mul (Float64.ofInt 64) o3))) := by
  dsimp only [Calls, Frag0, Pg, Lo, RetL]
  k_fill
  intro dp un gd cn cs a ccd cl outer A₀ base h₀ L m s Q E B F X N T hk hd' hu hret
  obtain ⟨hx1, hx2, hx3, hx4, hx5, hx6⟩ := hx
  obtain ⟨hy1, hy2, hy3, hy4, hy5, hy6⟩ := hy
  subst er1 er2 er3 eq1 eq2 eq3
  refine wpAny_call ?_
  w_on
  w_strict (k_dflt cell_enter; k_steps)
  refine LCx.TupSrc.round3 rfl (by assumption) (by assumption) (List.Mem.head _) f1 f2 f3 (fun o t fo => ?tn) ?fin
  case tn =>
    unfold LCx.TurnI
    intro I oI C oC D m₂ ys h tk E' hC hx F N
    w_strict k_steps
    exact ⟨_, _, _, rfl, rfl, by assumption, by assumption⟩
  intro D t1 t2 t3 h tk F N off
  w_strict k_steps
  rename News h₀ L _ _ => kN
  exact hret _ _ _ _ _ _ _ (by assumption) (fun p hp => kN p (by rcases List.mem_cons.mp hp with rfl | hp <;> kcf_m)) (fun p hp => off p (by kcf_m))
end
section
set_option maxRecDepth 100000
open PySem PySem.Float64
theorem prod_near {p P d f : Rat} (h1 : -P ≤ p) (h2 : p ≤ P) (h3 : -f ≤ d) (h4 : d ≤ f) : -(P * f) ≤ p * d ∧ p * d ≤ P * f := by
  have a1 := Rat.mul_nonneg (show 0 ≤ P - p by grind) (show 0 ≤ f + d by grind)
  have a2 := Rat.mul_nonneg (show 0 ≤ P + p by grind) (show 0 ≤ f - d by grind)
  have a3 := Rat.mul_nonneg (show 0 ≤ P - p by grind) (show 0 ≤ f - d by grind)
  have a4 := Rat.mul_nonneg (show 0 ≤ P + p by grind) (show 0 ≤ f + d by grind)
  constructor <;> grind
theorem mul_near {x p e y q f P Y : Rat} (x1 : p - e ≤ x) (x2 : x ≤ p + e) (y1 : q - f ≤ y) (y2 : y ≤ q + f) (p1 : -P ≤ p) (p2 : p ≤ P) (q1 : -Y ≤ y) (q2 : y ≤ Y) :
    p * q - (P * f + Y * e) ≤ x * y ∧ x * y ≤ p * q + (P * f + Y * e) := by
  have a := prod_near p1 p2 (show -f ≤ y - q by grind) (show y - q ≤ f by grind)
  have b := prod_near q1 q2 (show -e ≤ x - p by grind) (show x - p ≤ e by grind)
  constructor <;> grind
theorem mul_ap {x y : UInt64} {p q e f : Rat} (P Y : Rat) (hx : Ap x p e) (hy : Ap y q f) (p1 : -P ≤ p) (p2 : p ≤ P) (q1 : -Y ≤ q - f) (q2 : q + f ≤ Y)
    (h1 : -128 + (P * f + Y * e) ≤ p * q) (h2 : p * q + (P * f + Y * e) ≤ 128) : Ap (mul x y) (p * q) (P * f + Y * e + eps) := by
  have h := mul_near (Y := Y) hx.lo hx.hi hy.lo hy.hi p1 p2 (by have := hy.lo; grind) (by have := hy.hi; grind)
  obtain ⟨f1, f2, f3⟩ := mul_rv hx.fin hy.fin (by grind) (by grind)
  exact ⟨f1, by grind, by grind⟩
/-- within n roundings of q, and q at most P off nought -/
structure Nr (x : UInt64) (q : Rat) (n P : Nat) : Prop where
  ap : Ap x q ((n : Rat) * eps)
  lo : -(P : Rat) ≤ q
  hi : q ≤ (P : Rat)
theorem eps_nn : (0 : Rat) ≤ eps := by unfold eps; decide +kernel
theorem eps_big {n : Nat} (h : n ≤ 100000) : (0 : Rat) ≤ (n : Rat) * eps ∧ (n : Rat) * eps ≤ 1 := by
  have c := Rat.natCast_le_natCast.mpr h
  have c0 : (0 : Rat) ≤ (n : Rat) := Rat.natCast_nonneg
  have z : ((100000 : Nat) : Rat) = 100000 := rfl
  rw [z] at c
  have e1 : eps ≤ 1 / 100000 := by unfold eps; decide +kernel
  refine ⟨Rat.mul_nonneg c0 eps_nn, ?_⟩
  have a1 := Rat.mul_nonneg (show 0 ≤ 100000 - (n : Rat) by grind) eps_nn
  grind
theorem Nr.add {x y : UInt64} {p q : Rat} {m n P Q : Nat} (hx : Nr x p m P) (hy : Nr y q n Q) (h : P + Q ≤ 100 ∧ m + n ≤ 100000) : Nr (Float64.add x y) (p + q) (m + n + 1) (P + Q) := by
  have c := Rat.natCast_le_natCast.mpr h.1
  have e := eps_big h.2
  have z : ((100 : Nat) : Rat) = 100 := rfl
  have z1 : ((1 : Nat) : Rat) = 1 := rfl
  rw [Rat.natCast_add, z] at c
  rw [Rat.natCast_add] at e
  obtain ⟨ax, xl, xh⟩ := hx
  obtain ⟨ay, yl, yh⟩ := hy
  refine ⟨?_, by rw [Rat.natCast_add]; grind, by rw [Rat.natCast_add]; grind⟩
  rw [Rat.natCast_add, Rat.natCast_add, z1]
  exact (add_ap ax ay (by grind) (by grind)).wide (by grind)
theorem Nr.sub {x y : UInt64} {p q : Rat} {m n P Q : Nat} (hx : Nr x p m P) (hy : Nr y q n Q) (h : P + Q ≤ 100 ∧ m + n ≤ 100000) : Nr (Float64.sub x y) (p - q) (m + n + 1) (P + Q) := by
  have c := Rat.natCast_le_natCast.mpr h.1
  have e := eps_big h.2
  have z : ((100 : Nat) : Rat) = 100 := rfl
  have z1 : ((1 : Nat) : Rat) = 1 := rfl
  rw [Rat.natCast_add, z] at c
  rw [Rat.natCast_add] at e
  obtain ⟨ax, xl, xh⟩ := hx
  obtain ⟨ay, yl, yh⟩ := hy
  refine ⟨?_, by rw [Rat.natCast_add]; grind, by rw [Rat.natCast_add]; grind⟩
  rw [Rat.natCast_add, Rat.natCast_add, z1]
  exact (sub_ap ax ay (by grind) (by grind)).wide (by grind)
theorem Nr.mul {x y : UInt64} {p q : Rat} {m n P Q : Nat} (hx : Nr x p m P) (hy : Nr y q n Q) (h : P * Q ≤ 100 ∧ n ≤ 100000 ∧ P * n + (Q + 1) * m ≤ 100000) : Nr (Float64.mul x y) (p * q) (P * n + (Q + 1) * m + 1) (P * Q) := by
  have c := Rat.natCast_le_natCast.mpr h.1
  have en := eps_big h.2.1
  have e := eps_big h.2.2
  have z : ((100 : Nat) : Rat) = 100 := rfl
  have z1 : ((1 : Nat) : Rat) = 1 := rfl
  rw [Rat.natCast_mul, z] at c
  rw [Rat.natCast_add, Rat.natCast_mul, Rat.natCast_mul, Rat.natCast_add, z1] at e
  obtain ⟨ax, xl, xh⟩ := hx
  obtain ⟨ay, yl, yh⟩ := hy
  have b := prod_near xl xh yl yh
  refine ⟨?_, by rw [Rat.natCast_mul]; exact b.1, by rw [Rat.natCast_mul]; exact b.2⟩
  rw [Rat.natCast_add, Rat.natCast_add, Rat.natCast_mul, Rat.natCast_mul, Rat.natCast_add, z1]
  have k : (P : Rat) * ((n : Rat) * eps) + ((Q : Rat) + 1) * ((m : Rat) * eps) = ((P : Rat) * (n : Rat) + ((Q : Rat) + 1) * (m : Rat)) * eps := by grind
  have g := mul_ap (P : Rat) ((Q : Rat) + 1) ax ay xl xh (by grind) (by grind) (by rw [k]; grind) (by rw [k]; grind)
  rw [k] at g
  exact g.wide (by grind)
theorem Nr.of {x : UInt64} {q r : Rat} {n P : Nat} (h : Ap x q (r * eps)) (hr : (n : Rat) = r) (lo : -(P : Rat) ≤ q) (hi : q ≤ (P : Rat)) : Nr x q n P := ⟨hr ▸ h, lo, hi⟩
theorem Nr.one {x : UInt64} {q : Rat} {P : Nat} (h : Ap x q eps) (lo : -(P : Rat) ≤ q) (hi : q ≤ (P : Rat)) : Nr x q 1 P := ⟨by rw [show ((1 : Nat) : Rat) = 1 from rfl, Rat.one_mul]; exact h, lo, hi⟩
theorem Nr.zero {x : UInt64} {q : Rat} {P : Nat} (h : Ap x q 0) (lo : -(P : Rat) ≤ q) (hi : q ≤ (P : Rat)) : Nr x q 0 P := ⟨by rw [show ((0 : Nat) : Rat) = 0 from rfl, Rat.zero_mul]; exact h, lo, hi⟩
/-- the value said otherwise, the bounds said anew -/
theorem Nr.out {x : UInt64} {q q' : Rat} {n P : Nat} (h : Nr x q n P) (hq : q = q') (hn : n ≤ 1000) : Ap x q' (1000 * eps) := by
  subst hq
  refine h.ap.wide ?_
  have c := Rat.natCast_le_natCast.mpr hn
  have z : ((1000 : Nat) : Rat) = 1000 := rfl
  rw [z] at c
  exact Rat.mul_le_mul_of_nonneg_right c eps_nn
theorem Nr.val {x : UInt64} {q q' : Rat} {n P Q : Nat} (h : Nr x q n P) (hq : q = q') (l : -(Q : Rat) ≤ q') (r : q' ≤ (Q : Rat)) : Nr x q' n Q := ⟨hq ▸ h.ap, l, r⟩
theorem rv_lt {x y : UInt64} : rv x < rv y ↔ val x < val y := by
  unfold rv
  constructor
  · intro h
    have := Rat.lt_of_mul_lt_mul_right h (Rat.le_of_lt kap_pos)
    exact Rat.intCast_lt_intCast.mp this
  · intro h
    exact Rat.mul_lt_mul_of_pos_right (Rat.intCast_lt_intCast.mpr h) kap_pos
theorem rv_eq {x y : UInt64} : rv x = rv y ↔ val x = val y := by
  constructor
  · intro h
    rcases Int.lt_trichotomy (val x) (val y) with h1 | h1 | h1
    · have := rv_lt.mpr h1; grind
    · exact h1
    · have := rv_lt.mpr h1; grind
  · intro h; unfold rv; rw [h]
theorem cmp_lt {x y : UInt64} (hx : Fin' x) (hy : Fin' y) : (cmp x y == some .lt) = decide (rv x < rv y) := by
  obtain ⟨a, m, e, hx⟩ := hx
  obtain ⟨b, k, f, hy⟩ := hy
  rw [cmp_right hx hy, Bool.eq_iff_iff]
  simp [rv_lt, Int.compare_eq_lt]
theorem cmp_eq {x y : UInt64} (hx : Fin' x) (hy : Fin' y) : (cmp x y == some .eq) = decide (rv x = rv y) := by
  obtain ⟨a, m, e, hx⟩ := hx
  obtain ⟨b, k, f, hy⟩ := hy
  rw [cmp_right hx hy, Bool.eq_iff_iff]
  simp [rv_eq]
theorem isZero_of {x : UInt64} (h : rv x ≠ 0) : isZero x = false := by
  have := rv_ne h
  unfold isZero
  split
  · rename_i a e hd
    exact absurd (by rw [val_eq hd]; unfold sgn; cases a <;> simp) this
  · rfl
theorem isZero_iff {x : UInt64} (hx : Fin' x) : isZero x = decide (val x = 0) := by
  obtain ⟨a, m, e, hd⟩ := hx
  have hv := val_natAbs hd
  have hp : 0 < 2 ^ (e + 1074).toNat := Nat.two_pow_pos _
  by_cases h : m = 0
  · subst h
    have : val x = 0 := by rw [Nat.zero_mul] at hv; omega
    rw [this]
    unfold isZero
    rw [hd]
    rfl
  · have : val x ≠ 0 := by
      intro h0
      rw [h0] at hv
      have := Nat.mul_pos (show 0 < m by omega) hp
      omega
    unfold isZero
    rw [hd]
    simp [this]
    split
    · rename_i h2
      cases h2
      exact absurd rfl h
    · rfl
/-- an exact number of 64ths -/
noncomputable def Ex (x : UInt64) (a : Int) : Prop := Fin' x ∧ val x = a * 2 ^ 1068
theorem kap_64 : (((2 : Int) ^ 1068 : Int) : Rat) * kap = 1 / 64 := by
  have h : ((2 ^ 1074 : Nat) : Rat) = 64 * (((2 : Int) ^ 1068 : Int) : Rat) := by
    have h1 : ((2 ^ 1074 : Nat) : Int) = 64 * (2 : Int) ^ 1068 := by decide +kernel
    have h2 : (((2 ^ 1074 : Nat) : Int) : Rat) = ((64 * (2 : Int) ^ 1068 : Int) : Rat) := by rw [h1]
    rw [Rat.intCast_mul] at h2
    exact h2
  have := kap_one
  rw [h] at this
  generalize (((2 : Int) ^ 1068 : Int) : Rat) = C at *
  grind
theorem Ex.rv {x : UInt64} {a : Int} (h : Ex x a) : rv x = (a : Rat) / 64 := by
  unfold Mine.rv
  rw [h.2, Rat.intCast_mul, Rat.mul_assoc, kap_64]
  grind
theorem Ex.ap {x : UInt64} {a : Int} (h : Ex x a) : Ap x ((a : Rat) / 64) 0 := ⟨h.1, by rw [h.rv]; grind, by rw [h.rv]; grind⟩
theorem cast_rng {a b c : Int} (h1 : a ≤ b) (h2 : b ≤ c) : (a : Rat) ≤ (b : Rat) ∧ (b : Rat) ≤ (c : Rat) := ⟨Rat.intCast_le_intCast.mpr h1, Rat.intCast_le_intCast.mpr h2⟩
theorem natAbs_ex (a : Int) : (a * 2 ^ 1068 : Int).natAbs = a.natAbs * 2 ^ 1068 := by rw [Int.natAbs_mul]; congr 1
theorem Ex.sub {x y : UInt64} {a b : Int} (hx : Ex x a) (hy : Ex y b) (h1 : -4096 ≤ a - b) (h2 : a - b ≤ 4096) : Ex (Float64.sub x y) (a - b) := by
  have hr := cast_rng h1 h2
  have e1 : ((-4096 : Int) : Rat) = -4096 := rfl
  have e2 : ((4096 : Int) : Rat) = 4096 := rfl
  rw [Rat.intCast_sub, e1, e2] at hr
  obtain ⟨q, r⟩ := sub_rv hx.1 hy.1 (by rw [hx.rv, hy.rv]; grind) (by rw [hx.rv, hy.rv]; grind)
  have hs : val x - val y = (a - b) * 2 ^ 1068 := by rw [hx.2, hy.2, Int.sub_mul]
  refine ⟨q.fin, ?_⟩
  rw [r (a - b).natAbs 1068 (by omega) (by rw [hs]; exact natAbs_ex _), hs]
theorem Ex.add {x y : UInt64} {a b : Int} (hx : Ex x a) (hy : Ex y b) (h1 : -4096 ≤ a + b) (h2 : a + b ≤ 4096) : Ex (Float64.add x y) (a + b) := by
  have hr := cast_rng h1 h2
  have e1 : ((-4096 : Int) : Rat) = -4096 := rfl
  have e2 : ((4096 : Int) : Rat) = 4096 := rfl
  rw [Rat.intCast_add, e1, e2] at hr
  obtain ⟨q, r⟩ := add_rv hx.1 hy.1 (by rw [hx.rv, hy.rv]; grind) (by rw [hx.rv, hy.rv]; grind)
  have hs : val x + val y = (a + b) * 2 ^ 1068 := by rw [hx.2, hy.2, Int.add_mul]
  refine ⟨q.fin, ?_⟩
  rw [r (a + b).natAbs 1068 (by omega) (by rw [hs]; exact natAbs_ex _), hs]
/-- a written number -/
theorem ap_lit {x : UInt64} {n d : Int} (hf : isFinite x = true) (hd : 0 < d) (h1 : n * 2 ^ 1074 - d * 2 ^ 1028 ≤ d * val x) (h2 : d * val x ≤ n * 2 ^ 1074 + d * 2 ^ 1028) : Ap x ((n : Rat) / (d : Rat)) eps := by
  have c1 := Rat.intCast_le_intCast.mpr h1
  have c2 := Rat.intCast_le_intCast.mpr h2
  have hdR : (0 : Rat) < (d : Rat) := Rat.intCast_pos.mpr hd
  simp only [Rat.intCast_sub, Rat.intCast_add, Rat.intCast_mul] at c1 c2
  have e1 : (((2 : Int) ^ 1074 : Int) : Rat) = ((2 ^ 1074 : Nat) : Rat) := rfl
  have e2 : (((2 : Int) ^ 1028 : Int) : Rat) = ((2 ^ 1028 : Nat) : Rat) := rfl
  rw [e1, e2] at c1 c2
  have k1 := kap_one
  have k2 := kap_eps
  have kp := kap_pos
  generalize ((2 ^ 1074 : Nat) : Rat) = A at *
  generalize ((2 ^ 1028 : Nat) : Rat) = B at *
  have m1 := Rat.mul_le_mul_of_nonneg_right c1 (Rat.le_of_lt kp)
  have m2 := Rat.mul_le_mul_of_nonneg_right c2 (Rat.le_of_lt kp)
  have q1 : (n : Rat) / (d : Rat) * (d : Rat) = (n : Rat) := Rat.div_mul_cancel (by grind)
  generalize (n : Rat) / (d : Rat) = q at *
  have x1 : ((n : Rat) * A - (d : Rat) * B) * kap = (d : Rat) * (q - eps) := by rw [← k2]; grind
  have x2 : ((n : Rat) * A + (d : Rat) * B) * kap = (d : Rat) * (q + eps) := by rw [← k2]; grind
  rw [x1] at m1
  rw [x2] at m2
  unfold Mine.rv at *
  exact ⟨fin_of hf, le_of_pos_mul (by show _ ≤ (d : Rat) * ((val x : Rat) * kap); grind) hdR, le_of_pos_mul (by show (d : Rat) * ((val x : Rat) * kap) ≤ _; grind) hdR⟩
theorem ex_of {x : UInt64} {a : Int} (h : (isFinite x && decide (val x = a * 2 ^ 1068)) = true) : Ex x a := by
  simp only [Bool.and_eq_true, decide_eq_true_eq] at h
  exact ⟨fin_of h.1, h.2⟩
theorem ex_one : Ex 4607182418800017408 64 := ex_of (by decide +kernel)
theorem ex_half : Ex 4602678819172646912 32 := ex_of (by decide +kernel)
theorem ex_two : Ex 4611686018427387904 128 := ex_of (by decide +kernel)
theorem ex_four : Ex 4616189618054758400 256 := ex_of (by decide +kernel)
theorem ex_six : Ex 4618441417868443648 384 := ex_of (by decide +kernel)
theorem ap_sixth : Ap 4595172819793696085 (1 / 6) eps := ap_lit (n := 1) (d := 6) (by decide +kernel) (by decide) (by decide +kernel) (by decide +kernel)
theorem ap_third : Ap 4599676419421066581 (1 / 3) eps := ap_lit (n := 1) (d := 3) (by decide +kernel) (by decide) (by decide +kernel) (by decide +kernel)
theorem ap_thirds : Ap 4604180019048437077 (2 / 3) eps := ap_lit (n := 2) (d := 3) (by decide +kernel) (by decide) (by decide +kernel) (by decide +kernel)
theorem ex_fl_all : ∀ k : Fin 65, (isFinite (fl (k.val : Int)) && decide (val (fl (k.val : Int)) = (k.val : Int) * 2 ^ 1068)) = true := by decide +kernel
theorem ex_fl {k : Int} (h0 : 0 ≤ k) (h1 : k ≤ 64) : Ex (fl k) k := by
  have := ex_fl_all ⟨k.toNat, by omega⟩
  have e : ((k.toNat : Nat) : Int) = k := by omega
  simp only [e] at this
  exact ex_of this
theorem ofInt_rv {i : Int} (h0 : -100 ≤ i) (h1 : i ≤ 100) : Fin' (ofInt i) ∧ rv (ofInt i) = (i : Rat) := by
  have hr := cast_rng h0 h1
  have e1 : ((-100 : Int) : Rat) = -100 := rfl
  have e2 : ((100 : Int) : Rat) = 100 := rfl
  rw [e1, e2] at hr
  have hone := kap_one
  have hq : ((1 : Nat) : Rat) * (i : Rat) = ((sgn (decide (i < 0)) (i.natAbs * 2 ^ 1074) : Int) : Rat) * kap := by
    rw [sgn_mul, sgn_self, Rat.intCast_mul]
    have e3 : (((2 ^ 1074 : Nat) : Int) : Rat) = ((2 ^ 1074 : Nat) : Rat) := rfl
    have e4 : ((1 : Nat) : Rat) = 1 := rfl
    rw [e3, e4, Rat.mul_assoc, hone, Rat.one_mul, Rat.mul_one]
  obtain ⟨f1, f2, f3, f4⟩ := right_rv (ofInt_right i) (by decide) hq (by grind) (by grind)
  refine ⟨f1, ?_⟩
  unfold Mine.rv
  rw [f4 i.natAbs 1074 (by omega) (by rw [Nat.one_mul]), sgn_mul, sgn_self, Rat.intCast_mul]
  have e3 : (((2 ^ 1074 : Nat) : Int) : Rat) = ((2 ^ 1074 : Nat) : Rat) := rfl
  rw [e3, Rat.mul_assoc, hone, Rat.mul_one]
end
section
set_option maxRecDepth 100000
open PySem PySem.Float64
theorem decode_lt {x : UInt64} {a : Bool} {m : Nat} {e : Int} (h : decode x = .fin a m e) : m < 2 ^ 53 := by
  unfold decode at h
  simp only at h
  have := Nat.mod_lt x.toNat (show 0 < 2 ^ 52 by decide)
  split at h
  · split at h <;> cases h
  · split at h
    · cases h; omega
    · cases h; omega
theorem ofBin_right {neg : Bool} {j : Nat} {g : Int} (hg : -1074 ≤ g) : Right (ofBin neg j g) neg (j * 2 ^ (g + 1074).toNat) 1 := by
  unfold ofBin
  refine ofFrac_right (shift_pos _ _ _ (by decide)) ?_ (by decide)
  have := shift_one j g 1074 (by omega)
  rw [Nat.mul_one]
  exact this
theorem ofBin_exact {neg : Bool} {j : Nat} {g : Int} (hg : -1074 ≤ g) (hj : j ≤ 2 ^ 53) (hb : j * 2 ^ (g + 1074).toNat ≤ 2 ^ 1081) : Fin' (ofBin neg j g) ∧ val (ofBin neg j g) = sgn neg (j * 2 ^ (g + 1074).toNat) := by
  obtain ⟨v, f, hv, _, _, hx⟩ := right_round (ofBin_right (neg := neg) (j := j) hg) (by decide) (by rw [Nat.one_mul]; exact hb)
  exact ⟨f, by rw [hv, hx j _ hj (by rw [Nat.one_mul])]⟩
theorem decode_one : decode 4607182418800017408 = .fin false (2 ^ 52) (-52) := by with_unfolding_all rfl
theorem fmod_one {x : UInt64} {a : Bool} {m : Nat} {e : Int} (hx : decode x = .fin a m e) : Fin' (fmod x 4607182418800017408) ∧ val (fmod x 4607182418800017408) = sgn a ((val x).natAbs % 2 ^ 1074) := by
  have he := decode_ge hx
  have hm := decode_lt hx
  have hf : fmod x 4607182418800017408 = ofBin a ((m * 2 ^ (e - min e (-52)).toNat) % (2 ^ 52 * 2 ^ (-52 - min e (-52)).toNat)) (min e (-52)) := by
    unfold fmod
    rw [hx, decode_one]
    rfl
  have hv := val_natAbs hx
  have hmod : (m * 2 ^ (e - min e (-52)).toNat) % (2 ^ 52 * 2 ^ (-52 - min e (-52)).toNat) * 2 ^ (min e (-52) + 1074).toNat = (val x).natAbs % 2 ^ 1074 := by
    rw [hv, ← Nat.mul_mod_mul_right, Nat.mul_assoc, Nat.mul_assoc, ← Nat.pow_add, ← Nat.pow_add, ← Nat.pow_add]
    congr 3
    · omega
    · omega
  have hlt : (val x).natAbs % 2 ^ 1074 < 2 ^ 1074 := Nat.mod_lt _ (Nat.two_pow_pos _)
  rw [hf]
  have := ofBin_exact (neg := a) (j := (m * 2 ^ (e - min e (-52)).toNat) % (2 ^ 52 * 2 ^ (-52 - min e (-52)).toNat)) (g := min e (-52)) (by omega) ?_ ?_
  · rw [hmod] at this; exact this
  · by_cases h : e ≤ -52
    · have e1 : (e - min e (-52)).toNat = 0 := by omega
      rw [e1]
      refine Nat.le_trans (Nat.mod_le _ _) ?_
      omega
    · have e1 : (-52 - min e (-52)).toNat = 0 := by omega
      rw [e1]
      refine Nat.le_of_lt (Nat.lt_of_lt_of_le (Nat.mod_lt _ (by decide)) (by decide))
  · rw [hmod]
    exact Nat.le_trans (Nat.le_of_lt hlt) (Nat.pow_le_pow_right (by decide) (by decide))
theorem lt_one_zero : lt 4607182418800017408 (zero false) = false := by decide +kernel
theorem cs_zero : copysign (zero false) 4607182418800017408 = zero false := by decide +kernel
theorem rv_zero : Fin' (zero false) ∧ rv (zero false) = 0 := by
  have := val_zero false
  exact ⟨this.1, by unfold rv; rw [this.2]; exact Rat.zero_mul _⟩
theorem divmod_one {x : UInt64} (hf : Fin' (fmod x 4607182418800017408)) : (divmod x 4607182418800017408).2 =
    if val (fmod x 4607182418800017408) = 0 then zero false else if val (fmod x 4607182418800017408) < 0 then add (fmod x 4607182418800017408) 4607182418800017408 else fmod x 4607182418800017408 := by
  have hz := isZero_iff hf
  have hl : lt (fmod x 4607182418800017408) (zero false) = decide (val (fmod x 4607182418800017408) < 0) := by
    have h := cmp_lt hf rv_zero.1
    unfold lt
    rw [h]
    have := @rv_lt (fmod x 4607182418800017408) (zero false)
    rw [(val_zero false).2] at this
    exact decide_eq_decide.mpr this
  unfold divmod
  simp only [hz, hl, lt_one_zero, cs_zero, decide_eq_true_eq]
  by_cases h0 : val (fmod x 4607182418800017408) = 0
  · simp only [h0, if_true]
  · by_cases h1 : val (fmod x 4607182418800017408) < 0
    · simp [h0, h1]
    · simp [h0, h1]
theorem mod1 {x : UInt64} (hx : Fin' x) : ∃ n : Int, (n : Rat) ≤ rv x ∧ rv x < (n : Rat) + 1 ∧ Ap (divmod x 4607182418800017408).2 (rv x - (n : Rat)) eps ∧ (0 ≤ rv x → rv (divmod x 4607182418800017408).2 = rv x - (n : Rat)) := by
  obtain ⟨a, m, e, hd⟩ := hx
  obtain ⟨hf, hv⟩ := fmod_one hd
  have hs := val_sgn hd
  have hq := Nat.div_add_mod (val x).natAbs (2 ^ 1074)
  have hlt : (val x).natAbs % 2 ^ 1074 < 2 ^ 1074 := Nat.mod_lt _ (Nat.two_pow_pos _)
  generalize hqq : (val x).natAbs / 2 ^ 1074 = q at *
  generalize hrr : (val x).natAbs % 2 ^ 1074 = r at *
  rw [divmod_one hf, hv]
  have hone := kap_one
  have hrvx : rv x = ((sgn a (val x).natAbs : Int) : Rat) * kap := by rw [← hs]; rfl
  have hN : (((val x).natAbs : Nat) : Rat) * kap = (q : Rat) + (r : Rat) * kap := by
    rw [← hq, Rat.natCast_add, Rat.natCast_mul]
    generalize ((2 ^ 1074 : Nat) : Rat) = C at *
    calc (C * (q : Rat) + (r : Rat)) * kap = (C * kap) * (q : Rat) + (r : Rat) * kap := by grind
      _ = _ := by rw [hone, Rat.one_mul]
  have hr1 : (r : Rat) * kap < 1 := by
    rw [← hone]
    exact Rat.mul_lt_mul_of_pos_right (Rat.natCast_lt_natCast.mpr hlt) kap_pos
  have hr0 : 0 ≤ (r : Rat) * kap := Rat.mul_nonneg Rat.natCast_nonneg (Rat.le_of_lt kap_pos)
  have heps : (0 : Rat) < eps := by unfold eps; decide +kernel
  have hrf : rv (fmod x 4607182418800017408) = ((sgn a r : Int) : Rat) * kap := by rw [← hv]; rfl
  by_cases hr : r = 0
  · subst hr
    have : sgn a 0 = 0 := by cases a <;> rfl
    rw [this, if_pos rfl]
    have z : ((0 : Nat) : Rat) * kap = 0 := Rat.zero_mul _
    rw [z] at hN
    refine ⟨sgn a q, ?_⟩
    have hx2 : rv x = ((sgn a q : Int) : Rat) := by
      rw [hrvx]
      cases a
      · rw [sgn_f, sgn_f, hN]; grind
      · rw [sgn_t, sgn_t]; grind
    rw [hx2]
    refine ⟨Rat.le_refl, by grind, ⟨rv_zero.1, by rw [rv_zero.2]; grind, by rw [rv_zero.2]; grind⟩, fun _ => by rw [rv_zero.2]; grind⟩
  · have hrp : 0 < (r : Rat) * kap := Rat.mul_pos (Rat.natCast_pos.mpr (by omega)) kap_pos
    cases a
    · have e1 : ¬ sgn false r = 0 := by unfold sgn; simp; omega
      have e2 : ¬ sgn false r < 0 := by unfold sgn; simp
      rw [if_neg e1, if_neg e2]
      rw [sgn_f] at hrvx hrf
      refine ⟨(q : Int), ?_⟩
      have e3 : ((q : Int) : Rat) = (q : Rat) := rfl
      rw [e3, hrvx, hN]
      refine ⟨by grind, by grind, ⟨hf, by rw [hrf]; grind, by rw [hrf]; grind⟩, fun _ => by rw [hrf]; grind⟩
    · have e1 : ¬ sgn true r = 0 := by unfold sgn; simp; omega
      have e2 : sgn true r < 0 := by unfold sgn; simp; omega
      rw [if_neg e1, if_pos e2]
      rw [sgn_t] at hrvx hrf
      refine ⟨-(q : Int) - 1, ?_⟩
      have e3 : ((-(q : Int) - 1 : Int) : Rat) = -(q : Rat) - 1 := by rw [Rat.intCast_sub, Rat.intCast_neg]; rfl
      have hx2 : rv x = -(q : Rat) - (r : Rat) * kap := by rw [hrvx]; grind
      have o := ex_one.rv
      have o2 : rv 4607182418800017408 = 1 := by rw [o]; decide +kernel
      obtain ⟨⟨f1, f2, f3⟩, _⟩ := add_rv hf ex_one.1 (by rw [hrf, o2]; grind) (by rw [hrf, o2]; grind)
      rw [hrf, o2] at f2 f3
      have hq0 : (0 : Rat) ≤ (q : Rat) := Rat.natCast_nonneg
      rw [e3, hx2]
      exact ⟨by grind, by grind, ⟨f1, by grind, by grind⟩, fun h => by grind⟩
theorem rv_frac {x : UInt64} {a : Bool} {m : Nat} {e : Int} (h : decode x = .fin a m e) : ((shift m 1 e).2 : Rat) * rv x = ((sgn a (shift m 1 e).1 : Int) : Rat) ∧ 0 < (shift m 1 e).2 := by
  have he := decode_ge h
  have hs : (shift m 1 e).1 * 2 ^ 1074 = m * 2 ^ (e + 1074).toNat * (shift m 1 e).2 := shift_one m e 1074 (by omega)
  have hp := shift_pos m 1 e (by decide)
  have hv := val_natAbs h
  rw [← hv] at hs
  generalize (shift m 1 e).1 = n at *
  generalize (shift m 1 e).2 = d at *
  have hR : ((n * 2 ^ 1074 : Nat) : Rat) = (((val x).natAbs * d : Nat) : Rat) := by rw [hs]
  rw [Rat.natCast_mul, Rat.natCast_mul] at hR
  have hone := kap_one
  refine ⟨?_, hp⟩
  have hrvx : rv x = ((sgn a (val x).natAbs : Int) : Rat) * kap := by rw [← val_sgn h]; rfl
  rw [hrvx]
  generalize ((2 ^ 1074 : Nat) : Rat) = C at *
  have key : (d : Rat) * ((((val x).natAbs : Nat) : Rat) * kap) = (n : Rat) := by
    calc (d : Rat) * ((((val x).natAbs : Nat) : Rat) * kap) = ((((val x).natAbs : Nat) : Rat) * (d : Rat)) * kap := by grind
      _ = (n : Rat) * C * kap := by rw [← hR]
      _ = (n : Rat) * (C * kap) := by grind
      _ = (n : Rat) := by rw [hone, Rat.mul_one]
  cases a
  · rw [sgn_f, sgn_f]; exact key
  · rw [sgn_t, sgn_t]; grind
theorem floor_nn (m : Nat) (e : Int) : floorOf false m e = ((shift m 1 e).1 / (shift m 1 e).2 : Nat) := by
  unfold floorOf shift
  by_cases h : e ≥ 0
  · rw [if_pos h, if_pos h]
    simp [sgn]
  · rw [if_neg h, if_neg h]
    rw [Int.fdiv_eq_ediv_of_nonneg _ (Int.le_of_lt (by exact Int.pow_pos (by decide)))]
    simp [sgn]
theorem trunc_rv {x : UInt64} (hx : Fin' x) (h0 : 0 ≤ rv x) : ((Flt.toInt truncOf x : Int) : Rat) ≤ rv x ∧ rv x < ((Flt.toInt truncOf x : Int) : Rat) + 1 ∧ 0 ≤ Flt.toInt truncOf x := by
  obtain ⟨a, m, e, hd⟩ := hx
  obtain ⟨hr, hp⟩ := rv_frac hd
  rw [Flt.toInt_fin hd]
  have hpR : (0 : Rat) < ((shift m 1 e).2 : Rat) := Rat.natCast_pos.mpr hp
  have fl0 := floor_nn m e
  have hn : a = true → (shift m 1 e).1 = 0 ∧ m = 0 := by
    intro h
    subst h
    rw [sgn_t] at hr
    have := Rat.mul_nonneg (Rat.le_of_lt hpR) h0
    have h2 : (0 : Rat) ≤ ((shift m 1 e).1 : Rat) := Rat.natCast_nonneg
    have h3 : ((shift m 1 e).1 : Rat) = ((0 : Nat) : Rat) := by
      have : ((0 : Nat) : Rat) = 0 := rfl
      grind
    have h4 := Rat.natCast_inj.mp h3
    refine ⟨h4, ?_⟩
    unfold shift at h4
    split at h4
    · rcases Nat.mul_eq_zero.mp h4 with h | h
      · exact h
      · exact absurd h (Nat.ne_of_gt (Nat.two_pow_pos _))
    · exact h4
  cases a
  · show ((floorOf false m e : Int) : Rat) ≤ _ ∧ _
    rw [show truncOf false m e = floorOf false m e from rfl, fl0]
    rw [sgn_f] at hr
    generalize (shift m 1 e).1 = n at *
    generalize (shift m 1 e).2 = d at *
    have h1 := Nat.div_add_mod n d
    have h2 := Nat.mod_lt n hp
    generalize n / d = q at *
    generalize n % d = r at *
    have e1 : (((q : Nat) : Int) : Rat) = (q : Rat) := rfl
    have e2 : (n : Rat) = (d : Rat) * (q : Rat) + (r : Rat) := by rw [← h1, Rat.natCast_add, Rat.natCast_mul]
    have e3 : (r : Rat) < (d : Rat) := Rat.natCast_lt_natCast.mpr h2
    have e4 : (0 : Rat) ≤ (r : Rat) := Rat.natCast_nonneg
    rw [e1]
    refine ⟨le_of_pos_mul (c := (d : Rat)) (by grind) hpR, ?_, by omega⟩
    exact Rat.lt_of_mul_lt_mul_left (show (d : Rat) * rv x < (d : Rat) * ((q : Rat) + 1) by rw [Rat.mul_add]; grind) (Rat.le_of_lt hpR)
  · obtain ⟨h1, h2⟩ := hn rfl
    rw [h1] at hr
    rw [sgn_t] at hr
    have h3 : rv x = 0 := by
      have z : ((0 : Nat) : Rat) = 0 := rfl
      rw [z] at hr
      refine Rat.le_antisymm (le_of_pos_mul (c := ((shift m 1 e).2 : Rat)) (by grind) hpR) h0
    have h4 : truncOf true m e = 0 := by
      show ceilOf true m e = 0
      unfold ceilOf
      rw [show (!true) = false from rfl, fl0, h1, Nat.zero_div]
      rfl
    rw [h4, h3]
    exact ⟨by decide +kernel, by decide +kernel, by decide⟩
theorem near_only {N d k : Nat} (hd : 0 < d) (h : 2 * dist N (d * k) < d) : halfEven N d = k := by
  have hn := halfEven_nearest N d hd k
  generalize halfEven N d = t at *
  have h1 : d * t < d * (k + 1) ∧ d * k < d * (t + 1) := by
    rw [Nat.mul_add, Nat.mul_add, Nat.mul_one]
    unfold dist at *
    generalize d * t = u at *
    generalize d * k = v at *
    omega
  exact Nat.le_antisymm (Nat.le_of_lt_succ (Nat.lt_of_mul_lt_mul_left h1.1)) (Nat.le_of_lt_succ (Nat.lt_of_mul_lt_mul_left h1.2))
theorem near_cast {d S k : Int} {q : Rat} (hd : 0 < d) (hr : (d : Rat) * q = (S : Rat)) : ((k : Rat) - 1 / 2 < q → 2 * (d * k) - d < 2 * S) ∧ (q < (k : Rat) + 1 / 2 → 2 * S < 2 * (d * k) + d) := by
  have hp := Rat.intCast_pos.mpr hd
  have e2 : ((2 : Int) : Rat) = 2 := rfl
  constructor <;> intro h <;> have m := Rat.mul_lt_mul_of_pos_left h hp <;> rw [hr] at m <;>
    (rw [← Rat.intCast_lt_intCast]; simp only [Rat.intCast_add, Rat.intCast_sub, Rat.intCast_mul, e2]; clear hr h hp; grind)
theorem nearest_rv {x : UInt64} {n : Int} (hx : Fin' x) (h0 : 0 ≤ n) (h1 : (n : Rat) - 1 / 2 < rv x) (h2 : rv x < (n : Rat) + 1 / 2) : Flt.toInt nearestOf x = n := by
  obtain ⟨a, m, e, hd⟩ := hx
  obtain ⟨hr, hp⟩ := rv_frac hd
  rw [Flt.toInt_fin hd]
  show sgn a (halfEven (shift m 1 e).1 (shift m 1 e).2) = n
  obtain ⟨k, rfl⟩ := Int.eq_ofNat_of_zero_le h0
  generalize (shift m 1 e).1 = N at *
  generalize (shift m 1 e).2 = d at *
  obtain ⟨c1, c2⟩ := near_cast (d := (d : Int)) (k := (k : Int)) (Int.natCast_pos.mpr hp) hr
  have c1 := c1 h1
  have c2 := c2 h2
  rw [← Int.natCast_mul] at c1 c2
  clear h1 h2 hr hd h0
  cases a
  · exact congrArg Int.ofNat (near_only hp (by unfold dist; change _ < 2 * (N : Int) at c1; change 2 * (N : Int) < _ at c2; omega))
  · change _ < 2 * -(N : Int) at c1
    clear c2
    rcases Nat.eq_zero_or_pos k with rfl | hk
    · rw [near_only (k := 0) hp (by unfold dist; omega)]; rfl
    · have := Nat.mul_le_mul_left d hk
      omega
end
section
section
open PySem PySem.Float64
theorem eps_pos : (0 : Rat) < eps := by unfold eps; decide +kernel
theorem eps_small : eps ≤ 1 / 1000000000 := by unfold eps; decide +kernel
theorem div64_lt {a b : Int} : (a : Rat) / 64 < (b : Rat) / 64 ↔ a < b := by
  rw [← Rat.intCast_lt_intCast (a := a) (b := b)]
  constructor <;> intro h <;> grind
theorem div64_eq {a b : Int} : (a : Rat) / 64 = (b : Rat) / 64 ↔ a = b := by
  rw [← Rat.intCast_inj (a := a) (b := b)]
  constructor <;> intro h <;> grind
theorem Ex.lt {x y : UInt64} {a b : Int} (hx : Ex x a) (hy : Ex y b) : (Float64.cmp x y == some .lt) = decide (a < b) := by
  rw [cmp_lt hx.1 hy.1, hx.rv, hy.rv]; exact decide_eq_decide.mpr div64_lt
theorem Ex.eq {x y : UInt64} {a b : Int} (hx : Ex x a) (hy : Ex y b) : (Float64.cmp x y == some .eq) = decide (a = b) := by
  rw [cmp_eq hx.1 hy.1, hx.rv, hy.rv]; exact decide_eq_decide.mpr div64_eq
noncomputable def maxI (a b c : Int) : Int := if (if a < b then b else a) < c then c else (if a < b then b else a)
noncomputable def minI (a b c : Int) : Int := if c < (if b < a then b else a) then c else (if b < a then b else a)
theorem max3_ex {x y z : UInt64} {a b c : Int} (hx : Ex x a) (hy : Ex y b) (hz : Ex z c) : Ex (max3 x y z) (maxI a b c) := by
  unfold max3 maxI
  rw [hx.lt hy]
  by_cases h1 : a < b
  · simp only [h1, decide_true, if_true]
    rw [hy.lt hz]
    by_cases h2 : b < c <;> simp only [h2, decide_true, decide_false, if_true, if_false, Bool.false_eq_true] <;> assumption
  · simp only [h1, decide_false, if_false, Bool.false_eq_true]
    rw [hx.lt hz]
    by_cases h2 : a < c <;> simp only [h2, decide_true, decide_false, if_true, if_false, Bool.false_eq_true] <;> assumption
theorem min3_ex {x y z : UInt64} {a b c : Int} (hx : Ex x a) (hy : Ex y b) (hz : Ex z c) : Ex (min3 x y z) (minI a b c) := by
  unfold min3 minI
  rw [hy.lt hx]
  by_cases h1 : b < a
  · simp only [h1, decide_true, if_true]
    rw [hz.lt hy]
    by_cases h2 : c < b <;> simp only [h2, decide_true, decide_false, if_true, if_false, Bool.false_eq_true] <;> assumption
  · simp only [h1, decide_false, if_false, Bool.false_eq_true]
    rw [hz.lt hx]
    by_cases h2 : c < a <;> simp only [h2, decide_true, decide_false, if_true, if_false, Bool.false_eq_true] <;> assumption
theorem ratio_ap {x y : UInt64} {k n : Int} (hx : Ex x k) (hy : Ex y n) (h0 : 0 ≤ k) (h1 : k ≤ n) (hn : 0 < n) :
    ∃ q : Rat, Ap (div x y) q eps ∧ (n : Rat) * q = (k : Rat) ∧ 0 ≤ q ∧ q ≤ 1 := by
  have hnR : (0 : Rat) < (n : Rat) := Rat.intCast_pos.mpr hn
  have h0R : (0 : Rat) ≤ (k : Rat) := Rat.intCast_nonneg.mpr h0
  have h1R : (k : Rat) ≤ (n : Rat) := Rat.intCast_le_intCast.mpr h1
  have hq : (k : Rat) / (n : Rat) * (n : Rat) = (k : Rat) := Rat.div_mul_cancel (by grind)
  generalize (k : Rat) / (n : Rat) = q at hq
  have hq0 : 0 ≤ q := le_of_pos_mul (c := (n : Rat)) (by grind) hnR
  have hq1 : q ≤ 1 := le_of_pos_mul (c := (n : Rat)) (by grind) hnR
  refine ⟨q, (div_rv hx.1 hy.1 (by rw [hy.rv]; grind) (q := q) (by rw [hx.rv, hy.rv]; grind) (by grind) (by grind)).1, by grind, hq0, hq1⟩
theorem rv_self_sub {x : UInt64} (hx : Fin' x) : Ap (sub x x) 0 0 := by
  obtain ⟨q, r⟩ := sub_rv hx hx (by grind) (by grind)
  have h := r 0 0 (by decide) (by omega)
  have : rv (sub x x) = 0 := by unfold rv; rw [h, Int.sub_self]; exact Rat.zero_mul _
  exact ⟨q.fin, by grind, by grind⟩
theorem div_zero {x y : UInt64} (hx : Fin' x) (hy : Fin' y) (hn : rv y ≠ 0) (h : rv x = 0) : Ap (div x y) 0 0 := by
  have hv : val x = 0 := by
    rw [← rv_zero.2] at h
    have := rv_eq.mp h
    rw [(val_zero false).2] at this
    exact this
  obtain ⟨q, r⟩ := div_rv hx hy hn (q := 0) (by rw [h]; grind) (by grind) (by grind)
  have h2 := r 0 0 (by decide) (by rw [hv]; simp)
  have h3 : val (div x y) = 0 := by omega
  have : rv (div x y) = 0 := by unfold rv; rw [h3]; exact Rat.zero_mul _
  exact ⟨q.fin, by grind, by grind⟩
noncomputable def numI (a b c : Int) : Int := if a = maxI a b c then b - c else if b = maxI a b c then 2 * (maxI a b c - minI a b c) + c - a else 4 * (maxI a b c - minI a b c) + a - b
noncomputable def preF (r g b : UInt64) : UInt64 :=
    (if (Float64.cmp r (max3 r g b) == some .eq) = true then
      Float64.sub (Float64.div (Float64.sub (max3 r g b) b) (Float64.sub (max3 r g b) (min3 r g b))) (Float64.div (Float64.sub (max3 r g b) g) (Float64.sub (max3 r g b) (min3 r g b)))
    else if (Float64.cmp g (max3 r g b) == some .eq) = true then
      Float64.sub (Float64.add 4611686018427387904 (Float64.div (Float64.sub (max3 r g b) r) (Float64.sub (max3 r g b) (min3 r g b)))) (Float64.div (Float64.sub (max3 r g b) b) (Float64.sub (max3 r g b) (min3 r g b)))
    else
      Float64.sub (Float64.add 4616189618054758400 (Float64.div (Float64.sub (max3 r g b) g) (Float64.sub (max3 r g b) (min3 r g b)))) (Float64.div (Float64.sub (max3 r g b) r) (Float64.sub (max3 r g b) (min3 r g b))))
theorem hueF_eq (r g b : UInt64) : hueF r g b = (Float64.divmod (Float64.div (preF r g b) 4618441417868443648) 4607182418800017408).2 := rfl
theorem max_fact {a b c : Int} : a ≤ maxI a b c ∧ b ≤ maxI a b c ∧ c ≤ maxI a b c ∧ (maxI a b c = a ∨ maxI a b c = b ∨ maxI a b c = c) := by
  unfold maxI; split <;> split <;> omega
theorem min_fact {a b c : Int} : minI a b c ≤ a ∧ minI a b c ≤ b ∧ minI a b c ≤ c ∧ (minI a b c = a ∨ minI a b c = b ∨ minI a b c = c) := by
  unfold minI; split <;> split <;> omega
theorem mm_bounds {a b c : Int} : a ≤ maxI a b c ∧ b ≤ maxI a b c ∧ c ≤ maxI a b c ∧ minI a b c ≤ a ∧ minI a b c ≤ b ∧ minI a b c ≤ c :=
  ⟨max_fact.1, max_fact.2.1, max_fact.2.2.1, min_fact.1, min_fact.2.1, min_fact.2.2.1⟩
theorem mm_one {a b c : Int} : (maxI a b c = a ∨ maxI a b c = b ∨ maxI a b c = c) ∧ (minI a b c = a ∨ minI a b c = b ∨ minI a b c = c) := ⟨max_fact.2.2.2, min_fact.2.2.2⟩
theorem pre_ap {r g b : UInt64} {x y z : Int} (hr : Ex r x) (hg : Ex g y) (hb : Ex b z) (hx : 0 ≤ x ∧ x ≤ 64) (hy : 0 ≤ y ∧ y ≤ 64) (hz : 0 ≤ z ∧ z ≤ 64) (hn : minI x y z < maxI x y z) (hgb : y = z → g = b) :
    ∃ q : Rat, Ap (preF r g b) q (4 * eps) ∧ ((maxI x y z - minI x y z : Int) : Rat) * q = (numI x y z : Rat) ∧ (numI x y z = 0 → rv (preF r g b) = 0) := by
  have hM := max3_ex hr hg hb
  have hm := min3_ex hr hg hb
  have hB := @mm_bounds x y z
  have hO := @mm_one x y z
  have he := eps_pos
  have hes := eps_small
  unfold preF
  unfold numI
  rw [hr.eq hM, hg.eq hM]
  generalize maxI x y z = M at *
  generalize minI x y z = m at *
  have hD := hM.sub hm (by omega) (by omega)
  obtain ⟨qr, ar, er, r0, r1⟩ := ratio_ap (hM.sub hr (by omega) (by omega)) hD (by omega) (by omega) (by omega)
  obtain ⟨qg, ag, eg, g0, g1⟩ := ratio_ap (hM.sub hg (by omega) (by omega)) hD (by omega) (by omega) (by omega)
  obtain ⟨qb, ab, eb, b0, b1⟩ := ratio_ap (hM.sub hb (by omega) (by omega)) hD (by omega) (by omega) (by omega)
  have two : Ap 4611686018427387904 2 0 := ex_two.ap.at (by decide +kernel)
  have four : Ap 4616189618054758400 4 0 := ex_four.ap.at (by decide +kernel)
  by_cases h1 : x = M
  · simp only [h1, decide_true, if_true]
    rw [← h1]
    by_cases hyz : y = z
    · have hgb' := hgb hyz
      subst hgb'
      refine ⟨qb - qg, (sub_ap ab ag (by grind) (by grind)).wide (by grind), ?_, ?_⟩
      · simp only [Rat.intCast_sub] at *
        grind
      · intro _
        have := rv_self_sub ag.fin
        have h1 := this.lo
        have h2 := this.hi
        grind
    · refine ⟨qb - qg, (sub_ap ab ag (by grind) (by grind)).wide (by grind), ?_, fun h => by omega⟩
      simp only [Rat.intCast_sub] at *
      grind
  · simp only [h1, decide_false, if_false, Bool.false_eq_true]
    by_cases h2 : y = M
    · simp only [h2, decide_true, if_true]
      refine ⟨2 + qr - qb, (sub_ap (add_ap two ar (by grind) (by grind)) ab (by grind) (by grind)).wide (by grind), ?_, fun h => by omega⟩
      simp only [Rat.intCast_sub, Rat.intCast_add, Rat.intCast_mul] at *
      have e2 : ((2 : Int) : Rat) = 2 := rfl
      rw [e2]
      grind
    · simp only [h2, decide_false, if_false, Bool.false_eq_true]
      refine ⟨4 + qg - qr, (sub_ap (add_ap four ag (by grind) (by grind)) ar (by grind) (by grind)).wide (by grind), ?_, fun h => by omega⟩
      simp only [Rat.intCast_sub, Rat.intCast_add, Rat.intCast_mul] at *
      have e2 : ((4 : Int) : Rat) = 4 := rfl
      rw [e2]
      grind
end
end
section
/-- a colour: its place, its unit, its white -/
structure Cs where
  p : Int
  u : Int
  w : Int
noncomputable abbrev cobj (side : Int) (x : Cs) (t1 t2 t3 : Tok) (n : Nat) : Obj := listI (colI x.p side x.u x.w).1 (colI x.p side x.u x.w).2.1 (colI x.p side x.u x.w).2.2 t1 t2 t3 n
noncomputable def Has (news : List (Addr × Obj)) (A : Addr) (side : Int) (x : Cs) : Prop := ∃ t1 t2 t3 n, (A, cobj side x t1 t2 t3 n) ∈ news
theorem Has.mono {news news' : List (Addr × Obj)} {A : Addr} {side : Int} {x : Cs} (h : Has news A side x) (k : ∀ p ∈ news, p ∈ news') : Has news' A side x :=
  let ⟨t1, t2, t3, n, q⟩ := h; ⟨t1, t2, t3, n, k _ q⟩
structure Gd (side : Int) (x : Cs) : Prop where
  s1 : 1 ≤ side
  s8 : side ≤ 8
  p0 : 0 ≤ x.p
  p1 : x.p < 6 * side
  u1 : 1 ≤ x.u
  w0 : 0 ≤ x.w
  top : x.w + x.u * side ≤ 64
noncomputable def mirC (side : Int) (x y : Cs) : Cs := ⟨(2 * y.p - x.p) % (6 * side), x.u, x.w⟩
theorem Gd.mir {side : Int} {x y : Cs} (h : Gd side x) : Gd side (mirC side x y) :=
  ⟨h.s1, h.s8, Int.emod_nonneg _ (by have := h.s1; omega), Int.emod_lt_of_pos _ (by have := h.s1; omega), h.u1, h.w0, h.top⟩
/-- a new colour comes back -/
noncomputable abbrev RetC (news : List (Addr × Obj)) (side : Int) (x : Cs) (h₀ : Heap) (L : Addr) (m : Str → Option Value) (s : Shared) (Q : Value → Shared → Prop) : Prop :=
  ∀ (D : Addr) (h' : Heap) (tk' : Nat) (ob : Obj), Fr h₀ L h' m → News h₀ L h' ((D, ob) :: news) → (∃ t1 t2 t3 n, ob = cobj side x t1 t2 t3 n) → (∀ p ∈ news, p.1 ≠ D) →
    Q (.ref D) { s with heap := h', toks := tk' }
end
section
section
open PySem PySem.Float64
theorem floor_is {x : Rat} {k n : Int} (h1 : (k : Rat) ≤ x) (h2 : x < (k : Rat) + 1) (h3 : (n : Rat) ≤ x) (h4 : x < (n : Rat) + 1) : k = n := by
  have z1 : ((1 : Int) : Rat) = 1 := rfl
  have a : (k : Rat) < ((n + 1 : Int) : Rat) := by rw [Rat.intCast_add, z1]; grind
  have b : (n : Rat) < ((k + 1 : Int) : Rat) := by rw [Rat.intCast_add, z1]; grind
  have := Rat.intCast_lt_intCast.mp a
  have := Rat.intCast_lt_intCast.mp b
  omega
theorem hue_ap {r g b : UInt64} {x y z : Int} (hr : Ex r x) (hg : Ex g y) (hb : Ex b z) (hx : 0 ≤ x ∧ x ≤ 64) (hy : 0 ≤ y ∧ y ≤ 64) (hz : 0 ≤ z ∧ z ≤ 64) (hn : minI x y z < maxI x y z) (hgb : y = z → g = b) :
    ∃ q : Rat, Ap (hueF r g b) q (4 * eps) ∧ 6 * ((maxI x y z - minI x y z : Int) : Rat) * q = ((numI x y z + (if numI x y z < 0 then 6 * (maxI x y z - minI x y z) else 0) : Int) : Rat) := by
  obtain ⟨q, ha, hq, h0⟩ := pre_ap hr hg hb hx hy hz hn hgb
  have he := eps_pos
  have hes := eps_small
  have hB := @mm_bounds x y z
  have hO := @mm_one x y z
  rw [hueF_eq]
  have six : rv 4618441417868443648 = 6 := by rw [ex_six.rv]; decide +kernel
  have hnum1 : -(maxI x y z - minI x y z) ≤ numI x y z := by unfold numI; split; omega; split <;> omega
  have hnum2 : numI x y z ≤ 5 * (maxI x y z - minI x y z) := by unfold numI; split; omega; split <;> omega
  generalize hMm : maxI x y z - minI x y z = n at *
  have hn0 : 0 < n := by omega
  have hn64 : n ≤ 64 := by omega
  have c1 := Rat.intCast_le_intCast.mpr hnum1
  have c2 := Rat.intCast_le_intCast.mpr hnum2
  have c3 : (0 : Rat) < (n : Rat) := Rat.intCast_pos.mpr hn0
  have c4 := Rat.intCast_le_intCast.mpr hn64
  rw [Rat.intCast_neg] at c1
  rw [Rat.intCast_mul] at c2
  have e5 : ((5 : Int) : Rat) = 5 := rfl
  have e64 : ((64 : Int) : Rat) = 64 := rfl
  rw [e5] at c2
  rw [e64] at c4
  clear hB hO hx hy hz hr hg hb hgb hnum1 hnum2 hn e5 e64 hn64
  have q1 : -1 ≤ q := le_of_pos_mul (c := (n : Rat)) (by grind) c3
  have q2 : q ≤ 5 := le_of_pos_mul (c := (n : Rat)) (by grind) c3
  have d0 := (div_rv ha.fin ex_six.1 (by rw [six]; grind) (q := rv (preF r g b) / 6) (by rw [six]; grind) (by have := ha.lo; have := ha.hi; grind) (by have := ha.lo; have := ha.hi; grind)).1
  generalize hw : numI x y z = w at *
  rcases Int.lt_trichotomy w 0 with hneg | hz0 | hpos
  · rw [if_pos hneg]
    have q3 : 64 * q ≤ -1 := by
      have : (w : Rat) ≤ -1 := by
        have := Rat.intCast_le_intCast.mpr (show w ≤ -1 by omega)
        exact this
      have hq0 : q ≤ 0 := le_of_pos_mul (c := (n : Rat)) (by grind) c3
      have := Rat.mul_nonneg (show 0 ≤ 64 - (n : Rat) by grind) (show 0 ≤ -q by grind)
      grind
    obtain ⟨k, k1, k2, k3, _⟩ := mod1 d0.fin
    have l := d0.lo
    have h := d0.hi
    have al := ha.lo
    have ah := ha.hi
    have hk : k = -1 := floor_is k1 k2 (show (-1 : Rat) ≤ _ by grind) (show _ < (-1 : Rat) + 1 by grind)
    subst hk
    have e1 : ((-1 : Int) : Rat) = -1 := rfl
    rw [e1] at k3
    refine ⟨q / 6 + 1, ⟨k3.fin, ?_, ?_⟩, ?_⟩
    · have := k3.lo; grind
    · have := k3.hi; grind
    · rw [Rat.intCast_add, Rat.intCast_mul]
      have e6 : ((6 : Int) : Rat) = 6 := rfl
      rw [e6]
      grind
  · rw [if_neg (by omega)]
    have hr0 := h0 hz0
    have d1 := div_zero ha.fin ex_six.1 (by rw [six]; grind) hr0
    obtain ⟨k, k1, k2, _, k4⟩ := mod1 d1.fin
    have hd : rv (div (preF r g b) 4618441417868443648) = 0 := by have := d1.lo; have := d1.hi; grind
    have k4 := k4 (by rw [hd]; exact Rat.le_refl)
    rw [hd] at k1 k2 k4
    have hk : k = 0 := floor_is k1 k2 (show (0 : Rat) ≤ 0 from Rat.le_refl) (show (0 : Rat) < 0 + 1 by decide +kernel)
    subst hk
    have e0 : ((0 : Int) : Rat) = 0 := rfl
    rw [e0] at k4
    obtain ⟨k', _, _, k3', _⟩ := mod1 d1.fin
    refine ⟨0, ⟨k3'.fin, by rw [k4]; grind, by rw [k4]; grind⟩, ?_⟩
    rw [hz0, Int.add_zero, e0]
    grind
  · rw [if_neg (by omega), Int.add_zero]
    have q3 : 1 ≤ 64 * q := by
      have : (1 : Rat) ≤ (w : Rat) := by
        have := Rat.intCast_le_intCast.mpr (show 1 ≤ w by omega)
        exact this
      have hq0 : 0 ≤ q := le_of_pos_mul (c := (n : Rat)) (by grind) c3
      have := Rat.mul_nonneg (show 0 ≤ 64 - (n : Rat) by grind) (show 0 ≤ q by grind)
      grind
    have l := d0.lo
    have h := d0.hi
    have al := ha.lo
    have ah := ha.hi
    obtain ⟨k, k1, k2, k3, _⟩ := mod1 d0.fin
    have hk : k = 0 := floor_is k1 k2 (show (0 : Rat) ≤ _ by grind) (show _ < (0 : Rat) + 1 by grind)
    subst hk
    have e1 : ((0 : Int) : Rat) = 0 := rfl
    rw [e1] at k3
    refine ⟨q / 6, ⟨k3.fin, ?_, ?_⟩, ?_⟩
    · have := k3.lo; grind
    · have := k3.hi; grind
    · grind
theorem fmod_near {x n : Int} (h1 : -n ≤ x) (h2 : x < n) : x.fmod n = if x < 0 then x + n else x := by
  rw [Int.fmod_eq_emod_of_nonneg _ (by omega)]
  split
  · rw [← Int.add_emod_right]; exact Int.emod_eq_of_lt (by omega) (by omega)
  · exact Int.emod_eq_of_lt (by omega) h2
/-- how much of the unit a corner has -/
noncomputable def amt (p s c : Int) : Int := if (if 2 * s - wayI p s c > 0 then 2 * s - wayI p s c else 0) < s then (if 2 * s - wayI p s c > 0 then 2 * s - wayI p s c else 0) else s
theorem colI_amt (p s u w : Int) : colI p s u w = (w + u * amt p s 0, w + u * amt p s (2 * s), w + u * amt p s (4 * s)) := rfl
noncomputable def pw (K s : Int) : Int := if K ≤ s then K else if K ≤ 3 * s then s else if K ≤ 4 * s then 4 * s - K else 0
set_option maxRecDepth 20000 in
theorem pw_tab : ∀ (s : Fin 9) (o : Fin 3) (K : Fin 49), K.val ≤ 6 * s.val → amt (((K.val : Int) - 2 * s.val * ((o.val : Int) - 1)) % (6 * s.val)) s.val (2 * s.val - 2 * s.val * ((o.val : Int) - 1)) = pw K.val s.val := by decide +kernel
theorem amt_pw {s D n o K : Int} (hs : 1 ≤ s) (hs8 : s ≤ 8) (ho : o = 1 ∨ o = 0 ∨ o = -1) (hK : K = D + 2 * s * o - 6 * s * n) (k0 : 0 ≤ K) (k6 : K ≤ 6 * s) : amt (D % (6 * s)) s (2 * s - 2 * s * o) = pw K s := by
  have h := pw_tab ⟨s.toNat, by omega⟩ ⟨(o + 1).toNat, by omega⟩ ⟨K.toNat, by omega⟩ (by show K.toNat ≤ 6 * s.toNat; omega)
  dsimp only at h
  rw [Int.toNat_of_nonneg (show 0 ≤ s by omega), Int.toNat_of_nonneg (show 0 ≤ o + 1 by omega), Int.toNat_of_nonneg k0, Int.add_sub_cancel] at h
  rw [← h]
  congr 1
  have : K - 2 * s * o = D + 6 * s * (-n) := by rw [hK, Int.mul_neg]; omega
  rw [this, Int.add_mul_emod_self_left]
/-- the amounts by sixths of the ring -/
noncomputable def gI (m s k : Int) : Int := if m = 0 then k else if m = 1 ∨ m = 2 then s else if m = 3 then s - k else 0
set_option maxRecDepth 20000 in
theorem at_tab : ∀ (m : Fin 6) (s : Fin 9) (k : Fin 9), 1 ≤ s.val → k.val ≤ s.val → pw ((s.val : Int) * m.val + k.val) s.val = gI m.val s.val k.val := by decide +kernel
theorem amt_at {s j k : Int} (m n o : Int) (hm : 0 ≤ m ∧ m < 6) (ho : o = 1 ∨ o = 0 ∨ o = -1) (he : m = j + 2 * o - 6 * n) (hs : 1 ≤ s) (hs8 : s ≤ 8) (k0 : 0 ≤ k) (k1 : k ≤ s) :
    amt ((s * j + k) % (6 * s)) s (2 * s - 2 * s * o) = gI m s k := by
  have h := at_tab ⟨m.toNat, by omega⟩ ⟨s.toNat, by omega⟩ ⟨k.toNat, by omega⟩ (by show 1 ≤ s.toNat; omega) (by show k.toNat ≤ s.toNat; omega)
  dsimp only at h
  rw [Int.toNat_of_nonneg hm.1, Int.toNat_of_nonneg (show 0 ≤ s by omega), Int.toNat_of_nonneg k0] at h
  have h0 : 0 ≤ s * m := Int.mul_nonneg (by omega) hm.1
  have h5 : s * m ≤ s * 5 := Int.mul_le_mul_of_nonneg_left (by omega) (by omega)
  rw [← h]
  refine amt_pw (n := n) hs hs8 ho ?_ (by omega) (by omega)
  rw [he, Int.mul_sub, Int.mul_add, Int.mul_left_comm s 2 o, Int.mul_left_comm s 6 n, Int.mul_assoc, Int.mul_assoc]
  omega
end
end
section
section
open PySem PySem.Float64
/-- a colour's numbers: w, and B above it at the top, A between -/
structure Sec (w B A : Int) (j : Int) (a b c : Int) : Prop where
  j0 : 0 ≤ j
  j5 : j ≤ 5
  v : (j = 0 ∧ a = w + B ∧ b = w + A ∧ c = w) ∨ (j = 1 ∧ a = w + (B - A) ∧ b = w + B ∧ c = w) ∨ (j = 2 ∧ a = w ∧ b = w + B ∧ c = w + A) ∨
    (j = 3 ∧ a = w ∧ b = w + (B - A) ∧ c = w + B) ∨ (j = 4 ∧ a = w + A ∧ b = w ∧ c = w + B) ∨ (j = 5 ∧ a = w + B ∧ b = w ∧ c = w + (B - A))
theorem sec_of {s u w j k : Int} (hs : 0 < s) (hs8 : s ≤ 8) (hj : 0 ≤ j ∧ j ≤ 5) (hk : 0 ≤ k ∧ k ≤ s) :
    Sec w (u * s) (u * k) j (colI ((s * j + k) % (6 * s)) s u w).1 (colI ((s * j + k) % (6 * s)) s u w).2.1 (colI ((s * j + k) % (6 * s)) s u w).2.2 := by
  rw [colI_amt]
  refine ⟨hj.1, hj.2, ?_⟩
  have z0 : (2 * s - 2 * s * 1 : Int) = 0 := by omega
  have z2 : (2 * s - 2 * s * 0 : Int) = 2 * s := by omega
  have z4 : (2 * s - 2 * s * -1 : Int) = 4 * s := by omega
  have A : ∀ (m n o : Int), (0 ≤ m ∧ m < 6) → (o = 1 ∨ o = 0 ∨ o = -1) → m = j + 2 * o - 6 * n → u * amt ((s * j + k) % (6 * s)) s (2 * s - 2 * s * o) = u * gI m s k := fun m n o hm ho he => by rw [amt_at m n o hm ho he hs hs8 hk.1 hk.2]
  have g0 : u * gI 0 s k = u * k := rfl
  have g1 : u * gI 1 s k = u * s := rfl
  have g2 : u * gI 2 s k = u * s := rfl
  have g3 : u * gI 3 s k = u * s - u * k := Int.mul_sub _ _ _
  have g4 : u * gI 4 s k = 0 := Int.mul_zero _
  have g5 : u * gI 5 s k = 0 := Int.mul_zero _
  have hc : j = 0 ∨ j = 1 ∨ j = 2 ∨ j = 3 ∨ j = 4 ∨ j = 5 := by omega
  have B : ∀ (m1 n1 m2 n2 m3 n3 : Int) {x y z : Int}, (0 ≤ m1 ∧ m1 < 6) → (0 ≤ m2 ∧ m2 < 6) → (0 ≤ m3 ∧ m3 < 6) →
      m1 = j + 2 * 1 - 6 * n1 → m2 = j + 2 * 0 - 6 * n2 → m3 = j + 2 * -1 - 6 * n3 → u * gI m1 s k = x → u * gI m2 s k = y → u * gI m3 s k = z →
      w + u * amt ((s * j + k) % (6 * s)) s 0 = w + x ∧ w + u * amt ((s * j + k) % (6 * s)) s (2 * s) = w + y ∧ w + u * amt ((s * j + k) % (6 * s)) s (4 * s) = w + z := by
    intro m1 n1 m2 n2 m3 n3 x y z h1 h2 h3 e1 e2 e3 rfl rfl rfl
    have a1 := A m1 n1 1 h1 (.inl rfl) e1
    have a2 := A m2 n2 0 h2 (.inr (.inl rfl)) e2
    have a3 := A m3 n3 (-1) h3 (.inr (.inr rfl)) e3
    rw [z0] at a1
    rw [z2] at a2
    rw [z4] at a3
    exact ⟨by rw [a1], by rw [a2], by rw [a3]⟩
  rcases hc with rfl | rfl | rfl | rfl | rfl | rfl
  · have h := B 2 0 0 0 4 (-1) (by decide) (by decide) (by decide) rfl rfl rfl g2 g0 g4
    rw [Int.add_zero] at h
    exact .inl ⟨rfl, h⟩
  · have h := B 3 0 1 0 5 (-1) (by decide) (by decide) (by decide) rfl rfl rfl g3 g1 g5
    rw [Int.add_zero] at h
    exact .inr (.inl ⟨rfl, h⟩)
  · have h := B 4 0 2 0 0 0 (by decide) (by decide) (by decide) rfl rfl rfl g4 g2 g0
    rw [Int.add_zero] at h
    exact .inr (.inr (.inl ⟨rfl, h⟩))
  · have h := B 5 0 3 0 1 0 (by decide) (by decide) (by decide) rfl rfl rfl g5 g3 g1
    rw [Int.add_zero] at h
    exact .inr (.inr (.inr (.inl ⟨rfl, h⟩)))
  · have h := B 0 1 4 0 2 0 (by decide) (by decide) (by decide) rfl rfl rfl g0 g4 g2
    rw [Int.add_zero] at h
    exact .inr (.inr (.inr (.inr (.inl ⟨rfl, h⟩))))
  · have h := B 1 1 5 0 3 0 (by decide) (by decide) (by decide) rfl rfl rfl g1 g5 g3
    rw [Int.add_zero] at h
    exact .inr (.inr (.inr (.inr (.inr ⟨rfl, h⟩))))
theorem lt_lin {w u x y : Int} (hu : 0 < u) : (w + u * x < w + u * y) = (x < y) :=
  propext ⟨fun h => Int.lt_of_mul_lt_mul_left (Int.lt_of_add_lt_add_left h) (Int.le_of_lt hu), fun h => Int.add_lt_add_left (Int.mul_lt_mul_of_pos_left h hu) w⟩
theorem eq_lin {w u x y : Int} (hu : 0 < u) : (w + u * x = w + u * y) = (x = y) :=
  propext ⟨fun h => Int.eq_of_mul_eq_mul_left (Int.ne_of_gt hu) (Int.add_left_cancel h), fun h => by rw [h]⟩
theorem maxI_lin {w u x y z : Int} (hu : 0 < u) : maxI (w + u * x) (w + u * y) (w + u * z) = w + u * maxI x y z := by
  unfold maxI
  by_cases h : x < y
  · simp only [lt_lin hu, h, if_true]
    split <;> rfl
  · simp only [lt_lin hu, h, if_false]
    split <;> rfl
theorem minI_lin {w u x y z : Int} (hu : 0 < u) : minI (w + u * x) (w + u * y) (w + u * z) = w + u * minI x y z := by
  unfold minI
  by_cases h : y < x
  · simp only [lt_lin hu, h, if_true]
    split <;> rfl
  · simp only [lt_lin hu, h, if_false]
    split <;> rfl
theorem numI_lin {w u x y z : Int} (hu : 0 < u) : numI (w + u * x) (w + u * y) (w + u * z) = u * numI x y z := by
  unfold numI
  rw [maxI_lin hu, minI_lin hu]
  simp only [eq_lin hu]
  have e : w + u * maxI x y z - (w + u * minI x y z) = u * (maxI x y z - minI x y z) := by rw [Int.mul_sub]; omega
  rw [e]
  clear e
  generalize maxI x y z - minI x y z = D
  split
  · rw [Int.mul_sub u]; omega
  · split
    · rw [Int.mul_sub u, Int.mul_add u, Int.mul_left_comm u 2 D]; omega
    · rw [Int.mul_sub u, Int.mul_add u, Int.mul_left_comm u 4 D]; omega
set_option maxRecDepth 20000 in
theorem kol_tab : ∀ (s : Fin 9) (p : Fin 48), 1 ≤ s.val → p.val < 6 * s.val → maxI (amt p.val s.val 0) (amt p.val s.val (2 * s.val)) (amt p.val s.val (4 * s.val)) = s.val ∧ minI (amt p.val s.val 0) (amt p.val s.val (2 * s.val)) (amt p.val s.val (4 * s.val)) = 0 ∧
    ((0 ≤ numI (amt p.val s.val 0) (amt p.val s.val (2 * s.val)) (amt p.val s.val (4 * s.val)) ∧ numI (amt p.val s.val 0) (amt p.val s.val (2 * s.val)) (amt p.val s.val (4 * s.val)) = p.val) ∨
      (numI (amt p.val s.val 0) (amt p.val s.val (2 * s.val)) (amt p.val s.val (4 * s.val)) < 0 ∧ numI (amt p.val s.val 0) (amt p.val s.val (2 * s.val)) (amt p.val s.val (4 * s.val)) + 6 * s.val = p.val)) := by decide +kernel
/-- the colour of a place -/
structure Kol (s p u w a b c : Int) : Prop where
  inb : Inb a b c
  M : maxI a b c = w + u * s
  m : minI a b c = w
  num : numI a b c + (if numI a b c < 0 then 6 * (maxI a b c - minI a b c) else 0) = u * p
  us : 1 ≤ u * s
theorem kol_of {s : Int} {x : Cs} (g : Gd s x) : Kol s x.p x.u x.w (colI x.p s x.u x.w).1 (colI x.p s x.u x.w).2.1 (colI x.p s x.u x.w).2.2 := by
  have h1 := g.s1
  have h8 := g.s8
  have p0 := g.p0
  have p1 := g.p1
  have hu : 0 < x.u := g.u1
  have hw := g.w0
  have ht := g.top
  have T := kol_tab ⟨s.toNat, by omega⟩ ⟨x.p.toNat, by omega⟩ (by show 1 ≤ s.toNat; omega) (by show x.p.toNat < 6 * s.toNat; omega)
  dsimp only at T
  rw [Int.toNat_of_nonneg (show 0 ≤ s by omega), Int.toNat_of_nonneg p0] at T
  rw [colI_amt]
  dsimp only
  generalize amt x.p s 0 = X at *
  generalize amt x.p s (2 * s) = Y at *
  generalize amt x.p s (4 * s) = Z at *
  obtain ⟨tM, tm, tn⟩ := T
  have hM := maxI_lin (w := x.w) (x := X) (y := Y) (z := Z) hu
  have hm := minI_lin (w := x.w) (x := X) (y := Y) (z := Z) hu
  have hn := numI_lin (w := x.w) (x := X) (y := Y) (z := Z) hu
  rw [tM] at hM
  rw [tm, Int.mul_zero, Int.add_zero] at hm
  have hb := @mm_bounds (x.w + x.u * X) (x.w + x.u * Y) (x.w + x.u * Z)
  rw [hM, hm] at hb
  obtain ⟨b1, b2, b3, b4, b5, b6⟩ := hb
  have us : 1 ≤ x.u * s := by have := Int.mul_le_mul (show 1 ≤ x.u from hu) h1 (by decide) (Int.le_of_lt hu); rw [Int.mul_one] at this; exact this
  refine ⟨⟨Int.le_trans hw b4, Int.le_trans b1 ht, Int.le_trans hw b5, Int.le_trans b2 ht, Int.le_trans hw b6, Int.le_trans b3 ht⟩, hM, hm, ?_, us⟩
  rw [hM, hm, hn]
  rcases tn with ⟨t0, tn⟩ | ⟨t0, tn⟩
  · rw [if_neg (Int.not_lt.mpr (Int.mul_nonneg (Int.le_of_lt hu) t0)), Int.add_zero, tn]
  · rw [if_pos (Int.mul_neg_of_pos_of_neg hu t0), ← tn, Int.mul_add, Int.mul_left_comm]
    omega
theorem hue_col {s p u w a b c : Int} (k : Kol s p u w a b c) (hs : 1 ≤ s) (hu : 1 ≤ u) : ∃ q : Rat, Ap (hueF (fl a) (fl b) (fl c)) q (4 * eps) ∧ 6 * (s : Rat) * q = (p : Rat) := by
  obtain ⟨⟨a0, a1, b0, b1, c0, c1⟩, hM, hm, hn, hus⟩ := k
  obtain ⟨q, hq, he⟩ := hue_ap (ex_fl a0 a1) (ex_fl b0 b1) (ex_fl c0 c1) ⟨a0, a1⟩ ⟨b0, b1⟩ ⟨c0, c1⟩ (by omega) (fun e => by rw [e])
  refine ⟨q, hq, ?_⟩
  rw [hn, hM, hm] at he
  have e1 : w + u * s - w = u * s := by omega
  rw [e1, Rat.intCast_mul, Rat.intCast_mul] at he
  have hu0 : (0 : Rat) < (u : Rat) := Rat.intCast_pos.mpr (by omega)
  refine Rat.le_antisymm (le_of_pos_mul (c := (u : Rat)) ?_ hu0) (le_of_pos_mul (c := (u : Rat)) ?_ hu0)
  · rw [show (u : Rat) * (6 * (s : Rat) * q) = 6 * ((u : Rat) * (s : Rat)) * q by grind, he]; exact Rat.le_refl
  · rw [show (u : Rat) * (6 * (s : Rat) * q) = 6 * ((u : Rat) * (s : Rat)) * q by grind, he]; exact Rat.le_refl
theorem mul_apv {x y : UInt64} {p q e f v : Rat} (P Y : Rat) (hx : Ap x p e) (hy : Ap y q f) (hv : p * q = v) (p1 : -P ≤ p) (p2 : p ≤ P) (q1 : -Y ≤ q - f) (q2 : q + f ≤ Y)
    (h1 : -100 ≤ v) (h2 : v ≤ 100) (hb : P * f + Y * e ≤ 1) : Ap (mul x y) v (P * f + Y * e + eps) := by
  subst hv
  exact mul_ap P Y hx hy p1 p2 q1 q2 (by grind) (by grind)
theorem part_round {o : UInt64} {n : Int} (h : Ap o ((n : Rat) / 64) (1000 * eps)) (h0 : 0 ≤ n) (h1 : n ≤ 64) :
    Float64.isFinite (Float64.mul (Float64.ofInt 64) o) = true ∧ rndF (Float64.mul (Float64.ofInt 64) o) = n := by
  have he := eps_pos
  have hes := eps_small
  obtain ⟨hf, hr⟩ := ofInt_rv (i := 64) (by decide) (by decide)
  have e64 : ((64 : Int) : Rat) = 64 := rfl
  rw [e64] at hr
  have c0 := cast_rng h0 h1
  have z0 : ((0 : Int) : Rat) = 0 := rfl
  rw [e64, z0] at c0
  have A := mul_apv (v := (n : Rat)) 64 2 (Ap.at (Ap.self hf) hr) h (by grind) (by grind) (by grind) (by grind) (by grind) (by grind) (by grind) (by grind)
  refine ⟨A.fin.is, nearest_rv A.fin h0 ?_ ?_⟩
  · have := A.lo; grind
  · have := A.hi; grind
theorem round_hue {z : UInt64} {s p : Int} {q : Rat} (hq : Ap z q (4 * eps)) (he : 6 * (s : Rat) * q = (p : Rat)) (hs : 1 ≤ s) (hs8 : s ≤ 8) (h0 : 0 ≤ p) (h1 : p < 6 * s) :
    Float64.isFinite (Float64.mul (Float64.ofInt (6 * s)) z) = true ∧ rndF (Float64.mul (Float64.ofInt (6 * s)) z) = p := by
  have hee := eps_pos
  have hes := eps_small
  obtain ⟨hf, hr⟩ := ofInt_rv (i := 6 * s) (by omega) (by omega)
  rw [Rat.intCast_mul] at hr
  have e6 : ((6 : Int) : Rat) = 6 := rfl
  rw [e6] at hr
  have c0 := cast_rng h0 (show p ≤ 48 by omega)
  have c1 := cast_rng hs hs8
  have z0 : ((0 : Int) : Rat) = 0 := rfl
  have z1 : ((1 : Int) : Rat) = 1 := rfl
  have z8 : ((8 : Int) : Rat) = 8 := rfl
  have z48 : ((48 : Int) : Rat) = 48 := rfl
  have c2 := Rat.intCast_lt_intCast.mpr h1
  rw [Rat.intCast_mul, e6] at c2
  rw [z0, z48] at c0
  rw [z1, z8] at c1
  have hs0 : (0 : Rat) < 6 * (s : Rat) := by grind
  have q0 : 0 ≤ q := le_of_pos_mul (c := 6 * (s : Rat)) (by grind) hs0
  have q1 : q ≤ 1 := le_of_pos_mul (c := 6 * (s : Rat)) (by grind) hs0
  have A := mul_apv (v := (p : Rat)) 48 2 (Ap.at (Ap.self hf) hr) hq he (by grind) (by grind) (by grind) (by grind) (by grind) (by grind) (by grind)
  refine ⟨A.fin.is, nearest_rv A.fin h0 ?_ ?_⟩
  · have := A.lo; grind
  · have := A.hi; grind
end
end
section
section
open PySem PySem.Float64
theorem nr_six : Nr 4618441417868443648 6 0 6 := Nr.zero (ex_six.ap.at (by decide +kernel)) (by decide +kernel) (by decide +kernel)
theorem nr_one : Nr 4607182418800017408 1 0 1 := Nr.zero (ex_one.ap.at (by decide +kernel)) (by decide +kernel) (by decide +kernel)
theorem not_over {i : Int} (h0 : -1000 ≤ i) (h1 : i ≤ 1000) : ¬ Flt.Over i := fun h => absurd (small_fits (n := i) (by omega)) (Nat.not_lt.mpr h)
theorem hsv_back {hh bs bv : UInt64} {s u w N : Int} {z σ : Rat} (hs : 1 ≤ s) (hs8 : s ≤ 8) (hu : 1 ≤ u) (hw : 0 ≤ w) (htop : w + u * s ≤ 64)
    (ah : Ap hh (z / 6) (15 * eps)) (hz : (s : Rat) * z = (N : Rat)) (hN : 1 ≤ N) (hN2 : N ≤ 18 * s) (aσ : Ap bs σ eps) (eσ : ((w + u * s : Int) : Rat) * σ = ((u * s : Int) : Rat)) (xv : Ex bv (w + u * s)) :
    Float64.isFinite (Float64.mul hh 4618441417868443648) = true ∧ 0 ≤ iF hh ∧ iF hh ≤ 18 ∧ ∃ k : Int, N = s * iF hh + k ∧ 0 ≤ k ∧ k ≤ s ∧
      Ap (pF bs bv) ((w : Rat) / 64) (1000 * eps) ∧ Ap (qF hh bs bv) (((w + (u * s - u * k) : Int) : Rat) / 64) (1000 * eps) ∧ Ap (tF hh bs bv) (((w + u * k : Int) : Rat) / 64) (1000 * eps) := by
  have he := eps_pos
  have hes := eps_small
  have hB1 : 1 ≤ u * s := by
    have : 1 * 1 ≤ u * s := Int.mul_le_mul hu hs (by decide) (by omega)
    omega
  have cs := cast_rng hs hs8
  have z1 : ((1 : Int) : Rat) = 1 := rfl
  have z8 : ((8 : Int) : Rat) = 8 := rfl
  have z18 : ((18 : Int) : Rat) = 18 := rfl
  rw [z1, z8] at cs
  have hs0 : (0 : Rat) < (s : Rat) := by grind
  have cN := cast_rng hN hN2
  rw [z1, Rat.intCast_mul, z18] at cN
  have hz0 : 1 / 8 ≤ z := by
    have := Rat.mul_nonneg (show 0 ≤ 8 - (s : Rat) by grind) (show 0 ≤ z by exact le_of_pos_mul (c := (s : Rat)) (by grind) hs0)
    grind
  have hz1 : z ≤ 18 := le_of_pos_mul (c := (s : Rat)) (by grind) hs0
  have cw : (0 : Rat) ≤ (w : Rat) := Rat.intCast_nonneg.mpr hw
  have cB : (1 : Rat) ≤ ((u * s : Int) : Rat) := by have := Rat.intCast_le_intCast.mpr hB1; rw [z1] at this; exact this
  have cM := Rat.intCast_le_intCast.mpr htop
  have z64 : ((64 : Int) : Rat) = 64 := rfl
  rw [z64] at cM
  have eM : ((w + u * s : Int) : Rat) = (w : Rat) + ((u * s : Int) : Rat) := Rat.intCast_add _ _
  have eB : ((u * s : Int) : Rat) = (u : Rat) * (s : Rat) := Rat.intCast_mul _ _
  have av := xv.ap
  have six := nr_six
  have one := nr_one
  have r3 : ((3 : Nat) : Rat) = 3 := rfl
  have r18 : ((18 : Nat) : Rat) = 18 := rfl
  have n6 := (Nr.of (n := 15) (P := 3) ah rfl (by rw [r3]; grind) (by rw [r3]; grind)).mul six (by decide)
  have m6 := n6.val (q' := z) (Q := 18) (by grind) (by rw [r18]; grind) (by rw [r18]; grind)
  have a6 := n6.out (q' := z) (by grind) (by decide)
  have l6 := a6.lo
  have h6 := a6.hi
  obtain ⟨t1, t2, t3⟩ := trunc_rv a6.fin (by grind)
  have hi : Flt.toInt truncOf (Float64.mul hh 4618441417868443648) = iF hh := rfl
  rw [hi] at t1 t2 t3
  have hq : qF hh bs bv = Float64.mul bv (Float64.sub 4607182418800017408 (Float64.mul bs (fF hh))) := rfl
  have ht : tF hh bs bv = Float64.mul bv (Float64.sub 4607182418800017408 (Float64.mul bs (Float64.sub 4607182418800017408 (fF hh)))) := rfl
  have hp : pF bs bv = Float64.mul bv (Float64.sub 4607182418800017408 bs) := rfl
  have hf : fF hh = Float64.sub (Float64.mul hh 4618441417868443648) (Float64.ofInt (iF hh)) := rfl
  rw [hq, ht, hp, hf]
  generalize iF hh = i at *
  have i18 : i ≤ 18 := by
    have : (i : Rat) < ((19 : Int) : Rat) := by
      have z19 : ((19 : Int) : Rat) = 19 := rfl
      rw [z19]; grind
    have := Rat.intCast_lt_intCast.mp this
    omega
  obtain ⟨of, ov⟩ := ofInt_rv (i := i) (by omega) (by omega)
  have i18R : (i : Rat) ≤ 18 := by have := Rat.intCast_le_intCast.mpr i18; rw [z18] at this; exact this
  have i0R : (0 : Rat) ≤ (i : Rat) := Rat.intCast_nonneg.mpr t3
  have ai : Nr (Float64.ofInt i) (i : Rat) 0 18 := Nr.zero ((Ap.self of).at ov) (by rw [r18]; grind) (by rw [r18]; exact i18R)
  have af := m6.sub ai (by decide)
  have hk : ((N - s * i : Int) : Rat) = (s : Rat) * (z - (i : Rat)) := by rw [Rat.intCast_sub, Rat.intCast_mul]; grind
  have f0 : -(1 / 1000) ≤ z - (i : Rat) := by grind
  have f1 : z - (i : Rat) ≤ 1 + 1 / 1000 := by grind
  generalize z - (i : Rat) = φ at *
  have k0 : 0 ≤ N - s * i := by
    have h := Rat.mul_nonneg (Rat.le_of_lt hs0) (show 0 ≤ φ + 1 / 1000 by grind)
    have : ((-1 : Int) : Rat) < ((N - s * i : Int) : Rat) := by
      have e1 : ((-1 : Int) : Rat) = -1 := rfl
      rw [hk, e1]; grind
    have := Rat.intCast_lt_intCast.mp this
    omega
  have k1 : N - s * i ≤ s := by
    have h := Rat.mul_nonneg (Rat.le_of_lt hs0) (show 0 ≤ 1 + 1 / 1000 - φ by grind)
    have : ((N - s * i : Int) : Rat) < ((s + 1 : Int) : Rat) := by
      rw [hk, Rat.intCast_add, z1]; grind
    have := Rat.intCast_lt_intCast.mp this
    omega
  refine ⟨a6.fin.is, t3, i18, N - s * i, by omega, k0, k1, ?_⟩
  generalize hkk : N - s * i = k at *
  have ek : ((u * k : Int) : Rat) = (u : Rat) * (k : Rat) := Rat.intCast_mul _ _
  have e1 : ((w + (u * s - u * k) : Int) : Rat) = (w : Rat) + (((u * s : Int) : Rat) - ((u * k : Int) : Rat)) := by rw [Rat.intCast_add, Rat.intCast_sub]
  have e2 : ((w + u * k : Int) : Rat) = (w : Rat) + ((u * k : Int) : Rat) := Rat.intCast_add _ _
  have uk0 : 0 ≤ u * k := Int.mul_nonneg (by omega) k0
  have uk1 : u * k ≤ u * s := Int.mul_le_mul_of_nonneg_left k1 (by omega)
  have cuk := cast_rng uk0 uk1
  have z0 : ((0 : Int) : Rat) = 0 := rfl
  rw [z0] at cuk
  rw [e1, e2]
  rw [eM] at eσ cM av
  have hBφ : ((u * s : Int) : Rat) * φ = ((u * k : Int) : Rat) := by rw [eB, ek, hk]; grind
  generalize ((u * s : Int) : Rat) = B at *
  generalize ((u * k : Int) : Rat) = K at *
  generalize (w : Rat) = W at *
  have hM0 : 0 < W + B := by grind
  have σ0 : 0 ≤ σ := le_of_pos_mul (c := W + B) (by grind) hM0
  have σ1 : σ ≤ 1 := le_of_pos_mul (c := W + B) (by grind) hM0
  have r1 : ((1 : Nat) : Rat) = 1 := rfl
  have r2 : ((2 : Nat) : Rat) = 2 := rfl
  have hMσφ : (W + B) * (σ * φ) = K := by rw [← hBφ, ← eσ]; grind
  have nσ := Nr.one (P := 1) aσ (by rw [r1]; grind) (by rw [r1]; exact σ1)
  have nφ := af.val (q' := φ) (Q := 2) rfl (by rw [r2]; grind) (by rw [r2]; grind)
  have nv := Nr.zero (P := 1) av (by rw [r1]; grind) (by rw [r1]; grind)
  refine ⟨?_, ?_, ?_⟩
  · exact (nv.mul (one.sub nσ (by decide)) (by decide)).out (by grind) (by decide)
  · exact (nv.mul (one.sub (nσ.mul nφ (by decide)) (by decide)) (by decide)).out (by grind) (by decide)
  · exact (nv.mul (one.sub (nσ.mul (one.sub nφ (by decide)) (by decide)) (by decide)) (by decide)).out (by grind) (by decide)
end
end
section
section
open PySem PySem.Float64
theorem vF_ap {m1 m2 hue : UInt64} {s u w K0 : Int} {η : Rat} (hs : 1 ≤ s) (hs8 : s ≤ 8) (hu : 1 ≤ u) (hw : 0 ≤ w) (htop : w + u * s ≤ 64)
    (a1 : Ap m1 ((w : Rat) / 64) (12 * eps)) (a2 : Ap m2 (((w + u * s : Int) : Rat) / 64) (8 * eps)) (ah : Ap hue η (16 * eps)) (hη : 6 * (s : Rat) * η = (K0 : Rat)) :
    ∃ K n : Int, K = K0 - 6 * s * n ∧ 0 ≤ K ∧ K ≤ 6 * s ∧ Ap (vF m1 m2 hue) (((w + u * pw K s : Int) : Rat) / 64) (1000 * eps) := by
  have he := eps_pos
  have hes := eps_small
  have hB1 : 1 ≤ u * s := by
    have : 1 * 1 ≤ u * s := Int.mul_le_mul hu hs (by decide) (by omega)
    omega
  have cs := cast_rng hs hs8
  have z1 : ((1 : Int) : Rat) = 1 := rfl
  have z6 : ((6 : Int) : Rat) = 6 := rfl
  have z8 : ((8 : Int) : Rat) = 8 := rfl
  rw [z1, z8] at cs
  have hs0 : (0 : Rat) < 6 * (s : Rat) := by grind
  have cw : (0 : Rat) ≤ (w : Rat) := Rat.intCast_nonneg.mpr hw
  have cB : (1 : Rat) ≤ ((u * s : Int) : Rat) := by have := Rat.intCast_le_intCast.mpr hB1; rw [z1] at this; exact this
  have cM := Rat.intCast_le_intCast.mpr htop
  have z64 : ((64 : Int) : Rat) = 64 := rfl
  rw [z64] at cM
  have eM : ((w + u * s : Int) : Rat) = (w : Rat) + ((u * s : Int) : Rat) := Rat.intCast_add _ _
  have eB : ((u * s : Int) : Rat) = (u : Rat) * (s : Rat) := Rat.intCast_mul _ _
  have r1 : ((1 : Nat) : Rat) = 1 := rfl
  have r2 : ((2 : Nat) : Rat) = 2 := rfl
  have half : Ap 4602678819172646912 (1 / 2) 0 := ex_half.ap.at (by decide +kernel)
  obtain ⟨n, n1, n2, ar0, _⟩ := mod1 ah.fin
  have hl := ah.lo
  have hh := ah.hi
  have ar : Ap (Float64.divmod hue 4607182418800017408).2 (η - (n : Rat)) (17 * eps) := ⟨ar0.fin, by have := ar0.lo; grind, by have := ar0.hi; grind⟩
  have hK : ((K0 - 6 * s * n : Int) : Rat) = 6 * (s : Rat) * (η - (n : Rat)) := by
    rw [Rat.intCast_sub, Rat.intCast_mul, Rat.intCast_mul, z6]; grind
  have th0 : -(1 / 1000) ≤ η - (n : Rat) := by grind
  have th1 : η - (n : Rat) ≤ 1 + 1 / 1000 := by grind
  unfold vF
  have lr := ar.lo
  have hr := ar.hi
  rw [cmp_lt ar.fin ap_sixth.fin, cmp_lt ar.fin half.fin, cmp_lt ar.fin ap_thirds.fin]
  have s6l := ap_sixth.lo
  have s6h := ap_sixth.hi
  have hfl := half.lo
  have hfh := half.hi
  have t2l := ap_thirds.lo
  have t2h := ap_thirds.hi
  generalize (Float64.divmod hue 4607182418800017408).2 = r at *
  generalize η - (n : Rat) = θ at *
  generalize hKK : K0 - 6 * s * n = K at *
  -- a bound for theta is a bound for K
  have up : ∀ (a : Int), 0 ≤ a → a ≤ 6 → 6 * θ ≤ (a : Rat) + 6 / 1000 → K ≤ a * s := by
    intro a _ _ h
    have h3 := Rat.mul_nonneg (show 0 ≤ (s : Rat) by grind) (show 0 ≤ (a : Rat) + 6 / 1000 - 6 * θ by grind)
    have : ((K : Int) : Rat) < ((a * s + 1 : Int) : Rat) := by
      rw [hK, Rat.intCast_add, Rat.intCast_mul, z1]; grind
    have := Rat.intCast_lt_intCast.mp this
    omega
  have dn : ∀ (a : Int), 0 ≤ a → a ≤ 6 → (a : Rat) - 6 / 1000 ≤ 6 * θ → a * s ≤ K := by
    intro a _ _ h
    have h3 := Rat.mul_nonneg (show 0 ≤ (s : Rat) by grind) (show 0 ≤ 6 * θ - (a : Rat) + 6 / 1000 by grind)
    have : ((a * s - 1 : Int) : Rat) < ((K : Int) : Rat) := by
      rw [hK, Rat.intCast_sub, Rat.intCast_mul, z1]; grind
    have := Rat.intCast_lt_intCast.mp this
    omega
  have z0 : ((0 : Int) : Rat) = 0 := rfl
  have z3 : ((3 : Int) : Rat) = 3 := rfl
  have z4 : ((4 : Int) : Rat) = 4 := rfl
  have K0' := dn 0 (by decide) (by decide) (by rw [z0]; grind)
  have K6' := up 6 (by decide) (by decide) (by rw [z6]; grind)
  refine ⟨K, n, hKK.symm, by omega, by omega, ?_⟩
  have n1' := Nr.of (n := 12) (P := 1) a1 rfl (by rw [r1]; grind) (by rw [r1]; grind)
  have n2' := Nr.of (n := 8) (P := 1) a2 rfl (by rw [r1, eM]; grind) (by rw [r1]; grind)
  have nr' := Nr.of (n := 17) (P := 2) ar rfl (by rw [r2]; grind) (by rw [r2]; grind)
  have n3' := Nr.one (P := 1) ap_thirds (by rw [r1]; grind) (by rw [r1]; grind)
  have ad := (n2'.sub n1' (by decide)).val (q' := ((u * s : Int) : Rat) / 64) (Q := 1) (by rw [eM]; grind) (by rw [r1]; grind) (by rw [r1]; grind)
  by_cases c1 : rv r < rv 4595172819793696085
  · simp only [c1, decide_true, if_true]
    have k1 := up 1 (by decide) (by decide) (by rw [z1]; grind)
    have hpw : pw K s = K := by unfold pw; rw [if_pos (by omega)]
    rw [hpw]
    have e2 : ((w + u * K : Int) : Rat) = (w : Rat) + ((u * K : Int) : Rat) := Rat.intCast_add _ _
    have ek : ((u * K : Int) : Rat) = (u : Rat) * (K : Rat) := Rat.intCast_mul _ _
    have hBθ : 6 * (((u * s : Int) : Rat) * θ) = ((u * K : Int) : Rat) := by rw [eB, ek, hK]; grind
    exact (n1'.add ((ad.mul nr' (by decide)).mul nr_six (by decide)) (by decide)).out (by rw [e2, ← hBθ]; grind) (by decide)
  · simp only [c1, decide_false, if_false, Bool.false_eq_true]
    have k1 := dn 1 (by decide) (by decide) (by rw [z1]; grind)
    by_cases c2 : rv r < rv 4602678819172646912
    · simp only [c2, decide_true, if_true]
      have k3 := up 3 (by decide) (by decide) (by rw [z3]; grind)
      have hpw : pw K s = s := by
        unfold pw
        repeat' split
        all_goals omega
      rw [hpw]
      exact a2.wide (by grind)
    · simp only [c2, decide_false, if_false, Bool.false_eq_true]
      have k3 := dn 3 (by decide) (by decide) (by rw [z3]; grind)
      by_cases c3 : rv r < rv 4604180019048437077
      · simp only [c3, decide_true, if_true]
        have k4 := up 4 (by decide) (by decide) (by rw [z4]; grind)
        have hpw : pw K s = 4 * s - K := by
          unfold pw
          repeat' split
          all_goals omega
        rw [hpw]
        have e2 : ((w + u * (4 * s - K) : Int) : Rat) = (w : Rat) + ((u * (4 * s - K) : Int) : Rat) := Rat.intCast_add _ _
        have ek : ((u * (4 * s - K) : Int) : Rat) = (u : Rat) * (4 * (s : Rat) - (K : Rat)) := by rw [Rat.intCast_mul, Rat.intCast_sub, Rat.intCast_mul, z4]
        have hBθ : 6 * (((u * s : Int) : Rat) * (2 / 3 - θ)) = ((u * (4 * s - K) : Int) : Rat) := by rw [eB, ek, hK]; grind
        exact (n1'.add ((ad.mul (n3'.sub nr' (by decide)) (by decide)).mul nr_six (by decide)) (by decide)).out (by rw [e2, ← hBθ]; grind) (by decide)
      · simp only [c3, decide_false, if_false, Bool.false_eq_true]
        have k4 := dn 4 (by decide) (by decide) (by rw [z4]; grind)
        have hpw : pw K s = 0 := by
          unfold pw
          repeat' split
          all_goals omega
        rw [hpw, Int.mul_zero, Int.add_zero]
        exact a1.wide (by grind)
/-- from lightness and share to least and greatest -/
theorem hls_back {l bs : UInt64} {W B lm σ : Rat} (hW : 0 ≤ W) (hB : 1 ≤ B) (hM : W + B ≤ 64) (al : Ap l lm eps) (hl : 2 * lm = (2 * W + B) / 64) (as : Ap bs σ eps) (s0 : 0 ≤ σ) (s1 : σ ≤ 1)
    (h : (leF l 4602678819172646912 = true ∧ (2 * W + B) * σ = B) ∨ (leF l 4602678819172646912 = false ∧ (128 - (2 * W + B)) * σ = B)) :
    Ap (m2F l bs) ((W + B) / 64) (8 * eps) ∧ Ap (m1F l bs) (W / 64) (12 * eps) := by
  have he := eps_pos
  have hes := eps_small
  have r1 : ((1 : Nat) : Rat) = 1 := rfl
  have r2 : ((2 : Nat) : Rat) = 2 := rfl
  have two : Nr 4611686018427387904 2 0 2 := Nr.zero (ex_two.ap.at (by decide +kernel)) (by decide +kernel) (by decide +kernel)
  have nl := Nr.one (P := 1) al (by rw [r1]; grind) (by rw [r1]; grind)
  have ns := Nr.one (P := 1) as (by rw [r1]; grind) (by rw [r1]; exact s1)
  have h2 : Nr (m2F l bs) ((W + B) / 64) 8 1 := by
    unfold m2F
    rcases h with ⟨hle, hσ⟩ | ⟨hle, hσ⟩
    · rw [if_pos hle]
      have a := nl.mul (nr_one.add ns (by decide)) (by decide)
      exact ⟨a.ap.wide (Rat.mul_le_mul_of_nonneg_right (Rat.natCast_le_natCast.mpr (by decide)) eps_nn) |>.at (by grind), by rw [r1]; grind, by rw [r1]; grind⟩
    · rw [if_neg (by rw [hle]; decide)]
      have a := (nl.add ns (by decide)).sub (nl.mul ns (by decide)) (by decide)
      exact ⟨a.ap.wide (Rat.mul_le_mul_of_nonneg_right (Rat.natCast_le_natCast.mpr (by decide)) eps_nn) |>.at (by grind), by rw [r1]; grind, by rw [r1]; grind⟩
  refine ⟨h2.ap, ?_⟩
  unfold m1F
  have a := (two.mul nl (by decide)).sub h2 (by decide)
  exact (a.ap.wide (Rat.mul_le_mul_of_nonneg_right (Rat.natCast_le_natCast.mpr (show _ ≤ 12 by decide)) eps_nn)).at (by grind)
end
end
section
section
open PySem PySem.Float64
theorem Ex.ne {x : UInt64} {a : Int} (h : Ex x a) (ha : a ≠ 0) : Float64.isZero x = false := by
  refine isZero_of ?_
  rw [h.rv]
  intro e
  have : (a : Rat) = ((0 : Int) : Rat) := by
    have z0 : ((0 : Int) : Rat) = 0 := rfl
    rw [z0]; grind
  exact ha (Rat.intCast_inj.mp this)
theorem rv_nul : Fin' 0 ∧ rv 0 = 0 := by
  have h : Ex 0 0 := ex_of (by decide +kernel)
  exact ⟨h.1, by rw [h.rv]; decide +kernel⟩
theorem ne_nul {x : UInt64} (hf : Fin' x) (h : 0 < rv x) : (Float64.cmp x 0 == some .eq) = false := by
  rw [cmp_eq hf rv_nul.1, rv_nul.2]
  exact decide_eq_false (by grind)
/-- what the gates of the conversions ask -/
structure Gates (x y z : UInt64) (M m : Int) : Prop where
  eM : Ex (max3 x y z) M
  em : Ex (min3 x y z) m
  d : Ex (Float64.sub (max3 x y z) (min3 x y z)) (M - m)
  a : Ex (Float64.add (max3 x y z) (min3 x y z)) (M + m)
  n : Ex (Float64.sub (Float64.sub 4611686018427387904 (max3 x y z)) (min3 x y z)) (128 - M - m)
  g1 : (Float64.cmp (min3 x y z) (max3 x y z) == some .eq) = false
  g2 : Float64.isZero (max3 x y z) = false
  g3 : Float64.isZero (Float64.sub (max3 x y z) (min3 x y z)) = false
  g4 : Float64.isZero (Float64.add (max3 x y z) (min3 x y z)) = false
  g5 : Float64.isZero (Float64.sub (Float64.sub 4611686018427387904 (max3 x y z)) (min3 x y z)) = false
theorem gates_of {s p u w a b c : Int} (k : Kol s p u w a b c) (hw : 0 ≤ w) (htop : w + u * s ≤ 64) : Gates (fl a) (fl b) (fl c) (w + u * s) w := by
  obtain ⟨⟨a0, a1, b0, b1, c0, c1⟩, hM, hm, _, hus⟩ := k
  have xM := max3_ex (ex_fl a0 a1) (ex_fl b0 b1) (ex_fl c0 c1)
  have xm := min3_ex (ex_fl a0 a1) (ex_fl b0 b1) (ex_fl c0 c1)
  rw [hM] at xM
  rw [hm] at xm
  have d := xM.sub xm (by omega) (by omega)
  have a := xM.add xm (by omega) (by omega)
  have n := (ex_two.sub xM (by omega) (by omega)).sub xm (by omega) (by omega)
  exact ⟨xM, xm, d, a, n, by rw [xm.eq xM]; exact decide_eq_false (by omega), xM.ne (by omega), d.ne (by omega), a.ne (by omega), n.ne (by omega)⟩
/-- three floats next to three numbers of 64ths -/
structure Out3 (o1 o2 o3 : UInt64) (c : Int × Int × Int) : Prop where
  a : Ap o1 ((c.1 : Rat) / 64) (1000 * eps)
  b : Ap o2 ((c.2.1 : Rat) / 64) (1000 * eps)
  c : Ap o3 ((c.2.2 : Rat) / 64) (1000 * eps)
theorem hue_rng {s p : Int} {q : Rat} (he : 6 * (s : Rat) * q = (p : Rat)) (hs : 1 ≤ s) (h0 : 0 ≤ p) (h1 : p < 6 * s) : 0 ≤ q ∧ q ≤ 1 := by
  have c0 := Rat.intCast_nonneg.mpr h0
  have c1 := Rat.intCast_le_intCast.mpr hs
  have c2 := Rat.intCast_lt_intCast.mpr h1
  have e6 : ((6 : Int) : Rat) = 6 := rfl
  have z1 : ((1 : Int) : Rat) = 1 := rfl
  rw [Rat.intCast_mul, e6] at c2
  rw [z1] at c1
  have hs0 : (0 : Rat) < 6 * (s : Rat) := by grind
  exact ⟨le_of_pos_mul (c := 6 * (s : Rat)) (by grind) hs0, le_of_pos_mul (c := 6 * (s : Rat)) (by grind) hs0⟩
theorem two_ap : Ap (Float64.ofInt 2) 2 0 := by
  obtain ⟨f, r⟩ := ofInt_rv (i := 2) (by decide) (by decide)
  exact (Ap.self f).at r
theorem glass_ap {gh bh : UInt64} {qg qb : Rat} (ag : Ap gh qg (4 * eps)) (ab : Ap bh qb (4 * eps)) (g0 : 0 ≤ qg ∧ qg ≤ 1) (b0 : 0 ≤ qb ∧ qb ≤ 1) :
    Ap (Float64.sub (Float64.mul (Float64.ofInt 2) gh) bh) (2 * qg - qb) (14 * eps) := by
  have he := eps_pos
  have hes := eps_small
  have a1 := mul_apv (v := 2 * qg) 2 2 two_ap ag rfl (by grind) (by grind) (by grind) (by grind) (by grind) (by grind) (by grind)
  exact (sub_ap a1 ab (by grind) (by grind)).wide (by grind)
theorem hsv_out {s u w px py : Int} {gh bh bs bv : UInt64} {qg qb σ : Rat} (hs : 1 ≤ s) (hs8 : s ≤ 8) (hu : 1 ≤ u) (hw : 0 ≤ w) (htop : w + u * s ≤ 64)
    (x0 : 0 ≤ px) (x1 : px < 6 * s) (y0 : 0 ≤ py) (y1 : py < 6 * s)
    (ag : Ap gh qg (4 * eps)) (ab : Ap bh qb (4 * eps)) (eg : 6 * (s : Rat) * qg = (py : Rat)) (eb : 6 * (s : Rat) * qb = (px : Rat))
    (aσ : Ap bs σ eps) (eσ : ((w + u * s : Int) : Rat) * σ = ((u * s : Int) : Rat)) (xv : Ex bv (w + u * s)) :
    Float64.isFinite (Float64.mul (Float64.add (Float64.sub (Float64.mul (Float64.ofInt 2) gh) bh) 4607182418800017408) 4618441417868443648) = true ∧
    ¬ Flt.Over (iF (Float64.add (Float64.sub (Float64.mul (Float64.ofInt 2) gh) bh) 4607182418800017408)) ∧
    Out3 (hsvrF (Float64.add (Float64.sub (Float64.mul (Float64.ofInt 2) gh) bh) 4607182418800017408) bs bv).1 (hsvrF (Float64.add (Float64.sub (Float64.mul (Float64.ofInt 2) gh) bh) 4607182418800017408) bs bv).2.1 (hsvrF (Float64.add (Float64.sub (Float64.mul (Float64.ofInt 2) gh) bh) 4607182418800017408) bs bv).2.2
      (colI ((2 * py - px) % (6 * s)) s u w) := by
  have he := eps_pos
  have hes := eps_small
  have hg := hue_rng eg hs y0 y1
  have hb := hue_rng eb hs x0 x1
  have a0 := glass_ap ag ab hg hb
  have one : Ap 4607182418800017408 1 0 := ex_one.ap.at (by decide +kernel)
  have ah : Ap (Float64.add (Float64.sub (Float64.mul (Float64.ofInt 2) gh) bh) 4607182418800017408) (6 * (2 * qg - qb + 1) / 6) (15 * eps) := ((add_ap a0 one (by grind) (by grind)).wide (by grind)).at (by grind)
  generalize Float64.add (Float64.sub (Float64.mul (Float64.ofInt 2) gh) bh) 4607182418800017408 = hh at *
  have z2 : ((2 : Int) : Rat) = 2 := rfl
  have z6 : ((6 : Int) : Rat) = 6 := rfl
  obtain ⟨hf, i0, i18, k, hN, k0, k1, aP, aQ, aT⟩ := hsv_back (N := 2 * py - px + 6 * s) hs hs8 hu hw htop ah (by rw [Rat.intCast_add, Rat.intCast_sub, Rat.intCast_mul, Rat.intCast_mul, z2, z6, ← eg, ← eb]; grind) (by omega) (by omega) aσ eσ xv
  refine ⟨hf, not_over (by omega) (by omega), ?_⟩
  have aV : Ap bv (((w + u * s : Int) : Rat) / 64) (1000 * eps) := xv.ap.wide (by grind)
  have hj0 := Int.emod_nonneg (iF hh) (show (6 : Int) ≠ 0 by decide)
  have hj1 := Int.emod_lt_of_pos (iF hh) (show (0 : Int) < 6 by decide)
  have hj := Int.mul_ediv_add_emod (iF hh) 6
  unfold hsvrF
  rw [Int.fmod_eq_emod_of_nonneg _ (show (0 : Int) ≤ 6 by decide)]
  have hd : (2 * py - px) % (6 * s) = (s * (iF hh % 6) + k) % (6 * s) := by
    have : 2 * py - px = s * (iF hh % 6) + k + 6 * s * (iF hh / 6 - 1) := by
      have e1 : s * iF hh = s * (6 * (iF hh / 6)) + s * (iF hh % 6) := by rw [← Int.mul_add, hj]
      have e2 : 6 * s * (iF hh / 6 - 1) = s * (6 * (iF hh / 6)) - 6 * s := by rw [Int.mul_sub, Int.mul_one, Int.mul_assoc, Int.mul_left_comm]
      omega
    rw [this, Int.add_mul_emod_self_left]
  rw [hd]
  generalize iF hh % 6 = j at *
  have S := sec_of (s := s) (u := u) (w := w) (j := j) (k := k) (by omega) hs8 ⟨hj0, by omega⟩ ⟨k0, k1⟩
  generalize colI ((s * j + k) % (6 * s)) s u w = cc at *
  obtain ⟨ca, cb, cc⟩ := cc
  obtain ⟨_, _, hv⟩ := S
  dsimp only at hv
  rcases hv with ⟨rfl, rfl, rfl, rfl⟩ | ⟨rfl, rfl, rfl, rfl⟩ | ⟨rfl, rfl, rfl, rfl⟩ | ⟨rfl, rfl, rfl, rfl⟩ | ⟨rfl, rfl, rfl, rfl⟩ | ⟨rfl, rfl, rfl, rfl⟩
  · exact ⟨aV, aT, aP⟩
  · exact ⟨aQ, aV, aP⟩
  · exact ⟨aP, aV, aT⟩
  · exact ⟨aP, aQ, aV⟩
  · exact ⟨aT, aP, aV⟩
  · exact ⟨aV, aP, aQ⟩
theorem hls_out {s u w px py : Int} {gh bh bs l : UInt64} {qg qb σ lm : Rat} (hs : 1 ≤ s) (hs8 : s ≤ 8) (hu : 1 ≤ u) (hw : 0 ≤ w) (htop : w + u * s ≤ 64)
    (x0 : 0 ≤ px) (x1 : px < 6 * s) (y0 : 0 ≤ py) (y1 : py < 6 * s)
    (ag : Ap gh qg (4 * eps)) (ab : Ap bh qb (4 * eps)) (eg : 6 * (s : Rat) * qg = (py : Rat)) (eb : 6 * (s : Rat) * qb = (px : Rat))
    (al : Ap l lm eps) (hl : 2 * lm = ((2 * w + u * s : Int) : Rat) / 64) (aσ : Ap bs σ eps) (s0 : 0 ≤ σ) (s1 : σ ≤ 1)
    (h : (leF l 4602678819172646912 = true ∧ ((2 * w + u * s : Int) : Rat) * σ = ((u * s : Int) : Rat)) ∨ (leF l 4602678819172646912 = false ∧ ((128 - (2 * w + u * s) : Int) : Rat) * σ = ((u * s : Int) : Rat))) :
    Out3 (hlsrF (Float64.sub (Float64.mul (Float64.ofInt 2) gh) bh) l bs).1 (hlsrF (Float64.sub (Float64.mul (Float64.ofInt 2) gh) bh) l bs).2.1 (hlsrF (Float64.sub (Float64.mul (Float64.ofInt 2) gh) bh) l bs).2.2
      (colI ((2 * py - px) % (6 * s)) s u w) := by
  have he := eps_pos
  have hes := eps_small
  have hg := hue_rng eg hs y0 y1
  have hb := hue_rng eb hs x0 x1
  have a0 := glass_ap ag ab hg hb
  have hB1 : 1 ≤ u * s := by
    have : 1 * 1 ≤ u * s := Int.mul_le_mul hu hs (by decide) (by omega)
    omega
  have z1 : ((1 : Int) : Rat) = 1 := rfl
  have z2 : ((2 : Int) : Rat) = 2 := rfl
  have z64 : ((64 : Int) : Rat) = 64 := rfl
  have z128 : ((128 : Int) : Rat) = 128 := rfl
  have cB := Rat.intCast_le_intCast.mpr hB1
  rw [z1] at cB
  have cw : (0 : Rat) ≤ (w : Rat) := Rat.intCast_nonneg.mpr hw
  have cM := Rat.intCast_le_intCast.mpr htop
  rw [z64, Rat.intCast_add] at cM
  rw [Rat.intCast_sub, Rat.intCast_add, Rat.intCast_mul (a := 2), z2, z128] at h
  rw [Rat.intCast_add, Rat.intCast_mul (a := 2), z2] at hl
  have eM : ((w + u * s : Int) : Rat) = (w : Rat) + ((u * s : Int) : Rat) := Rat.intCast_add _ _
  obtain ⟨am2, am1⟩ := hls_back cw cB cM al hl aσ s0 s1 h
  rw [← eM] at am2
  unfold hlsrF
  dsimp only
  have third := ap_third
  have ar := (add_ap a0 third (by grind) (by grind)).wide (show 14 * eps + eps + eps ≤ 16 * eps by grind)
  have agr := a0.wide (show 14 * eps ≤ 16 * eps by grind)
  have abl := (sub_ap a0 third (by grind) (by grind)).wide (show 14 * eps + eps + eps ≤ 16 * eps by grind)
  obtain ⟨K1, n1, e1, c1, d1, o1⟩ := vF_ap (K0 := 2 * py - px + 2 * s) hs hs8 hu hw htop am1 am2 ar (by rw [Rat.intCast_add, Rat.intCast_sub, Rat.intCast_mul, Rat.intCast_mul, z2, ← eg, ← eb]; grind)
  obtain ⟨K2, n2, e2, c2, d2, o2⟩ := vF_ap (K0 := 2 * py - px) hs hs8 hu hw htop am1 am2 agr (by rw [Rat.intCast_sub, Rat.intCast_mul, z2, ← eg, ← eb]; grind)
  obtain ⟨K3, n3, e3, c3, d3, o3⟩ := vF_ap (K0 := 2 * py - px - 2 * s) hs hs8 hu hw htop am1 am2 abl (by rw [Rat.intCast_sub, Rat.intCast_sub, Rat.intCast_mul, Rat.intCast_mul, z2, ← eg, ← eb]; grind)
  rw [colI_amt]
  have p1 := amt_pw (D := 2 * py - px) (n := n1) (o := 1) hs hs8 (.inl rfl) (by omega) c1 d1
  have p2 := amt_pw (D := 2 * py - px) (n := n2) (o := 0) hs hs8 (.inr (.inl rfl)) (by omega) c2 d2
  have p3 := amt_pw (D := 2 * py - px) (n := n3) (o := -1) hs hs8 (.inr (.inr rfl)) (by omega) c3 d3
  rw [show 2 * s - 2 * s * 1 = 0 by omega] at p1
  rw [show 2 * s - 2 * s * 0 = 2 * s by omega] at p2
  rw [show 2 * s - 2 * s * -1 = 4 * s by omega] at p3
  rw [p1, p2, p3]
  exact ⟨o1, o2, o3⟩
end
theorem mir_call (w : World) (mean : ExcName → Option Value) (mg mb : Str → Option Value) (news : List (Addr × Obj)) (side : Int) (x y : Cs) (Bl Ab : Addr) (light : Bool)
    (hB : Has news Bl side x) (hA : Has news Ab side y) (gx : Gd side x) (gy : Gd side y) :
    Calls w mean mg mb 89 news [.ref Bl, .ref Ab, .bool light] 3 (RetC news side (mirC side x y)) := by
  have hee := eps_pos
  have hes := eps_small
  obtain ⟨t1, t2, t3, n, hB⟩ := hB
  obtain ⟨u1, u2, u3, n', hA⟩ := hA
  have kx := kol_of gx
  have ky := kol_of gy
  have kz := kol_of (gx.mir (y := y))
  have Gx := gates_of kx gx.w0 gx.top
  have Gy := gates_of ky gy.w0 gy.top
  obtain ⟨qb, ab, eb⟩ := hue_col kx gx.s1 gx.u1
  obtain ⟨qg, ag, eg⟩ := hue_col ky gy.s1 gy.u1
  obtain ⟨hx1, hx2, hx3, hx4, hx5, hx6⟩ := kx.inb
  have hus := kx.us
  have hw0 := gx.w0
  have htop := gx.top
  have cB : (1 : Rat) ≤ ((x.u * side : Int) : Rat) := by
    have := Rat.intCast_le_intCast.mpr hus
    exact this
  have cM := Rat.intCast_le_intCast.mpr htop
  have cw : (0 : Rat) ≤ (x.w : Rat) := Rat.intCast_nonneg.mpr hw0
  have z64 : ((64 : Int) : Rat) = 64 := rfl
  have z128 : ((128 : Int) : Rat) = 128 := rfl
  have z2 : ((2 : Int) : Rat) = 2 := rfl
  rw [z64, Rat.intCast_add] at cM
  have fin : ∀ {o1 o2 o3 : UInt64}, Out3 o1 o2 o3 (colI (mirC side x y).p side (mirC side x y).u (mirC side x y).w) →
      (Float64.isFinite (Float64.mul (Float64.ofInt 64) o1) = true ∧ Float64.isFinite (Float64.mul (Float64.ofInt 64) o2) = true ∧ Float64.isFinite (Float64.mul (Float64.ofInt 64) o3) = true) ∧
      (rndF (Float64.mul (Float64.ofInt 64) o1), rndF (Float64.mul (Float64.ofInt 64) o2), rndF (Float64.mul (Float64.ofInt 64) o3)) = colI (mirC side x y).p side (mirC side x y).u (mirC side x y).w := by
    intro o1 o2 o3 O
    obtain ⟨i1, i2, i3, i4, i5, i6⟩ := kz.inb
    have r1 := part_round O.a i1 i2
    have r2 := part_round O.b i3 i4
    have r3 := part_round O.c i5 i6
    exact ⟨⟨r1.1, r2.1, r3.1⟩, by rw [r1.2, r2.2, r3.2]⟩
  have give : ∀ {o1 o2 o3 : UInt64}, (rndF (Float64.mul (Float64.ofInt 64) o1), rndF (Float64.mul (Float64.ofInt 64) o2), rndF (Float64.mul (Float64.ofInt 64) o3)) = colI (mirC side x y).p side (mirC side x y).u (mirC side x y).w →
      Calls w mean mg mb 89 news [.ref Bl, .ref Ab, .bool light] 3 (RetL news (rndF (Float64.mul (Float64.ofInt 64) o1), rndF (Float64.mul (Float64.ofInt 64) o2), rndF (Float64.mul (Float64.ofInt 64) o3))) →
      Calls w mean mg mb 89 news [.ref Bl, .ref Ab, .bool light] 3 (RetC news side (mirC side x y)) := by
    intro o1 o2 o3 e C
    rw [e] at C
    intro dp un gd cn cs a ccd cl outer A₀ base h₀ L m s Q E B F X N T hk hd' hu hret
    refine C dp un gd cn cs a ccd cl outer A₀ base h₀ L m s Q E B F X N T hk hd' hu ?_
    intro D v1 v2 v3 c h' tk' F' N' l'
    exact hret D h' tk' _ F' N' ⟨v1, v2, v3, c, rfl⟩ l'
  cases light
  · have hσ := ratio_ap Gx.d Gx.eM (by omega) (by omega) (by omega)
    obtain ⟨σ, aσ, eσ, σ0, σ1⟩ := hσ
    have eσ' : ((x.w + x.u * side : Int) : Rat) * σ = ((x.u * side : Int) : Rat) := by rw [eσ]; congr 1; omega
    have hσpos : 1 ≤ 64 * σ := by
      rw [Rat.intCast_add] at eσ'
      have := Rat.mul_nonneg (show 0 ≤ 64 - ((x.w : Rat) + ((x.u * side : Int) : Rat)) by grind) σ0
      grind
    obtain ⟨f0, f1, O⟩ := hsv_out gx.s1 gx.s8 gx.u1 hw0 htop gx.p0 gx.p1 gy.p0 gy.p1 ag ab eg eb aσ eσ' Gx.eM
    obtain ⟨⟨m1, m2, m3⟩, e⟩ := fin O
    exact give e (mirV_call w mean mg mb news _ _ _ _ _ _ Bl Ab t1 t2 t3 u1 u2 u3 n n' _ _ _ _ _ _ _ _ _ _ _ _ _ _ _ hB hA kx.inb ky.inb rfl rfl rfl rfl rfl rfl Gx.g1 Gx.g2 Gx.g3 Gy.g1 Gy.g2 Gy.g3 rfl rfl (ne_nul aσ.fin (by have := aσ.lo; grind)) f0 f1 rfl m1 m2 m3)
  · have hl0 := (div_rv (q := ((2 * x.w + x.u * side : Int) : Rat) / 128) Gx.a.1 ex_two.1 (by rw [ex_two.rv]; decide +kernel) (by rw [ex_two.rv, Gx.a.rv, z128, Rat.intCast_add, Rat.intCast_add, Rat.intCast_add, Rat.intCast_mul (a := 2), z2]; grind) (by rw [Rat.intCast_add, Rat.intCast_mul (a := 2), z2]; grind) (by rw [Rat.intCast_add, Rat.intCast_mul (a := 2), z2]; grind)).1
    have hσ : ∃ σ : Rat, Ap (hlsF (fl (colI x.p side x.u x.w).1) (fl (colI x.p side x.u x.w).2.1) (fl (colI x.p side x.u x.w).2.2)).2.2 σ eps ∧ 0 ≤ σ ∧ σ ≤ 1 ∧ 1 ≤ 128 * σ ∧
        ((leF (lF (fl (colI x.p side x.u x.w).1) (fl (colI x.p side x.u x.w).2.1) (fl (colI x.p side x.u x.w).2.2)) 4602678819172646912 = true ∧ ((2 * x.w + x.u * side : Int) : Rat) * σ = ((x.u * side : Int) : Rat)) ∨
          (leF (lF (fl (colI x.p side x.u x.w).1) (fl (colI x.p side x.u x.w).2.1) (fl (colI x.p side x.u x.w).2.2)) 4602678819172646912 = false ∧ ((128 - (2 * x.w + x.u * side) : Int) : Rat) * σ = ((x.u * side : Int) : Rat))) := by
      unfold hlsF
      dsimp only
      cases hle : leF (lF (fl (colI x.p side x.u x.w).1) (fl (colI x.p side x.u x.w).2.1) (fl (colI x.p side x.u x.w).2.2)) 4602678819172646912
      · rw [if_neg (by decide)]
        obtain ⟨σ, aσ, eσ, σ0, σ1⟩ := ratio_ap Gx.d Gx.n (by omega) (by omega) (by omega)
        have eσ' : ((128 - (2 * x.w + x.u * side) : Int) : Rat) * σ = ((x.u * side : Int) : Rat) := by
          rw [show 128 - (2 * x.w + x.u * side) = 128 - (x.w + x.u * side) - x.w by omega, eσ]; congr 1; omega
        refine ⟨σ, aσ, σ0, σ1, ?_, .inr ⟨rfl, eσ'⟩⟩
        rw [Rat.intCast_sub, Rat.intCast_add, Rat.intCast_mul (a := 2), z2, z128] at eσ'
        have := Rat.mul_nonneg (show 0 ≤ (2 * (x.w : Rat) + ((x.u * side : Int) : Rat)) by grind) σ0
        grind
      · rw [if_pos rfl]
        obtain ⟨σ, aσ, eσ, σ0, σ1⟩ := ratio_ap Gx.d Gx.a (by omega) (by omega) (by omega)
        have eσ' : ((2 * x.w + x.u * side : Int) : Rat) * σ = ((x.u * side : Int) : Rat) := by
          rw [show 2 * x.w + x.u * side = x.w + x.u * side + x.w by omega, eσ]; congr 1; omega
        refine ⟨σ, aσ, σ0, σ1, ?_, .inl ⟨rfl, eσ'⟩⟩
        rw [Rat.intCast_add, Rat.intCast_mul (a := 2), z2] at eσ'
        have := Rat.mul_nonneg (show 0 ≤ 128 - (2 * (x.w : Rat) + ((x.u * side : Int) : Rat)) by grind) σ0
        grind
    obtain ⟨σ, aσ, σ0, σ1, σp, hc⟩ := hσ
    have hne := ne_nul aσ.fin (by have := aσ.lo; grind)
    have O := hls_out gx.s1 gx.s8 gx.u1 hw0 htop gx.p0 gx.p1 gy.p0 gy.p1 ag ab eg eb (l := lF (fl (colI x.p side x.u x.w).1) (fl (colI x.p side x.u x.w).2.1) (fl (colI x.p side x.u x.w).2.2)) hl0 (by grind) aσ σ0 σ1 hc
    obtain ⟨⟨m1, m2, m3⟩, e⟩ := fin O
    exact give e (mirL_call w mean mg mb news _ _ _ _ _ _ Bl Ab t1 t2 t3 u1 u2 u3 n n' _ _ _ _ _ _ _ _ _ _ _ _ _ _ _ hB hA kx.inb ky.inb rfl rfl rfl rfl rfl rfl Gx.g1 Gx.g4 Gx.g5 Gx.g3 Gy.g1 Gy.g4 Gy.g5 Gy.g3 rfl rfl hne rfl m1 m2 m3)
end
section
noncomputable abbrev St3 := Cs × Cs × Cs
noncomputable def bstep (side : Int) (s : St3) (n : Int) : St3 :=
  if n = 0 then (s.2.1, mirC side s.1 s.2.1, s.2.2) else if n = 1 then (mirC side s.2.1 s.1, s.1, s.2.2)
  else if n = 2 then (s.1, s.2.2, mirC side s.2.1 s.2.2) else (s.1, mirC side s.2.2 s.2.1, s.2.1)
noncomputable abbrev rowO (A B C : Addr) (n : Nat) : Obj := { cls := .type "list", data := .seq #[.ref A, .ref B, .ref C] n }
/-- three colours in a list -/
structure Row3 (news : List (Addr × Obj)) (side : Int) (A B C : Addr) (s : St3) : Prop where
  a : Has news A side s.1
  b : Has news B side s.2.1
  c : Has news C side s.2.2
  ga : Gd side s.1
  gb : Gd side s.2.1
  gc : Gd side s.2.2
theorem Row3.mono {news news' : List (Addr × Obj)} {side : Int} {A B C : Addr} {s : St3} (h : Row3 news side A B C s) (k : ∀ p ∈ news, p ∈ news') : Row3 news' side A B C s := ⟨h.a.mono k, h.b.mono k, h.c.mono k, h.ga, h.gb, h.gc⟩
noncomputable abbrev RetB (news : List (Addr × Obj)) (side : Int) (st : St3) (h₀ : Heap) (L : Addr) (m : Str → Option Value) (s : Shared) (Q : Value → Shared → Prop) : Prop :=
  ∀ (S A B C : Addr) (n : Nat) (news' : List (Addr × Obj)) (h' : Heap) (tk' : Nat), Fr h₀ L h' m → News h₀ L h' ((S, rowO A B C n) :: news') → (∀ p ∈ news, p ∈ news') → Row3 news' side A B C st → (∀ p ∈ news', p.1 ≠ S) →
    Q (.ref S) { s with heap := h', toks := tk' }
noncomputable def BInv (side : Int) (S I : Addr) (news : List (Addr × Obj)) (st : St3) (m : Str → Option Value) (led : List (Addr × Obj)) : Prop :=
  ∃ A B C n light news₁, led = (S, rowO A B C n) :: news₁ ∧ (∀ p ∈ news, p ∈ news₁) ∧ (∀ p ∈ news₁, p.1 ≠ S) ∧ (∀ p ∈ news₁, p.1 ≠ I) ∧ Row3 news₁ side A B C st ∧ m "strands" = some (.ref S) ∧ m "light" = some (.bool light)
theorem Has.new {news : List (Addr × Obj)} {D : Addr} {ob : Obj} {side : Int} {x : Cs} (e : ∃ t1 t2 t3 n, ob = cobj side x t1 t2 t3 n) : Has ((D, ob) :: news) D side x := by
  obtain ⟨t1, t2, t3, n, rfl⟩ := e
  exact ⟨t1, t2, t3, n, List.mem_cons_self⟩
theorem Has.old {news : List (Addr × Obj)} {A : Addr} {q : Addr × Obj} {side : Int} {x : Cs} (h : Has news A side x) : Has (q :: news) A side x := h.mono fun _ hp => List.mem_cons_of_mem _ hp
theorem braid_end {h₀ h' : Heap} {L S I D T W X Y Z : Addr} {m' : Str → Option Value} {o ob tp wo : Obj} {n : Nat} {side : Int} {news news₁ : List (Addr × Obj)} {st : St3} {light : Bool} {s₁ : Shared} {tk : Nat}
    (F : Fr h₀ L h' m') (N : News h₀ L h' ((D, ob) :: (T, tp) :: (I, o) :: (S, rowO X Y Z n) :: news₁)) (nS : S ≠ D) (nI : I ≠ D) (hSI : S ≠ I) (hS1 : ∀ p ∈ news₁, p.1 ≠ S) (hI1 : ∀ p ∈ news₁, p.1 ≠ I) (hsub : ∀ p ∈ news, p ∈ news₁) (hW : (W, wo) ∈ news)
    (hrow : Row3 ((D, ob) :: news₁) side X Y Z st) (hm1 : m' "strands" = some (.ref S)) (hm2 : m' "light" = some (.bool light)) :
    UnrEndW h₀ L s₁ [(I, o)] (fun m' n' => SubL [(W, wo)] n' ∧ BInv side S I news st m' n') { s₁ with heap := h', toks := tk } := by
  refine ⟨h', tk, m', (S, rowO X Y Z n) :: (D, ob) :: news₁, rfl, F, fun p hp => N p ?_, fun p hp q hq => ?_, ⟨List.mem_cons_of_mem _ (List.mem_cons_of_mem _ (hsub _ hW)), trivial⟩, X, Y, Z, n, light, (D, ob) :: news₁, rfl, fun p hp => List.mem_cons_of_mem _ (hsub p hp), ?_, ?_, hrow, hm1, hm2⟩
  · rcases List.mem_cons.mp hp with rfl | hp
    · kcf_m
    · rcases List.mem_cons.mp hp with rfl | hp
      · kcf_m
      · rcases List.mem_cons.mp hp with rfl | hp <;> kcf_m
  · rw [List.mem_singleton.mp hq]
    rcases List.mem_cons.mp hp with rfl | hp
    · exact hSI
    · rcases List.mem_cons.mp hp with rfl | hp
      · exact Ne.symm nI
      · exact hI1 p hp
  · intro p hp
    rcases List.mem_cons.mp hp with rfl | hp
    · exact Ne.symm nS
    · exact hS1 p hp
  · intro p hp
    rcases List.mem_cons.mp hp with rfl | hp
    · exact Ne.symm nI
    · exact hI1 p hp
noncomputable def letterOf : Value → Int
  | .int n _ => n
  | _ => 0
noncomputable def isLetter (v : Value) : Prop := ∃ n t, v = .int n t ∧ 0 ≤ n ∧ n < 4
theorem regW90 : True := by
  k_with_none
  (k_with "call type:list" => (k_here; refine Halt.go ?_))
  (k_with "pyIter ref" => (k_here; refine Halt.go ?_))
  (k_with "eval Name" => (k_here; k_dflt (refine' ld (by k_asm) (by assumption) ?_; k_whole)))
  (k_with "subscriptTail" => (k_here; (with_reducible show wpAny _ _ (subscriptTail _ _ (Value.ref _) (Value.int _ _)) _ _ _); (with_unfolding_all refine' item_news (by k_asm) (by kcf_m) (by decide) (by decide) (by rfl) ?_ (by with_unfolding_all rfl); k_whole)))
  (k_with "subscriptTail Name Constant ref int" => (k_here; (with_reducible show wpAny _ _ (subscriptTail _ _ (Value.ref _) (Value.int _ _)) _ _ _); (with_unfolding_all refine' item_news (by k_asm) (by kcf_m) (by decide) (by decide) (by rfl) ?_ (by with_unfolding_all rfl); k_whole)))
  (k_with "subscriptTail Name Name ref int" => (k_here; (with_reducible show wpAny _ _ (subscriptTail _ _ (Value.ref _) (Value.int _ _)) _ _ _); (with_unfolding_all refine' item_news (by k_asm) (by kcf_m) (by decide) (by decide) (by rfl) ?_ (by with_unfolding_all rfl); k_whole)))
  (k_with "subscriptTail Subscript Constant ref int" => (k_here; (with_reducible show wpAny _ _ (subscriptTail _ _ (Value.ref _) (Value.int _ _)) _ _ _); (with_unfolding_all refine' item_news (by k_asm) (by kcf_m) (by decide) (by decide) (by rfl) ?_ (by with_unfolding_all rfl); k_whole)))
  (k_with "subscriptTail Name BinOp ref int" => (k_here; (with_reducible show wpAny _ _ (subscriptTail _ _ (Value.ref _) (Value.int _ _)) _ _ _); (with_unfolding_all refine' item_news (by k_asm) (by kcf_m) (by decide) (by decide) (by rfl) ?_ (by with_unfolding_all rfl); k_whole)))
  (k_with "subscriptTail Call Constant ref int" => (k_here; (with_reducible show wpAny _ _ (subscriptTail _ _ (Value.ref _) (Value.int _ _)) _ _ _); (with_unfolding_all refine' item_news (by k_asm) (by kcf_m) (by decide) (by decide) (by rfl) ?_ (by with_unfolding_all rfl); k_whole)))
  (k_with "subscriptTail Subscript Name ref int" => (k_here; (with_reducible show wpAny _ _ (subscriptTail _ _ (Value.ref _) (Value.int _ _)) _ _ _); (with_unfolding_all refine' item_news (by k_asm) (by kcf_m) (by decide) (by decide) (by rfl) ?_ (by with_unfolding_all rfl); k_whole)))
  (k_with "call ref" => (k_here; (with_reducible show wpAny _ _ (call (Value.ref 89) _) _ _ _); k_dflt (refine' Calls.use2 (by k_asm) (by k_asm) (by k_asm) (by k_asm) (by k_asm) (by first | exact rfl | assumption) (by ktr_room) (by ktr_units) (mir_call _ _ _ _ _ _ _ _ _ _ _ (by (refine Has.mono (by assumption) ?_; intro p'Z hp'Z; kcf_m)) (by (refine Has.mono (by assumption) ?_; intro p'Z hp'Z; kcf_m)) (by k_asm) (by k_asm)) ?_; k_whole; intro D9Z h9Z tk9Z ob9Z F9Z N9Z e9Z l9Z; (repeat (obtain ⟨n9Z, l9Z⟩ := List.forall_mem_cons.mp l9Z)); (try dsimp only at *); (try k_fold))))
  (k_with "k_ne" => first | assumption | exact Ne.symm (by assumption))
  (k_with "UnrEndW" => (k_here; refine Halt.go ?_))
  (k_with "exec For Name Name cons nil" => (k_here; (rename Fr _ _ _ _ => lF'Z); (with_unfolding_all refine' For_turns lF'Z ?_; k_whole)))
  (k_with "exec For Name Call cons nil" => (k_here; (rename Fr _ _ _ _ => lF'Z); (with_unfolding_all refine' For_turns lF'Z ?_; k_whole)))
  (k_with "exec For Name Tuple cons nil" => (k_here; (rename Fr _ _ _ _ => lF'Z); (with_unfolding_all refine' For_turns lF'Z ?_; k_whole)))
  trivial
set_option maxRecDepth 100000 in
set_option maxHeartbeats 1000000 in
theorem braid_call (w : World) (mean : ExcName → Option Value) (mg mb : Str → Option Value) (news : List (Addr × Obj)) (side : Int) (W R RA RB RC : Addr) (vs : List Value) (n k : Nat) (st : St3)
    (hW : (W, ({ cls := .type "list", data := .seq vs.toArray k } : Obj)) ∈ news) (hR : (R, rowO RA RB RC n) ∈ news) (hr : Row3 news side RA RB RC st) (hv : ∀ v ∈ vs, isLetter v) :
    Calls w mean mg mb 96 news [.ref W, .ref R] 4 (RetB news side (vs.foldl (fun s v => bstep side s (letterOf v)) st)) := by
  dsimp only [Calls, Frag0, Pg, Lo, RetB]
  k_fill
  intro dp un gd cn cs a ccd cl outer A₀ base h₀ L m s Q E B F X N T hk hd' hu hret
  refine wpAny_call ?_
  w_on
  w_strict (k_dflt cell_enter; k_steps)
  unfold Halt
  refine list_copyK (by assumption) (by assumption) ⟨_, News.get (by assumption) hR, rfl, n, rfl⟩ (fun S c h' F N hS => ?_) (by size_fits)
  w_strict k_steps
  unfold Halt
  refine iter_listTurns (ax := W) (vs := vs) rfl (by assumption) (by assumption) (List.mem_cons_of_mem _ hW) rfl rfl (fun I hI => ?_)
  have hSn : ∀ p ∈ news, p.1 ≠ S := fun p hp => Nat.ne_of_lt (hS p hp)
  have hIn : ∀ p ∈ news, p.1 ≠ I := fun p hp => Nat.ne_of_lt (hI p (List.mem_cons_of_mem _ hp))
  k_lt hI
  obtain ⟨hSI, hI⟩ := hI
  have hSI' : S ≠ I := Nat.ne_of_lt hSI
  refine items_fold (BInv side S I news) (fun s v => bstep side s (letterOf v)) isLetter ?turn vs st _ _ hv ⟨RA, RB, RC, c, false, news, rfl, fun _ h => h, hSn, hIn, hr, rfl, rfl⟩ ?fin
  case fin =>
    intro m' news' hi h tk F N
    obtain ⟨A', B', C', n', light, news₁, rfl, hsub, hS1, hI1, hrow, hm1, hm2⟩ := hi
    w_strict k_steps
    exact hret _ _ _ _ _ _ _ _ (by assumption) (by assumption) hsub hrow hS1
  case turn =>
    intro st v m led h tk o hv hi ho F N
    obtain ⟨A', B', C', n', light, news₁, rfl, hsub, hS1, hI1, hrow, hm1, hm2⟩ := hi
    obtain ⟨nn, t, rfl, h0, h4⟩ := hv
    obtain ⟨st1, st2, st3⟩ := st
    obtain ⟨ha, hb, hc, ga, gb, gc⟩ := hrow
    dsimp only at ha hb hc ga gb gc
    have hcases : nn = 0 ∨ nn = 1 ∨ nn = 2 ∨ nn = 3 := by omega
    rcases hcases with rfl | rfl | rfl | rfl
    · w_strict k_steps
      unfold Halt
      (rename Fr _ _ _ _ => F9); exact braid_end F9 (by assumption) (by assumption) (by assumption) hSI' hS1 hI1 hsub hW ⟨hb.old, Has.new (by assumption), hc.old, gb, ga.mir, gc⟩ hm1 rfl
    · w_strict k_steps
      unfold Halt
      (rename Fr _ _ _ _ => F9); exact braid_end F9 (by assumption) (by assumption) (by assumption) hSI' hS1 hI1 hsub hW ⟨Has.new (by assumption), ha.old, hc.old, gb.mir, ga, gc⟩ hm1 rfl
    · w_strict k_steps
      unfold Halt
      (rename Fr _ _ _ _ => F9); exact braid_end F9 (by assumption) (by assumption) (by assumption) hSI' hS1 hI1 hsub hW ⟨ha.old, hc.old, Has.new (by assumption), ga, gc, gb.mir⟩ hm1 rfl
    · w_strict k_steps
      unfold Halt
      (rename Fr _ _ _ _ => F9); exact braid_end F9 (by assumption) (by assumption) (by assumption) hSI' hS1 hI1 hsub hW ⟨ha.old, Has.new (by assumption), hb.old, ga, gc.mir, gb⟩ hm1 rfl
end
section
noncomputable abbrev T4 := Int × Int × Int × Int
noncomputable def tstep (s : T4) (n : Int) : T4 :=
  if n = 0 then (s.1, s.2.1, s.2.2.1 - s.1, s.2.2.2 - s.2.1) else if n = 1 then (s.1, s.2.1, s.2.2.1 + s.1, s.2.2.2 + s.2.1)
  else if n = 2 then (s.1 + s.2.2.1, s.2.1 + s.2.2.2, s.2.2.1, s.2.2.2) else (s.1 - s.2.2.1, s.2.1 - s.2.2.2, s.2.2.1, s.2.2.2)
noncomputable def TInv (news : List (Addr × Obj)) (I : Addr) (st : T4) (m : Str → Option Value) (led : List (Addr × Obj)) : Prop :=
  led = news ∧ ∃ ta tb tc td, m "a" = some (.int st.1 ta) ∧ m "b" = some (.int st.2.1 tb) ∧ m "c" = some (.int st.2.2.1 tc) ∧ m "d" = some (.int st.2.2.2 td)
/-- a new tuple of four ints comes back -/
noncomputable abbrev Ret4 (news : List (Addr × Obj)) (x : T4) (h₀ : Heap) (L : Addr) (m : Str → Option Value) (s : Shared) (Q : Value → Shared → Prop) : Prop :=
  ∀ (D : Addr) (t1 t2 t3 t4 : Tok) (c : Nat) (h' : Heap) (tk' : Nat), Fr h₀ L h' m → News h₀ L h' ((D, ({ cls := .type "tuple", data := .seq #[.int x.1 t1, .int x.2.1 t2, .int x.2.2.1 t3, .int x.2.2.2 t4] c } : Obj)) :: news) → (∀ p ∈ news, p.1 < D) →
    Q (.ref D) { s with heap := h', toks := tk' }
theorem regW100 : True := by
  k_with_none
  (k_with "call ref" => (k_here; (with_reducible show wpAny _ _ (call (Value.ref 56) _) _ _ _); k_dflt (refine' Calls.use2 (by k_asm) (by k_asm) (by k_asm) (by k_asm) (by k_asm) (by first | exact rfl | assumption) (by ktr_room) (by ktr_units) (add_ii_call _ _ _ _ _ _ _ _ _ ) ?_; k_whole; intro t9Z h9Z tk9Z F9Z N9Z; (try dsimp only); (try k_fold))))
  (k_with "call ref" => (k_here; (with_reducible show wpAny _ _ (call (Value.ref 77) _) _ _ _); k_dflt (refine' Calls.use2 (by k_asm) (by k_asm) (by k_asm) (by k_asm) (by k_asm) (by first | exact rfl | assumption) (by ktr_room) (by ktr_units) (sub_ii_call _ _ _ _ _ _ _ _ _ ) ?_; k_whole; intro t9Z h9Z tk9Z F9Z N9Z; (try dsimp only); (try k_fold))))
  (k_with "pyIter ref" => (k_here; refine Halt.go ?_))
  (k_with "eval Name" => (k_here; k_dflt (refine' ld (by k_asm) (by assumption) ?_; k_whole)))
  (k_with "UnrEndW" => (k_here; refine Halt.go ?_))
  (k_with "exec For Name Name cons nil" => (k_here; (rename Fr _ _ _ _ => lF'Z); (with_unfolding_all refine' For_turns lF'Z ?_; k_whole)))
  (k_with "exec For Name Call cons nil" => (k_here; (rename Fr _ _ _ _ => lF'Z); (with_unfolding_all refine' For_turns lF'Z ?_; k_whole)))
  (k_with "exec For Name Tuple cons nil" => (k_here; (rename Fr _ _ _ _ => lF'Z); (with_unfolding_all refine' For_turns lF'Z ?_; k_whole)))
  trivial
set_option maxRecDepth 100000 in
set_option maxHeartbeats 1000000 in
theorem table_call (w : World) (mean : ExcName → Option Value) (mg mb : Str → Option Value) (news : List (Addr × Obj)) (W : Addr) (vs : List Value) (k : Nat)
    (hW : (W, ({ cls := .type "list", data := .seq vs.toArray k } : Obj)) ∈ news) (hv : ∀ v ∈ vs, isLetter v) :
    Calls w mean mg mb 103 news [.ref W] 2 (Ret4 news (vs.foldl (fun s v => tstep s (letterOf v)) (1, 0, 0, 1))) := by
  dsimp only [Calls, Frag0, Pg, Lo, Ret4]
  k_fill
  intro dp un gd cn cs a ccd cl outer A₀ base h₀ L m s Q E B F X N T hk hd' hu hret
  refine wpAny_call ?_
  w_on
  w_strict (k_dflt cell_enter; k_steps)
  unfold Halt
  (rename News _ _ _ _ => N9)
  refine iter_listTurns (ax := W) (vs := vs) rfl (by assumption) (news_drop N9) hW rfl rfl (fun I hI => ?_)
  have hIn : ∀ p ∈ news, p.1 ≠ I := fun p hp => Nat.ne_of_lt (hI p hp)
  clear N9
  refine items_fold (TInv news I) (fun s v => tstep s (letterOf v)) isLetter ?turn vs (1, 0, 0, 1) _ _ hv ⟨rfl, _, _, _, _, rfl, rfl, rfl, rfl⟩ ?fin
  case fin =>
    intro m' news' hi h tk F N
    obtain ⟨rfl, ta, tb, tc, td, hma, hmb, hmc, hmd⟩ := hi
    w_strict k_steps
    exact hret _ _ _ _ _ _ _ _ (by assumption) (by assumption) (by assumption)
  case turn =>
    intro st v m led h tk o hv hi ho F N
    obtain ⟨rfl, ta, tb, tc, td, hma, hmb, hmc, hmd⟩ := hi
    obtain ⟨nn, t, rfl, h0, h4⟩ := hv
    obtain ⟨st1, st2, st3, st4⟩ := st
    dsimp only at hma hmb hmc hmd
    have hcases : nn = 0 ∨ nn = 1 ∨ nn = 2 ∨ nn = 3 := by omega
    rcases hcases with rfl | rfl | rfl | rfl
    · w_strict k_steps
      unfold Halt
      (rename Fr _ _ _ _ => F9)
      (rename News _ _ _ _ => N9)
      exact unrEndW_intro F9 (news_drop N9) hIn ⟨⟨hW, trivial⟩, rfl, _, _, _, _, hma, hmb, rfl, rfl⟩
    · w_strict k_steps
      unfold Halt
      (rename Fr _ _ _ _ => F9)
      (rename News _ _ _ _ => N9)
      exact unrEndW_intro F9 (news_drop N9) hIn ⟨⟨hW, trivial⟩, rfl, _, _, _, _, hma, hmb, rfl, rfl⟩
    · w_strict k_steps
      unfold Halt
      (rename Fr _ _ _ _ => F9)
      (rename News _ _ _ _ => N9)
      exact unrEndW_intro F9 (news_drop N9) hIn ⟨⟨hW, trivial⟩, rfl, _, _, _, _, rfl, rfl, hmc, hmd⟩
    · w_strict k_steps
      unfold Halt
      (rename Fr _ _ _ _ => F9)
      (rename News _ _ _ _ => N9)
      exact unrEndW_intro F9 (news_drop N9) hIn ⟨⟨hW, trivial⟩, rfl, _, _, _, _, rfl, rfl, hmc, hmd⟩
end
section
noncomputable def lawBody : List Stmt := match Pg.main.body.getLast? with
  | some (.FunctionDef _ _ b _ _ _ _ _ _ _) => b
  | _ => []
noncomputable def lawScope : Scope := match Pg.main.body.getLast? with
  | some (.FunctionDef _ _ _ _ _ _ sc _ _ _) => sc
  | _ => { kind := .function, names := [], isGenerator := false, isCoroutine := false, more := [] }
noncomputable def st (i : Nat) : Stmt := (lawBody[i]?).getD (.Pass ⟨0, 0, 0, 0⟩)
theorem lb_len : lawBody.length = 26 := by rfl
end
section
theorem ints_more {P : Prop} {ws : List Value} {ns : List Int} {n : Nat} (h : IntsAre ws ns) (hl : ns.length = n + 1) (k : ∀ c t ws' ns', ws = .int c t :: ws' → IntsAre ws' ns' → ns'.length = n → P) : P := by
  cases h with
  | nil => cases hl
  | cons c t h => exact k c t _ _ rfl h (Nat.succ.inj hl)
theorem ints_none {ws : List Value} {ns : List Int} (h : IntsAre ws ns) (hl : ns.length = 0) : ws = [] := by
  cases h with
  | nil => rfl
  | cons c t h => cases hl
theorem ints11 {P : Prop} {ws : List Value} {ns : List Int} (h : IntsAre ws ns) (hl : ns.length = 11) (k : ∀ c0 c1 c2 c3 c4 c5 c6 c7 c8 c9 c10 t0 t1 t2 t3 t4 t5 t6 t7 t8 t9 t10,
    ws = [.int c0 t0, .int c1 t1, .int c2 t2, .int c3 t3, .int c4 t4, .int c5 t5, .int c6 t6, .int c7 t7, .int c8 t8, .int c9 t9, .int c10 t10] → P) : P :=
  ints_more h hl fun c0 t0 _ _ e0 h hl => ints_more h hl fun c1 t1 _ _ e1 h hl => ints_more h hl fun c2 t2 _ _ e2 h hl => ints_more h hl fun c3 t3 _ _ e3 h hl =>
  ints_more h hl fun c4 t4 _ _ e4 h hl => ints_more h hl fun c5 t5 _ _ e5 h hl => ints_more h hl fun c6 t6 _ _ e6 h hl => ints_more h hl fun c7 t7 _ _ e7 h hl =>
  ints_more h hl fun c8 t8 _ _ e8 h hl => ints_more h hl fun c9 t9 _ _ e9 h hl => ints_more h hl fun c10 t10 _ _ e10 h hl =>
  k _ _ _ _ _ _ _ _ _ _ _ _ _ _ _ _ _ _ _ _ _ _ (e0.trans (congrArg (List.cons _) (e1.trans (congrArg (List.cons _) (e2.trans (congrArg (List.cons _) (e3.trans (congrArg (List.cons _) (e4.trans (congrArg (List.cons _) (e5.trans (congrArg (List.cons _) (e6.trans (congrArg (List.cons _) (e7.trans (congrArg (List.cons _) (e8.trans (congrArg (List.cons _) (e9.trans (congrArg (List.cons _) (e10.trans (congrArg (List.cons _) (ints_none h hl)))))))))))))))))))))))
noncomputable def fixL : List Int := [2, 7, 2272, 100, 0, 0, 0, 2, 4, 4, 9]
theorem add_news {prog : Program} {w : World} {A : Around} {E : Value → Shared → Prop} {s : Shared} {h₀ : Heap} {L : Addr} {m : Str → Option Value} {news : List (Addr × Obj)} {l b : Addr} {vs ws : List Value} {n k : Nat} {Q : Value → Shared → Prop} (F : Fr h₀ L s.heap m) (N : News h₀ L s.heap news)
    (hl : (l, ({ cls := .type "list", data := .seq vs.toArray n } : Obj)) ∈ news) (hb : (b, ({ cls := .type "list", data := .seq ws.toArray k } : Obj)) ∈ news) {ns ms : List Int} (hi : IntsAre vs ns) (hj : IntsAre ws ms)
    (h : ∀ D h', Fr h₀ L h' m → News h₀ L h' ((D, ({ cls := .type "list", data := .seq (vs ++ ws).toArray } : Obj)) :: news) → (∀ p ∈ news, p.1 < D) → IntsAre (vs ++ ws) (ns ++ ms) → Q (.ref D) { s with heap := h' })
    (hsz : ns.length + ms.length ≤ sizeLine) : wpAny (model prog w) A (binaryOp .Add (.ref l) (.ref b)) Q E s :=
  add_arrays_ints (its := vs.toArray) (its2 := ws.toArray) F N ⟨_, N.get hl, rfl, n, rfl⟩ ⟨_, N.get hb, rfl, k, rfl⟩ hi hj (fun h' F' N' hI => h _ h' F' N' (fun p hp => Heap.lt_size (N p hp).1) hI) hsz
noncomputable abbrev cellsO (c0 c1 c2 c3 c4 c5 c6 c7 c8 c9 c10 : Int) (t0 t1 t2 t3 t4 t5 t6 t7 t8 t9 t10 : Tok) : Obj :=
  { cls := .type "list", data := .seq #[.int c0 t0, .int c1 t1, .int c2 t2, .int c3 t3, .int c4 t4, .int c5 t5, .int c6 t6, .int c7 t7, .int c8 t8, .int c9 t9, .int c10 t10] }
noncomputable abbrev lawEnv (L fa : Addr) (cd : Value) : Env := envOfC (Str.ofString "law") lawScope L fa cd
/-- what is left of law's body walks -/
structure LawWp (w : World) (L fa : Addr) (cd : Value) (body : List Stmt) (Q : Flow → Shared → Prop) (E : Value → Shared → Prop) (s : Shared) : Prop where
  go : wpAny (model PySem.Challenge.rw_pe0093_01.row.prog w) (callerA.deeper (lawEnv L fa cd)) (execs body (lawEnv L fa cd)) Q E s
theorem regS10 : True := by
  k_with_none
  (k_with "eval Name" => (k_here; k_dflt (refine' nameX_L (by k_asm) (by assumption) ?_; k_whole)))
  (k_with "eval List" => (k_here; (with_reducible show wpAny _ _ (eval (PySem.Expr.List (PySem.Expr.Constant _ _ _ :: _) _) _) _ _ _); k_dflt (refine' intList (by k_asm) (by k_asm) (by repeat' (first | exact LitsAre.nil | refine' LitsAre.cons _ _ _ ?_)) (by decide) (fun lZ vsZ hZ tkZ hvZ F'Z N'Z l1Z => ?_); k_whole); (try k_lt l1Z)))
  (k_with "subscriptTail" => (k_here; (with_reducible show wpAny _ _ (subscriptTail _ _ (Value.ref _) (Value.int _ _)) _ _ _); first | (with_unfolding_all refine' item_news (by k_asm) (by kcf_m) (by decide) (by decide) (by rfl) ?_ (by with_unfolding_all rfl); k_whole) | refine Halt.go ?_))
  (k_with "subscriptTail Name Constant ref int" => (k_here; (with_reducible show wpAny _ _ (subscriptTail _ _ (Value.ref _) (Value.int _ _)) _ _ _); first | (with_unfolding_all refine' item_news (by k_asm) (by kcf_m) (by decide) (by decide) (by rfl) ?_ (by with_unfolding_all rfl); k_whole) | refine Halt.go ?_))
  (k_with "subscriptTail Name Name ref int" => (k_here; (with_reducible show wpAny _ _ (subscriptTail _ _ (Value.ref _) (Value.int _ _)) _ _ _); first | (with_unfolding_all refine' item_news (by k_asm) (by kcf_m) (by decide) (by decide) (by rfl) ?_ (by with_unfolding_all rfl); k_whole) | refine Halt.go ?_))
  (k_with "subscriptTail Subscript Constant ref int" => (k_here; (with_reducible show wpAny _ _ (subscriptTail _ _ (Value.ref _) (Value.int _ _)) _ _ _); first | (with_unfolding_all refine' item_news (by k_asm) (by kcf_m) (by decide) (by decide) (by rfl) ?_ (by with_unfolding_all rfl); k_whole) | refine Halt.go ?_))
  (k_with "subscriptTail Name BinOp ref int" => (k_here; (with_reducible show wpAny _ _ (subscriptTail _ _ (Value.ref _) (Value.int _ _)) _ _ _); first | (with_unfolding_all refine' item_news (by k_asm) (by kcf_m) (by decide) (by decide) (by rfl) ?_ (by with_unfolding_all rfl); k_whole) | refine Halt.go ?_))
  (k_with "subscriptTail Call Constant ref int" => (k_here; (with_reducible show wpAny _ _ (subscriptTail _ _ (Value.ref _) (Value.int _ _)) _ _ _); first | (with_unfolding_all refine' item_news (by k_asm) (by kcf_m) (by decide) (by decide) (by rfl) ?_ (by with_unfolding_all rfl); k_whole) | refine Halt.go ?_))
  (k_with "subscriptTail Subscript Name ref int" => (k_here; (with_reducible show wpAny _ _ (subscriptTail _ _ (Value.ref _) (Value.int _ _)) _ _ _); first | (with_unfolding_all refine' item_news (by k_asm) (by kcf_m) (by decide) (by decide) (by rfl) ?_ (by with_unfolding_all rfl); k_whole) | refine Halt.go ?_))
  (k_with "subscriptTail Name Slice ref ref" => (k_here; refine Halt.go ?_))
  (k_with "binaryOp Add ref ref" => (k_here; refine Halt.go ?_))
  trivial
set_option maxRecDepth 100000 in
set_option maxHeartbeats 1000000 in
theorem segA (w : World) (mean : ExcName → Option Value) (mg mb : Str → Option Value) (h₀ : Heap) (L fa : Addr) (cd : Value) (s : Shared) (Q : Flow → Shared → Prop) (E : Value → Shared → Prop) (m0 : Str → Option Value) (o1 o2 : Obj) (l : Addr) (vs : List Value) (ns : List Int) (rest : List Stmt)
    (B : Below callerA h₀ [] h₀) (X : (hd.heap_39 w.params).In h₀) (T : Top hd.view_39 (looseW hd.view_39 [Str.ofString "ONE_THIRD", Str.ofString "ONE_SIXTH", Str.ofString "TWO_THIRD"]) mean mg mb h₀) (F : Fr h₀ L s.heap m0) (N : News h₀ L s.heap [(L + 1 + 1, o1), (L + 1, o2)])
    (hc1 : o1.data = .cell none) (hc2 : o2.data = .cell none) (hL : h₀.IsList l vs.toArray) (hI : IntsAre vs ns) (hlen : ns.length ≤ 63) (hm0 : m0 (Str.ofString "script") = some (.ref l))
    (hk : ∀ (Dc : Addr) (c0 c1 c2 c3 c4 c5 c6 c7 c8 c9 c10 : Int) (t0 t1 t2 t3 t4 t5 t6 t7 t8 t9 t10 : Tok) (oS oR : Obj) (tS tR : Tok) (h' : Heap) (tk' : Nat) (m' : Str → Option Value),
      Fr h₀ L h' m' → News h₀ L h' [(Dc, cellsO c0 c1 c2 c3 c4 c5 c6 c7 c8 c9 c10 t0 t1 t2 t3 t4 t5 t6 t7 t8 t9 t10), (L + 1 + 1, oR), (L + 1, oS)] → oS.data = .cell (some (.int (1 + c0.fmod 8) tS)) → oR.data = .cell (some (.int (6 * (1 + c0.fmod 8)) tR)) →
      m' (Str.ofString "cells") = some (.ref Dc) → @LT.lt Nat _ (L + 1 + 1) Dc → LawWp w L fa cd rest Q E { s with heap := h', toks := tk' }) :
    LawWp w L fa cd (st 0 :: st 1 :: st 2 :: st 3 :: rest) Q E s := by
  refine ⟨?_⟩
  revert X
  k_fill
  intro X
  unfold lawEnv
  conv in (occs := *) lawScope => all_goals whnf
  conv => enter [3, 1, 1]; whnf
  conv => enter [3, 1, 2, 1]; whnf
  conv => enter [3, 1, 2, 2, 1]; whnf
  conv => enter [3, 1, 2, 2, 2, 1]; whnf
  w_on
  w_strict k_steps
  unfold Halt
  refine kmk_slice_ints (ms := ns.take 11) (c := (ns.take 11).length) (by assumption) (by assumption) (Fr.lst (by assumption) hL) IsPart.none (IsPart.int _ _) hI (kmk_upto hI (by decide)) rfl (fun D1 ws1 h F N l1 hI1 _ _ => ?_) (by with_unfolding_all rfl) (by kmk_pure) (by refine kmk_sz hI ?_; rw [sizeLine_eq]; omega)
  w_strict k_steps
  unfold Halt
  refine kmk_slice_ints (ns := fixL) (ms := fixL.drop (ns.length : Int).toNat) (c := (fixL.drop (ns.length : Int).toNat).length) (by assumption) (by assumption) (News.isList (by assumption) (by k_mem)) (IsPart.int _ _) IsPart.none (by unfold fixL; assumption) (kmk_from (by unfold fixL; assumption) (by omega)) rfl (fun D2 ws2 h F N l2 hI2 _ hle2 => ?_) (by with_unfolding_all rfl) (by kmk_pure) (by size_fits)
  w_strict k_steps
  unfold Halt
  refine add_news (by assumption) (by assumption) (by k_mem) (by k_mem) hI1 hI2 (fun Dc h F N lc hI => ?_) (by rw [sizeLine_eq]; have : (List.take 11 ns).length ≤ 11 := List.length_take_le ..; have : fixL.length = 11 := rfl; omega)
  have h11 : (List.take 11 ns ++ fixL.drop (ns.length : Int).toNat).length = 11 := by
    have : fixL.length = 11 := rfl
    rw [List.length_append, List.length_take, List.length_drop]
    omega
  refine ints11 hI h11 (fun c0 c1 c2 c3 c4 c5 c6 c7 c8 c9 c10 t0 t1 t2 t3 t4 t5 t6 t7 t8 t9 t10 hws => ?_)
  rw [hws] at N
  have N0 : News h₀ L h [(Dc, ({ cls := .type "list", data := .seq [.int c0 t0, .int c1 t1, .int c2 t2, .int c3 t3, .int c4 t4, .int c5 t5, .int c6 t6, .int c7 t7, .int c8 t8, .int c9 t9, .int c10 t10].toArray } : Obj)), (L + 1 + 1, o1), (L + 1, o2)] := fun p hp => N p (SubL.mem (by k_subL) p hp)
  k_lt lc
  clear N hI hws hI1 hI2 h11
  w_strict k_steps
  dsimp only
  (rename Fr _ _ _ _ => F9)
  (rename News _ _ _ _ => N9)
  exact LawWp.go <| hk _ _ _ _ _ _ _ _ _ _ _ _ _ _ _ _ _ _ _ _ _ _ _ _ _ _ _ _ _ _ F9 N9 (by assumption) (by assumption) rfl (by omega)
end
section
theorem regS20 : True := by
  k_with_none
  (k_with "eval Name" => (k_here; k_dflt (refine' nameX_L (by k_asm) (by assumption) ?_; k_whole)))
  (k_with "subscriptTail Name Slice ref ref" => (k_here; (with_reducible show wpAny _ _ (subscriptTail _ (PySem.Expr.Slice _ _ none _) (Value.ref _) (Value.ref _)) _ _ _); k_dflt (refine' kms_slice_lit (by k_asm) (by k_asm) (by exact News.isList (by k_asm) (by k_mem)) (by kmk_part) (by kmk_part) (by kl_lit) ?_ (by with_unfolding_all rfl) (by kmk_pure) (by exact Nat.le_of_ble_eq_true rfl)); intro D'Z h'Z F'Z N'Z l1Z; (try k_lt l1Z)))
  (k_with "exec Assign cons ListComp" => (k_here; k_dflt (refine LCg.Assign_ListComp_U (F₀ := by k_asm) (by rfl) (by with_unfolding_all rfl) (by with_unfolding_all rfl) (by decide) (by rfl) (by decide) (by rfl) (by rfl) (by rfl) ?_)))
  (k_with "CompSrc" => (k_here; refine Halt.go ?_))
  (k_with "CompEnd" => (k_here; refine Halt.go ?_))
  trivial
set_option maxRecDepth 100000 in
set_option maxHeartbeats 1000000 in
theorem segB1 (w : World) (mean : ExcName → Option Value) (mg mb : Str → Option Value) (h₀ : Heap) (L fa : Addr) (cd : Value) (s : Shared) (Q : Flow → Shared → Prop) (E : Value → Shared → Prop) (m0 : Str → Option Value) (oS oR : Obj) (rest : List Stmt)
    (Dc : Addr) (c0 c1 c2 c3 c4 c5 c6 c7 c8 c9 c10 : Int) (t0 t1 t2 t3 t4 t5 t6 t7 t8 t9 t10 : Tok) (sd : Int) (tS tR : Tok)
    (B : Below callerA h₀ [] h₀) (X : (hd.heap_39 w.params).In h₀) (T : Top hd.view_39 (looseW hd.view_39 [Str.ofString "ONE_THIRD", Str.ofString "ONE_SIXTH", Str.ofString "TWO_THIRD"]) mean mg mb h₀) (F : Fr h₀ L s.heap m0)
    (N : News h₀ L s.heap [(Dc, cellsO c0 c1 c2 c3 c4 c5 c6 c7 c8 c9 c10 t0 t1 t2 t3 t4 t5 t6 t7 t8 t9 t10), (L + 1 + 1, oR), (L + 1, oS)])
    (hS : oS.data = .cell (some (.int sd tS))) (hR : oR.data = .cell (some (.int (6 * sd) tR))) (hs1 : 1 ≤ sd) (hs8 : sd ≤ 8) (hm0 : m0 (Str.ofString "cells") = some (.ref Dc)) (hDc : @LT.lt Nat _ (L + 1 + 1) Dc)
    (hk : ∀ (Dd : Addr) (u1 u2 u3 : Tok) (n : Nat) (h' : Heap) (tk' : Nat) (m' : Str → Option Value),
      Fr h₀ L h' m' → News h₀ L h' [(Dd, listI (c1.fmod (128 * (6 * sd))) (c2.fmod (128 * (6 * sd))) (c3.fmod (128 * (6 * sd))) u1 u2 u3 n), (Dc, cellsO c0 c1 c2 c3 c4 c5 c6 c7 c8 c9 c10 t0 t1 t2 t3 t4 t5 t6 t7 t8 t9 t10), (L + 1 + 1, oR), (L + 1, oS)] →
      m' (Str.ofString "cells") = some (.ref Dc) → m' (Str.ofString "drawn") = some (.ref Dd) → Dd ≠ Dc → @Ne Nat Dd (L + 1 + 1) → @Ne Nat Dd (L + 1) → LawWp w L fa cd rest Q E { s with heap := h', toks := tk' }) :
    LawWp w L fa cd (st 4 :: rest) Q E s := by
  revert X
  k_fill
  intro X
  refine ⟨?_⟩
  unfold lawEnv
  conv in (occs := *) lawScope => all_goals whnf
  conv => enter [3, 1, 1]; whnf
  w_on
  w_strict k_steps
  unfold Halt
  refine LCg.CompSrc.ledger rfl (by assumption) (by assumption) (by k_mem) (Nat.le_of_ble_eq_true rfl) (fun g => ?_)
  refine LCg.CompRest.succ (k := 2) (fun v1 I1 oI1 C1 oC1 D1 m1 h1 tk1 E1 hv1 hC1 hx1 F1 N1 off1 ne1 => ?_)
  obtain rfl : v1 = .int c1 t1 := (Option.some.inj hv1).symm
  w_strict k_steps
  unfold Halt
  refine ⟨_, _, _, rfl, F1, N1, off1, Or.inr ⟨_, by k_mem, rfl, _, rfl⟩, ?_⟩
  clear off1 ne1 hv1 hx1 F1 N1 hC1
  refine LCg.CompRest.succ (k := 1) (fun v1 I1 oI1 C1 oC1 D1 m1 h1 tk1 E1 hv1 hC1 hx1 F1 N1 off1 ne1 => ?_)
  obtain rfl : v1 = .int c2 t2 := (Option.some.inj hv1).symm
  w_strict k_steps
  unfold Halt
  refine ⟨_, _, _, rfl, F1, N1, off1, Or.inr ⟨_, by k_mem, rfl, _, rfl⟩, ?_⟩
  clear off1 ne1 hv1 hx1 F1 N1 hC1
  refine LCg.CompRest.succ (k := 0) (fun v1 I1 oI1 C1 oC1 D1 m1 h1 tk1 E1 hv1 hC1 hx1 F1 N1 off1 ne1 => ?_)
  obtain rfl : v1 = .int c3 t3 := (Option.some.inj hv1).symm
  w_strict k_steps
  unfold Halt
  refine ⟨_, _, _, rfl, F1, N1, off1, Or.inr ⟨_, by k_mem, rfl, _, rfl⟩, ?_⟩
  clear off1 ne1 hv1 hx1 F1 N1 hC1
  refine LCg.CompRest.zero ?_
  intro D h tk F N o1
  have o2 := LCx.off1_mem o1
  exact LawWp.go <| hk D _ _ _ _ h tk _ F (fun p hp => N p (SubL.mem (by k_subL) p hp)) hm0 rfl (Ne.symm (o2 (Dc, _) (List.mem_cons_of_mem _ List.mem_cons_self))) (Ne.symm (o2 (L + 1 + 1, oR) (by k_mem))) (Ne.symm (o2 (L + 1, oS) (by k_mem)))
end
section
noncomputable def colOf (sd n : Int) : Cs := ⟨n.fmod (6 * sd), 1 + (n.fdiv (6 * sd)).fmod 4, n.fdiv (4 * (6 * sd))⟩
theorem fdiv_bd {n r : Int} (h0 : 0 ≤ n) (h : n < 32 * r) (hr : 0 < r) : 0 ≤ n.fdiv r ∧ n.fdiv r ≤ 31 := by
  rw [Int.fdiv_eq_ediv_of_nonneg _ (Int.le_of_lt hr)]
  refine ⟨Int.ediv_nonneg h0 (Int.le_of_lt hr), ?_⟩
  have : n / r < 32 := Int.ediv_lt_of_lt_mul hr h
  omega
theorem gd_colOf {sd n : Int} (h1 : 1 ≤ sd) (h8 : sd ≤ 8) (h0 : 0 ≤ n) (h : n < 128 * (6 * sd)) : Gd sd (colOf sd n) := by
  have hw := fdiv_bd (n := n) (r := 4 * (6 * sd)) h0 (by omega) (by omega)
  have hf := fmod_lo (n.fdiv (6 * sd)) (n := 4) (by decide)
  have hg := fmod_hi (n.fdiv (6 * sd)) (n := 4) (by decide)
  refine ⟨h1, h8, fmod_lo _ (by omega), fmod_hi _ (by omega), ?_, hw.1, ?_⟩
  · show 1 ≤ 1 + (n.fdiv (6 * sd)).fmod 4
    omega
  · show n.fdiv (4 * (6 * sd)) + (1 + (n.fdiv (6 * sd)).fmod 4) * sd ≤ 64
    have : (1 + (n.fdiv (6 * sd)).fmod 4) * sd ≤ 4 * 8 := Int.mul_le_mul (by omega) h8 (by omega) (by decide)
    omega
theorem comp_end_new {h₀ h' : Heap} {L I C D D9 : Addr} {m : Str → Option Value} {s₁ : Shared} {oI oC ob : Obj} {ys : List Value} {S : List (Addr × Obj) → Prop} {rest : Value → List (Addr × Obj) → Prop} {tk : Nat} {led : List (Addr × Obj)}
    (F : Fr h₀ L h' m) (N : News h₀ L h' ((D9, ob) :: (I, oI) :: (C, oC) :: (D, LCg.lst ys) :: led)) (l9 : ∀ p ∈ (I, oI) :: (C, oC) :: (D, LCg.lst ys) :: led, p.1 ≠ D9) (off : LCg.Off3 I C D led) (hS : S ((D9, ob) :: led)) (r : rest (.ref D9) ((D9, ob) :: led)) :
    LCg.CompEnd h₀ L m s₁ I oI C oC D (LCg.lst ys) S rest (.ref D9) { s₁ with heap := h', toks := tk } :=
  ⟨h', tk, (D9, ob) :: led, rfl, F, fun p hp => N p (by
    rcases List.mem_cons.mp hp with rfl | hp
    · exact List.mem_cons_of_mem _ List.mem_cons_self
    · rcases List.mem_cons.mp hp with rfl | hp
      · exact List.mem_cons_of_mem _ (List.mem_cons_of_mem _ List.mem_cons_self)
      · rcases List.mem_cons.mp hp with rfl | hp
        · exact List.mem_cons_of_mem _ (List.mem_cons_of_mem _ (List.mem_cons_of_mem _ List.mem_cons_self))
        · rcases List.mem_cons.mp hp with rfl | hp
          · exact List.mem_cons_self
          · exact List.mem_cons_of_mem _ (List.mem_cons_of_mem _ (List.mem_cons_of_mem _ (List.mem_cons_of_mem _ hp)))),
    ⟨⟨Ne.symm (l9 _ List.mem_cons_self), Ne.symm (l9 _ (List.mem_cons_of_mem _ List.mem_cons_self)), Ne.symm (l9 _ (List.mem_cons_of_mem _ (List.mem_cons_of_mem _ List.mem_cons_self)))⟩, off⟩, hS, r⟩
theorem regS30 : True := by
  k_with_none
  (k_with "eval Name" => (k_here; k_dflt (refine' nameX_L (by k_asm) (by assumption) ?_; k_whole)))
  (k_with "eval Name" => (k_here; (with_reducible show wpAny _ _ (eval (Expr.Name _ _) (compEnvC _ _ _ _)) _ _ _); k_dflt (refine' LCgL.ld_global (by k_asm) (by k_asm) (by k_asm) (by k_is) ?_; k_whole)))
  (k_with "exec Assign cons ListComp" => (k_here; k_dflt (refine LCg.Assign_ListComp_U (F₀ := by k_asm) (by rfl) (by with_unfolding_all rfl) (by with_unfolding_all rfl) (by decide) (by rfl) (by decide) (by rfl) (by rfl) (by rfl) ?_)))
  (k_with "CompSrc" => (k_here; refine Halt.go ?_))
  (k_with "CompEnd" => (k_here; refine Halt.go ?_))
  (k_with "call ref" => (k_here; (with_reducible show wpAny _ _ (call (Value.ref 84) _) _ _ _); k_dflt (refine' Calls.use2 (by k_asm) (by k_asm) (by k_asm) (by k_asm) (by k_asm) (by first | exact rfl | assumption) (by ktr_room) (by ktr_units) (col_call _ _ _ _ _ _ _ _ _ _ _ _ _ (by first | k_asm | decide | omega) (by first | k_asm | decide | omega) (by first | k_asm | decide | omega) (by first | k_asm | decide | omega)) ?_; k_whole; intro D9Z u9Z v9Z w9Z c9Z h9Z tk9Z F9Z N9Z l9Z; (try dsimp only); (try k_fold))))
  trivial
set_option maxRecDepth 100000 in
set_option maxHeartbeats 1000000 in
theorem segB2 (w : World) (mean : ExcName → Option Value) (mg mb : Str → Option Value) (h₀ : Heap) (L fa : Addr) (cd : Value) (s : Shared) (Q : Flow → Shared → Prop) (E : Value → Shared → Prop) (m0 : Str → Option Value) (oS oR oC : Obj) (rest : List Stmt)
    (Dc Dd : Addr) (n1 n2 n3 : Int) (u1 u2 u3 : Tok) (kn : Nat) (sd : Int) (tS tR : Tok)
    (B : Below callerA h₀ [] h₀) (X : (hd.heap_39 w.params).In h₀) (T : Top hd.view_39 (looseW hd.view_39 [Str.ofString "ONE_THIRD", Str.ofString "ONE_SIXTH", Str.ofString "TWO_THIRD"]) mean mg mb h₀) (F : Fr h₀ L s.heap m0)
    (N : News h₀ L s.heap [(Dd, listI n1 n2 n3 u1 u2 u3 kn), (Dc, oC), (L + 1 + 1, oR), (L + 1, oS)])
    (hS : oS.data = .cell (some (.int sd tS))) (hR : oR.data = .cell (some (.int (6 * sd) tR))) (hs1 : 1 ≤ sd) (hs8 : sd ≤ 8) (hm0 : m0 (Str.ofString "cells") = some (.ref Dc)) (hm1 : m0 (Str.ofString "drawn") = some (.ref Dd))
    (hn1 : 0 ≤ n1 ∧ n1 < 128 * (6 * sd)) (hn2 : 0 ≤ n2 ∧ n2 < 128 * (6 * sd)) (hn3 : 0 ≤ n3 ∧ n3 < 128 * (6 * sd))
    (hk : ∀ (led : List (Addr × Obj)) (Dr A1 A2 A3 : Addr) (n : Nat) (h' : Heap) (tk' : Nat) (m' : Str → Option Value), Fr h₀ L h' m' → News h₀ L h' led → (∀ p ∈ [(Dd, listI n1 n2 n3 u1 u2 u3 kn), (Dc, oC), (L + 1 + 1, oR), (L + 1, oS)], p ∈ led) →
      (Dr, rowO A1 A2 A3 n) ∈ led → Row3 led sd A1 A2 A3 (colOf sd n1, colOf sd n2, colOf sd n3) →
      m' (Str.ofString "cells") = some (.ref Dc) → m' (Str.ofString "drawn") = some (.ref Dd) → m' (Str.ofString "row") = some (.ref Dr) → LawWp w L fa cd rest Q E { s with heap := h', toks := tk' }) :
    LawWp w L fa cd (st 5 :: rest) Q E s := by
  refine ⟨?_⟩
  unfold lawEnv
  revert X
  k_fill
  intro X
  conv in (occs := *) lawScope => all_goals whnf
  conv => enter [3, 1, 1]; whnf
  have hf1 := fmod_lo (n1.fdiv (6 * sd)) (n := 4) (by decide)
  have hg1 := fmod_hi (n1.fdiv (6 * sd)) (n := 4) (by decide)
  have hf2 := fmod_lo (n2.fdiv (6 * sd)) (n := 4) (by decide)
  have hg2 := fmod_hi (n2.fdiv (6 * sd)) (n := 4) (by decide)
  have hf3 := fmod_lo (n3.fdiv (6 * sd)) (n := 4) (by decide)
  have hg3 := fmod_hi (n3.fdiv (6 * sd)) (n := 4) (by decide)
  w_on
  w_strict k_steps
  unfold Halt
  refine LCg.CompSrc.ledger rfl (by assumption) (by assumption) (by k_mem) (Nat.le_of_ble_eq_true rfl) (fun g => ?_)
  refine LCg.CompRest.succ (k := 2) (fun v1 I1 oI1 C1 oC1 D1 m1 h1 tk1 E1 hv1 hC1 hx1 F1 N1 off1 ne1 => ?_)
  obtain rfl : v1 = .int n1 u1 := (Option.some.inj hv1).symm
  w_strict k_steps
  unfold Halt
  (rename Fr _ _ _ _ => F9)
  (rename News _ _ _ _ => N9)
  refine comp_end_new F9 N9 (by assumption) off1 (Or.inr ⟨_, by k_mem, rfl, _, rfl⟩) ?_
  clear off1 ne1 hv1 hx1 F1 N1 hC1 F9 N9
  refine LCg.CompRest.succ (k := 1) (fun v1 I1 oI1 C1 oC1 D1 m1 h1 tk1 E1 hv1 hC1 hx1 F1 N1 off1 ne1 => ?_)
  obtain rfl : v1 = .int n2 u2 := (Option.some.inj hv1).symm
  w_strict k_steps
  unfold Halt
  (rename Fr _ _ _ _ => F9)
  (rename News _ _ _ _ => N9)
  refine comp_end_new F9 N9 (by assumption) off1 (Or.inr ⟨_, by k_mem, rfl, _, rfl⟩) ?_
  clear off1 ne1 hv1 hx1 F1 N1 hC1 F9 N9
  refine LCg.CompRest.succ (k := 0) (fun v1 I1 oI1 C1 oC1 D1 m1 h1 tk1 E1 hv1 hC1 hx1 F1 N1 off1 ne1 => ?_)
  obtain rfl : v1 = .int n3 u3 := (Option.some.inj hv1).symm
  w_strict k_steps
  unfold Halt
  (rename Fr _ _ _ _ => F9)
  (rename News _ _ _ _ => N9)
  refine comp_end_new F9 N9 (by assumption) off1 (Or.inr ⟨_, by k_mem, rfl, _, rfl⟩) ?_
  clear off1 ne1 hv1 hx1 F1 N1 hC1 F9 N9
  refine LCg.CompRest.zero ?_
  intro D h tk F N o1
  refine LawWp.go <| hk _ D _ _ _ _ h tk _ F N (SubL.mem (by k_subL)) List.mem_cons_self ⟨⟨_, _, _, _, by k_mem⟩, ⟨_, _, _, _, by k_mem⟩, ⟨_, _, _, _, by k_mem⟩, gd_colOf hs1 hs8 hn1.1 hn1.2, gd_colOf hs1 hs8 hn2.1 hn2.2, gd_colOf hs1 hs8 hn3.1 hn3.2⟩ hm0 hm1 rfl
end
section
theorem all_ints {its : List Value} (h : its.all (fun v => match v with | .int _ _ => true | _ => false) = true) {i : Nat} {v : Value} (e : its.toArray[i]? = some v) : ∃ c t, v = .int c t := by
  have hm : v ∈ its := by
    have : its[i]? = some v := by simpa using e
    exact List.mem_of_getElem? this
  have := List.all_eq_true.mp h v hm
  cases v <;> simp at this
  exact ⟨_, _, rfl⟩
noncomputable def TurnEndV (h₀ : Heap) (L : Addr) (m : Str → Option Value) (s₁ : Shared) (all : List (Addr × Obj)) (P : Value → Prop) (y : Value) (s₂ : Shared) : Prop :=
  ∃ h' tk', s₂ = { s₁ with heap := h', toks := tk' } ∧ Fr h₀ L h' m ∧ News h₀ L h' all ∧ P y
open PyProof.Rows.LCg PySem.Calls in
theorem restT_inv {prog : Program} {w : World} {A : Around} {h₀ : Heap} {L : Addr} {m : Str → Option Value} {env : Env} {ct elt : Expr} {x : Str} {scope : Scope} {cl : List (Str × Addr)} {s : Shared} {S : List (Addr × Obj) → Prop} {its : Array Value} {Fin : List Value → List (Addr × Obj) → Prop} {news : List (Addr × Obj)}
    (Inv : Nat → List Value → Prop) (hS : S news) (h0 : Inv 0 [])
    (turn : ∀ i v ys I oI C oC D m₂ h tk (E' : Value → Shared → Prop), its[i]? = some v → Inv i ys → NsObj oC m₂ → m₂ x = some v → Fr h₀ L h m → News h₀ L h ((I, oI) :: (C, oC) :: (D, lst ys) :: news) →
      wpAny (model prog w) A (isTrue ct (compEnvC scope cl C env) (eval ct (compEnvC scope cl C env))) (fun ok s' => if ok = true then
        wpAny (model prog w) A (eval elt (compEnvC scope cl C env)) (fun y s₂ => TurnEndV h₀ L m { s with heap := h, toks := tk } ((I, oI) :: (C, oC) :: (D, lst ys) :: news) (fun y => Inv (i + 1) (ys ++ [y])) y s₂) E' s'
        else TurnEndV h₀ L m { s with heap := h, toks := tk } ((I, oI) :: (C, oC) :: (D, lst ys) :: news) (fun _ => Inv (i + 1) ys) .none s') E' { s with heap := h, toks := tk })
    (fin : ∀ ys, Inv its.size ys → Fin ys news) : LCt.CompRestT prog w A h₀ L m env ct elt x scope cl s S (fun i v => its[i]? = some v) Fin its.size 0 [] news := by
  have key : ∀ (j i : Nat) (ys : List Value), i + j = its.size → Inv i ys → LCt.CompRestT prog w A h₀ L m env ct elt x scope cl s S (fun i v => its[i]? = some v) Fin j i ys news := by
    intro j
    induction j with
    | zero =>
      intro i ys hi hy
      exact LCt.CompRestT.zero (fin ys (by rw [← hi]; exact hy))
    | succ j ih =>
      intro i ys hi hy
      refine LCt.CompRestT.succ fun v I oI C oC D m₂ h tk E' hv hC hx F N off ne => ?_
      refine wpAny_mono (turn i v ys I oI C oC D m₂ h tk E' hv hy hC hx F N) (fun ok s' hq => ?_) fun _ _ e => e
      cases ok with
      | true =>
        simp only [if_true] at hq ⊢
        refine wpAny_mono hq (fun y s₂ hr => ?_) fun _ _ e => e
        obtain ⟨h', tk', rfl, F', N', hp⟩ := hr
        exact ⟨h', tk', news, rfl, F', N', off, hS, ih (i + 1) _ (by omega) hp⟩
      | false =>
        simp only [Bool.false_eq_true, if_false] at hq ⊢
        obtain ⟨h', tk', rfl, F', N', hp⟩ := hq
        exact ⟨h', tk', news, rfl, F', N', off, hS, ih (i + 1) _ (by omega) hp⟩
  exact key its.size 0 [] (by omega) h0
theorem regS40 : True := by
  k_with_none
  (k_with "eval Name" => (k_here; k_dflt (refine' nameX_L (by k_asm) (by assumption) ?_; k_whole)))
  (k_with "subscriptTail Name Slice ref ref" => (k_here; (with_reducible show wpAny _ _ (subscriptTail _ (PySem.Expr.Slice _ _ none _) (Value.ref _) (Value.ref _)) _ _ _); k_dflt (refine' kms_slice_lit (by k_asm) (by k_asm) (by exact News.isList (by k_asm) (by k_mem)) (by kmk_part) (by kmk_part) (by kl_lit) ?_ (by with_unfolding_all rfl) (by kmk_pure) (by exact Nat.le_of_ble_eq_true rfl)); intro D'Z h'Z F'Z N'Z l1Z))
  (k_with "exec Assign cons ListComp" => (k_here; k_dflt (refine LCt.Assign_ListComp_T (F₀ := by k_asm) (by rfl) (by with_unfolding_all rfl) (by with_unfolding_all rfl) (by decide) (by rfl) (by decide) (by rfl) (by rfl) (by rfl) ?_)))
  (k_with "CompSrcT" => (k_here; refine Halt.go ?_))
  (k_with "CompEnd" => (k_here; refine Halt.go ?_))
  trivial
set_option maxRecDepth 100000 in
set_option maxHeartbeats 1000000 in
theorem segC (w : World) (mean : ExcName → Option Value) (mg mb : Str → Option Value) (h₀ : Heap) (L fa : Addr) (cd : Value) (s : Shared) (Q : Flow → Shared → Prop) (E : Value → Shared → Prop) (m0 : Str → Option Value) (led : List (Addr × Obj)) (rest : List Stmt)
    (Dc Dd Dr : Addr) (c0 c1 c2 c3 c4 c5 c6 c7 c8 c9 c10 : Int) (t0 t1 t2 t3 t4 t5 t6 t7 t8 t9 t10 : Tok)
    (B : Below callerA h₀ [] h₀) (X : (hd.heap_39 w.params).In h₀) (T : Top hd.view_39 (looseW hd.view_39 [Str.ofString "ONE_THIRD", Str.ofString "ONE_SIXTH", Str.ofString "TWO_THIRD"]) mean mg mb h₀) (F : Fr h₀ L s.heap m0)
    (N : News h₀ L s.heap led) (hDc : (Dc, cellsO c0 c1 c2 c3 c4 c5 c6 c7 c8 c9 c10 t0 t1 t2 t3 t4 t5 t6 t7 t8 t9 t10) ∈ led)
    (hm0 : m0 (Str.ofString "cells") = some (.ref Dc)) (hm1 : m0 (Str.ofString "drawn") = some (.ref Dd)) (hm2 : m0 (Str.ofString "row") = some (.ref Dr))
    (hk : ∀ (Dw : Addr) (ys : List Value) (led' : List (Addr × Obj)) (h' : Heap) (tk' : Nat) (m' : Str → Option Value), Fr h₀ L h' m' → News h₀ L h' led' → (∀ p ∈ led, p ∈ led') → (Dw, LCg.lst ys) ∈ led' → (∀ v ∈ ys, isLetter v) → ys.length ≤ 6 →
      m' (Str.ofString "cells") = some (.ref Dc) → m' (Str.ofString "drawn") = some (.ref Dd) → m' (Str.ofString "row") = some (.ref Dr) → m' (Str.ofString "word") = some (.ref Dw) → LawWp w L fa cd rest Q E { s with heap := h', toks := tk' }) :
    LawWp w L fa cd (st 6 :: rest) Q E s := by
  refine ⟨?_⟩
  unfold lawEnv
  revert X
  k_fill
  intro X
  conv in (occs := *) lawScope => all_goals whnf
  conv => enter [3, 1, 1]; whnf
  w_on
  w_strict k_steps
  unfold Halt
  (rename ∀ p ∈ led, p.1 < _ => l1)
  refine LCt.CompSrcT.ledger rfl (by assumption) (by assumption) (by k_mem) (Nat.le_of_ble_eq_true rfl) (fun g => ?_)
  refine restT_inv (fun i ys => (∀ v ∈ ys, isLetter v) ∧ ys.length ≤ i) (Or.inr ⟨_, by k_mem, rfl, _, rfl⟩) ⟨fun v hv => (nomatch hv), Nat.le_refl 0⟩ ?turn ?fin
  case fin =>
    intro ys hys D h tk F N o1
    exact LawWp.go <| hk D ys _ h tk _ F N (fun p hp => List.mem_cons_of_mem _ (List.mem_cons_of_mem _ hp)) List.mem_cons_self hys.1 hys.2 hm0 hm1 hm2 rfl
  case turn =>
    intro i v ys I oI C oC D m₂ h tk E' hv hy hC hx F N
    obtain ⟨c, t, rfl⟩ := all_ints (by rfl) hv
    clear hv
    have hf := fmod_lo c (n := 5) (by decide)
    w_strict k_steps
    · refine ⟨_, _, rfl, F, N, fun v hv => ?_, by rw [List.length_append]; exact Nat.succ_le_succ hy.2⟩
      rcases List.mem_append.mp hv with hv | hv
      · exact hy.1 v hv
      · rw [List.mem_singleton.mp hv]
        exact ⟨_, _, rfl, hf, by first | assumption | omega | simp_all⟩
    · exact ⟨_, _, rfl, F, N, hy.1, Nat.le_succ_of_le hy.2⟩
end
section
theorem ints_letters : ∀ {ys : List Value}, (∀ v ∈ ys, isLetter v) → IntsAre ys (ys.map letterOf)
  | [], _ => .nil
  | v :: ys, h => by
    obtain ⟨n, t, rfl, _, _⟩ := h v List.mem_cons_self
    exact .cons n t (ints_letters fun v hv => h v (List.mem_cons_of_mem _ hv))
theorem letters_ints : ∀ {vs : List Value} {ns : List Int}, IntsAre vs ns → (∀ n ∈ ns, 0 ≤ n ∧ n < 4) → ∀ v ∈ vs, isLetter v
  | _, _, .nil, _, _, h => nomatch h
  | _, _, .cons n t r, hn, v, h => by
    rcases List.mem_cons.mp h with rfl | h
    · exact ⟨n, t, rfl, (hn n List.mem_cons_self).1, (hn n List.mem_cons_self).2⟩
    · exact letters_ints r (fun n hn' => hn n (List.mem_cons_of_mem _ hn')) v h
theorem fold_ints {σ : Type} (f : σ → Int → σ) : ∀ {vs : List Value} {ns : List Int}, IntsAre vs ns → ∀ s : σ, vs.foldl (fun s v => f s (letterOf v)) s = ns.foldl f s
  | _, _, .nil, _ => rfl
  | _, _, .cons n t r, s => fold_ints f r (f s n)
section
variable {prog : Program} {w : World} {A : Around} {E : Value → Shared → Prop} {s : Shared} {h₀ : Heap} {L l : Addr} {news : List (Addr × Obj)} {Q : Value → Shared → Prop}
theorem item_four {value slice : PySem.Expr} {P0 P1 P2 P3 : Addr} {n : Nat} {k : Int} {u : Tok}
    (N : News h₀ L s.heap news) (hm : (l, ({ cls := .type "list", data := .seq #[.ref P0, .ref P1, .ref P2, .ref P3] n } : Obj)) ∈ news) (h0 : 0 ≤ k) (h4 : k < 4)
    (h : ∀ P, (k = 0 ∧ P = P0) ∨ (k = 1 ∧ P = P1) ∨ (k = 2 ∧ P = P2) ∨ (k = 3 ∧ P = P3) → Q (.ref P) s)
    (hs : subscripted slice false (.ref l) (.int k u) = operate [.ref l, .int k u] (getItem (.ref l) (.int k u))) :
    wpAny (model prog w) A (subscriptTail value slice (.ref l) (.int k u)) Q E s := by
  have hc : k = 0 ∨ k = 1 ∨ k = 2 ∨ k = 3 := by omega
  rcases hc with rfl | rfl | rfl | rfl
  · exact item_news N hm h0 (by decide) rfl (h P0 (.inl ⟨rfl, rfl⟩)) hs
  · exact item_news N hm h0 (by decide) rfl (h P1 (.inr (.inl ⟨rfl, rfl⟩))) hs
  · exact item_news N hm h0 (by decide) rfl (h P2 (.inr (.inr (.inl ⟨rfl, rfl⟩)))) hs
  · exact item_news N hm h0 (by decide) rfl (h P3 (.inr (.inr (.inr ⟨rfl, rfl⟩)))) hs
theorem len_news {ys : List Value} {n : Nat} (N : News h₀ L s.heap news) (hm : (l, ({ cls := .type "list", data := .seq ys.toArray n } : Obj)) ∈ news) (hl : ys.length ≤ 100)
    (h : Q (.int ys.length (s.toks + 1)) { s with toks := s.toks + 1 + 1 }) : wpAny (model prog w) A (call (.builtin "len") [.ref l]) Q E s :=
  len_list (items := ys.toArray) ⟨_, N.get hm, rfl, n, rfl⟩ (by rw [List.size_toArray]; omega) (by rw [List.size_toArray]; exact h)
end
theorem news_pick {h₀ h : Heap} {L : Addr} {q : Addr × Obj} {all rest : List (Addr × Obj)} (N : News h₀ L h all) (hm : q ∈ all) (hr : ∀ p ∈ rest, p ∈ all) : News h₀ L h (q :: rest) := fun p hp => by
  rcases List.mem_cons.mp hp with rfl | hp
  · exact N _ hm
  · exact N p (hr p hp)
noncomputable def pieceOf (k : Int) : List Int := if k = 0 then [0, 2, 0, 3, 1, 3] else if k = 1 then [2, 0, 2, 1, 3, 1] else if k = 2 then [1, 3, 1, 2, 0, 2] else [0, 2, 1, 3, 1, 2]
theorem piece_len (k : Int) : (pieceOf k).length = 6 := by
  unfold pieceOf
  split
  · rfl
  · split
    · rfl
    · split <;> rfl
theorem piece_letters (k : Int) : ∀ n ∈ pieceOf k, 0 ≤ n ∧ n < 4 := by
  unfold pieceOf
  split
  · decide
  · split
    · decide
    · split <;> decide
theorem regS50 : True := by
  k_with_none
  (k_with "eval Name" => (k_here; k_dflt (refine' nameX_L (by k_asm) (by assumption) ?_; k_whole)))
  (k_with "eval List" => (k_here; (with_reducible show wpAny _ _ (eval (PySem.Expr.List (PySem.Expr.Constant _ _ _ :: _) _) _) _ _ _); k_dflt (refine' intList (by k_asm) (by k_asm) (by repeat' (first | exact LitsAre.nil | refine' LitsAre.cons _ _ _ ?_)) (by decide) (fun lZ vsZ hZ tkZ hvZ F'Z N'Z l1Z => ?_); k_whole); (try k_lt l1Z)))
  (k_with "subscriptTail" => (k_here; (with_reducible show wpAny _ _ (subscriptTail _ _ (Value.ref _) (Value.int _ _)) _ _ _); first | (with_unfolding_all refine' item_news (by k_asm) (by kcf_m) (by decide) (by decide) (by rfl) ?_ (by with_unfolding_all rfl); k_whole) | refine Halt.go ?_))
  (k_with "subscriptTail Name Constant ref int" => (k_here; (with_reducible show wpAny _ _ (subscriptTail _ _ (Value.ref _) (Value.int _ _)) _ _ _); first | (with_unfolding_all refine' item_news (by k_asm) (by kcf_m) (by decide) (by decide) (by rfl) ?_ (by with_unfolding_all rfl); k_whole) | refine Halt.go ?_))
  (k_with "subscriptTail Name Name ref int" => (k_here; (with_reducible show wpAny _ _ (subscriptTail _ _ (Value.ref _) (Value.int _ _)) _ _ _); first | (with_unfolding_all refine' item_news (by k_asm) (by kcf_m) (by decide) (by decide) (by rfl) ?_ (by with_unfolding_all rfl); k_whole) | refine Halt.go ?_))
  (k_with "subscriptTail Subscript Constant ref int" => (k_here; (with_reducible show wpAny _ _ (subscriptTail _ _ (Value.ref _) (Value.int _ _)) _ _ _); first | (with_unfolding_all refine' item_news (by k_asm) (by kcf_m) (by decide) (by decide) (by rfl) ?_ (by with_unfolding_all rfl); k_whole) | refine Halt.go ?_))
  (k_with "subscriptTail Name BinOp ref int" => (k_here; (with_reducible show wpAny _ _ (subscriptTail _ _ (Value.ref _) (Value.int _ _)) _ _ _); first | (with_unfolding_all refine' item_news (by k_asm) (by kcf_m) (by decide) (by decide) (by rfl) ?_ (by with_unfolding_all rfl); k_whole) | refine Halt.go ?_))
  (k_with "subscriptTail Call Constant ref int" => (k_here; (with_reducible show wpAny _ _ (subscriptTail _ _ (Value.ref _) (Value.int _ _)) _ _ _); first | (with_unfolding_all refine' item_news (by k_asm) (by kcf_m) (by decide) (by decide) (by rfl) ?_ (by with_unfolding_all rfl); k_whole) | refine Halt.go ?_))
  (k_with "subscriptTail Subscript Name ref int" => (k_here; (with_reducible show wpAny _ _ (subscriptTail _ _ (Value.ref _) (Value.int _ _)) _ _ _); first | (with_unfolding_all refine' item_news (by k_asm) (by kcf_m) (by decide) (by decide) (by rfl) ?_ (by with_unfolding_all rfl); k_whole) | refine Halt.go ?_))
  (k_with "subscriptTail Name Slice ref ref" => (k_here; refine Halt.go ?_))
  (k_with "binaryOp Add ref ref" => (k_here; refine Halt.go ?_))
  (k_with "call ref" => (k_here; (with_reducible show wpAny _ _ (call (Value.ref 96) _) _ _ _); refine Halt.go ?_))
  (k_with "call builtin:len" => (k_here; k_dflt (refine' len_news (by k_asm) (by kcf_m) (by omega) ?_; k_whole)))
  trivial
set_option maxRecDepth 100000 in
set_option maxHeartbeats 1000000 in
theorem segD (w : World) (mean : ExcName → Option Value) (mg mb : Str → Option Value) (h₀ : Heap) (L fa : Addr) (cd : Value) (s : Shared) (Q : Flow → Shared → Prop) (E : Value → Shared → Prop) (m0 : Str → Option Value) (led : List (Addr × Obj)) (rest : List Stmt)
    (Dc Dd Dr Dw A1 A2 A3 : Addr) (nr : Nat) (ys : List Value) (sd : Int) (col : St3) (c0 c1 c2 c3 c4 c5 c6 c7 c8 c9 c10 : Int) (t0 t1 t2 t3 t4 t5 t6 t7 t8 t9 t10 : Tok)
    (B : Below callerA h₀ [] h₀) (X : (hd.heap_39 w.params).In h₀) (T : Top hd.view_39 (looseW hd.view_39 [Str.ofString "ONE_THIRD", Str.ofString "ONE_SIXTH", Str.ofString "TWO_THIRD"]) mean mg mb h₀) (F : Fr h₀ L s.heap m0)
    (N : News h₀ L s.heap led) (hDc : (Dc, cellsO c0 c1 c2 c3 c4 c5 c6 c7 c8 c9 c10 t0 t1 t2 t3 t4 t5 t6 t7 t8 t9 t10) ∈ led) (hDw : (Dw, LCg.lst ys) ∈ led) (hys : ∀ v ∈ ys, isLetter v) (hlen : ys.length ≤ 6)
    (hDr : (Dr, rowO A1 A2 A3 nr) ∈ led) (hrow : Row3 led sd A1 A2 A3 col)
    (hm0 : m0 (Str.ofString "cells") = some (.ref Dc)) (hm1 : m0 (Str.ofString "drawn") = some (.ref Dd)) (hm2 : m0 (Str.ofString "row") = some (.ref Dr)) (hm3 : m0 (Str.ofString "word") = some (.ref Dw))
    (hk : ∀ (a : Nat) (q : Int) (Dl B1 B2 B3 : Addr) (nl : Nat) (led' : List (Addr × Obj)) (h' : Heap) (tk' : Nat) (m' : Str → Option Value), Fr h₀ L h' m' → News h₀ L h' led' → (∀ p ∈ led, p ∈ led') → (Dl, rowO B1 B2 B3 nl) ∈ led' →
      Row3 led' sd B1 B2 B3 (((ys.map letterOf).take a ++ pieceOf q ++ (ys.map letterOf).drop a).foldl (bstep sd) col) →
      m' (Str.ofString "drawn") = some (.ref Dd) → m' (Str.ofString "word") = some (.ref Dw) → m' (Str.ofString "left") = some (.ref Dl) → LawWp w L fa cd rest Q E { s with heap := h', toks := tk' }) :
    LawWp w L fa cd (st 7 :: st 8 :: st 9 :: rest) Q E s := by
  refine ⟨?_⟩
  unfold lawEnv
  revert X
  k_fill
  intro X
  conv in (occs := *) lawScope => all_goals whnf
  conv => enter [3, 1, 1]; whnf
  conv => enter [3, 1, 2, 1]; whnf
  conv => enter [3, 1, 2, 2, 1]; whnf
  w_on
  w_strict k_steps
  unfold Halt
  have hI := ints_letters hys
  have ha0 := fmod_lo (c10.fdiv 4) (n := (ys.length : Int) + 1) (by omega)
  have hq0 := fmod_lo c10 (n := 4) (by decide)
  have hq4 := fmod_hi c10 (n := 4) (by decide)
  refine kmk_slice_ints (ms := (ys.map letterOf).take _) (c := _) (by assumption) (by assumption) (News.isList (by assumption) (by kcf_m)) IsPart.none (IsPart.int _ _) hI (kmk_upto hI ha0) rfl (fun D1 ws1 h F N l1 hI1 _ hle1 => ?_) (by with_unfolding_all rfl) (by kmk_pure) (by rw [List.size_toArray, sizeLine_eq]; omega)
  w_strict k_steps
  unfold Halt
  refine item_four (by assumption) (by k_mem) hq0 hq4 (fun P hP => ?_) (by with_unfolding_all rfl)
  w_strict k_steps
  unfold Halt
  (rename Fr _ _ _ _ => F9)
  (rename News _ _ _ _ => N9)
  have NP : ∃ (pv : List Value) (kk : Nat), News h₀ L h ((P, ({ cls := .type "list", data := .seq pv.toArray kk } : Obj)) :: (D1, ({ cls := .type "list", data := .seq ws1.toArray 0 } : Obj)) :: led) ∧ IntsAre pv (pieceOf (c10.fmod 4)) := by
    have hsubD : ∀ {a b c d e : Addr × Obj}, ∀ p ∈ (D1, ({ cls := .type "list", data := .seq ws1.toArray 0 } : Obj)) :: led, p ∈ (D1, ({ cls := .type "list", data := .seq ws1.toArray 0 } : Obj)) :: a :: b :: c :: d :: e :: led := fun p hp => by
      rcases List.mem_cons.mp hp with rfl | hp
      · exact List.mem_cons_self
      · exact List.mem_cons_of_mem _ (List.mem_cons_of_mem _ (List.mem_cons_of_mem _ (List.mem_cons_of_mem _ (List.mem_cons_of_mem _ (List.mem_cons_of_mem _ hp)))))
    rcases hP with ⟨hq, rfl⟩ | ⟨hq, rfl⟩ | ⟨hq, rfl⟩ | ⟨hq, rfl⟩ <;> rw [hq] <;> exact ⟨_, _, news_pick N9 (by k_mem) hsubD, by with_unfolding_all assumption⟩
  obtain ⟨pv, kk, NP, hIp⟩ := NP
  clear hP N9
  refine add_news F9 NP (List.mem_cons_of_mem _ List.mem_cons_self) List.mem_cons_self hI1 hIp (fun D2 h F N l2 hI2 => ?_) (by rw [sizeLine_eq, piece_len, List.length_take, List.length_map]; omega)
  clear NP F9
  w_strict k_steps
  unfold Halt
  (rename Fr _ _ _ _ => F9)
  (rename News _ _ _ _ => N9)
  refine kmk_slice_ints (ms := (ys.map letterOf).drop _) (c := _) F9 N9 (News.isList N9 (by kcf_m)) (IsPart.int _ _) IsPart.none hI (kmk_from hI ha0) rfl (fun D3 ws3 h F N l3 hI3 _ hle3 => ?_) (by with_unfolding_all rfl) (by kmk_pure) (by rw [List.size_toArray, sizeLine_eq]; omega)
  clear F9 N9
  w_strict k_steps
  unfold Halt
  (rename Fr _ _ _ _ => F9)
  (rename News _ _ _ _ => N9)
  refine add_news F9 N9 (List.mem_cons_of_mem _ List.mem_cons_self) List.mem_cons_self hI2 hI3 (fun D4 h F N l4 hI4 => ?_) (by rw [sizeLine_eq, List.length_append, piece_len, List.length_take, List.length_drop, List.length_map]; omega)
  clear F9 N9
  w_strict k_steps
  unfold Halt
  (rename Fr _ _ _ _ => F9)
  (rename News _ _ _ _ => N9)
  have hlet := letters_ints hI4 (fun n hn => by
    rcases List.mem_append.mp hn with hn | hn
    · rcases List.mem_append.mp hn with hn | hn
      · obtain ⟨v, hv, rfl⟩ := List.mem_map.mp (List.mem_of_mem_take hn)
        obtain ⟨n, t, rfl, h0, h4⟩ := hys v hv
        exact ⟨h0, h4⟩
      · exact piece_letters _ n hn
    · obtain ⟨v, hv, rfl⟩ := List.mem_map.mp (List.mem_of_mem_drop hn)
      obtain ⟨n, t, rfl, h0, h4⟩ := hys v hv
      exact ⟨h0, h4⟩)
  k_dflt (refine Calls.use (braid_call w mean mg mb _ sd D4 Dr A1 A2 A3 _ nr _ col List.mem_cons_self (List.mem_cons_of_mem _ (List.mem_cons_of_mem _ (List.mem_cons_of_mem _ (List.mem_cons_of_mem _ (List.mem_cons_of_mem _ hDr))))) (hrow.mono fun p hp => (List.mem_cons_of_mem _ (List.mem_cons_of_mem _ (List.mem_cons_of_mem _ (List.mem_cons_of_mem _ (List.mem_cons_of_mem _ hp)))))) hlet) B F9 X N9 T rfl (by ktr_room) (by ktr_units) ?_)
  intro S B1 B2 B3 nl news' h' tk' F' N' hsub hrow' hS
  rw [fold_ints (bstep sd) hI4] at hrow'
  clear F9 N9
  w_strict k_steps
  dsimp only
  (rename Fr _ _ _ _ => F9)
  (rename News _ _ _ _ => N9)
  exact LawWp.go <| hk _ _ S B1 B2 B3 nl _ _ _ _ F9 N9 (fun p hp => List.mem_cons_of_mem _ (hsub p (List.mem_cons_of_mem _ (List.mem_cons_of_mem _ (List.mem_cons_of_mem _ (List.mem_cons_of_mem _ (List.mem_cons_of_mem _ hp))))))) List.mem_cons_self (hrow'.mono fun p hp => List.mem_cons_of_mem _ hp) hm1 hm3 rfl
end
section
noncomputable abbrev I3 := Int × Int × Int
noncomputable def ostep (s : I3) (n : Int) : I3 := if n = 0 ∨ n = 1 then (s.2.1, s.1, s.2.2) else (s.1, s.2.2, s.2.1)
noncomputable def OInv (led : List (Addr × Obj)) (I Dd Dw Dl : Addr) (st : I3) (m : Str → Option Value) (ledger : List (Addr × Obj)) : Prop :=
  ∃ Do t1 t2 t3 n, (Do, listI st.1 st.2.1 st.2.2 t1 t2 t3 n) ∈ ledger ∧ (∀ p ∈ led, p ∈ ledger) ∧ (∀ p ∈ ledger, p.1 ≠ I) ∧ m (Str.ofString "order") = some (.ref Do) ∧ m (Str.ofString "drawn") = some (.ref Dd) ∧ m (Str.ofString "word") = some (.ref Dw) ∧ m (Str.ofString "left") = some (.ref Dl)
theorem order_end {h₀ h' : Heap} {L I Dn W Dd Dw Dl : Addr} {m' : Str → Option Value} {o wo : Obj} {x1 x2 x3 x4 : Addr × Obj} {led ledger : List (Addr × Obj)} {st : I3} {t1 t2 t3 : Tok} {n : Nat} {s₁ : Shared} {tk : Nat}
    (F : Fr h₀ L h' m') (N : News h₀ L h' ((Dn, listI st.1 st.2.1 st.2.2 t1 t2 t3 n) :: x1 :: x2 :: x3 :: x4 :: (I, o) :: ledger)) (lt : ∀ p ∈ x1 :: x2 :: x3 :: x4 :: (I, o) :: ledger, p.1 < Dn)
    (hIn : ∀ p ∈ ledger, p.1 ≠ I) (hsub : ∀ p ∈ led, p ∈ ledger) (hW : (W, wo) ∈ led)
    (ho : m' (Str.ofString "order") = some (.ref Dn)) (hd : m' (Str.ofString "drawn") = some (.ref Dd)) (hw : m' (Str.ofString "word") = some (.ref Dw)) (hl : m' (Str.ofString "left") = some (.ref Dl)) :
    UnrEndW h₀ L s₁ [(I, o)] (fun m' n' => SubL [(W, wo)] n' ∧ OInv led I Dd Dw Dl st m' n') { s₁ with heap := h', toks := tk } := by
  have hI : I < Dn := lt (I, o) (by kcf_m)
  refine unrEndW_intro (news' := (Dn, listI st.1 st.2.1 st.2.2 t1 t2 t3 n) :: ledger) F (fun p hp => N p ?_) ?_ ⟨⟨List.mem_cons_of_mem _ (hsub _ hW), trivial⟩, Dn, t1, t2, t3, n, List.mem_cons_self, fun p hp => List.mem_cons_of_mem _ (hsub p hp), ?_, ho, hd, hw, hl⟩
  · rcases List.mem_cons.mp hp with rfl | hp
    · kcf_m
    · rcases List.mem_cons.mp hp with rfl | hp
      · exact List.mem_cons_self
      · kcf_m
  all_goals
    intro p hp
    rcases List.mem_cons.mp hp with rfl | hp
    · exact Nat.ne_of_gt hI
    · exact hIn p hp
theorem half_of {prog : Program} {w : World} {A : Around} {E : Value → Shared → Prop} {s : Shared} {Q : Value → Shared → Prop} {a c : Int} {t u : Tok} (h : a.fdiv 2 = c) (q : Q (.int c s.toks) { s with toks := s.toks + 1 }) (hp : a = 0 ∨ a = 1 ∨ a = 2 ∨ a = 3) :
    wpAny (model prog w) A (binaryOp .FloorDiv (.int a t) (.int 2 u)) Q E s := by
  subst h
  rcases hp with rfl | rfl | rfl | rfl <;> exact floordiv_int (by decide) q
theorem regS60 : True := by
  k_with_none
  (k_with "binaryOp FloorDiv int int" => (k_here; refine half_of (by assumption) ?_ (by assumption)))
  (k_with "eval Name" => (k_here; k_dflt (refine' nameX_L (by k_asm) (by assumption) ?_; k_whole)))
  (k_with "subscriptTail" => (k_here; (with_reducible show wpAny _ _ (subscriptTail _ _ (Value.ref _) (Value.int _ _)) _ _ _); (with_unfolding_all refine' item_news (by k_asm) (by kcf_m) (by decide) (by decide) (by rfl) ?_ (by with_unfolding_all rfl); k_whole)))
  (k_with "subscriptTail Name Constant ref int" => (k_here; (with_reducible show wpAny _ _ (subscriptTail _ _ (Value.ref _) (Value.int _ _)) _ _ _); (with_unfolding_all refine' item_news (by k_asm) (by kcf_m) (by decide) (by decide) (by rfl) ?_ (by with_unfolding_all rfl); k_whole)))
  (k_with "subscriptTail Name Name ref int" => (k_here; (with_reducible show wpAny _ _ (subscriptTail _ _ (Value.ref _) (Value.int _ _)) _ _ _); (with_unfolding_all refine' item_news (by k_asm) (by kcf_m) (by decide) (by decide) (by rfl) ?_ (by with_unfolding_all rfl); k_whole)))
  (k_with "subscriptTail Subscript Constant ref int" => (k_here; (with_reducible show wpAny _ _ (subscriptTail _ _ (Value.ref _) (Value.int _ _)) _ _ _); (with_unfolding_all refine' item_news (by k_asm) (by kcf_m) (by decide) (by decide) (by rfl) ?_ (by with_unfolding_all rfl); k_whole)))
  (k_with "subscriptTail Name BinOp ref int" => (k_here; (with_reducible show wpAny _ _ (subscriptTail _ _ (Value.ref _) (Value.int _ _)) _ _ _); (with_unfolding_all refine' item_news (by k_asm) (by kcf_m) (by decide) (by decide) (by rfl) ?_ (by with_unfolding_all rfl); k_whole)))
  (k_with "subscriptTail Call Constant ref int" => (k_here; (with_reducible show wpAny _ _ (subscriptTail _ _ (Value.ref _) (Value.int _ _)) _ _ _); (with_unfolding_all refine' item_news (by k_asm) (by kcf_m) (by decide) (by decide) (by rfl) ?_ (by with_unfolding_all rfl); k_whole)))
  (k_with "subscriptTail Subscript Name ref int" => (k_here; (with_reducible show wpAny _ _ (subscriptTail _ _ (Value.ref _) (Value.int _ _)) _ _ _); (with_unfolding_all refine' item_news (by k_asm) (by kcf_m) (by decide) (by decide) (by rfl) ?_ (by with_unfolding_all rfl); k_whole)))
  (k_with "subscriptTail Name Slice ref ref" => (k_here; (with_reducible show wpAny _ _ (subscriptTail _ (PySem.Expr.Slice _ _ none _) (Value.ref _) (Value.ref _)) _ _ _); k_dflt (refine' kms_slice_lit (by k_asm) (by k_asm) (by exact News.isList (by k_asm) (by kcf_m)) (by kmk_part) (by kmk_part) (by kl_lit) ?_ (by with_unfolding_all rfl) (by kmk_pure) (by exact Nat.le_of_ble_eq_true rfl)); intro D'Z h'Z F'Z N'Z l1Z))
  (k_with "binaryOp Add ref ref" => (k_here; k_dflt (refine' add_news (by k_asm) (by k_asm) (by kcf_m) (by kcf_m) (by l_ints) (by l_ints) ?_ (by exact Nat.le_of_ble_eq_true rfl)); intro D'Z h'Z F'Z N'Z l1Z hI'Z; (try dsimp only [List.cons_append, List.nil_append] at N'Z); clear hI'Z))
  (k_with "pyIter ref" => (k_here; refine Halt.go ?_))
  (k_with "UnrEndW" => (k_here; refine Halt.go ?_))
  (k_with "exec For Name Name cons nil" => (k_here; (rename Fr _ _ _ _ => lF'Z); (with_unfolding_all refine' For_turns lF'Z ?_; k_whole)))
  (k_with "exec For Name Call cons nil" => (k_here; (rename Fr _ _ _ _ => lF'Z); (with_unfolding_all refine' For_turns lF'Z ?_; k_whole)))
  (k_with "exec For Name Tuple cons nil" => (k_here; (rename Fr _ _ _ _ => lF'Z); (with_unfolding_all refine' For_turns lF'Z ?_; k_whole)))
  trivial
set_option maxRecDepth 100000 in
set_option maxHeartbeats 1000000 in
theorem segE (w : World) (mean : ExcName → Option Value) (mg mb : Str → Option Value) (h₀ : Heap) (L fa : Addr) (cd : Value) (s : Shared) (Q : Flow → Shared → Prop) (E : Value → Shared → Prop) (m0 : Str → Option Value) (led : List (Addr × Obj)) (rest : List Stmt)
    (Dd Dw Dl : Addr) (ys : List Value)
    (B : Below callerA h₀ [] h₀) (X : (hd.heap_39 w.params).In h₀) (T : Top hd.view_39 (looseW hd.view_39 [Str.ofString "ONE_THIRD", Str.ofString "ONE_SIXTH", Str.ofString "TWO_THIRD"]) mean mg mb h₀) (F : Fr h₀ L s.heap m0)
    (N : News h₀ L s.heap led) (hDw : (Dw, LCg.lst ys) ∈ led) (hys : ∀ v ∈ ys, isLetter v)
    (hm1 : m0 (Str.ofString "drawn") = some (.ref Dd)) (hm3 : m0 (Str.ofString "word") = some (.ref Dw)) (hm4 : m0 (Str.ofString "left") = some (.ref Dl)) (hE : PassesOwn (model PySem.Challenge.rw_pe0093_01.row.prog w) (callerA.deeper (lawEnv L fa cd)) (lawEnv L fa cd) E)
    (hk : ∀ (Do : Addr) (t1 t2 t3 : Tok) (n : Nat) (led' : List (Addr × Obj)) (h' : Heap) (tk' : Nat) (m' : Str → Option Value), Fr h₀ L h' m' → News h₀ L h' led' → (∀ p ∈ led, p ∈ led') →
      (Do, listI ((ys.map letterOf).foldl ostep (0, 1, 2)).1 ((ys.map letterOf).foldl ostep (0, 1, 2)).2.1 ((ys.map letterOf).foldl ostep (0, 1, 2)).2.2 t1 t2 t3 n) ∈ led' →
      m' (Str.ofString "drawn") = some (.ref Dd) → m' (Str.ofString "word") = some (.ref Dw) → m' (Str.ofString "left") = some (.ref Dl) → m' (Str.ofString "order") = some (.ref Do) → LawWp w L fa cd rest Q E { s with heap := h', toks := tk' }) :
    LawWp w L fa cd (st 10 :: st 11 :: rest) Q E s := by
  refine ⟨?_⟩
  unfold lawEnv
  revert X
  k_fill
  intro X
  conv in (occs := *) lawScope => all_goals whnf
  conv => enter [3, 1, 1]; whnf
  conv => enter [3, 1, 2, 1]; whnf
  w_on
  w_strict k_steps
  unfold Halt
  (rename News _ _ _ _ => N9)
  refine iter_listTurns (ax := Dw) (vs := ys) rfl (by assumption) N9 (List.mem_cons_of_mem _ hDw) rfl rfl (fun I hI => ?_)
  have hIn : ∀ p : Addr × Obj, p ∈ _ → p.1 ≠ I := fun p hp => Nat.ne_of_lt (hI p hp)
  clear N9 hI
  refine items_fold (OInv led I Dd Dw Dl) (fun s v => ostep s (letterOf v)) isLetter ?turn ys (0, 1, 2) _ _ hys ⟨_, _, _, _, _, List.mem_cons_self, fun p hp => List.mem_cons_of_mem _ hp, hIn, rfl, hm1, hm3, hm4⟩ ?fin
  case fin =>
    intro m' led' hi h tk F N
    obtain ⟨Do, t1, t2, t3, n, hmem, hsub, _, ho, hd, hw, hl⟩ := hi
    rw [fold_ints ostep (ints_letters hys)] at hmem
    exact LawWp.go <| hk Do t1 t2 t3 n led' h tk m' F N hsub hmem hd hw hl ho
  case turn =>
    clear hIn
    intro st v m ledger h tk o hv hi ho F N
    obtain ⟨Do, t1, t2, t3, n, hmem, hsub, hIn, hmo, hmd, hmw, hml⟩ := hi
    obtain ⟨nn, t, rfl, h0, h4⟩ := hv
    obtain ⟨o1, o2, o3⟩ := st
    dsimp only at hmem
    have hcases : nn = 0 ∨ nn = 1 ∨ nn = 2 ∨ nn = 3 := by omega
    have hhalf : (nn.fdiv 2 = 0 ∧ (nn = 0 ∨ nn = 1)) ∨ (nn.fdiv 2 = 1 ∧ ¬ (nn = 0 ∨ nn = 1)) := by rcases hcases with rfl | rfl | rfl | rfl <;> decide
    rcases hhalf with ⟨hhalf, hn⟩ | ⟨hhalf, hn⟩
    · w_strict k_steps
      unfold Halt
      (rename Fr _ _ _ _ => F9)
      have e : ostep (o1, o2, o3) (letterOf (.int nn t)) = (o2, o1, o3) := if_pos hn
      rw [e]
      exact order_end (st := (o2, o1, o3)) F9 (by assumption) (by assumption) hIn hsub hDw rfl hmd hmw hml
    · w_strict k_steps
      unfold Halt
      (rename Fr _ _ _ _ => F9)
      have e : ostep (o1, o2, o3) (letterOf (.int nn t)) = (o1, o3, o2) := if_neg hn
      rw [e]
      exact order_end (st := (o1, o3, o2)) F9 (by assumption) (by assumption) hIn hsub hDw rfl hmd hmw hml
end
section
set_option maxRecDepth 100000 in
set_option maxHeartbeats 8000000 in
theorem mul_ii_call (w : World) (mean : ExcName → Option Value) (mg mb : Str → Option Value) (news : List (Addr × Obj)) (a b : Int) (t1 t2 : Tok) (hm : IntMulOk a b) :
    Calls w mean mg mb 70 news [.int a t1, .int b t2] 1 (RetI news (a * b)) := by
  dsimp only [Calls, Frag0, Pg, Lo, RetI]
  k_fill
  intro dp un gd cn cs a ccd cl outer A₀ base h₀ L m s Q E B F X N T hk hd' hu hret
  refine wpAny_call ?_
  w_on
  w_strict (k_dflt cell_enter; k_steps)
  exact hret _ _ _ (by assumption) (by assumption)
theorem mulOk {a b : Int} (h : b.natAbs < 100000) : IntMulOk a b := by
  have h1 : -100000 < b := by omega
  have h2 : b < 100000 := by omega
  mul_fits
theorem allLt_mem {d : Nat} : ∀ {l : List (Addr × Obj)}, AllLt d l → ∀ p ∈ l, p.1 < d
  | [], _, _, h => nomatch h
  | _ :: _, x, p, h => by
    rcases List.mem_cons.mp h with rfl | h
    · exact x.1
    · exact allLt_mem x.2 p h
noncomputable abbrev tabV (ys : List Value) : T4 := ys.foldl (fun s v => tstep s (letterOf v)) (1, 0, 0, 1)
noncomputable def oneV (tb : T4) (n1 n2 n3 : Int) : Int := tb.1 * (n1 - n2) + tb.2.1 * (n2 - n3)
noncomputable def twoV (tb : T4) (n1 n2 n3 : Int) : Int := tb.2.2.1 * (n1 - n2) + tb.2.2.2 * (n2 - n3)
theorem regS70 : True := by
  k_with_none
  (k_with "eval Name" => (k_here; k_dflt (refine' nameX_L (by k_asm) (by assumption) ?_; k_whole)))
  (k_with "subscriptTail" => (k_here; (with_reducible show wpAny _ _ (subscriptTail _ _ (Value.ref _) (Value.int _ _)) _ _ _); (with_unfolding_all refine' item_news (by k_asm) (by kcf_m) (by decide) (by decide) (by rfl) ?_ (by with_unfolding_all rfl); k_whole)))
  (k_with "subscriptTail Name Constant ref int" => (k_here; (with_reducible show wpAny _ _ (subscriptTail _ _ (Value.ref _) (Value.int _ _)) _ _ _); (with_unfolding_all refine' item_news (by k_asm) (by kcf_m) (by decide) (by decide) (by rfl) ?_ (by with_unfolding_all rfl); k_whole)))
  (k_with "subscriptTail Name Name ref int" => (k_here; (with_reducible show wpAny _ _ (subscriptTail _ _ (Value.ref _) (Value.int _ _)) _ _ _); (with_unfolding_all refine' item_news (by k_asm) (by kcf_m) (by decide) (by decide) (by rfl) ?_ (by with_unfolding_all rfl); k_whole)))
  (k_with "subscriptTail Subscript Constant ref int" => (k_here; (with_reducible show wpAny _ _ (subscriptTail _ _ (Value.ref _) (Value.int _ _)) _ _ _); (with_unfolding_all refine' item_news (by k_asm) (by kcf_m) (by decide) (by decide) (by rfl) ?_ (by with_unfolding_all rfl); k_whole)))
  (k_with "subscriptTail Name BinOp ref int" => (k_here; (with_reducible show wpAny _ _ (subscriptTail _ _ (Value.ref _) (Value.int _ _)) _ _ _); (with_unfolding_all refine' item_news (by k_asm) (by kcf_m) (by decide) (by decide) (by rfl) ?_ (by with_unfolding_all rfl); k_whole)))
  (k_with "subscriptTail Call Constant ref int" => (k_here; (with_reducible show wpAny _ _ (subscriptTail _ _ (Value.ref _) (Value.int _ _)) _ _ _); (with_unfolding_all refine' item_news (by k_asm) (by kcf_m) (by decide) (by decide) (by rfl) ?_ (by with_unfolding_all rfl); k_whole)))
  (k_with "subscriptTail Subscript Name ref int" => (k_here; (with_reducible show wpAny _ _ (subscriptTail _ _ (Value.ref _) (Value.int _ _)) _ _ _); (with_unfolding_all refine' item_news (by k_asm) (by kcf_m) (by decide) (by decide) (by rfl) ?_ (by with_unfolding_all rfl); k_whole)))
  (k_with "call ref" => (k_here; (with_reducible show wpAny _ _ (call (Value.ref 56) _) _ _ _); k_dflt (refine' Calls.use2 (by k_asm) (by k_asm) (by k_asm) (by k_asm) (by k_asm) (by first | exact rfl | assumption) (by ktr_room) (by ktr_units) (add_ii_call _ _ _ _ _ _ _ _ _ ) ?_; k_whole; intro t9Z h9Z tk9Z F9Z N9Z; (try dsimp only); (try k_fold))))
  (k_with "call ref" => (k_here; (with_reducible show wpAny _ _ (call (Value.ref 77) _) _ _ _); k_dflt (refine' Calls.use2 (by k_asm) (by k_asm) (by k_asm) (by k_asm) (by k_asm) (by first | exact rfl | assumption) (by ktr_room) (by ktr_units) (sub_ii_call _ _ _ _ _ _ _ _ _ ) ?_; k_whole; intro t9Z h9Z tk9Z F9Z N9Z; (try dsimp only); (try k_fold))))
  (k_with "call ref" => (k_here; (with_reducible show wpAny _ _ (call (Value.ref 70) _) _ _ _); k_dflt (refine' Calls.use2 (by k_asm) (by k_asm) (by k_asm) (by k_asm) (by k_asm) (by first | exact rfl | assumption) (by ktr_room) (by ktr_units) (mul_ii_call _ _ _ _ _ _ _ _ _ (by first | k_asm | decide | omega)) ?_; k_whole; intro t9Z h9Z tk9Z F9Z N9Z; (try dsimp only); (try k_fold))))
  (k_with "call ref" => (k_here; (with_reducible show wpAny _ _ (call (Value.ref 103) _) _ _ _); k_dflt (refine' Calls.use2 (by k_asm) (by k_asm) (by k_asm) (by k_asm) (by k_asm) (by first | exact rfl | assumption) (by ktr_room) (by ktr_units) (table_call _ _ _ _ _ _ _ _ (by kcf_m) (by assumption)) ?_; k_whole; intro D9Z u9Z v9Z w9Z x9Z c9Z h9Z tk9Z F9Z N9Z l9Z; (try dsimp only); (try k_fold))))
  trivial
set_option maxRecDepth 100000 in
set_option maxHeartbeats 1000000 in
theorem segF (w : World) (mean : ExcName → Option Value) (mg mb : Str → Option Value) (h₀ : Heap) (L fa : Addr) (cd : Value) (s : Shared) (Q : Flow → Shared → Prop) (E : Value → Shared → Prop) (m0 : Str → Option Value) (led : List (Addr × Obj)) (rest : List Stmt)
    (Dd Dw Dl Do : Addr) (ys : List Value) (n1 n2 n3 : Int) (u1 u2 u3 : Tok) (kn : Nat)
    (B : Below callerA h₀ [] h₀) (X : (hd.heap_39 w.params).In h₀) (T : Top hd.view_39 (looseW hd.view_39 [Str.ofString "ONE_THIRD", Str.ofString "ONE_SIXTH", Str.ofString "TWO_THIRD"]) mean mg mb h₀) (F : Fr h₀ L s.heap m0)
    (N : News h₀ L s.heap led) (hDw : (Dw, LCg.lst ys) ∈ led) (hys : ∀ v ∈ ys, isLetter v) (hDd : (Dd, listI n1 n2 n3 u1 u2 u3 kn) ∈ led)
    (hb1 : IntMulOk (tabV ys).1 (n1 - n2)) (hb2 : IntMulOk (tabV ys).2.1 (n2 - n3)) (hb3 : IntMulOk (tabV ys).2.2.1 (n1 - n2)) (hb4 : IntMulOk (tabV ys).2.2.2 (n2 - n3))
    (hm1 : m0 (Str.ofString "drawn") = some (.ref Dd)) (hm3 : m0 (Str.ofString "word") = some (.ref Dw)) (hm4 : m0 (Str.ofString "left") = some (.ref Dl)) (hm5 : m0 (Str.ofString "order") = some (.ref Do))
    (hk : ∀ (Dp Du : Addr) (p1 p2 p3 ta td : Tok) (led' : List (Addr × Obj)) (h' : Heap) (tk' : Nat) (m' : Str → Option Value), Fr h₀ L h' m' → News h₀ L h' ((Du, ({ cls := .type "list", data := .seq #[] 0 } : Obj)) :: led') → (∀ p ∈ led, p ∈ led') → (∀ p ∈ led', p.1 ≠ Du) →
      (Dp, listI (n1 - n2 + n3 + twoV (tabV ys) n1 n2 n3) (n1 - n2 + n3 + twoV (tabV ys) n1 n2 n3 - oneV (tabV ys) n1 n2 n3) (n1 - n2 + n3 - oneV (tabV ys) n1 n2 n3) p1 p2 p3 0) ∈ led' →
      m' (Str.ofString "drawn") = some (.ref Dd) → m' (Str.ofString "word") = some (.ref Dw) → m' (Str.ofString "left") = some (.ref Dl) → m' (Str.ofString "order") = some (.ref Do) → m' (Str.ofString "places") = some (.ref Dp) → m' (Str.ofString "due") = some (.ref Du) →
      m' (Str.ofString "a") = some (.int (tabV ys).1 ta) → m' (Str.ofString "d") = some (.int (tabV ys).2.2.2 td) → LawWp w L fa cd rest Q E { s with heap := h', toks := tk' }) :
    LawWp w L fa cd (st 12 :: st 13 :: st 14 :: st 15 :: st 16 :: st 17 :: st 18 :: st 19 :: rest) Q E s := by
  refine ⟨?_⟩
  unfold lawEnv
  revert X
  k_fill
  intro X
  conv in (occs := *) lawScope => all_goals whnf
  conv => enter [3, 1, 1]; whnf
  conv => enter [3, 1, 2, 1]; whnf
  conv => enter [3, 1, 2, 2, 1]; whnf
  conv => enter [3, 1, 2, 2, 2, 1]; whnf
  conv => enter [3, 1, 2, 2, 2, 2, 1]; whnf
  conv => enter [3, 1, 2, 2, 2, 2, 2, 1]; whnf
  conv => enter [3, 1, 2, 2, 2, 2, 2, 2, 1]; whnf
  conv => enter [3, 1, 2, 2, 2, 2, 2, 2, 2, 1]; whnf
  w_on
  w_strict k_steps
  dsimp only
  (rename Fr _ _ _ _ => F9)
  (rename News _ _ _ _ => N9)
  (rename _ ∧ _ ∧ AllLt _ led => l9)
  obtain ⟨la, lb, lc⟩ := l9
  refine LawWp.go <| hk _ _ _ _ _ _ _ _ _ _ _ F9 N9 (fun p hp => List.mem_cons_of_mem _ (List.mem_cons_of_mem _ hp)) ?_ List.mem_cons_self hm1 hm3 hm4 hm5 rfl rfl rfl rfl
  intro p hp
  rcases List.mem_cons.mp hp with rfl | hp
  · exact Nat.ne_of_lt la
  · rcases List.mem_cons.mp hp with rfl | hp
    · exact Nat.ne_of_lt lb
    · exact Nat.ne_of_lt (allLt_mem lc p hp)
end
section
set_option maxRecDepth 100000 in
set_option maxHeartbeats 8000000 in
theorem mod_ii_call (w : World) (mean : ExcName → Option Value) (mg mb : Str → Option Value) (news : List (Addr × Obj)) (a b : Int) (t1 t2 : Tok) (hb : 0 < b) :
    Calls w mean mg mb 63 news [.int a t1, .int b t2] 1 (RetI news (a.fmod b)) := by
  dsimp only [Calls, Frag0, Pg, Lo, RetI]
  k_fill
  intro dp un gd cn cs a ccd cl outer A₀ base h₀ L m s Q E B F X N T hk hd' hu hret
  refine wpAny_call ?_
  w_on
  w_strict (k_dflt cell_enter; k_steps)
  exact hret _ _ _ (by assumption) (by assumption)
noncomputable def nth (k a b c : Int) : Int := if k = 0 then a else if k = 1 then b else c
theorem item_three {prog : Program} {w : World} {A : Around} {E : Value → Shared → Prop} {s : Shared} {h₀ : Heap} {L l : Addr} {news : List (Addr × Obj)} {Q : Value → Shared → Prop} {value slice : PySem.Expr} {a b c : Int} {t1 t2 t3 : Tok} {n : Nat} {k : Int} {u : Tok}
    (N : News h₀ L s.heap news) (hm : (l, listI a b c t1 t2 t3 n) ∈ news) (h0 : 0 ≤ k) (h3 : k < 3)
    (h : ∀ t, Q (.int (nth k a b c) t) s)
    (hs : subscripted slice false (.ref l) (.int k u) = operate [.ref l, .int k u] (getItem (.ref l) (.int k u))) :
    wpAny (model prog w) A (subscriptTail value slice (.ref l) (.int k u)) Q E s := by
  have hc : k = 0 ∨ k = 1 ∨ k = 2 := by omega
  rcases hc with rfl | rfl | rfl
  · exact item_news N hm h0 (by decide) rfl (h t1) hs
  · exact item_news N hm h0 (by decide) rfl (h t2) hs
  · exact item_news N hm h0 (by decide) rfl (h t3) hs
theorem due_end {h₀ h' : Heap} {L I Du D9 : Addr} {s₁ : Shared} {it du du0 ob tpo : Obj} {T : Addr} {rest : (Str → Option Value) → List (Addr × Obj) → Prop} {m' : Str → Option Value} {tk : Nat} {ledt : List (Addr × Obj)}
    (F : Fr h₀ L h' m') (N : News h₀ L h' ((T, tpo) :: (D9, ob) :: (I, it) :: (Du, du) :: ledt)) (l9 : ∀ p ∈ (I, it) :: (Du, du0) :: ledt, p.1 ≠ D9) (hI : ∀ p ∈ ledt, p.1 ≠ I) (hDuI : Du ≠ I) (hDu : ∀ p ∈ ledt, p.1 ≠ Du)
    (r : (∀ p ∈ (D9, ob) :: ledt, p.1 ≠ Du) → (∀ p ∈ (D9, ob) :: ledt, p.1 ≠ I) → rest m' ((Du, du) :: (D9, ob) :: ledt)) : UnrEnd h₀ L s₁ I it rest { s₁ with heap := h', toks := tk } := by
  have d1 : I ≠ D9 := l9 _ List.mem_cons_self
  have d2 : Du ≠ D9 := l9 (Du, du0) (List.mem_cons_of_mem _ List.mem_cons_self)
  refine ⟨h', tk, m', (Du, du) :: (D9, ob) :: ledt, rfl, F, fun p hp => N p ?_, ?_, r (List.forall_mem_cons.mpr ⟨Ne.symm d2, hDu⟩) (List.forall_mem_cons.mpr ⟨Ne.symm d1, hI⟩)⟩
  · rcases List.mem_cons.mp hp with rfl | hp
    · exact List.mem_cons_of_mem _ (List.mem_cons_of_mem _ List.mem_cons_self)
    · rcases List.mem_cons.mp hp with rfl | hp
      · exact List.mem_cons_of_mem _ (List.mem_cons_of_mem _ (List.mem_cons_of_mem _ List.mem_cons_self))
      · rcases List.mem_cons.mp hp with rfl | hp
        · exact List.mem_cons_of_mem _ List.mem_cons_self
        · exact List.mem_cons_of_mem _ (List.mem_cons_of_mem _ (List.mem_cons_of_mem _ (List.mem_cons_of_mem _ hp)))
  · exact List.forall_mem_cons.mpr ⟨hDuI, List.forall_mem_cons.mpr ⟨Ne.symm d1, hI⟩⟩
theorem has_of {news : List (Addr × Obj)} {A : Addr} {side a b c : Int} {x : Cs} {t1 t2 t3 : Tok} {n : Nat} (e : colI x.p side x.u x.w = (a, b, c)) (hm : (A, listI a b c t1 t2 t3 n) ∈ news) : Has news A side x :=
  ⟨t1, t2, t3, n, by show (A, listI (colI x.p side x.u x.w).1 (colI x.p side x.u x.w).2.1 (colI x.p side x.u x.w).2.2 t1 t2 t3 n) ∈ news; rw [e]; exact hm⟩
theorem item_tup3 {prog : Program} {w : World} {A : Around} {E : Value → Shared → Prop} {s : Shared} {h₀ : Heap} {L l : Addr} {news : List (Addr × Obj)} {Q : Value → Shared → Prop} {value slice : PySem.Expr} {x y z : UInt64} {t1 t2 t3 u : Tok} {c : Nat}
    (N : News h₀ L s.heap news) (hm : (l, ({ cls := .type "tuple", data := .seq #[.float x t1, .float y t2, .float z t3] c } : Obj)) ∈ news) (h : Q (.float x t1) s)
    (hs : subscripted slice false (.ref l) (.int 0 u) = operate [.ref l, .int 0 u] (getItem (.ref l) (.int 0 u))) :
    wpAny (model prog w) A (subscriptTail value slice (.ref l) (.int 0 u)) Q E s :=
  have ht : IsTup s.heap l (#[.float x t1, .float y t2, .float z t3] : Array Value) := ⟨_, N.get hm, rfl, c, rfl⟩
  tail_any ht.typeIs slot_tuple_getitem.lookup (getItem_tuple (k := 0) (j := 0) ht (by decide) (by decide) rfl rfl h) hs
theorem item_last {prog : Program} {w : World} {A : Around} {E : Value → Shared → Prop} {s : Shared} {h₀ : Heap} {L l : Addr} {news : List (Addr × Obj)} {Q : Value → Shared → Prop} {value slice : PySem.Expr} {ys : List Value} {x : Value} {n : Nat} {k : Int} {u : Tok}
    (N : News h₀ L s.heap news) (hm : (l, ({ cls := .type "list", data := .seq (ys.toArray.push x) n } : Obj)) ∈ news) (hk : k = (ys.length : Int)) (h3 : k < 3) (h : Q x s)
    (hs : subscripted slice false (.ref l) (.int k u) = operate [.ref l, .int k u] (getItem (.ref l) (.int k u))) :
    wpAny (model prog w) A (subscriptTail value slice (.ref l) (.int k u)) Q E s := by
  refine item_news N hm (by omega) (by omega) ?_ h hs
  rw [hk, Int.toNat_natCast, List.push_toArray, List.drop_left]
  rfl
theorem unrEnd_mono {h₀ : Heap} {L : Addr} {s₁ : Shared} {I : Addr} {it : Obj} {rest rest' : (Str → Option Value) → List (Addr × Obj) → Prop} {s₂ : Shared} (h : UnrEnd h₀ L s₁ I it rest s₂) (k : ∀ m n, rest m n → rest' m n) : UnrEnd h₀ L s₁ I it rest' s₂ := by
  obtain ⟨h', tk, m', news', e, F, N, o, r⟩ := h
  exact ⟨h', tk, m', news', e, F, N, o, k _ _ r⟩
theorem unrPost_mono {h₀ : Heap} {L : Addr} {s₁ : Shared} {I : Addr} {it : Obj} {rest rest' : (Str → Option Value) → List (Addr × Obj) → Prop} {Q : Flow → Shared → Prop} {f : Flow} {s₂ : Shared} (h : UnrPost h₀ L s₁ I it rest Q f s₂) (k : ∀ m n, rest m n → rest' m n) : UnrPost h₀ L s₁ I it rest' Q f s₂ := by
  cases f with
  | ret v => exact h
  | brk => exact h
  | next => exact unrEnd_mono h k
  | cont => exact unrEnd_mono h k
/-- a loop over a range by what holds between its turns -/
theorem range_inv {prog : Program} {w : World} {A : Around} {E : Value → Shared → Prop} {s : Shared} {env : Env} {h₀ : Heap} {x : Str} {body : List Stmt} {Q : Flow → Shared → Prop} {I : Addr} {a : Int} {n : Nat} (Inv : Nat → (Str → Option Value) → List (Addr × Obj) → Prop)
    (turn : ∀ (i : Nat) m news, i < n → Inv i m news → ∀ t h tk, Fr h₀ env.locals h (fun y => if y = x then some (.int (a + (i : Int)) t) else m y) → News h₀ env.locals h ((I, itR (a + ((i + 1 : Nat) : Int)) ((n : Int) - ((i + 1 : Nat) : Int))) :: news) →
      wpAny (model prog w) A (execs body env) (UnrPost h₀ env.locals { s with heap := h, toks := tk } I (itR (a + ((i + 1 : Nat) : Int)) ((n : Int) - ((i + 1 : Nat) : Int))) (Inv (i + 1)) Q) E { s with heap := h, toks := tk })
    (fin : ∀ m news, Inv n m news → ∀ h tk, Fr h₀ env.locals h m → News h₀ env.locals h news → Q .next { s with heap := h, toks := tk }) :
    ∀ (k i : Nat) (m : Str → Option Value) (news : List (Addr × Obj)), i + k = n → Inv i m news → RangeRest prog w A E h₀ env x body Q s I a n k i m news
  | 0, i, m, news, e, hi => RangeRest.zero fun h tk F N => fin m news (by rw [← e]; exact hi) h tk F N
  | k + 1, i, m, news, e, hi => RangeRest.succ fun t h tk F N => wpAny_mono (turn i m news (by omega) hi t h tk F N) (fun _ _ r => unrPost_mono r fun m' n' h' => range_inv Inv turn fin k (i + 1) m' n' (by omega) h') fun _ _ e => e
/-- what the floats tell of a colour's hue -/
structure HueI (sd a b c pl : Int) (z sv vv : UInt64) : Prop where
  inb : Inb a b c
  g1 : (Float64.cmp (min3 (fl a) (fl b) (fl c)) (max3 (fl a) (fl b) (fl c)) == some .eq) = false
  g2 : Float64.isZero (max3 (fl a) (fl b) (fl c)) = false
  g3 : Float64.isZero (Float64.sub (max3 (fl a) (fl b) (fl c)) (min3 (fl a) (fl b) (fl c))) = false
  hsv : hsvF (fl a) (fl b) (fl c) = (z, sv, vv)
  fin : Float64.isFinite (Float64.mul (Float64.ofInt (6 * sd)) z) = true
  rnd : rndF (Float64.mul (Float64.ofInt (6 * sd)) z) = pl
noncomputable def dueC (sd q n : Int) : Cs := ⟨q.fmod (6 * sd), 1 + (n.fdiv (6 * sd)).fmod 4, n.fdiv (4 * (6 * sd))⟩
noncomputable def HueOk (sd : Int) (x : Cs) : Prop := ∃ z sv vv, HueI sd (colI x.p sd x.u x.w).1 (colI x.p sd x.u x.w).2.1 (colI x.p sd x.u x.w).2.2 x.p z sv vv
theorem col_call' (w : World) (mean : ExcName → Option Value) (mg mb : Str → Option Value) (news : List (Addr × Obj)) (place side unit white : Int) (t1 t2 t3 t4 : Tok) (a b c : Int)
    (hs : 0 < side) (hs8 : side ≤ 8) (hu : 0 ≤ unit) (hu2 : unit ≤ 64) (e : colI place side unit white = (a, b, c)) :
    Calls w mean mg mb 84 news [.int place t1, .int side t2, .int unit t3, .int white t4] 1 (RetL news (a, b, c)) := e ▸ col_call w mean mg mb news place side unit white t1 t2 t3 t4 hs hs8 hu hu2
/-- what is due so far -/
structure GInv (led : List (Addr × Obj)) (I Du Dd Dw Dl Do Dp : Addr) (sd n1 n2 n3 o1 o2 o3 q1 q2 q3 : Int) (m0 : Str → Option Value) (i : Nat) (m : Str → Option Value) (ledger : List (Addr × Obj)) : Prop where
  ex : ∃ (ys : List Value) (kk : Nat) (led' : List (Addr × Obj)), ledger = (Du, ({ cls := .type "list", data := .seq ys.toArray kk } : Obj)) :: led' ∧ ys.length = i ∧
    (∀ j : Nat, j < i → ∃ E, ys[j]? = some (.ref E) ∧ Has led' E sd (dueC sd (nth (j : Int) q1 q2 q3) (nth (nth (j : Int) o1 o2 o3) n1 n2 n3))) ∧ (∀ p ∈ led, p ∈ led') ∧ (∀ p ∈ led', p.1 ≠ Du) ∧ (∀ p ∈ led', p.1 ≠ I)
  m1 : m (Str.ofString "drawn") = some (.ref Dd)
  m3 : m (Str.ofString "word") = some (.ref Dw)
  m4 : m (Str.ofString "left") = some (.ref Dl)
  m5 : m (Str.ofString "order") = some (.ref Do)
  m6 : m (Str.ofString "places") = some (.ref Dp)
  m7 : m (Str.ofString "due") = some (.ref Du)
  ad : ∀ x v, x = Str.ofString "a" ∨ x = Str.ofString "d" → m0 x = some v → m x = some v
theorem nth_mem {P : Int → Prop} {k a b c : Int} (ha : P a) (hb : P b) (hc : P c) : P (nth k a b c) := by
  unfold nth
  split
  · exact ha
  · split
    · exact hb
    · exact hc
theorem ys3 {ys : List Value} {a b c : Value} (h : ys.length = 3) (h0 : ys[0]? = some a) (h1 : ys[1]? = some b) (h2 : ys[2]? = some c) : ys = [a, b, c] := by
  apply List.ext_getElem?
  intro i
  match i with
  | 0 => exact h0
  | 1 => exact h1
  | 2 => exact h2
  | i + 3 => rw [List.getElem?_eq_none (by omega)]; rfl
theorem regS80 : True := by
  k_with_none
  (k_with "eval Name" => (k_here; k_dflt (refine' nameX_L (by k_asm) (by assumption) ?_ rfl rfl; k_whole)))
  (k_with "eval Name" => (k_here; k_dflt (refine' nameX_C (by k_asm) (by rfl) (by kcf_m) (by assumption) ?_ rfl rfl; k_whole)))
  (k_with "subscriptTail" => (k_here; (with_reducible show wpAny _ _ (subscriptTail _ _ (Value.ref _) (Value.int _ _)) _ _ _); (with_unfolding_all refine' item_news (by k_asm) (by kcf_m) (by decide) (by decide) (by rfl) ?_ (by with_unfolding_all rfl); k_whole)))
  (k_with "subscriptTail Name Constant ref int" => (k_here; (with_reducible show wpAny _ _ (subscriptTail _ _ (Value.ref _) (Value.int _ _)) _ _ _); (with_unfolding_all refine' item_news (by k_asm) (by kcf_m) (by decide) (by decide) (by rfl) ?_ (by with_unfolding_all rfl); k_whole)))
  (k_with "subscriptTail Name Name ref int" => (k_here; (with_reducible show wpAny _ _ (subscriptTail _ _ (Value.ref _) (Value.int _ _)) _ _ _); (with_unfolding_all refine' item_news (by k_asm) (by kcf_m) (by decide) (by decide) (by rfl) ?_ (by with_unfolding_all rfl); k_whole)))
  (k_with "subscriptTail Subscript Constant ref int" => (k_here; (with_reducible show wpAny _ _ (subscriptTail _ _ (Value.ref _) (Value.int _ _)) _ _ _); (with_unfolding_all refine' item_news (by k_asm) (by kcf_m) (by decide) (by decide) (by rfl) ?_ (by with_unfolding_all rfl); k_whole)))
  (k_with "subscriptTail Name BinOp ref int" => (k_here; (with_reducible show wpAny _ _ (subscriptTail _ _ (Value.ref _) (Value.int _ _)) _ _ _); (with_unfolding_all refine' item_news (by k_asm) (by kcf_m) (by decide) (by decide) (by rfl) ?_ (by with_unfolding_all rfl); k_whole)))
  (k_with "subscriptTail Call Constant ref int" => (k_here; (with_reducible show wpAny _ _ (subscriptTail _ _ (Value.ref _) (Value.int _ _)) _ _ _); (with_unfolding_all refine' item_news (by k_asm) (by kcf_m) (by decide) (by decide) (by rfl) ?_ (by with_unfolding_all rfl); k_whole)))
  (k_with "subscriptTail Subscript Name ref int" => (k_here; (with_reducible show wpAny _ _ (subscriptTail _ _ (Value.ref _) (Value.int _ _)) _ _ _); (with_unfolding_all refine' item_news (by k_asm) (by kcf_m) (by decide) (by decide) (by rfl) ?_ (by with_unfolding_all rfl); k_whole)))
  (k_with "subscriptTail Name Name ref int" => (k_here; (with_reducible show wpAny _ _ (subscriptTail _ _ (Value.ref _) (Value.int _ _)) _ _ _); (with_unfolding_all refine' item_news (by k_asm) (by kcf_m) (by decide) (by decide) (by rfl) ?_ (by with_unfolding_all rfl); k_whole)))
  (k_with "subscriptTail Subscript Constant ref int" => (k_here; (with_reducible show wpAny _ _ (subscriptTail _ _ (Value.ref _) (Value.int _ _)) _ _ _); (with_unfolding_all refine' item_news (by k_asm) (by kcf_m) (by decide) (by decide) (by rfl) ?_ (by with_unfolding_all rfl); k_whole)))
  (k_with "subscriptTail" => (k_here; (with_reducible show wpAny _ _ (subscriptTail _ _ (Value.ref _) (Value.int 0 _)) _ _ _); (refine' item_tup3 (by k_asm) (by exact List.mem_cons_self) ?_ (by with_unfolding_all rfl); k_whole)))
  (k_with "subscriptTail Name Constant ref int" => (k_here; (with_reducible show wpAny _ _ (subscriptTail _ _ (Value.ref _) (Value.int 0 _)) _ _ _); (refine' item_tup3 (by k_asm) (by exact List.mem_cons_self) ?_ (by with_unfolding_all rfl); k_whole)))
  (k_with "subscriptTail Name Name ref int" => (k_here; (with_reducible show wpAny _ _ (subscriptTail _ _ (Value.ref _) (Value.int 0 _)) _ _ _); (refine' item_tup3 (by k_asm) (by exact List.mem_cons_self) ?_ (by with_unfolding_all rfl); k_whole)))
  (k_with "subscriptTail Subscript Constant ref int" => (k_here; (with_reducible show wpAny _ _ (subscriptTail _ _ (Value.ref _) (Value.int 0 _)) _ _ _); (refine' item_tup3 (by k_asm) (by exact List.mem_cons_self) ?_ (by with_unfolding_all rfl); k_whole)))
  (k_with "subscriptTail Name BinOp ref int" => (k_here; (with_reducible show wpAny _ _ (subscriptTail _ _ (Value.ref _) (Value.int 0 _)) _ _ _); (refine' item_tup3 (by k_asm) (by exact List.mem_cons_self) ?_ (by with_unfolding_all rfl); k_whole)))
  (k_with "subscriptTail Call Constant ref int" => (k_here; (with_reducible show wpAny _ _ (subscriptTail _ _ (Value.ref _) (Value.int 0 _)) _ _ _); (refine' item_tup3 (by k_asm) (by exact List.mem_cons_self) ?_ (by with_unfolding_all rfl); k_whole)))
  (k_with "subscriptTail Subscript Name ref int" => (k_here; (with_reducible show wpAny _ _ (subscriptTail _ _ (Value.ref _) (Value.int 0 _)) _ _ _); (refine' item_tup3 (by k_asm) (by exact List.mem_cons_self) ?_ (by with_unfolding_all rfl); k_whole)))
  (k_with "exec For Name Name cons nil" => (k_here; (rename Fr _ _ _ _ => lF'Z); (with_unfolding_all refine' For_invV _ (by rfl) ?_; k_whole)))
  (k_with "exec For Name Call cons nil" => (k_here; (rename Fr _ _ _ _ => lF'Z); (with_unfolding_all refine' For_invV _ (by rfl) ?_; k_whole)))
  (k_with "exec For Name Tuple cons nil" => (k_here; (rename Fr _ _ _ _ => lF'Z); (with_unfolding_all refine' For_invV _ (by rfl) ?_; k_whole)))
  (k_with "call ref" => (k_here; (with_reducible show wpAny _ _ (call (Value.ref 63) _) _ _ _); k_dflt (refine' Calls.use2 (by k_asm) (by k_asm) (by k_asm) (by k_asm) (by k_asm) (by first | exact rfl | assumption) (by ktr_room) (by ktr_units) (mod_ii_call _ _ _ _ _ _ _ _ _ (by first | k_asm | decide | omega)) ?_; k_whole; intro t9Z h9Z tk9Z F9Z N9Z; (try dsimp only); (try k_fold))))
  (k_with "call ref" => (k_here; (with_reducible show wpAny _ _ (call (Value.ref 84) _) _ _ _); k_dflt (refine' Calls.use2 (by k_asm) (by k_asm) (by k_asm) (by k_asm) (by k_asm) (by first | exact rfl | assumption) (by ktr_room) (by ktr_units) (col_call' _ _ _ _ _ _ _ _ _ _ _ _ _ _ _ _ (by first | k_asm | decide | omega) (by first | k_asm | decide | omega) (by first | k_asm | decide | omega) (by first | k_asm | decide | omega) (by first | k_asm | decide | omega)) ?_; k_whole; intro D9Z u9Z v9Z w9Z c9Z h9Z tk9Z F9Z N9Z l9Z; (try dsimp only); (try k_fold))))
  (k_with "call ref" => (k_here; (with_reducible show wpAny _ _ (call (Value.ref 70) _) _ _ _); k_dflt (refine' Calls.use2 (by k_asm) (by k_asm) (by k_asm) (by k_asm) (by k_asm) (by first | exact rfl | assumption) (by ktr_room) (by ktr_units) (mul_if_call _ _ _ _ _ _ _ _ _ (by first | k_asm | decide | omega)) ?_; k_whole; intro t9Z h9Z tk9Z F9Z N9Z; (try dsimp only); (try k_fold))))
  (k_with "call ref" => (k_here; (with_reducible show wpAny _ _ (call (Value.ref 42) _) _ _ _); k_dflt (refine' Calls.use2 (by k_asm) (by k_asm) (by k_asm) (by k_asm) (by k_asm) (by first | exact rfl | assumption) (by ktr_room) (by ktr_units) (hsv_call' _ _ _ _ _ _ _ _ _ _ _ _ _ _ (by first | k_asm | decide | omega) (by first | k_asm | decide | omega) (by first | k_asm | decide | omega) (by first | k_asm | decide | omega)) ?_; k_whole; intro D9Z u9Z v9Z w9Z c9Z h9Z tk9Z F9Z N9Z l9Z; (try dsimp only); (try k_fold))))
  (k_with "binaryOp Div int int" => (k_here; refine div64 rfl (by first | assumption | omega) (by first | assumption | omega) ?_; (try dsimp only)))
  (k_with "call builtin:round" => (k_here; refine round_fin rfl (by assumption) ?_; (try dsimp only)))
  (k_with "subscriptTail Name Subscript ref int" => (k_here; (with_reducible show wpAny _ _ (subscriptTail _ _ (Value.ref _) (Value.int _ _)) _ _ _); refine item_three (by k_asm) (by kcf_m) (by assumption) (by assumption) (fun tnZ => ?_) (by with_unfolding_all rfl)))
  (k_with "subscriptTail Name Name ref int" => (k_here; (with_reducible show wpAny _ _ (subscriptTail _ _ (Value.ref _) (Value.int _ _)) _ _ _); refine item_three (by k_asm) (by kcf_m) (by assumption) (by assumption) (fun tnZ => ?_) (by with_unfolding_all rfl)))
  (k_with "subscriptTail Name Name ref int" => (k_here; (with_reducible show wpAny _ _ (subscriptTail _ _ (Value.ref _) (Value.int _ _)) _ _ _); refine item_last (by k_asm) (List.mem_cons_of_mem _ (List.mem_cons_of_mem _ List.mem_cons_self)) (by assumption) (by assumption) ?_ (by with_unfolding_all rfl)))
  (k_with "call builtin:list.append" => (k_here; refine Halt.go ?_))
  (k_with "pyIter ref" => (k_here; refine Halt.go ?_))
  (k_with "UnrEnd" => (k_here; refine Halt.go ?_))
  trivial
set_option maxRecDepth 100000 in
set_option maxHeartbeats 1000000 in
theorem segG (w : World) (mean : ExcName → Option Value) (mg mb : Str → Option Value) (h₀ : Heap) (L fa : Addr) (cd : Value) (s : Shared) (Q : Flow → Shared → Prop) (E : Value → Shared → Prop) (m0 : Str → Option Value) (led : List (Addr × Obj)) (rest : List Stmt)
    (Dd Dw Dl Do Dp Du : Addr) (n1 n2 n3 : Int) (u1 u2 u3 : Tok) (kn : Nat) (oS oR : Obj) (sd : Int) (tS tR : Tok)
    (B : Below callerA h₀ [] h₀) (X : (hd.heap_39 w.params).In h₀) (T : Top hd.view_39 (looseW hd.view_39 [Str.ofString "ONE_THIRD", Str.ofString "ONE_SIXTH", Str.ofString "TWO_THIRD"]) mean mg mb h₀) (F : Fr h₀ L s.heap m0)
    (N : News h₀ L s.heap ((Du, ({ cls := .type "list", data := .seq #[] 0 } : Obj)) :: led)) (hDu : ∀ p ∈ led, p.1 ≠ Du) (hDd : (Dd, listI n1 n2 n3 u1 u2 u3 kn) ∈ led) (hoS : (L + 1, oS) ∈ led) (hoR : (L + 1 + 1, oR) ∈ led)
    (hS : oS.data = .cell (some (.int sd tS))) (hR : oR.data = .cell (some (.int (6 * sd) tR))) (hs1 : 1 ≤ sd) (hs8 : sd ≤ 8)
    (o1 o2 o3 : Int) (x1 x2 x3 : Tok) (ko : Nat) (hDo : (Do, listI o1 o2 o3 x1 x2 x3 ko) ∈ led) (ho1 : 0 ≤ o1 ∧ o1 < 3) (ho2 : 0 ≤ o2 ∧ o2 < 3) (ho3 : 0 ≤ o3 ∧ o3 < 3)
    (q1 q2 q3 : Int) (y1 y2 y3 : Tok) (kp : Nat) (hDp : (Dp, listI q1 q2 q3 y1 y2 y3 kp) ∈ led)
    (hue : ∀ o q, HueOk sd (dueC sd q (nth o n1 n2 n3)))
    (hm1 : m0 (Str.ofString "drawn") = some (.ref Dd)) (hm3 : m0 (Str.ofString "word") = some (.ref Dw)) (hm4 : m0 (Str.ofString "left") = some (.ref Dl)) (hm5 : m0 (Str.ofString "order") = some (.ref Do)) (hm6 : m0 (Str.ofString "places") = some (.ref Dp)) (hm7 : m0 (Str.ofString "due") = some (.ref Du))
    (hE : PassesOwn (model PySem.Challenge.rw_pe0093_01.row.prog w) (callerA.deeper (lawEnv L fa cd)) (lawEnv L fa cd) E)
    (hk : ∀ (E1 E2 E3 : Addr) (nn : Nat) (led' : List (Addr × Obj)) (h' : Heap) (tk' : Nat) (m' : Str → Option Value), Fr h₀ L h' m' → News h₀ L h' led' → (∀ p ∈ led, p ∈ led') → (Du, rowO E1 E2 E3 nn) ∈ led' →
      Has led' E1 sd (dueC sd q1 (nth o1 n1 n2 n3)) → Has led' E2 sd (dueC sd q2 (nth o2 n1 n2 n3)) → Has led' E3 sd (dueC sd q3 (nth o3 n1 n2 n3)) →
      m' (Str.ofString "word") = some (.ref Dw) → m' (Str.ofString "left") = some (.ref Dl) → m' (Str.ofString "due") = some (.ref Du) → (∀ x v, x = Str.ofString "a" ∨ x = Str.ofString "d" → m0 x = some v → m' x = some v) → LawWp w L fa cd rest Q E { s with heap := h', toks := tk' }) :
    LawWp w L fa cd (st 20 :: rest) Q E s := by
  refine ⟨?_⟩
  unfold lawEnv
  revert X
  k_fill
  intro X
  conv in (occs := *) lawScope => all_goals whnf
  conv => enter [3, 1, 1]; whnf
  w_on
  w_strict k_steps
  unfold Halt
  (rename News _ _ _ _ => N9)
  refine iter_rangeUnr rfl (by assumption) (by decide) (n := 3) (by rfl) (by assumption) N9 (fun I hI => ?_)
  clear N9
  k_lt hI
  obtain ⟨hDuI, hI⟩ := hI
  have hDuI' : Du ≠ I := Nat.ne_of_lt hDuI
  refine range_inv (GInv led I Du Dd Dw Dl Do Dp sd n1 n2 n3 o1 o2 o3 q1 q2 q3 m0) ?turn ?fin 3 0 _ _ rfl ⟨⟨[], 0, led, rfl, rfl, fun j hj => absurd hj (Nat.not_lt_zero j), fun p hp => hp, hDu, fun p hp => Nat.ne_of_lt (allLt_mem hI p hp)⟩, hm1, hm3, hm4, hm5, hm6, hm7, fun _ _ _ h => h⟩
  case fin =>
    intro m' ledger' hv h tk F N
    obtain ⟨⟨ys, kk, led', rfl, hlen, hh, hsub, _, _⟩, _, hm3', hm4', _, _, hm7', had⟩ := hv
    obtain ⟨E1, y1, e1⟩ := hh 0 (by decide)
    obtain ⟨E2, y2, e2⟩ := hh 1 (by decide)
    obtain ⟨E3, y3, e3⟩ := hh 2 (by decide)
    obtain rfl := ys3 hlen y1 y2 y3
    exact LawWp.go <| hk _ _ _ _ _ _ _ _ F N (fun p hp => List.mem_cons_of_mem _ (hsub p hp)) List.mem_cons_self e1.old e2.old e3.old hm3' hm4' hm7' had
  case turn =>
    intro i m ledger hi3 hv t h tk F N
    obtain ⟨⟨ys, kk, led', rfl, hlen, hh, hsub, hDu', hIn⟩, hm1', hm3', hm4', hm5', hm6', hm7', had⟩ := hv
    have hDd' := hsub _ hDd
    have hDo' := hsub _ hDo
    have hDp' := hsub _ hDp
    have hoS' := hsub _ hoS
    have hoR' := hsub _ hoR
    clear hm1 hm3 hm4 hm5 hm6 hm7 hDd hDo hDp hoS hoR hDu
    generalize hkI : (0 : Int) + (i : Int) = kI at F
    have hk0 : 0 ≤ kI := by omega
    have hk3 : kI < 3 := by omega
    have hkl : kI = (ys.length : Int) := by omega
    have hon0 : 0 ≤ nth kI o1 o2 o3 := nth_mem (P := fun z => 0 ≤ z) ho1.1 ho2.1 ho3.1
    have hon3 : nth kI o1 o2 o3 < 3 := nth_mem (P := fun z => z < 3) ho1.2 ho2.2 ho3.2
    obtain ⟨z, sv, vv, hb⟩ := hue (nth kI o1 o2 o3) (nth kI q1 q2 q3)
    have hNb : 0 ≤ ((nth (nth kI o1 o2 o3) n1 n2 n3).fdiv (6 * sd)).fmod 4 ∧ ((nth (nth kI o1 o2 o3) n1 n2 n3).fdiv (6 * sd)).fmod 4 < 4 := ⟨fmod_lo _ (by decide), fmod_hi _ (by decide)⟩
    unfold dueC at hb
    dsimp only at hb
    generalize e1 : colI ((nth kI q1 q2 q3).fmod (6 * sd)) sd (1 + ((nth (nth kI o1 o2 o3) n1 n2 n3).fdiv (6 * sd)).fmod 4) ((nth (nth kI o1 o2 o3) n1 n2 n3).fdiv (4 * (6 * sd))) = cc1 at hb
    obtain ⟨a1, b1, c1⟩ := cc1
    obtain ⟨⟨ia1, ja1, ib1, jb1, ic1, jc1⟩, g11, g12, g13, hv1, fi1, ro1⟩ := hb
    dsimp only at ia1 ja1 ib1 jb1 ic1 jc1 g11 g12 g13 hv1 fi1 ro1
    w_strict k_steps
    unfold Halt
    (rename Fr _ _ _ _ => F9)
    (rename News _ _ _ _ => N9)
    (rename ∀ p ∈ _ :: _ :: led', p.1 ≠ _ => l9)
    (try dsimp only [List.cons_append, List.nil_append])
    refine append_K F9 N9 (Upd.tail (Ne.symm (l9 _ (List.mem_cons_of_mem _ List.mem_cons_self))) (Upd.tail (Ne.symm hDuI') (Upd.head hDu'))) (fun h' F N => ?_) (by rw [List.size_toArray, sizeLine_eq]; omega)
    clear F9 N9
    w_strict k_steps
    · exact absurd ro1 (by assumption)
    unfold Halt
    (rename Fr _ _ _ _ => F9)
    (rename News _ _ _ _ => N9)
    refine due_end F9 N9 l9 hIn hDuI' hDu' (fun hDu2 hIn2 => ⟨⟨ys ++ [_], _, _, by rw [← List.push_toArray], by rw [List.length_append, hlen]; rfl, fun j hj => ?_, fun p hp => List.mem_cons_of_mem _ (hsub p hp), hDu2, hIn2⟩, hm1', hm3', hm4', hm5', hm6', hm7', fun x v hx hv => by rcases hx with rfl | rfl <;> exact had _ v (by simp) hv⟩)
    by_cases hji : j < i
    · obtain ⟨E', y', e'⟩ := hh j hji
      exact ⟨E', by rw [List.getElem?_append_left (by omega)]; exact y', e'.old⟩
    · have hjk : (j : Int) = kI := by omega
      refine ⟨_, by rw [List.getElem?_append_right (by omega), show j - ys.length = 0 by omega]; rfl, ?_⟩
      rw [hjk]
      exact has_of e1 List.mem_cons_self
end
section
noncomputable def colD (sd : Int) (x : Cs) : PyData := .list [.int (colI x.p sd x.u x.w).1, .int (colI x.p sd x.u x.w).2.1, .int (colI x.p sd x.u x.w).2.2]
noncomputable def rowD (sd : Int) (s : St3) : PyData := .list [colD sd s.1, colD sd s.2.1, colD sd s.2.2]
theorem reads_has {h₀ h : Heap} {L A : Addr} {led : List (Addr × Obj)} {sd : Int} {x : Cs} (N : News h₀ L h led) (hh : Has led A sd x) : ∃ as, Reads h (.ref A) (colD sd x) as := by
  obtain ⟨t1, t2, t3, n, hm⟩ := hh
  exact ⟨_, reads_list_at (N.get hm) rfl rfl (ReadsAll.cons (Reads.int _ _) (ReadsAll.cons (Reads.int _ _) (ReadsAll.cons (Reads.int _ _) ReadsAll.nil)))⟩
theorem reads_row {h₀ h : Heap} {L R A B C : Addr} {n : Nat} {led : List (Addr × Obj)} {sd : Int} {s : St3} (N : News h₀ L h led) (hm : (R, rowO A B C n) ∈ led) (ha : Has led A sd s.1) (hb : Has led B sd s.2.1) (hc : Has led C sd s.2.2) : ∃ as, Reads h (.ref R) (rowD sd s) as := by
  obtain ⟨as, ra⟩ := reads_has N ha
  obtain ⟨bs, rb⟩ := reads_has N hb
  obtain ⟨cs, rc⟩ := reads_has N hc
  exact ⟨_, reads_list_at (N.get hm) rfl rfl (ReadsAll.cons ra (ReadsAll.cons rb (ReadsAll.cons rc ReadsAll.nil)))⟩
theorem rowD_eqv (sd : Int) (s : St3) : PyData.eqv (rowD sd s) (rowD sd s) = true := by
  simp [rowD, colD, PyData.eqv, PyData.eqvAll]
theorem regS90 : True := by
  k_with_none
  (k_with "eval Name" => (k_here; k_dflt (refine' nameX_L (by k_asm) (by assumption) ?_ rfl rfl; k_whole)))
  (k_with "compareOp NotEq ref ref" => (k_here; refine Halt.go ?_))
  trivial
set_option maxRecDepth 100000 in
set_option maxHeartbeats 1000000 in
theorem segH1 (w : World) (mean : ExcName → Option Value) (mg mb : Str → Option Value) (h₀ : Heap) (L fa : Addr) (cd : Value) (s : Shared) (Q : Flow → Shared → Prop) (E : Value → Shared → Prop) (m0 : Str → Option Value) (led : List (Addr × Obj)) (rest : List Stmt)
    (Dl Du B1 B2 B3 E1 E2 E3 : Addr) (nl nu : Nat) (sd : Int) (cl : St3)
    (B : Below callerA h₀ [] h₀) (X : (hd.heap_39 w.params).In h₀) (T : Top hd.view_39 (looseW hd.view_39 [Str.ofString "ONE_THIRD", Str.ofString "ONE_SIXTH", Str.ofString "TWO_THIRD"]) mean mg mb h₀) (F : Fr h₀ L s.heap m0)
    (N : News h₀ L s.heap led) (hDl : (Dl, rowO B1 B2 B3 nl) ∈ led) (hDu : (Du, rowO E1 E2 E3 nu) ∈ led) (hb1 : Has led B1 sd cl.1) (hb2 : Has led B2 sd cl.2.1) (hb3 : Has led B3 sd cl.2.2) (he1 : Has led E1 sd cl.1) (he2 : Has led E2 sd cl.2.1) (he3 : Has led E3 sd cl.2.2)
    (hm4 : m0 (Str.ofString "left") = some (.ref Dl)) (hm7 : m0 (Str.ofString "due") = some (.ref Du))
    (hk : ∀ (tk' : Nat), LawWp w L fa cd rest Q E { s with toks := tk' }) :
    LawWp w L fa cd (st 21 :: rest) Q E s := by
  refine ⟨?_⟩
  unfold lawEnv
  revert X
  k_fill
  intro X
  conv in (occs := *) lawScope => all_goals whnf
  conv => enter [3, 1, 1]; whnf
  obtain ⟨as, ra⟩ := reads_row N hDl hb1 hb2 hb3
  obtain ⟨bs, rb⟩ := reads_row N hDu he1 he2 he3
  w_on
  w_strict k_steps
  unfold Halt
  refine ne_dataH ra rb (by ked_shaped) (by ked_shaped) (by ke_room) ?_
  rw [rowD_eqv]
  w_strict k_steps
  exact LawWp.go <| hk _
end
section
section
variable {prog : Program} {w : World} {A : Around} {E : Value → Shared → Prop} {h₀ : Heap} {env : Env} {target : Expr} {body : List Stmt} {Q : Flow → Shared → Prop} {s : Shared}
/-- a loop over items that each add to a count -/
theorem items_sum {α : Type} {I : Addr} {kind : String} {keep : List (Addr × Obj)} (Inv : Int → (Str → Option Value) → List (Addr × Obj) → Prop) (g : α → Int) (ok : Value → α → Prop)
    (turn : ∀ c v a m news h tk o, ok v a → Inv c m news → o.cls = .type kind → Fr h₀ env.locals h m → News h₀ env.locals h ((I, o) :: news) →
      wpAny (model prog w) A (assign target env v) (fun _ s₂ => wpAny (model prog w) A (execs body env) (UnrPostW h₀ env.locals { s with heap := h, toks := tk } [(I, o)] (fun m' n' => SubL keep n' ∧ Inv (c + g a) m' n') Q) E s₂) E { s with heap := h, toks := tk }) :
    ∀ (l : List (Value × α)) (c : Int) (m : Str → Option Value) (news : List (Addr × Obj)), (∀ q ∈ l, ok q.1 q.2) → Inv c m news →
      (∀ m' news', Inv (l.foldl (fun c q => c + g q.2) c) m' news' → ∀ h tk, Fr h₀ env.locals h m' → News h₀ env.locals h news' → Q .next { s with heap := h, toks := tk }) →
      ItemsRest prog w A E h₀ env target body Q s [(I, kind)] keep (l.map fun q => .val q.1) m news
  | [], c, m, news, _, hi, fin => ItemsRest.zero fun h tk F N => fin m news hi h tk F N
  | q :: l, c, m, news, hv, hi, fin => ItemsRest.val fun h tk F => AllObj.cons fun o ho => AllObj.nil fun N =>
      wpAny_mono (turn c q.1 q.2 m news h tk o (hv q List.mem_cons_self) hi ho F N) (fun _ _ z => wpAny_mono z (fun _ _ r => unrPostW_mono r fun m' n' ⟨k, i⟩ => ⟨k, items_sum Inv g ok turn l (c + g q.2) m' n' (fun v' h' => hv v' (List.mem_cons_of_mem _ h')) i fin⟩) fun _ _ e => e) fun _ _ e => e
end
noncomputable def cR : Cs := ⟨0, 64, 0⟩
noncomputable def cG : Cs := ⟨2, 64, 0⟩
noncomputable def cB : Cs := ⟨4, 64, 0⟩
noncomputable def startOf : Fin 4 → St3
  | 0 => (cR, cR, cG)
  | 1 => (cR, cG, cR)
  | 2 => (cR, cG, cG)
  | 3 => (cR, cG, cB)
theorem gdR : Gd 1 cR := ⟨by decide, by decide, by decide, by decide, by decide, by decide, by decide⟩
theorem gdG : Gd 1 cG := ⟨by decide, by decide, by decide, by decide, by decide, by decide, by decide⟩
theorem gdB : Gd 1 cB := ⟨by decide, by decide, by decide, by decide, by decide, by decide, by decide⟩
theorem colR : colI 0 1 64 0 = (64, 0, 0) := by decide
theorem colG : colI 2 1 64 0 = (0, 64, 0) := by decide
theorem colB : colI 4 1 64 0 = (0, 0, 64) := by decide
noncomputable def backE (ys : List Value) (i : Fin 4) : Bool := PyData.eqv (rowD 1 (ys.foldl (fun s v => bstep 1 s (letterOf v)) (startOf i))) (rowD 1 (startOf i))
theorem dec_beq (x : Int) : (decide (x = 0) == (x == 0)) = true := by
  by_cases h : x = 0
  · rw [h]; rfl
  · rw [decide_eq_false h, beq_eq_false_iff_ne.mpr h]; rfl
noncomputable def b01 (b : Bool) : Int := if b = true then 1 else 0
noncomputable def backN (ys : List Value) : Int := 0 + b01 (backE ys 0) + b01 (backE ys 1) + b01 (backE ys 2) + b01 (backE ys 3)
noncomputable def RInv (led : List (Addr × Obj)) (I Dw : Addr) (a d : Int) (ta td : Tok) (c : Int) (m : Str → Option Value) (ledger : List (Addr × Obj)) : Prop :=
  (∀ p ∈ led, p ∈ ledger) ∧ (∀ p ∈ ledger, p.1 ≠ I) ∧ (∃ t, m (Str.ofString "back") = some (.int c t)) ∧ m (Str.ofString "word") = some (.ref Dw) ∧ m (Str.ofString "a") = some (.int a ta) ∧ m (Str.ofString "d") = some (.int d td)
noncomputable def isStart (led : List (Addr × Obj)) (v : Value) (i : Fin 4) : Prop := ∃ S A B C n, v = .ref S ∧ (S, rowO A B C n) ∈ led ∧ Row3 led 1 A B C (startOf i)
theorem starts_of {h₀ h : Heap} {L D l0 l1 l2 l3 t r g b : Addr} {led : List (Addr × Obj)} {to : Obj} {n0 n1 n2 n3 nr ng nb nt : Nat} {r1 r2 r3 g1 g2 g3 b1 b2 b3 : Tok}
    (N : News h₀ L h ((D, ({ cls := .type "tuple", data := .seq #[.ref l0, .ref l1, .ref l2, .ref l3] nt } : Obj)) :: (l3, rowO r g b n3) :: (l2, rowO r g g n2) :: (l1, rowO r g r n1) :: (l0, rowO r r g n0) :: (t, to) :: (b, listI 0 0 64 b1 b2 b3 nb) :: (g, listI 0 64 0 g1 g2 g3 ng) :: (r, listI 64 0 0 r1 r2 r3 nr) :: led)) :
    ∃ led2, News h₀ L h led2 ∧ (D, ({ cls := .type "tuple", data := .seq #[.ref l0, .ref l1, .ref l2, .ref l3] nt } : Obj)) ∈ led2 ∧ isStart led2 (.ref l0) 0 ∧ isStart led2 (.ref l1) 1 ∧ isStart led2 (.ref l2) 2 ∧ isStart led2 (.ref l3) 3 ∧ ∀ p ∈ led, p ∈ led2 := by
  have hr : Has ((D, ({ cls := .type "tuple", data := .seq #[.ref l0, .ref l1, .ref l2, .ref l3] nt } : Obj)) :: (l3, rowO r g b n3) :: (l2, rowO r g g n2) :: (l1, rowO r g r n1) :: (l0, rowO r r g n0) :: (t, to) :: (b, listI 0 0 64 b1 b2 b3 nb) :: (g, listI 0 64 0 g1 g2 g3 ng) :: (r, listI 64 0 0 r1 r2 r3 nr) :: led) r 1 cR := has_of colR (by kcf_m)
  have hg : Has ((D, ({ cls := .type "tuple", data := .seq #[.ref l0, .ref l1, .ref l2, .ref l3] nt } : Obj)) :: (l3, rowO r g b n3) :: (l2, rowO r g g n2) :: (l1, rowO r g r n1) :: (l0, rowO r r g n0) :: (t, to) :: (b, listI 0 0 64 b1 b2 b3 nb) :: (g, listI 0 64 0 g1 g2 g3 ng) :: (r, listI 64 0 0 r1 r2 r3 nr) :: led) g 1 cG := has_of colG (by kcf_m)
  have hb : Has ((D, ({ cls := .type "tuple", data := .seq #[.ref l0, .ref l1, .ref l2, .ref l3] nt } : Obj)) :: (l3, rowO r g b n3) :: (l2, rowO r g g n2) :: (l1, rowO r g r n1) :: (l0, rowO r r g n0) :: (t, to) :: (b, listI 0 0 64 b1 b2 b3 nb) :: (g, listI 0 64 0 g1 g2 g3 ng) :: (r, listI 64 0 0 r1 r2 r3 nr) :: led) b 1 cB := has_of colB (by kcf_m)
  refine ⟨_, N, List.mem_cons_self, ⟨l0, r, r, g, n0, rfl, by kcf_m, ⟨hr, hr, hg, gdR, gdR, gdG⟩⟩, ⟨l1, r, g, r, n1, rfl, by kcf_m, ⟨hr, hg, hr, gdR, gdG, gdR⟩⟩, ⟨l2, r, g, g, n2, rfl, by kcf_m, ⟨hr, hg, hg, gdR, gdG, gdG⟩⟩, ⟨l3, r, g, b, n3, rfl, by kcf_m, ⟨hr, hg, hb, gdR, gdG, gdB⟩⟩, fun p hp => by kcf_m⟩
theorem regS100 : True := by
  k_with_none
  (k_with "call ref" => (k_here; (with_reducible show wpAny _ _ (call (Value.ref 56) _) _ _ _); k_dflt (refine' Calls.use2 (by k_asm) (by k_asm) (by k_asm) (by k_asm) (by k_asm) (by first | exact rfl | assumption) (by ktr_room) (by ktr_units) (add_ii_call _ _ _ _ _ _ _ _ _ ) ?_; k_whole; intro t9Z h9Z tk9Z F9Z N9Z; (try dsimp only); (try k_fold))))
  (k_with "eval Name" => (k_here; k_dflt (refine' nameX_L (by k_asm) (by assumption) ?_ rfl rfl; k_whole)))
  (k_with "call ref" => (k_here; (with_reducible show wpAny _ _ (call (Value.ref 77) _) _ _ _); k_dflt (refine' Calls.use2 (by k_asm) (by k_asm) (by k_asm) (by k_asm) (by k_asm) (by first | exact rfl | assumption) (by ktr_room) (by ktr_units) (sub_ii_call _ _ _ _ _ _ _ _ _ ) ?_; k_whole; intro t9Z h9Z tk9Z F9Z N9Z; (try dsimp only); (try k_fold))))
  (k_with "call ref" => (k_here; (with_reducible show wpAny _ _ (call (Value.ref 63) _) _ _ _); k_dflt (refine' Calls.use2 (by k_asm) (by k_asm) (by k_asm) (by k_asm) (by k_asm) (by first | exact rfl | assumption) (by ktr_room) (by ktr_units) (mod_ii_call _ _ _ _ _ _ _ _ _ (by first | k_asm | decide | omega)) ?_; k_whole; intro t9Z h9Z tk9Z F9Z N9Z; (try dsimp only); (try k_fold))))
  (k_with "compareOp Eq ref ref" => (k_here; refine Halt.go ?_))
  (k_with "pyIter ref" => (k_here; refine Halt.go ?_))
  (k_with "UnrEndW" => (k_here; refine Halt.go ?_))
  (k_with "exec For Name Name cons nil" => (k_here; (rename Fr _ _ _ _ => lF'Z); (with_unfolding_all refine' For_turns lF'Z ?_; k_whole)))
  (k_with "exec For Name Call cons nil" => (k_here; (rename Fr _ _ _ _ => lF'Z); (with_unfolding_all refine' For_turns lF'Z ?_; k_whole)))
  (k_with "exec For Name Tuple cons nil" => (k_here; (rename Fr _ _ _ _ => lF'Z); (with_unfolding_all refine' For_turns lF'Z ?_; k_whole)))
  (k_with "call ref" => (k_here; (with_reducible show wpAny _ _ (call (Value.ref 96) _) _ _ _); refine Halt.go ?_))
  trivial
set_option maxRecDepth 100000 in
set_option maxHeartbeats 1000000 in
theorem segH2 (w : World) (mean : ExcName → Option Value) (mg mb : Str → Option Value) (h₀ : Heap) (L fa : Addr) (cd : Value) (s : Shared) (Q : Flow → Shared → Prop) (E : Value → Shared → Prop) (m0 : Str → Option Value) (led : List (Addr × Obj))
    (Dw : Addr) (ys : List Value) (a d : Int) (ta td : Tok)
    (B : Below callerA h₀ [] h₀) (X : (hd.heap_39 w.params).In h₀) (T : Top hd.view_39 (looseW hd.view_39 [Str.ofString "ONE_THIRD", Str.ofString "ONE_SIXTH", Str.ofString "TWO_THIRD"]) mean mg mb h₀) (F : Fr h₀ L s.heap m0)
    (N : News h₀ L s.heap led) (hDw : (Dw, LCg.lst ys) ∈ led) (hys : ∀ v ∈ ys, isLetter v)
    (hm3 : m0 (Str.ofString "word") = some (.ref Dw)) (hma : m0 (Str.ofString "a") = some (.int a ta)) (hmd : m0 (Str.ofString "d") = some (.int d td))
    (hE : PassesOwn (model PySem.Challenge.rw_pe0093_01.row.prog w) (callerA.deeper (lawEnv L fa cd)) (lawEnv L fa cd) E)
    (hback : decide (backN ys > 0) = decide ((2 - (a + d)).fmod 3 = 0))
    (hk : ∀ (h' : Heap) (tk' : Nat) (m' : Str → Option Value), Fr h₀ L h' m' → Q (.ret (.bool true)) { s with heap := h', toks := tk' }) :
    LawWp w L fa cd [st 22, st 23, st 24, st 25] Q E s := by
  refine ⟨?_⟩
  unfold lawEnv
  revert X
  k_fill
  intro X
  conv in (occs := *) lawScope => all_goals whnf
  conv => enter [3, 1, 1]; whnf
  conv => enter [3, 1, 2, 1]; whnf
  conv => enter [3, 1, 2, 2, 1]; whnf
  conv => enter [3, 1, 2, 2, 2, 1]; whnf
  w_on
  w_strict k_steps
  unfold Halt
  (rename Fr _ _ _ _ => F9)
  (rename News _ _ _ _ => N9)
  obtain ⟨led2, N2, hT, hs0, hs1, hs2, hs3, hsub⟩ := starts_of N9
  clear N9
  refine iter_tupTurns rfl F9 N2 hT rfl rfl (fun I hI => ?_)
  have hIn : ∀ p ∈ led2, p.1 ≠ I := fun p hp => Nat.ne_of_lt (hI p hp)
  clear hI
  refine items_sum (RInv led2 I Dw a d ta td) (fun i : Fin 4 => b01 (backE ys i)) (isStart led2) ?turn [(_, 0), (_, 1), (_, 2), (_, 3)] 0 _ _ ?ok ⟨fun p hp => hp, hIn, ⟨_, rfl⟩, hm3, hma, hmd⟩ ?fin
  case ok =>
    intro q hq
    simp only [List.mem_cons, List.mem_nil_iff, or_false] at hq
    rcases hq with rfl | rfl | rfl | rfl
    · exact hs0
    · exact hs1
    · exact hs2
    · exact hs3
  case fin =>
    intro m' news' hi h tk F N
    obtain ⟨hsub2, hInL, ⟨tb, hmb⟩, hmw, hma', hmd'⟩ := hi
    clear hIn N2 hs0 hs1 hs2 hs3
    dsimp only [List.foldl] at hmb
    w_strict k_steps
    have e : (decide (0 < 0 + b01 (backE ys 0) + b01 (backE ys 1) + b01 (backE ys 2) + b01 (backE ys 3)) == ((2 - (a + d)).fmod 3 == 0)) = true := by
      have h1 : decide (0 < 0 + b01 (backE ys 0) + b01 (backE ys 1) + b01 (backE ys 2) + b01 (backE ys 3)) = decide ((2 - (a + d)).fmod 3 = 0) := hback
      rw [h1]
      exact dec_beq _
    rw [e]
    exact hk _ _ _ (by assumption)
  case turn =>
    intro c v i m ledger h tk o hv hi ho F N
    obtain ⟨S, A, B', C, n, rfl, hmS, hrow⟩ := hv
    obtain ⟨hsub2, hInL, ⟨tb, hmb⟩, hmw, hma', hmd'⟩ := hi
    clear hIn N2 hs0 hs1 hs2 hs3
    w_strict k_steps
    unfold Halt
    (rename Fr _ _ _ _ => F9)
    (rename News _ _ _ _ => N9)
    k_dflt (refine Calls.use (braid_call w mean mg mb ((I, o) :: ledger) 1 Dw S A B' C ys n _ (startOf i) (List.mem_cons_of_mem _ (hsub2 _ (hsub _ hDw))) (List.mem_cons_of_mem _ (hsub2 _ hmS)) (hrow.mono fun p hp => List.mem_cons_of_mem _ (hsub2 p hp)) hys) B F9 X N9 T rfl (by ktr_room) (by ktr_units) ?_)
    intro S2 B1 B2 B3 nl news' h' tk' F' N' hsub' hrow' hS'
    clear F9 N9
    w_strict k_steps
    unfold Halt
    (rename Fr _ _ _ _ => F9)
    (rename News _ _ _ _ => N9)
    have hsubS : ∀ p ∈ led2, p ∈ (S2, rowO B1 B2 B3 nl) :: news' := fun p hp => List.mem_cons_of_mem _ (hsub' p (List.mem_cons_of_mem _ (hsub2 p hp)))
    obtain ⟨as, ra⟩ := reads_row N9 List.mem_cons_self (hrow'.a.mono fun p hp => List.mem_cons_of_mem _ hp) (hrow'.b.mono fun p hp => List.mem_cons_of_mem _ hp) (hrow'.c.mono fun p hp => List.mem_cons_of_mem _ hp)
    obtain ⟨bs, rb⟩ := reads_row N9 (hsubS _ hmS) (hrow.a.mono hsubS) (hrow.b.mono hsubS) (hrow.c.mono hsubS)
    refine eq_dataH ra rb (by ked_shaped) (by ked_shaped) (by ke_room) ?_
    have hg : PyData.eqv (rowD 1 (ys.foldl (fun s v => bstep 1 s (letterOf v)) (startOf i))) (rowD 1 (startOf i)) = backE ys i := rfl
    rw [hg]
    clear ra rb hg
    cases hbk : backE ys i
    · w_strict k_steps
      unfold Halt
      (rename Fr _ _ _ _ => F9)
      (rename News _ _ _ _ => N9)
      exact unrEndW_intro F9 (fun p hp => N9 p (List.mem_cons_of_mem _ (hsub' p hp))) hInL ⟨⟨hsub2 _ hT, trivial⟩, hsub2, hInL, ⟨tb, by rw [show c + b01 false = c from Int.add_zero c]; exact hmb⟩, hmw, hma', hmd'⟩
    · w_strict k_steps
      unfold Halt
      (rename Fr _ _ _ _ => F9)
      (rename News _ _ _ _ => N9)
      exact unrEndW_intro F9 (fun p hp => N9 p (List.mem_cons_of_mem _ (hsub' p hp))) hInL ⟨⟨hsub2 _ hT, trivial⟩, hsub2, hInL, ⟨_, rfl⟩, hmw, hma', hmd'⟩
end
section
noncomputable def istep (s : I3) (n : Int) : I3 :=
  if n = 0 then (s.2.1, 2 * s.2.1 - s.1, s.2.2) else if n = 1 then (2 * s.1 - s.2.1, s.1, s.2.2)
  else if n = 2 then (s.1, s.2.2, 2 * s.2.2 - s.2.1) else (s.1, 2 * s.2.1 - s.2.2, s.2.1)
noncomputable def liftC (sd : Int) (ta : Int → Int × Int) (P : Int) (o : Int) : Cs := ⟨P.fmod (6 * sd), (ta o).1, (ta o).2⟩
noncomputable def lift3 (sd : Int) (ta : Int → Int × Int) (P o : I3) : St3 := (liftC sd ta P.1 o.1, liftC sd ta P.2.1 o.2.1, liftC sd ta P.2.2 o.2.2)
theorem mir_lift {sd : Int} (hs : 1 ≤ sd) (ta : Int → Int × Int) (P Q a b : Int) : mirC sd (liftC sd ta P a) (liftC sd ta Q b) = liftC sd ta (2 * Q - P) a := by
  unfold mirC liftC
  rw [Int.fmod_eq_emod_of_nonneg _ (show 0 ≤ 6 * sd by omega), Int.fmod_eq_emod_of_nonneg _ (show 0 ≤ 6 * sd by omega), Int.fmod_eq_emod_of_nonneg _ (show 0 ≤ 6 * sd by omega)]
  congr 1
  show (2 * (Q % (6 * sd)) - P % (6 * sd)) % (6 * sd) = (2 * Q - P) % (6 * sd)
  generalize 6 * sd = R
  rw [Int.sub_emod, Int.emod_emod, Int.mul_emod, Int.emod_emod, ← Int.mul_emod, ← Int.sub_emod]
theorem step_lift {sd : Int} (hs : 1 ≤ sd) (ta : Int → Int × Int) (P o : I3) (n : Int) : bstep sd (lift3 sd ta P o) n = lift3 sd ta (istep P n) (ostep o n) := by
  unfold bstep istep ostep
  by_cases h0 : n = 0
  · rw [if_pos h0, if_pos h0, if_pos (.inl h0)]
    show (_, mirC sd (liftC sd ta P.1 o.1) (liftC sd ta P.2.1 o.2.1), _) = _
    rw [mir_lift hs]; rfl
  · by_cases h1 : n = 1
    · rw [if_neg h0, if_neg h0, if_pos h1, if_pos h1, if_pos (.inr h1)]
      show (mirC sd (liftC sd ta P.2.1 o.2.1) (liftC sd ta P.1 o.1), _, _) = _
      rw [mir_lift hs]; rfl
    · rw [if_neg h0, if_neg h0, if_neg h1, if_neg h1, if_neg (show ¬ (n = 0 ∨ n = 1) by omega)]
      by_cases h2 : n = 2
      · rw [if_pos h2, if_pos h2]
        show (_, _, mirC sd (liftC sd ta P.2.1 o.2.1) (liftC sd ta P.2.2 o.2.2)) = _
        rw [mir_lift hs]; rfl
      · rw [if_neg h2, if_neg h2]
        show (_, mirC sd (liftC sd ta P.2.2 o.2.2) (liftC sd ta P.2.1 o.2.1), _) = _
        rw [mir_lift hs]; rfl
theorem fold_lift {sd : Int} (hs : 1 ≤ sd) (ta : Int → Int × Int) : ∀ (N : List Int) (P o : I3), N.foldl (bstep sd) (lift3 sd ta P o) = lift3 sd ta (N.foldl istep P) (N.foldl ostep o)
  | [], _, _ => rfl
  | n :: N, P, o => by
    rw [List.foldl_cons, List.foldl_cons, List.foldl_cons, step_lift hs]
    exact fold_lift hs ta N _ _
theorem piece_places (q : Int) (P : I3) : (pieceOf q).foldl istep P = P := by
  obtain ⟨x, y, z⟩ := P
  unfold pieceOf
  repeat' split
  all_goals
    simp [List.foldl, istep]
    try omega
theorem piece_order (q : Int) (o : I3) : (pieceOf q).foldl ostep o = o := by
  obtain ⟨x, y, z⟩ := o
  unfold pieceOf
  repeat' split
  all_goals simp [List.foldl, ostep]
theorem piece_in (N : List Int) (a : Nat) (q : Int) (P : I3) : (N.take a ++ pieceOf q ++ N.drop a).foldl istep P = N.foldl istep P := by
  rw [List.foldl_append, List.foldl_append, piece_places, ← List.foldl_append, List.take_append_drop]
theorem piece_in_o (N : List Int) (a : Nat) (q : Int) (o : I3) : (N.take a ++ pieceOf q ++ N.drop a).foldl ostep o = N.foldl ostep o := by
  rw [List.foldl_append, List.foldl_append, piece_order, ← List.foldl_append, List.take_append_drop]
/-- places against the table -/
structure Told (P : I3) (tb : T4) (n1 n2 n3 : Int) : Prop where
  k : P.1 - P.2.1 + P.2.2 = n1 - n2 + n3
  one : P.1 - P.2.1 = oneV tb n1 n2 n3
  two : P.2.1 - P.2.2 = twoV tb n1 n2 n3
theorem lin_sub (a b c d p q : Int) : (c - a) * p + (d - b) * q = (c * p + d * q) - (a * p + b * q) := by rw [Int.sub_mul, Int.sub_mul]; omega
theorem lin_add (a b c d p q : Int) : (c + a) * p + (d + b) * q = (c * p + d * q) + (a * p + b * q) := by rw [Int.add_mul, Int.add_mul]; omega
theorem told_step {P : I3} {tb : T4} {n1 n2 n3 : Int} (h : Told P tb n1 n2 n3) (n : Int) : Told (istep P n) (tstep tb n) n1 n2 n3 := by
  obtain ⟨x, y, z⟩ := P
  obtain ⟨a, b, c, d⟩ := tb
  obtain ⟨k, one, two⟩ := h
  unfold oneV at one
  unfold twoV at two
  dsimp only at k one two
  unfold istep tstep
  by_cases h0 : n = 0
  · rw [if_pos h0, if_pos h0]
    refine ⟨by dsimp only; omega, ?_, ?_⟩
    · rw [show oneV (a, b, c - a, d - b) n1 n2 n3 = a * (n1 - n2) + b * (n2 - n3) from rfl, ← one]; dsimp only; omega
    · rw [show twoV (a, b, c - a, d - b) n1 n2 n3 = (c - a) * (n1 - n2) + (d - b) * (n2 - n3) from rfl, lin_sub, ← one, ← two]; dsimp only; omega
  · rw [if_neg h0, if_neg h0]
    clear h0
    by_cases h1 : n = 1
    · rw [if_pos h1, if_pos h1]
      refine ⟨by dsimp only; omega, ?_, ?_⟩
      · rw [show oneV (a, b, c + a, d + b) n1 n2 n3 = a * (n1 - n2) + b * (n2 - n3) from rfl, ← one]; dsimp only; omega
      · rw [show twoV (a, b, c + a, d + b) n1 n2 n3 = (c + a) * (n1 - n2) + (d + b) * (n2 - n3) from rfl, lin_add, ← one, ← two]; dsimp only; omega
    · rw [if_neg h1, if_neg h1]
      clear h1
      by_cases h2 : n = 2
      · rw [if_pos h2, if_pos h2]
        refine ⟨by dsimp only; omega, ?_, ?_⟩
        · rw [show oneV (a + c, b + d, c, d) n1 n2 n3 = (a + c) * (n1 - n2) + (b + d) * (n2 - n3) from rfl, lin_add, ← one, ← two]; dsimp only; omega
        · rw [show twoV (a + c, b + d, c, d) n1 n2 n3 = c * (n1 - n2) + d * (n2 - n3) from rfl, ← two]; dsimp only; omega
      · rw [if_neg h2, if_neg h2]
        refine ⟨by dsimp only; omega, ?_, ?_⟩
        · rw [show oneV (a - c, b - d, c, d) n1 n2 n3 = (a - c) * (n1 - n2) + (b - d) * (n2 - n3) from rfl, lin_sub, ← one, ← two]; dsimp only; omega
        · rw [show twoV (a - c, b - d, c, d) n1 n2 n3 = c * (n1 - n2) + d * (n2 - n3) from rfl, ← two]; dsimp only; omega
theorem told_fold {n1 n2 n3 : Int} : ∀ (N : List Int) {P : I3} {tb : T4}, Told P tb n1 n2 n3 → Told (N.foldl istep P) (N.foldl tstep tb) n1 n2 n3
  | [], _, _, h => h
  | n :: N, _, _, h => told_fold N (told_step h n)
theorem places_eq (N : List Int) (n1 n2 n3 : Int) : N.foldl istep (n1, n2, n3) = (n1 - n2 + n3 + twoV (N.foldl tstep (1, 0, 0, 1)) n1 n2 n3, n1 - n2 + n3 + twoV (N.foldl tstep (1, 0, 0, 1)) n1 n2 n3 - oneV (N.foldl tstep (1, 0, 0, 1)) n1 n2 n3, n1 - n2 + n3 - oneV (N.foldl tstep (1, 0, 0, 1)) n1 n2 n3) := by
  have h := told_fold (n1 := n1) (n2 := n2) (n3 := n3) N (P := (n1, n2, n3)) (tb := (1, 0, 0, 1)) ⟨rfl, by simp [oneV], by simp [twoV]⟩
  obtain ⟨k, one, two⟩ := h
  generalize N.foldl istep (n1, n2, n3) = P at *
  obtain ⟨x, y, z⟩ := P
  dsimp only at k one two
  rw [← one, ← two, Prod.mk.injEq, Prod.mk.injEq]
  refine ⟨?_, ?_, ?_⟩ <;> omega
theorem tab_map (ys : List Value) : tabV ys = (ys.map letterOf).foldl tstep (1, 0, 0, 1) := by
  unfold tabV; rw [List.foldl_map]
/-- the table's determinant is one -/
theorem det_fold : ∀ (N : List Int) (tb : T4), tb.1 * tb.2.2.2 - tb.2.1 * tb.2.2.1 = 1 → (N.foldl tstep tb).1 * (N.foldl tstep tb).2.2.2 - (N.foldl tstep tb).2.1 * (N.foldl tstep tb).2.2.1 = 1
  | [], _, h => h
  | n :: N, (a, b, c, d), h => by
    refine det_fold N _ ?_
    dsimp only at h
    unfold tstep
    repeat' split
    all_goals
      dsimp only
      simp only [Int.sub_mul, Int.mul_sub, Int.add_mul, Int.mul_add]
      have e1 := Int.mul_comm a b
      have e2 := Int.mul_comm c d
      have e3 := Int.mul_comm a d
      have e4 := Int.mul_comm b c
      omega
/-- the order stays one of three -/
structure Ord3 (o : I3) : Prop where
  a : 0 ≤ o.1 ∧ o.1 < 3
  b : 0 ≤ o.2.1 ∧ o.2.1 < 3
  c : 0 ≤ o.2.2 ∧ o.2.2 < 3
theorem ord_fold : ∀ (N : List Int) {o : I3}, Ord3 o → Ord3 (N.foldl ostep o)
  | [], _, h => h
  | n :: N, _, ⟨a, b, c⟩ => by
    refine ord_fold N ?_
    unfold ostep
    split
    · exact ⟨b, a, c⟩
    · exact ⟨a, c, b⟩
/-- two rests by three, over the rests -/
theorem fox_fin : ∀ a b c d : Fin 3, ((a.val : Int) * d.val - (b.val : Int) * c.val) % 3 = 1 →
    ((((b.val : Int) % 3 = 0 ∧ ((d.val : Int) - 1) % 3 = 0) ∨ (((b.val : Int) - a.val + 1) % 3 = 0 ∧ ((d.val : Int) - c.val - 1) % 3 = 0) ∨ (((a.val : Int) - 1) % 3 = 0 ∧ (c.val : Int) % 3 = 0) ∨ (((a.val : Int) + b.val - 1) % 3 = 0 ∧ ((c.val : Int) + d.val - 1) % 3 = 0)) ↔ (2 - ((a.val : Int) + d.val)) % 3 = 0) := by
  decide +kernel
theorem rest3 (a : Int) : ∃ x : Fin 3, ∃ t : Int, a = (x.val : Int) + 3 * t := by
  have h := Int.mul_ediv_add_emod a 3
  have h0 := Int.emod_nonneg a (show (3 : Int) ≠ 0 by decide)
  have h1 := Int.emod_lt_of_pos a (show (0 : Int) < 3 by decide)
  refine ⟨⟨(a % 3).toNat, by omega⟩, a / 3, ?_⟩
  show a = (((a % 3).toNat : Nat) : Int) + 3 * (a / 3)
  rw [Int.toNat_of_nonneg h0]
  omega
theorem m3 {u v : Int} (t : Int) (h : u = v + 3 * t) : (u % 3 = 0) = (v % 3 = 0) := by rw [h, Int.add_mul_emod_self_left]
theorem fox {a b c d : Int} (h : a * d - b * c = 1) :
    ((b % 3 = 0 ∧ (d - 1) % 3 = 0) ∨ ((b - a + 1) % 3 = 0 ∧ (d - c - 1) % 3 = 0) ∨ ((a - 1) % 3 = 0 ∧ c % 3 = 0) ∨ ((a + b - 1) % 3 = 0 ∧ (c + d - 1) % 3 = 0)) ↔ (2 - (a + d)) % 3 = 0 := by
  obtain ⟨x, p, hx⟩ := rest3 a
  obtain ⟨y, q, hy⟩ := rest3 b
  obtain ⟨z, r, hz⟩ := rest3 c
  obtain ⟨v, t, hv⟩ := rest3 d
  have h3 : ((x.val : Int) * v.val - (y.val : Int) * z.val) % 3 = 1 := by
    have e : (a * d - b * c) % 3 = 1 := by rw [h]; rfl
    rw [hx, hy, hz, hv, Int.sub_emod, Int.mul_emod, Int.add_mul_emod_self_left, Int.add_mul_emod_self_left, ← Int.mul_emod, Int.mul_emod ((y.val : Int) + 3 * q), Int.add_mul_emod_self_left, Int.add_mul_emod_self_left, ← Int.mul_emod, ← Int.sub_emod] at e
    exact e
  rw [m3 (u := b) q hy, m3 (u := d - 1) (v := (v.val : Int) - 1) t (by omega), m3 (u := b - a + 1) (v := (y.val : Int) - x.val + 1) (q - p) (by omega), m3 (u := d - c - 1) (v := (v.val : Int) - z.val - 1) (t - r) (by omega),
    m3 (u := a - 1) (v := (x.val : Int) - 1) p (by omega), m3 (u := c) r hz, m3 (u := a + b - 1) (v := (x.val : Int) + y.val - 1) (p + q) (by omega), m3 (u := c + d - 1) (v := (z.val : Int) + v.val - 1) (r + t) (by omega),
    m3 (u := 2 - (a + d)) (v := 2 - ((x.val : Int) + v.val)) (-(p + t)) (by omega)]
  exact fox_fin x y z v h3
end
section
theorem gd_due {sd q n : Int} (h1 : 1 ≤ sd) (h8 : sd ≤ 8) (h0 : 0 ≤ n) (h : n < 128 * (6 * sd)) : Gd sd (dueC sd q n) := by
  have g := gd_colOf h1 h8 h0 h
  exact ⟨g.s1, g.s8, fmod_lo _ (by omega), fmod_hi _ (by omega), g.u1, g.w0, g.top⟩
theorem hue_ok {sd : Int} {x : Cs} (g : Gd sd x) : HueOk sd x := by
  have k := kol_of g
  have G := gates_of k g.w0 g.top
  obtain ⟨q, aq, eq⟩ := hue_col k g.s1 g.u1
  have r := round_hue aq eq g.s1 g.s8 g.p0 g.p1
  exact ⟨_, _, _, ⟨k.inb, G.g1, G.g2, G.g3, rfl, r.1, r.2⟩⟩
noncomputable def tagOf (sd n1 n2 n3 : Int) (k : Int) : Int × Int := (1 + ((nth k n1 n2 n3).fdiv (6 * sd)).fmod 4, (nth k n1 n2 n3).fdiv (4 * (6 * sd)))
theorem lift_due (sd n1 n2 n3 P k : Int) : liftC sd (tagOf sd n1 n2 n3) P k = dueC sd P (nth k n1 n2 n3) := rfl
theorem lift_start (sd n1 n2 n3 : Int) : lift3 sd (tagOf sd n1 n2 n3) (n1, n2, n3) (0, 1, 2) = (colOf sd n1, colOf sd n2, colOf sd n3) := rfl
/-- what the walk leaves is what is due -/
theorem left_due {sd n1 n2 n3 : Int} (hs : 1 ≤ sd) (N : List Int) (a : Nat) (q : Int) :
    (N.take a ++ pieceOf q ++ N.drop a).foldl (bstep sd) (colOf sd n1, colOf sd n2, colOf sd n3) =
      (dueC sd (n1 - n2 + n3 + twoV (N.foldl tstep (1, 0, 0, 1)) n1 n2 n3) (nth (N.foldl ostep (0, 1, 2)).1 n1 n2 n3),
        dueC sd (n1 - n2 + n3 + twoV (N.foldl tstep (1, 0, 0, 1)) n1 n2 n3 - oneV (N.foldl tstep (1, 0, 0, 1)) n1 n2 n3) (nth (N.foldl ostep (0, 1, 2)).2.1 n1 n2 n3),
        dueC sd (n1 - n2 + n3 - oneV (N.foldl tstep (1, 0, 0, 1)) n1 n2 n3) (nth (N.foldl ostep (0, 1, 2)).2.2 n1 n2 n3)) := by
  rw [← lift_start, fold_lift hs, piece_in, piece_in_o, places_eq]
  rfl
/-- the start's rows -/
noncomputable def rowAt : Fin 4 → I3
  | 0 => (0, 0, 2)
  | 1 => (0, 2, 0)
  | 2 => (0, 2, 2)
  | 3 => (0, 2, 4)
theorem start_lift (i : Fin 4) : startOf i = lift3 1 (fun _ => (64, 0)) (rowAt i) (0, 1, 2) := by
  match i with
  | 0 => rfl
  | 1 => rfl
  | 2 => rfl
  | 3 => rfl
theorem colD_fin : ∀ p q : Fin 6, PyData.eqv (colD 1 ⟨(p.val : Int), 64, 0⟩) (colD 1 ⟨(q.val : Int), 64, 0⟩) = decide (p = q) := by decide +kernel
theorem colD_eqv (P Q a b : Int) : PyData.eqv (colD 1 (liftC 1 (fun _ => (64, 0)) P a)) (colD 1 (liftC 1 (fun _ => (64, 0)) Q b)) = decide (P % 6 = Q % 6) := by
  have hP := Int.emod_nonneg P (show (6 : Int) ≠ 0 by decide)
  have hP1 := Int.emod_lt_of_pos P (show (0 : Int) < 6 by decide)
  have hQ := Int.emod_nonneg Q (show (6 : Int) ≠ 0 by decide)
  have hQ1 := Int.emod_lt_of_pos Q (show (0 : Int) < 6 by decide)
  have h := colD_fin ⟨(P % 6).toNat, by omega⟩ ⟨(Q % 6).toNat, by omega⟩
  have e1 : (((P % 6).toNat : Nat) : Int) = P % 6 := by omega
  have e2 : (((Q % 6).toNat : Nat) : Int) = Q % 6 := by omega
  simp only [e1, e2] at h
  unfold liftC
  rw [Int.fmod_eq_emod_of_nonneg _ (by decide), Int.fmod_eq_emod_of_nonneg _ (by decide)]
  show PyData.eqv (colD 1 ⟨P % 6, 64, 0⟩) (colD 1 ⟨Q % 6, 64, 0⟩) = _
  rw [h]
  refine decide_eq_decide.mpr ⟨fun e => ?_, fun e => ?_⟩
  · have := congrArg Fin.val e
    dsimp only at this
    omega
  · exact Fin.ext (by show (P % 6).toNat = (Q % 6).toNat; rw [e])
theorem rowD_lift (P Q o o' : I3) : PyData.eqv (rowD 1 (lift3 1 (fun _ => (64, 0)) P o)) (rowD 1 (lift3 1 (fun _ => (64, 0)) Q o')) = (decide (P.1 % 6 = Q.1 % 6) && (decide (P.2.1 % 6 = Q.2.1 % 6) && decide (P.2.2 % 6 = Q.2.2 % 6))) := by
  unfold rowD lift3
  simp only [PyData.eqv, PyData.eqvAll, Bool.and_true]
  rw [colD_eqv, colD_eqv, colD_eqv]
theorem backE_eq (ys : List Value) (i : Fin 4) : backE ys i = (decide (((ys.map letterOf).foldl istep (rowAt i)).1 % 6 = (rowAt i).1 % 6) && (decide (((ys.map letterOf).foldl istep (rowAt i)).2.1 % 6 = (rowAt i).2.1 % 6) && decide (((ys.map letterOf).foldl istep (rowAt i)).2.2 % 6 = (rowAt i).2.2 % 6))) := by
  unfold backE
  rw [start_lift, ← List.foldl_map, fold_lift (by decide), rowD_lift]
theorem and3 {p q r : Prop} {ip : Decidable p} {iq : Decidable q} {ir : Decidable r} : (@decide p ip && (@decide q iq && @decide r ir)) = true ↔ (p ∧ q ∧ r) := by
  rw [Bool.and_eq_true, Bool.and_eq_true, decide_eq_true_eq, decide_eq_true_eq, decide_eq_true_eq]
/-- three places stand as they stood if two differences do -/
theorem six_iff {X x u : Int} (h : X = x + 2 * u) : X % 6 = x % 6 ↔ u % 3 = 0 := by omega
theorem row_iff {X Y Z x y z u v : Int} (hX : X = x - 2 * v) (hZ : Z = z + 2 * u) (hY : Y = y + 2 * (u - v)) : (X % 6 = x % 6 ∧ Y % 6 = y % 6 ∧ Z % 6 = z % 6) ↔ (u % 3 = 0 ∧ v % 3 = 0) := by
  rw [six_iff (X := X) (u := -v) (by omega), six_iff hY, six_iff hZ]
  omega
theorem back0 (a b c d : Int) : ((0 - 0 + 2 + (c * (0 - 0) + d * (0 - 2))) % 6 = 0 % 6 ∧ (0 - 0 + 2 + (c * (0 - 0) + d * (0 - 2)) - (a * (0 - 0) + b * (0 - 2))) % 6 = 0 % 6 ∧ (0 - 0 + 2 - (a * (0 - 0) + b * (0 - 2))) % 6 = 2 % 6) ↔ ((b) % 3 = 0 ∧ (d - 1) % 3 = 0) := row_iff (by omega) (by omega) (by omega)
theorem back1 (a b c d : Int) : ((0 - 2 + 0 + (c * (0 - 2) + d * (2 - 0))) % 6 = 0 % 6 ∧ (0 - 2 + 0 + (c * (0 - 2) + d * (2 - 0)) - (a * (0 - 2) + b * (2 - 0))) % 6 = 2 % 6 ∧ (0 - 2 + 0 - (a * (0 - 2) + b * (2 - 0))) % 6 = 0 % 6) ↔ ((a - b - 1) % 3 = 0 ∧ (c - d + 1) % 3 = 0) := row_iff (by omega) (by omega) (by omega)
theorem back2 (a b c d : Int) : ((0 - 2 + 2 + (c * (0 - 2) + d * (2 - 2))) % 6 = 0 % 6 ∧ (0 - 2 + 2 + (c * (0 - 2) + d * (2 - 2)) - (a * (0 - 2) + b * (2 - 2))) % 6 = 2 % 6 ∧ (0 - 2 + 2 - (a * (0 - 2) + b * (2 - 2))) % 6 = 2 % 6) ↔ ((a - 1) % 3 = 0 ∧ (c) % 3 = 0) := row_iff (by omega) (by omega) (by omega)
theorem back3 (a b c d : Int) : ((0 - 2 + 4 + (c * (0 - 2) + d * (2 - 4))) % 6 = 0 % 6 ∧ (0 - 2 + 4 + (c * (0 - 2) + d * (2 - 4)) - (a * (0 - 2) + b * (2 - 4))) % 6 = 2 % 6 ∧ (0 - 2 + 4 - (a * (0 - 2) + b * (2 - 4))) % 6 = 4 % 6) ↔ ((a + b - 1) % 3 = 0 ∧ (c + d - 1) % 3 = 0) := row_iff (by omega) (by omega) (by omega)
theorem neg3 (x y : Int) (h : x = -y) : x % 3 = 0 ↔ y % 3 = 0 := by omega
theorem b01_pos (b : Bool) : (0 ≤ b01 b) ∧ (b01 b > 0 ↔ b = true) := by
  cases b <;> decide
theorem back_law (ys : List Value) : decide (backN ys > 0) = decide ((2 - ((tabV ys).1 + (tabV ys).2.2.2)).fmod 3 = 0) := by
  refine decide_eq_decide.mpr ?_
  rw [Int.fmod_eq_emod_of_nonneg _ (by decide)]
  have hdet := det_fold (ys.map letterOf) (1, 0, 0, 1) (by decide)
  rw [← tab_map] at hdet
  rw [← fox hdet]
  have p0 := places_eq (ys.map letterOf) 0 0 2
  have p1 := places_eq (ys.map letterOf) 0 2 0
  have p2 := places_eq (ys.map letterOf) 0 2 2
  have p3 := places_eq (ys.map letterOf) 0 2 4
  rw [← tab_map] at p0 p1 p2 p3
  have b0 := backE_eq ys 0
  have b1 := backE_eq ys 1
  have b2 := backE_eq ys 2
  have b3 := backE_eq ys 3
  rw [show rowAt 0 = (0, 0, 2) from rfl, p0] at b0
  rw [show rowAt 1 = (0, 2, 0) from rfl, p1] at b1
  rw [show rowAt 2 = (0, 2, 2) from rfl, p2] at b2
  rw [show rowAt 3 = (0, 2, 4) from rfl, p3] at b3
  generalize tabV ys = tb at *
  obtain ⟨a, b, c, d⟩ := tb
  simp only [oneV, twoV] at b0 b1 b2 b3
  have c0 : backE ys 0 = true ↔ (b % 3 = 0 ∧ (d - 1) % 3 = 0) := by
    rw [b0]; exact and3.trans (back0 a b c d)
  have c1 : backE ys 1 = true ↔ ((b - a + 1) % 3 = 0 ∧ (d - c - 1) % 3 = 0) := by
    rw [b1]; exact and3.trans ((back1 a b c d).trans (and_congr (neg3 _ _ (by omega)) (neg3 _ _ (by omega))))
  have c2 : backE ys 2 = true ↔ ((a - 1) % 3 = 0 ∧ c % 3 = 0) := by
    rw [b2]; exact and3.trans (back2 a b c d)
  have c3 : backE ys 3 = true ↔ ((a + b - 1) % 3 = 0 ∧ (c + d - 1) % 3 = 0) := by
    rw [b3]; exact and3.trans (back3 a b c d)
  rw [← c0, ← c1, ← c2, ← c3]
  have z0 := b01_pos (backE ys 0)
  have z1 := b01_pos (backE ys 1)
  have z2 := b01_pos (backE ys 2)
  have z3 := b01_pos (backE ys 3)
  unfold backN
  rw [← z0.2, ← z1.2, ← z2.2, ← z3.2]
  omega
end
section
set_option maxRecDepth 100000 in
set_option maxHeartbeats 1000000 in
theorem walkC (w : World) (mean : ExcName → Option Value) (mg mb : Str → Option Value) (h₀ : Heap) (L fa : Addr) (cd : Value) (s : Shared) (Q : Flow → Shared → Prop) (mB : Str → Option Value) (oS oR : Obj)
    (Dc Dd : Addr) (c0 c1 c2 c3 c4 c5 c6 c7 c8 c9 c10 : Int) (t0 t1 t2 t3 t4 t5 t6 t7 t8 t9 t10 : Tok) (n1 n2 n3 : Int) (u1 u2 u3 : Tok) (kn : Nat) (sd : Int) (tS tR : Tok) (B : Below callerA h₀ [] h₀) (X : (hd.heap_39 w.params).In h₀) (T : Top hd.view_39 (looseW hd.view_39 [Str.ofString "ONE_THIRD", Str.ofString "ONE_SIXTH", Str.ofString "TWO_THIRD"]) mean mg mb h₀) (FB : Fr h₀ L s.heap mB)
    (NB : News h₀ L s.heap [(Dd, listI n1 n2 n3 u1 u2 u3 kn), (Dc, cellsO c0 c1 c2 c3 c4 c5 c6 c7 c8 c9 c10 t0 t1 t2 t3 t4 t5 t6 t7 t8 t9 t10), (L + 1 + 1, oR), (L + 1, oS)])
    (hS : oS.data = .cell (some (.int sd tS))) (hR : oR.data = .cell (some (.int (6 * sd) tR))) (hs1 : 1 ≤ sd) (hs8 : sd ≤ 8) (hmB1 : mB (Str.ofString "cells") = some (.ref Dc)) (hmB2 : mB (Str.ofString "drawn") = some (.ref Dd))
    (hn1 : 0 ≤ n1 ∧ n1 < 128 * (6 * sd)) (hn2 : 0 ≤ n2 ∧ n2 < 128 * (6 * sd)) (hn3 : 0 ≤ n3 ∧ n3 < 128 * (6 * sd))
    (hk : ∀ (h' : Heap) (tk' : Nat) (m' : Str → Option Value), Fr h₀ L h' m' → Q (.ret (.bool true)) { s with heap := h', toks := tk' }) :
    LawWp w L fa cd [st 5, st 6, st 7, st 8, st 9, st 10, st 11, st 12, st 13, st 14, st 15, st 16, st 17, st 18, st 19, st 20, st 21, st 22, st 23, st 24, st 25] Q (fun _ _ => False) s := by
  have hE : PassesOwn (model PySem.Challenge.rw_pe0093_01.row.prog w) (callerA.deeper (lawEnv L fa cd)) (lawEnv L fa cd) (fun _ _ => False) := PassesOwn.never
  refine segB2 w mean mg mb h₀ L fa cd _ Q _ mB oS oR _ _ Dc Dd n1 n2 n3 u1 u2 u3 kn sd tS tR B X T FB NB hS hR hs1 hs8 hmB1 hmB2 hn1 hn2 hn3 ?_
  intro led Dr A1 A2 A3 nr hC tkC mC FC NC sub0 hDr hrow hmC1 hmC2 hmC3
  refine segC w mean mg mb h₀ L fa cd _ Q _ mC led _ Dc Dd Dr c0 c1 c2 c3 c4 c5 c6 c7 c8 c9 c10 t0 t1 t2 t3 t4 t5 t6 t7 t8 t9 t10 B X T FC NC (sub0 _ (List.mem_cons_of_mem _ List.mem_cons_self)) hmC1 hmC2 hmC3 ?_
  intro Dw ys led1 h1 tk1 m1 F1 N1 sub1 hDw hys hlen6 hm1 hm2 hm3 hm4
  refine segD w mean mg mb h₀ L fa cd _ Q _ m1 led1 _ Dc Dd Dr Dw A1 A2 A3 nr ys sd _ c0 c1 c2 c3 c4 c5 c6 c7 c8 c9 c10 t0 t1 t2 t3 t4 t5 t6 t7 t8 t9 t10 B X T F1 N1 (sub1 _ (sub0 _ (List.mem_cons_of_mem _ List.mem_cons_self))) hDw hys hlen6 (sub1 _ hDr) (hrow.mono sub1) hm1 hm2 hm3 hm4 ?_
  intro a q Dl B1 B2 B3 nl led2 h2 tk2 m2 F2 N2 sub2 hDl hrow2 hm21 hm22 hm23
  rw [left_due hs1, ← tab_map] at hrow2
  have hO := ord_fold (ys.map letterOf) (o := (0, 1, 2)) ⟨by decide, by decide, by decide⟩
  refine segE w mean mg mb h₀ L fa cd _ Q _ m2 led2 _ Dd Dw Dl ys B X T F2 N2 (sub2 _ hDw) hys hm21 hm22 hm23 hE ?_
  intro Do x1 x2 x3 ko led3 h3 tk3 m3 F3 N3 sub3 hDo hm31 hm32 hm33 hm34
  have hDd3 : (Dd, listI n1 n2 n3 u1 u2 u3 kn) ∈ led3 := sub3 _ (sub2 _ (sub1 _ (sub0 _ List.mem_cons_self)))
  refine segF w mean mg mb h₀ L fa cd _ Q _ m3 led3 _ Dd Dw Dl Do ys n1 n2 n3 u1 u2 u3 kn B X T F3 N3 (sub3 _ (sub2 _ hDw)) hys hDd3 (mulOk (by omega)) (mulOk (by omega)) (mulOk (by omega)) (mulOk (by omega)) hm31 hm32 hm33 hm34 ?_
  intro Dp Du p1 p2 p3 ta td led4 h4 tk4 m4 F4 N4 sub4 hDu hDp hm41 hm42 hm43 hm44 hm45 hm46 hm47 hm48
  have up0 : ∀ p ∈ [(Dd, listI n1 n2 n3 u1 u2 u3 kn), (Dc, cellsO c0 c1 c2 c3 c4 c5 c6 c7 c8 c9 c10 t0 t1 t2 t3 t4 t5 t6 t7 t8 t9 t10), (L + 1 + 1, oR), (L + 1, oS)], p ∈ led4 := fun p hp => sub4 _ (sub3 _ (sub2 _ (sub1 _ (sub0 _ hp))))
  have hue : ∀ (o q : Int), HueOk sd (dueC sd q (nth o n1 n2 n3)) := fun o q =>
    hue_ok (gd_due hs1 hs8 (nth_mem (P := fun z => 0 ≤ z) hn1.1 hn2.1 hn3.1) (nth_mem (P := fun z => z < 128 * (6 * sd)) hn1.2 hn2.2 hn3.2))
  refine segG w mean mg mb h₀ L fa cd _ Q _ m4 led4 _ Dd Dw Dl Do Dp Du n1 n2 n3 u1 u2 u3 kn oS oR sd tS tR B X T F4 N4 hDu (up0 _ List.mem_cons_self) (up0 _ (by kcf_m)) (up0 _ (by kcf_m)) hS hR hs1 hs8
    _ _ _ x1 x2 x3 ko (sub4 _ hDo) hO.a hO.b hO.c _ _ _ p1 p2 p3 0 hDp hue hm41 hm42 hm43 hm44 hm45 hm46 hE ?_
  intro E1 E2 E3 nn led5 h5 tk5 m5 F5 N5 sub5 hDu5 e1 e2 e3 hm51 hm52 hm53 hmk
  have sub45 : ∀ p ∈ led2, p ∈ led5 := fun p hp => sub5 _ (sub4 _ (sub3 _ hp))
  refine segH1 w mean mg mb h₀ L fa cd _ Q _ m5 led5 _ Dl Du B1 B2 B3 E1 E2 E3 nl nn sd _ B X T F5 N5 (sub45 _ hDl) hDu5 (hrow2.a.mono sub45) (hrow2.b.mono sub45) (hrow2.c.mono sub45) e1 e2 e3 hm52 hm53 ?_
  intro tk6
  refine segH2 w mean mg mb h₀ L fa cd _ Q _ m5 led5 Dw ys (tabV ys).1 (tabV ys).2.2.2 ta td B X T F5 N5 (sub45 _ (sub2 _ hDw)) hys hm51 (hmk _ _ (.inl rfl) hm47) (hmk _ _ (.inr rfl) hm48) hE (back_law ys) ?_
  intro h7 tk7 m7 F7
  exact hk _ _ _ F7
set_option maxRecDepth 100000 in
set_option maxHeartbeats 1000000 in
theorem walkB (w : World) (mean : ExcName → Option Value) (mg mb : Str → Option Value) (h₀ : Heap) (L fa : Addr) (cd : Value) (s : Shared) (Q : Flow → Shared → Prop) (mA : Str → Option Value) (oS oR : Obj)
    (Dc : Addr) (c0 c1 c2 c3 c4 c5 c6 c7 c8 c9 c10 : Int) (t0 t1 t2 t3 t4 t5 t6 t7 t8 t9 t10 : Tok) (sd : Int) (tS tR : Tok) (B : Below callerA h₀ [] h₀) (X : (hd.heap_39 w.params).In h₀) (T : Top hd.view_39 (looseW hd.view_39 [Str.ofString "ONE_THIRD", Str.ofString "ONE_SIXTH", Str.ofString "TWO_THIRD"]) mean mg mb h₀) (FA : Fr h₀ L s.heap mA)
    (NA : News h₀ L s.heap [(Dc, cellsO c0 c1 c2 c3 c4 c5 c6 c7 c8 c9 c10 t0 t1 t2 t3 t4 t5 t6 t7 t8 t9 t10), (L + 1 + 1, oR), (L + 1, oS)])
    (hS : oS.data = .cell (some (.int sd tS))) (hR : oR.data = .cell (some (.int (6 * sd) tR))) (hs1 : 1 ≤ sd) (hs8 : sd ≤ 8) (hmA : mA (Str.ofString "cells") = some (.ref Dc)) (hDc : @LT.lt Nat _ (L + 1 + 1) Dc)
    (hk : ∀ (h' : Heap) (tk' : Nat) (m' : Str → Option Value), Fr h₀ L h' m' → Q (.ret (.bool true)) { s with heap := h', toks := tk' }) :
    LawWp w L fa cd [st 4, st 5, st 6, st 7, st 8, st 9, st 10, st 11, st 12, st 13, st 14, st 15, st 16, st 17, st 18, st 19, st 20, st 21, st 22, st 23, st 24, st 25] Q (fun _ _ => False) s := by
  refine segB1 w mean mg mb h₀ L fa cd _ Q _ mA oS oR _ Dc c0 c1 c2 c3 c4 c5 c6 c7 c8 c9 c10 t0 t1 t2 t3 t4 t5 t6 t7 t8 t9 t10 sd tS tR B X T FA NA hS hR hs1 hs8 hmA hDc ?_
  intro Dd u1 u2 u3 kn hB tkB mB FB NB hmB1 hmB2 _ _ _
  exact walkC w mean mg mb h₀ L fa cd _ Q mB oS oR Dc Dd c0 c1 c2 c3 c4 c5 c6 c7 c8 c9 c10 t0 t1 t2 t3 t4 t5 t6 t7 t8 t9 t10 _ _ _ u1 u2 u3 kn sd tS tR B X T FB NB hS hR hs1 hs8 hmB1 hmB2 ⟨fmod_lo _ (by omega), fmod_hi _ (by omega)⟩ ⟨fmod_lo _ (by omega), fmod_hi _ (by omega)⟩ ⟨fmod_lo _ (by omega), fmod_hi _ (by omega)⟩ hk
set_option maxRecDepth 100000 in
set_option maxHeartbeats 1000000 in
theorem law_walk (w : World) (mean : ExcName → Option Value) (mg mb : Str → Option Value) (h₀ : Heap) (L fa : Addr) (cd : Value) (s : Shared) (Q : Flow → Shared → Prop) (m0 : Str → Option Value) (o1 o2 : Obj) (l : Addr) (vs : List Value) (ns : List Int)
    (B : Below callerA h₀ [] h₀) (X : (hd.heap_39 w.params).In h₀) (T : Top hd.view_39 (looseW hd.view_39 [Str.ofString "ONE_THIRD", Str.ofString "ONE_SIXTH", Str.ofString "TWO_THIRD"]) mean mg mb h₀) (F : Fr h₀ L s.heap m0) (N : News h₀ L s.heap [(L + 1 + 1, o1), (L + 1, o2)])
    (hc1 : o1.data = .cell none) (hc2 : o2.data = .cell none) (hL : h₀.IsList l vs.toArray) (hI : IntsAre vs ns) (hlen : ns.length ≤ 63) (hm0 : m0 (Str.ofString "script") = some (.ref l))
    (hk : ∀ (h' : Heap) (tk' : Nat) (m' : Str → Option Value), Fr h₀ L h' m' → Q (.ret (.bool true)) { s with heap := h', toks := tk' }) :
    LawWp w L fa cd [st 0, st 1, st 2, st 3, st 4, st 5, st 6, st 7, st 8, st 9, st 10, st 11, st 12, st 13, st 14, st 15, st 16, st 17, st 18, st 19, st 20, st 21, st 22, st 23, st 24, st 25] Q (fun _ _ => False) s := by
  refine segA w mean mg mb h₀ L fa cd s Q _ m0 o1 o2 l vs ns _ B X T F N hc1 hc2 hL hI hlen hm0 ?_
  intro Dc c0 c1 c2 c3 c4 c5 c6 c7 c8 c9 c10 t0 t1 t2 t3 t4 t5 t6 t7 t8 t9 t10 oS oR tS tR hA tkA mA FA NA hS hR hmA hDc
  have hsd0 := fmod_lo c0 (n := 8) (by decide)
  have hsd1 := fmod_hi c0 (n := 8) (by decide)
  exact walkB w mean mg mb h₀ L fa cd _ Q mA oS oR Dc c0 c1 c2 c3 c4 c5 c6 c7 c8 c9 c10 t0 t1 t2 t3 t4 t5 t6 t7 t8 t9 t10 _ tS tR B X T FA NA hS hR (by omega) (by omega) hmA hDc hk
end
section
theorem list_gets {α : Type} (d : α) (l : List α) : l = (List.range l.length).map fun i => (l[i]?).getD d := by
  apply List.ext_getElem?
  intro i
  rw [List.getElem?_map]
  by_cases h : i < l.length
  · rw [List.getElem?_eq_getElem h, List.getElem?_range h, Option.map_some, List.getElem?_eq_getElem h, Option.getD_some]
  · rw [List.getElem?_eq_none (by omega), List.getElem?_eq_none (by rw [List.length_range]; omega)]
    rfl
theorem body_eq : lawBody = [st 0, st 1, st 2, st 3, st 4, st 5, st 6, st 7, st 8, st 9, st 10, st 11, st 12, st 13, st 14, st 15, st 16, st 17, st 18, st 19, st 20, st 21, st 22, st 23, st 24, st 25] := by
  have h : lawBody = (List.range lawBody.length).map st := list_gets _ lawBody
  rw [lb_len] at h
  exact h
theorem go_of {w : World} {L fa : Addr} {cd : Value} {Q : Flow → Shared → Prop} {E : Value → Shared → Prop} {s : Shared} {body : List Stmt} {sc : Scope} (hb : lawBody = body) (he : lawScope = sc) (h : LawWp w L fa cd lawBody Q E s) :
    wpAny (model PySem.Challenge.rw_pe0093_01.row.prog w) (callerA.deeper (envOfC (Str.ofString "law") sc L fa cd)) (execs body (envOfC (Str.ofString "law") sc L fa cd)) Q E s := by
  subst hb
  subst he
  cases h with
  | mk h => assumption
noncomputable def LawEnd (s₁ : Shared) (L : Addr) (f : Flow) (s' : Shared) : Prop := ∃ h' tk m', f = .ret (.bool true) ∧ s' = { s₁ with heap := h', toks := tk } ∧ Fr s₁.heap L h' m'
theorem law_mono {M : Model} {A : Around} {t : Sem Flow} {Q : Flow → Shared → Prop} {E : Value → Shared → Prop} {s s₁ : Shared} {L : Addr} {h₁ : Heap} {m : Str → Option Value} (_F : Fr s₁.heap L h₁ m)
    (walk : wpAny M A t (LawEnd s₁ L) (fun _ _ => False) s)
    (fin : ∀ h' tk m', Fr s₁.heap L h' m' → Q (.ret (.bool true)) { s₁ with heap := h', toks := tk }) : wpAny M A t Q E s :=
  wpAny_mono walk (fun f s' ⟨h', tk, m', e1, e2, F⟩ => by subst e1; subst e2; exact fin h' tk m' F) fun _ _ h => False.elim h
theorem fr_gen {h₀ h : Heap} {L : Addr} {m : Str → Option Value} (F : Fr h₀ L h m) {x : Str} {v : Value} (e : m x = some v) : ∃ m0 : Str → Option Value, m0 x = some v ∧ Fr h₀ L h m0 := ⟨m, e, F⟩
theorem law_go (w : World) (mean : ExcName → Option Value) (mg mb : Str → Option Value) (s₁ : Shared) (h₁ : Heap) (tk₁ : Nat) (L fa : Addr) (cd : Value) (m0 : Str → Option Value) (o1 o2 : Obj) (l : Addr) (vs : List Value) (ns : List Int)
    (B : Below callerA s₁.heap [] s₁.heap) (X : (hd.heap_39 w.params).In s₁.heap) (T : Top hd.view_39 (looseW hd.view_39 [Str.ofString "ONE_THIRD", Str.ofString "ONE_SIXTH", Str.ofString "TWO_THIRD"]) mean mg mb s₁.heap) (F : Fr s₁.heap L h₁ m0) (N : News s₁.heap L h₁ [(L + 1 + 1, o1), (L + 1, o2)])
    (hc1 : o1.data = .cell none) (hc2 : o2.data = .cell none) (hL : s₁.heap.IsList l vs.toArray) (hI : IntsAre vs ns) (hlen : ¬ ((63 : Nat) : Int) < (ns.length : Int)) (hm0 : m0 (Str.ofString "script") = some (.ref l)) :
    LawWp w L fa cd lawBody (LawEnd s₁ L) (fun _ _ => False) { s₁ with heap := h₁, toks := tk₁ } := by
  rw [body_eq]
  exact law_walk w mean mg mb s₁.heap L fa cd { s₁ with heap := h₁, toks := tk₁ } (LawEnd s₁ L) m0 o1 o2 l vs ns B X T F N hc1 hc2 hL hI (by omega) hm0 (fun h' tk' m' F' => ⟨h', tk', m', rfl, rfl, F'⟩)
end
end Mine
theorem Mine.regEnd : True := by
  k_with_none
  trivial
set_option maxRecDepth 100000 in
set_option maxHeartbeats 4000000 in
theorem PySem.Challenge.cw_pe0093_01_holds : PySem.Challenge.rw_pe0093_01.Holds :=
  Mine.hd (by 
  w_on
  w_strict k_go0
  with_reducible rename Fr _ _ _ _ => F
  with_reducible rename News _ _ _ _ => N
  with_reducible rename Below _ _ _ _ => B
  with_reducible rename Top _ _ _ _ _ _ => T
  with_reducible rename IntsAre _ _ => hI
  with_reducible refine Mine.law_mono F ?walk ?fin
  case fin =>
    intro h' tk m' F'
    dsimp only
    wrow_close
  obtain ⟨m0, hm0, F0⟩ := Mine.fr_gen F (x := "script") rfl
  clear F
  ((with_reducible rename Dflts _ _ _ _ _ _ => hZ); clear hZ)
  ((with_reducible rename CellsAre _ _ _ => hZ); clear hZ)
  ((with_reducible rename Ground _ _ _ _ _ _ _ _ _ => hZ); clear hZ)
  ((with_reducible rename Heap.CodeRec _ _ _ => hZ); clear hZ)
  ((with_reducible rename Glob _ _ _ _ _ _ _ _ => hZ); clear hZ)
  ((with_reducible rename TopE _ _ _ _ => hZ); clear hZ)
  ((with_reducible rename TopW _ _ _ => hZ); clear hZ)
  ((with_reducible rename Tables _ _ _ _ => hZ); clear hZ)
  ((with_reducible rename Well _ _ _ _ => hZ); clear hZ)
  ((with_reducible rename Reads _ _ _ _ => hZ); clear hZ)
  ((with_reducible rename ReadsAll _ _ _ _ => hZ); clear hZ)
  ((with_reducible rename ReadsAllW _ _ _ _ _ _ => hZ); clear hZ)
  ((with_reducible rename Flt.MathXP _ _ _ => hZ); clear hZ)
  ((with_reducible rename LooseAre _ _ _ => hZ); clear hZ)
  ((with_reducible rename BMod _ _ _ _ _ => hZ); clear hZ)
  with_reducible refine Mine.go_of ?kqb ?kqe ?kqh
  case kqb => rfl
  case kqe => rfl
  case kqh =>
    refine Mine.law_go _ _ _ _ _ _ _ _ _ _ m0 _ _ _ _ _ B (by assumption) T F0 N ?_ ?_ (by assumption) hI (by assumption) hm0
    · refine Eq.trans (by assumption) ?_
      with_unfolding_all rfl
    · refine Eq.trans (by assumption) ?_
      with_unfolding_all rfl)
