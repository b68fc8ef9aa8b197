import PyProof.Rows.All
import Wide.All
import OpenK.AllK
import Wide.FinOn
import Flt.RightSqrt
import PySem.Challenge.RW_dn0051_01
set_option Elab.async false
section
open PySem PySem.W PyProof.Rows
namespace Mine
def ltF (x y : UInt64) : Bool := Float64.cmp x y == some .lt
def eqF (x y : UInt64) : Bool := Float64.cmp x y == some .eq
def fmax3 (x y z : UInt64) : UInt64 := if ltF (if ltF x y then y else x) z then z else if ltF x y then y else x
def fmin3 (x y z : UInt64) : UInt64 := if ltF z (if ltF y x then y else x) then z else if ltF y x then y else x
section
variable {prog : Program} {w : World} {A : Around} {E : Value → Shared → Prop} {s : Shared} {Q : Value → Shared → Prop}
theorem max3_num {x y z : UInt64} {t u v : Tok} (hh : A.handled = none)
    (h : ∀ h' tk t', (∀ c o, s.heap.get? c = some o → h'.get? c = some o) → Q (.float (fmax3 x y z) t') { s with heap := h', toks := tk }) :
    wpAny (model prog w) A (call (.builtin "max") [.float x t, .float y u, .float z v]) Q E s := by
  have hT : (s.heap.push { cls := .type "tuple", data := .seq #[.float x t, .float y u, .float z v] }).IsTuple s.heap.objs.size #[.float x t, .float y u, .float z v] := ⟨_, Heap.get?_push_size _ rfl, rfl, 0, rfl⟩
  refine call_max_three (wpAny_pyIter_tuple hT ?_)
  have hsz : (s.heap.push { cls := .type "tuple", data := .seq #[.float x t, .float y u, .float z v] }).objs.size = s.heap.objs.size + 1 := Heap.size_push ..
  refine ⟨_, [_, s.heap.objs.size], [_], _, _, _, _, rfl, Walks.tuple (A := A.in1) hh _ s.heap.objs.size (by rw [hsz]; exact Nat.ne_of_lt (Nat.lt_succ_self _)) #[.float x t, .float y u, .float z v],
    ⟨⟨_, Heap.get?_push_size _ rfl, rfl, rfl⟩, hT.push _⟩, fun c hc => ?_, by simp, Flt.cmpOf_gt #[.float x t, .float y u, .float z v] (by simp [Flt.NumV.float]), fun vv h' tk hP hk => ?_⟩
  · show c < ((s.heap.push _).push _).objs.size
    rw [Heap.size_push, hsz]
    rcases List.mem_cons.mp hc with rfl | hc
    · rw [hsz]; exact Nat.lt_succ_self _
    · rcases List.mem_cons.mp hc with rfl | hc
      · exact Nat.lt_succ_of_lt (Nat.lt_succ_self _)
      · cases hc
  · have hold : ∀ c o, s.heap.get? c = some o → h'.get? c = some o := fun c o e => by
      refine hk c o (fun hm => ?_) (Heap.get?_push_of_some _ (Heap.get?_push_of_some _ e))
      rcases List.mem_cons.mp hm with e1 | hm
      · have := Heap.lt_size e; rw [e1, hsz] at this; exact Nat.lt_irrefl _ (Nat.lt_of_succ_lt this)
      · cases hm
    have hv : ∃ t', vv = .float (fmax3 x y z) t' := by
      unfold fmax3 ltF
      cases h1 : (Float64.cmp x y == some .lt) <;> cases h2 : (Float64.cmp x z == some .lt) <;> cases h3 : (Float64.cmp y z == some .lt) <;> simp [argBest, Flt.ltV, h1, h2, h3] at hP <;> subst hP <;> first | (refine ⟨t, ?_⟩; simp [h1, h2, h3]; done) | (refine ⟨u, ?_⟩; simp [h1, h2, h3]; done) | (refine ⟨v, ?_⟩; simp [h1, h2, h3]; done)
    obtain ⟨t', rfl⟩ := hv
    exact h h' tk t' hold
theorem min3_num {x y z : UInt64} {t u v : Tok} (hh : A.handled = none)
    (h : ∀ h' tk t', (∀ c o, s.heap.get? c = some o → h'.get? c = some o) → Q (.float (fmin3 x y z) t') { s with heap := h', toks := tk }) :
    wpAny (model prog w) A (call (.builtin "min") [.float x t, .float y u, .float z v]) Q E s := by
  have hT : (s.heap.push { cls := .type "tuple", data := .seq #[.float x t, .float y u, .float z v] }).IsTuple s.heap.objs.size #[.float x t, .float y u, .float z v] := ⟨_, Heap.get?_push_size _ rfl, rfl, 0, rfl⟩
  refine call_min_three (wpAny_pyIter_tuple hT ?_)
  have hsz : (s.heap.push { cls := .type "tuple", data := .seq #[.float x t, .float y u, .float z v] }).objs.size = s.heap.objs.size + 1 := Heap.size_push ..
  refine ⟨_, [_, s.heap.objs.size], [_], _, _, _, _, rfl, Walks.tuple (A := A.in1) hh _ s.heap.objs.size (by rw [hsz]; exact Nat.ne_of_lt (Nat.lt_succ_self _)) #[.float x t, .float y u, .float z v],
    ⟨⟨_, Heap.get?_push_size _ rfl, rfl, rfl⟩, hT.push _⟩, fun c hc => ?_, by simp, Flt.cmpOf_lt #[.float x t, .float y u, .float z v] (by simp [Flt.NumV.float]), fun vv h' tk hP hk => ?_⟩
  · show c < ((s.heap.push _).push _).objs.size
    rw [Heap.size_push, hsz]
    rcases List.mem_cons.mp hc with rfl | hc
    · rw [hsz]; exact Nat.lt_succ_self _
    · rcases List.mem_cons.mp hc with rfl | hc
      · exact Nat.lt_succ_of_lt (Nat.lt_succ_self _)
      · cases hc
  · have hold : ∀ c o, s.heap.get? c = some o → h'.get? c = some o := fun c o e => by
      refine hk c o (fun hm => ?_) (Heap.get?_push_of_some _ (Heap.get?_push_of_some _ e))
      rcases List.mem_cons.mp hm with e1 | hm
      · have := Heap.lt_size e; rw [e1, hsz] at this; exact Nat.lt_irrefl _ (Nat.lt_of_succ_lt this)
      · cases hm
    have hv : ∃ t', vv = .float (fmin3 x y z) t' := by
      unfold fmin3 ltF
      cases h1 : (Float64.cmp y x == some .lt) <;> cases h2 : (Float64.cmp z x == some .lt) <;> cases h3 : (Float64.cmp z y == some .lt) <;> simp [argBest, Flt.ltV, h1, h2, h3] at hP <;> subst hP <;> first | (refine ⟨t, ?_⟩; simp [h1, h2, h3]; done) | (refine ⟨u, ?_⟩; simp [h1, h2, h3]; done) | (refine ⟨v, ?_⟩; simp [h1, h2, h3]; done)
    obtain ⟨t', rfl⟩ := hv
    exact h h' tk t' hold
variable {h₀ : Heap} {L : Addr} {m : Str → Option Value} {news : List (Addr × Obj)}
theorem max3_ff {x y z : UInt64} {t u v : Tok} (hh : A.handled = none) (F : Fr h₀ L s.heap m) (N : News h₀ L s.heap news)
    (h : ∀ h' tk t', Fr h₀ L h' m → News h₀ L h' news → Q (.float (fmax3 x y z) t') { s with heap := h', toks := tk }) :
    wpAny (model prog w) A (call (.builtin "max") [.float x t, .float y u, .float z v]) Q E s :=
  max3_num hh fun h' tk t' kp => h h' tk t' (F.grownK kp) (N.grown kp)
theorem min3_ff {x y z : UInt64} {t u v : Tok} (hh : A.handled = none) (F : Fr h₀ L s.heap m) (N : News h₀ L s.heap news)
    (h : ∀ h' tk t', Fr h₀ L h' m → News h₀ L h' news → Q (.float (fmin3 x y z) t') { s with heap := h', toks := tk }) :
    wpAny (model prog w) A (call (.builtin "min") [.float x t, .float y u, .float z v]) Q E s :=
  min3_num hh fun h' tk t' kp => h h' tk t' (F.grownK kp) (N.grown kp)
end
end Mine
end
section
open PySem PySem.W PyProof.Rows
namespace Mine
set_option maxRecDepth 100000 in
set_option maxHeartbeats 8000000 in
open_top hd for PySem.Challenge.rw_dn0051_01
end Mine
end
section
open PySem PySem.W PyProof.Rows
namespace Mine
abbrev TopM (s₀ : Shared) (mg mb : Str → Option Value) (h : Heap) : Prop :=
  Top Mine.hd.view_39 (looseW Mine.hd.view_39 [Str.ofString "bisect_right", Str.ofString "bisect_left"]) (ExcName.means s₀.heap) mg mb h
def HsvOk (r g b : UInt64) : Prop := eqF (fmin3 r g b) (fmax3 r g b) = false → Float64.isZero (fmax3 r g b) = false ∧ Float64.isZero (Float64.sub (fmax3 r g b) (fmin3 r g b)) = false
def hueTail (h : UInt64) : UInt64 := (Float64.divmod (Float64.div h 0x4018000000000000) 0x3ff0000000000000).2
def hsvH (r g b : UInt64) : UInt64 :=
  if eqF (fmin3 r g b) (fmax3 r g b) then 0
  else if eqF r (fmax3 r g b) then
    hueTail (Float64.sub (Float64.div (Float64.sub (fmax3 r g b) b) (Float64.sub (fmax3 r g b) (fmin3 r g b))) (Float64.div (Float64.sub (fmax3 r g b) g) (Float64.sub (fmax3 r g b) (fmin3 r g b))))
  else if eqF g (fmax3 r g b) then
    hueTail (Float64.sub (Float64.add 0x4000000000000000 (Float64.div (Float64.sub (fmax3 r g b) r) (Float64.sub (fmax3 r g b) (fmin3 r g b)))) (Float64.div (Float64.sub (fmax3 r g b) b) (Float64.sub (fmax3 r g b) (fmin3 r g b))))
  else
    hueTail (Float64.sub (Float64.add 0x4010000000000000 (Float64.div (Float64.sub (fmax3 r g b) g) (Float64.sub (fmax3 r g b) (fmin3 r g b)))) (Float64.div (Float64.sub (fmax3 r g b) r) (Float64.sub (fmax3 r g b) (fmin3 r g b))))
abbrev tupObj (vs : Array Value) : Obj := { cls := Value.type "tuple", data := Data.seq vs }
abbrev HsvRet (h₀ : Heap) (L : Addr) (m : Str → Option Value) (news : List (Addr × Obj)) (s : Shared) (Q : Value → Shared → Prop) (x : UInt64) : Prop :=
  ∀ (D : Addr) (t : Tok) (v2 v3 : Value) (h' : Heap) (tk' : Nat), Fr h₀ L h' m → News h₀ L h' ((D, tupObj #[.float x t, v2, v3]) :: news) → (∀ p ∈ news, p.1 < D) → Q (.ref D) { s with heap := h', toks := tk' }
section
variable {h₀ h' : Heap} {L D : Addr} {m : Str → Option Value} {news : List (Addr × Obj)} {s : Shared} {Q : Value → Shared → Prop} {r g b : UInt64} {t : Tok} {tk' : Nat} {v2 v3 : Value}
theorem hsv_e1 (hret : HsvRet h₀ L m news s Q (hsvH r g b)) (c1 : (Float64.cmp (fmin3 r g b) (fmax3 r g b) == some Ordering.eq) = true)
    (F : Fr h₀ L h' m) (N : News h₀ L h' ((D, tupObj #[.float 0 t, v2, v3]) :: news)) (l : ∀ p ∈ news, p.1 < D) : Q (.ref D) { s with heap := h', toks := tk' } := by
  have e : hsvH r g b = 0 := by unfold hsvH eqF; rw [if_pos c1]
  rw [e] at hret
  exact hret D t v2 v3 h' tk' F N l
theorem hsv_e2 (hret : HsvRet h₀ L m news s Q (hsvH r g b)) (c1 : (Float64.cmp (fmin3 r g b) (fmax3 r g b) == some Ordering.eq) = false) (c2 : (Float64.cmp r (fmax3 r g b) == some Ordering.eq) = true)
    (F : Fr h₀ L h' m) (N : News h₀ L h' ((D, tupObj #[.float (hueTail (Float64.sub (Float64.div (Float64.sub (fmax3 r g b) b) (Float64.sub (fmax3 r g b) (fmin3 r g b))) (Float64.div (Float64.sub (fmax3 r g b) g) (Float64.sub (fmax3 r g b) (fmin3 r g b))))) t, v2, v3]) :: news)) (l : ∀ p ∈ news, p.1 < D) : Q (.ref D) { s with heap := h', toks := tk' } := by
  unfold hsvH eqF at hret
  rw [if_neg (Bool.eq_false_iff.mp c1), if_pos c2] at hret
  exact hret D t v2 v3 h' tk' F N l
theorem hsv_e3 (hret : HsvRet h₀ L m news s Q (hsvH r g b)) (c1 : (Float64.cmp (fmin3 r g b) (fmax3 r g b) == some Ordering.eq) = false) (c2 : (Float64.cmp r (fmax3 r g b) == some Ordering.eq) = false) (c3 : (Float64.cmp g (fmax3 r g b) == some Ordering.eq) = true)
    (F : Fr h₀ L h' m) (N : News h₀ L h' ((D, tupObj #[.float (hueTail (Float64.sub (Float64.add 0x4000000000000000 (Float64.div (Float64.sub (fmax3 r g b) r) (Float64.sub (fmax3 r g b) (fmin3 r g b)))) (Float64.div (Float64.sub (fmax3 r g b) b) (Float64.sub (fmax3 r g b) (fmin3 r g b))))) t, v2, v3]) :: news)) (l : ∀ p ∈ news, p.1 < D) : Q (.ref D) { s with heap := h', toks := tk' } := by
  unfold hsvH eqF at hret
  rw [if_neg (Bool.eq_false_iff.mp c1), if_neg (Bool.eq_false_iff.mp c2), if_pos c3] at hret
  exact hret D t v2 v3 h' tk' F N l
theorem hsv_e4 (hret : HsvRet h₀ L m news s Q (hsvH r g b)) (c1 : (Float64.cmp (fmin3 r g b) (fmax3 r g b) == some Ordering.eq) = false) (c2 : (Float64.cmp r (fmax3 r g b) == some Ordering.eq) = false) (c3 : (Float64.cmp g (fmax3 r g b) == some Ordering.eq) = false)
    (F : Fr h₀ L h' m) (N : News h₀ L h' ((D, tupObj #[.float (hueTail (Float64.sub (Float64.add 0x4010000000000000 (Float64.div (Float64.sub (fmax3 r g b) g) (Float64.sub (fmax3 r g b) (fmin3 r g b)))) (Float64.div (Float64.sub (fmax3 r g b) r) (Float64.sub (fmax3 r g b) (fmin3 r g b))))) t, v2, v3]) :: news)) (l : ∀ p ∈ news, p.1 < D) : Q (.ref D) { s with heap := h', toks := tk' } := by
  unfold hsvH eqF at hret
  rw [if_neg (Bool.eq_false_iff.mp c1), if_neg (Bool.eq_false_iff.mp c2), if_neg (Bool.eq_false_iff.mp c3)] at hret
  exact hret D t v2 v3 h' tk' F N l
end
section
local macro_rules | `(tactic| walk_at "call builtin:max") => `(tactic| (k_here; (with_reducible show wpAny _ _ (call (Value.builtin "max") [Value.float _ _, Value.float _ _, Value.float _ _]) _ _ _); refine' max3_ff ?k1 ?k2 ?k3 ?_; (case k1 => exact rfl); (case k2 => k_asm); (case k3 => k_asm); k_whole; intro h' tk' t' F' N'; (try k_sweep)))
local macro_rules | `(tactic| walk_at "call builtin:min") => `(tactic| (k_here; (with_reducible show wpAny _ _ (call (Value.builtin "min") [Value.float _ _, Value.float _ _, Value.float _ _]) _ _ _); refine' min3_ff ?k1 ?k2 ?k3 ?_; (case k1 => exact rfl); (case k2 => k_asm); (case k3 => k_asm); k_whole; intro h' tk' t' F' N'; (try k_sweep)))
set_option maxRecDepth 100000 in
set_option maxHeartbeats 8000000 in
theorem hsv_call : ∀ (w : World) (s₀ : Shared) (mg mb : Str → Option Value) (r g b : UInt64) (tr tg tb : Tok) (news : List (Addr × Obj)) 
  (dp un : Nat) (gd : Option (List Code)) (cn : Str) (cs : Scope) (a : Addr) (ccd : Value) (cl : List (Str × Addr)) (outer : List Env) (A₀ : Around) (base h₀ : Heap) (L : Addr) (m : Str → Option Value) (s : Shared) (Q E : Value → Shared → Prop) 
   (_ : Below A₀ base outer h₀) (_ : Fr h₀ L s.heap m) (_ : (Mine.hd.heap_39 w.params).In h₀) (_ : News h₀ L s.heap news) (_ : TopM s₀ mg mb h₀) (_ : cs.kind = .function)
   (_ : dp + 1 < recursionLimit) (_ : un + 8 < cLine) (_ : HsvOk r g b) (_ : HsvRet h₀ L m news s Q (hsvH r g b)),
   wpAny (model PySem.Challenge.rw_dn0051_01.row.prog w) (ktrTop dp un gd cn cs L a ccd cl outer) (call (.ref 21) [.float r tr, .float g tg, .float b tb]) Q E s := by
  k_fill
  intro w s₀ mg mb r g b tr tg tb news dp un gd cn cs a ccd cl outer A₀ base h₀ L m s Q E B F X N T hk hd hu ok hret
  refine wpAny_call ?_
  k_dflt cell_enter
  k_steps
  all_goals first
    | exact hsv_e1 hret (by assumption) (by assumption) (by assumption) (by assumption)
    | exact hsv_e2 hret (by assumption) (by assumption) (by assumption) (by assumption) (by assumption)
    | exact hsv_e3 hret (by assumption) (by assumption) (by assumption) (by assumption) (by assumption) (by assumption)
    | exact hsv_e4 hret (by assumption) (by assumption) (by assumption) (by assumption) (by assumption) (by assumption)
    | (exfalso; have q := ok (by assumption); simp_all; done)
end
end Mine
end
section
open PySem PySem.W PyProof.Rows
namespace Mine
def q25 (x : Int) : UInt64 := Float64.ofFrac false x.natAbs (2 ^ 25)
def f25 (x : UInt64) : UInt64 := Float64.div x (Float64.ofInt (2 ^ 25))
section
variable {prog : Program} {w : World} {A : Around} {E : Value → Shared → Prop} {s : Shared} {Q : Value → Shared → Prop} {t u : Tok}
theorem div25 {x : Int} (hA : A.handled = none) (h0 : 0 ≤ x) (h1 : x < 2 ^ 60) (h : Q (.float (q25 x) s.toks) { s with toks := s.toks + 1 }) :
    wpAny (model prog w) A (binaryOp .Div (.int x t) (.int (2 ^ Int.toNat 25) u)) Q E s := by
  have e1 : (2 ^ Int.toNat 25 : Int) = 33554432 := rfl
  rw [e1]
  refine Flt.div_ii_fits hA ?_ (fun e => absurd e (by decide)) (fun _ _ => ?_)
  · have h2 : x.natAbs < 2 ^ 60 := by omega
    exact Nat.lt_trans h2 (Nat.pow_lt_pow_right (by decide) (by decide))
  · have e2 : (decide (x < 0) != decide ((33554432 : Int) < 0)) = false := by
      have : ¬ x < 0 := by omega
      simp [this]
    rw [e2]
    exact h
theorem div25f {x : UInt64} (hA : A.handled = none) (h : Q (.float (f25 x) s.toks) { s with toks := s.toks + 1 }) :
    wpAny (model prog w) A (binaryOp .Div (.float x t) (.int (2 ^ Int.toNat 25) u)) Q E s := by
  refine Flt.truediv_fi hA (fun e => absurd e ?_) (fun e => absurd e (by decide)) (fun _ _ => h)
  unfold Flt.Over
  decide +kernel
theorem item_N {h₀ : Heap} {L l : Addr} {news : List (Addr × Obj)} {value slice : PySem.Expr} {vs : Array Value} {n : Nat} {k : Int} {v : Value}
    (N : News h₀ L s.heap news) (hm : (l, listOf vs n) ∈ news) (h0 : 0 ≤ k) (hhi : k < 2 ^ 63) (hx : vs[k.toNat]? = some v) (h : Q v s)
    (hs : subscripted slice false (.ref l) (.int k u) = operate [.ref l, .int k u] (getItem (.ref l) (.int k u))) :
    wpAny (model prog w) A (subscriptTail value slice (.ref l) (.int k u)) Q E s :=
  tail_any (N.isList hm).typeIs slot_list_getitem.lookup (wpAny_getItem_list (N.isList hm) h0 hhi (by simpa using hx) h) hs
theorem item3_0 {h₀ : Heap} {L l : Addr} {news : List (Addr × Obj)} {value slice : PySem.Expr} {v0 v1 v2 : Value} {n : Nat}
    (N : News h₀ L s.heap news) (hm : (l, listOf #[v0, v1, v2] n) ∈ news) (h : Q v0 s)
    (hs : subscripted slice false (.ref l) (.int 0 u) = operate [.ref l, .int 0 u] (getItem (.ref l) (.int 0 u))) :
    wpAny (model prog w) A (subscriptTail value slice (.ref l) (.int 0 u)) Q E s := item_N N hm (by decide) (by decide) rfl h hs
theorem item3_1 {h₀ : Heap} {L l : Addr} {news : List (Addr × Obj)} {value slice : PySem.Expr} {v0 v1 v2 : Value} {n : Nat}
    (N : News h₀ L s.heap news) (hm : (l, listOf #[v0, v1, v2] n) ∈ news) (h : Q v1 s)
    (hs : subscripted slice false (.ref l) (.int 1 u) = operate [.ref l, .int 1 u] (getItem (.ref l) (.int 1 u))) :
    wpAny (model prog w) A (subscriptTail value slice (.ref l) (.int 1 u)) Q E s := item_N N hm (by decide) (by decide) rfl h hs
theorem item3_2 {h₀ : Heap} {L l : Addr} {news : List (Addr × Obj)} {value slice : PySem.Expr} {v0 v1 v2 : Value} {n : Nat}
    (N : News h₀ L s.heap news) (hm : (l, listOf #[v0, v1, v2] n) ∈ news) (h : Q v2 s)
    (hs : subscripted slice false (.ref l) (.int 2 u) = operate [.ref l, .int 2 u] (getItem (.ref l) (.int 2 u))) :
    wpAny (model prog w) A (subscriptTail value slice (.ref l) (.int 2 u)) Q E s := item_N N hm (by decide) (by decide) rfl h hs
end
abbrev HueRet (h₀ : Heap) (L : Addr) (m : Str → Option Value) (news : List (Addr × Obj)) (s : Shared) (Q : Value → Shared → Prop) (x : UInt64) : Prop :=
  ∀ (t : Tok) (h' : Heap) (tk' : Nat), Fr h₀ L h' m → News h₀ L h' news → Q (.float x t) { s with heap := h', toks := tk' }
theorem hue_end {h₀ h' : Heap} {L : Addr} {m : Str → Option Value} {news news' : List (Addr × Obj)} {s : Shared} {Q : Value → Shared → Prop} {x : UInt64} {t : Tok} {tk' : Nat}
    (hret : HueRet h₀ L m news s Q x) (F : Fr h₀ L h' m) (N : News h₀ L h' news') (hs : ∀ p ∈ news, p ∈ news') : Q (.float x t) { s with heap := h', toks := tk' } :=
  hret t h' tk' F fun p hp => N p (hs p hp)
section
local macro_rules | `(tactic| walk_at "subscriptTail Name Constant ref int") => `(tactic| (k_here; (first | ((with_reducible show wpAny _ _ (subscriptTail _ _ (Value.ref _) (Value.int 0 _)) _ _ _); k_dflt (refine' item3_0 ?k1 ?k2 ?_ ?k7)) | ((with_reducible show wpAny _ _ (subscriptTail _ _ (Value.ref _) (Value.int 1 _)) _ _ _); k_dflt (refine' item3_1 ?k1 ?k2 ?_ ?k7)) | ((with_reducible show wpAny _ _ (subscriptTail _ _ (Value.ref _) (Value.int 2 _)) _ _ _); k_dflt (refine' item3_2 ?k1 ?k2 ?_ ?k7))); (case k1 => k_asm); (case k2 => k_mem); (case k7 => with_unfolding_all rfl); k_whole; (try dsimp only)))
local macro_rules | `(tactic| walk_at "binaryOp Div int int") => `(tactic| (k_here; k_dflt (refine' div25 ?k1 ?k2 ?k3 ?_; (case k1 => exact rfl); (case k2 => assumption); (case k3 => assumption); k_whole); (try dsimp only)))
local macro_rules | `(tactic| walk_at "binaryOp Div float int") => `(tactic| (k_here; k_dflt (refine' div25f ?k1 ?_; (case k1 => exact rfl); k_whole); (try dsimp only)))
local macro_rules | `(tactic| walk_at "call ref") => `(tactic| (k_here; k_dflt (
  refine' hsv_call _ _ _ _ _ _ _ _ _ _ _ _ _ _ _ _ _ _ _ _ _ _ _ _ _ _ _ _ ?k1 ?k2 ?k3 ?k4 ?k5 ?k6 ?k7 ?k8 ?k9 ?_
  (case k1 => k_asm)
  (case k2 => k_asm)
  (case k3 => k_asm)
  (case k4 => k_asm)
  (case k5 => k_asm)
  (case k6 => exact rfl)
  (case k7 => ktr_room)
  (case k8 => ktr_units)
  (case k9 => assumption)
  intro D' t' v2' v3' h' tk' F' N' l1
  (try dsimp only)
  (try k_fold))))
set_option maxRecDepth 100000 in
set_option maxHeartbeats 8000000 in
theorem hue_callI : ∀ (w : World) (s₀ : Shared) (mg mb : Str → Option Value) (x y z : Int) (tx ty tz : Tok) (c : Addr) (k : Nat) (news : List (Addr × Obj)) 
  (dp un : Nat) (gd : Option (List Code)) (cn : Str) (cs : Scope) (a : Addr) (ccd : Value) (cl : List (Str × Addr)) (outer : List Env) (A₀ : Around) (base h₀ : Heap) (L : Addr) (m : Str → Option Value) (s : Shared) (Q E : Value → Shared → Prop) 
   (_ : Below A₀ base outer h₀) (_ : Fr h₀ L s.heap m) (_ : (Mine.hd.heap_39 w.params).In h₀) (_ : News h₀ L s.heap ((c, listOf #[.int x tx, .int y ty, .int z tz] k) :: news)) (_ : TopM s₀ mg mb h₀) (_ : cs.kind = .function)
   (_ : dp + 2 < recursionLimit) (_ : un + 11 < cLine) (_ : 0 ≤ x) (_ : x < 2 ^ 60) (_ : 0 ≤ y) (_ : y < 2 ^ 60) (_ : 0 ≤ z) (_ : z < 2 ^ 60) (_ : HsvOk (q25 x) (q25 y) (q25 z)) (_ : HueRet h₀ L m ((c, listOf #[.int x tx, .int y ty, .int z tz] k) :: news) s Q (hsvH (q25 x) (q25 y) (q25 z))),
   wpAny (model PySem.Challenge.rw_dn0051_01.row.prog w) (ktrTop dp un gd cn cs L a ccd cl outer) (call (.ref 46) [.ref c]) Q E s := by
  k_fill
  intro w s₀ mg mb x y z tx ty tz c k news dp un gd cn cs a ccd cl outer A₀ base h₀ L m s Q E B F X N T hk hd hu x0 x1 y0 y1 z0 z1 ok hret
  refine wpAny_call ?_
  k_dflt cell_enter
  k_steps
  exact hue_end hret (by assumption) (by assumption) (fun p hp => .tail _ hp)
set_option maxRecDepth 100000 in
set_option maxHeartbeats 8000000 in
theorem hue_callF : ∀ (w : World) (s₀ : Shared) (mg mb : Str → Option Value) (x y z : UInt64) (tx ty tz : Tok) (c : Addr) (k : Nat) (news : List (Addr × Obj)) 
  (dp un : Nat) (gd : Option (List Code)) (cn : Str) (cs : Scope) (a : Addr) (ccd : Value) (cl : List (Str × Addr)) (outer : List Env) (A₀ : Around) (base h₀ : Heap) (L : Addr) (m : Str → Option Value) (s : Shared) (Q E : Value → Shared → Prop) 
   (_ : Below A₀ base outer h₀) (_ : Fr h₀ L s.heap m) (_ : (Mine.hd.heap_39 w.params).In h₀) (_ : News h₀ L s.heap ((c, listOf #[.float x tx, .float y ty, .float z tz] k) :: news)) (_ : TopM s₀ mg mb h₀) (_ : cs.kind = .function)
   (_ : dp + 2 < recursionLimit) (_ : un + 11 < cLine) (_ : HsvOk (f25 x) (f25 y) (f25 z)) (_ : HueRet h₀ L m ((c, listOf #[.float x tx, .float y ty, .float z tz] k) :: news) s Q (hsvH (f25 x) (f25 y) (f25 z))),
   wpAny (model PySem.Challenge.rw_dn0051_01.row.prog w) (ktrTop dp un gd cn cs L a ccd cl outer) (call (.ref 46) [.ref c]) Q E s := by
  k_fill
  intro w s₀ mg mb x y z tx ty tz c k news dp un gd cn cs a ccd cl outer A₀ base h₀ L m s Q E B F X N T hk hd hu ok hret
  refine wpAny_call ?_
  k_dflt cell_enter
  k_steps
  exact hue_end hret (by assumption) (by assumption) (fun p hp => .tail _ hp)
end
end Mine
end
section
open PySem PySem.W PyProof.Rows
namespace Mine
def RowAt (news : List (Addr × Obj)) (r : Addr) (h : UInt64) : Prop :=
  ∃ (x y z : Int) (tx ty tz : Tok) (k : Nat), (r, listOf #[.int x tx, .int y ty, .int z tz] k) ∈ news ∧ (0 ≤ x ∧ x < 2 ^ 60 ∧ 0 ≤ y ∧ y < 2 ^ 60 ∧ 0 ≤ z ∧ z < 2 ^ 60) ∧ HsvOk (q25 x) (q25 y) (q25 z) ∧ hsvH (q25 x) (q25 y) (q25 z) = h
def TabOk (news : List (Addr × Obj)) (tb : Addr) (n : Nat) (hs : Nat → UInt64) : Prop :=
  ∃ (rs : List Addr) (kt : Nat), rs.length = n ∧ (tb, listOf (rs.map Value.ref).toArray kt) ∈ news ∧ ∀ i r, rs[i]? = some r → RowAt news r (hs i)
section
variable {prog : Program} {w : World} {A : Around} {E : Value → Shared → Prop} {s : Shared} {Q : Value → Shared → Prop} {t u : Tok} {h₀ : Heap} {L : Addr} {news : List (Addr × Obj)} {tb : Addr} {n : Nat} {hs : Nat → UInt64}
theorem tab_len (N : News h₀ L s.heap news) (hT : TabOk news tb n hs) (hn : n < 2 ^ 40)
    (h : Q (.int (n : Int) (s.toks + 1)) { s with toks := s.toks + 1 + 1 }) : wpAny (model prog w) A (call (.builtin "len") [.ref tb]) Q E s := by
  obtain ⟨rs, kt, hl, hm, _⟩ := hT
  refine kst_len N hm (by simpa using hl) ?_ h
  have : (2 : Nat) ^ 40 < 2 ^ 63 := by decide
  omega
theorem tab_item {value slice : PySem.Expr} {k : Int} (N : News h₀ L s.heap news) (hT : TabOk news tb n hs) (hn : n < 2 ^ 40) (h0 : 0 ≤ k) (hk : k < (n : Int))
    (h : ∀ r, RowAt news r (hs k.toNat) → Q (.ref r) s)
    (hs' : subscripted slice false (.ref tb) (.int k u) = operate [.ref tb, .int k u] (getItem (.ref tb) (.int k u))) :
    wpAny (model prog w) A (subscriptTail value slice (.ref tb) (.int k u)) Q E s := by
  obtain ⟨rs, kt, hl, hm, hr⟩ := hT
  have hlt : k.toNat < rs.length := by omega
  have : (2 : Nat) ^ 40 < 2 ^ 63 := by decide
  exact item_N N hm h0 (by omega) (by simp [hlt]) (h rs[k.toNat] (hr _ _ (by simp [hlt]))) hs'
end
set_option maxRecDepth 100000 in
theorem hue_row (w : World) (s₀ : Shared) (mg mb : Str → Option Value) (r : Addr) (x : UInt64) (news : List (Addr × Obj)) 
  (dp un : Nat) (gd : Option (List Code)) (cn : Str) (cs : Scope) (a : Addr) (ccd : Value) (cl : List (Str × Addr)) (outer : List Env) (A₀ : Around) (base h₀ : Heap) (L : Addr) (m : Str → Option Value) (s : Shared) (Q E : Value → Shared → Prop) 
   (B : Below A₀ base outer h₀) (F : Fr h₀ L s.heap m) (X : (Mine.hd.heap_39 w.params).In h₀) (N : News h₀ L s.heap news) (T : TopM s₀ mg mb h₀) (hk : cs.kind = .function)
   (hd : dp + 2 < recursionLimit) (hu : un + 11 < cLine) (hr : RowAt news r x) (ret : HueRet h₀ L m news s Q x) :
   wpAny (model PySem.Challenge.rw_dn0051_01.row.prog w) (ktrTop dp un gd cn cs L a ccd cl outer) (call (.ref 46) [.ref r]) Q E s := by
  obtain ⟨x1, y1, z1, tx, ty, tz, k, hm, ⟨b1, b2, b3, b4, b5, b6⟩, ok, e⟩ := hr
  subst e
  refine hue_callI w s₀ mg mb x1 y1 z1 tx ty tz r k news dp un gd cn cs a ccd cl outer A₀ base h₀ L m s Q E B F X ?_ T hk hd hu b1 b2 b3 b4 b5 b6 ok ?_
  · intro p hp
    rcases List.mem_cons.mp hp with rfl | hp
    · exact N _ hm
    · exact N _ hp
  · intro t h' tk' F' N'
    exact ret t h' tk' F' fun p hp => N' p (.tail _ hp)
abbrev IntRet (h₀ : Heap) (L : Addr) (m : Str → Option Value) (news : List (Addr × Obj)) (s : Shared) (Q : Value → Shared → Prop) (x : Int) : Prop :=
  ∀ (t : Tok) (h' : Heap) (tk' : Nat), Fr h₀ L h' m → News h₀ L h' news → Q (.int x t) { s with heap := h', toks := tk' }
section
variable {prog : Program} {w : World} {A : Around} {E : Value → Shared → Prop} {s : Shared} {Q : Value → Shared → Prop} {t u : Tok}
theorem cmpL {hs : Nat → UInt64} {n : Nat} {kk k : Int} {x : UInt64} (hc : ∀ i : Nat, i < n → ltF (hs i) x = decide ((i : Int) < kk)) (h0 : 0 ≤ k) (hk : k < (n : Int)) (h : Q (.bool (decide (k < kk))) s) :
    wpAny (model prog w) A (compareOp .Lt (.float (hs k.toNat) t) (.float x u)) Q E s := by
  have e := hc k.toNat (by omega)
  have e2 : ((k.toNat : Nat) : Int) = k := by omega
  rw [e2] at e
  rw [← e] at h
  exact cmp_ofLt (AutoFloatOps.lt_0 h)
theorem cmpR {hs : Nat → UInt64} {n : Nat} {kk k : Int} {x : UInt64} (hc : ∀ i : Nat, i < n → ltF x (hs i) = decide (kk ≤ (i : Int))) (h0 : 0 ≤ k) (hk : k < (n : Int)) (h : Q (.bool (decide (kk ≤ k))) s) :
    wpAny (model prog w) A (compareOp .Lt (.float x u) (.float (hs k.toNat) t)) Q E s := by
  have e := hc k.toNat (by omega)
  have e2 : ((k.toNat : Nat) : Int) = k := by omega
  rw [e2] at e
  rw [← e] at h
  exact cmp_ofLt (AutoFloatOps.lt_0 h)
end
end Mine
end
section
open PySem PySem.W PyProof.Rows
namespace Mine
theorem mid_facts {lo hi : Int} (h : lo < hi) : lo ≤ (lo + hi).fdiv 2 ∧ (lo + hi).fdiv 2 < hi := by
  have e : (lo + hi).fdiv 2 = (lo + hi) / 2 := Int.fdiv_eq_ediv_of_nonneg _ (by decide)
  rw [e]; omega
theorem tab_mid {prog : Program} {w : World} {A : Around} {E : Value → Shared → Prop} {s : Shared} {Q : Value → Shared → Prop} {u : Tok} {h₀ : Heap} {L : Addr} {news : List (Addr × Obj)} {tb : Addr} {n : Nat} {hs : Nat → UInt64} {value slice : PySem.Expr} {lo hi : Int}
    (N : News h₀ L s.heap news) (hT : TabOk news tb n hs) (hn : n < 2 ^ 40) (h0 : 0 ≤ lo) (hk : lo < hi) (h1 : hi ≤ (n : Int))
    (h : ∀ r, lo ≤ (lo + hi).fdiv 2 → (lo + hi).fdiv 2 < hi → RowAt news r (hs ((lo + hi).fdiv 2).toNat) → Q (.ref r) s)
    (hs' : subscripted slice false (.ref tb) (.int ((lo + hi).fdiv 2) u) = operate [.ref tb, .int ((lo + hi).fdiv 2) u] (getItem (.ref tb) (.int ((lo + hi).fdiv 2) u))) :
    wpAny (model prog w) A (subscriptTail value slice (.ref tb) (.int ((lo + hi).fdiv 2) u)) Q E s :=
  have m := mid_facts hk
  tab_item N hT hn (Int.le_trans h0 m.1) (Int.lt_of_lt_of_le m.2 h1) (fun r hr => h r m.1 m.2 hr) hs'
theorem int_end {h₀ h' : Heap} {L : Addr} {m : Str → Option Value} {news news' : List (Addr × Obj)} {s : Shared} {Q : Value → Shared → Prop} {x y : Int} {t : Tok} {tk' : Nat}
    (hret : IntRet h₀ L m news s Q x) (e : y = x) (F : Fr h₀ L h' m) (N : News h₀ L h' news') (hs : ∀ p ∈ news, p ∈ news') : Q (.int y t) { s with heap := h', toks := tk' } := by
  subst e
  exact hret t h' tk' F fun p hp => N p (hs p hp)
section
-- An idle row: walk1 keeps its lines by the NUMBER of walk_at rows that stand; four rows here, four in Wk2: in one file the old lines would be taken.
local macro_rules | `(tactic| walk_at "idle row of bisect") => `(tactic| fail)
local macro_rules | `(tactic| walk_at "call builtin:len") => `(tactic| (k_here; k_dflt (refine' tab_len ?k1 ?k2 ?k3 ?_; (case k1 => k_asm); (case k2 => assumption); (case k3 => assumption); k_whole); (try dsimp only)))
local macro_rules | `(tactic| walk_at "subscriptTail Name Name ref int") => `(tactic| (k_here; k_dflt (refine' tab_mid ?k1 ?k2 ?k3 ?k4 ?k5 ?k6 ?_ ?k7; (case k1 => k_asm); (case k2 => assumption); (case k3 => assumption); (case k4 => assumption); (case k5 => assumption); (case k6 => assumption); (case k7 => with_unfolding_all rfl); k_whole); (intro r' m1' m2' hr'; try dsimp only)))
local macro_rules | `(tactic| walk_at "compareOp Lt float float") => `(tactic| (k_here; k_dflt (refine' cmpL (by assumption) ?k2 ?k3 ?_); (case k2 => omega); (case k3 => omega); k_whole; (try dsimp only)))
local macro_rules | `(tactic| walk_at "call ref") => `(tactic| (k_here; k_dflt (
  refine' hue_row _ _ _ _ _ _ _ _ _ _ _ _ _ _ _ _ _ _ _ _ _ _ _ _ ?k1 ?k2 ?k3 ?k4 ?k5 ?k6 ?k7 ?k8 ?k9 ?_
  (case k1 => k_asm)
  (case k2 => k_asm)
  (case k3 => k_asm)
  (case k4 => k_asm)
  (case k5 => k_asm)
  (case k6 => exact rfl)
  (case k7 => ktr_room)
  (case k8 => ktr_units)
  (case k9 => assumption)
  intro t' h' tk' F' N'
  (try dsimp only)
  (try k_fold))))
set_option maxRecDepth 100000 in
set_option maxHeartbeats 8000000 in
theorem bisL_call : ∀ (w : World) (s₀ : Shared) (mg mb : Str → Option Value) (tb : Addr) (n : Nat) (hs : Nat → UInt64) (kk : Int) (x : UInt64) (tx : Tok) (news : List (Addr × Obj)) 
  (dp un : Nat) (gd : Option (List Code)) (cn : Str) (cs : Scope) (a : Addr) (ccd : Value) (cl : List (Str × Addr)) (outer : List Env) (A₀ : Around) (base h₀ : Heap) (L : Addr) (m : Str → Option Value) (s : Shared) (Q E : Value → Shared → Prop) 
   (_ : Below A₀ base outer h₀) (_ : Fr h₀ L s.heap m) (_ : (Mine.hd.heap_39 w.params).In h₀) (_ : News h₀ L s.heap news) (_ : TopM s₀ mg mb h₀) (_ : cs.kind = .function)
   (_ : dp + 3 < recursionLimit) (_ : un + 14 < cLine) (_ : TabOk news tb n hs) (_ : n < 2 ^ 40) (_ : 0 ≤ kk) (_ : kk ≤ (n : Int)) (_ : ∀ i : Nat, i < n → ltF (hs i) x = decide ((i : Int) < kk)) (_ : IntRet h₀ L m news s Q kk),
   wpAny (model PySem.Challenge.rw_dn0051_01.row.prog w) (ktrTop dp un gd cn cs L a ccd cl outer) (call (.ref 39) [.ref tb, .float x tx] [(Str.ofString "key", .ref 46)]) Q E s := by
  k_fill
  intro w s₀ mg mb tb n hs kk x tx news dp un gd cn cs a ccd cl outer A₀ base h₀ L m s Q E B F X N T hk hd hu hT hn k0 k1 hcmp hret
  (k_with "exec While Compare cons nil" => k_while (fun _ lo hi => 0 ≤ lo ∧ lo ≤ kk ∧ kk ≤ hi ∧ hi ≤ (n : Int)) (fun _ lo hi => (hi - lo).toNat) "lo" "hi")
  refine wpAny_call ?_
  k_dflt (refine' code_def ?k1 ?k2 ?k3 ?k4 ?k5 ?kA ?kF ?kK ?k6 ?k7 ?k8 ?k9 ?kB ?_ ?c2 ?c3 ?c4 ?c5; (case kA => exact rfl); (case kF => exact rfl); (case kK => assumption); (case k1 => k_asm); (case k2 => k_asm); (case k3 => k_asm); (case k4 => k_asm); (case k5 => k_asm); (case k6 => k_is); (case k7 => k_is); (case k8 => ktr_room); (case k9 => (refine' kp_binds ?kx ?ke; (case kx => k_in); (case ke => exact fun _ => rfl))); (case c5 => decide); (case kB => exact locs rfl); (case c2 => exact rfl); (case c3 => exact rfl); (case c4 => exact rfl); k_whole; intro g' L' h' FG' F' N' B' X' T'; (try dsimp only); (try k_lift B'); (try k_fold))
  k_steps
  exact int_end hret (by omega) (by assumption) (by assumption) (fun p hp => hp)
local macro_rules | `(tactic| walk_at "compareOp Lt float float") => `(tactic| (k_here; k_dflt (refine' cmpR (by assumption) ?k2 ?k3 ?_); (case k2 => omega); (case k3 => omega); k_whole; (try dsimp only)))
set_option maxRecDepth 100000 in
set_option maxHeartbeats 8000000 in
theorem bisR_call : ∀ (w : World) (s₀ : Shared) (mg mb : Str → Option Value) (tb : Addr) (n : Nat) (hs : Nat → UInt64) (kk : Int) (x : UInt64) (tx : Tok) (news : List (Addr × Obj)) 
  (dp un : Nat) (gd : Option (List Code)) (cn : Str) (cs : Scope) (a : Addr) (ccd : Value) (cl : List (Str × Addr)) (outer : List Env) (A₀ : Around) (base h₀ : Heap) (L : Addr) (m : Str → Option Value) (s : Shared) (Q E : Value → Shared → Prop) 
   (_ : Below A₀ base outer h₀) (_ : Fr h₀ L s.heap m) (_ : (Mine.hd.heap_39 w.params).In h₀) (_ : News h₀ L s.heap news) (_ : TopM s₀ mg mb h₀) (_ : cs.kind = .function)
   (_ : dp + 3 < recursionLimit) (_ : un + 14 < cLine) (_ : TabOk news tb n hs) (_ : n < 2 ^ 40) (_ : 0 ≤ kk) (_ : kk ≤ (n : Int)) (_ : ∀ i : Nat, i < n → ltF x (hs i) = decide (kk ≤ (i : Int))) (_ : IntRet h₀ L m news s Q kk),
   wpAny (model PySem.Challenge.rw_dn0051_01.row.prog w) (ktrTop dp un gd cn cs L a ccd cl outer) (call (.ref 30) [.ref tb, .float x tx] [(Str.ofString "key", .ref 46)]) Q E s := by
  k_fill
  intro w s₀ mg mb tb n hs kk x tx news dp un gd cn cs a ccd cl outer A₀ base h₀ L m s Q E B F X N T hk hd hu hT hn k0 k1 hcmp hret
  (k_with "exec While Compare cons nil" => k_while (fun _ lo hi => 0 ≤ lo ∧ lo ≤ kk ∧ kk ≤ hi ∧ hi ≤ (n : Int)) (fun _ lo hi => (hi - lo).toNat) "lo" "hi")
  refine wpAny_call ?_
  k_dflt (refine' code_def ?k1 ?k2 ?k3 ?k4 ?k5 ?kA ?kF ?kK ?k6 ?k7 ?k8 ?k9 ?kB ?_ ?c2 ?c3 ?c4 ?c5; (case kA => exact rfl); (case kF => exact rfl); (case kK => assumption); (case k1 => k_asm); (case k2 => k_asm); (case k3 => k_asm); (case k4 => k_asm); (case k5 => k_asm); (case k6 => k_is); (case k7 => k_is); (case k8 => ktr_room); (case k9 => (refine' kp_binds ?kx ?ke; (case kx => k_in); (case ke => exact fun _ => rfl))); (case c5 => decide); (case kB => exact locs rfl); (case c2 => exact rfl); (case c3 => exact rfl); (case c4 => exact rfl); k_whole; intro g' L' h' FG' F' N' B' X' T'; (try dsimp only); (try k_lift B'); (try k_fold))
  k_steps
  exact int_end hret (by omega) (by assumption) (by assumption) (fun p hp => hp)
end
end Mine
end
section
open PySem PySem.W PyProof.Rows
namespace Mine
def lawDef : Option (List Stmt × Scope) := match PySem.Challenge.pw_dn0051_01.main.body.getLast? with
  | some (.FunctionDef _ _ b _ _ _ sc _ _ _) => some (b, sc)
  | _ => none
def lawBody : List Stmt := (lawDef.map (·.1)).getD []
def lawScope : Scope := match lawDef with
  | some p => p.2
  | none => ⟨.function, [], false, false, []⟩
def forBody : Stmt → List Stmt
  | .For _ _ b _ _ => b
  | _ => []
def noStmt : Stmt := .Pass ⟨0, 0, 0, 0⟩
def stInner : Stmt := (forBody (lawBody.getD 7 noStmt)).getD 0 noStmt
def stTable : Stmt := lawBody.getD 7 noStmt
section
variable {prog : Program} {w : World} {A : Around} {E : Value → Shared → Prop} {s : Shared} {env : Env} {h₀ : Heap} {x : Str} {body : List Stmt} {Q : Flow → Shared → Prop}
def RlEnd (h₀ : Heap) (L : Addr) (x : Str) (stored : List Str) (m₀ : Str → Option Value) (I : Addr) (o : Obj) (J : List (Addr × Obj) → Prop) (s₁ s₂ : Shared) : Prop :=
  ∃ h' tk m' news₂, s₂ = { s₁ with heap := h', toks := tk } ∧ Fr h₀ L h' m' ∧ News h₀ L h' ((I, o) :: news₂) ∧ (∀ p ∈ news₂, p.1 ≠ I) ∧ (∀ y, y ≠ x → stored.contains y = false → m' y = m₀ y) ∧ J news₂
def RlPost (h₀ : Heap) (L : Addr) (x : Str) (stored : List Str) (m₀ : Str → Option Value) (I : Addr) (o : Obj) (J : List (Addr × Obj) → Prop) (s₁ : Shared) (Q : Flow → Shared → Prop) (f : Flow) (s₂ : Shared) : Prop :=
  match f with
  | .ret v => Q (.ret v) s₂
  | .brk => Q .next s₂
  | _ => RlEnd h₀ L x stored m₀ I o J s₁ s₂
theorem rl_end {L : Addr} {stored : List Str} {m₀ m' : Str → Option Value} {I : Addr} {o : Obj} {J : List (Addr × Obj) → Prop} {s₁ : Shared} {h' : Heap} {tk : Nat} {news' : List (Addr × Obj)} (news₂ : List (Addr × Obj))
    (F : Fr h₀ L h' m') (N : News h₀ L h' news') (hI : (I, o) ∈ news') (hn : ∀ p ∈ news₂, p ∈ news') (hne : ∀ p ∈ news₂, p.1 ≠ I) (hm : ∀ y, y ≠ x → stored.contains y = false → m' y = m₀ y) (hj : J news₂) :
    RlEnd h₀ L x stored m₀ I o J s₁ { s₁ with heap := h', toks := tk } :=
  ⟨h', tk, m', news₂, rfl, F, fun p hp => (List.mem_cons.mp hp).elim (fun e => e ▸ N _ hI) (fun q => N _ (hn p q)), hne, hm, hj⟩
theorem range_loop {r : Addr} {a₀ b₀ c₀ : Int} {t₀ u₀ v₀ : Tok} {n : Nat} {m₀ : Str → Option Value} {news : List (Addr × Obj)} (stored : List Str) (J : Nat → List (Addr × Obj) → Prop)
    (hh : A.handled = none) (hr : IsRange s.heap r a₀ b₀ c₀ t₀ u₀ v₀) (hsmall : Builtin.Range.small a₀ b₀ c₀ = true) (hn : Builtin.Range.rangeSize a₀ b₀ c₀ = (n : Int)) (F : Fr h₀ env.locals s.heap m₀) (N : News h₀ env.locals s.heap news) (hj : J 0 news)
    (turn : ∀ (i : Nat) t (u : Str → Option Value) news₁ h tk I o, i < n → J i news₁ → (∀ p ∈ news₁, p.1 ≠ I) → (∀ p ∈ news, p.1 < I) →
      Fr h₀ env.locals h (fun y => if y = x then some (.int (a₀ + (i : Int) * c₀) t) else if stored.contains y then u y else m₀ y) → News h₀ env.locals h ((I, o) :: news₁) →
      wpAny (model prog w) A (execs body env) (RlPost h₀ env.locals x stored m₀ I o (J (i + 1)) s Q) E { s with heap := h, toks := tk })
    (done : ∀ (u : Str → Option Value) news₁ h tk, J n news₁ → Fr h₀ env.locals h (fun y => if y = x then u y else if stored.contains y then u y else m₀ y) → News h₀ env.locals h news₁ → Q .next { s with heap := h, toks := tk }) :
    wpAny (model prog w) A (pyIter (.ref r)) (fun it s₂ => LoopAtV prog w A h₀ env x body Q E it s₂) E s := by
  refine wpAny_pyIter_range hr hsmall ?_
  have W : Walks prog w A s.heap.objs.size [s.heap.objs.size] [s.heap.objs.size] n (fun i v => i < n ∧ ∃ t, v = .int (a₀ + i * c₀) t)
      (fun i h => IsRangeIter h s.heap.objs.size (a₀ + (i : Nat) * c₀) ((n : Int) - (i : Nat)) c₀) := (Walks.range hh _ a₀ c₀ n).bound
  let J' : Nat → (Str → Option Value) → List (Addr × Obj) → Prop := fun i m₁ news₁ => (∀ y, y ≠ x → stored.contains y = false → m₁ y = m₀ y) ∧ J i news₁
  refine ⟨_, _, _, n, _, _, m₀, news, J', rfl, W, ?_, ?_, ?_, (by show IsRangeIter _ _ _ _ _; rw [hn]; simpa using Heap.get?_push_size _ rfl), F.push _, (fun p hp => ⟨Heap.get?_push_of_some _ (N p hp).1, (N p hp).2⟩), ⟨fun _ _ _ => rfl, hj⟩, ?_, ?_⟩
  · intro hm
    exact absurd F.ns.lt ((List.mem_singleton.mp hm) ▸ Nat.lt_irrefl _)
  · intro b hb
    rw [List.mem_singleton.mp hb]
    exact next_is_new F
  · intro p hp hI
    exact absurd (Heap.lt_size (N p hp).1) ((List.mem_singleton.mp hI) ▸ Nat.lt_irrefl _)
  · rintro i v m₁ news₁ s₁ own ⟨hh', tk', rfl⟩ hin ⟨_, t, rfl⟩ ⟨hm, hJ⟩ hoff hown _ hall hst' F₁ N₁
    have e : (fun y => if y = x then some (Value.int (a₀ + (i : Int) * c₀) t) else m₁ y) = fun y => if y = x then some (Value.int (a₀ + (i : Int) * c₀) t) else if stored.contains y then m₁ y else m₀ y := by
      funext y
      by_cases h1 : y = x
      · simp [h1]
      · simp only [if_neg h1]
        cases h2 : stored.contains y with
        | true => simp
        | false => simp only [Bool.false_eq_true, if_false]; exact hm y h1 h2
    rw [e] at F₁
    obtain ⟨o, ho⟩ : ∃ o, hh'.get? s.heap.objs.size = some o := ⟨_, hst'⟩
    have hio := hall s.heap.objs.size (List.mem_singleton.mpr rfl) (next_is_new F) _ ho
    have hone := own_one hown (fun b hb => .inl (List.mem_singleton.mp hb)) ho N₁
    have hoff' : ∀ p ∈ news₁, p.1 ≠ s.heap.objs.size := fun p hp e => hoff p hp (List.mem_singleton.mpr e)
    refine wpAny_mono (turn i t m₁ news₁ hh' tk' _ o hin hJ hoff' (fun p hp => Heap.lt_size (N p hp).1) F₁ (news_one hio N₁)) (fun f s₂ p => ?_) fun _ _ e => e
    have fin : RlEnd h₀ env.locals x stored m₀ s.heap.objs.size o (J (i + 1)) s s₂ → LoopStepU h₀ env.locals [s.heap.objs.size] own (J' (i + 1)) { s with heap := hh', toks := tk' } .next s₂ := by
      rintro ⟨h', tk, m', news₂, e, F', N', hne, hm', hj'⟩
      exact ⟨rfl, h', tk, m', news₂, e, F', fun p hp => N' p (need_one hone (fun p hp => hp) p hp), fun p hp hq => hne p hp (List.mem_singleton.mp hq), hm', hj'⟩
    cases f with
    | ret v => exact .ret p
    | brk => exact .brk p
    | next => exact .next (fin p)
    | cont => exact .cont (fin p)
  · rintro h' tk m' news' F' N' _ ⟨hm, hJ⟩
    refine done m' news' h' tk hJ ?_ N'
    have e : (fun y => if y = x then m' y else if stored.contains y then m' y else m₀ y) = m' := by
      funext y
      by_cases h1 : y = x
      · simp [h1]
      · simp only [if_neg h1]
        cases h2 : stored.contains y with
        | true => simp
        | false => simp only [Bool.false_eq_true, if_false]; exact (hm y h1 h2).symm
    rw [e]; exact F'
end
end Mine
end
section
open PySem PySem.W PyProof.Rows
namespace Mine
def RowC (rows : List (Addr × Obj)) (r : Addr) (c : Int × Int × Int) : Prop :=
  ∃ (tx ty tz : Tok) (k : Nat), (r, listOf #[.int c.1 tx, .int c.2.1 ty, .int c.2.2 tz] k) ∈ rows
def TblInv (C : Nat → Int × Int × Int) (n : Nat) (rs : List Addr) (rows : List (Addr × Obj)) : Prop := rs.length = n ∧ ∀ j r, rs[j]? = some r → RowC rows r (C j)
def Bnd (x : Int) : Prop := 0 ≤ x ∧ x ≤ 16
def innerJ (tb st : Addr) (L : Addr) (ob ou : Obj) (more : List (Addr × Obj)) (C : Nat → Int × Int × Int) (off : Nat) (a0 a1 a2 d0 d1 d2 : Int) (i : Nat) (news : List (Addr × Obj)) : Prop :=
  ∃ (rs : List Addr) (kt ks : Nat) (b0 b1 b2 : Int) (t0 t1 t2 : Tok) (rows : List (Addr × Obj)),
    news = ((tb, listOf (rs.map Value.ref).toArray kt) :: (st, listOf #[.int b0 t0, .int b1 t1, .int b2 t2] ks) :: (L + 2, ob) :: (L + 1, ou) :: (rows ++ more)) ∧
    TblInv C (off + i) rs rows ∧ b0 = a0 + d0 * i ∧ b1 = a1 + d1 * i ∧ b2 = a2 + d2 * i ∧ (∀ p ∈ rows ++ more, p.1 ≠ tb) ∧ (∀ p ∈ rows ++ more, p.1 ≠ st) ∧ (∀ p ∈ rows, ∀ q ∈ more, p.1 ≠ q.1)
def InnerRet (tb st : Addr) (L : Addr) (ob ou : Obj) (more : List (Addr × Obj)) (C : Nat → Int × Int × Int) (off : Nat) (a0 a1 a2 d0 d1 d2 : Int) (n : Nat) (h₀ : Heap) (m : Str → Option Value) (s : Shared) (Q : Flow → Shared → Prop) : Prop :=
  ∀ (u : Str → Option Value) news₁ h tk, innerJ tb st L ob ou more C off a0 a1 a2 d0 d1 d2 n news₁ → Fr h₀ L h (fun y => if y = Str.ofString "n" then u y else if ([] : List Str).contains y then u y else m y) → News h₀ L h news₁ → Q .next { s with heap := h, toks := tk }
theorem ints_cons {ys : List Value} {n : Int} {ns : List Int} (h : IntsAre ys (n :: ns)) : ∃ t r, ys = .int n t :: r ∧ IntsAre r ns := by
  cases h with
  | cons n t h => exact ⟨t, _, rfl, h⟩
theorem ints_nil {ys : List Value} (h : IntsAre ys []) : ys = [] := by
  cases h
  rfl
theorem ints3 {ys : List Value} {x y z : Int} (h : IntsAre ys [x, y, z]) : ∃ tx ty tz, ys = [.int x tx, .int y ty, .int z tz] := by
  obtain ⟨t0, r0, rfl, h0⟩ := ints_cons h
  obtain ⟨t1, r1, rfl, h1⟩ := ints_cons h0
  obtain ⟨t2, r2, rfl, h2⟩ := ints_cons h1
  rw [ints_nil h2]
  exact ⟨t0, t1, t2, rfl⟩
theorem off1_ne {D : Addr} {l : List (Addr × Obj)} (h : LCg.Off1 D l) : ∀ p ∈ l, p.1 ≠ D := by
  induction l with
  | nil => intro p hp; cases hp
  | cons q r ih =>
    intro p hp
    rcases List.mem_cons.mp hp with rfl | hp
    · exact h.1
    · exact ih h.2 p hp
theorem inner_end {h₀ h' : Heap} {m₀ m' : Str → Option Value} {s₁ : Shared} {tk : Nat} {tb st L D I : Addr} {o ob ou : Obj} {more rows : List (Addr × Obj)} {C : Nat → Int × Int × Int} {off i kt ks : Nat} {a0 a1 a2 d0 d1 d2 b0 b1 b2 c0 c1 c2 base_ unit : Int} {t0 t1 t2 : Tok} {rs : List Addr} {ys : List Value} {ko ko' : Obj}
    (F : Fr h₀ L h' m') (N : News h₀ L h' ((D, LCg.lst ys) :: (I, o) :: (tb, listOf ((rs.map Value.ref).toArray.push (.ref D)) (kt + 1)) :: (st, listOf #[.int b0 t0, .int b1 t1, .int b2 t2] ks) :: (L + 2, ob) :: (L + 1, ou) :: (rows ++ more)))
    (hI : IntsAre ys (List.map (fun k' => base_ + unit * k') [c0, c1, c2])) (hl : rs.length = off + i) (hrow : ∀ j r, rs[j]? = some r → RowC rows r (C j)) (q0 : c0 = a0 + d0 * i) (q1 : c1 = a1 + d1 * i) (q2 : c2 = a2 + d2 * i)
    (e0 : b0 = c0 + d0) (e1 : b1 = c1 + d1) (e2 : b2 = c2 + d2)
    (n1 : ∀ p ∈ rows ++ more, p.1 ≠ tb) (n2 : ∀ p ∈ rows ++ more, p.1 ≠ st) (n3 : ∀ p ∈ rows, ∀ q ∈ more, p.1 ≠ q.1) (o1 : I ≠ D ∧ tb ≠ D ∧ st ≠ D ∧ L + 2 ≠ D ∧ L + 1 ≠ D ∧ LCg.Off1 D (rows ++ more))
    (hne : ∀ p ∈ ((tb, ko) :: (st, ko') :: (L + 2, ob) :: (L + 1, ou) :: (rows ++ more) : List (Addr × Obj)), p.1 ≠ I)
    (hC : C (off + i) = (base_ + unit * (a0 + d0 * i), base_ + unit * (a1 + d1 * i), base_ + unit * (a2 + d2 * i)))
    (hm : ∀ y, y ≠ Str.ofString "n" → ([] : List Str).contains y = false → m' y = m₀ y) :
    RlEnd h₀ L (Str.ofString "n") [] m₀ I o (innerJ tb st L ob ou more C off a0 a1 a2 d0 d1 d2 (i + 1)) s₁ { s₁ with heap := h', toks := tk } := by
  obtain ⟨tx, ty, tz, rfl⟩ := ints3 hI
  obtain ⟨oI, ot, os, o2, o1, oo⟩ := o1
  subst q0 q1 q2
  refine rl_end ((tb, listOf ((rs ++ [D]).map Value.ref).toArray (kt + 1)) :: (st, listOf #[.int b0 t0, .int b1 t1, .int b2 t2] ks) :: (L + 2, ob) :: (L + 1, ou) :: (((D, LCg.lst [.int (base_ + unit * (a0 + d0 * i)) tx, .int (base_ + unit * (a1 + d1 * i)) ty, .int (base_ + unit * (a2 + d2 * i)) tz]) :: rows) ++ more)) F N (.tail _ (.head _)) ?_ ?_ hm ?_
  · intro p hp
    simp only [List.map_append, List.map_cons, List.map_nil, List.cons_append, List.mem_cons, List.push_toArray] at hp ⊢
    grind
  · intro p hp
    simp only [List.cons_append, List.mem_cons] at hp hne
    rcases hp with rfl | rfl | rfl | rfl | rfl | hp
    · exact hne (tb, ko) (.inl rfl)
    · exact hne (st, ko') (.inr (.inl rfl))
    · exact hne _ (.inr (.inr (.inl rfl)))
    · exact hne _ (.inr (.inr (.inr (.inl rfl))))
    · exact fun e => oI e.symm
    · exact hne _ (.inr (.inr (.inr (.inr hp))))
  · refine ⟨rs ++ [D], kt + 1, ks, b0, b1, b2, t0, t1, t2, _, rfl, ⟨by simp [hl]; omega, ?_⟩, ?_, ?_, ?_, ?_, ?_, ?_⟩
    · intro j r hj
      by_cases hlt : j < rs.length
      · rw [List.getElem?_append_left hlt] at hj
        obtain ⟨x1, y1, z1, k1, hm1⟩ := hrow j r hj
        exact ⟨x1, y1, z1, k1, .tail _ hm1⟩
      · have hj2 : j = off + i := by
          have := (List.getElem?_eq_some_iff.mp hj).1
          simp at this
          omega
        subst hj2
        rw [← hl] at hj
        simp at hj
        subst hj
        rw [hC]
        exact ⟨tx, ty, tz, 3, .head _⟩
    · rw [e0, Int.natCast_add, Int.mul_add]; simp; omega
    · rw [e1, Int.natCast_add, Int.mul_add]; simp; omega
    · rw [e2, Int.natCast_add, Int.mul_add]; simp; omega
    · intro p hp
      rcases List.mem_cons.mp hp with rfl | hp
      · exact fun e => ot e.symm
      · exact n1 p hp
    · intro p hp
      rcases List.mem_cons.mp hp with rfl | hp
      · exact fun e => os e.symm
      · exact n2 p hp
    · intro p hp q hq
      rcases List.mem_cons.mp hp with rfl | hp
      · exact fun e => off1_ne oo q (List.mem_append_right _ hq) e.symm
      · exact n3 p hp q hq
section
local macro_rules | `(tactic| k_all) => `(tactic| assumption)
local macro_rules | `(tactic| size_fits) => `(tactic| (simp only [List.size_toArray, List.length_map]; rw [sizeLine_eq]; omega))
set_option maxRecDepth 100000 in
set_option maxHeartbeats 8000000 in
theorem inner_stmt : ∀ (w : World) (s₀ : Shared) (mg mb : Str → Option Value) (tb st : Addr) (unit base_ each : Int) (te tU tB tw ty : Tok) (C : Nat → Int × Int × Int) (off : Nat) (a0 a1 a2 d0 d1 d2 who way : Int)
  (news more : List (Addr × Obj)) (ob ou : Obj) 
  (dp un : Nat) (gd : Option (List Code)) (fa : Addr) (ccd : Value) (outer : List Env) (A₀ : Around) (base h₀ : Heap) (L : Addr) (m : Str → Option Value) (s : Shared) (Q : Flow → Shared → Prop) 
   (_ : Below A₀ base outer h₀) (_ : Fr h₀ L s.heap (kstB m [(Str.ofString "table", .ref tb), (Str.ofString "steps", .ref st), (Str.ofString "each", .int each te), (Str.ofString "who", .int who tw), (Str.ofString "way", .int way ty)])) (_ : (Mine.hd.heap_39 w.params).In h₀)
   (_ : News h₀ L s.heap news) (_ : innerJ tb st L ob ou more C off a0 a1 a2 d0 d1 d2 0 news) (_ : ob.data = .cell (some (.int base_ tB))) (_ : ou.data = .cell (some (.int unit tU))) (_ : TopM s₀ mg mb h₀)
   (_ : dp + 3 < recursionLimit) (_ : un + 14 < cLine) (_ : 1 ≤ each) (_ : each ≤ 16) (_ : 1 ≤ unit) (_ : unit ≤ 2 ^ 20) (_ : 0 ≤ base_) (_ : base_ ≤ 2 ^ 20) (_ : off ≤ 1000) (_ : L + 6 < tb) (_ : tb < st)
   (_ : ∀ i : Nat, i < each.toNat → C (off + i) = (base_ + unit * (a0 + d0 * i), base_ + unit * (a1 + d1 * i), base_ + unit * (a2 + d2 * i)) ∧ Bnd (a0 + d0 * i) ∧ Bnd (a1 + d1 * i) ∧ Bnd (a2 + d2 * i))
   (_ : (who = 0 ∧ d0 = way ∧ d1 = 0 ∧ d2 = 0) ∨ (who = 1 ∧ d0 = 0 ∧ d1 = way ∧ d2 = 0) ∨ (who = 2 ∧ d0 = 0 ∧ d1 = 0 ∧ d2 = way))
   (_ : InnerRet tb st L ob ou more C off a0 a1 a2 d0 d1 d2 each.toNat h₀ (kstB m [(Str.ofString "table", .ref tb), (Str.ofString "steps", .ref st), (Str.ofString "each", .int each te), (Str.ofString "who", .int who tw), (Str.ofString "way", .int way ty)]) s Q),
   wpAny (model PySem.Challenge.rw_dn0051_01.row.prog w) (ktrTop dp un gd (Str.ofString "law") lawScope L fa ccd (cellsFrom (L + 1) lawScope.names []) outer) (exec stInner (envX (Str.ofString "law") lawScope L fa ccd (cellsFrom (L + 1) lawScope.names []))) Q (fun _ _ => False) s := by
  k_fill
  intro w s₀ mg mb tb st unit base_ each te tU tB tw ty C off a0 a1 a2 d0 d1 d2 who way news more ob ou dp un gd fa ccd outer A₀ base h₀ L m s Q B F X N hJ hob hou T hd hu e1 e2 u1 u2 b1 b2 ho l1 l2 hC hw ret
  conv in stInner => whnf
  generalize hsc : lawScope = sc
  conv at hsc => lhs; whnf
  dsimp only at hsc
  subst hsc
  k_dflt (refine' For_invVF F ?k1 ?k2 ?_; (case k1 => exact rfl); (case k2 => exact rfl); k_whole)
  iterate 7 (first | (k_unfold; (try dsimp only)) | walk1 | (dsimp only; walk1))
  rename IsRange _ _ _ _ _ _ _ _ => rgX
  (try clear F)
  (try clear N)
  rename Fr _ _ _ _ => F
  rename News _ _ _ _ => N
  refine' range_loop (n := each.toNat) [] (innerJ tb st L ob ou more C off a0 a1 a2 d0 d1 d2) rfl rgX ?ks ?kn F N hJ ?kt ?kd
  case ks => exact small_one (by omega) (by omega) (by omega) (by omega)
  case kn => rw [rangeSize_nat]; simp
  case kd =>
    intro u news₁ h tk hj F' N'
    exact ret u news₁ h tk hj F' N'
  clear ret F N hJ rgX
  intro i t u news₁ h tk I o hi hj hne _ F' N'
  obtain ⟨rs, kt, ks, c0, c1, c2, t0, t1, t2, rows, rfl, ⟨hl, hrow⟩, q0, q1, q2, n1, n2, n3⟩ := hj
  have hci := hC i hi
  replace l1 := ltN l1
  replace l2 := ltN l2
  have g1 : @Ne Nat tb I := hne _ (.head _)
  have g2 : @Ne Nat st I := hne _ (.tail _ (.head _))
  have g3 : @Ne Nat (L + 2) I := hne _ (.tail _ (.tail _ (.head _)))
  have g4 : @Ne Nat (L + 1) I := hne _ (.tail _ (.tail _ (.tail _ (.head _))))
  rcases hw with ⟨rfl, rfl, rfl, rfl⟩ | ⟨rfl, rfl, rfl, rfl⟩ | ⟨rfl, rfl, rfl, rfl⟩
  all_goals
    k_steps
    exact inner_end (by assumption) (by assumption) (by assumption) hl hrow q0 q1 q2 (by first | rfl | (exact (Int.add_zero _).symm)) (by first | rfl | (exact (Int.add_zero _).symm)) (by first | rfl | (exact (Int.add_zero _).symm)) n1 n2 n3 (by assumption) hne hci.1 (by (intro y h1 h2; simp [h1]))
end
end Mine
end
section
open PySem PySem.W PyProof.Rows
namespace Mine
section
variable {prog : Program} {w : World} {A : Around} {E : Value → Shared → Prop} {s : Shared} {env : Env} {h₀ : Heap} {target : PySem.Expr} {body : List Stmt} {Q : Flow → Shared → Prop}
def RtEnd (h₀ : Heap) (L : Addr) (stored : List Str) (m₀ : Str → Option Value) (I : Addr) (o : Obj) (J : List (Addr × Obj) → Prop) (s₁ s₂ : Shared) : Prop :=
  ∃ h' tk m' news₂, s₂ = { s₁ with heap := h', toks := tk } ∧ Fr h₀ L h' m' ∧ News h₀ L h' ((I, o) :: news₂) ∧ (∀ p ∈ news₂, p.1 ≠ I) ∧ (∀ y, stored.contains y = false → m' y = m₀ y) ∧ J news₂
def RtPost (h₀ : Heap) (L : Addr) (stored : List Str) (m₀ : Str → Option Value) (I : Addr) (o : Obj) (J : List (Addr × Obj) → Prop) (s₁ : Shared) (Q : Flow → Shared → Prop) (f : Flow) (s₂ : Shared) : Prop :=
  match f with
  | .ret v => Q (.ret v) s₂
  | .brk => Q .next s₂
  | _ => RtEnd h₀ L stored m₀ I o J s₁ s₂
theorem rt_end {L : Addr} {stored : List Str} {m₀ m' : Str → Option Value} {I : Addr} {o : Obj} {J : List (Addr × Obj) → Prop} {s₁ : Shared} {h' : Heap} {tk : Nat} {news' : List (Addr × Obj)} (news₂ : List (Addr × Obj))
    (F : Fr h₀ L h' m') (N : News h₀ L h' news') (hI : (I, o) ∈ news') (hn : ∀ p ∈ news₂, p ∈ news') (hne : ∀ p ∈ news₂, p.1 ≠ I) (hm : ∀ y, stored.contains y = false → m' y = m₀ y) (hj : J news₂) :
    RtEnd h₀ L stored m₀ I o J s₁ { s₁ with heap := h', toks := tk } :=
  ⟨h', tk, m', news₂, rfl, F, fun p hp => (List.mem_cons.mp hp).elim (fun e => e ▸ N _ hI) (fun q => N _ (hn p q)), hne, hm, hj⟩
theorem list_loopT {l : Addr} {k : Nat} {vs : List Value} {m₀ : Str → Option Value} {news : List (Addr × Obj)} (stored : List Str) (J : Nat → List (Addr × Obj) → Prop)
    (hh : A.handled = none) (hl : ∀ i news₁, J i news₁ → (l, listOf vs.toArray k) ∈ news₁) (F : Fr h₀ env.locals s.heap m₀) (N : News h₀ env.locals s.heap news) (hj : J 0 news)
    (turn : ∀ (i : Nat) v (u : Str → Option Value) news₁ h tk I o, vs[i]? = some v → J i news₁ → (∀ p ∈ news₁, p.1 ≠ I) →
      Fr h₀ env.locals h (fun y => if stored.contains y then u y else m₀ y) → News h₀ env.locals h ((I, o) :: news₁) →
      wpAny (model prog w) A (assign target env v) (fun _ s₃ => wpAny (model prog w) A (execs body env) (RtPost h₀ env.locals stored m₀ I o (J (i + 1)) s Q) E s₃) E { s with heap := h, toks := tk })
    (done : ∀ (u : Str → Option Value) news₁ h tk, J vs.length news₁ → Fr h₀ env.locals h (fun y => if stored.contains y then u y else m₀ y) → News h₀ env.locals h news₁ → Q .next { s with heap := h, toks := tk }) :
    wpAny (model prog w) A (pyIter (.ref l)) (fun it s₂ => TurnsAt prog w A h₀ env target body Q E it s₂) E s := by
  have hax := N _ (hl 0 news hj)
  have hL : s.heap.IsList l vs.toArray := ⟨_, hax.1, rfl, k, rfl⟩
  have hlt : l < s.heap.objs.size := Heap.lt_size hax.1
  have hne : l ≠ s.heap.objs.size := Nat.ne_of_lt hlt
  refine wpAny_pyIter_list hL ?_
  have W := KTurns.ofWalks (target := target) (Walks.list (prog := prog) (w := w) hh s.heap.objs.size l hne vs.toArray) fun i v s Q E st q => letGo_listiter st.1 q
  let J' : Nat → (Str → Option Value) → List (Addr × Obj) → Prop := fun i m₁ news₁ => (∀ y, stored.contains y = false → m₁ y = m₀ y) ∧ J i news₁
  refine ⟨_, _, _, vs.toArray.size, _, _, _, m₀, news, J', rfl, W, ?_, ?_, ?_, ⟨⟨_, Heap.get?_push_size _ rfl, rfl, rfl⟩, hL.at fun o e => Heap.get?_push_of_some _ e⟩, F.push _, (fun p hp => ⟨Heap.get?_push_of_some _ (N p hp).1, (N p hp).2⟩), ⟨fun _ _ => rfl, hj⟩, ?_, ?_⟩
  · intro hm
    rcases List.mem_cons.mp hm with e | hm
    · exact absurd F.ns.lt (e ▸ Nat.lt_irrefl _)
    · exact hax.2.1 (List.mem_singleton.mp hm).symm
  · intro b hb
    rw [List.mem_singleton.mp hb]
    exact next_is_new F
  · intro p hp hI
    exact absurd (Heap.lt_size (N p hp).1) ((List.mem_singleton.mp hI) ▸ Nat.lt_irrefl _)
  · intro i v m₁ news₁ hh' tk' own hin hP hJ hoff hown hget hall hst' F₁ N₁
    obtain ⟨hm, hJ⟩ := hJ
    have e : m₁ = fun y => if stored.contains y then m₁ y else m₀ y := by
      funext y
      cases h2 : stored.contains y with
      | true => simp
      | false => simp only [Bool.false_eq_true, if_false]; exact hm y h2
    rw [e] at F₁
    obtain ⟨o, ho⟩ : ∃ o, hh'.get? s.heap.objs.size = some o := by
      obtain ⟨it, hit, _⟩ := hst'.1
      exact ⟨it, hit⟩
    have hio := hall s.heap.objs.size (.head _) (next_is_new F) _ ho
    have hoff' : ∀ p ∈ news₁, p.1 ≠ s.heap.objs.size := fun p hp e => hoff p hp (List.mem_singleton.mpr e)
    have hvi : vs[i]? = some v := by
      have hP' : vs.toArray[i]? = some v := hP
      simpa using hP'
    have hlo : hh'.get? l = some (listOf vs.toArray k) := (N₁ _ (List.mem_append_right _ (hl i news₁ hJ))).1
    refine wpAny_mono (turn i v m₁ news₁ hh' tk' _ o hvi hJ hoff' F₁ (news_one hio N₁)) (fun _ s₃ q => wpAny_mono q (fun f s₂ p => ?_) fun _ _ e => e) fun _ _ e => e
    have fin : RtEnd h₀ env.locals stored m₀ s.heap.objs.size o (J (i + 1)) s s₂ → LoopStepU h₀ env.locals [s.heap.objs.size] own (J' (i + 1)) { s with heap := hh', toks := tk' } .next s₂ := by
      rintro ⟨h', tk, m', news₂, e, F', N', hne, hm', hj'⟩
      refine ⟨rfl, h', tk, m', news₂, e, F', fun p hp => ?_, fun p hp hq => hne p hp (List.mem_singleton.mp hq), hm', hj'⟩
      rcases List.mem_append.mp hp with hp | hp
      · have h2 := hget p hp
        rcases List.mem_cons.mp (hown p hp) with h3 | h3
        · have : p = (s.heap.objs.size, o) := Prod.ext h3 (by rw [h3, ho] at h2; exact (Option.some.inj h2).symm)
          rw [this]; exact N' _ (.head _)
        · have h4 := List.mem_singleton.mp h3
          have : p = (l, listOf vs.toArray k) := Prod.ext h4 (by rw [h4, hlo] at h2; exact (Option.some.inj h2).symm)
          rw [this]; exact N' _ (.tail _ (hl _ _ hj'))
      · exact N' _ (.tail _ hp)
    cases f with
    | ret v => exact .ret p
    | brk => exact .brk p
    | next => exact .next (fin p)
    | cont => exact .cont (fin p)
  · intro h' tk m' news' F' N' _ hJ
    obtain ⟨hm, hJ⟩ := hJ
    refine done m' news' h' tk (by simpa using hJ) ?_ N'
    have e : (fun y => if stored.contains y then m' y else m₀ y) = m' := by
      funext y
      cases h2 : stored.contains y with
      | true => simp
      | false => simp only [Bool.false_eq_true, if_false]; exact (hm y h2).symm
    rw [e]; exact F'
end
end Mine
end
section
open PySem PySem.W PyProof.Rows
namespace Mine
def Halt (P : Prop) : Prop := P
theorem halt {P : Prop} (h : Halt P) : P := h
theorem unhalt {P : Prop} (h : P) : Halt P := h
theorem news_sub {h₀ h : Heap} {L : Addr} {l l' : List (Addr × Obj)} (N : News h₀ L h l) (hs : ∀ p ∈ l', p ∈ l) : News h₀ L h l' := fun p hp => N p (hs p hp)
theorem kstB_self {h₀ h : Heap} {L : Addr} {m : Str → Option Value} {ps : List (Str × Value)} (F : Fr h₀ L h m) (hp : ∀ p ∈ ps, m p.1 = some p.2) : Fr h₀ L h (kstB m ps) := by
  have e : kstB m ps = m := funext fun y => kstB_eq hp fun _ => rfl
  rw [e]; exact F
def stA (e : Int) (q : Nat) : Int × Int × Int := match q with
  | 0 => (e, 0, 0)
  | 1 => (e, e, 0)
  | 2 => (0, e, 0)
  | 3 => (0, e, e)
  | 4 => (0, 0, e)
  | 5 => (e, 0, e)
  | _ => (e, 0, 0)
def stD (q : Nat) : Int × Int × Int := match q with
  | 0 => (0, 1, 0)
  | 1 => (-1, 0, 0)
  | 2 => (0, 0, 1)
  | 3 => (0, -1, 0)
  | 4 => (1, 0, 0)
  | 5 => (0, 0, -1)
  | _ => (0, 0, 0)
def stW (q : Nat) : Int × Int := match q with
  | 0 => (1, 1)
  | 1 => (0, -1)
  | 2 => (2, 1)
  | 3 => (1, -1)
  | 4 => (0, 1)
  | _ => (2, -1)
def colC (unit base_ e : Int) (j : Nat) : Int × Int × Int :=
  (base_ + unit * ((stA e (j / e.toNat)).1 + (stD (j / e.toNat)).1 * ((j % e.toNat : Nat) : Int)),
   base_ + unit * ((stA e (j / e.toNat)).2.1 + (stD (j / e.toNat)).2.1 * ((j % e.toNat : Nat) : Int)),
   base_ + unit * ((stA e (j / e.toNat)).2.2 + (stD (j / e.toNat)).2.2 * ((j % e.toNat : Nat) : Int)))
theorem colC_at {unit base_ e : Int} (he : 1 ≤ e) {q i : Nat} (hi : i < e.toNat) : colC unit base_ e (q * e.toNat + i) =
    (base_ + unit * ((stA e q).1 + (stD q).1 * i), base_ + unit * ((stA e q).2.1 + (stD q).2.1 * i), base_ + unit * ((stA e q).2.2 + (stD q).2.2 * i)) := by
  have h1 : (q * e.toNat + i) / e.toNat = q := by
    rw [Nat.mul_comm, Nat.mul_add_div (by omega), Nat.div_eq_of_lt hi]; omega
  have h2 : (q * e.toNat + i) % e.toNat = i := by
    rw [Nat.mul_comm, Nat.mul_add_mod, Nat.mod_eq_of_lt hi]
  unfold colC
  rw [h1, h2]
theorem stA_succ {e : Int} (he : 1 ≤ e) {q : Nat} (hq : q < 6) : (stA e (q + 1)).1 = (stA e q).1 + (stD q).1 * (e.toNat : Int) ∧ (stA e (q + 1)).2.1 = (stA e q).2.1 + (stD q).2.1 * (e.toNat : Int) ∧ (stA e (q + 1)).2.2 = (stA e q).2.2 + (stD q).2.2 * (e.toNat : Int) := by
  match q, hq with
  | 0, _ | 1, _ | 2, _ | 3, _ | 4, _ | 5, _ => simp only [stA, stD]; omega
theorem st_bnd {e : Int} (he : 1 ≤ e) (he' : e ≤ 16) {q : Nat} (hq : q < 6) {i : Nat} (hi : i < e.toNat) : Bnd ((stA e q).1 + (stD q).1 * i) ∧ Bnd ((stA e q).2.1 + (stD q).2.1 * i) ∧ Bnd ((stA e q).2.2 + (stD q).2.2 * i) := by
  unfold Bnd
  match q, hq with
  | 0, _ | 1, _ | 2, _ | 3, _ | 4, _ | 5, _ => simp only [stA, stD]; omega
theorem stW_D {q : Nat} (hq : q < 6) : ((stW q).1 = 0 ∧ (stD q).1 = (stW q).2 ∧ (stD q).2.1 = 0 ∧ (stD q).2.2 = 0) ∨ ((stW q).1 = 1 ∧ (stD q).1 = 0 ∧ (stD q).2.1 = (stW q).2 ∧ (stD q).2.2 = 0) ∨ ((stW q).1 = 2 ∧ (stD q).1 = 0 ∧ (stD q).2.1 = 0 ∧ (stD q).2.2 = (stW q).2) := by
  match q, hq with
  | 0, _ | 1, _ | 2, _ | 3, _ | 4, _ | 5, _ => simp [stW, stD]
def tblJ (tb st L : Addr) (ob ou : Obj) (more : List (Addr × Obj)) (unit base_ e : Int) (q : Nat) (news : List (Addr × Obj)) : Prop :=
  innerJ tb st L ob ou more (colC unit base_ e) (q * e.toNat) (stA e q).1 (stA e q).2.1 (stA e q).2.2 0 0 0 0 news
theorem tblJ_next {tb st L : Addr} {ob ou : Obj} {more : List (Addr × Obj)} {unit base_ e : Int} (he : 1 ≤ e) {q : Nat} (hq : q < 6) {news : List (Addr × Obj)} 
    (h : innerJ tb st L ob ou more (colC unit base_ e) (q * e.toNat) (stA e q).1 (stA e q).2.1 (stA e q).2.2 (stD q).1 (stD q).2.1 (stD q).2.2 e.toNat news) : tblJ tb st L ob ou more unit base_ e (q + 1) news := by
  obtain ⟨rs, kt, ks, b0, b1, b2, t0, t1, t2, rows, e1, ⟨hl, hr⟩, q0, q1, q2, n1, n2, n3⟩ := h
  obtain ⟨s0, s1, s2⟩ := stA_succ he hq
  refine ⟨rs, kt, ks, b0, b1, b2, t0, t1, t2, rows, e1, ⟨?_, hr⟩, ?_, ?_, ?_, n1, n2, n3⟩
  · rw [hl, Nat.add_mul]; omega
  · rw [q0, s0]; simp
  · rw [q1, s1]; simp
  · rw [q2, s2]; simp
theorem tblJ_start {tb st L : Addr} {ob ou : Obj} {more : List (Addr × Obj)} {unit base_ e : Int} {q : Nat} {news : List (Addr × Obj)} 
    (h : tblJ tb st L ob ou more unit base_ e q news) : innerJ tb st L ob ou more (colC unit base_ e) (q * e.toNat) (stA e q).1 (stA e q).2.1 (stA e q).2.2 (stD q).1 (stD q).2.1 (stD q).2.2 0 news := by
  obtain ⟨rs, kt, ks, b0, b1, b2, t0, t1, t2, rows, e1, ⟨hl, hr⟩, q0, q1, q2, n1, n2, n3⟩ := h
  exact ⟨rs, kt, ks, b0, b1, b2, t0, t1, t2, rows, e1, ⟨hl, hr⟩, by rw [q0]; simp, by rw [q1]; simp, by rw [q2]; simp, n1, n2, n3⟩
theorem innerJ_add {tb st L I : Addr} {o ob ou : Obj} {more news : List (Addr × Obj)} {C : Nat → Int × Int × Int} {off i : Nat} {a0 a1 a2 d0 d1 d2 : Int} (h : innerJ tb st L ob ou more C off a0 a1 a2 d0 d1 d2 i news) (hI : ∀ p ∈ news, p.1 ≠ I) :
    ∃ news', innerJ tb st L ob ou ((I, o) :: more) C off a0 a1 a2 d0 d1 d2 i news' ∧ ∀ p ∈ news', p ∈ (I, o) :: news := by
  obtain ⟨rs, kt, ks, b0, b1, b2, t0, t1, t2, rows, rfl, hT, q0, q1, q2, n1, n2, n3⟩ := h
  refine ⟨_, ⟨rs, kt, ks, b0, b1, b2, t0, t1, t2, rows, rfl, hT, q0, q1, q2, ?_, ?_, ?_⟩, ?_⟩
  · intro p hp
    rcases List.mem_append.mp hp with hp | hp
    · exact n1 p (List.mem_append_left _ hp)
    · rcases List.mem_cons.mp hp with rfl | hp
      · exact fun e => hI _ (.head _) e.symm
      · exact n1 p (List.mem_append_right _ hp)
  · intro p hp
    rcases List.mem_append.mp hp with hp | hp
    · exact n2 p (List.mem_append_left _ hp)
    · rcases List.mem_cons.mp hp with rfl | hp
      · exact fun e => hI _ (.tail _ (.head _)) e.symm
      · exact n2 p (List.mem_append_right _ hp)
  · intro p hp q hq
    rcases List.mem_cons.mp hq with rfl | hq
    · exact hI p (.tail _ (.tail _ (.tail _ (.tail _ (List.mem_append_left _ hp)))))
    · exact n3 p hp q hq
  · intro p hp
    simp only [List.mem_cons, List.mem_append] at hp ⊢
    grind
theorem innerJ_drop {tb st L I : Addr} {o ob ou : Obj} {more news : List (Addr × Obj)} {C : Nat → Int × Int × Int} {off i : Nat} {a0 a1 a2 d0 d1 d2 : Int} (h : innerJ tb st L ob ou ((I, o) :: more) C off a0 a1 a2 d0 d1 d2 i news) 
    (h2 : L + 2 ≠ I) (h1 : L + 1 ≠ I) (hm : ∀ p ∈ more, p.1 ≠ I) : ∃ news₂, innerJ tb st L ob ou more C off a0 a1 a2 d0 d1 d2 i news₂ ∧ (∀ p ∈ news₂, p ∈ news) ∧ (I, o) ∈ news ∧ ∀ p ∈ news₂, p.1 ≠ I := by
  obtain ⟨rs, kt, ks, b0, b1, b2, t0, t1, t2, rows, rfl, hT, q0, q1, q2, n1, n2, n3⟩ := h
  refine ⟨_, ⟨rs, kt, ks, b0, b1, b2, t0, t1, t2, rows, rfl, hT, q0, q1, q2, ?_, ?_, ?_⟩, ?_, ?_, ?_⟩
  · intro p hp
    exact n1 p ((List.mem_append.mp hp).elim (fun q => List.mem_append_left _ q) (fun q => List.mem_append_right _ (.tail _ q)))
  · intro p hp
    exact n2 p ((List.mem_append.mp hp).elim (fun q => List.mem_append_left _ q) (fun q => List.mem_append_right _ (.tail _ q)))
  · intro p hp q hq
    exact n3 p hp q (.tail _ hq)
  · intro p hp
    simp only [List.mem_cons, List.mem_append] at hp ⊢
    grind
  · exact .tail _ (.tail _ (.tail _ (.tail _ (List.mem_append_right _ (.head _)))))
  · intro p hp
    simp only [List.mem_cons, List.mem_append] at hp
    rcases hp with rfl | rfl | rfl | rfl | hp | hp
    · exact fun e => n1 (I, o) (List.mem_append_right _ (.head _)) e.symm
    · exact fun e => n2 (I, o) (List.mem_append_right _ (.head _)) e.symm
    · exact h2
    · exact h1
    · exact n3 p hp (I, o) (.head _)
    · exact hm p hp
theorem allLt_ne {d : Addr} {l : List (Addr × Obj)} (h : AllLt d l) {p : Addr × Obj} (hp : p ∈ l) : p.1 ≠ d := Nat.ne_of_lt (kst_ltOf h p hp)
abbrev lawMap (m : Str → Option Value) (tb st : Addr) (each : Int) (te : Tok) : Str → Option Value := kstB m [(Str.ofString "table", .ref tb), (Str.ofString "steps", .ref st), (Str.ofString "each", .int each te)]
theorem kstB_same {m : Str → Option Value} {ps : List (Str × Value)} (hp : ∀ p ∈ ps, m p.1 = some p.2) : kstB m ps = m := funext fun y => kstB_eq hp fun _ => rfl
abbrev tblStored : List Str := [Str.ofString "who", Str.ofString "way", Str.ofString "n"]
def TblRet (tb L : Addr) (ob ou : Obj) (more : List (Addr × Obj)) (unit base_ each : Int) (h₀ : Heap) (m : Str → Option Value) (s : Shared) (Q : Flow → Shared → Prop) : Prop :=
  ∀ (u : Str → Option Value) (rs : List Addr) (rows : List (Addr × Obj)) (kt : Nat) h tk, TblInv (colC unit base_ each) (6 * each.toNat) rs rows → (∀ p ∈ rows ++ more, p.1 ≠ tb) → (∀ p ∈ rows, ∀ q ∈ more, p.1 ≠ q.1) →
    Fr h₀ L h (fun y => if tblStored.contains y then u y else m y) → News h₀ L h ((tb, listOf (rs.map Value.ref).toArray kt) :: (L + 2, ob) :: (L + 1, ou) :: (rows ++ more)) → Q .next { s with heap := h, toks := tk }
theorem six_get {d0 d1 d2 d3 d4 d5 : Addr} {u0 v0 u1 v1 u2 v2 u3 v3 u4 v4 u5 v5 : Tok} {i : Nat} {v : Value} (h : [Value.ref d0, .ref d1, .ref d2, .ref d3, .ref d4, .ref d5][i]? = some v) :
    i < 6 ∧ ∃ D tw ty, v = .ref D ∧ (D, tupObj #[.int (stW i).1 tw, .int (stW i).2 ty]) ∈ [(d5, tupObj #[.int 2 u5, .int (-1) v5]), (d4, tupObj #[.int 0 u4, .int 1 v4]), (d3, tupObj #[.int 1 u3, .int (-1) v3]), (d2, tupObj #[.int 2 u2, .int 1 v2]), (d1, tupObj #[.int 0 u1, .int (-1) v1]), (d0, tupObj #[.int 1 u0, .int 1 v0])] := by
  match i, h with
  | 0, h => exact ⟨by omega, d0, u0, v0, by simpa using h.symm, by simp [stW]⟩
  | 1, h => exact ⟨by omega, d1, u1, v1, by simpa using h.symm, by simp [stW]⟩
  | 2, h => exact ⟨by omega, d2, u2, v2, by simpa using h.symm, by simp [stW]⟩
  | 3, h => exact ⟨by omega, d3, u3, v3, by simpa using h.symm, by simp [stW]⟩
  | 4, h => exact ⟨by omega, d4, u4, v4, by simpa using h.symm, by simp [stW]⟩
  | 5, h => exact ⟨by omega, d5, u5, v5, by simpa using h.symm, by simp [stW]⟩
  | n + 6, h => simp at h
section
local macro_rules | `(tactic| walk_at "exec For Name Call cons nil") => `(tactic| ((with_reducible show wpAny _ _ (exec (Stmt.For (Expr.Name _ _) _ _ _ _) _) _ _ _); refine halt ?_))
set_option maxRecDepth 100000 in
set_option maxHeartbeats 8000000 in
theorem table_stmt : ∀ (w : World) (s₀ : Shared) (mg mb : Str → Option Value) (tb st : Addr) (unit base_ each : Int) (te tU tB : Tok) 
  (more : List (Addr × Obj)) (ob ou : Obj) (kt ks : Nat) (t0 t1 t2 : Tok)
  (dp un : Nat) (gd : Option (List Code)) (fa : Addr) (ccd : Value) (outer : List Env) (A₀ : Around) (base h₀ : Heap) (L : Addr) (m : Str → Option Value) (s : Shared) (Q : Flow → Shared → Prop) 
   (_ : Below A₀ base outer h₀) (_ : Fr h₀ L s.heap (lawMap m tb st each te)) (_ : (Mine.hd.heap_39 w.params).In h₀)
   (_ : News h₀ L s.heap ((tb, listOf #[] kt) :: (st, listOf #[.int each t0, .int 0 t1, .int 0 t2] ks) :: (L + 2, ob) :: (L + 1, ou) :: more)) (_ : ob.data = .cell (some (.int base_ tB))) (_ : ou.data = .cell (some (.int unit tU))) (_ : TopM s₀ mg mb h₀)
   (_ : dp + 3 < recursionLimit) (_ : un + 14 < cLine) (_ : 1 ≤ each) (_ : each ≤ 16) (_ : 1 ≤ unit) (_ : unit ≤ 2 ^ 20) (_ : 0 ≤ base_) (_ : base_ ≤ 2 ^ 20) (_ : L + 6 < tb) (_ : tb < st) (_ : ∀ p ∈ more, p.1 ≠ tb) (_ : ∀ p ∈ more, p.1 ≠ st)
   (_ : TblRet tb L ob ou more unit base_ each h₀ (lawMap m tb st each te) s Q),
   wpAny (model PySem.Challenge.rw_dn0051_01.row.prog w) (ktrTop dp un gd (Str.ofString "law") lawScope L fa ccd (cellsFrom (L + 1) lawScope.names []) outer) (exec stTable (envX (Str.ofString "law") lawScope L fa ccd (cellsFrom (L + 1) lawScope.names []))) Q (fun _ _ => False) s := by
  k_fill
  intro w s₀ mg mb tb st unit base_ each te tU tB more ob ou kt ks t0 t1 t2 dp un gd fa ccd outer A₀ base h₀ L m s Q B F X N hob hou T hd hu e1 e2 un1 un2 ba1 ba2 l1 l2 n1 n2 ret
  conv in stTable => whnf
  generalize hsc : lawScope = sc
  conv at hsc => lhs; whnf
  dsimp only at hsc
  subst hsc
  replace l1 := ltN l1
  replace l2 := ltN l2
  k_steps
  rename_i d0 hh0 q0 d1 hh1 q1 d2 hh2 q2 d3 hh3 q3 d4 hh4 q4 d5 hh5 q5 l hh F N q6
  dsimp only
  obtain ⟨u0, v0, u1, v1, u2, v2, u3, v3, u4, v4, u5, v5, N⟩ : ∃ u0 v0 u1 v1 u2 v2 u3 v3 u4 v4 u5 v5 : Tok, News h₀ L hh ((l, listOf #[.ref d0, .ref d1, .ref d2, .ref d3, .ref d4, .ref d5] 0) :: (d5, tupObj #[.int 2 u5, .int (-1) v5]) :: (d4, tupObj #[.int 0 u4, .int 1 v4]) :: (d3, tupObj #[.int 1 u3, .int (-1) v3]) :: (d2, tupObj #[.int 2 u2, .int 1 v2]) :: (d1, tupObj #[.int 0 u1, .int (-1) v1]) :: (d0, tupObj #[.int 1 u0, .int 1 v0]) :: (tb, listOf #[] kt) :: (st, listOf #[.int each t0, .int 0 t1, .int 0 t2] ks) :: (L + 2, ob) :: (L + 1, ou) :: more) := ⟨_, _, _, _, _, _, _, _, _, _, _, _, N⟩
  obtain ⟨fx, hfx⟩ : ∃ fx, fx = [(d5, tupObj #[.int 2 u5, .int (-1) v5]), (d4, tupObj #[.int 0 u4, .int 1 v4]), (d3, tupObj #[.int 1 u3, .int (-1) v3]), (d2, tupObj #[.int 2 u2, .int 1 v2]), (d1, tupObj #[.int 0 u1, .int (-1) v1]), (d0, tupObj #[.int 1 u0, .int 1 v0])] := ⟨_, rfl⟩
  have hne : ∀ p ∈ (l, listOf #[.ref d0, .ref d1, .ref d2, .ref d3, .ref d4, .ref d5] 0) :: (fx ++ more), p.1 ≠ tb ∧ p.1 ≠ st := by
    intro p hp
    rw [hfx] at hp
    simp only [List.cons_append, List.nil_append, List.mem_cons] at hp
    rcases hp with rfl | rfl | rfl | rfl | rfl | rfl | rfl | hp
    · exact ⟨neN (by omega), neN (by omega)⟩
    · exact ⟨neN (by omega), neN (by omega)⟩
    · exact ⟨neN (by omega), neN (by omega)⟩
    · exact ⟨neN (by omega), neN (by omega)⟩
    · exact ⟨neN (by omega), neN (by omega)⟩
    · exact ⟨neN (by omega), neN (by omega)⟩
    · exact ⟨neN (by omega), neN (by omega)⟩
    · exact ⟨n1 p hp, n2 p hp⟩
  refine' list_loopT (vs := [.ref d0, .ref d1, .ref d2, .ref d3, .ref d4, .ref d5]) (k := 0) tblStored (tblJ tb st L ob ou ((l, listOf #[.ref d0, .ref d1, .ref d2, .ref d3, .ref d4, .ref d5] 0) :: (fx ++ more)) unit base_ each) rfl ?hl F (news := (tb, listOf #[] kt) :: (st, listOf #[.int each t0, .int 0 t1, .int 0 t2] ks) :: (L + 2, ob) :: (L + 1, ou) :: ([] ++ ((l, listOf #[.ref d0, .ref d1, .ref d2, .ref d3, .ref d4, .ref d5] 0) :: (fx ++ more)))) ?N ?hj ?turn ?done
  case N => 
    refine news_sub N ?_
    intro p hp
    rw [hfx] at hp
    simp only [List.nil_append, List.cons_append, List.mem_cons] at hp ⊢
    grind
  case hl =>
    rintro i news₁ ⟨rs, kt, ks, c0, c1, c2, t0, t1, t2, rows, rfl, _⟩
    exact .tail _ (.tail _ (.tail _ (.tail _ (List.mem_append_right _ (.head _)))))
  case hj =>
    refine ⟨[], kt, ks, each, 0, 0, t0, t1, t2, [], rfl, ⟨by simp, fun j r h => by simp at h⟩, by simp [stA], by simp [stA], by simp [stA], fun p hp => (hne p (by simpa using hp)).1, fun p hp => (hne p (by simpa using hp)).2, fun p hp => by cases hp⟩
  case done =>
    intro u news₁ h tk hj F' N'
    obtain ⟨rs, kt, ks, c0, c1, c2, t0, t1, t2, rows, rfl, hT, _, _, _, n1', n2', n3'⟩ := hj
    refine ret u rs rows kt h tk hT ?_ (fun p hp q hq => n3' p hp q (.tail _ (List.mem_append_right _ hq))) F' ?_
    · intro p hp
      rcases List.mem_append.mp hp with hp | hp
      · exact n1' p (List.mem_append_left _ hp)
      · exact n1 p hp
    · refine news_sub N' ?_
      intro p hp
      simp only [List.cons_append, List.mem_cons, List.mem_append] at hp ⊢
      grind
  clear F N ret q0 q1 q2 q3 q4 q5 q6
  intro i v u news₁ h tk I o hv hj hI F N
  obtain ⟨hi, D, tw, ty, rfl, hD⟩ := six_get (u0 := u0) (v0 := v0) (u1 := u1) (v1 := v1) (u2 := u2) (v2 := v2) (u3 := u3) (v3 := v3) (u4 := u4) (v4 := v4) (u5 := u5) (v5 := v5) hv
  have N2 : News h₀ L h ((D, tupObj #[.int (stW i).1 tw, .int (stW i).2 ty]) :: (I, o) :: news₁) := by
    refine news_sub N ?_
    intro p hp
    rcases List.mem_cons.mp hp with rfl | hp
    · obtain ⟨rs, kt, ks, c0, c1, c2, t0, t1, t2, rows, rfl, _⟩ := hj
      exact .tail _ (.tail _ (.tail _ (.tail _ (.tail _ (List.mem_append_right _ (.tail _ (List.mem_append_left _ (hfx ▸ hD))))))))
    · exact hp
  clear N
  k_steps
  rename Fr _ _ _ _ => F
  rename News _ _ _ _ => N
  obtain ⟨news', hj', hn'⟩ := innerJ_add (o := o) (tblJ_start hj) hI
  have hf : ∀ p ∈ [(Str.ofString "table", Value.ref tb), (Str.ofString "steps", .ref st), (Str.ofString "each", .int each te), (Str.ofString "who", .int (stW i).1 tw), (Str.ofString "way", .int (stW i).2 ty)], (fun y => if y = Str.ofString "way" then some (Value.int (stW i).2 ty) else if y = Str.ofString "who" then some (Value.int (stW i).1 tw) else if tblStored.contains y = true then u y else lawMap m tb st each te y) p.1 = some p.2 := by
    intro p hp
    simp only [List.mem_cons, List.not_mem_nil, or_false] at hp
    rcases hp with rfl | rfl | rfl | rfl | rfl <;> rfl
  refine unhalt (inner_stmt w s₀ mg mb tb st unit base_ each te tU tB tw ty (colC unit base_ each) (i * each.toNat) _ _ _ _ _ _ (stW i).1 (stW i).2 news' _ ob ou dp un gd fa ccd outer A₀ base h₀ L _ _ _ B (kstB_self F hf) X (news_sub N fun p hp => .tail _ (hn' p hp)) hj' hob hou T hd hu e1 e2 un1 un2 ba1 ba2 ?o l1 l2 ?c (stW_D hi) ?r)
  case o =>
    have h1 : i * each.toNat ≤ 6 * 16 := Nat.mul_le_mul (by omega) (by omega)
    omega
  case c =>
    intro j hjl
    exact ⟨colC_at e1 hjl, st_bnd e1 e2 hi hjl⟩
  case r =>
    intro u' news₂ h' tk' hj2 F2 N2
    dsimp only
    refine wpAny_execs_nil ?_
    obtain ⟨news₃, hj3, hs3, hI3, hne3⟩ := innerJ_drop hj2 (by
      obtain ⟨rs, kt, ks, c0, c1, c2, t0, t1, t2, rows, rfl, _⟩ := hj
      exact hI _ (.tail _ (.tail _ (.head _)))) (by
      obtain ⟨rs, kt, ks, c0, c1, c2, t0, t1, t2, rows, rfl, _⟩ := hj
      exact hI _ (.tail _ (.tail _ (.tail _ (.head _))))) (by
      obtain ⟨rs, kt, ks, c0, c1, c2, t0, t1, t2, rows, rfl, _⟩ := hj
      exact fun p hp => hI p (.tail _ (.tail _ (.tail _ (.tail _ (List.mem_append_right _ hp))))))
    refine rt_end news₃ F2 N2 hI3 hs3 hne3 ?_ (tblJ_next e1 hi hj3)
    intro y hy
    have y1 : y ≠ Str.ofString "n" := by rintro rfl; revert hy; decide
    have y2 : y ≠ Str.ofString "who" := by rintro rfl; revert hy; decide
    have y3 : y ≠ Str.ofString "way" := by rintro rfl; revert hy; decide
    have y4 : ([] : List Str).contains y = false := rfl
    rw [if_neg y1, y4]
    simp only [Bool.false_eq_true, if_false]
    rw [kstB_same hf, if_neg y3, if_neg y2, hy]
    simp only [Bool.false_eq_true, if_false]
end
end Mine
end
section
open PySem PySem.W PyProof.Rows
namespace Mine
def stRing : Stmt := (forBody (lawBody.getD 9 noStmt)).getD 6 noStmt
def ringBody : List Stmt := forBody stRing
theorem row_mono {news news' : List (Addr × Obj)} {r : Addr} {h : UInt64} (H : RowAt news r h) (hs : ∀ p ∈ news, p ∈ news') : RowAt news' r h := by
  obtain ⟨x, y, z, tx, ty, tz, k, hm, b⟩ := H
  exact ⟨x, y, z, tx, ty, tz, k, hs _ hm, b⟩
theorem tab_mono {news news' : List (Addr × Obj)} {tb : Addr} {n : Nat} {hs : Nat → UInt64} (H : TabOk news tb n hs) (hsub : ∀ p ∈ news, p ∈ news') : TabOk news' tb n hs := by
  obtain ⟨rs, kt, hl, hm, hr⟩ := H
  exact ⟨rs, kt, hl, hsub _ hm, fun i r h => row_mono (hr i r h) hsub⟩
section
variable {h₀ h' : Heap} {L I C D : Addr} {oI oC oD : Obj} {m : Str → Option Value} {s₁ : Shared} {news : List (Addr × Obj)} {l r : List Int} {a : Int} {t : Tok} {tk : Nat}
theorem cend_el (F : Fr h₀ L h' m) (N : News h₀ L h' ((I, oI) :: (C, oC) :: (D, oD) :: news)) (off : LCg.Off3 I C D news) (e : r = l ++ [a]) :
    LCg.CompEnd h₀ L m s₁ I oI C oC D oD (fun _ => True) (fun y news' => KCiEl news l r y news') (.int a t) { s₁ with heap := h', toks := tk } :=
  ⟨h', tk, news, rfl, F, N, off, trivial, rfl, a, t, rfl, e⟩
theorem cend_no (F : Fr h₀ L h' m) (N : News h₀ L h' ((I, oI) :: (C, oC) :: (D, oD) :: news)) (off : LCg.Off3 I C D news) (e : r = l) :
    LCg.CompEnd h₀ L m s₁ I oI C oC D oD (fun _ => True) (fun _ news' => KCiNo news l r news') .none { s₁ with heap := h', toks := tk } :=
  ⟨h', tk, news, rfl, F, N, off, trivial, rfl, e⟩
end
def cntG (P : Int → Prop) [DecidablePred P] (l : List Int) (k : Int) : List Int := if P k then l ++ [k] else l
theorem cntG_len (P : Int → Prop) [DecidablePred P] (l : List Int) (k : Int) : (cntG P l k).length ≤ l.length + 1 := by
  unfold cntG; split <;> simp
theorem cnt_aux (P : Int → Prop) [DecidablePred P] (hP : ∀ a b : Int, a ≤ b → P b → P a) : ∀ n : Nat, ∀ i : Nat, i < n → (P (i : Int) ↔ (i : Int) < (((rangeKs 0 n).foldl (cntG P) []).length : Int)) ∧ (((rangeKs 0 n).foldl (cntG P) []).length ≤ n) := by
  intro n
  have key : ∀ n : Nat, ((rangeKs 0 n).foldl (cntG P) []).length ≤ n ∧ ∀ i : Nat, i < n → (P (i : Int) ↔ i < ((rangeKs 0 n).foldl (cntG P) []).length) := by
    intro n
    induction n with
    | zero => simp [rangeKs]
    | succ n ih =>
      have e : rangeKs 0 (n + 1) = rangeKs 0 n ++ [(n : Int)] := by simp [rangeKs, List.range_succ]
      rw [e, List.foldl_append]
      simp only [List.foldl_cons, List.foldl_nil]
      obtain ⟨h1, h2⟩ := ih
      by_cases hp : P (n : Int)
      · have full : ((rangeKs 0 n).foldl (cntG P) []).length = n := by
          rcases Nat.lt_or_ge ((rangeKs 0 n).foldl (cntG P) []).length n with h | h
          · have := (h2 _ h).mp (hP _ _ (by omega) hp)
            omega
          · omega
        have e2 : (cntG P ((rangeKs 0 n).foldl (cntG P) []) n).length = n + 1 := by
          have e3 : cntG P ((rangeKs 0 n).foldl (cntG P) []) n = (rangeKs 0 n).foldl (cntG P) [] ++ [(n : Int)] := if_pos hp
          rw [e3, List.length_append, full]; rfl
        rw [e2]
        exact ⟨Nat.le_refl _, fun i hi => ⟨fun _ => hi, fun _ => hP _ _ (by omega) hp⟩⟩
      · have e2 : cntG P ((rangeKs 0 n).foldl (cntG P) []) n = (rangeKs 0 n).foldl (cntG P) [] := by unfold cntG; rw [if_neg hp]
        rw [e2]
        refine ⟨by omega, fun i hi => ?_⟩
        rcases Nat.lt_or_ge i n with h | h
        · exact h2 i h
        · have : i = n := by omega
          subst this
          exact ⟨fun q => absurd q hp, fun q => absurd q (by omega)⟩
  intro i hi
  have := key n
  exact ⟨by rw [this.2 i hi]; omega, this.1⟩
abbrev ringStored : List Str := [Str.ofString "before", Str.ofString "upto", Str.ofString "hue"]
def RingRet (L : Addr) (oS : Obj) (more : List (Addr × Obj)) (h₀ : Heap) (m : Str → Option Value) (s : Shared) (Q : Flow → Shared → Prop) : Prop :=
  ∀ (u : Str → Option Value) (oP : Obj) (vP : Option Value) h tk, oP.data = .cell vP → (∀ y, ringStored.contains y = false → u y = m y) → Fr h₀ L h u → News h₀ L h ((L + 4, oP) :: (L + 3, oS) :: more) → Q .next { s with heap := h, toks := tk }
section
local macro_rules | `(tactic| k_all) => `(tactic| assumption)
local macro_rules | `(tactic| walk_at "CompSrcT") => `(tactic| (refine halt ?_))
local macro_rules | `(tactic| walk_at "CompEnd") => `(tactic| (first | exact cend_el (by assumption) (by assumption) (by assumption) (if_pos (by assumption)) | exact cend_no (by assumption) (by assumption) (by assumption) (if_neg (by assumption))))
local macro_rules | `(tactic| walk_at "call builtin:len") => `(tactic| (k_here; (rename IntsAre _ _ => hI9); k_dflt (refine' kst_len ?k1 ?k2 (IntsAre.length hI9) ?k4 ?_; (case k1 => k_asm); (case k2 => k_mem); (case k4 => (have hI99 := IntsAre.length hI9; omega)); k_whole); (try dsimp only)))
local macro_rules | `(tactic| walk_at "call ref") => `(tactic| (k_here; (with_reducible show wpAny _ _ (call (Value.ref 46) _ _) _ _ _); k_dflt (
  refine' hue_row _ _ _ _ _ _ _ _ _ _ _ _ _ _ _ _ _ _ _ _ _ _ _ _ ?k1 ?k2 ?k3 ?k4 ?k5 ?k6 ?k7 ?k8 ?k9 ?_
  (case k1 => k_asm)
  (case k2 => k_asm)
  (case k3 => k_asm)
  (case k4 => k_asm)
  (case k5 => k_asm)
  (case k6 => exact rfl)
  (case k7 => ktr_room)
  (case k8 => ktr_units)
  (case k9 => exact row_mono (by assumption) (by (intro p hp; repeat (first | exact hp | refine List.Mem.tail _ ?_))))
  intro t' h' tk' F' N'
  (try dsimp only)
  (try k_fold))))
local macro_rules | `(tactic| walk_at "call ref") => `(tactic| (k_here; (with_reducible show wpAny _ _ (call (Value.ref 39) _ _) _ _ _); refine halt ?_))
local macro_rules | `(tactic| walk_at "call ref") => `(tactic| (k_here; (with_reducible show wpAny _ _ (call (Value.ref 30) _ _) _ _ _); refine halt ?_))
set_option maxRecDepth 100000 in
set_option maxHeartbeats 8000000 in
theorem ring_body : ∀ (w : World) (s₀ : Shared) (mg mb : Str → Option Value) (tb c : Addr) (each span g : Int) (te tg tS : Tok) (n : Nat) (hs : Nat → UInt64) (hq : UInt64)
  (more : List (Addr × Obj)) (oS oP : Obj) (vP : Option Value)
  (dp un : Nat) (gd : Option (List Code)) (fa : Addr) (ccd : Value) (outer : List Env) (A₀ : Around) (base h₀ : Heap) (L : Addr) (m : Str → Option Value) (s : Shared) (Q : Flow → Shared → Prop) 
   (_ : Below A₀ base outer h₀) (_ : Fr h₀ L s.heap (kstB m [(Str.ofString "colour", .ref c), (Str.ofString "gone", .int g tg), (Str.ofString "each", .int each te), (Str.ofString "table", .ref tb)])) (_ : (Mine.hd.heap_39 w.params).In h₀)
   (_ : News h₀ L s.heap ((L + 4, oP) :: (L + 3, oS) :: more)) (_ : oS.data = .cell (some (.int span tS))) (_ : oP.data = .cell vP) (_ : TopM s₀ mg mb h₀)
   (_ : dp + 4 < recursionLimit) (_ : un + 17 < cLine) (_ : 1 ≤ each) (_ : each ≤ 16) (_ : 1 ≤ span) (_ : span ≤ 2 ^ 25) (_ : 0 ≤ g) (_ : g ≤ 2 ^ 28) (_ : ∀ p ∈ more, p.1 ≠ L + 4)
   (_ : n = (6 * each).toNat) (_ : TabOk more tb n hs) (_ : RowAt more c hq) (_ : ∀ i : Nat, i < n → ltF (hs i) hq = decide ((i : Int) * span < g.fmod (6 * span) * each)) (_ : ∀ i : Nat, i < n → ltF hq (hs i) = decide (g.fmod (6 * span) * each < (i : Int) * span))
   (_ : RingRet L oS more h₀ (kstB m [(Str.ofString "colour", .ref c), (Str.ofString "gone", .int g tg), (Str.ofString "each", .int each te), (Str.ofString "table", .ref tb)]) s Q),
   wpAny (model PySem.Challenge.rw_dn0051_01.row.prog w) (ktrTop dp un gd (Str.ofString "law") lawScope L fa ccd (cellsFrom (L + 1) lawScope.names []) outer) (execs ringBody (envX (Str.ofString "law") lawScope L fa ccd (cellsFrom (L + 1) lawScope.names []))) Q (fun _ _ => False) s := by
  k_fill
  intro w s₀ mg mb tb c each span g te tg tS n hs hq more oS oP vP dp un gd fa ccd outer A₀ base h₀ L m s Q B F X N hS hP T hd hu e1 e2 s1 s2 g1 g2 n1 hn hT hR hlt hgt ret
  conv in ringBody => whnf
  generalize hsc : lawScope = sc
  conv at hsc => lhs; whnf
  dsimp only at hsc
  subst hsc
  k_steps
  rename IsRange _ _ _ _ _ _ _ _ => rg
  rename Fr _ _ _ _ => F
  rename News _ _ _ _ => N
  refine unhalt (LCt.CompSrcT.range rfl F N rg (small_one (by omega) (by omega) (by omega) (by omega)) (rangeSize_nat _ _) (by rw [sizeLine_eq]; omega) ?_)
  intro g'
  refine kci_range (cntG (fun k => k * span < g.fmod (6 * span) * each)) ?t ?f (cntG_len _)
  case t =>
    intro k' t' I' oI' C' oC' D' m' ys' l' h' tk' E' hlo' hhi' hI' hC' hx' F' N' off' ne' _
    clear F N
    k_steps
  case f =>
   unfold KPfDone
   clear F N
   intro ys hI8 hlen
   k_steps
   rename IsRange _ _ _ _ _ _ _ _ => rg2
   rename Fr _ _ _ _ => F
   rename News _ _ _ _ => N
   refine unhalt (LCt.CompSrcT.range rfl F N rg2 (small_one (by omega) (by omega) (by omega) (by omega)) (rangeSize_nat _ _) (by rw [sizeLine_eq]; omega) ?_)
   intro g''
   refine kci_range (cntG (fun k => k * span ≤ g.fmod (6 * span) * each)) ?t ?f (cntG_len _)
   case t =>
    intro k' t' I' oI' C' oC' D' m' ys' l' h' tk' E' hlo' hhi' hI' hC' hx' F' N' off' ne' _
    clear F N
    k_steps
   case f =>
    unfold KPfDone
    clear F N
    intro ys2 hI82 hlen2
    k_steps
    have z0 : (6 * each - 0).toNat = n := by rw [hn]; simp
    have c1 := cnt_aux (fun k => k * span < g.fmod (6 * span) * each) (fun a b h h1 => Int.lt_of_le_of_lt (Int.mul_le_mul_of_nonneg_right h (by omega)) h1) n
    have c2 := cnt_aux (fun k => k * span ≤ g.fmod (6 * span) * each) (fun a b h h1 => Int.le_trans (Int.mul_le_mul_of_nonneg_right h (by omega)) h1) n
    rw [← z0] at c1 c2
    have z1 : 0 < (6 * each - 0).toNat := by omega
    refine unhalt ?_
    k_dflt (refine' bisL_call _ _ _ _ _ n hs (((rangeKs 0 (6 * each - 0).toNat).foldl (cntG fun k => k * span < g.fmod (6 * span) * each) []).length : Int) _ _ _ _ _ _ _ _ _ _ _ _ _ _ _ _ _ _ _ _ ?k1 ?k2 ?k3 ?k4 ?k5 ?k6 ?k7 ?k8 ?k9 ?k10 ?k11 ?k12 ?k13 ?_)
    case k1 => k_asm
    case k2 => k_asm
    case k3 => k_asm
    case k4 => k_asm
    case k5 => k_asm
    case k6 => exact rfl
    case k7 => ktr_room
    case k8 => ktr_units
    case k9 => exact tab_mono hT (by (intro p hp; repeat (first | exact hp | refine List.Mem.tail _ ?_)))
    case k10 => omega
    case k11 => omega
    case k12 => have := (c1 0 z1).2; omega
    case k13 => exact fun i hi => (hlt i hi).trans (decide_eq_decide.mpr (c1 i (by omega)).1)
    intro t' h' tk' F' N'
    (try dsimp only)
    (try k_fold)
    k_steps
    · exact absurd rfl (by assumption)
    refine unhalt ?_
    k_dflt (refine' bisR_call _ _ _ _ _ n hs (((rangeKs 0 (6 * each - 0).toNat).foldl (cntG fun k => k * span ≤ g.fmod (6 * span) * each) []).length : Int) _ _ _ _ _ _ _ _ _ _ _ _ _ _ _ _ _ _ _ _ ?k1 ?k2 ?k3 ?k4 ?k5 ?k6 ?k7 ?k8 ?k9 ?k10 ?k11 ?k12 ?k13 ?_)
    case k1 => k_asm
    case k2 => k_asm
    case k3 => k_asm
    case k4 => k_asm
    case k5 => k_asm
    case k6 => exact rfl
    case k7 => ktr_room
    case k8 => ktr_units
    case k9 => exact tab_mono hT (by (intro p hp; repeat (first | exact hp | refine List.Mem.tail _ ?_)))
    case k10 => omega
    case k11 => omega
    case k12 => have := (c2 0 z1).2; omega
    case k13 => exact fun i hi => (hgt i hi).trans (decide_eq_decide.mpr (by have := (c2 i (by omega)).1; omega))
    intro t2' h2' tk2' F2' N2'
    (try dsimp only)
    (try k_fold)
    k_steps
    · exact absurd rfl (by assumption)
    refine ret _ _ _ _ _ (by assumption) ?_ (by assumption) (news_sub (by assumption) ?_)
    · intro y hy
      have y1 : y ≠ Str.ofString "before" := by rintro rfl; revert hy; decide
      have y2 : y ≠ Str.ofString "upto" := by rintro rfl; revert hy; decide
      have y3 : y ≠ Str.ofString "hue" := by rintro rfl; revert hy; decide
      rw [if_neg y3, if_neg y2, if_neg y1]
    · intro p hp
      exact .tail _ (.tail _ hp)
end
end Mine
end
section
open PySem PySem.W PyProof.Rows
namespace Mine
def RingItem (more : List (Addr × Obj)) (span each : Int) (n : Nat) (hs : Nat → UInt64) (v : Value) : Prop :=
  ∃ (D c : Addr) (g : Int) (tg : Tok) (hq : UInt64), v = .ref D ∧ (D, tupObj #[.ref c, .int g tg]) ∈ more ∧ RowAt more c hq ∧ 0 ≤ g ∧ g ≤ 2 ^ 28 ∧
    (∀ i : Nat, i < n → ltF (hs i) hq = decide ((i : Int) * span < g.fmod (6 * span) * each)) ∧ (∀ i : Nat, i < n → ltF hq (hs i) = decide (g.fmod (6 * span) * each < (i : Int) * span))
def ringJ (L : Addr) (oS : Obj) (more : List (Addr × Obj)) (_ : Nat) (news : List (Addr × Obj)) : Prop := ∃ (oP : Obj) (vP : Option Value), oP.data = .cell vP ∧ news = (L + 4, oP) :: (L + 3, oS) :: more
abbrev ringStored2 : List Str := [Str.ofString "before", Str.ofString "upto", Str.ofString "hue", Str.ofString "colour", Str.ofString "gone"]
abbrev ringMap (m : Str → Option Value) (rg tb : Addr) (each : Int) (te : Tok) : Str → Option Value := kstB m [(Str.ofString "ring", .ref rg), (Str.ofString "each", .int each te), (Str.ofString "table", .ref tb)]
def RingRet2 (L : Addr) (oS : Obj) (more : List (Addr × Obj)) (h₀ : Heap) (m : Str → Option Value) (s : Shared) (Q : Flow → Shared → Prop) : Prop :=
  ∀ (u : Str → Option Value) (oP : Obj) (vP : Option Value) h tk, oP.data = .cell vP → Fr h₀ L h (fun y => if ringStored2.contains y then u y else m y) → News h₀ L h ((L + 4, oP) :: (L + 3, oS) :: more) → Q .next { s with heap := h, toks := tk }
section
local macro_rules | `(tactic| walk_at "execs cons") => `(tactic| (refine halt ?_))
set_option maxRecDepth 100000 in
set_option maxHeartbeats 8000000 in
theorem ring_stmt : ∀ (w : World) (s₀ : Shared) (mg mb : Str → Option Value) (tb rg : Addr) (each span : Int) (te tS : Tok) (n kr : Nat) (hs : Nat → UInt64) (vs : List Value)
  (more : List (Addr × Obj)) (oS oP : Obj) (vP : Option Value)
  (dp un : Nat) (gd : Option (List Code)) (fa : Addr) (ccd : Value) (outer : List Env) (A₀ : Around) (base h₀ : Heap) (L : Addr) (m : Str → Option Value) (s : Shared) (Q : Flow → Shared → Prop) 
   (_ : Below A₀ base outer h₀) (_ : Fr h₀ L s.heap (ringMap m rg tb each te)) (_ : (Mine.hd.heap_39 w.params).In h₀)
   (_ : News h₀ L s.heap ((L + 4, oP) :: (L + 3, oS) :: more)) (_ : oS.data = .cell (some (.int span tS))) (_ : oP.data = .cell vP) (_ : TopM s₀ mg mb h₀)
   (_ : dp + 4 < recursionLimit) (_ : un + 17 < cLine) (_ : 1 ≤ each) (_ : each ≤ 16) (_ : 1 ≤ span) (_ : span ≤ 2 ^ 25) (_ : ∀ p ∈ more, p.1 ≠ L + 4)
   (_ : n = (6 * each).toNat) (_ : TabOk more tb n hs) (_ : (rg, listOf vs.toArray kr) ∈ more) (_ : ∀ v ∈ vs, RingItem more span each n hs v)
   (_ : RingRet2 L oS more h₀ (ringMap m rg tb each te) s Q),
   wpAny (model PySem.Challenge.rw_dn0051_01.row.prog w) (ktrTop dp un gd (Str.ofString "law") lawScope L fa ccd (cellsFrom (L + 1) lawScope.names []) outer) (exec stRing (envX (Str.ofString "law") lawScope L fa ccd (cellsFrom (L + 1) lawScope.names []))) Q (fun _ _ => False) s := by
  k_fill
  intro w s₀ mg mb tb rg each span te tS n kr hs vs more oS oP vP dp un gd fa ccd outer A₀ base h₀ L m s Q B F X N hS hP T hd hu e1 e2 s1 s2 n1 hn hT hrg hit ret
  conv in stRing => whnf
  generalize hsc : lawScope = sc
  conv at hsc => lhs; whnf
  dsimp only at hsc
  subst hsc
  k_dflt (refine' For_turns F ?_)
  iterate 1 walk1
  refine' list_loopT (vs := vs) (k := kr) ringStored2 (ringJ L oS more) rfl ?hl F N ⟨oP, vP, hP, rfl⟩ ?turn ?done
  case hl =>
    rintro i news₁ ⟨oP, vP, _, rfl⟩
    exact .tail _ (.tail _ hrg)
  case done =>
    rintro u news₁ h tk ⟨oP, vP, hP, rfl⟩ F' N'
    exact ret u oP vP h tk hP F' N'
  clear F N hP
  rintro i v u news₁ h tk I o hv ⟨oP, vP, hP, rfl⟩ hI F N
  obtain ⟨D, c, g, tg, hq, rfl, hD, hR, g0, g1, hlt, hgt⟩ := hit v (List.mem_of_getElem? hv)
  have N2 : News h₀ L h ((D, tupObj #[.ref c, .int g tg]) :: (I, o) :: (L + 4, oP) :: (L + 3, oS) :: more) := by
    refine news_sub N ?_
    intro p hp
    rcases List.mem_cons.mp hp with rfl | hp
    · exact .tail _ (.tail _ (.tail _ hD))
    · exact hp
  clear N
  k_steps
  rename Fr _ _ _ _ => F
  rename News _ _ _ _ => N
  have hf : ∀ p ∈ [(Str.ofString "colour", Value.ref c), (Str.ofString "gone", .int g tg), (Str.ofString "each", .int each te), (Str.ofString "table", .ref tb)], (fun y => if y = Str.ofString "gone" then some (Value.int g tg) else if y = Str.ofString "colour" then some (Value.ref c) else if ringStored2.contains y = true then u y else ringMap m rg tb each te y) p.1 = some p.2 := by
    intro p hp
    simp only [List.mem_cons, List.not_mem_nil, or_false] at hp
    rcases hp with rfl | rfl | rfl | rfl <;> rfl
  have hsub : ∀ p ∈ more, p ∈ (I, o) :: more := fun p hp => .tail _ hp
  refine unhalt (ring_body w s₀ mg mb tb c each span g te tg tS n hs hq ((I, o) :: more) oS oP vP dp un gd fa ccd outer A₀ base h₀ L _ _ _ B (kstB_self F hf) X (news_sub N ?a) hS hP T hd hu e1 e2 s1 s2 g0 g1 ?b hn (tab_mono hT hsub) (row_mono hR hsub) hlt hgt ?r)
  case a =>
    intro p hp
    simp only [List.mem_cons] at hp ⊢
    grind
  case b =>
    intro p hp
    rcases List.mem_cons.mp hp with rfl | hp
    · exact fun e => hI _ (.head _) e.symm
    · exact n1 p hp
  case r =>
    intro u2 oP2 vP2 h2 tk2 hP2 hu2 F2 N2
    refine rt_end ((L + 4, oP2) :: (L + 3, oS) :: more) F2 N2 (.tail _ (.tail _ (.head _))) ?_ ?_ ?_ ⟨oP2, vP2, hP2, rfl⟩
    · intro p hp
      simp only [List.mem_cons] at hp ⊢
      grind
    · intro p hp
      simp only [List.mem_cons] at hp
      rcases hp with rfl | rfl | hp
      · exact hI (L + 4, oP) (.head _)
      · exact hI (L + 3, oS) (.tail _ (.head _))
      · exact hI p (.tail _ (.tail _ hp))
    · intro y hy
      have y0 : ringStored.contains y = false := by
        simp only [List.contains_cons, List.contains_nil, Bool.or_false, Bool.or_eq_false_iff] at hy ⊢
        exact ⟨hy.1, hy.2.1, hy.2.2.1⟩
      have y1 : y ≠ Str.ofString "gone" := by rintro rfl; revert hy; decide
      have y2 : y ≠ Str.ofString "colour" := by rintro rfl; revert hy; decide
      rw [hu2 y y0, kstB_same hf, if_neg y1, if_neg y2, hy]
      simp only [Bool.false_eq_true, if_false]
end
end Mine
end
section
open PySem PySem.W PyProof.Rows
namespace Mine
def turnBody : List Stmt := forBody (lawBody.getD 9 noStmt)
def turnA : List Stmt := turnBody.take 6
def Six (lo mi hi x y z g : Int) : Prop :=
  (x = hi ∧ y = mi ∧ z = lo ∧ g = mi - lo) ∨ (x = mi ∧ y = hi ∧ z = lo ∧ g = 2 * (hi - lo) - (mi - lo)) ∨ (x = lo ∧ y = hi ∧ z = mi ∧ g = 2 * (hi - lo) + (mi - lo)) ∨
  (x = lo ∧ y = mi ∧ z = hi ∧ g = 4 * (hi - lo) - (mi - lo)) ∨ (x = mi ∧ y = lo ∧ z = hi ∧ g = 4 * (hi - lo) + (mi - lo)) ∨ (x = hi ∧ y = lo ∧ z = mi ∧ g = 6 * (hi - lo) - (mi - lo))
def SixItem (fx : List (Addr × Obj)) (lo mi hi : Int) (v : Value) : Prop :=
  ∃ (D c : Addr) (x y z g : Int) (tg t0 t1 t2 : Tok) (kc : Nat), v = .ref D ∧ (D, tupObj #[.ref c, .int g tg]) ∈ fx ∧ (c, listOf #[.int x t0, .int y t1, .int z t2] kc) ∈ fx ∧ Six lo mi hi x y z g
abbrev turnAStored : List Str := [Str.ofString "low", Str.ofString "mid", Str.ofString "high", Str.ofString "rise", Str.ofString "ring"]
def TurnARet (L ce : Addr) (oce : Obj) (more : List (Addr × Obj)) (h₀ : Heap) (m : Str → Option Value) (s : Shared) (Q : Flow → Shared → Prop) : Prop :=
  ∀ (u : Str → Option Value) (lo mi hi : Int) (rg : Addr) (kr : Nat) (fx : List (Addr × Obj)) (vs : List Value) (oS : Obj) (tS : Tok) h tk, 0 ≤ lo → lo ≤ mi → mi ≤ hi → hi ≤ 2 ^ 25 →
    oS.data = .cell (some (.int (if 1 > hi - lo then 1 else hi - lo) tS)) → (rg, listOf vs.toArray kr) ∈ fx → (∀ v ∈ vs, SixItem fx lo mi hi v) → (∀ p ∈ fx, p.1 ≠ L + 3 ∧ ∀ q ∈ more, p.1 ≠ q.1) →
    u (Str.ofString "ring") = some (.ref rg) → (∀ y, turnAStored.contains y = false → u y = m y) → Fr h₀ L h u → News h₀ L h (fx ++ ((L + 3, oS) :: (ce, oce) :: more)) → Q .next { s with heap := h, toks := tk }
theorem turnA_news {h₀ h : Heap} {L rg d1 d2 d3 d4 d5 d6 c1 c2 c3 c4 c5 c6 l2 l3 q1 q2 q3 : Addr} {RG D1 D2 D3 D4 D5 D6 C1 C2 C3 C4 C5 C6 o2 o3 o4 o5 o6 : Obj} {rest : List (Addr × Obj)}
    (N : News h₀ L h ((l3, o3) :: (d6, D6) :: (c6, C6) :: (d5, D5) :: (c5, C5) :: (l2, o2) :: (d4, D4) :: (c4, C4) :: (d3, D3) :: (c3, C3) :: (rg, RG) :: (d2, D2) :: (c2, C2) :: (d1, D1) :: (c1, C1) :: (q1, o4) :: (q2, o5) :: (q3, o6) :: rest)) :
    News h₀ L h ([(rg, RG), (d1, D1), (d2, D2), (d3, D3), (d4, D4), (d5, D5), (d6, D6), (c1, C1), (c2, C2), (c3, C3), (c4, C4), (c5, C5), (c6, C6)] ++ rest) := by
  refine news_sub N ?_
  intro p hp
  simp only [List.cons_append, List.nil_append, List.mem_cons] at hp ⊢
  grind
theorem three_of {n' : List Int} {xs : List Int} (hx : xs.length = 3) (hp : n'.Perm (xs.map fun k' => k'.fmod (2 ^ Int.toNat 25 + 1))) (ho : n'.Pairwise (fun x1 x2 => x1 ≤ x2)) :
    ∃ a b c : Int, n' = [a, b, c] ∧ 0 ≤ a ∧ a ≤ b ∧ b ≤ c ∧ c ≤ 2 ^ 25 := by
  have hl : n'.length = 3 := by rw [hp.length_eq]; simpa using hx
  match n', hl with
  | [a, b, c], _ =>
    have bnd : ∀ y ∈ [a, b, c], 0 ≤ y ∧ y ≤ 2 ^ 25 := by
      intro y hy
      obtain ⟨x, _, rfl⟩ := List.mem_map.mp (hp.mem_iff.mp hy)
      have e : (2 ^ Int.toNat 25 + 1 : Int) = 33554433 := rfl
      show 0 ≤ x.fmod (2 ^ Int.toNat 25 + 1) ∧ x.fmod (2 ^ Int.toNat 25 + 1) ≤ 2 ^ 25
      rw [e]
      have h1 := Int.fmod_nonneg_of_pos x (show (0 : Int) < 33554433 by decide)
      have h2 := Int.fmod_lt_of_pos x (show (0 : Int) < 33554433 by decide)
      omega
    have ha := bnd a (.head _)
    have hc := bnd c (.tail _ (.tail _ (.head _)))
    simp only [List.pairwise_cons, List.mem_cons, List.not_mem_nil, or_false, forall_eq_or_imp, forall_eq] at ho
    exact ⟨a, b, c, rfl, ha.1, ho.1.1, ho.2.1, hc.2⟩
section
variable {prog : Program} {w : World} {A : Around} {E : Value → Shared → Prop} {s : Shared} {h₀ : Heap} {L D b : Addr} {m : Str → Option Value} {news news' : List (Addr × Obj)} {its its2 : Array Value} {n n2 : Nat} {Q : Value → Shared → Prop}
theorem iadd_call (ha : s.TypeIs (.ref D) "list") (hb : s.TypeIs (.ref b) "list") (hc : wpAny (model prog w) A (call (.builtin "list.__iadd__") [.ref D, .ref b]) Q E s) : wpAny (model prog w) A (inplaceOp .Add (.ref D) (.ref b)) Q E s := by
  unfold inplaceOp
  refine wpAny_holding ?_
  have hl : typeLookup (.type "list") (dunderI "add") = pure (some (.builtin "list.__iadd__")) := PySem.F.slot_list_iadd.lookup
  have hfi : fillsInplaceSlot (.type "list") "add" (Operator.Add == .Add) = pure false := by
    unfold fillsInplaceSlot
    show (typeLookup (.type "list") (dunderI "add") >>= fun fi => pure (fi.isSome && !isSeqSlot fi)) = pure false
    rw [hl]; rfl
  have hsi : seqSlot? (.type "list") (dunderI "add") = pure (some (.builtin "list.__iadd__")) := by
    unfold seqSlot?
    rw [hl]; rfl
  refine wpAny_bind (wpAny_typeOf ha (wpAny_bind (wpAny_of_eq hfi ?_)))
  show wpAny _ A (if false = true then _ else _) Q E s
  simp only [Bool.false_eq_true, if_false]
  refine wpAny_bind (binaryOp1_none (nm := "add") ha hb noFill_list_add ?_)
  refine wpAny_bind (wpAny_of_eq hsi ?_)
  exact wpAny_bind (wpAny_rule hc)
theorem iadd_K (F : Fr h₀ L s.heap m) (N : News h₀ L s.heap news) (hb : (b, listOf its2 n2) ∈ news) (U : Upd D (listOf its n) (listOf (its ++ its2) (n + 1)) news news') (h1 : its.size + its2.size ≤ 1000) (h2 : its2.size ≠ 0)
    (h : ∀ h', Fr h₀ L h' m → News h₀ L h' news' → Q (.ref D) { s with heap := h' }) : wpAny (model prog w) A (inplaceOp .Add (.ref D) (.ref b)) Q E s := by
  obtain ⟨pre, post, rfl, rfl, a, c⟩ := U.split
  have z := N (D, listOf its n) (List.mem_append.mpr (.inr (.head _)))
  have hsl : its.size + its2.size ≤ sizeLine := by rw [sizeLine_eq]; omega
  refine iadd_call ⟨_, z.1, rfl⟩ ⟨_, (N _ hb).1, rfl⟩ ?_
  refine call_meets PySem.F.slot_list_iadd ⟨_, z.1, rfl⟩ PySem.F.entry_list_iadd (PySem.F.args_list_iadd_2 _ _) (PySem.AutoSeq1.list___iadd___list_list_0 D its n b its2 n2 ?_ (by omega) (by omega)) ⟨z.1, (N _ hb).1, h _ (F.change (Heap.SameBut.update ..) z.2.1 z.2.2) (kl_turn _ N a c rfl ?_)⟩
  · have : Builtin.List.listTooLong (its.size + its2.size) = false := by unfold Builtin.List.listTooLong; simp; omega
    rw [this]; simp
  · simp only [Array.size_append]; omega
end
theorem loadX_L {M : Model} {A : Around} {E : Value → Shared → Prop} {s : Shared} {name : Str} {scope : Scope} {L a : Addr} {cd : Value} {cl : List (Str × Addr)} {h₀ : Heap} {m : Str → Option Value} {x : Str} {v : Value} {Q : Value → Shared → Prop} (F : Fr h₀ L s.heap m) (hv : m x = some v) (h : Q v s)
    (hk : scope.kind = .function) (hl : (envX name scope L a cd cl).kindOf x = some .local) : wpAny M A (loadName (envX name scope L a cd cl) x) Q E s := wpAny_loadName_local hk hl F.ns hv h
section
local macro_rules | `(tactic| walk_at "inplaceOp Add ref ref") => `(tactic| (k_here; k_dflt (refine' iadd_K ?k1 ?k2 ?k3 ?k4 ?k5 ?k6 ?_; (case k1 => k_asm); (case k2 => k_asm); (case k3 => k_mem); (case k4 => k_upd); (case k5 => exact Nat.le_of_ble_eq_true rfl); (case k6 => exact Nat.succ_ne_zero _); k_whole); intro h' F' N'; (simp only [List.append_toArray, List.cons_append, List.nil_append] at N'); (try dsimp only); (try k_sweep)))
local macro_rules | `(tactic| walk_at "loadName") => `(tactic| (k_here; k_dflt (refine' loadX_L ?k1 ?k2 ?_ ?k3 ?k4; (case k1 => k_asm); (case k2 => exact rfl); (case k3 => exact rfl); (case k4 => exact rfl); k_whole)))
local macro_rules | `(tactic| k_all) => `(tactic| assumption)
set_option maxRecDepth 100000 in
set_option maxHeartbeats 8000000 in
theorem turn_a : ∀ (w : World) (s₀ : Shared) (mg mb : Str → Option Value) (ce : Addr) (k : Int) (tk₀ tS : Tok) (kc : Nat) (cvs : List Value) (cs : List Int)
  (more : List (Addr × Obj)) (oS : Obj) (vS : Option Value)
  (dp un : Nat) (gd : Option (List Code)) (fa : Addr) (ccd : Value) (outer : List Env) (A₀ : Around) (base h₀ : Heap) (L : Addr) (m : Str → Option Value) (s : Shared) (Q : Flow → Shared → Prop) 
   (_ : Below A₀ base outer h₀) (_ : Fr h₀ L s.heap (kstB m [(Str.ofString "cells", .ref ce), (Str.ofString "k", .int k tk₀)])) (_ : (Mine.hd.heap_39 w.params).In h₀)
   (_ : News h₀ L s.heap ((L + 3, oS) :: (ce, listOf cvs.toArray kc) :: more)) (_ : oS.data = .cell vS) (_ : IntsAre cvs cs) (_ : TopM s₀ mg mb h₀)
   (_ : dp + 4 < recursionLimit) (_ : un + 17 < cLine) (_ : ∀ p ∈ more, p.1 ≠ L + 3) (_ : ce ≠ L + 3) (_ : 0 ≤ k) (_ : k + 3 ≤ cs.length) (_ : cs.length ≤ 20)
   (_ : TurnARet L ce (listOf cvs.toArray kc) more h₀ (kstB m [(Str.ofString "cells", .ref ce), (Str.ofString "k", .int k tk₀)]) s Q),
   wpAny (model PySem.Challenge.rw_dn0051_01.row.prog w) (ktrTop dp un gd (Str.ofString "law") lawScope L fa ccd (cellsFrom (L + 1) lawScope.names []) outer) (execs turnA (envX (Str.ofString "law") lawScope L fa ccd (cellsFrom (L + 1) lawScope.names []))) Q (fun _ _ => False) s := by
  k_fill
  intro w s₀ mg mb ce k tk₀ tS kc cvs cs more oS vS dp un gd fa ccd outer A₀ base h₀ L m s Q B F X N hS hI T hd hu n1 n2 k0 k1 k2 ret
  replace n2 : @Ne Nat ce (L + 3) := n2
  conv in turnA => whnf
  generalize hsc : lawScope = sc
  conv at hsc => lhs; whnf
  dsimp only at hsc
  subst hsc
  have kmk := kstMark
  k_steps
  rename List.Perm _ _ => pp
  rename List.Pairwise _ _ => oo
  rename IntsAre _ _ => ii
  obtain ⟨lo, mi, hi, rfl, b0, b1, b2, b3⟩ := three_of (by simp; omega) pp oo
  obtain ⟨tl, tm, th, rfl⟩ := ints3 ii
  clear pp oo
  k_steps
  rename_i oS' dS hx1 c1 hx2 p1 d1 hx3 p2 c2 hx4 p3 d2 hx5 p4 rg hx6 p5 hx7 c3 hx8 p6 d3 hx9 p7 c4 hx10 p8 d4 hx11 p9 l2 hx12 p10 hx13 hx14 c5 hx15 p11 d5 hx16 p12 c6 hx17 p13 d6 hx18 p14 l3 hx19 p15 hx20 hx21 F N
  refine wpAny_execs_nil ?_
  replace N := turnA_news N
  refine ret _ lo mi hi rg 2 _ [.ref d1, .ref d2, .ref d3, .ref d4, .ref d5, .ref d6] oS' _ _ _ b0 b1 b2 b3 dS (.head _) ?_ ?_ rfl ?_ F N
  · intro v hv
    simp only [List.mem_cons, List.not_mem_nil, or_false] at hv
    rcases hv with rfl | rfl | rfl | rfl | rfl | rfl
    · exact ⟨d1, c1, hi, mi, lo, _, _, _, _, _, _, rfl, .tail _ (.head _), .tail _ (.tail _ (.tail _ (.tail _ (.tail _ (.tail _ (.tail _ (.head _))))))), .inl ⟨rfl, rfl, rfl, rfl⟩⟩
    · exact ⟨d2, c2, mi, hi, lo, _, _, _, _, _, _, rfl, .tail _ (.tail _ (.head _)), .tail _ (.tail _ (.tail _ (.tail _ (.tail _ (.tail _ (.tail _ (.tail _ (.head _)))))))), .inr (.inl ⟨rfl, rfl, rfl, rfl⟩)⟩
    · exact ⟨d3, c3, lo, hi, mi, _, _, _, _, _, _, rfl, .tail _ (.tail _ (.tail _ (.head _))), .tail _ (.tail _ (.tail _ (.tail _ (.tail _ (.tail _ (.tail _ (.tail _ (.tail _ (.head _))))))))), .inr (.inr (.inl ⟨rfl, rfl, rfl, rfl⟩))⟩
    · exact ⟨d4, c4, lo, mi, hi, _, _, _, _, _, _, rfl, .tail _ (.tail _ (.tail _ (.tail _ (.head _)))), .tail _ (.tail _ (.tail _ (.tail _ (.tail _ (.tail _ (.tail _ (.tail _ (.tail _ (.tail _ (.head _)))))))))), .inr (.inr (.inr (.inl ⟨rfl, rfl, rfl, rfl⟩)))⟩
    · exact ⟨d5, c5, mi, lo, hi, _, _, _, _, _, _, rfl, .tail _ (.tail _ (.tail _ (.tail _ (.tail _ (.head _))))), .tail _ (.tail _ (.tail _ (.tail _ (.tail _ (.tail _ (.tail _ (.tail _ (.tail _ (.tail _ (.tail _ (.head _))))))))))), .inr (.inr (.inr (.inr (.inl ⟨rfl, rfl, rfl, rfl⟩))))⟩
    · exact ⟨d6, c6, hi, lo, mi, _, _, _, _, _, _, rfl, .tail _ (.tail _ (.tail _ (.tail _ (.tail _ (.tail _ (.head _)))))), .tail _ (.tail _ (.tail _ (.tail _ (.tail _ (.tail _ (.tail _ (.tail _ (.tail _ (.tail _ (.tail _ (.tail _ (.head _)))))))))))), .inr (.inr (.inr (.inr (.inr ⟨rfl, rfl, rfl, rfl⟩))))⟩
  · have key : ∀ a : Addr, @LT.lt Nat _ (L + 1 + 1 + 1) a → AllLt a more → a ≠ L + 3 ∧ ∀ q ∈ more, a ≠ q.1 := fun a h1 h2 => ⟨Nat.ne_of_gt h1, fun q hq e => allLt_ne h2 hq e.symm⟩
    intro p hp
    simp only [List.mem_cons, List.not_mem_nil, or_false] at hp
    rcases hp with rfl | rfl | rfl | rfl | rfl | rfl | rfl | rfl | rfl | rfl | rfl | rfl | rfl
    · exact key _ (by simp only [p5]) (by simp only [p5])
    · exact key _ (by simp only [p2]) (by simp only [p2])
    · exact key _ (by simp only [p4]) (by simp only [p4])
    · exact key _ (by simp only [p7]) (by simp only [p7])
    · exact key _ (by simp only [p9]) (by simp only [p9])
    · exact key _ (by simp only [p12]) (by simp only [p12])
    · exact key _ (by simp only [p14]) (by simp only [p14])
    · exact key _ (by simp only [p1]) (by simp only [p1])
    · exact key _ (by simp only [p3]) (by simp only [p3])
    · exact key _ (by simp only [p6]) (by simp only [p6])
    · exact key _ (by simp only [p8]) (by simp only [p8])
    · exact key _ (by simp only [p11]) (by simp only [p11])
    · exact key _ (by simp only [p13]) (by simp only [p13])
  · intro y hy
    have y1 : y ≠ Str.ofString "low" := by rintro rfl; revert hy; decide
    have y2 : y ≠ Str.ofString "mid" := by rintro rfl; revert hy; decide
    have y3 : y ≠ Str.ofString "high" := by rintro rfl; revert hy; decide
    have y4 : y ≠ Str.ofString "rise" := by rintro rfl; revert hy; decide
    have y5 : y ≠ Str.ofString "ring" := by rintro rfl; revert hy; decide
    simp only [y1, y2, y3, y4, y5, if_false]
end
end Mine
end
section
open PySem PySem.W PyProof.Rows
namespace Mine
def turnB1 : List Stmt := (turnBody.drop 7).take 3
def turnB2 : List Stmt := turnBody.drop 10
def TabC (news : List (Addr × Obj)) (tb : Addr) (n : Nat) (C : Nat → Int × Int × Int) : Prop :=
  ∃ (rs : List Addr) (kt : Nat), rs.length = n ∧ (tb, listOf (rs.map Value.ref).toArray kt) ∈ news ∧ ∀ i r, rs[i]? = some r → RowC news r (C i)
section
variable {prog : Program} {w : World} {A : Around} {E : Value → Shared → Prop} {s : Shared} {Q : Value → Shared → Prop} {t u : Tok} {h₀ : Heap} {L : Addr} {news more : List (Addr × Obj)} {tb : Addr} {n : Nat} {C : Nat → Int × Int × Int}
theorem tab_itemC {value slice : PySem.Expr} {k : Int} (N : News h₀ L s.heap news) (hsub : ∀ p ∈ more, p ∈ news) (hT : TabC more tb n C) (hn : n < 2 ^ 40) (h0 : 0 ≤ k) (hk : k < (n : Int))
    (h : ∀ r tx ty tz kc, News h₀ L s.heap ((r, listOf #[.int (C k.toNat).1 tx, .int (C k.toNat).2.1 ty, .int (C k.toNat).2.2 tz] kc) :: news) → Q (.ref r) s)
    (hs' : subscripted slice false (.ref tb) (.int k u) = operate [.ref tb, .int k u] (getItem (.ref tb) (.int k u))) :
    wpAny (model prog w) A (subscriptTail value slice (.ref tb) (.int k u)) Q E s := by
  obtain ⟨rs, kt, hl, hm, hr⟩ := hT
  have hlt : k.toNat < rs.length := by omega
  have : (2 : Nat) ^ 40 < 2 ^ 63 := by decide
  obtain ⟨tx, ty, tz, kc, hrow⟩ := hr k.toNat rs[k.toNat] (by simp [hlt])
  refine item_N N (hsub _ hm) h0 (by omega) (by simp [hlt]) (h rs[k.toNat] tx ty tz kc ?_) hs'
  intro p hp
  rcases List.mem_cons.mp hp with rfl | hp
  · exact N _ (hsub _ hrow)
  · exact N _ hp
end
theorem cend_rest {h₀ h' : Heap} {L I C D : Addr} {oI oC oD : Obj} {m : Str → Option Value} {s₁ : Shared} {news : List (Addr × Obj)} {tk : Nat} {S : List (Addr × Obj) → Prop} {rest : Value → List (Addr × Obj) → Prop} {y : Value} (F : Fr h₀ L h' m) (N : News h₀ L h' ((I, oI) :: (C, oC) :: (D, oD) :: news)) (off : LCg.Off3 I C D news) (hS : S news) (r : rest y news) :
    LCg.CompEnd h₀ L m s₁ I oI C oC D oD S rest y { s₁ with heap := h', toks := tk } := ⟨h', tk, news, rfl, F, N, off, hS, r⟩
def vB (unit base_ mo wh c : Int) : Int := wh + (mo * (c - base_)).fdiv unit
def BOk (C : Nat → Int × Int × Int) (hs : Nat → UInt64) (n : Nat) (unit base_ at_ mo wh : Int) : Prop :=
  (0 ≤ vB unit base_ mo wh (C at_.toNat).1 ∧ vB unit base_ mo wh (C at_.toNat).1 < 2 ^ 60) ∧ (0 ≤ vB unit base_ mo wh (C at_.toNat).2.1 ∧ vB unit base_ mo wh (C at_.toNat).2.1 < 2 ^ 60) ∧ (0 ≤ vB unit base_ mo wh (C at_.toNat).2.2 ∧ vB unit base_ mo wh (C at_.toNat).2.2 < 2 ^ 60) ∧
  ((0 ≤ (C at_.toNat).1 ∧ (C at_.toNat).1 ≤ 2 ^ 25) ∧ (0 ≤ (C at_.toNat).2.1 ∧ (C at_.toNat).2.1 ≤ 2 ^ 25) ∧ (0 ≤ (C at_.toNat).2.2 ∧ (C at_.toNat).2.2 ≤ 2 ^ 25)) ∧
  HsvOk (f25 (q25 (vB unit base_ mo wh (C at_.toNat).1))) (f25 (q25 (vB unit base_ mo wh (C at_.toNat).2.1))) (f25 (q25 (vB unit base_ mo wh (C at_.toNat).2.2))) ∧
  (∀ i : Nat, i < n → ltF (hs i) (hsvH (f25 (q25 (vB unit base_ mo wh (C at_.toNat).1))) (f25 (q25 (vB unit base_ mo wh (C at_.toNat).2.1))) (f25 (q25 (vB unit base_ mo wh (C at_.toNat).2.2)))) = decide ((i : Int) < at_)) ∧
  (∀ i : Nat, i < n → ltF (hsvH (f25 (q25 (vB unit base_ mo wh (C at_.toNat).1))) (f25 (q25 (vB unit base_ mo wh (C at_.toNat).2.1))) (f25 (q25 (vB unit base_ mo wh (C at_.toNat).2.2)))) (hs i) = decide (at_ + 1 ≤ (i : Int)))
def B1Ret (L ce : Addr) (oce ob ou : Obj) (more : List (Addr × Obj)) (at_ mo wh : Int) (h₀ : Heap) (m : Str → Option Value) (s : Shared) (Q : Flow → Shared → Prop) : Prop :=
  ∀ (tA tM tW : Tok) (oM oW : Obj) h tk, oM.data = .cell (some (.int mo tM)) → oW.data = .cell (some (.int wh tW)) → Fr h₀ L h (fun y => if y = Str.ofString "at" then some (.int at_ tA) else m y) →
    News h₀ L h ((L + 6, oW) :: (L + 5, oM) :: (L + 2, ob) :: (L + 1, ou) :: (ce, oce) :: more) → Q .next { s with heap := h, toks := tk }
section
local macro_rules | `(tactic| k_all) => `(tactic| assumption)
local macro_rules | `(tactic| k_steps) => `(tactic| repeat' (first | (k_unfold; (try dsimp only)) | (k_end; wrow_close) | (walk1; (try dsimp only)) | (dsimp only; walk1) | (leave1; walk_say "STEP leave1"; try dsimp only) | fail "no step"))
set_option maxRecDepth 100000 in
set_option maxHeartbeats 8000000 in
theorem turn_b1 : ∀ (w : World) (s₀ : Shared) (mg mb : Str → Option Value) (ce : Addr) (k each : Int) (tk₀ te : Tok) (kc : Nat) (cvs : List Value) (cs : List Int)
  (more : List (Addr × Obj)) (oW oM ob ou : Obj) (vW vM : Option Value)
  (dp un : Nat) (gd : Option (List Code)) (fa : Addr) (ccd : Value) (outer : List Env) (A₀ : Around) (base h₀ : Heap) (L : Addr) (m : Str → Option Value) (s : Shared) (Q : Flow → Shared → Prop) 
   (_ : Below A₀ base outer h₀) (_ : Fr h₀ L s.heap (kstB m [(Str.ofString "cells", .ref ce), (Str.ofString "k", .int k tk₀), (Str.ofString "each", .int each te)])) (_ : (Mine.hd.heap_39 w.params).In h₀)
   (_ : News h₀ L s.heap ((L + 6, oW) :: (L + 5, oM) :: (L + 2, ob) :: (L + 1, ou) :: (ce, listOf cvs.toArray kc) :: more)) (_ : oW.data = .cell vW) (_ : oM.data = .cell vM)
   (_ : IntsAre cvs cs) (_ : TopM s₀ mg mb h₀)
   (_ : dp + 4 < recursionLimit) (_ : un + 17 < cLine) (_ : ∀ p ∈ more, p.1 ≠ L + 6) (_ : ∀ p ∈ more, p.1 ≠ L + 5) (_ : ce ≠ L + 6) (_ : ce ≠ L + 5) (_ : 0 ≤ k) (_ : k + 3 ≤ cs.length) (_ : cs.length ≤ 20) (_ : 1 ≤ each) (_ : each ≤ 16)
   (_ : B1Ret L ce (listOf cvs.toArray kc) ob ou more ((cs.getD k.toNat 0).fmod (6 * each)) (1 + (cs.getD (k + 1).toNat 0).fmod (2 ^ Int.toNat 44)) ((cs.getD (k + 2).toNat 0).fmod (2 ^ Int.toNat 48)) h₀ (kstB m [(Str.ofString "cells", .ref ce), (Str.ofString "k", .int k tk₀), (Str.ofString "each", .int each te)]) s Q),
   wpAny (model PySem.Challenge.rw_dn0051_01.row.prog w) (ktrTop dp un gd (Str.ofString "law") lawScope L fa ccd (cellsFrom (L + 1) lawScope.names []) outer) (execs turnB1 (envX (Str.ofString "law") lawScope L fa ccd (cellsFrom (L + 1) lawScope.names []))) Q (fun _ _ => False) s := by
  k_fill
  intro w s₀ mg mb ce k each tk₀ te kc cvs cs more oW oM ob ou vW vM dp un gd fa ccd outer A₀ base h₀ L m s Q B F X N hW hM hI T hd hu n1 n2 n3 n4 k0 k1 k2 e1 e2 ret
  replace n3 : @Ne Nat ce (L + 6) := n3
  replace n4 : @Ne Nat ce (L + 5) := n4
  conv in turnB1 => whnf
  generalize hsc : lawScope = sc
  conv at hsc => lhs; whnf
  dsimp only at hsc
  subst hsc
  k_steps
  refine wpAny_execs_nil ?_
  exact ret _ _ _ _ _ _ _ (by assumption) (by assumption) (by assumption) (by assumption)
end
end Mine
end
section
open PySem PySem.W PyProof.Rows
namespace Mine
def B2Ret (L : Addr) (ob ou oM oW : Obj) (more : List (Addr × Obj)) (h₀ : Heap) (m : Str → Option Value) (s : Shared) (Q : Flow → Shared → Prop) : Prop :=
  ∀ (u : Str → Option Value) h tk, (∀ y, y ≠ Str.ofString "hue" → u y = m y) → Fr h₀ L h u → News h₀ L h ((L + 6, oW) :: (L + 5, oM) :: (L + 2, ob) :: (L + 1, ou) :: more) → Q .next { s with heap := h, toks := tk }
section
local macro_rules | `(tactic| walk_at "call ref") => `(tactic| (k_here; (with_reducible show wpAny _ _ (call (Value.ref 46) _ _) _ _ _); k_dflt (
  refine' hue_callF _ _ _ _ _ _ _ _ _ _ _ _ _ _ _ _ _ _ _ _ _ _ _ _ _ _ _ _ _ _ ?k1 ?k2 ?k3 ?k4 ?k5 ?k6 ?k7 ?k8 ?k9 ?_
  (case k1 => k_asm)
  (case k2 => k_asm)
  (case k3 => k_asm)
  (case k4 => assumption)
  (case k5 => k_asm)
  (case k6 => exact rfl)
  (case k7 => ktr_room)
  (case k8 => ktr_units)
  (case k9 => assumption)
  intro t' h' tk' F' N'
  (try dsimp only)
  (try k_fold))))
local macro_rules | `(tactic| walk_at "call ref") => `(tactic| (k_here; (with_reducible show wpAny _ _ (call (Value.ref 39) _ _) _ _ _); refine halt ?_))
local macro_rules | `(tactic| walk_at "call ref") => `(tactic| (k_here; (with_reducible show wpAny _ _ (call (Value.ref 30) _ _) _ _ _); refine halt ?_))
local macro_rules | `(tactic| walk_at "eval ListComp") => `(tactic| (k_here; k_dflt (refine LCg.ListComp_U (F₀ := by k_asm) (by rfl) (by decide) (by rfl) (by decide) (by rfl) ?_)))
local macro_rules | `(tactic| walk_at "CompEnd") => `(tactic| (refine cend_rest (by assumption) (by assumption) (by first | assumption | (simp only [LCg.Off3, and_true]; assumption)) (Or.inr ⟨_, by k_mem, rfl, _, rfl⟩) ?_))
local macro_rules | `(tactic| walk_at "binaryOp Div int int") => `(tactic| (k_here; k_dflt (refine' div25 ?k1 ?k2 ?k3 ?_; (case k1 => exact rfl); (case k2 => assumption); (case k3 => assumption); k_whole); (try dsimp only)))
local macro_rules | `(tactic| k_all) => `(tactic| assumption)
local macro_rules | `(tactic| k_steps) => `(tactic| repeat' (first | (k_unfold; (try dsimp only)) | (k_end; wrow_close) | (walk1; (try dsimp only)) | (dsimp only; walk1) | (leave1; walk_say "STEP leave1"; try dsimp only) | fail "no step"))
local macro_rules | `(tactic| walk_at "subscriptTail Name Name ref int") => `(tactic| (k_here; k_dflt (refine' tab_itemC ?k1 ?k0 ?k2 ?k3 ?k4 ?k5 ?_ ?k7; (case k1 => k_asm); (case k2 => assumption); (case k0 => (intro p hp; repeat (first | exact hp | refine List.Mem.tail _ ?_))); (case k3 => assumption); (case k4 => omega); (case k5 => omega); (case k7 => with_unfolding_all rfl); k_whole); (intro r' tx' ty' tz' kc' N'; try dsimp only)))
local macro_rules | `(tactic| walk_at "CompSrc") => `(tactic| (k_here; k_dflt (refine LCg.CompSrc.ledger (by rfl) (by k_asm) (by k_asm) (by k_mem) (by exact Nat.le_of_ble_eq_true rfl) ?_; intro g'; lcg_lit)))
set_option maxRecDepth 100000 in
set_option maxHeartbeats 8000000 in
theorem turn_b2 : ∀ (w : World) (s₀ : Shared) (mg mb : Str → Option Value) (tb : Addr) (at_ mo wh unit base_ : Int) (tA tM tW tU tB : Tok) (n : Nat) (hs : Nat → UInt64) (C : Nat → Int × Int × Int)
  (more : List (Addr × Obj)) (oW oM ob ou : Obj)
  (dp un : Nat) (gd : Option (List Code)) (fa : Addr) (ccd : Value) (outer : List Env) (A₀ : Around) (base h₀ : Heap) (L : Addr) (m : Str → Option Value) (s : Shared) (Q : Flow → Shared → Prop) 
   (_ : Below A₀ base outer h₀) (_ : Fr h₀ L s.heap (kstB m [(Str.ofString "at", .int at_ tA), (Str.ofString "table", .ref tb)])) (_ : (Mine.hd.heap_39 w.params).In h₀)
   (_ : News h₀ L s.heap ((L + 6, oW) :: (L + 5, oM) :: (L + 2, ob) :: (L + 1, ou) :: more)) (_ : oW.data = .cell (some (.int wh tW))) (_ : oM.data = .cell (some (.int mo tM))) (_ : ob.data = .cell (some (.int base_ tB))) (_ : ou.data = .cell (some (.int unit tU)))
   (_ : TopM s₀ mg mb h₀)
   (_ : dp + 4 < recursionLimit) (_ : un + 17 < cLine) (_ : 0 ≤ at_) (_ : at_ < (n : Int)) (_ : 1 ≤ mo) (_ : mo ≤ 2 ^ 44) (_ : 0 ≤ wh) (_ : wh < 2 ^ 48) (_ : 1 ≤ unit) (_ : unit ≤ 2 ^ 20) (_ : 0 ≤ base_) (_ : base_ ≤ 2 ^ 20)
   (_ : n < 2 ^ 40) (_ : TabOk more tb n hs) (_ : TabC more tb n C) (_ : BOk C hs n unit base_ at_ mo wh)
   (_ : B2Ret L ob ou oM oW more h₀ (kstB m [(Str.ofString "at", .int at_ tA), (Str.ofString "table", .ref tb)]) s Q),
   wpAny (model PySem.Challenge.rw_dn0051_01.row.prog w) (ktrTop dp un gd (Str.ofString "law") lawScope L fa ccd (cellsFrom (L + 1) lawScope.names []) outer) (execs turnB2 (envX (Str.ofString "law") lawScope L fa ccd (cellsFrom (L + 1) lawScope.names []))) Q (fun _ _ => False) s := by
  k_fill
  intro w s₀ mg mb tb at_ mo wh unit base_ tA tM tW tU tB n hs C more oW oM ob ou dp un gd fa ccd outer A₀ base h₀ L m s Q B F X N hW hM hb hu' T hd hu at0 at1 mo0 mo1 wh0 wh1 un1 un2 ba1 ba2 hn2 hT hC hB ret
  conv in turnB2 => whnf
  generalize hsc : lawScope = sc
  conv at hsc => lhs; whnf
  dsimp only at hsc
  subst hsc
  obtain ⟨⟨v0, v0'⟩, ⟨v1, v1'⟩, ⟨v2, v2'⟩, ⟨⟨c0, c0'⟩, ⟨c1, c1'⟩, ⟨c2, c2'⟩⟩, hok, hlt, hgt⟩ := hB
  k_steps
  refine unhalt ?_
  k_dflt (refine' bisL_call _ _ _ _ _ n hs (at_) _ _ _ _ _ _ _ _ _ _ _ _ _ _ _ _ _ _ _ _ ?k1 ?k2 ?k3 ?k4 ?k5 ?k6 ?k7 ?k8 ?k9 ?k10 ?k11 ?k12 ?k13 ?_)
  case k1 => k_asm
  case k2 => k_asm
  case k3 => k_asm
  case k4 => k_asm
  case k5 => k_asm
  case k6 => exact rfl
  case k7 => ktr_room
  case k8 => ktr_units
  case k9 => exact tab_mono hT (by (intro p hp; repeat (first | exact hp | refine List.Mem.tail _ ?_)))
  case k10 => assumption
  case k11 => omega
  case k12 => omega
  case k13 => exact hlt
  intro t' h' tk' F' N'
  (try dsimp only)
  (try k_fold)
  k_steps
  · exact absurd rfl (by assumption)
  refine unhalt ?_
  k_dflt (refine' bisR_call _ _ _ _ _ n hs (at_ + 1) _ _ _ _ _ _ _ _ _ _ _ _ _ _ _ _ _ _ _ _ ?k1 ?k2 ?k3 ?k4 ?k5 ?k6 ?k7 ?k8 ?k9 ?k10 ?k11 ?k12 ?k13 ?_)
  case k1 => k_asm
  case k2 => k_asm
  case k3 => k_asm
  case k4 => k_asm
  case k5 => k_asm
  case k6 => exact rfl
  case k7 => ktr_room
  case k8 => ktr_units
  case k9 => exact tab_mono hT (by (intro p hp; repeat (first | exact hp | refine List.Mem.tail _ ?_)))
  case k10 => assumption
  case k11 => omega
  case k12 => omega
  case k13 => exact hgt
  intro t' h' tk' F' N'
  (try dsimp only)
  (try k_fold)
  k_steps
  · exact absurd rfl (by assumption)
  refine ret _ _ _ ?_ (by assumption) (news_sub (by assumption) ?_)
  · intro y hy
    rw [if_neg hy]
  · intro p hp
    exact .tail _ (.tail _ hp)
end
end Mine
end
section
open PySem PySem.W PyProof.Rows
namespace Mine
theorem wp_execs_app {M : Model} {env : Env} {Γ : Ctx} {Q : Flow → Pos → Shared → Prop} {E : Value → Pos → Shared → Prop} {l2 : List Stmt} : ∀ (l1 : List Stmt) (p : Pos) (s : Shared),
    Sem.wp M Γ (execs l1 env) (fun f p' s' => match f with | .next => Sem.wp M Γ (execs l2 env) Q E p' s' | f => Q f p' s') E p s → Sem.wp M Γ (execs (l1 ++ l2) env) Q E p s := by
  intro l1
  induction l1 with
  | nil => intro p s h; exact h
  | cons st l1 ih =>
    intro p s h
    rw [List.cons_append, execs_cons, Sem.wp_bind']
    rw [execs_cons, Sem.wp_bind'] at h
    refine Sem.wp_mono M Γ _ (fun f p' s' h' => ?_) (fun _ _ _ h' => h') _ _ h
    cases f with
    | next => exact ih _ _ h'
    | brk => exact h'
    | cont => exact h'
    | ret v => exact h'
theorem execs_app {M : Model} {A : Around} {env : Env} {E : Value → Shared → Prop} {Q : Flow → Shared → Prop} {s : Shared} {l1 l2 : List Stmt}
    (h : wpAny M A (execs l1 env) (fun f s' => match f with | .next => wpAny M A (execs l2 env) Q E s' | f => Q f s') E s) : wpAny M A (execs (l1 ++ l2) env) Q E s := fun Γ p hΓ => by
  refine wp_execs_app l1 p s (Sem.wp_mono M Γ _ (fun f p' s' h' => ?_) (fun _ _ _ h' => h') _ _ (h Γ p hΓ))
  cases f with
  | next => exact h' Γ p' hΓ
  | brk => exact h'
  | cont => exact h'
  | ret v => exact h'
theorem turn_split : turnBody = turnA ++ (stRing :: (turnB1 ++ turnB2)) := by rfl
def RingOK (span each : Int) (n : Nat) (hs : Nat → UInt64) (x y z g : Int) : Prop :=
  (0 ≤ x ∧ x < 2 ^ 60 ∧ 0 ≤ y ∧ y < 2 ^ 60 ∧ 0 ≤ z ∧ z < 2 ^ 60) ∧ HsvOk (q25 x) (q25 y) (q25 z) ∧ 0 ≤ g ∧ g ≤ 2 ^ 28 ∧
  (∀ i : Nat, i < n → ltF (hs i) (hsvH (q25 x) (q25 y) (q25 z)) = decide ((i : Int) * span < g.fmod (6 * span) * each)) ∧
  (∀ i : Nat, i < n → ltF (hsvH (q25 x) (q25 y) (q25 z)) (hs i) = decide (g.fmod (6 * span) * each < (i : Int) * span))
def spanOf (lo hi : Int) : Int := if 1 > hi - lo then 1 else hi - lo
theorem spanOf_pos {lo hi : Int} : 1 ≤ spanOf lo hi := by unfold spanOf; split <;> omega
theorem spanOf_le {lo hi : Int} (h0 : 0 ≤ lo) (h1 : hi ≤ 2 ^ 25) : spanOf lo hi ≤ 2 ^ 25 := by unfold spanOf; split <;> omega
abbrev turnStored : List Str := [Str.ofString "low", Str.ofString "mid", Str.ofString "high", Str.ofString "rise", Str.ofString "ring", Str.ofString "before", Str.ofString "upto", Str.ofString "hue", Str.ofString "colour", Str.ofString "gone", Str.ofString "at"]
abbrev turnMap (m : Str → Option Value) (ce tb : Addr) (k each : Int) (tk₀ te : Tok) : Str → Option Value := kstB m [(Str.ofString "cells", .ref ce), (Str.ofString "k", .int k tk₀), (Str.ofString "each", .int each te), (Str.ofString "table", .ref tb)]
def isCell (o : Obj) : Prop := ∃ v, o.data = .cell v
abbrev turnLed (L ce : Addr) (oW oM oP oS ob ou oce : Obj) (more : List (Addr × Obj)) : List (Addr × Obj) := (L + 6, oW) :: (L + 5, oM) :: (L + 4, oP) :: (L + 3, oS) :: (L + 2, ob) :: (L + 1, ou) :: (ce, oce) :: more
def TurnRet (L ce : Addr) (ob ou oce : Obj) (more : List (Addr × Obj)) (h₀ : Heap) (m : Str → Option Value) (s : Shared) (Q : Flow → Shared → Prop) : Prop :=
  ∀ (u : Str → Option Value) (oW oM oP oS : Obj) h tk, isCell oW → isCell oM → isCell oP → isCell oS → (∀ y, turnStored.contains y = false → u y = m y) → Fr h₀ L h u → News h₀ L h (turnLed L ce oW oM oP oS ob ou oce more) → Q .next { s with heap := h, toks := tk }
theorem ne_of_not_contains {y x : Str} {l : List Str} (hy : l.contains y = false) (hx : l.contains x = true) : y ≠ x := by
  rintro rfl
  rw [hx] at hy
  cases hy
theorem contains_sub {y : Str} {l l' : List Str} (hs : ∀ x ∈ l', x ∈ l) (hy : l.contains y = false) : l'.contains y = false := by
  cases h : l'.contains y with
  | false => rfl
  | true =>
    have h1 := hs y (List.contains_iff_mem.mp h)
    have h2 := List.contains_iff_mem.mpr h1
    rw [h2] at hy
    cases hy
set_option maxHeartbeats 4000000 in
theorem turn_stmt (w : World) (s₀ : Shared) (mg mb : Str → Option Value) (ce tb : Addr) (k each unit base_ : Int) (tk₀ te tU tB : Tok) (kc n : Nat) (cvs : List Value) (cs : List Int) (hs : Nat → UInt64) (C : Nat → Int × Int × Int)
  (more : List (Addr × Obj)) (oW oM oP oS ob ou : Obj)
  (dp un : Nat) (gd : Option (List Code)) (fa : Addr) (ccd : Value) (outer : List Env) (A₀ : Around) (base h₀ : Heap) (L : Addr) (m : Str → Option Value) (s : Shared) (Q : Flow → Shared → Prop) 
   (B : Below A₀ base outer h₀) (F : Fr h₀ L s.heap (turnMap m ce tb k each tk₀ te)) (X : (Mine.hd.heap_39 w.params).In h₀)
   (N : News h₀ L s.heap (turnLed L ce oW oM oP oS ob ou (listOf cvs.toArray kc) more)) (cW : isCell oW) (cM : isCell oM) (cP : isCell oP) (cS : isCell oS) (hb : ob.data = .cell (some (.int base_ tB))) (hu' : ou.data = .cell (some (.int unit tU)))
   (hI : IntsAre cvs cs) (T : TopM s₀ mg mb h₀)
   (hd : dp + 4 < recursionLimit) (hu : un + 17 < cLine) (hm : ∀ p ∈ more, p.1 ≠ L + 3 ∧ p.1 ≠ L + 4 ∧ p.1 ≠ L + 5 ∧ p.1 ≠ L + 6) (hce : L + 6 < ce) (k0 : 0 ≤ k) (k1 : k + 3 ≤ cs.length) (k2 : cs.length ≤ 20) (e1 : 1 ≤ each) (e2 : each ≤ 16) (un1 : 1 ≤ unit) (un2 : unit ≤ 2 ^ 20) (ba1 : 0 ≤ base_) (ba2 : base_ ≤ 2 ^ 20)
   (hn : n = (6 * each).toNat) (hT : TabOk more tb n hs) (hC : TabC more tb n C)
   (P1 : ∀ lo mi hi : Int, 0 ≤ lo → lo ≤ mi → mi ≤ hi → hi ≤ 2 ^ 25 → ∀ x y z g, Six lo mi hi x y z g → RingOK (spanOf lo hi) each n hs x y z g)
   (P2 : ∀ at_ mo wh : Int, 0 ≤ at_ → at_ < (n : Int) → 1 ≤ mo → mo ≤ 2 ^ 44 → 0 ≤ wh → wh < 2 ^ 48 → BOk C hs n unit base_ at_ mo wh)
   (ret : TurnRet L ce ob ou (listOf cvs.toArray kc) more h₀ (turnMap m ce tb k each tk₀ te) s Q) :
   wpAny (model PySem.Challenge.rw_dn0051_01.row.prog w) (ktrTop dp un gd (Str.ofString "law") lawScope L fa ccd (cellsFrom (L + 1) lawScope.names []) outer) (execs turnBody (envX (Str.ofString "law") lawScope L fa ccd (cellsFrom (L + 1) lawScope.names []))) Q (fun _ _ => False) s := by
  obtain ⟨vW, cW⟩ := cW
  obtain ⟨vM, cM⟩ := cM
  obtain ⟨vP, cP⟩ := cP
  obtain ⟨vS, cS⟩ := cS
  have tf : ∀ p ∈ [(Str.ofString "cells", Value.ref ce), (Str.ofString "k", .int k tk₀)], turnMap m ce tb k each tk₀ te p.1 = some p.2 := by
    intro p hp
    simp only [List.mem_cons, List.not_mem_nil, or_false] at hp
    rcases hp with rfl | rfl <;> rfl
  rw [turn_split]
  refine execs_app (turn_a w s₀ mg mb ce k tk₀ 0 kc cvs cs ((L + 6, oW) :: (L + 5, oM) :: (L + 4, oP) :: (L + 2, ob) :: (L + 1, ou) :: more) oS vS dp un gd fa ccd outer A₀ base h₀ L _ s _ B (kstB_self F tf) X (news_sub N ?a1) cS hI T hd hu ?a2 ?a3 k0 k1 k2 ?a4)
  case a1 =>
    intro p hp
    simp only [List.mem_cons] at hp ⊢
    grind
  case a2 =>
    intro p hp
    simp only [List.mem_cons] at hp
    rcases hp with rfl | rfl | rfl | rfl | rfl | hp
    · exact neN (by dsimp only; omega)
    · exact neN (by dsimp only; omega)
    · exact neN (by dsimp only; omega)
    · exact neN (by dsimp only; omega)
    · exact neN (by dsimp only; omega)
    · exact (hm p hp).1
  case a3 => have := ltN hce; exact neN (by omega)
  case a4 =>
    intro u lo mi hi rg kr fx vs oS1 tS h tk b0 b1 b2 b3 dS hrg hsix hfx hur hum F1 N1
    dsimp only
    rw [kstB_same tf] at hum
    have rf : ∀ p ∈ [(Str.ofString "ring", Value.ref rg), (Str.ofString "each", .int each te), (Str.ofString "table", .ref tb)], u p.1 = some p.2 := by
      intro p hp
      simp only [List.mem_cons, List.not_mem_nil, or_false] at hp
      rcases hp with rfl | rfl | rfl
      · exact hur
      · exact (hum (Str.ofString "each") (by decide)).trans rfl
      · exact (hum (Str.ofString "table") (by decide)).trans rfl
    have hsub : ∀ p ∈ more, p ∈ fx ++ ((L + 6, oW) :: (L + 5, oM) :: (L + 2, ob) :: (L + 1, ou) :: (ce, listOf cvs.toArray kc) :: more) := fun p hp => List.mem_append_right _ (.tail _ (.tail _ (.tail _ (.tail _ (.tail _ hp)))))
    have hsubf : ∀ p ∈ fx, p ∈ fx ++ ((L + 6, oW) :: (L + 5, oM) :: (L + 2, ob) :: (L + 1, ou) :: (ce, listOf cvs.toArray kc) :: more) := fun p hp => List.mem_append_left _ hp
    refine wpAny_execs_cons (ring_stmt w s₀ mg mb tb rg each (spanOf lo hi) te tS n kr hs vs (fx ++ ((L + 6, oW) :: (L + 5, oM) :: (L + 2, ob) :: (L + 1, ou) :: (ce, listOf cvs.toArray kc) :: more)) oS1 oP vP dp un gd fa ccd outer A₀ base h₀ L u _ _ B (kstB_self F1 rf) X (news_sub N1 ?r1) dS cP T hd hu e1 e2 spanOf_pos (spanOf_le b0 b3) ?r2 hn (tab_mono hT hsub) (hsubf _ hrg) ?r3 ?r4)
    case r1 =>
      intro p hp
      simp only [List.mem_cons, List.mem_append] at hp ⊢
      grind
    case r2 =>
      intro p hp
      simp only [List.mem_cons, List.mem_append] at hp
      rcases hp with hp | rfl | rfl | rfl | rfl | rfl | hp
      · exact (hfx p hp).2 (L + 4, oP) (.tail _ (.tail _ (.head _)))
      · exact neN (by dsimp only; omega)
      · exact neN (by dsimp only; omega)
      · exact neN (by dsimp only; omega)
      · exact neN (by dsimp only; omega)
      · have := ltN hce; exact neN (by dsimp only; omega)
      · exact (hm p hp).2.1
    case r3 =>
      intro v hv
      obtain ⟨D, c, x, y, z, g, tg, t0, t1, t2, kc', rfl, hD, hc, h6⟩ := hsix v hv
      obtain ⟨bnd, ok, g0, g1, hlt, hgt⟩ := P1 lo mi hi b0 b1 b2 b3 x y z g h6
      exact ⟨D, c, g, tg, hsvH (q25 x) (q25 y) (q25 z), rfl, hsubf _ hD, ⟨x, y, z, t0, t1, t2, kc', hsubf _ hc, bnd, ok, rfl⟩, g0, g1, hlt, hgt⟩
    case r4 =>
      intro u2 oP2 vP2 h2 tk2 cP2 F2 N2
      dsimp only
      have mf : ∀ y, ringStored2.contains y = false → turnAStored.contains y = false → (fun y => if ringStored2.contains y then u2 y else ringMap u rg tb each te y) y = turnMap m ce tb k each tk₀ te y := by
        intro y h1 h2
        dsimp only
        rw [h1]
        simp only [Bool.false_eq_true, if_false]
        rw [show ringMap u rg tb each te = u from kstB_same rf]
        exact hum y h2
      have f1 : ∀ p ∈ [(Str.ofString "cells", Value.ref ce), (Str.ofString "k", .int k tk₀), (Str.ofString "each", .int each te)], (fun y => if ringStored2.contains y then u2 y else ringMap u rg tb each te y) p.1 = some p.2 := by
        intro p hp
        simp only [List.mem_cons, List.not_mem_nil, or_false] at hp
        rcases hp with rfl | rfl | rfl
        · exact (mf (Str.ofString "cells") (by decide) (by decide)).trans rfl
        · exact (mf (Str.ofString "k") (by decide) (by decide)).trans rfl
        · exact (mf (Str.ofString "each") (by decide) (by decide)).trans rfl
      refine execs_app (turn_b1 w s₀ mg mb ce k each tk₀ te kc cvs cs ((L + 4, oP2) :: (L + 3, oS1) :: more) oW oM ob ou vW vM dp un gd fa ccd outer A₀ base h₀ L _ _ _ B (kstB_self F2 f1) X (news_sub N2 ?s1) cW cM hI T hd hu ?s2 ?s3 ?s4 ?s5 k0 k1 k2 e1 e2 ?s6)
      case s1 =>
        intro p hp
        simp only [List.mem_cons, List.mem_append] at hp ⊢
        grind
      case s2 =>
        intro p hp
        simp only [List.mem_cons] at hp
        rcases hp with rfl | rfl | hp
        · exact neN (by dsimp only; omega)
        · exact neN (by dsimp only; omega)
        · exact (hm p hp).2.2.2
      case s3 =>
        intro p hp
        simp only [List.mem_cons] at hp
        rcases hp with rfl | rfl | hp
        · exact neN (by dsimp only; omega)
        · exact neN (by dsimp only; omega)
        · exact (hm p hp).2.2.1
      case s4 => have := ltN hce; exact neN (by omega)
      case s5 => have := ltN hce; exact neN (by omega)
      case s6 =>
        intro tA tM tW oM3 oW3 h3 tk3 cM3 cW3 F3 N3
        dsimp only
        have hsub2 : ∀ p ∈ more, p ∈ (L + 4, oP2) :: (L + 3, oS1) :: (ce, listOf cvs.toArray kc) :: more := fun p hp => .tail _ (.tail _ (.tail _ hp))
        rw [kstB_same f1] at F3
        have f2 : ∀ p ∈ [(Str.ofString "at", Value.int ((cs.getD k.toNat 0).fmod (6 * each)) tA), (Str.ofString "table", .ref tb)], (fun y => if y = Str.ofString "at" then some (Value.int ((cs.getD k.toNat 0).fmod (6 * each)) tA) else (fun y => if ringStored2.contains y then u2 y else ringMap u rg tb each te y) y) p.1 = some p.2 := by
          intro p hp
          simp only [List.mem_cons, List.not_mem_nil, or_false] at hp
          rcases hp with rfl | rfl
          · rfl
          · exact (mf (Str.ofString "table") (by decide) (by decide)).trans rfl
        have p44 : (2 ^ Int.toNat 44 : Int) = 2 ^ 44 := rfl
        have p48 : (2 ^ Int.toNat 48 : Int) = 2 ^ 48 := rfl
        have at0 : 0 ≤ (cs.getD k.toNat 0).fmod (6 * each) := Int.fmod_nonneg_of_pos _ (by omega)
        have at1 : (cs.getD k.toNat 0).fmod (6 * each) < 6 * each := Int.fmod_lt_of_pos _ (by omega)
        have mo0 : 0 ≤ (cs.getD (k + 1).toNat 0).fmod (2 ^ Int.toNat 44) := Int.fmod_nonneg_of_pos _ (by decide)
        have mo1 : (cs.getD (k + 1).toNat 0).fmod (2 ^ Int.toNat 44) < 2 ^ Int.toNat 44 := Int.fmod_lt_of_pos _ (by decide)
        have wh0 : 0 ≤ (cs.getD (k + 2).toNat 0).fmod (2 ^ Int.toNat 48) := Int.fmod_nonneg_of_pos _ (by decide)
        have wh1 : (cs.getD (k + 2).toNat 0).fmod (2 ^ Int.toNat 48) < 2 ^ Int.toNat 48 := Int.fmod_lt_of_pos _ (by decide)
        refine turn_b2 w s₀ mg mb tb ((cs.getD k.toNat 0).fmod (6 * each)) (1 + (cs.getD (k + 1).toNat 0).fmod (2 ^ Int.toNat 44)) ((cs.getD (k + 2).toNat 0).fmod (2 ^ Int.toNat 48)) unit base_ tA tM tW tU tB n hs C ((L + 4, oP2) :: (L + 3, oS1) :: (ce, listOf cvs.toArray kc) :: more) oW3 oM3 ob ou dp un gd fa ccd outer A₀ base h₀ L _ _ _ B (kstB_self F3 f2) X (news_sub N3 ?t1) cW3 cM3 hb hu' T hd hu at0 (by omega) (by omega) (by omega) wh0 (by omega) un1 un2 ba1 ba2 (by omega) (tab_mono hT hsub2) ?t2 (P2 _ _ _ at0 (by omega) (by omega) (by omega) wh0 (by omega)) ?t3
        case t1 =>
          intro p hp
          simp only [List.mem_cons] at hp ⊢
          grind
        case t2 =>
          obtain ⟨rs, kt, hl, hm, hr⟩ := hC
          refine ⟨rs, kt, hl, hsub2 _ hm, fun i r h => ?_⟩
          obtain ⟨tx, ty, tz, k9, h9⟩ := hr i r h
          exact ⟨tx, ty, tz, k9, hsub2 _ h9⟩
        case t3 =>
          intro u4 h4 tk4 hu4 F4 N4
          refine ret u4 oW3 oM3 oP2 oS1 h4 tk4 ⟨_, cW3⟩ ⟨_, cM3⟩ ⟨_, cP2⟩ ⟨_, dS⟩ ?_ F4 (news_sub N4 ?_)
          · intro y hy
            rw [hu4 y (ne_of_not_contains hy (by decide)), kstB_same f2]
            rw [if_neg (ne_of_not_contains hy (by decide))]
            exact mf y (contains_sub (by decide) hy) (contains_sub (by decide) hy)
          · intro p hp
            simp only [List.mem_cons] at hp ⊢
            grind
end Mine
end
section
open PySem PySem.W PyProof.Rows
namespace Mine
def stOuter : Stmt := lawBody.getD 9 noStmt
def OuterRet (L : Addr) (h₀ : Heap) (s : Shared) (Q : Flow → Shared → Prop) : Prop :=
  ∀ (u : Str → Option Value) (news : List (Addr × Obj)) h tk, Fr h₀ L h u → News h₀ L h news → Q .next { s with heap := h, toks := tk }
def outerJ (L ce : Addr) (ob ou oce : Obj) (more : List (Addr × Obj)) (_ : Nat) (news : List (Addr × Obj)) : Prop := ∃ oW oM oP oS : Obj, isCell oW ∧ isCell oM ∧ isCell oP ∧ isCell oS ∧ news = turnLed L ce oW oM oP oS ob ou oce more
theorem size3 {n : Nat} (h : 5 ≤ n) : Builtin.Range.rangeSize 0 ((n : Int) - 2) 3 = (((n - 3) / 3 + 1 : Nat) : Int) := by
  unfold Builtin.Range.rangeSize
  simp only [show (3 : Int) > 0 by decide, if_true]
  rw [if_pos (by omega)]
  omega
theorem small3 {b : Int} (h0 : 0 ≤ b) (h1 : b ≤ 100) : Builtin.Range.small 0 b 3 = true := by
  unfold Builtin.Range.small Builtin.Range.rangeSize
  simp only [Builtin.Range.rangeFitsLong, Bool.and_eq_true, Bool.or_eq_true, decide_eq_true_eq, beq_iff_eq, show (3 : Int) > 0 by decide, if_true]
  split <;> omega
section
local macro_rules | `(tactic| walk_at "call builtin:len") => `(tactic| (k_here; (rename IntsAre _ _ => hI9); k_dflt (refine' kst_len ?k1 ?k2 (IntsAre.length hI9) ?k4 ?_; (case k1 => k_asm); (case k2 => k_mem); (case k4 => omega); k_whole); (try dsimp only)))
local macro_rules | `(tactic| walk_at "pyIter ref") => `(tactic| (refine halt ?_))
local macro_rules | `(tactic| k_steps) => `(tactic| repeat' (first | (k_unfold; (try dsimp only)) | (k_end; wrow_close) | (walk1; (try dsimp only)) | (dsimp only; walk1) | (leave1; walk_say "STEP leave1"; try dsimp only) | fail "no step"))
set_option maxRecDepth 100000 in
set_option maxHeartbeats 8000000 in
theorem outer_stmt : ∀ (w : World) (s₀ : Shared) (mg mb : Str → Option Value) (ce tb : Addr) (each unit base_ : Int) (te tU tB : Tok) (kc n : Nat) (cvs : List Value) (cs : List Int) (hs : Nat → UInt64) (C : Nat → Int × Int × Int)
  (more : List (Addr × Obj)) (oW oM oP oS ob ou : Obj)
  (dp un : Nat) (gd : Option (List Code)) (fa : Addr) (ccd : Value) (outer : List Env) (A₀ : Around) (base h₀ : Heap) (L : Addr) (m : Str → Option Value) (s : Shared) (Q : Flow → Shared → Prop) 
   (_ : Below A₀ base outer h₀) (_ : Fr h₀ L s.heap (kstB m [(Str.ofString "cells", .ref ce), (Str.ofString "each", .int each te), (Str.ofString "table", .ref tb)])) (_ : (Mine.hd.heap_39 w.params).In h₀)
   (_ : News h₀ L s.heap (turnLed L ce oW oM oP oS ob ou (listOf cvs.toArray kc) more)) (_ : isCell oW) (_ : isCell oM) (_ : isCell oP) (_ : isCell oS) (_ : ob.data = .cell (some (.int base_ tB))) (_ : ou.data = .cell (some (.int unit tU)))
   (_ : IntsAre cvs cs) (_ : TopM s₀ mg mb h₀)
   (_ : dp + 4 < recursionLimit) (_ : un + 17 < cLine) (_ : ∀ p ∈ more, p.1 ≠ L + 3 ∧ p.1 ≠ L + 4 ∧ p.1 ≠ L + 5 ∧ p.1 ≠ L + 6) (_ : L + 6 < ce) (_ : 5 ≤ cs.length) (_ : cs.length ≤ 14) (_ : 1 ≤ each) (_ : each ≤ 16) (_ : 1 ≤ unit) (_ : unit ≤ 2 ^ 20) (_ : 0 ≤ base_) (_ : base_ ≤ 2 ^ 20)
   (_ : n = (6 * each).toNat) (_ : TabOk more tb n hs) (_ : TabC more tb n C)
   (_ : ∀ lo mi hi : Int, 0 ≤ lo → lo ≤ mi → mi ≤ hi → hi ≤ 2 ^ 25 → ∀ x y z g, Six lo mi hi x y z g → RingOK (spanOf lo hi) each n hs x y z g)
   (_ : ∀ at_ mo wh : Int, 0 ≤ at_ → at_ < (n : Int) → 1 ≤ mo → mo ≤ 2 ^ 44 → 0 ≤ wh → wh < 2 ^ 48 → BOk C hs n unit base_ at_ mo wh)
   (_ : OuterRet L h₀ s Q),
   wpAny (model PySem.Challenge.rw_dn0051_01.row.prog w) (ktrTop dp un gd (Str.ofString "law") lawScope L fa ccd (cellsFrom (L + 1) lawScope.names []) outer) (exec stOuter (envX (Str.ofString "law") lawScope L fa ccd (cellsFrom (L + 1) lawScope.names []))) Q (fun _ _ => False) s := by
  k_fill
  intro w s₀ mg mb ce tb each unit base_ te tU tB kc n cvs cs hs C more oW oM oP oS ob ou dp un gd fa ccd outer A₀ base h₀ L m s Q B F X N cW cM cP cS hb hu' hI T hd hu hm hce k1 k2 e1 e2 un1 un2 ba1 ba2 hn hT hC P1 P2 ret
  conv in stOuter => whnf
  generalize hsc : lawScope = sc
  conv at hsc => lhs; whnf
  dsimp only at hsc
  subst hsc
  k_dflt (refine' For_invVF F ?k1 ?k2 ?_; (case k1 => exact rfl); (case k2 => exact rfl); k_whole)
  k_steps
  rename IsRange _ _ _ _ _ _ _ _ => rg
  rename IntsAre _ _ => hI
  (try clear F)
  (try clear N)
  rename Fr _ _ _ _ => F
  rename News _ _ _ _ => N
  refine unhalt (range_loop (n := (cs.length - 3) / 3 + 1) turnStored (outerJ L ce ob ou (listOf cvs.toArray kc) more) rfl rg (small3 (by omega) (by omega)) (size3 k1) F N ⟨oW, oM, oP, oS, cW, cM, cP, cS, rfl⟩ ?t ?d)
  case d =>
    intro u news₁ h tk _ F' N'
    exact ret _ _ _ _ F' N'
  case t =>
    rintro i t u news₁ h tk I o hi ⟨oW1, oM1, oP1, oS1, cW1, cM1, cP1, cS1, rfl⟩ hne hlt F' N'
    have tf : ∀ p ∈ [(Str.ofString "cells", Value.ref ce), (Str.ofString "k", .int (0 + (i : Int) * 3) t), (Str.ofString "each", .int each te), (Str.ofString "table", .ref tb)], (fun y => if y = Str.ofString "k" then some (Value.int (0 + (i : Int) * 3) t) else if turnStored.contains y then u y else kstB m [(Str.ofString "cells", .ref ce), (Str.ofString "each", .int each te), (Str.ofString "table", .ref tb)] y) p.1 = some p.2 := by
      intro p hp
      simp only [List.mem_cons, List.not_mem_nil, or_false] at hp
      rcases hp with rfl | rfl | rfl | rfl <;> rfl
    have hsub : ∀ p ∈ more, p ∈ (I, o) :: more := fun p hp => .tail _ hp
    refine turn_stmt w s₀ mg mb ce tb (0 + (i : Int) * 3) each unit base_ t te tU tB kc n cvs cs hs C ((I, o) :: more) oW1 oM1 oP1 oS1 ob ou dp un gd fa ccd outer A₀ base h₀ L _ _ _ B (kstB_self F' tf) X (news_sub N' ?a) cW1 cM1 cP1 cS1 hb hu' hI T hd hu ?b hce (by omega) (by omega) (by omega) e1 e2 un1 un2 ba1 ba2 hn (tab_mono hT hsub) ?c P1 P2 ?r
    case a =>
      intro p hp
      simp only [List.mem_cons] at hp ⊢
      grind
    case b =>
      intro p hp
      rcases List.mem_cons.mp hp with rfl | hp
      · exact ⟨Nat.ne_of_gt (hlt (L + 3, oS) (.tail _ (.tail _ (.tail _ (.head _))))), Nat.ne_of_gt (hlt (L + 4, oP) (.tail _ (.tail _ (.head _)))), Nat.ne_of_gt (hlt (L + 5, oM) (.tail _ (.head _))), Nat.ne_of_gt (hlt (L + 6, oW) (.head _))⟩
      · exact hm p hp
    case c =>
      obtain ⟨rs, kt, hl, hm, hr⟩ := hC
      refine ⟨rs, kt, hl, hsub _ hm, fun i r h => ?_⟩
      obtain ⟨tx, ty, tz, k9, h9⟩ := hr i r h
      exact ⟨tx, ty, tz, k9, hsub _ h9⟩
    case r =>
      intro u2 oW2 oM2 oP2 oS2 h2 tk2 cW2 cM2 cP2 cS2 hu2 F2 N2
      refine rl_end (turnLed L ce oW2 oM2 oP2 oS2 ob ou (listOf cvs.toArray kc) more) F2 N2 ?_ ?_ ?_ ?_ ⟨oW2, oM2, oP2, oS2, cW2, cM2, cP2, cS2, rfl⟩
      · simp
      · intro p hp
        simp only [List.mem_cons] at hp ⊢
        grind
      · intro p hp
        simp only [List.mem_cons] at hp
        rcases hp with rfl | rfl | rfl | rfl | rfl | rfl | rfl | hp
        · exact hne (L + 6, oW1) (.head _)
        · exact hne (L + 5, oM1) (.tail _ (.head _))
        · exact hne (L + 4, oP1) (.tail _ (.tail _ (.head _)))
        · exact hne (L + 3, oS1) (.tail _ (.tail _ (.tail _ (.head _))))
        · exact hne (L + 2, ob) (.tail _ (.tail _ (.tail _ (.tail _ (.head _)))))
        · exact hne (L + 1, ou) (.tail _ (.tail _ (.tail _ (.tail _ (.tail _ (.head _))))))
        · exact hne (ce, listOf cvs.toArray kc) (.tail _ (.tail _ (.tail _ (.tail _ (.tail _ (.tail _ (.head _)))))))
        · exact hne p (.tail _ (.tail _ (.tail _ (.tail _ (.tail _ (.tail _ (.tail _ hp)))))))
      · intro y hy hy2
        rw [hu2 y hy2, show turnMap _ ce tb (0 + (i : Int) * 3) each t te = _ from kstB_same tf]
        simp only [if_neg hy, hy2, Bool.false_eq_true, if_false]
end
end Mine
end
section
open PySem PySem.W PyProof.Rows
namespace Mine
def lawA : List Stmt := lawBody.take 2
theorem item_first {prog : Program} {w : World} {A : Around} {E : Value → Shared → Prop} {s : Shared} {Q : Value → Shared → Prop} {u : Tok} {h₀ : Heap} {L l : Addr} {news : List (Addr × Obj)} {value slice : PySem.Expr} {ws : List Value} {xs : List Int} {n : Nat}
    (N : News h₀ L s.heap news) (hm : (l, listOf ws.toArray n) ∈ news) (hI : IntsAre ws xs) (hne : decide (xs = []) = false) (h : ∀ t, Q (.int (xs.headD 0) t) s)
    (hs : subscripted slice false (.ref l) (.int 0 u) = operate [.ref l, .int 0 u] (getItem (.ref l) (.int 0 u))) :
    wpAny (model prog w) A (subscriptTail value slice (.ref l) (.int 0 u)) Q E s := by
  match xs, hI, hne with
  | [], _, hne => simp at hne
  | x :: r, hI, _ =>
    obtain ⟨t, r', rfl, _⟩ := ints_cons hI
    exact item_N N hm (by decide) (by decide) (by simp) (h t) hs
def LawARet (L sc : Addr) (ns : List Int) (six : List (Addr × Obj)) (h₀ : Heap) (m : Str → Option Value) (s : Shared) (Q : Flow → Shared → Prop) : Prop :=
  ∀ (D : Addr) (ws : List Value) (f : Int) (tf : Tok) h tk, f = (ns.take 10).headD 0 → IntsAre ws (ns.take 10) → L + 6 < D →
    Fr h₀ L h (fun y => if y = Str.ofString "first" then some (.int f tf) else if y = Str.ofString "script" then some (.ref D) else kstB m [(Str.ofString "script", .ref sc)] y) → News h₀ L h ((D, listOf ws.toArray 0) :: six) → Q .next { s with heap := h, toks := tk }
section
local macro_rules | `(tactic| walk_at "subscriptTail Name Constant ref int") => `(tactic| (k_here; k_dflt (refine' item_first ?k1 ?k2 ?k3 ?k4 ?_ ?k5; (case k1 => k_asm); (case k2 => k_mem); (case k3 => assumption); (case k4 => assumption); (case k5 => with_unfolding_all rfl); k_whole); (intro t'; try dsimp only)))
local macro_rules | `(tactic| walk_at "compareOp NotEq ref ref") => `(tactic| (k_here; (with_unfolding_all refine' ne_intsK ?k1 ?k2 ?k3 ?k4 ?k5 ?_; (case k1 => is_list); (case k2 => l_intsC); (case k3 => is_list); (case k4 => l_intsC); (case k5 => assumption); k_whole); (try simp only [filter_tt])))
set_option maxRecDepth 100000 in
set_option maxHeartbeats 8000000 in
theorem law_a : ∀ (w : World) (s₀ : Shared) (mg mb : Str → Option Value) (sc : Addr) (svs : List Value) (ns : List Int)
  (oW oM oP oS ob ou : Obj)
  (dp un : Nat) (gd : Option (List Code)) (fa : Addr) (ccd : Value) (outer : List Env) (A₀ : Around) (base h₀ : Heap) (L : Addr) (m : Str → Option Value) (s : Shared) (Q : Flow → Shared → Prop) 
   (_ : Below A₀ base outer h₀) (_ : Fr h₀ L s.heap (kstB m [(Str.ofString "script", .ref sc)])) (_ : (Mine.hd.heap_39 w.params).In h₀)
   (_ : News h₀ L s.heap [(L + 6, oW), (L + 5, oM), (L + 4, oP), (L + 3, oS), (L + 2, ob), (L + 1, ou)]) (_ : h₀.IsList sc svs.toArray)
   (_ : IntsAre svs ns) (_ : ns.length ≤ 63) (_ : TopM s₀ mg mb h₀)
   (_ : dp + 5 < recursionLimit) (_ : un + 64 < cLine)
   (_ : LawARet L sc ns [(L + 6, oW), (L + 5, oM), (L + 4, oP), (L + 3, oS), (L + 2, ob), (L + 1, ou)] h₀ m s Q),
   wpAny (model PySem.Challenge.rw_dn0051_01.row.prog w) (ktrTop dp un gd (Str.ofString "law") lawScope L fa ccd (cellsFrom (L + 1) lawScope.names []) outer) (execs lawA (envX (Str.ofString "law") lawScope L fa ccd (cellsFrom (L + 1) lawScope.names []))) Q (fun _ _ => False) s := by
  k_fill
  intro w s₀ mg mb sc svs ns oW oM oP oS ob ou dp un gd fa ccd outer A₀ base h₀ L m s Q B F X N hl hI hn T hd hu ret
  conv in lawA => whnf
  generalize hsc : lawScope = sc
  conv at hsc => lhs; whnf
  dsimp only at hsc
  subst hsc
  k_steps
  · refine wpAny_execs_nil ?_
    refine ret _ _ _ _ _ _ ?a ?b ?c (by assumption) (news_sub (by assumption) (fun p hp => .tail _ hp))
    case a => rw [of_decide_eq_true (by assumption : decide (List.take 10 ns = []) = true)]; rfl
    case b => assumption
    case c => exact And.left (by assumption)
  · refine wpAny_execs_nil ?_
    refine ret _ _ _ _ _ _ rfl ?b ?c (by assumption) (news_sub (by assumption) (fun p hp => .tail _ hp))
    case b => assumption
    case c => exact And.left (by assumption)
end
end Mine
end
section
open PySem PySem.W PyProof.Rows
namespace Mine
def lawB : List Stmt := (lawBody.drop 2).take 5
def lawC : List Stmt := (lawBody.drop 8).take 1
def eachOf (f : Int) : Int := 1 + (f + 4).fmod 16
def unitOf (f : Int) : Int := 1 + (f.fdiv 16).fmod (2 ^ Int.toNat 20)
def baseOf (f : Int) : Int := (f.fdiv (2 ^ Int.toNat 24)).fmod (2 ^ Int.toNat 20)
def LawBRet (L D : Addr) (oD oW oM oP oS : Obj) (f : Int) (h₀ : Heap) (m : Str → Option Value) (s : Shared) (Q : Flow → Shared → Prop) : Prop :=
  ∀ (tb st : Addr) (te t1 t2 tU tB : Tok) (ob ou : Obj) h tk, D < tb → tb < st → ob.data = .cell (some (.int (baseOf f) tB)) → ou.data = .cell (some (.int (unitOf f) tU)) →
    Fr h₀ L h (fun y => if y = Str.ofString "steps" then some (.ref st) else if y = Str.ofString "table" then some (.ref tb) else if y = Str.ofString "each" then some (.int (eachOf f) te) else m y) →
    News h₀ L h [(st, listOf #[.int (eachOf f) te, .int 0 t1, .int 0 t2] 0), (tb, listOf #[] 0), (D, oD), (L + 6, oW), (L + 5, oM), (L + 4, oP), (L + 3, oS), (L + 2, ob), (L + 1, ou)] → Q .next { s with heap := h, toks := tk }
section
local macro_rules | `(tactic| k_steps) => `(tactic| repeat' (first | (k_unfold; (try dsimp only)) | (k_end; wrow_close) | (walk1; (try dsimp only)) | (dsimp only; walk1) | (leave1; walk_say "STEP leave1"; try dsimp only) | fail "no step"))
set_option maxRecDepth 100000 in
set_option maxHeartbeats 8000000 in
theorem law_b : ∀ (w : World) (s₀ : Shared) (mg mb : Str → Option Value) (D : Addr) (oD : Obj) (f : Int) (tf : Tok)
  (oW oM oP oS ob ou : Obj) (vb vu : Option Value)
  (dp un : Nat) (gd : Option (List Code)) (fa : Addr) (ccd : Value) (outer : List Env) (A₀ : Around) (base h₀ : Heap) (L : Addr) (m : Str → Option Value) (s : Shared) (Q : Flow → Shared → Prop) 
   (_ : Below A₀ base outer h₀) (_ : Fr h₀ L s.heap (kstB m [(Str.ofString "first", .int f tf)])) (_ : (Mine.hd.heap_39 w.params).In h₀)
   (_ : News h₀ L s.heap [(D, oD), (L + 6, oW), (L + 5, oM), (L + 4, oP), (L + 3, oS), (L + 2, ob), (L + 1, ou)]) (_ : ob.data = .cell vb) (_ : ou.data = .cell vu) (_ : L + 6 < D)
   (_ : TopM s₀ mg mb h₀)
   (_ : dp + 5 < recursionLimit) (_ : un + 64 < cLine)
   (_ : LawBRet L D oD oW oM oP oS f h₀ (kstB m [(Str.ofString "first", .int f tf)]) s Q),
   wpAny (model PySem.Challenge.rw_dn0051_01.row.prog w) (ktrTop dp un gd (Str.ofString "law") lawScope L fa ccd (cellsFrom (L + 1) lawScope.names []) outer) (execs lawB (envX (Str.ofString "law") lawScope L fa ccd (cellsFrom (L + 1) lawScope.names []))) Q (fun _ _ => False) s := by
  k_fill
  intro w s₀ mg mb D oD f tf oW oM oP oS ob ou vb vu dp un gd fa ccd outer A₀ base h₀ L m s Q B F X N hb hu' hD T hd hu ret
  replace hD := ltN hD
  conv in lawB => whnf
  generalize hsc : lawScope = sc
  conv at hsc => lhs; whnf
  dsimp only at hsc
  subst hsc
  k_steps
  refine wpAny_execs_nil ?_
  refine ret _ _ _ _ _ _ _ _ _ _ _ ?a ?b (by assumption) (by assumption) (by assumption) (by assumption)
  case a => exact And.left (by assumption)
  case b => exact And.left (by assumption)
end
def LawCRet (L D : Addr) (xs : List Int) (more : List (Addr × Obj)) (h₀ : Heap) (m : Str → Option Value) (s : Shared) (Q : Flow → Shared → Prop) : Prop :=
  ∀ (ce : Addr) (cvs : List Value) h tk, IntsAre cvs ([307, 400, 900] ++ xs.drop 1 ++ [0, 0]) → (∀ p ∈ more, p.1 < ce) →
    Fr h₀ L h (fun y => if y = Str.ofString "cells" then some (.ref ce) else m y) → News h₀ L h ((ce, listOf cvs.toArray 0) :: more) → Q .next { s with heap := h, toks := tk }
section
set_option maxRecDepth 100000 in
set_option maxHeartbeats 8000000 in
theorem law_c : ∀ (w : World) (s₀ : Shared) (mg mb : Str → Option Value) (D : Addr) (ws : List Value) (xs : List Int) (kD : Nat)
  (more : List (Addr × Obj)) 
  (dp un : Nat) (gd : Option (List Code)) (fa : Addr) (ccd : Value) (outer : List Env) (A₀ : Around) (base h₀ : Heap) (L : Addr) (m : Str → Option Value) (s : Shared) (Q : Flow → Shared → Prop) 
   (_ : Below A₀ base outer h₀) (_ : Fr h₀ L s.heap (kstB m [(Str.ofString "script", .ref D)])) (_ : (Mine.hd.heap_39 w.params).In h₀)
   (_ : News h₀ L s.heap ((D, listOf ws.toArray kD) :: more)) (_ : IntsAre ws xs) (_ : xs.length ≤ 10)
   (_ : TopM s₀ mg mb h₀)
   (_ : dp + 5 < recursionLimit) (_ : un + 64 < cLine)
   (_ : LawCRet L D xs more h₀ (kstB m [(Str.ofString "script", .ref D)]) s Q),
   wpAny (model PySem.Challenge.rw_dn0051_01.row.prog w) (ktrTop dp un gd (Str.ofString "law") lawScope L fa ccd (cellsFrom (L + 1) lawScope.names []) outer) (execs lawC (envX (Str.ofString "law") lawScope L fa ccd (cellsFrom (L + 1) lawScope.names []))) Q (fun _ _ => False) s := by
  k_fill
  intro w s₀ mg mb D ws xs kD more dp un gd fa ccd outer A₀ base h₀ L m s Q B F X N hI hx T hd hu ret
  conv in lawC => whnf
  generalize hsc : lawScope = sc
  conv at hsc => lhs; whnf
  dsimp only at hsc
  subst hsc
  k_steps
  rename_i ce cvs hh iC l1 hh2 F N
  refine wpAny_execs_nil ?_
  have hlt : AllLt ce more := by simp only [l1]
  refine ret ce cvs hh2 _ iC (kst_ltOf hlt) F (news_sub N ?_)
  intro p hp
  simp only [List.mem_cons] at hp ⊢
  grind
end
end Mine
end
section
open PySem PySem.W PyProof.Rows
namespace Mine
def lawD : List Stmt := lawBody.drop 10
theorem law_split : lawBody = lawA ++ (lawB ++ (stTable :: (lawC ++ (stOuter :: lawD)))) := by rfl
def hsT (unit base_ each : Int) (i : Nat) : UInt64 := hsvH (q25 (colC unit base_ each i).1) (q25 (colC unit base_ each i).2.1) (q25 (colC unit base_ each i).2.2)
structure PlainAt (each unit base_ : Int) : Prop where
  rows : ∀ i : Nat, i < (6 * each).toNat → (0 ≤ (colC unit base_ each i).1 ∧ (colC unit base_ each i).1 < 2 ^ 60 ∧ 0 ≤ (colC unit base_ each i).2.1 ∧ (colC unit base_ each i).2.1 < 2 ^ 60 ∧ 0 ≤ (colC unit base_ each i).2.2 ∧ (colC unit base_ each i).2.2 < 2 ^ 60) ∧
    HsvOk (q25 (colC unit base_ each i).1) (q25 (colC unit base_ each i).2.1) (q25 (colC unit base_ each i).2.2)
  p1 : ∀ lo mi hi : Int, 0 ≤ lo → lo ≤ mi → mi ≤ hi → hi ≤ 2 ^ 25 → ∀ x y z g, Six lo mi hi x y z g → RingOK (spanOf lo hi) each (6 * each).toNat (hsT unit base_ each) x y z g
  p2 : ∀ at_ mo wh : Int, 0 ≤ at_ → at_ < ((6 * each).toNat : Int) → 1 ≤ mo → mo ≤ 2 ^ 44 → 0 ≤ wh → wh < 2 ^ 48 → BOk (colC unit base_ each) (hsT unit base_ each) (6 * each).toNat unit base_ at_ mo wh
def LawRet (L : Addr) (h₀ : Heap) (s : Shared) (Q : Flow → Shared → Prop) : Prop :=
  ∀ (u : Str → Option Value) (news : List (Addr × Obj)) h tk, Fr h₀ L h u → News h₀ L h news → Q (.ret (.bool true)) { s with heap := h, toks := tk }
section
set_option maxRecDepth 100000 in
set_option maxHeartbeats 8000000 in
theorem law_d : ∀ (w : World) (s₀ : Shared) (mg mb : Str → Option Value) (news : List (Addr × Obj)) 
  (dp un : Nat) (gd : Option (List Code)) (fa : Addr) (ccd : Value) (outer : List Env) (A₀ : Around) (base h₀ : Heap) (L : Addr) (m : Str → Option Value) (s : Shared) (Q : Flow → Shared → Prop) 
   (_ : Below A₀ base outer h₀) (_ : Fr h₀ L s.heap m) (_ : (Mine.hd.heap_39 w.params).In h₀)
   (_ : News h₀ L s.heap news) (_ : TopM s₀ mg mb h₀) (_ : LawRet L h₀ s Q),
   wpAny (model PySem.Challenge.rw_dn0051_01.row.prog w) (ktrTop dp un gd (Str.ofString "law") lawScope L fa ccd (cellsFrom (L + 1) lawScope.names []) outer) (execs lawD (envX (Str.ofString "law") lawScope L fa ccd (cellsFrom (L + 1) lawScope.names []))) Q (fun _ _ => False) s := by
  k_fill
  intro w s₀ mg mb news dp un gd fa ccd outer A₀ base h₀ L m s Q B F X N T ret
  conv in lawD => whnf
  generalize hsc : lawScope = sc
  conv at hsc => lhs; whnf
  dsimp only at hsc
  subst hsc
  k_steps
  exact ret _ _ _ _ F N
end
set_option maxHeartbeats 4000000 in
theorem law_run (PL : ∀ each unit base_ : Int, 1 ≤ each → each ≤ 16 → 1 ≤ unit → unit ≤ 2 ^ 20 → 0 ≤ base_ → base_ < 2 ^ 20 → PlainAt each unit base_)
  (w : World) (s₀ : Shared) (mg mb : Str → Option Value) (sc : Addr) (svs : List Value) (ns : List Int) (oW oM oP oS ob ou : Obj)
  (dp un : Nat) (gd : Option (List Code)) (fa : Addr) (ccd : Value) (outer : List Env) (A₀ : Around) (base h₀ : Heap) (L : Addr) (m : Str → Option Value) (s : Shared) (Q : Flow → Shared → Prop) 
   (B : Below A₀ base outer h₀) (F : Fr h₀ L s.heap (kstB m [(Str.ofString "script", .ref sc)])) (X : (Mine.hd.heap_39 w.params).In h₀)
   (N : News h₀ L s.heap [(L + 6, oW), (L + 5, oM), (L + 4, oP), (L + 3, oS), (L + 2, ob), (L + 1, ou)]) (cW : isCell oW) (cM : isCell oM) (cP : isCell oP) (cS : isCell oS) (cb : isCell ob) (cu : isCell ou) (hl : h₀.IsList sc svs.toArray)
   (hI : IntsAre svs ns) (hn : ns.length ≤ 63) (T : TopM s₀ mg mb h₀)
   (hd : dp + 5 < recursionLimit) (hu : un + 64 < cLine) (ret : LawRet L h₀ s Q) :
   wpAny (model PySem.Challenge.rw_dn0051_01.row.prog w) (ktrTop dp un gd (Str.ofString "law") lawScope L fa ccd (cellsFrom (L + 1) lawScope.names []) outer) (execs lawBody (envX (Str.ofString "law") lawScope L fa ccd (cellsFrom (L + 1) lawScope.names []))) Q (fun _ _ => False) s := by
  obtain ⟨vb, cb⟩ := cb
  obtain ⟨vu, cu⟩ := cu
  rw [law_split]
  refine execs_app (law_a w s₀ mg mb sc svs ns oW oM oP oS ob ou dp un gd fa ccd outer A₀ base h₀ L m s _ B F X N hl hI hn T hd hu ?a)
  intro D ws f tf h tk hf iD hLD F1 N1
  dsimp only
  have f1 : ∀ p ∈ [(Str.ofString "first", Value.int f tf)], (fun y => if y = Str.ofString "first" then some (Value.int f tf) else if y = Str.ofString "script" then some (.ref D) else kstB m [(Str.ofString "script", .ref sc)] y) p.1 = some p.2 := by
    intro p hp
    simp only [List.mem_cons, List.not_mem_nil, or_false] at hp
    subst hp; rfl
  refine execs_app (law_b w s₀ mg mb D (listOf ws.toArray 0) f tf oW oM oP oS ob ou vb vu dp un gd fa ccd outer A₀ base h₀ L _ _ _ B (kstB_self F1 f1) X N1 cb cu hLD T hd hu ?b)
  intro tb st te t1 t2 tU tB ob2 ou2 h2 tk2 hDt hts hb2 hu2 F2 N2
  dsimp only
  rw [kstB_same f1] at F2
  have e1 : 1 ≤ eachOf f := by unfold eachOf; have := Int.fmod_nonneg_of_pos (f + 4) (show (0 : Int) < 16 by decide); omega
  have e2 : eachOf f ≤ 16 := by unfold eachOf; have := Int.fmod_lt_of_pos (f + 4) (show (0 : Int) < 16 by decide); omega
  have p20 : (2 ^ Int.toNat 20 : Int) = 2 ^ 20 := rfl
  have un1 : 1 ≤ unitOf f := by unfold unitOf; have := Int.fmod_nonneg_of_pos (f.fdiv 16) (show (0 : Int) < 2 ^ Int.toNat 20 by decide); omega
  have un2 : unitOf f ≤ 2 ^ 20 := by unfold unitOf; have := Int.fmod_lt_of_pos (f.fdiv 16) (show (0 : Int) < 2 ^ Int.toNat 20 by decide); omega
  have ba1 : 0 ≤ baseOf f := Int.fmod_nonneg_of_pos _ (by decide)
  have ba2 : baseOf f < 2 ^ 20 := by have := Int.fmod_lt_of_pos (f.fdiv (2 ^ Int.toNat 24)) (show (0 : Int) < 2 ^ Int.toNat 20 by decide); unfold baseOf; omega
  have pl := PL _ _ _ e1 e2 un1 un2 ba1 ba2
  obtain ⟨m2, F2, w1, w2, w3, w4⟩ : ∃ m2, Fr h₀ L h2 m2 ∧ m2 (Str.ofString "table") = some (.ref tb) ∧ m2 (Str.ofString "steps") = some (.ref st) ∧ m2 (Str.ofString "each") = some (.int (eachOf f) te) ∧ m2 (Str.ofString "script") = some (.ref D) := ⟨_, F2, rfl, rfl, rfl, rfl⟩
  have f2 : ∀ p ∈ [(Str.ofString "table", Value.ref tb), (Str.ofString "steps", .ref st), (Str.ofString "each", .int (eachOf f) te)], m2 p.1 = some p.2 := by
    intro p hp
    simp only [List.mem_cons, List.not_mem_nil, or_false] at hp
    rcases hp with rfl | rfl | rfl
    · exact w1
    · exact w2
    · exact w3
  refine wpAny_execs_cons (table_stmt w s₀ mg mb tb st (unitOf f) (baseOf f) (eachOf f) te tU tB [(D, listOf ws.toArray 0), (L + 6, oW), (L + 5, oM), (L + 4, oP), (L + 3, oS)] ob2 ou2 0 0 te t1 t2 dp un gd fa ccd outer A₀ base h₀ L _ _ _ B (kstB_self F2 f2) X (news_sub N2 ?c1) hb2 hu2 T (by omega) (by omega) e1 e2 un1 un2 ba1 (by omega) ?c2 hts ?c3 ?c4 ?c5)
  case c1 =>
    intro p hp
    simp only [List.mem_cons, List.not_mem_nil, or_false] at hp ⊢
    grind
  case c2 => exact Nat.lt_trans hLD hDt
  case c3 =>
    intro p hp
    have h1 := ltN hLD
    have h2 := ltN hDt
    simp only [List.mem_cons, List.not_mem_nil, or_false] at hp
    rcases hp with rfl | rfl | rfl | rfl | rfl <;> exact neN (by dsimp only; omega)
  case c4 =>
    intro p hp
    have h1 := ltN hLD
    have h2 := ltN hDt
    have h3 := ltN hts
    simp only [List.mem_cons, List.not_mem_nil, or_false] at hp
    rcases hp with rfl | rfl | rfl | rfl | rfl <;> exact neN (by dsimp only; omega)
  case c5 =>
    intro u3 rs rows kt h3 tk3 hTI hne3 hap3 F3 N3
    dsimp only
    obtain ⟨m3, F3, w5, w6, w7⟩ : ∃ m3, Fr h₀ L h3 m3 ∧ m3 (Str.ofString "table") = some (.ref tb) ∧ m3 (Str.ofString "each") = some (.int (eachOf f) te) ∧ m3 (Str.ofString "script") = some (.ref D) := ⟨_, F3, rfl, rfl, w4⟩
    have f3 : ∀ p ∈ [(Str.ofString "script", Value.ref D)], m3 p.1 = some p.2 := by
      intro p hp
      simp only [List.mem_cons, List.not_mem_nil, or_false] at hp
      subst hp
      exact w7
    refine execs_app (law_c w s₀ mg mb D ws (ns.take 10) 0 ((tb, listOf (rs.map Value.ref).toArray kt) :: (L + 6, oW) :: (L + 5, oM) :: (L + 4, oP) :: (L + 3, oS) :: (L + 2, ob2) :: (L + 1, ou2) :: rows) dp un gd fa ccd outer A₀ base h₀ L _ _ _ B (kstB_self F3 f3) X (news_sub N3 ?d1) iD (by simp; omega) T hd hu ?d2)
    case d1 =>
      intro p hp
      simp only [List.mem_cons, List.mem_append, List.not_mem_nil, or_false] at hp ⊢
      grind
    case d2 =>
      intro ce cvs h4 tk4 iC hce F4 N4
      dsimp only
      rw [kstB_same f3] at F4
      have hclen : ([307, 400, 900] ++ (ns.take 10).drop 1 ++ [0, 0] : List Int).length = 5 + ((ns.take 10).length - 1) := by simp; omega
      have h10 : (ns.take 10).length ≤ 10 := by simp; omega
      have f4 : ∀ p ∈ [(Str.ofString "cells", Value.ref ce), (Str.ofString "each", .int (eachOf f) te), (Str.ofString "table", .ref tb)], (fun y => if y = Str.ofString "cells" then some (.ref ce) else m3 y) p.1 = some p.2 := by
        intro p hp
        simp only [List.mem_cons, List.not_mem_nil, or_false] at hp
        rcases hp with rfl | rfl | rfl
        · rfl
        · exact w6
        · exact w5
      have hn6 : 6 * (eachOf f).toNat = (6 * eachOf f).toNat := by omega
      have hC : TabC ((tb, listOf (rs.map Value.ref).toArray kt) :: rows) tb (6 * eachOf f).toNat (colC (unitOf f) (baseOf f) (eachOf f)) := by
        refine ⟨rs, kt, hTI.1.trans hn6, .head _, fun i r h => ?_⟩
        obtain ⟨tx, ty, tz, k9, h9⟩ := hTI.2 i r h
        exact ⟨tx, ty, tz, k9, .tail _ h9⟩
      have hT : TabOk ((tb, listOf (rs.map Value.ref).toArray kt) :: rows) tb (6 * eachOf f).toNat (hsT (unitOf f) (baseOf f) (eachOf f)) := by
        refine ⟨rs, kt, hTI.1.trans hn6, .head _, fun i r h => ?_⟩
        obtain ⟨tx, ty, tz, k9, h9⟩ := hTI.2 i r h
        have hi : i < (6 * eachOf f).toNat := by
          have := (List.getElem?_eq_some_iff.mp h).1
          rw [hTI.1] at this
          omega
        exact ⟨_, _, _, tx, ty, tz, k9, .tail _ h9, (pl.rows i hi).1, (pl.rows i hi).2, rfl⟩
      have hLr : ∀ p ∈ (tb, listOf (rs.map Value.ref).toArray kt) :: rows, p.1 ≠ L + 3 ∧ p.1 ≠ L + 4 ∧ p.1 ≠ L + 5 ∧ p.1 ≠ L + 6 := by
        intro p hp
        rcases List.mem_cons.mp hp with rfl | hp
        · have h1 := ltN hLD
          have h2 := ltN hDt
          exact ⟨neN (by dsimp only; omega), neN (by dsimp only; omega), neN (by dsimp only; omega), neN (by dsimp only; omega)⟩
        · exact ⟨hap3 p hp (L + 3, oS) (.tail _ (.tail _ (.tail _ (.tail _ (.head _))))), hap3 p hp (L + 4, oP) (.tail _ (.tail _ (.tail _ (.head _)))), hap3 p hp (L + 5, oM) (.tail _ (.tail _ (.head _))), hap3 p hp (L + 6, oW) (.tail _ (.head _))⟩
      refine wpAny_execs_cons (outer_stmt w s₀ mg mb ce tb (eachOf f) (unitOf f) (baseOf f) te tU tB 0 (6 * eachOf f).toNat cvs _ (hsT (unitOf f) (baseOf f) (eachOf f)) (colC (unitOf f) (baseOf f) (eachOf f)) ((tb, listOf (rs.map Value.ref).toArray kt) :: rows) oW oM oP oS ob2 ou2 dp un gd fa ccd outer A₀ base h₀ L _ _ _ B (kstB_self F4 f4) X (news_sub N4 ?g1) cW cM cP cS hb2 hu2 iC T (by omega) (by omega) hLr ?g2 (by rw [hclen]; omega) (by rw [hclen]; omega) e1 e2 un1 un2 ba1 (by omega) rfl hT hC pl.p1 pl.p2 ?g3)
      case g1 =>
        intro p hp
        simp only [List.mem_cons] at hp ⊢
        grind
      case g2 => exact hce (L + 6, oW) (.tail _ (.head _))
      case g3 =>
        intro u5 news5 h5 tk5 F5 N5
        dsimp only
        exact law_d w s₀ mg mb news5 dp un gd fa ccd outer A₀ base h₀ L u5 _ Q B F5 X N5 T (fun u6 n6 h6 tk6 F6 N6 => ret u6 n6 h6 tk6 F6 N6)
end Mine
end
section
open PySem PySem.W PyProof.Rows
namespace Mine
set_option maxRecDepth 100000 in
set_option maxHeartbeats 8000000 in
theorem law_holds (PLs : ∀ each unit base_ : Int, 1 ≤ each → each ≤ 16 → 1 ≤ unit → unit ≤ 2 ^ 20 → 0 ≤ base_ → base_ < 2 ^ 20 → Mine.PlainAt each unit base_) : PySem.Challenge.rw_dn0051_01.Holds := Mine.hd (by
  k_go0
  rename Fr _ _ _ _ => F
  rename News _ _ _ _ => N
  rename IntsAre _ _ => hI
  rename Top _ _ _ _ _ _ => T
  rename Frag.In _ _ => KX
  rename Heap.IsList _ _ _ => hL
  refine wpAny_mono (Mine.law_run PLs _ _ _ _ _ _ _ _ _ _ _ _ _ _ _ _ _ _ _ _ _ _ _ _ _ _ (below_caller _) (Mine.kstB_self F ?zf) KX N ?zc1 ?zc2 ?zc3 ?zc4 ?zc5 ?zc6 hL hI ?zn T ?zd ?zu ?zr) (fun _ _ q => q) (fun _ _ q => q.elim)
  case zf =>
    intro p hp
    simp only [List.mem_cons, List.not_mem_nil, or_false] at hp
    subst hp
    rfl
  case zc1 => exact ⟨_, by assumption⟩
  case zc2 => exact ⟨_, by assumption⟩
  case zc3 => exact ⟨_, by assumption⟩
  case zc4 => exact ⟨_, by assumption⟩
  case zc5 => exact ⟨_, by assumption⟩
  case zc6 => exact ⟨_, by assumption⟩
  case zn => omega
  case zd => decide
  case zu => decide
  case zr =>
    intro u' news' h' tk' F' N'
    dsimp only
    clear F N
    wrow_close)
end Mine
end
section
namespace Mine
open PySem PySem.Float64
def Fv (x : UInt64) (s : Bool) (W : Nat) : Prop := ∃ t, t < infMag ∧ x = pack s t ∧ V t = W
def IsV (W : Nat) : Prop := ∃ t, t < infMag ∧ V t = W
theorem V_inj {t t' : Nat} (h : V t = V t') : t = t' := by
  rcases Nat.lt_trichotomy t t' with h1 | h1 | h1
  · have := V_lt h1; omega
  · exact h1
  · have := V_lt h1; omega
theorem Fv.uniq {x y : UInt64} {s : Bool} {W : Nat} (h : Fv x s W) (h' : Fv y s W) : x = y := by
  obtain ⟨t, _, hx, hV⟩ := h
  obtain ⟨t', _, hy, hV'⟩ := h'
  rw [hx, hy, V_inj (hV.trans hV'.symm)]
theorem Fv.dec {x : UInt64} {s : Bool} {W : Nat} (h : Fv x s W) : ∃ m e, decode x = .fin s m e ∧ m * 2 ^ (e + 1074).toNat = W := by
  obtain ⟨t, ht, hx, hV⟩ := h
  rw [hx, ← hV]
  exact decode_pack s ht
theorem Fv.val {x : UInt64} {s : Bool} {W : Nat} (h : Fv x s W) : val x = sgn s W := by
  obtain ⟨t, ht, hx, hV⟩ := h
  rw [hx, ← hV]
  exact val_pack s ht
theorem Fv.isV {x : UInt64} {s : Bool} {W : Nat} (h : Fv x s W) : IsV W := by
  obtain ⟨t, ht, hx, hV⟩ := h
  exact ⟨t, ht, hV⟩
theorem V_top : V (infMag - 1) = (2 ^ 53 - 1) * 2 ^ 2045 := by
  have e : infMag - 1 = 2045 * 2 ^ 52 + (2 ^ 53 - 1) := by unfold infMag; omega
  rw [e]
  exact V_at (k := 2045) (q := 2 ^ 53 - 1) (by omega) (.inl (by omega))
theorem right_exact {r : UInt64} {s : Bool} {W D U : Nat} (h : Right r s W D) (hD : 0 < D) (hU : IsV U) (hW : W = D * U) : Fv r s U := by
  obtain ⟨t0, hr, hle, hinf, hnear⟩ := h
  obtain ⟨t, ht, hV⟩ := hU
  have h1 : t0 ≠ infMag := by
    intro h
    have h2 := hinf.mp h
    have h3 : U ≤ (2 ^ 53 - 1) * 2 ^ 2045 := by
      rw [← V_top, ← hV]
      exact V_mono (by omega)
    rw [hW] at h2
    have h4 : D * U ≤ D * ((2 ^ 53 - 1) * 2 ^ 2045) := Nat.mul_le_mul_left _ h3
    have h5 : D * ((2 ^ 54 - 1) * 2 ^ 2045) = 2 * (D * ((2 ^ 53 - 1) * 2 ^ 2045)) + D * 2 ^ 2045 := by
      generalize (2 : Nat) ^ 2045 = K
      have : (2 ^ 54 - 1) * K = 2 * ((2 ^ 53 - 1) * K) + K := by omega
      rw [this, Nat.mul_add]
      congr 1
      generalize (2 ^ 53 - 1) * K = Z
      rw [Nat.mul_left_comm]
    have h6 : 0 < D * 2 ^ 2045 := Nat.mul_pos hD (Nat.two_pow_pos _)
    generalize D * ((2 ^ 53 - 1) * 2 ^ 2045) = X at *
    generalize D * ((2 ^ 54 - 1) * 2 ^ 2045) = Y at *
    omega
  have h2 : t0 < infMag := by omega
  have h3 := (hnear h2 t).1
  rw [hV, hW] at h3
  have h4 : D * V t0 = D * U := by
    unfold dist at h3
    omega
  exact ⟨t0, h2, hr, Nat.eq_of_mul_eq_mul_left hD h4⟩
theorem right_uniq {r r' : UInt64} {s : Bool} {W D : Nat} (h : Right r s W D) (h' : Right r' s W D) (hD : 0 < D) : r = r' := by
  have key : ∀ t t', t < t' → (∀ u, dist W (D * V t) ≤ dist W (D * V u) ∧ (V u ≠ V t → dist W (D * V t) = dist W (D * V u) → t % 2 = 0)) →
      (∀ u, dist W (D * V t') ≤ dist W (D * V u) ∧ (V u ≠ V t' → dist W (D * V t') = dist W (D * V u) → t' % 2 = 0)) → False := by
    intro t t' hlt h1 h2
    have a1 := (h1 t').1
    have a2 := (h2 t).1
    have a3 := (h1 (t + 1)).1
    have hv : V t < V t' := V_lt hlt
    have e1 := (h1 t').2 (by omega) (by omega)
    have e2 := (h2 t).2 (by omega) (by omega)
    have hm : D * V t < D * V (t + 1) := Nat.mul_lt_mul_of_pos_left (V_succ t) hD
    have hlt2 : t + 1 < t' := by omega
    have hm2 : D * V (t + 1) < D * V t' := Nat.mul_lt_mul_of_pos_left (V_lt hlt2) hD
    unfold dist at *
    omega
  obtain ⟨t, hr, hle, hinf, hnear⟩ := h
  obtain ⟨t', hr', hle', hinf', hnear'⟩ := h'
  by_cases hi : D * ((2 ^ 54 - 1) * 2 ^ 2045) ≤ 2 * W
  · rw [hr, hr', hinf.mpr hi, hinf'.mpr hi]
  · have h1 : t ≠ infMag := fun h => hi (hinf.mp h)
    have h2 : t' ≠ infMag := fun h => hi (hinf'.mp h)
    rcases Nat.lt_trichotomy t t' with h3 | h3 | h3
    · exact (key t t' h3 (hnear (by omega)) (hnear' (by omega))).elim
    · rw [hr, hr', h3]
    · exact (key t' t h3 (hnear' (by omega)) (hnear (by omega))).elim
theorem isV_of {N k : Nat} (hN : N < 2 ^ 53) (hk : k ≤ 2000) : IsV (N * 2 ^ k) := by
  induction k generalizing N with
  | zero =>
    refine ⟨0 * 2 ^ 52 + N, by unfold infMag; omega, ?_⟩
    exact V_at (by omega) (.inr rfl)
  | succ k ih =>
    by_cases h : 2 ^ 52 ≤ N
    · exact ⟨(k + 1) * 2 ^ 52 + N, by unfold infMag; omega, V_at (by omega) (.inl h)⟩
    · have := ih (N := 2 * N) (by omega) (by omega)
      rwa [Nat.mul_comm 2 N, Nat.mul_assoc, Nat.mul_comm 2, ← Nat.pow_succ] at this
theorem isV_of' {N k : Nat} (hN : N ≤ 2 ^ 53) (hk : k ≤ 1999) : IsV (N * 2 ^ k) := by
  by_cases h : N < 2 ^ 53
  · exact isV_of h (by omega)
  · have e : N = 2 ^ 52 * 2 := by omega
    have := isV_of (N := 2 ^ 52) (k := k + 1) (by omega) (by omega)
    rw [e, Nat.mul_assoc, Nat.mul_comm 2, ← Nat.pow_succ]
    exact this
theorem right_near {r : UInt64} {s : Bool} {W D : Nat} (h : Right r s W D) (hD : 0 < D) (hW : W ≤ D * (8 * 2 ^ 1074)) : ∃ U, Fv r s U ∧ dist W (D * U) ≤ D * 2 ^ 1023 := by
  obtain ⟨t0, hr, hle, hinf, hnear⟩ := h
  have hT : (8 * 2 ^ 1074 : Nat) = 2 ^ 53 * (2 * 2 ^ 1023) := by
    rw [show (1074 : Nat) = 51 + 1023 from rfl, Nat.pow_add]
    omega
  have h1 : t0 ≠ infMag := by
    intro h
    have h2 := hinf.mp h
    have h3 : (2 ^ 54 - 1) * 2 ^ 2045 = (2 ^ 54 - 1) * 2 ^ 968 * (2 ^ 1077) := by
      rw [Nat.mul_assoc, ← Nat.pow_add]
    have h4 : (8 * 2 ^ 1074 : Nat) = 2 ^ 1077 := by
      rw [show (1077 : Nat) = 3 + 1074 from rfl, Nat.pow_add]
    rw [h3] at h2
    rw [h4] at hW
    have h5 : 3 ≤ (2 ^ 54 - 1) * 2 ^ 968 := by
      have := Nat.two_pow_pos 968
      generalize 2 ^ 968 = K at *
      omega
    have h6 : D * (3 * 2 ^ 1077) ≤ D * ((2 ^ 54 - 1) * 2 ^ 968 * 2 ^ 1077) := Nat.mul_le_mul_left _ (Nat.mul_le_mul_right _ h5)
    have h7 : D * (3 * 2 ^ 1077) = 3 * (D * 2 ^ 1077) := by rw [Nat.mul_left_comm]
    have h8 : 0 < D * 2 ^ 1077 := Nat.mul_pos hD (Nat.two_pow_pos _)
    generalize D * ((2 ^ 54 - 1) * 2 ^ 968 * 2 ^ 1077) = Y at *
    generalize D * 2 ^ 1077 = X at *
    omega
  have h2 : t0 < infMag := by omega
  rw [hT] at hW
  have hE : 0 < D * 2 ^ 1023 := Nat.mul_pos hD (Nat.two_pow_pos _)
  have hN : IsV ((W + D * 2 ^ 1023) / (2 * (D * 2 ^ 1023)) * 2 ^ 1024) := by
    refine isV_of' ?_ (by decide)
    have e : D * (2 ^ 53 * (2 * 2 ^ 1023)) = 2 ^ 53 * (2 * (D * 2 ^ 1023)) := by
      generalize (2 : Nat) ^ 1023 = K
      generalize (2 : Nat) ^ 53 = K2
      ac_rfl
    rw [e] at hW
    generalize D * 2 ^ 1023 = X at *
    apply Nat.le_of_lt_succ
    rw [Nat.div_lt_iff_lt_mul (by omega)]
    omega
  obtain ⟨t, ht, hV⟩ := hN
  have h3 := (hnear h2 t).1
  refine ⟨V t0, ⟨t0, h2, hr, rfl⟩, Nat.le_trans h3 ?_⟩
  rw [hV]
  have e : D * ((W + D * 2 ^ 1023) / (2 * (D * 2 ^ 1023)) * 2 ^ 1024) = (2 * (D * 2 ^ 1023)) * ((W + D * 2 ^ 1023) / (2 * (D * 2 ^ 1023))) := by
    generalize (W + D * 2 ^ 1023) / (2 * (D * 2 ^ 1023)) = Q
    rw [show (1024 : Nat) = 1023 + 1 from rfl, Nat.pow_succ]
    generalize (2 : Nat) ^ 1023 = K
    ac_rfl
  rw [e]
  generalize D * 2 ^ 1023 = X at *
  have := Nat.div_add_mod (W + X) (2 * X)
  have := Nat.mod_lt (W + X) (show 0 < 2 * X by omega)
  unfold dist
  omega
theorem Fv.neg {x : UInt64} {s : Bool} {W : Nat} (h : Fv x s W) : ∃ m e, decode (neg x) = .fin (!s) m e := by
  obtain ⟨m, e, h1, _⟩ := h.dec
  exact ⟨m, e, neg_decode h1⟩
theorem Fv.isZero {x : UInt64} {s : Bool} {W : Nat} (h : Fv x s W) : isZero x = decide (W = 0) := by
  obtain ⟨m, e, h1, h2⟩ := h.dec
  unfold Float64.isZero
  rw [h1]
  have := Nat.two_pow_pos (e + 1074).toNat
  cases m with
  | zero => simp at h2; simp [← h2]
  | succ n =>
    have : W ≠ 0 := by
      rw [← h2]
      exact Nat.ne_of_gt (Nat.mul_pos (by omega) this)
    simp [this]
theorem Fv.cmp {x y : UInt64} {s s' : Bool} {W W' : Nat} (h : Fv x s W) (h' : Fv y s' W') : cmp x y = some (compare (sgn s W) (sgn s' W')) := by
  obtain ⟨m, e, h1, _⟩ := h.dec
  obtain ⟨m', e', h1', _⟩ := h'.dec
  rw [cmp_right h1 h1', h.val, h'.val]
theorem fv_zero (s : Bool) : Fv (zero s) s 0 := ⟨0, by unfold infMag; omega, rfl, V_zero⟩
end Mine
end
section
namespace Mine
open PySem PySem.Float64
def TT : Nat := 2 ^ 1074
def EE : Nat := 2 ^ 1023
theorem TE : TT = 2251799813685248 * EE := by
  unfold TT EE
  rw [show (1074 : Nat) = 51 + 1023 from rfl, Nat.pow_add]
theorem EE_pos : 0 < EE := Nat.two_pow_pos _
theorem near {r : UInt64} {s : Bool} {W D : Nat} (h : Right r s W D) (hD : 0 < D) (hW : W ≤ D * (8 * TT)) : ∃ U, Fv r s U ∧ dist W (D * U) ≤ D * EE := by
  unfold TT at hW
  unfold EE
  exact right_near h hD hW
theorem near1 {r : UInt64} {s : Bool} {W : Nat} (h : Right r s W 1) (hW : W ≤ 8 * TT) : ∃ U, Fv r s U ∧ dist W U ≤ EE := by
  obtain ⟨U, h1, h2⟩ := near h (by decide) (by omega)
  exact ⟨U, h1, by simpa using h2⟩
theorem fv_const {x : UInt64} (k q : Nat) (hq : q < 2 ^ 53) (hq2 : 2 ^ 52 ≤ q) (hk : k ≤ 2000) (hx : x = pack false (k * 2 ^ 52 + q)) {W : Nat} (hW : q * 2 ^ k = W) : Fv x false W :=
  ⟨k * 2 ^ 52 + q, by unfold infMag; omega, hx, by rw [V_at (by omega) (.inl hq2), hW]⟩
theorem fv_one : Fv 0x3ff0000000000000 false TT := fv_const 1022 (2 ^ 52) (by decide) (by decide) (by decide) (by decide) (by
  unfold TT; rw [← Nat.pow_add])
theorem fv_two : Fv 0x4000000000000000 false (2 * TT) := fv_const 1023 (2 ^ 52) (by decide) (by decide) (by decide) (by decide) (by
  unfold TT; rw [← Nat.pow_add, show (52 + 1023 : Nat) = 1 + 1074 from rfl, Nat.pow_add])
theorem fv_four : Fv 0x4010000000000000 false (4 * TT) := fv_const 1024 (2 ^ 52) (by decide) (by decide) (by decide) (by decide) (by
  unfold TT; rw [← Nat.pow_add, show (52 + 1024 : Nat) = 2 + 1074 from rfl, Nat.pow_add])
theorem fv_six : Fv 0x4018000000000000 false (6 * TT) := fv_const 1024 (6 * 2 ^ 50) (by decide) (by decide) (by decide) (by decide) (by
  unfold TT; rw [Nat.mul_assoc, ← Nat.pow_add])
theorem ltF_sg {x y : UInt64} {s s' : Bool} {X Y : Nat} (hx : Fv x s X) (hy : Fv y s' Y) : ltF x y = decide (sgn s X < sgn s' Y) := by
  unfold ltF
  rw [hx.cmp hy]
  rcases Int.lt_trichotomy (sgn s X) (sgn s' Y) with h | h | h
  · rw [Int.compare_eq_lt.mpr h, decide_eq_true h]; rfl
  · rw [Int.compare_eq_eq.mpr h, decide_eq_false (by omega)]; rfl
  · rw [Int.compare_eq_gt.mpr h, decide_eq_false (by omega)]; rfl
theorem ltF_fv {x y : UInt64} {X Y : Nat} (hx : Fv x false X) (hy : Fv y false Y) : ltF x y = decide (X < Y) := by
  rw [ltF_sg hx hy]
  unfold sgn
  simp
theorem eqF_fv {x y : UInt64} {X Y : Nat} (hx : Fv x false X) (hy : Fv y false Y) : eqF x y = decide (X = Y) := by
  unfold eqF
  rw [hx.cmp hy]
  have e1 : sgn false X = (X : Int) := rfl
  have e2 : sgn false Y = (Y : Int) := rfl
  rw [e1, e2]
  rcases Nat.lt_trichotomy X Y with h | h | h
  · rw [Int.compare_eq_lt.mpr (by omega), decide_eq_false (by omega)]; rfl
  · rw [Int.compare_eq_eq.mpr (by omega), decide_eq_true (by omega)]; rfl
  · rw [Int.compare_eq_gt.mpr (by omega), decide_eq_false (by omega)]; rfl
theorem sub_pos {x y : UInt64} {X Y : Nat} (hx : Fv x false X) (hy : Fv y false Y) (h : Y < X) : Right (sub x y) false (X - Y) 1 := by
  obtain ⟨m, e, h1, _⟩ := hx.dec
  obtain ⟨m', e', h1', _⟩ := hy.dec
  have hv1 := hx.val
  have hv2 := hy.val
  have hv : val x - val y = (X : Int) - (Y : Int) := by rw [hv1, hv2]; rfl
  have := (sub_right h1 h1').2 (by omega)
  rw [hv, decide_eq_false (by omega), show ((X : Int) - (Y : Int)).natAbs = X - Y by omega] at this
  exact this
theorem sub_neg {x y : UInt64} {X Y : Nat} (hx : Fv x false X) (hy : Fv y false Y) (h : X < Y) : Right (sub x y) true (Y - X) 1 := by
  obtain ⟨m, e, h1, _⟩ := hx.dec
  obtain ⟨m', e', h1', _⟩ := hy.dec
  have hv1 := hx.val
  have hv2 := hy.val
  have hv : val x - val y = (X : Int) - (Y : Int) := by rw [hv1, hv2]; rfl
  have := (sub_right h1 h1').2 (by omega)
  rw [hv, decide_eq_true (by omega), show ((X : Int) - (Y : Int)).natAbs = Y - X by omega] at this
  exact this
theorem sub_same {x y : UInt64} {X : Nat} (hx : Fv x false X) (hy : Fv y false X) : sub x y = zero false := by
  obtain ⟨m, e, h1, _⟩ := hx.dec
  obtain ⟨m', e', h1', _⟩ := hy.dec
  have hv1 := hx.val
  have hv2 := hy.val
  exact (sub_right h1 h1').1 (by rw [hv1, hv2]; omega)
theorem sub_ge {x y : UInt64} {X Y : Nat} (hx : Fv x false X) (hy : Fv y false Y) (h : Y ≤ X) (hX : X ≤ 8 * TT) : ∃ H, Fv (sub x y) false H ∧ dist (X - Y) H ≤ EE := by
  by_cases e : Y = X
  · subst e
    refine ⟨0, ?_, by unfold dist; omega⟩
    rw [sub_same hx hy]
    exact fv_zero false
  · exact near1 (sub_pos hx hy (by omega)) (by omega)
theorem sub_exact {x y : UInt64} {X Y : Nat} (hx : Fv x false X) (hy : Fv y false Y) (h : Y ≤ X) (hV : IsV (X - Y)) : Fv (sub x y) false (X - Y) := by
  by_cases e : Y = X
  · subst e
    rw [sub_same hx hy, Nat.sub_self]
    exact fv_zero false
  · exact right_exact (sub_pos hx hy (by omega)) (by decide) hV (by omega)
theorem add_pos {x y : UInt64} {X Y : Nat} (hx : Fv x false X) (hy : Fv y false Y) (h : 0 < X + Y) : Right (add x y) false (X + Y) 1 := by
  obtain ⟨m, e, h1, _⟩ := hx.dec
  obtain ⟨m', e', h1', _⟩ := hy.dec
  have hv1 := hx.val
  have hv2 := hy.val
  have hv : val x + val y = (X : Int) + (Y : Int) := by rw [hv1, hv2]; rfl
  have := (add_right h1 h1').2 (by omega)
  rw [hv, decide_eq_false (by omega), show ((X : Int) + (Y : Int)).natAbs = X + Y by omega] at this
  exact this
theorem add_np {x y : UInt64} {X Y : Nat} (hx : Fv x true X) (hy : Fv y false Y) (h : X < Y) : Right (add x y) false (Y - X) 1 := by
  obtain ⟨m, e, h1, _⟩ := hx.dec
  obtain ⟨m', e', h1', _⟩ := hy.dec
  have hv1 := hx.val
  have hv2 := hy.val
  have hv : val x + val y = -(X : Int) + (Y : Int) := by rw [hv1, hv2]; rfl
  have := (add_right h1 h1').2 (by omega)
  rw [hv, decide_eq_false (by omega), show (-(X : Int) + (Y : Int)).natAbs = Y - X by omega] at this
  exact this
theorem div_fv {x y : UInt64} {a b : Bool} {X Y : Nat} (hx : Fv x a X) (hy : Fv y b Y) (h : 0 < Y) : Right (div x y) (a != b) (X * TT) Y := by
  obtain ⟨m, e, h1, h2⟩ := hx.dec
  obtain ⟨m', e', h1', h2'⟩ := hy.dec
  have := div_right h1 h1' (by intro h0; rw [h0, Nat.zero_mul] at h2'; omega)
  rw [val_natAbs h1, val_natAbs h1', h2, h2'] at this
  exact this
theorem fmod_fv {x y : UInt64} {a : Bool} {X Y : Nat} (hx : Fv x a X) (hy : Fv y false Y) (h : X < Y) : fmod x y = x := by
  obtain ⟨m, e, h1, h2⟩ := hx.dec
  obtain ⟨k, f, h1', h2'⟩ := hy.dec
  have he := decode_ge h1
  have hf := decode_ge h1'
  have hk : k ≠ 0 := by intro h0; rw [h0, Nat.zero_mul] at h2'; omega
  have hm : fmod x y = ofBin a (m * 2 ^ (e - min e f).toNat % (k * 2 ^ (f - min e f).toNat)) (min e f) := by
    unfold fmod
    rw [h1, h1']
    simp only [align]
    rw [if_neg (by simpa using hk)]
    simp only [sgn, Bool.false_eq_true, if_false, Int.toNat_natCast]
  have e1 : m * 2 ^ (e - min e f).toNat * 2 ^ (min e f + 1074).toNat = X := by
    rw [Nat.mul_assoc, ← Nat.pow_add, show (e - min e f).toNat + (min e f + 1074).toNat = (e + 1074).toNat by omega, h2]
  have e2 : k * 2 ^ (f - min e f).toNat * 2 ^ (min e f + 1074).toNat = Y := by
    rw [Nat.mul_assoc, ← Nat.pow_add, show (f - min e f).toNat + (min e f + 1074).toNat = (f + 1074).toNat by omega, h2']
  have hlt : m * 2 ^ (e - min e f).toNat < k * 2 ^ (f - min e f).toNat := by
    rw [← e1, ← e2] at h
    exact Nat.lt_of_mul_lt_mul_right h
  rw [hm, Nat.mod_eq_of_lt hlt]
  have hr := ofBin_right (neg := a) (M := m * 2 ^ (e - min e f).toNat) (g := min e f) (by omega)
  rw [e1] at hr
  exact (right_exact hr (by decide) hx.isV (by omega)).uniq hx
theorem div6 {h : UInt64} {a : Bool} {H : Nat} (hh : Fv h a H) (hb : H ≤ 8 * TT) : ∃ G, Fv (div h 0x4018000000000000) a G ∧ dist H (6 * G) ≤ 6 * EE := by
  have hT : 0 < TT := Nat.two_pow_pos _
  have hr := div_fv hh fv_six (by omega)
  rw [show (a != false) = a by cases a <;> rfl] at hr
  obtain ⟨G, hG, hd⟩ := near hr (by omega) (by
    rw [Nat.mul_comm H TT, Nat.mul_assoc 6, Nat.mul_left_comm]
    exact Nat.mul_le_mul_left _ (by omega))
  refine ⟨G, hG, ?_⟩
  rw [Nat.mul_comm H TT, Nat.mul_comm 6 TT, Nat.mul_assoc, Nat.mul_assoc, dist_mul] at hd
  exact Nat.le_of_mul_le_mul_left hd hT
theorem copy0 : copysign (zero false) 0x3ff0000000000000 = zero false := by
  have h1 : isNaN (zero false) = false := by
    obtain ⟨m, e, h, _⟩ := (fv_zero false).dec
    unfold isNaN
    rw [h]
  have h2 : signBit 0x3ff0000000000000 = false := by
    obtain ⟨t, ht, hx, _⟩ := fv_one
    have hi : infMag = 2047 * 2 ^ 52 := rfl
    unfold signBit
    rw [hx, pack_toNat false (by omega)]
    simp
    omega
  have h3 : (zero false).toNat = 0 := by
    unfold zero
    rw [pack_toNat false (by decide)]
    rfl
  unfold copysign
  rw [h1, h2, h3]
  rfl
theorem lt10 : lt 0x3ff0000000000000 (zero false) = false := by
  have := ltF_fv fv_one (fv_zero false)
  rw [decide_eq_false (by omega)] at this
  exact this
theorem tail_pos {h : UInt64} {H : Nat} (hh : Fv h false H) (hb : H + 6 * EE < 6 * TT) : ∃ G, Fv (hueTail h) false G ∧ dist H (6 * G) ≤ 6 * EE := by
  obtain ⟨G, hG, hd⟩ := div6 hh (by omega)
  have hlt : G < TT := by unfold dist at hd; omega
  refine ⟨G, ?_, hd⟩
  unfold hueTail divmod
  simp only
  rw [fmod_fv hG fv_one hlt, hG.isZero]
  by_cases hz : G = 0
  · subst hz
    rw [decide_eq_true rfl, if_pos rfl, copy0]
    exact fv_zero false
  · rw [decide_eq_false hz, if_neg (by decide), lt10]
    have : lt (div h 0x4018000000000000) (zero false) = false := by
      have := ltF_fv hG (fv_zero false)
      rw [decide_eq_false (by omega)] at this
      exact this
    rw [this, if_neg (by decide)]
    exact hG
theorem tail_zero : hueTail (zero false) = zero false := by
  have hr := div_fv (fv_zero false) fv_six (by have : 0 < TT := Nat.two_pow_pos _; omega)
  have hG : Fv (div (zero false) 0x4018000000000000) false 0 := right_exact hr (by have : 0 < TT := Nat.two_pow_pos _; omega) (fv_zero false).isV (by omega)
  unfold hueTail divmod
  simp only
  rw [fmod_fv hG fv_one (Nat.two_pow_pos _), hG.isZero, decide_eq_true rfl, if_pos rfl, copy0]
theorem tail_neg {h : UInt64} {H : Nat} (hh : Fv h true H) (hb : H ≤ 2 * TT) (hb2 : 6 * EE < H) : ∃ G R, Fv (hueTail h) false R ∧ dist H (6 * G) ≤ 6 * EE ∧ G < TT ∧ dist (TT - G) R ≤ EE := by
  obtain ⟨G, hG, hd⟩ := div6 hh (by omega)
  have te := TE
  have hE := EE_pos
  have hlt : G < TT := by unfold dist at hd; omega
  have hz : G ≠ 0 := by unfold dist at hd; omega
  obtain ⟨R, hR, hd2⟩ := near1 (add_np hG fv_one hlt) (by omega)
  refine ⟨G, R, ?_, hd, hlt, hd2⟩
  unfold hueTail divmod
  simp only
  rw [fmod_fv hG fv_one hlt, hG.isZero, decide_eq_false hz, if_neg (by decide), lt10]
  have : lt (div h 0x4018000000000000) (zero false) = true := by
    have := ltF_sg hG (fv_zero false)
    rw [decide_eq_true (by unfold sgn; simp; omega)] at this
    exact this
  rw [this, if_pos (by decide)]
  exact hR
theorem TT_pos : 0 < TT := Nat.two_pow_pos _
end Mine
end
section
namespace Mine
open PySem PySem.Float64
def qf (a S : Nat) : UInt64 := ofFrac false a S
def hueQ (a b c S : Nat) : UInt64 :=
  if a = 0 then hueTail (sub (qf c S) (qf b S))
  else if b = 0 then hueTail (sub (add 0x4000000000000000 (qf a S)) (qf c S))
  else hueTail (sub (add 0x4010000000000000 (qf b S)) (qf a S))
theorem qf_right {a S : Nat} (hS : 0 < S) : Right (qf a S) false (a * TT) S := ofFrac_right hS (by unfold TT; rfl) hS
theorem qf_near {a S : Nat} (hS : 0 < S) (ha : a ≤ S) : ∃ A, Fv (qf a S) false A ∧ dist (a * TT) (S * A) ≤ S * EE := by
  refine near (qf_right hS) hS ?_
  have h1 : a * TT ≤ S * TT := Nat.mul_le_mul_right _ ha
  have h2 : S * (8 * TT) = 8 * (S * TT) := Nat.mul_left_comm _ _ _
  omega
theorem isV_T : IsV TT := fv_one.isV
theorem qf_one {S : Nat} (hS : 0 < S) : Fv (qf S S) false TT := right_exact (qf_right hS) hS isV_T rfl
theorem qf_zero {S : Nat} (hS : 0 < S) : Fv (qf 0 S) false 0 := right_exact (qf_right hS) hS (fv_zero false).isV (by omega)
theorem qf_scale {a S k : Nat} (hS : 0 < S) (hk : 0 < k) : qf (a * k) (S * k) = qf a S := by
  refine right_uniq (D := S) (W := a * TT) (s := false) (ofFrac_right (Nat.mul_pos hS hk) ?_ hS) (qf_right hS) hS
  unfold TT
  generalize (2 : Nat) ^ 1074 = T
  ac_rfl
theorem hueQ_scale {a b c S k : Nat} (hS : 0 < S) (hk : 0 < k) : hueQ (a * k) (b * k) (c * k) (S * k) = hueQ a b c S := by
  unfold hueQ
  have e1 : (a * k = 0) = (a = 0) := by
    apply propext
    constructor
    · intro h
      rcases Nat.mul_eq_zero.mp h with h | h
      · exact h
      · omega
    · intro h; rw [h, Nat.zero_mul]
  have e2 : (b * k = 0) = (b = 0) := by
    apply propext
    constructor
    · intro h
      rcases Nat.mul_eq_zero.mp h with h | h
      · exact h
      · omega
    · intro h; rw [h, Nat.zero_mul]
  simp only [e1, e2, qf_scale hS hk]
def Tri (S p a b c : Nat) : Prop :=
  (p + b = S ∧ a = 0 ∧ c = S) ∨ (p = S + a ∧ a ≤ S ∧ b = 0 ∧ c = S) ∨ (p + c = 3 * S ∧ c ≤ S ∧ b = 0 ∧ a = S) ∨
  (p = 3 * S + b ∧ b ≤ S ∧ c = 0 ∧ a = S) ∨ (p + a = 5 * S ∧ a ≤ S ∧ c = 0 ∧ b = S) ∨ (p = 5 * S + c ∧ c < S ∧ a = 0 ∧ b = S)
theorem Tri.scale {S p a b c : Nat} (k : Nat) (hk : 0 < k) (h : Tri S p a b c) : Tri (S * k) (p * k) (a * k) (b * k) (c * k) := by
  unfold Tri at *
  rcases h with ⟨h1, h2, h3⟩ | ⟨h1, h2, h3, h4⟩ | ⟨h1, h2, h3, h4⟩ | ⟨h1, h2, h3, h4⟩ | ⟨h1, h2, h3, h4⟩ | ⟨h1, h2, h3, h4⟩
  · refine .inl ⟨?_, ?_, ?_⟩
    · rw [← Nat.add_mul, h1]
    · rw [h2, Nat.zero_mul]
    · rw [h3]
  · refine .inr (.inl ⟨?_, Nat.mul_le_mul_right _ h2, ?_, ?_⟩)
    · rw [← Nat.add_mul, h1]
    · rw [h3, Nat.zero_mul]
    · rw [h4]
  · refine .inr (.inr (.inl ⟨?_, Nat.mul_le_mul_right _ h2, ?_, ?_⟩))
    · rw [← Nat.add_mul, h1, Nat.mul_assoc]
    · rw [h3, Nat.zero_mul]
    · rw [h4]
  · refine .inr (.inr (.inr (.inl ⟨?_, Nat.mul_le_mul_right _ h2, ?_, ?_⟩)))
    · rw [h1, Nat.add_mul, Nat.mul_assoc]
    · rw [h3, Nat.zero_mul]
    · rw [h4]
  · refine .inr (.inr (.inr (.inr (.inl ⟨?_, Nat.mul_le_mul_right _ h2, ?_, ?_⟩))))
    · rw [← Nat.add_mul, h1, Nat.mul_assoc]
    · rw [h3, Nat.zero_mul]
    · rw [h4]
  · refine .inr (.inr (.inr (.inr (.inr ⟨?_, Nat.mul_lt_mul_of_pos_right h2 hk, ?_, ?_⟩))))
    · rw [h1, Nat.add_mul, Nat.mul_assoc]
    · rw [h3, Nat.zero_mul]
    · rw [h4]
theorem Tri.fn {S p a b c a' b' c' : Nat} (h : Tri S p a b c) (h' : Tri S p a' b' c') : a = a' ∧ b = b' ∧ c = c' := by
  unfold Tri at *
  omega
theorem dle {a b e : Nat} (h : dist a b ≤ e) : a ≤ b + e ∧ b ≤ a + e := by
  unfold dist at h
  omega
theorem led {a b e : Nat} (h : a ≤ b + e) (h' : b ≤ a + e) : dist a b ≤ e := by
  unfold dist
  omega
theorem dmul {a b e : Nat} (S : Nat) (h : dist a b ≤ e) : dist (S * a) (S * b) ≤ S * e := by
  rw [dist_mul]
  exact Nat.mul_le_mul_left _ h
theorem SE_le {S : Nat} (hS : S ≤ 2 ^ 40) : S * EE * 2048 ≤ TT := by
  have h1 : S * EE ≤ 2 ^ 40 * EE := Nat.mul_le_mul_right _ hS
  have := TE
  omega
/-- The first branch where the last one is whole: one less a share. -/
theorem hue_first {S p b : Nat} (hS : 0 < S) (hS2 : S ≤ 2 ^ 40) (hp : p + b = S) :
    ∃ G, Fv (hueTail (sub (qf S S) (qf b S))) false G ∧ dist (6 * (S * G)) (p * TT) ≤ 16 * (S * EE) := by
  have te := TE
  have hE := EE_pos
  have hse := SE_le hS2
  obtain ⟨B, hB, dB⟩ : ∃ B, Fv (qf b S) false B ∧ dist (b * TT) (S * B) ≤ S * EE ∧ B ≤ TT := by
    by_cases e : b = S
    · subst e
      exact ⟨TT, qf_one hS, led (by omega) (by omega), Nat.le_refl _⟩
    · obtain ⟨B, hB, dB⟩ := qf_near hS (show b ≤ S by omega)
      refine ⟨B, hB, dB, ?_⟩
      have h1 : b * TT + TT ≤ S * TT := by
        rw [← Nat.succ_mul]
        exact Nat.mul_le_mul_right _ (by omega)
      have h2 : S * B ≤ S * TT := by have := dle dB; omega
      exact Nat.le_of_mul_le_mul_left h2 hS
  obtain ⟨dB, hBT⟩ := dB
  obtain ⟨H, hH, dH⟩ := sub_ge (qf_one hS) hB hBT (by omega)
  obtain ⟨G, hG, dG⟩ := tail_pos hH (by have := dle dH; omega)
  refine ⟨G, hG, ?_⟩
  have d1 := dmul S dH
  have d2 := dmul S dG
  have e1 : S * (TT - B) = S * TT - S * B := Nat.mul_sub _ _ _
  have e2 : S * (6 * G) = 6 * (S * G) := Nat.mul_left_comm _ _ _
  have e3 : S * (6 * EE) = 6 * (S * EE) := Nat.mul_left_comm _ _ _
  have e4 : p * TT + b * TT = S * TT := by rw [← Nat.add_mul, hp]
  have e5 : S * B ≤ S * TT := Nat.mul_le_mul_left _ hBT
  rw [e1] at d1
  rw [e2, e3] at d2
  have := dle d1
  have := dle d2
  have := dle dB
  clear d1 d2 dB dH dG e1 e2 e3
  exact led (by omega) (by omega)
theorem hue_last {S p c : Nat} (hS : 0 < S) (hS2 : S ≤ 2 ^ 40) (hc : c < S) (hp : p = 5 * S + c) :
    ∃ G, Fv (hueTail (sub (qf c S) (qf S S))) false G ∧ dist (6 * (S * G)) (p * TT) ≤ 16 * (S * EE) := by
  have te := TE
  have hE := EE_pos
  have hse := SE_le hS2
  obtain ⟨C, hC, dC⟩ := qf_near hS (show c ≤ S by omega)
  have h1 : c * TT + TT ≤ S * TT := by
    rw [← Nat.succ_mul]
    exact Nat.mul_le_mul_right _ (by omega)
  have h2 : S * (C + 7 * EE) < S * TT := by
    rw [Nat.mul_add, Nat.mul_left_comm S 7]
    have := dle dC
    omega
  have hCT : C + 7 * EE < TT := Nat.lt_of_mul_lt_mul_left h2
  obtain ⟨H, hH, dH⟩ := near1 (sub_neg hC (qf_one hS) (by omega)) (by omega)
  obtain ⟨G, R, hR, dG, hGT, dR⟩ := tail_neg hH (by have := dle dH; omega) (by have := dle dH; omega)
  refine ⟨R, hR, ?_⟩
  have d1 := dmul S dH
  have d2 := dmul S dG
  have d3 := dmul S dR
  have e1 : S * (TT - C) = S * TT - S * C := Nat.mul_sub _ _ _
  have e6 : S * (TT - G) = S * TT - S * G := Nat.mul_sub _ _ _
  have e2 : S * (6 * G) = 6 * (S * G) := Nat.mul_left_comm _ _ _
  have e3 : S * (6 * EE) = 6 * (S * EE) := Nat.mul_left_comm _ _ _
  have e4 : p * TT = 5 * (S * TT) + c * TT := by rw [hp, Nat.add_mul, Nat.mul_assoc]
  have e5 : S * C ≤ S * TT := Nat.mul_le_mul_left _ (by omega)
  have e7 : S * G ≤ S * TT := Nat.mul_le_mul_left _ (by omega)
  rw [e1] at d1
  rw [e2, e3] at d2
  rw [e6] at d3
  have := dle d1
  have := dle d2
  have := dle d3
  have := dle dC
  clear d1 d2 d3 dC dH dG dR e1 e2 e3 e6
  exact led (by omega) (by omega)
theorem hue_mid {S p u v K : Nat} {w : UInt64} (hS : 0 < S) (hS2 : S ≤ 2 ^ 40) (hw : Fv w false (K * TT)) (hK : 2 ≤ K) (hK2 : K ≤ 4) (hu : u ≤ S) (hv : v ≤ S) (hp : p + v = K * S + u) :
    ∃ G, Fv (hueTail (sub (add w (qf u S)) (qf v S))) false G ∧ dist (6 * (S * G)) (p * TT) ≤ 16 * (S * EE) := by
  have te := TE
  have hE := EE_pos
  have hse := SE_le hS2
  have near_T : ∀ {u U : Nat}, u ≤ S → dist (u * TT) (S * U) ≤ S * EE → U ≤ TT + EE := by
    intro u U hu hd
    have h1 : u * TT ≤ S * TT := Nat.mul_le_mul_right _ hu
    have h2 : S * U ≤ S * (TT + EE) := by
      rw [Nat.mul_add]
      have := dle hd
      omega
    exact Nat.le_of_mul_le_mul_left h2 hS
  obtain ⟨U, hU, dU⟩ := qf_near hS hu
  obtain ⟨Z, hZ, dZ⟩ := qf_near hS hv
  have bU := near_T hu dU
  have bZ := near_T hv dZ
  have k1 : 2 * TT ≤ K * TT := Nat.mul_le_mul_right _ hK
  have k2 : K * TT ≤ 4 * TT := Nat.mul_le_mul_right _ hK2
  obtain ⟨P, hP, dP⟩ := near1 (add_pos hw hU (by omega)) (by omega)
  obtain ⟨H, hH, dH⟩ := sub_ge hP hZ (by have := dle dP; omega) (by have := dle dP; omega)
  obtain ⟨G, hG, dG⟩ := tail_pos hH (by have := dle dH; have := dle dP; omega)
  refine ⟨G, hG, ?_⟩
  have hZP : Z ≤ P := by have := dle dP; omega
  have d0 := dmul S dP
  have d1 := dmul S dH
  have d2 := dmul S dG
  have e0 : S * (K * TT + U) = S * (K * TT) + S * U := Nat.mul_add _ _ _
  have e1 : S * (P - Z) = S * P - S * Z := Nat.mul_sub _ _ _
  have e2 : S * (6 * G) = 6 * (S * G) := Nat.mul_left_comm _ _ _
  have e3 : S * (6 * EE) = 6 * (S * EE) := Nat.mul_left_comm _ _ _
  have e4 : p * TT + v * TT = S * (K * TT) + u * TT := by rw [← Nat.add_mul, hp, Nat.add_mul, Nat.mul_left_comm, Nat.mul_assoc]
  have e5 : S * Z ≤ S * P := Nat.mul_le_mul_left _ hZP
  rw [e0] at d0
  rw [e1] at d1
  rw [e2, e3] at d2
  have := dle d0
  have := dle d1
  have := dle d2
  have := dle dU
  have := dle dZ
  clear d0 d1 d2 dU dZ dH dG dP e0 e1 e2 e3
  exact led (by omega) (by omega)
theorem hueQ_val {S p a b c : Nat} (hS : 0 < S) (hS2 : S ≤ 2 ^ 40) (h : Tri S p a b c) : ∃ G, Fv (hueQ a b c S) false G ∧ dist (6 * (S * G)) (p * TT) ≤ 16 * (S * EE) := by
  unfold Tri at h
  rcases h with ⟨h1, h2, h3⟩ | ⟨h1, h2, h3, h4⟩ | ⟨h1, h2, h3, h4⟩ | ⟨h1, h2, h3, h4⟩ | ⟨h1, h2, h3, h4⟩ | ⟨h1, h2, h3, h4⟩
  · unfold hueQ
    rw [if_pos h2, h3]
    exact hue_first hS hS2 h1
  · unfold hueQ
    by_cases e : a = 0
    · rw [if_pos e, h3, h4]
      exact hue_first hS hS2 (by omega)
    · rw [if_neg e, if_pos h3, h4]
      exact hue_mid hS hS2 fv_two (by decide) (by decide) h2 (Nat.le_refl _) (by omega)
  · unfold hueQ
    rw [if_neg (by omega), if_pos h3, h4]
    exact hue_mid hS hS2 fv_two (by decide) (by decide) (Nat.le_refl _) h2 (by omega)
  · unfold hueQ
    rw [if_neg (by omega)]
    by_cases e : b = 0
    · rw [if_pos e, h3, h4]
      exact hue_mid hS hS2 fv_two (by decide) (by decide) (Nat.le_refl _) (Nat.zero_le _) (by omega)
    · rw [if_neg e, h4]
      exact hue_mid hS hS2 fv_four (by decide) (by decide) h2 (Nat.le_refl _) (by omega)
  · unfold hueQ
    by_cases e : a = 0
    · rw [if_pos e, h3, h4]
      exact hue_last hS hS2 hS (by omega)
    · rw [if_neg e, if_neg (by omega), h4]
      exact hue_mid hS hS2 fv_four (by decide) (by decide) (Nat.le_refl _) h2 (by omega)
  · unfold hueQ
    rw [if_pos h3, h4]
    exact hue_last hS hS2 h2 h1
theorem hueQ_zero {S : Nat} (hS : 0 < S) : hueQ 0 S S S = zero false := by
  unfold hueQ
  rw [if_pos rfl, sub_same (qf_one hS) (qf_one hS)]
  exact tail_zero
theorem hueQ_same {S p a b c S' p' a' b' c' : Nat} (hS : 0 < S) (hS' : 0 < S') (h : Tri S p a b c) (h' : Tri S' p' a' b' c') (he : p * S' = p' * S) : hueQ a b c S = hueQ a' b' c' S' := by
  have t1 := h.scale S' hS'
  have t2 := h'.scale S hS
  rw [Nat.mul_comm S' S, ← he] at t2
  obtain ⟨e1, e2, e3⟩ := t1.fn t2
  rw [← hueQ_scale hS hS', ← hueQ_scale (a := a') hS' hS, e1, e2, e3, Nat.mul_comm S S']
theorem hueQ_lt {S p a b c S' p' a' b' c' : Nat} (hS : 0 < S) (hS' : 0 < S') (hS2 : S ≤ 2 ^ 25) (hS2' : S' ≤ 2 ^ 10) (h : Tri S p a b c) (h' : Tri S' p' a' b' c') :
    ltF (hueQ a b c S) (hueQ a' b' c' S') = decide (p * S' < p' * S) ∧ ltF (hueQ a' b' c' S') (hueQ a b c S) = decide (p' * S < p * S') := by
  obtain ⟨G, hG, dG⟩ := hueQ_val hS (by omega) h
  obtain ⟨G', hG', dG'⟩ := hueQ_val hS' (by omega) h'
  rw [ltF_fv hG hG', ltF_fv hG' hG]
  by_cases he : p * S' = p' * S
  · have e := hueQ_same hS hS' h h' he
    have : G = G' := by
      rw [e] at hG
      have v1 := hG.val
      have v2 := hG'.val
      rw [v1] at v2
      have : (G : Int) = (G' : Int) := v2
      omega
    subst this
    rw [he]
    simp
  · have te := TE
    have hE := EE_pos
    have b1 : S * S' ≤ 2 ^ 35 := by
      have := Nat.mul_le_mul hS2 hS2'
      omega
    have b2 : S * S' * EE ≤ 2 ^ 35 * EE := Nat.mul_le_mul_right _ b1
    have d1 := dmul S' dG
    have d2 := dmul S dG'
    have e1 : S' * (6 * (S * G)) = 6 * (S * S' * G) := by ac_rfl
    have e2 : S' * (p * TT) = p * S' * TT := by generalize TT = T0; ac_rfl
    have e3 : S' * (16 * (S * EE)) = 16 * (S * S' * EE) := by generalize EE = E0; ac_rfl
    have f1 : S * (6 * (S' * G')) = 6 * (S * S' * G') := by ac_rfl
    have f2 : S * (p' * TT) = p' * S * TT := by generalize TT = T0; ac_rfl
    have f3 : S * (16 * (S' * EE)) = 16 * (S * S' * EE) := by generalize EE = E0; ac_rfl
    rw [e1, e2, e3] at d1
    rw [f1, f2, f3] at d2
    rcases Nat.lt_or_gt_of_ne he with hl | hl
    · have h1 : p * S' * TT + TT ≤ p' * S * TT := by
        rw [← Nat.succ_mul]
        exact Nat.mul_le_mul_right _ hl
      have h2 : S * S' * G < S * S' * G' := by have := dle d1; have := dle d2; omega
      have h3 : G < G' := Nat.lt_of_mul_lt_mul_left h2
      exact ⟨by rw [decide_eq_true h3, decide_eq_true hl], by rw [decide_eq_false (Nat.not_lt.mpr (Nat.le_of_lt h3)), decide_eq_false (Nat.not_lt.mpr (Nat.le_of_lt hl))]⟩
    · have h1 : p' * S * TT + TT ≤ p * S' * TT := by
        rw [← Nat.succ_mul]
        exact Nat.mul_le_mul_right _ hl
      have h2 : S * S' * G' < S * S' * G := by have := dle d1; have := dle d2; omega
      have h3 : G' < G := Nat.lt_of_mul_lt_mul_left h2
      exact ⟨by rw [decide_eq_false (Nat.not_lt.mpr (Nat.le_of_lt h3)), decide_eq_false (Nat.not_lt.mpr (Nat.le_of_lt hl))], by rw [decide_eq_true h3, decide_eq_true hl]⟩
end Mine
end
section
namespace Mine
open PySem PySem.Float64
theorem fmax3_top {x y z : UInt64} {X Y Z M : Nat} (hx : Fv x false X) (hy : Fv y false Y) (hz : Fv z false Z) (h1 : X ≤ M) (h2 : Y ≤ M) (h3 : Z ≤ M) (h : X = M ∨ Y = M ∨ Z = M) : Fv (fmax3 x y z) false M := by
  have a : ∀ {x y : UInt64} {X Y : Nat}, Fv x false X → Fv y false Y → Fv (if ltF x y then y else x) false (if X < Y then Y else X) := by
    intro x y X Y hx hy
    rw [ltF_fv hx hy]
    by_cases h : X < Y
    · rw [decide_eq_true h, if_pos rfl, if_pos h]; exact hy
    · rw [decide_eq_false h, if_neg (by decide), if_neg h]; exact hx
  have b := a (a hx hy) hz
  have e : (if (if X < Y then Y else X) < Z then Z else if X < Y then Y else X) = M := by
    by_cases q : X < Y
    · rw [if_pos q]; split <;> omega
    · rw [if_neg q]; split <;> omega
  rw [e] at b
  exact b
theorem fmin3_low {x y z : UInt64} {X Y Z M : Nat} (hx : Fv x false X) (hy : Fv y false Y) (hz : Fv z false Z) (h1 : M ≤ X) (h2 : M ≤ Y) (h3 : M ≤ Z) (h : X = M ∨ Y = M ∨ Z = M) : Fv (fmin3 x y z) false M := by
  have a : ∀ {x y : UInt64} {X Y : Nat}, Fv x false X → Fv y false Y → Fv (if ltF y x then y else x) false (if Y < X then Y else X) := by
    intro x y X Y hx hy
    rw [ltF_fv hy hx]
    by_cases h : Y < X
    · rw [decide_eq_true h, if_pos rfl, if_pos h]; exact hy
    · rw [decide_eq_false h, if_neg (by decide), if_neg h]; exact hx
  have b := a (a hx hy) hz
  have e : (if Z < (if Y < X then Y else X) then Z else if Y < X then Y else X) = M := by
    by_cases q : Y < X
    · rw [if_pos q]; split <;> omega
    · rw [if_neg q]; split <;> omega
  rw [e] at b
  exact b
theorem div_qf {x y : UInt64} {X S K : Nat} (hx : Fv x false (X * K)) (hy : Fv y false (S * K)) (hS : 0 < S) (hK : 0 < K) : div x y = qf X S := by
  have hr := div_fv hx hy (Nat.mul_pos hS hK)
  refine right_uniq hr (ofFrac_right hS ?_ (Nat.mul_pos hS hK)) (Nat.mul_pos hS hK)
  unfold TT
  generalize (2 : Nat) ^ 1074 = T
  ac_rfl
/-- The hue of a colour whose parts are w + u * s, with e the greatest s and 0 the least. -/
theorem hsv_steps {x y z : UInt64} {w u s1 s2 s3 e k : Nat} (hu : 0 < u) (he : 0 < e) (l1 : s1 ≤ e) (l2 : s2 ≤ e) (l3 : s3 ≤ e) (ht : s1 = e ∨ s2 = e ∨ s3 = e) (hb : s1 = 0 ∨ s2 = 0 ∨ s3 = 0)
    (hN : w + u * e < 2 ^ 53) (hk : k ≤ 2000) (hx : Fv x false ((w + u * s1) * 2 ^ k)) (hy : Fv y false ((w + u * s2) * 2 ^ k)) (hz : Fv z false ((w + u * s3) * 2 ^ k)) :
    HsvOk x y z ∧ hsvH x y z = hueQ (e - s1) (e - s2) (e - s3) e := by
  have hK : 0 < 2 ^ k := Nat.two_pow_pos k
  generalize hKK : 2 ^ k = K at *
  have up : ∀ {s : Nat}, s ≤ e → (w + u * s) * K ≤ (w + u * e) * K := fun h => Nat.mul_le_mul_right _ (Nat.add_le_add_left (Nat.mul_le_mul_left _ h) _)
  have dn : ∀ {s : Nat}, w * K ≤ (w + u * s) * K := Nat.mul_le_mul_right _ (Nat.le_add_right _ _)
  have hM : Fv (fmax3 x y z) false ((w + u * e) * K) := fmax3_top hx hy hz (up l1) (up l2) (up l3) (by rcases ht with h | h | h <;> simp [h])
  have hm : Fv (fmin3 x y z) false (w * K) := fmin3_low hx hy hz dn dn dn (by rcases hb with h | h | h <;> simp [h])
  have hue : 0 < u * e := Nat.mul_pos hu he
  have eqk : ∀ {s : Nat}, s ≤ e → ((w + u * s) * K = (w + u * e) * K ↔ e - s = 0) := by
    intro s hs
    constructor
    · intro h
      have h1 := Nat.eq_of_mul_eq_mul_right hK h
      have h2 : u * s = u * e := by omega
      have h3 := Nat.eq_of_mul_eq_mul_left hu h2
      omega
    · intro h
      have : s = e := by omega
      rw [this]
  have dif : ∀ {s : Nat}, s ≤ e → (w + u * e) * K - (w + u * s) * K = (e - s) * (u * K) := by
    intro s hs
    have h1 : u * e = u * s + u * (e - s) := by rw [← Nat.mul_add]; congr 1; omega
    rw [← Nat.sub_mul, h1, show w + (u * s + u * (e - s)) - (w + u * s) = u * (e - s) by omega]
    ac_rfl
  have isv : ∀ {s : Nat}, s ≤ e → IsV ((e - s) * (u * K)) := by
    intro s hs
    rw [← Nat.mul_assoc, ← hKK]
    refine isV_of ?_ hk
    have : (e - s) * u ≤ e * u := Nat.mul_le_mul_right _ (by omega)
    rw [Nat.mul_comm e u] at this
    omega
  have sb : ∀ {v : UInt64} {s : Nat}, s ≤ e → Fv v false ((w + u * s) * K) → Fv (sub (fmax3 x y z) v) false ((e - s) * (u * K)) := by
    intro v s hs hv
    have := sub_exact hM hv (up hs) (by rw [dif hs]; exact isv hs)
    rwa [dif hs] at this
  have sm : Fv (sub (fmax3 x y z) (fmin3 x y z)) false (e * (u * K)) := by
    have := sb (v := fmin3 x y z) (s := 0) (by omega) (by rw [Nat.mul_zero, Nat.add_zero]; exact hm)
    rwa [Nat.sub_zero] at this
  have huK : 0 < u * K := Nat.mul_pos hu hK
  have dq : ∀ {v : UInt64} {s : Nat}, s ≤ e → Fv v false ((w + u * s) * K) → div (sub (fmax3 x y z) v) (sub (fmax3 x y z) (fmin3 x y z)) = qf (e - s) e := fun hs hv => div_qf (sb hs hv) sm he huK
  have ne : eqF (fmin3 x y z) (fmax3 x y z) = false := by
    rw [eqF_fv hm hM]
    apply decide_eq_false
    intro h
    have := Nat.eq_of_mul_eq_mul_right hK h
    omega
  constructor
  · intro _
    rw [hM.isZero, sm.isZero]
    constructor
    · apply decide_eq_false
      have := Nat.mul_pos (show 0 < w + u * e by omega) hK
      omega
    · apply decide_eq_false
      have := Nat.mul_pos he huK
      omega
  · unfold hsvH hueQ
    rw [ne, if_neg (by decide), dq l1 hx, dq l2 hy, dq l3 hz, eqF_fv hx hM, eqF_fv hy hM]
    simp only [eqk l1, eqk l2, decide_eq_true_eq]
theorem q25_fv {n : Nat} (h : n < 2 ^ 53) : Fv (q25 (n : Int)) false (n * 2 ^ 1049) := by
  unfold q25
  rw [Int.natAbs_natCast]
  refine right_exact (W := n * 2 ^ 1049) (D := 1) (ofFrac_right (by decide) ?_ (by decide)) (by decide) (isV_of h (by decide)) (Nat.one_mul _).symm
  rw [Nat.mul_one, Nat.mul_assoc, ← Nat.pow_add]
theorem f25_fv {n : Nat} (h : n < 2 ^ 53) : Fv (f25 (q25 (n : Int))) false (n * 2 ^ 1024) := by
  have h1 : Fv (ofInt (2 ^ 25)) false (2 ^ 25 * TT) := by
    have h0 := ofInt_right (2 ^ 25)
    rw [show decide ((2 ^ 25 : Int) < 0) = false from by decide, show ((2 ^ 25 : Int)).natAbs = 2 ^ 25 from by decide] at h0
    refine right_exact h0 (by decide) ?_ ?_
    · unfold TT
      exact isV_of (N := 2 ^ 25) (k := 1074) (by decide) (by decide)
    · unfold TT
      rw [Nat.one_mul]
  have hr := div_fv (q25_fv h) h1 (Nat.mul_pos (by decide) TT_pos)
  unfold f25
  refine right_exact hr (Nat.mul_pos (by decide) TT_pos) (isV_of h (by decide)) ?_
  rw [show (1049 : Nat) = 25 + 1024 from rfl, Nat.pow_add]
  generalize (2 : Nat) ^ 1024 = K
  generalize (2 : Nat) ^ 25 = L
  generalize TT = T0
  ac_rfl
theorem row_steps {e j : Nat} (he : 0 < e) (hj : j < 6 * e) : ∃ s1 s2 s3 : Nat, (∀ unit base_ : Int, colC unit base_ (e : Int) j = (base_ + unit * s1, base_ + unit * s2, base_ + unit * s3)) ∧
    s1 ≤ e ∧ s2 ≤ e ∧ s3 ≤ e ∧ (s1 = e ∨ s2 = e ∨ s3 = e) ∧ (s1 = 0 ∨ s2 = 0 ∨ s3 = 0) ∧ Tri e j (e - s1) (e - s2) (e - s3) := by
  have hi := Nat.mod_lt j he
  have hq : j / e < 6 := by rw [Nat.div_lt_iff_lt_mul he]; exact hj
  have hd := Nat.div_add_mod j e
  have hc : ∀ unit base_ : Int, colC unit base_ (e : Int) j = (base_ + unit * ((stA e (j / e)).1 + (stD (j / e)).1 * ((j % e : Nat) : Int)), base_ + unit * ((stA e (j / e)).2.1 + (stD (j / e)).2.1 * ((j % e : Nat) : Int)), base_ + unit * ((stA e (j / e)).2.2 + (stD (j / e)).2.2 * ((j % e : Nat) : Int))) := by
    intro unit base_
    unfold colC
    simp only [Int.toNat_natCast]
  generalize j / e = q at *
  generalize j % e = i at *
  have fin : ∀ (s1 s2 s3 : Nat), (s1 : Int) = (stA e q).1 + (stD q).1 * (i : Int) → (s2 : Int) = (stA e q).2.1 + (stD q).2.1 * (i : Int) → (s3 : Int) = (stA e q).2.2 + (stD q).2.2 * (i : Int) →
      ∀ unit base_ : Int, colC unit base_ (e : Int) j = (base_ + unit * s1, base_ + unit * s2, base_ + unit * s3) := by
    intro s1 s2 s3 h1 h2 h3 unit base_
    rw [hc, h1, h2, h3]
  match q, hq with
  | 0, _ => exact ⟨e, i, 0, fin _ _ _ (by simp only [stA, stD]; omega) (by simp only [stA, stD]; omega) (by simp only [stA, stD]; omega), by omega, by omega, by omega, .inl rfl, .inr (.inr rfl), .inl ⟨by omega, by omega, by omega⟩⟩
  | 1, _ => exact ⟨e - i, e, 0, fin _ _ _ (by simp only [stA, stD]; omega) (by simp only [stA, stD]; omega) (by simp only [stA, stD]; omega), by omega, by omega, by omega, .inr (.inl rfl), .inr (.inr rfl), .inr (.inl ⟨by omega, by omega, by omega, by omega⟩)⟩
  | 2, _ => exact ⟨0, e, i, fin _ _ _ (by simp only [stA, stD]; omega) (by simp only [stA, stD]; omega) (by simp only [stA, stD]; omega), by omega, by omega, by omega, .inr (.inl rfl), .inl rfl, .inr (.inr (.inl ⟨by omega, by omega, by omega, by omega⟩))⟩
  | 3, _ => exact ⟨0, e - i, e, fin _ _ _ (by simp only [stA, stD]; omega) (by simp only [stA, stD]; omega) (by simp only [stA, stD]; omega), by omega, by omega, by omega, .inr (.inr rfl), .inl rfl, .inr (.inr (.inr (.inl ⟨by omega, by omega, by omega, by omega⟩)))⟩
  | 4, _ => exact ⟨i, 0, e, fin _ _ _ (by simp only [stA, stD]; omega) (by simp only [stA, stD]; omega) (by simp only [stA, stD]; omega), by omega, by omega, by omega, .inr (.inr rfl), .inr (.inl rfl), .inr (.inr (.inr (.inr (.inl ⟨by omega, by omega, by omega, by omega⟩))))⟩
  | 5, _ => exact ⟨e, 0, e - i, fin _ _ _ (by simp only [stA, stD]; omega) (by simp only [stA, stD]; omega) (by simp only [stA, stD]; omega), by omega, by omega, by omega, .inl rfl, .inr (.inl rfl), .inr (.inr (.inr (.inr (.inr ⟨by omega, by omega, by omega, by omega⟩))))⟩
end Mine
end
section
namespace Mine
open PySem PySem.Float64
theorem zero_bits : (0 : UInt64) = zero false := by rfl
theorem grey_hue {x : UInt64} {X : Nat} (hx : Fv x false X) : HsvOk x x x ∧ hsvH x x x = hueQ 0 1 1 1 := by
  have hM := fmax3_top hx hx hx (Nat.le_refl _) (Nat.le_refl _) (Nat.le_refl _) (.inl rfl)
  have hm := fmin3_low hx hx hx (Nat.le_refl _) (Nat.le_refl _) (Nat.le_refl _) (.inl rfl)
  have he : eqF (fmin3 x x x) (fmax3 x x x) = true := by rw [eqF_fv hm hM, decide_eq_true rfl]
  constructor
  · intro h
    rw [he] at h
    cases h
  · unfold hsvH
    rw [if_pos he, hueQ_zero (by decide)]
    exact zero_bits
structure TabAt (u w e j : Nat) (s1 s2 s3 : Nat) : Prop where
  col : colC (u : Int) (w : Int) (e : Int) j = (((w + u * s1 : Nat) : Int), ((w + u * s2 : Nat) : Int), ((w + u * s3 : Nat) : Int))
  l1 : s1 ≤ e
  l2 : s2 ≤ e
  l3 : s3 ≤ e
  top : s1 = e ∨ s2 = e ∨ s3 = e
  bot : s1 = 0 ∨ s2 = 0 ∨ s3 = 0
  tri : Tri e j (e - s1) (e - s2) (e - s3)
theorem tabAt {u w e j : Nat} (he : 0 < e) (hj : j < 6 * e) : ∃ s1 s2 s3, TabAt u w e j s1 s2 s3 := by
  obtain ⟨s1, s2, s3, hc, l1, l2, l3, ht, hb, tri⟩ := row_steps he hj
  refine ⟨s1, s2, s3, ?_, l1, l2, l3, ht, hb, tri⟩
  rw [hc]
  simp only [Int.natCast_add, Int.natCast_mul]
theorem bnd_us {u e s N M : Nat} (hu : u ≤ N) (he : e ≤ M) (hs : s ≤ e) : u * s ≤ N * M := Nat.mul_le_mul hu (Nat.le_trans hs he)
theorem row_hue {u w e j s1 s2 s3 : Nat} (hu : 0 < u) (hu2 : u ≤ 2 ^ 20) (hw : w < 2 ^ 20) (he : 0 < e) (he2 : e ≤ 16) (r : TabAt u w e j s1 s2 s3) :
    HsvOk (q25 (colC (u : Int) (w : Int) (e : Int) j).1) (q25 (colC (u : Int) (w : Int) (e : Int) j).2.1) (q25 (colC (u : Int) (w : Int) (e : Int) j).2.2) ∧ hsT (u : Int) (w : Int) (e : Int) j = hueQ (e - s1) (e - s2) (e - s3) e := by
  have b1 := bnd_us hu2 he2 r.l1
  have b2 := bnd_us hu2 he2 r.l2
  have b3 := bnd_us hu2 he2 r.l3
  have b4 := bnd_us hu2 he2 (Nat.le_refl e)
  unfold hsT
  rw [r.col]
  exact hsv_steps hu he r.l1 r.l2 r.l3 r.top r.bot (by omega) (by decide) (q25_fv (by omega)) (q25_fv (by omega)) (q25_fv (by omega))
theorem plain_rows {u w e : Nat} (hu : 0 < u) (hu2 : u ≤ 2 ^ 20) (hw : w < 2 ^ 20) (he : 0 < e) (he2 : e ≤ 16) (i : Nat) (hi : i < 6 * e) :
    (0 ≤ (colC (u : Int) (w : Int) (e : Int) i).1 ∧ (colC (u : Int) (w : Int) (e : Int) i).1 < 2 ^ 60 ∧ 0 ≤ (colC (u : Int) (w : Int) (e : Int) i).2.1 ∧ (colC (u : Int) (w : Int) (e : Int) i).2.1 < 2 ^ 60 ∧ 0 ≤ (colC (u : Int) (w : Int) (e : Int) i).2.2 ∧ (colC (u : Int) (w : Int) (e : Int) i).2.2 < 2 ^ 60) ∧
    HsvOk (q25 (colC (u : Int) (w : Int) (e : Int) i).1) (q25 (colC (u : Int) (w : Int) (e : Int) i).2.1) (q25 (colC (u : Int) (w : Int) (e : Int) i).2.2) := by
  obtain ⟨s1, s2, s3, r⟩ := tabAt (u := u) (w := w) he hi
  refine ⟨?_, (row_hue hu hu2 hw he he2 r).1⟩
  have b1 := bnd_us hu2 he2 r.l1
  have b2 := bnd_us hu2 he2 r.l2
  have b3 := bnd_us hu2 he2 r.l3
  rw [r.col]
  dsimp only
  omega
/-- A hue on the ring against the table's hues. -/
theorem ring_tab {u w e : Nat} (hu : 0 < u) (hu2 : u ≤ 2 ^ 20) (hw : w < 2 ^ 20) (he : 0 < e) (he2 : e ≤ 16) {S p a b c : Nat} (hS : 0 < S) (hS2 : S ≤ 2 ^ 25) (t : Tri S p a b c) (i : Nat) (hi : i < 6 * e) :
    ltF (hsT (u : Int) (w : Int) (e : Int) i) (hueQ a b c S) = decide (i * S < p * e) ∧ ltF (hueQ a b c S) (hsT (u : Int) (w : Int) (e : Int) i) = decide (p * e < i * S) := by
  obtain ⟨s1, s2, s3, r⟩ := tabAt (u := u) (w := w) he hi
  rw [(row_hue hu hu2 hw he he2 r).2]
  have := hueQ_lt hS he hS2 (by omega) t r.tri
  exact ⟨this.2, this.1⟩
theorem six_tri {l m h x y z g : Nat} (h1 : l ≤ m) (h2 : m ≤ h) (hne : l < h) (hs : Six (l : Int) (m : Int) (h : Int) (x : Int) (y : Int) (z : Int) (g : Int)) :
    l ≤ x ∧ l ≤ y ∧ l ≤ z ∧ x ≤ h ∧ y ≤ h ∧ z ≤ h ∧ (x = h ∨ y = h ∨ z = h) ∧ (x = l ∨ y = l ∨ z = l) ∧ g ≤ 6 * (h - l) ∧ Tri (h - l) (g % (6 * (h - l))) (h - x) (h - y) (h - z) := by
  have hg : g ≤ 6 * (h - l) := by
    unfold Six at hs
    rcases hs with q | q | q | q | q | q <;> omega
  have hsp : l + (h - l) = h := by omega
  generalize h - l = S at *
  have hm : (g % (6 * S) = g ∧ g < 6 * S) ∨ (g % (6 * S) = 0 ∧ g = 6 * S) := by
    by_cases e : g = 6 * S
    · exact .inr ⟨by rw [← e, Nat.mod_self], e⟩
    · exact .inl ⟨Nat.mod_eq_of_lt (by omega), by omega⟩
  generalize g % (6 * S) = p at *
  unfold Six at hs
  unfold Tri
  rcases hs with q | q | q | q | q | q
  · refine ⟨by omega, by omega, by omega, by omega, by omega, by omega, by omega, by omega, hg, .inl (by omega)⟩
  · refine ⟨by omega, by omega, by omega, by omega, by omega, by omega, by omega, by omega, hg, .inr (.inl (by omega))⟩
  · refine ⟨by omega, by omega, by omega, by omega, by omega, by omega, by omega, by omega, hg, .inr (.inr (.inl (by omega)))⟩
  · refine ⟨by omega, by omega, by omega, by omega, by omega, by omega, by omega, by omega, hg, .inr (.inr (.inr (.inl (by omega))))⟩
  · refine ⟨by omega, by omega, by omega, by omega, by omega, by omega, by omega, by omega, hg, .inr (.inr (.inr (.inr (.inl (by omega)))))⟩
  · rcases hm with hm | hm
    · refine ⟨by omega, by omega, by omega, by omega, by omega, by omega, by omega, by omega, hg, .inr (.inr (.inr (.inr (.inr (by omega)))))⟩
    · refine ⟨by omega, by omega, by omega, by omega, by omega, by omega, by omega, by omega, hg, .inl (by omega)⟩
theorem plain_p1 {u w e : Nat} (hu : 0 < u) (hu2 : u ≤ 2 ^ 20) (hw : w < 2 ^ 20) (he : 0 < e) (he2 : e ≤ 16) (lo mi hi : Int) (h0 : 0 ≤ lo) (h1 : lo ≤ mi) (h2 : mi ≤ hi) (h3 : hi ≤ 2 ^ 25)
    (x y z g : Int) (hs : Six lo mi hi x y z g) : RingOK (spanOf lo hi) (e : Int) (6 * e) (hsT (u : Int) (w : Int) (e : Int)) x y z g := by
  have bx : 0 ≤ x ∧ x ≤ 2 ^ 25 ∧ 0 ≤ y ∧ y ≤ 2 ^ 25 ∧ 0 ≤ z ∧ z ≤ 2 ^ 25 ∧ 0 ≤ g ∧ g ≤ 2 ^ 28 := by unfold Six at hs; omega
  obtain ⟨l, rfl⟩ := Int.eq_ofNat_of_zero_le h0
  obtain ⟨m, rfl⟩ := Int.eq_ofNat_of_zero_le (show 0 ≤ mi by omega)
  obtain ⟨h, rfl⟩ := Int.eq_ofNat_of_zero_le (show 0 ≤ hi by omega)
  obtain ⟨x, rfl⟩ := Int.eq_ofNat_of_zero_le (show 0 ≤ x by omega)
  obtain ⟨y, rfl⟩ := Int.eq_ofNat_of_zero_le (show 0 ≤ y by omega)
  obtain ⟨z, rfl⟩ := Int.eq_ofNat_of_zero_le (show 0 ≤ z by omega)
  obtain ⟨g, rfl⟩ := Int.eq_ofNat_of_zero_le (show 0 ≤ g by omega)
  obtain ⟨S, p, a, b, c, hS, hS2, t, hsp, hp, hk, hq⟩ : ∃ S p a b c : Nat, 0 < S ∧ S ≤ 2 ^ 25 ∧ Tri S p a b c ∧ spanOf (l : Int) (h : Int) = (S : Int) ∧ g % (6 * S) = p ∧ HsvOk (q25 x) (q25 y) (q25 z) ∧ hsvH (q25 x) (q25 y) (q25 z) = hueQ a b c S := by
    by_cases hlt : l < h
    · obtain ⟨x1, y1, z1, x2, y2, z2, ht, hb, hg, t⟩ := six_tri (by omega) (by omega) hlt hs
      have fx : Fv (q25 x) false ((l + 1 * (x - l)) * 2 ^ 1049) := by rw [show l + 1 * (x - l) = x by omega]; exact q25_fv (by omega)
      have fy : Fv (q25 y) false ((l + 1 * (y - l)) * 2 ^ 1049) := by rw [show l + 1 * (y - l) = y by omega]; exact q25_fv (by omega)
      have fz : Fv (q25 z) false ((l + 1 * (z - l)) * 2 ^ 1049) := by rw [show l + 1 * (z - l) = z by omega]; exact q25_fv (by omega)
      have hh := hsv_steps (e := h - l) (by decide) (by omega) (by omega) (by omega) (by omega) (by omega) (by omega) (by omega) (by decide) fx fy fz
      rw [show h - l - (x - l) = h - x by omega, show h - l - (y - l) = h - y by omega, show h - l - (z - l) = h - z by omega] at hh
      exact ⟨h - l, _, h - x, h - y, h - z, by omega, by omega, t, by unfold spanOf; rw [if_neg (by omega)]; omega, rfl, hh.1, hh.2⟩
    · have ex : x = l ∧ y = l ∧ z = l ∧ g = 0 := by unfold Six at hs; omega
      obtain ⟨rfl, e2, e3, e4⟩ := ex
      rw [e2, e3, e4]
      have hh := grey_hue (q25_fv (n := x) (by omega))
      exact ⟨1, 0, 0, 1, 1, by decide, by decide, by unfold Tri; omega, by unfold spanOf; rw [if_pos (by omega)]; rfl, rfl, hh.1, hh.2⟩
  unfold RingOK
  have hf : ((g : Int)).fmod (6 * (S : Int)) = (p : Int) := by
    rw [Int.fmod_eq_emod_of_nonneg _ (by omega), ← hp]
    simp
  rw [hsp, hf, hq]
  refine ⟨by omega, hk, by omega, by omega, ?_, ?_⟩
  · intro i hi
    rw [(ring_tab hu hu2 hw he he2 hS hS2 t i hi).1, ← Int.natCast_mul, ← Int.natCast_mul]
    simp only [Int.ofNat_lt]
  · intro i hi
    rw [(ring_tab hu hu2 hw he he2 hS hS2 t i hi).2, ← Int.natCast_mul, ← Int.natCast_mul]
    simp only [Int.ofNat_lt]
theorem vB_at {u w mo wh s : Nat} (hu : 0 < u) : vB (u : Int) (w : Int) (mo : Int) (wh : Int) ((w + u * s : Nat) : Int) = ((wh + mo * s : Nat) : Int) := by
  unfold vB
  have e : (mo : Int) * (((w + u * s : Nat) : Int) - (w : Int)) = (mo * s : Int) * (u : Int) := by
    rw [show ((w + u * s : Nat) : Int) - (w : Int) = (u : Int) * (s : Int) by rw [Int.natCast_add, Int.natCast_mul]; omega]
    ac_rfl
  rw [e, Int.mul_fdiv_cancel _ (by omega)]
  simp only [Int.natCast_add, Int.natCast_mul]
theorem plain_p2 {u w e : Nat} (hu : 0 < u) (hu2 : u ≤ 2 ^ 20) (hw : w < 2 ^ 20) (he : 0 < e) (he2 : e ≤ 16) (at_ mo wh : Int) (h0 : 0 ≤ at_) (h1 : at_ < ((6 * e : Nat) : Int)) (h2 : 1 ≤ mo) (h3 : mo ≤ 2 ^ 44) (h4 : 0 ≤ wh) (h5 : wh < 2 ^ 48) :
    BOk (colC (u : Int) (w : Int) (e : Int)) (hsT (u : Int) (w : Int) (e : Int)) (6 * e) (u : Int) (w : Int) at_ mo wh := by
  obtain ⟨j, rfl⟩ := Int.eq_ofNat_of_zero_le h0
  obtain ⟨k, rfl⟩ := Int.eq_ofNat_of_zero_le (show 0 ≤ mo by omega)
  obtain ⟨v, rfl⟩ := Int.eq_ofNat_of_zero_le h4
  obtain ⟨s1, s2, s3, r⟩ := tabAt (u := u) (w := w) he (show j < 6 * e by omega)
  have b1 := bnd_us hu2 he2 r.l1
  have b2 := bnd_us hu2 he2 r.l2
  have b3 := bnd_us hu2 he2 r.l3
  have c1 := bnd_us (show k ≤ 2 ^ 44 by omega) he2 r.l1
  have c2 := bnd_us (show k ≤ 2 ^ 44 by omega) he2 r.l2
  have c3 := bnd_us (show k ≤ 2 ^ 44 by omega) he2 r.l3
  have c4 := bnd_us (show k ≤ 2 ^ 44 by omega) he2 (Nat.le_refl e)
  have hh := hsv_steps (w := v) (u := k) (show 0 < k by omega) he r.l1 r.l2 r.l3 r.top r.bot (by omega) (by decide) (f25_fv (n := v + k * s1) (by omega)) (f25_fv (n := v + k * s2) (by omega)) (f25_fv (n := v + k * s3) (by omega))
  unfold BOk
  rw [Int.toNat_natCast, r.col]
  dsimp only
  rw [vB_at hu, vB_at hu, vB_at hu, hh.2]
  have mul_lt : ∀ a b : Nat, (a * e < b * e) = (a < b) := fun a b => propext (Nat.mul_lt_mul_right he)
  refine ⟨by omega, by omega, by omega, by omega, hh.1, ?_, ?_⟩
  · intro i hi
    rw [(ring_tab hu hu2 hw he he2 he (by omega) r.tri i hi).1]
    simp only [mul_lt, Int.ofNat_lt]
  · intro i hi
    rw [(ring_tab hu hu2 hw he he2 he (by omega) r.tri i hi).2]
    simp only [mul_lt]
    apply decide_eq_decide.mpr
    omega
theorem plain_at (each unit base_ : Int) (h1 : 1 ≤ each) (h2 : each ≤ 16) (h3 : 1 ≤ unit) (h4 : unit ≤ 2 ^ 20) (h5 : 0 ≤ base_) (h6 : base_ < 2 ^ 20) : PlainAt each unit base_ := by
  obtain ⟨e, rfl⟩ := Int.eq_ofNat_of_zero_le (show 0 ≤ each by omega)
  obtain ⟨u, rfl⟩ := Int.eq_ofNat_of_zero_le (show 0 ≤ unit by omega)
  obtain ⟨w, rfl⟩ := Int.eq_ofNat_of_zero_le h5
  have n6 : (6 * (e : Int)).toNat = 6 * e := by omega
  refine ⟨?_, ?_, ?_⟩
  · rw [n6]; exact plain_rows (by omega) (by omega) (by omega) (by omega) (by omega)
  · rw [n6]; exact plain_p1 (by omega) (by omega) (by omega) (by omega) (by omega)
  · rw [n6]; exact plain_p2 (by omega) (by omega) (by omega) (by omega) (by omega)
theorem done : PySem.Challenge.rw_dn0051_01.Holds := law_holds plain_at
end Mine
end
theorem PySem.Challenge.cw_dn0051_01_holds : PySem.Challenge.rw_dn0051_01.Holds := by
  exact Mine.law_holds Mine.plain_at
