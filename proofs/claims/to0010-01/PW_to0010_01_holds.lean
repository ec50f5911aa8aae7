import PyProof.Rows.All
import Wide.All
import OpenK.AllK
import Wide.FinOn
import PySem.Challenge.RW_to0010_01
open PySem PySem.W PyProof.Rows
set_option Elab.async false
set_option linter.all false
set_option rowWalk.seconds 0
namespace Mine
local macro_rules | `(tactic| walk_at $s:str) => `(tactic| k_extra $s)
local macro_rules | `(tactic| walk_at "pyIter ref") => `(tactic| k_extra "M pyIter ref")
section
local macro_rules | `(tactic| o_head $_) => `(tactic| (exfalso; assumption))
set_option maxRecDepth 100000 in
theorem pre (hf : False) : (PySem.Challenge.rw_to0010_01).row.Holds := by k_head
end
set_option maxRecDepth 100000 in
theorem blk : (fun _ : Params → Frag => true) Mine.pre.heap_1 = true := by
  first
  | (set_option maxHeartbeats 40 in k_qdec)
  | rfl
set_option maxRecDepth 100000 in
theorem blk' : (fun _ : Program => true) PySem.Challenge.pw_to0010_01 = true := by
  first
  | (set_option maxHeartbeats 40 in k_qdec)
  | rfl
section
local macro_rules | `(tactic| k_head) => `(tactic| o_head (kHook Mine.pre.heap_1 [nat_lit 2, nat_lit 3, nat_lit 6, nat_lit 15, nat_lit 17, nat_lit 18, nat_lit 20, nat_lit 21, nat_lit 22, nat_lit 24, nat_lit 25, nat_lit 27, nat_lit 28, nat_lit 29, nat_lit 36, nat_lit 37, nat_lit 38, nat_lit 39, nat_lit 42, nat_lit 49, nat_lit 50, nat_lit 51, nat_lit 54, nat_lit 56, nat_lit 57, nat_lit 59, nat_lit 60, nat_lit 61, nat_lit 63, nat_lit 64, nat_lit 66, nat_lit 67, nat_lit 68, nat_lit 70, nat_lit 71, nat_lit 73, nat_lit 74, nat_lit 75, nat_lit 77, nat_lit 78, nat_lit 80, nat_lit 81, nat_lit 82, nat_lit 85, nat_lit 86, nat_lit 87, nat_lit 89, nat_lit 90, nat_lit 92, nat_lit 93, nat_lit 94, nat_lit 97, nat_lit 98, nat_lit 99, nat_lit 102, nat_lit 103] (fun _ => by kernel_rfl)))
set_option maxRecDepth 100000 in
set_option maxHeartbeats 8000000 in
open_top hd for PySem.Challenge.rw_to0010_01
theorem said0 : True := by
  w_top off
  trivial
end
local macro_rules | `(tactic| kst_allIn) => `(tactic| with_reducible exact fun _ h => List.mem_cons_of_mem _ (List.mem_append_left _ h))
noncomputable abbrev Led := List (Addr × Obj)
noncomputable abbrev tupO (vs : List Value) : Obj := { cls := .type "tuple", data := .seq vs.toArray }
noncomputable abbrev RetK := Heap → Addr → (Str → Option Value) → Led → Shared → (Value → Shared → Prop) → Prop
noncomputable def Told (w : World) (mean : ExcName → Option Value) (mg mb : Str → Option Value) (f : Addr) (vs : List Value) (d u : Nat) (pre : Led → Prop) (Ret : RetK) : Prop :=
  ∀ (dp un : Nat) (gd : Option (List Code)) (cn : Str) (cs : Scope) (a : Addr) (ccd : Value) (cl : List (Str × Addr)) (outer : List Env) (A₀ : Around) (base h₀ : Heap) (L : Addr) (m : Str → Option Value) (news : Led) (s : Shared)
    (Q E : Value → Shared → Prop),
    Below A₀ base outer h₀ → Fr h₀ L s.heap m → (Mine.pre.heap_1 w.params).In h₀ → News h₀ L s.heap news → Top hd.view_39 (looseW hd.view_39 []) mean mg mb h₀ → cs.kind = .function → pre news → dp + d < recursionLimit → un + 8 * u < cLine →
    Ret h₀ L m news s Q →
    wpAny (model PySem.Challenge.rw_to0010_01.row.prog w) (ktrTop dp un gd cn cs L a ccd cl outer) (call (.ref f) vs) Q E s
noncomputable abbrev T3 := UInt64 × UInt64 × UInt64
noncomputable abbrev t3O (x : T3) (n1 n2 n3 : Tok) : Obj := tupO [.float x.1 n1, .float x.2.1 n2, .float x.2.2 n3]
noncomputable abbrev RetI (i : Int) : RetK := fun h₀ L m news s Q => ∀ (t : Tok) (h' : Heap) (tk' : Nat), Fr h₀ L h' m → News h₀ L h' news → Q (.int i t) { s with heap := h', toks := tk' }
theorem retI {i j : Int} {h₀ h' : Heap} {L : Addr} {m : Str → Option Value} {news : Led} {s : Shared} {Q : Value → Shared → Prop} {t : Tok} {tk' : Nat} (h : RetI i h₀ L m news s Q) (e : j = i) (F : Fr h₀ L h' m)
    (N : News h₀ L h' news) : Q (.int j t) { s with heap := h', toks := tk' } := by
  subst e; exact h t h' tk' F N
noncomputable abbrev RetS (x : Str) : RetK := fun h₀ L m news s Q => ∀ (t : Tok) (h' : Heap) (tk' : Nat), Fr h₀ L h' m → News h₀ L h' news → Q (.str x t) { s with heap := h', toks := tk' }
theorem retS {x y : Str} {h₀ h' : Heap} {L : Addr} {m : Str → Option Value} {news : Led} {s : Shared} {Q : Value → Shared → Prop} {t : Tok} {tk' : Nat} (h : RetS x h₀ L m news s Q) (e : y = x) (F : Fr h₀ L h' m)
    (N : News h₀ L h' news) : Q (.str y t) { s with heap := h', toks := tk' } := by
  subst e; exact h t h' tk' F N
theorem sub_nil {news : Led} : ∀ p ∈ ([] : Led), p ∈ news := fun _ h => absurd h List.not_mem_nil
theorem sub_cons {a : Addr × Obj} {l news : Led} (h : a ∈ news) (r : ∀ p ∈ l, p ∈ news) : ∀ p ∈ a :: l, p ∈ news := List.forall_mem_cons.mpr ⟨h, r⟩
noncomputable def Thn {α : Type} (Q : α → Shared → Prop) (v : α) (s : Shared) : Prop := Q v s
noncomputable def To {α : Type} (Q Q9 : α → Shared → Prop) : Prop := ∀ v s', Q v s' → Thn Q9 v s'
theorem to_go {α : Type} {Q Q9 : α → Shared → Prop} {v : α} {s' : Shared} (h : To Q Q9) (k : Q v s') : Thn Q9 v s' := h v s' k
noncomputable def NoE : Value → Shared → Prop := fun _ _ => False
theorem hide {α : Type} {M : Model} {A : Around} {t : Sem α} {Q : α → Shared → Prop} {E : Value → Shared → Prop} {s : Shared} (h : ∀ Q9 : α → Shared → Prop, To Q Q9 → wpAny M A t (Thn Q9) NoE s) : wpAny M A t Q E s :=
  wpAny_mono (h Q fun _ _ h => h) (fun _ _ h => h) (fun _ _ h => h.elim)
noncomputable def Mark (_ : Nat) : Prop := True
theorem mark (n : Nat) : Mark n := trivial
section
variable {M : Model} {A : Around} {t : Sem Flow} {Q : Flow → Shared → Prop} {E : Value → Shared → Prop} {s s₁ : Shared} {h₀ : Heap} {L : Addr} {m : Str → Option Value} {news news' : Led}
theorem trimG0 (_ : s₁.gens = #[]) {fr : (Str → Option Value) → Str → Option Value} (F : Fr h₀ L s.heap m) (N : News h₀ L s.heap news) (hs : s = { s₁ with heap := s.heap, toks := s.toks }) (he : fr m = m) (hN : ∀ p ∈ news', p ∈ news)
    (k : ∀ (m' : Str → Option Value) (h' : Heap) (tk' : Nat), Fr h₀ L h' (fr m') → News h₀ L h' news' → wpAny M A t Q E { s₁ with heap := h', toks := tk' }) : wpAny M A t Q E s := by
  have e : fr m = m := he
  rw [hs]
  exact k m s.heap s.toks (by rw [e]; exact F) fun p hp => N p (hN p hp)
end
theorem ite_same {y x : Str} {v : Value} {r : Option Value} {m : Str → Option Value} (e : m x = some v) (h : r = m y) : (if y = x then some v else r) = m y := by
  split
  · next h1 => rw [h1, e]
  · exact h
section
variable {M : Model} {A : Around} {t : Sem Flow} {Q : Flow → Shared → Prop} {E : Value → Shared → Prop} {s s₁ : Shared} {h₀ : Heap} {L : Addr} {m : Str → Option Value} {news news' : Led}
theorem trimK3 {x1 x2 x3 : Str} {v1 v2 v3 : Value} (F : Fr h₀ L s.heap m) (N : News h₀ L s.heap news) (hs : s = { s₁ with heap := s.heap, toks := s.toks }) (e1 : m x1 = some v1) (e2 : m x2 = some v2) (e3 : m x3 = some v3) (hN : ∀ p ∈ news', p ∈ news)
    (k : ∀ (m' : Str → Option Value) (h' : Heap) (tk' : Nat), Fr h₀ L h' (fun y => if y = x1 then some (v1) else if y = x2 then some (v2) else if y = x3 then some (v3) else m' y) → News h₀ L h' news' → wpAny M A t Q E { s₁ with heap := h', toks := tk' }) : wpAny M A t Q E s := by
  have e : (fun y => if y = x1 then some (v1) else if y = x2 then some (v2) else if y = x3 then some (v3) else m y) = m := funext fun y => ite_same e1 (ite_same e2 (ite_same e3 (rfl)))
  rw [hs]
  exact k m s.heap s.toks (by rw [e]; exact F) fun p hp => N p (hN p hp)
end
section
variable {M : Model} {A : Around} {t : Sem Flow} {Q : Flow → Shared → Prop} {E : Value → Shared → Prop} {s s₁ : Shared} {h₀ : Heap} {L : Addr} {m : Str → Option Value} {news news' : Led}
end
theorem letFN {M : Model} {A : Around} {t : Sem Flow} {Q : Flow → Shared → Prop} {E : Value → Shared → Prop} {s : Shared} {h₀ : Heap} {L : Addr} {m : Str → Option Value} {news : Led} (F : Fr h₀ L s.heap m) (N : News h₀ L s.heap news)
    (k : let m1 := m; let nw := news; Fr h₀ L s.heap m1 → News h₀ L s.heap nw → wpAny M A t Q E s) : wpAny M A t Q E s := k F N
noncomputable def hsvI (h : UInt64) : Int := Flt.toInt Float64.truncOf (Float64.mul h 4618441417868443648)
noncomputable def hsvF (h : UInt64) : UInt64 := Float64.sub (Float64.mul h 4618441417868443648) (Float64.ofInt (hsvI h))
noncomputable def hsvS (h s v : UInt64) : T3 :=
  if (Float64.cmp s 0 == some Ordering.eq) = true then (v, v, v) else
  let p := Float64.mul v (Float64.sub 4607182418800017408 s)
  let q := Float64.mul v (Float64.sub 4607182418800017408 (Float64.mul s (hsvF h)))
  let t := Float64.mul v (Float64.sub 4607182418800017408 (Float64.mul s (Float64.sub 4607182418800017408 (hsvF h))))
  let k := (hsvI h).fmod 6
  if k = 0 then (v, t, p) else if k = 1 then (q, v, p) else if k = 2 then (p, v, t) else if k = 3 then (p, q, v) else if k = 4 then (t, p, v) else (v, p, q)
theorem fin_nan {x : UInt64} (h : Float64.isFinite x = true) : ¬ Float64.isNaN x = true := by rw [Flt.not_nan_of_finite h]; simp
theorem fin_inf {x : UInt64} (h : Float64.isFinite x = true) : ¬ Float64.isInf x = true := by
  unfold Float64.isFinite at h; unfold Float64.isInf; split at h <;> simp_all

section
variable {h s v : UInt64}
noncomputable abbrev hI (h : UInt64) : Int := (Flt.toInt Float64.truncOf (Float64.mul h 4618441417868443648))
theorem hsvS_e (c : (Float64.cmp s 0 == some Ordering.eq) = true) : (v, v, v) = hsvS h s v := by unfold hsvS; rw [if_pos c]
theorem hsvS_n (c : (Float64.cmp s 0 == some Ordering.eq) = false) : hsvS h s v = (
  let p := Float64.mul v (Float64.sub 4607182418800017408 s)
  let q := Float64.mul v (Float64.sub 4607182418800017408 (Float64.mul s (hsvF h)))
  let t := Float64.mul v (Float64.sub 4607182418800017408 (Float64.mul s (Float64.sub 4607182418800017408 (hsvF h))))
  let k := (hsvI h).fmod 6
  if k = 0 then (v, t, p) else if k = 1 then (q, v, p) else if k = 2 then (p, v, t) else if k = 3 then (p, q, v) else if k = 4 then (t, p, v) else (v, p, q)) := by unfold hsvS; rw [if_neg (by rw [c]; exact Bool.false_ne_true)]
theorem hsvS_0 (c : (Float64.cmp s 0 == some Ordering.eq) = false) (e : (hI h).fmod 6 = 0) : (v, Float64.mul v (Float64.sub 4607182418800017408 (Float64.mul s (Float64.sub 4607182418800017408 (Float64.sub (Float64.mul h 4618441417868443648) (Float64.ofInt (hI h)))))), Float64.mul v (Float64.sub 4607182418800017408 s)) = hsvS h s v := by
  have e' : (hsvI h).fmod 6 = 0 := e
  rw [hsvS_n c, e']; rfl
theorem hsvS_1 (c : (Float64.cmp s 0 == some Ordering.eq) = false) (e : (hI h).fmod 6 = 1) : (Float64.mul v (Float64.sub 4607182418800017408 (Float64.mul s (Float64.sub (Float64.mul h 4618441417868443648) (Float64.ofInt (hI h))))), v, Float64.mul v (Float64.sub 4607182418800017408 s)) = hsvS h s v := by
  have e' : (hsvI h).fmod 6 = 1 := e
  rw [hsvS_n c, e']; rfl
theorem hsvS_2 (c : (Float64.cmp s 0 == some Ordering.eq) = false) (e : (hI h).fmod 6 = 2) : (Float64.mul v (Float64.sub 4607182418800017408 s), v, Float64.mul v (Float64.sub 4607182418800017408 (Float64.mul s (Float64.sub 4607182418800017408 (Float64.sub (Float64.mul h 4618441417868443648) (Float64.ofInt (hI h))))))) = hsvS h s v := by
  have e' : (hsvI h).fmod 6 = 2 := e
  rw [hsvS_n c, e']; rfl
theorem hsvS_3 (c : (Float64.cmp s 0 == some Ordering.eq) = false) (e : (hI h).fmod 6 = 3) : (Float64.mul v (Float64.sub 4607182418800017408 s), Float64.mul v (Float64.sub 4607182418800017408 (Float64.mul s (Float64.sub (Float64.mul h 4618441417868443648) (Float64.ofInt (hI h))))), v) = hsvS h s v := by
  have e' : (hsvI h).fmod 6 = 3 := e
  rw [hsvS_n c, e']; rfl
theorem hsvS_4 (c : (Float64.cmp s 0 == some Ordering.eq) = false) (e : (hI h).fmod 6 = 4) : (Float64.mul v (Float64.sub 4607182418800017408 (Float64.mul s (Float64.sub 4607182418800017408 (Float64.sub (Float64.mul h 4618441417868443648) (Float64.ofInt (hI h)))))), Float64.mul v (Float64.sub 4607182418800017408 s), v) = hsvS h s v := by
  have e' : (hsvI h).fmod 6 = 4 := e
  rw [hsvS_n c, e']; rfl
theorem hsvS_5 (c : (Float64.cmp s 0 == some Ordering.eq) = false) (e : (hI h).fmod 6 = 5) : (v, Float64.mul v (Float64.sub 4607182418800017408 s), Float64.mul v (Float64.sub 4607182418800017408 (Float64.mul s (Float64.sub (Float64.mul h 4618441417868443648) (Float64.ofInt (hI h)))))) = hsvS h s v := by
  have e' : (hsvI h).fmod 6 = 5 := e
  rw [hsvS_n c, e']; rfl
end
open PySem.Flt in
section
variable {prog : Program} {w : World} {A : Around} {E : Value → Shared → Prop} {s : Shared} {Q : Value → Shared → Prop}
theorem three_hold {s : Shared} {a b c : Value} {wr : List Addr} {h' : Heap} (h : ∀ d o, d ∉ wr → ((s.heap.push { cls := .type "tuple", data := .seq #[a, b, c] }).push { cls := .type "tuple_iterator", data := .fields #[.ref s.heap.objs.size, .int 0 0] }).get? d = some o → h'.get? d = some o)
    (hw : ∀ d ∈ wr, s.heap.objs.size < d) : ∀ d o, s.heap.get? d = some o → h'.get? d = some o := fun d o e =>
  h d o (fun hm => Nat.lt_asymm (Heap.lt_size e) (hw d hm)) (Heap.get?_push_of_some _ (Heap.get?_push_of_some _ e))
theorem best3 (bt : Nat → Nat → Bool) : argBest bt 2 = if bt 1 0 then (if bt 2 1 then 2 else 1) else (if bt 2 0 then 2 else 0) := by
  cases h1 : bt 1 0 <;> cases h2 : bt 2 1 <;> cases h3 : bt 2 0 <;> simp [argBest, h1, h2, h3]
theorem max3_num {a b c : Value} (hh : A.handled = none) (ha : NumV a) (hb : NumV b) (hc : NumV c)
    (h : ∀ h' tk, (∀ d o, s.heap.get? d = some o → h'.get? d = some o) → Q (if ltV a b then (if ltV b c then c else b) else (if ltV a c then c else a)) { s with heap := h', toks := tk }) :
    wpAny (model prog w) A (call (.builtin "max") [a, b, c]) Q E s := by
  have hT : (s.heap.push { cls := .type "tuple", data := .seq #[a, b, c] }).IsTuple s.heap.objs.size #[a, b, c] := ⟨_, Heap.get?_push_size _ rfl, rfl, 0, rfl⟩
  refine call_max_three (wpAny_pyIter_tuple hT ?_)
  have hsz : (s.heap.push { cls := .type "tuple", data := .seq #[a, b, c] }).objs.size = s.heap.objs.size + 1 := Heap.size_push ..
  refine ⟨_, [_, s.heap.objs.size], [_], _, _, _, _, rfl, Walks.tuple (A := A.in1) hh _ s.heap.objs.size (by rw [hsz]; exact Nat.ne_of_lt (Nat.lt_succ_self _)) #[a, b, c],
    ⟨⟨_, Heap.get?_push_size _ rfl, rfl, rfl⟩, hT.push _⟩, fun d hd => ?_, by simp, cmpOf_gt #[a, b, c] (by simp [ha, hb, hc]), fun v h' tk hP hk => ?_⟩
  · show d < ((s.heap.push _).push _).objs.size
    rw [Heap.size_push, hsz]
    simp only [List.mem_cons, List.not_mem_nil, or_false, hsz] at hd
    have h9 : (s.heap.objs.size : Nat) < s.heap.objs.size + 1 + 1 := by omega
    rcases hd with rfl | rfl
    · exact Nat.lt_succ_self _
    · exact h9
  · have := h h' tk (three_hold hk fun d hd => by rw [List.mem_singleton.mp hd, hsz]; exact Nat.lt_succ_self _)
    have hv : v = if ltV a b then (if ltV b c then c else b) else (if ltV a c then c else a) := by
      have hP' : (#[a, b, c] : Array Value)[argBest (fun i j => ltV (#[a, b, c].getD j .none) (#[a, b, c].getD i .none)) 2]? = some v := hP
      rw [best3] at hP'
      have e1 : ltV (#[a, b, c].getD 0 .none) (#[a, b, c].getD 1 .none) = ltV a b := rfl
      have e2 : ltV (#[a, b, c].getD 1 .none) (#[a, b, c].getD 2 .none) = ltV b c := rfl
      have e3 : ltV (#[a, b, c].getD 0 .none) (#[a, b, c].getD 2 .none) = ltV a c := rfl
      rw [e1, e2, e3] at hP'
      cases h1 : ltV a b <;> cases h2 : ltV b c <;> cases h3 : ltV a c <;> simp [h1, h2, h3] at hP' <;> simp [hP']
    rw [hv]; exact this
theorem min3_num {a b c : Value} (hh : A.handled = none) (ha : NumV a) (hb : NumV b) (hc : NumV c)
    (h : ∀ h' tk, (∀ d o, s.heap.get? d = some o → h'.get? d = some o) → Q (if ltV b a then (if ltV c b then c else b) else (if ltV c a then c else a)) { s with heap := h', toks := tk }) :
    wpAny (model prog w) A (call (.builtin "min") [a, b, c]) Q E s := by
  have hT : (s.heap.push { cls := .type "tuple", data := .seq #[a, b, c] }).IsTuple s.heap.objs.size #[a, b, c] := ⟨_, Heap.get?_push_size _ rfl, rfl, 0, rfl⟩
  refine call_min_three (wpAny_pyIter_tuple hT ?_)
  have hsz : (s.heap.push { cls := .type "tuple", data := .seq #[a, b, c] }).objs.size = s.heap.objs.size + 1 := Heap.size_push ..
  refine ⟨_, [_, s.heap.objs.size], [_], _, _, _, _, rfl, Walks.tuple (A := A.in1) hh _ s.heap.objs.size (by rw [hsz]; exact Nat.ne_of_lt (Nat.lt_succ_self _)) #[a, b, c],
    ⟨⟨_, Heap.get?_push_size _ rfl, rfl, rfl⟩, hT.push _⟩, fun d hd => ?_, by simp, cmpOf_lt #[a, b, c] (by simp [ha, hb, hc]), fun v h' tk hP hk => ?_⟩
  · show d < ((s.heap.push _).push _).objs.size
    rw [Heap.size_push, hsz]
    simp only [List.mem_cons, List.not_mem_nil, or_false, hsz] at hd
    have h9 : (s.heap.objs.size : Nat) < s.heap.objs.size + 1 + 1 := by omega
    rcases hd with rfl | rfl
    · exact Nat.lt_succ_self _
    · exact h9
  · have := h h' tk (three_hold hk fun d hd => by rw [List.mem_singleton.mp hd, hsz]; exact Nat.lt_succ_self _)
    have hv : v = if ltV b a then (if ltV c b then c else b) else (if ltV c a then c else a) := by
      have hP' : (#[a, b, c] : Array Value)[argBest (fun i j => ltV (#[a, b, c].getD i .none) (#[a, b, c].getD j .none)) 2]? = some v := hP
      rw [best3] at hP'
      have e1 : ltV (#[a, b, c].getD 1 .none) (#[a, b, c].getD 0 .none) = ltV b a := rfl
      have e2 : ltV (#[a, b, c].getD 2 .none) (#[a, b, c].getD 1 .none) = ltV c b := rfl
      have e3 : ltV (#[a, b, c].getD 2 .none) (#[a, b, c].getD 0 .none) = ltV c a := rfl
      rw [e1, e2, e3] at hP'
      cases h1 : ltV b a <;> cases h2 : ltV c b <;> cases h3 : ltV c a <;> simp [h1, h2, h3] at hP' <;> simp [hP']
    rw [hv]; exact this
noncomputable def fmax (x y : UInt64) : UInt64 := if (Float64.cmp x y == some .lt) = true then y else x
noncomputable def fmin (x y : UInt64) : UInt64 := if (Float64.cmp y x == some .lt) = true then y else x
variable {h₀ : Heap} {L : Addr} {m : Str → Option Value} {news : List (Addr × Obj)} {x y z : UInt64} {t u v : Tok}
theorem min3_ff (hh : A.handled = none) (F : Fr h₀ L s.heap m) (N : News h₀ L s.heap news)
    (h : ∀ h' tk v, Fr h₀ L h' m → News h₀ L h' news → Q (.float (fmin (fmin x y) z) v) { s with heap := h', toks := tk }) :
    wpAny (model prog w) A (call (.builtin "min") [.float x t, .float y u, .float z v]) Q E s :=
  min3_num hh (.float _ _) (.float _ _) (.float _ _) fun h' tk hk => by
    have H := fun n => h h' tk n (F.grownK hk) (N.grown hk)
    cases h1 : ltV (.float y u) (.float x t) <;> cases h2 : ltV (.float z v) (.float y u) <;> cases h3 : ltV (.float z v) (.float x t) <;>
      simp only [ltV] at h1 h2 h3 <;> simp only [fmin, h1, h2, h3] at H <;> simp only [Bool.false_eq_true, if_false, if_true, h1, h2, h3] at H ⊢ <;> exact H _
end
noncomputable def rgbX (r g b : UInt64) : UInt64 := fmax (fmax r g) b
noncomputable def rgbN (r g b : UInt64) : UInt64 := fmin (fmin r g) b
noncomputable def rgbH (h d x : UInt64) : T3 := ((Float64.divmod (Float64.div h 4618441417868443648) 4607182418800017408).2, Float64.div d x, x)
noncomputable def rgbS (r g b : UInt64) : T3 :=
  let x := rgbX r g b
  let d := Float64.sub x (rgbN r g b)
  let rc := Float64.div (Float64.sub x r) d
  let gc := Float64.div (Float64.sub x g) d
  let bc := Float64.div (Float64.sub x b) d
  if (Float64.cmp (rgbN r g b) x == some Ordering.eq) = true then (0, 0, x)
  else if (Float64.cmp r x == some Ordering.eq) = true then rgbH (Float64.sub bc gc) d x
  else if (Float64.cmp g x == some Ordering.eq) = true then rgbH (Float64.sub (Float64.add 4611686018427387904 rc) bc) d x
  else rgbH (Float64.sub (Float64.add 4616189618054758400 gc) rc) d x
section
variable {r g b : UInt64}
theorem rgbS_e (c : (Float64.cmp (fmin (fmin r g) b) (fmax (fmax r g) b) == some Ordering.eq) = true) : (0, 0, fmax (fmax r g) b) = rgbS r g b := by
  unfold rgbS; rw [if_pos (show (Float64.cmp (rgbN r g b) (rgbX r g b) == some Ordering.eq) = true from c)]; rfl
theorem not_of {b : Bool} (h : b = false) : ¬ b = true := by rw [h]; exact Bool.false_ne_true
theorem rgbS_r (c : (Float64.cmp (fmin (fmin r g) b) (fmax (fmax r g) b) == some Ordering.eq) = false) (c1 : (Float64.cmp r (fmax (fmax r g) b) == some Ordering.eq) = true) :
    rgbH (Float64.sub (Float64.div (Float64.sub (fmax (fmax r g) b) b) (Float64.sub (fmax (fmax r g) b) (fmin (fmin r g) b))) (Float64.div (Float64.sub (fmax (fmax r g) b) g) (Float64.sub (fmax (fmax r g) b) (fmin (fmin r g) b)))) (Float64.sub (fmax (fmax r g) b) (fmin (fmin r g) b)) (fmax (fmax r g) b) = rgbS r g b := by
  unfold rgbS; rw [if_neg (not_of (show (Float64.cmp (rgbN r g b) (rgbX r g b) == some Ordering.eq) = false from c)), if_pos (show (Float64.cmp r (rgbX r g b) == some Ordering.eq) = true from c1)]; rfl
theorem rgbS_g (c : (Float64.cmp (fmin (fmin r g) b) (fmax (fmax r g) b) == some Ordering.eq) = false) (c1 : (Float64.cmp r (fmax (fmax r g) b) == some Ordering.eq) = false) (c2 : (Float64.cmp g (fmax (fmax r g) b) == some Ordering.eq) = true) :
    rgbH (Float64.sub (Float64.add 4611686018427387904 (Float64.div (Float64.sub (fmax (fmax r g) b) r) (Float64.sub (fmax (fmax r g) b) (fmin (fmin r g) b)))) (Float64.div (Float64.sub (fmax (fmax r g) b) b) (Float64.sub (fmax (fmax r g) b) (fmin (fmin r g) b)))) (Float64.sub (fmax (fmax r g) b) (fmin (fmin r g) b)) (fmax (fmax r g) b) = rgbS r g b := by
  unfold rgbS; rw [if_neg (not_of (show (Float64.cmp (rgbN r g b) (rgbX r g b) == some Ordering.eq) = false from c)), if_neg (not_of (show (Float64.cmp r (rgbX r g b) == some Ordering.eq) = false from c1)), if_pos (show (Float64.cmp g (rgbX r g b) == some Ordering.eq) = true from c2)]; rfl
theorem rgbS_b (c : (Float64.cmp (fmin (fmin r g) b) (fmax (fmax r g) b) == some Ordering.eq) = false) (c1 : (Float64.cmp r (fmax (fmax r g) b) == some Ordering.eq) = false) (c2 : (Float64.cmp g (fmax (fmax r g) b) == some Ordering.eq) = false) :
    rgbH (Float64.sub (Float64.add 4616189618054758400 (Float64.div (Float64.sub (fmax (fmax r g) b) g) (Float64.sub (fmax (fmax r g) b) (fmin (fmin r g) b)))) (Float64.div (Float64.sub (fmax (fmax r g) b) r) (Float64.sub (fmax (fmax r g) b) (fmin (fmin r g) b)))) (Float64.sub (fmax (fmax r g) b) (fmin (fmin r g) b)) (fmax (fmax r g) b) = rgbS r g b := by
  unfold rgbS; rw [if_neg (not_of (show (Float64.cmp (rgbN r g b) (rgbX r g b) == some Ordering.eq) = false from c)), if_neg (not_of (show (Float64.cmp r (rgbX r g b) == some Ordering.eq) = false from c1)), if_neg (not_of (show (Float64.cmp g (rgbX r g b) == some Ordering.eq) = false from c2))]; rfl
end
/-- the paint can be told: it is a grey, or neither the greatest nor the span is nought -/
noncomputable def rgbOk (r g b : UInt64) : Bool := (Float64.cmp (rgbN r g b) (rgbX r g b) == some Ordering.eq) || (!Float64.isZero (rgbX r g b) && !Float64.isZero (Float64.sub (rgbX r g b) (rgbN r g b)))
theorem rgbOk_x {r g b : UInt64} (h : rgbOk r g b = true) (c : (Float64.cmp (fmin (fmin r g) b) (fmax (fmax r g) b) == some Ordering.eq) = false) : ¬ Float64.isZero (fmax (fmax r g) b) = true := by
  unfold rgbOk at h; rw [show (Float64.cmp (rgbN r g b) (rgbX r g b) == some Ordering.eq) = false from c] at h; simp at h; exact not_of h.1
theorem rgbOk_d {r g b : UInt64} (h : rgbOk r g b = true) (c : (Float64.cmp (fmin (fmin r g) b) (fmax (fmax r g) b) == some Ordering.eq) = false) : ¬ Float64.isZero (Float64.sub (fmax (fmax r g) b) (fmin (fmin r g) b)) = true := by
  unfold rgbOk at h; rw [show (Float64.cmp (rgbN r g b) (rgbX r g b) == some Ordering.eq) = false from c] at h; simp at h; exact not_of h.2
section
open PySem.Calls
theorem gen_pos {M : Model} {A : Around} {E : Value → Shared → Prop} {α : Type} {c : Sem α} {Q : α → Shared → Prop} {hp : Heap} {gn : Array GenState} {d : Drawn} {o : OsState} {y : Nat}
    (h : ∀ tk, tk ≠ 0 → wpAny M A c Q E ⟨hp, gn, d, tk, o⟩) : wpAny M A c Q E ⟨hp, gn, d, y + 1, o⟩ := h _ (Nat.succ_ne_zero _)
noncomputable abbrev RetT3n (x : T3) (P : Prop) : RetK := fun h₀ L m news s Q => ∀ (q : Addr) (n1 n2 n3 : Tok) (h' : Heap) (tk' : Nat), (P → n1 ≠ 0 ∧ n2 ≠ 0 ∧ n3 ≠ 0) → Fr h₀ L h' m → News h₀ L h' ((q, t3O x n1 n2 n3) :: news) → (∀ p ∈ news, p.1 < q) → Q (.ref q) { s with heap := h', toks := tk' }
theorem retT3n {x : T3} {a b c : UInt64} {P : Prop} {h₀ h' : Heap} {L q : Addr} {m : Str → Option Value} {news : Led} {s : Shared} {Q : Value → Shared → Prop} {n1 n2 n3 : Tok} {tk' : Nat} (h : RetT3n x P h₀ L m news s Q) (e : (a, b, c) = x) (F : Fr h₀ L h' m)
    (N : News h₀ L h' ((q, tupO [.float a n1, .float b n2, .float c n3]) :: news)) (lt : ∀ p ∈ news, p.1 < q) (hn : P → n1 ≠ 0 ∧ n2 ≠ 0 ∧ n3 ≠ 0) : Q (.ref q) { s with heap := h', toks := tk' } := by
  subst e; exact h q n1 n2 n3 h' tk' hn F N lt
theorem said1 : True := by
  k_with "execs nil" => (k_here; k_dflt (refine gen_pos ?_); intro tk9 hk9)
  k_with "execs cons" => (k_here; k_dflt (refine gen_pos ?_); intro tk9 hk9)
  trivial
set_option maxRecDepth 100000 in
set_option maxHeartbeats 8000000 in
theorem hsv_toldn (w : World) (mean : ExcName → Option Value) (mg mb : Str → Option Value) (h s v : UInt64) (th ts tv : Tok) (hf : Float64.isFinite (Float64.mul h 4618441417868443648) = true)
    (hi : (Flt.toInt Float64.truncOf (Float64.mul h 4618441417868443648)).natAbs < 2 ^ 1024 - 2 ^ 970) :
    Told w mean mg mb 28 [.float h th, .float s ts, .float v tv] 1 1 (fun _ => True) (RetT3n (hsvS h s v) (tv ≠ 0)) := by
  unfold Told
  k_fill
  intro dp un gd cn cs a ccd cl outer A₀ base h₀ L m news s Q E B F X N T hk hR hd hu hret
  refine wpAny_call ?_
  k_dflt ktr_enter
  k_steps
  all_goals first
    | exact absurd (by assumption) (fin_nan hf)
    | exact absurd (by assumption) (fin_inf hf)
    | exact absurd (by assumption) (Nat.not_le.mpr hi)
    | (exfalso; have h6 := Int.fmod_nonneg_of_pos (hsvI h) (show (0:Int) < 6 by decide); have h7 := Int.fmod_lt_of_pos (hsvI h) (show (0:Int) < 6 by decide); unfold hsvI at h6 h7; omega)
    | exact retT3n hret (hsvS_e (by assumption)) (by assumption) (by assumption) (by assumption) (fun _ => ⟨by first | assumption | exact Nat.succ_ne_zero _, by first | assumption | exact Nat.succ_ne_zero _, by first | assumption | exact Nat.succ_ne_zero _⟩)
    | exact retT3n hret (hsvS_0 (by assumption) (by assumption)) (by assumption) (by assumption) (by assumption) (fun _ => ⟨by first | assumption | exact Nat.succ_ne_zero _, by first | assumption | exact Nat.succ_ne_zero _, by first | assumption | exact Nat.succ_ne_zero _⟩)
    | exact retT3n hret (hsvS_1 (by assumption) (by assumption)) (by assumption) (by assumption) (by assumption) (fun _ => ⟨by first | assumption | exact Nat.succ_ne_zero _, by first | assumption | exact Nat.succ_ne_zero _, by first | assumption | exact Nat.succ_ne_zero _⟩)
    | exact retT3n hret (hsvS_2 (by assumption) (by assumption)) (by assumption) (by assumption) (by assumption) (fun _ => ⟨by first | assumption | exact Nat.succ_ne_zero _, by first | assumption | exact Nat.succ_ne_zero _, by first | assumption | exact Nat.succ_ne_zero _⟩)
    | exact retT3n hret (hsvS_3 (by assumption) (by assumption)) (by assumption) (by assumption) (by assumption) (fun _ => ⟨by first | assumption | exact Nat.succ_ne_zero _, by first | assumption | exact Nat.succ_ne_zero _, by first | assumption | exact Nat.succ_ne_zero _⟩)
    | exact retT3n hret (hsvS_4 (by assumption) (by assumption)) (by assumption) (by assumption) (by assumption) (fun _ => ⟨by first | assumption | exact Nat.succ_ne_zero _, by first | assumption | exact Nat.succ_ne_zero _, by first | assumption | exact Nat.succ_ne_zero _⟩)
    | exact retT3n hret (hsvS_5 (by assumption) (by assumption)) (by assumption) (by assumption) (by assumption) (fun _ => ⟨by first | assumption | exact Nat.succ_ne_zero _, by first | assumption | exact Nat.succ_ne_zero _, by first | assumption | exact Nat.succ_ne_zero _⟩)

section
variable {prog : Program} {w : World} {A : Around} {E : Value → Shared → Prop} {s : Shared} {Q : Value → Shared → Prop} {h₀ : Heap} {L : Addr} {m : Str → Option Value} {news : List (Addr × Obj)} {x y z : UInt64} {t u v : Tok}
theorem max3_ffn (hh : A.handled = none) (F : Fr h₀ L s.heap m) (N : News h₀ L s.heap news)
    (h : ∀ h' tk n, (n = t ∨ n = u ∨ n = v) → Fr h₀ L h' m → News h₀ L h' news → Q (.float (fmax (fmax x y) z) n) { s with heap := h', toks := tk }) :
    wpAny (model prog w) A (call (.builtin "max") [.float x t, .float y u, .float z v]) Q E s :=
  max3_num hh (.float _ _) (.float _ _) (.float _ _) fun h' tk hk => by
    have H := fun n hn => h h' tk n hn (F.grownK hk) (N.grown hk)
    cases h1 : Flt.ltV (.float x t) (.float y u) <;> cases h2 : Flt.ltV (.float y u) (.float z v) <;> cases h3 : Flt.ltV (.float x t) (.float z v) <;>
      simp only [Flt.ltV] at h1 h2 h3 <;> simp only [fmax, h1, h2, h3] at H <;> simp only [Bool.false_eq_true, if_false, if_true, h1, h2, h3] at H ⊢ <;> first | exact H _ (.inl rfl) | exact H _ (.inr (.inl rfl)) | exact H _ (.inr (.inr rfl))
end
theorem said2 : True := by
  k_with "call builtin:max" => ((with_reducible show wpAny _ _ (call _ [Value.float _ _, Value.float _ _, Value.float _ _]) _ _ _); (rename News _ _ _ _ => N'); (rename Fr _ _ _ _ => F'); refine max3_ffn rfl F' N' ?_; clear N'; intro _ _ _ hv9 _ _)
  k_with "call builtin:min" => ((with_reducible show wpAny _ _ (call _ [Value.float _ _, Value.float _ _, Value.float _ _]) _ _ _); (rename News _ _ _ _ => N'); (rename Fr _ _ _ _ => F'); refine min3_ff rfl F' N' ?_; clear N'; intro _ _ _ _ _)
  trivial
end
theorem said3 : True := by
  k_with_none
  trivial
section
noncomputable def S (l : List Nat) : Str := ⟨l.toArray⟩
noncomputable def parseL : List Nat → List Nat
  | [] => []
  | [c] => if c = 34 then [] else [c]
  | c :: e :: r => if c = 34 then (if e = 34 then 34 :: parseL r else []) else c :: parseL (e :: r)
noncomputable def W257 (b : List Nat) (i : Int) (d : Str) : Prop := d.cps.toList ++ parseL (b.drop (i.toNat - 5)) = parseL b
theorem S_len (l : List Nat) : (S l).length = l.length := by simp [S, Str.length]
theorem S_eq {x y : Str} (h : x.cps.toList = y.cps.toList) : x = y := Str.ext' (Array.toList_inj.mp h)
theorem S_toList (l : List Nat) : (S l).cps.toList = l := by simp [S]
theorem S_lit : S [50, 53, 55] = Str.ofString "257" := by decide +kernel
theorem S_litQ : S [32, 34] = Str.ofString " \"" := by decide +kernel
theorem S_slice_to (l : List Nat) (k : Nat) (hk : k ≤ l.length) : Txt.slice (S l) none (some (k : Int)) = S (l.take k) := by
  have h := slice_closes_toL (x := S l) (j := (k : Int)) (Int.natCast_nonneg k) (by rw [S_len]; omega)
  have h2 := beq_iff_eq.mp h
  rw [h2]; exact S_eq (by simp [S])
theorem S_slice_ss (l : List Nat) (i j : Nat) (hi : i ≤ j) (hk : j ≤ l.length) : Txt.slice (S l) (some (i : Int)) (some (j : Int)) = S ((l.drop i).take (j - i)) := by
  have h := slice_closesL (x := S l) (i := (i : Int)) (j := (j : Int)) (Int.natCast_nonneg i) (by omega) (by rw [S_len]; omega)
  have h2 := beq_iff_eq.mp h
  rw [h2]; exact S_eq (by simp [S])
theorem S_item (l : List Nat) (k : Nat) (h1 : k < l.length) : Txt.item (S l) (k : Int) = S [l[k]] := by
  have e : seqIndex? (k : Int) (S l).length = some k := by
    have h3 : ((S l).length : Int) = l.length := by rw [S_len]
    have h4 : ¬ ((k : Int) < 0) := by omega
    have h5 : (0 : Int) ≤ k ∧ (k : Int) < l.length := ⟨by omega, by omega⟩
    simp only [seqIndex?, h3, if_neg h4, Int.toNat_natCast]
    rw [if_pos (by simp [h1])]
  unfold Txt.item Txt.charAt
  rw [e]
  simp [S, h1]
structure IsP (b : List Nat) (x : Str) : Prop where
  eq : x = S (50 :: 53 :: 55 :: 32 :: 34 :: b)
theorem IsP.len {b : List Nat} {x : Str} (h : IsP b x) : x.length = b.length + 5 := by rw [h.eq, S_len]; rfl
theorem IsP.at {b : List Nat} {x : Str} (h : IsP b x) {i : Int} (h5 : 5 ≤ i) (hi : i < x.length) : ∃ c r, b.drop (i.toNat - 5) = c :: r ∧ Txt.item x i = S [c] ∧ b.drop ((i + 1).toNat - 5) = r := by
  have hl := h.len
  obtain ⟨k, rfl⟩ := Int.eq_ofNat_of_zero_le (show 0 ≤ i by omega)
  obtain ⟨j, rfl⟩ : ∃ j, k = j + 5 := ⟨k - 5, by omega⟩
  have hj : j < b.length := by omega
  refine ⟨b[j], b.drop (j + 1), ?_, ?_, ?_⟩
  · simp only [Int.toNat_natCast, Nat.add_sub_cancel]; exact List.drop_eq_getElem_cons hj
  · rw [h.eq, S_item _ _ (by simp only [List.length_cons]; omega)]
    simp only [List.getElem_cons_succ]
  · have : ((j + 5 : Nat) + 1 : Int).toNat - 5 = j + 1 := by omega
    rw [this]
theorem S_inj {l r : List Nat} (h : S l = S r) : l = r := by have := congrArg (fun x : Str => x.cps.toList) h; simpa [S] using this
theorem S_app (x : Str) (l : List Nat) : (x ++ S l).cps.toList = x.cps.toList ++ l := by rw [Str.cps_append, Array.toList_append, S_toList]
theorem S_q : Str.ofString "\"" = S [34] := by decide +kernel
theorem q_yes {c : Nat} (h : (S [c] == Str.ofString "\"") = true) : c = 34 := by
  have h1 := beq_iff_eq.mp h; rw [S_q] at h1; simpa using S_inj h1
theorem q_no {c : Nat} (h : (S [c] == Str.ofString "\"") = false) : c ≠ 34 := by
  intro e; rw [e, S_q] at h; simp at h
theorem parseL_q2 (r : List Nat) : parseL (34 :: 34 :: r) = 34 :: parseL r := by simp [parseL]
theorem parseL_q1 {e : Nat} (r : List Nat) (h : e ≠ 34) : parseL (34 :: e :: r) = [] := by simp [parseL, h]
theorem parseL_c {c : Nat} (r : List Nat) (h : c ≠ 34) : parseL (c :: r) = c :: parseL r := by cases r <;> simp [parseL, h]
section
variable {b : List Nat} {x d : Str} {i : Int}
theorem w_start : W257 b 5 (Str.ofString "") := by
  have e : (Str.ofString "").cps.toList = [] := by decide +kernel
  unfold W257; rw [e]; simp
theorem w_end (P : IsP b x) (h5 : 5 ≤ i) (hi : i ≤ (b.length : Int) + 5) (W : W257 b i d) (hn : ¬ i < (x.length : Int)) : d = S (parseL b) := by
  have hl := P.len
  unfold W257 at W
  rw [List.drop_of_length_le (by omega)] at W
  simp only [parseL, List.append_nil] at W
  exact S_eq (by rw [W, S_toList])
theorem w_brk1 (P : IsP b x) (h5 : 5 ≤ i) (W : W257 b i d) (hi : i < (x.length : Int)) (hq : (Txt.item x i == Str.ofString "\"") = true) (hn : (x.length : Int) ≤ i + 1) : d = S (parseL b) := by
  have hl := P.len
  obtain ⟨c, r, e1, e2, e3⟩ := P.at h5 hi
  rw [e2] at hq
  rw [List.drop_of_length_le (by omega)] at e3
  unfold W257 at W
  rw [e1, ← e3, q_yes hq] at W
  simp only [parseL, if_true, List.append_nil] at W
  exact S_eq (by rw [W, S_toList])
theorem w_brk2 (P : IsP b x) (h5 : 5 ≤ i) (W : W257 b i d) (hi : i < (x.length : Int)) (hq : (Txt.item x i == Str.ofString "\"") = true) (hn : ¬ (x.length : Int) ≤ i + 1) (hp : (Txt.item x (i + 1) != Str.ofString "\"") = true) : d = S (parseL b) := by
  obtain ⟨c, r, e1, e2, e3⟩ := P.at h5 hi
  obtain ⟨c', r', e1', e2', e3'⟩ := P.at (i := i + 1) (by omega) (by omega)
  rw [e2] at hq
  rw [e2'] at hp
  have hp' : (S [c'] == Str.ofString "\"") = false := by simpa [bne] using hp
  unfold W257 at W
  rw [e1, ← e3, e1', q_yes hq, parseL_q1 _ (q_no hp'), List.append_nil] at W
  exact S_eq (by rw [W, S_toList])
theorem w_two (P : IsP b x) (h5 : 5 ≤ i) (W : W257 b i d) (hi : i < (x.length : Int)) (hq : (Txt.item x i == Str.ofString "\"") = true) (hn : ¬ (x.length : Int) ≤ i + 1) (hp : (Txt.item x (i + 1) != Str.ofString "\"") = false) : W257 b (i + 1 + 1) (d ++ Txt.item x i) := by
  obtain ⟨c, r, e1, e2, e3⟩ := P.at h5 hi
  obtain ⟨c', r', e1', e2', e3'⟩ := P.at (i := i + 1) (by omega) (by omega)
  rw [e2] at hq ⊢
  rw [e2'] at hp
  have hp' : (S [c'] == Str.ofString "\"") = true := by simpa [bne] using hp
  unfold W257 at W ⊢
  rw [e3', S_app, List.append_assoc]
  rw [e1, ← e3, e1', q_yes hq, q_yes hp', parseL_q2] at W
  rw [q_yes hq]; exact W
theorem w_one (P : IsP b x) (h5 : 5 ≤ i) (W : W257 b i d) (hi : i < (x.length : Int)) (hq : (Txt.item x i == Str.ofString "\"") = false) : W257 b (i + 1) (d ++ Txt.item x i) := by
  obtain ⟨c, r, e1, e2, e3⟩ := P.at h5 hi
  rw [e2] at hq ⊢
  unfold W257 at W ⊢
  rw [e3, S_app, List.append_assoc]
  rw [e1, parseL_c _ (q_no hq)] at W
  exact W
end
set_option maxRecDepth 100000 in
set_option maxHeartbeats 8000000 in
theorem parse_told (w : World) (mean : ExcName → Option Value) (mg mb : Str → Option Value) (b : List Nat) (t1 : Tok) (hb : b.length ≤ 1000) :
    Told w mean mg mb 60 [.str (S (50 :: 53 :: 55 :: 32 :: 34 :: b)) t1] 1 1 (fun _ => True) (RetS (S (parseL b))) := by
  unfold Told
  k_fill
  intro dp un gd cn cs a ccd cl outer A₀ base h₀ L m news s Q E B F X N T hk hR hd hu hret
  have hP : IsP b (S (50 :: 53 :: 55 :: 32 :: 34 :: b)) := ⟨rfl⟩
  have h1 : ¬ (Txt.slice (S (50 :: 53 :: 55 :: 32 :: 34 :: b)) none (some 3) != Str.ofString "257") = true := by
    have h1 := (S_slice_to (50 :: 53 :: 55 :: 32 :: 34 :: b) 3 (by simp)).trans S_lit
    simp only [Int.cast_ofNat_Int] at h1
    rw [h1]; simp
  have h2 : ¬ (Txt.slice (S (50 :: 53 :: 55 :: 32 :: 34 :: b)) (some 3) (some 5) != Str.ofString " \"") = true := by
    have h2 := (S_slice_ss (50 :: 53 :: 55 :: 32 :: 34 :: b) 3 5 (by omega) (by simp)).trans S_litQ
    simp only [Int.cast_ofNat_Int] at h2
    rw [h2]; simp
  generalize S (50 :: 53 :: 55 :: 32 :: 34 :: b) = x at hP h1 h2 ⊢
  have hlen := hP.len
  have hlen2 : x.length ≤ 1005 := by omega
  k_with "exec While Compare cons nil" => k_while (fun _ i d => 5 ≤ i ∧ i ≤ (b.length : Int) + 5 ∧ (d.length : Int) ≤ i ∧ W257 b i d) (fun _ i d => ((b.length : Int) + 5 - i).toNat) "i" "dirname"
  k_with "state" => (refine ⟨by first | decide | omega, by first | decide | omega, by first | decide | omega, ?_⟩; first | exact w_start | exact w_two hP (by assumption) (by assumption) (by assumption) (by assumption) (by assumption) (by assumption) | exact w_one hP (by assumption) (by assumption) (by assumption) (by assumption))
  refine wpAny_call ?_
  k_dflt ktr_enter
  k_steps
  all_goals first
    | exact absurd (by assumption) h1
    | exact absurd (by assumption) h2
    | exact retS hret (w_end hP (by assumption) (by assumption) (by assumption) (by assumption)) (by assumption) (by assumption)
    | exact retS hret (w_brk1 hP (by assumption) (by assumption) (by assumption) (by assumption) (by assumption)) (by assumption) (by assumption)
    | exact retS hret (w_brk2 hP (by assumption) (by assumption) (by assumption) (by assumption) (by assumption) (by assumption)) (by assumption) (by assumption)
end
theorem said4 : True := by
  k_with_none
  trivial
section
variable {l r : List Nat} {i j : Int}
theorem S_from (h0 : 0 ≤ i) : Txt.slice (S l) (some i) none = S (l.drop i.toNat) := by
  by_cases h : i ≤ (l.length : Int)
  · rw [slice_from_eq (b := (l.length : Int)) h0 (by rw [S_len]; exact h) (by rw [S_len])]
    refine S_eq ?_
    simp only [S_toList]
    refine List.take_of_length_le ?_
    rw [List.length_drop]; omega
  · rw [slice_beyond (by rw [S_len]; omega), List.drop_of_length_le (by omega)]
    exact S_eq (by simp [Str.empty, S])
theorem S_to (h0 : 0 ≤ i) (h1 : i ≤ l.length) : Txt.slice (S l) none (some i) = S (l.take i.toNat) := by
  obtain ⟨k, rfl⟩ := Int.eq_ofNat_of_zero_le h0
  rw [S_slice_to l k (by omega)]; rfl
theorem S_toneg (h0 : i < 0) (h1 : -(l.length : Int) ≤ i) : Txt.slice (S l) none (some i) = S (l.take (l.length + i).toNat) := by
  rw [slice_to_neg h0, S_len, Int.max_eq_right (by omega)]
  exact S_to (by omega) (by omega)
open PySem.Builtin PySem.Builtin.Str in
theorem S_nn : Txt.slice (S l) none none = S l := by
  have h : strSliceIndices none none 1 (S l).length = strSliceIndices (some (0 : Int)) none 1 (S l).length := by
    have h1 : (0 : Int) = max 0 (min 0 ((S l).length : Int)) := by omega
    simp only [strSliceIndices, show (1 : Int) > 0 by decide, if_true, show ¬ (0 : Int) < 0 by decide, if_false]
    rw [← h1]
  have e : Txt.slice (S l) none none = Txt.slice (S l) (some 0) none := by unfold Txt.slice; rw [h]
  rw [e, S_from (Int.le_refl _)]; rfl
theorem S_at (h0 : 0 ≤ i) (h1 : i < l.length) : Txt.item (S l) i = S [l.getD i.toNat 0] := by
  obtain ⟨k, rfl⟩ := Int.eq_ofNat_of_zero_le h0
  rw [S_item l k (by omega)]
  simp only [Int.toNat_natCast]
  rw [List.getD_eq_getElem?_getD, List.getElem?_eq_getElem (by omega)]; rfl
theorem S_atneg (h0 : i < 0) (h1 : -(l.length : Int) ≤ i) : Txt.item (S l) i = S [l.getD (l.length + i).toNat 0] := by
  have e : Txt.item (S l) i = Txt.item (S l) (l.length + i) := by
    unfold Txt.item Txt.charAt
    have : seqIndex? i (S l).length = seqIndex? (l.length + i) (S l).length := by
      have h3 : ((S l).length : Int) = l.length := by rw [S_len]
      have h4 : ¬ ((l.length : Int) + i < 0) := by omega
      have h5 : i + (l.length : Int) = l.length + i := Int.add_comm _ _
      simp only [seqIndex?, h3, if_neg h4, if_pos h0, h5]
    rw [this]
  rw [e, S_at (by omega) (by omega)]
theorem S_beq : (S l == S r) = (l == r) := by
  by_cases h : l = r
  · subst h; simp
  · have : S l ≠ S r := fun e => h (S_inj e)
    rw [beq_eq_false_iff_ne.mpr this, beq_eq_false_iff_ne.mpr h]
theorem S_cat : S l ++ S r = S (l ++ r) := S_eq (by rw [S_app, S_toList, S_toList])
theorem S_size (h : l.length ≤ 1000000) : (S l).length ≤ sizeLine := by rw [S_len, sizeLine_eq]; omega
end
section
variable {prog : Program} {w : World} {A : Around} {E : Value → Shared → Prop} {s : Shared} {value slice : Expr} {l r : List Nat} {t u : Tok} {h₀ : Heap} {L : Addr} {m : Str → Option Value} {news : List (Addr × Obj)} {Q : Value → Shared → Prop}
theorem sS_nn (hF : Fr h₀ L s.heap m) (hN : News h₀ L s.heap news) (hsz : l.length ≤ 1000000) (h : ∀ h' t' k, Fr h₀ L h' m → News h₀ L h' news → Q (.str (S l) t') { s with heap := h', toks := k })
    (hs : subscripted slice false (.str (S l) t) (.ref s.heap.objs.size) = operate [.ref s.heap.objs.size, .str (S l) t] (getItem (.str (S l) t) (.ref s.heap.objs.size)) := by with_unfolding_all rfl)
    (ht : ∀ r, letTemporaryGo value (.str (S l) t) r = pure () := by intro _; with_unfolding_all rfl) :
    wpAny (model prog w) A (subscriptTail value slice (.str (S l) t) (.ref s.heap.objs.size)) Q E { s with heap := s.heap.push { cls := .type "slice", data := .fields #[.none, .none, .none] } } :=
  slice_strN_nn hF hN (fun h' t' k a b => by rw [S_nn]; exact h h' t' k a b) hs ht (S_size hsz)
theorem sS_from {i : Int} {ui : Tok} (hF : Fr h₀ L s.heap m) (hN : News h₀ L s.heap news) (hsz : l.length ≤ 1000000) (h0 : 0 ≤ i) (h : ∀ h' t' k, Fr h₀ L h' m → News h₀ L h' news → Q (.str (S (l.drop i.toNat)) t') { s with heap := h', toks := k })
    (hs : subscripted slice false (.str (S l) t) (.ref s.heap.objs.size) = operate [.ref s.heap.objs.size, .str (S l) t] (getItem (.str (S l) t) (.ref s.heap.objs.size)) := by with_unfolding_all rfl)
    (ht : ∀ r, letTemporaryGo value (.str (S l) t) r = pure () := by intro _; with_unfolding_all rfl) :
    wpAny (model prog w) A (subscriptTail value slice (.str (S l) t) (.ref s.heap.objs.size)) Q E { s with heap := s.heap.push { cls := .type "slice", data := .fields #[.int i ui, .none, .none] } } :=
  slice_strN_sn hF hN (fun h' t' k a b => by rw [S_from h0]; exact h h' t' k a b) hs ht (S_size hsz)
theorem sS_to {i : Int} {ui : Tok} (hF : Fr h₀ L s.heap m) (hN : News h₀ L s.heap news) (hsz : l.length ≤ 1000000) (h0 : 0 ≤ i) (h1 : i ≤ l.length) (h : ∀ h' t' k, Fr h₀ L h' m → News h₀ L h' news → Q (.str (S (l.take i.toNat)) t') { s with heap := h', toks := k })
    (hs : subscripted slice false (.str (S l) t) (.ref s.heap.objs.size) = operate [.ref s.heap.objs.size, .str (S l) t] (getItem (.str (S l) t) (.ref s.heap.objs.size)) := by with_unfolding_all rfl)
    (ht : ∀ r, letTemporaryGo value (.str (S l) t) r = pure () := by intro _; with_unfolding_all rfl) :
    wpAny (model prog w) A (subscriptTail value slice (.str (S l) t) (.ref s.heap.objs.size)) Q E { s with heap := s.heap.push { cls := .type "slice", data := .fields #[.none, .int i ui, .none] } } :=
  slice_strN_ns hF hN (fun h' t' k a b => by rw [S_to h0 h1]; exact h h' t' k a b) hs ht (S_size hsz)
theorem sS_toneg {i : Int} {ui : Tok} (hF : Fr h₀ L s.heap m) (hN : News h₀ L s.heap news) (hsz : l.length ≤ 1000000) (h0 : i < 0) (h1 : -(l.length : Int) ≤ i) (h : ∀ h' t' k, Fr h₀ L h' m → News h₀ L h' news → Q (.str (S (l.take (l.length + i).toNat)) t') { s with heap := h', toks := k })
    (hs : subscripted slice false (.str (S l) t) (.ref s.heap.objs.size) = operate [.ref s.heap.objs.size, .str (S l) t] (getItem (.str (S l) t) (.ref s.heap.objs.size)) := by with_unfolding_all rfl)
    (ht : ∀ r, letTemporaryGo value (.str (S l) t) r = pure () := by intro _; with_unfolding_all rfl) :
    wpAny (model prog w) A (subscriptTail value slice (.str (S l) t) (.ref s.heap.objs.size)) Q E { s with heap := s.heap.push { cls := .type "slice", data := .fields #[.none, .int i ui, .none] } } :=
  slice_strN_ns hF hN (fun h' t' k a b => by rw [S_toneg h0 h1]; exact h h' t' k a b) hs ht (S_size hsz)
theorem sS_at {i : Int} {u : Tok} (hsz : l.length ≤ 1000000) (h0 : 0 ≤ i) (h1 : i < l.length) (h : Q (.str (S [l.getD i.toNat 0]) s.toks) { s with toks := s.toks + 1 })
    (hs : subscripted slice false (.str (S l) t) (.int i u) = operate [.str (S l) t, .int i u] (getItem (.str (S l) t) (.int i u)) := by with_unfolding_all rfl)
    (ht : ∀ r, letTemporaryGo value (.str (S l) t) r = pure () := by intro _; with_unfolding_all rfl) :
    wpAny (model prog w) A (subscriptTail value slice (.str (S l) t) (.int i u)) Q E s :=
  item_str (fitsSsize_of (N := 9223372036854775808) (by omega) (by omega) (Int.le_refl _)) (by rw [S_len]; omega) (by rw [S_len]; omega) (fun _ => by rw [S_at h0 h1]; exact h) hs ht
theorem sS_atneg {i : Int} {u : Tok} (hsz : l.length ≤ 1000000) (h0 : i < 0) (h1 : -(l.length : Int) ≤ i) (h : Q (.str (S [l.getD (l.length + i).toNat 0]) s.toks) { s with toks := s.toks + 1 })
    (hs : subscripted slice false (.str (S l) t) (.int i u) = operate [.str (S l) t, .int i u] (getItem (.str (S l) t) (.int i u)) := by with_unfolding_all rfl)
    (ht : ∀ r, letTemporaryGo value (.str (S l) t) r = pure () := by intro _; with_unfolding_all rfl) :
    wpAny (model prog w) A (subscriptTail value slice (.str (S l) t) (.int i u)) Q E s :=
  item_str (fitsSsize_of (N := 9223372036854775808) (by omega) (by omega) (Int.le_refl _)) (by rw [S_len]; omega) (by rw [S_len]; omega) (fun _ => by rw [S_atneg h0 h1]; exact h) hs ht
theorem sS_eq (h : Q (.bool (l == r)) s) : wpAny (model prog w) A (compareOp .Eq (.str (S l) t) (.str (S r) u)) Q E s := eq_str (by rw [S_beq]; exact h)
theorem sS_ne (h : Q (.bool (l != r)) s) : wpAny (model prog w) A (compareOp .NotEq (.str (S l) t) (.str (S r) u)) Q E s := ne_str (by unfold bne; rw [S_beq]; exact h)
theorem sS_len (hsz : l.length ≤ 1000000) (h : Q (.int l.length (s.toks + 1)) { s with toks := s.toks + 1 + 1 }) : wpAny (model prog w) A (call (.builtin "len") [.str (S l) t]) Q E s :=
  SBL.len (by rw [S_len]; omega) (by rw [S_len]; exact h)
theorem sS_truthy {Q : Bool → Shared → Prop} (hsz : l.length ≤ 1000000) (h : Q (decide (0 < (l.length : Int))) { s with toks := s.toks + 1 + 1 }) : wpAny (model prog w) A (PySem.truthy (.str (S l) t)) Q E s :=
  SBL.truthy (by rw [S_len]; omega) (by
    have e : ((l.length : Int) != 0) = decide (0 < (l.length : Int)) := by
      by_cases h0 : l.length = 0
      · simp [h0]
      · rw [bne_iff_ne.mpr (by omega), decide_eq_true (by omega)]
    rw [S_len, e]; exact h)
theorem sS_truthy_drop {Q : Bool → Shared → Prop} {i : Int} (hsz : l.length ≤ 1000000) (h0 : 0 ≤ i) (h : Q (decide (i < (l.length : Int))) { s with toks := s.toks + 1 + 1 }) : wpAny (model prog w) A (PySem.truthy (.str (S (l.drop i.toNat)) t)) Q E s :=
  sS_truthy (by rw [List.length_drop]; omega) (by
    have e : (0 < ((l.drop i.toNat).length : Int)) = (i < (l.length : Int)) := propext (by rw [List.length_drop]; omega)
    simp only [e]; exact h)
theorem sS_truthy_take {Q : Bool → Shared → Prop} {i : Int} (hsz : l.length ≤ 1000000) (h0 : i ≤ 0) (h1 : -i ≤ (l.length : Int)) (h : Q (decide (-i < (l.length : Int))) { s with toks := s.toks + 1 + 1 }) : wpAny (model prog w) A (PySem.truthy (.str (S (l.take (l.length + i).toNat)) t)) Q E s :=
  sS_truthy (by rw [List.length_take]; omega) (by
    have e : (0 < ((l.take (l.length + i).toNat).length : Int)) = (-i < (l.length : Int)) := propext (by rw [List.length_take]; omega)
    simp only [e]; exact h)
theorem sS_add (hl : l.length ≤ 100000) (hr : r.length ≤ 100000) (h : ∀ t' k, Q (.str (S (l ++ r)) t') { s with toks := k }) : wpAny (model prog w) A (binaryOp .Add (.str (S l) t) (.str (S r) u)) Q E s :=
  SB.add (fun t' k => by rw [S_cat]; exact h t' k) (by rw [S_len, S_len, sizeLine_eq]; omega)
end
section
theorem said5 : True := by
  k_with "subscriptTail Name Slice str ref" => ((with_reducible show wpAny _ _ (subscriptTail _ (Expr.Slice (some _) none none _) (Value.str (S _) _) _) _ _ _); (with_reducible rename Fr _ _ _ _ => F'); (with_reducible rename News _ _ _ _ => N'); (refine sS_from (s := ⟨_, _, _, _, _⟩) F' N' (by (try simp only [List.length_drop, List.length_take, List.length_cons, List.length_nil, List.length_append, List.length_replicate]); omega) (by omega) ?_); intro _ _ _ _ _)
  k_with "subscriptTail Name Slice str ref" => ((with_reducible show wpAny _ _ (subscriptTail _ (Expr.Slice none (some _) none _) (Value.str (S _) _) _) _ _ _); (with_reducible rename Fr _ _ _ _ => F'); (with_reducible rename News _ _ _ _ => N'); (first | (refine sS_nn (s := ⟨_, _, _, _, _⟩) F' N' (by (try simp only [List.length_drop, List.length_take, List.length_cons, List.length_nil, List.length_append, List.length_replicate]); omega) ?_) | (refine sS_to (s := ⟨_, _, _, _, _⟩) F' N' (by (try simp only [List.length_drop, List.length_take, List.length_cons, List.length_nil, List.length_append, List.length_replicate]); omega) (by omega) (by (try simp only [List.length_drop, List.length_take, List.length_cons, List.length_nil, List.length_append, List.length_replicate]); omega) ?_) | (refine sS_toneg (s := ⟨_, _, _, _, _⟩) F' N' (by (try simp only [List.length_drop, List.length_take, List.length_cons, List.length_nil, List.length_append, List.length_replicate]); omega) (by omega) (by (try simp only [List.length_drop, List.length_take, List.length_cons, List.length_nil, List.length_append, List.length_replicate]); omega) ?_)); intro _ _ _ _ _)
  k_with "subscriptTail Name Name str int" => ((with_reducible show wpAny _ _ (subscriptTail _ _ (Value.str (S _) _) _) _ _ _); (refine sS_at (by (try simp only [List.length_drop, List.length_take, List.length_cons, List.length_nil, List.length_append, List.length_replicate]); omega) (by omega) (by (try simp only [List.length_drop, List.length_take, List.length_cons, List.length_nil, List.length_append, List.length_replicate]); omega) ?_))
  k_with "subscriptTail Name BinOp str int" => ((with_reducible show wpAny _ _ (subscriptTail _ _ (Value.str (S _) _) _) _ _ _); (first | (refine sS_at (by (try simp only [List.length_drop, List.length_take, List.length_cons, List.length_nil, List.length_append, List.length_replicate]); omega) (by omega) (by (try simp only [List.length_drop, List.length_take, List.length_cons, List.length_nil, List.length_append, List.length_replicate]); omega) ?_) | (refine sS_atneg (by (try simp only [List.length_drop, List.length_take, List.length_cons, List.length_nil, List.length_append, List.length_replicate]); omega) (by omega) (by (try simp only [List.length_drop, List.length_take, List.length_cons, List.length_nil, List.length_append, List.length_replicate]); omega) ?_)))
  k_with "compareOp Eq str str" => ((with_reducible show wpAny _ _ (compareOp _ (Value.str (S _) _) (Value.str (S _) _)) _ _ _); refine sS_eq ?_)
  k_with "compareOp NotEq str str" => ((with_reducible show wpAny _ _ (compareOp _ (Value.str (S _) _) (Value.str (S _) _)) _ _ _); refine sS_ne ?_)
  k_with "call builtin:len" => ((with_reducible show wpAny _ _ (call _ [Value.str (S _) _]) _ _ _); refine sS_len (by (try simp only [List.length_drop, List.length_take, List.length_cons, List.length_nil, List.length_append, List.length_replicate]); omega) ?_)
  k_with "truthy str" => ((with_reducible show wpAny _ _ (PySem.truthy (Value.str (S _) _)) _ _ _); (first | ((with_reducible show wpAny _ _ (PySem.truthy (Value.str (S (List.drop _ _)) _)) _ _ _); refine sS_truthy_drop (by omega) (by omega) ?_) | ((with_reducible show wpAny _ _ (PySem.truthy (Value.str (S (List.take _ _)) _)) _ _ _); refine sS_truthy_take (by omega) (by omega) (by omega) ?_) | refine sS_truthy (by (try simp only [List.length_drop, List.length_take, List.length_cons, List.length_nil, List.length_append, List.length_replicate]); omega) ?_))
  k_with "binaryOp Add str str" => ((with_reducible show wpAny _ _ (binaryOp _ (Value.str (S _) _) (Value.str (S _) _)) _ _ _); refine sS_add (by (try simp only [List.length_drop, List.length_take, List.length_cons, List.length_nil, List.length_append, List.length_replicate]); omega) (by (try simp only [List.length_drop, List.length_take, List.length_cons, List.length_nil, List.length_append, List.length_replicate]); omega) ?_; intro _ _)
  trivial
section
noncomputable def subC (c e : Nat) : Int := if ([c] == [e]) = true then 0 else if (Txt.lower (S [c]) == Txt.lower (S [e])) = true then 1 else 2
theorem subC_0 {c e : Nat} (h : ([c] == [e]) = true) : 0 = subC c e := by unfold subC; rw [if_pos h]
theorem subC_1 {c e : Nat} (h : ([c] == [e]) = false) (h2 : (Txt.lower (S [c]) == Txt.lower (S [e])) = true) : 1 = subC c e := by unfold subC; rw [if_neg (not_of h), if_pos h2]
theorem subC_2 {c e : Nat} (h : ([c] == [e]) = false) (h2 : (Txt.lower (S [c]) == Txt.lower (S [e])) = false) : 2 = subC c e := by unfold subC; rw [if_neg (not_of h), if_neg (not_of h2)]
set_option maxRecDepth 100000 in
set_option maxHeartbeats 8000000 in
theorem sub_told (w : World) (mean : ExcName → Option Value) (mg mb : Str → Option Value) (c e : Nat) (t1 t2 : Tok) :
    Told w mean mg mb 67 [.str (S [c]) t1, .str (S [e]) t2] 1 1 (fun _ => True) (RetI (subC c e)) := by
  unfold Told
  k_fill
  intro dp un gd cn cs a ccd cl outer A₀ base h₀ L m news s Q E B F X N T hk hR hd hu hret
  have hx : (S [c]).length = 1 := by simp [S, Str.length]
  have hy : (S [e]).length = 1 := by simp [S, Str.length]
  refine wpAny_call ?_
  k_dflt ktr_enter
  k_steps
  all_goals first
    | exact retI hret (subC_0 (by assumption)) (by assumption) (by assumption)
    | exact retI hret (subC_1 (by assumption) (by assumption)) (by assumption) (by assumption)
    | exact retI hret (subC_2 (by assumption) (by assumption)) (by assumption) (by assumption)
end
noncomputable def preK : List Nat → List Nat → Nat
  | a :: as, b :: bs => if a = b then preK as bs + 1 else 0
  | _, _ => 0
noncomputable def sufK (a b : List Nat) : Nat := preK a.reverse b.reverse
noncomputable def lev1 (a b : List Nat) : List Nat := a.drop (preK a b)
noncomputable def lev1' (a b : List Nat) : List Nat := b.drop (preK a b)
noncomputable def lev2 (a b : List Nat) : List Nat := (lev1 a b).take ((lev1 a b).length - sufK (lev1 a b) (lev1' a b))
noncomputable def lev2' (a b : List Nat) : List Nat := (lev1' a b).take ((lev1' a b).length - sufK (lev1 a b) (lev1' a b))
noncomputable def levA (a b : List Nat) : List Nat := if (lev2' a b).length < (lev2 a b).length then lev2' a b else lev2 a b
noncomputable def levB (a b : List Nat) : List Nat := if (lev2' a b).length < (lev2 a b).length then lev2 a b else lev2' a b
theorem preK_le : ∀ a b : List Nat, preK a b ≤ a.length ∧ preK a b ≤ b.length
  | [], _ => by simp [preK]
  | _ :: _, [] => by simp [preK]
  | a :: as, b :: bs => by
    have := preK_le as bs
    unfold preK
    split <;> simp <;> omega
noncomputable def testPre (a b : List Nat) (p : Int) : Bool := (decide (p < (a.length : Int)) && decide (p < (b.length : Int))) && ([a.getD p.toNat 0] == [b.getD p.toNat 0])
structure WPre (a b : List Nat) (p : Int) : Prop where
  h0 : 0 ≤ p
  ha : p ≤ a.length
  hb : p ≤ b.length
  eq : preK (a.drop p.toNat) (b.drop p.toNat) + p.toNat = preK a b
theorem preK_drop (a b : List Nat) (k : Nat) (ha : k < a.length) (hb : k < b.length) : preK (a.drop k) (b.drop k) = if a.getD k 0 = b.getD k 0 then preK (a.drop (k + 1)) (b.drop (k + 1)) + 1 else 0 := by
  rw [List.drop_eq_getElem_cons ha, List.drop_eq_getElem_cons hb]
  simp [preK, ha, hb]
theorem preK_nil (a b : List Nat) (h : a.length = 0 ∨ b.length = 0) : preK a b = 0 := by
  rcases h with h | h
  · rw [List.length_eq_zero_iff.mp h]; simp [preK]
  · rw [List.length_eq_zero_iff.mp h]; cases a <;> simp [preK]
theorem pre_step {a b : List Nat} {p : Int} (W : WPre a b p) (h : testPre a b p = true) : WPre a b (p + 1) := by
  obtain ⟨h0, ha, hb, eq⟩ := W
  obtain ⟨k, rfl⟩ := Int.eq_ofNat_of_zero_le h0
  simp only [testPre, Bool.and_eq_true, decide_eq_true_eq, Int.toNat_natCast, beq_iff_eq, List.cons.injEq, and_true] at h
  obtain ⟨⟨h1, h2⟩, h3⟩ := h
  have h4 : k < a.length := by omega
  have h5 : k < b.length := by omega
  refine ⟨by omega, by omega, by omega, ?_⟩
  have e : ((k : Int) + 1).toNat = k + 1 := by omega
  rw [e]
  simp only [Int.toNat_natCast] at eq
  rw [preK_drop a b k h4 h5, if_pos h3] at eq
  omega
theorem pre_done {a b : List Nat} {p : Int} (W : WPre a b p) (h : testPre a b p = false) : p = (preK a b : Int) := by
  obtain ⟨h0, ha, hb, eq⟩ := W
  obtain ⟨k, rfl⟩ := Int.eq_ofNat_of_zero_le h0
  simp only [Int.toNat_natCast] at eq
  by_cases h4 : k < a.length
  · by_cases h5 : k < b.length
    · have h3 : ¬ a.getD k 0 = b.getD k 0 := fun e => by
        have : testPre a b k = true := by
          simp only [testPre, Bool.and_eq_true, decide_eq_true_eq, Int.toNat_natCast, beq_iff_eq, List.cons.injEq, and_true]
          exact ⟨⟨by omega, by omega⟩, e⟩
        rw [this] at h; cases h
      rw [preK_drop a b k h4 h5, if_neg h3] at eq; omega
    · rw [preK_nil _ _ (.inr (by rw [List.length_drop]; omega))] at eq; omega
  · rw [preK_nil _ _ (.inl (by rw [List.length_drop]; omega))] at eq; omega
theorem pre_start (a b : List Nat) : WPre a b 0 := ⟨by omega, by omega, by omega, by simp⟩
noncomputable def testPost (a b : List Nat) (q : Int) : Bool := (decide (-q < a.length) && decide (-q < b.length)) && ([a.getD (a.length + (q - 1)).toNat 0] == [b.getD (b.length + (q - 1)).toNat 0])
structure WPost (a b : List Nat) (q : Int) : Prop where
  h0 : q ≤ 0
  ha : -q ≤ a.length
  hb : -q ≤ b.length
  eq : preK (a.reverse.drop (-q).toNat) (b.reverse.drop (-q).toNat) + (-q).toNat = sufK a b
theorem rev_getD (a : List Nat) (k : Nat) (h : k < a.length) : a.reverse.getD k 0 = a.getD (a.length + (-(k : Int) - 1)).toNat 0 := by
  have e : (a.length + (-(k : Int) - 1)).toNat = a.length - 1 - k := by omega
  rw [e, List.getD_eq_getElem?_getD, List.getD_eq_getElem?_getD, List.getElem?_reverse h]
theorem post_step {a b : List Nat} {q : Int} (W : WPost a b q) (h : testPost a b q = true) : WPost a b (q - 1) := by
  obtain ⟨h0, ha, hb, eq⟩ := W
  obtain ⟨k, hk⟩ := Int.eq_ofNat_of_zero_le (show 0 ≤ -q by omega)
  obtain rfl : q = -(k : Int) := by omega
  simp only [testPost, Bool.and_eq_true, decide_eq_true_eq, beq_iff_eq, List.cons.injEq, and_true, Int.neg_neg] at h
  obtain ⟨⟨h1, h2⟩, h3⟩ := h
  have h4 : k < a.length := by omega
  have h5 : k < b.length := by omega
  refine ⟨by omega, by omega, by omega, ?_⟩
  have e : (-(-(k : Int) - 1)).toNat = k + 1 := by omega
  rw [e]
  have e2 : (-(-(k : Int))).toNat = k := by omega
  rw [e2] at eq
  rw [preK_drop _ _ k (by simpa using h4) (by simpa using h5), rev_getD a k h4, rev_getD b k h5, if_pos h3] at eq
  omega
theorem post_done {a b : List Nat} {q : Int} (W : WPost a b q) (h : testPost a b q = false) : q = -(sufK a b : Int) := by
  obtain ⟨h0, ha, hb, eq⟩ := W
  obtain ⟨k, hk⟩ := Int.eq_ofNat_of_zero_le (show 0 ≤ -q by omega)
  obtain rfl : q = -(k : Int) := by omega
  have e2 : (-(-(k : Int))).toNat = k := by omega
  rw [e2] at eq
  by_cases h4 : k < a.length
  · by_cases h5 : k < b.length
    · have h3 : ¬ a.reverse.getD k 0 = b.reverse.getD k 0 := fun e => by
        have : testPost a b (-(k : Int)) = true := by
          simp only [testPost, Bool.and_eq_true, decide_eq_true_eq, beq_iff_eq, List.cons.injEq, and_true, Int.neg_neg]
          rw [rev_getD a k h4, rev_getD b k h5] at e
          exact ⟨⟨by omega, by omega⟩, e⟩
        rw [this] at h; cases h
      rw [preK_drop _ _ k (by simpa using h4) (by simpa using h5), if_neg h3] at eq; omega
    · rw [preK_nil _ _ (.inr (by rw [List.length_drop, List.length_reverse]; omega))] at eq; omega
  · rw [preK_nil _ _ (.inl (by rw [List.length_drop, List.length_reverse]; omega))] at eq; omega
theorem post_start (a b : List Nat) : WPost a b 0 := ⟨by omega, by omega, by omega, by simp [sufK]⟩
theorem pre_less {a b : List Nat} {p : Int} (W : WPre a b p) (h : testPre a b p = true) : (a.length - (p + 1)).toNat < (a.length - p).toNat := by
  have := (pre_step W h).ha; have := W.h0; omega
theorem post_less {a b : List Nat} {q : Int} (W : WPost a b q) (h : testPost a b q = true) : (a.length + (q - 1)).toNat < (a.length + q).toNat := by
  have := (post_step W h).ha; have := W.h0; omega
theorem lev2_0 {a b : List Nat} (h : -(sufK (lev1 a b) (lev1' a b) : Int) = 0) : lev1 a b = lev2 a b := by
  have : sufK (lev1 a b) (lev1' a b) = 0 := by omega
  unfold lev2; rw [this, Nat.sub_zero, List.take_length]
theorem lev2'_0 {a b : List Nat} (h : -(sufK (lev1 a b) (lev1' a b) : Int) = 0) : lev1' a b = lev2' a b := by
  have : sufK (lev1 a b) (lev1' a b) = 0 := by omega
  unfold lev2'; rw [this, Nat.sub_zero, List.take_length]
theorem lev2_n {a b : List Nat} : (lev1 a b).take ((lev1 a b).length + -(sufK (lev1 a b) (lev1' a b) : Int)).toNat = lev2 a b := by
  unfold lev2; congr 1; omega
theorem lev2'_n {a b : List Nat} : (lev1' a b).take ((lev1' a b).length + -(sufK (lev1 a b) (lev1' a b) : Int)).toNat = lev2' a b := by
  unfold lev2'; congr 1; omega
theorem lev1_le (a b : List Nat) : (lev1 a b).length ≤ a.length ∧ (lev1' a b).length ≤ b.length := by
  unfold lev1 lev1'; simp only [List.length_drop]; omega
theorem lev2_le (a b : List Nat) : (lev2 a b).length ≤ a.length ∧ (lev2' a b).length ≤ b.length := by
  have := lev1_le a b
  unfold lev2 lev2'; simp only [List.length_take]; omega
theorem levA_t {a b : List Nat} (h : ((lev2' a b).length : Int) < (lev2 a b).length) : levA a b = lev2' a b ∧ levB a b = lev2 a b := by
  unfold levA levB; rw [if_pos (by omega), if_pos (by omega)]; exact ⟨rfl, rfl⟩
theorem levA_f {a b : List Nat} (h : ¬ ((lev2' a b).length : Int) < (lev2 a b).length) : levA a b = lev2 a b ∧ levB a b = lev2' a b := by
  unfold levA levB; rw [if_neg (by omega), if_neg (by omega)]; exact ⟨rfl, rfl⟩
theorem levAB_le (a b : List Nat) : (levA a b).length ≤ (levB a b).length ∧ (levB a b).length ≤ a.length + b.length := by
  have := lev2_le a b
  unfold levA levB; split <;> omega
theorem tPre_a {a b : List Nat} {p : Int} (h : ¬ p < (a.length : Int)) : false = testPre a b p := by simp [testPre, h]
theorem tPre_b {a b : List Nat} {p : Int} (h : ¬ p < (b.length : Int)) : false = testPre a b p := by simp [testPre, h]
theorem tPre_c {a b : List Nat} {p : Int} {c : Bool} (h1 : p < (a.length : Int)) (h2 : p < (b.length : Int)) (h : ([a.getD p.toNat 0] == [b.getD p.toNat 0]) = c) : c = testPre a b p := by simp only [testPre, h1, h2, decide_true, Bool.true_and, h]
theorem tPost_a {a b : List Nat} {q : Int} (h : ¬ -q < (a.length : Int)) : false = testPost a b q := by simp [testPost, h]
theorem tPost_b {a b : List Nat} {q : Int} (h : ¬ -q < (b.length : Int)) : false = testPost a b q := by simp [testPost, h]
theorem tPost_c {a b : List Nat} {q : Int} {c : Bool} (h1 : -q < (a.length : Int)) (h2 : -q < (b.length : Int)) (h : ([a.getD (a.length + (q - 1)).toNat 0] == [b.getD (b.length + (q - 1)).toNat 0]) = c) : c = testPost a b q := by simp only [testPost, h1, h2, decide_true, Bool.true_and, h]
-- the rows
noncomputable def big : Int := 9223372036854775807
noncomputable def inn (bc : Nat) : List Nat → List Int → Int → Int → Int → List Int × Int × Int
  | a :: as, w :: row, d, r, mn =>
    let r' := if d + subC bc a < (if w < r then w else r) + 2 then d + subC bc a else (if w < r then w else r) + 2
    let o := inn bc as row w r' (if r' < mn then r' else mn)
    (r' :: o.1, o.2)
  | _, row, _, r, mn => (row, r, mn)
noncomputable def outr (a : List Nat) (c : Int) : List Nat → Int → List Int → Int → Int
  | [], _, _, r => r
  | b :: bs, i, row, _ =>
    let o := inn b a row (i * 2) (i * 2) big
    if o.2.2 > c then c + 1 else outr a c bs (i + 1) o.1 o.2.1
noncomputable def row0 (n : Nat) : List Int := rangeInts 2 2 n
noncomputable def levT (a b : List Nat) (c : Int) : Int := outr a c b 0 (row0 a.length) 0
noncomputable def levS (a b : List Nat) (c : Int) : Int :=
  if a = b then 0 else
  if lev2 a b = [] ∨ lev2' a b = [] then 2 * ((lev2 a b).length + (lev2' a b).length) else
  if (lev2 a b).length > 40 ∨ (lev2' a b).length > 40 then c + 1 else
  if ((levB a b).length - (levA a b).length : Int) * 2 > c then c + 1 else
  levT (levA a b) (levB a b) c
structure WOut (a b : List Nat) (c : Int) (i : Nat) (r : Int) (row : List Int) : Prop where
  len : row.length = a.length
  eq : outr a c (b.drop i) i row r = levT a b c
structure WInn (a b : List Nat) (c : Int) (i : Int) (j : Nat) (d r mn : Int) (row : List Int) : Prop where
  len : row.length = a.length
  eq : (let o := inn (b.getD i.toNat 0) (a.drop j) (row.drop j) d r mn
        if o.2.2 > c then c + 1 else outr a c (b.drop (i.toNat + 1)) (i + 1) (row.take j ++ o.1) o.2.1) = levT a b c
section
variable {a b : List Nat} {c i d r mn w : Int} {j : Nat} {row : List Int}
theorem row0_len (n : Nat) : (row0 n).length = n := rangeInts_length _ _ _
theorem out_start : WOut a b c 0 0 (row0 a.length) := ⟨row0_len _, rfl⟩
theorem out_done {k : Nat} (W : WOut a b c k r row) (h : k = b.length) : r = levT a b c := by
  have e := W.eq; rw [h, List.drop_length] at e; exact e
theorem inn_start {p : Nat} (hk : i = 0 + (p : Int)) (h1 : p < b.length) (W : WOut a b c p r row) : WInn a b c i 0 (i * 2) (i * 2) 9223372036854775807 row := by
  obtain rfl : i = (p : Int) := by omega
  refine ⟨W.len, ?_⟩
  have e := W.eq
  rw [List.drop_eq_getElem_cons h1] at e
  have e2 : b[p]'h1 = b.getD p 0 := by simp [h1]
  rw [e2] at e
  exact e
theorem set_at {l : List Int} (h : j < l.length) (x : Int) : (l.set j x).take (j + 1) = l.take j ++ [x] ∧ (l.set j x).drop (j + 1) = l.drop (j + 1) := by
  refine ⟨?_, by rw [List.drop_set_of_lt (by omega)]⟩
  rw [List.take_add_one, List.take_set_of_le (Nat.le_refl _), List.getElem?_set_self h]; rfl
theorem inn_step (W : WInn a b c i j d r mn row) {j' : Nat} {k r' m' : Int} (hk : k = 0 + (j : Int)) (h : j < a.length) (hj' : j' = j + 1)
    (hr : r' = if d + subC (b.getD i.toNat 0) (a.getD k.toNat 0) < (if row.getD k.toNat 0 < r then row.getD k.toNat 0 else r) + 2 then d + subC (b.getD i.toNat 0) (a.getD k.toNat 0) else (if row.getD k.toNat 0 < r then row.getD k.toNat 0 else r) + 2) (hm : m' = if r' < mn then r' else mn) :
    WInn a b c i j' (row.getD k.toNat 0) r' m' (row.set k.toNat r') := by
  obtain rfl : k = (j : Int) := by omega
  subst hj'
  simp only [Int.toNat_natCast] at hr ⊢
  obtain ⟨len, eq⟩ := W
  refine ⟨by rw [List.length_set]; exact len, ?_⟩
  have hj : j < row.length := by omega
  obtain ⟨e1, e2⟩ := set_at hj r'
  rw [e1, e2]
  have ea : a[j]'h = a.getD j 0 := by simp [h]
  have er : row[j]'hj = row.getD j 0 := by simp [hj]
  rw [List.drop_eq_getElem_cons h, List.drop_eq_getElem_cons hj, ea, er] at eq
  simp only [inn, ← hr, ← hm] at eq
  simp only [List.append_assoc, List.singleton_append]
  exact eq
theorem step_a (W : WInn a b c i j d r mn row) {j' : Nat} {k r' : Int} (hk : k = 0 + (j : Int)) (h : j < a.length) (hj' : j' = j + 1)
    (hr : r' = if d + subC (b.getD i.toNat 0) (a.getD k.toNat 0) < (if row.getD k.toNat 0 < r then row.getD k.toNat 0 else r) + 2 then d + subC (b.getD i.toNat 0) (a.getD k.toNat 0) else (if row.getD k.toNat 0 < r then row.getD k.toNat 0 else r) + 2) (hm : r' < mn) :
    (row.set k.toNat r').length = a.length ∧ WInn a b c i j' (row.getD k.toNat 0) r' r' (row.set k.toNat r') :=
  have w := inn_step W hk h hj' hr (if_pos hm).symm
  ⟨w.len, w⟩
theorem step_b (W : WInn a b c i j d r mn row) {j' : Nat} {k r' : Int} (hk : k = 0 + (j : Int)) (h : j < a.length) (hj' : j' = j + 1)
    (hr : r' = if d + subC (b.getD i.toNat 0) (a.getD k.toNat 0) < (if row.getD k.toNat 0 < r then row.getD k.toNat 0 else r) + 2 then d + subC (b.getD i.toNat 0) (a.getD k.toNat 0) else (if row.getD k.toNat 0 < r then row.getD k.toNat 0 else r) + 2) (hm : ¬ r' < mn) :
    (row.set k.toNat r').length = a.length ∧ WInn a b c i j' (row.getD k.toNat 0) r' mn (row.set k.toNat r') :=
  have w := inn_step W hk h hj' hr (if_neg hm).symm
  ⟨w.len, w⟩
theorem WInn.two (h : WInn a b c i j d r mn row) : row.length = a.length ∧ WInn a b c i j d r mn row := ⟨h.len, h⟩
theorem inn_ret (W : WInn a b c i j d r mn row) (h : j = a.length) (hc : c < mn) : c + 1 = levT a b c := by
  have e := W.eq
  rw [h, List.drop_length] at e
  simp only [inn, gt_iff_lt, hc, if_true] at e
  exact e
theorem inn_next {p p' : Nat} (W : WInn a b c i j d r mn row) (hk : i = 0 + (p : Int)) (hp : p' = p + 1) (h : j = a.length) (hc : ¬ c < mn) : WOut a b c p' r row := by
  obtain rfl : i = (p : Int) := by omega
  subst hp
  have e := W.eq
  have hl := W.len
  rw [h, List.drop_length] at e
  simp only [inn, gt_iff_lt, hc, if_false] at e
  rw [List.take_append_drop] at e
  exact ⟨hl, e⟩
end
section
variable {a b : List Nat} {c r : Int}
theorem levS_0 (h : (a == b) = true) : 0 = levS a b c := by unfold levS; rw [if_pos (beq_iff_eq.mp h)]
theorem len0_nil {l : List Nat} : l = [] ↔ ¬ 0 < (l.length : Int) := by cases l <;> simp
theorem levS_e (h : (a == b) = false) (h1 : ¬ 0 < ((lev2 a b).length : Int) ∨ ¬ 0 < ((lev2' a b).length : Int)) : 2 * (((lev2 a b).length : Int) + (lev2' a b).length) = levS a b c := by
  unfold levS
  rw [if_neg (beq_eq_false_iff_ne.mp h), if_pos (h1.imp len0_nil.mpr len0_nil.mpr)]
theorem levS_b (h : (a == b) = false) (h1 : 0 < ((lev2 a b).length : Int)) (h2 : 0 < ((lev2' a b).length : Int)) (h3 : 40 < ((lev2 a b).length : Int) ∨ 40 < ((lev2' a b).length : Int)) : c + 1 = levS a b c := by
  unfold levS
  rw [if_neg (beq_eq_false_iff_ne.mp h), if_neg (fun e => e.elim (fun e => len0_nil.mp e h1) fun e => len0_nil.mp e h2), if_pos (by omega)]
theorem levS_c (h : (a == b) = false) (h1 : 0 < ((lev2 a b).length : Int)) (h2 : 0 < ((lev2' a b).length : Int)) (h3 : ¬ 40 < ((lev2 a b).length : Int)) (h4 : ¬ 40 < ((lev2' a b).length : Int)) (h5 : c < (((levB a b).length : Int) - (levA a b).length) * 2) : c + 1 = levS a b c := by
  unfold levS
  rw [if_neg (beq_eq_false_iff_ne.mp h), if_neg (fun e => e.elim (fun e => len0_nil.mp e h1) fun e => len0_nil.mp e h2), if_neg (by omega), if_pos h5]
theorem levS_t (h : (a == b) = false) (h1 : 0 < ((lev2 a b).length : Int)) (h2 : 0 < ((lev2' a b).length : Int)) (h3 : ¬ 40 < ((lev2 a b).length : Int)) (h4 : ¬ 40 < ((lev2' a b).length : Int)) (h5 : ¬ c < (((levB a b).length : Int) - (levA a b).length) * 2) (e : r = levT (levA a b) (levB a b) c) : r = levS a b c := by
  unfold levS
  rw [if_neg (beq_eq_false_iff_ne.mp h), if_neg (fun e => e.elim (fun e => len0_nil.mp e h1) fun e => len0_nil.mp e h2), if_neg (by omega), if_neg h5]
  exact e
end
noncomputable def JB (h₀ : Heap) (L : Addr) (m : Str → Option Value) (news : Led) (s : Shared) (c b : Bool) (s₂ : Shared) : Prop := ∃ (h' : Heap) (tk' : Nat), s₂ = { s with heap := h', toks := tk' } ∧ Fr h₀ L h' m ∧ News h₀ L h' news ∧ b = c
theorem JB.mk {h₀ h' : Heap} {L : Addr} {m : Str → Option Value} {news : Led} {s : Shared} {c b : Bool} {tk' : Nat} (F : Fr h₀ L h' m) (N : News h₀ L h' news) (e : b = c) : JB h₀ L m news s c b { s with heap := h', toks := tk' } := ⟨h', tk', rfl, F, N, e⟩
theorem join_b {M : Model} {A : Around} {E : Value → Shared → Prop} {s : Shared} {t : Sem Bool} {Q : Bool → Shared → Prop} {h₀ : Heap} {L : Addr} {m : Str → Option Value} {news : Led} (c : Bool)
    (h1 : wpAny M A t (JB h₀ L m news s c) E s) (h2 : ∀ h' tk', Fr h₀ L h' m → News h₀ L h' news → Q c { s with heap := h', toks := tk' }) : wpAny M A t Q E s :=
  wpAny_mono h1 (fun b s₂ ⟨h', tk', e1, F, N, e2⟩ => by subst e1; subst e2; exact h2 h' tk' F N) fun _ _ e => e
theorem join_pre {M : Model} {A : Around} {E : Value → Shared → Prop} {s : Shared} {t : Sem Bool} {Q : Bool → Shared → Prop} {h₀ : Heap} {L : Addr} {m : Str → Option Value} {news : Led} {a b : List Nat} {p : Int} (_W : WPre a b p) (_F : Fr h₀ L s.heap m) (_N : News h₀ L s.heap news)
    (h1 : wpAny M A t (JB h₀ L m news s (testPre a b p)) E s) (h2 : ∀ h' tk', Fr h₀ L h' m → News h₀ L h' news → Q (testPre a b p) { s with heap := h', toks := tk' }) : wpAny M A t Q E s := join_b _ h1 h2
theorem join_post {M : Model} {A : Around} {E : Value → Shared → Prop} {s : Shared} {t : Sem Bool} {Q : Bool → Shared → Prop} {h₀ : Heap} {L : Addr} {m : Str → Option Value} {news : Led} {a b : List Nat} {p : Int} (_W : WPost a b p) (_F : Fr h₀ L s.heap m) (_N : News h₀ L s.heap news)
    (h1 : wpAny M A t (JB h₀ L m news s (testPost a b p)) E s) (h2 : ∀ h' tk', Fr h₀ L h' m → News h₀ L h' news → Q (testPost a b p) { s with heap := h', toks := tk' }) : wpAny M A t Q E s := join_b _ h1 h2
noncomputable def JV (h₀ : Heap) (L : Addr) (m : Str → Option Value) (news : Led) (s : Shared) (x : List Nat) (v : Value) (s₂ : Shared) : Prop := ∃ (h' : Heap) (tk' : Nat) (t : Tok), s₂ = { s with heap := h', toks := tk' } ∧ Fr h₀ L h' m ∧ News h₀ L h' news ∧ v = .str (S x) t
theorem JV.mk {h₀ h' : Heap} {L : Addr} {m : Str → Option Value} {news : Led} {s : Shared} {x y : List Nat} {t : Tok} {tk' : Nat} (F : Fr h₀ L h' m) (N : News h₀ L h' news) (e : y = x) : JV h₀ L m news s x (.str (S y) t) { s with heap := h', toks := tk' } := ⟨h', tk', t, rfl, F, N, by rw [e]⟩
theorem join_v {M : Model} {A : Around} {E : Value → Shared → Prop} {s : Shared} {t : Sem Value} {Q : Value → Shared → Prop} {h₀ : Heap} {L : Addr} {m : Str → Option Value} {news : Led} (x : List Nat) (_F : Fr h₀ L s.heap m) (_N : News h₀ L s.heap news)
    (h1 : wpAny M A t (JV h₀ L m news s x) E s) (h2 : ∀ h' tk' t, Fr h₀ L h' m → News h₀ L h' news → Q (.str (S x) t) { s with heap := h', toks := tk' }) : wpAny M A t Q E s :=
  wpAny_mono h1 (fun b s₂ ⟨h', tk', t, e1, F, N, e2⟩ => by subst e1; subst e2; exact h2 h' tk' t F N) fun _ _ e => e
structure WSuf (a b : List Nat) : Prop where
  w : WPost (lev1 a b) (lev1' a b) (-(sufK (lev1 a b) (lev1' a b) : Int))
theorem join_va {M : Model} {A : Around} {E : Value → Shared → Prop} {s : Shared} {t : Sem Value} {Q : Value → Shared → Prop} {h₀ : Heap} {L : Addr} {m : Str → Option Value} {news : Led} {a b : List Nat} (_W : WSuf a b) (F : Fr h₀ L s.heap m) (N : News h₀ L s.heap news)
    (h1 : wpAny M A t (JV h₀ L m news s (lev2 a b)) E s) (h2 : ∀ h' tk' t, Fr h₀ L h' m → News h₀ L h' news → Q (.str (S (lev2 a b)) t) { s with heap := h', toks := tk' }) : wpAny M A t Q E s := join_v _ F N h1 h2
theorem join_vb {M : Model} {A : Around} {E : Value → Shared → Prop} {s : Shared} {t : Sem Value} {Q : Value → Shared → Prop} {h₀ : Heap} {L : Addr} {m : Str → Option Value} {news : Led} {a b : List Nat} (_W : WSuf a b) (F : Fr h₀ L s.heap m) (N : News h₀ L s.heap news)
    (h1 : wpAny M A t (JV h₀ L m news s (lev2' a b)) E s) (h2 : ∀ h' tk' t, Fr h₀ L h' m → News h₀ L h' news → Q (.str (S (lev2' a b)) t) { s with heap := h', toks := tk' }) : wpAny M A t Q E s := join_v _ F N h1 h2
section
variable {prog : Program} {w : World} {A : Around} {E : Value → Shared → Prop} {s : Shared} {value slice : Expr} {l r : List Nat} {t u : Tok} {h₀ : Heap} {L : Addr} {m : Str → Option Value} {news : List (Addr × Obj)} {Q : Value → Shared → Prop}
theorem sS_lev1 {ui : Tok} (hF : Fr h₀ L s.heap m) (hN : News h₀ L s.heap news) (hsz : l.length ≤ 1000000) (h : ∀ h' t' k, Fr h₀ L h' m → News h₀ L h' news → Q (.str (S (lev1 l r)) t') { s with heap := h', toks := k })
    (hs : subscripted slice false (.str (S l) t) (.ref s.heap.objs.size) = operate [.ref s.heap.objs.size, .str (S l) t] (getItem (.str (S l) t) (.ref s.heap.objs.size)) := by with_unfolding_all rfl)
    (ht : ∀ r, letTemporaryGo value (.str (S l) t) r = pure () := by intro _; with_unfolding_all rfl) :
    wpAny (model prog w) A (subscriptTail value slice (.str (S l) t) (.ref s.heap.objs.size)) Q E { s with heap := s.heap.push { cls := .type "slice", data := .fields #[.int (preK l r : Int) ui, .none, .none] } } :=
  sS_from hF hN hsz (Int.natCast_nonneg _) h hs ht
theorem sS_lev1' {ui : Tok} (hF : Fr h₀ L s.heap m) (hN : News h₀ L s.heap news) (hsz : r.length ≤ 1000000) (h : ∀ h' t' k, Fr h₀ L h' m → News h₀ L h' news → Q (.str (S (lev1' l r)) t') { s with heap := h', toks := k })
    (hs : subscripted slice false (.str (S r) t) (.ref s.heap.objs.size) = operate [.ref s.heap.objs.size, .str (S r) t] (getItem (.str (S r) t) (.ref s.heap.objs.size)) := by with_unfolding_all rfl)
    (ht : ∀ u, letTemporaryGo value (.str (S r) t) u = pure () := by intro _; with_unfolding_all rfl) :
    wpAny (model prog w) A (subscriptTail value slice (.str (S r) t) (.ref s.heap.objs.size)) Q E { s with heap := s.heap.push { cls := .type "slice", data := .fields #[.int (preK l r : Int) ui, .none, .none] } } :=
  sS_from hF hN hsz (Int.natCast_nonneg _) h hs ht
end
noncomputable def JF (h₀ : Heap) (L : Addr) (m : Str → Option Value) (news : Led) (s : Shared) (x y : List Nat) (f : Flow) (s₂ : Shared) : Prop :=
  f = .next ∧ ∃ (h' : Heap) (tk' : Nat) (t u : Tok), s₂ = { s with heap := h', toks := tk' } ∧ Fr h₀ L h' (fun z => if z = Str.ofString "a" then some (.str (S x) t) else if z = Str.ofString "b" then some (.str (S y) u) else m z) ∧ News h₀ L h' news
section
variable {prog : Program} {w : World} {A : Around} {E : Value → Shared → Prop} {s : Shared} {h₀ : Heap} {L r : Addr} {m : Str → Option Value} {news : List (Addr × Obj)} {t₀ u₀ v₀ : Tok} {n : Nat} {Q : Value → Shared → Prop}
theorem ints_by : ∀ (vs : List Value) (a c : Int) (n : Nat), vs.length = n → (∀ (j : Nat) (v : Value), vs[j]? = some v → ∃ t, v = .int (a + j * c) t) → IntsAre vs (rangeInts a c n)
  | [], a, c, n, e, _ => by subst e; exact IntsAre.nil
  | v :: r, a, c, n, e, h => by
    subst e
    have hc : rangeInts a c (r.length + 1) = a :: rangeInts (a + c) c r.length := by
      unfold rangeInts
      rw [List.range_succ_eq_map, List.map_cons, List.map_map]
      congr 1
      · simp
      · apply List.map_congr_left
        intro i _
        simp only [Function.comp, Nat.succ_eq_add_one]
        have : ((i + 1 : Nat) : Int) * c = i * c + c := by rw [Int.natCast_add, Int.add_mul]; simp
        omega
    rw [List.length_cons, hc]
    obtain ⟨t, ht⟩ := h 0 v rfl
    have hv : v = .int a t := by rw [ht]; simp
    subst hv
    refine IntsAre.cons _ _ (ints_by r (a + c) c r.length rfl fun j v hj => ?_)
    obtain ⟨t', ht'⟩ := h (j + 1) v hj
    refine ⟨t', ht'.trans ?_⟩
    congr 1
    have : ((j + 1 : Nat) : Int) * c = j * c + c := by rw [Int.natCast_add, Int.add_mul]; simp
    omega
theorem fitsL {i : Int} (h1 : -1000000 ≤ i) (h2 : i ≤ 1000000) : Builtin.Range.rangeFitsLong i = true := by
  unfold Builtin.Range.rangeFitsLong
  rw [Bool.and_eq_true, decide_eq_true_iff, decide_eq_true_iff]
  constructor <;> omega
theorem small2 (n : Nat) (hz : n ≤ 100000) (hn : Builtin.Range.rangeSize 2 (2 * ((n : Int) + 1)) 2 = (n : Int)) : Builtin.Range.small 2 (2 * ((n : Int) + 1)) 2 = true := by
  unfold Builtin.Range.small
  rw [hn, fitsL (i := 2) (by omega) (by omega), fitsL (i := 2 * ((n : Int) + 1)) (by omega) (by omega), fitsL (i := (n : Int)) (by omega) (by omega), if_pos (by decide), fitsL (i := 2 * ((n : Int) + 1) + (2 - 1)) (by omega) (by omega)]
  simp
theorem list_row (hh : A.handled = none) (F : Fr h₀ L s.heap m) (N : News h₀ L s.heap news) (hr : IsRange s.heap r 2 (2 * ((n : Int) + 1)) 2 t₀ u₀ v₀) (hz : n ≤ 100000)
    (h : ∀ D us c h' tk, Fr h₀ L h' m → News h₀ L h' ((D, listOf (List.toArray us) c) :: news) → (∀ p ∈ news, p.1 < D) → IntsAre us (row0 n) → Q (.ref D) { s with heap := h', toks := tk }) :
    wpAny (model prog w) A (call (.type "list") [.ref r]) Q E s := by
  have hn : Builtin.Range.rangeSize 2 (2 * ((n : Int) + 1)) 2 = (n : Int) := by
    unfold Builtin.Range.rangeSize
    simp only [show (2 : Int) > 0 by decide, if_true]
    split <;> omega
  refine call_list_range hh hr (small2 n hz hn) hn (by omega) fun h' tk acc c hk hD hI => ?_
  have hD' : h'.get? s.heap.objs.size = some (listOf (List.toArray acc.toList) c) := by
    rw [Array.toArray_toList]
    exact hD
  exact h _ acc.toList c h' tk (F.keeps hk) (news_pushed F N hk hD' rfl) (fun p hp => Heap.lt_size (N p hp).1) (ints_by _ _ _ _ (by rw [Array.length_toList]; exact hI.1) fun j v hj => hI.2 j v (by rw [← hj, Array.getElem?_toList]))
end
structure WCut (a b : List Nat) : Prop where
  w : True
theorem WSuf.cut {a b : List Nat} (_h : WSuf a b) : WCut a b := ⟨True.intro⟩
theorem join_sw {M : Model} {A : Around} {E : Value → Shared → Prop} {s : Shared} {t : Sem Flow} {Q : Flow → Shared → Prop} {h₀ : Heap} {L : Addr} {m : Str → Option Value} {news : Led} {a b : List Nat} (_W : WCut a b) (_F : Fr h₀ L s.heap m) (_N : News h₀ L s.heap news)
    (h1 : wpAny M A t (JF h₀ L m news s (levA a b) (levB a b)) E s)
    (h2 : ∀ h' tk' t u, Fr h₀ L h' (fun z => if z = Str.ofString "a" then some (.str (S (levA a b)) t) else if z = Str.ofString "b" then some (.str (S (levB a b)) u) else m z) → News h₀ L h' news → Q .next { s with heap := h', toks := tk' }) : wpAny M A t Q E s :=
  wpAny_mono h1 (fun b s₂ ⟨e0, h', tk', t, u, e1, F, N⟩ => by subst e0; subst e1; exact h2 h' tk' t u F N) fun _ _ e => e
theorem JF.same {h₀ h' : Heap} {L : Addr} {m : Str → Option Value} {news : Led} {s : Shared} {x y x' y' : List Nat} {t u : Tok} {tk' : Nat} (F : Fr h₀ L h' m) (N : News h₀ L h' news) (e : x = x' ∧ y = y') (ea : m (Str.ofString "a") = some (.str (S x') t)) (eb : m (Str.ofString "b") = some (.str (S y') u)) : JF h₀ L m news s x y .next { s with heap := h', toks := tk' } := by
  obtain ⟨rfl, rfl⟩ := e
  refine ⟨rfl, h', tk', t, u, rfl, ?_, N⟩
  have : (fun z => if z = Str.ofString "a" then some (Value.str (S x) t) else if z = Str.ofString "b" then some (.str (S y) u) else m z) = m := by
    funext z
    by_cases h1 : z = Str.ofString "a"
    · rw [if_pos h1, h1, ea]
    · rw [if_neg h1]
      by_cases h2 : z = Str.ofString "b"
      · rw [if_pos h2, h2, eb]
      · rw [if_neg h2]
  rw [this]; exact F
theorem JF.swap {h₀ h' : Heap} {L : Addr} {m : Str → Option Value} {news : Led} {p : Addr × Obj} {s : Shared} {x y x' y' : List Nat} {t u : Tok} {tk' : Nat} (F : Fr h₀ L h' (fun z => if z = Str.ofString "a" then some (.str (S x') t) else if z = Str.ofString "b" then some (.str (S y') u) else m z)) (N : News h₀ L h' (p :: news)) (e : x = x' ∧ y = y') : JF h₀ L m news s x y .next { s with heap := h', toks := tk' } := by
  obtain ⟨rfl, rfl⟩ := e
  exact ⟨rfl, h', tk', t, u, rfl, F, fun q hq => N q (.tail _ hq)⟩
theorem told_use {w : World} {mean : ExcName → Option Value} {mg mb : Str → Option Value} {f : Addr} {vs : List Value} {d u : Nat} {pre : Led → Prop} {Ret : RetK} (C : Told w mean mg mb f vs d u pre Ret)
    {dp un : Nat} {gd : Option (List Code)} {cn : Str} {cs : Scope} {a : Addr} {ccd : Value} {cl : List (Str × Addr)} {outer : List Env} {A₀ : Around} {base h₀ : Heap} {L : Addr} {m : Str → Option Value} {news : Led} {s : Shared} {Q E : Value → Shared → Prop}
    (B : Below A₀ base outer h₀) (F : Fr h₀ L s.heap m) (X : (Mine.pre.heap_1 w.params).In h₀) (N : News h₀ L s.heap news) (T : Top hd.view_39 (looseW hd.view_39 []) mean mg mb h₀) (hk : cs.kind = .function) (hp : pre news) (hdp : dp + d < recursionLimit) (hun : un + 8 * u < cLine)
    (ret : Ret h₀ L m news s Q) : wpAny (model PySem.Challenge.rw_to0010_01.row.prog w) (ktrTop dp un gd cn cs L a ccd cl outer) (call (.ref f) vs) Q E s :=
  C dp un gd cn cs a ccd cl outer A₀ base h₀ L m news s Q E B F X N T hk hp hdp hun ret
section
set_option hygiene false in
set_option hygiene false in
theorem said6 : True := by
  k_with "isTrue BoolOp" => ((rename WPre _ _ _ => hW); (rename Fr _ _ _ _ => F9); (rename News _ _ _ _ => N9); (have hW0 := hW.h0); (have hWa := hW.ha); (have hWb := hW.hb); (refine join_pre hW F9 N9 ?_ ?_); clear hW; rotate_left; clear F9 N9; intro h' tk' F' N'; rotate_left)
  k_with "isTrue BoolOp" => ((rename WPost _ _ _ => hW); (rename Fr _ _ _ _ => F9); (rename News _ _ _ _ => N9); (have hW0 := hW.h0); (have hWa := hW.ha); (have hWb := hW.hb); (refine join_post hW F9 N9 ?_ ?_); clear hW; rotate_left; clear F9 N9; intro h' tk' F' N'; rotate_left)
  k_with "execs cons" => ((rename WPre _ _ _ => hW); (rename (testPre _ _ _ = false) => hT); (have e9 := pre_done hW hT); (subst e9); clear hW hT)
  k_with "execs cons" => ((rename WPost (lev1 _ _) _ _ => hW); (rename (testPost _ _ _ = false) => hT); (have e9 := post_done hW hT); (subst e9); (have hWs := WSuf.mk hW); (have hWa := hW.ha); (have hWb := hW.hb); (have hW0 := hW.h0); clear hW hT)
  k_with "subscriptTail Name Slice str ref" => ((with_reducible show wpAny _ _ (subscriptTail _ (Expr.Slice (some _) none none _) (Value.str (S _) _) _) _ _ _); (with_reducible rename Fr _ _ _ _ => F'); (with_reducible rename News _ _ _ _ => N'); (first | refine sS_lev1 (s := ⟨_, _, _, _, _⟩) F' N' (by omega) ?_ | refine sS_lev1' (s := ⟨_, _, _, _, _⟩) F' N' (by omega) ?_); intro _ _ _ _ _)
  k_with "eval Subscript" => ((with_reducible show wpAny _ _ (eval (Expr.Subscript (Expr.Name (Str.ofString "a") _) (Expr.Slice none (some (Expr.BoolOp _ _ _)) none _) _) _) _ _ _); (rename WSuf _ _ => hW); (rename Fr _ _ _ _ => F9); (rename News _ _ _ _ => N9); (refine join_va hW F9 N9 ?_ ?_); clear hW; rotate_left; clear F9 N9; intro h' tk' t' F' N'; rotate_left)
  k_with "eval Subscript" => ((with_reducible show wpAny _ _ (eval (Expr.Subscript (Expr.Name (Str.ofString "b") _) (Expr.Slice none (some (Expr.BoolOp _ _ _)) none _) _) _) _ _ _); (rename WSuf _ _ => hW); (rename Fr _ _ _ _ => F9); (rename News _ _ _ _ => N9); (refine join_vb hW F9 N9 ?_ ?_); clear hW; rotate_left; clear F9 N9; (have hWc := WSuf.cut hW); clear hW; intro h' tk' t' F' N'; rotate_left)
  k_with "JV" => first | exact JV.mk (by assumption) (by assumption) (lev2_0 (by assumption)) | exact JV.mk (by assumption) (by assumption) (lev2'_0 (by assumption)) | exact JV.mk (by assumption) (by assumption) lev2_n | exact JV.mk (by assumption) (by assumption) lev2'_n
  k_with "JB" => first | (exfalso; omega) | exact JB.mk (by assumption) (by assumption) (tPre_a (by assumption)) | exact JB.mk (by assumption) (by assumption) (tPre_b (by assumption)) | exact JB.mk (by assumption) (by assumption) (tPre_c (by assumption) (by assumption) (by assumption)) | exact JB.mk (by assumption) (by assumption) (tPost_a (by omega)) | exact JB.mk (by assumption) (by assumption) (tPost_b (by omega)) | exact JB.mk (by assumption) (by assumption) (tPost_c (by omega) (by omega) (by assumption))
  k_with "exec If" => ((with_reducible show wpAny _ _ (exec (Stmt.If (Expr.Compare (Expr.Call _ _ _ _) [CmpOp.Lt] _ _) _ _ _) _) _ _ _); (rename WCut _ _ => hW); (rename Fr _ _ _ _ => F9); (rename News _ _ _ _ => N9); (refine join_sw hW F9 N9 ?_ ?_); clear hW; rotate_left; clear F9 N9 hW; intro h' tk' t' u' F' N'; dsimp only; rotate_left)
  k_with "JF" => first | exact JF.same (by assumption) (by assumption) (levA_f (by assumption)) rfl rfl | exact JF.swap (by assumption) (by assumption) (levA_t (by assumption))
  k_with "call type:list" => ((with_reducible show wpAny _ _ (call (Value.type _) [Value.ref _]) _ _ _); (rename IsRange _ _ _ _ _ _ _ _ => R'); (rename Fr _ _ _ _ => F'); (rename News _ _ _ _ => N'); (refine list_row (by with_unfolding_all rfl) F' N' R' (by omega) ?_); clear F' N'; intro D' us' c' h' tk' F' N' l1 hI'; (try k_lt l1))
  k_with "M pyIter ref" => k_dflt (k_state (fun pre r row => WOut (levA la lb) (levB la lb) c pre.length r row) "result" "row")
  k_with "M pyIter ref" => ((rename WOut _ _ _ _ _ _ => hWO); k_dflt (k_state_given ["bindex"] (fun bi pre d r mn row => row.length = (levA la lb).length ∧ WInn (levA la lb) (levB la lb) c bi pre.length d r mn row) "distance" "result" "minimum" "row"))
  k_with "call ref" => (k_here; (with_reducible show wpAny _ _ (call (Value.ref 67) [Value.str (S [_]) _, Value.str (S [_]) _]) _ _ _); k_dflt (refine' told_use (sub_told _ _ _ _ _ _ _ _) ?k1z28 ?k2z28 ?k3z28 ?k4z28 ?k5z28 ?kKz28 ?kpz28 ?kdz28 ?kuz28 ?_; (case k1z28 => k_asm); (case k2z28 => k_asm); (case k3z28 => k_asm); (case k4z28 => k_asm); (case k5z28 => k_asm); (case kKz28 => first | exact rfl | assumption); (case kpz28 => trivial); (case kdz28 => ktr_room); (case kuz28 => ktr_units)); intro t' h' tk' F' N'; (try dsimp only))
  k_with "execs cons" => ((with_reducible show wpAny _ _ (execs (Stmt.Assign [Expr.Name (Str.ofString "post") _] _ _ :: _) _) _ _ _); (fail_if_success (rename Mark 1 => mk9)); (rename Fr _ _ _ _ => F9); (rename News _ _ _ _ => N9); k_dflt (refine trimK3 (x1 := Str.ofString "a") (x2 := Str.ofString "b") (x3 := Str.ofString "max_cost") F9 N9 rfl rfl rfl rfl (fun _ hp => hp) ?_); clear F9 N9; (have mk9 := mark 1); intro m9 h9 tk9 F9 N9)
  k_with "execs cons" => ((with_reducible show wpAny _ _ (execs (Stmt.Assign [Expr.Name (Str.ofString "row") _] _ _ :: _) _) _ _ _); (fail_if_success (rename Mark 2 => mk9)); (rename Fr _ _ _ _ => F9); (rename News _ _ _ _ => N9); k_dflt (refine trimK3 (x1 := Str.ofString "a") (x2 := Str.ofString "b") (x3 := Str.ofString "max_cost") F9 N9 rfl rfl rfl rfl (fun _ hp => hp) ?_); clear F9 N9; (have mk9 := mark 2); intro m9 h9 tk9 F9 N9)
  trivial
set_option maxRecDepth 100000 in
set_option maxHeartbeats 12000000 in
theorem lev_told (w : World) (mean : ExcName → Option Value) (mg mb : Str → Option Value) (la lb : List Nat) (c : Int) (t1 t2 t3 : Tok) (ha : la.length ≤ 1000) (hb : lb.length ≤ 1000) :
    Told w mean mg mb 74 [.str (S la) t1, .str (S lb) t2, .int c t3] 2 2 (fun _ => True) (RetI (levS la lb c)) := by
  unfold Told
  k_fill
  intro dp un gd cn cs a ccd cl outer A₀ base h₀ L m news s Q E B F X N T hk hR hd hu hret
  have hl1 := lev1_le la lb
  have hl2 := lev2_le la lb
  have hl3 := levAB_le la lb
  k_with "exec While BoolOp cons nil" => k_while (fun _ p => WPre la lb p) (fun _ p => (la.length - p).toNat) "pre"
  k_with "exec While BoolOp cons nil" => k_while (fun _ q => WPost (lev1 la lb) (lev1' la lb) q) (fun _ q => ((lev1 la lb).length + q).toNat) "post"
  k_with "pyIter ref" => fail
  k_with "state" => (first
    | exact out_start
    | exact inn_next (by with_reducible assumption) (by with_reducible assumption) (by simp) (by rw [rangeKs_length]; omega) (by with_reducible assumption)
    | exact (inn_start (by with_reducible assumption) (by omega) (by with_reducible assumption)).two
    | exact step_a (by with_reducible assumption) (by with_reducible assumption) (by omega) (by simp) rfl (by with_reducible assumption)
    | exact step_b (by with_reducible assumption) (by with_reducible assumption) (by omega) (by simp) rfl (by with_reducible assumption)
    | exact pre_start _ _ | exact pre_step (by with_reducible assumption) (by with_reducible assumption) | exact post_start _ _ | exact post_step (by with_reducible assumption) (by with_reducible assumption))
  k_with "measure" => (first | exact pre_less (by assumption) (by assumption) | exact post_less (by assumption) (by assumption))
  refine wpAny_call ?_
  k_dflt ktr_enter
  k_steps
  all_goals first
    | exact retI hret (levS_0 (by assumption)) (by assumption) (by assumption)
    | exact retI hret (levS_e (by assumption) (.inl (by assumption))) (by assumption) (by assumption)
    | exact retI hret (levS_e (by assumption) (.inr (by assumption))) (by assumption) (by assumption)
    | exact retI hret (levS_b (by assumption) (by assumption) (by assumption) (.inl (by assumption))) (by assumption) (by assumption)
    | exact retI hret (levS_b (by assumption) (by assumption) (by assumption) (.inr (by assumption))) (by assumption) (by assumption)
    | exact retI hret (levS_c (by assumption) (by assumption) (by assumption) (by assumption) (by assumption) (by assumption)) (by assumption) (by assumption)
    | exact retI hret (levS_t (by assumption) (by assumption) (by assumption) (by assumption) (by assumption) (by assumption) (inn_ret (by assumption) (by rw [rangeKs_length]; omega) (by assumption))) (by assumption) (kst_newsOf (by assumption) (fun p hp => List.mem_cons_of_mem _ (List.mem_append_left _ hp)))
    | exact retI hret (levS_t (by assumption) (by assumption) (by assumption) (by assumption) (by assumption) (by assumption) (out_done (by assumption) (by rw [rangeKs_length]; omega))) (by assumption) (kst_newsOf (by assumption) (fun p hp => List.mem_cons_of_mem _ hp))
end
theorem said7 : True := by
  k_with_none
  k_with "subscriptTail Name Slice str ref" => ((with_reducible show wpAny _ _ (subscriptTail _ (Expr.Slice (some _) none none _) (Value.str (S _) _) _) _ _ _); (with_reducible rename Fr _ _ _ _ => F'); (with_reducible rename News _ _ _ _ => N'); (refine sS_from (s := ⟨_, _, _, _, _⟩) F' N' (by (try simp only [List.length_drop, List.length_take, List.length_cons, List.length_nil, List.length_append, List.length_replicate]); omega) (by omega) ?_); intro _ _ _ _ _)
  k_with "subscriptTail Name Slice str ref" => ((with_reducible show wpAny _ _ (subscriptTail _ (Expr.Slice none (some _) none _) (Value.str (S _) _) _) _ _ _); (with_reducible rename Fr _ _ _ _ => F'); (with_reducible rename News _ _ _ _ => N'); (first | (refine sS_nn (s := ⟨_, _, _, _, _⟩) F' N' (by (try simp only [List.length_drop, List.length_take, List.length_cons, List.length_nil, List.length_append, List.length_replicate]); omega) ?_) | (refine sS_to (s := ⟨_, _, _, _, _⟩) F' N' (by (try simp only [List.length_drop, List.length_take, List.length_cons, List.length_nil, List.length_append, List.length_replicate]); omega) (by omega) (by (try simp only [List.length_drop, List.length_take, List.length_cons, List.length_nil, List.length_append, List.length_replicate]); omega) ?_) | (refine sS_toneg (s := ⟨_, _, _, _, _⟩) F' N' (by (try simp only [List.length_drop, List.length_take, List.length_cons, List.length_nil, List.length_append, List.length_replicate]); omega) (by omega) (by (try simp only [List.length_drop, List.length_take, List.length_cons, List.length_nil, List.length_append, List.length_replicate]); omega) ?_)); intro _ _ _ _ _)
  k_with "subscriptTail Name Name str int" => ((with_reducible show wpAny _ _ (subscriptTail _ _ (Value.str (S _) _) _) _ _ _); (refine sS_at (by (try simp only [List.length_drop, List.length_take, List.length_cons, List.length_nil, List.length_append, List.length_replicate]); omega) (by omega) (by (try simp only [List.length_drop, List.length_take, List.length_cons, List.length_nil, List.length_append, List.length_replicate]); omega) ?_))
  k_with "subscriptTail Name BinOp str int" => ((with_reducible show wpAny _ _ (subscriptTail _ _ (Value.str (S _) _) _) _ _ _); (first | (refine sS_at (by (try simp only [List.length_drop, List.length_take, List.length_cons, List.length_nil, List.length_append, List.length_replicate]); omega) (by omega) (by (try simp only [List.length_drop, List.length_take, List.length_cons, List.length_nil, List.length_append, List.length_replicate]); omega) ?_) | (refine sS_atneg (by (try simp only [List.length_drop, List.length_take, List.length_cons, List.length_nil, List.length_append, List.length_replicate]); omega) (by omega) (by (try simp only [List.length_drop, List.length_take, List.length_cons, List.length_nil, List.length_append, List.length_replicate]); omega) ?_)))
  k_with "compareOp Eq str str" => ((with_reducible show wpAny _ _ (compareOp _ (Value.str (S _) _) (Value.str (S _) _)) _ _ _); refine sS_eq ?_)
  k_with "compareOp NotEq str str" => ((with_reducible show wpAny _ _ (compareOp _ (Value.str (S _) _) (Value.str (S _) _)) _ _ _); refine sS_ne ?_)
  k_with "call builtin:len" => ((with_reducible show wpAny _ _ (call _ [Value.str (S _) _]) _ _ _); refine sS_len (by (try simp only [List.length_drop, List.length_take, List.length_cons, List.length_nil, List.length_append, List.length_replicate]); omega) ?_)
  k_with "truthy str" => ((with_reducible show wpAny _ _ (PySem.truthy (Value.str (S _) _)) _ _ _); (first | ((with_reducible show wpAny _ _ (PySem.truthy (Value.str (S (List.drop _ _)) _)) _ _ _); refine sS_truthy_drop (by omega) (by omega) ?_) | ((with_reducible show wpAny _ _ (PySem.truthy (Value.str (S (List.take _ _)) _)) _ _ _); refine sS_truthy_take (by omega) (by omega) (by omega) ?_) | refine sS_truthy (by (try simp only [List.length_drop, List.length_take, List.length_cons, List.length_nil, List.length_append, List.length_replicate]); omega) ?_))
  k_with "binaryOp Add str str" => ((with_reducible show wpAny _ _ (binaryOp _ (Value.str (S _) _) (Value.str (S _) _)) _ _ _); refine sS_add (by (try simp only [List.length_drop, List.length_take, List.length_cons, List.length_nil, List.length_append, List.length_replicate]); omega) (by (try simp only [List.length_drop, List.length_take, List.length_cons, List.length_nil, List.length_append, List.length_replicate]); omega) ?_; intro _ _)
  trivial
noncomputable abbrev tibO (i : Int) (b : Bool) (n1 : Tok) : Obj := tupO [.int i n1, .bool b]
section
variable {l r : List Nat} {i j : Int}
theorem S_last : Txt.slice (S l) (some (-1)) none = S (l.drop (l.length - 1)) := by
  rw [slice_from_neg (by decide), S_from (by omega), S_len]
  congr 2; omega
theorem S_mul {n : Int} (h0 : 0 ≤ n) (c : Nat) : Txt.mul (S [c]) n = S (List.replicate n.toNat c) := by
  obtain ⟨k, rfl⟩ := Int.eq_ofNat_of_zero_le h0
  unfold Txt.mul
  by_cases h1 : (k : Int) < 1
  · have : k = 0 := by omega
    subst this; rfl
  · rw [if_neg h1]
    by_cases h2 : k = 1
    · subst h2; simp [S]
    · have h3 : (((k : Int) == 1 || (S [c]).length == 0) = true) = False := by
        have h4 : ((k : Int) == 1) = false := by rw [beq_eq_false_iff_ne]; omega
        simp [S_len, h4]
      rw [if_neg (by rw [h3]; exact id)]
      refine S_eq ?_
      simp only [Int.toNat_natCast, S_toList]
      have : ∀ (m : Nat) (acc : Array Nat), ((List.replicate m (S [c]).cps).foldl (· ++ ·) acc).toList = acc.toList ++ List.replicate m c := by
        intro m
        induction m with
        | zero => intro acc; simp
        | succ m ih => intro acc; rw [List.replicate_succ, List.foldl_cons, ih]; simp [S, List.replicate_succ]
      rw [this]; simp
theorem S_count (c : Nat) : Txt.count (S l) (S [c]) = (l.count c : Nat) := by
  have h := count_is (S l) c
  rw [S_toList] at h
  have e : ∀ l : List Nat, cnt c l = (l.count c : Nat) := by
    intro l
    induction l with
    | nil => rfl
    | cons n r ih => rw [cnt_cons, ih, List.count_cons]; by_cases h : n = c <;> simp [h]; omega
  exact h.trans (e l)
end
theorem lit_257 : Str.ofString "257 \"" = S [50, 53, 55, 32, 34] := by decide +kernel
theorem lit_q : Str.ofString "\"" = S [34] := by decide +kernel
theorem lit_x : Str.ofString "x" = S [120] := by decide +kernel
theorem lit_e : Str.ofString "" = S [] := by decide +kernel
theorem lit_qy : Str.ofString "\" y" = S [34, 32, 121] := by decide +kernel
theorem lit_qyq : Str.ofString "\"y\"\"" = S [34, 121, 34, 34] := by decide +kernel
theorem lit_z : Str.ofString "z" = S [122] := by decide +kernel
theorem lit_y : Str.ofString "y" = S [121] := by decide +kernel
theorem lit_abcd : Str.ofString "abcd" = S [97, 98, 99, 100] := by decide +kernel
theorem lit_ABCD : Str.ofString "ABCD" = S [65, 66, 67, 68] := by decide +kernel
theorem lit_0123 : Str.ofString "0123" = S [48, 49, 50, 51] := by decide +kernel
section
variable {prog : Program} {w : World} {A : Around} {E : Value → Shared → Prop} {s : Shared} {value slice : Expr} {l r : List Nat} {t u : Tok} {h₀ : Heap} {L : Addr} {m : Str → Option Value} {news : List (Addr × Obj)} {Q : Value → Shared → Prop}
theorem sS_lit {M : Model} {env : Env} {x : Str} {k : Nat} {pos : Pos} (e : x = S l) (h : Q (.str (S l) s.toks) { s with toks := s.toks + 1 }) : wpAny M A (eval (.Constant (.str x) k pos) env) Q E s := by
  subst e; exact Calls.Constant_str h
theorem sS_last {ui : Tok} (hF : Fr h₀ L s.heap m) (hN : News h₀ L s.heap news) (hsz : l.length ≤ 1000000) (h : ∀ h' t' k, Fr h₀ L h' m → News h₀ L h' news → Q (.str (S (l.drop (l.length - 1))) t') { s with heap := h', toks := k })
    (hs : subscripted slice false (.str (S l) t) (.ref s.heap.objs.size) = operate [.ref s.heap.objs.size, .str (S l) t] (getItem (.str (S l) t) (.ref s.heap.objs.size)) := by with_unfolding_all rfl)
    (ht : ∀ r, letTemporaryGo value (.str (S l) t) r = pure () := by intro _; with_unfolding_all rfl) :
    wpAny (model prog w) A (subscriptTail value slice (.str (S l) t) (.ref s.heap.objs.size)) Q E { s with heap := s.heap.push { cls := .type "slice", data := .fields #[.int (-1) ui, .none, .none] } } :=
  slice_strN_sn hF hN (fun h' t' k a b => by rw [S_last]; exact h h' t' k a b) hs ht (S_size hsz)
theorem sS_mul {n : Int} {c : Nat} (h0 : 0 ≤ n) (h1 : n ≤ 1000000) (h : ∀ t' k, Q (.str (S (List.replicate n.toNat c)) t') { s with toks := k }) : wpAny (model prog w) A (binaryOp .Mult (.str (S [c]) t) (.int n u)) Q E s :=
  SB.mul (mulOk_of 16 1048576 (by rw [S_len]; exact (by decide : 1 ≤ 16)) (by omega) (by omega) (by decide) (by decide)) fun t' k => by rw [S_mul h0]; exact h t' k
theorem sS_count {c : Nat} (h : Q (.int (l.count c : Nat) s.toks) { s with toks := s.toks + 1 }) : wpAny (model prog w) A (call (.builtin "str.count") [.str (S l) t, .str (S [c]) u]) Q E s :=
  SC.count (by rw [S_count]; exact h)
end
/-- what parse257 tells of a reply with n marks and an x -/
theorem parse_reply (e : List Nat) (he : parseL e = []) : ∀ n : Nat, parseL (List.replicate n 34 ++ (120 :: e)) = List.replicate (n / 2) 34 ++ (if n % 2 = 0 then [120] else [])
  | 0 => by simp [parseL_c e (show 120 ≠ 34 by decide), he]
  | 1 => by simp [List.replicate, parseL]
  | n + 2 => by
    have ih := parse_reply e he n
    have e1 : List.replicate (n + 2) 34 ++ 120 :: e = 34 :: 34 :: (List.replicate n 34 ++ 120 :: e) := by simp [List.replicate_succ]
    rw [e1, parseL_q2, ih, show (n + 2) / 2 = n / 2 + 1 by omega, show (n + 2) % 2 = n % 2 by omega, List.replicate_succ]; rfl
noncomputable def told (k : Nat) : List Nat := List.replicate (k / 2) 34 ++ (if k % 2 = 0 then [120] else [])
theorem told_len (k : Nat) : (told k).length ≤ k + 1 := by unfold told; rw [List.length_append, List.length_replicate]; split <;> simp <;> omega
theorem told_count (k : Nat) : (told k).count 34 = k / 2 := by unfold told; split <;> simp
theorem told_last (k : Nat) : ((told k).drop ((told k).length - 1) == [120]) = decide (k % 2 = 0) := by
  unfold told
  by_cases h : k % 2 = 0
  · rw [if_pos h, decide_eq_true h]; simp
  · rw [if_neg h, decide_eq_false h, List.append_nil, List.drop_replicate, beq_eq_false_iff_ne]
    intro e
    have h1 := congrArg List.length e
    have h2 := congrArg (List.count 34) e
    rw [List.length_replicate] at h1
    rw [List.count_replicate_self, h1] at h2
    exact absurd h2 (by decide)
theorem parse_told2 (w : World) (mean : ExcName → Option Value) (mg mb : Str → Option Value) (k : Nat) (e : List Nat) (t1 : Tok) (hk : k ≤ 500) (he : parseL e = []) (hl : e.length ≤ 10) :
    Told w mean mg mb 60 [.str (S (50 :: 53 :: 55 :: 32 :: 34 :: (List.replicate k 34 ++ [120] ++ e))) t1] 1 1 (fun _ => True) (RetS (S (told k))) := by
  have h := parse_told w mean mg mb (List.replicate k 34 ++ 120 :: e) t1 (by simp; omega)
  rw [parse_reply e he k] at h
  have e1 : 50 :: 53 :: 55 :: 32 :: 34 :: (List.replicate k 34 ++ [120] ++ e) = 50 :: 53 :: 55 :: 32 :: 34 :: (List.replicate k 34 ++ 120 :: e) := by simp
  rw [e1]; exact h
end
theorem said8 : True := by
  k_with_none
  trivial
open PySem.Calls
section
variable {M : Model} {A : Around} {t : Sem Flow} {Q : Flow → Shared → Prop} {E : Value → Shared → Prop} {s s₁ : Shared} {h₀ : Heap} {L : Addr} {m : Str → Option Value} {news news' : Led}
theorem trimH6 (_ : s₁.gens = #[]) {x1 x2 x3 x4 x5 x6 : Str} {v1 v2 v3 v4 v5 v6 : Value} (F : Fr h₀ L s.heap m) (N : News h₀ L s.heap news) (hs : s = { s₁ with heap := s.heap, toks := s.toks }) (e1 : m x1 = some v1) (e2 : m x2 = some v2) (e3 : m x3 = some v3) (e4 : m x4 = some v4) (e5 : m x5 = some v5) (e6 : m x6 = some v6) (hN : ∀ p ∈ news', p ∈ news)
    (k : ∀ (m' : Str → Option Value) (h' : Heap) (tk' : Nat), Fr h₀ L h' (fun y => if y = x1 then some (v1) else if y = x2 then some (v2) else if y = x3 then some (v3) else if y = x4 then some (v4) else if y = x5 then some (v5) else if y = x6 then some (v6) else m' y) → News h₀ L h' news' → wpAny M A t Q E { s₁ with heap := h', toks := tk' }) : wpAny M A t Q E s := by
  have e : (fun y => if y = x1 then some (v1) else if y = x2 then some (v2) else if y = x3 then some (v3) else if y = x4 then some (v4) else if y = x5 then some (v5) else if y = x6 then some (v6) else m y) = m := funext fun y => ite_same e1 (ite_same e2 (ite_same e3 (ite_same e4 (ite_same e5 (ite_same e6 (rfl))))))
  rw [hs]
  exact k m s.heap s.toks (by rw [e]; exact F) fun p hp => N p (hN p hp)
end
noncomputable def JoinP (h₀ : Heap) (L : Addr) (fr : (Str → Option Value) → Str → Option Value) (news' : Led) (s₁ : Shared) (v : Flow) (s' : Shared) : Prop :=
  v = .next ∧ s' = { s₁ with heap := s'.heap, toks := s'.toks } ∧ ∃ m', Fr h₀ L s'.heap (fr m') ∧ News h₀ L s'.heap news'
section
variable {M : Model} {A : Around} {Q : Flow → Shared → Prop} {E : Value → Shared → Prop} {s s₁ : Shared} {h₀ : Heap} {L : Addr} {m : Str → Option Value} {news news' : Led} {st : Stmt} {rest : List Stmt} {env : Env}
theorem join3 (_ : s₁.gens = #[]) {x1 x2 x3 : Str} {v1 v2 v3 : Value} (_ : Fr h₀ L s.heap m) (_ : News h₀ L s.heap news) (_ : s = { s₁ with heap := s.heap, toks := s.toks }) (_ : m x1 = some v1) (_ : m x2 = some v2) (_ : m x3 = some v3) (_ : ∀ p ∈ news', p ∈ news)
    (k1 : wpAny M A (exec st env) (JoinP h₀ L (fun m' y => if y = x1 then some v1 else if y = x2 then some v2 else if y = x3 then some v3 else m' y) news' s₁) NoE s)
    (k2 : ∀ (m' : Str → Option Value) (h' : Heap) (tk' : Nat), Fr h₀ L h' (fun y => if y = x1 then some v1 else if y = x2 then some v2 else if y = x3 then some v3 else m' y) → News h₀ L h' news' → wpAny M A (execs rest env) Q E { s₁ with heap := h', toks := tk' }) :
    wpAny M A (execs (st :: rest) env) Q E s := by
  refine wpAny_execs_cons (wpAny_mono k1 ?_ fun _ _ h => h.elim)
  rintro v s' ⟨rfl, hs, m', F, N⟩
  rw [hs]
  exact k2 m' _ _ F N
theorem join3_end {x1 x2 x3 : Str} {v1 v2 v3 : Value} (F : Fr h₀ L s.heap m) (N : News h₀ L s.heap news) (hs : s = { s₁ with heap := s.heap, toks := s.toks }) (e1 : m x1 = some v1) (e2 : m x2 = some v2) (e3 : m x3 = some v3) (hN : ∀ p ∈ news', p ∈ news) :
    JoinP h₀ L (fun m' y => if y = x1 then some v1 else if y = x2 then some v2 else if y = x3 then some v3 else m' y) news' s₁ .next s :=
  ⟨rfl, hs, m, by dsimp only; rw [show (fun y => if y = x1 then some v1 else if y = x2 then some v2 else if y = x3 then some v3 else m y) = m from funext fun y => ite_same e1 (ite_same e2 (ite_same e3 rfl))]; exact F, fun p hp => N p (hN p hp)⟩
end
local macro_rules | `(tactic| kst_facts1) => `(tactic| first | exact IntsAre.nil | exact IntsAre.cons _ _ (IntsAre.cons _ _ IntsAre.nil))
section
open PySem.Calls
variable {prog : Program} {w : World} {A A₀ : Around} {E : Value → Shared → Prop} {s : Shared} {K : Frag} {C L : Addr} {h₀ base : Heap} {m mg mb : Str → Option Value} {news sub : Led} {p : Program} {loose : List Str} {mean : ExcName → Option Value} {Q : Value → Shared → Prop}
/-- the others of the ledger lie in the callee's base -/
noncomputable def Others (g : Heap) (news sub : Led) : Prop := ∀ p ∈ news, p ∈ sub ∨ g.get? p.1 = some p.2
theorem others_of {h : Heap} (N : News h₀ L h news) (hs : ∀ p ∈ sub, p ∈ news) : Others (hideAll h (sub.map (·.1))) news sub := fun p hp => by
  by_cases hm : p.1 ∈ sub.map (·.1)
  · obtain ⟨q, hq, e⟩ := List.mem_map.mp hm
    have h1 := (N p hp).1
    have h2 := (N q (hs q hq)).1
    rw [e, h1] at h2
    have : p = q := Prod.ext e.symm (Option.some.inj h2)
    exact .inl (this ▸ hq)
  · exact .inr (hideAll_get _ (N p hp).1 hm)
theorem others_back {h h' g : Heap} {L' : Addr} {m' : Str → Option Value} {new : Led} (N : News h₀ L h news) (O : Others g news sub) (F' : Fr g L' h' m') (N' : News h₀ L h' new) (hs : ∀ p ∈ sub, p ∈ new) : News h₀ L h' (new ++ news) := fun p hp => by
  rcases List.mem_append.mp hp with hp | hp
  · exact N' p hp
  · rcases O p hp with h1 | h1
    · exact N' p (hs p h1)
    · exact ⟨F'.keep _ _ h1, (N p hp).2⟩
end
noncomputable abbrev RetL (l : List Int) : RetK := fun h₀ L m news s Q => ∀ (q : Addr) (vs : List Value) (n : Nat) (h' : Heap) (tk' : Nat), IntsAre vs l → Fr h₀ L h' m → News h₀ L h' ((q, listOf vs.toArray n) :: news) → (∀ p ∈ news, @Ne Nat p.1 q) → Q (.ref q) { s with heap := h', toks := tk' }
theorem comp_same {h₀ h' : Heap} {L I C D : Addr} {m : Str → Option Value} {s₁ : Shared} {oI oC oD : Obj} {S : Led → Prop} {rest : Value → Led → Prop} {y : Value} {tk : Nat} {news' : Led} (F : Fr h₀ L h' m) (N : News h₀ L h' ((I, oI) :: (C, oC) :: (D, oD) :: news')) (off : LCg.Off3 I C D news') (hS : S news') (r : rest y news') : LCg.CompEnd h₀ L m s₁ I oI C oC D oD S rest y { s₁ with heap := h', toks := tk } := ⟨h', tk, news', rfl, F, N, off, hS, r⟩
theorem others_ne {h' g : Heap} {L' D : Addr} {new news sub : Led} {oD : Obj} (O : Others g news sub) (N' : News g L' h' new) (hD : (D, oD) ∈ new) (hs : ∀ p ∈ sub, @Ne Nat p.1 D) : ∀ p ∈ news, @Ne Nat p.1 D := fun p hp e => by
  rcases O p hp with h1 | h1
  · exact hs p h1 e
  · have h2 := (N' _ hD).2.2
    rw [← e] at h2
    rw [h1] at h2; cases h2
section
variable {prog : Program} {w : World} {A : Around} {E : Value → Shared → Prop} {s : Shared} {h₀ : Heap} {L D : Addr} {m : Str → Option Value} {news all : List (Addr × Obj)} {t u : Tok} {Q : Value → Shared → Prop} {value slice : Expr}
theorem join_S {l : List (Nat × Tok)} {z : Nat} (N : News h₀ L s.heap all) (hm : (D, listOf (l.map fun p => Value.str (S [p.1]) p.2).toArray z) ∈ all) (hl : l.length ≤ 100)
    (h : ∀ t' k, Q (.str (S (l.map (·.1))) t') { s with toks := k }) : wpAny (model prog w) A (call (.builtin "str.join") [.str (S []) t, .ref D]) Q E s := by
  have hl' : s.heap.IsList D (l.map fun p => Value.str (S [p.1]) p.2).toArray := ⟨_, (N _ hm).1, rfl, z, rfl⟩
  have hS : ∀ l : List (Nat × Tok), StrsAre (l.map fun p => Value.str (S [p.1]) p.2) (l.map fun p => S [p.1]) := by
    intro l; induction l with
    | nil => exact .nil
    | cons a r ih => exact .cons _ _ ih
  have e1 : ∀ l : List (Nat × Tok), ((l.map fun p => S [p.1]).map (·.length)).sum = l.length := by
    intro l; induction l with
    | nil => rfl
    | cons a r ih => simp only [List.map_cons, List.sum_cons, List.length_cons, ih, S_len, List.length_nil]; omega
  have e2 : ∀ l : List (Nat × Tok), Txt.join (S []) (l.map fun p => S [p.1]) = S (l.map (·.1)) := by
    intro l
    show Builtin.Str.glued (S []) _ = _
    rw [StrLaws.glued_eq_join]
    induction l with
    | nil => exact S_eq rfl
    | cons a r ih =>
      cases r with
      | nil => rfl
      | cons b r =>
        have e : PySem.Str.join (S []) (((a :: b :: r).map fun p => S [p.1])) = S [a.1] ++ S [] ++ PySem.Str.join (S []) (((b :: r).map fun p => S [p.1])) := rfl
        rw [e, ih, S_cat, S_cat]
        rfl
  refine join_listC hl' (hS l) (by simp [S_len]) (by rw [e1, List.length_map]; omega) fun t' k => ?_
  rw [e2]; exact h t' k
end
section
variable {prog : Program} {w : World} {A : Around} {E : Value → Shared → Prop} {s : Shared} {env : Env} {h₀ : Heap} {x : Str} {body : List Stmt} {Q : Flow → Shared → Prop}
theorem unrPost_mono {L I : Addr} {s₁ : Shared} {it : Obj} {r r' : (Str → Option Value) → Led → Prop} (h : ∀ m n, r m n → r' m n) {f : Flow} {s₂ : Shared} (p : UnrPost h₀ L s₁ I it r Q f s₂) : UnrPost h₀ L s₁ I it r' Q f s₂ := by
  have hE : UnrEnd h₀ L s₁ I it r s₂ → UnrEnd h₀ L s₁ I it r' s₂ := fun ⟨h', tk, m', n', e, F, N, o, q⟩ => ⟨h', tk, m', n', e, F, N, o, h _ _ q⟩
  cases f with
  | ret v => exact p
  | brk => exact p
  | next => exact hE p
  | cont => exact hE p
theorem lr_inv {I : Addr} {lp : Addr × Obj} {ns : List Int} (INV : List Int → (Str → Option Value) → Led → Prop)
    (turn : ∀ (pre : List Int) (n : Int) (t : Tok) (m : Str → Option Value) (news : Led) (it : Obj) (h : Heap) (tk : Nat), INV pre m news → it.cls = .type "list_iterator" → Fr h₀ env.locals h (fun y => if y = x then some (.int n t) else m y) → News h₀ env.locals h ((I, it) :: news) →
      wpAny (model prog w) A (execs body env) (UnrPost h₀ env.locals { s with heap := h, toks := tk } I it (fun m' n' => lp ∈ n' ∧ INV (pre ++ [n]) m' n') Q) E { s with heap := h, toks := tk })
    (done : ∀ m news h tk, INV ns m news → Fr h₀ env.locals h m → News h₀ env.locals h news → Q .next { s with heap := h, toks := tk }) :
    ∀ (vs : List Value) (ks pre : List Int) (m : Str → Option Value) (news : Led), IntsAre vs ks → pre ++ ks = ns → INV pre m news → ListRest prog w A E h₀ env x body Q s I lp vs m news := by
  intro vs
  induction vs with
  | nil =>
    intro ks pre m news hI e hi
    cases hI
    rw [List.append_nil] at e
    subst e
    exact ListRest.zero fun h tk F N => done m news h tk hi F N
  | cons v r ih =>
    intro ks pre m news hI e hi
    cases hI with
    | cons n t hI' =>
      refine ListRest.succ fun it h tk hc F N => ?_
      exact wpAny_mono (turn pre n t m news it h tk hi hc F N) (fun f s₂ p => unrPost_mono (fun m' n' q => ⟨q.1, ih _ (pre ++ [n]) m' n' hI' (by rw [List.append_assoc]; exact e) q.2⟩) p) fun _ _ e => e
end
section
open PySem.Calls
variable {prog : Program} {w : World} {A A₀ : Around} {E : Value → Shared → Prop} {s : Shared} {K : Frag} {L : Addr} {h₀ base : Heap} {m mg mb : Str → Option Value} {news sub : Led} {p : Program} {loose : List Str} {mean : ExcName → Option Value}
theorem code_subC {env : Env} {outer : List Env} {R : Result → Shared → Prop} {name qual : Str} {params : Arguments} {body : List Stmt} {scope : Scope} {dV kV doc pm cdv ct oc : Value} {an od : Option Addr} {osl : Array (Option Value)} {f : Addr} {args : Args} {binds : List (Str × Value)}
    (B : Below A₀ base outer h₀) (F : Fr h₀ L s.heap m) (X₀ : K.In h₀) (N : News h₀ L s.heap news) (hs : ∀ p ∈ sub, p ∈ news) (T : Top p loose mean mg mb h₀) (hA : A.frames = some (env :: outer)) (hf : env.frame = some L) (hke : env.scope.kind = .function)
    (ho : K.lookup f = some ⟨oc, od, .func (fnOf name qual params body scope dV kV doc pm an cdv ct), osl⟩) (hcd : codeIn K cdv qual = true) (hroom : A.depth < recursionLimit)
    (hbind : BindsTo s (fnOf name qual params body scope dV kV doc pm an cdv ct) args binds) (hkind : (binds.all fun y => scope.names.lookup y.1 == some .local || scope.names.lookup y.1 == some .cell) = true)
    (hnd : ((cellsFrom 0 scope.names []).map (·.1)).Nodup)
    (h : ∀ g L' h₁ tk cells, Fr h₀ L g m → Fr g L' h₁ (bindL (envOfC qual scope L' f cdv).kindOf binds fun _ => none) → News g L' h₁ (cells ++ sub) →
      CellsAre (bindC (envOfC qual scope L' f cdv).kindOf binds fun _ => none) (cellsFrom (L' + 1) scope.names []) cells → Below A base (env :: outer) g → K.In g → Top p loose mean mg mb g → Others g news sub → (∀ p ∈ sub, p.1 < L') →
      wpAny (model prog w) (A.deeper (envOfC qual scope L' f cdv)) (execs body (envOfC qual scope L' f cdv))
        (fun fl s' => LeaveK h₀ L m g R (match fl with | .ret v => v | _ => .none) s')
        (fun e s' => wpAny (model prog w) (A.deeper (envOfC qual scope L' f cdv)) (leaving (envOfC qual scope L' f cdv) e) (fun _ s'' => R (.error e) s'') (fun e' s'' => R (.error e') s'') s')
        { s with heap := h₁, toks := tk })
    (hco : scope.isCoroutine = false) (hgen : scope.isGenerator = false) (hk : scope.kind = .function) : codeAny (model prog w) A (.call (.ref f) args) R s := by
  have Ns : News h₀ L s.heap sub := kst_newsOf N hs
  obtain ⟨FG, BG, st, lv⟩ := groundX (R := R) B F Ns hA hf hke
  refine codeAny_call_function hroom ((X₀.keeps F.keep) _ _ ho) rfl hco hgen rfl (codeRec_of (X₀.keeps F.keep) hcd) (hbind _ _ _ _ ?_)
  refine wpAny_newFunctionEnv_cells hk (kindsX hkind _) fun env' he s' x => ?_
  subst he
  refine ⟨(T.nolimit.keeps F.keep).keeps x.toInCall.keep, codeAny_func ?_⟩
  obtain ⟨h₁, tk, rfl, _⟩ := x.done
  have hk₁ := x.toInCall.keep
  obtain ⟨cells, NC, Y⟩ := Cl.news (h₀ := s.heap) (Nat.le_refl _) fun n c hm => ⟨x.cell n c (lookup_of_mem_nodup (cellsFrom_names scope.names 0 (s.heap.objs.size + 1) [] [] rfl ▸ hnd) hm), x.above n c hm⟩
  have NN : News (hideAll s.heap (sub.map (·.1))) s.heap.objs.size h₁ (cells ++ sub) := fun p hp => by
    rcases List.mem_append.mp hp with hp | hp
    · refine ⟨(NC p hp).1, (NC p hp).2.1, ?_⟩
      cases q : (hideAll s.heap (sub.map (·.1))).get? p.1 with
      | none => rfl
      | some o => have := of_hideAll _ q; rw [(NC p hp).2.2] at this; cases this
    · exact ⟨hk₁ _ _ (Ns p hp).1, Nat.ne_of_lt (Heap.lt_size (Ns p hp).1), hideAll_none _ (List.mem_map_of_mem hp)⟩
  exact wpAny_mono (h _ s.heap.objs.size h₁ tk cells FG ⟨x.toInCall.ns, fun b o e => hk₁ b o (of_hideAll _ e), Nat.le_of_eq (hideAll_size _ _)⟩ NN Y BG (X₀.keeps st) (T.keeps st) (others_of N hs) (fun p hp => Heap.lt_size (Ns p hp).1)) (fun fl s' hl => lv _ _ hl) fun _ _ y => y
end
section
theorem said9 : True := by
  k_with "execs nil" => (k_here; k_dflt (refine gen_pos ?_); intro tk9 hk9)
  k_with "execs cons" => (k_here; k_dflt (refine gen_pos ?_); intro tk9 hk9)
  k_with "call builtin:max" => ((with_reducible show wpAny _ _ (call _ [Value.float _ _, Value.float _ _, Value.float _ _]) _ _ _); (rename News _ _ _ _ => N'); (rename Fr _ _ _ _ => F'); refine max3_ffn rfl F' N' ?_; clear N'; intro _ _ _ hv9 _ _)
  k_with "call builtin:min" => ((with_reducible show wpAny _ _ (call _ [Value.float _ _, Value.float _ _, Value.float _ _]) _ _ _); (rename News _ _ _ _ => N'); (rename Fr _ _ _ _ => F'); refine min3_ff rfl F' N' ?_; clear N'; intro _ _ _ _ _)
  trivial
set_option maxRecDepth 100000 in
set_option maxHeartbeats 8000000 in
theorem rgb_told3 (w : World) (mean : ExcName → Option Value) (mg mb : Str → Option Value) (r g b : UInt64) (t1 t2 t3 : Tok) (hok : rgbOk r g b = true) :
    Told w mean mg mb 21 [.float r t1, .float g t2, .float b t3] 1 1 (fun _ => True) (RetT3n (rgbS r g b) (t1 ≠ 0 ∧ t2 ≠ 0 ∧ t3 ≠ 0)) := by
  unfold Told
  k_fill
  intro dp un gd cn cs a ccd cl outer A₀ base h₀ L m news s Q E B F X N T hk hR hd hu hret
  refine wpAny_call ?_
  k_dflt ktr_enter
  k_steps
  all_goals first
    | exact absurd (by assumption) (rgbOk_x hok (by assumption))
    | exact absurd (by assumption) (rgbOk_d hok (by assumption))
    | refine retT3n hret (rgbS_e (by assumption)) (by assumption) (by assumption) (by assumption) ?_
    | refine retT3n hret (rgbS_r (by assumption) (by assumption)) (by assumption) (by assumption) (by assumption) ?_
    | refine retT3n hret (rgbS_g (by assumption) (by assumption) (by assumption)) (by assumption) (by assumption) (by assumption) ?_
    | refine retT3n hret (rgbS_b (by assumption) (by assumption) (by assumption)) (by assumption) (by assumption) (by assumption) ?_
  all_goals intro hP
  all_goals first
    | refine ⟨?_, ?_, ?_⟩
  all_goals first
    | assumption
    | exact Nat.succ_ne_zero _
    | (rename (_ ∨ _ ∨ _) => hv9; rcases hv9 with e9 | e9 | e9 <;> rw [e9] <;> first | exact hP.1 | exact hP.2.1 | exact hP.2.2)
end
theorem said10 : True := by
  k_with_none
  trivial
section
variable {prog : Program} {w : World} {A : Around} {E : Value → Shared → Prop} {s : Shared} {h₀ : Heap} {L : Addr} {m : Str → Option Value} {env : Env}
/-- the items of a comprehension come of a written tuple -/
noncomputable def SrcT (prog : Program) (w : World) (A : Around) (h₀ : Heap) (L : Addr) (m : Str → Option Value) (env : Env) (elt : Expr) (x : Str) (scope : Scope) (cl : List (Str × Addr)) (Fin : Shared → List Value → Led → Prop) (xv : Value) (s₁ : Shared) : Prop :=
  ∃ (ax : Addr) (vs : List Value) (o : Obj) (news : Led), xv = .ref ax ∧ A.handled = none ∧ Fr h₀ L s₁.heap m ∧ News h₀ L s₁.heap news ∧ (ax, o) ∈ news ∧ o.cls = .type "tuple" ∧ (∃ n, o.data = .seq vs.toArray n) ∧ vs.length ≤ sizeLine ∧
    ∀ g, LCg.CompRest prog w A h₀ L m env elt x scope cl { s₁ with heap := g } (fun nw => (ax, o) ∈ nw) (fun i v => vs[i]? = some v) (Fin { s₁ with heap := g }) vs.length 0 [] news
theorem srcT {elt : Expr} {x : Str} {scope : Scope} {cl : List (Str × Addr)} {Fin : Shared → List Value → Led → Prop} {ax : Addr} {vs : List Value} {news : Led} {s₁ : Shared} (hh : A.handled = none) (F : Fr h₀ L s₁.heap m) (N : News h₀ L s₁.heap news) (hm : (ax, tupO vs) ∈ news) (hz : vs.length ≤ sizeLine)
    (h : ∀ g, LCg.CompRest prog w A h₀ L m env elt x scope cl { s₁ with heap := g } (fun nw => (ax, tupO vs) ∈ nw) (fun i v => vs[i]? = some v) (Fin { s₁ with heap := g }) vs.length 0 [] news) : SrcT prog w A h₀ L m env elt x scope cl Fin (.ref ax) s₁ :=
  ⟨ax, vs, _, news, rfl, hh, F, N, hm, rfl, ⟨_, rfl⟩, hz, h⟩
theorem tupWalks {ax I : Addr} (hh : A.handled = none) (hne : ax ≠ I) (vs : List Value) : Walks prog w A I [I, ax] [I] vs.length (fun i v => vs[i]? = some v) (fun i h => h.IsTupleIter I ax i ∧ h.IsTuple ax vs.toArray) := by
  have W := Walks.tuple (prog := prog) (w := w) (A := A) hh I ax hne vs.toArray
  have e : vs.toArray.size = vs.length := by simp
  rw [e] at W
  exact { sub := W.sub, frame := W.frame, done := W.done, self := W.self, item := fun i s Q E hi st hQ => W.item i s Q E hi st fun v h' tk hP => hQ v h' tk (by simpa using hP) }
theorem tup_st {ax I : Addr} {vs : List Value} {o' : Obj} (hc : o'.cls = .type "tuple") (hd : ∃ n, o'.data = .seq vs.toArray n) : ∀ i (h h' : Heap) (o : Obj) (nw : Led), (h.IsTupleIter I ax i ∧ h.IsTuple ax vs.toArray) → h.get? I = some o → h'.get? I = some o → (∀ b o, h₀.get? b = some o → h'.get? b = some o) → News h₀ L h' nw → (ax, o') ∈ nw → (h'.IsTupleIter I ax i ∧ h'.IsTuple ax vs.toArray) :=
  fun i h h' o nw st e e' k N S => ⟨by obtain ⟨o', q, r⟩ := st.1; rw [e] at q; cases q; exact ⟨o, e', r⟩, ⟨_, (N _ S).1, hc, hd⟩⟩
theorem src_block {elt iter : Expr} {x : Str} {px : Pos} {scope : Scope} {cl : List (Str × Addr)} {pos : Pos} {Fin : Shared → List Value → Led → Prop} {RR : Value → Addr → Result → Shared → Prop} {xv : Value} {s₁ : Shared}
    (hcell : ∀ y ∈ scope.names, y.2 ≠ .cell) (hkind : scope.kind = .function) (hx : scope.names.lookup x = some .local) (h₁ : SrcT prog w A h₀ L m env elt x scope cl Fin xv s₁)
    (hRR : ∀ g D C h tk m' ys news', Fr h₀ L h m → News h₀ L h ((D, LCg.lst ys) :: news') → LCg.Off1 D news' → h.Ns C m' → h₀.get? C = none → h₀.get? D = none → C ≠ L → D ≠ L → C ≠ D → (∀ p ∈ news', p.1 ≠ C) → Fin { s₁ with heap := g } ys news' → RR (.ref D) C (.ok .next) { s₁ with heap := h, toks := tk }) :
    wpAny (model prog w) A (pyIter xv) (fun it s₂ => wpAny (model prog w) A (newList []) (fun acc s₃ => wpAny (model prog w) A (newFunctionEnv scope env.globals cl [] env.qual none .none (some env)) (fun cenv s₄ =>
      codeAny (model prog w) A (.compStart (.ListComp elt [⟨.Name x px, iter, [], 0⟩] scope pos) 0 it acc { cenv with scope := relabel scope env }) (RR acc cenv.locals) s₄) E s₃) E s₂) E s₁ := by
  obtain ⟨ax, vs, o, news, rfl, hh, F, N, hm, hc, hd, hsz, R⟩ := h₁
  have hl : s₁.heap.IsTuple ax vs.toArray := ⟨o, (N _ hm).1, hc, hd⟩
  have hlt : ax < s₁.heap.objs.size := Heap.lt_size (N _ hm).1
  refine wpAny_pyIter_tuple hl ?_
  have up : ∀ b o, s₁.heap.get? b = some o → (s₁.heap.push { cls := .type "tuple_iterator", data := .fields #[.ref ax, .int 0 0] }).get? b = some o := fun b o e => Heap.get?_push_of_some _ e
  refine LCg.block_U (tupWalks hh (Nat.ne_of_lt hlt) vs) hsz (fun i h st => by obtain ⟨o, e, _⟩ := st.1; exact ⟨o, e⟩) (tup_st hc hd) hcell hkind hx ⟨⟨_, Heap.get?_push_size _ rfl, rfl, rfl⟩, hl.push _⟩ (fun b hb => ?_)
    (F.keeps up) (N.grown up) (Nat.ne_of_lt F.ns.lt) (next_is_new F) (fun p hp => Nat.ne_of_lt (Heap.lt_size (N p hp).1)) hm (R _) (fun D C h tk m' ys news' F' N' o1 hn hC₀ hD₀ hCL hDL hCD offC fin => hRR _ D C h tk m' ys news' F' N' o1 hn hC₀ hD₀ hCL hDL hCD offC fin)
  show b < (s₁.heap.push _).objs.size
  rw [Heap.size_push]
  rcases List.mem_cons.mp hb with rfl | hb
  · exact Nat.lt_succ_self _
  · rw [List.mem_singleton.mp hb]; exact Nat.lt_succ_of_lt hlt
theorem comp_T {elt iter : Expr} {x : Str} {px : Pos} {scope : Scope} {cl : List (Str × Addr)} {pos : Pos} {Q : Value → Shared → Prop} (_F₀ : Fr h₀ L s.heap m)
    (hclos : closureFor scope env = pure cl) (hcell : ∀ y ∈ scope.names, y.2 ≠ .cell) (hkind : scope.kind = .function)
    (hnames : ∀ y ∈ scope.names, y.2 = .local → scope.names.lookup y.1 = some .local) (hx : scope.names.lookup x = some .local)
    (h : wpAny (model prog w) A (eval iter env) (SrcT prog w A h₀ L m env elt x scope cl (fun s₂ => LCg.FinE h₀ L m s₂ Q)) E s)
    (hs : ∀ x, foldedSetIterable iter env x = pure x := by intro _; rfl) :
    wpAny (model prog w) A (eval (.ListComp elt [⟨.Name x px, iter, [], 0⟩] scope pos) env) Q E s := by
  rw [eval_ListComp]
  refine wpAny_comprehension_free (use := none) rfl hs hclos hkind hnames (wpAny_mono h (fun xv s₁ h₁ => src_block hcell hkind hx h₁ ?_) fun _ _ e => e)
  intro g D C h tk m' ys news' F' N' o1 hn hC₀ hD₀ hCL hDL hCD offC fin
  refine ⟨m', hn, fun h'' hs'' => fin D h'' tk (F'.change hs'' hCL hC₀) (fun p hp => ?_) o1⟩
  refine ⟨hs''.extBut _ _ ?_ (N' p hp).1, (N' p hp).2⟩
  rcases List.mem_cons.mp hp with rfl | hp
  · exact Ne.symm hCD
  · exact offC p hp
theorem assign_T {elt iter : Expr} {x y : Str} {px py : Pos} {scope : Scope} {cl : List (Str × Addr)} {pos spos : Pos} {Q : Flow → Shared → Prop} (_F₀ : Fr h₀ L s.heap m) (hLe : env.locals = L)
    (hsw : swapsWith (.ListComp elt [⟨.Name x px, iter, [], 0⟩] scope pos) (some (.Name y py)) spos.line env = pure true)
    (hclos : closureFor scope env = pure cl) (hcell : ∀ z ∈ scope.names, z.2 ≠ .cell) (hkind : scope.kind = .function)
    (hnames : ∀ z ∈ scope.names, z.2 = .local → scope.names.lookup z.1 = some .local) (hx : scope.names.lookup x = some .local)
    (hy : env.kindOf y = some .local) (hp : (env.scope.kind == .class || (env.scope.kind == .module && env.locals != env.globals)) = false)
    (h : wpAny (model prog w) A (eval iter env) (SrcT prog w A h₀ L m env elt x scope cl (fun s₂ => LCg.FinA h₀ L m s₂ y Q)) E s)
    (hs : ∀ x, foldedSetIterable iter env x = pure x := by intro _; rfl) :
    wpAny (model prog w) A (exec (.Assign [.Name y py] (.ListComp elt [⟨.Name x px, iter, [], 0⟩] scope pos) spos) env) Q E s := by
  subst hLe
  rw [exec_Assign_Name_used _ _ _ _ hsw]
  refine wpAny_bind (wpAny_standAt (wpAny_bind ?_))
  show wpAny _ A (do let _ ← comprehension (.ListComp elt [⟨.Name x px, iter, [], 0⟩] scope pos) scope env _ (newList []) false (eval iter env) (some (assign (.Name y py) env))) _ _ s
  refine wpAny_bind (wpAny_mono (wpAny_comprehension_free (use := some (assign (.Name y py) env)) (Q := fun _ s' => Q .next s') rfl hs hclos hkind hnames
    (wpAny_mono h (fun xv s₁ h₁ => src_block hcell hkind hx h₁ ?_) fun _ _ e => e)) (fun _ s' hq => wpAny_pure (wpAny_pure hq)) fun _ _ e => e)
  intro g D C h' tk m' ys news' F' N' o1 hn hC₀ hD₀ hCL hDL hCD offC fin
  show wpAny _ A (assign (.Name y py) env (.ref D)) _ _ _
  refine wpAny_assign_Name (wpAny_storeName_local hy F'.ns (fun h₂ hn₂ hs₂ => ?_) hp)
  have hL₀ : h₀.get? env.locals = none := Heap.get?_none_of_le F'.above
  have F₂ : Fr h₀ env.locals h₂ (fun z => if z = y then some (.ref D) else m z) := ⟨hn₂, fun b o e => hs₂.extBut b o (fun q => by rw [q, hL₀] at e; cases e) (F'.keep b o e), F'.above⟩
  refine ⟨m', hn.sameBut hs₂ hCL, fun h'' hs'' => fin D h'' _ (F₂.change hs'' hCL hC₀) (fun p hp => ?_) o1⟩
  have z : h₂.get? p.1 = some p.2 := hs₂.extBut _ _ (N' p hp).2.1 (N' p hp).1
  refine ⟨hs''.extBut _ _ ?_ z, (N' p hp).2⟩
  rcases List.mem_cons.mp hp with rfl | hp
  · exact Ne.symm hCD
  · exact offC p hp
end
section
noncomputable def bits : Nat → Int → List Int
  | 0, _ => []
  | k + 1, n => if n ≤ 1 then [] else n % 2 :: bits k (n / 2)
theorem said11 : True := by
  k_with "subscriptTail Name Slice str ref" => ((with_reducible show wpAny _ _ (subscriptTail _ (Expr.Slice (some _) none none _) (Value.str (S _) _) _) _ _ _); (with_reducible rename Fr _ _ _ _ => F'); (with_reducible rename News _ _ _ _ => N'); (refine sS_from (s := ⟨_, _, _, _, _⟩) F' N' (by (try simp only [List.length_drop, List.length_take, List.length_cons, List.length_nil, List.length_append, List.length_replicate]); omega) (by omega) ?_); intro _ _ _ _ _)
  k_with "subscriptTail Name Slice str ref" => ((with_reducible show wpAny _ _ (subscriptTail _ (Expr.Slice none (some _) none _) (Value.str (S _) _) _) _ _ _); (with_reducible rename Fr _ _ _ _ => F'); (with_reducible rename News _ _ _ _ => N'); (first | (refine sS_nn (s := ⟨_, _, _, _, _⟩) F' N' (by (try simp only [List.length_drop, List.length_take, List.length_cons, List.length_nil, List.length_append, List.length_replicate]); omega) ?_) | (refine sS_to (s := ⟨_, _, _, _, _⟩) F' N' (by (try simp only [List.length_drop, List.length_take, List.length_cons, List.length_nil, List.length_append, List.length_replicate]); omega) (by omega) (by (try simp only [List.length_drop, List.length_take, List.length_cons, List.length_nil, List.length_append, List.length_replicate]); omega) ?_) | (refine sS_toneg (s := ⟨_, _, _, _, _⟩) F' N' (by (try simp only [List.length_drop, List.length_take, List.length_cons, List.length_nil, List.length_append, List.length_replicate]); omega) (by omega) (by (try simp only [List.length_drop, List.length_take, List.length_cons, List.length_nil, List.length_append, List.length_replicate]); omega) ?_)); intro _ _ _ _ _)
  k_with "subscriptTail Name Name str int" => ((with_reducible show wpAny _ _ (subscriptTail _ _ (Value.str (S _) _) _) _ _ _); (refine sS_at (by (try simp only [List.length_drop, List.length_take, List.length_cons, List.length_nil, List.length_append, List.length_replicate]); omega) (by omega) (by (try simp only [List.length_drop, List.length_take, List.length_cons, List.length_nil, List.length_append, List.length_replicate]); omega) ?_))
  k_with "subscriptTail Name BinOp str int" => ((with_reducible show wpAny _ _ (subscriptTail _ _ (Value.str (S _) _) _) _ _ _); (first | (refine sS_at (by (try simp only [List.length_drop, List.length_take, List.length_cons, List.length_nil, List.length_append, List.length_replicate]); omega) (by omega) (by (try simp only [List.length_drop, List.length_take, List.length_cons, List.length_nil, List.length_append, List.length_replicate]); omega) ?_) | (refine sS_atneg (by (try simp only [List.length_drop, List.length_take, List.length_cons, List.length_nil, List.length_append, List.length_replicate]); omega) (by omega) (by (try simp only [List.length_drop, List.length_take, List.length_cons, List.length_nil, List.length_append, List.length_replicate]); omega) ?_)))
  k_with "compareOp Eq str str" => ((with_reducible show wpAny _ _ (compareOp _ (Value.str (S _) _) (Value.str (S _) _)) _ _ _); refine sS_eq ?_)
  k_with "compareOp NotEq str str" => ((with_reducible show wpAny _ _ (compareOp _ (Value.str (S _) _) (Value.str (S _) _)) _ _ _); refine sS_ne ?_)
  k_with "call builtin:len" => ((with_reducible show wpAny _ _ (call _ [Value.str (S _) _]) _ _ _); refine sS_len (by (try simp only [List.length_drop, List.length_take, List.length_cons, List.length_nil, List.length_append, List.length_replicate]); omega) ?_)
  k_with "truthy str" => ((with_reducible show wpAny _ _ (PySem.truthy (Value.str (S _) _)) _ _ _); (first | ((with_reducible show wpAny _ _ (PySem.truthy (Value.str (S (List.drop _ _)) _)) _ _ _); refine sS_truthy_drop (by omega) (by omega) ?_) | ((with_reducible show wpAny _ _ (PySem.truthy (Value.str (S (List.take _ _)) _)) _ _ _); refine sS_truthy_take (by omega) (by omega) (by omega) ?_) | refine sS_truthy (by (try simp only [List.length_drop, List.length_take, List.length_cons, List.length_nil, List.length_append, List.length_replicate]); omega) ?_))
  k_with "binaryOp Add str str" => ((with_reducible show wpAny _ _ (binaryOp _ (Value.str (S _) _) (Value.str (S _) _)) _ _ _); refine sS_add (by (try simp only [List.length_drop, List.length_take, List.length_cons, List.length_nil, List.length_append, List.length_replicate]); omega) (by (try simp only [List.length_drop, List.length_take, List.length_cons, List.length_nil, List.length_append, List.length_replicate]); omega) ?_; intro _ _)
  trivial
theorem bits_step {n : Int} (h : 1 < n) (h1 : n ≤ 127) : bits 7 n = n % 2 :: bits 7 (n / 2) := by
  obtain ⟨k, rfl⟩ := Int.eq_ofNat_of_zero_le (show 0 ≤ n by omega)
  have h : ∀ k ∈ List.range 128, (1 : Int) < (k : Nat) → bits 7 (k : Int) = (k : Int) % 2 :: bits 7 ((k : Int) / 2) := by decide +kernel
  exact h k (List.mem_range.mpr (by omega)) (by omega)
theorem bits_one {n : Int} (h : n ≤ 1) : bits 7 n = [] := by unfold bits; rw [if_pos h]
theorem told_len1 (k : Nat) : ((told k).length : Int) = (k : Int) / 2 + (if k % 2 = 0 then 1 else 0) := by
  unfold told
  rw [List.length_append, List.length_replicate]
  split <;> simp
structure WRead (n m : Int) (st : List Int) : Prop where
  eq : st ++ bits 7 m = bits 7 n
noncomputable abbrev PRead (n m : Int) (st : List Int) : Prop := 1 ≤ m ∧ m ≤ 127 ∧ (st.length : Int) + m ≤ 130 ∧ WRead n m st
theorem read_start {n : Int} (h0 : 1 ≤ n) (h1 : n ≤ 127) : PRead n n [] := ⟨h0, h1, by simp; omega, ⟨rfl⟩⟩
theorem read_turn {n m : Int} {st : List Int} (W : WRead n m st) (lo : 1 < m) (hi : m ≤ 127) (len : (st.length : Int) + m ≤ 130) {b : Int} (hb : ((told m.toNat).drop ((told m.toNat).length - 1) == [120]) = decide (b = 0)) (hb2 : b = 0 ∨ b = 1) : PRead n ((told m.toNat).length - 1 + b) (st ++ [b]) := by
  obtain ⟨eq⟩ := W
  rw [told_last] at hb
  have h2 : (m.toNat % 2 = 0) = (b = 0) := by
    have := decide_eq_decide.mp hb
    exact propext this
  have e := told_len1 m.toNat
  have hm : b = m % 2 := by
    rcases hb2 with rfl | rfl
    · have := h2.mpr rfl; omega
    · have : ¬ m.toNat % 2 = 0 := fun q => by have := h2.mp q; omega
      omega
  have e2 : ((told m.toNat).length : Int) - 1 + b = m / 2 := by
    rw [e]
    split <;> omega
  rw [e2]
  refine ⟨by omega, by omega, by simp; omega, ⟨?_⟩⟩
  rw [List.append_assoc, ← eq, bits_step lo hi, hm]; rfl
theorem read_turn0 {n m : Int} {st : List Int} (W : WRead n m st) (lo : 1 < m) (hi : m ≤ 127) (len : (st.length : Int) + m ≤ 130) (hb : ((told m.toNat).drop ((told m.toNat).length - 1) == [120]) = true) : PRead n ((told m.toNat).length - 1 + 0) (st ++ [0]) := read_turn W lo hi len (by rw [hb]; rfl) (.inl rfl)
theorem read_turn1 {n m : Int} {st : List Int} (W : WRead n m st) (lo : 1 < m) (hi : m ≤ 127) (len : (st.length : Int) + m ≤ 130) (hb : ((told m.toNat).drop ((told m.toNat).length - 1) == [120]) = false) : PRead n ((told m.toNat).length - 1 + 1) (st ++ [1]) := read_turn W lo hi len (by rw [hb]; rfl) (.inr rfl)
theorem read_done {n m : Int} {st : List Int} (W : WRead n m st) (h : ¬ 1 < m) : st = bits 7 n := by
  rw [← W.eq, bits_one (by omega), List.append_nil]
theorem read_less0 {m : Int} (lo : 1 < m) : (((told m.toNat).length : Int) - 1 + 0).toNat < m.toNat := by
  have e := told_len1 m.toNat
  rw [e]; split <;> omega
theorem read_less1 {m : Int} (lo : 1 < m) (hb : ((told m.toNat).drop ((told m.toNat).length - 1) == [120]) = false) : (((told m.toNat).length : Int) - 1 + 1).toNat < m.toNat := by
  have e := told_len1 m.toNat
  rw [told_last] at hb
  have h2 := of_decide_eq_false hb
  rw [e, if_neg h2]; omega
theorem said12 : True := by
  k_with "eval Constant str" => (first | refine sS_lit lit_257 ?_ | refine sS_lit lit_q ?_ | refine sS_lit lit_x ?_ | refine sS_lit lit_e ?_ | refine sS_lit lit_qy ?_ | refine sS_lit lit_qyq ?_ | refine sS_lit lit_z ?_ | refine sS_lit lit_y ?_ | refine sS_lit lit_abcd ?_ | refine sS_lit lit_ABCD ?_ | refine sS_lit lit_0123 ?_)
  k_with "binaryOp Mult str int" => ((with_reducible show wpAny _ _ (binaryOp _ (Value.str (S [_]) _) (Value.int _ _)) _ _ _); (refine sS_mul (by omega) (by omega) ?_); intro _ _)
  k_with "call builtin:str.count" => ((with_reducible show wpAny _ _ (call _ [Value.str (S _) _, Value.str (S [_]) _]) _ _ _); refine sS_count ?_)
  k_with "subscriptTail Name Slice str ref" => ((with_reducible show wpAny _ _ (subscriptTail _ (Expr.Slice (some _) none none _) (Value.str (S _) _) _) _ _ _); (with_reducible rename Fr _ _ _ _ => F'); (with_reducible rename News _ _ _ _ => N'); (refine sS_last (s := ⟨_, _, _, _, _⟩) F' N' (by first | exact Nat.le_trans (told_len _) (by omega) | ((try simp only [List.length_drop, List.length_take, List.length_cons, List.length_nil, List.length_append, List.length_replicate]); omega)) ?_); intro _ _ _ _ _)
  k_with "call ref" => (k_here; (with_reducible show wpAny _ _ (call (Value.ref 60) [Value.str (S _) _]) _ _ _); k_dflt (refine' told_use (parse_told2 _ _ _ _ _ _ _ ?kxz48 ?kyz48 ?kzz48) ?k1z48 ?k2z48 ?k3z48 ?k4z48 ?k5z48 ?kKz48 ?kpz48 ?kdz48 ?kuz48 ?_; (case kxz48 => omega); (case kyz48 => assumption); (case kzz48 => omega); (case k1z48 => k_asm); (case k2z48 => k_asm); (case k3z48 => k_asm); (case k4z48 => k_asm); (case k5z48 => k_asm); (case kKz48 => first | exact rfl | assumption); (case kpz48 => trivial); (case kdz48 => ktr_room); (case kuz48 => ktr_units)); intro t' h' tk' F' N'; (try dsimp only))
  k_with "call builtin:len" => ((with_reducible show wpAny _ _ (call _ [Value.str (S (told _)) _]) _ _ _); refine sS_len (Nat.le_trans (told_len _) (by omega)) ?_)
  trivial
set_option maxRecDepth 100000 in
set_option maxHeartbeats 12000000 in
theorem lread_told (w : World) (mean : ExcName → Option Value) (mg mb : Str → Option Value) (n : Int) (e : List Nat) (t1 t2 : Tok) (h0 : 1 ≤ n) (h1 : n ≤ 127) (he : parseL e = []) (hl : e.length ≤ 10) :
    Told w mean mg mb 81 [.int n t1, .str (S e) t2] 2 2 (fun _ => True) (RetL (bits 7 n)) := by
  unfold Told
  k_fill
  intro dp un gd cn cs a ccd cl outer A₀ base h₀ L m news s Q E B F X N T hk hR hd hu hret
  k_with "exec While Compare cons nil" => k_while (fun _ m st => 1 ≤ m ∧ m ≤ 127 ∧ (st.length : Int) + m ≤ 130 ∧ WRead n m st) (fun _ m _ => m.toNat) "number" "steps"
  k_with "state" => (first | exact read_start (by with_reducible assumption) (by with_reducible assumption) | exact read_turn0 (by with_reducible assumption) (by with_reducible assumption) (by with_reducible assumption) (by with_reducible assumption) (by with_reducible assumption) | exact read_turn1 (by with_reducible assumption) (by with_reducible assumption) (by with_reducible assumption) (by with_reducible assumption) (by with_reducible assumption))
  k_with "measure" => (first | exact read_less0 (by with_reducible assumption) | exact read_less1 (by with_reducible assumption) (by with_reducible assumption))
  have hnil9 : IntsAre [] [] := .nil
  refine wpAny_call ?_
  k_dflt ktr_enter
  k_steps
  all_goals first
    | (rename IntsAre _ _ => hI9; rename WRead _ _ _ => hW9; rename (∀ p ∈ news, p.1 < _) => lt9; exact hret _ _ _ _ _ ((read_done hW9 (by with_reducible assumption)) ▸ hI9) (by assumption) (by assumption) (fun p hp => Nat.ne_of_lt (lt9 p hp)))
end
theorem said13 : True := by
  k_with_none
  trivial
section
/-- three floats, in a tuple (true) or a list -/
noncomputable def o3 : Bool → T3 → Tok → Tok → Tok → Nat → Obj
  | true, x, n1, n2, n3, _ => t3O x n1 n2 n3
  | false, x, n1, n2, n3, z => listOf [Value.float x.1 n1, .float x.2.1 n2, .float x.2.2 n3].toArray z
noncomputable def get3 (x : T3) : Nat → UInt64
  | 0 => x.1
  | 1 => x.2.1
  | _ => x.2.2
noncomputable def tok3 (a b c : Tok) : Nat → Tok
  | 0 => a
  | 1 => b
  | _ => c
noncomputable def pour (a b : T3) : T3 := (Float64.add a.1 b.1, Float64.add a.2.1 b.2.1, Float64.add a.2.2 b.2.2)
noncomputable def walkS : List Int → T3 → T3 → T3 × T3
  | [], a, b => (a, b)
  | n :: r, a, b => if n = 0 then walkS r a (pour a b) else walkS r (pour a b) b
theorem walkS_snoc : ∀ (l : List Int) (n : Int) (a b : T3), walkS (l ++ [n]) a b = if n = 0 then ((walkS l a b).1, pour (walkS l a b).1 (walkS l a b).2) else (pour (walkS l a b).1 (walkS l a b).2, (walkS l a b).2)
  | [], n, a, b => by
    show (if n = 0 then walkS [] a (pour a b) else walkS [] (pour a b) b) = if n = 0 then (a, pour a b) else (pour a b, b)
    split <;> rfl
  | k :: l, n, a, b => by
    show (if k = 0 then walkS (l ++ [n]) a (pour a b) else walkS (l ++ [n]) (pour a b) b) = if n = 0 then ((if k = 0 then walkS l a (pour a b) else walkS l (pour a b) b).1, pour (if k = 0 then walkS l a (pour a b) else walkS l (pour a b) b).1 (if k = 0 then walkS l a (pour a b) else walkS l (pour a b) b).2) else (pour (if k = 0 then walkS l a (pour a b) else walkS l (pour a b) b).1 (if k = 0 then walkS l a (pour a b) else walkS l (pour a b) b).2, (if k = 0 then walkS l a (pour a b) else walkS l (pour a b) b).2)
    by_cases h : k = 0
    · rw [if_pos h, if_pos h]; exact walkS_snoc l n a _
    · rw [if_neg h, if_neg h]; exact walkS_snoc l n _ b
section
variable {prog : Program} {w : World} {A : Around} {E : Value → Shared → Prop} {s : Shared} {h₀ : Heap} {L D : Addr} {m : Str → Option Value} {news all : List (Addr × Obj)} {t u : Tok} {Q : Value → Shared → Prop} {value slice : Expr}
theorem at_o3 {b : Bool} {x : T3} {n1 n2 n3 : Tok} {z : Nat} {i : Int} {k : Nat} (N : News h₀ L s.heap all) (hm : (D, o3 b x n1 n2 n3 z) ∈ all) (hi : i = k) (hk : k < 3) (h : Q (.float (get3 x k) (tok3 n1 n2 n3 k)) s)
    (hs : subscripted slice false (.ref D) (.int i u) = operate [.ref D, .int i u] (getItem (.ref D) (.int i u)) := by with_unfolding_all rfl) : wpAny (model prog w) A (subscriptTail value slice (.ref D) (.int i u)) Q E s := by
  subst hi
  have e : [Value.float x.1 n1, .float x.2.1 n2, .float x.2.2 n3][k]? = some (.float (get3 x k) (tok3 n1 n2 n3 k)) := by
    match k, hk with
    | 0, _ => rfl
    | 1, _ => rfl
    | 2, _ => rfl
  cases b with
  | true =>
    have ht : IsTup s.heap D [Value.float x.1 n1, .float x.2.1 n2, .float x.2.2 n3].toArray := ⟨_, (N _ hm).1, rfl, 0, rfl⟩
    exact item_tupleT (k := (k : Int)) (j := k) ht (by omega) (by omega) (by match k, hk with | 0, _ => rfl | 1, _ => rfl | 2, _ => rfl) e h hs
  | false =>
    have hl : s.heap.IsList D [Value.float x.1 n1, .float x.2.1 n2, .float x.2.2 n3].toArray := ⟨_, (N _ hm).1, rfl, z, rfl⟩
    exact tail_any hl.typeIs slot_list_getitem.lookup (wpAny_getItem_list hl (by omega) (by omega) (x := .float (get3 x k) (tok3 n1 n2 n3 k)) (by simpa using e) h) hs
end
noncomputable abbrev walkM (u m₀ : Str → Option Value) : Str → Option Value := fun y => if ([Str.ofString "step", Str.ofString "poured"]).contains y = true then u y else m₀ y
structure Apart (I cL cR qa qb : Addr) : Prop where
  aI : @Ne Nat qa I
  bI : @Ne Nat qb I
  aL : @Ne Nat qa cL
  aR : @Ne Nat qa cR
  bL : @Ne Nat qb cL
  bR : @Ne Nat qb cR
noncomputable def WalkI (I cL cR : Addr) (m₀ : Str → Option Value) (own : Led) (a b : T3) (pre : List Int) (m : Str → Option Value) (nx : Led) : Prop :=
  ∃ (u : Str → Option Value) (oL oR : Obj) (qa qb : Addr) (ka kb : Bool) (n1 n2 n3 n4 n5 n6 : Tok) (z y : Nat), m = walkM u m₀ ∧ nx = (cL, oL) :: (cR, oR) :: (qa, o3 ka (walkS pre a b).1 n1 n2 n3 z) :: (qb, o3 kb (walkS pre a b).2 n4 n5 n6 y) :: own ∧ oL.data = .cell (some (.ref qa)) ∧ oR.data = .cell (some (.ref qb)) ∧ Apart I cL cR qa qb
theorem walkM_self (m : Str → Option Value) : m = walkM m m := by
  funext y
  show m y = if _ then _ else _
  split <;> rfl
section
variable {prog : Program} {w : World} {A : Around} {E : Value → Shared → Prop} {s : Shared} {env : Env} {h₀ : Heap} {x : Str} {body : List Stmt} {Q : Flow → Shared → Prop}
theorem walk_loop {r cL cR : Addr} {oL oR : Obj} {m₀ : Str → Option Value} {own : Led} {qa qb : Addr} {a b : T3} {ka kb : Bool} {n1 n2 n3 n4 n5 n6 : Tok} {z y c : Nat} {ns : List Int} {vs : List Value}
    (hh : A.handled = none) (hI : IntsAre vs ns) (F : Fr h₀ env.locals s.heap m₀) (N : News h₀ env.locals s.heap ((cR, oR) :: (cL, oL) :: own)) (hl : (r, listOf vs.toArray c) ∈ own)
    (hqa : (qa, o3 ka a n1 n2 n3 z) ∈ own) (hqb : (qb, o3 kb b n4 n5 n6 y) ∈ own) (hm : oL.data = .cell (some (.ref qa))) (hm2 : oR.data = .cell (some (.ref qb)))
    (haL : @Ne Nat qa cL) (haR : @Ne Nat qa cR) (hbL : @Ne Nat qb cL) (hbR : @Ne Nat qb cR)
    (turn : ∀ (I : Addr) (pre : List Int) (n : Int) (u : Str → Option Value) (oL oR : Obj) (qa qb : Addr) (ka kb : Bool) (a' b' : T3) (n1 n2 n3 n4 n5 n6 t : Tok) (z y : Nat) (it : Obj) (h : Heap) (tk : Nat), (∀ p ∈ own, @LT.lt Nat _ p.1 I) → @LT.lt Nat _ cL I → @LT.lt Nat _ cR I → @Ne Nat qa I → @Ne Nat qb I → @Ne Nat qa cL → @Ne Nat qa cR → @Ne Nat qb cL → @Ne Nat qb cR → oL.data = .cell (some (.ref qa)) → oR.data = .cell (some (.ref qb)) → a' = (walkS pre a b).1 → b' = (walkS pre a b).2 →
      Fr h₀ env.locals h (fun y => if y = x then some (.int n t) else walkM u m₀ y) → News h₀ env.locals h ((I, it) :: (cL, oL) :: (cR, oR) :: (qa, o3 ka a' n1 n2 n3 z) :: (qb, o3 kb b' n4 n5 n6 y) :: own) →
      wpAny (model prog w) A (execs body env) (UnrPost h₀ env.locals { s with heap := h, toks := tk } I it (fun m' n' => (r, listOf vs.toArray c) ∈ n' ∧ WalkI I cL cR m₀ own a b (pre ++ [n]) m' n') Q) E { s with heap := h, toks := tk })
    (done : ∀ (u : Str → Option Value) (oL oR : Obj) (qa qb : Addr) (ka kb : Bool) (n1 n2 n3 n4 n5 n6 : Tok) (z y : Nat) (h : Heap) (tk : Nat), oL.data = .cell (some (.ref qa)) → oR.data = .cell (some (.ref qb)) → Fr h₀ env.locals h (walkM u m₀) → News h₀ env.locals h ((cL, oL) :: (cR, oR) :: (qa, o3 ka (walkS ns a b).1 n1 n2 n3 z) :: (qb, o3 kb (walkS ns a b).2 n4 n5 n6 y) :: own) → Q .next { s with heap := h, toks := tk }) :
    wpAny (model prog w) A (pyIter (.ref r)) (fun it s₂ => LoopAtV prog w A h₀ env x body Q E it s₂) E s := by
  have N₁ : News h₀ env.locals s.heap ((cL, oL) :: (cR, oR) :: (qa, o3 ka a n1 n2 n3 z) :: (qb, o3 kb b n4 n5 n6 y) :: own) := fun p hp => by
    rcases List.mem_cons.mp hp with rfl | hp
    · exact N _ (.tail _ (.head _))
    · rcases List.mem_cons.mp hp with rfl | hp
      · exact N _ (.head _)
      · rcases List.mem_cons.mp hp with rfl | hp
        · exact N _ (.tail _ (.tail _ hqa))
        · rcases List.mem_cons.mp hp with rfl | hp
          · exact N _ (.tail _ (.tail _ hqb))
          · exact N _ (.tail _ (.tail _ hp))
  refine iter_listUnr (lo := listOf vs.toArray c) (vs := vs) (n := c) hh F N₁ (.tail _ (.tail _ (.tail _ (.tail _ hl)))) rfl rfl fun I lt => ?_
  refine lr_inv (WalkI I cL cR m₀ own a b) ?_ ?_ vs ns [] m₀ _ hI rfl ⟨m₀, oL, oR, qa, qb, ka, kb, n1, n2, n3, n4, n5, n6, z, y, walkM_self _, rfl, hm, hm2, ⟨Nat.ne_of_lt (lt _ (.tail _ (.tail _ (.head _)))), Nat.ne_of_lt (lt _ (.tail _ (.tail _ (.tail _ (.head _))))), haL, haR, hbL, hbR⟩⟩
  · rintro pre n t m news it h tk ⟨u, oL, oR, qa, qb, ka, kb, n1, n2, n3, n4, n5, n6, z, y, rfl, rfl, d1, d2, ap⟩ hc F N
    exact turn I pre n u oL oR qa qb ka kb _ _ n1 n2 n3 n4 n5 n6 t z y it h tk (fun p hp => lt p (.tail _ (.tail _ (.tail _ (.tail _ hp))))) (lt _ (.head _)) (lt _ (.tail _ (.head _))) ap.aI ap.bI ap.aL ap.aR ap.bL ap.bR d1 d2 rfl rfl F N
  · rintro m news h tk ⟨u, oL, oR, qa, qb, ka, kb, n1, n2, n3, n4, n5, n6, z, y, rfl, rfl, d1, d2, ap⟩ F N
    exact done u oL oR qa qb ka kb n1 n2 n3 n4 n5 n6 z y h tk d1 d2 F N
theorem walk_end {L I cL cR : Addr} {m₀ m' : Str → Option Value} {own all : Led} {a b a' b' : T3} {pre : List Int} {n : Int} {it oL oR : Obj} {s₁ : Shared} {h' : Heap} {tk : Nat} {lp : Addr × Obj} {qa qb : Addr} {oa ob : Obj} (ka kb : Bool) (n1 n2 n3 n4 n5 n6 : Tok) (z y : Nat)
    (F : Fr h₀ L h' m') (N : News h₀ L h' all) (hd1 : oL.data = .cell (some (.ref qa))) (hd2 : oR.data = .cell (some (.ref qb))) (hcL : (cL, oL) ∈ all) (hcR : (cR, oR) ∈ all) (hqa : (qa, oa) ∈ all) (hqb : (qb, ob) ∈ all) (hI : (I, it) ∈ all) (hown : ∀ p ∈ own, p ∈ all) (hlp : lp ∈ own) (offI : ∀ p ∈ own, @Ne Nat p.1 I) (hcLI : @Ne Nat cL I) (hcRI : @Ne Nat cR I) (ap : Apart I cL cR qa qb)
    (hm3 : ∀ y, y ≠ Str.ofString "step" → y ≠ Str.ofString "poured" → m' y = m₀ y)
    (ha : a' = (walkS pre a b).1) (hb : b' = (walkS pre a b).2)
    (hoa : oa = o3 ka (if n = 0 then a' else pour a' b') n1 n2 n3 z) (hob : ob = o3 kb (if n = 0 then pour a' b' else b') n4 n5 n6 y) :
    UnrEnd h₀ L s₁ I it (fun m' n' => lp ∈ n' ∧ WalkI I cL cR m₀ own a b (pre ++ [n]) m' n') { s₁ with heap := h', toks := tk } := by
  subst ha hb hoa hob
  have e1 : (walkS (pre ++ [n]) a b).1 = if n = 0 then (walkS pre a b).1 else pour (walkS pre a b).1 (walkS pre a b).2 := by rw [walkS_snoc]; split <;> rfl
  have e2 : (walkS (pre ++ [n]) a b).2 = if n = 0 then pour (walkS pre a b).1 (walkS pre a b).2 else (walkS pre a b).2 := by rw [walkS_snoc]; split <;> rfl
  rw [← e1] at hqa
  rw [← e2] at hqb
  refine UnrEnd.intro F N ((cL, oL) :: (cR, oR) :: (qa, o3 ka (walkS (pre ++ [n]) a b).1 n1 n2 n3 z) :: (qb, o3 kb (walkS (pre ++ [n]) a b).2 n4 n5 n6 y) :: own) ?_ ?_ ⟨.tail _ (.tail _ (.tail _ (.tail _ hlp))), m', oL, oR, qa, qb, ka, kb, n1, n2, n3, n4, n5, n6, z, y, ?_, rfl, hd1, hd2, ap⟩
  · exact List.forall_mem_cons.mpr ⟨hI, List.forall_mem_cons.mpr ⟨hcL, List.forall_mem_cons.mpr ⟨hcR, List.forall_mem_cons.mpr ⟨hqa, List.forall_mem_cons.mpr ⟨hqb, hown⟩⟩⟩⟩⟩
  · exact List.forall_mem_cons.mpr ⟨hcLI, List.forall_mem_cons.mpr ⟨hcRI, List.forall_mem_cons.mpr ⟨ap.aI, List.forall_mem_cons.mpr ⟨ap.bI, offI⟩⟩⟩⟩
  · funext y
    show m' y = if _ then _ else _
    split
    · rfl
    · rename_i e2
      simp only [List.contains_cons, List.contains_nil, Bool.or_false, Bool.or_eq_true, beq_iff_eq, not_or] at e2
      exact hm3 y e2.1 e2.2
theorem walk_end0 {L I cL cR : Addr} {m₀ m' : Str → Option Value} {own all : Led} {a b a' b' : T3} {pre : List Int} {n : Int} {it oL oR : Obj} {s₁ : Shared} {h' : Heap} {tk : Nat} {lp : Addr × Obj} {qa qb : Addr} {ka : Bool} {n1 n2 n3 t1 t2 t3 : Tok} {z : Nat}
    (hn : n = 0) (F : Fr h₀ L h' m') (N : News h₀ L h' all) (hcL : (cL, oL) ∈ all) (hcR : (cR, oR) ∈ all) (hd1 : oL.data = .cell (some (.ref qa))) (hd2 : oR.data = .cell (some (.ref qb))) (hqa : (qa, o3 ka a' n1 n2 n3 z) ∈ all) (hqb : (qb, LCg.lst [.float (Float64.add (get3 a' 0) (get3 b' 0)) t1, .float (Float64.add (get3 a' 1) (get3 b' 1)) t2, .float (Float64.add (get3 a' 2) (get3 b' 2)) t3]) ∈ all) (hI : (I, it) ∈ all) (hown : ∀ p ∈ own, p ∈ all) (hlp : lp ∈ own) (offI : ∀ p ∈ own, @Ne Nat p.1 I) (hcLI : @Ne Nat cL I) (hcRI : @Ne Nat cR I) (ap : Apart I cL cR qa qb)
    (hm3 : ∀ y, y ≠ Str.ofString "step" → y ≠ Str.ofString "poured" → m' y = m₀ y)
    (ha : a' = (walkS pre a b).1) (hb : b' = (walkS pre a b).2) :
    UnrEnd h₀ L s₁ I it (fun m' n' => lp ∈ n' ∧ WalkI I cL cR m₀ own a b (pre ++ [n]) m' n') { s₁ with heap := h', toks := tk } :=
  walk_end ka false n1 n2 n3 t1 t2 t3 z 3 F N hd1 hd2 hcL hcR hqa hqb hI hown hlp offI hcLI hcRI ap hm3 ha hb (by rw [if_pos hn]) (by rw [if_pos hn]; rfl)
theorem walk_end1 {L I cL cR : Addr} {m₀ m' : Str → Option Value} {own all : Led} {a b a' b' : T3} {pre : List Int} {n : Int} {it oL oR : Obj} {s₁ : Shared} {h' : Heap} {tk : Nat} {lp : Addr × Obj} {qa qb : Addr} {ka : Bool} {n1 n2 n3 t1 t2 t3 : Tok} {z : Nat}
    (hn : ¬ n = 0) (F : Fr h₀ L h' m') (N : News h₀ L h' all) (hcL : (cL, oL) ∈ all) (hcR : (cR, oR) ∈ all) (hd1 : oL.data = .cell (some (.ref qa))) (hd2 : oR.data = .cell (some (.ref qb))) (hqa : (qa, LCg.lst [.float (Float64.add (get3 a' 0) (get3 b' 0)) t1, .float (Float64.add (get3 a' 1) (get3 b' 1)) t2, .float (Float64.add (get3 a' 2) (get3 b' 2)) t3]) ∈ all) (hqb : (qb, o3 ka b' n1 n2 n3 z) ∈ all) (hI : (I, it) ∈ all) (hown : ∀ p ∈ own, p ∈ all) (hlp : lp ∈ own) (offI : ∀ p ∈ own, @Ne Nat p.1 I) (hcLI : @Ne Nat cL I) (hcRI : @Ne Nat cR I) (ap : Apart I cL cR qa qb)
    (hm3 : ∀ y, y ≠ Str.ofString "step" → y ≠ Str.ofString "poured" → m' y = m₀ y)
    (ha : a' = (walkS pre a b).1) (hb : b' = (walkS pre a b).2) :
    UnrEnd h₀ L s₁ I it (fun m' n' => lp ∈ n' ∧ WalkI I cL cR m₀ own a b (pre ++ [n]) m' n') { s₁ with heap := h', toks := tk } :=
  walk_end false ka t1 t2 t3 n1 n2 n3 3 z F N hd1 hd2 hcL hcR hqa hqb hI hown hlp offI hcLI hcRI ap hm3 ha hb (by rw [if_neg hn]; rfl) (by rw [if_neg hn])
end
noncomputable abbrev RetWalk (x y : T3) : RetK := fun h₀ L m news s Q => ∀ (q qa qb : Addr) (ka kb : Bool) (n1 n2 n3 n4 n5 n6 : Tok) (z y' : Nat) (h' : Heap) (tk' : Nat), Fr h₀ L h' m → News h₀ L h' ((q, tupO [.ref qa, .ref qb]) :: (qa, o3 ka x n1 n2 n3 z) :: (qb, o3 kb y n4 n5 n6 y') :: news) → (∀ p ∈ news, @Ne Nat p.1 q) → Q (.ref q) { s with heap := h', toks := tk' }
theorem said14 : True := by
  k_with "M pyIter ref" => (k_here; (with_reducible show wpAny _ _ (pyIter (Value.ref _)) (fun it s₂ => LoopAtV _ _ _ _ _ _ _ _ _ it s₂) _ _); (rename IntsAre _ _ => I9); (rename Fr _ _ _ _ => lF'); (rename News _ _ _ _ => lN'); k_dflt (refine' walk_loop rfl I9 lF' lN' ?wlz50 ?waz50 ?wbz50 ?wd1z50 ?wd2z50 ?we1z50 ?we2z50 ?we3z50 ?we4z50 ?wturnz50 ?wdonez50; (case wd1z50 => assumption); (case wd2z50 => assumption); (case wlz50 => k_mem); (case waz50 => k_mem); (case wbz50 => k_mem); (case we1z50 => k_ne); (case we2z50 => k_ne); (case we3z50 => k_ne); (case we4z50 => k_ne); (case' wturnz50 => (clear lF' lN'; intro I' pre' n' u9' oL' oR' qa' qb' ka' kb' a' b' n1' n2' n3' n4' n5' n6' t' z' y' it' h' tk' hlI' hcL' hcR' hqaI' hqbI' haL' haR' hbL' hbR' dL' dR' ha9' hb9' F' N'; (try k_lt hlI'); (try dsimp only [walkM] at F'))); (case' wdonez50 => (clear lF' lN'; intro u9' oL' oR' qa' qb' ka' kb' n1' n2' n3' n4' n5' n6' z' y' h' tk' dL' dR' F' N'; (try dsimp only [walkM] at F')))))
  k_with "subscriptTail" => ((with_reducible show wpAny _ _ (subscriptTail (Expr.Name _ _) _ (Value.ref _) (Value.int _ _)) _ _ _); (rename News _ _ _ _ => N'); k_dflt (refine at_o3 N' (by k_mem) (k := 0) (by rfl) (by decide) ?_))
  k_with "subscriptTail" => ((with_reducible show wpAny _ _ (subscriptTail (Expr.Name _ _) _ (Value.ref _) (Value.int _ _)) _ _ _); (rename News _ _ _ _ => N'); k_dflt (refine at_o3 N' (by k_mem) (k := 1) (by rfl) (by decide) ?_))
  k_with "subscriptTail" => ((with_reducible show wpAny _ _ (subscriptTail (Expr.Name _ _) _ (Value.ref _) (Value.int _ _)) _ _ _); (rename News _ _ _ _ => N'); k_dflt (refine at_o3 N' (by k_mem) (k := 2) (by rfl) (by decide) ?_))
  k_with "CompSrc" => (k_here; k_dflt (refine LCg.CompSrc.range (by rfl) (by k_asm) (by k_asm) (by assumption) (by first | decide | rfl) (by first | rfl | decide) (by exact Nat.le_of_ble_eq_true rfl) ?_); intro g9; lcg_lit)
  k_with "CompRest" => (with_unfolding_all (refine LCg.CompRest.succ ?_; intro v' I' oI' C' oC' D' m' h' tk' E' hv' hC' hx' F' N' off' ne'; (first | lcg_open hv' | (obtain ⟨t9', hv9'⟩ := hv'; subst hv9'))))
  k_with "CompEnd" => ((with_reducible show LCg.CompEnd _ _ _ _ _ _ _ _ _ _ _ _ _ _); (rename LCg.Off3 _ _ _ _ => off9); k_dflt (refine comp_same (by with_reducible assumption) (by with_reducible assumption) off9 trivial ?_); clear off9)
  k_with "UnrEnd" => ((with_reducible show UnrEnd _ _ _ _ _ (fun _ _ => _ ∧ WalkI _ _ _ _ _ _ _ _ _ _) _); (rename Fr _ _ _ _ => F9); (rename News _ _ _ _ => N9); (rename (_ = (0 : Int)) => hn9); k_dflt (refine walk_end0 hn9 F9 N9 (by k_mem) (by k_mem) (by assumption) (by assumption) (by k_mem) (by k_mem) (by k_mem) (fun p hp => .tail _ (.tail _ (.tail _ (.tail _ (.tail _ (.tail _ hp)))))) (by k_mem) (by k_all) (by k_ne) (by k_ne) ⟨by k_ne, by k_ne, by k_ne, by k_ne, by k_ne, by k_ne⟩ (by intro z9 z1 z2; simp [z1, z2]) (by with_reducible assumption) (by with_reducible assumption)))
  k_with "UnrEnd" => ((with_reducible show UnrEnd _ _ _ _ _ (fun _ _ => _ ∧ WalkI _ _ _ _ _ _ _ _ _ _) _); (rename Fr _ _ _ _ => F9); (rename News _ _ _ _ => N9); (rename (¬ _ = (0 : Int)) => hn9); k_dflt (refine walk_end1 hn9 F9 N9 (by k_mem) (by k_mem) (by assumption) (by assumption) (by k_mem) (by k_mem) (by k_mem) (fun p hp => .tail _ (.tail _ (.tail _ (.tail _ (.tail _ (.tail _ hp)))))) (by k_mem) (by k_all) (by k_ne) (by k_ne) ⟨by k_ne, by k_ne, by k_ne, by k_ne, by k_ne, by k_ne⟩ (by intro z9 z1 z2; simp [z1, z2]) (by with_reducible assumption) (by with_reducible assumption)))
  trivial
theorem retWalk {x y : T3} {h₀ h' g : Heap} {L L' q qa qb : Addr} {m m' : Str → Option Value} {new news sub : Led} {s : Shared} {Q : Value → Shared → Prop} {ka kb : Bool} {n1 n2 n3 n4 n5 n6 : Tok} {z y' tk : Nat}
    (hret : RetWalk x y h₀ L m news s Q) (F : Fr h₀ L h' m) (N₀ : News h₀ L h' new) (hq : (q, tupO [.ref qa, .ref qb]) ∈ new) (hqa : (qa, o3 ka x n1 n2 n3 z) ∈ new) (hqb : (qb, o3 kb y n4 n5 n6 y') ∈ new) (N : News h₀ L s.heap news) (O : Others g news sub) (F' : Fr g L' h' m') (N' : News g L' h' new) (hs : ∀ p ∈ sub, p ∈ new) (hne : ∀ p ∈ sub, @Ne Nat p.1 q) : Q (.ref q) { s with heap := h', toks := tk } := by
  have NB := others_back N O F' N₀ hs
  refine hret q qa qb ka kb n1 n2 n3 n4 n5 n6 z y' h' tk F ?_ (others_ne O N' hq hne)
  exact List.forall_mem_cons.mpr ⟨NB _ (List.mem_append_left _ hq), List.forall_mem_cons.mpr ⟨NB _ (List.mem_append_left _ hqa), List.forall_mem_cons.mpr ⟨NB _ (List.mem_append_left _ hqb), fun p hp => NB _ (List.mem_append_right _ hp)⟩⟩⟩
set_option maxRecDepth 100000 in
set_option maxHeartbeats 12000000 in
theorem walk_told (w : World) (mean : ExcName → Option Value) (mg mb : Str → Option Value) (l pa pb : Addr) (ns : List Int) (vs : List Value) (c : Nat) (a b : T3) (ka kb : Bool) (n1 n2 n3 n4 n5 n6 : Tok) (z y : Nat) (hI : IntsAre vs ns) :
    Told w mean mg mb 86 [.ref l, .ref pa, .ref pb] 3 3 (fun news => (l, listOf vs.toArray c) ∈ news ∧ (pa, o3 ka a n1 n2 n3 z) ∈ news ∧ (pb, o3 kb b n4 n5 n6 y) ∈ news) (RetWalk (walkS ns a b).1 (walkS ns a b).2) := by
  unfold Told
  k_fill
  intro dp un gd cn cs a' ccd cl outer A₀ base h₀ L m news s Q E B F X N T hk ⟨hR1, hR2, hR3⟩ hd hu hret
  refine wpAny_call ?_
  k_dflt (refine' code_subC (sub := [(l, listOf vs.toArray c), (pa, o3 ka a n1 n2 n3 z), (pb, o3 kb b n4 n5 n6 y)]) ?k1 ?k2 ?k3 ?k4 ?ks ?k5 ?kA ?kF ?kK ?k6 ?k7 ?k8 ?k9 ?kB ?kD ?_ ?c2 ?c3 ?c4; (case kA => exact rfl); (case kF => exact rfl); (case kK => assumption); (case k1 => k_asm); (case k2 => k_asm); (case k3 => k_asm); (case k4 => k_asm); (case ks => exact List.forall_mem_cons.mpr ⟨hR1, List.forall_mem_cons.mpr ⟨hR2, List.forall_mem_cons.mpr ⟨hR3, List.forall_mem_nil _⟩⟩⟩); (case k5 => k_asm); (case k6 => k_is); (case k7 => k_is); (case k8 => ktr_room); (case k9 => exact BindsTo.of_eq rfl); (case kB => exact rfl); (case kD => decide +kernel); (case c2 => exact rfl); (case c3 => exact rfl); (case c4 => exact rfl); k_whole)
  intro g' L' h' tk' cells' FG' F' N' Y' B' X' T' hOth l1
  k_lt l1
  k_cells Y'
  try simp only [List.cons_append, List.nil_append] at N'
  dsimp only
  (try k_fold)
  k_steps
  all_goals first
    | exact retWalk hret (by with_reducible assumption) (by with_reducible assumption) (by k_mem) (by k_mem) (by k_mem) N hOth (by with_reducible assumption) (by with_reducible assumption) (fun p hp => .tail _ (.tail _ (.tail _ (.tail _ (.tail _ hp))))) (by k_all)
end
theorem said15 : True := by
  k_with_none
  trivial
section
noncomputable abbrev RetII (a b : Int) : RetK := fun h₀ L m news s Q => ∀ (q : Addr) (n1 n2 : Tok) (h' : Heap) (tk' : Nat), Fr h₀ L h' m → News h₀ L h' ((q, tupO [.int a n1, .int b n2]) :: news) → (∀ p ∈ news, @Ne Nat p.1 q) → Q (.ref q) { s with heap := h', toks := tk' }
noncomputable def sternL : Nat → List Int
  | 0 => [0, 1]
  | i + 1 => sternL i ++ [(sternL i).getD (i + 1) 0] ++ [(sternL i ++ [(sternL i).getD (i + 1) 0]).getD (i + 1) 0 + (sternL i ++ [(sternL i).getD (i + 1) 0]).getD (i + 2) 0]
theorem sternL_len : ∀ i, (sternL i).length = 2 + 2 * i
  | 0 => rfl
  | i + 1 => by simp [sternL, sternL_len i]; omega
structure WStern (i : Nat) (row : List Int) : Prop where
  eq : row = sternL i
noncomputable def stP : Nat → Nat → Nat × Nat
  | 0, _ => (0, 1)
  | f + 1, n => if (n == 0) = true then (0, 1) else if (n % 2 == 0) = true then ((stP f (n / 2)).1, (stP f (n / 2)).1 + (stP f (n / 2)).2) else ((stP f (n / 2)).1 + (stP f (n / 2)).2, (stP f (n / 2)).2)
noncomputable def sternA (n : Int) : Int := ((stP 7 n.toNat).1 : Int)
noncomputable def sternB (n : Int) : Int := ((stP 7 n.toNat).2 : Int)
noncomputable def force (n : Nat) (f : Nat → Bool) : Bool := Nat.rec (f 0) (fun m _ => f (m + 1)) n
theorem force_eq (n : Nat) (f : Nat → Bool) : force n f = f n := by cases n <;> rfl
noncomputable def forceU (x : UInt64) (f : UInt64 → Bool) : Bool := force x.toNat fun n => f (UInt64.ofNat n)
theorem forceU_eq (x : UInt64) (f : UInt64 → Bool) : forceU x f = f x := by unfold forceU; rw [force_eq, UInt64.ofNat_toNat]
theorem stern_all : ((List.range 128).all fun n => ((sternL (n / 2 + 1)).getD n 0 == ((stP 7 n).1 : Int)) && ((sternL (n / 2 + 1)).getD (n + 1) 0 == ((stP 7 n).2 : Int))) = true := by decide +kernel
theorem allLt_to {d : Addr} : ∀ {l : Led}, AllLt d l → ∀ p ∈ l, @Ne Nat p.1 d
  | [], _ => List.forall_mem_nil _
  | _ :: _, h => List.forall_mem_cons.mpr ⟨Nat.ne_of_lt h.1, allLt_to h.2⟩
theorem stern_done {n : Int} {row : List Int} (h0 : 1 ≤ n) (h1 : n ≤ 127) (W : WStern (rangeKs 1 (n.fdiv 2 + 2 - 1).toNat).length row) (hfd : n.fdiv 2 = n / 2) : row.getD n.toNat 0 = sternA n ∧ row.getD (n + 1).toNat 0 = sternB n := by
  obtain ⟨rfl⟩ := W
  obtain ⟨k, rfl⟩ := Int.eq_ofNat_of_zero_le (show 0 ≤ n by omega)
  have h := (Bool.and_eq_true _ _).mp (List.all_eq_true.mp stern_all k (List.mem_range.mpr (by omega)))
  rw [rangeKs_length, hfd, show (((k : Nat) : Int) / 2 + 2 - 1).toNat = k / 2 + 1 by omega]
  exact ⟨eq_of_beq h.1, eq_of_beq h.2⟩
theorem retII {a b c d : Int} {h₀ h' : Heap} {L q : Addr} {m : Str → Option Value} {news : Led} {x : Addr × Obj} {s : Shared} {Q : Value → Shared → Prop} {n1 n2 : Tok} {tk' : Nat} (h : RetII a b h₀ L m news s Q) (e : c = a ∧ d = b) (F : Fr h₀ L h' m)
    (N : News h₀ L h' ((q, tupO [.int c n1, .int d n2]) :: x :: news)) (lt : x.1 < q ∧ AllLt q news) : Q (.ref q) { s with heap := h', toks := tk' } := by
  obtain ⟨rfl, rfl⟩ := e
  refine h q n1 n2 h' tk' F (List.forall_mem_cons.mpr ⟨N _ (.head _), fun p hp => N p (.tail _ (.tail _ hp))⟩) (allLt_to lt.2)
theorem stern_turn {pre row : List Int} {k : Int} (hl : row.length = 2 + 2 * pre.length) (W : WStern pre.length row) (hk : k = 1 + (pre.length : Int)) :
    (row ++ [row.getD k.toNat 0] ++ [(row ++ [row.getD k.toNat 0]).getD k.toNat 0 + (row ++ [row.getD k.toNat 0]).getD (k + 1).toNat 0]).length = 2 + 2 * (pre ++ [k]).length ∧
      WStern (pre ++ [k]).length (row ++ [row.getD k.toNat 0] ++ [(row ++ [row.getD k.toNat 0]).getD k.toNat 0 + (row ++ [row.getD k.toNat 0]).getD (k + 1).toNat 0]) := by
  obtain ⟨rfl⟩ := W
  subst hk
  have e1 : (1 + (pre.length : Int)).toNat = pre.length + 1 := by omega
  have e2 : (1 + (pre.length : Int) + 1).toNat = pre.length + 2 := by omega
  have e3 : (pre ++ [1 + (pre.length : Int)]).length = pre.length + 1 := by simp
  rw [e1, e2, e3]
  exact ⟨by simp [sternL_len]; omega, ⟨rfl⟩⟩
theorem said16 : True := by
  k_with "subscriptTail" => ((with_reducible show wpAny _ _ (subscriptTail (Expr.Name (Str.ofString "row") _) _ (Value.ref _) (Value.int _ _)) _ _ _); (rename WStern (List.length (rangeKs _ _)) _ => hW9); (rename IntsAre _ _ => hI9); (rename (List.length _ = 2 + 2 * _) => hl9); (rename News _ _ _ _ => N'); k_dflt (refine ksa_sub N' (by k_mem) hI9 (by omega) (by rw [hl9, rangeKs_length]; omega) (by omega) ?_); intro t9)
  trivial
set_option maxRecDepth 100000 in
set_option maxHeartbeats 12000000 in
theorem stern_told (w : World) (mean : ExcName → Option Value) (mg mb : Str → Option Value) (n : Int) (t1 : Tok) (h0 : 1 ≤ n) (h1 : n ≤ 127) :
    Told w mean mg mb 93 [.int n t1] 2 2 (fun _ => True) (RetII (sternA n) (sternB n)) := by
  unfold Told
  k_fill
  intro dp un gd cn cs a ccd cl outer A₀ base h₀ L m news s Q E B F X N T hk hR hd hu hret
  have hfd : n.fdiv 2 = n / 2 := Int.fdiv_eq_ediv_of_nonneg n (by decide)
  k_with "pyIter ref" => (k_state (fun pre row => row.length = 2 + 2 * pre.length ∧ WStern pre.length row) "row")
  k_with "state" => (first | exact ⟨rfl, ⟨rfl⟩⟩ | (exact stern_turn (by with_reducible assumption) (by with_reducible assumption) (by with_reducible assumption)))
  refine wpAny_call ?_
  k_dflt ktr_enter
  k_steps
  all_goals first
    | (rename WStern (List.length (rangeKs _ _)) _ => hW9; exact retII hret (stern_done h0 h1 hW9 hfd) (by with_reducible assumption) (by with_reducible assumption) (by with_reducible assumption))
end
theorem said17 : True := by
  k_with_none
  trivial
section
theorem said18 : True := by
  k_with "subscriptTail Name Slice str ref" => ((with_reducible show wpAny _ _ (subscriptTail _ (Expr.Slice (some _) none none _) (Value.str (S _) _) _) _ _ _); (with_reducible rename Fr _ _ _ _ => F'); (with_reducible rename News _ _ _ _ => N'); (refine sS_from (s := ⟨_, _, _, _, _⟩) F' N' (by (try simp only [List.length_drop, List.length_take, List.length_cons, List.length_nil, List.length_append, List.length_replicate]); omega) (by omega) ?_); intro _ _ _ _ _)
  k_with "subscriptTail Name Slice str ref" => ((with_reducible show wpAny _ _ (subscriptTail _ (Expr.Slice none (some _) none _) (Value.str (S _) _) _) _ _ _); (with_reducible rename Fr _ _ _ _ => F'); (with_reducible rename News _ _ _ _ => N'); (first | (refine sS_nn (s := ⟨_, _, _, _, _⟩) F' N' (by (try simp only [List.length_drop, List.length_take, List.length_cons, List.length_nil, List.length_append, List.length_replicate]); omega) ?_) | (refine sS_to (s := ⟨_, _, _, _, _⟩) F' N' (by (try simp only [List.length_drop, List.length_take, List.length_cons, List.length_nil, List.length_append, List.length_replicate]); omega) (by omega) (by (try simp only [List.length_drop, List.length_take, List.length_cons, List.length_nil, List.length_append, List.length_replicate]); omega) ?_) | (refine sS_toneg (s := ⟨_, _, _, _, _⟩) F' N' (by (try simp only [List.length_drop, List.length_take, List.length_cons, List.length_nil, List.length_append, List.length_replicate]); omega) (by omega) (by (try simp only [List.length_drop, List.length_take, List.length_cons, List.length_nil, List.length_append, List.length_replicate]); omega) ?_)); intro _ _ _ _ _)
  k_with "subscriptTail Name Name str int" => ((with_reducible show wpAny _ _ (subscriptTail _ _ (Value.str (S _) _) _) _ _ _); (refine sS_at (by (try simp only [List.length_drop, List.length_take, List.length_cons, List.length_nil, List.length_append, List.length_replicate]); omega) (by omega) (by (try simp only [List.length_drop, List.length_take, List.length_cons, List.length_nil, List.length_append, List.length_replicate]); omega) ?_))
  k_with "subscriptTail Name BinOp str int" => ((with_reducible show wpAny _ _ (subscriptTail _ _ (Value.str (S _) _) _) _ _ _); (first | (refine sS_at (by (try simp only [List.length_drop, List.length_take, List.length_cons, List.length_nil, List.length_append, List.length_replicate]); omega) (by omega) (by (try simp only [List.length_drop, List.length_take, List.length_cons, List.length_nil, List.length_append, List.length_replicate]); omega) ?_) | (refine sS_atneg (by (try simp only [List.length_drop, List.length_take, List.length_cons, List.length_nil, List.length_append, List.length_replicate]); omega) (by omega) (by (try simp only [List.length_drop, List.length_take, List.length_cons, List.length_nil, List.length_append, List.length_replicate]); omega) ?_)))
  k_with "compareOp Eq str str" => ((with_reducible show wpAny _ _ (compareOp _ (Value.str (S _) _) (Value.str (S _) _)) _ _ _); refine sS_eq ?_)
  k_with "compareOp NotEq str str" => ((with_reducible show wpAny _ _ (compareOp _ (Value.str (S _) _) (Value.str (S _) _)) _ _ _); refine sS_ne ?_)
  k_with "call builtin:len" => ((with_reducible show wpAny _ _ (call _ [Value.str (S _) _]) _ _ _); refine sS_len (by (try simp only [List.length_drop, List.length_take, List.length_cons, List.length_nil, List.length_append, List.length_replicate]); omega) ?_)
  k_with "truthy str" => ((with_reducible show wpAny _ _ (PySem.truthy (Value.str (S _) _)) _ _ _); (first | ((with_reducible show wpAny _ _ (PySem.truthy (Value.str (S (List.drop _ _)) _)) _ _ _); refine sS_truthy_drop (by omega) (by omega) ?_) | ((with_reducible show wpAny _ _ (PySem.truthy (Value.str (S (List.take _ _)) _)) _ _ _); refine sS_truthy_take (by omega) (by omega) (by omega) ?_) | refine sS_truthy (by (try simp only [List.length_drop, List.length_take, List.length_cons, List.length_nil, List.length_append, List.length_replicate]); omega) ?_))
  k_with "binaryOp Add str str" => ((with_reducible show wpAny _ _ (binaryOp _ (Value.str (S _) _) (Value.str (S _) _)) _ _ _); refine sS_add (by (try simp only [List.length_drop, List.length_take, List.length_cons, List.length_nil, List.length_append, List.length_replicate]); omega) (by (try simp only [List.length_drop, List.length_take, List.length_cons, List.length_nil, List.length_append, List.length_replicate]); omega) ?_; intro _ _)
  trivial
theorem lit_abcdef : Str.ofString "abcdef" = S [97, 98, 99, 100, 101, 102] := by decide +kernel
theorem lit_ABCDEF : Str.ofString "ABCDEF" = S [65, 66, 67, 68, 69, 70] := by decide +kernel
noncomputable def abc (b : Int) : List Nat := if b = 0 then [97, 98, 99, 100, 101, 102] else [65, 66, 67, 68, 69, 70]
theorem abc_len (b : Int) : (abc b).length = 6 := by unfold abc; split <;> rfl
noncomputable def wordL (ns : List Int) : List Nat := (List.range ns.length).map fun k => (abc (ns.getD k 0)).getD k 0
structure Bits (ns : List Int) : Prop where
  bit : ∀ b ∈ ns, b = 0 ∨ b = 1
  len : ns.length ≤ 6
theorem Bits.at {ns : List Int} (h : Bits ns) {i : Nat} (hi : i < ns.length) : ns.getD i 0 = 0 ∨ ns.getD i 0 = 1 := by
  have : ns.getD i 0 = ns[i] := by simp [List.getD, hi]
  rw [this]; exact h.bit _ (List.getElem_mem hi)
theorem rng_len {n : Nat} (h : n ≤ 6) : Builtin.Range.small 0 (n : Int) 1 = true ∧ Builtin.Range.rangeSize 0 (n : Int) 1 = ((n : Nat) : Int) := by
  have h' : ∀ k ∈ List.range 7, Builtin.Range.small 0 ((k : Nat) : Int) 1 = true ∧ Builtin.Range.rangeSize 0 ((k : Nat) : Int) 1 = ((k : Nat) : Int) := by decide +kernel
  exact h' n (List.mem_range.mpr (by omega))
section
variable {prog : Program} {w : World} {A : Around} {E : Value → Shared → Prop} {s : Shared} {h₀ : Heap} {L D : Addr} {m : Str → Option Value} {news all : List (Addr × Obj)} {t u : Tok} {Q : Value → Shared → Prop} {value slice : Expr}
theorem menu_abc {b : Int} {t0 t1 : Tok} (N : News h₀ L s.heap news) (hm : (D, tupO [.str (S [97, 98, 99, 100, 101, 102]) t0, .str (S [65, 66, 67, 68, 69, 70]) t1]) ∈ news) (hb : b = 0 ∨ b = 1)
    (h : ∀ n, Q (.str (S (abc b)) n) s)
    (hs : subscripted slice false (.ref D) (.int b u) = operate [.ref D, .int b u] (getItem (.ref D) (.int b u)) := by with_unfolding_all rfl) : wpAny (model prog w) A (subscriptTail value slice (.ref D) (.int b u)) Q E s := by
  have ht : IsTup s.heap D [Value.str (S [97, 98, 99, 100, 101, 102]) t0, .str (S [65, 66, 67, 68, 69, 70]) t1].toArray := ⟨_, (N _ hm).1, rfl, 0, rfl⟩
  obtain rfl | rfl := hb
  · exact item_tupleT ht (by decide) (by decide) (j := 0) rfl rfl (h _) hs
  · exact item_tupleT ht (by decide) (by decide) (j := 1) rfl rfl (h _) hs
theorem menu_ns {ns : List Int} {i : Nat} {t0 t1 : Tok} (N : News h₀ L s.heap news) (hm : (D, tupO [.str (S [97, 98, 99, 100, 101, 102]) t0, .str (S [65, 66, 67, 68, 69, 70]) t1]) ∈ news) (hB : Bits ns) (hi : i < ns.length)
    (h : ∀ n, Q (.str (S (abc (ns.getD i 0))) n) s)
    (hs : subscripted slice false (.ref D) (.int (ns.getD (0 + (i : Int)).toNat 0) u) = operate [.ref D, .int (ns.getD (0 + (i : Int)).toNat 0) u] (getItem (.ref D) (.int (ns.getD (0 + (i : Int)).toNat 0) u)) := by with_unfolding_all rfl) : wpAny (model prog w) A (subscriptTail value slice (.ref D) (.int (ns.getD (0 + (i : Int)).toNat 0) u)) Q E s := by
  have e : (0 + (i : Int)).toNat = i := by omega
  rw [e] at hs ⊢
  exact menu_abc N hm (hB.at hi) h hs
theorem at_abc {b : Int} {i : Nat} (hi : i < 6) (h : Q (.str (S [(abc b).getD i 0]) s.toks) { s with toks := s.toks + 1 })
    (hs : subscripted slice false (.str (S (abc b)) t) (.int (0 + (i : Int)) u) = operate [.str (S (abc b)) t, .int (0 + (i : Int)) u] (getItem (.str (S (abc b)) t) (.int (0 + (i : Int)) u)) := by with_unfolding_all rfl)
    (ht : ∀ r, letTemporaryGo value (.str (S (abc b)) t) r = pure () := by intro _; with_unfolding_all rfl) :
    wpAny (model prog w) A (subscriptTail value slice (.str (S (abc b)) t) (.int (0 + (i : Int)) u)) Q E s := by
  have e := abc_len b
  refine sS_at (by omega) (by omega) (by omega) ?_ hs ht
  have : (0 + (i : Int)).toNat = i := by omega
  rw [this]; exact h
theorem compEnd_mono {I C D : Addr} {s₁ : Shared} {oI oC oD : Obj} {S : Led → Prop} {r r' : Value → Led → Prop} (h : ∀ y n, r y n → r' y n) {y : Value} {s₂ : Shared} (p : LCg.CompEnd h₀ L m s₁ I oI C oC D oD S r y s₂) : LCg.CompEnd h₀ L m s₁ I oI C oC D oD S r' y s₂ := by
  obtain ⟨h', tk, n', e, F, N, o, hS, q⟩ := p
  exact ⟨h', tk, n', e, F, N, o, hS, h _ _ q⟩
theorem comp_inv {env : Env} {elt : Expr} {x : Str} {scope : Scope} {cl : List (Str × Addr)} {S : Led → Prop} {P : Nat → Value → Prop} {Fin : List Value → Led → Prop} {n : Nat} (INV : Nat → List Value → Prop)
    (turn : ∀ (i : Nat) (ys : List Value) (v : Value) (I : Addr) (oI : Obj) (C : Addr) (oC : Obj) (D : Addr) (m₂ : Str → Option Value) (h : Heap) (tk : Nat) (E' : Value → Shared → Prop), i < n → INV i ys → P i v → LCg.NsObj oC m₂ → m₂ x = some v → Fr h₀ L h m → News h₀ L h ((I, oI) :: (C, oC) :: (D, LCg.lst ys) :: news) → LCg.Off3 I C D news → ((@Ne Nat I C) ∧ (@Ne Nat I D) ∧ (@Ne Nat C D)) →
      wpAny (model prog w) A (eval elt (compEnvC scope cl C env)) (LCg.CompEnd h₀ L m { s with heap := h, toks := tk } I oI C oC D (LCg.lst ys) S (fun y news' => news' = news ∧ INV (i + 1) (ys ++ [y]))) E' { s with heap := h, toks := tk })
    (hF : ∀ ys, INV n ys → Fin ys news) : ∀ k i ys, i + k = n → INV i ys → LCg.CompRest prog w A h₀ L m env elt x scope cl s S P Fin k i ys news := by
  intro k
  induction k with
  | zero =>
    intro i ys e hi
    have : i = n := by omega
    subst this
    exact LCg.CompRest.zero (hF ys hi)
  | succ k ih =>
    intro i ys e hi
    refine LCg.CompRest.succ ?_
    intro v I oI C oC D m₂ h tk E' hP hC hx F N off ne
    exact wpAny_mono (turn i ys v I oI C oC D m₂ h tk E' (by omega) hi hP hC hx F N off ne) (fun y s₂ p => compEnd_mono (fun y' n' q => by obtain ⟨rfl, q⟩ := q; exact ih (i + 1) _ (by omega) q) p) fun _ _ e => e
noncomputable def WInv (ns : List Int) (i : Nat) (ys : List Value) : Prop := ∃ l : List (Nat × Tok), ys = l.map (fun p => Value.str (S [p.1]) p.2) ∧ l.map (·.1) = (List.range i).map fun k => (abc (ns.getD k 0)).getD k 0
theorem WInv.next {ns : List Int} {i : Nat} {ys : List Value} (h : WInv ns i ys) {t : Tok} : WInv ns (i + 1) (ys ++ [Value.str (S [(abc (ns.getD i 0)).getD i 0]) t]) := by
  obtain ⟨l, rfl, e⟩ := h
  exact ⟨l ++ [((abc (ns.getD i 0)).getD i 0, t)], by simp, by rw [List.map_append, e, List.range_succ, List.map_append]; rfl⟩
theorem word_src {env : Env} {elt : Expr} {x : Str} {scope : Scope} {cl : List (Str × Addr)} {Fin : Shared → List Value → Led → Prop} {r : Addr} {t u v : Tok} {ns : List Int} {s₁ : Shared}
    (hh : A.handled = none) (F : Fr h₀ L s₁.heap m) (N : News h₀ L s₁.heap news) (hB : Bits ns) (hr : IsRange s₁.heap r 0 (ns.length : Int) 1 t u v)
    (turn : ∀ (g : Heap) (i : Nat) (ys : List Value) (I : Addr) (oI : Obj) (C : Addr) (oC : Obj) (D : Addr) (m₂ : Str → Option Value) (h : Heap) (tk : Nat) (E' : Value → Shared → Prop) (t : Tok), i < ns.length → WInv ns i ys → LCg.NsObj oC m₂ → m₂ x = some (.int (0 + (i : Int)) t) → Fr h₀ L h m → News h₀ L h ((I, oI) :: (C, oC) :: (D, LCg.lst ys) :: news) → LCg.Off3 I C D news → ((@Ne Nat I C) ∧ (@Ne Nat I D) ∧ (@Ne Nat C D)) →
      wpAny (model prog w) A (eval elt (compEnvC scope cl C env)) (LCg.CompEnd h₀ L m { s₁ with heap := h, toks := tk } I oI C oC D (LCg.lst ys) (fun _ => True) (fun y news' => news' = news ∧ WInv ns (i + 1) (ys ++ [y]))) E' { (({ s₁ with heap := g } : Shared)) with heap := h, toks := tk })
    (hF : ∀ g (l : List (Nat × Tok)), l.map (·.1) = wordL ns → Fin { s₁ with heap := g } (l.map fun p => Value.str (S [p.1]) p.2) news) : LCg.CompSrc prog w A h₀ L m env elt x scope cl Fin (.ref r) s₁ := by
  refine LCg.CompSrc.range (n := ns.length) hh F N hr (rng_len hB.len).1 (rng_len hB.len).2 (Nat.le_trans hB.len (Nat.le_of_ble_eq_true rfl)) fun g => ?_
  refine comp_inv (n := ns.length) (WInv ns) ?_ ?_ ns.length 0 [] (by omega) ⟨[], rfl, rfl⟩
  · rintro i ys v I oI C oC D m₂ h tk E' hi hW ⟨t, rfl⟩ hC hx F N off ne
    exact turn g i ys I oI C oC D m₂ h tk E' t hi hW hC hx F N off ne
  · rintro ys ⟨l, rfl, e⟩
    exact hF g l e
theorem comp_dropE {h' : Heap} {I C D T : Addr} {s₁ : Shared} {oI oC oD oT : Obj} {rest : Value → Led → Prop} {y : Value} {tk : Nat} {news' : Led} (F : Fr h₀ L h' m) (N : News h₀ L h' ((T, oT) :: (I, oI) :: (C, oC) :: (D, oD) :: news')) (off : LCg.Off3 I C D news') (r : rest y news') : LCg.CompEnd h₀ L m s₁ I oI C oC D oD (fun _ => True) rest y { s₁ with heap := h', toks := tk } := ⟨h', tk, news', rfl, F, fun p hp => N p (.tail _ hp), off, trivial, r⟩
end
theorem retS_sub {x y : Str} {h₀ h' g : Heap} {L L' : Addr} {m m' : Str → Option Value} {new news sub : Led} {s : Shared} {Q : Value → Shared → Prop} {t : Tok} {tk : Nat}
    (hret : RetS x h₀ L m news s Q) (e : y = x) (F : Fr h₀ L h' m) (N₀ : News h₀ L h' new) (N : News h₀ L s.heap news) (O : Others g news sub) (F' : Fr g L' h' m') (N' : News g L' h' new) (hs : ∀ p ∈ sub, p ∈ new) : Q (.str y t) { s with heap := h', toks := tk } :=
  retS hret e F fun p hp => others_back N O F' N₀ hs p (List.mem_append_right _ hp)
theorem said19 : True := by
  k_with "eval Constant str" => (first | refine sS_lit lit_e ?_ | refine sS_lit lit_abcdef ?_ | refine sS_lit lit_ABCDEF ?_)
  k_with "CompSrc" => (k_here; (rename IsRange _ _ 0 _ 1 _ _ _ => R9); (rename Fr _ _ _ _ => lF'); (rename News _ _ _ _ => lN'); (rename Bits _ => hB9); (k_dflt (refine' word_src (by rfl) lF' lN' hB9 R9 ?qturnz70 ?qFz70; (case' qturnz70 => (clear lF' lN' R9; intro g' i' ys' I' oI' C' oC' D' m' h' tk' E' t' hi' hW' hC' hx' F' N' off' ne')); (case' qFz70 => (clear lF' lN' R9; intro g' l' hl')))))
  k_with "subscriptTail" => ((with_reducible show wpAny _ _ (subscriptTail _ (Expr.Subscript _ _ _) (Value.ref _) (Value.int (List.getD _ _ _) _)) _ _ _); (rename News _ _ _ _ => N'); (rename Bits _ => hB9); k_dflt (refine menu_ns N' (by k_mem) hB9 (by with_reducible assumption) ?_); intro n9)
  k_with "subscriptTail" => ((with_reducible show wpAny _ _ (subscriptTail (Expr.Subscript _ _ _) (Expr.Name _ _) (Value.str (S (abc _)) _) (Value.int (0 + _) _)) _ _ _); k_dflt (refine at_abc (by omega) ?_))
  k_with "CompEnd" => ((rename LCg.Off3 _ _ _ _ => off9); k_dflt (refine comp_dropE (by with_reducible assumption) (by with_reducible assumption) off9 ⟨rfl, WInv.next (by with_reducible assumption)⟩))
  k_with "call builtin:str.join" => ((with_reducible show wpAny _ _ (call _ [Value.str (S []) _, Value.ref _]) _ _ _); (rename News _ _ _ _ => N'); (rename (List.map _ _ = wordL _) => hl9); k_dflt (refine join_S N' (.head _) (by have e9 := congrArg List.length hl9; simp [wordL] at e9; omega) ?_); intro _ _)
  trivial
set_option maxRecDepth 100000 in
set_option maxHeartbeats 12000000 in
theorem lword_told (w : World) (mean : ExcName → Option Value) (mg mb : Str → Option Value) (l : Addr) (ns : List Int) (vs : List Value) (c : Nat) (hI : IntsAre vs ns) (hB : Bits ns) :
    Told w mean mg mb 98 [.ref l] 3 3 (fun news => (l, listOf vs.toArray c) ∈ news) (RetS (S (wordL ns))) := by
  unfold Told
  k_fill
  intro dp un gd cn cs a' ccd cl outer A₀ base h₀ L m news s Q E B F X N T hk hR hd hu hret
  have h6 := hB.len
  refine wpAny_call ?_
  k_dflt (refine' code_subC (sub := [(l, listOf vs.toArray c)]) ?k1 ?k2 ?k3 ?k4 ?ks ?k5 ?kA ?kF ?kK ?k6 ?k7 ?k8 ?k9 ?kB ?kD ?_ ?c2 ?c3 ?c4; (case kA => exact rfl); (case kF => exact rfl); (case kK => assumption); (case k1 => k_asm); (case k2 => k_asm); (case k3 => k_asm); (case k4 => k_asm); (case ks => exact List.forall_mem_cons.mpr ⟨hR, List.forall_mem_nil _⟩); (case k5 => k_asm); (case k6 => k_is); (case k7 => k_is); (case k8 => ktr_room); (case k9 => exact BindsTo.of_eq rfl); (case kB => exact rfl); (case kD => decide +kernel); (case c2 => exact rfl); (case c3 => exact rfl); (case c4 => exact rfl); k_whole)
  intro g' L' h' tk' cells' FG' F' N' Y' B' X' T' hOth l1
  k_lt l1
  k_cells Y'
  try simp only [List.cons_append, List.nil_append] at N'
  dsimp only
  (try k_fold)
  k_steps
  all_goals first
    | (rename (List.map _ _ = wordL _) => hl9; exact retS_sub hret (congrArg S hl9) (by with_reducible assumption) (by with_reducible assumption) N hOth (by with_reducible assumption) (by with_reducible assumption) (fun p hp => .tail _ (.tail _ hp)))
end
theorem said20 : True := by
  k_with_none
  trivial
section
variable {prog : Program} {w : World} {A : Around} {E : Value → Shared → Prop} {s : Shared} {h₀ : Heap} {L t : Addr} {m : Str → Option Value} {news : List (Addr × Obj)}
theorem sum_lstG {xs : Array (Int × Tok)} {Q : Value → Shared → Prop} (hh : A.handled = none) (ht : s.heap.IsList t (intItems xs))
    (h : ∀ h' tk t', (∀ b o, s.heap.get? b = some o → h'.get? b = some o) → Q (.int (preSum (numAt xs) xs.size) t') { s with heap := h', toks := tk }) :
    wpAny (model prog w) A (call (.builtin "sum") [.ref t]) Q E s := by
  obtain ⟨o, ho, hc, n, hd⟩ := id ht
  have hne : t ≠ s.heap.objs.size := Nat.ne_of_lt (Heap.lt_size ho)
  have hsz : (intItems xs).size = xs.size := by simp [intItems]
  have W := (Walks.list (prog := prog) (w := w) (A := A.in1) hh s.heap.objs.size t hne (intItems xs)).toS
  rw [hsz] at W
  refine call_sum_walkAnyS (wpAny_pyIter_list ht ?_)
  refine ⟨s.heap.objs.size, _, _, _, _, _, _, numAt xs, rfl, W, ⟨⟨_, Heap.get?_push_size _ rfl, rfl, rfl⟩, ht.at fun o e => Heap.get?_push_of_some _ e⟩, fun b hb => ?_, fun i v hP => intItems_at hP, fun s' t' hm => ?_⟩
  · rcases List.mem_cons.mp hb with rfl | hb
    · exact Heap.lt_size (Heap.get?_push_size _ rfl)
    · obtain rfl := List.mem_singleton.mp hb
      exact Heap.lt_size (Heap.get?_push_of_some _ ho)
  · obtain ⟨h', g', d', tk', os'⟩ := s'
    have e1 : g' = s.gens := hm.gens
    have e2 : d' = s.drawn := hm.drawn
    have e3 : os' = s.os := hm.os
    subst e1 e2 e3
    exact h h' tk' t' fun b o e => hm.heap b o (fun hb => absurd (Heap.lt_size e) ((List.mem_singleton.mp hb) ▸ Nat.lt_irrefl _)) (Heap.get?_push_of_some _ e)
theorem sum_lst {vs : List Value} {arr : Array Value} {ns : List Int} {Q : Value → Shared → Prop} {n : Nat} (hh : A.handled = none) (F : Fr h₀ L s.heap m) (N : News h₀ L s.heap news) (hm : (t, ({ cls := .type "list", data := .seq arr n } : Obj)) ∈ news) (ha : arr.toList = vs) (hi : IntsAre vs ns)
    (h : ∀ h' tk t', Fr h₀ L h' m → News h₀ L h' news → Q (.int ns.sum t') { s with heap := h', toks := tk }) :
    wpAny (model prog w) A (call (.builtin "sum") [.ref t]) Q E s := by
  have hl : s.heap.IsList t vs.toArray := ⟨_, (N _ hm).1, rfl, n, by rw [← ha]⟩
  obtain ⟨xs, hx⟩ := hi.allInts.items
  have hn : numsOf vs.toArray.toList = ns := by rw [show vs.toArray.toList = vs from rfl, hi.numsOf]
  rw [hx] at hl hn
  rw [nums_intItems] at hn
  refine sum_lstG hh hl fun h' tk t' hk => ?_
  have := h h' tk t' (F.keeps hk) (N.grown hk)
  rw [preSum_eq, List.take_of_length_le (by simp), hn]
  exact this
end
theorem ints3 {vs : List Value} {l : List Int} (h : IntsAre vs l) (hl : l.length = 3) : ∃ (a b c : Int) (t u v : Tok), vs = [.int a t, .int b u, .int c v] := by
  match l, hl with
  | [a, b, c], _ =>
    cases h with | cons _ t h => cases h with | cons _ u h => cases h with | cons _ v h => cases h with | nil => exact ⟨a, b, c, t, u, v, rfl⟩
noncomputable def quarters : List UInt64 := [0x3fd0000000000000, 0x3fe0000000000000, 0x3fe8000000000000, 0x3ff0000000000000]
structure Quarter (x : UInt64) : Prop where
  mem : x ∈ quarters
noncomputable def fr64 (k : Int) : UInt64 := Float64.ofFrac (decide (k < 0)) k.natAbs 64
noncomputable def lows : List Int := [1, 12, 23, 33, 44, 55]
structure Low (k : Int) : Prop where
  mem : k ∈ lows
theorem Low.bd {k : Int} (h : Low k) : 1 ≤ k ∧ k ≤ 55 := by
  have : ∀ k ∈ lows, (1 : Int) ≤ k ∧ k ≤ 55 := by decide
  exact this k h.mem
section
variable {prog : Program} {w : World} {A : Around} {E : Value → Shared → Prop} {s : Shared} {h₀ : Heap} {L D : Addr} {m : Str → Option Value} {news : List (Addr × Obj)} {t u : Tok} {Q : Value → Shared → Prop} {value slice : Expr}
theorem mod_any {x m : Int} (hm : 0 < m) (h : ∀ r, 0 ≤ r → r < m → Q (.int r s.toks) { s with toks := s.toks + 1 }) : wpAny (model prog w) A (binaryOp .Mod (.int x t) (.int m u)) Q E s :=
  mod_int' (by omega) (h _ (Int.fmod_nonneg_of_pos x hm) (Int.fmod_lt_of_pos x hm))
theorem div_4 {r : Int} (h0 : 0 ≤ r) (h1 : r < 4) (hs : s.toks ≠ 0) (h : ∀ x n k, n ≠ 0 → Quarter x → Q (.float x n) { s with toks := k }) : wpAny (model prog w) A (binaryOp .Div (.int (r + 1) t) (.int 4 u)) Q E s := by
  obtain rfl | rfl | rfl | rfl : r = 0 ∨ r = 1 ∨ r = 2 ∨ r = 3 := by omega
  all_goals exact AutoIntOps.truediv_2 (by decide) (by decide +kernel) (h _ _ _ hs ⟨by decide +kernel⟩)
theorem div_64 {r : Int} (h0 : -100 ≤ r) (h1 : r ≤ 100) (hs : s.toks ≠ 0) (h : ∀ n k, n ≠ 0 → Q (.float (fr64 r) n) { s with toks := k }) : wpAny (model prog w) A (binaryOp .Div (.int r t) (.int 64 u)) Q E s := by
  have e : Float64.ofFrac (decide (r < 0) != decide ((64 : Int) < 0)) r.natAbs (Int.natAbs 64) = fr64 r := by unfold fr64; simp
  have hi : ¬ Float64.isInf (fr64 r) = true := by
    rw [← e]
    exact fun hi => absurd hi (Flt.quot_fits (by decide) (Nat.lt_of_le_of_lt (show r.natAbs ≤ 100 by omega) (by decide +kernel)))
  exact AutoIntOps.truediv_2 (by decide) (by rw [e]; exact hi) (by rw [e]; exact h _ _ hs)
theorem menu_end {k : Int} {t0 t1 t2 t3 : Tok} (N : News h₀ L s.heap news) (hm : (D, tupO [.str (S []) t0, .str (S [34]) t1, .str (S [34, 32, 121]) t2, .str (S [34, 121, 34, 34]) t3]) ∈ news) (h0 : 0 ≤ k) (h1 : k < 4)
    (h : ∀ e n, parseL e = [] → e.length ≤ 10 → Q (.str (S e) n) s)
    (hs : subscripted slice false (.ref D) (.int k u) = operate [.ref D, .int k u] (getItem (.ref D) (.int k u)) := by with_unfolding_all rfl) : wpAny (model prog w) A (subscriptTail value slice (.ref D) (.int k u)) Q E s := by
  have ht : IsTup s.heap D [Value.str (S []) t0, .str (S [34]) t1, .str (S [34, 32, 121]) t2, .str (S [34, 121, 34, 34]) t3].toArray := ⟨_, (N _ hm).1, rfl, 0, rfl⟩
  obtain rfl | rfl | rfl | rfl : k = 0 ∨ k = 1 ∨ k = 2 ∨ k = 3 := by omega
  · exact item_tupleT ht (by decide) (by decide) (j := 0) rfl rfl (h _ _ (by decide) (by decide)) hs
  · exact item_tupleT ht (by decide) (by decide) (j := 1) rfl rfl (h _ _ (by decide) (by decide)) hs
  · exact item_tupleT ht (by decide) (by decide) (j := 2) rfl rfl (h _ _ (by decide) (by decide)) hs
  · exact item_tupleT ht (by decide) (by decide) (j := 3) rfl rfl (h _ _ (by decide) (by decide)) hs
theorem menu_low {k : Int} {t0 t1 t2 t3 t4 t5 : Tok} (N : News h₀ L s.heap news) (hm : (D, tupO [.int 1 t0, .int 12 t1, .int 23 t2, .int 33 t3, .int 44 t4, .int 55 t5]) ∈ news) (h0 : 0 ≤ k) (h1 : k < 6)
    (h : ∀ x n, Low x → Q (.int x n) s)
    (hs : subscripted slice false (.ref D) (.int k u) = operate [.ref D, .int k u] (getItem (.ref D) (.int k u)) := by with_unfolding_all rfl) : wpAny (model prog w) A (subscriptTail value slice (.ref D) (.int k u)) Q E s := by
  have ht : IsTup s.heap D [Value.int 1 t0, .int 12 t1, .int 23 t2, .int 33 t3, .int 44 t4, .int 55 t5].toArray := ⟨_, (N _ hm).1, rfl, 0, rfl⟩
  obtain rfl | rfl | rfl | rfl | rfl | rfl : k = 0 ∨ k = 1 ∨ k = 2 ∨ k = 3 ∨ k = 4 ∨ k = 5 := by omega
  · exact item_tupleT ht (by decide) (by decide) (j := 0) rfl rfl (h _ _ ⟨by decide⟩) hs
  · exact item_tupleT ht (by decide) (by decide) (j := 1) rfl rfl (h _ _ ⟨by decide⟩) hs
  · exact item_tupleT ht (by decide) (by decide) (j := 2) rfl rfl (h _ _ ⟨by decide⟩) hs
  · exact item_tupleT ht (by decide) (by decide) (j := 3) rfl rfl (h _ _ ⟨by decide⟩) hs
  · exact item_tupleT ht (by decide) (by decide) (j := 4) rfl rfl (h _ _ ⟨by decide⟩) hs
  · exact item_tupleT ht (by decide) (by decide) (j := 5) rfl rfl (h _ _ ⟨by decide⟩) hs
theorem add_all : ((List.range 3).all fun r => (List.range 64).all fun k => Float64.add (Float64.ofInt (r : Int)) (fr64 (k : Int)) == fr64 (64 * (r : Int) + (k : Int))) = true := by decide +kernel
theorem add_r64 {r k : Int} (h0 : 0 ≤ r) (h1 : r < 3) (h2 : 0 ≤ k) (h3 : k < 64) (h : Q (.float (fr64 (64 * r + k)) s.toks) { s with toks := s.toks + 1 }) : wpAny (model prog w) A (binaryOp .Add (.int r t) (.float (fr64 k) u)) Q E s := by
  obtain ⟨r, rfl⟩ := Int.eq_ofNat_of_zero_le h0
  obtain ⟨k, rfl⟩ := Int.eq_ofNat_of_zero_le h2
  have e := eq_of_beq (List.all_eq_true.mp (List.all_eq_true.mp add_all r (List.mem_range.mpr (by omega))) k (List.mem_range.mpr (by omega)))
  exact add_if_fits (Nat.lt_of_le_of_lt (show ((r : Nat) : Int).natAbs ≤ 3 by omega) (by decide +kernel)) (by rw [e]; exact h)
end
theorem no_shared (P : Params) : nsIn (Mine.pre.heap_1 P) cStatics sharingNotToldKey = some none := by rfl
section
variable {prog : Program} {w : World} {M : Model} {A : Around} {E : Value → Shared → Prop} {s : Shared} {K : Frag} {h : Heap}
theorem told_not {t : Tok} {Q : Bool → Shared → Prop} (X : K.In h) (e : nsIn K cStatics sharingNotToldKey = some none) (k : ∀ b o, h.get? b = some o → s.heap.get? b = some o) (hq : Q false s) : wpAny M A (sharingNotTold t) Q E s := by
  unfold sharingNotTold
  refine wpAny_bind (looks_nsIn X e A _ E s k ?_)
  exact wpAny_pure hq
theorem same_ff {x : UInt64} {t u : Tok} {Q : Bool → Shared → Prop} (X : K.In h) (e : nsIn K cStatics sharingNotToldKey = some none) (k : ∀ b o, h.get? b = some o → s.heap.get? b = some o) (ht : t ≠ 0) (hu : u ≠ 0) (hq : ∀ b, Q b s) :
    wpAny M A (isSame (.float x t) (.float x u)) Q E s := by
  have h0 : (t == 0 || u == 0) = false := by simp [ht, hu]
  show wpAny M A (isSame.created (x == x && !Float64.isNaN x) t u) Q E s
  unfold isSame.created
  refine wpAny_ite ?_
  split
  · rename_i h; rw [h0] at h; exact absurd h Bool.false_ne_true
  refine wpAny_ite ?_
  split
  · exact wpAny_pure (hq _)
  refine wpAny_ite ?_
  split
  · exact wpAny_pure (hq _)
  refine wpAny_bind (told_not X e k ?_)
  first | rw [if_neg Bool.false_ne_true] | simp only [Bool.false_eq_true, if_false]
  refine wpAny_bind (told_not X e k ?_)
  first | rw [if_neg Bool.false_ne_true] | simp only [Bool.false_eq_true, if_false]
  exact wpAny_bind (wpAny_rule (wpAny_bind (wpAny_askSetting (wpAny_pure (hq _)))))
theorem eq_ff {x : UInt64} {t u : Tok} (X : K.In h) (e : nsIn K cStatics sharingNotToldKey = some none) (k : ∀ b o, h.get? b = some o → s.heap.get? b = some o) (hc : (Float64.cmp x x == some Ordering.eq) = true) (ht : t ≠ 0) (hu : u ≠ 0) :
    SeqAt.EqAt A s (.float x t) (.float x u) true := fun prog w E Q hQ => by
  unfold eqBool
  refine wpAny_holding ?_
  refine wpAny_ite_split (fun _ => wpAny_bind (wpAny_rule (wpAny_pure hQ))) (fun hab => ?_)
  refine wpAny_bind (same_ff X e k ht hu fun b => ?_)
  cases b with
  | true => exact wpAny_pure hQ
  | false =>
    refine wpAny_bind (AutoFloatOps.eq_0 ?_)
    rw [hc]
    exact wpAny_truthy_bool hQ
theorem ne_t3 {a b : Addr} {x y z : UInt64} {n1 n2 n3 m1 m2 m3 : Tok} {Q : Value → Shared → Prop} {h₀ : Heap} {L : Addr} {news : Led} (X : K.In h) (e : nsIn K cStatics sharingNotToldKey = some none) (k : ∀ b o, h.get? b = some o → s.heap.get? b = some o) (N : News h₀ L s.heap news)
    (ha : (a, tupO [.float x n1, .float y n2, .float z n3]) ∈ news) (hb : (b, tupO [.float x m1, .float y m2, .float z m3]) ∈ news) (hu : A.units < cLine)
    (hx : (Float64.cmp x x == some Ordering.eq) = true) (hy : (Float64.cmp y y == some Ordering.eq) = true) (hz : (Float64.cmp z z == some Ordering.eq) = true)
    (hn1 : n1 ≠ 0) (hn2 : n2 ≠ 0) (hn3 : n3 ≠ 0) (hm1 : m1 ≠ 0) (hm2 : m2 ≠ 0) (hm3 : m3 ≠ 0) (hQ : Q (.bool false) s) : wpAny (model prog w) A (compareOp .NotEq (.ref a) (.ref b)) Q E s := by
  have ta : s.heap.IsTuple a [Value.float x n1, .float y n2, .float z n3].toArray := ⟨_, (N _ ha).1, rfl, 0, rfl⟩
  have tb : s.heap.IsTuple b [Value.float x m1, .float y m2, .float z m3].toArray := ⟨_, (N _ hb).1, rfl, 0, rfl⟩
  refine PySem.EqBoolInt.of_rcne (SeqAt.RcNeAt.tuples (e := fun _ => true) ta tb hu ?_) ?_
  · intro j h1 h2
    have hj : j < 3 := h1
    match j, hj with
    | 0, _ => exact eq_ff X e k hx hn1 hm1
    | 1, _ => exact eq_ff X e k hy hn2 hm2
    | 2, _ => exact eq_ff X e k hz hn3 hm3
  · exact hQ
end
theorem cmp_q {x : UInt64} (h : Quarter x) : (Float64.cmp x x == some Ordering.eq) = true := by
  have : (quarters.all fun x => Float64.cmp x x == some Ordering.eq) = true := by decide +kernel
  exact List.all_eq_true.mp this x h.mem
theorem told_mono {w : World} {mean : ExcName → Option Value} {mg mb : Str → Option Value} {f : Addr} {vs : List Value} {d u : Nat} {pre : Led → Prop} {Ret Ret' : RetK} (C : Told w mean mg mb f vs d u pre Ret) (h : ∀ h₀ L m news s Q, Ret' h₀ L m news s Q → Ret h₀ L m news s Q) : Told w mean mg mb f vs d u pre Ret' := by
  intro dp un gd cn cs a ccd cl outer A₀ base h₀ L m news s Q E B F X N T hk hR hd hu hret
  exact C dp un gd cn cs a ccd cl outer A₀ base h₀ L m news s Q E B F X N T hk hR hd hu (h _ _ _ _ _ _ hret)
noncomputable def ks : List Nat := [1, 12, 23, 33, 44, 55, 9, 20, 31, 41, 52, 63]
noncomputable def paint (k : Int) (sh va : UInt64) : T3 := hsvS (fr64 k) sh va
noncomputable def hueOk1 (j : Int) : Bool := Float64.isFinite (Float64.mul (fr64 j) 4618441417868443648) && decide ((hI (fr64 j)).natAbs < 1000)
theorem paint_all : ((List.range 3).all fun r => ks.all fun k => hueOk1 (64 * (r : Int) + (k : Int)) && quarters.all fun sh => quarters.all fun va => hsvS (fr64 (64 * (r : Int) + (k : Int))) sh va == paint (k : Int) sh va) = true := by decide +kernel
theorem Low.inKs {k : Int} (h : Low k) : ∃ n : Nat, n ∈ ks ∧ k = (n : Int) := by
  have : ∀ k ∈ lows, ∃ n ∈ Mine.ks, k = (n : Int) := by decide
  exact this k h.mem
theorem Low.inKs8 {k : Int} (h : Low k) : ∃ n : Nat, n ∈ ks ∧ k + 8 = (n : Int) := by
  have : ∀ k ∈ lows, ∃ n ∈ Mine.ks, k + 8 = (n : Int) := by decide
  exact this k h.mem
theorem hsv_told3 (w : World) (mean : ExcName → Option Value) (mg mb : Str → Option Value) (r k : Int) (s v : UInt64) (th ts tv : Tok) (h0 : 0 ≤ r) (h1 : r < 3) (hk : ∃ n : Nat, n ∈ ks ∧ k = (n : Int)) (hs : Quarter s) (hv : Quarter v) (k3 : tv ≠ 0) :
    Told w mean mg mb 28 [.float (fr64 (64 * r + k)) th, .float s ts, .float v tv] 1 1 (fun _ => True) (RetT3n (paint k s v) True) := by
  obtain ⟨r, rfl⟩ := Int.eq_ofNat_of_zero_le h0
  obtain ⟨n, hn, rfl⟩ := hk
  have h := (Bool.and_eq_true _ _).mp (List.all_eq_true.mp (List.all_eq_true.mp paint_all r (List.mem_range.mpr (by omega))) n hn)
  have h2 := (Bool.and_eq_true _ _).mp h.1
  have h3 := eq_of_beq (List.all_eq_true.mp (List.all_eq_true.mp h.2 s hs.mem) v hv.mem)
  have := hsv_toldn w mean mg mb (fr64 (64 * (r : Int) + (n : Int))) s v th ts tv h2.1 (Nat.lt_of_lt_of_le (of_decide_eq_true h2.2) (by decide +kernel))
  rw [h3] at this
  exact told_mono this fun h₀ L m news s Q hr q n1 n2 n3 h' tk' hn F N lt => hr q n1 n2 n3 h' tk' (fun _ => hn k3) F N lt
theorem grey_all : (quarters.all fun v => rgbOk v v v && rgbS v v v == (0, 0, v) && (rgbOk v v 0 && rgbOk 0 v v && rgbOk v 0 v)) = true := by decide +kernel
theorem grey_told (w : World) (mean : ExcName → Option Value) (mg mb : Str → Option Value) (v : UInt64) (t1 t2 t3 : Tok) (hv : Quarter v) (k1 : t1 ≠ 0) (k2 : t2 ≠ 0) (k3 : t3 ≠ 0) :
    Told w mean mg mb 21 [.float v t1, .float v t2, .float v t3] 1 1 (fun _ => True) (RetT3n (0, 0, v) True) := by
  have h := (Bool.and_eq_true _ _).mp ((Bool.and_eq_true _ _).mp (List.all_eq_true.mp grey_all v hv.mem)).1
  have := rgb_told3 w mean mg mb v v v t1 t2 t3 h.1
  rw [eq_of_beq h.2] at this
  exact told_mono this fun h₀ L m news s Q hr q n1 n2 n3 h' tk' hn F N lt => hr q n1 n2 n3 h' tk' (fun _ => hn ⟨k1, k2, k3⟩) F N lt
theorem corner_all : (quarters.all fun v => rgbS v v 0 == (4595172819793696085, 4607182418800017408, v) && (rgbS 0 v v == (4602678819172646912, 4607182418800017408, v) && rgbS v 0 v == (4605681218924227243, 4607182418800017408, v))) = true := by decide +kernel
theorem corner_toldA (w : World) (mean : ExcName → Option Value) (mg mb : Str → Option Value) (v : UInt64) (t1 t2 t3 : Tok) (hv : Quarter v) :
    Told w mean mg mb 21 [.float v t1, .float v t2, .float 0 t3] 1 1 (fun _ => True) (RetT3n (4595172819793696085, 4607182418800017408, v) False) := by
  have h2 := (Bool.and_eq_true _ _).mp ((Bool.and_eq_true _ _).mp (List.all_eq_true.mp grey_all v hv.mem)).2
  have h1 := (Bool.and_eq_true _ _).mp (List.all_eq_true.mp corner_all v hv.mem)
  have := rgb_told3 w mean mg mb v v 0 t1 t2 t3 (((Bool.and_eq_true _ _).mp h2.1).1)
  rw [eq_of_beq (h1.1)] at this
  exact told_mono this fun h₀ L m news s Q hr q n1 n2 n3 h' tk' hn F N lt => hr q n1 n2 n3 h' tk' (fun e => e.elim) F N lt
theorem corner_toldB (w : World) (mean : ExcName → Option Value) (mg mb : Str → Option Value) (v : UInt64) (t1 t2 t3 : Tok) (hv : Quarter v) :
    Told w mean mg mb 21 [.float 0 t1, .float v t2, .float v t3] 1 1 (fun _ => True) (RetT3n (4602678819172646912, 4607182418800017408, v) False) := by
  have h2 := (Bool.and_eq_true _ _).mp ((Bool.and_eq_true _ _).mp (List.all_eq_true.mp grey_all v hv.mem)).2
  have h1 := (Bool.and_eq_true _ _).mp (List.all_eq_true.mp corner_all v hv.mem)
  have := rgb_told3 w mean mg mb 0 v v t1 t2 t3 (((Bool.and_eq_true _ _).mp h2.1).2)
  rw [eq_of_beq (((Bool.and_eq_true _ _).mp h1.2).1)] at this
  exact told_mono this fun h₀ L m news s Q hr q n1 n2 n3 h' tk' hn F N lt => hr q n1 n2 n3 h' tk' (fun e => e.elim) F N lt
theorem corner_toldC (w : World) (mean : ExcName → Option Value) (mg mb : Str → Option Value) (v : UInt64) (t1 t2 t3 : Tok) (hv : Quarter v) :
    Told w mean mg mb 21 [.float v t1, .float 0 t2, .float v t3] 1 1 (fun _ => True) (RetT3n (4605681218924227243, 4607182418800017408, v) False) := by
  have h2 := (Bool.and_eq_true _ _).mp ((Bool.and_eq_true _ _).mp (List.all_eq_true.mp grey_all v hv.mem)).2
  have h1 := (Bool.and_eq_true _ _).mp (List.all_eq_true.mp corner_all v hv.mem)
  have := rgb_told3 w mean mg mb v 0 v t1 t2 t3 (h2.2)
  rw [eq_of_beq (((Bool.and_eq_true _ _).mp h1.2).2)] at this
  exact told_mono this fun h₀ L m news s Q hr q n1 n2 n3 h' tk' hn F N lt => hr q n1 n2 n3 h' tk' (fun e => e.elim) F N lt
section
variable {prog : Program} {w : World} {A : Around} {E : Value → Shared → Prop} {s : Shared} {Q : Value → Shared → Prop} {h₀ : Heap} {L : Addr} {m : Str → Option Value} {t u : Tok}
theorem fin_three {x : UInt64} (h : Float64.isFinite x = true) : ¬ Float64.isNaN x = true ∧ ¬ Float64.isInf x = true := ⟨fin_nan h, fin_inf h⟩
theorem round_is {x : UInt64} {k : Int} (hA : A.handled = none) (h : (Float64.isFinite x && decide (Flt.toInt Float64.nearestOf x = k)) = true) (hq : Q (.int k s.toks) { s with toks := s.toks + 1 }) : wpAny (model prog w) A (call (.builtin "round") [.float x t]) Q E s := by
  have h2 := (Bool.and_eq_true _ _).mp h
  have h3 := fin_three h2.1
  exact Flt.call_round_float hA (fun e => absurd e h3.1) (fun e => absurd e h3.2) (fun _ => by rw [of_decide_eq_true h2.2]; exact hq)
theorem mul_6 {x : UInt64} (h : Q (.float (Float64.mul (Float64.ofInt 6) x) s.toks) { s with toks := s.toks + 1 }) : wpAny (model prog w) A (binaryOp .Mult (.int 6 u) (.float x t)) Q E s :=
  mul_if_fits (by decide +kernel) h
theorem comp_dropS {h' : Heap} {I C D T : Addr} {s₁ : Shared} {oI oC oD oT : Obj} {S : Led → Prop} {rest : Value → Led → Prop} {y : Value} {tk : Nat} {news' : Led} (F : Fr h₀ L h' m) (N : News h₀ L h' ((T, oT) :: (I, oI) :: (C, oC) :: (D, oD) :: news')) (off : LCg.Off3 I C D news') (hS : S news') (r : rest y news') : LCg.CompEnd h₀ L m s₁ I oI C oC D oD S rest y { s₁ with heap := h', toks := tk } := ⟨h', tk, news', rfl, F, fun p hp => N p (.tail _ hp), off, hS, r⟩
end
theorem bits_ok {n : Int} (h0 : 1 ≤ n) (h1 : n ≤ 127) : Bits (bits 7 n) := by
  obtain ⟨k, rfl⟩ := Int.eq_ofNat_of_zero_le (show 0 ≤ n by omega)
  have h : ∀ k ∈ List.range 128, (∀ b ∈ bits 7 (k : Int), b = 0 ∨ b = 1) ∧ (bits 7 (k : Int)).length ≤ 6 ∨ k = 0 := by decide +kernel
  rcases h k (List.mem_range.mpr (by omega)) with h | h
  · exact ⟨h.1, h.2⟩
  · omega
theorem Bits.rev {ns : List Int} (h : Bits ns) : Bits ns.reverse := ⟨fun b hb => h.bit b (List.mem_reverse.mp hb), by rw [List.length_reverse]; exact h.len⟩
theorem ne_all {l : Led} {a q : Addr} {o : Obj} (h : ∀ p ∈ l, @Ne Nat p.1 q) (hm : (a, o) ∈ l) : @Ne Nat a q := h _ hm
theorem ne_all' {l : Led} {a q : Addr} {o : Obj} (h : ∀ p ∈ l, @Ne Nat p.1 q) (hm : (a, o) ∈ l) : @Ne Nat q a := (h _ hm).symm
theorem bits_size {vs : List Value} {n : Int} (hI : IntsAre vs (bits 7 n)) (h0 : 1 ≤ n) (h1 : n ≤ 127) : vs.toArray.size ≤ sizeLine := by
  have h2 := (bits_ok h0 h1).len
  have h3 := hI.length
  rw [List.size_toArray, h3]
  exact Nat.le_trans h2 (Nat.le_of_ble_eq_true rfl)
noncomputable def numOf : List Int → Int
  | [] => 1
  | b :: r => 2 * numOf r + b
noncomputable def revN (n : Int) : Int := numOf (bits 7 n).reverse
theorem rev_all : ((List.range 128).all fun k => k == 0 || ((bits 7 (k : Int)).reverse == bits 7 (revN (k : Int)) && decide (1 ≤ revN (k : Int) ∧ revN (k : Int) ≤ 127) && decide (sternA (k : Int) + sternB (k : Int) = sternA (revN (k : Int)) + sternB (revN (k : Int))) && decide (1 ≤ sternA (k : Int) ∧ sternA (k : Int) ≤ 21 ∧ 1 ≤ sternB (k : Int) ∧ sternB (k : Int) ≤ 21))) = true := by decide +kernel
theorem rev_get {n : Int} (h0 : 1 ≤ n) (h1 : n ≤ 127) : (bits 7 n).reverse = bits 7 (revN n) ∧ (1 ≤ revN n ∧ revN n ≤ 127) ∧ sternA n + sternB n = sternA (revN n) + sternB (revN n) ∧ (1 ≤ sternA n ∧ sternA n ≤ 21 ∧ 1 ≤ sternB n ∧ sternB n ≤ 21) := by
  obtain ⟨k, rfl⟩ := Int.eq_ofNat_of_zero_le (show 0 ≤ n by omega)
  have h := List.all_eq_true.mp rev_all k (List.mem_range.mpr (by omega))
  have hk : (k == 0) = false := by rw [beq_eq_false_iff_ne]; omega
  rw [hk, Bool.false_or] at h
  have h2 := (Bool.and_eq_true _ _).mp h
  have h3 := (Bool.and_eq_true _ _).mp h2.1
  have h4 := (Bool.and_eq_true _ _).mp h3.1
  exact ⟨eq_of_beq h4.1, of_decide_eq_true h4.2, of_decide_eq_true h3.2, of_decide_eq_true h2.2⟩
theorem rev_bits {n : Int} (h0 : 1 ≤ n) (h1 : n ≤ 127) : (bits 7 n).reverse = bits 7 (revN n) := (rev_get h0 h1).1
theorem rev_bd {n : Int} (h0 : 1 ≤ n) (h1 : n ≤ 127) : 1 ≤ revN n ∧ revN n ≤ 127 := (rev_get h0 h1).2.1
theorem rev_sum {n : Int} (h0 : 1 ≤ n) (h1 : n ≤ 127) : sternA n + sternB n = sternA (revN n) + sternB (revN n) := (rev_get h0 h1).2.2.1
theorem stern_bd {n : Int} (h0 : 1 ≤ n) (h1 : n ≤ 127) : 1 ≤ sternA n ∧ sternA n ≤ 21 ∧ 1 ≤ sternB n ∧ sternB n ≤ 21 := (rev_get h0 h1).2.2.2
theorem rev_ints {ws : List Value} {n : Int} (hI : IntsAre ws (bits 7 n).reverse) (h0 : 1 ≤ n) (h1 : n ≤ 127) : IntsAre ws (bits 7 (revN n)) ∧ 1 ≤ revN n ∧ revN n ≤ 127 := ⟨rev_bits h0 h1 ▸ hI, rev_bd h0 h1⟩
theorem drop4 {h₀ h : Heap} {L q q' qa qb : Addr} {x : T3} {n1 n2 n3 : Tok} {a b : Value} {oa ob : Obj} {r : Led} (N : News h₀ L h ((q, t3O x n1 n2 n3) :: (q', tupO [a, b]) :: (qa, oa) :: (qb, ob) :: r)) : News h₀ L h r := fun p hp => N p (.tail _ (.tail _ (.tail _ (.tail _ hp))))
section
open PySem.Float64
theorem V_lt {t u : Nat} (h : t < u) : V t < V u := by
  induction u with
  | zero => omega
  | succ u ih =>
    by_cases e : t = u
    · subst e; exact V_succ t
    · exact Nat.lt_trans (ih (by omega)) (V_succ u)
/-- two words as near as can be to one number are one -/
theorem near_one {W D t u : Nat} (hD : 0 < D)
    (h1 : ∀ t', dist W (D * V t) ≤ dist W (D * V t') ∧ (V t' ≠ V t → dist W (D * V t) = dist W (D * V t') → t % 2 = 0))
    (h2 : ∀ t', dist W (D * V u) ≤ dist W (D * V t') ∧ (V t' ≠ V u → dist W (D * V u) = dist W (D * V t') → u % 2 = 0)) (hlt : t < u) : False := by
  have a := (h1 u).1
  have b := (h2 t).1
  have e : dist W (D * V t) = dist W (D * V u) := Nat.le_antisymm a b
  have hV := V_lt hlt
  have p1 := (h1 u).2 (Nat.ne_of_gt hV) e
  have p2 := (h2 t).2 (Nat.ne_of_lt hV) e.symm
  have hm := V_lt (show t < t + 1 by omega)
  have hm2 := V_lt (show t + 1 < u by omega)
  have c := (h1 (t + 1)).1
  have q1 : D * V t < D * V (t + 1) := Nat.mul_lt_mul_of_pos_left hm hD
  have q2 : D * V (t + 1) < D * V u := Nat.mul_lt_mul_of_pos_left hm2 hD
  unfold dist at e c
  generalize D * V t = x at *
  generalize D * V (t + 1) = y at *
  generalize D * V u = z at *
  omega
theorem right_one {r r' : UInt64} {g : Bool} {W D W' D' : Nat} (h : Right r g W D) (h' : Right r' g W' D') (hD : 0 < D) (hD' : 0 < D') (e : W * D' = W' * D) : r = r' := by
  obtain ⟨t, rfl, ht, hi, hn⟩ := h
  obtain ⟨u, rfl, hu, hi', hn'⟩ := h'
  have key : t = u := by
    by_cases h1 : t = infMag
    · have h2 := hi.mp h1
      have : u = infMag := hi'.mpr (by
        have a : D' * (D * ((2 ^ 54 - 1) * 2 ^ 2045)) ≤ D' * (2 * W) := Nat.mul_le_mul_left _ h2
        have b : D' * (2 * W) = D * (2 * W') := by rw [Nat.mul_left_comm, Nat.mul_comm D' W, e, Nat.mul_left_comm D, Nat.mul_comm D W']
        rw [b, Nat.mul_left_comm] at a
        exact Nat.le_of_mul_le_mul_left a hD)
      rw [h1, this]
    · have ht' : t < infMag := by omega
      have hu' : u < infMag := by
        rcases Nat.lt_or_ge u infMag with h | h
        · exact h
        · have h2 := hi'.mp (by omega)
          exfalso
          apply h1
          refine hi.mpr ?_
          have a : D * (D' * ((2 ^ 54 - 1) * 2 ^ 2045)) ≤ D * (2 * W') := Nat.mul_le_mul_left _ h2
          have b : D * (2 * W') = D' * (2 * W) := by rw [Nat.mul_left_comm D, Nat.mul_comm D W', ← e, Nat.mul_left_comm D', Nat.mul_comm D' W]
          rw [b, Nat.mul_left_comm] at a
          exact Nat.le_of_mul_le_mul_left a hD'
      have hs : ∀ t', D' * dist W (D * V t') = D * dist W' (D' * V t') := by
        intro t'
        rw [← dist_mul, ← dist_mul, Nat.mul_comm D' W, e, Nat.mul_comm W' D, Nat.mul_left_comm]
      have n1 := hn ht'
      have n2 : ∀ t', dist W (D * V u) ≤ dist W (D * V t') ∧ (V t' ≠ V u → dist W (D * V u) = dist W (D * V t') → u % 2 = 0) := by
        intro t'
        have q := hn' hu' t'
        refine ⟨?_, fun a b => q.2 a ?_⟩
        · refine Nat.le_of_mul_le_mul_left (c := D') ?_ hD'
          rw [hs, hs]; exact Nat.mul_le_mul_left _ q.1
        · refine Nat.eq_of_mul_eq_mul_left hD ?_
          rw [← hs, ← hs, b]
      rcases Nat.lt_trichotomy t u with h | h | h
      · exact (near_one hD n1 n2 h).elim
      · exact h
      · exact (near_one hD n2 n1 h).elim
  rw [key]
end
section
open PySem.Float64
theorem is_frac {r : UInt64} {g : Bool} {n d W D : Nat} (h : Right r g W D) (hD : 0 < D) (hd : 0 < d) (e : n * 2 ^ 1074 * D = W * d) : r = ofFrac g n d := right_one h (ofFrac_right hd e hD) hD hD rfl
noncomputable def fx (m : Nat) : UInt64 := ofFrac false m 512
theorem V_of {m : Nat} (h : m < 2 ^ 17) : ∃ t, t < infMag ∧ V t = m * 2 ^ 1065 := by
  have hi : infMag = 2047 * 2 ^ 52 := rfl
  by_cases hm : m = 0
  · subst hm
    exact ⟨0, by omega, by rw [V_zero, Nat.zero_mul]⟩
  · have h1 := Nat.log2_self_le hm
    have h2 : m < 2 ^ (Nat.log2 m + 1) := Nat.lt_log2_self
    generalize hL : Nat.log2 m = L at *
    have h3 : L < 17 := (Nat.pow_lt_pow_iff_right (by decide : 1 < 2)).mp (Nat.lt_of_le_of_lt h1 h)
    have q1 : 2 ^ 52 ≤ m * 2 ^ (52 - L) := by
      have : 2 ^ L * 2 ^ (52 - L) ≤ m * 2 ^ (52 - L) := Nat.mul_le_mul_right _ h1
      rw [← Nat.pow_add, show L + (52 - L) = 52 by omega] at this
      exact this
    have q2 : m * 2 ^ (52 - L) ≤ 2 ^ 53 := by
      have : m * 2 ^ (52 - L) ≤ 2 ^ (L + 1) * 2 ^ (52 - L) := Nat.mul_le_mul_right _ (Nat.le_of_lt h2)
      rw [← Nat.pow_add, show L + 1 + (52 - L) = 53 by omega] at this
      exact this
    refine ⟨(1013 + L) * 2 ^ 52 + m * 2 ^ (52 - L), by omega, ?_⟩
    rw [V_at q2 (.inl q1), Nat.mul_assoc, ← Nat.pow_add, show 52 - L + (1013 + L) = 1065 by omega]
theorem fx_right {m : Nat} : Right (fx m) false (m * 2 ^ 1065) 1 := ofFrac_right (by decide) (by rw [Nat.mul_one, Nat.mul_assoc, show (512 : Nat) = 2 ^ 9 by decide, ← Nat.pow_add]) (by decide)
theorem fx_pack {m : Nat} (h : m < 2 ^ 17) : ∃ t, t < infMag ∧ V t = m * 2 ^ 1065 ∧ fx m = pack false t := by
  obtain ⟨t, ht, hV⟩ := V_of h
  refine ⟨t, ht, hV, right_one (fx_right (m := m)) ⟨t, rfl, Nat.le_of_lt ht, ?_, fun _ t' => ?_⟩ (by decide) (by decide) rfl⟩
  · constructor
    · intro e; omega
    · intro e
      exfalso
      have h1 : 2 * (m * 2 ^ 1065) < 2 * (2 ^ 17 * 2 ^ 1065) := Nat.mul_lt_mul_of_pos_left (Nat.mul_lt_mul_of_pos_right h (Nat.two_pow_pos _)) (by decide)
      have h2 : 2 * (2 ^ 17 * 2 ^ 1065) ≤ 1 * ((2 ^ 54 - 1) * 2 ^ 2045) := by decide +kernel
      omega
  · rw [Nat.one_mul, Nat.one_mul, hV]
    have e0 : dist (m * 2 ^ 1065) (m * 2 ^ 1065) = 0 := by unfold dist; omega
    rw [e0]
    refine ⟨Nat.zero_le _, fun a b => ?_⟩
    exfalso
    unfold dist at b
    omega
theorem fx_dec {m : Nat} (h : m < 2 ^ 17) : (∃ k e, decode (fx m) = .fin false k e ∧ (k = 0 → m = 0)) ∧ val (fx m) = ((m * 2 ^ 1065 : Nat) : Int) := by
  obtain ⟨t, ht, hV, e⟩ := fx_pack h
  obtain ⟨k, g, hd, hk⟩ := decode_pack false ht
  rw [e]
  refine ⟨⟨k, g, hd, fun hz => ?_⟩, by rw [val_pack false ht, hV]; rfl⟩
  rw [hz, Nat.zero_mul, hV] at hk
  rcases Nat.mul_eq_zero.mp hk.symm with h | h
  · exact h
  · exact absurd h (Nat.ne_of_gt (Nat.two_pow_pos _))
end
section
open PySem.Float64
theorem fx_zero : zero false = fx 0 := by decide +kernel
theorem add_fx {a b : Nat} (h : a + b < 2 ^ 17) : add (fx a) (fx b) = fx (a + b) := by
  obtain ⟨⟨k, e, hd, _⟩, hv⟩ := fx_dec (m := a) (by omega)
  obtain ⟨⟨k', e', hd', _⟩, hv'⟩ := fx_dec (m := b) (by omega)
  have H := add_right hd hd'
  have hs : val (fx a) + val (fx b) = (((a + b) * 2 ^ 1065 : Nat) : Int) := by rw [hv, hv', ← Int.natCast_add, Nat.add_mul]
  rw [hs] at H
  by_cases hz : a + b = 0
  · have := H.1 (by rw [hz, Nat.zero_mul]; rfl)
    rw [this, hz]; exact fx_zero
  · have hne : (((a + b) * 2 ^ 1065 : Nat) : Int) ≠ 0 := by
      intro q
      have := Int.ofNat_eq_zero.mp q
      rcases Nat.mul_eq_zero.mp this with h | h
      · exact hz h
      · exact absurd h (Nat.ne_of_gt (Nat.two_pow_pos _))
    have R := H.2 hne
    rw [decide_eq_false (Int.not_lt.mpr (Int.natCast_nonneg _)), Int.natAbs_natCast] at R
    exact right_one R fx_right (by decide) (by decide) rfl
theorem sub_fx {a b : Nat} (h : a < 2 ^ 17) (hb : b ≤ a) : sub (fx a) (fx b) = fx (a - b) := by
  obtain ⟨⟨k, e, hd, _⟩, hv⟩ := fx_dec (m := a) h
  obtain ⟨⟨k', e', hd', _⟩, hv'⟩ := fx_dec (m := b) (by omega)
  have H := sub_right hd hd'
  have hs : val (fx a) - val (fx b) = (((a - b) * 2 ^ 1065 : Nat) : Int) := by
    rw [hv, hv', ← Int.natCast_sub (Nat.mul_le_mul_right _ hb), Nat.sub_mul]
  rw [hs] at H
  by_cases hz : a - b = 0
  · have := H.1 (by rw [hz, Nat.zero_mul]; rfl)
    rw [this, hz]; exact fx_zero
  · have hne : (((a - b) * 2 ^ 1065 : Nat) : Int) ≠ 0 := by
      intro q
      have := Int.ofNat_eq_zero.mp q
      rcases Nat.mul_eq_zero.mp this with h | h
      · exact hz h
      · exact absurd h (Nat.ne_of_gt (Nat.two_pow_pos _))
    have R := H.2 hne
    rw [decide_eq_false (Int.not_lt.mpr (Int.natCast_nonneg _)), Int.natAbs_natCast] at R
    exact right_one R fx_right (by decide) (by decide) rfl
theorem cmp_fx {a b : Nat} (ha : a < 2 ^ 17) (hb : b < 2 ^ 17) : cmp (fx a) (fx b) = some (compare a b) := by
  obtain ⟨⟨k, e, hd, _⟩, hv⟩ := fx_dec (m := a) ha
  obtain ⟨⟨k', e', hd', _⟩, hv'⟩ := fx_dec (m := b) hb
  rw [cmp_right hd hd', hv, hv']
  have hp := Nat.two_pow_pos 1065
  generalize (2 : Nat) ^ 1065 = K at *
  congr 1
  rcases Nat.lt_trichotomy a b with h | h | h
  · rw [Nat.compare_eq_lt.mpr h, Int.compare_eq_lt.mpr (Int.ofNat_lt.mpr (Nat.mul_lt_mul_of_pos_right h hp))]
  · subst h; simp
  · rw [Nat.compare_eq_gt.mpr h, Int.compare_eq_gt.mpr (Int.ofNat_lt.mpr (Nat.mul_lt_mul_of_pos_right h hp))]
theorem div_fx {a b a' b' : Nat} (ha : a < 2 ^ 17) (hb : b < 2 ^ 17) (h0 : b ≠ 0) (ha' : a' < 2 ^ 17) (hb' : b' < 2 ^ 17) (h0' : b' ≠ 0) (e : a * b' = a' * b) : div (fx a) (fx b) = div (fx a') (fx b') := by
  obtain ⟨⟨k, g, hd, _⟩, hv⟩ := fx_dec (m := a) ha
  obtain ⟨⟨k1, g1, hd1, hz1⟩, hv1⟩ := fx_dec (m := b) hb
  obtain ⟨⟨k', g', hd', _⟩, hv'⟩ := fx_dec (m := a') ha'
  obtain ⟨⟨k1', g1', hd1', hz1'⟩, hv1'⟩ := fx_dec (m := b') hb'
  have R := div_right hd hd1 (fun q => h0 (hz1 q))
  have R' := div_right hd' hd1' (fun q => h0' (hz1' q))
  rw [hv, hv1, Int.natAbs_natCast, Int.natAbs_natCast] at R
  rw [hv', hv1', Int.natAbs_natCast, Int.natAbs_natCast] at R'
  have hp := Nat.two_pow_pos 1065
  refine right_one R R' (Nat.mul_pos (Nat.pos_of_ne_zero h0) hp) (Nat.mul_pos (Nat.pos_of_ne_zero h0') hp) ?_
  generalize (2 : Nat) ^ 1065 = K at *
  generalize (2 : Nat) ^ 1074 = J at *
  calc a * K * J * (b' * K) = (a * b') * (K * J * K) := by ac_rfl
    _ = (a' * b) * (K * J * K) := by rw [e]
    _ = a' * K * J * (b * K) := by ac_rfl
theorem div_frac {a b : Nat} (ha : a < 2 ^ 17) (hb : b < 2 ^ 17) (h0 : b ≠ 0) : div (fx a) (fx b) = ofFrac false a b := by
  obtain ⟨⟨k, g, hd, _⟩, hv⟩ := fx_dec (m := a) ha
  obtain ⟨⟨k1, g1, hd1, hz1⟩, hv1⟩ := fx_dec (m := b) hb
  have R := div_right hd hd1 (fun q => h0 (hz1 q))
  rw [hv, hv1, Int.natAbs_natCast, Int.natAbs_natCast] at R
  have hp := Nat.two_pow_pos 1065
  refine is_frac R (Nat.mul_pos (Nat.pos_of_ne_zero h0) hp) (Nat.pos_of_ne_zero h0) ?_
  generalize (2 : Nat) ^ 1065 = K at *
  generalize (2 : Nat) ^ 1074 = J at *
  show a * J * (b * K) = a * K * J * b
  ac_rfl
theorem mul_fx {a b c : Nat} (ha : a < 2 ^ 17) (hb : b < 2 ^ 17) (e : a * b = 512 * c) : mul (fx a) (fx b) = fx c := by
  obtain ⟨⟨k, g, hd, _⟩, hv⟩ := fx_dec (m := a) ha
  obtain ⟨⟨k1, g1, hd1, _⟩, hv1⟩ := fx_dec (m := b) hb
  have R := mul_right hd hd1
  rw [hv, hv1, Int.natAbs_natCast, Int.natAbs_natCast] at R
  refine right_one R fx_right (Nat.two_pow_pos _) (by decide) ?_
  have e9 : (2 : Nat) ^ 1074 = 512 * 2 ^ 1065 := by rw [show (512 : Nat) = 2 ^ 9 by decide, ← Nat.pow_add]
  rw [e9]
  generalize (2 : Nat) ^ 1065 = K at *
  calc a * K * (b * K) * 1 = (a * b) * (K * K) := by ac_rfl
    _ = (512 * c) * (K * K) := by rw [e]
    _ = c * K * (512 * K) := by ac_rfl
theorem int_fx (n : Nat) : ofInt (n : Int) = fx (512 * n) := by
  have R := ofInt_right (n : Int)
  rw [decide_eq_false (Int.not_lt.mpr (Int.natCast_nonneg _)), Int.natAbs_natCast] at R
  refine right_one R fx_right (by decide) (by decide) ?_
  have e9 : (2 : Nat) ^ 1074 = 512 * 2 ^ 1065 := by rw [show (512 : Nat) = 2 ^ 9 by decide, ← Nat.pow_add]
  rw [e9]
  generalize (2 : Nat) ^ 1065 = K at *
  ac_rfl
end
noncomputable abbrev N3 := Nat × Nat × Nat
noncomputable def unfx (x : UInt64) : Nat := (Float64.val x / 2 ^ 1065).toNat
noncomputable def fx3 (p : N3) : T3 := (fx p.1, fx p.2.1, fx p.2.2)
noncomputable def pn (k : Int) (sh va : UInt64) : N3 := (unfx (paint k sh va).1, unfx (paint k sh va).2.1, unfx (paint k sh va).2.2)
noncomputable def small (p : N3) (m : Nat) : Prop := p.1 ≤ m ∧ p.2.1 ≤ m ∧ p.2.2 ≤ m
theorem pn_all : (ks.all fun k => quarters.all fun sh => quarters.all fun va => (fx3 (pn (k : Int) sh va) == paint (k : Int) sh va) && decide ((pn (k : Int) sh va).1 ≤ 512 ∧ (pn (k : Int) sh va).2.1 ≤ 512 ∧ (pn (k : Int) sh va).2.2 ≤ 512)) = true := by decide +kernel
theorem pn_get {k : Int} {sh va : UInt64} (hk : ∃ n : Nat, n ∈ ks ∧ k = (n : Int)) (hs : Quarter sh) (hv : Quarter va) : fx3 (pn k sh va) = paint k sh va ∧ small (pn k sh va) 512 := by
  obtain ⟨n, hn, rfl⟩ := hk
  have h := (Bool.and_eq_true _ _).mp (List.all_eq_true.mp (List.all_eq_true.mp (List.all_eq_true.mp pn_all n hn) sh hs.mem) va hv.mem)
  refine ⟨eq_of_beq h.1, ?_⟩
  have h2 := of_decide_eq_true h.2
  exact ⟨h2.1, h2.2.1, h2.2.2⟩
noncomputable def addN (a b : N3) : N3 := (a.1 + b.1, a.2.1 + b.2.1, a.2.2 + b.2.2)
noncomputable def walkN : List Int → N3 → N3 → N3 × N3
  | [], a, b => (a, b)
  | n :: r, a, b => if n = 0 then walkN r a (addN a b) else walkN r (addN a b) b
theorem pour_fx {a b : N3} {m : Nat} (ha : small a m) (hb : small b m) (hm : 2 * m < 2 ^ 17) : pour (fx3 a) (fx3 b) = fx3 (addN a b) := by
  obtain ⟨a1, a2, a3⟩ := ha
  obtain ⟨b1, b2, b3⟩ := hb
  unfold pour fx3 addN
  simp only
  rw [add_fx (by omega), add_fx (by omega), add_fx (by omega)]
theorem small_add {a b : N3} {m : Nat} (ha : small a m) (hb : small b m) : small (addN a b) (2 * m) := by
  obtain ⟨a1, a2, a3⟩ := ha
  obtain ⟨b1, b2, b3⟩ := hb
  exact ⟨by show _ + _ ≤ _; omega, by show _ + _ ≤ _; omega, by show _ + _ ≤ _; omega⟩
theorem small_le {a : N3} {m k : Nat} (ha : small a m) (h : m ≤ k) : small a k := ⟨Nat.le_trans ha.1 h, Nat.le_trans ha.2.1 h, Nat.le_trans ha.2.2 h⟩
theorem walk_fx : ∀ (ns : List Int) (a b : N3) (m : Nat), small a m → small b m → m * 2 ^ ns.length < 2 ^ 17 → walkS ns (fx3 a) (fx3 b) = (fx3 (walkN ns a b).1, fx3 (walkN ns a b).2) ∧ small (walkN ns a b).1 (m * 2 ^ ns.length) ∧ small (walkN ns a b).2 (m * 2 ^ ns.length)
  | [], a, b, m, ha, hb, _ => by
    refine ⟨rfl, ?_, ?_⟩
    · show small a _; simpa using ha
    · show small b _; simpa using hb
  | n :: r, a, b, m, ha, hb, h => by
    have e : m * 2 ^ (n :: r).length = 2 * m * 2 ^ r.length := by rw [List.length_cons, Nat.pow_succ]; ac_rfl
    rw [e] at h ⊢
    have h2 : 2 * m < 2 ^ 17 := Nat.lt_of_le_of_lt (Nat.le_mul_of_pos_right _ (Nat.two_pow_pos _)) h
    have hp := pour_fx ha hb h2
    have hs := small_add ha hb
    have ha' := small_le ha (show m ≤ 2 * m by omega)
    have hb' := small_le hb (show m ≤ 2 * m by omega)
    show (if n = 0 then walkS r (fx3 a) (pour (fx3 a) (fx3 b)) else walkS r (pour (fx3 a) (fx3 b)) (fx3 b)) = _ ∧ small (if n = 0 then walkN r a (addN a b) else walkN r (addN a b) b).1 _ ∧ small (if n = 0 then walkN r a (addN a b) else walkN r (addN a b) b).2 _
    rw [hp]
    show _ = (fx3 (if n = 0 then walkN r a (addN a b) else walkN r (addN a b) b).1, fx3 (if n = 0 then walkN r a (addN a b) else walkN r (addN a b) b).2) ∧ _
    by_cases hn : n = 0
    · simp only [if_pos hn]; exact walk_fx r a (addN a b) (2 * m) ha' hs h
    · simp only [if_neg hn]; exact walk_fx r (addN a b) b (2 * m) hs hb' h
noncomputable def comb (x : Nat × Nat) (A B : N3) : N3 := (x.1 * A.1 + x.2 * B.1, x.1 * A.2.1 + x.2 * B.2.1, x.1 * A.2.2 + x.2 * B.2.2)
noncomputable def walkQ : List Int → Nat × Nat → Nat × Nat → (Nat × Nat) × (Nat × Nat)
  | [], x, y => (x, y)
  | n :: r, x, y => if n = 0 then walkQ r x (x.1 + y.1, x.2 + y.2) else walkQ r (x.1 + y.1, x.2 + y.2) y
theorem add_comb (x y : Nat × Nat) (A B : N3) : addN (comb x A B) (comb y A B) = comb (x.1 + y.1, x.2 + y.2) A B := by
  unfold addN comb
  simp only [Nat.add_mul]
  refine Prod.ext ?_ (Prod.ext ?_ ?_) <;> simp only <;> omega
theorem walk_comb : ∀ (ns : List Int) (x y : Nat × Nat) (A B : N3), walkN ns (comb x A B) (comb y A B) = (comb (walkQ ns x y).1 A B, comb (walkQ ns x y).2 A B)
  | [], _, _, _, _ => rfl
  | n :: r, x, y, A, B => by
    show (if n = 0 then walkN r (comb x A B) (addN (comb x A B) (comb y A B)) else walkN r (addN (comb x A B) (comb y A B)) (comb y A B)) = (comb (if n = 0 then walkQ r x (x.1 + y.1, x.2 + y.2) else walkQ r (x.1 + y.1, x.2 + y.2) y).1 A B, comb (if n = 0 then walkQ r x (x.1 + y.1, x.2 + y.2) else walkQ r (x.1 + y.1, x.2 + y.2) y).2 A B)
    rw [add_comb]
    by_cases hn : n = 0
    · simp only [if_pos hn]; exact walk_comb r _ _ A B
    · simp only [if_neg hn]; exact walk_comb r _ _ A B
theorem comb_l (A B : N3) : comb (1, 0) A B = A := by unfold comb; simp
theorem comb_r (A B : N3) : comb (0, 1) A B = B := by unfold comb; simp
theorem fmax_fx {a b : Nat} (ha : a < 2 ^ 17) (hb : b < 2 ^ 17) : fmax (fx a) (fx b) = fx (max a b) := by
  unfold fmax
  rw [cmp_fx ha hb]
  rcases Nat.lt_trichotomy a b with h | h | h
  · rw [Nat.compare_eq_lt.mpr h, if_pos (by decide), Nat.max_eq_right (Nat.le_of_lt h)]
  · subst h; rw [Nat.compare_eq_eq.mpr rfl, if_neg (by decide), Nat.max_self]
  · rw [Nat.compare_eq_gt.mpr h, if_neg (by decide), Nat.max_eq_left (Nat.le_of_lt h)]
theorem fmin_fx {a b : Nat} (ha : a < 2 ^ 17) (hb : b < 2 ^ 17) : fmin (fx a) (fx b) = fx (min a b) := by
  unfold fmin
  rw [cmp_fx hb ha]
  rcases Nat.lt_trichotomy b a with h | h | h
  · rw [Nat.compare_eq_lt.mpr h, if_pos (by decide), Nat.min_eq_right (Nat.le_of_lt h)]
  · subst h; rw [Nat.compare_eq_eq.mpr rfl, if_neg (by decide), Nat.min_self]
  · rw [Nat.compare_eq_gt.mpr h, if_neg (by decide), Nat.min_eq_left (Nat.le_of_lt h)]
theorem eqb_fx {a b : Nat} (ha : a < 2 ^ 17) (hb : b < 2 ^ 17) : (Float64.cmp (fx a) (fx b) == some Ordering.eq) = decide (a = b) := by
  rw [cmp_fx ha hb]
  rcases Nat.lt_trichotomy a b with h | h | h
  · rw [Nat.compare_eq_lt.mpr h, decide_eq_false (Nat.ne_of_lt h)]; rfl
  · subst h; rw [Nat.compare_eq_eq.mpr rfl, decide_eq_true rfl]; rfl
  · rw [Nat.compare_eq_gt.mpr h, decide_eq_false (Nat.ne_of_gt h)]; rfl
/-- a mixture: what its channels lack of the greatest, the greatest and the span -/
structure Mix (r g b X D : Nat) : Prop where
  xl : X < 2 ^ 17
  lr : r ≤ X
  lg : g ≤ X
  lb : b ≤ X
  ld : 0 < D
  dx : D ≤ X
  rn : X - D ≤ r
  gn : X - D ≤ g
  bn : X - D ≤ b
  mx : r = X ∨ g = X ∨ b = X
  mn : r = X - D ∨ g = X - D ∨ b = X - D
theorem Mix.rgb {r g b X D : Nat} (h : Mix r g b X D) : rgbX (fx r) (fx g) (fx b) = fx X ∧ rgbN (fx r) (fx g) (fx b) = fx (X - D) := by
  obtain ⟨xl, hr, hg, hb, hd, dx, rn, gn, bn, mx, mn⟩ := h
  unfold rgbX rgbN
  have r1 := Nat.lt_of_le_of_lt hr xl
  have g1 := Nat.lt_of_le_of_lt hg xl
  have b1 := Nat.lt_of_le_of_lt hb xl
  rw [fmax_fx r1 g1, fmax_fx (Nat.max_lt.2 ⟨r1, g1⟩) b1, fmin_fx r1 g1, fmin_fx (Nat.lt_of_le_of_lt (Nat.min_le_left _ _) r1) b1]
  constructor
  · congr 1; clear rn gn bn mn hd dx; omega
  · congr 1; clear mx xl; omega
noncomputable def hueD (rz gz : Bool) (rc gc bc : UInt64) : UInt64 := if rz = true then Float64.sub bc gc else if gz = true then Float64.sub (Float64.add 4611686018427387904 rc) bc else Float64.sub (Float64.add 4616189618054758400 gc) rc
theorem Mix.rgbS {r g b X D : Nat} (h : Mix r g b X D) : Mine.rgbS (fx r) (fx g) (fx b) = rgbH (hueD (decide (X - r = 0)) (decide (X - g = 0)) (Float64.div (fx (X - r)) (fx D)) (Float64.div (fx (X - g)) (fx D)) (Float64.div (fx (X - b)) (fx D))) (fx D) (fx X) := by
  obtain ⟨e1, e2⟩ := h.rgb
  obtain ⟨xl, hr, hg, hb, hd, dx, rn, gn, bn, mx, mn⟩ := h
  unfold Mine.rgbS hueD
  rw [e1, e2]
  simp only
  have s1 : Float64.sub (fx X) (fx (X - D)) = fx D := by rw [sub_fx (a := X) (b := X - D) xl (by omega)]; congr 1; omega
  rw [s1, sub_fx (a := X) (b := r) xl hr, sub_fx (a := X) (b := g) xl hg, sub_fx (a := X) (b := b) xl hb, eqb_fx (a := X - D) (b := X) (by omega) xl, eqb_fx (a := r) (b := X) (by omega) xl, eqb_fx (a := g) (b := X) (by omega) xl]
  rw [if_neg (by rw [decide_eq_true_eq]; omega)]
  have c1 : decide (r = X) = decide (X - r = 0) := decide_eq_decide.mpr (by omega)
  have c2 : decide (g = X) = decide (X - g = 0) := decide_eq_decide.mpr (by omega)
  rw [c1, c2]
  split
  · rfl
  · split <;> rfl
theorem Mix.hue {r g b X D r' g' b' X' D' : Nat} (h : Mix r g b X D) (h' : Mix r' g' b' X' D') (er : (X - r) * D' = (X' - r') * D) (eg : (X - g) * D' = (X' - g') * D) (eb : (X - b) * D' = (X' - b') * D) :
    (Mine.rgbS (fx r) (fx g) (fx b)).1 = (Mine.rgbS (fx r') (fx g') (fx b')).1 := by
  rw [h.rgbS, h'.rgbS]
  obtain ⟨xl, hr, hg, hb, hd, dx, _⟩ := h
  obtain ⟨xl', hr', hg', hb', hd', dx', _⟩ := h'
  have z : ∀ {u u' : Nat}, u * D' = u' * D → decide (u = 0) = decide (u' = 0) := by
    intro u u' e
    refine decide_eq_decide.mpr ⟨fun q => ?_, fun q => ?_⟩
    · subst q; rw [Nat.zero_mul] at e
      rcases Nat.mul_eq_zero.mp e.symm with h | h <;> omega
    · subst q; rw [Nat.zero_mul] at e
      rcases Nat.mul_eq_zero.mp e with h | h <;> omega
  rw [div_fx (a := X - r) (b := D) (a' := X' - r') (b' := D') (by omega) (by omega) (by omega) (by omega) (by omega) (by omega) er,
    div_fx (a := X - g) (b := D) (a' := X' - g') (b' := D') (by omega) (by omega) (by omega) (by omega) (by omega) (by omega) eg,
    div_fx (a := X - b) (b := D) (a' := X' - b') (b' := D') (by omega) (by omega) (by omega) (by omega) (by omega) (by omega) eb, z er, z eg]
  simp only [rgbH]
noncomputable def lackOk (a a' V D : Nat) : Bool := decide (a ≤ V) && decide (V - D ≤ a) && decide (a' ≤ 512) && decide ((V - a) * 512 = (512 - a') * D)
noncomputable def sectOk (A B A' B' : N3) (V D : Nat) : Bool :=
  decide (0 < D) && decide (D ≤ V) && decide (V ≤ 512) && (lackOk A.1 A'.1 V D && lackOk A.2.1 A'.2.1 V D && lackOk A.2.2 A'.2.2 V D) && (lackOk B.1 B'.1 V D && lackOk B.2.1 B'.2.1 V D && lackOk B.2.2 B'.2.2 V D) &&
  ((A.1 == V && B.1 == V) || (A.2.1 == V && B.2.1 == V) || (A.2.2 == V && B.2.2 == V)) && ((A.1 == V - D && B.1 == V - D) || (A.2.1 == V - D && B.2.1 == V - D) || (A.2.2 == V - D && B.2.2 == V - D))
noncomputable def spanN (k : Int) (sh va : UInt64) : Nat := unfx va - min (min (pn k sh va).1 (pn k sh va).2.1) (pn k sh va).2.2
theorem sect_all : (lows.all fun k => quarters.all fun sh => quarters.all fun va => sectOk (pn k sh va) (pn (k + 8) sh va) (pn k 4607182418800017408 4607182418800017408) (pn (k + 8) 4607182418800017408 4607182418800017408) (unfx va) (spanN k sh va) && (fx (unfx va) == va) && (Float64.div (fx (spanN k sh va)) (fx (unfx va)) == sh)) = true := by decide +kernel
theorem chan {a b V D p q : Nat} (ha : a ≤ V) (hb : b ≤ V) (ha2 : V - D ≤ a) (hb2 : V - D ≤ b) : p * a + q * b ≤ (p + q) * V ∧ (p + q) * V - (p + q) * D ≤ p * a + q * b := by
  have h1 := Nat.mul_le_mul_left p ha
  have h2 := Nat.mul_le_mul_left q hb
  have h3 := Nat.mul_le_mul_left p ha2
  have h4 := Nat.mul_le_mul_left q hb2
  constructor
  · rw [Nat.add_mul]; omega
  · rw [← Nat.mul_sub, Nat.add_mul]; omega
theorem chan_lack {a b a' b' V D p q : Nat} (ha : a ≤ V) (hb : b ≤ V) (ha' : a' ≤ 512) (hb' : b' ≤ 512) (ea : (V - a) * 512 = (512 - a') * D) (eb : (V - b) * 512 = (512 - b') * D) :
    ((p + q) * V - (p * a + q * b)) * ((p + q) * 512) = ((p + q) * 512 - (p * a' + q * b')) * ((p + q) * D) := by
  have e1 : (p + q) * V - (p * a + q * b) = p * (V - a) + q * (V - b) := by
    have h1 := Nat.mul_le_mul_left p ha
    have h2 := Nat.mul_le_mul_left q hb
    rw [Nat.add_mul, Nat.mul_sub, Nat.mul_sub]; clear ea eb ha' hb' ha hb; omega
  have e2 : (p + q) * 512 - (p * a' + q * b') = p * (512 - a') + q * (512 - b') := by
    have h1 := Nat.mul_le_mul_left p ha'
    have h2 := Nat.mul_le_mul_left q hb'
    rw [Nat.add_mul, Nat.mul_sub, Nat.mul_sub]; clear e1 ea eb ha hb ha' hb'; omega
  have key : ∀ u x y k : Nat, (p * x + q * y) * (u * k) = u * (p * (x * k) + q * (y * k)) := fun u x y k => by
    rw [Nat.mul_left_comm (p * x + q * y) u k, Nat.add_mul (p * x), Nat.mul_assoc p, Nat.mul_assoc q]
  rw [e1, e2, key (p + q) (V - a) (V - b) 512, key (p + q) (512 - a') (512 - b') D, ea, eb]
theorem and4 {a b c d : Bool} (h : (a && b && c && d) = true) : a = true ∧ b = true ∧ c = true ∧ d = true := by simp only [Bool.and_eq_true] at h; exact ⟨h.1.1.1, h.1.1.2, h.1.2, h.2⟩
structure Lack (a a' V D : Nat) : Prop where
  l1 : a ≤ V
  l2 : V - D ≤ a
  l3 : a' ≤ 512
  l4 : (V - a) * 512 = (512 - a') * D
theorem Lack.of {a a' V D : Nat} (h : lackOk a a' V D = true) : Lack a a' V D := by
  have h := and4 h
  exact ⟨of_decide_eq_true h.1, of_decide_eq_true h.2.1, of_decide_eq_true h.2.2.1, of_decide_eq_true h.2.2.2⟩
structure Sect (A B A' B' : N3) (V D : Nat) : Prop where
  d0 : 0 < D
  dv : D ≤ V
  v5 : V ≤ 512
  a1 : Lack A.1 A'.1 V D
  a2 : Lack A.2.1 A'.2.1 V D
  a3 : Lack A.2.2 A'.2.2 V D
  b1 : Lack B.1 B'.1 V D
  b2 : Lack B.2.1 B'.2.1 V D
  b3 : Lack B.2.2 B'.2.2 V D
  mx : (A.1 = V ∧ B.1 = V) ∨ (A.2.1 = V ∧ B.2.1 = V) ∨ (A.2.2 = V ∧ B.2.2 = V)
  mn : (A.1 = V - D ∧ B.1 = V - D) ∨ (A.2.1 = V - D ∧ B.2.1 = V - D) ∨ (A.2.2 = V - D ∧ B.2.2 = V - D)
theorem Sect.of {A B A' B' : N3} {V D : Nat} (h : sectOk A B A' B' V D = true) : Sect A B A' B' V D := by
  unfold sectOk at h
  simp only [Bool.and_eq_true, Bool.or_eq_true, beq_iff_eq, decide_eq_true_eq] at h
  obtain ⟨⟨⟨⟨⟨⟨d0, dv⟩, v5⟩, ⟨a1, a2⟩, a3⟩, ⟨b1, b2⟩, b3⟩, mx⟩, mn⟩ := h
  refine ⟨d0, dv, v5, .of a1, .of a2, .of a3, .of b1, .of b2, .of b3, ?_, ?_⟩
  · rcases mx with (h | h) | h
    · exact .inl h
    · exact .inr (.inl h)
    · exact .inr (.inr h)
  · rcases mn with (h | h) | h
    · exact .inl h
    · exact .inr (.inl h)
    · exact .inr (.inr h)
theorem Sect.mix {A B A' B' : N3} {V D p q : Nat} (h : Sect A B A' B' V D) (h0 : 0 < p + q) (h1 : (p + q) * 512 < 2 ^ 17) : Mix (comb (p, q) A B).1 (comb (p, q) A B).2.1 (comb (p, q) A B).2.2 ((p + q) * V) ((p + q) * D) := by
  have c1 := chan (p := p) (q := q) h.a1.l1 h.b1.l1 h.a1.l2 h.b1.l2
  have c2 := chan (p := p) (q := q) h.a2.l1 h.b2.l1 h.a2.l2 h.b2.l2
  have c3 := chan (p := p) (q := q) h.a3.l1 h.b3.l1 h.a3.l2 h.b3.l2
  refine ⟨Nat.lt_of_le_of_lt (Nat.mul_le_mul_left _ h.v5) h1, c1.1, c2.1, c3.1, Nat.mul_pos h0 h.d0, Nat.mul_le_mul_left _ h.dv, c1.2, c2.2, c3.2, ?_, ?_⟩
  · rcases h.mx with ⟨e, f⟩ | ⟨e, f⟩ | ⟨e, f⟩
    · exact .inl (by show p * A.1 + q * B.1 = _; rw [e, f, Nat.add_mul])
    · exact .inr (.inl (by show p * A.2.1 + q * B.2.1 = _; rw [e, f, Nat.add_mul]))
    · exact .inr (.inr (by show p * A.2.2 + q * B.2.2 = _; rw [e, f, Nat.add_mul]))
  · rcases h.mn with ⟨e, f⟩ | ⟨e, f⟩ | ⟨e, f⟩
    · exact .inl (by show p * A.1 + q * B.1 = _; rw [e, f, ← Nat.mul_sub, Nat.add_mul])
    · exact .inr (.inl (by show p * A.2.1 + q * B.2.1 = _; rw [e, f, ← Nat.mul_sub, Nat.add_mul]))
    · exact .inr (.inr (by show p * A.2.2 + q * B.2.2 = _; rw [e, f, ← Nat.mul_sub, Nat.add_mul]))
theorem Sect.hue {A B A' B' A2 B2 : N3} {V D p q : Nat} (h : Sect A B A' B' V D) (h' : Sect A' B' A2 B2 512 512) (h0 : 0 < p + q) (h1 : (p + q) * 512 < 2 ^ 17) :
    (Mine.rgbS (fx (comb (p, q) A B).1) (fx (comb (p, q) A B).2.1) (fx (comb (p, q) A B).2.2)).1 = (Mine.rgbS (fx (comb (p, q) A' B').1) (fx (comb (p, q) A' B').2.1) (fx (comb (p, q) A' B').2.2)).1 :=
  (h.mix h0 h1).hue (h'.mix h0 h1) (chan_lack h.a1.l1 h.b1.l1 h.a1.l3 h.b1.l3 h.a1.l4 h.b1.l4) (chan_lack h.a2.l1 h.b2.l1 h.a2.l3 h.b2.l3 h.a2.l4 h.b2.l4) (chan_lack h.a3.l1 h.b3.l1 h.a3.l3 h.b3.l3 h.a3.l4 h.b3.l4)
noncomputable def rgbT (x : T3) : T3 := rgbS x.1 x.2.1 x.2.2
theorem one_all : (lows.all fun k => spanN k 4607182418800017408 4607182418800017408 == 512) = true ∧ unfx 4607182418800017408 = 512 := by decide +kernel
theorem q_one : Quarter 4607182418800017408 := ⟨by decide⟩
theorem sect_get {k : Int} {sh va : UInt64} (hL : Low k) (hs : Quarter sh) (hv : Quarter va) :
    Sect (pn k sh va) (pn (k + 8) sh va) (pn k 4607182418800017408 4607182418800017408) (pn (k + 8) 4607182418800017408 4607182418800017408) (unfx va) (spanN k sh va) ∧ fx (unfx va) = va ∧ Float64.div (fx (spanN k sh va)) (fx (unfx va)) = sh := by
  have h := (Bool.and_eq_true _ _).mp (List.all_eq_true.mp (List.all_eq_true.mp (List.all_eq_true.mp sect_all k hL.mem) sh hs.mem) va hv.mem)
  have h2 := (Bool.and_eq_true _ _).mp h.1
  exact ⟨Sect.of h2.1, eq_of_beq h2.2, eq_of_beq h.2⟩
theorem sect_one {k : Int} (hL : Low k) : Sect (pn k 4607182418800017408 4607182418800017408) (pn (k + 8) 4607182418800017408 4607182418800017408) (pn k 4607182418800017408 4607182418800017408) (pn (k + 8) 4607182418800017408 4607182418800017408) 512 512 := by
  have h := (sect_get hL q_one q_one).1
  rw [one_all.2, eq_of_beq (List.all_eq_true.mp one_all.1 k hL.mem)] at h
  exact h
noncomputable def hueM (k : Int) (p q : Nat) : UInt64 := (rgbT (fx3 (comb (p, q) (pn k 4607182418800017408 4607182418800017408) (pn (k + 8) 4607182418800017408 4607182418800017408)))).1
theorem mix_all {k : Int} {sh va : UInt64} {p q : Nat} (hL : Low k) (hs : Quarter sh) (hv : Quarter va) (h0 : 0 < p + q) (h1 : (p + q) * 512 < 2 ^ 17) :
    rgbT (fx3 (comb (p, q) (pn k sh va) (pn (k + 8) sh va))) = (hueM k p q, sh, Float64.mul (Float64.ofInt ((p + q : Nat) : Int)) va) := by
  obtain ⟨S, e1, e2⟩ := sect_get hL hs hv
  have M := S.mix h0 h1
  have H := S.hue (sect_one hL) h0 h1
  have R := M.rgbS
  have hx : fx ((p + q) * unfx va) = Float64.mul (Float64.ofInt ((p + q : Nat) : Int)) va := by
    rw [int_fx]
    conv => rhs; rw [← e1]
    have h5 := S.v5
    rw [mul_fx (c := (p + q) * unfx va) (by omega) (by omega) (by rw [Nat.mul_assoc])]
  have hd : Float64.div (fx ((p + q) * spanN k sh va)) (fx ((p + q) * unfx va)) = sh := by
    have h5 := S.v5
    have h6 := S.dv
    have h7 := S.d0
    have b1 : (p + q) * unfx va ≤ (p + q) * 512 := Nat.mul_le_mul_left _ h5
    have b2 : (p + q) * spanN k sh va ≤ (p + q) * unfx va := Nat.mul_le_mul_left _ h6
    have b3 : 0 < (p + q) * unfx va := Nat.mul_pos h0 (by omega)
    rw [div_fx (a' := spanN k sh va) (b' := unfx va) (by omega) (by omega) (by omega) (by omega) (by omega) (by omega) (by rw [Nat.mul_assoc, Nat.mul_left_comm])]
    exact e2
  simp only [rgbH] at R
  refine Prod.ext H (Prod.ext ?_ ?_)
  · exact (congrArg (fun x : T3 => x.2.1) R).trans hd
  · exact (congrArg (fun x : T3 => x.2.2) R).trans hx
theorem zero_fx {m : Nat} (h : m < 2 ^ 17) (h0 : m ≠ 0) : Float64.isZero (fx m) = false := by
  obtain ⟨⟨k, e, hd, hz⟩, _⟩ := fx_dec h
  unfold Float64.isZero
  rw [hd]
  cases k with
  | zero => exact absurd (hz rfl) h0
  | succ k => rfl
theorem Mix.ok {r g b X D : Nat} (h : Mix r g b X D) : rgbOk (fx r) (fx g) (fx b) = true := by
  obtain ⟨e1, e2⟩ := h.rgb
  have h1 := h.xl
  have h2 := h.ld
  have h3 := h.dx
  unfold rgbOk
  rw [e1, e2, sub_fx (a := X) (b := X - D) h1 (by omega), zero_fx h1 (by omega), zero_fx (m := X - (X - D)) (by omega) (by omega)]
  simp
theorem walk_paint {ns : List Int} {k : Int} {sh va : UInt64} (hl : ns.length ≤ 6) (hL : Low k) (hs : Quarter sh) (hv : Quarter va) :
    walkS ns (paint k sh va) (paint (k + 8) sh va) = (fx3 (comb (walkQ ns (1, 0) (0, 1)).1 (pn k sh va) (pn (k + 8) sh va)), fx3 (comb (walkQ ns (1, 0) (0, 1)).2 (pn k sh va) (pn (k + 8) sh va))) ∧
    small (comb (walkQ ns (1, 0) (0, 1)).1 (pn k sh va) (pn (k + 8) sh va)) 32768 ∧ small (comb (walkQ ns (1, 0) (0, 1)).2 (pn k sh va) (pn (k + 8) sh va)) 32768 := by
  obtain ⟨e1, s1⟩ := pn_get hL.inKs hs hv
  obtain ⟨e2, s2⟩ := pn_get hL.inKs8 hs hv
  have hb : 512 * 2 ^ ns.length ≤ 32768 := by
    have := Nat.pow_le_pow_right (show 0 < 2 by decide) hl
    omega
  have W := walk_fx ns (pn k sh va) (pn (k + 8) sh va) 512 s1 s2 (by omega)
  have C := walk_comb ns (1, 0) (0, 1) (pn k sh va) (pn (k + 8) sh va)
  rw [comb_l, comb_r] at C
  rw [e1, e2, C] at W
  exact ⟨W.1, small_le W.2.1 hb, small_le W.2.2 hb⟩
noncomputable def potC (n : Int) : Nat × Nat := ((walkQ (bits 7 n) (1, 0) (0, 1)).1.1 + (walkQ (bits 7 n) (1, 0) (0, 1)).2.1, (walkQ (bits 7 n) (1, 0) (0, 1)).1.2 + (walkQ (bits 7 n) (1, 0) (0, 1)).2.2)
theorem coef_all : ((List.range 128).all fun k => k == 0 || decide ((((potC (k : Int)).1 + (potC (k : Int)).2 : Nat) : Int) = sternA (k : Int) + sternB (k : Int))) = true := by decide +kernel
theorem coef_get {n : Int} (h0 : 1 ≤ n) (h1 : n ≤ 127) : (((potC n).1 + (potC n).2 : Nat) : Int) = sternA n + sternB n := by
  obtain ⟨k, rfl⟩ := Int.eq_ofNat_of_zero_le (show 0 ≤ n by omega)
  have h := List.all_eq_true.mp coef_all k (List.mem_range.mpr (by omega))
  have hk : (k == 0) = false := by rw [beq_eq_false_iff_ne]; omega
  rw [hk, Bool.false_or] at h
  exact of_decide_eq_true h
theorem mix_told {k : Int} {sh va : UInt64} {p q : Nat} {W : Int} (hW : ((p + q : Nat) : Int) = W) (hL : Low k) (hs : Quarter sh) (hv : Quarter va) (h0 : 0 < W) (h1 : W ≤ 42) :
    rgbOk (fx3 (comb (p, q) (pn k sh va) (pn (k + 8) sh va))).1 (fx3 (comb (p, q) (pn k sh va) (pn (k + 8) sh va))).2.1 (fx3 (comb (p, q) (pn k sh va) (pn (k + 8) sh va))).2.2 = true ∧
    rgbT (fx3 (comb (p, q) (pn k sh va) (pn (k + 8) sh va))) = (hueM k p q, sh, Float64.mul (Float64.ofInt W) va) := by
  subst hW
  exact ⟨((sect_get hL hs hv).1.mix (by omega) (by omega)).ok, mix_all hL hs hv (by omega) (by omega)⟩
noncomputable def potT (n k : Int) (sh va : UInt64) : T3 := pour (walkS (bits 7 n) (paint k sh va) (paint (k + 8) sh va)).1 (walkS (bits 7 n) (paint k sh va) (paint (k + 8) sh va)).2
noncomputable def hueP (n k : Int) : UInt64 := (rgbT (potT n k 4607182418800017408 4607182418800017408)).1
noncomputable def wayX (n k w : Int) : UInt64 := Float64.mul (Float64.mul (Float64.sub (Float64.mul (Float64.ofInt 64) (hueP n k)) (Float64.ofInt k)) (Float64.ofInt w)) (Float64.ofInt 1024)
theorem potT_fx {n k : Int} {sh va : UInt64} (h0 : 1 ≤ n) (h1 : n ≤ 127) (hL : Low k) (hs : Quarter sh) (hv : Quarter va) :
    potT n k sh va = fx3 (comb (potC n) (pn k sh va) (pn (k + 8) sh va)) := by
  obtain ⟨e, s1, s2⟩ := walk_paint (bits_ok h0 h1).len hL hs hv
  unfold potT
  rw [e]
  exact (pour_fx s1 s2 (by decide)).trans (congrArg fx3 (add_comb _ _ _ _))
theorem hueP_fx {n k : Int} (h0 : 1 ≤ n) (h1 : n ≤ 127) (hL : Low k) : hueP n k = hueM k (potC n).1 (potC n).2 := by
  unfold hueP hueM
  rw [potT_fx h0 h1 hL q_one q_one]
theorem pot_all {n k : Int} {sh va : UInt64} (h0 : 1 ≤ n) (h1 : n ≤ 127) (hL : Low k) (hs : Quarter sh) (hv : Quarter va) :
    rgbOk (potT n k sh va).1 (potT n k sh va).2.1 (potT n k sh va).2.2 = true ∧ rgbT (potT n k sh va) = (hueP n k, sh, Float64.mul (Float64.ofInt (sternA n + sternB n)) va) := by
  have hb := stern_bd h0 h1
  rw [potT_fx h0 h1 hL hs hv, hueP_fx h0 h1 hL]
  exact mix_told (coef_get h0 h1) hL hs hv (by omega) (by omega)
noncomputable def wayF (k : Int) (a1 a2 a3 b1 b2 b3 n : Nat) : Bool := (n == 0) ||
  force (potC (n : Int)).1 fun p => force (potC (n : Int)).2 fun q => force ((p + q) * 512) fun D =>
  force (D - (p * a1 + q * b1)) fun r => force (D - (p * a2 + q * b2)) fun g => force (D - (p * a3 + q * b3)) fun b =>
  forceU (hueD (decide (r = 0)) (decide (g = 0)) (Float64.ofFrac false r D) (Float64.ofFrac false g D) (Float64.ofFrac false b D)) fun h =>
  forceU (Float64.div h 4618441417868443648) fun h => forceU (Float64.divmod h 4607182418800017408).2 fun h =>
  forceU (Float64.mul (Float64.ofInt 64) h) fun y => forceU (Float64.sub y (Float64.ofInt k)) fun y =>
  forceU (Float64.mul y (Float64.ofInt ((p + q : Nat) : Int))) fun y => forceU (Float64.mul y (Float64.ofInt 1024)) fun y =>
  Float64.isFinite y && decide (Flt.toInt Float64.nearestOf y = 8192 * sternA (n : Int))
noncomputable def wayG (k : Int) : Bool :=
  force (pn k 4607182418800017408 4607182418800017408).1 fun a1 => force (pn k 4607182418800017408 4607182418800017408).2.1 fun a2 => force (pn k 4607182418800017408 4607182418800017408).2.2 fun a3 =>
  force (pn (k + 8) 4607182418800017408 4607182418800017408).1 fun b1 => force (pn (k + 8) 4607182418800017408 4607182418800017408).2.1 fun b2 => force (pn (k + 8) 4607182418800017408 4607182418800017408).2.2 fun b3 =>
  (List.range 128).all (wayF k a1 a2 a3 b1 b2 b3)
theorem way_1 : wayG 1 = true := by decide +kernel
theorem way_12 : wayG 12 = true := by decide +kernel
theorem way_23 : wayG 23 = true := by decide +kernel
theorem way_33 : wayG 33 = true := by decide +kernel
theorem way_44 : wayG 44 = true := by decide +kernel
theorem way_55 : wayG 55 = true := by decide +kernel
theorem way_low {k : Int} (hL : Low k) : wayG k = true := by
  have h : k = 1 ∨ k = 12 ∨ k = 23 ∨ k = 33 ∨ k = 44 ∨ k = 55 := by
    have := hL.mem
    simpa [lows] using this
  rcases h with rfl | rfl | rfl | rfl | rfl | rfl
  · exact way_1
  · exact way_12
  · exact way_23
  · exact way_33
  · exact way_44
  · exact way_55
theorem hueM_eq {k : Int} {p q : Nat} (hL : Low k) (h0 : 0 < p + q) (h1 : (p + q) * 512 < 2 ^ 17) :
    (rgbH (hueD (decide ((p + q) * 512 - (comb (p, q) (pn k 4607182418800017408 4607182418800017408) (pn (k + 8) 4607182418800017408 4607182418800017408)).1 = 0)) (decide ((p + q) * 512 - (comb (p, q) (pn k 4607182418800017408 4607182418800017408) (pn (k + 8) 4607182418800017408 4607182418800017408)).2.1 = 0))
      (Float64.ofFrac false ((p + q) * 512 - (comb (p, q) (pn k 4607182418800017408 4607182418800017408) (pn (k + 8) 4607182418800017408 4607182418800017408)).1) ((p + q) * 512))
      (Float64.ofFrac false ((p + q) * 512 - (comb (p, q) (pn k 4607182418800017408 4607182418800017408) (pn (k + 8) 4607182418800017408 4607182418800017408)).2.1) ((p + q) * 512))
      (Float64.ofFrac false ((p + q) * 512 - (comb (p, q) (pn k 4607182418800017408 4607182418800017408) (pn (k + 8) 4607182418800017408 4607182418800017408)).2.2) ((p + q) * 512))) (fx ((p + q) * 512)) (fx ((p + q) * 512))).1 = hueM k p q := by
  have M := (sect_one hL).mix h0 h1
  have z : (p + q) * 512 ≠ 0 := by omega
  rw [← div_frac (Nat.lt_of_le_of_lt (Nat.sub_le _ _) h1) h1 z, ← div_frac (Nat.lt_of_le_of_lt (Nat.sub_le _ _) h1) h1 z, ← div_frac (Nat.lt_of_le_of_lt (Nat.sub_le _ _) h1) h1 z, ← M.rgbS]
  rfl
theorem way_all {n k : Int} (h0 : 1 ≤ n) (h1 : n ≤ 127) (hL : Low k) : (Float64.isFinite (wayX n k (sternA n + sternB n)) && decide (Flt.toInt Float64.nearestOf (wayX n k (sternA n + sternB n)) = 8192 * sternA n)) = true := by
  unfold wayX
  have hc := coef_get h0 h1
  have hb := stern_bd h0 h1
  rw [hueP_fx h0 h1 hL, ← hc]
  obtain ⟨m, rfl⟩ := Int.eq_ofNat_of_zero_le (show 0 ≤ n by omega)
  rw [← hueM_eq hL (by omega) (by omega)]
  have h := way_low hL
  unfold wayG at h
  simp only [force_eq] at h
  have h := List.all_eq_true.mp h m (List.mem_range.mpr (by omega))
  have hm : (m == 0) = false := by rw [beq_eq_false_iff_ne]; omega
  unfold wayF at h
  simp only [force_eq, forceU_eq] at h
  rw [hm, Bool.false_or] at h
  exact h
theorem pot_told (w : World) (mean : ExcName → Option Value) (mg mb : Str → Option Value) (n k W : Int) (sh va : UInt64) (t1 t2 t3 : Tok) (h0 : 1 ≤ n) (h1 : n ≤ 127) (hW : W = sternA n + sternB n) (hL : Low k) (hs : Quarter sh) (hv : Quarter va) :
    Told w mean mg mb 21 [.float (Float64.add (get3 (walkS (bits 7 n) (paint k sh va) (paint (k + 8) sh va)).1 0) (get3 (walkS (bits 7 n) (paint k sh va) (paint (k + 8) sh va)).2 0)) t1, .float (Float64.add (get3 (walkS (bits 7 n) (paint k sh va) (paint (k + 8) sh va)).1 1) (get3 (walkS (bits 7 n) (paint k sh va) (paint (k + 8) sh va)).2 1)) t2, .float (Float64.add (get3 (walkS (bits 7 n) (paint k sh va) (paint (k + 8) sh va)).1 2) (get3 (walkS (bits 7 n) (paint k sh va) (paint (k + 8) sh va)).2 2)) t3] 1 1 (fun _ => True)
      (RetT3n (hueP n k, sh, Float64.mul (Float64.ofInt W) va) False) := by
  subst hW
  have h := pot_all h0 h1 hL hs hv
  have := rgb_told3 w mean mg mb _ _ _ t1 t2 t3 h.1
  rw [show rgbS (potT n k sh va).1 (potT n k sh va).2.1 (potT n k sh va).2.2 = (hueP n k, sh, Float64.mul (Float64.ofInt (sternA n + sternB n)) va) from h.2] at this
  exact told_mono this fun h₀ L m news s Q hr q n1 n2 n3 h' tk' hn F N lt => hr q n1 n2 n3 h' tk' (fun e => e.elim) F N lt
theorem pot_told2 (w : World) (mean : ExcName → Option Value) (mg mb : Str → Option Value) (n k : Int) (sh va : UInt64) (t1 t2 t3 : Tok) (h0 : 1 ≤ n) (h1 : n ≤ 127) (hL : Low k) (hs : Quarter sh) (hv : Quarter va) :
    Told w mean mg mb 21 [.float (Float64.add (get3 (walkS (bits 7 (revN n)) (paint k sh va) (paint (k + 8) sh va)).1 0) (get3 (walkS (bits 7 (revN n)) (paint k sh va) (paint (k + 8) sh va)).2 0)) t1, .float (Float64.add (get3 (walkS (bits 7 (revN n)) (paint k sh va) (paint (k + 8) sh va)).1 1) (get3 (walkS (bits 7 (revN n)) (paint k sh va) (paint (k + 8) sh va)).2 1)) t2, .float (Float64.add (get3 (walkS (bits 7 (revN n)) (paint k sh va) (paint (k + 8) sh va)).1 2) (get3 (walkS (bits 7 (revN n)) (paint k sh va) (paint (k + 8) sh va)).2 2)) t3] 1 1 (fun _ => True)
      (RetT3n (hueP (revN n) k, sh, Float64.mul (Float64.ofInt (sternA n + sternB n)) va) False) := pot_told w mean mg mb (revN n) k _ sh va t1 t2 t3 (rev_bd h0 h1).1 (rev_bd h0 h1).2 (rev_sum h0 h1) hL hs hv
theorem worth_all : ((List.range 43).all fun w => quarters.all fun v => w == 0 || (Float64.cmp (Float64.mul (Float64.ofInt (w : Int)) v) (Float64.mul (Float64.ofInt (w : Int)) v) == some Ordering.eq)) = true := by decide +kernel
section
variable {prog : Program} {w : World} {A : Around} {E : Value → Shared → Prop} {s : Shared} {Q : Value → Shared → Prop} {t u : Tok} {x : UInt64}
theorem ne_fsame (h : (Float64.cmp x x == some Ordering.eq) = true) (hq : Q (.bool false) s) : wpAny (model prog w) A (compareOp .NotEq (.float x t) (.float x u)) Q E s :=
  AutoFloatOps.ne_0 (by unfold bne; rw [h]; exact hq)
theorem ne_worth {n : Int} {va : UInt64} (h0 : 1 ≤ n) (h1 : n ≤ 127) (hv : Quarter va) (h : Q (.bool false) s) : wpAny (model prog w) A (compareOp .NotEq (.float (Float64.mul (Float64.ofInt (sternA n + sternB n)) va) t) (.float (Float64.mul (Float64.ofInt (sternA n + sternB n)) va) u)) Q E s := by
  have hb := stern_bd h0 h1
  obtain ⟨k, hk⟩ := Int.eq_ofNat_of_zero_le (show 0 ≤ sternA n + sternB n by omega)
  have h2 := List.all_eq_true.mp (List.all_eq_true.mp worth_all k (List.mem_range.mpr (by omega))) va hv.mem
  have hz : (k == 0) = false := by rw [beq_eq_false_iff_ne]; omega
  rw [hz, Bool.false_or] at h2
  rw [hk]
  exact ne_fsame h2 h
theorem fits_of {n : Int} (h : n.natAbs ≤ 1000000) : n.natAbs < 2 ^ 1023 := Nat.lt_of_le_of_lt h (by decide +kernel)
theorem mul_iw {n : Int} (h0 : 1 ≤ n) (h1 : n ≤ 127) (h : Q (.float (Float64.mul (Float64.ofInt (sternA n + sternB n)) x) s.toks) { s with toks := s.toks + 1 }) : wpAny (model prog w) A (binaryOp .Mult (.int (sternA n + sternB n) u) (.float x t)) Q E s := by
  have hb := stern_bd h0 h1
  exact mul_if_fits (fits_of (by omega)) h
theorem mul_fw {n : Int} (h0 : 1 ≤ n) (h1 : n ≤ 127) (h : Q (.float (Float64.mul x (Float64.ofInt (sternA n + sternB n))) s.toks) { s with toks := s.toks + 1 }) : wpAny (model prog w) A (binaryOp .Mult (.float x t) (.int (sternA n + sternB n) u)) Q E s := by
  have hb := stern_bd h0 h1
  exact mul_fi_fits (fits_of (by omega)) h
theorem round_way {n k W : Int} (hA : A.handled = none) (h0 : 1 ≤ n) (h1 : n ≤ 127) (hL : Low k) (hW : W = sternA n + sternB n) (h : Q (.int (8192 * sternA n) s.toks) { s with toks := s.toks + 1 }) :
    wpAny (model prog w) A (call (.builtin "round") [.float (Float64.mul (Float64.mul (Float64.sub (Float64.mul (Float64.ofInt 64) (hueP n k)) (Float64.ofInt k)) (Float64.ofInt W)) (Float64.ofInt 1024)) t]) Q E s := by
  subst hW
  exact round_is hA (way_all h0 h1 hL) h
theorem round_way2 {n k : Int} (hA : A.handled = none) (h0 : 1 ≤ n) (h1 : n ≤ 127) (hL : Low k) (h : Q (.int (8192 * sternA (revN n)) s.toks) { s with toks := s.toks + 1 }) :
    wpAny (model prog w) A (call (.builtin "round") [.float (Float64.mul (Float64.mul (Float64.sub (Float64.mul (Float64.ofInt 64) (hueP (revN n) k)) (Float64.ofInt k)) (Float64.ofInt (sternA n + sternB n))) (Float64.ofInt 1024)) t]) Q E s :=
  round_way hA (rev_bd h0 h1).1 (rev_bd h0 h1).2 hL (rev_sum h0 h1) h
end
noncomputable def wh (n : Int) : Int := sternA n + sternB n
noncomputable def sqr (n : Int) : Int := (sternA (revN n) * sternA (revN n)).fmod (sternA n + sternB n)
theorem inv_all : ((List.range 128).all fun k => k == 0 || (decide ((sternA (revN (k : Int)) * sternA (k : Int)).fmod (sternA (k : Int) + sternB (k : Int)) = 1) && decide (sternA (revN (k : Int)) < sternA (k : Int) + sternB (k : Int)))) = true := by decide +kernel
theorem inv_get {n : Int} (h0 : 1 ≤ n) (h1 : n ≤ 127) : (sternA (revN n) * sternA n).fmod (sternA n + sternB n) = 1 ∧ sternA (revN n) < sternA n + sternB n := by
  obtain ⟨k, rfl⟩ := Int.eq_ofNat_of_zero_le (show 0 ≤ n by omega)
  have h := List.all_eq_true.mp inv_all k (List.mem_range.mpr (by omega))
  have hk : (k == 0) = false := by rw [beq_eq_false_iff_ne]; omega
  rw [hk, Bool.false_or] at h
  have h2 := (Bool.and_eq_true _ _).mp h
  exact ⟨of_decide_eq_true h2.1, of_decide_eq_true h2.2⟩
section
variable {prog : Program} {w : World} {A : Around} {E : Value → Shared → Prop} {s : Shared} {Q : Value → Shared → Prop} {t u : Tok}
theorem ne_same {a b : Int} (e : a = b) (h : Q (.bool false) s) : wpAny (model prog w) A (compareOp .NotEq (.int a t) (.int b u)) Q E s := ne_int (by subst e; simpa using h)
theorem mod_8192 {x : Int} (h : Q (.int 0 s.toks) { s with toks := s.toks + 1 }) : wpAny (model prog w) A (binaryOp .Mod (.int (8192 * x) t) (.int 8192 u)) Q E s :=
  mod_int' (by omega) (by rw [show (8192 * x).fmod 8192 = 0 by rw [Int.fmod_eq_emod_of_nonneg _ (by omega)]; omega]; exact h)
theorem div_8192 {x : Int} (h : Q (.int x s.toks) { s with toks := s.toks + 1 }) : wpAny (model prog w) A (binaryOp .FloorDiv (.int (8192 * x) t) (.int 8192 u)) Q E s :=
  floordiv_int (by omega) (by rw [show (8192 * x).fdiv 8192 = x by rw [Int.fdiv_eq_ediv_of_nonneg _ (by omega)]; omega]; exact h)
theorem lt_is {a b : Int} {c : Bool} (e : decide (a < b) = c) (h : Q (.bool c) s) : wpAny (model prog w) A (compareOp .Lt (.int a t) (.int b u)) Q E s := lt_int (by subst e; exact h)
theorem ge_is {a b : Int} {c : Bool} (e : decide (b ≤ a) = c) (h : Q (.bool c) s) : wpAny (model prog w) A (compareOp .GtE (.int a t) (.int b u)) Q E s := ge_int (by subst e; exact h)
theorem mul_small {a b : Int} (ha : 0 ≤ b) (hb : b ≤ 64) (h : Q (.int (a * b) s.toks) { s with toks := s.toks + 1 }) : wpAny (model prog w) A (binaryOp .Mult (.int a t) (.int b u)) Q E s :=
  mul_int h (IntMulOk.of_right (intBits_le_64 (by omega) (by omega)))
theorem mod_inv {n : Int} (h0 : 1 ≤ n) (h1 : n ≤ 127) (h : Q (.int 1 s.toks) { s with toks := s.toks + 1 }) : wpAny (model prog w) A (binaryOp .Mod (.int (sternA (revN n) * sternA n) t) (.int (sternA n + sternB n) u)) Q E s := by
  have hb := stern_bd h0 h1
  exact mod_int' (by omega) (by rw [(inv_get h0 h1).1]; exact h)
theorem mod_sqr {n : Int} (h0 : 1 ≤ n) (h1 : n ≤ 127) (h : Q (.int (sqr n) s.toks) { s with toks := s.toks + 1 }) : wpAny (model prog w) A (binaryOp .Mod (.int (sternA (revN n) * sternA (revN n)) t) (.int (sternA n + sternB n) u)) Q E s := by
  have hb := stern_bd h0 h1
  exact mod_int' (by omega) h
end
theorem wordL_len (ns : List Int) : (wordL ns).length = ns.length := by unfold wordL; simp
theorem word_len {n : Int} (h0 : 1 ≤ n) (h1 : n ≤ 127) : (wordL (bits 7 n)).length ≤ 1000 := by
  rw [wordL_len]; exact Nat.le_trans (bits_ok h0 h1).len (by decide)
noncomputable def lenB (n : Int) : Int := ((bits 7 n).length : Int)
noncomputable def apN (n : Int) : Int := levS (wordL (bits 7 n)) (wordL (bits 7 (revN n))) (lenB n)
noncomputable def hfN (n : Int) : List Int := (List.range ((bits 7 n).length / 2)).map fun k => if ((bits 7 n).getD k 0 != (bits 7 (revN n)).getD k 0) = true then 1 else 0
theorem ap_all : ((List.range 128).all fun k => k == 0 || (decide (2 * (hfN (k : Int)).sum = 0) == decide (sqr (k : Int) = 1) && (decide (2 * (hfN (k : Int)).sum = lenB (k : Int)) == decide (sqr (k : Int) = sternA (k : Int) + sternB (k : Int) - 1)) && decide (apN (k : Int) = 2 * (hfN (k : Int)).sum) && decide (levS (122 :: 122 :: wordL (bits 7 (revN (k : Int)))) (121 :: wordL (bits 7 (k : Int))) (2 * (hfN (k : Int)).sum + 3) = 2 * (hfN (k : Int)).sum + 4))) = true := by decide +kernel
theorem ap_get {n : Int} (h0 : 1 ≤ n) (h1 : n ≤ 127) : decide (apN n = 0) = decide (sqr n = 1) ∧ decide (apN n = lenB n) = decide (sqr n = sternA n + sternB n - 1) ∧ apN n = 2 * (hfN n).sum ∧ levS (122 :: 122 :: wordL (bits 7 (revN n))) (121 :: wordL (bits 7 n)) (apN n + 3) = apN n + 4 := by
  obtain ⟨k, rfl⟩ := Int.eq_ofNat_of_zero_le (show 0 ≤ n by omega)
  have h := List.all_eq_true.mp ap_all k (List.mem_range.mpr (by omega))
  have hk : (k == 0) = false := by rw [beq_eq_false_iff_ne]; omega
  rw [hk, Bool.false_or] at h
  have h2 := (Bool.and_eq_true _ _).mp h
  have h3 := (Bool.and_eq_true _ _).mp h2.1
  have h4 := (Bool.and_eq_true _ _).mp h3.1
  rw [of_decide_eq_true h3.2]
  exact ⟨eq_of_beq h4.1, eq_of_beq h4.2, rfl, of_decide_eq_true h2.2⟩
theorem lev_toldP (w : World) (mean : ExcName → Option Value) (mg mb : Str → Option Value) (n : Int) (t1 t2 t3 : Tok) (h0 : 1 ≤ n) (h1 : n ≤ 127) :
    Told w mean mg mb 74 [.str (S (wordL (bits 7 n))) t1, .str (S (wordL (bits 7 (revN n)))) t2, .int (lenB n) t3] 2 2 (fun _ => True) (RetI (apN n)) := lev_told w mean mg mb _ _ _ t1 t2 t3 (word_len h0 h1) (word_len (rev_bd h0 h1).1 (rev_bd h0 h1).2)
theorem lev_toldQ (w : World) (mean : ExcName → Option Value) (mg mb : Str → Option Value) (n : Int) (t1 t2 t3 : Tok) (h0 : 1 ≤ n) (h1 : n ≤ 127) :
    Told w mean mg mb 74 [.str (S ([122, 122] ++ wordL (bits 7 (revN n)))) t1, .str (S ([121] ++ wordL (bits 7 n))) t2, .int (apN n + 3) t3] 2 2 (fun _ => True) (RetI (apN n + 4)) := by
  have h := lev_told w mean mg mb ([122, 122] ++ wordL (bits 7 (revN n))) ([121] ++ wordL (bits 7 n)) (apN n + 3) t1 t2 t3 (by rw [List.length_append, wordL_len]; have := (bits_ok (rev_bd h0 h1).1 (rev_bd h0 h1).2).len; simp; omega) (by rw [List.length_append, wordL_len]; have := (bits_ok h0 h1).len; simp; omega)
  have e : levS ([122, 122] ++ wordL (bits 7 (revN n))) ([121] ++ wordL (bits 7 n)) (apN n + 3) = apN n + 4 := (ap_get h0 h1).2.2.2
  rw [e] at h; exact h
section
variable {prog : Program} {w : World} {A : Around} {E : Value → Shared → Prop} {s : Shared} {Q : Value → Shared → Prop} {t u : Tok} {h₀ : Heap} {L q : Addr} {news : Led}
theorem len_bits {us : List Value} {c : Nat} {n : Int} (N : News h₀ L s.heap news) (hm : (q, listOf us.toArray c) ∈ news) (hI : IntsAre us (bits 7 n)) (h0 : 1 ≤ n) (h1 : n ≤ 127)
    (h : Q (.int (lenB n) (s.toks + 1)) { s with toks := s.toks + 1 + 1 }) : wpAny (model prog w) A (call (.builtin "len") [.ref q]) Q E s :=
  kst_len N hm hI.length (by have := (bits_ok h0 h1).len; omega) h
theorem ne_b {x y : Bool} (e : x = y) (h : Q (.bool false) s) : wpAny (model prog w) A (compareOp .NotEq (.bool x) (.bool y)) Q E s := ne_bool (by subst e; simpa using h)
end
theorem lit_zz : Str.ofString "zz" = S [122, 122] := by decide +kernel
noncomputable def halfN (n : Int) : List Int := pickNums (bits 7 n) none (some ((lenB n).fdiv 2)) none
noncomputable def walkC : List Int → Int × Int → Int × Int
  | [], p => p
  | b :: r, p => if b = 0 then walkC r (p.1, p.1 + p.2) else walkC r (p.1 + p.2, p.2)
noncomputable def hA (n : Int) : Int := (walkC (halfN n) (1, 1)).1
noncomputable def hB (n : Int) : Int := (walkC (halfN n) (1, 1)).2
theorem hAB_all : ((List.range 128).all fun k => k == 0 || (decide (1 ≤ hA (k : Int) ∧ hA (k : Int) ≤ 42 ∧ 1 ≤ hB (k : Int) ∧ hB (k : Int) ≤ 42) && (!(2 * (hfN (k : Int)).sum == lenB (k : Int)) || (Float64.cmpInt (Float64.add (Float64.mul (Float64.ofInt (hA (k : Int))) (Float64.ofInt (hA (k : Int)))) (Float64.mul (Float64.ofInt (hB (k : Int))) (Float64.ofInt (hB (k : Int))))) (sternA (k : Int) + sternB (k : Int)) == some Ordering.eq)))) = true := by decide +kernel
theorem hAB_get {n : Int} (h0 : 1 ≤ n) (h1 : n ≤ 127) : (1 ≤ hA n ∧ hA n ≤ 42 ∧ 1 ≤ hB n ∧ hB n ≤ 42) ∧ ((apN n == lenB n) = true → (Float64.cmpInt (Float64.add (Float64.mul (Float64.ofInt (hA n)) (Float64.ofInt (hA n))) (Float64.mul (Float64.ofInt (hB n)) (Float64.ofInt (hB n)))) (sternA n + sternB n) == some Ordering.eq) = true) := by
  obtain ⟨k, rfl⟩ := Int.eq_ofNat_of_zero_le (show 0 ≤ n by omega)
  have h := List.all_eq_true.mp hAB_all k (List.mem_range.mpr (by omega))
  have hk : (k == 0) = false := by rw [beq_eq_false_iff_ne]; omega
  rw [hk, Bool.false_or] at h
  have h2 := (Bool.and_eq_true _ _).mp h
  refine ⟨of_decide_eq_true h2.1, fun e => ?_⟩
  have h3 := h2.2
  rw [← (ap_get h0 h1).2.2.1, e] at h3
  simpa using h3
theorem halfc_all : ((List.range 128).all fun k => k == 0 || decide ((halfN (k : Int)).length ≤ 6 ∧ (((walkQ (halfN (k : Int)) (1, 0) (0, 1)).1.1 + (walkQ (halfN (k : Int)) (1, 0) (0, 1)).1.2 : Nat) : Int) = hA (k : Int) ∧ (((walkQ (halfN (k : Int)) (1, 0) (0, 1)).2.1 + (walkQ (halfN (k : Int)) (1, 0) (0, 1)).2.2 : Nat) : Int) = hB (k : Int))) = true := by decide +kernel
theorem halfc_get {n : Int} (h0 : 1 ≤ n) (h1 : n ≤ 127) : (halfN n).length ≤ 6 ∧ (((walkQ (halfN n) (1, 0) (0, 1)).1.1 + (walkQ (halfN n) (1, 0) (0, 1)).1.2 : Nat) : Int) = hA n ∧ (((walkQ (halfN n) (1, 0) (0, 1)).2.1 + (walkQ (halfN n) (1, 0) (0, 1)).2.2 : Nat) : Int) = hB n := by
  obtain ⟨k, rfl⟩ := Int.eq_ofNat_of_zero_le (show 0 ≤ n by omega)
  have h := List.all_eq_true.mp halfc_all k (List.mem_range.mpr (by omega))
  have hk : (k == 0) = false := by rw [beq_eq_false_iff_ne]; omega
  rw [hk, Bool.false_or] at h
  exact of_decide_eq_true h
theorem half_all {n k : Int} {sh va : UInt64} (h0 : 1 ≤ n) (h1 : n ≤ 127) (hL : Low k) (hs : Quarter sh) (hv : Quarter va) :
    (rgbOk (walkS (halfN n) (paint k sh va) (paint (k + 8) sh va)).1.1 (walkS (halfN n) (paint k sh va) (paint (k + 8) sh va)).1.2.1 (walkS (halfN n) (paint k sh va) (paint (k + 8) sh va)).1.2.2 = true ∧ ∃ z y, rgbT (walkS (halfN n) (paint k sh va) (paint (k + 8) sh va)).1 = (z, y, Float64.mul (Float64.ofInt (hA n)) va)) ∧
    (rgbOk (walkS (halfN n) (paint k sh va) (paint (k + 8) sh va)).2.1 (walkS (halfN n) (paint k sh va) (paint (k + 8) sh va)).2.2.1 (walkS (halfN n) (paint k sh va) (paint (k + 8) sh va)).2.2.2 = true ∧ ∃ z y, rgbT (walkS (halfN n) (paint k sh va) (paint (k + 8) sh va)).2 = (z, y, Float64.mul (Float64.ofInt (hB n)) va)) := by
  obtain ⟨hl, cA, cB⟩ := halfc_get h0 h1
  obtain ⟨⟨a1, a2, b1, b2⟩, _⟩ := hAB_get h0 h1
  obtain ⟨e, _, _⟩ := walk_paint hl hL hs hv
  rw [e]
  have mA := mix_told cA hL hs hv (by omega) a2
  have mB := mix_told cB hL hs hv (by omega) b2
  exact ⟨⟨mA.1, _, _, mA.2⟩, mB.1, _, _, mB.2⟩
noncomputable abbrev RetM (x : UInt64) : RetK := fun h₀ L m news s Q => ∀ (q : Addr) (z y : UInt64) (n1 n2 n3 : Tok) (h' : Heap) (tk' : Nat), Fr h₀ L h' m → News h₀ L h' ((q, tupO [.float z n1, .float y n2, .float x n3]) :: news) → (∀ p ∈ news, p.1 < q) → Q (.ref q) { s with heap := h', toks := tk' }
theorem half_toldA (w : World) (mean : ExcName → Option Value) (mg mb : Str → Option Value) (n k : Int) (sh va : UInt64) (t1 t2 t3 : Tok) (h0 : 1 ≤ n) (h1 : n ≤ 127) (hL : Low k) (hs : Quarter sh) (hv : Quarter va) :
    Told w mean mg mb 21 [.float (get3 (walkS (halfN n) (paint k sh va) (paint (k + 8) sh va)).1 0) t1, .float (get3 (walkS (halfN n) (paint k sh va) (paint (k + 8) sh va)).1 1) t2, .float (get3 (walkS (halfN n) (paint k sh va) (paint (k + 8) sh va)).1 2) t3] 1 1 (fun _ => True) (RetM (Float64.mul (Float64.ofInt (hA n)) va)) := by
  obtain ⟨hok, z, y, e⟩ := (half_all h0 h1 hL hs hv).1
  have := rgb_told3 w mean mg mb _ _ _ t1 t2 t3 hok
  rw [show rgbS _ _ _ = _ from e] at this
  exact told_mono this fun h₀ L m news s Q hr q n1 n2 n3 h' tk' hn F N lt => hr q _ _ n1 n2 n3 h' tk' F N lt
theorem half_toldB (w : World) (mean : ExcName → Option Value) (mg mb : Str → Option Value) (n k : Int) (sh va : UInt64) (t1 t2 t3 : Tok) (h0 : 1 ≤ n) (h1 : n ≤ 127) (hL : Low k) (hs : Quarter sh) (hv : Quarter va) :
    Told w mean mg mb 21 [.float (get3 (walkS (halfN n) (paint k sh va) (paint (k + 8) sh va)).2 0) t1, .float (get3 (walkS (halfN n) (paint k sh va) (paint (k + 8) sh va)).2 1) t2, .float (get3 (walkS (halfN n) (paint k sh va) (paint (k + 8) sh va)).2 2) t3] 1 1 (fun _ => True) (RetM (Float64.mul (Float64.ofInt (hB n)) va)) := by
  obtain ⟨hok, z, y, e⟩ := (half_all h0 h1 hL hs hv).2
  have := rgb_told3 w mean mg mb _ _ _ t1 t2 t3 hok
  rw [show rgbS _ _ _ = _ from e] at this
  exact told_mono this fun h₀ L m news s Q hr q n1 n2 n3 h' tk' hn F N lt => hr q _ _ n1 n2 n3 h' tk' F N lt
theorem divva_all : ((List.range 43).all fun p => p == 0 || quarters.all fun v => !Float64.isZero v && (Float64.div (Float64.mul (Float64.ofInt (p : Int)) v) v == Float64.ofInt (p : Int))) = true := by decide +kernel
theorem divva_get {p : Int} {v : UInt64} (h0 : 1 ≤ p) (h1 : p ≤ 42) (hv : Quarter v) : Float64.isZero v = false ∧ Float64.div (Float64.mul (Float64.ofInt p) v) v = Float64.ofInt p := by
  obtain ⟨k, rfl⟩ := Int.eq_ofNat_of_zero_le (show 0 ≤ p by omega)
  have h := List.all_eq_true.mp divva_all k (List.mem_range.mpr (by omega))
  have hk : (k == 0) = false := by rw [beq_eq_false_iff_ne]; omega
  rw [hk, Bool.false_or] at h
  have h2 := (Bool.and_eq_true _ _).mp (List.all_eq_true.mp h v hv.mem)
  exact ⟨by simpa using h2.1, eq_of_beq h2.2⟩
section
variable {prog : Program} {w : World} {A : Around} {E : Value → Shared → Prop} {s : Shared} {Q : Value → Shared → Prop} {t u : Tok}
theorem div_va {p : Int} {v : UInt64} (hA : A.handled = none) (h0 : 1 ≤ p) (h1 : p ≤ 42) (hv : Quarter v) (h : Q (.float (Float64.ofInt p) s.toks) { s with toks := s.toks + 1 }) : wpAny (model prog w) A (binaryOp .Div (.float (Float64.mul (Float64.ofInt p) v) t) (.float v u)) Q E s :=
  truediv_float_or hA (fun e => by rw [(divva_get h0 h1 hv).1] at e; cases e) (fun _ => by rw [(divva_get h0 h1 hv).2]; exact h)
theorem ne_whole {n : Int} (h0 : 1 ≤ n) (h1 : n ≤ 127) (e : (apN n == lenB n) = true) (h : Q (.bool false) s) :
    wpAny (model prog w) A (compareOp .NotEq (.float (Float64.add (Float64.mul (Float64.ofInt (hA n)) (Float64.ofInt (hA n))) (Float64.mul (Float64.ofInt (hB n)) (Float64.ofInt (hB n)))) t) (.int (sternA n + sternB n) u)) Q E s :=
  ne_fi (by unfold bne; rw [(hAB_get h0 h1).2 e]; exact h)
end
noncomputable def dif (n : Int) (k : Nat) : Bool := (bits 7 n).getD k 0 != (bits 7 (revN n)).getD k 0
noncomputable def difL (n : Int) : List Bool := (List.range ((bits 7 n).length / 2)).map (dif n)
noncomputable def bnum (b : Bool) : Int := if b = true then 1 else 0
theorem hf_dif (n : Int) : hfN n = (difL n).map bnum := by
  unfold hfN difL
  rw [List.map_map]; rfl
theorem rev_len {n : Int} (h0 : 1 ≤ n) (h1 : n ≤ 127) : (bits 7 (revN n)).length = (bits 7 n).length := by
  rw [← rev_bits h0 h1, List.length_reverse]
theorem pre_b (bs : List Bool) : ∀ k, k ≤ bs.length → preSum (fun i => bnum (bs.getD i false)) k = ((bs.take k).map bnum).sum
  | 0, _ => rfl
  | k + 1, h => by
    have e : bs[k]? = some (bs.getD k false) := by
      have : k < bs.length := h
      simp [List.getD, this]
    show preSum _ k + _ = _
    rw [pre_b bs k (by omega), List.take_add_one, e, List.map_append, List.sum_append]
    simp
section
variable {prog : Program} {w : World} {A : Around} {E : Value → Shared → Prop} {s : Shared} {h₀ : Heap} {L D : Addr} {m : Str → Option Value} {news : Led} {t u : Tok} {Q : Value → Shared → Prop}
theorem sum_bl {bs : List Bool} {Q : Value → Shared → Prop} (hh : A.handled = none) (F : Fr h₀ L s.heap m) (N : News h₀ L s.heap news) (hm : (D, LCg.lst (bs.map Value.bool)) ∈ news)
    (h : ∀ h' tk t', Fr h₀ L h' m → News h₀ L h' news → Q (.int (bs.map bnum).sum t') { s with heap := h', toks := tk }) :
    wpAny (model prog w) A (call (.builtin "sum") [.ref D]) Q E s := by
  have ht : s.heap.IsList D (bs.map Value.bool).toArray := ⟨_, (N _ hm).1, rfl, _, rfl⟩
  have hne : D ≠ s.heap.objs.size := Nat.ne_of_lt (Heap.lt_size (N _ hm).1)
  have W := (Walks.list (prog := prog) (w := w) (A := A.in1) hh s.heap.objs.size D hne (bs.map Value.bool).toArray).toS
  have hsz : (bs.map Value.bool).toArray.size = bs.length := by simp
  rw [hsz] at W
  refine call_sum_walkAnyB (wpAny_pyIter_list ht ?_)
  refine ⟨s.heap.objs.size, _, _, _, _, _, _, fun i => bnum (bs.getD i false), rfl, W, ⟨⟨_, Heap.get?_push_size _ rfl, rfl, rfl⟩, ht.at fun o e => Heap.get?_push_of_some _ e⟩, fun b hb => ?_, fun i v hP => ?_, fun s' t' hmv => ?_⟩
  · rcases List.mem_cons.mp hb with rfl | hb
    · exact Heap.lt_size (Heap.get?_push_size _ rfl)
    · obtain rfl := List.mem_singleton.mp hb
      exact Heap.lt_size (Heap.get?_push_of_some _ (N _ hm).1)
  · have hP' : (bs.map Value.bool)[i]? = some v := by simpa using hP
    rw [List.getElem?_map] at hP'
    cases hb : bs[i]? with
    | none => rw [hb] at hP'; cases hP'
    | some b =>
      rw [hb] at hP'
      cases hP'
      have : bs.getD i false = b := by simp [List.getD, hb]
      exact Or.inr ⟨b, rfl, by show bnum (bs.getD i false) = _; rw [this]; rfl⟩
  · obtain ⟨h', g', d', tk', os'⟩ := s'
    have e1 : g' = s.gens := hmv.gens
    have e2 : d' = s.drawn := hmv.drawn
    have e3 : os' = s.os := hmv.os
    subst e1 e2 e3
    have hk : ∀ b o, s.heap.get? b = some o → h'.get? b = some o := fun b o e => hmv.heap b o (fun hb => absurd (Heap.lt_size e) ((List.mem_singleton.mp hb) ▸ Nat.lt_irrefl _)) (Heap.get?_push_of_some _ e)
    have e : preSum (fun i => bnum (bs.getD i false)) bs.length = (bs.map bnum).sum := by rw [pre_b bs _ (Nat.le_refl _), List.take_length]
    rw [e]
    exact h h' tk' t' (F.keeps hk) (N.grown hk)
noncomputable def BInv (n : Int) (i : Nat) (ys : List Value) : Prop := ys = ((List.range i).map (dif n)).map Value.bool
theorem BInv.next {n : Int} {i : Nat} {ys : List Value} (h : BInv n i ys) : BInv n (i + 1) (ys ++ [Value.bool ((bits 7 n).getD (0 + (i : Int)).toNat 0 != (bits 7 (revN n)).getD (0 + (i : Int)).toNat 0)]) := by
  unfold BInv at h ⊢
  have e : (0 + (i : Int)).toNat = i := by omega
  rw [e, h, List.range_succ, List.map_append, List.map_append]; rfl
theorem half_src {env : Env} {elt : Expr} {x : Str} {scope : Scope} {cl : List (Str × Addr)} {Fin : Shared → List Value → Led → Prop} {r : Addr} {t u v : Tok} {n : Int} {s₁ : Shared}
    (hh : A.handled = none) (F : Fr h₀ L s₁.heap m) (N : News h₀ L s₁.heap news) (h0 : 1 ≤ n) (h1 : n ≤ 127) (hr : IsRange s₁.heap r 0 ((lenB n).fdiv 2) 1 t u v)
    (turn : ∀ (g : Heap) (i : Nat) (ys : List Value) (I : Addr) (oI : Obj) (C : Addr) (oC : Obj) (D : Addr) (m₂ : Str → Option Value) (h : Heap) (tk : Nat) (E' : Value → Shared → Prop) (t : Tok), i < (bits 7 n).length → i < (bits 7 (revN n)).length → i ≤ 6 → BInv n i ys → LCg.NsObj oC m₂ → m₂ x = some (.int (0 + (i : Int)) t) → Fr h₀ L h m → News h₀ L h ((I, oI) :: (C, oC) :: (D, LCg.lst ys) :: news) → LCg.Off3 I C D news → ((@Ne Nat I C) ∧ (@Ne Nat I D) ∧ (@Ne Nat C D)) →
      wpAny (model prog w) A (eval elt (compEnvC scope cl C env)) (LCg.CompEnd h₀ L m { s₁ with heap := h, toks := tk } I oI C oC D (LCg.lst ys) (fun _ => True) (fun y news' => news' = news ∧ BInv n (i + 1) (ys ++ [y]))) E' { (({ s₁ with heap := g } : Shared)) with heap := h, toks := tk })
    (hF : ∀ g, Fin { s₁ with heap := g } ((difL n).map Value.bool) news) : LCg.CompSrc prog w A h₀ L m env elt x scope cl Fin (.ref r) s₁ := by
  have hl := (bits_ok h0 h1).len
  have e : (lenB n).fdiv 2 = (((bits 7 n).length / 2 : Nat) : Int) := by
    unfold lenB
    rw [Int.fdiv_eq_ediv_of_nonneg _ (by omega)]; omega
  rw [e] at hr
  refine LCg.CompSrc.range (n := (bits 7 n).length / 2) hh F N hr (rng_len (by omega)).1 (rng_len (by omega)).2 (Nat.le_trans (show (bits 7 n).length / 2 ≤ 6 by omega) (Nat.le_of_ble_eq_true rfl)) fun g => ?_
  refine comp_inv (n := (bits 7 n).length / 2) (BInv n) ?_ ?_ ((bits 7 n).length / 2) 0 [] (by omega) rfl
  · rintro i ys v I oI C oC D m₂ h tk E' hi hW ⟨t, rfl⟩ hC hx F N off ne
    have := rev_len h0 h1
    exact turn g i ys I oI C oC D m₂ h tk E' t (by omega) (by omega) (by omega) hW hC hx F N off ne
  · intro ys hW
    have : ys = (difL n).map Value.bool := hW
    rw [this]; exact hF g
theorem comp_keepE {h' : Heap} {I C D : Addr} {s₁ : Shared} {oI oC oD : Obj} {rest : Value → Led → Prop} {y : Value} {tk : Nat} {news' : Led} (F : Fr h₀ L h' m) (N : News h₀ L h' ((I, oI) :: (C, oC) :: (D, oD) :: news')) (off : LCg.Off3 I C D news') (r : rest y news') : LCg.CompEnd h₀ L m s₁ I oI C oC D oD (fun _ => True) rest y { s₁ with heap := h', toks := tk } := ⟨h', tk, news', rfl, F, N, off, trivial, r⟩
theorem ne_ap {n : Int} (h0 : 1 ≤ n) (h1 : n ≤ 127) (h : Q (.bool false) s) : wpAny (model prog w) A (compareOp .NotEq (.int (apN n) t) (.int (2 * ((difL n).map bnum).sum) u)) Q E s :=
  ne_same (by rw [(ap_get h0 h1).2.2.1, hf_dif]) h
end
section
local macro_rules | `(tactic| k_ne) => `(tactic| first | (refine neN ?_; (try dsimp only); first | (with_reducible assumption) | exact ne_all (by with_reducible assumption) (by k_mem) | exact ne_all' (by with_reducible assumption) (by k_mem)) | (refine neN ?_; (try dsimp only); (repeat ((with_reducible rename (_ ≠ _ ∧ _) => o9); (have oa9 := o9.1); (have ob9 := o9.2); clear o9)); first | (with_reducible assumption) | (exact Ne.symm (by with_reducible assumption))) | (refine neN ?_; (try dsimp only); (repeat ((with_reducible rename (_ ≠ _ ∧ _) => o9); clear o9)); omega))
theorem said21 : True := by
  k_with "subscriptTail Name Slice str ref" => ((with_reducible show wpAny _ _ (subscriptTail _ (Expr.Slice (some _) none none _) (Value.str (S _) _) _) _ _ _); (with_reducible rename Fr _ _ _ _ => F'); (with_reducible rename News _ _ _ _ => N'); (refine sS_from (s := ⟨_, _, _, _, _⟩) F' N' (by (try simp only [List.length_drop, List.length_take, List.length_cons, List.length_nil, List.length_append, List.length_replicate]); omega) (by omega) ?_); intro _ _ _ _ _)
  k_with "subscriptTail Name Slice str ref" => ((with_reducible show wpAny _ _ (subscriptTail _ (Expr.Slice none (some _) none _) (Value.str (S _) _) _) _ _ _); (with_reducible rename Fr _ _ _ _ => F'); (with_reducible rename News _ _ _ _ => N'); (first | (refine sS_nn (s := ⟨_, _, _, _, _⟩) F' N' (by (try simp only [List.length_drop, List.length_take, List.length_cons, List.length_nil, List.length_append, List.length_replicate]); omega) ?_) | (refine sS_to (s := ⟨_, _, _, _, _⟩) F' N' (by (try simp only [List.length_drop, List.length_take, List.length_cons, List.length_nil, List.length_append, List.length_replicate]); omega) (by omega) (by (try simp only [List.length_drop, List.length_take, List.length_cons, List.length_nil, List.length_append, List.length_replicate]); omega) ?_) | (refine sS_toneg (s := ⟨_, _, _, _, _⟩) F' N' (by (try simp only [List.length_drop, List.length_take, List.length_cons, List.length_nil, List.length_append, List.length_replicate]); omega) (by omega) (by (try simp only [List.length_drop, List.length_take, List.length_cons, List.length_nil, List.length_append, List.length_replicate]); omega) ?_)); intro _ _ _ _ _)
  k_with "subscriptTail Name Name str int" => ((with_reducible show wpAny _ _ (subscriptTail _ _ (Value.str (S _) _) _) _ _ _); (refine sS_at (by (try simp only [List.length_drop, List.length_take, List.length_cons, List.length_nil, List.length_append, List.length_replicate]); omega) (by omega) (by (try simp only [List.length_drop, List.length_take, List.length_cons, List.length_nil, List.length_append, List.length_replicate]); omega) ?_))
  k_with "subscriptTail Name BinOp str int" => ((with_reducible show wpAny _ _ (subscriptTail _ _ (Value.str (S _) _) _) _ _ _); (first | (refine sS_at (by (try simp only [List.length_drop, List.length_take, List.length_cons, List.length_nil, List.length_append, List.length_replicate]); omega) (by omega) (by (try simp only [List.length_drop, List.length_take, List.length_cons, List.length_nil, List.length_append, List.length_replicate]); omega) ?_) | (refine sS_atneg (by (try simp only [List.length_drop, List.length_take, List.length_cons, List.length_nil, List.length_append, List.length_replicate]); omega) (by omega) (by (try simp only [List.length_drop, List.length_take, List.length_cons, List.length_nil, List.length_append, List.length_replicate]); omega) ?_)))
  k_with "compareOp Eq str str" => ((with_reducible show wpAny _ _ (compareOp _ (Value.str (S _) _) (Value.str (S _) _)) _ _ _); refine sS_eq ?_)
  k_with "compareOp NotEq str str" => ((with_reducible show wpAny _ _ (compareOp _ (Value.str (S _) _) (Value.str (S _) _)) _ _ _); refine sS_ne ?_)
  k_with "call builtin:len" => ((with_reducible show wpAny _ _ (call _ [Value.str (S _) _]) _ _ _); refine sS_len (by (try simp only [List.length_drop, List.length_take, List.length_cons, List.length_nil, List.length_append, List.length_replicate]); omega) ?_)
  k_with "truthy str" => ((with_reducible show wpAny _ _ (PySem.truthy (Value.str (S _) _)) _ _ _); (first | ((with_reducible show wpAny _ _ (PySem.truthy (Value.str (S (List.drop _ _)) _)) _ _ _); refine sS_truthy_drop (by omega) (by omega) ?_) | ((with_reducible show wpAny _ _ (PySem.truthy (Value.str (S (List.take _ _)) _)) _ _ _); refine sS_truthy_take (by omega) (by omega) (by omega) ?_) | refine sS_truthy (by (try simp only [List.length_drop, List.length_take, List.length_cons, List.length_nil, List.length_append, List.length_replicate]); omega) ?_))
  k_with "binaryOp Add str str" => ((with_reducible show wpAny _ _ (binaryOp _ (Value.str (S _) _) (Value.str (S _) _)) _ _ _); refine sS_add (by (try simp only [List.length_drop, List.length_take, List.length_cons, List.length_nil, List.length_append, List.length_replicate]); omega) (by (try simp only [List.length_drop, List.length_take, List.length_cons, List.length_nil, List.length_append, List.length_replicate]); omega) ?_; intro _ _)
  k_with "eval Constant str" => (first | refine sS_lit lit_257 ?_ | refine sS_lit lit_q ?_ | refine sS_lit lit_x ?_ | refine sS_lit lit_e ?_ | refine sS_lit lit_qy ?_ | refine sS_lit lit_qyq ?_ | refine sS_lit lit_z ?_ | refine sS_lit lit_y ?_ | refine sS_lit lit_abcd ?_ | refine sS_lit lit_ABCD ?_ | refine sS_lit lit_0123 ?_)
  k_with "binaryOp Mult str int" => ((with_reducible show wpAny _ _ (binaryOp _ (Value.str (S [_]) _) (Value.int _ _)) _ _ _); (refine sS_mul (by omega) (by omega) ?_); intro _ _)
  k_with "call builtin:str.count" => ((with_reducible show wpAny _ _ (call _ [Value.str (S _) _, Value.str (S [_]) _]) _ _ _); refine sS_count ?_)
  k_with "subscriptTail Name Slice str ref" => ((with_reducible show wpAny _ _ (subscriptTail _ (Expr.Slice (some _) none none _) (Value.str (S _) _) _) _ _ _); (with_reducible rename Fr _ _ _ _ => F'); (with_reducible rename News _ _ _ _ => N'); (refine sS_last (s := ⟨_, _, _, _, _⟩) F' N' (by first | exact Nat.le_trans (told_len _) (by omega) | ((try simp only [List.length_drop, List.length_take, List.length_cons, List.length_nil, List.length_append, List.length_replicate]); omega)) ?_); intro _ _ _ _ _)
  k_with "call ref" => (k_here; (with_reducible show wpAny _ _ (call (Value.ref 60) [Value.str (S _) _]) _ _ _); k_dflt (refine' told_use (parse_told2 _ _ _ _ _ _ _ ?kxz88 ?kyz88 ?kzz88) ?k1z88 ?k2z88 ?k3z88 ?k4z88 ?k5z88 ?kKz88 ?kpz88 ?kdz88 ?kuz88 ?_; (case kxz88 => omega); (case kyz88 => assumption); (case kzz88 => omega); (case k1z88 => k_asm); (case k2z88 => k_asm); (case k3z88 => k_asm); (case k4z88 => k_asm); (case k5z88 => k_asm); (case kKz88 => first | exact rfl | assumption); (case kpz88 => trivial); (case kdz88 => ktr_room); (case kuz88 => ktr_units)); intro t' h' tk' F' N'; (try dsimp only))
  k_with "call builtin:len" => ((with_reducible show wpAny _ _ (call _ [Value.str (S (told _)) _]) _ _ _); refine sS_len (Nat.le_trans (told_len _) (by omega)) ?_)
  k_with "call builtin:sum" => (k_here; (with_reducible show wpAny _ _ (call (Value.builtin "sum") [Value.ref _]) _ _ _); (rename IntsAre _ _ => hI9); (rename Fr _ _ _ _ => F'); (rename News _ _ _ _ => N'); k_dflt (refine sum_lst (by rfl) F' N' (.head _) rfl (hI9.pick _ _ _) ?_); clear F' N'; intro h' tk' t' F' N')
  k_with "execs cons" => ((with_reducible rename IntsAre _ (List.map _ (rangeKs 0 ((3 : Int) - 0).toNat)) => hI9); obtain ⟨d0, d1, d2, u0, u1, u2, e9⟩ := ints3 hI9 (by rw [List.length_map, rangeKs_length]; decide); clear hI9; subst e9)
  k_with "execs cons" => (k_here; (with_reducible show wpAny _ _ _ _ _ ⟨_, _, _, _ + 1, _⟩); k_dflt (refine gen_pos ?_); intro tk9 hk9)
  k_with "binaryOp Mod int int" => (refine mod_any (by decide) ?_; intro r9 hr0 hr1)
  k_with "binaryOp Div int int" => (first | ((with_reducible show wpAny _ _ (binaryOp _ (Value.int (_ + 1) _) (Value.int 4 _)) _ _ _); k_dflt (refine div_4 (by omega) (by omega) (by first | exact Nat.succ_ne_zero _ | (with_reducible assumption)) ?_); intro x9 n9 k9 hn9 hQ9) | ((with_reducible show wpAny _ _ (binaryOp _ _ (Value.int 64 _)) _ _ _); (rename Low _ => hL9); (have hb9 := hL9.bd); k_dflt (refine div_64 (by omega) (by omega) (by first | exact Nat.succ_ne_zero _ | (with_reducible assumption)) ?_); clear hb9; intro n9 k9 hn9))
  k_with "binaryOp Add int float" => ((with_reducible show wpAny _ _ (binaryOp _ (Value.int _ _) (Value.float (fr64 _) _)) _ _ _); (rename Low _ => hL9); (have hb9 := hL9.bd); k_dflt (refine add_r64 (by omega) (by omega) (by omega) (by omega) ?_); clear hb9)
  k_with "subscriptTail" => ((with_reducible show wpAny _ _ (subscriptTail _ (Expr.BinOp _ _ _ _) (Value.ref _) (Value.int _ _)) _ _ _); (rename News _ _ _ _ => N'); first | (k_dflt (refine menu_low N' (.head _) (by omega) (by omega) ?_); intro x9 n9 hL9) | (k_dflt (refine menu_end N' (.head _) (by omega) (by omega) ?_); intro e9 n9 he9 hl9))
  k_with "call ref" => (k_here; (with_reducible show wpAny _ _ (call (Value.ref 28) [Value.float (fr64 _) _, Value.float _ _, Value.float _ _]) _ _ _); (rename Low _ => hL9); k_dflt (refine' told_use (hsv_told3 _ _ _ _ _ _ _ _ _ _ _ ?kxz97 ?kyz97 ?kzz97 ?ksz97 ?kvz97 ?ktz97) ?k1z97 ?k2z97 ?k3z97 ?k4z97 ?k5z97 ?kKz97 ?kpz97 ?kdz97 ?kuz97 ?_; (case kxz97 => omega); (case kyz97 => omega); (case kzz97 => first | exact hL9.inKs | exact hL9.inKs8); (case ksz97 => with_reducible assumption); (case kvz97 => with_reducible assumption); (case ktz97 => with_reducible assumption); (case k1z97 => k_asm); (case k2z97 => k_asm); (case k3z97 => k_asm); (case k4z97 => k_asm); (case k5z97 => k_asm); (case kKz97 => first | exact rfl | assumption); (case kpz97 => trivial); (case kdz97 => ktr_room); (case kuz97 => ktr_units)); intro q' n1' n2' n3' h' tk' hn9 F' N' l1; (have hn1 := (hn9 True.intro).1); (have hn2 := (hn9 True.intro).2.1); (have hn3 := (hn9 True.intro).2.2); clear hn9; (try k_lt l1); (try dsimp only))
  k_with "call ref" => (k_here; (with_reducible show wpAny _ _ (call (Value.ref 21) [Value.float _ _, Value.float _ _, Value.float _ _]) _ _ _); k_dflt (refine' told_use (grey_told _ _ _ _ _ _ _ _ ?ksz98 ?kxz98 ?kyz98 ?kzz98) ?k1z98 ?k2z98 ?k3z98 ?k4z98 ?k5z98 ?kKz98 ?kpz98 ?kdz98 ?kuz98 ?_; (case ksz98 => with_reducible assumption); (case kxz98 => with_reducible assumption); (case kyz98 => with_reducible assumption); (case kzz98 => with_reducible assumption); (case k1z98 => k_asm); (case k2z98 => k_asm); (case k3z98 => k_asm); (case k4z98 => k_asm); (case k5z98 => k_asm); (case kKz98 => first | exact rfl | assumption); (case kpz98 => trivial); (case kdz98 => ktr_room); (case kuz98 => ktr_units)); intro q' n1' n2' n3' h' tk' hn9 F' N' l1; (have hn1 := (hn9 True.intro).1); (have hn2 := (hn9 True.intro).2.1); (have hn3 := (hn9 True.intro).2.2); clear hn9; (try k_lt l1); (try dsimp only))
  k_with "compareOp NotEq ref ref" => (k_here; (with_reducible show wpAny _ _ (compareOp _ (Value.ref _) (Value.ref _)) _ _ _); (rename Fr _ _ _ _ => F9); (rename News _ _ _ _ => N9); (k_dflt (refine' ne_t3 (x := 0) (y := 0) ?Xz99 (no_shared _) F9.keep N9 ?haz99 ?hbz99 ?huz99 ?hxz99 ?hyz99 ?hzz99 ?h1z99 ?h2z99 ?h3z99 ?h4z99 ?h5z99 ?h6z99 ?_; (case Xz99 => k_in); (case haz99 => k_mem); (case hbz99 => k_mem); (case hxz99 => decide +kernel); (case hyz99 => decide +kernel); (case hzz99 => exact cmp_q (by with_reducible assumption)); (case huz99 => k_units); (case h1z99 => first | exact Nat.succ_ne_zero _ | (with_reducible assumption)); (case h2z99 => first | exact Nat.succ_ne_zero _ | (with_reducible assumption)); (case h3z99 => first | exact Nat.succ_ne_zero _ | (with_reducible assumption)); (case h4z99 => first | exact Nat.succ_ne_zero _ | (with_reducible assumption)); (case h5z99 => first | exact Nat.succ_ne_zero _ | (with_reducible assumption)); (case h6z99 => first | exact Nat.succ_ne_zero _ | (with_reducible assumption)))))
  k_with "eval ListComp" => (k_here; (with_reducible show wpAny _ _ (eval (Expr.ListComp (Expr.Call (Expr.Name _ _) _ _ _) [_] _ _) _) _ _ _); (k_dflt (refine comp_T (by k_asm) (by rfl) (by decide) (by rfl) (by decide) (by rfl) ?_)))
  k_with "SrcT" => (k_here; k_dflt (refine srcT (by rfl) (by k_asm) (by k_asm) (by k_mem) (Nat.le_of_ble_eq_true rfl) ?_); intro g9)
  k_with "CompRest" => (with_unfolding_all (refine LCg.CompRest.succ ?_; intro v' I' oI' C' oC' D' m' h' tk' E' hv' hC' hx' F' N' off' ne'; (first | lcg_open hv' | (obtain ⟨t9', hv9'⟩ := hv'; subst hv9') | (cases hv'))))
  k_with "CompEnd" => ((rename LCg.Off3 _ _ _ _ => off9); k_dflt (first | refine comp_same (by with_reducible assumption) (by first | with_reducible assumption | assumption) off9 (by first | trivial | k_mem) ?_ | refine comp_dropS (by with_reducible assumption) (by first | with_reducible assumption | assumption) off9 (by first | trivial | k_mem) ?_); clear off9)
  k_with "binaryOp Mult int float" => ((with_reducible show wpAny _ _ (binaryOp _ (Value.int 6 _) (Value.float _ _)) _ _ _); k_dflt (refine mul_6 ?_))
  k_with "call builtin:round" => ((with_reducible show wpAny _ _ (call _ [Value.float (Float64.mul (Float64.ofInt 6) _) _]) _ _ _); k_dflt (first | refine round_is (k := 1) (by rfl) (by decide +kernel) ?_ | refine round_is (k := 3) (by rfl) (by decide +kernel) ?_ | refine round_is (k := 5) (by rfl) (by decide +kernel) ?_))
  k_with "call ref" => (k_here; (with_reducible show wpAny _ _ (call (Value.ref 21) [Value.float _ _, Value.float _ _, Value.float _ _]) _ _ _); k_dflt (refine' told_use (corner_toldA _ _ _ _ _ _ _ _ ?ksz106) ?k1z106 ?k2z106 ?k3z106 ?k4z106 ?k5z106 ?kKz106 ?kpz106 ?kdz106 ?kuz106 ?_; (case ksz106 => with_reducible assumption); (case k1z106 => k_asm); (case k2z106 => k_asm); (case k3z106 => k_asm); (case k4z106 => k_asm); (case k5z106 => k_asm); (case kKz106 => first | exact rfl | assumption); (case kpz106 => trivial); (case kdz106 => ktr_room); (case kuz106 => ktr_units)); intro q' n1' n2' n3' h' tk' hn9 F' N' l1; clear hn9; (try k_lt l1); (try dsimp only))
  k_with "call ref" => (k_here; (with_reducible show wpAny _ _ (call (Value.ref 21) [Value.float _ _, Value.float _ _, Value.float _ _]) _ _ _); k_dflt (refine' told_use (corner_toldB _ _ _ _ _ _ _ _ ?ksz107) ?k1z107 ?k2z107 ?k3z107 ?k4z107 ?k5z107 ?kKz107 ?kpz107 ?kdz107 ?kuz107 ?_; (case ksz107 => with_reducible assumption); (case k1z107 => k_asm); (case k2z107 => k_asm); (case k3z107 => k_asm); (case k4z107 => k_asm); (case k5z107 => k_asm); (case kKz107 => first | exact rfl | assumption); (case kpz107 => trivial); (case kdz107 => ktr_room); (case kuz107 => ktr_units)); intro q' n1' n2' n3' h' tk' hn9 F' N' l1; clear hn9; (try k_lt l1); (try dsimp only))
  k_with "call ref" => (k_here; (with_reducible show wpAny _ _ (call (Value.ref 21) [Value.float _ _, Value.float _ _, Value.float _ _]) _ _ _); k_dflt (refine' told_use (corner_toldC _ _ _ _ _ _ _ _ ?ksz108) ?k1z108 ?k2z108 ?k3z108 ?k4z108 ?k5z108 ?kKz108 ?kpz108 ?kdz108 ?kuz108 ?_; (case ksz108 => with_reducible assumption); (case k1z108 => k_asm); (case k2z108 => k_asm); (case k3z108 => k_asm); (case k4z108 => k_asm); (case k5z108 => k_asm); (case kKz108 => first | exact rfl | assumption); (case kpz108 => trivial); (case kdz108 => ktr_room); (case kuz108 => ktr_units)); intro q' n1' n2' n3' h' tk' hn9 F' N' l1; clear hn9; (try k_lt l1); (try dsimp only))
  k_with "call ref" => (k_here; (with_reducible show wpAny _ _ (call (Value.ref 81) [Value.int _ _, Value.str (S _) _]) _ _ _); (k_dflt (refine' told_use (lread_told _ _ _ _ _ _ _ _ ?x1z109 ?x2z109 ?x3z109 ?x4z109) ?k1z109 ?k2z109 ?k3z109 ?k4z109 ?k5z109 ?kKz109 ?kpz109 ?kdz109 ?kuz109 ?_; (case k1z109 => k_asm); (case k2z109 => k_asm); (case k3z109 => k_asm); (case k4z109 => k_asm); (case k5z109 => k_asm); (case kKz109 => first | exact rfl | assumption); (case kpz109 => trivial); (case x1z109 => omega); (case x2z109 => omega); (case x3z109 => with_reducible assumption); (case x4z109 => with_reducible assumption); (case kdz109 => ktr_room); (case kuz109 => ktr_units))); intro q' vs' n' h' tk' hI' F' N' ne'; (try dsimp only))
  k_with "call ref" => (k_here; (with_reducible show wpAny _ _ (call (Value.ref 93) [Value.int _ _]) _ _ _); (k_dflt (refine' told_use (stern_told _ _ _ _ _ _ ?x1z110 ?x2z110) ?k1z110 ?k2z110 ?k3z110 ?k4z110 ?k5z110 ?kKz110 ?kpz110 ?kdz110 ?kuz110 ?_; (case k1z110 => k_asm); (case k2z110 => k_asm); (case k3z110 => k_asm); (case k4z110 => k_asm); (case k5z110 => k_asm); (case kKz110 => first | exact rfl | assumption); (case kpz110 => trivial); (case x1z110 => omega); (case x2z110 => omega); (case kdz110 => ktr_room); (case kuz110 => ktr_units))); intro q' n1' n2' h' tk' F' N' ne'; (try dsimp only))
  k_with "call ref" => (k_here; (with_reducible show wpAny _ _ (call (Value.ref 86) [Value.ref _, Value.ref _, Value.ref _]) _ _ _); (k_dflt (refine' told_use (walk_told _ _ _ _ _ _ _ _ _ _ _ _ true true _ _ _ _ _ _ 0 0 ?xIz111) ?k1z111 ?k2z111 ?k3z111 ?k4z111 ?k5z111 ?kKz111 ?kpz111 ?kdz111 ?kuz111 ?_; (case k1z111 => k_asm); (case k2z111 => k_asm); (case k3z111 => k_asm); (case k4z111 => k_asm); (case k5z111 => k_asm); (case kKz111 => first | exact rfl | assumption); (case kpz111 => exact ⟨by k_mem, by k_mem, by k_mem⟩); (case xIz111 => assumption); (case kdz111 => ktr_room); (case kuz111 => ktr_units))); intro q' qa' qb' ka' kb' n1' n2' n3' n4' n5' n6' z' y' h' tk' F' N' ne'; (try dsimp only))
  k_with "call ref" => (k_here; (with_reducible show wpAny _ _ (call (Value.ref 98) [Value.ref _]) _ _ _); (k_dflt (refine' told_use (lword_told _ _ _ _ _ _ _ _ ?xIz112 ?xBz112) ?k1z112 ?k2z112 ?k3z112 ?k4z112 ?k5z112 ?kKz112 ?kpz112 ?kdz112 ?kuz112 ?_; (case k1z112 => k_asm); (case k2z112 => k_asm); (case k3z112 => k_asm); (case k4z112 => k_asm); (case k5z112 => k_asm); (case kKz112 => first | exact rfl | assumption); (case kpz112 => k_mem); (case xIz112 => assumption); (case xBz112 => first | exact bits_ok (by omega) (by omega) | exact (bits_ok (by omega) (by omega)).rev); (case kdz112 => ktr_room); (case kuz112 => ktr_units))); intro t' h' tk' F' N'; (try dsimp only))
  k_with "subscriptTail" => ((with_reducible show wpAny _ _ (subscriptTail (Expr.Name _ _) _ (Value.ref _) (Value.int _ _)) _ _ _); (rename News _ _ _ _ => N'); k_dflt (refine at_o3 N' (by k_mem) (k := 0) (by rfl) (by decide) ?_))
  k_with "subscriptTail" => ((with_reducible show wpAny _ _ (subscriptTail (Expr.Name _ _) _ (Value.ref _) (Value.int _ _)) _ _ _); (rename News _ _ _ _ => N'); k_dflt (refine at_o3 N' (by k_mem) (k := 1) (by rfl) (by decide) ?_))
  k_with "subscriptTail" => ((with_reducible show wpAny _ _ (subscriptTail (Expr.Name _ _) _ (Value.ref _) (Value.int _ _)) _ _ _); (rename News _ _ _ _ => N'); k_dflt (refine at_o3 N' (by k_mem) (k := 2) (by rfl) (by decide) ?_))
  k_with "subscriptTail Name Slice ref ref" => (k_here; (with_reducible show wpAny _ _ (subscriptTail _ (PySem.Expr.Slice none none (some _) _) (Value.ref _) (Value.ref _)) _ _ _); (rename IntsAre _ (bits _ _) => hI9); (k_dflt (refine' krv_ints ?Fz116 ?Nz116 ?lz116 ?kz116 hI9 ?_ ?sz116 ?tz116 ?zz116; (case Fz116 => k_asm); (case Nz116 => k_asm); (case lz116 => kmk_list); (case kz116 => exact IsPart.int _ _); (case sz116 => with_unfolding_all rfl); (case tz116 => kmk_pure); (case zz116 => exact bits_size hI9 (by omega) (by omega)))); intro D' ws' h' F' N' l1 hI' hC'; (obtain ⟨hI9', hM8', hM9'⟩ := rev_ints hI' (by omega) (by omega)); clear hI' hC'; (try k_lt l1); (try k_sweep))
  k_with "call ref" => (k_here; (with_reducible show wpAny _ _ (call (Value.ref 21) [Value.float (Float64.add (get3 (walkS (bits 7 _) _ _).1 0) _) _, Value.float _ _, Value.float _ _]) _ _ _); (k_dflt (refine' told_use (pot_told _ _ _ _ _ _ _ _ _ _ _ _ ?x0z117 ?x1z117 ?xWz117 ?xLz117 ?xsz117 ?xvz117) ?k1z117 ?k2z117 ?k3z117 ?k4z117 ?k5z117 ?kKz117 ?kpz117 ?kdz117 ?kuz117 ?_; (case k1z117 => k_asm); (case k2z117 => k_asm); (case k3z117 => k_asm); (case k4z117 => k_asm); (case k5z117 => k_asm); (case kKz117 => first | exact rfl | assumption); (case kpz117 => trivial); (case x0z117 => omega); (case x1z117 => omega); (case xWz117 => exact rfl); (case xLz117 => with_reducible assumption); (case xsz117 => with_reducible assumption); (case xvz117 => with_reducible assumption); (case kdz117 => ktr_room); (case kuz117 => ktr_units))); intro q' n1' n2' n3' h' tk' hn9 F' N' l1; clear hn9; (try k_lt l1); (try dsimp only))
  k_with "call ref" => (k_here; (with_reducible show wpAny _ _ (call (Value.ref 21) [Value.float (Float64.add (get3 (walkS (bits 7 (revN _)) _ _).1 0) _) _, Value.float _ _, Value.float _ _]) _ _ _); (k_dflt (refine' told_use (pot_told2 _ _ _ _ _ _ _ _ _ _ _ ?x0z118 ?x1z118 ?xLz118 ?xsz118 ?xvz118) ?k1z118 ?k2z118 ?k3z118 ?k4z118 ?k5z118 ?kKz118 ?kpz118 ?kdz118 ?kuz118 ?_; (case k1z118 => k_asm); (case k2z118 => k_asm); (case k3z118 => k_asm); (case k4z118 => k_asm); (case k5z118 => k_asm); (case kKz118 => first | exact rfl | assumption); (case kpz118 => trivial); (case x0z118 => omega); (case x1z118 => omega); (case xLz118 => with_reducible assumption); (case xsz118 => with_reducible assumption); (case xvz118 => with_reducible assumption); (case kdz118 => ktr_room); (case kuz118 => ktr_units))); intro q' n1' n2' n3' h' tk' hn9 F' N' l1; clear hn9; (try k_lt l1); (try dsimp only))
  k_with "compareOp NotEq float float" => (first | (k_dflt (refine ne_fsame (cmp_q (by with_reducible assumption)) ?_)) | ((k_dflt (refine ne_worth (by omega) (by omega) (by with_reducible assumption) ?_))))
  k_with "binaryOp Mult int float" => (first | (with_reducible refine mul_iw (by omega) (by omega) ?_) | ((with_reducible show wpAny _ _ (binaryOp _ (Value.int 64 _) (Value.float _ _)) _ _ _); (with_reducible refine mul_if_fits (fits_of (by decide)) ?_)))
  k_with "binaryOp Mult float int" => (first | (with_reducible refine mul_fw (by omega) (by omega) ?_) | ((with_reducible show wpAny _ _ (binaryOp _ (Value.float _ _) (Value.int 1024 _)) _ _ _); (with_reducible refine mul_fi_fits (fits_of (by decide)) ?_)))
  k_with "binaryOp Sub float int" => ((with_reducible show wpAny _ _ (binaryOp _ (Value.float (Float64.mul (Float64.ofInt 64) _) _) (Value.int _ _)) _ _ _); (rename Low _ => hL9); (have hb9 := hL9.bd); (with_reducible refine sub_fi_fits (fits_of (by omega)) ?_); clear hb9)
  k_with "execs cons" => (k_here; (with_reducible show wpAny _ _ (execs (Stmt.Expr (Expr.Call (Expr.Attribute (Expr.Name (Str.ofString "ways") _) _ _) _ _ _) _ :: _) _) _ _ _); (rename News _ _ _ _ => N9); (have N' := drop4 N9); clear N9)
  k_with "call builtin:round" => (k_here; (with_reducible show wpAny _ _ (call _ [Value.float (Float64.mul (Float64.mul _ _) _) _]) _ _ _); (try dsimp only); first | ((with_reducible show wpAny _ _ (call _ [Value.float (Float64.mul (Float64.mul (Float64.sub (Float64.mul _ (hueP (revN _) _)) _) _) _) _]) _ _ _); (k_dflt (refine round_way2 (by rfl) (by omega) (by omega) (by with_reducible assumption) ?_))) | (k_dflt (refine round_way (by rfl) (by omega) (by omega) (by with_reducible assumption) rfl ?_)))
  k_with "compareOp NotEq int int" => (k_dflt (first | (with_reducible refine ne_same rfl ?_)))
  k_with "binaryOp Mod int int" => ((with_reducible show wpAny _ _ (binaryOp _ (Value.int (8192 * _) _) (Value.int 8192 _)) _ _ _); with_reducible refine mod_8192 ?_)
  k_with "binaryOp FloorDiv int int" => ((with_reducible show wpAny _ _ (binaryOp _ (Value.int (8192 * _) _) (Value.int 8192 _)) _ _ _); with_reducible refine div_8192 ?_)
  k_with "compareOp Lt int int" => ((with_reducible show wpAny _ _ (compareOp _ (Value.int (sternA _) _) (Value.int 1 _)) _ _ _); (rename IntsAre _ (bits _ (revN _)) => hI9); k_dflt (refine lt_is (c := false) (decide_eq_false (Int.not_lt.mpr (stern_bd (by omega) (by omega)).1)) ?_))
  k_with "compareOp GtE int int" => ((with_reducible show wpAny _ _ (compareOp _ (Value.int (sternA (revN _)) _) (Value.int (sternA _ + sternB _) _)) _ _ _); k_dflt (refine ge_is (c := false) (decide_eq_false (Int.not_le.mpr (inv_get (by omega) (by omega)).2)) ?_))
  k_with "binaryOp Mult int int" => ((with_reducible show wpAny _ _ (binaryOp _ (Value.int _ _) (Value.int (sternA _) _)) _ _ _); with_reducible refine mul_small (Int.le_trans (by decide) (stern_bd (by omega) (by omega)).1) (Int.le_trans (stern_bd (by omega) (by omega)).2.1 (by decide)) ?_)
  k_with "binaryOp Mod int int" => ((with_reducible show wpAny _ _ (binaryOp _ (Value.int (sternA _ * sternA _) _) (Value.int (sternA _ + sternB _) _)) _ _ _); first | (with_reducible refine mod_inv (by omega) (by omega) ?_) | (with_reducible refine mod_sqr (by omega) (by omega) ?_))
  k_with "call ref" => (k_here; (with_reducible show wpAny _ _ (call (Value.ref 74) [Value.str (S (wordL _)) _, Value.str (S (wordL _)) _, Value.int _ _]) _ _ _); (k_dflt (refine' told_use (lev_toldP _ _ _ _ _ _ _ _ ?x1z132 ?x2z132) ?k1z132 ?k2z132 ?k3z132 ?k4z132 ?k5z132 ?kKz132 ?kpz132 ?kdz132 ?kuz132 ?_; (case k1z132 => k_asm); (case k2z132 => k_asm); (case k3z132 => k_asm); (case k4z132 => k_asm); (case k5z132 => k_asm); (case kKz132 => first | exact rfl | assumption); (case kpz132 => trivial); (case x1z132 => omega); (case x2z132 => omega); (case kdz132 => ktr_room); (case kuz132 => ktr_units))); intro t' h' tk' F' N'; (try dsimp only))
  k_with "call ref" => (k_here; (with_reducible show wpAny _ _ (call (Value.ref 74) [Value.str (S _) _, Value.str (S _) _, Value.int (apN _ + 3) _]) _ _ _); (k_dflt (refine' told_use (lev_toldQ _ _ _ _ _ _ _ _ ?x1z133 ?x2z133) ?k1z133 ?k2z133 ?k3z133 ?k4z133 ?k5z133 ?kKz133 ?kpz133 ?kdz133 ?kuz133 ?_; (case k1z133 => k_asm); (case k2z133 => k_asm); (case k3z133 => k_asm); (case k4z133 => k_asm); (case k5z133 => k_asm); (case kKz133 => first | exact rfl | assumption); (case kpz133 => trivial); (case x1z133 => omega); (case x2z133 => omega); (case kdz133 => ktr_room); (case kuz133 => ktr_units))); intro t' h' tk' F' N'; (try dsimp only))
  k_with "call builtin:len" => (k_here; (with_reducible show wpAny _ _ (call _ [Value.ref _]) _ _ _); (rename News _ _ _ _ => N'); (k_dflt (refine len_bits N' (by k_mem) (by with_reducible assumption) (by omega) (by omega) ?_)))
  k_with "compareOp NotEq bool bool" => (k_dflt (first | refine ne_b (ap_get (by omega) (by omega)).1 ?_ | refine ne_b (ap_get (by omega) (by omega)).2.1 ?_))
  k_with "eval Constant str" => (first | refine sS_lit lit_zz ?_ | refine sS_lit lit_y ?_)
  k_with "subscriptTail Name Slice ref ref" => (k_here; (with_reducible show wpAny _ _ (subscriptTail _ (PySem.Expr.Slice none (some _) none _) (Value.ref _) (Value.ref _)) _ _ _); (k_dflt (refine' kmk_slice_ints ?Fz137 ?Nz137 ?lz137 ?pz137 ?qz137 ?iz137 ?mz137 rfl ?_ ?sz137 ?tz137 ?zz137; (case Fz137 => k_asm); (case Nz137 => k_asm); (case lz137 => kmk_list); (case pz137 => exact IsPart.none); (case qz137 => exact IsPart.int _ _); (case iz137 => with_reducible assumption); (case mz137 => exact IntsAre.pick (by with_reducible assumption) _ _ _); (case sz137 => with_unfolding_all rfl); (case tz137 => kmk_pure); (case zz137 => exact bits_size (by with_reducible assumption) (by omega) (by omega)))); intro D' ws' h' F' N' l1 hI' hC' hL'; clear hC' hL'; (try k_lt l1); (try k_sweep))
  k_with "exec Assign cons ListComp" => (k_here; (with_reducible show wpAny _ _ (exec (Stmt.Assign [Expr.Name (Str.ofString "sides") _] (Expr.ListComp _ _ _ _) _) _) _ _ _); (k_dflt (refine assign_T (by k_asm) (by rfl) (by with_unfolding_all rfl) (by with_unfolding_all rfl) (by decide) (by rfl) (by decide) (by rfl) (by rfl) (by rfl) ?_)))
  k_with "compareOp NotEq float int" => ((k_dflt (first | refine ne_whole (by omega) (by omega) (by with_reducible assumption) ?_ | refine ne_whole (by omega) (by omega) (beq_iff_eq.mpr (by with_reducible assumption)) ?_)))
  k_with "call ref" => (k_here; (with_reducible show wpAny _ _ (call (Value.ref 21) [Value.float (get3 (walkS (pickNums _ _ _ _) _ _).1 _) _, Value.float _ _, Value.float _ _]) _ _ _); (k_dflt (refine' told_use (half_toldA _ _ _ _ _ _ _ _ _ _ _ ?x0z140 ?x1z140 ?xLz140 ?xsz140 ?xvz140) ?k1z140 ?k2z140 ?k3z140 ?k4z140 ?k5z140 ?kKz140 ?kpz140 ?kdz140 ?kuz140 ?_; (case k1z140 => k_asm); (case k2z140 => k_asm); (case k3z140 => k_asm); (case k4z140 => k_asm); (case k5z140 => k_asm); (case kKz140 => first | exact rfl | assumption); (case kpz140 => trivial); (case x0z140 => omega); (case x1z140 => omega); (case xLz140 => with_reducible assumption); (case xsz140 => with_reducible assumption); (case xvz140 => with_reducible assumption); (case kdz140 => ktr_room); (case kuz140 => ktr_units))); intro q' z' y' n1' n2' n3' h' tk' F' N' l1; (try k_lt l1); (try dsimp only))
  k_with "call ref" => (k_here; (with_reducible show wpAny _ _ (call (Value.ref 21) [Value.float (get3 (walkS (pickNums _ _ _ _) _ _).2 _) _, Value.float _ _, Value.float _ _]) _ _ _); (k_dflt (refine' told_use (half_toldB _ _ _ _ _ _ _ _ _ _ _ ?x0z141 ?x1z141 ?xLz141 ?xsz141 ?xvz141) ?k1z141 ?k2z141 ?k3z141 ?k4z141 ?k5z141 ?kKz141 ?kpz141 ?kdz141 ?kuz141 ?_; (case k1z141 => k_asm); (case k2z141 => k_asm); (case k3z141 => k_asm); (case k4z141 => k_asm); (case k5z141 => k_asm); (case kKz141 => first | exact rfl | assumption); (case kpz141 => trivial); (case x0z141 => omega); (case x1z141 => omega); (case xLz141 => with_reducible assumption); (case xsz141 => with_reducible assumption); (case xvz141 => with_reducible assumption); (case kdz141 => ktr_room); (case kuz141 => ktr_units))); intro q' z' y' n1' n2' n3' h' tk' F' N' l1; (try k_lt l1); (try dsimp only))
  k_with "binaryOp Div float float" => ((with_reducible show wpAny _ _ (binaryOp _ (Value.float (Float64.mul (Float64.ofInt (hA _)) _) _) _) _ _ _); (k_dflt (refine div_va (by rfl) (hAB_get (by omega) (by omega)).1.1 (hAB_get (by omega) (by omega)).1.2.1 (by with_reducible assumption) ?_)))
  k_with "binaryOp Div float float" => ((with_reducible show wpAny _ _ (binaryOp _ (Value.float (Float64.mul (Float64.ofInt (hB _)) _) _) _) _ _ _); (k_dflt (refine div_va (by rfl) (hAB_get (by omega) (by omega)).1.2.2.1 (hAB_get (by omega) (by omega)).1.2.2.2 (by with_reducible assumption) ?_)))
  k_with "CompSrc" => (k_here; (rename IsRange _ _ 0 (Int.fdiv (lenB _) 2) 1 _ _ _ => R9); (rename Fr _ _ _ _ => lF'); (rename News _ _ _ _ => lN'); (k_dflt (refine half_src (by rfl) lF' lN' (by omega) (by omega) R9 ?_ ?_)); (clear lF' lN' R9; intro g' i' ys' I' oI' C' oC' D' m' h' tk' E' t' hi1' hi2' hi3' hW' hC' hx' F' N' off' ne'); rotate_left; (clear lF' lN' R9; intro g'); rotate_left)
  k_with "CompEnd" => ((rename BInv _ _ _ => hB9); (rename LCg.Off3 _ _ _ _ => off9); (k_dflt (refine comp_keepE (by with_reducible assumption) (by first | with_reducible assumption | assumption) off9 ⟨rfl, BInv.next hB9⟩)))
  k_with "call builtin:sum" => (k_here; (with_reducible show wpAny _ _ (call (Value.builtin "sum") [Value.ref _]) _ _ _); (rename Fr _ _ _ _ => F'); (rename News _ _ _ _ => N'); (k_dflt (refine sum_bl (by rfl) F' N' (.head _) ?_)); clear F' N'; intro h' tk' t' F' N')
  k_with "compareOp NotEq int int" => ((with_reducible show wpAny _ _ (compareOp _ (Value.int (apN _) _) (Value.int (_ * _) _)) _ _ _); (k_dflt (refine ne_ap (by omega) (by omega) ?_)))
  k_with "binaryOp Add str str" => ((with_reducible show wpAny _ _ (binaryOp _ (Value.str (S _) _) (Value.str (S (wordL _)) _)) _ _ _); (k_dflt (refine sS_add (by simp) (Nat.le_trans (word_len (by omega) (by omega)) (by decide)) ?_)); intro _ _)
  k_with "execs cons" => (k_here; (with_reducible show wpAny _ _ (execs ((Stmt.Assign [Expr.Name (Str.ofString "read") _] _ _) :: _) _) _ _ _); (fail_if_success (rename Mark 1 => mk9)); (rename Fr _ _ _ _ => F9); (rename News _ _ _ _ => N9); (rename Shared.gens _ = #[] => hg9); k_dflt (refine trimH6 hg9 (x1 := Str.ofString "drawn") (x2 := Str.ofString "number") (x3 := Str.ofString "low") (x4 := Str.ofString "share") (x5 := Str.ofString "left") (x6 := Str.ofString "right") F9 N9 rfl rfl rfl rfl rfl rfl rfl (sub_cons (.tail _ (.tail _ (.tail _ (.tail _ (.tail _ (.tail _ (.tail _ (.tail _ (.head _))))))))) (sub_cons (.tail _ (.tail _ (.tail _ (.tail _ (.tail _ (.tail _ (.tail _ (.tail _ (.tail _ (.head _)))))))))) (sub_cons (.tail _ (.tail _ (.tail _ (.tail _ (.tail _ (.tail _ (.tail _ (.tail _ (.tail _ (.tail _ (.tail _ (.tail _ (.head _))))))))))))) (sub_cons (.tail _ (.tail _ (.tail _ (.tail _ (.tail _ (.tail _ (.tail _ (.tail _ (.tail _ (.tail _ (.tail _ (.tail _ (.tail _ (.head _)))))))))))))) (sub_cons (.tail _ (.tail _ (.tail _ (.tail _ (.tail _ (.tail _ (.tail _ (.tail _ (.tail _ (.tail _ (.tail _ (.tail _ (.tail _ (.tail _ (.head _))))))))))))))) (sub_cons (.tail _ (.tail _ (.tail _ (.tail _ (.tail _ (.tail _ (.tail _ (.tail _ (.tail _ (.tail _ (.tail _ (.tail _ (.tail _ (.tail _ (.tail _ (.head _)))))))))))))))) (sub_cons (.tail _ (.tail _ (.tail _ (.tail _ (.tail _ (.tail _ (.tail _ (.tail _ (.tail _ (.tail _ (.tail _ (.tail _ (.tail _ (.tail _ (.tail _ (.tail _ (.head _))))))))))))))))) sub_nil))))))) ?_); clear F9 N9; (have mk9 := mark 1); intro m9 h9 tk9 F9 N9)
  k_with "execs cons" => (k_here; (with_reducible show wpAny _ _ (execs ((Stmt.Assign [Expr.Name (Str.ofString "ways") _] _ _) :: _) _) _ _ _); (fail_if_success (rename Mark 2 => mk9)); (rename Fr _ _ _ _ => F9); (rename News _ _ _ _ => N9); (rename Shared.gens _ = #[] => hg9); k_dflt (refine trimH6 hg9 (x1 := Str.ofString "low") (x2 := Str.ofString "share") (x3 := Str.ofString "left") (x4 := Str.ofString "right") (x5 := Str.ofString "first") (x6 := Str.ofString "whole") F9 N9 rfl rfl rfl rfl rfl rfl rfl (sub_cons (.tail _ (.head _)) (sub_cons (.tail _ (.tail _ (.head _))) (sub_cons (.tail _ (.tail _ (.tail _ (.tail _ (.head _))))) (sub_cons (.tail _ (.tail _ (.tail _ (.tail _ (.tail _ (.head _)))))) (sub_cons (.tail _ (.tail _ (.tail _ (.tail _ (.tail _ (.tail _ (.tail _ (.head _)))))))) (sub_cons (.tail _ (.tail _ (.tail _ (.tail _ (.tail _ (.tail _ (.tail _ (.tail _ (.head _))))))))) (sub_cons (.tail _ (.tail _ (.tail _ (.tail _ (.tail _ (.tail _ (.tail _ (.tail _ (.tail _ (.head _)))))))))) (sub_cons (.tail _ (.tail _ (.tail _ (.tail _ (.tail _ (.tail _ (.tail _ (.tail _ (.tail _ (.tail _ (.head _))))))))))) sub_nil)))))))) ?_); clear F9 N9; (have mk9 := mark 2); intro m9 h9 tk9 F9 N9)
  k_with "execs cons" => (k_here; (with_reducible show wpAny _ _ (execs ((Stmt.If (Expr.BoolOp _ [Expr.Compare (Expr.Subscript (Expr.Name (Str.ofString "ways") _) _ _) _ _ _, _] _) _ _ _) :: _) _) _ _ _); (fail_if_success (rename Mark 3 => mk9)); (rename Fr _ _ _ _ => F9); (rename News _ _ _ _ => N9); (rename Shared.gens _ = #[] => hg9); k_dflt (refine trimH6 hg9 (x1 := Str.ofString "ways") (x2 := Str.ofString "first") (x3 := Str.ofString "whole") (x4 := Str.ofString "left") (x5 := Str.ofString "right") (x6 := Str.ofString "low") F9 N9 rfl rfl rfl rfl rfl rfl rfl (sub_cons (.tail _ (.head _)) (sub_cons (.tail _ (.tail _ (.head _))) (sub_cons (.tail _ (.tail _ (.tail _ (.head _)))) (sub_cons (.tail _ (.tail _ (.tail _ (.tail _ (.head _))))) (sub_cons (.tail _ (.tail _ (.tail _ (.tail _ (.tail _ (.head _)))))) (sub_cons (.tail _ (.tail _ (.tail _ (.tail _ (.tail _ (.tail _ (.head _))))))) (sub_cons (.tail _ (.tail _ (.tail _ (.tail _ (.tail _ (.tail _ (.tail _ (.head _)))))))) (sub_cons (.tail _ (.tail _ (.tail _ (.tail _ (.tail _ (.tail _ (.tail _ (.tail _ (.head _))))))))) (sub_cons (.tail _ (.tail _ (.tail _ (.tail _ (.tail _ (.tail _ (.tail _ (.tail _ (.tail _ (.head _)))))))))) sub_nil))))))))) ?_); clear F9 N9; (have mk9 := mark 3); intro m9 h9 tk9 F9 N9)
  k_with "execs cons" => (k_here; (with_reducible show wpAny _ _ (execs ((Stmt.Assign [Expr.Tuple [Expr.Name (Str.ofString "one") _, Expr.Name (Str.ofString "two") _] _ _] _ _) :: _) _) _ _ _); (fail_if_success (rename Mark 4 => mk9)); (rename Fr _ _ _ _ => F9); (rename News _ _ _ _ => N9); (rename Shared.gens _ = #[] => hg9); k_dflt (refine trimH6 hg9 (x1 := Str.ofString "back") (x2 := Str.ofString "first") (x3 := Str.ofString "whole") (x4 := Str.ofString "left") (x5 := Str.ofString "right") (x6 := Str.ofString "ways") F9 N9 rfl rfl rfl rfl rfl rfl rfl (sub_cons (.tail _ (.head _)) (sub_cons (.tail _ (.tail _ (.head _))) (sub_cons (.tail _ (.tail _ (.tail _ (.head _)))) (sub_cons (.tail _ (.tail _ (.tail _ (.tail _ (.head _))))) (sub_cons (.tail _ (.tail _ (.tail _ (.tail _ (.tail _ (.head _)))))) (sub_cons (.tail _ (.tail _ (.tail _ (.tail _ (.tail _ (.tail _ (.head _))))))) (sub_cons (.tail _ (.tail _ (.tail _ (.tail _ (.tail _ (.tail _ (.tail _ (.head _)))))))) (sub_cons (.tail _ (.tail _ (.tail _ (.tail _ (.tail _ (.tail _ (.tail _ (.tail _ (.head _))))))))) sub_nil)))))))) ?_); clear F9 N9; (have mk9 := mark 4); intro m9 h9 tk9 F9 N9)
  k_with "execs cons" => (k_here; (with_reducible show wpAny _ _ (execs ((Stmt.Assign [Expr.Name (Str.ofString "apart") _] _ _) :: _) _) _ _ _); (fail_if_success (rename Mark 5 => mk9)); (rename Fr _ _ _ _ => F9); (rename News _ _ _ _ => N9); (rename Shared.gens _ = #[] => hg9); k_dflt (refine trimH6 hg9 (x1 := Str.ofString "one") (x2 := Str.ofString "two") (x3 := Str.ofString "back") (x4 := Str.ofString "whole") (x5 := Str.ofString "left") (x6 := Str.ofString "right") F9 N9 rfl rfl rfl rfl rfl rfl rfl (sub_cons (.tail _ (.head _)) (sub_cons (.tail _ (.tail _ (.head _))) (sub_cons (.tail _ (.tail _ (.tail _ (.head _)))) (sub_cons (.tail _ (.tail _ (.tail _ (.tail _ (.head _))))) (sub_cons (.tail _ (.tail _ (.tail _ (.tail _ (.tail _ (.head _)))))) (sub_cons (.tail _ (.tail _ (.tail _ (.tail _ (.tail _ (.tail _ (.head _))))))) (sub_cons (.tail _ (.tail _ (.tail _ (.tail _ (.tail _ (.tail _ (.tail _ (.head _)))))))) (sub_cons (.tail _ (.tail _ (.tail _ (.tail _ (.tail _ (.tail _ (.tail _ (.tail _ (.head _))))))))) sub_nil)))))))) ?_); clear F9 N9; (have mk9 := mark 5); intro m9 h9 tk9 F9 N9)
  k_with "execs cons" => (k_here; (with_reducible show wpAny _ _ (execs ((Stmt.If (Expr.Compare (Expr.Name (Str.ofString "apart") _) [CmpOp.Eq] _ _) _ _ _) :: _) _) _ _ _); (fail_if_success (rename Mark 6 => mk9)); (rename Fr _ _ _ _ => F9); (rename News _ _ _ _ => N9); (rename Shared.gens _ = #[] => hg9); k_dflt (refine trimH6 hg9 (x1 := Str.ofString "apart") (x2 := Str.ofString "one") (x3 := Str.ofString "two") (x4 := Str.ofString "whole") (x5 := Str.ofString "left") (x6 := Str.ofString "right") F9 N9 rfl rfl rfl rfl rfl rfl rfl (sub_cons (.head _) (sub_cons (.tail _ (.head _)) (sub_cons (.tail _ (.tail _ (.head _))) (sub_cons (.tail _ (.tail _ (.tail _ (.head _)))) (sub_cons (.tail _ (.tail _ (.tail _ (.tail _ (.head _))))) (sub_cons (.tail _ (.tail _ (.tail _ (.tail _ (.tail _ (.head _)))))) (sub_cons (.tail _ (.tail _ (.tail _ (.tail _ (.tail _ (.tail _ (.head _))))))) (sub_cons (.tail _ (.tail _ (.tail _ (.tail _ (.tail _ (.tail _ (.tail _ (.head _)))))))) sub_nil)))))))) ?_); clear F9 N9; (have mk9 := mark 6); intro m9 h9 tk9 F9 N9)
  k_with "execs cons" => (k_here; (with_reducible show wpAny _ _ (execs ((Stmt.If (Expr.Compare (Expr.Name (Str.ofString "apart") _) [CmpOp.Eq] _ _) _ _ _) :: _) _) _ _ _); (rename Mark 6 => mk9); (rename Fr _ _ _ _ => F9); (rename News _ _ _ _ => N9); (rename Shared.gens _ = #[] => hg9); k_dflt (refine join3 hg9 (x1 := Str.ofString "apart") (x2 := Str.ofString "one") (x3 := Str.ofString "two") F9 N9 rfl rfl rfl rfl (sub_cons (.head _) (sub_cons (.tail _ (.head _)) (sub_cons (.tail _ (.tail _ (.tail _ (.tail _ (.head _))))) (sub_cons (.tail _ (.tail _ (.tail _ (.tail _ (.tail _ (.head _)))))) (sub_cons (.tail _ (.tail _ (.tail _ (.tail _ (.tail _ (.tail _ (.head _))))))) (sub_cons (.tail _ (.tail _ (.tail _ (.tail _ (.tail _ (.tail _ (.tail _ (.head _)))))))) sub_nil)))))) ?_ ?_); rotate_left; (clear F9 N9; intro m9 h9 tk9 F9 N9); rotate_left)
  k_with "JoinP" => ((rename Fr _ _ _ _ => F9); (rename News _ _ _ _ => N9); k_dflt (first | exact join3_end F9 N9 rfl rfl rfl rfl (sub_cons (.tail _ (.tail _ (.tail _ (.tail _ (.tail _ (.head _)))))) (sub_cons (.tail _ (.tail _ (.tail _ (.tail _ (.tail _ (.tail _ (.head _))))))) (sub_cons (.tail _ (.tail _ (.tail _ (.tail _ (.tail _ (.tail _ (.tail _ (.tail _ (.tail _ (.head _)))))))))) (sub_cons (.tail _ (.tail _ (.tail _ (.tail _ (.tail _ (.tail _ (.tail _ (.tail _ (.tail _ (.tail _ (.head _))))))))))) (sub_cons (.tail _ (.tail _ (.tail _ (.tail _ (.tail _ (.tail _ (.tail _ (.tail _ (.tail _ (.tail _ (.tail _ (.head _)))))))))))) (sub_cons (.tail _ (.tail _ (.tail _ (.tail _ (.tail _ (.tail _ (.tail _ (.tail _ (.tail _ (.tail _ (.tail _ (.tail _ (.head _))))))))))))) sub_nil)))))) | exact join3_end F9 N9 rfl rfl rfl rfl (sub_cons (.head _) (sub_cons (.tail _ (.head _)) (sub_cons (.tail _ (.tail _ (.tail _ (.tail _ (.head _))))) (sub_cons (.tail _ (.tail _ (.tail _ (.tail _ (.tail _ (.head _)))))) (sub_cons (.tail _ (.tail _ (.tail _ (.tail _ (.tail _ (.tail _ (.head _))))))) (sub_cons (.tail _ (.tail _ (.tail _ (.tail _ (.tail _ (.tail _ (.tail _ (.head _)))))))) sub_nil))))))))
  trivial
set_option maxRecDepth 100000 in
set_option maxHeartbeats 40000000 in
theorem law_holds : PySem.Challenge.rw_to0010_01.Holds := Mine.hd (by
  k_go0
  (all_goals try k_fold)
  k_steps
  all_goals (try k_data))
end
theorem said22 : True := by
  k_with_none
  trivial
end Mine
theorem PySem.Challenge.cw_to0010_01_holds : PySem.Challenge.rw_to0010_01.Holds :=
  Mine.law_holds
