import PyProof.Rows.All
import Wide.All
import OpenK.AllK
import Wide.FinOn
import PySem.Challenge.RW_to0010_02
open PySem PySem.W PyProof.Rows
set_option Elab.async false
set_option linter.all false
set_option rowWalk.seconds 0
namespace Mine
local macro_rules | `(tactic| walk_at $s:str) => `(tactic| k_extra $s)
local macro_rules | `(tactic| walk_at "pyIter ref") => `(tactic| k_extra "M pyIter ref")
local macro_rules | `(tactic| kst_allIn) => `(tactic| with_reducible exact fun _ h => List.mem_cons_of_mem _ (List.mem_append_left _ h))
section
local macro_rules | `(tactic| o_head $_) => `(tactic| (exfalso; assumption))
set_option maxRecDepth 100000 in
theorem pre (hf : False) : (PySem.Challenge.rw_to0010_02).row.Holds := by k_head
end
set_option maxRecDepth 100000 in
theorem blk : (fun _ : Params → Frag => true) Mine.pre.heap_1 = true := by
  first
  | (set_option maxHeartbeats 40 in k_qdec)
  | rfl
set_option maxRecDepth 100000 in
theorem blk' : (fun _ : Program => true) PySem.Challenge.pw_to0010_02 = true := by
  first
  | (set_option maxHeartbeats 40 in k_qdec)
  | rfl
section
local macro_rules | `(tactic| k_head) => `(tactic| o_head (kHook Mine.pre.heap_1 [nat_lit 2, nat_lit 3, nat_lit 6, nat_lit 15, nat_lit 17, nat_lit 18, nat_lit 20, nat_lit 21, nat_lit 22, nat_lit 24, nat_lit 25, nat_lit 27, nat_lit 28, nat_lit 29, nat_lit 31, nat_lit 32, nat_lit 34, nat_lit 35, nat_lit 36, nat_lit 38, nat_lit 39, nat_lit 41, nat_lit 42, nat_lit 43, nat_lit 50, nat_lit 51, nat_lit 52, nat_lit 53, nat_lit 56, nat_lit 63, nat_lit 64, nat_lit 65, nat_lit 68, nat_lit 70, nat_lit 71, nat_lit 73, nat_lit 74, nat_lit 75, nat_lit 78, nat_lit 79, nat_lit 80, nat_lit 82, nat_lit 83, nat_lit 85, nat_lit 86, nat_lit 87, nat_lit 89, nat_lit 90, nat_lit 92, nat_lit 93, nat_lit 94, nat_lit 97, nat_lit 98, nat_lit 99, nat_lit 102, nat_lit 103] (fun _ => by kernel_rfl)))
set_option maxRecDepth 100000 in
set_option maxHeartbeats 8000000 in
open_top hd for PySem.Challenge.rw_to0010_02
theorem said0 : True := by
  w_top off
  trivial
end
noncomputable abbrev Led := List (Addr × Obj)
noncomputable abbrev tupO (vs : List Value) : Obj := { cls := .type "tuple", data := .seq vs.toArray }
noncomputable abbrev RetK := Heap → Addr → (Str → Option Value) → Led → Shared → (Value → Shared → Prop) → Prop
noncomputable def Told (w : World) (mean : ExcName → Option Value) (mg mb : Str → Option Value) (f : Addr) (vs : List Value) (d u : Nat) (pre : Led → Prop) (Ret : RetK) : Prop :=
  ∀ (dp un : Nat) (gd : Option (List Code)) (cn : Str) (cs : Scope) (a : Addr) (ccd : Value) (cl : List (Str × Addr)) (outer : List Env) (A₀ : Around) (base h₀ : Heap) (L : Addr) (m : Str → Option Value) (news : Led) (s : Shared)
    (Q E : Value → Shared → Prop),
    Below A₀ base outer h₀ → Fr h₀ L s.heap m → (Mine.pre.heap_1 w.params).In h₀ → News h₀ L s.heap news → Top hd.view_39 (looseW hd.view_39 []) mean mg mb h₀ → cs.kind = .function → pre news → dp + d < recursionLimit → un + 8 * u < cLine →
    Ret h₀ L m news s Q →
    wpAny (model PySem.Challenge.rw_to0010_02.row.prog w) (ktrTop dp un gd cn cs L a ccd cl outer) (call (.ref f) vs) Q E s
noncomputable abbrev T3 := UInt64 × UInt64 × UInt64
noncomputable abbrev t3O (x : T3) (n1 n2 n3 : Tok) : Obj := tupO [.float x.1 n1, .float x.2.1 n2, .float x.2.2 n3]
noncomputable abbrev RetT3 (x : T3) : RetK := fun h₀ L m news s Q => ∀ (q : Addr) (n1 n2 n3 : Tok) (h' : Heap) (tk' : Nat), Fr h₀ L h' m → News h₀ L h' ((q, t3O x n1 n2 n3) :: news) → (∀ p ∈ news, p.1 < q) → Q (.ref q) { s with heap := h', toks := tk' }
theorem retT3 {x : T3} {a b c : UInt64} {h₀ h' : Heap} {L q : Addr} {m : Str → Option Value} {news : Led} {s : Shared} {Q : Value → Shared → Prop} {n1 n2 n3 : Tok} {tk' : Nat} (h : RetT3 x h₀ L m news s Q) (e : (a, b, c) = x) (F : Fr h₀ L h' m)
    (N : News h₀ L h' ((q, tupO [.float a n1, .float b n2, .float c n3]) :: news)) (lt : ∀ p ∈ news, p.1 < q) : Q (.ref q) { s with heap := h', toks := tk' } := by
  subst e; exact h q n1 n2 n3 h' tk' F N lt
noncomputable abbrev RetI (i : Int) : RetK := fun h₀ L m news s Q => ∀ (t : Tok) (h' : Heap) (tk' : Nat), Fr h₀ L h' m → News h₀ L h' news → Q (.int i t) { s with heap := h', toks := tk' }
theorem retI {i j : Int} {h₀ h' : Heap} {L : Addr} {m : Str → Option Value} {news : Led} {s : Shared} {Q : Value → Shared → Prop} {t : Tok} {tk' : Nat} (h : RetI i h₀ L m news s Q) (e : j = i) (F : Fr h₀ L h' m)
    (N : News h₀ L h' news) : Q (.int j t) { s with heap := h', toks := tk' } := by
  subst e; exact h t h' tk' F N
noncomputable abbrev RetS (x : Str) : RetK := fun h₀ L m news s Q => ∀ (t : Tok) (h' : Heap) (tk' : Nat), Fr h₀ L h' m → News h₀ L h' news → Q (.str x t) { s with heap := h', toks := tk' }
theorem retS {x y : Str} {h₀ h' : Heap} {L : Addr} {m : Str → Option Value} {news : Led} {s : Shared} {Q : Value → Shared → Prop} {t : Tok} {tk' : Nat} (h : RetS x h₀ L m news s Q) (e : y = x) (F : Fr h₀ L h' m)
    (N : News h₀ L h' news) : Q (.str y t) { s with heap := h', toks := tk' } := by
  subst e; exact h t h' tk' F N
theorem sub_nil {news : Led} : ∀ p ∈ ([] : Led), p ∈ news := fun _ h => absurd h List.not_mem_nil
theorem sub_cons {a : Addr × Obj} {l news : Led} (h : a ∈ news) (r : ∀ p ∈ l, p ∈ news) : ∀ p ∈ a :: l, p ∈ news := List.forall_mem_cons.mpr ⟨h, r⟩
noncomputable def Thn {α : Type} (Q : α → Shared → Prop) (v : α) (s : Shared) : Prop := Q v s
noncomputable def To {α : Type} (Q Q9 : α → Shared → Prop) : Prop := ∀ v s', Q v s' → Thn Q9 v s'
theorem to_go {α : Type} {Q Q9 : α → Shared → Prop} {v : α} {s' : Shared} (h : To Q Q9) (k : Q v s') : Thn Q9 v s' := h v s' k
noncomputable def NoE : Value → Shared → Prop := fun _ _ => False
theorem hide {α : Type} {M : Model} {A : Around} {t : Sem α} {Q : α → Shared → Prop} {E : Value → Shared → Prop} {s : Shared} (h : ∀ Q9 : α → Shared → Prop, To Q Q9 → wpAny M A t (Thn Q9) NoE s) : wpAny M A t Q E s :=
  wpAny_mono (h Q fun _ _ h => h) (fun _ _ h => h) (fun _ _ h => h.elim)
noncomputable def Mark (_ : Nat) : Prop := True
theorem mark (n : Nat) : Mark n := trivial
section
variable {M : Model} {A : Around} {t : Sem Flow} {Q : Flow → Shared → Prop} {E : Value → Shared → Prop} {s s₁ : Shared} {h₀ : Heap} {L : Addr} {m : Str → Option Value} {news news' : Led}
theorem trimG0 (_ : s₁.gens = #[]) {fr : (Str → Option Value) → Str → Option Value} (F : Fr h₀ L s.heap m) (N : News h₀ L s.heap news) (hs : s = { s₁ with heap := s.heap, toks := s.toks }) (he : fr m = m) (hN : ∀ p ∈ news', p ∈ news)
    (k : ∀ (m' : Str → Option Value) (h' : Heap) (tk' : Nat), Fr h₀ L h' (fr m') → News h₀ L h' news' → wpAny M A t Q E { s₁ with heap := h', toks := tk' }) : wpAny M A t Q E s := by
  have e : fr m = m := he
  rw [hs]
  exact k m s.heap s.toks (by rw [e]; exact F) fun p hp => N p (hN p hp)
theorem trimG1 (_ : s₁.gens = #[]) {fr : (Str → Option Value) → Str → Option Value} {x1 : Str} {v1 : Value} (F : Fr h₀ L s.heap m) (N : News h₀ L s.heap news) (hs : s = { s₁ with heap := s.heap, toks := s.toks }) (he : fr m = m) (e1 : m x1 = some v1)(hN : ∀ p ∈ news', p ∈ news)
    (k : ∀ (m' : Str → Option Value) (h' : Heap) (tk' : Nat), Fr h₀ L h' (fun y => if y = x1 then some v1 else fr m' y) → News h₀ L h' news' → wpAny M A t Q E { s₁ with heap := h', toks := tk' }) : wpAny M A t Q E s := by
  have e : (fun y => if y = x1 then some v1 else fr m y) = m := by
    rw [he]
    funext y
    clear hN k
    repeat (first | rfl | (split; next h => (rw [h]; exact Eq.symm (by assumption))))
  rw [hs]
  exact k m s.heap s.toks (by rw [e]; exact F) fun p hp => N p (hN p hp)
theorem trimG2 (_ : s₁.gens = #[]) {fr : (Str → Option Value) → Str → Option Value} {x1 x2 : Str} {v1 v2 : Value} (F : Fr h₀ L s.heap m) (N : News h₀ L s.heap news) (hs : s = { s₁ with heap := s.heap, toks := s.toks }) (he : fr m = m) (e1 : m x1 = some v1) (e2 : m x2 = some v2)(hN : ∀ p ∈ news', p ∈ news)
    (k : ∀ (m' : Str → Option Value) (h' : Heap) (tk' : Nat), Fr h₀ L h' (fun y => if y = x1 then some v1 else if y = x2 then some v2 else fr m' y) → News h₀ L h' news' → wpAny M A t Q E { s₁ with heap := h', toks := tk' }) : wpAny M A t Q E s := by
  have e : (fun y => if y = x1 then some v1 else if y = x2 then some v2 else fr m y) = m := by
    rw [he]
    funext y
    clear hN k
    repeat (first | rfl | (split; next h => (rw [h]; exact Eq.symm (by assumption))))
  rw [hs]
  exact k m s.heap s.toks (by rw [e]; exact F) fun p hp => N p (hN p hp)
theorem trimG3 (_ : s₁.gens = #[]) {fr : (Str → Option Value) → Str → Option Value} {x1 x2 x3 : Str} {v1 v2 v3 : Value} (F : Fr h₀ L s.heap m) (N : News h₀ L s.heap news) (hs : s = { s₁ with heap := s.heap, toks := s.toks }) (he : fr m = m) (e1 : m x1 = some v1) (e2 : m x2 = some v2) (e3 : m x3 = some v3)(hN : ∀ p ∈ news', p ∈ news)
    (k : ∀ (m' : Str → Option Value) (h' : Heap) (tk' : Nat), Fr h₀ L h' (fun y => if y = x1 then some v1 else if y = x2 then some v2 else if y = x3 then some v3 else fr m' y) → News h₀ L h' news' → wpAny M A t Q E { s₁ with heap := h', toks := tk' }) : wpAny M A t Q E s := by
  have e : (fun y => if y = x1 then some v1 else if y = x2 then some v2 else if y = x3 then some v3 else fr m y) = m := by
    rw [he]
    funext y
    clear hN k
    repeat (first | rfl | (split; next h => (rw [h]; exact Eq.symm (by assumption))))
  rw [hs]
  exact k m s.heap s.toks (by rw [e]; exact F) fun p hp => N p (hN p hp)
theorem trimG4 (_ : s₁.gens = #[]) {fr : (Str → Option Value) → Str → Option Value} {x1 x2 x3 x4 : Str} {v1 v2 v3 v4 : Value} (F : Fr h₀ L s.heap m) (N : News h₀ L s.heap news) (hs : s = { s₁ with heap := s.heap, toks := s.toks }) (he : fr m = m) (e1 : m x1 = some v1) (e2 : m x2 = some v2) (e3 : m x3 = some v3) (e4 : m x4 = some v4)(hN : ∀ p ∈ news', p ∈ news)
    (k : ∀ (m' : Str → Option Value) (h' : Heap) (tk' : Nat), Fr h₀ L h' (fun y => if y = x1 then some v1 else if y = x2 then some v2 else if y = x3 then some v3 else if y = x4 then some v4 else fr m' y) → News h₀ L h' news' → wpAny M A t Q E { s₁ with heap := h', toks := tk' }) : wpAny M A t Q E s := by
  have e : (fun y => if y = x1 then some v1 else if y = x2 then some v2 else if y = x3 then some v3 else if y = x4 then some v4 else fr m y) = m := by
    rw [he]
    funext y
    clear hN k
    repeat (first | rfl | (split; next h => (rw [h]; exact Eq.symm (by assumption))))
  rw [hs]
  exact k m s.heap s.toks (by rw [e]; exact F) fun p hp => N p (hN p hp)
theorem trimG5 (_ : s₁.gens = #[]) {fr : (Str → Option Value) → Str → Option Value} {x1 x2 x3 x4 x5 : Str} {v1 v2 v3 v4 v5 : Value} (F : Fr h₀ L s.heap m) (N : News h₀ L s.heap news) (hs : s = { s₁ with heap := s.heap, toks := s.toks }) (he : fr m = m) (e1 : m x1 = some v1) (e2 : m x2 = some v2) (e3 : m x3 = some v3) (e4 : m x4 = some v4) (e5 : m x5 = some v5)(hN : ∀ p ∈ news', p ∈ news)
    (k : ∀ (m' : Str → Option Value) (h' : Heap) (tk' : Nat), Fr h₀ L h' (fun y => if y = x1 then some v1 else if y = x2 then some v2 else if y = x3 then some v3 else if y = x4 then some v4 else if y = x5 then some v5 else fr m' y) → News h₀ L h' news' → wpAny M A t Q E { s₁ with heap := h', toks := tk' }) : wpAny M A t Q E s := by
  have e : (fun y => if y = x1 then some v1 else if y = x2 then some v2 else if y = x3 then some v3 else if y = x4 then some v4 else if y = x5 then some v5 else fr m y) = m := by
    rw [he]
    funext y
    clear hN k
    repeat (first | rfl | (split; next h => (rw [h]; exact Eq.symm (by assumption))))
  rw [hs]
  exact k m s.heap s.toks (by rw [e]; exact F) fun p hp => N p (hN p hp)
end
noncomputable abbrev frB (D q c : Addr) (xs : UInt64) (ns : Tok) (xv : UInt64) (nv : Tok) (st : Int) (ts : Tok) (pl : Int) (tp : Tok) (m : Str → Option Value) : Str → Option Value := fun y => if y = Str.ofString "angles" then some (Value.ref D) else if y = Str.ofString "creases" then some (Value.ref q) else if y = Str.ofString "colour" then some (Value.ref c) else if y = Str.ofString "share" then some (Value.float xs ns) else if y = Str.ofString "value" then some (Value.float xv nv) else if y = Str.ofString "start" then some (Value.int st ts) else if y = Str.ofString "place" then some (Value.int pl tp) else m y
theorem frB_id {D q c : Addr} {xs : UInt64} {ns : Tok} {xv : UInt64} {nv : Tok} {st : Int} {ts : Tok} {pl : Int} {tp : Tok} {m : Str → Option Value} (e0 : m (Str.ofString "angles") = some (Value.ref D)) (e1 : m (Str.ofString "creases") = some (Value.ref q)) (e2 : m (Str.ofString "colour") = some (Value.ref c)) (e3 : m (Str.ofString "share") = some (Value.float xs ns)) (e4 : m (Str.ofString "value") = some (Value.float xv nv)) (e5 : m (Str.ofString "start") = some (Value.int st ts)) (e6 : m (Str.ofString "place") = some (Value.int pl tp)) : frB D q c xs ns xv nv st ts pl tp m = m := by
  unfold frB
  funext y
  repeat (first | rfl | (split; next h => (rw [h]; exact Eq.symm (by assumption))))
noncomputable abbrev frA (D : Addr) (xs : UInt64) (ns : Tok) (xv : UInt64) (nv : Tok) (st : Int) (ts : Tok) (pl : Int) (tp : Tok) (m : Str → Option Value) : Str → Option Value := fun y => if y = Str.ofString "angles" then some (Value.ref D) else if y = Str.ofString "share" then some (Value.float xs ns) else if y = Str.ofString "value" then some (Value.float xv nv) else if y = Str.ofString "start" then some (Value.int st ts) else if y = Str.ofString "place" then some (Value.int pl tp) else m y
theorem frA_id {D : Addr} {xs : UInt64} {ns : Tok} {xv : UInt64} {nv : Tok} {st : Int} {ts : Tok} {pl : Int} {tp : Tok} {m : Str → Option Value} (e0 : m (Str.ofString "angles") = some (Value.ref D)) (e1 : m (Str.ofString "share") = some (Value.float xs ns)) (e2 : m (Str.ofString "value") = some (Value.float xv nv)) (e3 : m (Str.ofString "start") = some (Value.int st ts)) (e4 : m (Str.ofString "place") = some (Value.int pl tp)) : frA D xs ns xv nv st ts pl tp m = m := by
  unfold frA
  funext y
  repeat (first | rfl | (split; next h => (rw [h]; exact Eq.symm (by assumption))))
noncomputable abbrev frO (D : Addr) (m : Str → Option Value) : Str → Option Value := fun y => if y = Str.ofString "angles" then some (Value.ref D) else m y
theorem frO_id {D : Addr} {m : Str → Option Value} (e0 : m (Str.ofString "angles") = some (Value.ref D)) : frO D m = m := by
  unfold frO
  funext y
  repeat (first | rfl | (split; next h => (rw [h]; exact Eq.symm (by assumption))))
noncomputable abbrev an4 (a0 a1 a2 a3 : Int) (u0 u1 u2 u3 : Tok) : Obj := LCg.lst [Value.int a0 u0, Value.int a1 u1, Value.int a2 u2, Value.int a3 u3]
noncomputable abbrev dr6 (a0 a1 a2 a3 a4 a5 : Int) (u0 u1 u2 u3 u4 u5 : Tok) : Obj := LCg.lst [Value.int a0 u0, Value.int a1 u1, Value.int a2 u2, Value.int a3 u3, Value.int a4 u4, Value.int a5 u5]
noncomputable abbrev LedA (D : Addr) (a0 a1 a2 a3 : Int) (u0 u1 u2 u3 : Tok) (D' : Addr) (d0 d1 d2 d3 d4 d5 : Int) (w0 w1 w2 w3 w4 w5 : Tok) (L : Nat) (o o' : Obj) : Led :=
  [(D, an4 a0 a1 a2 a3 u0 u1 u2 u3), (D', dr6 d0 d1 d2 d3 d4 d5 w0 w1 w2 w3 w4 w5), (L + 1 + 1 + 1, o), (L + 1 + 1, o')]
theorem ledA_sub {D : Addr} {a0 a1 a2 a3 : Int} {u0 u1 u2 u3 : Tok} {D' : Addr} {d0 d1 d2 d3 d4 d5 : Int} {w0 w1 w2 w3 w4 w5 : Tok} {L : Nat} {o o' x : Obj} :
    ∀ p ∈ LedA D a0 a1 a2 a3 u0 u1 u2 u3 D' d0 d1 d2 d3 d4 d5 w0 w1 w2 w3 w4 w5 L o o', p ∈ [(D, LCg.lst [Value.int a0 u0, Value.int a1 u1, Value.int a2 u2, Value.int a3 u3]), (D', LCg.lst [Value.int d0 w0, Value.int d1 w1, Value.int d2 w2, Value.int d3 w3, Value.int d4 w4, Value.int d5 w5]), (L + 1 + 1 + 1, o), (L + 1 + 1, o'), (L + 1, x)] :=
  fun p hp => List.mem_append_left [(L + 1, x)] hp
theorem drop2 {a b : Addr × Obj} {r : Led} : ∀ p ∈ a :: r, p ∈ a :: b :: r := fun p hp => by
  rcases List.mem_cons.mp hp with h | h
  · exact h ▸ .head _
  · exact .tail _ (.tail _ h)
theorem ite_same {y x : Str} {v : Value} {r : Option Value} {m : Str → Option Value} (e : m x = some v) (h : r = m y) : (if y = x then some v else r) = m y := by
  split
  · next h1 => rw [h1, e]
  · exact h
section
variable {M : Model} {A : Around} {t : Sem Flow} {Q : Flow → Shared → Prop} {E : Value → Shared → Prop} {s s₁ : Shared} {h₀ : Heap} {L : Addr} {m : Str → Option Value} {news news' : Led}
theorem trimK3 {x1 x2 x3 : Str} {v1 v2 v3 : Value} (F : Fr h₀ L s.heap m) (N : News h₀ L s.heap news) (hs : s = { s₁ with heap := s.heap, toks := s.toks }) (e1 : m x1 = some v1) (e2 : m x2 = some v2) (e3 : m x3 = some v3) (hN : ∀ p ∈ news', p ∈ news)
    (k : ∀ (m' : Str → Option Value) (h' : Heap) (tk' : Nat), Fr h₀ L h' (fun y => if y = x1 then some (v1) else if y = x2 then some (v2) else if y = x3 then some (v3) else m' y) → News h₀ L h' news' → wpAny M A t Q E { s₁ with heap := h', toks := tk' }) : wpAny M A t Q E s := by
  have e : (fun y => if y = x1 then some (v1) else if y = x2 then some (v2) else if y = x3 then some (v3) else m y) = m := funext fun y => ite_same e1 (ite_same e2 (ite_same e3 (rfl)))
  rw [hs]
  exact k m s.heap s.toks (by rw [e]; exact F) fun p hp => N p (hN p hp)
end
section
variable {M : Model} {A : Around} {t : Sem Flow} {Q : Flow → Shared → Prop} {E : Value → Shared → Prop} {s s₁ : Shared} {h₀ : Heap} {L : Addr} {m : Str → Option Value} {news news' : Led}
theorem trimH4 (_ : s₁.gens = #[]) {x1 x2 x3 x4 : Str} {v1 v2 v3 v4 : Value} (F : Fr h₀ L s.heap m) (N : News h₀ L s.heap news) (hs : s = { s₁ with heap := s.heap, toks := s.toks }) (e1 : m x1 = some v1) (e2 : m x2 = some v2) (e3 : m x3 = some v3) (e4 : m x4 = some v4) (hN : ∀ p ∈ news', p ∈ news)
    (k : ∀ (m' : Str → Option Value) (h' : Heap) (tk' : Nat), Fr h₀ L h' (fun y => if y = x1 then some (v1) else if y = x2 then some (v2) else if y = x3 then some (v3) else if y = x4 then some (v4) else m' y) → News h₀ L h' news' → wpAny M A t Q E { s₁ with heap := h', toks := tk' }) : wpAny M A t Q E s := by
  have e : (fun y => if y = x1 then some (v1) else if y = x2 then some (v2) else if y = x3 then some (v3) else if y = x4 then some (v4) else m y) = m := funext fun y => ite_same e1 (ite_same e2 (ite_same e3 (ite_same e4 (rfl))))
  rw [hs]
  exact k m s.heap s.toks (by rw [e]; exact F) fun p hp => N p (hN p hp)
theorem trimH8 (_ : s₁.gens = #[]) {x1 x2 x3 x4 x5 x6 x7 x8 : Str} {v1 v2 v3 v4 v5 v6 v7 v8 : Value} (F : Fr h₀ L s.heap m) (N : News h₀ L s.heap news) (hs : s = { s₁ with heap := s.heap, toks := s.toks }) (e1 : m x1 = some v1) (e2 : m x2 = some v2) (e3 : m x3 = some v3) (e4 : m x4 = some v4) (e5 : m x5 = some v5) (e6 : m x6 = some v6) (e7 : m x7 = some v7) (e8 : m x8 = some v8) (hN : ∀ p ∈ news', p ∈ news)
    (k : ∀ (m' : Str → Option Value) (h' : Heap) (tk' : Nat), Fr h₀ L h' (fun y => if y = x1 then some (v1) else if y = x2 then some (v2) else if y = x3 then some (v3) else if y = x4 then some (v4) else if y = x5 then some (v5) else if y = x6 then some (v6) else if y = x7 then some (v7) else if y = x8 then some (v8) else m' y) → News h₀ L h' news' → wpAny M A t Q E { s₁ with heap := h', toks := tk' }) : wpAny M A t Q E s := by
  have e : (fun y => if y = x1 then some (v1) else if y = x2 then some (v2) else if y = x3 then some (v3) else if y = x4 then some (v4) else if y = x5 then some (v5) else if y = x6 then some (v6) else if y = x7 then some (v7) else if y = x8 then some (v8) else m y) = m := funext fun y => ite_same e1 (ite_same e2 (ite_same e3 (ite_same e4 (ite_same e5 (ite_same e6 (ite_same e7 (ite_same e8 (rfl))))))))
  rw [hs]
  exact k m s.heap s.toks (by rw [e]; exact F) fun p hp => N p (hN p hp)
theorem trimH9 (_ : s₁.gens = #[]) {x1 x2 x3 x4 x5 x6 x7 x8 x9 : Str} {v1 v2 v3 v4 v5 v6 v7 v8 v9 : Value} (F : Fr h₀ L s.heap m) (N : News h₀ L s.heap news) (hs : s = { s₁ with heap := s.heap, toks := s.toks }) (e1 : m x1 = some v1) (e2 : m x2 = some v2) (e3 : m x3 = some v3) (e4 : m x4 = some v4) (e5 : m x5 = some v5) (e6 : m x6 = some v6) (e7 : m x7 = some v7) (e8 : m x8 = some v8) (e9 : m x9 = some v9) (hN : ∀ p ∈ news', p ∈ news)
    (k : ∀ (m' : Str → Option Value) (h' : Heap) (tk' : Nat), Fr h₀ L h' (fun y => if y = x1 then some (v1) else if y = x2 then some (v2) else if y = x3 then some (v3) else if y = x4 then some (v4) else if y = x5 then some (v5) else if y = x6 then some (v6) else if y = x7 then some (v7) else if y = x8 then some (v8) else if y = x9 then some (v9) else m' y) → News h₀ L h' news' → wpAny M A t Q E { s₁ with heap := h', toks := tk' }) : wpAny M A t Q E s := by
  have e : (fun y => if y = x1 then some (v1) else if y = x2 then some (v2) else if y = x3 then some (v3) else if y = x4 then some (v4) else if y = x5 then some (v5) else if y = x6 then some (v6) else if y = x7 then some (v7) else if y = x8 then some (v8) else if y = x9 then some (v9) else m y) = m := funext fun y => ite_same e1 (ite_same e2 (ite_same e3 (ite_same e4 (ite_same e5 (ite_same e6 (ite_same e7 (ite_same e8 (ite_same e9 (rfl)))))))))
  rw [hs]
  exact k m s.heap s.toks (by rw [e]; exact F) fun p hp => N p (hN p hp)
theorem trimH10 (_ : s₁.gens = #[]) {x1 x2 x3 x4 x5 x6 x7 x8 x9 x10 : Str} {v1 v2 v3 v4 v5 v6 v7 v8 v9 v10 : Value} (F : Fr h₀ L s.heap m) (N : News h₀ L s.heap news) (hs : s = { s₁ with heap := s.heap, toks := s.toks }) (e1 : m x1 = some v1) (e2 : m x2 = some v2) (e3 : m x3 = some v3) (e4 : m x4 = some v4) (e5 : m x5 = some v5) (e6 : m x6 = some v6) (e7 : m x7 = some v7) (e8 : m x8 = some v8) (e9 : m x9 = some v9) (e10 : m x10 = some v10) (hN : ∀ p ∈ news', p ∈ news)
    (k : ∀ (m' : Str → Option Value) (h' : Heap) (tk' : Nat), Fr h₀ L h' (fun y => if y = x1 then some (v1) else if y = x2 then some (v2) else if y = x3 then some (v3) else if y = x4 then some (v4) else if y = x5 then some (v5) else if y = x6 then some (v6) else if y = x7 then some (v7) else if y = x8 then some (v8) else if y = x9 then some (v9) else if y = x10 then some (v10) else m' y) → News h₀ L h' news' → wpAny M A t Q E { s₁ with heap := h', toks := tk' }) : wpAny M A t Q E s := by
  have e : (fun y => if y = x1 then some (v1) else if y = x2 then some (v2) else if y = x3 then some (v3) else if y = x4 then some (v4) else if y = x5 then some (v5) else if y = x6 then some (v6) else if y = x7 then some (v7) else if y = x8 then some (v8) else if y = x9 then some (v9) else if y = x10 then some (v10) else m y) = m := funext fun y => ite_same e1 (ite_same e2 (ite_same e3 (ite_same e4 (ite_same e5 (ite_same e6 (ite_same e7 (ite_same e8 (ite_same e9 (ite_same e10 (rfl))))))))))
  rw [hs]
  exact k m s.heap s.toks (by rw [e]; exact F) fun p hp => N p (hN p hp)
theorem trimH11 (_ : s₁.gens = #[]) {x1 x2 x3 x4 x5 x6 x7 x8 x9 x10 x11 : Str} {v1 v2 v3 v4 v5 v6 v7 v8 v9 v10 v11 : Value} (F : Fr h₀ L s.heap m) (N : News h₀ L s.heap news) (hs : s = { s₁ with heap := s.heap, toks := s.toks }) (e1 : m x1 = some v1) (e2 : m x2 = some v2) (e3 : m x3 = some v3) (e4 : m x4 = some v4) (e5 : m x5 = some v5) (e6 : m x6 = some v6) (e7 : m x7 = some v7) (e8 : m x8 = some v8) (e9 : m x9 = some v9) (e10 : m x10 = some v10) (e11 : m x11 = some v11) (hN : ∀ p ∈ news', p ∈ news)
    (k : ∀ (m' : Str → Option Value) (h' : Heap) (tk' : Nat), Fr h₀ L h' (fun y => if y = x1 then some (v1) else if y = x2 then some (v2) else if y = x3 then some (v3) else if y = x4 then some (v4) else if y = x5 then some (v5) else if y = x6 then some (v6) else if y = x7 then some (v7) else if y = x8 then some (v8) else if y = x9 then some (v9) else if y = x10 then some (v10) else if y = x11 then some (v11) else m' y) → News h₀ L h' news' → wpAny M A t Q E { s₁ with heap := h', toks := tk' }) : wpAny M A t Q E s := by
  have e : (fun y => if y = x1 then some (v1) else if y = x2 then some (v2) else if y = x3 then some (v3) else if y = x4 then some (v4) else if y = x5 then some (v5) else if y = x6 then some (v6) else if y = x7 then some (v7) else if y = x8 then some (v8) else if y = x9 then some (v9) else if y = x10 then some (v10) else if y = x11 then some (v11) else m y) = m := funext fun y => ite_same e1 (ite_same e2 (ite_same e3 (ite_same e4 (ite_same e5 (ite_same e6 (ite_same e7 (ite_same e8 (ite_same e9 (ite_same e10 (ite_same e11 (rfl)))))))))))
  rw [hs]
  exact k m s.heap s.toks (by rw [e]; exact F) fun p hp => N p (hN p hp)
end
theorem letFN {M : Model} {A : Around} {t : Sem Flow} {Q : Flow → Shared → Prop} {E : Value → Shared → Prop} {s : Shared} {h₀ : Heap} {L : Addr} {m : Str → Option Value} {news : Led} (F : Fr h₀ L s.heap m) (N : News h₀ L s.heap news)
    (k : let m1 := m; let nw := news; Fr h₀ L s.heap m1 → News h₀ L s.heap nw → wpAny M A t Q E s) : wpAny M A t Q E s := k F N
noncomputable def hsvI (h : UInt64) : Int := Flt.toInt Float64.truncOf (Float64.mul h 4618441417868443648)
noncomputable def hsvF (h : UInt64) : UInt64 := Float64.sub (Float64.mul h 4618441417868443648) (Float64.ofInt (hsvI h))
noncomputable def hsvS (h s v : UInt64) : T3 :=
  if (Float64.cmp s 0 == some Ordering.eq) = true then (v, v, v) else
  let p := Float64.mul v (Float64.sub 4607182418800017408 s)
  let q := Float64.mul v (Float64.sub 4607182418800017408 (Float64.mul s (hsvF h)))
  let t := Float64.mul v (Float64.sub 4607182418800017408 (Float64.mul s (Float64.sub 4607182418800017408 (hsvF h))))
  let k := (hsvI h).fmod 6
  if k = 0 then (v, t, p) else if k = 1 then (q, v, p) else if k = 2 then (p, v, t) else if k = 3 then (p, q, v) else if k = 4 then (t, p, v) else (v, p, q)
theorem fin_nan {x : UInt64} (h : Float64.isFinite x = true) : ¬ Float64.isNaN x = true := by rw [Flt.not_nan_of_finite h]; simp
theorem fin_inf {x : UInt64} (h : Float64.isFinite x = true) : ¬ Float64.isInf x = true := by
  unfold Float64.isFinite at h; unfold Float64.isInf; split at h <;> simp_all

section
variable {h s v : UInt64}
noncomputable abbrev hI (h : UInt64) : Int := (Flt.toInt Float64.truncOf (Float64.mul h 4618441417868443648))
theorem hsvS_e (c : (Float64.cmp s 0 == some Ordering.eq) = true) : (v, v, v) = hsvS h s v := by unfold hsvS; rw [if_pos c]
theorem hsvS_n (c : (Float64.cmp s 0 == some Ordering.eq) = false) : hsvS h s v = (
  let p := Float64.mul v (Float64.sub 4607182418800017408 s)
  let q := Float64.mul v (Float64.sub 4607182418800017408 (Float64.mul s (hsvF h)))
  let t := Float64.mul v (Float64.sub 4607182418800017408 (Float64.mul s (Float64.sub 4607182418800017408 (hsvF h))))
  let k := (hsvI h).fmod 6
  if k = 0 then (v, t, p) else if k = 1 then (q, v, p) else if k = 2 then (p, v, t) else if k = 3 then (p, q, v) else if k = 4 then (t, p, v) else (v, p, q)) := by unfold hsvS; rw [if_neg (by rw [c]; exact Bool.false_ne_true)]
theorem hsvS_0 (c : (Float64.cmp s 0 == some Ordering.eq) = false) (e : (hI h).fmod 6 = 0) : (v, Float64.mul v (Float64.sub 4607182418800017408 (Float64.mul s (Float64.sub 4607182418800017408 (Float64.sub (Float64.mul h 4618441417868443648) (Float64.ofInt (hI h)))))), Float64.mul v (Float64.sub 4607182418800017408 s)) = hsvS h s v := by
  have e' : (hsvI h).fmod 6 = 0 := e
  rw [hsvS_n c, e']; rfl
theorem hsvS_1 (c : (Float64.cmp s 0 == some Ordering.eq) = false) (e : (hI h).fmod 6 = 1) : (Float64.mul v (Float64.sub 4607182418800017408 (Float64.mul s (Float64.sub (Float64.mul h 4618441417868443648) (Float64.ofInt (hI h))))), v, Float64.mul v (Float64.sub 4607182418800017408 s)) = hsvS h s v := by
  have e' : (hsvI h).fmod 6 = 1 := e
  rw [hsvS_n c, e']; rfl
theorem hsvS_2 (c : (Float64.cmp s 0 == some Ordering.eq) = false) (e : (hI h).fmod 6 = 2) : (Float64.mul v (Float64.sub 4607182418800017408 s), v, Float64.mul v (Float64.sub 4607182418800017408 (Float64.mul s (Float64.sub 4607182418800017408 (Float64.sub (Float64.mul h 4618441417868443648) (Float64.ofInt (hI h))))))) = hsvS h s v := by
  have e' : (hsvI h).fmod 6 = 2 := e
  rw [hsvS_n c, e']; rfl
theorem hsvS_3 (c : (Float64.cmp s 0 == some Ordering.eq) = false) (e : (hI h).fmod 6 = 3) : (Float64.mul v (Float64.sub 4607182418800017408 s), Float64.mul v (Float64.sub 4607182418800017408 (Float64.mul s (Float64.sub (Float64.mul h 4618441417868443648) (Float64.ofInt (hI h))))), v) = hsvS h s v := by
  have e' : (hsvI h).fmod 6 = 3 := e
  rw [hsvS_n c, e']; rfl
theorem hsvS_4 (c : (Float64.cmp s 0 == some Ordering.eq) = false) (e : (hI h).fmod 6 = 4) : (Float64.mul v (Float64.sub 4607182418800017408 (Float64.mul s (Float64.sub 4607182418800017408 (Float64.sub (Float64.mul h 4618441417868443648) (Float64.ofInt (hI h)))))), Float64.mul v (Float64.sub 4607182418800017408 s), v) = hsvS h s v := by
  have e' : (hsvI h).fmod 6 = 4 := e
  rw [hsvS_n c, e']; rfl
theorem hsvS_5 (c : (Float64.cmp s 0 == some Ordering.eq) = false) (e : (hI h).fmod 6 = 5) : (v, Float64.mul v (Float64.sub 4607182418800017408 s), Float64.mul v (Float64.sub 4607182418800017408 (Float64.mul s (Float64.sub (Float64.mul h 4618441417868443648) (Float64.ofInt (hI h)))))) = hsvS h s v := by
  have e' : (hsvI h).fmod 6 = 5 := e
  rw [hsvS_n c, e']; rfl
end
open PySem.Flt in
section
variable {prog : Program} {w : World} {A : Around} {E : Value → Shared → Prop} {s : Shared} {Q : Value → Shared → Prop}
theorem three_hold {s : Shared} {a b c : Value} {wr : List Addr} {h' : Heap} (h : ∀ d o, d ∉ wr → ((s.heap.push { cls := .type "tuple", data := .seq #[a, b, c] }).push { cls := .type "tuple_iterator", data := .fields #[.ref s.heap.objs.size, .int 0 0] }).get? d = some o → h'.get? d = some o)
    (hw : ∀ d ∈ wr, s.heap.objs.size < d) : ∀ d o, s.heap.get? d = some o → h'.get? d = some o := fun d o e =>
  h d o (fun hm => Nat.lt_asymm (Heap.lt_size e) (hw d hm)) (Heap.get?_push_of_some _ (Heap.get?_push_of_some _ e))
theorem best3 (bt : Nat → Nat → Bool) : argBest bt 2 = if bt 1 0 then (if bt 2 1 then 2 else 1) else (if bt 2 0 then 2 else 0) := by
  cases h1 : bt 1 0 <;> cases h2 : bt 2 1 <;> cases h3 : bt 2 0 <;> simp [argBest, h1, h2, h3]
theorem max3_num {a b c : Value} (hh : A.handled = none) (ha : NumV a) (hb : NumV b) (hc : NumV c)
    (h : ∀ h' tk, (∀ d o, s.heap.get? d = some o → h'.get? d = some o) → Q (if ltV a b then (if ltV b c then c else b) else (if ltV a c then c else a)) { s with heap := h', toks := tk }) :
    wpAny (model prog w) A (call (.builtin "max") [a, b, c]) Q E s := by
  have hT : (s.heap.push { cls := .type "tuple", data := .seq #[a, b, c] }).IsTuple s.heap.objs.size #[a, b, c] := ⟨_, Heap.get?_push_size _ rfl, rfl, 0, rfl⟩
  refine call_max_three (wpAny_pyIter_tuple hT ?_)
  have hsz : (s.heap.push { cls := .type "tuple", data := .seq #[a, b, c] }).objs.size = s.heap.objs.size + 1 := Heap.size_push ..
  refine ⟨_, [_, s.heap.objs.size], [_], _, _, _, _, rfl, Walks.tuple (A := A.in1) hh _ s.heap.objs.size (by rw [hsz]; exact Nat.ne_of_lt (Nat.lt_succ_self _)) #[a, b, c],
    ⟨⟨_, Heap.get?_push_size _ rfl, rfl, rfl⟩, hT.push _⟩, fun d hd => ?_, by simp, cmpOf_gt #[a, b, c] (by simp [ha, hb, hc]), fun v h' tk hP hk => ?_⟩
  · show d < ((s.heap.push _).push _).objs.size
    rw [Heap.size_push, hsz]
    simp only [List.mem_cons, List.not_mem_nil, or_false, hsz] at hd
    have h9 : (s.heap.objs.size : Nat) < s.heap.objs.size + 1 + 1 := by omega
    rcases hd with rfl | rfl
    · exact Nat.lt_succ_self _
    · exact h9
  · have := h h' tk (three_hold hk fun d hd => by rw [List.mem_singleton.mp hd, hsz]; exact Nat.lt_succ_self _)
    have hv : v = if ltV a b then (if ltV b c then c else b) else (if ltV a c then c else a) := by
      have hP' : (#[a, b, c] : Array Value)[argBest (fun i j => ltV (#[a, b, c].getD j .none) (#[a, b, c].getD i .none)) 2]? = some v := hP
      rw [best3] at hP'
      have e1 : ltV (#[a, b, c].getD 0 .none) (#[a, b, c].getD 1 .none) = ltV a b := rfl
      have e2 : ltV (#[a, b, c].getD 1 .none) (#[a, b, c].getD 2 .none) = ltV b c := rfl
      have e3 : ltV (#[a, b, c].getD 0 .none) (#[a, b, c].getD 2 .none) = ltV a c := rfl
      rw [e1, e2, e3] at hP'
      cases h1 : ltV a b <;> cases h2 : ltV b c <;> cases h3 : ltV a c <;> simp [h1, h2, h3] at hP' <;> simp [hP']
    rw [hv]; exact this
theorem min3_num {a b c : Value} (hh : A.handled = none) (ha : NumV a) (hb : NumV b) (hc : NumV c)
    (h : ∀ h' tk, (∀ d o, s.heap.get? d = some o → h'.get? d = some o) → Q (if ltV b a then (if ltV c b then c else b) else (if ltV c a then c else a)) { s with heap := h', toks := tk }) :
    wpAny (model prog w) A (call (.builtin "min") [a, b, c]) Q E s := by
  have hT : (s.heap.push { cls := .type "tuple", data := .seq #[a, b, c] }).IsTuple s.heap.objs.size #[a, b, c] := ⟨_, Heap.get?_push_size _ rfl, rfl, 0, rfl⟩
  refine call_min_three (wpAny_pyIter_tuple hT ?_)
  have hsz : (s.heap.push { cls := .type "tuple", data := .seq #[a, b, c] }).objs.size = s.heap.objs.size + 1 := Heap.size_push ..
  refine ⟨_, [_, s.heap.objs.size], [_], _, _, _, _, rfl, Walks.tuple (A := A.in1) hh _ s.heap.objs.size (by rw [hsz]; exact Nat.ne_of_lt (Nat.lt_succ_self _)) #[a, b, c],
    ⟨⟨_, Heap.get?_push_size _ rfl, rfl, rfl⟩, hT.push _⟩, fun d hd => ?_, by simp, cmpOf_lt #[a, b, c] (by simp [ha, hb, hc]), fun v h' tk hP hk => ?_⟩
  · show d < ((s.heap.push _).push _).objs.size
    rw [Heap.size_push, hsz]
    simp only [List.mem_cons, List.not_mem_nil, or_false, hsz] at hd
    have h9 : (s.heap.objs.size : Nat) < s.heap.objs.size + 1 + 1 := by omega
    rcases hd with rfl | rfl
    · exact Nat.lt_succ_self _
    · exact h9
  · have := h h' tk (three_hold hk fun d hd => by rw [List.mem_singleton.mp hd, hsz]; exact Nat.lt_succ_self _)
    have hv : v = if ltV b a then (if ltV c b then c else b) else (if ltV c a then c else a) := by
      have hP' : (#[a, b, c] : Array Value)[argBest (fun i j => ltV (#[a, b, c].getD i .none) (#[a, b, c].getD j .none)) 2]? = some v := hP
      rw [best3] at hP'
      have e1 : ltV (#[a, b, c].getD 1 .none) (#[a, b, c].getD 0 .none) = ltV b a := rfl
      have e2 : ltV (#[a, b, c].getD 2 .none) (#[a, b, c].getD 1 .none) = ltV c b := rfl
      have e3 : ltV (#[a, b, c].getD 2 .none) (#[a, b, c].getD 0 .none) = ltV c a := rfl
      rw [e1, e2, e3] at hP'
      cases h1 : ltV b a <;> cases h2 : ltV c b <;> cases h3 : ltV c a <;> simp [h1, h2, h3] at hP' <;> simp [hP']
    rw [hv]; exact this
noncomputable def fmax (x y : UInt64) : UInt64 := if (Float64.cmp x y == some .lt) = true then y else x
noncomputable def fmin (x y : UInt64) : UInt64 := if (Float64.cmp y x == some .lt) = true then y else x
variable {h₀ : Heap} {L : Addr} {m : Str → Option Value} {news : List (Addr × Obj)} {x y z : UInt64} {t u v : Tok}
theorem max3_ff (hh : A.handled = none) (F : Fr h₀ L s.heap m) (N : News h₀ L s.heap news)
    (h : ∀ h' tk v, Fr h₀ L h' m → News h₀ L h' news → Q (.float (fmax (fmax x y) z) v) { s with heap := h', toks := tk }) :
    wpAny (model prog w) A (call (.builtin "max") [.float x t, .float y u, .float z v]) Q E s :=
  max3_num hh (.float _ _) (.float _ _) (.float _ _) fun h' tk hk => by
    have H := fun n => h h' tk n (F.grownK hk) (N.grown hk)
    cases h1 : ltV (.float x t) (.float y u) <;> cases h2 : ltV (.float y u) (.float z v) <;> cases h3 : ltV (.float x t) (.float z v) <;>
      simp only [ltV] at h1 h2 h3 <;> simp only [fmax, h1, h2, h3] at H <;> simp only [Bool.false_eq_true, if_false, if_true, h1, h2, h3] at H ⊢ <;> exact H _
theorem min3_ff (hh : A.handled = none) (F : Fr h₀ L s.heap m) (N : News h₀ L s.heap news)
    (h : ∀ h' tk v, Fr h₀ L h' m → News h₀ L h' news → Q (.float (fmin (fmin x y) z) v) { s with heap := h', toks := tk }) :
    wpAny (model prog w) A (call (.builtin "min") [.float x t, .float y u, .float z v]) Q E s :=
  min3_num hh (.float _ _) (.float _ _) (.float _ _) fun h' tk hk => by
    have H := fun n => h h' tk n (F.grownK hk) (N.grown hk)
    cases h1 : ltV (.float y u) (.float x t) <;> cases h2 : ltV (.float z v) (.float y u) <;> cases h3 : ltV (.float z v) (.float x t) <;>
      simp only [ltV] at h1 h2 h3 <;> simp only [fmin, h1, h2, h3] at H <;> simp only [Bool.false_eq_true, if_false, if_true, h1, h2, h3] at H ⊢ <;> exact H _
end
noncomputable def rgbX (r g b : UInt64) : UInt64 := fmax (fmax r g) b
noncomputable def rgbN (r g b : UInt64) : UInt64 := fmin (fmin r g) b
noncomputable def rgbH (h d x : UInt64) : T3 := ((Float64.divmod (Float64.div h 4618441417868443648) 4607182418800017408).2, Float64.div d x, x)
noncomputable def rgbS (r g b : UInt64) : T3 :=
  let x := rgbX r g b
  let d := Float64.sub x (rgbN r g b)
  let rc := Float64.div (Float64.sub x r) d
  let gc := Float64.div (Float64.sub x g) d
  let bc := Float64.div (Float64.sub x b) d
  if (Float64.cmp (rgbN r g b) x == some Ordering.eq) = true then (0, 0, x)
  else if (Float64.cmp r x == some Ordering.eq) = true then rgbH (Float64.sub bc gc) d x
  else if (Float64.cmp g x == some Ordering.eq) = true then rgbH (Float64.sub (Float64.add 4611686018427387904 rc) bc) d x
  else rgbH (Float64.sub (Float64.add 4616189618054758400 gc) rc) d x
section
variable {r g b : UInt64}
theorem rgbS_e (c : (Float64.cmp (fmin (fmin r g) b) (fmax (fmax r g) b) == some Ordering.eq) = true) : (0, 0, fmax (fmax r g) b) = rgbS r g b := by
  unfold rgbS; rw [if_pos (show (Float64.cmp (rgbN r g b) (rgbX r g b) == some Ordering.eq) = true from c)]; rfl
theorem not_of {b : Bool} (h : b = false) : ¬ b = true := by rw [h]; exact Bool.false_ne_true
theorem rgbS_r (c : (Float64.cmp (fmin (fmin r g) b) (fmax (fmax r g) b) == some Ordering.eq) = false) (c1 : (Float64.cmp r (fmax (fmax r g) b) == some Ordering.eq) = true) :
    rgbH (Float64.sub (Float64.div (Float64.sub (fmax (fmax r g) b) b) (Float64.sub (fmax (fmax r g) b) (fmin (fmin r g) b))) (Float64.div (Float64.sub (fmax (fmax r g) b) g) (Float64.sub (fmax (fmax r g) b) (fmin (fmin r g) b)))) (Float64.sub (fmax (fmax r g) b) (fmin (fmin r g) b)) (fmax (fmax r g) b) = rgbS r g b := by
  unfold rgbS; rw [if_neg (not_of (show (Float64.cmp (rgbN r g b) (rgbX r g b) == some Ordering.eq) = false from c)), if_pos (show (Float64.cmp r (rgbX r g b) == some Ordering.eq) = true from c1)]; rfl
theorem rgbS_g (c : (Float64.cmp (fmin (fmin r g) b) (fmax (fmax r g) b) == some Ordering.eq) = false) (c1 : (Float64.cmp r (fmax (fmax r g) b) == some Ordering.eq) = false) (c2 : (Float64.cmp g (fmax (fmax r g) b) == some Ordering.eq) = true) :
    rgbH (Float64.sub (Float64.add 4611686018427387904 (Float64.div (Float64.sub (fmax (fmax r g) b) r) (Float64.sub (fmax (fmax r g) b) (fmin (fmin r g) b)))) (Float64.div (Float64.sub (fmax (fmax r g) b) b) (Float64.sub (fmax (fmax r g) b) (fmin (fmin r g) b)))) (Float64.sub (fmax (fmax r g) b) (fmin (fmin r g) b)) (fmax (fmax r g) b) = rgbS r g b := by
  unfold rgbS; rw [if_neg (not_of (show (Float64.cmp (rgbN r g b) (rgbX r g b) == some Ordering.eq) = false from c)), if_neg (not_of (show (Float64.cmp r (rgbX r g b) == some Ordering.eq) = false from c1)), if_pos (show (Float64.cmp g (rgbX r g b) == some Ordering.eq) = true from c2)]; rfl
theorem rgbS_b (c : (Float64.cmp (fmin (fmin r g) b) (fmax (fmax r g) b) == some Ordering.eq) = false) (c1 : (Float64.cmp r (fmax (fmax r g) b) == some Ordering.eq) = false) (c2 : (Float64.cmp g (fmax (fmax r g) b) == some Ordering.eq) = false) :
    rgbH (Float64.sub (Float64.add 4616189618054758400 (Float64.div (Float64.sub (fmax (fmax r g) b) g) (Float64.sub (fmax (fmax r g) b) (fmin (fmin r g) b)))) (Float64.div (Float64.sub (fmax (fmax r g) b) r) (Float64.sub (fmax (fmax r g) b) (fmin (fmin r g) b)))) (Float64.sub (fmax (fmax r g) b) (fmin (fmin r g) b)) (fmax (fmax r g) b) = rgbS r g b := by
  unfold rgbS; rw [if_neg (not_of (show (Float64.cmp (rgbN r g b) (rgbX r g b) == some Ordering.eq) = false from c)), if_neg (not_of (show (Float64.cmp r (rgbX r g b) == some Ordering.eq) = false from c1)), if_neg (not_of (show (Float64.cmp g (rgbX r g b) == some Ordering.eq) = false from c2))]; rfl
end
/-- the paint can be told: it is a grey, or neither the greatest nor the span is nought -/
noncomputable def rgbOk (r g b : UInt64) : Bool := (Float64.cmp (rgbN r g b) (rgbX r g b) == some Ordering.eq) || (!Float64.isZero (rgbX r g b) && !Float64.isZero (Float64.sub (rgbX r g b) (rgbN r g b)))
theorem rgbOk_x {r g b : UInt64} (h : rgbOk r g b = true) (c : (Float64.cmp (fmin (fmin r g) b) (fmax (fmax r g) b) == some Ordering.eq) = false) : ¬ Float64.isZero (fmax (fmax r g) b) = true := by
  unfold rgbOk at h; rw [show (Float64.cmp (rgbN r g b) (rgbX r g b) == some Ordering.eq) = false from c] at h; simp at h; exact not_of h.1
theorem rgbOk_d {r g b : UInt64} (h : rgbOk r g b = true) (c : (Float64.cmp (fmin (fmin r g) b) (fmax (fmax r g) b) == some Ordering.eq) = false) : ¬ Float64.isZero (Float64.sub (fmax (fmax r g) b) (fmin (fmin r g) b)) = true := by
  unfold rgbOk at h; rw [show (Float64.cmp (rgbN r g b) (rgbX r g b) == some Ordering.eq) = false from c] at h; simp at h; exact not_of h.2
section
open PySem.Calls
theorem gen_pos {M : Model} {A : Around} {E : Value → Shared → Prop} {α : Type} {c : Sem α} {Q : α → Shared → Prop} {hp : Heap} {gn : Array GenState} {d : Drawn} {o : OsState} {y : Nat}
    (h : ∀ tk, tk ≠ 0 → wpAny M A c Q E ⟨hp, gn, d, tk, o⟩) : wpAny M A c Q E ⟨hp, gn, d, y + 1, o⟩ := h _ (Nat.succ_ne_zero _)
noncomputable abbrev RetT3n (x : T3) (P : Prop) : RetK := fun h₀ L m news s Q => ∀ (q : Addr) (n1 n2 n3 : Tok) (h' : Heap) (tk' : Nat), (P → n1 ≠ 0 ∧ n2 ≠ 0 ∧ n3 ≠ 0) → Fr h₀ L h' m → News h₀ L h' ((q, t3O x n1 n2 n3) :: news) → (∀ p ∈ news, p.1 < q) → Q (.ref q) { s with heap := h', toks := tk' }
theorem retT3n {x : T3} {a b c : UInt64} {P : Prop} {h₀ h' : Heap} {L q : Addr} {m : Str → Option Value} {news : Led} {s : Shared} {Q : Value → Shared → Prop} {n1 n2 n3 : Tok} {tk' : Nat} (h : RetT3n x P h₀ L m news s Q) (e : (a, b, c) = x) (F : Fr h₀ L h' m)
    (N : News h₀ L h' ((q, tupO [.float a n1, .float b n2, .float c n3]) :: news)) (lt : ∀ p ∈ news, p.1 < q) (hn : P → n1 ≠ 0 ∧ n2 ≠ 0 ∧ n3 ≠ 0) : Q (.ref q) { s with heap := h', toks := tk' } := by
  subst e; exact h q n1 n2 n3 h' tk' hn F N lt
theorem said1 : True := by
  k_with "execs nil" => (k_here; k_dflt (refine gen_pos ?_); intro tk9 hk9)
  k_with "execs cons" => (k_here; k_dflt (refine gen_pos ?_); intro tk9 hk9)
  trivial
set_option maxRecDepth 100000 in
set_option maxHeartbeats 8000000 in
theorem hsv_toldn (w : World) (mean : ExcName → Option Value) (mg mb : Str → Option Value) (h s v : UInt64) (th ts tv : Tok) (hf : Float64.isFinite (Float64.mul h 4618441417868443648) = true)
    (hi : (Flt.toInt Float64.truncOf (Float64.mul h 4618441417868443648)).natAbs < 2 ^ 1024 - 2 ^ 970) :
    Told w mean mg mb 42 [.float h th, .float s ts, .float v tv] 1 1 (fun _ => True) (RetT3n (hsvS h s v) (tv ≠ 0)) := by
  unfold Told
  k_fill
  intro dp un gd cn cs a ccd cl outer A₀ base h₀ L m news s Q E B F X N T hk hR hd hu hret
  refine wpAny_call ?_
  k_dflt ktr_enter
  k_steps
  all_goals first
    | exact absurd (by assumption) (fin_nan hf)
    | exact absurd (by assumption) (fin_inf hf)
    | exact absurd (by assumption) (Nat.not_le.mpr hi)
    | (exfalso; have h6 := Int.fmod_nonneg_of_pos (hsvI h) (show (0:Int) < 6 by decide); have h7 := Int.fmod_lt_of_pos (hsvI h) (show (0:Int) < 6 by decide); unfold hsvI at h6 h7; omega)
    | exact retT3n hret (hsvS_e (by assumption)) (by assumption) (by assumption) (by assumption) (fun _ => ⟨by first | assumption | exact Nat.succ_ne_zero _, by first | assumption | exact Nat.succ_ne_zero _, by first | assumption | exact Nat.succ_ne_zero _⟩)
    | exact retT3n hret (hsvS_0 (by assumption) (by assumption)) (by assumption) (by assumption) (by assumption) (fun _ => ⟨by first | assumption | exact Nat.succ_ne_zero _, by first | assumption | exact Nat.succ_ne_zero _, by first | assumption | exact Nat.succ_ne_zero _⟩)
    | exact retT3n hret (hsvS_1 (by assumption) (by assumption)) (by assumption) (by assumption) (by assumption) (fun _ => ⟨by first | assumption | exact Nat.succ_ne_zero _, by first | assumption | exact Nat.succ_ne_zero _, by first | assumption | exact Nat.succ_ne_zero _⟩)
    | exact retT3n hret (hsvS_2 (by assumption) (by assumption)) (by assumption) (by assumption) (by assumption) (fun _ => ⟨by first | assumption | exact Nat.succ_ne_zero _, by first | assumption | exact Nat.succ_ne_zero _, by first | assumption | exact Nat.succ_ne_zero _⟩)
    | exact retT3n hret (hsvS_3 (by assumption) (by assumption)) (by assumption) (by assumption) (by assumption) (fun _ => ⟨by first | assumption | exact Nat.succ_ne_zero _, by first | assumption | exact Nat.succ_ne_zero _, by first | assumption | exact Nat.succ_ne_zero _⟩)
    | exact retT3n hret (hsvS_4 (by assumption) (by assumption)) (by assumption) (by assumption) (by assumption) (fun _ => ⟨by first | assumption | exact Nat.succ_ne_zero _, by first | assumption | exact Nat.succ_ne_zero _, by first | assumption | exact Nat.succ_ne_zero _⟩)
    | exact retT3n hret (hsvS_5 (by assumption) (by assumption)) (by assumption) (by assumption) (by assumption) (fun _ => ⟨by first | assumption | exact Nat.succ_ne_zero _, by first | assumption | exact Nat.succ_ne_zero _, by first | assumption | exact Nat.succ_ne_zero _⟩)

section
variable {prog : Program} {w : World} {A : Around} {E : Value → Shared → Prop} {s : Shared} {Q : Value → Shared → Prop} {h₀ : Heap} {L : Addr} {m : Str → Option Value} {news : List (Addr × Obj)} {x y z : UInt64} {t u v : Tok}
theorem max3_ffn (hh : A.handled = none) (F : Fr h₀ L s.heap m) (N : News h₀ L s.heap news)
    (h : ∀ h' tk n, (n = t ∨ n = u ∨ n = v) → Fr h₀ L h' m → News h₀ L h' news → Q (.float (fmax (fmax x y) z) n) { s with heap := h', toks := tk }) :
    wpAny (model prog w) A (call (.builtin "max") [.float x t, .float y u, .float z v]) Q E s :=
  max3_num hh (.float _ _) (.float _ _) (.float _ _) fun h' tk hk => by
    have H := fun n hn => h h' tk n hn (F.grownK hk) (N.grown hk)
    cases h1 : Flt.ltV (.float x t) (.float y u) <;> cases h2 : Flt.ltV (.float y u) (.float z v) <;> cases h3 : Flt.ltV (.float x t) (.float z v) <;>
      simp only [Flt.ltV] at h1 h2 h3 <;> simp only [fmax, h1, h2, h3] at H <;> simp only [Bool.false_eq_true, if_false, if_true, h1, h2, h3] at H ⊢ <;> first | exact H _ (.inl rfl) | exact H _ (.inr (.inl rfl)) | exact H _ (.inr (.inr rfl))
end
theorem said2 : True := by
  k_with "call builtin:max" => ((with_reducible show wpAny _ _ (call _ [Value.float _ _, Value.float _ _, Value.float _ _]) _ _ _); (rename News _ _ _ _ => N'); (rename Fr _ _ _ _ => F'); refine max3_ffn rfl F' N' ?_; clear N'; intro _ _ _ hv9 _ _)
  k_with "call builtin:min" => ((with_reducible show wpAny _ _ (call _ [Value.float _ _, Value.float _ _, Value.float _ _]) _ _ _); (rename News _ _ _ _ => N'); (rename Fr _ _ _ _ => F'); refine min3_ff rfl F' N' ?_; clear N'; intro _ _ _ _ _)
  trivial
set_option maxRecDepth 100000 in
set_option maxHeartbeats 8000000 in
theorem rgb_toldn (w : World) (mean : ExcName → Option Value) (mg mb : Str → Option Value) (r g b : UInt64) (t1 t2 t3 : Tok) (hok : rgbOk r g b = true) :
    Told w mean mg mb 35 [.float r t1, .float g t2, .float b t3] 1 1 (fun _ => True) (RetT3n (rgbS r g b) ((Float64.cmp (fmin (fmin r g) b) (fmax (fmax r g) b) == some Ordering.eq) = false ∧ t1 ≠ 0 ∧ t2 ≠ 0 ∧ t3 ≠ 0)) := by
  unfold Told
  k_fill
  intro dp un gd cn cs a ccd cl outer A₀ base h₀ L m news s Q E B F X N T hk hR hd hu hret
  refine wpAny_call ?_
  k_dflt ktr_enter
  k_steps
  all_goals first
    | exact absurd (by assumption) (rgbOk_x hok (by assumption))
    | exact absurd (by assumption) (rgbOk_d hok (by assumption))
    | refine retT3n hret (rgbS_e (by assumption)) (by assumption) (by assumption) (by assumption) ?_
    | refine retT3n hret (rgbS_r (by assumption) (by assumption)) (by assumption) (by assumption) (by assumption) ?_
    | refine retT3n hret (rgbS_g (by assumption) (by assumption) (by assumption)) (by assumption) (by assumption) (by assumption) ?_
    | refine retT3n hret (rgbS_b (by assumption) (by assumption) (by assumption)) (by assumption) (by assumption) (by assumption) ?_
  all_goals intro hP
  all_goals first
    | (exfalso; have h9 := hP.1; simp_all; done)
    | refine ⟨?_, ?_, ?_⟩
  all_goals first
    | assumption
    | exact Nat.succ_ne_zero _
    | (rename (_ ∨ _ ∨ _) => hv9; rcases hv9 with e9 | e9 | e9 <;> rw [e9] <;> first | exact hP.2.1 | exact hP.2.2.1 | exact hP.2.2.2)
end
theorem said3 : True := by
  k_with_none
  trivial
section
noncomputable def S (l : List Nat) : Str := ⟨l.toArray⟩
noncomputable def parseL : List Nat → List Nat
  | [] => []
  | [c] => if c = 34 then [] else [c]
  | c :: e :: r => if c = 34 then (if e = 34 then 34 :: parseL r else []) else c :: parseL (e :: r)
noncomputable def W257 (b : List Nat) (i : Int) (d : Str) : Prop := d.cps.toList ++ parseL (b.drop (i.toNat - 5)) = parseL b
theorem S_len (l : List Nat) : (S l).length = l.length := by simp [S, Str.length]
theorem S_eq {x y : Str} (h : x.cps.toList = y.cps.toList) : x = y := Str.ext' (Array.toList_inj.mp h)
theorem S_toList (l : List Nat) : (S l).cps.toList = l := by simp [S]
theorem S_lit : S [50, 53, 55] = Str.ofString "257" := by decide +kernel
theorem S_litQ : S [32, 34] = Str.ofString " \"" := by decide +kernel
theorem S_slice_to (l : List Nat) (k : Nat) (hk : k ≤ l.length) : Txt.slice (S l) none (some (k : Int)) = S (l.take k) := by
  have h := slice_closes_toL (x := S l) (j := (k : Int)) (Int.natCast_nonneg k) (by rw [S_len]; omega)
  have h2 := beq_iff_eq.mp h
  rw [h2]; exact S_eq (by simp [S])
theorem S_slice_ss (l : List Nat) (i j : Nat) (hi : i ≤ j) (hk : j ≤ l.length) : Txt.slice (S l) (some (i : Int)) (some (j : Int)) = S ((l.drop i).take (j - i)) := by
  have h := slice_closesL (x := S l) (i := (i : Int)) (j := (j : Int)) (Int.natCast_nonneg i) (by omega) (by rw [S_len]; omega)
  have h2 := beq_iff_eq.mp h
  rw [h2]; exact S_eq (by simp [S])
theorem S_item (l : List Nat) (k : Nat) (h1 : k < l.length) : Txt.item (S l) (k : Int) = S [l[k]] := by
  have e : seqIndex? (k : Int) (S l).length = some k := by
    have h3 : ((S l).length : Int) = l.length := by rw [S_len]
    have h4 : ¬ ((k : Int) < 0) := by omega
    have h5 : (0 : Int) ≤ k ∧ (k : Int) < l.length := ⟨by omega, by omega⟩
    simp only [seqIndex?, h3, if_neg h4, Int.toNat_natCast]
    rw [if_pos (by simp [h1])]
  unfold Txt.item Txt.charAt
  rw [e]
  simp [S, h1]
structure IsP (b : List Nat) (x : Str) : Prop where
  eq : x = S (50 :: 53 :: 55 :: 32 :: 34 :: b)
theorem IsP.len {b : List Nat} {x : Str} (h : IsP b x) : x.length = b.length + 5 := by rw [h.eq, S_len]; rfl
theorem IsP.at {b : List Nat} {x : Str} (h : IsP b x) {i : Int} (h5 : 5 ≤ i) (hi : i < x.length) : ∃ c r, b.drop (i.toNat - 5) = c :: r ∧ Txt.item x i = S [c] ∧ b.drop ((i + 1).toNat - 5) = r := by
  have hl := h.len
  obtain ⟨k, rfl⟩ := Int.eq_ofNat_of_zero_le (show 0 ≤ i by omega)
  obtain ⟨j, rfl⟩ : ∃ j, k = j + 5 := ⟨k - 5, by omega⟩
  have hj : j < b.length := by omega
  refine ⟨b[j], b.drop (j + 1), ?_, ?_, ?_⟩
  · simp only [Int.toNat_natCast, Nat.add_sub_cancel]; exact List.drop_eq_getElem_cons hj
  · rw [h.eq, S_item _ _ (by simp only [List.length_cons]; omega)]
    simp only [List.getElem_cons_succ]
  · have : ((j + 5 : Nat) + 1 : Int).toNat - 5 = j + 1 := by omega
    rw [this]
theorem S_inj {l r : List Nat} (h : S l = S r) : l = r := by have := congrArg (fun x : Str => x.cps.toList) h; simpa [S] using this
theorem S_app (x : Str) (l : List Nat) : (x ++ S l).cps.toList = x.cps.toList ++ l := by rw [Str.cps_append, Array.toList_append, S_toList]
theorem S_q : Str.ofString "\"" = S [34] := by decide +kernel
theorem q_yes {c : Nat} (h : (S [c] == Str.ofString "\"") = true) : c = 34 := by
  have h1 := beq_iff_eq.mp h; rw [S_q] at h1; simpa using S_inj h1
theorem q_no {c : Nat} (h : (S [c] == Str.ofString "\"") = false) : c ≠ 34 := by
  intro e; rw [e, S_q] at h; simp at h
theorem parseL_q2 (r : List Nat) : parseL (34 :: 34 :: r) = 34 :: parseL r := by simp [parseL]
theorem parseL_q1 {e : Nat} (r : List Nat) (h : e ≠ 34) : parseL (34 :: e :: r) = [] := by simp [parseL, h]
theorem parseL_c {c : Nat} (r : List Nat) (h : c ≠ 34) : parseL (c :: r) = c :: parseL r := by cases r <;> simp [parseL, h]
section
variable {b : List Nat} {x d : Str} {i : Int}
theorem w_start : W257 b 5 (Str.ofString "") := by
  have e : (Str.ofString "").cps.toList = [] := by decide +kernel
  unfold W257; rw [e]; simp
theorem w_end (P : IsP b x) (h5 : 5 ≤ i) (hi : i ≤ (b.length : Int) + 5) (W : W257 b i d) (hn : ¬ i < (x.length : Int)) : d = S (parseL b) := by
  have hl := P.len
  unfold W257 at W
  rw [List.drop_of_length_le (by omega)] at W
  simp only [parseL, List.append_nil] at W
  exact S_eq (by rw [W, S_toList])
theorem w_brk1 (P : IsP b x) (h5 : 5 ≤ i) (W : W257 b i d) (hi : i < (x.length : Int)) (hq : (Txt.item x i == Str.ofString "\"") = true) (hn : (x.length : Int) ≤ i + 1) : d = S (parseL b) := by
  have hl := P.len
  obtain ⟨c, r, e1, e2, e3⟩ := P.at h5 hi
  rw [e2] at hq
  rw [List.drop_of_length_le (by omega)] at e3
  unfold W257 at W
  rw [e1, ← e3, q_yes hq] at W
  simp only [parseL, if_true, List.append_nil] at W
  exact S_eq (by rw [W, S_toList])
theorem w_brk2 (P : IsP b x) (h5 : 5 ≤ i) (W : W257 b i d) (hi : i < (x.length : Int)) (hq : (Txt.item x i == Str.ofString "\"") = true) (hn : ¬ (x.length : Int) ≤ i + 1) (hp : (Txt.item x (i + 1) != Str.ofString "\"") = true) : d = S (parseL b) := by
  obtain ⟨c, r, e1, e2, e3⟩ := P.at h5 hi
  obtain ⟨c', r', e1', e2', e3'⟩ := P.at (i := i + 1) (by omega) (by omega)
  rw [e2] at hq
  rw [e2'] at hp
  have hp' : (S [c'] == Str.ofString "\"") = false := by simpa [bne] using hp
  unfold W257 at W
  rw [e1, ← e3, e1', q_yes hq, parseL_q1 _ (q_no hp'), List.append_nil] at W
  exact S_eq (by rw [W, S_toList])
theorem w_two (P : IsP b x) (h5 : 5 ≤ i) (W : W257 b i d) (hi : i < (x.length : Int)) (hq : (Txt.item x i == Str.ofString "\"") = true) (hn : ¬ (x.length : Int) ≤ i + 1) (hp : (Txt.item x (i + 1) != Str.ofString "\"") = false) : W257 b (i + 1 + 1) (d ++ Txt.item x i) := by
  obtain ⟨c, r, e1, e2, e3⟩ := P.at h5 hi
  obtain ⟨c', r', e1', e2', e3'⟩ := P.at (i := i + 1) (by omega) (by omega)
  rw [e2] at hq ⊢
  rw [e2'] at hp
  have hp' : (S [c'] == Str.ofString "\"") = true := by simpa [bne] using hp
  unfold W257 at W ⊢
  rw [e3', S_app, List.append_assoc]
  rw [e1, ← e3, e1', q_yes hq, q_yes hp', parseL_q2] at W
  rw [q_yes hq]; exact W
theorem w_one (P : IsP b x) (h5 : 5 ≤ i) (W : W257 b i d) (hi : i < (x.length : Int)) (hq : (Txt.item x i == Str.ofString "\"") = false) : W257 b (i + 1) (d ++ Txt.item x i) := by
  obtain ⟨c, r, e1, e2, e3⟩ := P.at h5 hi
  rw [e2] at hq ⊢
  unfold W257 at W ⊢
  rw [e3, S_app, List.append_assoc]
  rw [e1, parseL_c _ (q_no hq)] at W
  exact W
end
set_option maxRecDepth 100000 in
set_option maxHeartbeats 8000000 in
theorem parse_told (w : World) (mean : ExcName → Option Value) (mg mb : Str → Option Value) (b : List Nat) (t1 : Tok) (hb : b.length ≤ 1000) :
    Told w mean mg mb 74 [.str (S (50 :: 53 :: 55 :: 32 :: 34 :: b)) t1] 1 1 (fun _ => True) (RetS (S (parseL b))) := by
  unfold Told
  k_fill
  intro dp un gd cn cs a ccd cl outer A₀ base h₀ L m news s Q E B F X N T hk hR hd hu hret
  have hP : IsP b (S (50 :: 53 :: 55 :: 32 :: 34 :: b)) := ⟨rfl⟩
  have h1 : ¬ (Txt.slice (S (50 :: 53 :: 55 :: 32 :: 34 :: b)) none (some 3) != Str.ofString "257") = true := by
    have h1 := (S_slice_to (50 :: 53 :: 55 :: 32 :: 34 :: b) 3 (by simp)).trans S_lit
    simp only [Int.cast_ofNat_Int] at h1
    rw [h1]; simp
  have h2 : ¬ (Txt.slice (S (50 :: 53 :: 55 :: 32 :: 34 :: b)) (some 3) (some 5) != Str.ofString " \"") = true := by
    have h2 := (S_slice_ss (50 :: 53 :: 55 :: 32 :: 34 :: b) 3 5 (by omega) (by simp)).trans S_litQ
    simp only [Int.cast_ofNat_Int] at h2
    rw [h2]; simp
  generalize S (50 :: 53 :: 55 :: 32 :: 34 :: b) = x at hP h1 h2 ⊢
  have hlen := hP.len
  have hlen2 : x.length ≤ 1005 := by omega
  k_with "exec While Compare cons nil" => k_while (fun _ i d => 5 ≤ i ∧ i ≤ (b.length : Int) + 5 ∧ (d.length : Int) ≤ i ∧ W257 b i d) (fun _ i d => ((b.length : Int) + 5 - i).toNat) "i" "dirname"
  k_with "state" => (refine ⟨by first | decide | omega, by first | decide | omega, by first | decide | omega, ?_⟩; first | exact w_start | exact w_two hP (by assumption) (by assumption) (by assumption) (by assumption) (by assumption) (by assumption) | exact w_one hP (by assumption) (by assumption) (by assumption) (by assumption))
  refine wpAny_call ?_
  k_dflt ktr_enter
  k_steps
  all_goals first
    | exact absurd (by assumption) h1
    | exact absurd (by assumption) h2
    | exact retS hret (w_end hP (by assumption) (by assumption) (by assumption) (by assumption)) (by assumption) (by assumption)
    | exact retS hret (w_brk1 hP (by assumption) (by assumption) (by assumption) (by assumption) (by assumption)) (by assumption) (by assumption)
    | exact retS hret (w_brk2 hP (by assumption) (by assumption) (by assumption) (by assumption) (by assumption) (by assumption)) (by assumption) (by assumption)
end
theorem said4 : True := by
  k_with_none
  trivial
section
variable {l r : List Nat} {i j : Int}
theorem S_from (h0 : 0 ≤ i) : Txt.slice (S l) (some i) none = S (l.drop i.toNat) := by
  by_cases h : i ≤ (l.length : Int)
  · rw [slice_from_eq (b := (l.length : Int)) h0 (by rw [S_len]; exact h) (by rw [S_len])]
    refine S_eq ?_
    simp only [S_toList]
    refine List.take_of_length_le ?_
    rw [List.length_drop]; omega
  · rw [slice_beyond (by rw [S_len]; omega), List.drop_of_length_le (by omega)]
    exact S_eq (by simp [Str.empty, S])
theorem S_to (h0 : 0 ≤ i) (h1 : i ≤ l.length) : Txt.slice (S l) none (some i) = S (l.take i.toNat) := by
  obtain ⟨k, rfl⟩ := Int.eq_ofNat_of_zero_le h0
  rw [S_slice_to l k (by omega)]; rfl
theorem S_toneg (h0 : i < 0) (h1 : -(l.length : Int) ≤ i) : Txt.slice (S l) none (some i) = S (l.take (l.length + i).toNat) := by
  rw [slice_to_neg h0, S_len, Int.max_eq_right (by omega)]
  exact S_to (by omega) (by omega)
open PySem.Builtin PySem.Builtin.Str in
theorem S_nn : Txt.slice (S l) none none = S l := by
  have h : strSliceIndices none none 1 (S l).length = strSliceIndices (some (0 : Int)) none 1 (S l).length := by
    have h1 : (0 : Int) = max 0 (min 0 ((S l).length : Int)) := by omega
    simp only [strSliceIndices, show (1 : Int) > 0 by decide, if_true, show ¬ (0 : Int) < 0 by decide, if_false]
    rw [← h1]
  have e : Txt.slice (S l) none none = Txt.slice (S l) (some 0) none := by unfold Txt.slice; rw [h]
  rw [e, S_from (Int.le_refl _)]; rfl
theorem S_at (h0 : 0 ≤ i) (h1 : i < l.length) : Txt.item (S l) i = S [l.getD i.toNat 0] := by
  obtain ⟨k, rfl⟩ := Int.eq_ofNat_of_zero_le h0
  rw [S_item l k (by omega)]
  simp only [Int.toNat_natCast]
  rw [List.getD_eq_getElem?_getD, List.getElem?_eq_getElem (by omega)]; rfl
theorem S_atneg (h0 : i < 0) (h1 : -(l.length : Int) ≤ i) : Txt.item (S l) i = S [l.getD (l.length + i).toNat 0] := by
  have e : Txt.item (S l) i = Txt.item (S l) (l.length + i) := by
    unfold Txt.item Txt.charAt
    have : seqIndex? i (S l).length = seqIndex? (l.length + i) (S l).length := by
      have h3 : ((S l).length : Int) = l.length := by rw [S_len]
      have h4 : ¬ ((l.length : Int) + i < 0) := by omega
      have h5 : i + (l.length : Int) = l.length + i := Int.add_comm _ _
      simp only [seqIndex?, h3, if_neg h4, if_pos h0, h5]
    rw [this]
  rw [e, S_at (by omega) (by omega)]
theorem S_beq : (S l == S r) = (l == r) := by
  by_cases h : l = r
  · subst h; simp
  · have : S l ≠ S r := fun e => h (S_inj e)
    rw [beq_eq_false_iff_ne.mpr this, beq_eq_false_iff_ne.mpr h]
theorem S_cat : S l ++ S r = S (l ++ r) := S_eq (by rw [S_app, S_toList, S_toList])
theorem S_size (h : l.length ≤ 1000000) : (S l).length ≤ sizeLine := by rw [S_len, sizeLine_eq]; omega
end
section
variable {prog : Program} {w : World} {A : Around} {E : Value → Shared → Prop} {s : Shared} {value slice : Expr} {l r : List Nat} {t u : Tok} {h₀ : Heap} {L : Addr} {m : Str → Option Value} {news : List (Addr × Obj)} {Q : Value → Shared → Prop}
theorem sS_nn (hF : Fr h₀ L s.heap m) (hN : News h₀ L s.heap news) (hsz : l.length ≤ 1000000) (h : ∀ h' t' k, Fr h₀ L h' m → News h₀ L h' news → Q (.str (S l) t') { s with heap := h', toks := k })
    (hs : subscripted slice false (.str (S l) t) (.ref s.heap.objs.size) = operate [.ref s.heap.objs.size, .str (S l) t] (getItem (.str (S l) t) (.ref s.heap.objs.size)) := by with_unfolding_all rfl)
    (ht : ∀ r, letTemporaryGo value (.str (S l) t) r = pure () := by intro _; with_unfolding_all rfl) :
    wpAny (model prog w) A (subscriptTail value slice (.str (S l) t) (.ref s.heap.objs.size)) Q E { s with heap := s.heap.push { cls := .type "slice", data := .fields #[.none, .none, .none] } } :=
  slice_strN_nn hF hN (fun h' t' k a b => by rw [S_nn]; exact h h' t' k a b) hs ht (S_size hsz)
theorem sS_from {i : Int} {ui : Tok} (hF : Fr h₀ L s.heap m) (hN : News h₀ L s.heap news) (hsz : l.length ≤ 1000000) (h0 : 0 ≤ i) (h : ∀ h' t' k, Fr h₀ L h' m → News h₀ L h' news → Q (.str (S (l.drop i.toNat)) t') { s with heap := h', toks := k })
    (hs : subscripted slice false (.str (S l) t) (.ref s.heap.objs.size) = operate [.ref s.heap.objs.size, .str (S l) t] (getItem (.str (S l) t) (.ref s.heap.objs.size)) := by with_unfolding_all rfl)
    (ht : ∀ r, letTemporaryGo value (.str (S l) t) r = pure () := by intro _; with_unfolding_all rfl) :
    wpAny (model prog w) A (subscriptTail value slice (.str (S l) t) (.ref s.heap.objs.size)) Q E { s with heap := s.heap.push { cls := .type "slice", data := .fields #[.int i ui, .none, .none] } } :=
  slice_strN_sn hF hN (fun h' t' k a b => by rw [S_from h0]; exact h h' t' k a b) hs ht (S_size hsz)
theorem sS_to {i : Int} {ui : Tok} (hF : Fr h₀ L s.heap m) (hN : News h₀ L s.heap news) (hsz : l.length ≤ 1000000) (h0 : 0 ≤ i) (h1 : i ≤ l.length) (h : ∀ h' t' k, Fr h₀ L h' m → News h₀ L h' news → Q (.str (S (l.take i.toNat)) t') { s with heap := h', toks := k })
    (hs : subscripted slice false (.str (S l) t) (.ref s.heap.objs.size) = operate [.ref s.heap.objs.size, .str (S l) t] (getItem (.str (S l) t) (.ref s.heap.objs.size)) := by with_unfolding_all rfl)
    (ht : ∀ r, letTemporaryGo value (.str (S l) t) r = pure () := by intro _; with_unfolding_all rfl) :
    wpAny (model prog w) A (subscriptTail value slice (.str (S l) t) (.ref s.heap.objs.size)) Q E { s with heap := s.heap.push { cls := .type "slice", data := .fields #[.none, .int i ui, .none] } } :=
  slice_strN_ns hF hN (fun h' t' k a b => by rw [S_to h0 h1]; exact h h' t' k a b) hs ht (S_size hsz)
theorem sS_toneg {i : Int} {ui : Tok} (hF : Fr h₀ L s.heap m) (hN : News h₀ L s.heap news) (hsz : l.length ≤ 1000000) (h0 : i < 0) (h1 : -(l.length : Int) ≤ i) (h : ∀ h' t' k, Fr h₀ L h' m → News h₀ L h' news → Q (.str (S (l.take (l.length + i).toNat)) t') { s with heap := h', toks := k })
    (hs : subscripted slice false (.str (S l) t) (.ref s.heap.objs.size) = operate [.ref s.heap.objs.size, .str (S l) t] (getItem (.str (S l) t) (.ref s.heap.objs.size)) := by with_unfolding_all rfl)
    (ht : ∀ r, letTemporaryGo value (.str (S l) t) r = pure () := by intro _; with_unfolding_all rfl) :
    wpAny (model prog w) A (subscriptTail value slice (.str (S l) t) (.ref s.heap.objs.size)) Q E { s with heap := s.heap.push { cls := .type "slice", data := .fields #[.none, .int i ui, .none] } } :=
  slice_strN_ns hF hN (fun h' t' k a b => by rw [S_toneg h0 h1]; exact h h' t' k a b) hs ht (S_size hsz)
theorem sS_at {i : Int} {u : Tok} (hsz : l.length ≤ 1000000) (h0 : 0 ≤ i) (h1 : i < l.length) (h : Q (.str (S [l.getD i.toNat 0]) s.toks) { s with toks := s.toks + 1 })
    (hs : subscripted slice false (.str (S l) t) (.int i u) = operate [.str (S l) t, .int i u] (getItem (.str (S l) t) (.int i u)) := by with_unfolding_all rfl)
    (ht : ∀ r, letTemporaryGo value (.str (S l) t) r = pure () := by intro _; with_unfolding_all rfl) :
    wpAny (model prog w) A (subscriptTail value slice (.str (S l) t) (.int i u)) Q E s :=
  item_str (fitsSsize_of (N := 9223372036854775808) (by omega) (by omega) (Int.le_refl _)) (by rw [S_len]; omega) (by rw [S_len]; omega) (fun _ => by rw [S_at h0 h1]; exact h) hs ht
theorem sS_atneg {i : Int} {u : Tok} (hsz : l.length ≤ 1000000) (h0 : i < 0) (h1 : -(l.length : Int) ≤ i) (h : Q (.str (S [l.getD (l.length + i).toNat 0]) s.toks) { s with toks := s.toks + 1 })
    (hs : subscripted slice false (.str (S l) t) (.int i u) = operate [.str (S l) t, .int i u] (getItem (.str (S l) t) (.int i u)) := by with_unfolding_all rfl)
    (ht : ∀ r, letTemporaryGo value (.str (S l) t) r = pure () := by intro _; with_unfolding_all rfl) :
    wpAny (model prog w) A (subscriptTail value slice (.str (S l) t) (.int i u)) Q E s :=
  item_str (fitsSsize_of (N := 9223372036854775808) (by omega) (by omega) (Int.le_refl _)) (by rw [S_len]; omega) (by rw [S_len]; omega) (fun _ => by rw [S_atneg h0 h1]; exact h) hs ht
theorem sS_eq (h : Q (.bool (l == r)) s) : wpAny (model prog w) A (compareOp .Eq (.str (S l) t) (.str (S r) u)) Q E s := eq_str (by rw [S_beq]; exact h)
theorem sS_ne (h : Q (.bool (l != r)) s) : wpAny (model prog w) A (compareOp .NotEq (.str (S l) t) (.str (S r) u)) Q E s := ne_str (by unfold bne; rw [S_beq]; exact h)
theorem sS_len (hsz : l.length ≤ 1000000) (h : Q (.int l.length (s.toks + 1)) { s with toks := s.toks + 1 + 1 }) : wpAny (model prog w) A (call (.builtin "len") [.str (S l) t]) Q E s :=
  SBL.len (by rw [S_len]; omega) (by rw [S_len]; exact h)
theorem sS_truthy {Q : Bool → Shared → Prop} (hsz : l.length ≤ 1000000) (h : Q (decide (0 < (l.length : Int))) { s with toks := s.toks + 1 + 1 }) : wpAny (model prog w) A (PySem.truthy (.str (S l) t)) Q E s :=
  SBL.truthy (by rw [S_len]; omega) (by
    have e : ((l.length : Int) != 0) = decide (0 < (l.length : Int)) := by
      by_cases h0 : l.length = 0
      · simp [h0]
      · rw [bne_iff_ne.mpr (by omega), decide_eq_true (by omega)]
    rw [S_len, e]; exact h)
theorem sS_truthy_drop {Q : Bool → Shared → Prop} {i : Int} (hsz : l.length ≤ 1000000) (h0 : 0 ≤ i) (h : Q (decide (i < (l.length : Int))) { s with toks := s.toks + 1 + 1 }) : wpAny (model prog w) A (PySem.truthy (.str (S (l.drop i.toNat)) t)) Q E s :=
  sS_truthy (by rw [List.length_drop]; omega) (by
    have e : (0 < ((l.drop i.toNat).length : Int)) = (i < (l.length : Int)) := propext (by rw [List.length_drop]; omega)
    simp only [e]; exact h)
theorem sS_truthy_take {Q : Bool → Shared → Prop} {i : Int} (hsz : l.length ≤ 1000000) (h0 : i ≤ 0) (h1 : -i ≤ (l.length : Int)) (h : Q (decide (-i < (l.length : Int))) { s with toks := s.toks + 1 + 1 }) : wpAny (model prog w) A (PySem.truthy (.str (S (l.take (l.length + i).toNat)) t)) Q E s :=
  sS_truthy (by rw [List.length_take]; omega) (by
    have e : (0 < ((l.take (l.length + i).toNat).length : Int)) = (-i < (l.length : Int)) := propext (by rw [List.length_take]; omega)
    simp only [e]; exact h)
theorem sS_add (hl : l.length ≤ 100000) (hr : r.length ≤ 100000) (h : ∀ t' k, Q (.str (S (l ++ r)) t') { s with toks := k }) : wpAny (model prog w) A (binaryOp .Add (.str (S l) t) (.str (S r) u)) Q E s :=
  SB.add (fun t' k => by rw [S_cat]; exact h t' k) (by rw [S_len, S_len, sizeLine_eq]; omega)
end
section
theorem said5 : True := by
  k_with "subscriptTail Name Slice str ref" => ((with_reducible show wpAny _ _ (subscriptTail _ (Expr.Slice (some _) none none _) (Value.str (S _) _) _) _ _ _); (with_reducible rename Fr _ _ _ _ => F'); (with_reducible rename News _ _ _ _ => N'); (refine sS_from (s := ⟨_, _, _, _, _⟩) F' N' (by (try simp only [List.length_drop, List.length_take, List.length_cons, List.length_nil, List.length_append, List.length_replicate]); omega) (by omega) ?_); intro _ _ _ _ _)
  k_with "subscriptTail Name Slice str ref" => ((with_reducible show wpAny _ _ (subscriptTail _ (Expr.Slice none (some _) none _) (Value.str (S _) _) _) _ _ _); (with_reducible rename Fr _ _ _ _ => F'); (with_reducible rename News _ _ _ _ => N'); (first | (refine sS_nn (s := ⟨_, _, _, _, _⟩) F' N' (by (try simp only [List.length_drop, List.length_take, List.length_cons, List.length_nil, List.length_append, List.length_replicate]); omega) ?_) | (refine sS_to (s := ⟨_, _, _, _, _⟩) F' N' (by (try simp only [List.length_drop, List.length_take, List.length_cons, List.length_nil, List.length_append, List.length_replicate]); omega) (by omega) (by (try simp only [List.length_drop, List.length_take, List.length_cons, List.length_nil, List.length_append, List.length_replicate]); omega) ?_) | (refine sS_toneg (s := ⟨_, _, _, _, _⟩) F' N' (by (try simp only [List.length_drop, List.length_take, List.length_cons, List.length_nil, List.length_append, List.length_replicate]); omega) (by omega) (by (try simp only [List.length_drop, List.length_take, List.length_cons, List.length_nil, List.length_append, List.length_replicate]); omega) ?_)); intro _ _ _ _ _)
  k_with "subscriptTail Name Name str int" => ((with_reducible show wpAny _ _ (subscriptTail _ _ (Value.str (S _) _) _) _ _ _); (refine sS_at (by (try simp only [List.length_drop, List.length_take, List.length_cons, List.length_nil, List.length_append, List.length_replicate]); omega) (by omega) (by (try simp only [List.length_drop, List.length_take, List.length_cons, List.length_nil, List.length_append, List.length_replicate]); omega) ?_))
  k_with "subscriptTail Name BinOp str int" => ((with_reducible show wpAny _ _ (subscriptTail _ _ (Value.str (S _) _) _) _ _ _); (first | (refine sS_at (by (try simp only [List.length_drop, List.length_take, List.length_cons, List.length_nil, List.length_append, List.length_replicate]); omega) (by omega) (by (try simp only [List.length_drop, List.length_take, List.length_cons, List.length_nil, List.length_append, List.length_replicate]); omega) ?_) | (refine sS_atneg (by (try simp only [List.length_drop, List.length_take, List.length_cons, List.length_nil, List.length_append, List.length_replicate]); omega) (by omega) (by (try simp only [List.length_drop, List.length_take, List.length_cons, List.length_nil, List.length_append, List.length_replicate]); omega) ?_)))
  k_with "compareOp Eq str str" => ((with_reducible show wpAny _ _ (compareOp _ (Value.str (S _) _) (Value.str (S _) _)) _ _ _); refine sS_eq ?_)
  k_with "compareOp NotEq str str" => ((with_reducible show wpAny _ _ (compareOp _ (Value.str (S _) _) (Value.str (S _) _)) _ _ _); refine sS_ne ?_)
  k_with "call builtin:len" => ((with_reducible show wpAny _ _ (call _ [Value.str (S _) _]) _ _ _); refine sS_len (by (try simp only [List.length_drop, List.length_take, List.length_cons, List.length_nil, List.length_append, List.length_replicate]); omega) ?_)
  k_with "truthy str" => ((with_reducible show wpAny _ _ (PySem.truthy (Value.str (S _) _)) _ _ _); (first | ((with_reducible show wpAny _ _ (PySem.truthy (Value.str (S (List.drop _ _)) _)) _ _ _); refine sS_truthy_drop (by omega) (by omega) ?_) | ((with_reducible show wpAny _ _ (PySem.truthy (Value.str (S (List.take _ _)) _)) _ _ _); refine sS_truthy_take (by omega) (by omega) (by omega) ?_) | refine sS_truthy (by (try simp only [List.length_drop, List.length_take, List.length_cons, List.length_nil, List.length_append, List.length_replicate]); omega) ?_))
  k_with "binaryOp Add str str" => ((with_reducible show wpAny _ _ (binaryOp _ (Value.str (S _) _) (Value.str (S _) _)) _ _ _); refine sS_add (by (try simp only [List.length_drop, List.length_take, List.length_cons, List.length_nil, List.length_append, List.length_replicate]); omega) (by (try simp only [List.length_drop, List.length_take, List.length_cons, List.length_nil, List.length_append, List.length_replicate]); omega) ?_; intro _ _)
  trivial
section
noncomputable def subC (c e : Nat) : Int := if ([c] == [e]) = true then 0 else if (Txt.lower (S [c]) == Txt.lower (S [e])) = true then 1 else 2
theorem subC_0 {c e : Nat} (h : ([c] == [e]) = true) : 0 = subC c e := by unfold subC; rw [if_pos h]
theorem subC_1 {c e : Nat} (h : ([c] == [e]) = false) (h2 : (Txt.lower (S [c]) == Txt.lower (S [e])) = true) : 1 = subC c e := by unfold subC; rw [if_neg (not_of h), if_pos h2]
theorem subC_2 {c e : Nat} (h : ([c] == [e]) = false) (h2 : (Txt.lower (S [c]) == Txt.lower (S [e])) = false) : 2 = subC c e := by unfold subC; rw [if_neg (not_of h), if_neg (not_of h2)]
set_option maxRecDepth 100000 in
set_option maxHeartbeats 8000000 in
theorem sub_told (w : World) (mean : ExcName → Option Value) (mg mb : Str → Option Value) (c e : Nat) (t1 t2 : Tok) :
    Told w mean mg mb 21 [.str (S [c]) t1, .str (S [e]) t2] 1 1 (fun _ => True) (RetI (subC c e)) := by
  unfold Told
  k_fill
  intro dp un gd cn cs a ccd cl outer A₀ base h₀ L m news s Q E B F X N T hk hR hd hu hret
  have hx : (S [c]).length = 1 := by simp [S, Str.length]
  have hy : (S [e]).length = 1 := by simp [S, Str.length]
  refine wpAny_call ?_
  k_dflt ktr_enter
  k_steps
  all_goals first
    | exact retI hret (subC_0 (by assumption)) (by assumption) (by assumption)
    | exact retI hret (subC_1 (by assumption) (by assumption)) (by assumption) (by assumption)
    | exact retI hret (subC_2 (by assumption) (by assumption)) (by assumption) (by assumption)
end
noncomputable def preK : List Nat → List Nat → Nat
  | a :: as, b :: bs => if a = b then preK as bs + 1 else 0
  | _, _ => 0
noncomputable def sufK (a b : List Nat) : Nat := preK a.reverse b.reverse
noncomputable def lev1 (a b : List Nat) : List Nat := a.drop (preK a b)
noncomputable def lev1' (a b : List Nat) : List Nat := b.drop (preK a b)
noncomputable def lev2 (a b : List Nat) : List Nat := (lev1 a b).take ((lev1 a b).length - sufK (lev1 a b) (lev1' a b))
noncomputable def lev2' (a b : List Nat) : List Nat := (lev1' a b).take ((lev1' a b).length - sufK (lev1 a b) (lev1' a b))
noncomputable def levA (a b : List Nat) : List Nat := if (lev2' a b).length < (lev2 a b).length then lev2' a b else lev2 a b
noncomputable def levB (a b : List Nat) : List Nat := if (lev2' a b).length < (lev2 a b).length then lev2 a b else lev2' a b
theorem preK_le : ∀ a b : List Nat, preK a b ≤ a.length ∧ preK a b ≤ b.length
  | [], _ => by simp [preK]
  | _ :: _, [] => by simp [preK]
  | a :: as, b :: bs => by
    have := preK_le as bs
    unfold preK
    split <;> simp <;> omega
noncomputable def testPre (a b : List Nat) (p : Int) : Bool := (decide (p < (a.length : Int)) && decide (p < (b.length : Int))) && ([a.getD p.toNat 0] == [b.getD p.toNat 0])
structure WPre (a b : List Nat) (p : Int) : Prop where
  h0 : 0 ≤ p
  ha : p ≤ a.length
  hb : p ≤ b.length
  eq : preK (a.drop p.toNat) (b.drop p.toNat) + p.toNat = preK a b
theorem preK_drop (a b : List Nat) (k : Nat) (ha : k < a.length) (hb : k < b.length) : preK (a.drop k) (b.drop k) = if a.getD k 0 = b.getD k 0 then preK (a.drop (k + 1)) (b.drop (k + 1)) + 1 else 0 := by
  rw [List.drop_eq_getElem_cons ha, List.drop_eq_getElem_cons hb]
  simp [preK, ha, hb]
theorem preK_nil (a b : List Nat) (h : a.length = 0 ∨ b.length = 0) : preK a b = 0 := by
  rcases h with h | h
  · rw [List.length_eq_zero_iff.mp h]; simp [preK]
  · rw [List.length_eq_zero_iff.mp h]; cases a <;> simp [preK]
theorem pre_step {a b : List Nat} {p : Int} (W : WPre a b p) (h : testPre a b p = true) : WPre a b (p + 1) := by
  obtain ⟨h0, ha, hb, eq⟩ := W
  obtain ⟨k, rfl⟩ := Int.eq_ofNat_of_zero_le h0
  simp only [testPre, Bool.and_eq_true, decide_eq_true_eq, Int.toNat_natCast, beq_iff_eq, List.cons.injEq, and_true] at h
  obtain ⟨⟨h1, h2⟩, h3⟩ := h
  have h4 : k < a.length := by omega
  have h5 : k < b.length := by omega
  refine ⟨by omega, by omega, by omega, ?_⟩
  have e : ((k : Int) + 1).toNat = k + 1 := by omega
  rw [e]
  simp only [Int.toNat_natCast] at eq
  rw [preK_drop a b k h4 h5, if_pos h3] at eq
  omega
theorem pre_done {a b : List Nat} {p : Int} (W : WPre a b p) (h : testPre a b p = false) : p = (preK a b : Int) := by
  obtain ⟨h0, ha, hb, eq⟩ := W
  obtain ⟨k, rfl⟩ := Int.eq_ofNat_of_zero_le h0
  simp only [Int.toNat_natCast] at eq
  by_cases h4 : k < a.length
  · by_cases h5 : k < b.length
    · have h3 : ¬ a.getD k 0 = b.getD k 0 := fun e => by
        have : testPre a b k = true := by
          simp only [testPre, Bool.and_eq_true, decide_eq_true_eq, Int.toNat_natCast, beq_iff_eq, List.cons.injEq, and_true]
          exact ⟨⟨by omega, by omega⟩, e⟩
        rw [this] at h; cases h
      rw [preK_drop a b k h4 h5, if_neg h3] at eq; omega
    · rw [preK_nil _ _ (.inr (by rw [List.length_drop]; omega))] at eq; omega
  · rw [preK_nil _ _ (.inl (by rw [List.length_drop]; omega))] at eq; omega
theorem pre_start (a b : List Nat) : WPre a b 0 := ⟨by omega, by omega, by omega, by simp⟩
noncomputable def testPost (a b : List Nat) (q : Int) : Bool := (decide (-q < a.length) && decide (-q < b.length)) && ([a.getD (a.length + (q - 1)).toNat 0] == [b.getD (b.length + (q - 1)).toNat 0])
structure WPost (a b : List Nat) (q : Int) : Prop where
  h0 : q ≤ 0
  ha : -q ≤ a.length
  hb : -q ≤ b.length
  eq : preK (a.reverse.drop (-q).toNat) (b.reverse.drop (-q).toNat) + (-q).toNat = sufK a b
theorem rev_getD (a : List Nat) (k : Nat) (h : k < a.length) : a.reverse.getD k 0 = a.getD (a.length + (-(k : Int) - 1)).toNat 0 := by
  have e : (a.length + (-(k : Int) - 1)).toNat = a.length - 1 - k := by omega
  rw [e, List.getD_eq_getElem?_getD, List.getD_eq_getElem?_getD, List.getElem?_reverse h]
theorem post_step {a b : List Nat} {q : Int} (W : WPost a b q) (h : testPost a b q = true) : WPost a b (q - 1) := by
  obtain ⟨h0, ha, hb, eq⟩ := W
  obtain ⟨k, hk⟩ := Int.eq_ofNat_of_zero_le (show 0 ≤ -q by omega)
  obtain rfl : q = -(k : Int) := by omega
  simp only [testPost, Bool.and_eq_true, decide_eq_true_eq, beq_iff_eq, List.cons.injEq, and_true, Int.neg_neg] at h
  obtain ⟨⟨h1, h2⟩, h3⟩ := h
  have h4 : k < a.length := by omega
  have h5 : k < b.length := by omega
  refine ⟨by omega, by omega, by omega, ?_⟩
  have e : (-(-(k : Int) - 1)).toNat = k + 1 := by omega
  rw [e]
  have e2 : (-(-(k : Int))).toNat = k := by omega
  rw [e2] at eq
  rw [preK_drop _ _ k (by simpa using h4) (by simpa using h5), rev_getD a k h4, rev_getD b k h5, if_pos h3] at eq
  omega
theorem post_done {a b : List Nat} {q : Int} (W : WPost a b q) (h : testPost a b q = false) : q = -(sufK a b : Int) := by
  obtain ⟨h0, ha, hb, eq⟩ := W
  obtain ⟨k, hk⟩ := Int.eq_ofNat_of_zero_le (show 0 ≤ -q by omega)
  obtain rfl : q = -(k : Int) := by omega
  have e2 : (-(-(k : Int))).toNat = k := by omega
  rw [e2] at eq
  by_cases h4 : k < a.length
  · by_cases h5 : k < b.length
    · have h3 : ¬ a.reverse.getD k 0 = b.reverse.getD k 0 := fun e => by
        have : testPost a b (-(k : Int)) = true := by
          simp only [testPost, Bool.and_eq_true, decide_eq_true_eq, beq_iff_eq, List.cons.injEq, and_true, Int.neg_neg]
          rw [rev_getD a k h4, rev_getD b k h5] at e
          exact ⟨⟨by omega, by omega⟩, e⟩
        rw [this] at h; cases h
      rw [preK_drop _ _ k (by simpa using h4) (by simpa using h5), if_neg h3] at eq; omega
    · rw [preK_nil _ _ (.inr (by rw [List.length_drop, List.length_reverse]; omega))] at eq; omega
  · rw [preK_nil _ _ (.inl (by rw [List.length_drop, List.length_reverse]; omega))] at eq; omega
theorem post_start (a b : List Nat) : WPost a b 0 := ⟨by omega, by omega, by omega, by simp [sufK]⟩
theorem pre_less {a b : List Nat} {p : Int} (W : WPre a b p) (h : testPre a b p = true) : (a.length - (p + 1)).toNat < (a.length - p).toNat := by
  have := (pre_step W h).ha; have := W.h0; omega
theorem post_less {a b : List Nat} {q : Int} (W : WPost a b q) (h : testPost a b q = true) : (a.length + (q - 1)).toNat < (a.length + q).toNat := by
  have := (post_step W h).ha; have := W.h0; omega
theorem lev2_0 {a b : List Nat} (h : -(sufK (lev1 a b) (lev1' a b) : Int) = 0) : lev1 a b = lev2 a b := by
  have : sufK (lev1 a b) (lev1' a b) = 0 := by omega
  unfold lev2; rw [this, Nat.sub_zero, List.take_length]
theorem lev2'_0 {a b : List Nat} (h : -(sufK (lev1 a b) (lev1' a b) : Int) = 0) : lev1' a b = lev2' a b := by
  have : sufK (lev1 a b) (lev1' a b) = 0 := by omega
  unfold lev2'; rw [this, Nat.sub_zero, List.take_length]
theorem lev2_n {a b : List Nat} : (lev1 a b).take ((lev1 a b).length + -(sufK (lev1 a b) (lev1' a b) : Int)).toNat = lev2 a b := by
  unfold lev2; congr 1; omega
theorem lev2'_n {a b : List Nat} : (lev1' a b).take ((lev1' a b).length + -(sufK (lev1 a b) (lev1' a b) : Int)).toNat = lev2' a b := by
  unfold lev2'; congr 1; omega
theorem lev1_le (a b : List Nat) : (lev1 a b).length ≤ a.length ∧ (lev1' a b).length ≤ b.length := by
  unfold lev1 lev1'; simp only [List.length_drop]; omega
theorem lev2_le (a b : List Nat) : (lev2 a b).length ≤ a.length ∧ (lev2' a b).length ≤ b.length := by
  have := lev1_le a b
  unfold lev2 lev2'; simp only [List.length_take]; omega
theorem levA_t {a b : List Nat} (h : ((lev2' a b).length : Int) < (lev2 a b).length) : levA a b = lev2' a b ∧ levB a b = lev2 a b := by
  unfold levA levB; rw [if_pos (by omega), if_pos (by omega)]; exact ⟨rfl, rfl⟩
theorem levA_f {a b : List Nat} (h : ¬ ((lev2' a b).length : Int) < (lev2 a b).length) : levA a b = lev2 a b ∧ levB a b = lev2' a b := by
  unfold levA levB; rw [if_neg (by omega), if_neg (by omega)]; exact ⟨rfl, rfl⟩
theorem levAB_le (a b : List Nat) : (levA a b).length ≤ (levB a b).length ∧ (levB a b).length ≤ a.length + b.length := by
  have := lev2_le a b
  unfold levA levB; split <;> omega
theorem tPre_a {a b : List Nat} {p : Int} (h : ¬ p < (a.length : Int)) : false = testPre a b p := by simp [testPre, h]
theorem tPre_b {a b : List Nat} {p : Int} (h : ¬ p < (b.length : Int)) : false = testPre a b p := by simp [testPre, h]
theorem tPre_c {a b : List Nat} {p : Int} {c : Bool} (h1 : p < (a.length : Int)) (h2 : p < (b.length : Int)) (h : ([a.getD p.toNat 0] == [b.getD p.toNat 0]) = c) : c = testPre a b p := by simp only [testPre, h1, h2, decide_true, Bool.true_and, h]
theorem tPost_a {a b : List Nat} {q : Int} (h : ¬ -q < (a.length : Int)) : false = testPost a b q := by simp [testPost, h]
theorem tPost_b {a b : List Nat} {q : Int} (h : ¬ -q < (b.length : Int)) : false = testPost a b q := by simp [testPost, h]
theorem tPost_c {a b : List Nat} {q : Int} {c : Bool} (h1 : -q < (a.length : Int)) (h2 : -q < (b.length : Int)) (h : ([a.getD (a.length + (q - 1)).toNat 0] == [b.getD (b.length + (q - 1)).toNat 0]) = c) : c = testPost a b q := by simp only [testPost, h1, h2, decide_true, Bool.true_and, h]
-- the rows
noncomputable def big : Int := 9223372036854775807
noncomputable def inn (bc : Nat) : List Nat → List Int → Int → Int → Int → List Int × Int × Int
  | a :: as, w :: row, d, r, mn =>
    let r' := if d + subC bc a < (if w < r then w else r) + 2 then d + subC bc a else (if w < r then w else r) + 2
    let o := inn bc as row w r' (if r' < mn then r' else mn)
    (r' :: o.1, o.2)
  | _, row, _, r, mn => (row, r, mn)
noncomputable def outr (a : List Nat) (c : Int) : List Nat → Int → List Int → Int → Int
  | [], _, _, r => r
  | b :: bs, i, row, _ =>
    let o := inn b a row (i * 2) (i * 2) big
    if o.2.2 > c then c + 1 else outr a c bs (i + 1) o.1 o.2.1
noncomputable def row0 (n : Nat) : List Int := rangeInts 2 2 n
noncomputable def levT (a b : List Nat) (c : Int) : Int := outr a c b 0 (row0 a.length) 0
noncomputable def levS (a b : List Nat) (c : Int) : Int :=
  if a = b then 0 else
  if lev2 a b = [] ∨ lev2' a b = [] then 2 * ((lev2 a b).length + (lev2' a b).length) else
  if (lev2 a b).length > 40 ∨ (lev2' a b).length > 40 then c + 1 else
  if ((levB a b).length - (levA a b).length : Int) * 2 > c then c + 1 else
  levT (levA a b) (levB a b) c
structure WOut (a b : List Nat) (c : Int) (i : Nat) (r : Int) (row : List Int) : Prop where
  len : row.length = a.length
  eq : outr a c (b.drop i) i row r = levT a b c
structure WInn (a b : List Nat) (c : Int) (i : Int) (j : Nat) (d r mn : Int) (row : List Int) : Prop where
  len : row.length = a.length
  eq : (let o := inn (b.getD i.toNat 0) (a.drop j) (row.drop j) d r mn
        if o.2.2 > c then c + 1 else outr a c (b.drop (i.toNat + 1)) (i + 1) (row.take j ++ o.1) o.2.1) = levT a b c
section
variable {a b : List Nat} {c i d r mn w : Int} {j : Nat} {row : List Int}
theorem row0_len (n : Nat) : (row0 n).length = n := rangeInts_length _ _ _
theorem out_start : WOut a b c 0 0 (row0 a.length) := ⟨row0_len _, rfl⟩
theorem out_done {k : Nat} (W : WOut a b c k r row) (h : k = b.length) : r = levT a b c := by
  have e := W.eq; rw [h, List.drop_length] at e; exact e
theorem inn_start {p : Nat} (hk : i = 0 + (p : Int)) (h1 : p < b.length) (W : WOut a b c p r row) : WInn a b c i 0 (i * 2) (i * 2) 9223372036854775807 row := by
  obtain rfl : i = (p : Int) := by omega
  refine ⟨W.len, ?_⟩
  have e := W.eq
  rw [List.drop_eq_getElem_cons h1] at e
  have e2 : b[p]'h1 = b.getD p 0 := by simp [h1]
  rw [e2] at e
  exact e
theorem set_at {l : List Int} (h : j < l.length) (x : Int) : (l.set j x).take (j + 1) = l.take j ++ [x] ∧ (l.set j x).drop (j + 1) = l.drop (j + 1) := by
  refine ⟨?_, by rw [List.drop_set_of_lt (by omega)]⟩
  rw [List.take_add_one, List.take_set_of_le (Nat.le_refl _), List.getElem?_set_self h]; rfl
theorem inn_step (W : WInn a b c i j d r mn row) {j' : Nat} {k r' m' : Int} (hk : k = 0 + (j : Int)) (h : j < a.length) (hj' : j' = j + 1)
    (hr : r' = if d + subC (b.getD i.toNat 0) (a.getD k.toNat 0) < (if row.getD k.toNat 0 < r then row.getD k.toNat 0 else r) + 2 then d + subC (b.getD i.toNat 0) (a.getD k.toNat 0) else (if row.getD k.toNat 0 < r then row.getD k.toNat 0 else r) + 2) (hm : m' = if r' < mn then r' else mn) :
    WInn a b c i j' (row.getD k.toNat 0) r' m' (row.set k.toNat r') := by
  obtain rfl : k = (j : Int) := by omega
  subst hj'
  simp only [Int.toNat_natCast] at hr ⊢
  obtain ⟨len, eq⟩ := W
  refine ⟨by rw [List.length_set]; exact len, ?_⟩
  have hj : j < row.length := by omega
  obtain ⟨e1, e2⟩ := set_at hj r'
  rw [e1, e2]
  have ea : a[j]'h = a.getD j 0 := by simp [h]
  have er : row[j]'hj = row.getD j 0 := by simp [hj]
  rw [List.drop_eq_getElem_cons h, List.drop_eq_getElem_cons hj, ea, er] at eq
  simp only [inn, ← hr, ← hm] at eq
  simp only [List.append_assoc, List.singleton_append]
  exact eq
theorem step_a (W : WInn a b c i j d r mn row) {j' : Nat} {k r' : Int} (hk : k = 0 + (j : Int)) (h : j < a.length) (hj' : j' = j + 1)
    (hr : r' = if d + subC (b.getD i.toNat 0) (a.getD k.toNat 0) < (if row.getD k.toNat 0 < r then row.getD k.toNat 0 else r) + 2 then d + subC (b.getD i.toNat 0) (a.getD k.toNat 0) else (if row.getD k.toNat 0 < r then row.getD k.toNat 0 else r) + 2) (hm : r' < mn) :
    (row.set k.toNat r').length = a.length ∧ WInn a b c i j' (row.getD k.toNat 0) r' r' (row.set k.toNat r') :=
  have w := inn_step W hk h hj' hr (if_pos hm).symm
  ⟨w.len, w⟩
theorem step_b (W : WInn a b c i j d r mn row) {j' : Nat} {k r' : Int} (hk : k = 0 + (j : Int)) (h : j < a.length) (hj' : j' = j + 1)
    (hr : r' = if d + subC (b.getD i.toNat 0) (a.getD k.toNat 0) < (if row.getD k.toNat 0 < r then row.getD k.toNat 0 else r) + 2 then d + subC (b.getD i.toNat 0) (a.getD k.toNat 0) else (if row.getD k.toNat 0 < r then row.getD k.toNat 0 else r) + 2) (hm : ¬ r' < mn) :
    (row.set k.toNat r').length = a.length ∧ WInn a b c i j' (row.getD k.toNat 0) r' mn (row.set k.toNat r') :=
  have w := inn_step W hk h hj' hr (if_neg hm).symm
  ⟨w.len, w⟩
theorem WInn.two (h : WInn a b c i j d r mn row) : row.length = a.length ∧ WInn a b c i j d r mn row := ⟨h.len, h⟩
theorem inn_ret (W : WInn a b c i j d r mn row) (h : j = a.length) (hc : c < mn) : c + 1 = levT a b c := by
  have e := W.eq
  rw [h, List.drop_length] at e
  simp only [inn, gt_iff_lt, hc, if_true] at e
  exact e
theorem inn_next {p p' : Nat} (W : WInn a b c i j d r mn row) (hk : i = 0 + (p : Int)) (hp : p' = p + 1) (h : j = a.length) (hc : ¬ c < mn) : WOut a b c p' r row := by
  obtain rfl : i = (p : Int) := by omega
  subst hp
  have e := W.eq
  have hl := W.len
  rw [h, List.drop_length] at e
  simp only [inn, gt_iff_lt, hc, if_false] at e
  rw [List.take_append_drop] at e
  exact ⟨hl, e⟩
end
section
variable {a b : List Nat} {c r : Int}
theorem levS_0 (h : (a == b) = true) : 0 = levS a b c := by unfold levS; rw [if_pos (beq_iff_eq.mp h)]
theorem len0_nil {l : List Nat} : l = [] ↔ ¬ 0 < (l.length : Int) := by cases l <;> simp
theorem levS_e (h : (a == b) = false) (h1 : ¬ 0 < ((lev2 a b).length : Int) ∨ ¬ 0 < ((lev2' a b).length : Int)) : 2 * (((lev2 a b).length : Int) + (lev2' a b).length) = levS a b c := by
  unfold levS
  rw [if_neg (beq_eq_false_iff_ne.mp h), if_pos (h1.imp len0_nil.mpr len0_nil.mpr)]
theorem levS_b (h : (a == b) = false) (h1 : 0 < ((lev2 a b).length : Int)) (h2 : 0 < ((lev2' a b).length : Int)) (h3 : 40 < ((lev2 a b).length : Int) ∨ 40 < ((lev2' a b).length : Int)) : c + 1 = levS a b c := by
  unfold levS
  rw [if_neg (beq_eq_false_iff_ne.mp h), if_neg (fun e => e.elim (fun e => len0_nil.mp e h1) fun e => len0_nil.mp e h2), if_pos (by omega)]
theorem levS_c (h : (a == b) = false) (h1 : 0 < ((lev2 a b).length : Int)) (h2 : 0 < ((lev2' a b).length : Int)) (h3 : ¬ 40 < ((lev2 a b).length : Int)) (h4 : ¬ 40 < ((lev2' a b).length : Int)) (h5 : c < (((levB a b).length : Int) - (levA a b).length) * 2) : c + 1 = levS a b c := by
  unfold levS
  rw [if_neg (beq_eq_false_iff_ne.mp h), if_neg (fun e => e.elim (fun e => len0_nil.mp e h1) fun e => len0_nil.mp e h2), if_neg (by omega), if_pos h5]
theorem levS_t (h : (a == b) = false) (h1 : 0 < ((lev2 a b).length : Int)) (h2 : 0 < ((lev2' a b).length : Int)) (h3 : ¬ 40 < ((lev2 a b).length : Int)) (h4 : ¬ 40 < ((lev2' a b).length : Int)) (h5 : ¬ c < (((levB a b).length : Int) - (levA a b).length) * 2) (e : r = levT (levA a b) (levB a b) c) : r = levS a b c := by
  unfold levS
  rw [if_neg (beq_eq_false_iff_ne.mp h), if_neg (fun e => e.elim (fun e => len0_nil.mp e h1) fun e => len0_nil.mp e h2), if_neg (by omega), if_neg h5]
  exact e
end
noncomputable def JB (h₀ : Heap) (L : Addr) (m : Str → Option Value) (news : Led) (s : Shared) (c b : Bool) (s₂ : Shared) : Prop := ∃ (h' : Heap) (tk' : Nat), s₂ = { s with heap := h', toks := tk' } ∧ Fr h₀ L h' m ∧ News h₀ L h' news ∧ b = c
theorem JB.mk {h₀ h' : Heap} {L : Addr} {m : Str → Option Value} {news : Led} {s : Shared} {c b : Bool} {tk' : Nat} (F : Fr h₀ L h' m) (N : News h₀ L h' news) (e : b = c) : JB h₀ L m news s c b { s with heap := h', toks := tk' } := ⟨h', tk', rfl, F, N, e⟩
theorem join_b {M : Model} {A : Around} {E : Value → Shared → Prop} {s : Shared} {t : Sem Bool} {Q : Bool → Shared → Prop} {h₀ : Heap} {L : Addr} {m : Str → Option Value} {news : Led} (c : Bool)
    (h1 : wpAny M A t (JB h₀ L m news s c) E s) (h2 : ∀ h' tk', Fr h₀ L h' m → News h₀ L h' news → Q c { s with heap := h', toks := tk' }) : wpAny M A t Q E s :=
  wpAny_mono h1 (fun b s₂ ⟨h', tk', e1, F, N, e2⟩ => by subst e1; subst e2; exact h2 h' tk' F N) fun _ _ e => e
theorem join_pre {M : Model} {A : Around} {E : Value → Shared → Prop} {s : Shared} {t : Sem Bool} {Q : Bool → Shared → Prop} {h₀ : Heap} {L : Addr} {m : Str → Option Value} {news : Led} {a b : List Nat} {p : Int} (_W : WPre a b p) (_F : Fr h₀ L s.heap m) (_N : News h₀ L s.heap news)
    (h1 : wpAny M A t (JB h₀ L m news s (testPre a b p)) E s) (h2 : ∀ h' tk', Fr h₀ L h' m → News h₀ L h' news → Q (testPre a b p) { s with heap := h', toks := tk' }) : wpAny M A t Q E s := join_b _ h1 h2
theorem join_post {M : Model} {A : Around} {E : Value → Shared → Prop} {s : Shared} {t : Sem Bool} {Q : Bool → Shared → Prop} {h₀ : Heap} {L : Addr} {m : Str → Option Value} {news : Led} {a b : List Nat} {p : Int} (_W : WPost a b p) (_F : Fr h₀ L s.heap m) (_N : News h₀ L s.heap news)
    (h1 : wpAny M A t (JB h₀ L m news s (testPost a b p)) E s) (h2 : ∀ h' tk', Fr h₀ L h' m → News h₀ L h' news → Q (testPost a b p) { s with heap := h', toks := tk' }) : wpAny M A t Q E s := join_b _ h1 h2
noncomputable def JV (h₀ : Heap) (L : Addr) (m : Str → Option Value) (news : Led) (s : Shared) (x : List Nat) (v : Value) (s₂ : Shared) : Prop := ∃ (h' : Heap) (tk' : Nat) (t : Tok), s₂ = { s with heap := h', toks := tk' } ∧ Fr h₀ L h' m ∧ News h₀ L h' news ∧ v = .str (S x) t
theorem JV.mk {h₀ h' : Heap} {L : Addr} {m : Str → Option Value} {news : Led} {s : Shared} {x y : List Nat} {t : Tok} {tk' : Nat} (F : Fr h₀ L h' m) (N : News h₀ L h' news) (e : y = x) : JV h₀ L m news s x (.str (S y) t) { s with heap := h', toks := tk' } := ⟨h', tk', t, rfl, F, N, by rw [e]⟩
theorem join_v {M : Model} {A : Around} {E : Value → Shared → Prop} {s : Shared} {t : Sem Value} {Q : Value → Shared → Prop} {h₀ : Heap} {L : Addr} {m : Str → Option Value} {news : Led} (x : List Nat) (_F : Fr h₀ L s.heap m) (_N : News h₀ L s.heap news)
    (h1 : wpAny M A t (JV h₀ L m news s x) E s) (h2 : ∀ h' tk' t, Fr h₀ L h' m → News h₀ L h' news → Q (.str (S x) t) { s with heap := h', toks := tk' }) : wpAny M A t Q E s :=
  wpAny_mono h1 (fun b s₂ ⟨h', tk', t, e1, F, N, e2⟩ => by subst e1; subst e2; exact h2 h' tk' t F N) fun _ _ e => e
structure WSuf (a b : List Nat) : Prop where
  w : WPost (lev1 a b) (lev1' a b) (-(sufK (lev1 a b) (lev1' a b) : Int))
theorem join_va {M : Model} {A : Around} {E : Value → Shared → Prop} {s : Shared} {t : Sem Value} {Q : Value → Shared → Prop} {h₀ : Heap} {L : Addr} {m : Str → Option Value} {news : Led} {a b : List Nat} (_W : WSuf a b) (F : Fr h₀ L s.heap m) (N : News h₀ L s.heap news)
    (h1 : wpAny M A t (JV h₀ L m news s (lev2 a b)) E s) (h2 : ∀ h' tk' t, Fr h₀ L h' m → News h₀ L h' news → Q (.str (S (lev2 a b)) t) { s with heap := h', toks := tk' }) : wpAny M A t Q E s := join_v _ F N h1 h2
theorem join_vb {M : Model} {A : Around} {E : Value → Shared → Prop} {s : Shared} {t : Sem Value} {Q : Value → Shared → Prop} {h₀ : Heap} {L : Addr} {m : Str → Option Value} {news : Led} {a b : List Nat} (_W : WSuf a b) (F : Fr h₀ L s.heap m) (N : News h₀ L s.heap news)
    (h1 : wpAny M A t (JV h₀ L m news s (lev2' a b)) E s) (h2 : ∀ h' tk' t, Fr h₀ L h' m → News h₀ L h' news → Q (.str (S (lev2' a b)) t) { s with heap := h', toks := tk' }) : wpAny M A t Q E s := join_v _ F N h1 h2
section
variable {prog : Program} {w : World} {A : Around} {E : Value → Shared → Prop} {s : Shared} {value slice : Expr} {l r : List Nat} {t u : Tok} {h₀ : Heap} {L : Addr} {m : Str → Option Value} {news : List (Addr × Obj)} {Q : Value → Shared → Prop}
theorem sS_lev1 {ui : Tok} (hF : Fr h₀ L s.heap m) (hN : News h₀ L s.heap news) (hsz : l.length ≤ 1000000) (h : ∀ h' t' k, Fr h₀ L h' m → News h₀ L h' news → Q (.str (S (lev1 l r)) t') { s with heap := h', toks := k })
    (hs : subscripted slice false (.str (S l) t) (.ref s.heap.objs.size) = operate [.ref s.heap.objs.size, .str (S l) t] (getItem (.str (S l) t) (.ref s.heap.objs.size)) := by with_unfolding_all rfl)
    (ht : ∀ r, letTemporaryGo value (.str (S l) t) r = pure () := by intro _; with_unfolding_all rfl) :
    wpAny (model prog w) A (subscriptTail value slice (.str (S l) t) (.ref s.heap.objs.size)) Q E { s with heap := s.heap.push { cls := .type "slice", data := .fields #[.int (preK l r : Int) ui, .none, .none] } } :=
  sS_from hF hN hsz (Int.natCast_nonneg _) h hs ht
theorem sS_lev1' {ui : Tok} (hF : Fr h₀ L s.heap m) (hN : News h₀ L s.heap news) (hsz : r.length ≤ 1000000) (h : ∀ h' t' k, Fr h₀ L h' m → News h₀ L h' news → Q (.str (S (lev1' l r)) t') { s with heap := h', toks := k })
    (hs : subscripted slice false (.str (S r) t) (.ref s.heap.objs.size) = operate [.ref s.heap.objs.size, .str (S r) t] (getItem (.str (S r) t) (.ref s.heap.objs.size)) := by with_unfolding_all rfl)
    (ht : ∀ u, letTemporaryGo value (.str (S r) t) u = pure () := by intro _; with_unfolding_all rfl) :
    wpAny (model prog w) A (subscriptTail value slice (.str (S r) t) (.ref s.heap.objs.size)) Q E { s with heap := s.heap.push { cls := .type "slice", data := .fields #[.int (preK l r : Int) ui, .none, .none] } } :=
  sS_from hF hN hsz (Int.natCast_nonneg _) h hs ht
end
noncomputable def JF (h₀ : Heap) (L : Addr) (m : Str → Option Value) (news : Led) (s : Shared) (x y : List Nat) (f : Flow) (s₂ : Shared) : Prop :=
  f = .next ∧ ∃ (h' : Heap) (tk' : Nat) (t u : Tok), s₂ = { s with heap := h', toks := tk' } ∧ Fr h₀ L h' (fun z => if z = Str.ofString "a" then some (.str (S x) t) else if z = Str.ofString "b" then some (.str (S y) u) else m z) ∧ News h₀ L h' news
section
variable {prog : Program} {w : World} {A : Around} {E : Value → Shared → Prop} {s : Shared} {h₀ : Heap} {L r : Addr} {m : Str → Option Value} {news : List (Addr × Obj)} {t₀ u₀ v₀ : Tok} {n : Nat} {Q : Value → Shared → Prop}
theorem ints_by : ∀ (vs : List Value) (a c : Int) (n : Nat), vs.length = n → (∀ (j : Nat) (v : Value), vs[j]? = some v → ∃ t, v = .int (a + j * c) t) → IntsAre vs (rangeInts a c n)
  | [], a, c, n, e, _ => by subst e; exact IntsAre.nil
  | v :: r, a, c, n, e, h => by
    subst e
    have hc : rangeInts a c (r.length + 1) = a :: rangeInts (a + c) c r.length := by
      unfold rangeInts
      rw [List.range_succ_eq_map, List.map_cons, List.map_map]
      congr 1
      · simp
      · apply List.map_congr_left
        intro i _
        simp only [Function.comp, Nat.succ_eq_add_one]
        have : ((i + 1 : Nat) : Int) * c = i * c + c := by rw [Int.natCast_add, Int.add_mul]; simp
        omega
    rw [List.length_cons, hc]
    obtain ⟨t, ht⟩ := h 0 v rfl
    have hv : v = .int a t := by rw [ht]; simp
    subst hv
    refine IntsAre.cons _ _ (ints_by r (a + c) c r.length rfl fun j v hj => ?_)
    obtain ⟨t', ht'⟩ := h (j + 1) v hj
    refine ⟨t', ht'.trans ?_⟩
    congr 1
    have : ((j + 1 : Nat) : Int) * c = j * c + c := by rw [Int.natCast_add, Int.add_mul]; simp
    omega
theorem fitsL {i : Int} (h1 : -1000000 ≤ i) (h2 : i ≤ 1000000) : Builtin.Range.rangeFitsLong i = true := by
  unfold Builtin.Range.rangeFitsLong
  rw [Bool.and_eq_true, decide_eq_true_iff, decide_eq_true_iff]
  constructor <;> omega
theorem small2 (n : Nat) (hz : n ≤ 100000) (hn : Builtin.Range.rangeSize 2 (2 * ((n : Int) + 1)) 2 = (n : Int)) : Builtin.Range.small 2 (2 * ((n : Int) + 1)) 2 = true := by
  unfold Builtin.Range.small
  rw [hn, fitsL (i := 2) (by omega) (by omega), fitsL (i := 2 * ((n : Int) + 1)) (by omega) (by omega), fitsL (i := (n : Int)) (by omega) (by omega), if_pos (by decide), fitsL (i := 2 * ((n : Int) + 1) + (2 - 1)) (by omega) (by omega)]
  simp
theorem list_row (hh : A.handled = none) (F : Fr h₀ L s.heap m) (N : News h₀ L s.heap news) (hr : IsRange s.heap r 2 (2 * ((n : Int) + 1)) 2 t₀ u₀ v₀) (hz : n ≤ 100000)
    (h : ∀ D us c h' tk, Fr h₀ L h' m → News h₀ L h' ((D, listOf (List.toArray us) c) :: news) → (∀ p ∈ news, p.1 < D) → IntsAre us (row0 n) → Q (.ref D) { s with heap := h', toks := tk }) :
    wpAny (model prog w) A (call (.type "list") [.ref r]) Q E s := by
  have hn : Builtin.Range.rangeSize 2 (2 * ((n : Int) + 1)) 2 = (n : Int) := by
    unfold Builtin.Range.rangeSize
    simp only [show (2 : Int) > 0 by decide, if_true]
    split <;> omega
  refine call_list_range hh hr (small2 n hz hn) hn (by omega) fun h' tk acc c hk hD hI => ?_
  have hD' : h'.get? s.heap.objs.size = some (listOf (List.toArray acc.toList) c) := by
    rw [Array.toArray_toList]
    exact hD
  exact h _ acc.toList c h' tk (F.keeps hk) (news_pushed F N hk hD' rfl) (fun p hp => Heap.lt_size (N p hp).1) (ints_by _ _ _ _ (by rw [Array.length_toList]; exact hI.1) fun j v hj => hI.2 j v (by rw [← hj, Array.getElem?_toList]))
end
structure WCut (a b : List Nat) : Prop where
  w : True
theorem WSuf.cut {a b : List Nat} (_h : WSuf a b) : WCut a b := ⟨True.intro⟩
theorem join_sw {M : Model} {A : Around} {E : Value → Shared → Prop} {s : Shared} {t : Sem Flow} {Q : Flow → Shared → Prop} {h₀ : Heap} {L : Addr} {m : Str → Option Value} {news : Led} {a b : List Nat} (_W : WCut a b) (_F : Fr h₀ L s.heap m) (_N : News h₀ L s.heap news)
    (h1 : wpAny M A t (JF h₀ L m news s (levA a b) (levB a b)) E s)
    (h2 : ∀ h' tk' t u, Fr h₀ L h' (fun z => if z = Str.ofString "a" then some (.str (S (levA a b)) t) else if z = Str.ofString "b" then some (.str (S (levB a b)) u) else m z) → News h₀ L h' news → Q .next { s with heap := h', toks := tk' }) : wpAny M A t Q E s :=
  wpAny_mono h1 (fun b s₂ ⟨e0, h', tk', t, u, e1, F, N⟩ => by subst e0; subst e1; exact h2 h' tk' t u F N) fun _ _ e => e
theorem JF.same {h₀ h' : Heap} {L : Addr} {m : Str → Option Value} {news : Led} {s : Shared} {x y x' y' : List Nat} {t u : Tok} {tk' : Nat} (F : Fr h₀ L h' m) (N : News h₀ L h' news) (e : x = x' ∧ y = y') (ea : m (Str.ofString "a") = some (.str (S x') t)) (eb : m (Str.ofString "b") = some (.str (S y') u)) : JF h₀ L m news s x y .next { s with heap := h', toks := tk' } := by
  obtain ⟨rfl, rfl⟩ := e
  refine ⟨rfl, h', tk', t, u, rfl, ?_, N⟩
  have : (fun z => if z = Str.ofString "a" then some (Value.str (S x) t) else if z = Str.ofString "b" then some (.str (S y) u) else m z) = m := by
    funext z
    by_cases h1 : z = Str.ofString "a"
    · rw [if_pos h1, h1, ea]
    · rw [if_neg h1]
      by_cases h2 : z = Str.ofString "b"
      · rw [if_pos h2, h2, eb]
      · rw [if_neg h2]
  rw [this]; exact F
theorem JF.swap {h₀ h' : Heap} {L : Addr} {m : Str → Option Value} {news : Led} {p : Addr × Obj} {s : Shared} {x y x' y' : List Nat} {t u : Tok} {tk' : Nat} (F : Fr h₀ L h' (fun z => if z = Str.ofString "a" then some (.str (S x') t) else if z = Str.ofString "b" then some (.str (S y') u) else m z)) (N : News h₀ L h' (p :: news)) (e : x = x' ∧ y = y') : JF h₀ L m news s x y .next { s with heap := h', toks := tk' } := by
  obtain ⟨rfl, rfl⟩ := e
  exact ⟨rfl, h', tk', t, u, rfl, F, fun q hq => N q (.tail _ hq)⟩
theorem told_use {w : World} {mean : ExcName → Option Value} {mg mb : Str → Option Value} {f : Addr} {vs : List Value} {d u : Nat} {pre : Led → Prop} {Ret : RetK} (C : Told w mean mg mb f vs d u pre Ret)
    {dp un : Nat} {gd : Option (List Code)} {cn : Str} {cs : Scope} {a : Addr} {ccd : Value} {cl : List (Str × Addr)} {outer : List Env} {A₀ : Around} {base h₀ : Heap} {L : Addr} {m : Str → Option Value} {news : Led} {s : Shared} {Q E : Value → Shared → Prop}
    (B : Below A₀ base outer h₀) (F : Fr h₀ L s.heap m) (X : (Mine.pre.heap_1 w.params).In h₀) (N : News h₀ L s.heap news) (T : Top hd.view_39 (looseW hd.view_39 []) mean mg mb h₀) (hk : cs.kind = .function) (hp : pre news) (hdp : dp + d < recursionLimit) (hun : un + 8 * u < cLine)
    (ret : Ret h₀ L m news s Q) : wpAny (model PySem.Challenge.rw_to0010_02.row.prog w) (ktrTop dp un gd cn cs L a ccd cl outer) (call (.ref f) vs) Q E s :=
  C dp un gd cn cs a ccd cl outer A₀ base h₀ L m news s Q E B F X N T hk hp hdp hun ret
section
set_option hygiene false in
set_option hygiene false in
theorem said6 : True := by
  k_with "isTrue BoolOp" => ((rename WPre _ _ _ => hW); (rename Fr _ _ _ _ => F9); (rename News _ _ _ _ => N9); (have hW0 := hW.h0); (have hWa := hW.ha); (have hWb := hW.hb); (refine join_pre hW F9 N9 ?_ ?_); clear hW; rotate_left; clear F9 N9; intro h' tk' F' N'; rotate_left)
  k_with "isTrue BoolOp" => ((rename WPost _ _ _ => hW); (rename Fr _ _ _ _ => F9); (rename News _ _ _ _ => N9); (have hW0 := hW.h0); (have hWa := hW.ha); (have hWb := hW.hb); (refine join_post hW F9 N9 ?_ ?_); clear hW; rotate_left; clear F9 N9; intro h' tk' F' N'; rotate_left)
  k_with "execs cons" => ((rename WPre _ _ _ => hW); (rename (testPre _ _ _ = false) => hT); (have e9 := pre_done hW hT); (subst e9); clear hW hT)
  k_with "execs cons" => ((rename WPost (lev1 _ _) _ _ => hW); (rename (testPost _ _ _ = false) => hT); (have e9 := post_done hW hT); (subst e9); (have hWs := WSuf.mk hW); (have hWa := hW.ha); (have hWb := hW.hb); (have hW0 := hW.h0); clear hW hT)
  k_with "subscriptTail Name Slice str ref" => ((with_reducible show wpAny _ _ (subscriptTail _ (Expr.Slice (some _) none none _) (Value.str (S _) _) _) _ _ _); (with_reducible rename Fr _ _ _ _ => F'); (with_reducible rename News _ _ _ _ => N'); (first | refine sS_lev1 (s := ⟨_, _, _, _, _⟩) F' N' (by omega) ?_ | refine sS_lev1' (s := ⟨_, _, _, _, _⟩) F' N' (by omega) ?_); intro _ _ _ _ _)
  k_with "eval Subscript" => ((with_reducible show wpAny _ _ (eval (Expr.Subscript (Expr.Name (Str.ofString "a") _) (Expr.Slice none (some (Expr.BoolOp _ _ _)) none _) _) _) _ _ _); (rename WSuf _ _ => hW); (rename Fr _ _ _ _ => F9); (rename News _ _ _ _ => N9); (refine join_va hW F9 N9 ?_ ?_); clear hW; rotate_left; clear F9 N9; intro h' tk' t' F' N'; rotate_left)
  k_with "eval Subscript" => ((with_reducible show wpAny _ _ (eval (Expr.Subscript (Expr.Name (Str.ofString "b") _) (Expr.Slice none (some (Expr.BoolOp _ _ _)) none _) _) _) _ _ _); (rename WSuf _ _ => hW); (rename Fr _ _ _ _ => F9); (rename News _ _ _ _ => N9); (refine join_vb hW F9 N9 ?_ ?_); clear hW; rotate_left; clear F9 N9; (have hWc := WSuf.cut hW); clear hW; intro h' tk' t' F' N'; rotate_left)
  k_with "JV" => first | exact JV.mk (by assumption) (by assumption) (lev2_0 (by assumption)) | exact JV.mk (by assumption) (by assumption) (lev2'_0 (by assumption)) | exact JV.mk (by assumption) (by assumption) lev2_n | exact JV.mk (by assumption) (by assumption) lev2'_n
  k_with "JB" => first | (exfalso; omega) | exact JB.mk (by assumption) (by assumption) (tPre_a (by assumption)) | exact JB.mk (by assumption) (by assumption) (tPre_b (by assumption)) | exact JB.mk (by assumption) (by assumption) (tPre_c (by assumption) (by assumption) (by assumption)) | exact JB.mk (by assumption) (by assumption) (tPost_a (by omega)) | exact JB.mk (by assumption) (by assumption) (tPost_b (by omega)) | exact JB.mk (by assumption) (by assumption) (tPost_c (by omega) (by omega) (by assumption))
  k_with "exec If" => ((with_reducible show wpAny _ _ (exec (Stmt.If (Expr.Compare (Expr.Call _ _ _ _) [CmpOp.Lt] _ _) _ _ _) _) _ _ _); (rename WCut _ _ => hW); (rename Fr _ _ _ _ => F9); (rename News _ _ _ _ => N9); (refine join_sw hW F9 N9 ?_ ?_); clear hW; rotate_left; clear F9 N9 hW; intro h' tk' t' u' F' N'; dsimp only; rotate_left)
  k_with "JF" => first | exact JF.same (by assumption) (by assumption) (levA_f (by assumption)) rfl rfl | exact JF.swap (by assumption) (by assumption) (levA_t (by assumption))
  k_with "call type:list" => ((with_reducible show wpAny _ _ (call (Value.type _) [Value.ref _]) _ _ _); (rename IsRange _ _ _ _ _ _ _ _ => R'); (rename Fr _ _ _ _ => F'); (rename News _ _ _ _ => N'); (refine list_row (by with_unfolding_all rfl) F' N' R' (by omega) ?_); clear F' N'; intro D' us' c' h' tk' F' N' l1 hI'; (try k_lt l1))
  k_with "M pyIter ref" => k_dflt (k_state (fun pre r row => WOut (levA la lb) (levB la lb) c pre.length r row) "result" "row")
  k_with "M pyIter ref" => ((rename WOut _ _ _ _ _ _ => hWO); k_dflt (k_state_given ["bindex"] (fun bi pre d r mn row => row.length = (levA la lb).length ∧ WInn (levA la lb) (levB la lb) c bi pre.length d r mn row) "distance" "result" "minimum" "row"))
  k_with "call ref" => (k_here; (with_reducible show wpAny _ _ (call (Value.ref 21) [Value.str (S [_]) _, Value.str (S [_]) _]) _ _ _); k_dflt (refine' told_use (sub_told _ _ _ _ _ _ _ _) ?k1z28 ?k2z28 ?k3z28 ?k4z28 ?k5z28 ?kKz28 ?kpz28 ?kdz28 ?kuz28 ?_; (case k1z28 => k_asm); (case k2z28 => k_asm); (case k3z28 => k_asm); (case k4z28 => k_asm); (case k5z28 => k_asm); (case kKz28 => first | exact rfl | assumption); (case kpz28 => trivial); (case kdz28 => ktr_room); (case kuz28 => ktr_units)); intro t' h' tk' F' N'; (try dsimp only))
  k_with "execs cons" => ((with_reducible show wpAny _ _ (execs (Stmt.Assign [Expr.Name (Str.ofString "post") _] _ _ :: _) _) _ _ _); (fail_if_success (rename Mark 1 => mk9)); (rename Fr _ _ _ _ => F9); (rename News _ _ _ _ => N9); k_dflt (refine trimK3 (x1 := Str.ofString "a") (x2 := Str.ofString "b") (x3 := Str.ofString "max_cost") F9 N9 rfl rfl rfl rfl (fun _ hp => hp) ?_); clear F9 N9; (have mk9 := mark 1); intro m9 h9 tk9 F9 N9)
  k_with "execs cons" => ((with_reducible show wpAny _ _ (execs (Stmt.Assign [Expr.Name (Str.ofString "row") _] _ _ :: _) _) _ _ _); (fail_if_success (rename Mark 2 => mk9)); (rename Fr _ _ _ _ => F9); (rename News _ _ _ _ => N9); k_dflt (refine trimK3 (x1 := Str.ofString "a") (x2 := Str.ofString "b") (x3 := Str.ofString "max_cost") F9 N9 rfl rfl rfl rfl (fun _ hp => hp) ?_); clear F9 N9; (have mk9 := mark 2); intro m9 h9 tk9 F9 N9)
  trivial
set_option maxRecDepth 100000 in
set_option maxHeartbeats 12000000 in
theorem lev_told (w : World) (mean : ExcName → Option Value) (mg mb : Str → Option Value) (la lb : List Nat) (c : Int) (t1 t2 t3 : Tok) (ha : la.length ≤ 1000) (hb : lb.length ≤ 1000) :
    Told w mean mg mb 28 [.str (S la) t1, .str (S lb) t2, .int c t3] 2 2 (fun _ => True) (RetI (levS la lb c)) := by
  unfold Told
  k_fill
  intro dp un gd cn cs a ccd cl outer A₀ base h₀ L m news s Q E B F X N T hk hR hd hu hret
  have hl1 := lev1_le la lb
  have hl2 := lev2_le la lb
  have hl3 := levAB_le la lb
  k_with "exec While BoolOp cons nil" => k_while (fun _ p => WPre la lb p) (fun _ p => (la.length - p).toNat) "pre"
  k_with "exec While BoolOp cons nil" => k_while (fun _ q => WPost (lev1 la lb) (lev1' la lb) q) (fun _ q => ((lev1 la lb).length + q).toNat) "post"
  k_with "pyIter ref" => fail
  k_with "state" => (first
    | exact out_start
    | exact inn_next (by with_reducible assumption) (by with_reducible assumption) (by simp) (by rw [rangeKs_length]; omega) (by with_reducible assumption)
    | exact (inn_start (by with_reducible assumption) (by omega) (by with_reducible assumption)).two
    | exact step_a (by with_reducible assumption) (by with_reducible assumption) (by omega) (by simp) rfl (by with_reducible assumption)
    | exact step_b (by with_reducible assumption) (by with_reducible assumption) (by omega) (by simp) rfl (by with_reducible assumption)
    | exact pre_start _ _ | exact pre_step (by with_reducible assumption) (by with_reducible assumption) | exact post_start _ _ | exact post_step (by with_reducible assumption) (by with_reducible assumption))
  k_with "measure" => (first | exact pre_less (by assumption) (by assumption) | exact post_less (by assumption) (by assumption))
  refine wpAny_call ?_
  k_dflt ktr_enter
  k_steps
  all_goals first
    | exact retI hret (levS_0 (by assumption)) (by assumption) (by assumption)
    | exact retI hret (levS_e (by assumption) (.inl (by assumption))) (by assumption) (by assumption)
    | exact retI hret (levS_e (by assumption) (.inr (by assumption))) (by assumption) (by assumption)
    | exact retI hret (levS_b (by assumption) (by assumption) (by assumption) (.inl (by assumption))) (by assumption) (by assumption)
    | exact retI hret (levS_b (by assumption) (by assumption) (by assumption) (.inr (by assumption))) (by assumption) (by assumption)
    | exact retI hret (levS_c (by assumption) (by assumption) (by assumption) (by assumption) (by assumption) (by assumption)) (by assumption) (by assumption)
    | exact retI hret (levS_t (by assumption) (by assumption) (by assumption) (by assumption) (by assumption) (by assumption) (inn_ret (by assumption) (by rw [rangeKs_length]; omega) (by assumption))) (by assumption) (kst_newsOf (by assumption) (fun p hp => List.mem_cons_of_mem _ (List.mem_append_left _ hp)))
    | exact retI hret (levS_t (by assumption) (by assumption) (by assumption) (by assumption) (by assumption) (by assumption) (out_done (by assumption) (by rw [rangeKs_length]; omega))) (by assumption) (kst_newsOf (by assumption) (fun p hp => List.mem_cons_of_mem _ hp))
end
theorem said7 : True := by
  k_with_none
  k_with "subscriptTail Name Slice str ref" => ((with_reducible show wpAny _ _ (subscriptTail _ (Expr.Slice (some _) none none _) (Value.str (S _) _) _) _ _ _); (with_reducible rename Fr _ _ _ _ => F'); (with_reducible rename News _ _ _ _ => N'); (refine sS_from (s := ⟨_, _, _, _, _⟩) F' N' (by (try simp only [List.length_drop, List.length_take, List.length_cons, List.length_nil, List.length_append, List.length_replicate]); omega) (by omega) ?_); intro _ _ _ _ _)
  k_with "subscriptTail Name Slice str ref" => ((with_reducible show wpAny _ _ (subscriptTail _ (Expr.Slice none (some _) none _) (Value.str (S _) _) _) _ _ _); (with_reducible rename Fr _ _ _ _ => F'); (with_reducible rename News _ _ _ _ => N'); (first | (refine sS_nn (s := ⟨_, _, _, _, _⟩) F' N' (by (try simp only [List.length_drop, List.length_take, List.length_cons, List.length_nil, List.length_append, List.length_replicate]); omega) ?_) | (refine sS_to (s := ⟨_, _, _, _, _⟩) F' N' (by (try simp only [List.length_drop, List.length_take, List.length_cons, List.length_nil, List.length_append, List.length_replicate]); omega) (by omega) (by (try simp only [List.length_drop, List.length_take, List.length_cons, List.length_nil, List.length_append, List.length_replicate]); omega) ?_) | (refine sS_toneg (s := ⟨_, _, _, _, _⟩) F' N' (by (try simp only [List.length_drop, List.length_take, List.length_cons, List.length_nil, List.length_append, List.length_replicate]); omega) (by omega) (by (try simp only [List.length_drop, List.length_take, List.length_cons, List.length_nil, List.length_append, List.length_replicate]); omega) ?_)); intro _ _ _ _ _)
  k_with "subscriptTail Name Name str int" => ((with_reducible show wpAny _ _ (subscriptTail _ _ (Value.str (S _) _) _) _ _ _); (refine sS_at (by (try simp only [List.length_drop, List.length_take, List.length_cons, List.length_nil, List.length_append, List.length_replicate]); omega) (by omega) (by (try simp only [List.length_drop, List.length_take, List.length_cons, List.length_nil, List.length_append, List.length_replicate]); omega) ?_))
  k_with "subscriptTail Name BinOp str int" => ((with_reducible show wpAny _ _ (subscriptTail _ _ (Value.str (S _) _) _) _ _ _); (first | (refine sS_at (by (try simp only [List.length_drop, List.length_take, List.length_cons, List.length_nil, List.length_append, List.length_replicate]); omega) (by omega) (by (try simp only [List.length_drop, List.length_take, List.length_cons, List.length_nil, List.length_append, List.length_replicate]); omega) ?_) | (refine sS_atneg (by (try simp only [List.length_drop, List.length_take, List.length_cons, List.length_nil, List.length_append, List.length_replicate]); omega) (by omega) (by (try simp only [List.length_drop, List.length_take, List.length_cons, List.length_nil, List.length_append, List.length_replicate]); omega) ?_)))
  k_with "compareOp Eq str str" => ((with_reducible show wpAny _ _ (compareOp _ (Value.str (S _) _) (Value.str (S _) _)) _ _ _); refine sS_eq ?_)
  k_with "compareOp NotEq str str" => ((with_reducible show wpAny _ _ (compareOp _ (Value.str (S _) _) (Value.str (S _) _)) _ _ _); refine sS_ne ?_)
  k_with "call builtin:len" => ((with_reducible show wpAny _ _ (call _ [Value.str (S _) _]) _ _ _); refine sS_len (by (try simp only [List.length_drop, List.length_take, List.length_cons, List.length_nil, List.length_append, List.length_replicate]); omega) ?_)
  k_with "truthy str" => ((with_reducible show wpAny _ _ (PySem.truthy (Value.str (S _) _)) _ _ _); (first | ((with_reducible show wpAny _ _ (PySem.truthy (Value.str (S (List.drop _ _)) _)) _ _ _); refine sS_truthy_drop (by omega) (by omega) ?_) | ((with_reducible show wpAny _ _ (PySem.truthy (Value.str (S (List.take _ _)) _)) _ _ _); refine sS_truthy_take (by omega) (by omega) (by omega) ?_) | refine sS_truthy (by (try simp only [List.length_drop, List.length_take, List.length_cons, List.length_nil, List.length_append, List.length_replicate]); omega) ?_))
  k_with "binaryOp Add str str" => ((with_reducible show wpAny _ _ (binaryOp _ (Value.str (S _) _) (Value.str (S _) _)) _ _ _); refine sS_add (by (try simp only [List.length_drop, List.length_take, List.length_cons, List.length_nil, List.length_append, List.length_replicate]); omega) (by (try simp only [List.length_drop, List.length_take, List.length_cons, List.length_nil, List.length_append, List.length_replicate]); omega) ?_; intro _ _)
  trivial
noncomputable abbrev tibO (i : Int) (b : Bool) (n1 : Tok) : Obj := tupO [.int i n1, .bool b]
noncomputable abbrev RetTIB (i : Int) (b : Bool) : RetK := fun h₀ L m news s Q => ∀ (q : Addr) (n1 : Tok) (h' : Heap) (tk' : Nat), Fr h₀ L h' m → News h₀ L h' ((q, tibO i b n1) :: news) → (∀ p ∈ news, p.1 < q) → Q (.ref q) { s with heap := h', toks := tk' }
theorem retTIB {i j : Int} {b c : Bool} {h₀ h' : Heap} {L q : Addr} {m : Str → Option Value} {news : Led} {s : Shared} {Q : Value → Shared → Prop} {n1 : Tok} {tk' : Nat} (h : RetTIB i b h₀ L m news s Q) (e : j = i ∧ c = b) (F : Fr h₀ L h' m)
    (N : News h₀ L h' ((q, tupO [.int j n1, .bool c]) :: news)) (lt : ∀ p ∈ news, p.1 < q) : Q (.ref q) { s with heap := h', toks := tk' } := by
  obtain ⟨rfl, rfl⟩ := e; exact h q n1 h' tk' F N lt
section
variable {l r : List Nat} {i j : Int}
theorem S_last : Txt.slice (S l) (some (-1)) none = S (l.drop (l.length - 1)) := by
  rw [slice_from_neg (by decide), S_from (by omega), S_len]
  congr 2; omega
theorem S_mul {n : Int} (h0 : 0 ≤ n) (c : Nat) : Txt.mul (S [c]) n = S (List.replicate n.toNat c) := by
  obtain ⟨k, rfl⟩ := Int.eq_ofNat_of_zero_le h0
  unfold Txt.mul
  by_cases h1 : (k : Int) < 1
  · have : k = 0 := by omega
    subst this; rfl
  · rw [if_neg h1]
    by_cases h2 : k = 1
    · subst h2; simp [S]
    · have h3 : (((k : Int) == 1 || (S [c]).length == 0) = true) = False := by
        have h4 : ((k : Int) == 1) = false := by rw [beq_eq_false_iff_ne]; omega
        simp [S_len, h4]
      rw [if_neg (by rw [h3]; exact id)]
      refine S_eq ?_
      simp only [Int.toNat_natCast, S_toList]
      have : ∀ (m : Nat) (acc : Array Nat), ((List.replicate m (S [c]).cps).foldl (· ++ ·) acc).toList = acc.toList ++ List.replicate m c := by
        intro m
        induction m with
        | zero => intro acc; simp
        | succ m ih => intro acc; rw [List.replicate_succ, List.foldl_cons, ih]; simp [S, List.replicate_succ]
      rw [this]; simp
theorem S_count (c : Nat) : Txt.count (S l) (S [c]) = (l.count c : Nat) := by
  have h := count_is (S l) c
  rw [S_toList] at h
  have e : ∀ l : List Nat, cnt c l = (l.count c : Nat) := by
    intro l
    induction l with
    | nil => rfl
    | cons n r ih => rw [cnt_cons, ih, List.count_cons]; by_cases h : n = c <;> simp [h]; omega
  exact h.trans (e l)
end
theorem lit_257 : Str.ofString "257 \"" = S [50, 53, 55, 32, 34] := by decide +kernel
theorem lit_q : Str.ofString "\"" = S [34] := by decide +kernel
theorem lit_x : Str.ofString "x" = S [120] := by decide +kernel
theorem lit_e : Str.ofString "" = S [] := by decide +kernel
theorem lit_qy : Str.ofString "\" y" = S [34, 32, 121] := by decide +kernel
theorem lit_qyq : Str.ofString "\"y\"\"" = S [34, 121, 34, 34] := by decide +kernel
theorem lit_z : Str.ofString "z" = S [122] := by decide +kernel
theorem lit_y : Str.ofString "y" = S [121] := by decide +kernel
theorem lit_abcd : Str.ofString "abcd" = S [97, 98, 99, 100] := by decide +kernel
theorem lit_ABCD : Str.ofString "ABCD" = S [65, 66, 67, 68] := by decide +kernel
theorem lit_0123 : Str.ofString "0123" = S [48, 49, 50, 51] := by decide +kernel
section
variable {prog : Program} {w : World} {A : Around} {E : Value → Shared → Prop} {s : Shared} {value slice : Expr} {l r : List Nat} {t u : Tok} {h₀ : Heap} {L : Addr} {m : Str → Option Value} {news : List (Addr × Obj)} {Q : Value → Shared → Prop}
theorem sS_lit {M : Model} {env : Env} {x : Str} {k : Nat} {pos : Pos} (e : x = S l) (h : Q (.str (S l) s.toks) { s with toks := s.toks + 1 }) : wpAny M A (eval (.Constant (.str x) k pos) env) Q E s := by
  subst e; exact Calls.Constant_str h
theorem sS_last {ui : Tok} (hF : Fr h₀ L s.heap m) (hN : News h₀ L s.heap news) (hsz : l.length ≤ 1000000) (h : ∀ h' t' k, Fr h₀ L h' m → News h₀ L h' news → Q (.str (S (l.drop (l.length - 1))) t') { s with heap := h', toks := k })
    (hs : subscripted slice false (.str (S l) t) (.ref s.heap.objs.size) = operate [.ref s.heap.objs.size, .str (S l) t] (getItem (.str (S l) t) (.ref s.heap.objs.size)) := by with_unfolding_all rfl)
    (ht : ∀ r, letTemporaryGo value (.str (S l) t) r = pure () := by intro _; with_unfolding_all rfl) :
    wpAny (model prog w) A (subscriptTail value slice (.str (S l) t) (.ref s.heap.objs.size)) Q E { s with heap := s.heap.push { cls := .type "slice", data := .fields #[.int (-1) ui, .none, .none] } } :=
  slice_strN_sn hF hN (fun h' t' k a b => by rw [S_last]; exact h h' t' k a b) hs ht (S_size hsz)
theorem sS_mul {n : Int} {c : Nat} (h0 : 0 ≤ n) (h1 : n ≤ 1000000) (h : ∀ t' k, Q (.str (S (List.replicate n.toNat c)) t') { s with toks := k }) : wpAny (model prog w) A (binaryOp .Mult (.str (S [c]) t) (.int n u)) Q E s :=
  SB.mul (mulOk_of 16 1048576 (by rw [S_len]; exact (by decide : 1 ≤ 16)) (by omega) (by omega) (by decide) (by decide)) fun t' k => by rw [S_mul h0]; exact h t' k
theorem sS_count {c : Nat} (h : Q (.int (l.count c : Nat) s.toks) { s with toks := s.toks + 1 }) : wpAny (model prog w) A (call (.builtin "str.count") [.str (S l) t, .str (S [c]) u]) Q E s :=
  SC.count (by rw [S_count]; exact h)
end
/-- what parse257 tells of a reply with n marks and an x -/
theorem parse_reply (e : List Nat) (he : parseL e = []) : ∀ n : Nat, parseL (List.replicate n 34 ++ (120 :: e)) = List.replicate (n / 2) 34 ++ (if n % 2 = 0 then [120] else [])
  | 0 => by simp [parseL_c e (show 120 ≠ 34 by decide), he]
  | 1 => by simp [List.replicate, parseL]
  | n + 2 => by
    have ih := parse_reply e he n
    have e1 : List.replicate (n + 2) 34 ++ 120 :: e = 34 :: 34 :: (List.replicate n 34 ++ 120 :: e) := by simp [List.replicate_succ]
    rw [e1, parseL_q2, ih, show (n + 2) / 2 = n / 2 + 1 by omega, show (n + 2) % 2 = n % 2 by omega, List.replicate_succ]; rfl
theorem reply_count (k : Nat) (b : Bool) : (List.replicate k 34 ++ (if b then [120] else [])).count 34 = k := by cases b <;> simp [List.count_replicate]
noncomputable def told (k : Nat) : List Nat := List.replicate (k / 2) 34 ++ (if k % 2 = 0 then [120] else [])
theorem told_len (k : Nat) : (told k).length ≤ k + 1 := by unfold told; rw [List.length_append, List.length_replicate]; split <;> simp <;> omega
theorem told_count (k : Nat) : (told k).count 34 = k / 2 := by unfold told; split <;> simp
theorem told_last (k : Nat) : ((told k).drop ((told k).length - 1) == [120]) = decide (k % 2 = 0) := by
  unfold told
  by_cases h : k % 2 = 0
  · rw [if_pos h, decide_eq_true h]; simp
  · rw [if_neg h, decide_eq_false h, List.append_nil, List.drop_replicate, beq_eq_false_iff_ne]
    intro e
    have h1 := congrArg List.length e
    have h2 := congrArg (List.count 34) e
    rw [List.length_replicate] at h1
    rw [List.count_replicate_self, h1] at h2
    exact absurd h2 (by decide)
theorem parse_told2 (w : World) (mean : ExcName → Option Value) (mg mb : Str → Option Value) (k : Nat) (e : List Nat) (t1 : Tok) (hk : k ≤ 500) (he : parseL e = []) (hl : e.length ≤ 10) :
    Told w mean mg mb 74 [.str (S (50 :: 53 :: 55 :: 32 :: 34 :: (List.replicate k 34 ++ [120] ++ e))) t1] 1 1 (fun _ => True) (RetS (S (told k))) := by
  have h := parse_told w mean mg mb (List.replicate k 34 ++ 120 :: e) t1 (by simp; omega)
  rw [parse_reply e he k] at h
  have e1 : 50 :: 53 :: 55 :: 32 :: 34 :: (List.replicate k 34 ++ [120] ++ e) = 50 :: 53 :: 55 :: 32 :: 34 :: (List.replicate k 34 ++ 120 :: e) := by simp
  rw [e1]; exact h
theorem read_end {n : Int} (h0 : 0 ≤ n) : ((told n.toNat).count 34 : Int) = n / 2 ∧ ((told n.toNat).drop ((told n.toNat).length - 1) == [120]) = decide (n % 2 = 0) := by
  obtain ⟨k, rfl⟩ := Int.eq_ofNat_of_zero_le h0
  rw [told_count, told_last]
  simp only [Int.toNat_natCast]
  refine ⟨by omega, ?_⟩
  congr 1; exact propext (by omega)
section
theorem said8 : True := by
  k_with "eval Constant str" => (first | refine sS_lit lit_257 ?_ | refine sS_lit lit_q ?_ | refine sS_lit lit_x ?_ | refine sS_lit lit_e ?_ | refine sS_lit lit_qy ?_ | refine sS_lit lit_qyq ?_ | refine sS_lit lit_z ?_ | refine sS_lit lit_y ?_ | refine sS_lit lit_abcd ?_ | refine sS_lit lit_ABCD ?_ | refine sS_lit lit_0123 ?_)
  k_with "binaryOp Mult str int" => ((with_reducible show wpAny _ _ (binaryOp _ (Value.str (S [_]) _) (Value.int _ _)) _ _ _); (refine sS_mul (by omega) (by omega) ?_); intro _ _)
  k_with "call builtin:str.count" => ((with_reducible show wpAny _ _ (call _ [Value.str (S _) _, Value.str (S [_]) _]) _ _ _); refine sS_count ?_)
  k_with "subscriptTail Name Slice str ref" => ((with_reducible show wpAny _ _ (subscriptTail _ (Expr.Slice (some _) none none _) (Value.str (S _) _) _) _ _ _); (with_reducible rename Fr _ _ _ _ => F'); (with_reducible rename News _ _ _ _ => N'); (refine sS_last (s := ⟨_, _, _, _, _⟩) F' N' (by first | exact Nat.le_trans (told_len _) (by omega) | ((try simp only [List.length_drop, List.length_take, List.length_cons, List.length_nil, List.length_append, List.length_replicate]); omega)) ?_); intro _ _ _ _ _)
  k_with "call ref" => (k_here; (with_reducible show wpAny _ _ (call (Value.ref 74) [Value.str (S _) _]) _ _ _); k_dflt (refine' told_use (parse_told2 _ _ _ _ _ _ _ ?kxz35 ?kyz35 ?kzz35) ?k1z35 ?k2z35 ?k3z35 ?k4z35 ?k5z35 ?kKz35 ?kpz35 ?kdz35 ?kuz35 ?_; (case kxz35 => omega); (case kyz35 => assumption); (case kzz35 => omega); (case k1z35 => k_asm); (case k2z35 => k_asm); (case k3z35 => k_asm); (case k4z35 => k_asm); (case k5z35 => k_asm); (case kKz35 => first | exact rfl | assumption); (case kpz35 => trivial); (case kdz35 => ktr_room); (case kuz35 => ktr_units)); intro t' h' tk' F' N'; (try dsimp only))
  trivial
set_option maxRecDepth 100000 in
set_option maxHeartbeats 12000000 in
theorem read_told (w : World) (mean : ExcName → Option Value) (mg mb : Str → Option Value) (n : Int) (e : List Nat) (t1 t2 : Tok) (h0 : 0 ≤ n) (h1 : n ≤ 500) (he : parseL e = []) (hl : e.length ≤ 10) :
    Told w mean mg mb 86 [.int n t1, .str (S e) t2] 2 2 (fun _ => True) (RetTIB (n / 2) (decide (n % 2 = 0))) := by
  unfold Told
  k_fill
  intro dp un gd cn cs a ccd cl outer A₀ base h₀ L m news s Q E B F X N T hk hR hd hu hret
  refine wpAny_call ?_
  k_dflt ktr_enter
  k_steps
  all_goals first
    | exact retTIB hret (read_end h0) (by assumption) (by assumption) (by assumption)
structure LtI (news : Led) (I : Addr) : Prop where
  lt : ∀ p ∈ news, p.1 < I
structure HasL (news : Led) (l : Addr) (vs : List Value) (z : Nat) : Prop where
  mem : (l, listOf vs.toArray z) ∈ news
theorem unr_end {h₀ : Heap} {L I : Addr} {it : Obj} {rest : (Str → Option Value) → List (Addr × Obj) → Prop} {s₁ : Shared} {h' : Heap} {tk : Nat} {m' : Str → Option Value} {all news : Led} (F : Fr h₀ L h' m') (N : News h₀ L h' all) (lt : ∀ p ∈ news, p.1 < I)
    (sub : ∀ p ∈ (I, it) :: news, p ∈ all) (r : rest m' news) : UnrEnd h₀ L s₁ I it rest { s₁ with heap := h', toks := tk } := UnrEnd.intro F N news sub (fun p hp => Nat.ne_of_lt (lt p hp)) r
noncomputable def creaseS (n : Int) : List Int → Int
  | [] => 0
  | a :: r => if n % 2 = 0 then creaseS (n / 2) r else if n / 2 % 2 = 0 then a else -a
section
variable {n a x : Int} {r : List Int}
theorem cr_z : 0 = creaseS n [] := rfl
theorem cr_e (h : n % 2 = 0) (e : x = creaseS (n / 2) r) : x = creaseS n (a :: r) := by unfold creaseS; rw [if_pos h]; exact e
theorem cr_p (h : ¬ n % 2 = 0) (h2 : n / 2 % 2 = 0) : a = creaseS n (a :: r) := by unfold creaseS; rw [if_neg h, if_pos h2]
theorem cr_n (h : ¬ n % 2 = 0) (h2 : ¬ n / 2 % 2 = 0) : -a = creaseS n (a :: r) := by unfold creaseS; rw [if_neg h, if_neg h2]
end
section
theorem said9 : True := by
  k_with "execs cons" => (k_here; (first | (with_reducible show wpAny _ _ (execs (Stmt.Assign _ _ _ :: _) _) _ _ _) | (with_reducible show wpAny _ _ (execs (Stmt.If _ _ _ _ :: _) _) _ _ _) | (with_reducible show wpAny _ _ (execs (Stmt.Return _ _ :: _) _) _ _ _)); (try k_made); (try k_gentoks); (try ((rename Fr _ _ _ _ => F9); (rename News _ _ _ _ => N9); k_dflt (refine letFN F9 N9 ?_); clear F9 N9; intro m9 nw9 F9 N9; (try dsimp only at F9 N9))); (with_reducible refine wpAny_execs_cons ?_); k_dflt (refine hide ?_); intro Q9 hQ9)
  k_with "Thn" => ((with_reducible refine to_go (by with_reducible assumption) ?_); (try dsimp only))
  k_with "call ref" => (k_here; (with_reducible show wpAny _ _ (call (Value.ref 86) [Value.int _ _, Value.str (S _) _]) _ _ _); k_dflt (refine' told_use (read_told _ _ _ _ _ _ _ _ ?kwz38 ?kxz38 ?kyz38 ?kzz38) ?k1z38 ?k2z38 ?k3z38 ?k4z38 ?k5z38 ?kKz38 ?kpz38 ?kdz38 ?kuz38 ?_; (case kwz38 => omega); (case kxz38 => omega); (case kyz38 => assumption); (case kzz38 => omega); (case k1z38 => k_asm); (case k2z38 => k_asm); (case k3z38 => k_asm); (case k4z38 => k_asm); (case k5z38 => k_asm); (case kKz38 => first | exact rfl | assumption); (case kpz38 => trivial); (case kdz38 => ktr_room); (case kuz38 => ktr_units)); intro q' n1' h' tk' F' N' l2; clear l2; (try dsimp only))
  k_with "exec For Name Name cons nil" => (k_here; (rename HasL _ _ _ _ => hHL); (rename Fr _ _ _ _ => lF'); (with_unfolding_all refine' For_invVF lF' ?k1z39 ?k2z39 ?_; (case k1z39 => exact rfl); (case k2z39 => exact rfl); k_whole))
  k_with "M pyIter ref" => ((with_reducible show wpAny _ _ (pyIter (Value.ref _)) (fun it s₂ => LoopAtV _ _ _ _ _ _ _ _ _ it s₂) _ _); (rename HasL _ _ _ _ => hHL); (rename Fr _ _ _ _ => lF'); (rename News _ _ _ _ => lN'); k_dflt (refine iter_listUnr (by rfl) lF' lN' hHL.mem (by rfl) (by rfl) ?_); clear lF'; intro i' l1; (have hLt := LtI.mk l1); clear l1)
  k_with "UnrEnd" => ((rename HasL _ _ _ _ => hHL); (rename LtI _ _ => hLt); (refine unr_end (by assumption) (by assumption) hLt.lt (by first | exact fun p hp => hp | exact fun p hp => .tail _ hp | exact fun p hp => .tail _ (.tail _ hp)) ⟨hHL.mem, ?_⟩))
  trivial
set_option maxRecDepth 100000 in
set_option maxHeartbeats 12000000 in
theorem crease_told (w : World) (mean : ExcName → Option Value) (mg mb : Str → Option Value) (n : Int) (e : List Nat) (l : Addr) (a0 a1 a2 a3 : Int) (u0 u1 u2 u3 t1 t2 : Tok) (z : Nat) (h0 : 0 ≤ n) (h1 : n ≤ 500) (he : parseL e = []) (hl : e.length ≤ 10) :
    Told w mean mg mb 93 [.int n t1, .ref l, .str (S e) t2] 3 3 (fun news => HasL news l [Value.int a0 u0, .int a1 u1, .int a2 u2, .int a3 u3] z) (RetI (creaseS n [a0, a1, a2, a3])) := by
  unfold Told
  k_fill
  intro dp un gd cn cs a ccd cl outer A₀ base h₀ L m news s Q E B F X N T hk hR hd hu hret
  refine wpAny_call ?_
  k_dflt ktr_enter
  k_steps
  all_goals refine retI hret ?_ (by assumption) (kst_newsOf (by assumption) ?_)
  all_goals first
    | exact fun p hp => hp
    | exact fun p hp => .tail _ hp
    | exact fun p hp => .tail _ (.tail _ hp)
    | exact fun p hp => .tail _ (.tail _ (.tail _ hp))
    | exact fun p hp => .tail _ (.tail _ (.tail _ (.tail _ hp)))
    | ((repeat refine cr_e (by assumption) ?_); first | exact cr_z | exact cr_p (by assumption) (by assumption) | exact cr_n (by assumption) (by assumption))
end
theorem said10 : True := by
  k_with_none
  k_with "subscriptTail Name Slice str ref" => ((with_reducible show wpAny _ _ (subscriptTail _ (Expr.Slice (some _) none none _) (Value.str (S _) _) _) _ _ _); (with_reducible rename Fr _ _ _ _ => F'); (with_reducible rename News _ _ _ _ => N'); (refine sS_from (s := ⟨_, _, _, _, _⟩) F' N' (by (try simp only [List.length_drop, List.length_take, List.length_cons, List.length_nil, List.length_append, List.length_replicate]); omega) (by omega) ?_); intro _ _ _ _ _)
  k_with "subscriptTail Name Slice str ref" => ((with_reducible show wpAny _ _ (subscriptTail _ (Expr.Slice none (some _) none _) (Value.str (S _) _) _) _ _ _); (with_reducible rename Fr _ _ _ _ => F'); (with_reducible rename News _ _ _ _ => N'); (first | (refine sS_nn (s := ⟨_, _, _, _, _⟩) F' N' (by (try simp only [List.length_drop, List.length_take, List.length_cons, List.length_nil, List.length_append, List.length_replicate]); omega) ?_) | (refine sS_to (s := ⟨_, _, _, _, _⟩) F' N' (by (try simp only [List.length_drop, List.length_take, List.length_cons, List.length_nil, List.length_append, List.length_replicate]); omega) (by omega) (by (try simp only [List.length_drop, List.length_take, List.length_cons, List.length_nil, List.length_append, List.length_replicate]); omega) ?_) | (refine sS_toneg (s := ⟨_, _, _, _, _⟩) F' N' (by (try simp only [List.length_drop, List.length_take, List.length_cons, List.length_nil, List.length_append, List.length_replicate]); omega) (by omega) (by (try simp only [List.length_drop, List.length_take, List.length_cons, List.length_nil, List.length_append, List.length_replicate]); omega) ?_)); intro _ _ _ _ _)
  k_with "subscriptTail Name Name str int" => ((with_reducible show wpAny _ _ (subscriptTail _ _ (Value.str (S _) _) _) _ _ _); (refine sS_at (by (try simp only [List.length_drop, List.length_take, List.length_cons, List.length_nil, List.length_append, List.length_replicate]); omega) (by omega) (by (try simp only [List.length_drop, List.length_take, List.length_cons, List.length_nil, List.length_append, List.length_replicate]); omega) ?_))
  k_with "subscriptTail Name BinOp str int" => ((with_reducible show wpAny _ _ (subscriptTail _ _ (Value.str (S _) _) _) _ _ _); (first | (refine sS_at (by (try simp only [List.length_drop, List.length_take, List.length_cons, List.length_nil, List.length_append, List.length_replicate]); omega) (by omega) (by (try simp only [List.length_drop, List.length_take, List.length_cons, List.length_nil, List.length_append, List.length_replicate]); omega) ?_) | (refine sS_atneg (by (try simp only [List.length_drop, List.length_take, List.length_cons, List.length_nil, List.length_append, List.length_replicate]); omega) (by omega) (by (try simp only [List.length_drop, List.length_take, List.length_cons, List.length_nil, List.length_append, List.length_replicate]); omega) ?_)))
  k_with "compareOp Eq str str" => ((with_reducible show wpAny _ _ (compareOp _ (Value.str (S _) _) (Value.str (S _) _)) _ _ _); refine sS_eq ?_)
  k_with "compareOp NotEq str str" => ((with_reducible show wpAny _ _ (compareOp _ (Value.str (S _) _) (Value.str (S _) _)) _ _ _); refine sS_ne ?_)
  k_with "call builtin:len" => ((with_reducible show wpAny _ _ (call _ [Value.str (S _) _]) _ _ _); refine sS_len (by (try simp only [List.length_drop, List.length_take, List.length_cons, List.length_nil, List.length_append, List.length_replicate]); omega) ?_)
  k_with "truthy str" => ((with_reducible show wpAny _ _ (PySem.truthy (Value.str (S _) _)) _ _ _); (first | ((with_reducible show wpAny _ _ (PySem.truthy (Value.str (S (List.drop _ _)) _)) _ _ _); refine sS_truthy_drop (by omega) (by omega) ?_) | ((with_reducible show wpAny _ _ (PySem.truthy (Value.str (S (List.take _ _)) _)) _ _ _); refine sS_truthy_take (by omega) (by omega) (by omega) ?_) | refine sS_truthy (by (try simp only [List.length_drop, List.length_take, List.length_cons, List.length_nil, List.length_append, List.length_replicate]); omega) ?_))
  k_with "binaryOp Add str str" => ((with_reducible show wpAny _ _ (binaryOp _ (Value.str (S _) _) (Value.str (S _) _)) _ _ _); refine sS_add (by (try simp only [List.length_drop, List.length_take, List.length_cons, List.length_nil, List.length_append, List.length_replicate]); omega) (by (try simp only [List.length_drop, List.length_take, List.length_cons, List.length_nil, List.length_append, List.length_replicate]); omega) ?_; intro _ _)
  k_with "eval Constant str" => (first | refine sS_lit lit_257 ?_ | refine sS_lit lit_q ?_ | refine sS_lit lit_x ?_ | refine sS_lit lit_e ?_ | refine sS_lit lit_qy ?_ | refine sS_lit lit_qyq ?_ | refine sS_lit lit_z ?_ | refine sS_lit lit_y ?_ | refine sS_lit lit_abcd ?_ | refine sS_lit lit_ABCD ?_ | refine sS_lit lit_0123 ?_)
  k_with "binaryOp Mult str int" => ((with_reducible show wpAny _ _ (binaryOp _ (Value.str (S [_]) _) (Value.int _ _)) _ _ _); (refine sS_mul (by omega) (by omega) ?_); intro _ _)
  k_with "call builtin:str.count" => ((with_reducible show wpAny _ _ (call _ [Value.str (S _) _, Value.str (S [_]) _]) _ _ _); refine sS_count ?_)
  k_with "subscriptTail Name Slice str ref" => ((with_reducible show wpAny _ _ (subscriptTail _ (Expr.Slice (some _) none none _) (Value.str (S _) _) _) _ _ _); (with_reducible rename Fr _ _ _ _ => F'); (with_reducible rename News _ _ _ _ => N'); (refine sS_last (s := ⟨_, _, _, _, _⟩) F' N' (by first | exact Nat.le_trans (told_len _) (by omega) | ((try simp only [List.length_drop, List.length_take, List.length_cons, List.length_nil, List.length_append, List.length_replicate]); omega)) ?_); intro _ _ _ _ _)
  k_with "call ref" => (k_here; (with_reducible show wpAny _ _ (call (Value.ref 74) [Value.str (S _) _]) _ _ _); k_dflt (refine' told_use (parse_told2 _ _ _ _ _ _ _ ?kxz35 ?kyz35 ?kzz35) ?k1z35 ?k2z35 ?k3z35 ?k4z35 ?k5z35 ?kKz35 ?kpz35 ?kdz35 ?kuz35 ?_; (case kxz35 => omega); (case kyz35 => assumption); (case kzz35 => omega); (case k1z35 => k_asm); (case k2z35 => k_asm); (case k3z35 => k_asm); (case k4z35 => k_asm); (case k5z35 => k_asm); (case kKz35 => first | exact rfl | assumption); (case kpz35 => trivial); (case kdz35 => ktr_room); (case kuz35 => ktr_units)); intro t' h' tk' F' N'; (try dsimp only))
  trivial
open PySem.Calls
section
open PySem.Calls
variable {prog : Program} {w : World} {A A₀ : Around} {E : Value → Shared → Prop} {s : Shared} {K : Frag} {C L : Addr} {h₀ base : Heap} {m mg mb : Str → Option Value} {news sub : Led} {p : Program} {loose : List Str} {mean : ExcName → Option Value} {Q : Value → Shared → Prop}
/-- the others of the ledger lie in the callee's base -/
noncomputable def Others (g : Heap) (news sub : Led) : Prop := ∀ p ∈ news, p ∈ sub ∨ g.get? p.1 = some p.2
theorem others_of {h : Heap} (N : News h₀ L h news) (hs : ∀ p ∈ sub, p ∈ news) : Others (hideAll h (sub.map (·.1))) news sub := fun p hp => by
  by_cases hm : p.1 ∈ sub.map (·.1)
  · obtain ⟨q, hq, e⟩ := List.mem_map.mp hm
    have h1 := (N p hp).1
    have h2 := (N q (hs q hq)).1
    rw [e, h1] at h2
    have : p = q := Prod.ext e.symm (Option.some.inj h2)
    exact .inl (this ▸ hq)
  · exact .inr (hideAll_get _ (N p hp).1 hm)
theorem others_back {h h' g : Heap} {L' : Addr} {m' : Str → Option Value} {new : Led} (N : News h₀ L h news) (O : Others g news sub) (F' : Fr g L' h' m') (N' : News h₀ L h' new) (hs : ∀ p ∈ sub, p ∈ new) : News h₀ L h' (new ++ news) := fun p hp => by
  rcases List.mem_append.mp hp with hp | hp
  · exact N' p hp
  · rcases O p hp with h1 | h1
    · exact N' p (hs p h1)
    · exact ⟨F'.keep _ _ h1, (N p hp).2⟩
theorem code_sub {env : Env} {outer : List Env} {R : Result → Shared → Prop} {name qual : Str} {params : Arguments} {body : List Stmt} {scope : Scope} {dV kV doc pm cdv ct oc : Value} {an od : Option Addr} {osl : Array (Option Value)} {f : Addr} {args : Args} {binds : List (Str × Value)}
    (B : Below A₀ base outer h₀) (F : Fr h₀ L s.heap m) (X₀ : K.In h₀) (N : News h₀ L s.heap news) (hs : ∀ p ∈ sub, p ∈ news) (T : Top p loose mean mg mb h₀) (hA : A.frames = some (env :: outer)) (hf : env.frame = some L) (hke : env.scope.kind = .function)
    (ho : K.lookup f = some ⟨oc, od, .func (fnOf name qual params body scope dV kV doc pm an cdv ct), osl⟩) (hcd : codeIn K cdv qual = true) (hroom : A.depth < recursionLimit)
    (hbind : BindsTo s (fnOf name qual params body scope dV kV doc pm an cdv ct) args binds) (hloc : ∀ y ∈ binds, scope.names.lookup y.1 = some .local)
    (h : ∀ g L' h₁, Fr h₀ L g m → Fr g L' h₁ (fun y => binds.reverse.lookup y) → News g L' h₁ sub → Below A base (env :: outer) g → K.In g → Top p loose mean mg mb g → Others g news sub →
      wpAny (model prog w) (A.deeper (envOf qual scope L' f cdv)) (execs body (envOf qual scope L' f cdv))
        (fun fl s' => LeaveK h₀ L m g R (match fl with | .ret v => v | _ => .none) s')
        (fun e s' => wpAny (model prog w) (A.deeper (envOf qual scope L' f cdv)) (leaving (envOf qual scope L' f cdv) e) (fun _ s'' => R (.error e) s'') (fun e' s'' => R (.error e') s'') s')
        { s with heap := h₁, toks := s.toks + binds.length })
    (hco : scope.isCoroutine = false) (hgen : scope.isGenerator = false) (hk : scope.kind = .function)
    (hcell : ∀ x ∈ scope.names, x.2 ≠ .cell) : codeAny (model prog w) A (.call (.ref f) args) R s := by
  have Ns : News h₀ L s.heap sub := kst_newsOf N hs
  obtain ⟨FG, BG, st, lv⟩ := groundX (R := R) B F Ns hA hf hke
  refine codeAny_call_def (fd := fnOf name qual params body scope dV kV doc pm an cdv ct) (body := body) (binds := binds) hroom ((X₀.keeps F.keep) _ _ ho) rfl (T.nolimit.keeps F.keep) (codeRec_of (X₀.keeps F.keep) hcd) rfl hbind hcell hloc (fun h₁ hns hk₁ => ?_) hco hgen hk
  exact wpAny_mono (h _ s.heap.objs.size h₁ FG ⟨hns, fun b o e => hk₁ b o (of_hideAll _ e), Nat.le_of_eq (hideAll_size _ _)⟩
    (fun p hp => ⟨hk₁ _ _ (Ns p hp).1, Nat.ne_of_lt (Heap.lt_size (Ns p hp).1), hideAll_none _ (List.mem_map_of_mem hp)⟩) BG (X₀.keeps st) (T.keeps st) (others_of N hs)) (fun fl s' hl => lv _ _ hl) fun _ _ y => y
end
noncomputable abbrev RetL (l : List Int) : RetK := fun h₀ L m news s Q => ∀ (q : Addr) (vs : List Value) (n : Nat) (h' : Heap) (tk' : Nat), IntsAre vs l → Fr h₀ L h' m → News h₀ L h' ((q, listOf vs.toArray n) :: news) → (∀ p ∈ news, @Ne Nat p.1 q) → Q (.ref q) { s with heap := h', toks := tk' }
theorem comp_same {h₀ h' : Heap} {L I C D : Addr} {m : Str → Option Value} {s₁ : Shared} {oI oC oD : Obj} {S : Led → Prop} {rest : Value → Led → Prop} {y : Value} {tk : Nat} {news' : Led} (F : Fr h₀ L h' m) (N : News h₀ L h' ((I, oI) :: (C, oC) :: (D, oD) :: news')) (off : LCg.Off3 I C D news') (hS : S news') (r : rest y news') : LCg.CompEnd h₀ L m s₁ I oI C oC D oD S rest y { s₁ with heap := h', toks := tk } := ⟨h', tk, news', rfl, F, N, off, hS, r⟩
theorem unr_keep {h₀ : Heap} {L I D l : Addr} {it oD ol : Obj} {rest : (Str → Option Value) → Led → Prop} {s₁ : Shared} {h' : Heap} {tk : Nat} {m' : Str → Option Value} {all : Led} (F : Fr h₀ L h' m') (N : News h₀ L h' ((D, oD) :: all)) (hl : (l, ol) ∈ all) (hi : (I, it) ∈ all) (hD : @Ne Nat D I) (hL : @Ne Nat l I)
    (r : rest m' [(D, oD), (l, ol)]) : UnrEnd h₀ L s₁ I it rest { s₁ with heap := h', toks := tk } :=
  UnrEnd.intro F N [(D, oD), (l, ol)] (fun p hp => by
    rcases List.mem_cons.mp hp with rfl | hp
    · exact .tail _ hi
    · rcases List.mem_cons.mp hp with rfl | hp
      · exact .head _
      · exact List.mem_singleton.mp hp ▸ .tail _ hl) (fun p hp => by
    rcases List.mem_cons.mp hp with rfl | hp
    · exact hD
    · exact List.mem_singleton.mp hp ▸ hL) r
theorem others_ne {h' g : Heap} {L' D : Addr} {new news sub : Led} {oD : Obj} (O : Others g news sub) (N' : News g L' h' new) (hD : (D, oD) ∈ new) (hs : ∀ p ∈ sub, @Ne Nat p.1 D) : ∀ p ∈ news, @Ne Nat p.1 D := fun p hp e => by
  rcases O p hp with h1 | h1
  · exact hs p h1 e
  · have h2 := (N' _ hD).2.2
    rw [← e] at h2
    rw [h1] at h2; cases h2
theorem retL_sub {l : List Int} {h₀ h' g : Heap} {L L' D : Addr} {m m' : Str → Option Value} {new news sub : Led} {s : Shared} {Q : Value → Shared → Prop} {vs : List Value} {n tk : Nat} 
    (hret : RetL l h₀ L m news s Q) (hI : IntsAre vs l) (F : Fr h₀ L h' m) (N₀ : News h₀ L h' new) (hD : (D, listOf vs.toArray n) ∈ new) (N : News h₀ L s.heap news) (O : Others g news sub) (F' : Fr g L' h' m') (N' : News g L' h' new) (hs : ∀ p ∈ sub, p ∈ new) (hne : ∀ p ∈ sub, @Ne Nat p.1 D) : Q (.ref D) { s with heap := h', toks := tk } := by
  have NB := others_back N O F' N₀ hs
  refine hret D vs n h' tk hI F (fun p hp => ?_) (others_ne O N' hD hne)
  rcases List.mem_cons.mp hp with rfl | hp
  · exact NB _ (List.mem_append_left _ hD)
  · exact NB _ (List.mem_append_right _ hp)
section
theorem ints_get {vs : List Value} {ns : List Int} (hI : IntsAre vs ns) : ∀ {i : Nat} {v : Value}, vs.toArray[i]? = some v → ∃ t n, v = .int n t ∧ ns[i]? = some n := by
  induction hI with
  | nil => intro i v h; simp at h
  | cons n t _ ih =>
    intro i v h
    cases i with
    | zero => simp at h; exact ⟨t, n, h.symm, rfl⟩
    | succ i => simp at h; obtain ⟨t, m, e, e'⟩ := ih (i := i) (v := v) (by simpa using h); exact ⟨t, m, e, by simpa using e'⟩
theorem ints_snoc {vs : List Value} {ns : List Int} (hI : IntsAre vs ns) (n : Int) (t : Tok) : IntsAre (vs ++ [.int n t]) (ns ++ [n]) := hI.append (.cons n t .nil)
theorem neg_rest {prog : Program} {w : World} {A : Around} {h₀ : Heap} {L : Addr} {m : Str → Option Value} {env : Env} {x : Str} {p1 : Pos} {pos : Pos} {scope : Scope} {cl : List (Str × Addr)} {S : Led → Prop} {vs : List Value} {ns : List Int} {Fin : List Value → Led → Prop} {news : Led}
    (hI : IntsAre vs ns) (hS : S news) (hk : (compEnvC scope cl 0 env).scope.kind = .function) (hl : ∀ C, (compEnvC scope cl C env).kindOf x = some .local) (hd : (x == ("__debug__" : Str)) = false)
    (hF : ∀ us, IntsAre us (ns.map (- ·)) → Fin us news) (s : Shared) :
    ∀ (k i : Nat) (ys : List Value), k + i = vs.length → IntsAre ys ((ns.take i).map (- ·)) → LCg.CompRest prog w A h₀ L m env (.UnaryOp .USub (.Name x p1) pos) x scope cl s S (fun i v => vs.toArray[i]? = some v) Fin k i ys news := by
  intro k
  induction k with
  | zero =>
    intro i ys e hy
    refine LCg.CompRest.zero (hF ys ?_)
    rw [List.take_of_length_le (by have := hI.length; omega)] at hy
    exact hy
  | succ k ih =>
    intro i ys e hy
    refine LCg.CompRest.succ ?_
    intro v I oI C oC D m' h tk E' hv hC hx F N off ne
    obtain ⟨t, n, rfl, hn⟩ := ints_get hI hv
    have go := fun (t' : Tok) => ih (i + 1) (ys ++ [.int (-n) t']) (by omega) (by
      have h1 := ints_snoc hy (-n) t'
      have h2 : ns.take (i + 1) = ns.take i ++ [n] := by
        rw [List.take_add_one, hn]; rfl
      rw [h2, List.map_append]
      exact h1)
    clear ih
    refine UnaryOp_ (LCgL.ld_own N (.tail _ (.head _)) hC hx ?_ hk (hl C) hd)
    k_steps
    all_goals exact comp_same F N off hS (go _)
theorem comp_neg {prog : Program} {w : World} {A : Around} {h₀ : Heap} {L : Addr} {m : Str → Option Value} {env : Env} {x : Str} {p1 : Pos} {pos : Pos} {scope : Scope} {cl : List (Str × Addr)} {ws : List Value} {ns : List Int} {Fin : Shared → List Value → Led → Prop} {news : Led} {ax : Addr} {k : Nat} {s₁ : Shared}
    (hh : A.handled = none) (F : Fr h₀ L s₁.heap m) (N : News h₀ L s₁.heap news) (hm : (ax, listOf ws.toArray k) ∈ news) (hI : IntsAre ws ns) (hz : ns.length ≤ 1000)
    (hk : (compEnvC scope cl 0 env).scope.kind = .function) (hl : ∀ C, (compEnvC scope cl C env).kindOf x = some .local) (hd : (x == ("__debug__" : Str)) = false)
    (hF : ∀ us g, IntsAre us (ns.map (- ·)) → Fin { s₁ with heap := g } us news) :
    LCg.CompSrc prog w A h₀ L m env (.UnaryOp .USub (.Name x p1) pos) x scope cl Fin (.ref ax) s₁ := by
  have e : ws.toArray.size = ws.length := by simp
  refine LCg.CompSrc.ledger (its := ws.toArray) hh F N hm (by rw [e, hI.length]; exact Nat.le_trans hz (by decide)) fun g => ?_
  exact neg_rest hI (Or.inr ⟨_, hm, rfl, _, rfl⟩) hk hl hd (fun us hU => hF us g hU) _ _ 0 [] (by simp) .nil
noncomputable abbrev foldS (a b c d : Int) : List Int := [a, b, -a, c, a, -b, -a, d, a, b, -a, -c, a, -b, -a]
theorem said11 : True := by
  k_with "eval ListComp" => (k_here; (with_reducible show wpAny _ _ (eval (Expr.ListComp (Expr.UnaryOp _ _ _) _ _ _) _) _ _ _); k_dflt (refine LCg.ListComp_U (F₀ := by k_asm) (by rfl) (by decide) (by rfl) (by decide) (by rfl) ?_); k_dflt lcg_toSrc)
  k_with "CompSrc" => (k_here; k_dflt (refine comp_neg (by rfl) (by k_asm) (by k_asm) (by k_mem) (by l_ints) (by simp) (by rfl) (fun _ => rfl) (by decide) ?_); intro us9 g9 hU9)
  k_with "UnrEnd" => ((rename Fr _ _ _ _ => F9); (rename News _ _ _ _ => N9); (rename HasL _ _ _ _ => hHL); (refine unr_keep F9 N9 (by k_mem) (by k_mem) (by k_ne) (by k_ne) ⟨.tail _ (.head _), ?_⟩))
  trivial
set_option maxRecDepth 100000 in
set_option maxHeartbeats 12000000 in
theorem fold_told (w : World) (mean : ExcName → Option Value) (mg mb : Str → Option Value) (l : Addr) (a0 a1 a2 a3 : Int) (u0 u1 u2 u3 : Tok) (z : Nat) :
    Told w mean mg mb 79 [.ref l] 3 3 (fun news => HasL news l [Value.int a0 u0, .int a1 u1, .int a2 u2, .int a3 u3] z) (RetL (foldS a0 a1 a2 a3)) := by
  unfold Told
  k_fill
  intro dp un gd cn cs a ccd cl outer A₀ base h₀ L m news s Q E B F X N T hk hR hd hu hret
  refine wpAny_call ?_
  k_dflt (refine' code_sub (sub := [(l, listOf [Value.int a0 u0, .int a1 u1, .int a2 u2, .int a3 u3].toArray z)]) ?k1 ?k2 ?k3 ?k4 ?ks ?k5 ?kA ?kF ?kK ?k6 ?k7 ?k8 ?k9 ?kB ?_ ?c2 ?c3 ?c4 ?c5; (case kA => exact rfl); (case kF => exact rfl); (case kK => assumption); (case k1 => k_asm); (case k2 => k_asm); (case k3 => k_asm); (case k4 => k_asm); (case ks => exact fun p hp => by rw [List.mem_singleton.mp hp]; exact hR.mem); (case k5 => k_asm); (case k6 => k_is); (case k7 => k_is); (case k8 => ktr_room); (case k9 => exact BindsTo.of_eq rfl); (case c5 => decide); (case kB => exact locs rfl); (case c2 => exact rfl); (case c3 => exact rfl); (case c4 => exact rfl); k_whole)
  intro g' L' h' FG' F' N' B' X' T' hOth
  dsimp only
  k_fold
  k_steps
  refine retL_sub hret (n := 0) (hI := ?_) (by with_reducible assumption) (by with_reducible assumption) (.head _) N hOth (by with_reducible assumption) (by with_reducible assumption) (fun p hp => .tail _ hp) (fun p hp => ?_)
  · rename IntsAre _ _ => hI9
    simp at hI9
    exact hI9
  · rw [List.mem_singleton.mp hp]
    k_ne
end
theorem said12 : True := by
  k_with_none
  k_with "subscriptTail Name Slice str ref" => ((with_reducible show wpAny _ _ (subscriptTail _ (Expr.Slice (some _) none none _) (Value.str (S _) _) _) _ _ _); (with_reducible rename Fr _ _ _ _ => F'); (with_reducible rename News _ _ _ _ => N'); (refine sS_from (s := ⟨_, _, _, _, _⟩) F' N' (by (try simp only [List.length_drop, List.length_take, List.length_cons, List.length_nil, List.length_append, List.length_replicate]); omega) (by omega) ?_); intro _ _ _ _ _)
  k_with "subscriptTail Name Slice str ref" => ((with_reducible show wpAny _ _ (subscriptTail _ (Expr.Slice none (some _) none _) (Value.str (S _) _) _) _ _ _); (with_reducible rename Fr _ _ _ _ => F'); (with_reducible rename News _ _ _ _ => N'); (first | (refine sS_nn (s := ⟨_, _, _, _, _⟩) F' N' (by (try simp only [List.length_drop, List.length_take, List.length_cons, List.length_nil, List.length_append, List.length_replicate]); omega) ?_) | (refine sS_to (s := ⟨_, _, _, _, _⟩) F' N' (by (try simp only [List.length_drop, List.length_take, List.length_cons, List.length_nil, List.length_append, List.length_replicate]); omega) (by omega) (by (try simp only [List.length_drop, List.length_take, List.length_cons, List.length_nil, List.length_append, List.length_replicate]); omega) ?_) | (refine sS_toneg (s := ⟨_, _, _, _, _⟩) F' N' (by (try simp only [List.length_drop, List.length_take, List.length_cons, List.length_nil, List.length_append, List.length_replicate]); omega) (by omega) (by (try simp only [List.length_drop, List.length_take, List.length_cons, List.length_nil, List.length_append, List.length_replicate]); omega) ?_)); intro _ _ _ _ _)
  k_with "subscriptTail Name Name str int" => ((with_reducible show wpAny _ _ (subscriptTail _ _ (Value.str (S _) _) _) _ _ _); (refine sS_at (by (try simp only [List.length_drop, List.length_take, List.length_cons, List.length_nil, List.length_append, List.length_replicate]); omega) (by omega) (by (try simp only [List.length_drop, List.length_take, List.length_cons, List.length_nil, List.length_append, List.length_replicate]); omega) ?_))
  k_with "subscriptTail Name BinOp str int" => ((with_reducible show wpAny _ _ (subscriptTail _ _ (Value.str (S _) _) _) _ _ _); (first | (refine sS_at (by (try simp only [List.length_drop, List.length_take, List.length_cons, List.length_nil, List.length_append, List.length_replicate]); omega) (by omega) (by (try simp only [List.length_drop, List.length_take, List.length_cons, List.length_nil, List.length_append, List.length_replicate]); omega) ?_) | (refine sS_atneg (by (try simp only [List.length_drop, List.length_take, List.length_cons, List.length_nil, List.length_append, List.length_replicate]); omega) (by omega) (by (try simp only [List.length_drop, List.length_take, List.length_cons, List.length_nil, List.length_append, List.length_replicate]); omega) ?_)))
  k_with "compareOp Eq str str" => ((with_reducible show wpAny _ _ (compareOp _ (Value.str (S _) _) (Value.str (S _) _)) _ _ _); refine sS_eq ?_)
  k_with "compareOp NotEq str str" => ((with_reducible show wpAny _ _ (compareOp _ (Value.str (S _) _) (Value.str (S _) _)) _ _ _); refine sS_ne ?_)
  k_with "call builtin:len" => ((with_reducible show wpAny _ _ (call _ [Value.str (S _) _]) _ _ _); refine sS_len (by (try simp only [List.length_drop, List.length_take, List.length_cons, List.length_nil, List.length_append, List.length_replicate]); omega) ?_)
  k_with "truthy str" => ((with_reducible show wpAny _ _ (PySem.truthy (Value.str (S _) _)) _ _ _); (first | ((with_reducible show wpAny _ _ (PySem.truthy (Value.str (S (List.drop _ _)) _)) _ _ _); refine sS_truthy_drop (by omega) (by omega) ?_) | ((with_reducible show wpAny _ _ (PySem.truthy (Value.str (S (List.take _ _)) _)) _ _ _); refine sS_truthy_take (by omega) (by omega) (by omega) ?_) | refine sS_truthy (by (try simp only [List.length_drop, List.length_take, List.length_cons, List.length_nil, List.length_append, List.length_replicate]); omega) ?_))
  k_with "binaryOp Add str str" => ((with_reducible show wpAny _ _ (binaryOp _ (Value.str (S _) _) (Value.str (S _) _)) _ _ _); refine sS_add (by (try simp only [List.length_drop, List.length_take, List.length_cons, List.length_nil, List.length_append, List.length_replicate]); omega) (by (try simp only [List.length_drop, List.length_take, List.length_cons, List.length_nil, List.length_append, List.length_replicate]); omega) ?_; intro _ _)
  k_with "eval Constant str" => (first | refine sS_lit lit_257 ?_ | refine sS_lit lit_q ?_ | refine sS_lit lit_x ?_ | refine sS_lit lit_e ?_ | refine sS_lit lit_qy ?_ | refine sS_lit lit_qyq ?_ | refine sS_lit lit_z ?_ | refine sS_lit lit_y ?_ | refine sS_lit lit_abcd ?_ | refine sS_lit lit_ABCD ?_ | refine sS_lit lit_0123 ?_)
  k_with "binaryOp Mult str int" => ((with_reducible show wpAny _ _ (binaryOp _ (Value.str (S [_]) _) (Value.int _ _)) _ _ _); (refine sS_mul (by omega) (by omega) ?_); intro _ _)
  k_with "call builtin:str.count" => ((with_reducible show wpAny _ _ (call _ [Value.str (S _) _, Value.str (S [_]) _]) _ _ _); refine sS_count ?_)
  k_with "subscriptTail Name Slice str ref" => ((with_reducible show wpAny _ _ (subscriptTail _ (Expr.Slice (some _) none none _) (Value.str (S _) _) _) _ _ _); (with_reducible rename Fr _ _ _ _ => F'); (with_reducible rename News _ _ _ _ => N'); (refine sS_last (s := ⟨_, _, _, _, _⟩) F' N' (by first | exact Nat.le_trans (told_len _) (by omega) | ((try simp only [List.length_drop, List.length_take, List.length_cons, List.length_nil, List.length_append, List.length_replicate]); omega)) ?_); intro _ _ _ _ _)
  k_with "call ref" => (k_here; (with_reducible show wpAny _ _ (call (Value.ref 74) [Value.str (S _) _]) _ _ _); k_dflt (refine' told_use (parse_told2 _ _ _ _ _ _ _ ?kxz35 ?kyz35 ?kzz35) ?k1z35 ?k2z35 ?k3z35 ?k4z35 ?k5z35 ?kKz35 ?kpz35 ?kdz35 ?kuz35 ?_; (case kxz35 => omega); (case kyz35 => assumption); (case kzz35 => omega); (case k1z35 => k_asm); (case k2z35 => k_asm); (case k3z35 => k_asm); (case k4z35 => k_asm); (case k5z35 => k_asm); (case kKz35 => first | exact rfl | assumption); (case kpz35 => trivial); (case kdz35 => ktr_room); (case kuz35 => ktr_units)); intro t' h' tk' F' N'; (try dsimp only))
  trivial
/-- the three words of _law_word -/
noncomputable def wrd (i : Int) : List Nat := if i = 0 then [97, 98, 99, 100] else if i = 1 then [65, 66, 67, 68] else [48, 49, 50, 51]
theorem wrd_len (i : Int) : (wrd i).length = 4 := by unfold wrd; split <;> (try split) <;> rfl
noncomputable abbrev ab (a : Int) : Int := if a < 0 then -a else a
structure Sm (a t : Int) : Prop where
  al : -2 ≤ a
  ah : a ≤ 2
  tt : t = 0 ∨ t = 1
theorem Sm.lo {a t : Int} (h : Sm a t) : 0 ≤ ab a * t := by
  have h1 : 0 ≤ ab a := by unfold ab; split <;> omega
  rcases h.tt with e | e <;> subst e <;> simp [h1]
theorem Sm.hi {a t : Int} (h : Sm a t) : ab a * t ≤ 2 := by
  have h1 : ab a ≤ 2 := by have := h.al; have := h.ah; unfold ab; split <;> omega
  rcases h.tt with e | e <;> subst e <;> simp [h1]
theorem Sm.ok {a t : Int} (h : Sm a t) : IntMulOk (ab a) t := IntMulOk.of_right (intBits_le_64 (by rcases h.tt with e | e <;> subst e <;> decide) (by rcases h.tt with e | e <;> subst e <;> decide))
noncomputable def lt1 (a t : Int) (k : Nat) : Nat := (wrd (ab a * t)).getD k 0
noncomputable abbrev wordS (a b c d t u v x : Int) : List Nat := [lt1 a t 0, lt1 b u 1, lt1 c v 2, lt1 d x 3]
section
variable {prog : Program} {w : World} {A : Around} {E : Value → Shared → Prop} {s : Shared} {h₀ : Heap} {L D : Addr} {m : Str → Option Value} {news : List (Addr × Obj)} {t u : Tok} {Q : Value → Shared → Prop} {value slice : Expr}
theorem menu_word {k : Int} {t0 t1 t2 : Tok} (N : News h₀ L s.heap news) (hm : (D, tupO [.str (S [97, 98, 99, 100]) t0, .str (S [65, 66, 67, 68]) t1, .str (S [48, 49, 50, 51]) t2]) ∈ news) (h0 : 0 ≤ k) (h1 : k ≤ 2)
    (h : ∀ n, Q (.str (S (wrd k)) n) s)
    (hs : subscripted slice false (.ref D) (.int k u) = operate [.ref D, .int k u] (getItem (.ref D) (.int k u)) := by with_unfolding_all rfl) : wpAny (model prog w) A (subscriptTail value slice (.ref D) (.int k u)) Q E s := by
  have ht : IsTup s.heap D [Value.str (S [97, 98, 99, 100]) t0, .str (S [65, 66, 67, 68]) t1, .str (S [48, 49, 50, 51]) t2].toArray := ⟨_, (N _ hm).1, rfl, 0, rfl⟩
  obtain rfl | rfl | rfl : k = 0 ∨ k = 1 ∨ k = 2 := by omega
  · exact item_tupleT ht (by decide) (by decide) (j := 0) rfl rfl (h _) hs
  · exact item_tupleT ht (by decide) (by decide) (j := 1) rfl rfl (h _) hs
  · exact item_tupleT ht (by decide) (by decide) (j := 2) rfl rfl (h _) hs
end
theorem comp_drop1 {h₀ h' : Heap} {L I C D T : Addr} {m : Str → Option Value} {s₁ : Shared} {oI oC oD oT : Obj} {S : Led → Prop} {rest : Value → Led → Prop} {y : Value} {tk : Nat} {news' : Led} (F : Fr h₀ L h' m) (N : News h₀ L h' ((T, oT) :: (I, oI) :: (C, oC) :: (D, oD) :: news')) (off : LCg.Off3 I C D news') (hS : S news') (r : rest y news') : LCg.CompEnd h₀ L m s₁ I oI C oC D oD S rest y { s₁ with heap := h', toks := tk } := ⟨h', tk, news', rfl, F, fun p hp => N p (.tail _ hp), off, hS, r⟩
section
variable {prog : Program} {w : World} {A : Around} {E : Value → Shared → Prop} {s : Shared} {h₀ : Heap} {L D : Addr} {m : Str → Option Value} {news all : List (Addr × Obj)} {t u : Tok} {Q : Value → Shared → Prop} {value slice : Expr}
theorem at_l {vs : List Value} {z k : Nat} {v : Value} {l : Addr} (N : News h₀ L s.heap all) (hm : (l, listOf vs.toArray z) ∈ all) (e : vs[k]? = some v) (hk : Nat.ble k 1000 = true) (h : Q v s)
    (hs : subscripted slice false (.ref l) (.int (0 + (k : Int)) u) = operate [.ref l, .int (0 + (k : Int)) u] (getItem (.ref l) (.int (0 + (k : Int)) u)) := by with_unfolding_all rfl) :
    wpAny (model prog w) A (subscriptTail value slice (.ref l) (.int (0 + (k : Int)) u)) Q E s := by
  have hk' := Nat.le_of_ble_eq_true hk
  have hl : s.heap.IsList l vs.toArray := ⟨_, (N _ hm).1, rfl, z, rfl⟩
  exact tail_any hl.typeIs slot_list_getitem.lookup (wpAny_getItem_list hl (by omega) (by omega) (x := v) (by simpa using e) h) hs
theorem join_S {l : List (Nat × Tok)} {z : Nat} (N : News h₀ L s.heap all) (hm : (D, listOf (l.map fun p => Value.str (S [p.1]) p.2).toArray z) ∈ all) (hl : l.length ≤ 100)
    (h : ∀ t' k, Q (.str (S (l.map (·.1))) t') { s with toks := k }) : wpAny (model prog w) A (call (.builtin "str.join") [.str (S []) t, .ref D]) Q E s := by
  have hl' : s.heap.IsList D (l.map fun p => Value.str (S [p.1]) p.2).toArray := ⟨_, (N _ hm).1, rfl, z, rfl⟩
  have hS : ∀ l : List (Nat × Tok), StrsAre (l.map fun p => Value.str (S [p.1]) p.2) (l.map fun p => S [p.1]) := by
    intro l; induction l with
    | nil => exact .nil
    | cons a r ih => exact .cons _ _ ih
  have e1 : ∀ l : List (Nat × Tok), ((l.map fun p => S [p.1]).map (·.length)).sum = l.length := by
    intro l; induction l with
    | nil => rfl
    | cons a r ih => simp only [List.map_cons, List.sum_cons, List.length_cons, ih, S_len, List.length_nil]; omega
  have e2 : ∀ l : List (Nat × Tok), Txt.join (S []) (l.map fun p => S [p.1]) = S (l.map (·.1)) := by
    intro l
    show Builtin.Str.glued (S []) _ = _
    rw [StrLaws.glued_eq_join]
    induction l with
    | nil => exact S_eq rfl
    | cons a r ih =>
      cases r with
      | nil => rfl
      | cons b r =>
        have e : PySem.Str.join (S []) (((a :: b :: r).map fun p => S [p.1])) = S [a.1] ++ S [] ++ PySem.Str.join (S []) (((b :: r).map fun p => S [p.1])) := rfl
        rw [e, ih, S_cat, S_cat]
        rfl
  refine join_listC hl' (hS l) (by simp [S_len]) (by rw [e1, List.length_map]; omega) fun t' k => ?_
  rw [e2]; exact h t' k
end
section
variable {prog : Program} {w : World} {A : Around} {E : Value → Shared → Prop} {s : Shared} {t u : Tok} {Q : Value → Shared → Prop} {value slice : Expr}
theorem at_wrd {a b : Int} {k : Nat} (hk : Nat.ble k 3 = true) (h : Q (.str (S [lt1 a b k]) s.toks) { s with toks := s.toks + 1 })
    (hs : subscripted slice false (.str (S (wrd (ab a * b))) t) (.int (0 + (k : Int)) u) = operate [.str (S (wrd (ab a * b))) t, .int (0 + (k : Int)) u] (getItem (.str (S (wrd (ab a * b))) t) (.int (0 + (k : Int)) u)) := by with_unfolding_all rfl)
    (ht : ∀ r, letTemporaryGo value (.str (S (wrd (ab a * b))) t) r = pure () := by intro _; with_unfolding_all rfl) :
    wpAny (model prog w) A (subscriptTail value slice (.str (S (wrd (ab a * b))) t) (.int (0 + (k : Int)) u)) Q E s := by
  have hk' := Nat.le_of_ble_eq_true hk
  have e := wrd_len (ab a * b)
  refine sS_at (by omega) (by omega) (by omega) ?_ hs ht
  have : (0 + (k : Int)).toNat = k := by omega
  rw [this]; exact h
end
section
theorem said13 : True := by
  k_with "Thn" => ((with_reducible refine to_go (by with_reducible assumption) ?_); (try dsimp only))
  k_with "binaryOp Mult int int" => ((with_reducible show wpAny _ _ (binaryOp _ (Value.int (ite _ _ _) _) (Value.int _ _)) _ _ _); k_dflt (refine mul_int ?_ (Sm.ok (by with_reducible assumption))))
  k_with "subscriptTail" => ((with_reducible show wpAny _ _ (subscriptTail (Expr.Tuple _ _ _) (Expr.BinOp _ _ _ _) (Value.ref _) (Value.int _ _)) _ _ _); (rename News _ _ _ _ => N'); k_dflt (refine menu_word N' (.head _) (Sm.lo (by with_reducible assumption)) (Sm.hi (by with_reducible assumption)) ?_); intro n9)
  k_with "CompSrc" => (k_here; k_dflt (refine LCg.CompSrc.range (by rfl) (by k_asm) (by k_asm) (by assumption) (by first | decide | rfl) (by first | rfl | decide) (by exact Nat.le_of_ble_eq_true rfl) ?_); intro g9; lcg_lit)
  k_with "CompRest" => (with_unfolding_all (refine LCg.CompRest.succ ?_; intro v' I' oI' C' oC' D' m' h' tk' E' hv' hC' hx' F' N' off' ne'; (first | lcg_open hv' | (obtain ⟨t9', hv9'⟩ := hv'; subst hv9')); k_dflt (refine hide ?_); intro Q9 hQ9))
  k_with "CompEnd" => ((rename LCg.Off3 _ _ _ _ => off9); k_dflt (refine comp_drop1 (by with_reducible assumption) (by with_reducible assumption) off9 trivial ?_); clear off9)
  k_with "subscriptTail" => ((with_reducible show wpAny _ _ (subscriptTail (Expr.Name _ _) (Expr.Name _ _) (Value.ref _) (Value.int (0 + _) _)) _ _ _); (rename News _ _ _ _ => N'); k_dflt (refine at_l N' (by (repeat (first | (with_reducible exact HasL.mem (by with_reducible assumption)) | (with_reducible refine List.mem_cons_of_mem _ ?_)))) (by rfl) (by rfl) ?_))
  k_with "subscriptTail" => ((with_reducible show wpAny _ _ (subscriptTail _ (Expr.Name _ _) (Value.str (S (wrd _)) _) (Value.int (0 + _) _)) _ _ _); k_dflt (refine at_wrd (by rfl) ?_))
  k_with "call builtin:str.join" => ((with_reducible show wpAny _ _ (call _ [Value.str (S []) _, Value.ref _]) _ _ _); (rename News _ _ _ _ => N'); k_dflt (refine join_S (l := [(_, _), (_, _), (_, _), (_, _)]) N' (.head _) (Nat.le_of_ble_eq_true rfl) ?_); intro _ _; (try dsimp only [List.map]))
  trivial
set_option maxRecDepth 100000 in
set_option maxHeartbeats 12000000 in
theorem word_told (w : World) (mean : ExcName → Option Value) (mg mb : Str → Option Value) (l r : Addr) (a0 a1 a2 a3 b0 b1 b2 b3 : Int) (u0 u1 u2 u3 v0 v1 v2 v3 : Tok) (z y : Nat) (hS0 : Sm a0 b0) (hS1 : Sm a1 b1) (hS2 : Sm a2 b2) (hS3 : Sm a3 b3) :
    Told w mean mg mb 98 [.ref l, .ref r] 3 3 (fun news => HasL news l [Value.int a0 u0, .int a1 u1, .int a2 u2, .int a3 u3] z ∧ HasL news r [Value.int b0 v0, .int b1 v1, .int b2 v2, .int b3 v3] y) (RetS (S (wordS a0 a1 a2 a3 b0 b1 b2 b3))) := by
  unfold Told
  k_fill
  intro dp un gd cn cs a ccd cl outer A₀ base h₀ L m news s Q E B F X N T hk ⟨hRl, hRr⟩ hd hu hret
  refine wpAny_call ?_
  k_dflt (refine' code_defC ?k1 ?k2 ?k3 ?k4 ?k5 ?kA ?kF ?kK ?k6 ?k7 ?k8 ?k9 ?kB ?kD ?_ ?c2 ?c3 ?c4; (case kA => exact rfl); (case kF => exact rfl); (case kK => assumption); (case k1 => k_asm); (case k2 => k_asm); (case k3 => k_asm); (case k4 => k_asm); (case k5 => k_asm); (case k6 => k_is); (case k7 => k_is); (case k8 => ktr_room); (case k9 => exact BindsTo.of_eq rfl); (case kB => exact rfl); (case kD => decide +kernel); (case c2 => exact rfl); (case c3 => exact rfl); (case c4 => exact rfl); k_whole)
  intro g' L' h' tk' cells' FG' F' N' Y' B' X' T' l1
  k_cells Y'
  try simp only [List.cons_append, List.nil_append] at N'
  dsimp only
  (try k_fold)
  k_steps
  rename News _ _ _ _ => kN9
  exact retS hret (by with_unfolding_all rfl) (by with_reducible assumption) (fun p hp => kN9 p (.tail _ (.tail _ (.tail _ hp))))
end
theorem said14 : True := by
  k_with_none
  k_with "subscriptTail Name Slice str ref" => ((with_reducible show wpAny _ _ (subscriptTail _ (Expr.Slice (some _) none none _) (Value.str (S _) _) _) _ _ _); (with_reducible rename Fr _ _ _ _ => F'); (with_reducible rename News _ _ _ _ => N'); (refine sS_from (s := ⟨_, _, _, _, _⟩) F' N' (by (try simp only [List.length_drop, List.length_take, List.length_cons, List.length_nil, List.length_append, List.length_replicate]); omega) (by omega) ?_); intro _ _ _ _ _)
  k_with "subscriptTail Name Slice str ref" => ((with_reducible show wpAny _ _ (subscriptTail _ (Expr.Slice none (some _) none _) (Value.str (S _) _) _) _ _ _); (with_reducible rename Fr _ _ _ _ => F'); (with_reducible rename News _ _ _ _ => N'); (first | (refine sS_nn (s := ⟨_, _, _, _, _⟩) F' N' (by (try simp only [List.length_drop, List.length_take, List.length_cons, List.length_nil, List.length_append, List.length_replicate]); omega) ?_) | (refine sS_to (s := ⟨_, _, _, _, _⟩) F' N' (by (try simp only [List.length_drop, List.length_take, List.length_cons, List.length_nil, List.length_append, List.length_replicate]); omega) (by omega) (by (try simp only [List.length_drop, List.length_take, List.length_cons, List.length_nil, List.length_append, List.length_replicate]); omega) ?_) | (refine sS_toneg (s := ⟨_, _, _, _, _⟩) F' N' (by (try simp only [List.length_drop, List.length_take, List.length_cons, List.length_nil, List.length_append, List.length_replicate]); omega) (by omega) (by (try simp only [List.length_drop, List.length_take, List.length_cons, List.length_nil, List.length_append, List.length_replicate]); omega) ?_)); intro _ _ _ _ _)
  k_with "subscriptTail Name Name str int" => ((with_reducible show wpAny _ _ (subscriptTail _ _ (Value.str (S _) _) _) _ _ _); (refine sS_at (by (try simp only [List.length_drop, List.length_take, List.length_cons, List.length_nil, List.length_append, List.length_replicate]); omega) (by omega) (by (try simp only [List.length_drop, List.length_take, List.length_cons, List.length_nil, List.length_append, List.length_replicate]); omega) ?_))
  k_with "subscriptTail Name BinOp str int" => ((with_reducible show wpAny _ _ (subscriptTail _ _ (Value.str (S _) _) _) _ _ _); (first | (refine sS_at (by (try simp only [List.length_drop, List.length_take, List.length_cons, List.length_nil, List.length_append, List.length_replicate]); omega) (by omega) (by (try simp only [List.length_drop, List.length_take, List.length_cons, List.length_nil, List.length_append, List.length_replicate]); omega) ?_) | (refine sS_atneg (by (try simp only [List.length_drop, List.length_take, List.length_cons, List.length_nil, List.length_append, List.length_replicate]); omega) (by omega) (by (try simp only [List.length_drop, List.length_take, List.length_cons, List.length_nil, List.length_append, List.length_replicate]); omega) ?_)))
  k_with "compareOp Eq str str" => ((with_reducible show wpAny _ _ (compareOp _ (Value.str (S _) _) (Value.str (S _) _)) _ _ _); refine sS_eq ?_)
  k_with "compareOp NotEq str str" => ((with_reducible show wpAny _ _ (compareOp _ (Value.str (S _) _) (Value.str (S _) _)) _ _ _); refine sS_ne ?_)
  k_with "call builtin:len" => ((with_reducible show wpAny _ _ (call _ [Value.str (S _) _]) _ _ _); refine sS_len (by (try simp only [List.length_drop, List.length_take, List.length_cons, List.length_nil, List.length_append, List.length_replicate]); omega) ?_)
  k_with "truthy str" => ((with_reducible show wpAny _ _ (PySem.truthy (Value.str (S _) _)) _ _ _); (first | ((with_reducible show wpAny _ _ (PySem.truthy (Value.str (S (List.drop _ _)) _)) _ _ _); refine sS_truthy_drop (by omega) (by omega) ?_) | ((with_reducible show wpAny _ _ (PySem.truthy (Value.str (S (List.take _ _)) _)) _ _ _); refine sS_truthy_take (by omega) (by omega) (by omega) ?_) | refine sS_truthy (by (try simp only [List.length_drop, List.length_take, List.length_cons, List.length_nil, List.length_append, List.length_replicate]); omega) ?_))
  k_with "binaryOp Add str str" => ((with_reducible show wpAny _ _ (binaryOp _ (Value.str (S _) _) (Value.str (S _) _)) _ _ _); refine sS_add (by (try simp only [List.length_drop, List.length_take, List.length_cons, List.length_nil, List.length_append, List.length_replicate]); omega) (by (try simp only [List.length_drop, List.length_take, List.length_cons, List.length_nil, List.length_append, List.length_replicate]); omega) ?_; intro _ _)
  k_with "eval Constant str" => (first | refine sS_lit lit_257 ?_ | refine sS_lit lit_q ?_ | refine sS_lit lit_x ?_ | refine sS_lit lit_e ?_ | refine sS_lit lit_qy ?_ | refine sS_lit lit_qyq ?_ | refine sS_lit lit_z ?_ | refine sS_lit lit_y ?_ | refine sS_lit lit_abcd ?_ | refine sS_lit lit_ABCD ?_ | refine sS_lit lit_0123 ?_)
  k_with "binaryOp Mult str int" => ((with_reducible show wpAny _ _ (binaryOp _ (Value.str (S [_]) _) (Value.int _ _)) _ _ _); (refine sS_mul (by omega) (by omega) ?_); intro _ _)
  k_with "call builtin:str.count" => ((with_reducible show wpAny _ _ (call _ [Value.str (S _) _, Value.str (S [_]) _]) _ _ _); refine sS_count ?_)
  k_with "subscriptTail Name Slice str ref" => ((with_reducible show wpAny _ _ (subscriptTail _ (Expr.Slice (some _) none none _) (Value.str (S _) _) _) _ _ _); (with_reducible rename Fr _ _ _ _ => F'); (with_reducible rename News _ _ _ _ => N'); (refine sS_last (s := ⟨_, _, _, _, _⟩) F' N' (by first | exact Nat.le_trans (told_len _) (by omega) | ((try simp only [List.length_drop, List.length_take, List.length_cons, List.length_nil, List.length_append, List.length_replicate]); omega)) ?_); intro _ _ _ _ _)
  k_with "call ref" => (k_here; (with_reducible show wpAny _ _ (call (Value.ref 74) [Value.str (S _) _]) _ _ _); k_dflt (refine' told_use (parse_told2 _ _ _ _ _ _ _ ?kxz35 ?kyz35 ?kzz35) ?k1z35 ?k2z35 ?k3z35 ?k4z35 ?k5z35 ?kKz35 ?kpz35 ?kdz35 ?kuz35 ?_; (case kxz35 => omega); (case kyz35 => assumption); (case kzz35 => omega); (case k1z35 => k_asm); (case k2z35 => k_asm); (case k3z35 => k_asm); (case k4z35 => k_asm); (case k5z35 => k_asm); (case kKz35 => first | exact rfl | assumption); (case kpz35 => trivial); (case kdz35 => ktr_room); (case kuz35 => ktr_units)); intro t' h' tk' F' N'; (try dsimp only))
  trivial
noncomputable def quarters : List UInt64 := [0x3fd0000000000000, 0x3fe0000000000000, 0x3fe8000000000000, 0x3ff0000000000000]
structure Quarter (x : UInt64) : Prop where
  mem : x ∈ quarters
noncomputable def h16 (k : Int) : UInt64 := Float64.ofFrac (decide (k < 0)) k.natAbs 16
noncomputable def colOk (j : Nat) (sh va : UInt64) : Bool := let c := hsvS (h16 j) sh va; rgbOk c.1 c.2.1 c.2.2 && (rgbS c.1 c.2.1 c.2.2 == (h16 ((j % 16 : Nat) : Int), sh, va))
noncomputable def hueOk (j : Nat) : Bool := Float64.isFinite (Float64.mul (h16 j) 4618441417868443648) && decide ((hI (h16 j)).natAbs < 1000)
theorem col_all : ((List.range 34).all fun j => hueOk j && quarters.all fun sh => quarters.all fun va => colOk j sh va) = true := by decide +kernel
theorem hue_all : ((List.range 16).all fun k => (Float64.add (h16 k) (Float64.ofInt 1) == h16 ((k + 16 : Nat) : Int)) && [-2, -1, 0, 1, 2].all fun c => Float64.add (h16 ((k + 16 : Nat) : Int)) (h16 c) == h16 (((k + 16 : Nat) : Int) + c)) = true := by decide +kernel
theorem hue_fin {j : Int} (h0 : 0 ≤ j) (h1 : j < 34) : Float64.isFinite (Float64.mul (h16 j) 4618441417868443648) = true ∧ (Flt.toInt Float64.truncOf (Float64.mul (h16 j) 4618441417868443648)).natAbs < 2 ^ 1024 - 2 ^ 970 := by
  obtain ⟨k, rfl⟩ := Int.eq_ofNat_of_zero_le h0
  have h := List.all_eq_true.mp col_all k (List.mem_range.mpr (by omega))
  have h2 := (Bool.and_eq_true _ _).mp ((Bool.and_eq_true _ _).mp h).1
  exact ⟨h2.1, Nat.lt_of_lt_of_le (of_decide_eq_true h2.2) (by decide +kernel)⟩
theorem col_use {j : Int} {sh va : UInt64} (h0 : 0 ≤ j) (h1 : j < 34) (hs : Quarter sh) (hv : Quarter va) :
    rgbOk (hsvS (h16 j) sh va).1 (hsvS (h16 j) sh va).2.1 (hsvS (h16 j) sh va).2.2 = true ∧ rgbS (hsvS (h16 j) sh va).1 (hsvS (h16 j) sh va).2.1 (hsvS (h16 j) sh va).2.2 = (h16 (j % 16), sh, va) := by
  obtain ⟨k, rfl⟩ := Int.eq_ofNat_of_zero_le h0
  have h := List.all_eq_true.mp col_all k (List.mem_range.mpr (by omega))
  have h2 := List.all_eq_true.mp (List.all_eq_true.mp ((Bool.and_eq_true _ _).mp h).2 sh hs.mem) va hv.mem
  have h3 := (Bool.and_eq_true _ _).mp h2
  exact ⟨h3.1, by have := eq_of_beq h3.2; rw [Int.natCast_emod] at this; exact this⟩
theorem hue_one {k : Int} (h0 : 0 ≤ k) (h1 : k < 16) : Float64.add (h16 k) (Float64.ofInt 1) = h16 (k + 16) := by
  obtain ⟨k, rfl⟩ := Int.eq_ofNat_of_zero_le h0
  have h := List.all_eq_true.mp hue_all k (List.mem_range.mpr (by omega))
  have h2 := eq_of_beq ((Bool.and_eq_true _ _).mp h).1
  rw [h2]; congr 1
theorem hue_add {k c : Int} (h0 : 0 ≤ k) (h1 : k < 16) (c0 : -2 ≤ c) (c1 : c ≤ 2) : Float64.add (h16 (k + 16)) (h16 c) = h16 (k + 16 + c) := by
  obtain ⟨k, rfl⟩ := Int.eq_ofNat_of_zero_le h0
  have h := List.all_eq_true.mp hue_all k (List.mem_range.mpr (by omega))
  have hc : c ∈ ([-2, -1, 0, 1, 2] : List Int) := by
    obtain rfl | rfl | rfl | rfl | rfl : c = -2 ∨ c = -1 ∨ c = 0 ∨ c = 1 ∨ c = 2 := by omega
    all_goals simp
  have h2 := eq_of_beq (List.all_eq_true.mp ((Bool.and_eq_true _ _).mp h).2 c hc)
  exact h2
theorem crease_atN {a b c d : Int} : ∀ k : Nat, k < 15 → creaseS ((k : Int) + 1) [a, b, c, d] = (foldS a b c d).getD k 0
  | 0, _ => rfl | 1, _ => rfl | 2, _ => rfl | 3, _ => rfl | 4, _ => rfl | 5, _ => rfl | 6, _ => rfl | 7, _ => rfl | 8, _ => rfl | 9, _ => rfl | 10, _ => rfl | 11, _ => rfl | 12, _ => rfl | 13, _ => rfl | 14, _ => rfl
  | k + 15, h => absurd h (by omega)
theorem crease_at {n a b c d : Int} (h0 : 1 ≤ n) (h1 : n ≤ 15) : creaseS n [a, b, c, d] = (foldS a b c d).getD (n - 1).toNat 0 := by
  have h := crease_atN (a := a) (b := b) (c := c) (d := d) (n - 1).toNat (by omega)
  have e : (((n - 1).toNat : Nat) : Int) + 1 = n := by omega
  rw [e] at h; exact h
theorem no_shared (P : Params) : nsIn (Mine.pre.heap_1 P) cStatics sharingNotToldKey = some none := by rfl
section
variable {prog : Program} {w : World} {M : Model} {A : Around} {E : Value → Shared → Prop} {s : Shared} {K : Frag} {h : Heap}
theorem told_not {t : Tok} {Q : Bool → Shared → Prop} (X : K.In h) (e : nsIn K cStatics sharingNotToldKey = some none) (k : ∀ b o, h.get? b = some o → s.heap.get? b = some o) (hq : Q false s) : wpAny M A (sharingNotTold t) Q E s := by
  unfold sharingNotTold
  refine wpAny_bind (looks_nsIn X e A _ E s k ?_)
  exact wpAny_pure hq
theorem same_ff {x : UInt64} {t u : Tok} {Q : Bool → Shared → Prop} (X : K.In h) (e : nsIn K cStatics sharingNotToldKey = some none) (k : ∀ b o, h.get? b = some o → s.heap.get? b = some o) (ht : t ≠ 0) (hu : u ≠ 0) (hq : ∀ b, Q b s) :
    wpAny M A (isSame (.float x t) (.float x u)) Q E s := by
  have h0 : (t == 0 || u == 0) = false := by simp [ht, hu]
  show wpAny M A (isSame.created (x == x && !Float64.isNaN x) t u) Q E s
  unfold isSame.created
  refine wpAny_ite ?_
  split
  · rename_i h; rw [h0] at h; exact absurd h Bool.false_ne_true
  refine wpAny_ite ?_
  split
  · exact wpAny_pure (hq _)
  refine wpAny_ite ?_
  split
  · exact wpAny_pure (hq _)
  refine wpAny_bind (told_not X e k ?_)
  first | rw [if_neg Bool.false_ne_true] | simp only [Bool.false_eq_true, if_false]
  refine wpAny_bind (told_not X e k ?_)
  first | rw [if_neg Bool.false_ne_true] | simp only [Bool.false_eq_true, if_false]
  exact wpAny_bind (wpAny_rule (wpAny_bind (wpAny_askSetting (wpAny_pure (hq _)))))
theorem eq_ff {x : UInt64} {t u : Tok} (X : K.In h) (e : nsIn K cStatics sharingNotToldKey = some none) (k : ∀ b o, h.get? b = some o → s.heap.get? b = some o) (hc : (Float64.cmp x x == some Ordering.eq) = true) (ht : t ≠ 0) (hu : u ≠ 0) :
    SeqAt.EqAt A s (.float x t) (.float x u) true := fun prog w E Q hQ => by
  unfold eqBool
  refine wpAny_holding ?_
  refine wpAny_ite_split (fun _ => wpAny_bind (wpAny_rule (wpAny_pure hQ))) (fun hab => ?_)
  refine wpAny_bind (same_ff X e k ht hu fun b => ?_)
  cases b with
  | true => exact wpAny_pure hQ
  | false =>
    refine wpAny_bind (AutoFloatOps.eq_0 ?_)
    rw [hc]
    exact wpAny_truthy_bool hQ
theorem ne_t3 {a b : Addr} {x y z : UInt64} {n1 n2 n3 m1 m2 m3 : Tok} {Q : Value → Shared → Prop} {h₀ : Heap} {L : Addr} {news : Led} (X : K.In h) (e : nsIn K cStatics sharingNotToldKey = some none) (k : ∀ b o, h.get? b = some o → s.heap.get? b = some o) (N : News h₀ L s.heap news)
    (ha : (a, tupO [.float x n1, .float y n2, .float z n3]) ∈ news) (hb : (b, tupO [.float x m1, .float y m2, .float z m3]) ∈ news) (hu : A.units < cLine)
    (hx : (Float64.cmp x x == some Ordering.eq) = true) (hy : (Float64.cmp y y == some Ordering.eq) = true) (hz : (Float64.cmp z z == some Ordering.eq) = true)
    (hn1 : n1 ≠ 0) (hn2 : n2 ≠ 0) (hn3 : n3 ≠ 0) (hm1 : m1 ≠ 0) (hm2 : m2 ≠ 0) (hm3 : m3 ≠ 0) (hQ : Q (.bool false) s) : wpAny (model prog w) A (compareOp .NotEq (.ref a) (.ref b)) Q E s := by
  have ta : s.heap.IsTuple a [Value.float x n1, .float y n2, .float z n3].toArray := ⟨_, (N _ ha).1, rfl, 0, rfl⟩
  have tb : s.heap.IsTuple b [Value.float x m1, .float y m2, .float z m3].toArray := ⟨_, (N _ hb).1, rfl, 0, rfl⟩
  refine PySem.EqBoolInt.of_rcne (SeqAt.RcNeAt.tuples (e := fun _ => true) ta tb hu ?_) ?_
  · intro j h1 h2
    have hj : j < 3 := h1
    match j, hj with
    | 0, _ => exact eq_ff X e k hx hn1 hm1
    | 1, _ => exact eq_ff X e k hy hn2 hm2
    | 2, _ => exact eq_ff X e k hz hn3 hm3
  · exact hQ
end
theorem cmp_q {x : UInt64} (h : Quarter x) : (Float64.cmp x x == some Ordering.eq) = true := by
  have : (quarters.all fun x => Float64.cmp x x == some Ordering.eq) = true := by decide +kernel
  exact List.all_eq_true.mp this x h.mem
theorem cmp_h {k : Int} (h0 : 0 ≤ k) (h1 : k < 16) : (Float64.cmp (h16 k) (h16 k) == some Ordering.eq) = true := by
  obtain ⟨k, rfl⟩ := Int.eq_ofNat_of_zero_le h0
  have : ((List.range 16).all fun k => Float64.cmp (h16 (k : Int)) (h16 (k : Int)) == some Ordering.eq) = true := by decide +kernel
  exact List.all_eq_true.mp this k (List.mem_range.mpr (by omega))
theorem rng_pl {pl : Int} (h0 : 0 ≤ pl) (h1 : pl < 16) : Builtin.Range.small 1 (pl + 1) 1 = true ∧ Builtin.Range.rangeSize 1 (pl + 1) 1 = ((pl.toNat : Nat) : Int) := by
  obtain ⟨k, rfl⟩ := Int.eq_ofNat_of_zero_le h0
  have h : ∀ k ∈ List.range 16, Builtin.Range.small 1 ((k : Nat) + 1 : Int) 1 = true ∧ Builtin.Range.rangeSize 1 ((k : Nat) + 1 : Int) 1 = (((k : Int).toNat : Nat) : Int) := by decide +kernel
  exact h k (List.mem_range.mpr (by omega))
noncomputable abbrev colM (u m₀ : Str → Option Value) (q : Addr) : Str → Option Value := fun y => if y = Str.ofString "colour" then some (Value.ref q) else if ([Str.ofString "number", Str.ofString "crease", Str.ofString "hue", Str.ofString "depth", Str.ofString "light"]).contains y = true then u y else m₀ y
noncomputable def ColI (I : Addr) (m₀ : Str → Option Value) (own : Led) (st : Int) (cs : List Int) (sh va : UInt64) (i : Nat) (m : Str → Option Value) (nx : Led) : Prop :=
  ∃ (u : Str → Option Value) (q : Addr) (j : Int) (n1 n2 n3 : Tok), m = colM u m₀ q ∧ nx = (q, t3O (hsvS (h16 j) sh va) n1 n2 n3) :: own ∧ (∀ p ∈ own, @Ne Nat p.1 q) ∧ @Ne Nat q I ∧ 0 ≤ j ∧ j < 34 ∧ j % 16 = (st + (cs.take i).sum) % 16 ∧ n1 ≠ 0 ∧ n2 ≠ 0 ∧ n3 ≠ 0
theorem colM_self {m : Str → Option Value} {q : Addr} (h : m (Str.ofString "colour") = some (.ref q)) : m = colM m m q := by
  funext y
  show m y = if y = _ then _ else _
  split
  · rename_i e; rw [e, h]
  · split <;> rfl
section
variable {prog : Program} {w : World} {A : Around} {E : Value → Shared → Prop} {s : Shared} {env : Env} {h₀ : Heap} {x : Str} {body : List Stmt} {Q : Flow → Shared → Prop}
theorem unrPost_mono {L I : Addr} {s₁ : Shared} {it : Obj} {r r' : (Str → Option Value) → Led → Prop} (h : ∀ m n, r m n → r' m n) {f : Flow} {s₂ : Shared} (p : UnrPost h₀ L s₁ I it r Q f s₂) : UnrPost h₀ L s₁ I it r' Q f s₂ := by
  have hE : UnrEnd h₀ L s₁ I it r s₂ → UnrEnd h₀ L s₁ I it r' s₂ := fun ⟨h', tk, m', n', e, F, N, o, q⟩ => ⟨h', tk, m', n', e, F, N, o, h _ _ q⟩
  cases f with
  | ret v => exact p
  | brk => exact p
  | next => exact hE p
  | cont => exact hE p
theorem rr_inv {I : Addr} {a : Int} {n : Nat} (INV : Nat → (Str → Option Value) → Led → Prop)
    (turn : ∀ i m news t h tk, i < n → INV i m news → Fr h₀ env.locals h (fun y => if y = x then some (.int (a + (i : Int)) t) else m y) →
      News h₀ env.locals h ((I, itR (a + ((i + 1 : Nat) : Int)) ((n : Int) - ((i + 1 : Nat) : Int))) :: news) →
      wpAny (model prog w) A (execs body env) (UnrPost h₀ env.locals { s with heap := h, toks := tk } I (itR (a + ((i + 1 : Nat) : Int)) ((n : Int) - ((i + 1 : Nat) : Int))) (INV (i + 1)) Q) E { s with heap := h, toks := tk })
    (done : ∀ m news h tk, INV n m news → Fr h₀ env.locals h m → News h₀ env.locals h news → Q .next { s with heap := h, toks := tk }) :
    ∀ (k i : Nat) (m : Str → Option Value) (news : Led), i + k = n → INV i m news → RangeRest prog w A E h₀ env x body Q s I a n k i m news := by
  intro k
  induction k with
  | zero =>
    intro i m news e hi
    have : i = n := by omega
    subst this
    exact RangeRest.zero fun h tk F N => done m news h tk hi F N
  | succ k ih =>
    intro i m news e hi
    refine RangeRest.succ fun t h tk F N => ?_
    exact wpAny_mono (turn i m news t h tk (by omega) hi F N) (fun f s₂ p => unrPost_mono (fun m' n' q => ih (i + 1) m' n' (by omega) q) p) fun _ _ e => e
theorem colour_loop {r : Addr} {pl : Int} {t₀ u₀ v₀ : Tok} {m₀ : Str → Option Value} {news own : Led} {q : Addr} {st : Int} {sh va : UInt64} {n1 n2 n3 : Tok} {cs : List Int} {vs9 : List Value} (_hI : IntsAre vs9 cs)
    (hh : A.handled = none) (hp0 : 0 ≤ pl) (hp1 : pl < 16) (hr : IsRange s.heap r 1 (pl + 1) 1 t₀ u₀ v₀) (F : Fr h₀ env.locals s.heap m₀) (N : News h₀ env.locals s.heap news)
    (hs0 : 0 ≤ st) (hs1 : st < 16) (hq : (q, t3O (hsvS (h16 st) sh va) n1 n2 n3) ∈ news) (hown : ∀ p ∈ own, p ∈ news) (hm : m₀ (Str.ofString "colour") = some (.ref q)) (hne : ∀ p ∈ own, @Ne Nat p.1 q) (hn1 : n1 ≠ 0) (hn2 : n2 ≠ 0) (hn3 : n3 ≠ 0)
    (turn : ∀ (I : Addr) (i : Nat) (u : Str → Option Value) (q : Addr) (j : Int) (n1 n2 n3 t : Tok) (h : Heap) (tk : Nat), (∀ p ∈ own, @LT.lt Nat _ p.1 I) → (i : Int) < pl → 0 ≤ j → j < 34 → j % 16 = (st + (cs.take i).sum) % 16 → n1 ≠ 0 → n2 ≠ 0 → n3 ≠ 0 → (∀ p ∈ own, @Ne Nat p.1 q) → @Ne Nat q I →
      Fr h₀ env.locals h (fun y => if y = x then some (.int (1 + (i : Int)) t) else colM u m₀ q y) → News h₀ env.locals h ((I, itR (1 + ((i + 1 : Nat) : Int)) (((pl.toNat : Nat) : Int) - ((i + 1 : Nat) : Int))) :: (q, t3O (hsvS (h16 j) sh va) n1 n2 n3) :: own) →
      wpAny (model prog w) A (execs body env) (UnrPost h₀ env.locals { s with heap := h, toks := tk } I (itR (1 + ((i + 1 : Nat) : Int)) (((pl.toNat : Nat) : Int) - ((i + 1 : Nat) : Int))) (ColI I m₀ own st cs sh va (i + 1)) Q) E { s with heap := h, toks := tk })
    (done : ∀ (u : Str → Option Value) (q : Addr) (j : Int) (n1 n2 n3 : Tok) (h : Heap) (tk : Nat), 0 ≤ j → j < 34 → j % 16 = (st + (cs.take pl.toNat).sum) % 16 → n1 ≠ 0 → n2 ≠ 0 → n3 ≠ 0 → (∀ p ∈ own, @Ne Nat p.1 q) → Fr h₀ env.locals h (colM u m₀ q) → News h₀ env.locals h ((q, t3O (hsvS (h16 j) sh va) n1 n2 n3) :: own) → Q .next { s with heap := h, toks := tk }) :
    wpAny (model prog w) A (pyIter (.ref r)) (fun it s₂ => LoopAtV prog w A h₀ env x body Q E it s₂) E s := by
  have N₁ : News h₀ env.locals s.heap ((q, t3O (hsvS (h16 st) sh va) n1 n2 n3) :: own) := fun p hp => by
    rcases List.mem_cons.mp hp with rfl | hp
    · exact N _ hq
    · exact N _ (hown p hp)
  refine iter_rangeUnr (n := pl.toNat) hh hr ?_ ?_ F N₁ fun I l => ?_
  · exact (rng_pl hp0 hp1).1
  · exact (rng_pl hp0 hp1).2
  refine rr_inv (ColI I m₀ own st cs sh va) ?_ ?_ pl.toNat 0 m₀ _ (by omega) ⟨m₀, q, st, n1, n2, n3, colM_self hm, rfl, hne, Nat.ne_of_lt (l _ (.head _)), hs0, by omega, by simp, hn1, hn2, hn3⟩
  · rintro i m news t h tk hi ⟨u, q, j, n1, n2, n3, rfl, rfl, hne, hqI, h0, h1, hj, k1, k2, k3⟩ F N
    exact turn I i u q j n1 n2 n3 t h tk (fun p hp => l p (.tail _ hp)) (by omega) h0 h1 hj k1 k2 k3 hne hqI F N
  · rintro m news h tk ⟨u, q, j, n1, n2, n3, rfl, rfl, hne, hqI, h0, h1, hj, k1, k2, k3⟩ F N
    exact done u q j n1 n2 n3 h tk h0 h1 hj k1 k2 k3 hne F N
theorem colour_end {L I q : Addr} {m₀ m' : Str → Option Value} {own all : Led} {st : Int} {cs : List Int} {sh va : UInt64} {i : Nat} {it : Obj} {s₁ : Shared} {h' : Heap} {tk : Nat} {n1 n2 n3 : Tok} {c : T3} (j : Int)
    (F : Fr h₀ L h' m') (N : News h₀ L h' all) (hq : (q, t3O c n1 n2 n3) ∈ all) (hI : (I, it) ∈ all) (hown : ∀ p ∈ own, p ∈ all) (offI : ∀ p ∈ own, @Ne Nat p.1 I) (hqI : @Ne Nat q I) (hne : ∀ p ∈ own, @Ne Nat p.1 q)
    (hm : m' (Str.ofString "colour") = some (.ref q)) (hm2 : ∀ z, z ≠ Str.ofString "colour" → z ≠ Str.ofString "number" → z ≠ Str.ofString "crease" → z ≠ Str.ofString "hue" → z ≠ Str.ofString "depth" → z ≠ Str.ofString "light" → m' z = m₀ z)
    (hc : c = hsvS (h16 j) sh va) (h0 : 0 ≤ j) (h1 : j < 34) (hj : j % 16 = (st + (cs.take (i + 1)).sum) % 16) (hn : n1 ≠ 0 ∧ n2 ≠ 0 ∧ n3 ≠ 0) : UnrEnd h₀ L s₁ I it (ColI I m₀ own st cs sh va (i + 1)) { s₁ with heap := h', toks := tk } := by
  subst hc
  refine UnrEnd.intro F N ((q, t3O (hsvS (h16 j) sh va) n1 n2 n3) :: own) ?_ ?_ ⟨m', q, j, n1, n2, n3, ?_, rfl, hne, hqI, h0, h1, hj, hn⟩
  · intro p hp
    rcases List.mem_cons.mp hp with rfl | hp
    · exact hI
    · rcases List.mem_cons.mp hp with rfl | hp
      · exact hq
      · exact hown p hp
  · intro p hp
    rcases List.mem_cons.mp hp with rfl | hp
    · exact hqI
    · exact offI p hp
  · funext y
    show m' y = if y = _ then _ else _
    split
    · rename_i e; rw [e, hm]
    · rename_i e
      split
      · rfl
      · rename_i e2
        simp only [List.contains_cons, List.contains_nil, Bool.or_false, Bool.or_eq_true, beq_iff_eq, not_or] at e2
        exact hm2 y e e2.1 e2.2.1 e2.2.2.1 e2.2.2.2.1 e2.2.2.2.2
end
theorem mem_skip3 {q c d1 d2 d3 : Addr × Obj} {r : Led} : ∀ p ∈ c :: r, p ∈ q :: c :: d1 :: d2 :: d3 :: r := fun p hp => by
  rcases List.mem_cons.mp hp with rfl | hp
  · exact .tail _ (.head _)
  · exact .tail _ (.tail _ (.tail _ (.tail _ (.tail _ hp))))
noncomputable abbrev RetC (cs : List Int) (i : Nat) : RetK := fun h₀ L m news s Q => ∀ (c : Int) (t : Tok) (h' : Heap) (tk' : Nat), c = cs.getD i 0 → -2 ≤ c → c ≤ 2 → Fr h₀ L h' m → News h₀ L h' news → Q (.int c t) { s with heap := h', toks := tk' }
theorem told_mono {w : World} {mean : ExcName → Option Value} {mg mb : Str → Option Value} {f : Addr} {vs : List Value} {d u : Nat} {pre : Led → Prop} {Ret Ret' : RetK} (C : Told w mean mg mb f vs d u pre Ret) (h : ∀ h₀ L m news s Q, Ret' h₀ L m news s Q → Ret h₀ L m news s Q) : Told w mean mg mb f vs d u pre Ret' := by
  intro dp un gd cn cs a ccd cl outer A₀ base h₀ L m news s Q E B F X N T hk hR hd hu hret
  exact C dp un gd cn cs a ccd cl outer A₀ base h₀ L m news s Q E B F X N T hk hR hd hu (h _ _ _ _ _ _ hret)
theorem crease_bd {n a b c d : Int} (ha : -2 ≤ a ∧ a ≤ 2) (hb : -2 ≤ b ∧ b ≤ 2) (hc : -2 ≤ c ∧ c ≤ 2) (hd : -2 ≤ d ∧ d ≤ 2) : -2 ≤ creaseS n [a, b, c, d] ∧ creaseS n [a, b, c, d] ≤ 2 := by
  unfold creaseS creaseS creaseS creaseS creaseS
  repeat' split
  all_goals omega
theorem crease_told2 (w : World) (mean : ExcName → Option Value) (mg mb : Str → Option Value) (i : Nat) (pl : Int) (e : List Nat) (l : Addr) (a0 a1 a2 a3 : Int) (u0 u1 u2 u3 t1 t2 : Tok) (z : Nat) (hi : (i : Int) < pl) (hp : pl < 16) (he : parseL e = []) (hl : e.length ≤ 10)
    (ha : -2 ≤ a0 ∧ a0 ≤ 2) (hb : -2 ≤ a1 ∧ a1 ≤ 2) (hc : -2 ≤ a2 ∧ a2 ≤ 2) (hd : -2 ≤ a3 ∧ a3 ≤ 2) :
    Told w mean mg mb 93 [.int (1 + (i : Int)) t1, .ref l, .str (S e) t2] 3 3 (fun news => HasL news l [Value.int a0 u0, .int a1 u1, .int a2 u2, .int a3 u3] z) (RetC (foldS a0 a1 a2 a3) i) :=
  told_mono (crease_told w mean mg mb (1 + (i : Int)) e l a0 a1 a2 a3 u0 u1 u2 u3 t1 t2 z (by omega) (by omega) he hl) fun h₀ L m news s Q h t h' tk' F N =>
    h _ t h' tk' (by rw [crease_at (by omega) (by omega)]; congr 1; omega) (crease_bd ha hb hc hd).1 (crease_bd ha hb hc hd).2 F N
theorem rgb_uneq {r g b : UInt64} {h sh va : UInt64} (e : rgbS r g b = (h, sh, va)) (hs : Quarter sh) : (Float64.cmp (fmin (fmin r g) b) (fmax (fmax r g) b) == some Ordering.eq) = false := by
  cases c : (Float64.cmp (fmin (fmin r g) b) (fmax (fmax r g) b) == some Ordering.eq) with
  | false => rfl
  | true =>
    have h1 := rgbS_e c
    rw [e] at h1
    have h2 : sh = 0 := (congrArg (fun x : T3 => x.2.1) h1).symm
    have h3 := hs.mem
    rw [h2] at h3
    exact absurd h3 (by decide)
theorem rgb_told2 (w : World) (mean : ExcName → Option Value) (mg mb : Str → Option Value) (j : Int) (sh va : UInt64) (t1 t2 t3 : Tok) (h0 : 0 ≤ j) (h1 : j < 34) (hs : Quarter sh) (hv : Quarter va) (k1 : t1 ≠ 0) (k2 : t2 ≠ 0) (k3 : t3 ≠ 0) :
    Told w mean mg mb 35 [.float (hsvS (h16 j) sh va).1 t1, .float (hsvS (h16 j) sh va).2.1 t2, .float (hsvS (h16 j) sh va).2.2 t3] 1 1 (fun _ => True) (RetT3n (h16 (j % 16), sh, va) True) := by
  have e := (col_use h0 h1 hs hv).2
  have u := rgb_uneq e hs
  have h := rgb_toldn w mean mg mb _ _ _ t1 t2 t3 (col_use h0 h1 hs hv).1
  rw [e] at h
  exact told_mono h fun h₀ L m news s Q hr q n1 n2 n3 h' tk' hn F N lt => hr q n1 n2 n3 h' tk' (fun _ => hn ⟨u, k1, k2, k3⟩) F N lt
theorem hsv_told2 (w : World) (mean : ExcName → Option Value) (mg mb : Str → Option Value) (j : Int) (s v : UInt64) (th ts tv : Tok) (h0 : 0 ≤ j) (h1 : j < 34) (k3 : tv ≠ 0) :
    Told w mean mg mb 42 [.float (h16 j) th, .float s ts, .float v tv] 1 1 (fun _ => True) (RetT3n (hsvS (h16 j) s v) True) :=
  told_mono (hsv_toldn w mean mg mb (h16 j) s v th ts tv (hue_fin h0 h1).1 (hue_fin h0 h1).2) fun h₀ L m news s Q hr q n1 n2 n3 h' tk' hn F N lt => hr q n1 n2 n3 h' tk' (fun _ => hn k3) F N lt
theorem take_sum (cs : List Int) : ∀ i : Nat, (cs.take (i + 1)).sum = (cs.take i).sum + cs.getD i 0 := by
  induction cs with
  | nil => intro i; simp
  | cons a r ih =>
    intro i
    cases i with
    | zero => simp
    | succ i => simp [ih i]; omega
section
variable {prog : Program} {w : World} {A : Around} {E : Value → Shared → Prop} {s : Shared} {t u : Tok} {Q : Value → Shared → Prop} {value slice : Expr} {h₀ : Heap} {L D : Addr} {news : Led}
theorem add_one {k : Int} (h0 : 0 ≤ k) (h1 : k < 16) (h : Q (.float (h16 (k + 16)) s.toks) { s with toks := s.toks + 1 }) : wpAny (model prog w) A (binaryOp .Add (.float (h16 k) t) (.int 1 u)) Q E s :=
  add_fi_fits (by decide +kernel) (by rw [hue_one h0 h1]; exact h)
theorem add_cr {k c : Int} (h0 : 0 ≤ k) (h1 : k < 16) (c0 : -2 ≤ c) (c1 : c ≤ 2) (h : Q (.float (h16 (k + 16 + c)) s.toks) { s with toks := s.toks + 1 }) : wpAny (model prog w) A (binaryOp .Add (.float (h16 (k + 16)) t) (.float (h16 c) u)) Q E s :=
  add_float (by rw [hue_add h0 h1 c0 c1]; exact h)
theorem ne_same {a b : Int} (e : a = b) (h : Q (.bool false) s) : wpAny (model prog w) A (compareOp .NotEq (.int a t) (.int b u)) Q E s := ne_int (by subst e; simpa using h)
theorem at_cs {cs : List Int} {vs : List Value} {n i : Nat} (N : News h₀ L s.heap news) (hm : (D, listOf vs.toArray n) ∈ news) (hi : IntsAre vs cs) (hl : i < cs.length) (hz : cs.length ≤ 1000) (h : ∀ t, Q (.int (cs.getD i 0) t) s)
    (hs : subscripted slice false (.ref D) (.int (1 + (i : Int) - 1) u) = operate [.ref D, .int (1 + (i : Int) - 1) u] (getItem (.ref D) (.int (1 + (i : Int) - 1) u)) := by with_unfolding_all rfl) :
    wpAny (model prog w) A (subscriptTail value slice (.ref D) (.int (1 + (i : Int) - 1) u)) Q E s := by
  have e : (1 + (i : Int) - 1).toNat = i := by omega
  refine ksa_sub N hm hi (by omega) (by omega) (by omega) (fun t => ?_) hs
  rw [e]
  exact h t
end
noncomputable def hf (n : Int) : Nat → Int
  | 0 => n
  | i + 1 => hf n i / 2
noncomputable def evL (n : Int) : Nat → List Value
  | 0 => []
  | i + 1 => evL n i ++ [Value.bool (decide (hf n i % 2 = 0))]
theorem evL_len (n : Int) : ∀ i, (evL n i).length = i
  | 0 => rfl
  | i + 1 => by
    show (evL n i ++ [_]).length = i + 1
    simp [evL_len n i]
theorem evL_fits (n : Int) {i : Nat} (h : i < 5) : (evL n i).toArray.size ≤ sizeLine := by
  have e : (evL n i).toArray.size = i := by simp [evL_len]
  rw [e]; exact Nat.le_trans (Nat.le_of_lt h) (Nat.le_of_ble_eq_true rfl)
theorem hf_bd {n : Int} (h0 : 0 ≤ n) (h1 : n < 16) : ∀ i, 0 ≤ hf n i ∧ hf n i < 16
  | 0 => ⟨h0, h1⟩
  | i + 1 => by
    have h := hf_bd h0 h1 i
    show 0 ≤ hf n i / 2 ∧ hf n i / 2 < 16
    omega
noncomputable abbrev evM (u m₀ : Str → Option Value) (v : Int) (t : Tok) : Str → Option Value := fun y => if y = Str.ofString "left" then some (Value.int v t) else if ([Str.ofString "k", Str.ofString "even"]).contains y = true then u y else m₀ y
noncomputable def EvI (l : Addr) (m₀ : Str → Option Value) (own : Led) (n : Int) (i : Nat) (m : Str → Option Value) (nx : Led) : Prop :=
  ∃ (u : Str → Option Value) (t : Tok) (z : Nat), m = evM u m₀ (hf n i) t ∧ nx = (l, listOf (evL n i).toArray z) :: own
theorem evM_self {m : Str → Option Value} {v : Int} {t : Tok} (h : m (Str.ofString "left") = some (.int v t)) : m = evM m m v t := by
  funext y
  show m y = if y = _ then _ else _
  split
  · rename_i e; rw [e, h]
  · split <;> rfl
section
variable {prog : Program} {w : World} {A : Around} {E : Value → Shared → Prop} {s : Shared} {env : Env} {h₀ : Heap} {x : Str} {body : List Stmt} {Q : Flow → Shared → Prop}
theorem evens_loop {r l : Addr} {n : Int} {t t₀ u₀ v₀ : Tok} {m₀ : Str → Option Value} {news own : Led} {z₀ : Nat} {arr : Array Value} (harr : arr = #[])
    (hh : A.handled = none) (hn0 : 0 ≤ n) (hn1 : n < 16) (hr : IsRange s.heap r 0 5 1 t₀ u₀ v₀) (F : Fr h₀ env.locals s.heap m₀) (N : News h₀ env.locals s.heap news)
    (hl : (l, listOf arr z₀) ∈ news) (hown : ∀ p ∈ own, p ∈ news) (hm : m₀ (Str.ofString "left") = some (.int n t))
    (turn : ∀ (I : Addr) (i : Nat) (u : Str → Option Value) (v : Int) (vs : List Value) (z : Nat) (t t' : Tok) (h : Heap) (tk : Nat), @LT.lt Nat _ l I → (∀ p ∈ own, @LT.lt Nat _ p.1 I) → v = hf n i → vs = evL n i → 0 ≤ v → v < 16 → vs.toArray.size ≤ sizeLine →
      Fr h₀ env.locals h (fun y => if y = x then some (.int (0 + (i : Int)) t') else evM u m₀ v t y) → News h₀ env.locals h ((I, itR (0 + ((i + 1 : Nat) : Int)) (((5 : Nat) : Int) - ((i + 1 : Nat) : Int))) :: (l, listOf vs.toArray z) :: own) →
      wpAny (model prog w) A (execs body env) (UnrPost h₀ env.locals { s with heap := h, toks := tk } I (itR (0 + ((i + 1 : Nat) : Int)) (((5 : Nat) : Int) - ((i + 1 : Nat) : Int))) (EvI l m₀ own n (i + 1)) Q) E { s with heap := h, toks := tk })
    (done : ∀ (u : Str → Option Value) (t : Tok) (z : Nat) (h : Heap) (tk : Nat), Fr h₀ env.locals h (evM u m₀ (n / 2 / 2 / 2 / 2 / 2) t) →
      News h₀ env.locals h ((l, listOf [Value.bool (decide (n % 2 = 0)), .bool (decide (n / 2 % 2 = 0)), .bool (decide (n / 2 / 2 % 2 = 0)), .bool (decide (n / 2 / 2 / 2 % 2 = 0)), .bool (decide (n / 2 / 2 / 2 / 2 % 2 = 0))].toArray z) :: own) → Q .next { s with heap := h, toks := tk }) :
    wpAny (model prog w) A (pyIter (.ref r)) (fun it s₂ => LoopAtV prog w A h₀ env x body Q E it s₂) E s := by
  subst harr
  have N₁ : News h₀ env.locals s.heap ((l, listOf (evL n 0).toArray z₀) :: own) := fun p hp => by
    rcases List.mem_cons.mp hp with rfl | hp
    · exact N _ hl
    · exact N _ (hown p hp)
  refine iter_rangeUnr (n := 5) hh hr (by decide) (by decide) F N₁ fun I lt => ?_
  refine rr_inv (EvI l m₀ own n) ?_ ?_ 5 0 m₀ _ (by omega) ⟨m₀, t, z₀, evM_self hm, rfl⟩
  · rintro i m news t' h tk hi ⟨u, t, z, rfl, rfl⟩ F N
    exact turn I i u _ _ z t t' h tk (lt _ (.head _)) (fun p hp => lt p (.tail _ hp)) rfl rfl (hf_bd hn0 hn1 i).1 (hf_bd hn0 hn1 i).2 (evL_fits n hi) F N
  · rintro m news h tk ⟨u, t, z, rfl, rfl⟩ F N
    exact done u t z h tk F N
theorem evens_end {L I l : Addr} {m₀ m' : Str → Option Value} {own all : Led} {n v : Int} {i : Nat} {it : Obj} {s₁ : Shared} {h' : Heap} {tk : Nat} {t : Tok} {vs : List Value} {arr : Array Value} {z : Nat}
    (F : Fr h₀ L h' m') (N : News h₀ L h' all) (hl : (l, listOf arr z) ∈ all) (hI : (I, it) ∈ all) (hown : ∀ p ∈ own, p ∈ all) (offI : ∀ p ∈ own, @Ne Nat p.1 I) (hlI : @Ne Nat l I)
    (hv : v = hf n i) (hvs : vs = evL n i) (harr : arr = vs.toArray.push (.bool (decide (v % 2 = 0))))
    (hm : m' (Str.ofString "left") = some (.int (v / 2) t)) (hm2 : ∀ y, y ≠ Str.ofString "left" → y ≠ Str.ofString "k" → y ≠ Str.ofString "even" → m' y = m₀ y) :
    UnrEnd h₀ L s₁ I it (EvI l m₀ own n (i + 1)) { s₁ with heap := h', toks := tk } := by
  subst hv hvs harr
  refine UnrEnd.intro F N ((l, listOf (evL n (i + 1)).toArray z) :: own) ?_ ?_ ⟨m', t, z, ?_, rfl⟩
  · intro p hp
    rcases List.mem_cons.mp hp with rfl | hp
    · exact hI
    · rcases List.mem_cons.mp hp with rfl | hp
      · have e : (evL n (i + 1)).toArray = (evL n i).toArray.push (.bool (decide (hf n i % 2 = 0))) := by
          show (evL n i ++ [_]).toArray = _
          simp
        rw [e]; exact hl
      · exact hown p hp
  · intro p hp
    rcases List.mem_cons.mp hp with rfl | hp
    · exact hlI
    · exact offI p hp
  · funext y
    show m' y = if y = _ then _ else _
    split
    · rename_i e; rw [e, hm]; rfl
    · rename_i e
      split
      · rfl
      · rename_i e2
        simp only [List.contains_cons, List.contains_nil, Bool.or_false, Bool.or_eq_true, beq_iff_eq, not_or] at e2
        exact hm2 y e e2.1 e2.2
end
/-- the cost of putting one sign in place of another, by their codes -/
noncomputable def cstN (x y : Nat) : Int := if x = y then 0 else if x + 1 = y ∨ x = y + 1 then 1 else 2
noncomputable abbrev PL := List (Nat × Nat)
noncomputable def fsts (P : PL) : List Nat := P.map (·.1)
noncomputable def snds (P : PL) : List Nat := P.map (·.2)
/-- the codes tell the same costs -/
noncomputable def Good (P Q : PL) : Prop := ∀ p ∈ P, ∀ q ∈ Q, subC p.1 q.1 = cstN p.2 q.2
theorem subC_eq0 {x y : Nat} : subC x y = 0 ↔ x = y := by
  unfold subC
  by_cases h : x = y
  · subst h; simp
  · have : ([x] == [y]) = false := by simpa using h
    rw [this]; simp [h]; split <;> simp
theorem cstN_eq0 {x y : Nat} : cstN x y = 0 ↔ x = y := by
  unfold cstN
  by_cases h : x = y
  · subst h; simp
  · rw [if_neg h]; simp [h]; split <;> simp
theorem subC_comm (x y : Nat) : subC x y = subC y x := by
  unfold subC
  have e1 : ([x] == [y]) = ([y] == [x]) := Bool.eq_iff_iff.mpr ⟨fun h => by rw [beq_iff_eq] at h ⊢; exact h.symm, fun h => by rw [beq_iff_eq] at h ⊢; exact h.symm⟩
  have e2 : (Txt.lower (S [x]) == Txt.lower (S [y])) = (Txt.lower (S [y]) == Txt.lower (S [x])) := Bool.eq_iff_iff.mpr ⟨fun h => by rw [beq_iff_eq] at h ⊢; exact h.symm, fun h => by rw [beq_iff_eq] at h ⊢; exact h.symm⟩
  rw [e1, e2]
theorem cstN_comm (x y : Nat) : cstN x y = cstN y x := by
  unfold cstN
  by_cases h : x = y
  · subst h; rfl
  · rw [if_neg h, if_neg (Ne.symm h)]
    have : (x + 1 = y ∨ x = y + 1) ↔ (y + 1 = x ∨ y = x + 1) := by omega
    simp only [this]
theorem Good.symm {P Q : PL} (h : Good P Q) : Good Q P := fun p hp q hq => by rw [subC_comm, cstN_comm]; exact h q hq p hp
theorem Good.mono {P Q P' Q' : PL} (h : Good P Q) (hp : ∀ x ∈ P', x ∈ P) (hq : ∀ x ∈ Q', x ∈ Q) : Good P' Q' := fun p hp' q hq' => h p (hp p hp') q (hq q hq')
theorem Good.iff {P Q : PL} (h : Good P Q) {p q : Nat × Nat} (hp : p ∈ P) (hq : q ∈ Q) : p.1 = q.1 ↔ p.2 = q.2 := by
  rw [← subC_eq0, ← cstN_eq0, h p hp q hq]
theorem preK_good : ∀ (P Q : PL), Good P Q → preK (fsts P) (fsts Q) = preK (snds P) (snds Q)
  | [], _, _ => by simp [fsts, snds, preK]
  | _ :: _, [], _ => by simp [fsts, snds, preK]
  | p :: P, q :: Q, h => by
    have e := preK_good P Q (h.mono (fun x hx => .tail _ hx) (fun x hx => .tail _ hx))
    have i := h.iff (.head _) (.head _)
    show (if p.1 = q.1 then preK (fsts P) (fsts Q) + 1 else 0) = (if p.2 = q.2 then preK (snds P) (snds Q) + 1 else 0)
    rw [e]; simp only [i]
theorem Good.rev {P Q : PL} (h : Good P Q) : Good P.reverse Q.reverse := h.mono (fun x hx => List.mem_reverse.mp hx) (fun x hx => List.mem_reverse.mp hx)
theorem sufK_good {P Q : PL} (h : Good P Q) : sufK (fsts P) (fsts Q) = sufK (snds P) (snds Q) := by
  unfold sufK
  have := preK_good P.reverse Q.reverse h.rev
  simpa [fsts, snds, List.map_reverse] using this
/-- the strips on the pairs -/
noncomputable def p1 (P Q : PL) : PL := P.drop (preK (snds P) (snds Q))
noncomputable def p1' (P Q : PL) : PL := Q.drop (preK (snds P) (snds Q))
theorem p1_good {P Q : PL} (h : Good P Q) : Good (p1 P Q) (p1' P Q) := h.mono (fun x hx => List.mem_of_mem_drop hx) (fun x hx => List.mem_of_mem_drop hx)
theorem lev1_good {P Q : PL} (h : Good P Q) : lev1 (fsts P) (fsts Q) = fsts (p1 P Q) ∧ lev1' (fsts P) (fsts Q) = fsts (p1' P Q) := by
  unfold lev1 lev1' p1 p1'
  rw [preK_good P Q h]
  simp [fsts, List.map_drop]
theorem lev1_snd {P Q : PL} : lev1 (snds P) (snds Q) = snds (p1 P Q) ∧ lev1' (snds P) (snds Q) = snds (p1' P Q) := by
  unfold lev1 lev1' p1 p1'
  simp [snds, List.map_drop]
noncomputable def p2 (P Q : PL) : PL := (p1 P Q).take ((p1 P Q).length - sufK (snds (p1 P Q)) (snds (p1' P Q)))
noncomputable def p2' (P Q : PL) : PL := (p1' P Q).take ((p1' P Q).length - sufK (snds (p1 P Q)) (snds (p1' P Q)))
theorem p2_good {P Q : PL} (h : Good P Q) : Good (p2 P Q) (p2' P Q) := (p1_good h).mono (fun x hx => List.mem_of_mem_take hx) (fun x hx => List.mem_of_mem_take hx)
theorem fsts_len (P : PL) : (fsts P).length = P.length := by simp [fsts]
theorem snds_len (P : PL) : (snds P).length = P.length := by simp [snds]
theorem lev2_good {P Q : PL} (h : Good P Q) : lev2 (fsts P) (fsts Q) = fsts (p2 P Q) ∧ lev2' (fsts P) (fsts Q) = fsts (p2' P Q) := by
  unfold lev2 lev2' p2 p2'
  rw [(lev1_good h).1, (lev1_good h).2, sufK_good (p1_good h), fsts_len, fsts_len]
  simp [fsts, List.map_take]
theorem lev2_snd {P Q : PL} : lev2 (snds P) (snds Q) = snds (p2 P Q) ∧ lev2' (snds P) (snds Q) = snds (p2' P Q) := by
  unfold lev2 lev2' p2 p2'
  rw [lev1_snd.1, lev1_snd.2, snds_len, snds_len]
  simp [snds, List.map_take]
/-- the table's rows by codes -/
noncomputable def innN (bc : Nat) : List Nat → List Int → Int → Int → Int → List Int × Int × Int
  | a :: as, w :: row, d, r, mn =>
    let r' := if d + cstN bc a < (if w < r then w else r) + 2 then d + cstN bc a else (if w < r then w else r) + 2
    let o := innN bc as row w r' (if r' < mn then r' else mn)
    (r' :: o.1, o.2)
  | _, row, _, r, mn => (row, r, mn)
theorem inn_good (b : Nat × Nat) : ∀ (P : PL) (row : List Int) (d r mn : Int), Good [b] P → inn b.1 (fsts P) row d r mn = innN b.2 (snds P) row d r mn
  | [], _, _, _, _, _ => rfl
  | _ :: _, [], _, _, _, _ => rfl
  | p :: P, w :: row, d, r, mn, h => by
    have e := h b (.head _) p (.head _)
    have ih := fun r' m' => inn_good b P row w r' m' (h.mono (fun x hx => hx) (fun x hx => .tail _ hx))
    show (_ :: (inn b.1 (fsts P) row w _ _).1, (inn b.1 (fsts P) row w _ _).2) = _
    rw [e, ih]; rfl
/-- without a bound: the value and the greatest of the rows' minima -/
noncomputable def outrU (a : List Nat) : List Nat → Int → List Int → Int → Int × Int
  | [], _, _, r => (r, 0)
  | b :: bs, i, row, _ =>
    let o := innN b a row (i * 2) (i * 2) big
    let u := outrU a bs (i + 1) o.1 o.2.1
    (u.1, if u.2 < o.2.2 then o.2.2 else u.2)
theorem outr_good (P : PL) (c : Int) (hc : 0 ≤ c) : ∀ (Q : PL) (i : Int) (row : List Int) (r : Int), Good Q P → outr (fsts P) c (fsts Q) i row r = if (outrU (snds P) (snds Q) i row r).2 > c then c + 1 else (outrU (snds P) (snds Q) i row r).1
  | [], i, row, r, _ => by
    show r = if (0 : Int) > c then _ else r
    rw [if_neg (by omega)]
  | q :: Q, i, row, r, h => by
    have e := inn_good q P row (i * 2) (i * 2) big (h.mono (fun x hx => by rw [List.mem_singleton.mp hx]; exact .head _) (fun x hx => hx))
    have ih := fun row' r' => outr_good P c hc Q (i + 1) row' r' (h.mono (fun x hx => .tail _ hx) (fun x hx => hx))
    show (if (inn q.1 (fsts P) row (i * 2) (i * 2) big).2.2 > c then c + 1 else outr (fsts P) c (fsts Q) (i + 1) (inn q.1 (fsts P) row (i * 2) (i * 2) big).1 (inn q.1 (fsts P) row (i * 2) (i * 2) big).2.1) = _
    rw [e, ih]
    show _ = if (if (outrU (snds P) (snds Q) (i + 1) (innN q.2 (snds P) row (i * 2) (i * 2) big).1 (innN q.2 (snds P) row (i * 2) (i * 2) big).2.1).2 < (innN q.2 (snds P) row (i * 2) (i * 2) big).2.2 then (innN q.2 (snds P) row (i * 2) (i * 2) big).2.2 else (outrU (snds P) (snds Q) (i + 1) (innN q.2 (snds P) row (i * 2) (i * 2) big).1 (innN q.2 (snds P) row (i * 2) (i * 2) big).2.1).2) > c then c + 1 else (outrU (snds P) (snds Q) (i + 1) (innN q.2 (snds P) row (i * 2) (i * 2) big).1 (innN q.2 (snds P) row (i * 2) (i * 2) big).2.1).1
    generalize outrU (snds P) (snds Q) (i + 1) (innN q.2 (snds P) row (i * 2) (i * 2) big).1 (innN q.2 (snds P) row (i * 2) (i * 2) big).2.1 = u
    generalize (innN q.2 (snds P) row (i * 2) (i * 2) big).2.2 = m
    repeat' split
    all_goals first | rfl | omega
/-- the whole: none where one word is too long -/
noncomputable def levU (a b : List Nat) : Option (Int × Int) :=
  let x := lev2 a b
  let y := lev2' a b
  if x.isEmpty || y.isEmpty then some (2 * (x.length + y.length), 0) else
  if decide (x.length > 40) || decide (y.length > 40) then none else
  let p := if y.length < x.length then y else x
  let q := if y.length < x.length then x else y
  let u := outrU p q 0 (row0 p.length) 0
  some (u.1, if u.2 < (q.length - p.length : Int) * 2 then (q.length - p.length : Int) * 2 else u.2)
theorem lev2_self (a : List Nat) : lev2 a a = [] := by
  have h : preK a a = a.length := by
    induction a with
    | nil => rfl
    | cons x r ih => show (if x = x then preK r r + 1 else 0) = _; rw [if_pos rfl, ih]; rfl
  have : lev1 a a = [] := by unfold lev1; rw [h]; simp
  unfold lev2; rw [this]; rfl
theorem lev2_self' (a : List Nat) : lev2' a a = [] := by
  have h : preK a a = a.length := by
    induction a with
    | nil => rfl
    | cons x r ih => show (if x = x then preK r r + 1 else 0) = _; rw [if_pos rfl, ih]; rfl
  have : lev1' a a = [] := by unfold lev1'; rw [h]; simp
  unfold lev2'; rw [this]; simp
noncomputable def valU (o : Option (Int × Int)) (c : Int) : Int := match o with
  | none => c + 1
  | some u => if u.2 > c then c + 1 else u.1
theorem levS_good {P Q : PL} (h : Good P Q) (c : Int) (hc : 0 ≤ c) : levS (fsts P) (fsts Q) c = valU (levU (snds P) (snds Q)) c := by
  unfold valU
  have e1 : levS (fsts P) (fsts Q) c = if lev2 (fsts P) (fsts Q) = [] ∨ lev2' (fsts P) (fsts Q) = [] then 2 * ((lev2 (fsts P) (fsts Q)).length + (lev2' (fsts P) (fsts Q)).length : Int) else
      if (lev2 (fsts P) (fsts Q)).length > 40 ∨ (lev2' (fsts P) (fsts Q)).length > 40 then c + 1 else
      if ((levB (fsts P) (fsts Q)).length - (levA (fsts P) (fsts Q)).length : Int) * 2 > c then c + 1 else levT (levA (fsts P) (fsts Q)) (levB (fsts P) (fsts Q)) c := by
    unfold levS
    by_cases e : fsts P = fsts Q
    · rw [if_pos e, e, lev2_self, lev2_self']; simp
    · rw [if_neg e]
  rw [e1]
  unfold levA levB
  have l1 := lev2_good h
  have l2 := lev2_snd (P := P) (Q := Q)
  have g := p2_good h
  unfold levU
  rw [l1.1, l1.2, l2.1, l2.2]
  generalize p2 P Q = A at *
  generalize p2' P Q = B at *
  have n1 : (fsts A = [] ∨ fsts B = []) ↔ ((snds A).isEmpty || (snds B).isEmpty) = true := by
    cases A <;> cases B <;> simp [fsts, snds]
  by_cases c1 : ((snds A).isEmpty || (snds B).isEmpty) = true
  · rw [if_pos (n1.mpr c1), if_pos c1]
    show _ = if (0 : Int) > c then _ else _
    rw [if_neg (by omega), fsts_len, fsts_len, snds_len, snds_len]
  · rw [if_neg (fun x => c1 (n1.mp x)), if_neg c1]
    simp only [fsts_len, snds_len]
    by_cases c2 : A.length > 40 ∨ B.length > 40
    · rw [if_pos c2, if_pos (show (decide (A.length > 40) || decide (B.length > 40)) = true by simpa using c2)]
    · rw [if_neg c2, if_neg (show ¬ (decide (A.length > 40) || decide (B.length > 40)) = true by simpa using c2)]
      by_cases c3 : B.length < A.length
      · simp only [if_pos c3]
        have o := outr_good B c hc A 0 (row0 B.length) 0 g
        unfold levT
        simp only [fsts_len, snds_len]
        rw [o]
        generalize outrU (snds B) (snds A) 0 (row0 B.length) 0 = u
        repeat' split
        all_goals first | rfl | omega
      · simp only [if_neg c3]
        have o := outr_good A c hc B 0 (row0 A.length) 0 g.symm
        unfold levT
        simp only [fsts_len, snds_len]
        rw [o]
        generalize outrU (snds A) (snds B) 0 (row0 A.length) 0 = u
        repeat' split
        all_goals first | rfl | omega
noncomputable def nowC : List Nat := [0, 8, 16, 24]
noncomputable abbrev rgtC (c0 c1 c2 c3 : Nat) : List Nat := [c0, 8 + c1, 16 + c2, 24 + c3]
noncomputable def okU (o : Option (Int × Int)) (v b : Int) : Bool := match o with
  | some u => u.1 == v && decide (u.2 ≤ b)
  | none => false
noncomputable def all4 (f : Nat → Nat → Nat → Nat → Bool) : Bool := (List.range 3).all fun c0 => (List.range 3).all fun c1 => (List.range 3).all fun c2 => (List.range 3).all fun c3 => f c0 c1 c2 c3
theorem all4_use {f : Nat → Nat → Nat → Nat → Bool} (h : all4 f = true) {c0 c1 c2 c3 : Nat} (h0 : c0 < 3) (h1 : c1 < 3) (h2 : c2 < 3) (h3 : c3 < 3) : f c0 c1 c2 c3 = true :=
  List.all_eq_true.mp (List.all_eq_true.mp (List.all_eq_true.mp (List.all_eq_true.mp h c0 (List.mem_range.mpr h0)) c1 (List.mem_range.mpr h1)) c2 (List.mem_range.mpr h2)) c3 (List.mem_range.mpr h3)
noncomputable def cs4 (c0 c1 c2 c3 : Nat) : Int := (c0 + c1 + c2 + c3 : Nat)
theorem chk1 : all4 (fun c0 c1 c2 c3 => okU (levU nowC (rgtC c0 c1 c2 c3)) (cs4 c0 c1 c2 c3) (cs4 c0 c1 c2 c3)) = true := by decide +kernel
theorem chk2 : ((List.range 3).all fun c0 => okU (levU (List.replicate 40 40 ++ nowC) (c0 :: nowC)) 80 80 && (levU (c0 :: nowC) (List.replicate 41 40 ++ nowC)).isNone && (levU (List.replicate 41 40 ++ nowC) (c0 :: nowC)).isNone) = true := by decide +kernel
theorem chk4 : all4 (fun c0 c1 c2 c3 => okU (levU (nowC ++ [40]) (50 :: rgtC c0 c1 c2 c3)) (min (cs4 c0 c1 c2 c3 + 4) 10) 10 && okU (levU (50 :: rgtC c0 c1 c2 c3) (nowC ++ [40])) (min (cs4 c0 c1 c2 c3 + 4) 10) 10) = true := by decide +kernel
noncomputable def told5 (ahead more gap : Nat) : List Nat := List.replicate ahead 40 ++ nowC.take gap ++ List.replicate more 40 ++ nowC.drop gap
theorem chk5 : ((List.range 2).all fun ahead => (List.range 3).all fun more => (List.range 5).all fun gap => all4 fun c0 c1 c2 c3 =>
    okU (levU (told5 ahead more gap) (rgtC c0 c1 c2 c3)) (cs4 c0 c1 c2 c3 + 2 * (ahead + more)) (cs4 c0 c1 c2 c3 + 2 * (ahead + more))) = true := by decide +kernel
/-- a letter of the column k at the level u -/
noncomputable def L (k : Nat) (u : Int) : Nat := (wrd u).getD k 0
noncomputable def costL (u v : Int) : Nat := if u = v then 0 else if u + v = 1 then 1 else 2
theorem sub_all : ((List.range 4).all fun k => ([0, 1, 2] : List Int).all fun u => (subC 122 (L k u) == 2) && (subC 121 (L k u) == 2) && (subC (L k u) 122 == 2) && (subC (L k u) 121 == 2) && (List.range 4).all fun j => ([0, 1, 2] : List Int).all fun v => subC (L k u) (L j v) == if k = j then (costL u v : Int) else 2) = true := by decide +kernel
theorem sub_zy : subC 122 122 = 0 ∧ subC 121 121 = 0 ∧ subC 122 121 = 2 ∧ subC 121 122 = 2 := by decide +kernel
structure Lv (u : Int) : Prop where
  lo : 0 ≤ u
  hi : u ≤ 2
theorem Lv.mem {u : Int} (h : Lv u) : u ∈ ([0, 1, 2] : List Int) := by
  have := h.lo; have := h.hi
  obtain rfl | rfl | rfl : u = 0 ∨ u = 1 ∨ u = 2 := by omega
  all_goals simp
theorem sub_z {k : Nat} {u : Int} (hk : k < 4) (hu : Lv u) : subC 122 (L k u) = 2 ∧ subC 121 (L k u) = 2 ∧ subC (L k u) 122 = 2 ∧ subC (L k u) 121 = 2 := by
  have h := List.all_eq_true.mp (List.all_eq_true.mp sub_all k (List.mem_range.mpr hk)) u hu.mem
  simp only [Bool.and_eq_true, beq_iff_eq] at h
  exact ⟨h.1.1.1.1, h.1.1.1.2, h.1.1.2, h.1.2⟩
theorem sub_L {k j : Nat} {u v : Int} (hk : k < 4) (hj : j < 4) (hu : Lv u) (hv : Lv v) : subC (L k u) (L j v) = if k = j then (costL u v : Int) else 2 := by
  have h := List.all_eq_true.mp (List.all_eq_true.mp sub_all k (List.mem_range.mpr hk)) u hu.mem
  simp only [Bool.and_eq_true] at h
  have h2 := List.all_eq_true.mp (List.all_eq_true.mp h.2 j (List.mem_range.mpr hj)) v hv.mem
  exact eq_of_beq h2
/-- the two levels of a column: one is at rest where they differ -/
structure Pr (x y : Int) : Prop where
  lx : Lv x
  ly : Lv y
  or : x = y ∨ x = 0 ∨ y = 0
theorem Pr.cost {x y : Int} (h : Pr x y) : costL x y < 3 ∧ cstN 0 (costL x y) = costL x y ∧ costL x x = 0 ∧ costL y y = 0 ∧ costL y x = costL x y := by
  obtain ⟨⟨a, b⟩, ⟨c, d⟩, e⟩ := h
  unfold costL cstN
  refine ⟨?_, ?_, by simp, by simp, ?_⟩
  · split <;> (try split) <;> omega
  · by_cases h1 : x = y
    · simp [h1]
    · by_cases h2 : x + y = 1
      · simp [h1, h2]
      · simp [h1, h2]
  · by_cases h1 : x = y
    · simp [h1]
    · rw [if_neg h1, if_neg (Ne.symm h1)]
      have : x + y = y + x := by omega
      rw [this]
noncomputable def IsW (n r : Nat → Int) (p : Nat × Nat) : Prop := p = (122, 40) ∨ p = (121, 50) ∨ ∃ k, k < 4 ∧ (p = (L k (n k), 8 * k) ∨ p = (L k (r k), 8 * k + costL (n k) (r k)))
theorem cst_off {k j e f : Nat} (h : k ≠ j) (he : e < 3) (hf : f < 3) : cstN (8 * k + e) (8 * j + f) = 2 := by
  unfold cstN
  rw [if_neg (by omega), if_neg (by omega)]
theorem cst_on {k e f : Nat} : cstN (8 * k + e) (8 * k + f) = cstN e f := by
  unfold cstN
  have h1 : (8 * k + e = 8 * k + f) ↔ e = f := by omega
  have h2 : (8 * k + e + 1 = 8 * k + f ∨ 8 * k + e = 8 * k + f + 1) ↔ (e + 1 = f ∨ e = f + 1) := by omega
  simp only [h1, h2]
theorem cst_z {k e : Nat} (hk : k < 4) (he : e < 3) : cstN 40 (8 * k + e) = 2 ∧ cstN 50 (8 * k + e) = 2 ∧ cstN (8 * k + e) 40 = 2 ∧ cstN (8 * k + e) 50 = 2 := by
  unfold cstN
  refine ⟨?_, ?_, ?_, ?_⟩ <;> rw [if_neg (by omega), if_neg (by omega)]
/-- a letter: column, level, code above the column's own -/
structure Lt (n r : Nat → Int) (k : Nat) (u : Int) (e : Nat) : Prop where
  hk : k < 4
  or : (u = n k ∧ e = 0) ∨ (u = r k ∧ e = costL (n k) (r k))
theorem isW_cases {n r : Nat → Int} {p : Nat × Nat} (h : IsW n r p) : p = (122, 40) ∨ p = (121, 50) ∨ ∃ k u e, Lt n r k u e ∧ p = (L k u, 8 * k + e) := by
  rcases h with h | h | ⟨k, hk, h | h⟩
  · exact .inl h
  · exact .inr (.inl h)
  · exact .inr (.inr ⟨k, n k, 0, ⟨hk, .inl ⟨rfl, rfl⟩⟩, h⟩)
  · exact .inr (.inr ⟨k, r k, _, ⟨hk, .inr ⟨rfl, rfl⟩⟩, h⟩)
theorem goodW {n r : Nat → Int} (hp : ∀ k, k < 4 → Pr (n k) (r k)) {p q : Nat × Nat} (h1 : IsW n r p) (h2 : IsW n r q) : subC p.1 q.1 = cstN p.2 q.2 := by
  have lv : ∀ {k u e}, Lt n r k u e → Lv u ∧ e < 3 := fun {k u e} h => by
    rcases h.or with ⟨rfl, rfl⟩ | ⟨rfl, rfl⟩
    · exact ⟨(hp k h.hk).lx, by omega⟩
    · exact ⟨(hp k h.hk).ly, (hp k h.hk).cost.1⟩
  rcases isW_cases h1 with rfl | rfl | ⟨k, u, e, hk, rfl⟩ <;> rcases isW_cases h2 with rfl | rfl | ⟨j, v, f, hj, rfl⟩
  · exact sub_zy.1
  · exact sub_zy.2.2.1
  · exact (sub_z hj.hk (lv hj).1).1.trans (cst_z hj.hk (lv hj).2).1.symm
  · exact sub_zy.2.2.2
  · exact sub_zy.2.1
  · exact (sub_z hj.hk (lv hj).1).2.1.trans (cst_z hj.hk (lv hj).2).2.1.symm
  · exact (sub_z hk.hk (lv hk).1).2.2.1.trans (cst_z hk.hk (lv hk).2).2.2.1.symm
  · exact (sub_z hk.hk (lv hk).1).2.2.2.trans (cst_z hk.hk (lv hk).2).2.2.2.symm
  · show subC (L k u) (L j v) = cstN (8 * k + e) (8 * j + f)
    rw [sub_L hk.hk hj.hk (lv hk).1 (lv hj).1]
    by_cases ekj : k = j
    · subst ekj
      rw [if_pos rfl, cst_on]
      have c := (hp k hk.hk).cost
      rcases hk.or with ⟨rfl, rfl⟩ | ⟨rfl, rfl⟩ <;> rcases hj.or with ⟨rfl, rfl⟩ | ⟨rfl, rfl⟩
      · rw [c.2.2.1]; rfl
      · exact c.2.1.symm
      · rw [cstN_comm, c.2.1, c.2.2.2.2]
      · rw [c.2.2.2.1, cstN_eq0.mpr rfl]; rfl
    · rw [if_neg ekj, cst_off ekj (lv hk).2 (lv hj).2]
section
variable {x0 x1 x2 x3 y0 y1 y2 y3 : Int}
noncomputable def fn4 (a b c d : Int) : Nat → Int := fun k => ([a, b, c, d] : List Int).getD k 0
noncomputable def nowP (x0 x1 x2 x3 : Int) : PL := [(L 0 x0, 0), (L 1 x1, 8), (L 2 x2, 16), (L 3 x3, 24)]
noncomputable def rgtP (x0 x1 x2 x3 y0 y1 y2 y3 : Int) : PL := [(L 0 y0, costL x0 y0), (L 1 y1, 8 + costL x1 y1), (L 2 y2, 16 + costL x2 y2), (L 3 y3, 24 + costL x3 y3)]
noncomputable def nowL (x0 x1 x2 x3 : Int) : List Nat := [L 0 x0, L 1 x1, L 2 x2, L 3 x3]
structure Pr4 (x0 x1 x2 x3 y0 y1 y2 y3 : Int) : Prop where
  p0 : Pr x0 y0
  p1 : Pr x1 y1
  p2 : Pr x2 y2
  p3 : Pr x3 y3
theorem Pr4.all (h : Pr4 x0 x1 x2 x3 y0 y1 y2 y3) (k : Nat) (hk : k < 4) : Pr (fn4 x0 x1 x2 x3 k) (fn4 y0 y1 y2 y3 k) := by
  obtain rfl | rfl | rfl | rfl : k = 0 ∨ k = 1 ∨ k = 2 ∨ k = 3 := by omega
  · exact h.p0
  · exact h.p1
  · exact h.p2
  · exact h.p3
theorem nowP_W : ∀ p ∈ nowP x0 x1 x2 x3, IsW (fn4 x0 x1 x2 x3) (fn4 y0 y1 y2 y3) p := by
  intro p hp
  simp only [nowP, List.mem_cons, List.not_mem_nil, or_false] at hp
  rcases hp with rfl | rfl | rfl | rfl
  · exact .inr (.inr ⟨0, by omega, .inl rfl⟩)
  · exact .inr (.inr ⟨1, by omega, .inl rfl⟩)
  · exact .inr (.inr ⟨2, by omega, .inl rfl⟩)
  · exact .inr (.inr ⟨3, by omega, .inl rfl⟩)
theorem rgtP_W : ∀ p ∈ rgtP x0 x1 x2 x3 y0 y1 y2 y3, IsW (fn4 x0 x1 x2 x3) (fn4 y0 y1 y2 y3) p := by
  intro p hp
  simp only [rgtP, List.mem_cons, List.not_mem_nil, or_false] at hp
  rcases hp with rfl | rfl | rfl | rfl
  · exact .inr (.inr ⟨0, by omega, .inr (by simp [fn4])⟩)
  · exact .inr (.inr ⟨1, by omega, .inr (by simp [fn4])⟩)
  · exact .inr (.inr ⟨2, by omega, .inr (by simp [fn4])⟩)
  · exact .inr (.inr ⟨3, by omega, .inr (by simp [fn4])⟩)
theorem zP_W {n r : Nat → Int} (k : Nat) : ∀ p ∈ List.replicate k ((122, 40) : Nat × Nat), IsW n r p := fun p hp => .inl (List.eq_of_mem_replicate hp)
theorem app_W {n r : Nat → Int} {P Q : PL} (h : ∀ p ∈ P, IsW n r p) (h' : ∀ p ∈ Q, IsW n r p) : ∀ p ∈ P ++ Q, IsW n r p := fun p hp => (List.mem_append.mp hp).elim (h p) (h' p)
theorem good_of (h : Pr4 x0 x1 x2 x3 y0 y1 y2 y3) {P Q : PL} (hp : ∀ p ∈ P, IsW (fn4 x0 x1 x2 x3) (fn4 y0 y1 y2 y3) p) (hq : ∀ p ∈ Q, IsW (fn4 x0 x1 x2 x3) (fn4 y0 y1 y2 y3) p) : Good P Q := fun p h1 q h2 => goodW h.all (hp p h1) (hq q h2)
noncomputable abbrev cs8 (x0 x1 x2 x3 y0 y1 y2 y3 : Int) : Int := cs4 (costL x0 y0) (costL x1 y1) (costL x2 y2) (costL x3 y3)
theorem cs8_le (h : Pr4 x0 x1 x2 x3 y0 y1 y2 y3) : 0 ≤ cs8 x0 x1 x2 x3 y0 y1 y2 y3 ∧ cs8 x0 x1 x2 x3 y0 y1 y2 y3 ≤ 8 := by
  have := h.p0.cost.1; have := h.p1.cost.1; have := h.p2.cost.1; have := h.p3.cost.1
  unfold cs8 cs4; omega
theorem use_ok {o : Option (Int × Int)} {v b c : Int} (h : okU o v b = true) (hb : b ≤ c) : valU o c = v := by
  cases o with
  | none => cases h
  | some u =>
    simp only [okU, Bool.and_eq_true, beq_iff_eq, decide_eq_true_eq] at h
    show (if u.2 > c then c + 1 else u.1) = v
    rw [if_neg (by omega)]; exact h.1
theorem use_ok2 {o : Option (Int × Int)} {v c : Int} (h : okU o v v = true) : (v ≤ c → valU o c = v) ∧ (c < v → c < valU o c) := by
  refine ⟨fun hc => use_ok h hc, fun hc => ?_⟩
  cases o with
  | none => cases h
  | some u =>
    simp only [okU, Bool.and_eq_true, beq_iff_eq, decide_eq_true_eq] at h
    show c < (if u.2 > c then c + 1 else u.1)
    split <;> omega
/-- one word from another -/
theorem lev_nr (h : Pr4 x0 x1 x2 x3 y0 y1 y2 y3) {c : Int} (hc : 8 ≤ c) : levS (nowL x0 x1 x2 x3) (nowL y0 y1 y2 y3) c = cs8 x0 x1 x2 x3 y0 y1 y2 y3 := by
  have g := levS_good (good_of h nowP_W rgtP_W) c (by omega)
  have k := all4_use chk1 h.p0.cost.1 h.p1.cost.1 h.p2.cost.1 h.p3.cost.1
  exact g.trans (use_ok k (Int.le_trans (cs8_le h).2 hc))
theorem z_fsts (k : Nat) (P : PL) : fsts (List.replicate k (122, 40) ++ P) = List.replicate k 122 ++ fsts P := by simp [fsts]
theorem z_snds (k : Nat) (P : PL) : snds (List.replicate k (122, 40) ++ P) = List.replicate k 40 ++ snds P := by simp [snds]
theorem head_W : IsW (fn4 x0 x1 x2 x3) (fn4 y0 y1 y2 y3) (L 0 y0, costL x0 y0) := rgtP_W _ (.head _)
theorem fewP_W : ∀ p ∈ (L 0 y0, costL x0 y0) :: nowP x0 x1 x2 x3, IsW (fn4 x0 x1 x2 x3) (fn4 y0 y1 y2 y3) p := fun p hp => by
  rcases List.mem_cons.mp hp with rfl | hp
  · exact head_W
  · exact nowP_W p hp
theorem lev_few (h : Pr4 x0 x1 x2 x3 y0 y1 y2 y3) : levS (List.replicate 40 122 ++ nowL x0 x1 x2 x3) (L 0 y0 :: nowL x0 x1 x2 x3) 80 = 80 := by
  have g := levS_good (good_of h (app_W (zP_W 40) nowP_W) fewP_W) 80 (by omega)
  have k := List.all_eq_true.mp chk2 _ (List.mem_range.mpr h.p0.cost.1)
  simp only [Bool.and_eq_true] at k
  rw [z_fsts, z_snds] at g
  exact g.trans (use_ok k.1.1 (Int.le_refl _))
theorem lev_far (h : Pr4 x0 x1 x2 x3 y0 y1 y2 y3) {c : Int} (hc : 0 ≤ c) : levS (List.replicate 41 122 ++ nowL x0 x1 x2 x3) (L 0 y0 :: nowL x0 x1 x2 x3) c = c + 1 ∧ levS (L 0 y0 :: nowL x0 x1 x2 x3) (List.replicate 41 122 ++ nowL x0 x1 x2 x3) c = c + 1 := by
  have g := levS_good (good_of h (app_W (zP_W 41) nowP_W) fewP_W) c hc
  have g2 := levS_good (good_of h fewP_W (app_W (zP_W 41) nowP_W)) c hc
  have k := List.all_eq_true.mp chk2 _ (List.mem_range.mpr h.p0.cost.1)
  simp only [Bool.and_eq_true] at k
  rw [z_fsts, z_snds] at g g2
  constructor
  · refine g.trans ?_
    have := Option.isNone_iff_eq_none.mp k.2
    show valU (levU (List.replicate 41 40 ++ nowC) (costL x0 y0 :: nowC)) c = _
    rw [this]; rfl
  · refine g2.trans ?_
    have := Option.isNone_iff_eq_none.mp k.1.2
    show valU (levU (costL x0 y0 :: nowC) (List.replicate 41 40 ++ nowC)) c = _
    rw [this]; rfl
theorem lev_ends (h : Pr4 x0 x1 x2 x3 y0 y1 y2 y3) : levS (nowL x0 x1 x2 x3 ++ [122]) (121 :: nowL y0 y1 y2 y3) 10 = min (cs8 x0 x1 x2 x3 y0 y1 y2 y3 + 4) 10 ∧ levS (121 :: nowL y0 y1 y2 y3) (nowL x0 x1 x2 x3 ++ [122]) 10 = min (cs8 x0 x1 x2 x3 y0 y1 y2 y3 + 4) 10 := by
  have w1 : ∀ p ∈ nowP x0 x1 x2 x3 ++ [(122, 40)], IsW (fn4 x0 x1 x2 x3) (fn4 y0 y1 y2 y3) p := app_W nowP_W (zP_W 1)
  have w2 : ∀ p ∈ (121, 50) :: rgtP x0 x1 x2 x3 y0 y1 y2 y3, IsW (fn4 x0 x1 x2 x3) (fn4 y0 y1 y2 y3) p := fun p hp => by
    rcases List.mem_cons.mp hp with rfl | hp
    · exact .inr (.inl rfl)
    · exact rgtP_W p hp
  have k := all4_use chk4 h.p0.cost.1 h.p1.cost.1 h.p2.cost.1 h.p3.cost.1
  simp only [Bool.and_eq_true] at k
  exact ⟨(levS_good (good_of h w1 w2) 10 (by omega)).trans (use_ok k.1 (Int.le_refl _)), (levS_good (good_of h w2 w1) 10 (by omega)).trans (use_ok k.2 (Int.le_refl _))⟩
theorem lev_told5 (h : Pr4 x0 x1 x2 x3 y0 y1 y2 y3) {a m g : Nat} {c : Int} (ha : a < 2) (hm : m < 3) (hg : g < 5) (hc : 0 ≤ c) :
    (cs8 x0 x1 x2 x3 y0 y1 y2 y3 + 2 * (a + m) ≤ c → levS (List.replicate a 122 ++ (nowL x0 x1 x2 x3).take g ++ List.replicate m 122 ++ (nowL x0 x1 x2 x3).drop g) (nowL y0 y1 y2 y3) c = cs8 x0 x1 x2 x3 y0 y1 y2 y3 + 2 * (a + m)) ∧
    (c < cs8 x0 x1 x2 x3 y0 y1 y2 y3 + 2 * (a + m) → c < levS (List.replicate a 122 ++ (nowL x0 x1 x2 x3).take g ++ List.replicate m 122 ++ (nowL x0 x1 x2 x3).drop g) (nowL y0 y1 y2 y3) c) := by
  have w1 : ∀ p ∈ List.replicate a ((122, 40) : Nat × Nat) ++ (nowP x0 x1 x2 x3).take g ++ List.replicate m (122, 40) ++ (nowP x0 x1 x2 x3).drop g, IsW (fn4 x0 x1 x2 x3) (fn4 y0 y1 y2 y3) p :=
    app_W (app_W (app_W (zP_W a) fun p hp => nowP_W p (List.mem_of_mem_take hp)) (zP_W m)) fun p hp => nowP_W p (List.mem_of_mem_drop hp)
  have e1 : fsts (List.replicate a ((122, 40) : Nat × Nat) ++ (nowP x0 x1 x2 x3).take g ++ List.replicate m (122, 40) ++ (nowP x0 x1 x2 x3).drop g) = List.replicate a 122 ++ (nowL x0 x1 x2 x3).take g ++ List.replicate m 122 ++ (nowL x0 x1 x2 x3).drop g := by
    simp [fsts, List.map_append, List.map_take, List.map_drop, nowP, nowL]
  have e2 : snds (List.replicate a ((122, 40) : Nat × Nat) ++ (nowP x0 x1 x2 x3).take g ++ List.replicate m (122, 40) ++ (nowP x0 x1 x2 x3).drop g) = told5 a m g := by
    simp [snds, List.map_append, List.map_take, List.map_drop, nowP, told5, nowC]
  have gd := levS_good (good_of h w1 rgtP_W) c hc
  rw [e1, e2] at gd
  have k := all4_use (List.all_eq_true.mp (List.all_eq_true.mp (List.all_eq_true.mp chk5 a (List.mem_range.mpr ha)) m (List.mem_range.mpr hm)) g (List.mem_range.mpr hg)) h.p0.cost.1 h.p1.cost.1 h.p2.cost.1 h.p3.cost.1
  have u := use_ok2 (c := c) k
  have e3 : fsts (rgtP x0 x1 x2 x3 y0 y1 y2 y3) = nowL y0 y1 y2 y3 := rfl
  rw [e3] at gd
  rw [gd]
  exact u
end
noncomputable def ng (a : Int) : Int := if a < 0 then -a else 0
theorem col_V {a q p : Int} (h : -2 ≤ a ∧ a ≤ 2) (hq : q = 0 ∨ q = 1) (hp : p = if decide (a < 0) = true then 1 else 0) : Pr (ab a * q) (ab a * p) ∧ (costL (ab a * q) (ab a * p) : Int) = ng a + q * a := by
  obtain rfl | rfl | rfl | rfl | rfl : a = -2 ∨ a = -1 ∨ a = 0 ∨ a = 1 ∨ a = 2 := by omega
  all_goals (rcases hq with rfl | rfl <;> subst hp <;> exact ⟨⟨⟨by decide, by decide⟩, ⟨by decide, by decide⟩, by decide⟩, by decide⟩)
/-- the four folds' angles, how each stands, and which go to the right -/
structure Fold (a0 a1 a2 a3 q0 q1 q2 q3 p0 p1 p2 p3 : Int) : Prop where
  h0 : -2 ≤ a0 ∧ a0 ≤ 2
  h1 : -2 ≤ a1 ∧ a1 ≤ 2
  h2 : -2 ≤ a2 ∧ a2 ≤ 2
  h3 : -2 ≤ a3 ∧ a3 ≤ 2
  q0 : q0 = 0 ∨ q0 = 1
  q1 : q1 = 0 ∨ q1 = 1
  q2 : q2 = 0 ∨ q2 = 1
  q3 : q3 = 0 ∨ q3 = 1
  p0 : p0 = if decide (a0 < 0) = true then 1 else 0
  p1 : p1 = if decide (a1 < 0) = true then 1 else 0
  p2 : p2 = if decide (a2 < 0) = true then 1 else 0
  p3 : p3 = if decide (a3 < 0) = true then 1 else 0
section
variable {a0 a1 a2 a3 q0 q1 q2 q3 p0 p1 p2 p3 : Int}
theorem Fold.pr (h : Fold a0 a1 a2 a3 q0 q1 q2 q3 p0 p1 p2 p3) : Pr4 (ab a0 * q0) (ab a1 * q1) (ab a2 * q2) (ab a3 * q3) (ab a0 * p0) (ab a1 * p1) (ab a2 * p2) (ab a3 * p3) :=
  ⟨(col_V h.h0 h.q0 h.p0).1, (col_V h.h1 h.q1 h.p1).1, (col_V h.h2 h.q2 h.p2).1, (col_V h.h3 h.q3 h.p3).1⟩
/-- the distance of two words -/
noncomputable def dist (a0 a1 a2 a3 q0 q1 q2 q3 : Int) : Int := (ng a0 + ng a1 + ng a2 + ng a3) + (q0 * a0 + q1 * a1 + q2 * a2 + q3 * a3)
theorem Fold.cs (h : Fold a0 a1 a2 a3 q0 q1 q2 q3 p0 p1 p2 p3) : cs8 (ab a0 * q0) (ab a1 * q1) (ab a2 * q2) (ab a3 * q3) (ab a0 * p0) (ab a1 * p1) (ab a2 * p2) (ab a3 * p3) = dist a0 a1 a2 a3 q0 q1 q2 q3 := by
  have c0 := (col_V h.h0 h.q0 h.p0).2
  have c1 := (col_V h.h1 h.q1 h.p1).2
  have c2 := (col_V h.h2 h.q2 h.p2).2
  have c3 := (col_V h.h3 h.q3 h.p3).2
  unfold cs8 cs4 dist
  omega
theorem Fold.bd (h : Fold a0 a1 a2 a3 q0 q1 q2 q3 p0 p1 p2 p3) : 0 ≤ dist a0 a1 a2 a3 q0 q1 q2 q3 ∧ dist a0 a1 a2 a3 q0 q1 q2 q3 ≤ 8 := h.cs ▸ cs8_le h.pr
theorem Fold.rest (h : Fold a0 a1 a2 a3 q0 q1 q2 q3 p0 p1 p2 p3) : Fold a0 a1 a2 a3 0 0 0 0 p0 p1 p2 p3 := ⟨h.h0, h.h1, h.h2, h.h3, .inl rfl, .inl rfl, .inl rfl, .inl rfl, h.p0, h.p1, h.p2, h.p3⟩
theorem Fold.lev (h : Fold a0 a1 a2 a3 q0 q1 q2 q3 p0 p1 p2 p3) : levS (wordS a0 a1 a2 a3 q0 q1 q2 q3) (wordS a0 a1 a2 a3 p0 p1 p2 p3) 8 = dist a0 a1 a2 a3 q0 q1 q2 q3 := (lev_nr h.pr (Int.le_refl _)).trans h.cs
theorem Fold.few (h : Fold a0 a1 a2 a3 q0 q1 q2 q3 p0 p1 p2 p3) : levS (List.replicate 40 122 ++ wordS a0 a1 a2 a3 q0 q1 q2 q3) (lt1 a0 p0 0 :: wordS a0 a1 a2 a3 q0 q1 q2 q3) 80 = 80 := lev_few h.pr
theorem Fold.far (h : Fold a0 a1 a2 a3 q0 q1 q2 q3 p0 p1 p2 p3) {c : Int} (hc : 0 ≤ c) : levS (List.replicate 41 122 ++ wordS a0 a1 a2 a3 q0 q1 q2 q3) (lt1 a0 p0 0 :: wordS a0 a1 a2 a3 q0 q1 q2 q3) c = c + 1 ∧ levS (lt1 a0 p0 0 :: wordS a0 a1 a2 a3 q0 q1 q2 q3) (List.replicate 41 122 ++ wordS a0 a1 a2 a3 q0 q1 q2 q3) c = c + 1 := lev_far h.pr hc
theorem Fold.ends (h : Fold a0 a1 a2 a3 q0 q1 q2 q3 p0 p1 p2 p3) : levS (wordS a0 a1 a2 a3 q0 q1 q2 q3 ++ [122]) (121 :: wordS a0 a1 a2 a3 p0 p1 p2 p3) 10 = min (dist a0 a1 a2 a3 q0 q1 q2 q3 + 4) 10 ∧ levS (121 :: wordS a0 a1 a2 a3 p0 p1 p2 p3) (wordS a0 a1 a2 a3 q0 q1 q2 q3 ++ [122]) 10 = min (dist a0 a1 a2 a3 q0 q1 q2 q3 + 4) 10 := h.cs ▸ lev_ends h.pr
theorem Fold.told (h : Fold a0 a1 a2 a3 q0 q1 q2 q3 p0 p1 p2 p3) {a m g : Nat} {c : Int} (ha : a < 2) (hm : m < 3) (hg : g < 5) (hc : 0 ≤ c) :
    (dist a0 a1 a2 a3 q0 q1 q2 q3 + 2 * (a + m) ≤ c → levS (List.replicate a 122 ++ (wordS a0 a1 a2 a3 q0 q1 q2 q3).take g ++ List.replicate m 122 ++ (wordS a0 a1 a2 a3 q0 q1 q2 q3).drop g) (wordS a0 a1 a2 a3 p0 p1 p2 p3) c = dist a0 a1 a2 a3 q0 q1 q2 q3 + 2 * (a + m)) ∧
    (c < dist a0 a1 a2 a3 q0 q1 q2 q3 + 2 * (a + m) → c < levS (List.replicate a 122 ++ (wordS a0 a1 a2 a3 q0 q1 q2 q3).take g ++ List.replicate m 122 ++ (wordS a0 a1 a2 a3 q0 q1 q2 q3).drop g) (wordS a0 a1 a2 a3 p0 p1 p2 p3) c) := h.cs ▸ lev_told5 h.pr ha hm hg hc
/-- less the word at rest: the turned folds' angles -/
theorem dist_rest : dist a0 a1 a2 a3 0 0 0 0 = ng a0 + ng a1 + ng a2 + ng a3 := by unfold dist; omega
theorem neg_fil (a : Int) (l : List Int) : (List.filter (fun a : Int => decide (a < 0)) (a :: l)).sum = -ng a + (List.filter (fun a : Int => decide (a < 0)) l).sum := by
  unfold ng
  by_cases h : a < 0 <;> simp [h]
theorem neg_sum : -(List.filter (fun a : Int => decide (a < 0)) [a0, a1, a2, a3]).sum = ng a0 + ng a1 + ng a2 + ng a3 := by
  rw [neg_fil, neg_fil, neg_fil, neg_fil, List.filter_nil, List.sum_nil]
  omega
/-- how a fold stands after n creases -/
noncomputable def bit (n : Int) (k : Nat) : Bool := decide (n / 2 ^ k % 2 = 0)
end
section
variable {a0 a1 a2 a3 q0 q1 q2 q3 p0 p1 p2 p3 : Int}
theorem lev_toldA (w : World) (mean : ExcName → Option Value) (mg mb : Str → Option Value) (h : Fold a0 a1 a2 a3 q0 q1 q2 q3 p0 p1 p2 p3) (t1 t2 t3 : Tok) :
    Told w mean mg mb 28 [.str (S (wordS a0 a1 a2 a3 q0 q1 q2 q3)) t1, .str (S (wordS a0 a1 a2 a3 p0 p1 p2 p3)) t2, .int 8 t3] 2 2 (fun _ => True) (RetI (dist a0 a1 a2 a3 q0 q1 q2 q3)) := by
  rw [← h.lev]; exact lev_told _ _ _ _ _ _ _ _ _ _ (Nat.le_of_ble_eq_true rfl) (Nat.le_of_ble_eq_true rfl)
theorem lev_toldB (w : World) (mean : ExcName → Option Value) (mg mb : Str → Option Value) (h : Fold a0 a1 a2 a3 q0 q1 q2 q3 p0 p1 p2 p3) (t1 t2 t3 : Tok) :
    Told w mean mg mb 28 [.str (S (List.replicate 40 122 ++ wordS a0 a1 a2 a3 q0 q1 q2 q3)) t1, .str (S (lt1 a0 p0 0 :: wordS a0 a1 a2 a3 q0 q1 q2 q3)) t2, .int 80 t3] 2 2 (fun _ => True) (RetI 80) := by
  have := lev_told w mean mg mb (List.replicate 40 122 ++ wordS a0 a1 a2 a3 q0 q1 q2 q3) (lt1 a0 p0 0 :: wordS a0 a1 a2 a3 q0 q1 q2 q3) 80 t1 t2 t3 (by simp) (by simp)
  rw [h.few] at this; exact this
theorem lev_toldC (w : World) (mean : ExcName → Option Value) (mg mb : Str → Option Value) (h : Fold a0 a1 a2 a3 q0 q1 q2 q3 p0 p1 p2 p3) {c : Int} (hc : 0 ≤ c) (t1 t2 t3 : Tok) :
    Told w mean mg mb 28 [.str (S (List.replicate 41 122 ++ wordS a0 a1 a2 a3 q0 q1 q2 q3)) t1, .str (S (lt1 a0 p0 0 :: wordS a0 a1 a2 a3 q0 q1 q2 q3)) t2, .int c t3] 2 2 (fun _ => True) (RetI (c + 1)) := by
  have := lev_told w mean mg mb (List.replicate 41 122 ++ wordS a0 a1 a2 a3 q0 q1 q2 q3) (lt1 a0 p0 0 :: wordS a0 a1 a2 a3 q0 q1 q2 q3) c t1 t2 t3 (by simp) (by simp)
  rw [(h.far hc).1] at this; exact this
theorem lev_toldD (w : World) (mean : ExcName → Option Value) (mg mb : Str → Option Value) (h : Fold a0 a1 a2 a3 q0 q1 q2 q3 p0 p1 p2 p3) {c : Int} (hc : 0 ≤ c) (t1 t2 t3 : Tok) :
    Told w mean mg mb 28 [.str (S (lt1 a0 p0 0 :: wordS a0 a1 a2 a3 q0 q1 q2 q3)) t1, .str (S (List.replicate 41 122 ++ wordS a0 a1 a2 a3 q0 q1 q2 q3)) t2, .int c t3] 2 2 (fun _ => True) (RetI (c + 1)) := by
  have := lev_told w mean mg mb (lt1 a0 p0 0 :: wordS a0 a1 a2 a3 q0 q1 q2 q3) (List.replicate 41 122 ++ wordS a0 a1 a2 a3 q0 q1 q2 q3) c t1 t2 t3 (by simp) (by simp)
  rw [(h.far hc).2] at this; exact this
theorem lev_toldE (w : World) (mean : ExcName → Option Value) (mg mb : Str → Option Value) (h : Fold a0 a1 a2 a3 q0 q1 q2 q3 p0 p1 p2 p3) (t1 t2 t3 : Tok) :
    Told w mean mg mb 28 [.str (S (wordS a0 a1 a2 a3 q0 q1 q2 q3 ++ [122])) t1, .str (S (121 :: wordS a0 a1 a2 a3 p0 p1 p2 p3)) t2, .int 10 t3] 2 2 (fun _ => True) (RetI (min (dist a0 a1 a2 a3 q0 q1 q2 q3 + 4) 10)) := by
  have := lev_told w mean mg mb (wordS a0 a1 a2 a3 q0 q1 q2 q3 ++ [122]) (121 :: wordS a0 a1 a2 a3 p0 p1 p2 p3) 10 t1 t2 t3 (by simp) (by simp)
  rw [h.ends.1] at this; exact this
theorem lev_toldF (w : World) (mean : ExcName → Option Value) (mg mb : Str → Option Value) (h : Fold a0 a1 a2 a3 q0 q1 q2 q3 p0 p1 p2 p3) (t1 t2 t3 : Tok) :
    Told w mean mg mb 28 [.str (S (121 :: wordS a0 a1 a2 a3 p0 p1 p2 p3)) t1, .str (S (wordS a0 a1 a2 a3 q0 q1 q2 q3 ++ [122])) t2, .int 10 t3] 2 2 (fun _ => True) (RetI (min (dist a0 a1 a2 a3 q0 q1 q2 q3 + 4) 10)) := by
  have := lev_told w mean mg mb (121 :: wordS a0 a1 a2 a3 p0 p1 p2 p3) (wordS a0 a1 a2 a3 q0 q1 q2 q3 ++ [122]) 10 t1 t2 t3 (by simp) (by simp)
  rw [h.ends.2] at this; exact this
/-- what the last distance tells -/
noncomputable abbrev RetB (due c : Int) : RetK := fun h₀ L m news s Q => ∀ (v : Int) (t : Tok) (h' : Heap) (tk' : Nat), (due ≤ c → v = due) → (c < due → c < v) → Fr h₀ L h' m → News h₀ L h' news → Q (.int v t) { s with heap := h', toks := tk' }
theorem lev_toldG (w : World) (mean : ExcName → Option Value) (mg mb : Str → Option Value) (h : Fold a0 a1 a2 a3 q0 q1 q2 q3 p0 p1 p2 p3) {a m g : Nat} {c : Int} (ha : a < 2) (hm : m < 3) (hg : g < 5) (hc : 0 ≤ c) (t1 t2 t3 : Tok) :
    Told w mean mg mb 28 [.str (S (List.replicate a 122 ++ (wordS a0 a1 a2 a3 q0 q1 q2 q3).take g ++ List.replicate m 122 ++ (wordS a0 a1 a2 a3 q0 q1 q2 q3).drop g)) t1, .str (S (wordS a0 a1 a2 a3 p0 p1 p2 p3)) t2, .int c t3] 2 2 (fun _ => True) (RetB (dist a0 a1 a2 a3 q0 q1 q2 q3 + 2 * (a + m)) c) :=
  told_mono (lev_told w mean mg mb _ _ c t1 t2 t3 (by simp; omega) (by simp)) fun h₀ L mm news s Q hr t h' tk' F N => hr _ t h' tk' (h.told ha hm hg hc).1 (h.told ha hm hg hc).2 F N
end
noncomputable def lin (a b c d : Int) (v : Int × Int × Int × Int) : Int := v.1 * a + v.2.1 * b + v.2.2.1 * c + v.2.2.2 * d
noncomputable def vadd (v w : Int × Int × Int × Int) : Int × Int × Int × Int := (v.1 + w.1, v.2.1 + w.2.1, v.2.2.1 + w.2.2.1, v.2.2.2 + w.2.2.2)
theorem lin_add {a b c d : Int} (v w : Int × Int × Int × Int) : lin a b c d (vadd v w) = lin a b c d v + lin a b c d w := by
  simp only [lin, vadd, Int.add_mul]
  omega
theorem lin_sum {a b c d : Int} : ∀ l : List (Int × Int × Int × Int), (l.map (lin a b c d)).sum = lin a b c d (l.foldr vadd (0, 0, 0, 0))
  | [] => by simp [lin]
  | v :: l => by rw [List.map_cons, List.sum_cons, lin_sum l, List.foldr_cons, lin_add]
noncomputable def signs : List (Int × Int × Int × Int) := [(1,0,0,0), (0,1,0,0), (-1,0,0,0), (0,0,1,0), (1,0,0,0), (0,-1,0,0), (-1,0,0,0), (0,0,0,1), (1,0,0,0), (0,1,0,0), (-1,0,0,0), (0,0,-1,0), (1,0,0,0), (0,-1,0,0), (-1,0,0,0)]
theorem lin1 {a b c d : Int} : lin a b c d (1,0,0,0) = a ∧ lin a b c d (-1,0,0,0) = -a ∧ lin a b c d (0,1,0,0) = b ∧ lin a b c d (0,-1,0,0) = -b ∧ lin a b c d (0,0,1,0) = c ∧ lin a b c d (0,0,-1,0) = -c ∧ lin a b c d (0,0,0,1) = d := by
  refine ⟨?_, ?_, ?_, ?_, ?_, ?_, ?_⟩ <;> simp [lin]
theorem fold_lin {a b c d : Int} : foldS a b c d = signs.map (lin a b c d) := by
  obtain ⟨e1, e2, e3, e4, e5, e6, e7⟩ := @lin1 a b c d
  simp only [signs, List.map_cons, List.map_nil, e1, e2, e3, e4, e5, e6, e7]
noncomputable def turnV (n : Int) : Int × Int × Int × Int :=
  (if (decide (n % 2 = 0) != decide (n / 2 % 2 = 0)) = true then 1 else 0, if (decide (n / 2 % 2 = 0) != decide (n / 2 / 2 % 2 = 0)) = true then 1 else 0, if (decide (n / 2 / 2 % 2 = 0) != decide (n / 2 / 2 / 2 % 2 = 0)) = true then 1 else 0, if (decide (n / 2 / 2 / 2 % 2 = 0) != decide (n / 2 / 2 / 2 / 2 % 2 = 0)) = true then 1 else 0)
structure Turn (n q0 q1 q2 q3 : Int) : Prop where
  e : (q0, q1, q2, q3) = turnV n
theorem turn_all : ∀ n : Fin 16, (signs.take n.val).foldr vadd (0, 0, 0, 0) = turnV (n.val : Int) := by decide +kernel
theorem passed3 {n a0 a1 a2 a3 q0 q1 q2 q3 : Int} (h0 : 0 ≤ n) (h1 : n < 16) (e0 : Turn n q0 q1 q2 q3) : dist a0 a1 a2 a3 q0 q1 q2 q3 - dist a0 a1 a2 a3 0 0 0 0 = (List.take n.toNat (foldS a0 a1 a2 a3)).sum := by
  have e := e0.e
  have h := turn_all ⟨n.toNat, by omega⟩
  have e9 : ((n.toNat : Nat) : Int) = n := by omega
  rw [fold_lin, ← List.map_take, lin_sum, h, e9, ← e]
  simp only [dist, lin]
  omega
theorem way3 {n a0 a1 a2 a3 q0 q1 q2 q3 j st : Int} (e : Turn n q0 q1 q2 q3) (h0 : 0 ≤ n) (h1 : n < 16) (hj : j % 16 = (st + (List.take n.toNat (foldS a0 a1 a2 a3)).sum) % 16) :
    j % 16 = (st + dist a0 a1 a2 a3 q0 q1 q2 q3 - dist a0 a1 a2 a3 0 0 0 0) % 16 := by
  rw [hj, ← passed3 h0 h1 e]
  congr 1
  omega
theorem bit_or9 (b : Bool) : (if b = true then (1 : Int) else 0) = 0 ∨ (if b = true then (1 : Int) else 0) = 1 := by cases b <;> simp
theorem turn_bit {n q0 q1 q2 q3 : Int} (e : (q0, q1, q2, q3) = turnV n) : (q0 = 0 ∨ q0 = 1) ∧ (q1 = 0 ∨ q1 = 1) ∧ (q2 = 0 ∨ q2 = 1) ∧ (q3 = 0 ∨ q3 = 1) := by
  injection e with e0 e; injection e with e1 e; injection e with e2 e3
  subst e0 e1 e2 e3
  exact ⟨bit_or9 _, bit_or9 _, bit_or9 _, bit_or9 _⟩
section
variable {M : Model} {A : Around} {t : Sem Flow} {Q : Flow → Shared → Prop} {E : Value → Shared → Prop} {s s₁ : Shared} {h₀ : Heap} {L : Addr} {m : Str → Option Value} {news news' : Led}
theorem trimQ (hg : s₁.gens = #[]) {x1 x2 x3 x4 x5 x6 x7 x8 x9 x10 : Str} {v3 v4 v5 v6 v7 v8 v9 v10 : Value} {n a0 a1 a2 a3 Q0 Q1 Q2 Q3 p0 p1 p2 p3 : Int} {t1 t2 : Tok}
    (F : Fr h₀ L s.heap m) (N : News h₀ L s.heap news) (hs : s = { s₁ with heap := s.heap, toks := s.toks }) (e1 : m x1 = some (.str (S (wordS a0 a1 a2 a3 Q0 Q1 Q2 Q3)) t1)) (e2 : m x2 = some (.str (S (wordS a0 a1 a2 a3 p0 p1 p2 p3)) t2)) (e3 : m x3 = some v3) (e4 : m x4 = some v4) (e5 : m x5 = some v5) (e6 : m x6 = some v6) (e7 : m x7 = some v7) (e8 : m x8 = some v8) (e9 : m x9 = some v9) (e10 : m x10 = some v10) (hN : ∀ p ∈ news', p ∈ news)
    (hn : (Q0, Q1, Q2, Q3) = turnV n) (h0 : -2 ≤ a0 ∧ a0 ≤ 2) (h1 : -2 ≤ a1 ∧ a1 ≤ 2) (h2 : -2 ≤ a2 ∧ a2 ≤ 2) (h3 : -2 ≤ a3 ∧ a3 ≤ 2)
    (hp0 : p0 = if decide (a0 < 0) = true then 1 else 0) (hp1 : p1 = if decide (a1 < 0) = true then 1 else 0) (hp2 : p2 = if decide (a2 < 0) = true then 1 else 0) (hp3 : p3 = if decide (a3 < 0) = true then 1 else 0)
    (k : ∀ q0 q1 q2 q3 : Int, Turn n q0 q1 q2 q3 → Fold a0 a1 a2 a3 q0 q1 q2 q3 p0 p1 p2 p3 → ∀ (m' : Str → Option Value) (h' : Heap) (tk' : Nat), Fr h₀ L h' (fun y => if y = x1 then some (.str (S (wordS a0 a1 a2 a3 q0 q1 q2 q3)) t1) else if y = x2 then some (.str (S (wordS a0 a1 a2 a3 p0 p1 p2 p3)) t2) else if y = x3 then some (v3) else if y = x4 then some (v4) else if y = x5 then some (v5) else if y = x6 then some (v6) else if y = x7 then some (v7) else if y = x8 then some (v8) else if y = x9 then some (v9) else if y = x10 then some (v10) else m' y) → News h₀ L h' news' → wpAny M A t Q E { s₁ with heap := h', toks := tk' }) : wpAny M A t Q E s :=
  trimH10 hg F N hs e1 e2 e3 e4 e5 e6 e7 e8 e9 e10 hN (k Q0 Q1 Q2 Q3 ⟨hn⟩ ⟨h0, h1, h2, h3, (turn_bit hn).1, (turn_bit hn).2.1, (turn_bit hn).2.2.1, (turn_bit hn).2.2.2, hp0, hp1, hp2, hp3⟩)
end
section
variable {prog : Program} {w : World} {A : Around} {E : Value → Shared → Prop} {s : Shared} {h₀ : Heap} {L D : Addr} {news : List (Addr × Obj)} {u : Tok} {Q : Value → Shared → Prop} {value slice : Expr}
theorem menu2 {k : Int} {t0 t1 : Tok} {e1 e2 : List Nat} (N : News h₀ L s.heap news) (hm : (D, tupO [.str (S e1) t0, .str (S e2) t1]) ∈ news) (h0 : 0 ≤ k) (h1 : k < 2)
    (h : ∀ n, Q (.str (S (if k = 0 then e1 else e2)) n) s)
    (hs : subscripted slice false (.ref D) (.int k u) = operate [.ref D, .int k u] (getItem (.ref D) (.int k u)) := by with_unfolding_all rfl) : wpAny (model prog w) A (subscriptTail value slice (.ref D) (.int k u)) Q E s := by
  have ht : IsTup s.heap D [Value.str (S e1) t0, .str (S e2) t1].toArray := ⟨_, (N _ hm).1, rfl, 0, rfl⟩
  obtain rfl | rfl : k = 0 ∨ k = 1 := by omega
  · exact item_tupleT ht (by decide) (by decide) (j := 0) rfl rfl (h _) hs
  · exact item_tupleT ht (by decide) (by decide) (j := 1) rfl rfl (h _) hs
end
theorem lev_toldH {a0 a1 a2 a3 q0 q1 q2 q3 p0 p1 p2 p3 : Int} (w : World) (mean : ExcName → Option Value) (mg mb : Str → Option Value) (h : Fold a0 a1 a2 a3 q0 q1 q2 q3 p0 p1 p2 p3) {k : Int} (h0 : 0 ≤ k) (h1 : k < 2) (t1 t2 t3 : Tok) :
    Told w mean mg mb 28 [.str (S (if k = 0 then [lt1 a0 q0 0, lt1 a1 q1 1, lt1 a2 q2 2, lt1 a3 q3 3, 122] else 121 :: wordS a0 a1 a2 a3 p0 p1 p2 p3)) t1, .str (S (if 1 - k = 0 then [lt1 a0 q0 0, lt1 a1 q1 1, lt1 a2 q2 2, lt1 a3 q3 3, 122] else 121 :: wordS a0 a1 a2 a3 p0 p1 p2 p3)) t2, .int 10 t3] 2 2 (fun _ => True) (RetI (min (dist a0 a1 a2 a3 q0 q1 q2 q3 + 4) 10)) := by
  obtain rfl | rfl : k = 0 ∨ k = 1 := by omega
  · exact lev_toldE w mean mg mb h t1 t2 t3
  · exact lev_toldF w mean mg mb h t1 t2 t3
section
variable {prog : Program} {w : World} {A : Around} {E : Value → Shared → Prop} {s : Shared} {h₀ : Heap} {L t : Addr} {m : Str → Option Value} {news : List (Addr × Obj)}
theorem sum_lstG {xs : Array (Int × Tok)} {Q : Value → Shared → Prop} (hh : A.handled = none) (ht : s.heap.IsList t (intItems xs))
    (h : ∀ h' tk t', (∀ b o, s.heap.get? b = some o → h'.get? b = some o) → Q (.int (preSum (numAt xs) xs.size) t') { s with heap := h', toks := tk }) :
    wpAny (model prog w) A (call (.builtin "sum") [.ref t]) Q E s := by
  obtain ⟨o, ho, hc, n, hd⟩ := id ht
  have hne : t ≠ s.heap.objs.size := Nat.ne_of_lt (Heap.lt_size ho)
  have hsz : (intItems xs).size = xs.size := by simp [intItems]
  have W := (Walks.list (prog := prog) (w := w) (A := A.in1) hh s.heap.objs.size t hne (intItems xs)).toS
  rw [hsz] at W
  refine call_sum_walkAnyS (wpAny_pyIter_list ht ?_)
  refine ⟨s.heap.objs.size, _, _, _, _, _, _, numAt xs, rfl, W, ⟨⟨_, Heap.get?_push_size _ rfl, rfl, rfl⟩, ht.at fun o e => Heap.get?_push_of_some _ e⟩, fun b hb => ?_, fun i v hP => intItems_at hP, fun s' t' hm => ?_⟩
  · rcases List.mem_cons.mp hb with rfl | hb
    · exact Heap.lt_size (Heap.get?_push_size _ rfl)
    · obtain rfl := List.mem_singleton.mp hb
      exact Heap.lt_size (Heap.get?_push_of_some _ ho)
  · obtain ⟨h', g', d', tk', os'⟩ := s'
    have e1 : g' = s.gens := hm.gens
    have e2 : d' = s.drawn := hm.drawn
    have e3 : os' = s.os := hm.os
    subst e1 e2 e3
    exact h h' tk' t' fun b o e => hm.heap b o (fun hb => absurd (Heap.lt_size e) ((List.mem_singleton.mp hb) ▸ Nat.lt_irrefl _)) (Heap.get?_push_of_some _ e)
theorem sum_lst {vs : List Value} {arr : Array Value} {ns : List Int} {Q : Value → Shared → Prop} {n : Nat} (hh : A.handled = none) (F : Fr h₀ L s.heap m) (N : News h₀ L s.heap news) (hm : (t, ({ cls := .type "list", data := .seq arr n } : Obj)) ∈ news) (ha : arr.toList = vs) (hi : IntsAre vs ns)
    (h : ∀ h' tk t', Fr h₀ L h' m → News h₀ L h' news → Q (.int ns.sum t') { s with heap := h', toks := tk }) :
    wpAny (model prog w) A (call (.builtin "sum") [.ref t]) Q E s := by
  have hl : s.heap.IsList t vs.toArray := ⟨_, (N _ hm).1, rfl, n, by rw [← ha]⟩
  obtain ⟨xs, hx⟩ := hi.allInts.items
  have hn : numsOf vs.toArray.toList = ns := by rw [show vs.toArray.toList = vs from rfl, hi.numsOf]
  rw [hx] at hl hn
  rw [nums_intItems] at hn
  refine sum_lstG hh hl fun h' tk t' hk => ?_
  have := h h' tk t' (F.keeps hk) (N.grown hk)
  rw [preSum_eq, List.take_of_length_le (by simp), hn]
  exact this
end
theorem ints4 {vs : List Value} {a b c d : Int} (h : IntsAre vs [a, b, c, d]) : ∃ t u v w : Tok, vs = [.int a t, .int b u, .int c v, .int d w] := by
  cases h with | cons _ t h => cases h with | cons _ u h => cases h with | cons _ v h => cases h with | cons _ w h => cases h with | nil => exact ⟨t, u, v, w, rfl⟩
theorem ints_cons {vs : List Value} {a : Int} {l : List Int} (h : IntsAre vs (a :: l)) : ∃ t vs', vs = Value.int a t :: vs' ∧ IntsAre vs' l := by
  cases h with | cons _ t h => exact ⟨t, _, rfl, h⟩
theorem ints_nil {vs : List Value} (h : IntsAre vs []) : vs = [] := by cases h; rfl
theorem ints6 {vs : List Value} {l : List Int} (h : IntsAre vs l) (hl : l.length = 6) : ∃ (a b c d e f : Int) (t u v w x y : Tok), vs = [.int a t, .int b u, .int c v, .int d w, .int e x, .int f y] :=
  match l, hl with
  | [a, b, c, d, e, f], _ => by
    obtain ⟨t, r0, rfl, h0⟩ := ints_cons h
    obtain ⟨u, r1, rfl, h1⟩ := ints_cons h0
    obtain ⟨v, r2, rfl, h2⟩ := ints_cons h1
    obtain ⟨w, r3, rfl, h3⟩ := ints_cons h2
    obtain ⟨x, r4, rfl, h4⟩ := ints_cons h3
    obtain ⟨y, r5, rfl, h5⟩ := ints_cons h4
    rw [ints_nil h5]
    exact ⟨a, b, c, d, e, f, t, u, v, w, x, y, rfl⟩
theorem angs4 {vs : List Value} {f : Int → Int} (hf : ∀ k, -2 ≤ f k ∧ f k ≤ 2) (h : IntsAre vs (List.map f (rangeKs 0 ((4 : Int) - 0).toNat))) :
    ∃ (a b c d : Int) (t u v w : Tok), (-2 ≤ a ∧ a ≤ 2) ∧ (-2 ≤ b ∧ b ≤ 2) ∧ (-2 ≤ c ∧ c ≤ 2) ∧ (-2 ≤ d ∧ d ≤ 2) ∧ vs = [.int a t, .int b u, .int c v, .int d w] := by
  have e : List.map f (rangeKs 0 ((4 : Int) - 0).toNat) = [f 0, f 1, f 2, f 3] := rfl
  rw [e] at h
  obtain ⟨t, u, v, w, e⟩ := ints4 h
  exact ⟨_, _, _, _, t, u, v, w, hf _, hf _, hf _, hf _, e⟩
theorem fm5 (x : Int) : -2 ≤ x.fmod 5 - 2 ∧ x.fmod 5 - 2 ≤ 2 := by
  have h1 := Int.fmod_nonneg_of_pos x (show (0 : Int) < 5 by decide)
  have h2 := Int.fmod_lt_of_pos x (show (0 : Int) < 5 by decide)
  omega
section
variable {prog : Program} {w : World} {A : Around} {E : Value → Shared → Prop} {s : Shared} {h₀ : Heap} {L D : Addr} {m : Str → Option Value} {news : List (Addr × Obj)} {t u : Tok} {Q : Value → Shared → Prop} {value slice : Expr}
theorem mod_any {x m : Int} (hm : 0 < m) (h : ∀ r, 0 ≤ r → r < m → Q (.int r s.toks) { s with toks := s.toks + 1 }) : wpAny (model prog w) A (binaryOp .Mod (.int x t) (.int m u)) Q E s :=
  mod_int' (by omega) (h _ (Int.fmod_nonneg_of_pos x hm) (Int.fmod_lt_of_pos x hm))
theorem mod_keep {x m : Int} (hm : 0 < m) (h : Q (.int (x % m) s.toks) { s with toks := s.toks + 1 }) : wpAny (model prog w) A (binaryOp .Mod (.int x t) (.int m u)) Q E s :=
  mod_int' (by omega) (by rw [Int.fmod_eq_emod_of_nonneg x (by omega)]; exact h)
theorem div_4 {r : Int} (h0 : 0 ≤ r) (h1 : r < 4) (hs : s.toks ≠ 0) (h : ∀ x n k, n ≠ 0 → Quarter x → Q (.float x n) { s with toks := k }) : wpAny (model prog w) A (binaryOp .Div (.int (r + 1) t) (.int 4 u)) Q E s := by
  obtain rfl | rfl | rfl | rfl : r = 0 ∨ r = 1 ∨ r = 2 ∨ r = 3 := by omega
  all_goals exact AutoIntOps.truediv_2 (by decide) (by decide +kernel) (h _ _ _ hs ⟨by decide +kernel⟩)
theorem div_16 {r : Int} (h0 : -100 ≤ r) (h1 : r ≤ 100) (h : ∀ n k, Q (.float (h16 r) n) { s with toks := k }) : wpAny (model prog w) A (binaryOp .Div (.int r t) (.int 16 u)) Q E s := by
  have e : Float64.ofFrac (decide (r < 0) != decide ((16 : Int) < 0)) r.natAbs (Int.natAbs 16) = h16 r := by unfold h16; simp
  have hi : ¬ Float64.isInf (h16 r) = true := by
    rw [← e]
    exact fun hi => absurd hi (Flt.quot_fits (by decide) (Nat.lt_of_le_of_lt (show r.natAbs ≤ 100 by omega) (by decide +kernel)))
  exact AutoIntOps.truediv_2 (by decide) (by rw [e]; exact hi) (by rw [e]; exact h _ _)
theorem div_16n {r : Int} (h0 : -100 ≤ r) (h1 : r ≤ 100) (hs : s.toks ≠ 0) (h : ∀ n k, n ≠ 0 → Q (.float (h16 r) n) { s with toks := k }) : wpAny (model prog w) A (binaryOp .Div (.int r t) (.int 16 u)) Q E s := by
  have e : Float64.ofFrac (decide (r < 0) != decide ((16 : Int) < 0)) r.natAbs (Int.natAbs 16) = h16 r := by unfold h16; simp
  have hi : ¬ Float64.isInf (h16 r) = true := by
    rw [← e]
    exact fun hi => absurd hi (Flt.quot_fits (by decide) (Nat.lt_of_le_of_lt (show r.natAbs ≤ 100 by omega) (by decide +kernel)))
  exact AutoIntOps.truediv_2 (by decide) (by rw [e]; exact hi) (by rw [e]; exact h _ _ hs)
theorem menu_end {k : Int} {t0 t1 t2 t3 : Tok} (N : News h₀ L s.heap news) (hm : (D, tupO [.str (S []) t0, .str (S [34]) t1, .str (S [34, 32, 121]) t2, .str (S [34, 121, 34, 34]) t3]) ∈ news) (h0 : 0 ≤ k) (h1 : k < 4)
    (h : ∀ e n, parseL e = [] → e.length ≤ 10 → Q (.str (S e) n) s)
    (hs : subscripted slice false (.ref D) (.int k u) = operate [.ref D, .int k u] (getItem (.ref D) (.int k u)) := by with_unfolding_all rfl) : wpAny (model prog w) A (subscriptTail value slice (.ref D) (.int k u)) Q E s := by
  have ht : IsTup s.heap D [Value.str (S []) t0, .str (S [34]) t1, .str (S [34, 32, 121]) t2, .str (S [34, 121, 34, 34]) t3].toArray := ⟨_, (N _ hm).1, rfl, 0, rfl⟩
  obtain rfl | rfl | rfl | rfl : k = 0 ∨ k = 1 ∨ k = 2 ∨ k = 3 := by omega
  · exact item_tupleT ht (by decide) (by decide) (j := 0) rfl rfl (h _ _ (by decide) (by decide)) hs
  · exact item_tupleT ht (by decide) (by decide) (j := 1) rfl rfl (h _ _ (by decide) (by decide)) hs
  · exact item_tupleT ht (by decide) (by decide) (j := 2) rfl rfl (h _ _ (by decide) (by decide)) hs
  · exact item_tupleT ht (by decide) (by decide) (j := 3) rfl rfl (h _ _ (by decide) (by decide)) hs
end
theorem turn4 {vs : List Value} {g : Int → Bool} {a b c d : Int} (h : IntsAre vs (List.map (fun k => if g k = true then (1 : Int) else 0) [a, b, c, d])) :
    ∃ (p q r s : Int) (t u v w : Tok), (p = 0 ∨ p = 1) ∧ (q = 0 ∨ q = 1) ∧ (r = 0 ∨ r = 1) ∧ (s = 0 ∨ s = 1) ∧ (p = if g a = true then 1 else 0) ∧ (q = if g b = true then 1 else 0) ∧ (r = if g c = true then 1 else 0) ∧ (s = if g d = true then 1 else 0) ∧ vs = [.int p t, .int q u, .int r v, .int s w] := by
  have hf : ∀ x, (if g x = true then (1 : Int) else 0) = 0 ∨ (if g x = true then (1 : Int) else 0) = 1 := fun x => by split <;> simp
  obtain ⟨t, u, v, w, e⟩ := ints4 (a := if g a = true then 1 else 0) (b := if g b = true then 1 else 0) (c := if g c = true then 1 else 0) (d := if g d = true then 1 else 0) h
  exact ⟨_, _, _, _, t, u, v, w, hf _, hf _, hf _, hf _, rfl, rfl, rfl, rfl, e⟩
theorem at_l1 {prog : Program} {w : World} {A : Around} {E : Value → Shared → Prop} {s : Shared} {h₀ : Heap} {L : Addr} {all : Led} {u : Tok} {Q : Value → Shared → Prop} {value slice : Expr} {vs : List Value} {z k : Nat} {v : Value} {l : Addr} (N : News h₀ L s.heap all) (hm : (l, listOf vs.toArray z) ∈ all) (e : vs[k + 1]? = some v) (hk : Nat.ble k 1000 = true) (h : Q v s)
    (hs : subscripted slice false (.ref l) (.int (0 + (k : Int) + 1) u) = operate [.ref l, .int (0 + (k : Int) + 1) u] (getItem (.ref l) (.int (0 + (k : Int) + 1) u)) := by with_unfolding_all rfl) :
    wpAny (model prog w) A (subscriptTail value slice (.ref l) (.int (0 + (k : Int) + 1) u)) Q E s := by
  have hk' := Nat.le_of_ble_eq_true hk
  have hl : s.heap.IsList l vs.toArray := ⟨_, (N _ hm).1, rfl, z, rfl⟩
  have e2 : (0 + (k : Int) + 1).toNat = k + 1 := by omega
  exact tail_any hl.typeIs slot_list_getitem.lookup (wpAny_getItem_list hl (by omega) (by omega) (x := v) (by rw [e2]; simpa using e) h) hs
theorem bit_or (b : Bool) : (if b = true then (1 : Int) else 0) = 0 ∨ (if b = true then (1 : Int) else 0) = 1 := by cases b <;> simp
local macro_rules | `(tactic| k_ne) => `(tactic| (refine neN ?_; (try dsimp only); (repeat ((rename (_ ≠ _ ∧ _) => o9); (have oa9 := o9.1); (have ob9 := o9.2); clear o9)); first | (with_reducible assumption) | (exact Ne.symm (by with_reducible assumption))))
theorem said15 : True := by
  k_with "execs cons" => (k_here; (first | (with_reducible show wpAny _ _ (execs (Stmt.Assign _ _ _ :: _) _) _ _ _) | (with_reducible show wpAny _ _ (execs (Stmt.If _ _ _ _ :: _) _) _ _ _) | (with_reducible show wpAny _ _ (execs (Stmt.Return _ _ :: _) _) _ _ _)); (try k_made); (try k_gentoks); (try ((first | (with_reducible show wpAny _ _ (execs ((Stmt.Assign [Expr.Name (Str.ofString "before") _] _ _) :: _) _) _ _ _) | (with_reducible show wpAny _ _ (execs ((Stmt.Assign [Expr.Name (Str.ofString "after") _] _ _) :: _) _) _ _ _) | (with_reducible show wpAny _ _ (execs ((Stmt.Assign [Expr.Name (Str.ofString "ends") _] _ _) :: _) _) _ _ _) | (with_reducible show wpAny _ _ (execs ((Stmt.Assign [Expr.Name (Str.ofString "due") _] _ _) :: _) _) _ _ _) | (with_reducible show wpAny _ _ (execs ((Stmt.Assign [Expr.Name (Str.ofString "told") _] _ _) :: _) _) _ _ _) | (with_reducible show wpAny _ _ (execs ((Stmt.Assign [Expr.Tuple [Expr.Name (Str.ofString "ahead") _, _, _, _] _ _] _ _) :: _) _) _ _ _) | (with_reducible show wpAny _ _ (execs ((Stmt.Assign [Expr.Tuple [Expr.Name (Str.ofString "few") _, _] _ _] _ _) :: _) _) _ _ _) | (with_reducible show wpAny _ _ (execs ((Stmt.If (Expr.Compare (Expr.BinOp _ _ _ _) _ _ _) _ _ _) :: _) _) _ _ _) | (with_reducible show wpAny _ _ (execs ((Stmt.If (Expr.Compare (Expr.Call _ [Expr.Subscript _ _ _, _, _] _ _) _ _ _) _ _ _) :: _) _) _ _ _)); (rename Fr _ _ _ _ => F9); (rename News _ _ _ _ => N9); k_dflt (refine letFN F9 N9 ?_); clear F9 N9; intro m9 nw9 F9 N9; (try dsimp only at F9 N9))); (with_reducible refine wpAny_execs_cons ?_); k_dflt (refine hide ?_); intro Q9 hQ9)
  k_with "Thn" => ((with_reducible refine to_go (by with_reducible assumption) ?_); (try dsimp only))
  k_with "call builtin:sum" => (k_here; (with_reducible show wpAny _ _ (call (Value.builtin "sum") [Value.ref _]) _ _ _); (rename IntsAre _ _ => hI9); (rename Fr _ _ _ _ => F'); (rename News _ _ _ _ => N'); k_dflt (refine sum_lst (by rfl) F' N' (.head _) rfl (hI9.pick _ _ _) ?_); clear F' N'; intro h' tk' t' F' N')
  k_with "execs cons" => ((rename IntsAre _ (List.map _ (rangeKs 0 ((6 : Int) - 0).toNat)) => hI9); obtain ⟨d0, d1, d2, d3, d4, d5, u0, u1, u2, u3, u4, u5, e9⟩ := ints6 hI9 (by rw [List.length_map, rangeKs_length]; decide); clear hI9; subst e9)
  k_with "execs cons" => ((rename IntsAre _ (List.map _ (rangeKs 0 ((4 : Int) - 0).toNat)) => hI9); obtain ⟨a0, a1, a2, a3, u0, u1, u2, u3, b0, b1, b2, b3, e9⟩ := angs4 (fun _ => fm5 _) hI9; clear hI9; subst e9)
  k_with "binaryOp Mod int int" => (first | ((with_reducible show wpAny _ _ (binaryOp _ (Value.int (_ - _) _) (Value.int 16 _)) _ _ _); refine mod_keep (by decide) ?_) | ((with_reducible show wpAny _ _ (binaryOp _ (Value.int (Int.fdiv _ _) _) _) _ _ _); refine mod_any (by decide) ?_; intro r9 hr0 hr1) | ((with_reducible show wpAny _ _ (binaryOp _ _ (Value.int 16 _)) _ _ _); refine mod_any (by decide) ?_; intro r9 hr0 hr1) | ((with_reducible show wpAny _ _ (binaryOp _ _ (Value.int 4 _)) _ _ _); refine mod_any (by decide) ?_; intro r9 hr0 hr1))
  k_with "binaryOp Div int int" => (first | ((with_reducible show wpAny _ _ (binaryOp _ (Value.int (_ + 1) _) (Value.int 4 _)) _ _ _); k_dflt (refine div_4 (by omega) (by omega) (by first | exact Nat.succ_ne_zero _ | (with_reducible assumption)) ?_); intro x9 n9 k9 hn9 hQ9) | ((with_reducible show wpAny _ _ (binaryOp _ _ (Value.int 16 _)) _ _ _); refine div_16 (by omega) (by omega) ?_; intro n9 k9))
  k_with "binaryOp Div int int" => ((with_reducible show wpAny _ _ (binaryOp _ (Value.int (_ % 16) _) (Value.int 16 _)) _ _ _); k_dflt (refine div_16n (by omega) (by omega) (by first | exact Nat.succ_ne_zero _ | (with_reducible assumption)) ?_); intro n9 k9 hn9)
  k_with "subscriptTail" => ((with_reducible show wpAny _ _ (subscriptTail (Expr.Tuple _ _ _) (Expr.BinOp _ _ _ _) (Value.ref _) (Value.int _ _)) _ _ _); (rename News _ _ _ _ => N'); k_dflt (refine menu_end N' (.head _) (by omega) (by omega) ?_); intro e9 n9 he9 hl9)
  k_with "call ref" => (k_here; (with_reducible show wpAny _ _ (call (Value.ref 79) [Value.ref _]) _ _ _); k_dflt (refine' told_use (fold_told _ _ _ _ _ _ _ _ _ _ _ _ _ _) ?k1z63 ?k2z63 ?k3z63 ?k4z63 ?k5z63 ?kKz63 ?kpz63 ?kdz63 ?kuz63 ?_; (case k1z63 => k_asm); (case k2z63 => k_asm); (case k3z63 => k_asm); (case k4z63 => k_asm); (case k5z63 => k_asm); (case kKz63 => first | exact rfl | assumption); (case kpz63 => exact ⟨by k_mem⟩); (case kdz63 => ktr_room); (case kuz63 => ktr_units)); intro q' vs9 n9 h' tk' hI9 F' N' l1; (try simp only [List.forall_mem_cons, List.not_mem_nil, false_imp_iff, implies_true, forall_const, and_true] at l1); (try dsimp only))
  k_with "call ref" => (k_here; (with_reducible show wpAny _ _ (call (Value.ref 42) [Value.float (h16 _) _, Value.float _ _, Value.float _ _]) _ _ _); k_dflt (refine' told_use (hsv_told2 _ _ _ _ _ _ _ _ _ _ ?kxz64 ?kyz64 ?kzz64) ?k1z64 ?k2z64 ?k3z64 ?k4z64 ?k5z64 ?kKz64 ?kpz64 ?kdz64 ?kuz64 ?_; (case kxz64 => omega); (case kyz64 => omega); (case kzz64 => with_reducible assumption); (case k1z64 => k_asm); (case k2z64 => k_asm); (case k3z64 => k_asm); (case k4z64 => k_asm); (case k5z64 => k_asm); (case kKz64 => first | exact rfl | assumption); (case kpz64 => trivial); (case kdz64 => ktr_room); (case kuz64 => ktr_units)); intro q' n1' n2' n3' h' tk' hn9 F' N' l1; (have hn1 := (hn9 True.intro).1); (have hn2 := (hn9 True.intro).2.1); (have hn3 := (hn9 True.intro).2.2); clear hn9; (try k_lt l1); (try dsimp only))
  k_with "M pyIter ref" => (k_here; (with_reducible show wpAny _ _ (pyIter (Value.ref _)) (fun it s₂ => LoopAtV _ _ _ _ _ _ _ _ _ it s₂) _ _); (rename IsRange _ _ 1 _ 1 _ _ _ => R9); (rename Fr _ _ _ _ => lF'); (rename News _ _ _ _ => lN'); (rename IntsAre _ (foldS _ _ _ _) => hI9); k_dflt (refine' colour_loop hI9 (by rfl) ?p0z65 ?p1z65 R9 lF' lN' ?s0z65 ?s1z65 (.head _) (fun p hp => .tail _ hp) (by rfl) ?nez65 ?z1z65 ?z2z65 ?z3z65 ?turnz65 ?donez65; (case z1z65 => with_reducible assumption); (case z2z65 => with_reducible assumption); (case z3z65 => with_reducible assumption); (case p0z65 => omega); (case p1z65 => omega); (case s0z65 => omega); (case s1z65 => omega); (case nez65 => ((try dsimp only); repeat (first | exact List.forall_mem_nil _ | refine List.forall_mem_cons.mpr ⟨by (try dsimp only); ((repeat ((rename (_ ≠ _ ∧ _) => o9); (have oa9 := o9.1); (have ob9 := o9.2); clear o9)); first | (with_reducible assumption) | (exact Ne.symm (by with_reducible assumption)) | k_ne), ?_⟩)))); (case' turnz65 => (clear lF' lN' R9; intro I' i' u9' q' j' n1' n2' n3' t' h' tk' lI hi' hj0 hj1 hjm hk1 hk2 hk3 hne' hqI F' N'; (try simp only [List.forall_mem_cons, List.not_mem_nil, false_imp_iff, implies_true, forall_const, and_true] at lI hne'); (try dsimp only [colM] at F'))); (case' donez65 => (clear lF' lN' R9; intro u9' q' j' n1' n2' n3' h' tk' hj0 hj1 hjm hk1 hk2 hk3 hne' F' N'; (try simp only [List.forall_mem_cons, List.not_mem_nil, false_imp_iff, implies_true, forall_const, and_true] at hne'); (try dsimp only [colM] at F'))))
  k_with "call ref" => (k_here; (with_reducible show wpAny _ _ (call (Value.ref 93) [Value.int (1 + _) _, Value.ref _, Value.str (S _) _]) _ _ _); k_dflt (refine' told_use (crease_told2 _ _ _ _ _ _ _ _ _ _ _ _ _ _ _ _ _ _ _ ?x1z66 ?x2z66 ?x3z66 ?x4z66 ?x5z66 ?x6z66 ?x7z66 ?x8z66) ?k1z66 ?k2z66 ?k3z66 ?k4z66 ?k5z66 ?kKz66 ?kpz66 ?kdz66 ?kuz66 ?_; (case k1z66 => k_asm); (case k2z66 => k_asm); (case k3z66 => k_asm); (case k4z66 => k_asm); (case k5z66 => k_asm); (case kKz66 => first | exact rfl | assumption); (case kpz66 => exact ⟨by k_mem⟩); (case x1z66 => with_reducible assumption);  (case x2z66 => with_reducible assumption); (case x3z66 => with_reducible assumption); (case x4z66 => with_reducible assumption); (case x5z66 => with_reducible assumption); (case x6z66 => with_reducible assumption); (case x7z66 => with_reducible assumption); (case x8z66 => with_reducible assumption); (case kdz66 => ktr_room); (case kuz66 => ktr_units)); intro c' t' h' tk' hc9 hc0 hc1 F' N'; (try dsimp only))
  k_with "call ref" => (k_here; (with_reducible show wpAny _ _ (call (Value.ref 35) [Value.float (hsvS (h16 _) _ _).1 _, Value.float _ _, Value.float _ _]) _ _ _); k_dflt (refine' told_use (rgb_told2 _ _ _ _ _ _ _ _ _ _ ?x1z67 ?x2z67 ?x3z67 ?x4z67 ?x5z67 ?x6z67 ?x7z67) ?k1z67 ?k2z67 ?k3z67 ?k4z67 ?k5z67 ?kKz67 ?kpz67 ?kdz67 ?kuz67 ?_; (case x1z67 => with_reducible assumption);  (case x2z67 => with_reducible assumption); (case x3z67 => with_reducible assumption); (case x4z67 => with_reducible assumption); (case x5z67 => with_reducible assumption); (case x6z67 => with_reducible assumption); (case x7z67 => with_reducible assumption); (case k1z67 => k_asm); (case k2z67 => k_asm); (case k3z67 => k_asm); (case k4z67 => k_asm); (case k5z67 => k_asm); (case kKz67 => first | exact rfl | assumption); (case kpz67 => trivial); (case kdz67 => ktr_room); (case kuz67 => ktr_units)); intro q' n1' n2' n3' h' tk' hn9 F' N' l1; (have hn1 := (hn9 True.intro).1); (have hn2 := (hn9 True.intro).2.1); (have hn3 := (hn9 True.intro).2.2); clear hn9; (try k_lt l1); (try dsimp only))
  k_with "binaryOp Add float int" => ((with_reducible show wpAny _ _ (binaryOp _ (Value.float (h16 _) _) (Value.int 1 _)) _ _ _); k_dflt (refine add_one (by omega) (by omega) ?_))
  k_with "binaryOp Add float float" => ((with_reducible show wpAny _ _ (binaryOp _ (Value.float (h16 _) _) (Value.float (h16 _) _)) _ _ _); k_dflt (refine add_cr (by omega) (by omega) (by omega) (by omega) ?_))
  k_with "subscriptTail" => ((with_reducible show wpAny _ _ (subscriptTail _ _ (Value.ref _) (Value.int (1 + _ - 1) _)) _ _ _); (rename News _ _ _ _ => N'); (rename IntsAre _ (foldS _ _ _ _) => hI9); k_dflt (refine at_cs N' (by k_mem) hI9 (by simp; omega) (by simp) ?_); intro t9)
  k_with "compareOp NotEq int int" => ((with_reducible show wpAny _ _ (compareOp _ (Value.int _ _) (Value.int (List.getD _ _ _) _)) _ _ _); refine ne_same (by with_reducible assumption) ?_)
  k_with "UnrEnd" => ((with_reducible show UnrEnd _ _ _ _ _ (ColI _ _ _ _ _ _ _ _) _); (rename Fr _ _ _ _ => F9); (rename News _ _ _ _ => N9); k_dflt (refine' colour_end _ F9 N9 (.head _) ?hIz72 ?hownz72 ?offIz72 ?hqIz72 ?hnez72 ?hmz72 ?hm2z72 rfl ?h0z72 ?h1z72 ?hjz72 ?hnnz72; (case hnnz72 => exact ⟨by with_reducible assumption, by with_reducible assumption, by with_reducible assumption⟩); (case hIz72 => k_mem); (case hownz72 => first | exact fun p hp => .tail _ (.tail _ (.tail _ (.tail _ hp))) | exact fun p hp => .tail _ (.tail _ (.tail _ hp)) | exact fun p hp => .tail _ (.tail _ hp)); (case offIz72 => (repeat (first | exact List.forall_mem_nil _ | refine List.forall_mem_cons.mpr ⟨by (try dsimp only); ((repeat ((rename (_ ≠ _ ∧ _) => o9); (have oa9 := o9.1); (have ob9 := o9.2); clear o9)); first | (with_reducible assumption) | (exact Ne.symm (by with_reducible assumption)) | k_ne), ?_⟩))); (case hqIz72 => ((repeat ((rename (_ ≠ _ ∧ _) => o9); (have oa9 := o9.1); (have ob9 := o9.2); clear o9)); first | (with_reducible assumption) | (exact Ne.symm (by with_reducible assumption)) | k_ne)); (case hnez72 => ((try dsimp only); repeat (first | exact List.forall_mem_nil _ | refine List.forall_mem_cons.mpr ⟨by (try dsimp only); ((repeat ((rename (_ ≠ _ ∧ _) => o9); (have oa9 := o9.1); (have ob9 := o9.2); clear o9)); first | (with_reducible assumption) | (exact Ne.symm (by with_reducible assumption)) | k_ne), ?_⟩))); (case hmz72 => rfl); (case h0z72 => omega); (case h1z72 => omega)); (case hjz72 => (rw [take_sum]; omega)); (case hm2z72 => (intro z9 z1 z2 z3 z4 z5 z6; simp [z1, z2, z3, z4, z5, z6])))
  k_with "call ref" => (k_here; (with_reducible show wpAny _ _ (call (Value.ref 86) [Value.int _ _, Value.str (S _) _]) _ _ _); k_dflt (refine' told_use (read_told _ _ _ _ _ _ _ _ ?x1z73 ?x2z73 ?x3z73 ?x4z73) ?k1z73 ?k2z73 ?k3z73 ?k4z73 ?k5z73 ?kKz73 ?kpz73 ?kdz73 ?kuz73 ?_; (case x1z73 => omega);  (case x2z73 => omega); (case x3z73 => with_reducible assumption); (case x4z73 => with_reducible assumption); (case k1z73 => k_asm); (case k2z73 => k_asm); (case k3z73 => k_asm); (case k4z73 => k_asm); (case k5z73 => k_asm); (case kKz73 => first | exact rfl | assumption); (case kpz73 => trivial); (case kdz73 => ktr_room); (case kuz73 => ktr_units)); intro q' n1' h' tk' F' N' l1; (try k_lt l1); (try dsimp only))
  k_with "call ref" => (k_here; (with_reducible show wpAny _ _ (call (Value.ref 98) [Value.ref _, Value.ref _]) _ _ _); k_dflt (refine' told_use (word_told _ _ _ _ _ _ _ _ _ _ _ _ _ _ _ _ _ _ _ _ _ _ _ _ ?x1z74 ?x2z74 ?x3z74 ?x4z74) ?k1z74 ?k2z74 ?k3z74 ?k4z74 ?k5z74 ?kKz74 ?kpz74 ?kdz74 ?kuz74 ?_; (case k1z74 => k_asm); (case k2z74 => k_asm); (case k3z74 => k_asm); (case k4z74 => k_asm); (case k5z74 => k_asm); (case kKz74 => first | exact rfl | assumption); (case kpz74 => exact ⟨⟨by k_mem⟩, ⟨by k_mem⟩⟩); (case x1z74 => exact ⟨by omega, by omega, by first | exact Or.inl rfl | (with_reducible assumption) | exact bit_or _⟩);  (case x2z74 => exact ⟨by omega, by omega, by first | exact Or.inl rfl | (with_reducible assumption) | exact bit_or _⟩); (case x3z74 => exact ⟨by omega, by omega, by first | exact Or.inl rfl | (with_reducible assumption) | exact bit_or _⟩); (case x4z74 => exact ⟨by omega, by omega, by first | exact Or.inl rfl | (with_reducible assumption) | exact bit_or _⟩); (case kdz74 => ktr_room); (case kuz74 => ktr_units)); intro t' h' tk' F' N'; (try dsimp only))
  k_with "call ref" => (k_here; (with_reducible show wpAny _ _ (call (Value.ref 98) [Value.ref _, Value.ref _]) _ _ _); (rename IntsAre _ (List.map (_ : Int → Int) _) => hI9); k_dflt (have h9 := turn4 hI9); clear hI9; (obtain ⟨p0, p1, p2, p3, x0, x1, x2, x3, ho0, ho1, ho2, ho3, hp0, hp1, hp2, hp3, e9⟩ := h9); subst e9; (try dsimp only at hp0 hp1 hp2 hp3); (try dsimp only))
  k_with "call ref" => (k_here; (with_reducible show wpAny _ _ (call (Value.ref 28) [Value.str (S _) _, Value.str (S _) _, Value.int _ _]) _ _ _); k_dflt (refine' told_use (lev_told _ _ _ _ _ _ _ _ _ _ ?x1z76 ?x2z76) ?k1z76 ?k2z76 ?k3z76 ?k4z76 ?k5z76 ?kKz76 ?kpz76 ?kdz76 ?kuz76 ?_; (case k1z76 => k_asm); (case k2z76 => k_asm); (case k3z76 => k_asm); (case k4z76 => k_asm); (case k5z76 => k_asm); (case kKz76 => first | exact rfl | assumption); (case kpz76 => trivial); (case x1z76 => first | exact Nat.le_of_ble_eq_true rfl | (simp; omega));  (case x2z76 => first | exact Nat.le_of_ble_eq_true rfl | (simp; omega)); (case kdz76 => ktr_room); (case kuz76 => ktr_units)); intro t' h' tk' F' N'; (try dsimp only))
  k_with "CompSrc" => (k_here; (with_reducible show LCg.CompSrc _ _ _ _ _ _ _ (Expr.Call _ [Expr.Compare (Expr.Subscript _ _ _) _ _ _] _ _) _ _ _ _ _ _); k_dflt (refine LCg.CompSrc.range (by rfl) (by k_asm) (by k_asm) (by assumption) (by first | decide | rfl) (by first | rfl | decide) (by exact Nat.le_of_ble_eq_true rfl) ?_); intro g9; lcg_lit)
  k_with "CompRest" => (with_unfolding_all (refine LCg.CompRest.succ ?_; intro v' I' oI' C' oC' D' m' h' tk' E' hv' hC' hx' F' N' off' ne'; (first | lcg_open hv' | (obtain ⟨t9', hv9'⟩ := hv'; subst hv9')); k_dflt (refine hide ?_); intro Q9 hQ9))
  k_with "CompEnd" => ((with_reducible show LCg.CompEnd _ _ _ _ _ _ _ _ _ _ _ (fun y news' => LCg.CompRest _ _ _ _ _ _ _ _ _ _ _ _ _ _ _ _ _ _ _) _ _); (rename LCg.Off3 _ _ _ _ => off9); k_dflt (refine comp_same (by with_reducible assumption) (by with_reducible assumption) off9 trivial ?_); clear off9)
  k_with "subscriptTail" => ((with_reducible show wpAny _ _ (subscriptTail (Expr.Name _ _) (Expr.Name _ _) (Value.ref _) (Value.int (0 + _) _)) _ _ _); (rename News _ _ _ _ => N'); k_dflt (refine at_l N' (by k_mem) (by rfl) (by rfl) ?_))
  k_with "subscriptTail" => ((with_reducible show wpAny _ _ (subscriptTail (Expr.Name _ _) (Expr.BinOp _ _ _ _) (Value.ref _) (Value.int (0 + _ + 1) _)) _ _ _); (rename News _ _ _ _ => N'); k_dflt (refine at_l1 N' (by k_mem) (by rfl) (by rfl) ?_))
  k_with "CompSrc" => (k_here; (with_reducible show LCg.CompSrc _ _ _ _ _ _ _ (Expr.Call _ [Expr.Compare (Expr.Name _ _) _ _ _] _ _) _ _ _ _ _ _); k_dflt (refine LCg.CompSrc.ledger (by rfl) (by k_asm) (by k_asm) (by k_mem) (by kcf_size) ?_; intro g9; (refine' kcf_list _ (by first | assumption | l_ints) (fun k9 t9 I9 oI9 C9 oC9 D9 m9 ys9 h9 tk9 E9 hk9 hC9 hx9 F9 N9 off9 ne9 hMark9 => ?_) ?_); (all_goals (try (simp only [LCg.Off3, and_true] at off9))); kcf_last))
  k_with "CompSrc" => (k_here; (with_reducible show LCg.CompSrc _ _ _ _ _ _ _ (Expr.BinOp _ _ _ _) _ _ _ _ _ _); k_dflt (refine LCg.CompSrc.range (by rfl) (by k_asm) (by k_asm) (by assumption) (by decide) (by exact rangeSize_nat _ _) (by exact Nat.le_of_ble_eq_true rfl) ?_; intro g9; (refine' kcf_range _ (fun k9 t9 I9 oI9 C9 oC9 D9 m9 ys9 h9 tk9 E9 hlo9 hhi9 hC9 hx9 F9 N9 off9 ne9 hMark9 => ?_) ?_); kcf_last))
  k_with "M pyIter ref" => (k_here; (with_reducible show wpAny _ _ (pyIter (Value.ref _)) (fun it s₂ => LoopAtV _ _ _ _ _ _ _ _ _ it s₂) _ _); (rename IsRange _ _ 0 5 1 _ _ _ => R9); (rename Fr _ _ _ _ => lF'); (rename News _ _ _ _ => lN'); k_dflt (refine' evens_loop rfl (by rfl) ?ep0z84 ?ep1z84 R9 lF' lN' (.head _) (fun p hp => .tail _ hp) rfl ?eturnz84 ?edonez84; (case ep0z84 => omega); (case ep1z84 => omega); (case' eturnz84 => (clear lF' lN' R9; intro I' i' u9' v' vs' z' t1' t2' h' tk' hlI' lI' hv' hvs' hv0 hv1 hsz9 F' N'; (try dsimp only [evM] at F'))); (case' edonez84 => (clear lF' lN' R9; intro u9' t9' z9' h' tk' F' N'; (try dsimp only [evM] at F')))))
  k_with "UnrEnd" => ((with_reducible show UnrEnd _ _ _ _ _ (EvI _ _ _ _ _) _); (rename Fr _ _ _ _ => F9); (rename News _ _ _ _ => N9); (rename (∀ p ∈ (_ : Led), @LT.lt Nat _ p.1 _) => lI9); k_dflt (refine' evens_end F9 N9 (.tail _ (.tail _ (.head _))) (.tail _ (.head _)) (fun p hp => .tail _ (.tail _ (.tail _ hp))) (fun p hp => Nat.ne_of_lt (lI9 p hp)) ?ehlIz85 ?ehvz85 ?ehvsz85 ?eharz85 rfl ?ehm2z85; (case ehvz85 => with_reducible assumption); (case ehvsz85 => with_reducible assumption); (case ehlIz85 => exact Nat.ne_of_lt (by with_reducible assumption)); (case eharz85 => rfl); (case ehm2z85 => (intro z9 z1 z2 z3; simp [z1, z2, z3]))))
  k_with "call builtin:list.append" => (k_here; (with_reducible show wpAny _ _ (call (Value.builtin _) [Value.ref _, Value.bool _]) _ _ _); k_dflt (refine' append_K ?ek1z86 ?ek2z86 ?ek3z86 ?_ ?ezz86; (case ek1z86 => k_asm); (case ek2z86 => k_asm); (case ek3z86 => k_upd); (case ezz86 => with_reducible assumption); k_whole); intro h' F' N'; (try k_sweep))
  trivial
section
variable {prog : Program} {w : World} {A : Around} {E : Value → Shared → Prop} {s : Shared} {h₀ : Heap} {L t : Addr} {m : Str → Option Value} {news : List (Addr × Obj)} {Q : Value → Shared → Prop}
theorem sum_car {vs : List Value} {ns : List Int} (hh : A.handled = none) (F : Fr h₀ L s.heap m) (N : News h₀ L s.heap news) (hl : s.heap.IsList t vs.toArray) (hi : IntsAre vs ns)
    (h : ∀ h' tk t', Fr h₀ L h' m → News h₀ L h' news → Q (.int ns.sum t') { s with heap := h', toks := tk }) :
    wpAny (model prog w) A (call (.builtin "sum") [.ref t]) Q E s := by
  obtain ⟨xs, hx⟩ := hi.allInts.items
  have hn : numsOf vs.toArray.toList = ns := by rw [show vs.toArray.toList = vs from rfl, hi.numsOf]
  rw [hx] at hl hn
  rw [nums_intItems] at hn
  refine sum_lstG hh hl fun h' tk t' hk => ?_
  have := h h' tk t' (F.keeps hk) (N.grown hk)
  rw [preSum_eq, List.take_of_length_le (by simp), hn]
  exact this
end
theorem ne_t3h {prog : Program} {w : World} {A : Around} {E : Value → Shared → Prop} {s : Shared} {K : Frag} {h : Heap} {a b : Addr} {i k : Int} {y z : UInt64} {n1 n2 n3 m1 m2 m3 : Tok} {Q : Value → Shared → Prop} {h₀ : Heap} {L : Addr} {news : Led} (X : K.In h) (e : nsIn K cStatics sharingNotToldKey = some none) (kp : ∀ b o, h.get? b = some o → s.heap.get? b = some o) (N : News h₀ L s.heap news)
    (ha : (a, tupO [.float (h16 i) n1, .float y n2, .float z n3]) ∈ news) (hb : (b, tupO [.float (h16 k) m1, .float y m2, .float z m3]) ∈ news) (hu : A.units < cLine) (hk : i = k) (h0 : 0 ≤ i) (h1 : i < 16)
    (hy : Quarter y) (hz : Quarter z) (hn1 : n1 ≠ 0) (hn2 : n2 ≠ 0) (hn3 : n3 ≠ 0) (hm1 : m1 ≠ 0) (hm2 : m2 ≠ 0) (hm3 : m3 ≠ 0) (hQ : Q (.bool false) s) : wpAny (model prog w) A (compareOp .NotEq (.ref a) (.ref b)) Q E s := by
  subst hk
  exact ne_t3 X e kp N ha hb hu (cmp_h h0 h1) (cmp_q hy) (cmp_q hz) hn1 hn2 hn3 hm1 hm2 hm3 hQ
section
variable {a0 a1 a2 a3 q0 q1 q2 q3 p0 p1 p2 p3 : Int}
theorem lev_toldB2 (w : World) (mean : ExcName → Option Value) (mg mb : Str → Option Value) (h : Fold a0 a1 a2 a3 q0 q1 q2 q3 p0 p1 p2 p3) (t1 t2 t3 : Tok) :
    Told w mean mg mb 28 [.str (S (List.drop (Int.toNat 1) (List.replicate (Int.toNat 41) 122 ++ wordS a0 a1 a2 a3 q0 q1 q2 q3))) t1, .str (S (List.take (Int.toNat 1) (wordS a0 a1 a2 a3 p0 p1 p2 p3) ++ wordS a0 a1 a2 a3 q0 q1 q2 q3)) t2, .int 80 t3] 2 2 (fun _ => True) (RetI 80) := by
  have e1 : List.drop (Int.toNat 1) (List.replicate (Int.toNat 41) 122 ++ wordS a0 a1 a2 a3 q0 q1 q2 q3) = List.replicate 40 122 ++ wordS a0 a1 a2 a3 q0 q1 q2 q3 := rfl
  have e2 : List.take (Int.toNat 1) (wordS a0 a1 a2 a3 p0 p1 p2 p3) ++ wordS a0 a1 a2 a3 q0 q1 q2 q3 = lt1 a0 p0 0 :: wordS a0 a1 a2 a3 q0 q1 q2 q3 := rfl
  rw [e1, e2]
  exact lev_toldB w mean mg mb h t1 t2 t3
theorem lev_toldC2 (w : World) (mean : ExcName → Option Value) (mg mb : Str → Option Value) (h : Fold a0 a1 a2 a3 q0 q1 q2 q3 p0 p1 p2 p3) {c : Int} (hc : 0 ≤ c) (t1 t2 t3 : Tok) :
    Told w mean mg mb 28 [.str (S (List.replicate (Int.toNat 41) 122 ++ wordS a0 a1 a2 a3 q0 q1 q2 q3)) t1, .str (S (List.take (Int.toNat 1) (wordS a0 a1 a2 a3 p0 p1 p2 p3) ++ wordS a0 a1 a2 a3 q0 q1 q2 q3)) t2, .int c t3] 2 2 (fun _ => True) (RetI (c + 1)) := by
  have e2 : List.take (Int.toNat 1) (wordS a0 a1 a2 a3 p0 p1 p2 p3) ++ wordS a0 a1 a2 a3 q0 q1 q2 q3 = lt1 a0 p0 0 :: wordS a0 a1 a2 a3 q0 q1 q2 q3 := rfl
  rw [e2]
  exact lev_toldC w mean mg mb h hc t1 t2 t3
theorem lev_toldD2 (w : World) (mean : ExcName → Option Value) (mg mb : Str → Option Value) (h : Fold a0 a1 a2 a3 q0 q1 q2 q3 p0 p1 p2 p3) {c : Int} (hc : 0 ≤ c) (t1 t2 t3 : Tok) :
    Told w mean mg mb 28 [.str (S (List.take (Int.toNat 1) (wordS a0 a1 a2 a3 p0 p1 p2 p3) ++ wordS a0 a1 a2 a3 q0 q1 q2 q3)) t1, .str (S (List.replicate (Int.toNat 41) 122 ++ wordS a0 a1 a2 a3 q0 q1 q2 q3)) t2, .int c t3] 2 2 (fun _ => True) (RetI (c + 1)) := by
  have e2 : List.take (Int.toNat 1) (wordS a0 a1 a2 a3 p0 p1 p2 p3) ++ wordS a0 a1 a2 a3 q0 q1 q2 q3 = lt1 a0 p0 0 :: wordS a0 a1 a2 a3 q0 q1 q2 q3 := rfl
  rw [e2]
  exact lev_toldD w mean mg mb h hc t1 t2 t3
theorem lev_toldE2 (w : World) (mean : ExcName → Option Value) (mg mb : Str → Option Value) (h : Fold a0 a1 a2 a3 q0 q1 q2 q3 p0 p1 p2 p3) (t1 t2 t3 : Tok) :
    Told w mean mg mb 28 [.str (S (wordS a0 a1 a2 a3 q0 q1 q2 q3 ++ [122])) t1, .str (S ([121] ++ wordS a0 a1 a2 a3 p0 p1 p2 p3)) t2, .int 10 t3] 2 2 (fun _ => True) (RetI (min (dist a0 a1 a2 a3 q0 q1 q2 q3 + 4) 10)) := lev_toldE w mean mg mb h t1 t2 t3
theorem lev_toldF2 (w : World) (mean : ExcName → Option Value) (mg mb : Str → Option Value) (h : Fold a0 a1 a2 a3 q0 q1 q2 q3 p0 p1 p2 p3) (t1 t2 t3 : Tok) :
    Told w mean mg mb 28 [.str (S ([121] ++ wordS a0 a1 a2 a3 p0 p1 p2 p3)) t1, .str (S (wordS a0 a1 a2 a3 q0 q1 q2 q3 ++ [122])) t2, .int 10 t3] 2 2 (fun _ => True) (RetI (min (dist a0 a1 a2 a3 q0 q1 q2 q3 + 4) 10)) := lev_toldF w mean mg mb h t1 t2 t3
/-- the last one, its numbers as the law draws them -/
theorem lev_toldG2 (w : World) (mean : ExcName → Option Value) (mg mb : Str → Option Value) (h : Fold a0 a1 a2 a3 q0 q1 q2 q3 p0 p1 p2 p3) {a m g c : Int} (a0' : 0 ≤ a) (a1' : a < 2) (m0 : 0 ≤ m) (m1 : m < 3) (g0 : 0 ≤ g) (g1 : g < 5) (hc : 0 ≤ c) (t1 t2 t3 : Tok) :
    Told w mean mg mb 28 [.str (S (List.replicate a.toNat 122 ++ List.take g.toNat (wordS a0 a1 a2 a3 q0 q1 q2 q3) ++ List.replicate m.toNat 122 ++ List.drop g.toNat (wordS a0 a1 a2 a3 q0 q1 q2 q3))) t1, .str (S (wordS a0 a1 a2 a3 p0 p1 p2 p3)) t2, .int c t3] 2 2 (fun _ => True) (RetB (dist a0 a1 a2 a3 q0 q1 q2 q3 + 2 * (a + m)) c) := by
  have h9 := lev_toldG w mean mg mb h (a := a.toNat) (m := m.toNat) (g := g.toNat) (by omega) (by omega) (by omega) hc t1 t2 t3
  have e : (((a.toNat : Nat) : Int) + ((m.toNat : Nat) : Int)) = a + m := by omega
  rw [e] at h9
  exact h9
end
section
variable {a0 a1 a2 a3 q0 q1 q2 q3 p0 p1 p2 p3 : Int}
theorem lev_toldE3 (w : World) (mean : ExcName → Option Value) (mg mb : Str → Option Value) (h : Fold a0 a1 a2 a3 q0 q1 q2 q3 p0 p1 p2 p3) (t1 t2 t3 : Tok) :
    Told w mean mg mb 28 [.str (S [lt1 a0 q0 0, lt1 a1 q1 1, lt1 a2 q2 2, lt1 a3 q3 3, 122]) t1, .str (S (121 :: wordS a0 a1 a2 a3 p0 p1 p2 p3)) t2, .int 10 t3] 2 2 (fun _ => True) (RetI (min (dist a0 a1 a2 a3 q0 q1 q2 q3 + 4) 10)) := lev_toldE w mean mg mb h t1 t2 t3
theorem lev_toldF3 (w : World) (mean : ExcName → Option Value) (mg mb : Str → Option Value) (h : Fold a0 a1 a2 a3 q0 q1 q2 q3 p0 p1 p2 p3) (t1 t2 t3 : Tok) :
    Told w mean mg mb 28 [.str (S (121 :: wordS a0 a1 a2 a3 p0 p1 p2 p3)) t1, .str (S [lt1 a0 q0 0, lt1 a1 q1 1, lt1 a2 q2 2, lt1 a3 q3 3, 122]) t2, .int 10 t3] 2 2 (fun _ => True) (RetI (min (dist a0 a1 a2 a3 q0 q1 q2 q3 + 4) 10)) := lev_toldF w mean mg mb h t1 t2 t3
end


theorem said16 : True := by
  k_with "call ref" => (k_here; (with_reducible show wpAny _ _ (call (Value.ref 28) [Value.str (S (wordS _ _ _ _ _ _ _ _)) _, Value.str (S (wordS _ _ _ _ _ _ _ _)) _, Value.int 8 _]) _ _ _); k_dflt (refine' told_use (lev_toldA _ _ _ _ ?hFz87  _ _ _) ?k1z87 ?k2z87 ?k3z87 ?k4z87 ?k5z87 ?kKz87 ?kpz87 ?kdz87 ?kuz87 ?_; (case hFz87 => first | (with_reducible assumption) | exact Fold.rest (by with_reducible assumption)); (case k1z87 => k_asm); (case k2z87 => k_asm); (case k3z87 => k_asm); (case k4z87 => k_asm); (case k5z87 => k_asm); (case kKz87 => first | exact rfl | assumption); (case kpz87 => trivial);  (case kdz87 => ktr_room); (case kuz87 => ktr_units)); intro t' h' tk' F' N'; (try dsimp only))
  k_with "call builtin:sum" => (k_here; (with_reducible show wpAny _ _ (call (Value.builtin "sum") [Value.ref _]) _ _ _); (rename CarriedAll _ (List.map PyData.int (List.filter _ _)) => hC9); (rename Fr _ _ _ _ => F'); (rename News _ _ _ _ => N'); k_dflt (refine sum_car (by rfl) F' N' (by with_reducible assumption) (ints_of_carried hC9) ?_); clear F' N' hC9; intro h' tk' t' F' N')
  k_with "compareOp NotEq int int" => ((with_reducible show wpAny _ _ (compareOp _ (Value.int (dist _ _ _ _ _ _ _ _) _) (Value.int (-List.sum _) _)) _ _ _); k_dflt (refine ne_same (dist_rest.trans neg_sum.symm) ?_))
  k_with "call builtin:sum" => (k_here; (with_reducible show wpAny _ _ (call (Value.builtin "sum") [Value.ref _]) _ _ _); (rename IntsAre _ (List.take _ (foldS _ _ _ _)) => hC9); (rename Fr _ _ _ _ => F'); (rename News _ _ _ _ => N'); k_dflt (refine sum_lst (by rfl) F' N' (.head _) rfl hC9 ?_); clear F' N' hC9; intro h' tk' t' F' N')
  k_with "compareOp NotEq int int" => ((with_reducible show wpAny _ _ (compareOp _ (Value.int (_ - _) _) (Value.int (List.sum (List.take _ _)) _)) _ _ _); k_dflt (refine ne_same (passed3 (by with_reducible assumption) (by with_reducible assumption) (by with_reducible assumption)) ?_))
  k_with "compareOp NotEq ref ref" => (k_here; (with_reducible show wpAny _ _ (compareOp _ (Value.ref _) (Value.ref _)) _ _ _); (rename Fr _ _ _ _ => F9); (rename News _ _ _ _ => N9); k_dflt (refine' ne_t3h ?Xz92 (no_shared _) F9.keep N9 ?haz92 ?hbz92 ?huz92 ?hkz92 ?h0z92 ?h1z92 ?hyz92 ?hzz92 ?t1z92 ?t2z92 ?t3z92 ?t4z92 ?t5z92 ?t6z92 ?_; (case Xz92 => k_asm); (case haz92 => k_mem); (case hbz92 => k_mem); (case huz92 => first | units_room | exact Nat.le_of_ble_eq_true rfl | ktr_units); (case hkz92 => exact way3 (by with_reducible assumption) (by with_reducible assumption) (by with_reducible assumption) (by with_reducible assumption)); (case h0z92 => omega); (case h1z92 => omega); (case hyz92 => with_reducible assumption); (case hzz92 => with_reducible assumption); (case t1z92 => with_reducible assumption); (case t2z92 => with_reducible assumption); (case t3z92 => with_reducible assumption); (case t4z92 => with_reducible assumption); (case t5z92 => with_reducible assumption); (case t6z92 => with_reducible assumption)))
  k_with "call ref" => (k_here; (with_reducible show wpAny _ _ (call (Value.ref 28) [Value.str (S (List.drop _ _)) _, Value.str (S (List.take _ _ ++ _)) _, Value.int 80 _]) _ _ _); k_dflt (refine' told_use (lev_toldB2 _ _ _ _ ?hFz93  _ _ _) ?k1z93 ?k2z93 ?k3z93 ?k4z93 ?k5z93 ?kKz93 ?kpz93 ?kdz93 ?kuz93 ?_; (case hFz93 => first | (with_reducible assumption) | exact Fold.rest (by with_reducible assumption)); (case k1z93 => k_asm); (case k2z93 => k_asm); (case k3z93 => k_asm); (case k4z93 => k_asm); (case k5z93 => k_asm); (case kKz93 => first | exact rfl | assumption); (case kpz93 => trivial);  (case kdz93 => ktr_room); (case kuz93 => ktr_units)); intro t' h' tk' F' N'; (try dsimp only))
  k_with "call ref" => (k_here; (with_reducible show wpAny _ _ (call (Value.ref 28) [Value.str (S (List.replicate _ _ ++ _)) _, Value.str (S (List.take _ _ ++ _)) _, Value.int _ _]) _ _ _); k_dflt (refine' told_use (lev_toldC2 _ _ _ _ ?hFz94 ?hcz94 _ _ _) ?k1z94 ?k2z94 ?k3z94 ?k4z94 ?k5z94 ?kKz94 ?kpz94 ?kdz94 ?kuz94 ?_; (case hFz94 => first | (with_reducible assumption) | exact Fold.rest (by with_reducible assumption)); (case k1z94 => k_asm); (case k2z94 => k_asm); (case k3z94 => k_asm); (case k4z94 => k_asm); (case k5z94 => k_asm); (case kKz94 => first | exact rfl | assumption); (case kpz94 => trivial); (case hcz94 => omega); (case kdz94 => ktr_room); (case kuz94 => ktr_units)); intro t' h' tk' F' N'; (try dsimp only))
  k_with "call ref" => (k_here; (with_reducible show wpAny _ _ (call (Value.ref 28) [Value.str (S (List.take _ _ ++ _)) _, Value.str (S (List.replicate _ _ ++ _)) _, Value.int _ _]) _ _ _); k_dflt (refine' told_use (lev_toldD2 _ _ _ _ ?hFz95 ?hcz95 _ _ _) ?k1z95 ?k2z95 ?k3z95 ?k4z95 ?k5z95 ?kKz95 ?kpz95 ?kdz95 ?kuz95 ?_; (case hFz95 => first | (with_reducible assumption) | exact Fold.rest (by with_reducible assumption)); (case k1z95 => k_asm); (case k2z95 => k_asm); (case k3z95 => k_asm); (case k4z95 => k_asm); (case k5z95 => k_asm); (case kKz95 => first | exact rfl | assumption); (case kpz95 => trivial); (case hcz95 => omega); (case kdz95 => ktr_room); (case kuz95 => ktr_units)); intro t' h' tk' F' N'; (try dsimp only))
  k_with "call ref" => (k_here; (with_reducible show wpAny _ _ (call (Value.ref 28) [Value.str (S [_, _, _, _, _]) _, Value.str (S (_ :: wordS _ _ _ _ _ _ _ _)) _, Value.int 10 _]) _ _ _); k_dflt (refine' told_use (lev_toldE3 _ _ _ _ ?hFz96  _ _ _) ?k1z96 ?k2z96 ?k3z96 ?k4z96 ?k5z96 ?kKz96 ?kpz96 ?kdz96 ?kuz96 ?_; (case hFz96 => first | (with_reducible assumption) | exact Fold.rest (by with_reducible assumption)); (case k1z96 => k_asm); (case k2z96 => k_asm); (case k3z96 => k_asm); (case k4z96 => k_asm); (case k5z96 => k_asm); (case kKz96 => first | exact rfl | assumption); (case kpz96 => trivial);  (case kdz96 => ktr_room); (case kuz96 => ktr_units)); intro t' h' tk' F' N'; (try dsimp only))
  k_with "call ref" => (k_here; (with_reducible show wpAny _ _ (call (Value.ref 28) [Value.str (S (_ :: wordS _ _ _ _ _ _ _ _)) _, Value.str (S [_, _, _, _, _]) _, Value.int 10 _]) _ _ _); k_dflt (refine' told_use (lev_toldF3 _ _ _ _ ?hFz97  _ _ _) ?k1z97 ?k2z97 ?k3z97 ?k4z97 ?k5z97 ?kKz97 ?kpz97 ?kdz97 ?kuz97 ?_; (case hFz97 => first | (with_reducible assumption) | exact Fold.rest (by with_reducible assumption)); (case k1z97 => k_asm); (case k2z97 => k_asm); (case k3z97 => k_asm); (case k4z97 => k_asm); (case k5z97 => k_asm); (case kKz97 => first | exact rfl | assumption); (case kpz97 => trivial);  (case kdz97 => ktr_room); (case kuz97 => ktr_units)); intro t' h' tk' F' N'; (try dsimp only))
  k_with "call ref" => (k_here; (with_reducible show wpAny _ _ (call (Value.ref 28) [Value.str (S (_ ++ List.drop _ _)) _, Value.str (S (wordS _ _ _ _ _ _ _ _)) _, Value.int _ _]) _ _ _); k_dflt (refine' told_use (lev_toldG2 _ _ _ _ ?hFz98 ?g1z98 ?g2z98 ?g3z98 ?g4z98 ?g5z98 ?g6z98 ?g7z98 _ _ _) ?k1z98 ?k2z98 ?k3z98 ?k4z98 ?k5z98 ?kKz98 ?kpz98 ?kdz98 ?kuz98 ?_; (case hFz98 => first | (with_reducible assumption) | exact Fold.rest (by with_reducible assumption)); (case k1z98 => k_asm); (case k2z98 => k_asm); (case k3z98 => k_asm); (case k4z98 => k_asm); (case k5z98 => k_asm); (case kKz98 => first | exact rfl | assumption); (case kpz98 => trivial); (case g1z98 => omega); (case g2z98 => omega); (case g3z98 => omega); (case g4z98 => omega); (case g5z98 => omega); (case g6z98 => omega); (case g7z98 => omega); (case kdz98 => ktr_room); (case kuz98 => ktr_units)); intro v' t' h' tk' hv1 hv2 F' N'; (try dsimp only))
  k_with "compareOp NotEq int int" => ((with_reducible show wpAny _ _ (compareOp _ (Value.int 80 _) (Value.int 80 _)) _ _ _); k_dflt (refine ne_same rfl ?_))
  k_with "compareOp NotEq int int" => ((with_reducible show wpAny _ _ (compareOp _ (Value.int (82 + _ + 1) _) (Value.int (83 + _) _)) _ _ _); k_dflt (refine ne_same (by omega) ?_))
  k_with "call ref" => (k_here; (with_reducible show wpAny _ _ (call (Value.ref 28) [Value.str (S (ite _ _ _)) _, Value.str (S (ite _ _ _)) _, Value.int 10 _]) _ _ _); k_dflt (refine' told_use (lev_toldH _ _ _ _ ?hFz101 ?g0z101 ?g1z101 _ _ _) ?k1z101 ?k2z101 ?k3z101 ?k4z101 ?k5z101 ?kKz101 ?kpz101 ?kdz101 ?kuz101 ?_; (case hFz101 => first | (with_reducible assumption) | exact Fold.rest (by with_reducible assumption)); (case k1z101 => k_asm); (case k2z101 => k_asm); (case k3z101 => k_asm); (case k4z101 => k_asm); (case k5z101 => k_asm); (case kKz101 => first | exact rfl | assumption); (case kpz101 => trivial); (case g0z101 => with_reducible assumption); (case g1z101 => with_reducible assumption);  (case kdz101 => ktr_room); (case kuz101 => ktr_units)); intro t' h' tk' F' N'; (try dsimp only))
  k_with "subscriptTail" => ((with_reducible show wpAny _ _ (subscriptTail (Expr.Name (Str.ofString "ends") _) _ (Value.ref _) (Value.int _ _)) _ _ _); (rename News _ _ _ _ => N9); k_dflt (refine menu2 N9 (.head _) (by omega) (by omega) ?_); intro n9)
  k_with "execs cons" => (k_here; (with_reducible show wpAny _ _ (execs ((Stmt.Assign [Expr.Tuple [Expr.Name (Str.ofString "place") _, Expr.Name (Str.ofString "start") _] _ _] _ _) :: _) _) _ _ _); (fail_if_success (rename Mark 1 => mk9)); (rename Fr _ _ _ _ => F9); (rename News _ _ _ _ => N9); (rename Shared.gens _ = #[] => hg9); k_dflt (refine trimG0 hg9  F9 N9 rfl (frO_id rfl)  ledA_sub ?_); clear F9 N9; (have mk9 := mark 1); intro m9 h9 tk9 F9 N9)
  k_with "execs cons" => (k_here; (with_reducible show wpAny _ _ (execs ((Stmt.Assign [Expr.Name (Str.ofString "creases") _] _ _) :: _) _) _ _ _); (fail_if_success (rename Mark 2 => mk9)); (rename Fr _ _ _ _ => F9); (rename News _ _ _ _ => N9); (rename Shared.gens _ = #[] => hg9); k_dflt (refine trimG1 hg9 (x1 := Str.ofString "end") F9 N9 rfl (frA_id rfl rfl rfl rfl rfl) rfl (fun _ hp => .tail _ (.tail _ (.tail _ hp))) ?_); clear F9 N9; (have mk9 := mark 2); intro m9 h9 tk9 F9 N9)
  k_with "execs cons" => (k_here; (with_reducible show wpAny _ _ (execs ((Stmt.Assign [Expr.Name (Str.ofString "left") _] _ _) :: _) _) _ _ _); (fail_if_success (rename Mark 3 => mk9)); (rename Fr _ _ _ _ => F9); (rename News _ _ _ _ => N9); (rename Shared.gens _ = #[] => hg9); k_dflt (refine trimG1 hg9 (x1 := Str.ofString "end") F9 N9 rfl (frB_id rfl rfl rfl rfl rfl rfl rfl) rfl (fun _ hp => hp) ?_); clear F9 N9; (have mk9 := mark 3); intro m9 h9 tk9 F9 N9)
  k_with "execs cons" => (k_here; (with_reducible show wpAny _ _ (execs ((Stmt.Assign [Expr.Name (Str.ofString "rest") _] _ _) :: _) _) _ _ _); (fail_if_success (rename Mark 5 => mk9)); (rename Fr _ _ _ _ => F9); (rename News _ _ _ _ => N9); (rename Shared.gens _ = #[] => hg9); k_dflt (refine trimG0 hg9  F9 N9 rfl (frB_id rfl rfl rfl rfl rfl rfl rfl)  (fun _ hp => hp) ?_); clear F9 N9; (have mk9 := mark 5); intro m9 h9 tk9 F9 N9)
  k_with "execs cons" => (k_here; (with_reducible show wpAny _ _ (execs ((Stmt.Assign [Expr.Name (Str.ofString "right") _] _ _) :: _) _) _ _ _); (fail_if_success (rename Mark 6 => mk9)); (rename Fr _ _ _ _ => F9); (rename News _ _ _ _ => N9); (rename Shared.gens _ = #[] => hg9); k_dflt (refine trimG1 hg9 (x1 := Str.ofString "rest") F9 N9 rfl (frB_id rfl rfl rfl rfl rfl rfl rfl) rfl (fun _ hp => .tail _ hp) ?_); clear F9 N9; (have mk9 := mark 6); intro m9 h9 tk9 F9 N9)
  k_with "execs cons" => (k_here; (with_reducible show wpAny _ _ (execs ((Stmt.Assign [Expr.Name (Str.ofString "now") _] _ _) :: _) _) _ _ _); (fail_if_success (rename Mark 7 => mk9)); (rename Fr _ _ _ _ => F9); (rename News _ _ _ _ => N9); (rename Shared.gens _ = #[] => hg9); k_dflt (refine trimG2 hg9 (x1 := Str.ofString "right") (x2 := Str.ofString "rest") F9 N9 rfl (frB_id rfl rfl rfl rfl rfl rfl rfl) rfl rfl (fun _ hp => .tail _ hp) ?_); clear F9 N9; (have mk9 := mark 7); intro m9 h9 tk9 F9 N9)
  k_with "execs cons" => (k_here; (with_reducible show wpAny _ _ (execs ((Stmt.Assign [Expr.Name (Str.ofString "before") _] _ _) :: _) _) _ _ _); (fail_if_success (rename Mark 8 => mk9)); (rename Fr _ _ _ _ => F9); (rename News _ _ _ _ => N9); (rename Shared.gens _ = #[] => hg9); k_dflt (refine trimQ hg9 (x1 := Str.ofString "now") (x2 := Str.ofString "right") (x3 := Str.ofString "rest") (x4 := Str.ofString "angles") (x5 := Str.ofString "creases") (x6 := Str.ofString "colour") (x7 := Str.ofString "share") (x8 := Str.ofString "value") (x9 := Str.ofString "start") (x10 := Str.ofString "place") F9 N9 rfl rfl rfl rfl rfl rfl rfl rfl rfl rfl rfl (sub_cons (.tail _ (.tail _ (.head _))) (sub_cons (.tail _ (.tail _ (.tail _ (.head _)))) (sub_cons (.tail _ (.tail _ (.tail _ (.tail _ (.head _))))) (sub_cons (.tail _ (.tail _ (.tail _ (.tail _ (.tail _ (.head _)))))) (sub_cons (.tail _ (.tail _ (.tail _ (.tail _ (.tail _ (.tail _ (.tail _ (.head _)))))))) sub_nil))))) rfl (by with_reducible assumption) (by with_reducible assumption) (by with_reducible assumption) (by with_reducible assumption) (by with_reducible assumption) (by with_reducible assumption) (by with_reducible assumption) (by with_reducible assumption) ?_); clear F9 N9; (have mk9 := mark 8); intro q0 q1 q2 q3 hq9 hF9 m9 h9 tk9 F9 N9)
  k_with "execs cons" => (k_here; (with_reducible show wpAny _ _ (execs ((Stmt.If (Expr.Compare (Expr.Name (Str.ofString "before") _) _ _ _) _ _ _) :: _) _) _ _ _); (fail_if_success (rename Mark 14 => mk9)); (rename Fr _ _ _ _ => F9); (rename News _ _ _ _ => N9); (rename Shared.gens _ = #[] => hg9); k_dflt (refine trimH11 hg9 (x1 := Str.ofString "before") (x2 := Str.ofString "after") (x3 := Str.ofString "now") (x4 := Str.ofString "right") (x5 := Str.ofString "angles") (x6 := Str.ofString "creases") (x7 := Str.ofString "colour") (x8 := Str.ofString "share") (x9 := Str.ofString "value") (x10 := Str.ofString "start") (x11 := Str.ofString "place") F9 N9 rfl rfl rfl rfl rfl rfl rfl rfl rfl rfl rfl rfl (sub_cons (.head _) (sub_cons (.tail _ (.head _)) (sub_cons (.tail _ (.tail _ (.head _))) (sub_cons (.tail _ (.tail _ (.tail _ (.head _)))) (sub_cons (.tail _ (.tail _ (.tail _ (.tail _ (.head _))))) sub_nil))))) ?_); clear F9 N9; (have mk9 := mark 14); intro m9 h9 tk9 F9 N9)
  k_with "execs cons" => (k_here; (with_reducible show wpAny _ _ (execs ((Stmt.Assign [Expr.Tuple [Expr.Name (Str.ofString "ahead") _, _, _, _] _ _] _ _) :: _) _) _ _ _); (fail_if_success (rename Mark 9 => mk9)); (rename Fr _ _ _ _ => F9); (rename News _ _ _ _ => N9); (rename Shared.gens _ = #[] => hg9); k_dflt (refine trimH4 hg9 (x1 := Str.ofString "before") (x2 := Str.ofString "after") (x3 := Str.ofString "now") (x4 := Str.ofString "right") F9 N9 rfl rfl rfl rfl rfl (sub_cons (.tail _ (.tail _ (.tail _ (.tail _ (.tail _ (.tail _ (.head _))))))) (sub_cons (.tail _ (.tail _ (.tail _ (.tail _ (.tail _ (.tail _ (.tail _ (.head _)))))))) sub_nil)) ?_); clear F9 N9; (have mk9 := mark 9); intro m9 h9 tk9 F9 N9)
  k_with "execs cons" => (k_here; (with_reducible show wpAny _ _ (execs ((Stmt.Assign [Expr.Tuple [Expr.Name (Str.ofString "few") _, _] _ _] _ _) :: _) _) _ _ _); (fail_if_success (rename Mark 10 => mk9)); (rename Fr _ _ _ _ => F9); (rename News _ _ _ _ => N9); (rename Shared.gens _ = #[] => hg9); k_dflt (refine trimH8 hg9 (x1 := Str.ofString "before") (x2 := Str.ofString "after") (x3 := Str.ofString "now") (x4 := Str.ofString "right") (x5 := Str.ofString "ahead") (x6 := Str.ofString "more") (x7 := Str.ofString "gap") (x8 := Str.ofString "bound") F9 N9 rfl rfl rfl rfl rfl rfl rfl rfl rfl sub_nil ?_); clear F9 N9; (have mk9 := mark 10); intro m9 h9 tk9 F9 N9)
  k_with "execs cons" => (k_here; (with_reducible show wpAny _ _ (execs ((Stmt.Assign [Expr.Name (Str.ofString "ends") _] _ _) :: _) _) _ _ _); (fail_if_success (rename Mark 11 => mk9)); (rename Fr _ _ _ _ => F9); (rename News _ _ _ _ => N9); (rename Shared.gens _ = #[] => hg9); k_dflt (refine trimH8 hg9 (x1 := Str.ofString "before") (x2 := Str.ofString "after") (x3 := Str.ofString "now") (x4 := Str.ofString "right") (x5 := Str.ofString "ahead") (x6 := Str.ofString "more") (x7 := Str.ofString "gap") (x8 := Str.ofString "bound") F9 N9 rfl rfl rfl rfl rfl rfl rfl rfl rfl sub_nil ?_); clear F9 N9; (have mk9 := mark 11); intro m9 h9 tk9 F9 N9)
  k_with "execs cons" => (k_here; (with_reducible show wpAny _ _ (execs ((Stmt.Assign [Expr.Name (Str.ofString "due") _] _ _) :: _) _) _ _ _); (fail_if_success (rename Mark 12 => mk9)); (rename Fr _ _ _ _ => F9); (rename News _ _ _ _ => N9); (rename Shared.gens _ = #[] => hg9); k_dflt (refine trimH8 hg9 (x1 := Str.ofString "before") (x2 := Str.ofString "after") (x3 := Str.ofString "now") (x4 := Str.ofString "right") (x5 := Str.ofString "ahead") (x6 := Str.ofString "more") (x7 := Str.ofString "gap") (x8 := Str.ofString "bound") F9 N9 rfl rfl rfl rfl rfl rfl rfl rfl rfl sub_nil ?_); clear F9 N9; (have mk9 := mark 12); intro m9 h9 tk9 F9 N9)
  k_with "execs cons" => (k_here; (with_reducible show wpAny _ _ (execs ((Stmt.Assign [Expr.Name (Str.ofString "told") _] _ _) :: _) _) _ _ _); (fail_if_success (rename Mark 13 => mk9)); (rename Fr _ _ _ _ => F9); (rename News _ _ _ _ => N9); (rename Shared.gens _ = #[] => hg9); k_dflt (refine trimH9 hg9 (x1 := Str.ofString "due") (x2 := Str.ofString "before") (x3 := Str.ofString "after") (x4 := Str.ofString "now") (x5 := Str.ofString "right") (x6 := Str.ofString "ahead") (x7 := Str.ofString "more") (x8 := Str.ofString "gap") (x9 := Str.ofString "bound") F9 N9 rfl rfl rfl rfl rfl rfl rfl rfl rfl rfl sub_nil ?_); clear F9 N9; (have mk9 := mark 13); intro m9 h9 tk9 F9 N9)
  trivial
set_option maxRecDepth 100000 in
set_option maxHeartbeats 40000000 in
theorem law_holds : PySem.Challenge.rw_to0010_02.Holds := Mine.hd (by
  k_go0
  (all_goals try k_fold)
  k_steps
  all_goals (try k_data))
end
theorem said17 : True := by
  k_with_none
  k_with "subscriptTail Name Slice str ref" => ((with_reducible show wpAny _ _ (subscriptTail _ (Expr.Slice (some _) none none _) (Value.str (S _) _) _) _ _ _); (with_reducible rename Fr _ _ _ _ => F'); (with_reducible rename News _ _ _ _ => N'); (refine sS_from (s := ⟨_, _, _, _, _⟩) F' N' (by (try simp only [List.length_drop, List.length_take, List.length_cons, List.length_nil, List.length_append, List.length_replicate]); omega) (by omega) ?_); intro _ _ _ _ _)
  k_with "subscriptTail Name Slice str ref" => ((with_reducible show wpAny _ _ (subscriptTail _ (Expr.Slice none (some _) none _) (Value.str (S _) _) _) _ _ _); (with_reducible rename Fr _ _ _ _ => F'); (with_reducible rename News _ _ _ _ => N'); (first | (refine sS_nn (s := ⟨_, _, _, _, _⟩) F' N' (by (try simp only [List.length_drop, List.length_take, List.length_cons, List.length_nil, List.length_append, List.length_replicate]); omega) ?_) | (refine sS_to (s := ⟨_, _, _, _, _⟩) F' N' (by (try simp only [List.length_drop, List.length_take, List.length_cons, List.length_nil, List.length_append, List.length_replicate]); omega) (by omega) (by (try simp only [List.length_drop, List.length_take, List.length_cons, List.length_nil, List.length_append, List.length_replicate]); omega) ?_) | (refine sS_toneg (s := ⟨_, _, _, _, _⟩) F' N' (by (try simp only [List.length_drop, List.length_take, List.length_cons, List.length_nil, List.length_append, List.length_replicate]); omega) (by omega) (by (try simp only [List.length_drop, List.length_take, List.length_cons, List.length_nil, List.length_append, List.length_replicate]); omega) ?_)); intro _ _ _ _ _)
  k_with "subscriptTail Name Name str int" => ((with_reducible show wpAny _ _ (subscriptTail _ _ (Value.str (S _) _) _) _ _ _); (refine sS_at (by (try simp only [List.length_drop, List.length_take, List.length_cons, List.length_nil, List.length_append, List.length_replicate]); omega) (by omega) (by (try simp only [List.length_drop, List.length_take, List.length_cons, List.length_nil, List.length_append, List.length_replicate]); omega) ?_))
  k_with "subscriptTail Name BinOp str int" => ((with_reducible show wpAny _ _ (subscriptTail _ _ (Value.str (S _) _) _) _ _ _); (first | (refine sS_at (by (try simp only [List.length_drop, List.length_take, List.length_cons, List.length_nil, List.length_append, List.length_replicate]); omega) (by omega) (by (try simp only [List.length_drop, List.length_take, List.length_cons, List.length_nil, List.length_append, List.length_replicate]); omega) ?_) | (refine sS_atneg (by (try simp only [List.length_drop, List.length_take, List.length_cons, List.length_nil, List.length_append, List.length_replicate]); omega) (by omega) (by (try simp only [List.length_drop, List.length_take, List.length_cons, List.length_nil, List.length_append, List.length_replicate]); omega) ?_)))
  k_with "compareOp Eq str str" => ((with_reducible show wpAny _ _ (compareOp _ (Value.str (S _) _) (Value.str (S _) _)) _ _ _); refine sS_eq ?_)
  k_with "compareOp NotEq str str" => ((with_reducible show wpAny _ _ (compareOp _ (Value.str (S _) _) (Value.str (S _) _)) _ _ _); refine sS_ne ?_)
  k_with "call builtin:len" => ((with_reducible show wpAny _ _ (call _ [Value.str (S _) _]) _ _ _); refine sS_len (by (try simp only [List.length_drop, List.length_take, List.length_cons, List.length_nil, List.length_append, List.length_replicate]); omega) ?_)
  k_with "truthy str" => ((with_reducible show wpAny _ _ (PySem.truthy (Value.str (S _) _)) _ _ _); (first | ((with_reducible show wpAny _ _ (PySem.truthy (Value.str (S (List.drop _ _)) _)) _ _ _); refine sS_truthy_drop (by omega) (by omega) ?_) | ((with_reducible show wpAny _ _ (PySem.truthy (Value.str (S (List.take _ _)) _)) _ _ _); refine sS_truthy_take (by omega) (by omega) (by omega) ?_) | refine sS_truthy (by (try simp only [List.length_drop, List.length_take, List.length_cons, List.length_nil, List.length_append, List.length_replicate]); omega) ?_))
  k_with "binaryOp Add str str" => ((with_reducible show wpAny _ _ (binaryOp _ (Value.str (S _) _) (Value.str (S _) _)) _ _ _); refine sS_add (by (try simp only [List.length_drop, List.length_take, List.length_cons, List.length_nil, List.length_append, List.length_replicate]); omega) (by (try simp only [List.length_drop, List.length_take, List.length_cons, List.length_nil, List.length_append, List.length_replicate]); omega) ?_; intro _ _)
  trivial
end
theorem said18 : True := by
  k_with_none
  trivial
end Mine
theorem PySem.Challenge.cw_to0010_02_holds : PySem.Challenge.rw_to0010_02.Holds :=
  Mine.law_holds
